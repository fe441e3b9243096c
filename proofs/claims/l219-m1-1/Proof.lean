import JvmDerived
import JvmDerived.Pilot.@@N@@Statement
import JvmDerived.Pilot.@@N@@Code
set_option linter.unusedVariables false
set_option linter.unusedSimpArgs false
namespace Jvm.RoadKit
open Sem ClassFile Op Lib Jvm.Stand Jvm.Free Jvm.LawKit
section New
variable {p : Program} {l : Launch} {e : Env} {R : Room} {s : State} {m : MethodId} {args : Array Value} {below : List Frame} {meth : Method} {c : Code} {T : State} {locs : List Loc} {cells slots : Nat}
theorem retI (X : Stand p l e R s m args below meth c T locs cells slots) (hx : p.tables.exec = Jvm.exec) {pc : Nat} {Ls : Array Slot} {z : Int32} {rest : List Value} (hret : meth.sig.returnType = some .int) (hd : decode c.code pc = .ok (.ireturn, 1)) {fs : List Frame}
    (hl : ∀ (f : JFrame) (acts : List Action), f.method = m → f.locked = none → f.entered = [] → (doReturn e (T.setTop f) acts (some (.int z))).1 = T.setFrames fs) : Steps p.tables e below (T.setTop (mkF m pc Ls (.int z :: rest))) (T.setFrames fs) := by
  have hm' : T.vm.method? m = some meth := X.method'
  have hn : narrow .int (.int z) = .int z := rfl
  show Steps p.tables e below (T.setTop { method := m, pc := pc, locals := Ls, stack := _ :: rest, locked := none }) _
  jvm_step X.here [X.here.top, hx, hd, hm', hret, hn]
  first | (intro acts; rw [hl _ acts rfl rfl rfl]) | rw [hl _ _ rfl rfl rfl]
  exact Steps.refl _
end New
end Jvm.RoadKit
namespace Jvm.Pilot.@@N@@
open Jvm Jvm.ClassFile Sem Op Lib Jvm.Free Jvm.Stand Jvm.LawKit Jvm.RoadKit Bundle Jvm.Pilot.@@N@@.Jvm.D
/-! the goals of a walk, and what closes them -/
def OEnd (p : Program) (e : Env) (below : List Frame) (s T : State) (g : JFrame) (Q : Option Value → Heap → List Loc → Prop) (kc ks : Nat) : Prop :=
  ∃ s₂ o, Steps p.tables e below (T.setTop g) s₂ ∧ s₂.status = .running ∧ Ended s₂ below o ∧ ∃ v L, o = .returned v ∧ Q v s₂.heap L ∧ FrameEnd s o s₂ L kc ks
def ORch (p : Program) (l : Launch) (e : Env) (R : Room) (s : State) (m : MethodId) (args : Array Value) (below : List Frame) (meth : Method) (c : Code) (n0 : Nat) (T : State) (g : JFrame) (h : Heap) (g' : JFrame) (cells slots : Nat) : Prop :=
  ∃ T' locs', Stand p l e R s m args below meth c T' locs' cells slots ∧ T'.heap = h ∧ Fr n0 locs' ∧ Goes p e below T g T' g'
def OArr (Z : State) (h : Heap) (a : Addr) (ty : FieldType) (n : Int32) (vs : List Value) (d : Value) : Prop := ∃ k, Arv Z h a k ty n vs d
def ORchH (p : Program) (l : Launch) (e : Env) (R : Room) (s : State) (m : MethodId) (args : Array Value) (below : List Frame) (meth : Method) (c : Code) (n0 : Nat) (T : State) (g : JFrame) (g' : JFrame) (cells slots : Nat) (P : Heap → Prop) : Prop :=
  ∃ T' h' locs', Stand p l e R s m args below meth c T' locs' cells slots ∧ T'.heap = h' ∧ Fr n0 locs' ∧ P h' ∧ Goes p e below T g T' g'
def ORchB (p : Program) (l : Launch) (e : Env) (R : Room) (s : State) (m : MethodId) (args : Array Value) (below : List Frame) (meth : Method) (c : Code) (n0 : Nat) (T : State) (g : JFrame) (g' : Addr → JFrame) (cells slots : Nat) (P : Heap → Addr → Prop) : Prop :=
  ∃ b T' h' locs', Stand p l e R s m args below meth c T' locs' cells slots ∧ T'.heap = h' ∧ Fr n0 locs' ∧ P h' b ∧ Goes p e below T g T' (g' b)
section Own
variable {p : Program} {l : Launch} {e : Env} {R : Room} {s : State} {m : MethodId} {args : Array Value} {below : List Frame} {meth : Method} {c : Code} {T T' : State} {locs : List Loc} {cells slots : Nat} {g g' g'' : JFrame} {Q : Option Value → Heap → List Loc → Prop} {kc ks : Nat}
theorem OEnd.go (k : Goes p e below T g T' g') (h : OEnd p e below s T' g' Q kc ks) : OEnd p e below s T g Q kc ks := by
  obtain ⟨s₂, o, h1, h2⟩ := h
  exact ⟨s₂, o, k _ h1, h2⟩
theorem ORch.go {n0 : Nat} {h : Heap} (k : Goes p e below T g T' g') (q : ORch p l e R s m args below meth c n0 T' g' h g'' cells slots) : ORch p l e R s m args below meth c n0 T g h g'' cells slots := by
  obtain ⟨T2, L2, h1, h2, h3, h4⟩ := q
  exact ⟨T2, L2, h1, h2, h3, fun t kt => k _ (h4 t kt)⟩
theorem ORchH.go {n0 : Nat} {P : Heap → Prop} (k : Goes p e below T g T' g') (q : ORchH p l e R s m args below meth c n0 T' g' g'' cells slots P) : ORchH p l e R s m args below meth c n0 T g g'' cells slots P := by
  obtain ⟨T2, h2, L2, h1, h2, h3, h4, h5⟩ := q
  exact ⟨T2, _, L2, h1, h2, h3, h4, fun t kt => k _ (h5 t kt)⟩
theorem ORchB.go {n0 : Nat} {P : Heap → Addr → Prop} {gb : Addr → JFrame} (k : Goes p e below T g T' g') (q : ORchB p l e R s m args below meth c n0 T' g' gb cells slots P) : ORchB p l e R s m args below meth c n0 T g gb cells slots P := by
  obtain ⟨b, T2, h2, L2, h1, h2, h3, h4, h5⟩ := q
  exact ⟨b, T2, _, L2, h1, h2, h3, h4, fun t kt => k _ (h5 t kt)⟩
theorem SGo.go {t : State} (k : Goes p e below T g T' g') (h : Steps p.tables e below (T'.setTop g') t) : Steps p.tables e below (T.setTop g) t := k _ h
theorem own_k {A : Type} {tb : Tables} {f : A → JFrame} {a b : A} {t : State} (q : a = b) (k : Steps tb e below (T.setTop (f a)) t) : Steps tb e below (T.setTop (f b)) t := q ▸ k
theorem own_symm {A : Type} {a b : A} (h : a = b) : b = a := h.symm
theorem own_via {A : Type} {a b c : A} (h : a = b) (k : a = c) : b = c := h.symm.trans k
theorem own_p {A : Type} {P : A → Prop} {a b : A} (q : a = b) (w : P a) : P b := q ▸ w
theorem own_at {h : Heap} {U : Heap} (q : U = h) {P : Heap → Prop} (w : P h) : P U := q ▸ w
theorem OArr.lt {Z : State} {h : Heap} {a : Addr} {ty : FieldType} {n : Int32} {vs : List Value} {d : Value} (F : OArr Z h a ty n vs d) : a < h.size := by obtain ⟨k, V⟩ := F; exact V.lt
theorem OArr.ext {Z : State} {h h' : Heap} {a : Addr} {ty : FieldType} {n : Int32} {vs : List Value} {d : Value} (F : OArr Z h a ty n vs d) (E : Ext h h') : OArr Z h' a ty n vs d := by obtain ⟨k, V⟩ := F; exact ⟨k, V.ext E⟩
theorem OArr.other {Z : State} {h h' : Heap} {a b : Addr} {ty : FieldType} {n : Int32} {vs : List Value} {d v : Value} {sl : Nat} (F : OArr Z h b ty n vs d) (W : Wr h h' a sl v) (q : b ≠ a) : OArr Z h' b ty n vs d := by obtain ⟨k, V⟩ := F; exact ⟨k, V.other W q⟩
theorem OArr.keep {Z : State} {h h' : Heap} {a : Addr} {ty : FieldType} {n : Int32} {vs : List Value} {d : Value} {ws : List Addr} (F : OArr Z h a ty n vs d) (K : Keep h h' ws) (q : a ∉ ws) : OArr Z h' a ty n vs d := by obtain ⟨k, V⟩ := F; exact ⟨k, V.keep K q⟩
theorem OEnd.int (X : Stand p l e R s m args below meth c T locs cells slots) (hx : p.tables.exec = Jvm.exec) {pc : Nat} {Ls : Array Slot} {z : Int32} {rest : List Value} (hret : meth.sig.returnType = some .int) (hlk : meth.locks = false) (hd : decode c.code pc = .ok (.ireturn, 1)) (hq : Q (some (.int z)) T.heap locs) (hc : cells ≤ kc) (hs : slots ≤ ks) :
    OEnd p e below s T (mkF m pc Ls (.int z :: rest)) Q kc ks := by
  obtain ⟨fs, hr, hrun, hended, hW, hsame⟩ := X.leave (v := some (.int z)) (fun h => by rw [hret] at h; cases h) hlk
  exact ⟨_, _, retI X hx hret hd hr, hrun, hended, _, _, rfl, hq, ⟨_, rfl⟩, hW, hsame.mono hc hs⟩
theorem OEnd.nar (X : Stand p l e R s m args below meth c T locs cells slots) (hx : p.tables.exec = Jvm.exec) {pc : Nat} {Ls : Array Slot} {z : Int32} {rest : List Value} {t : FieldType} (hret : meth.sig.returnType = some t) (ht : t = .boolean ∨ t = .byte ∨ t = .char ∨ t = .short) (hlk : meth.locks = false) (hd : decode c.code pc = .ok (.ireturn, 1)) (hq : Q (some (.int (nar t z))) T.heap locs) (hc : cells ≤ kc) (hs : slots ≤ ks) :
    OEnd p e below s T (mkF m pc Ls (.int z :: rest)) Q kc ks := by
  obtain ⟨fs, hr, hrun, hended, hW, hsame⟩ := X.leave (v := some (.int (RoadKit.nar t z))) (fun h => by rw [hret] at h; cases h) hlk
  exact ⟨_, _, retN X hx hret ht hd hr, hrun, hended, _, _, rfl, hq, ⟨_, rfl⟩, hW, hsame.mono hc hs⟩
theorem OEnd.long (X : Stand p l e R s m args below meth c T locs cells slots) (hx : p.tables.exec = Jvm.exec) {pc : Nat} {Ls : Array Slot} {z : Int64} (hret : meth.sig.returnType = some .long) (hlk : meth.locks = false) (hd : decode c.code pc = .ok (.lreturn, 1)) (hq : Q (some (.long z)) T.heap locs) (hc : cells ≤ kc) (hs : slots ≤ ks) :
    OEnd p e below s T (mkF m pc Ls [.long z]) Q kc ks := by
  obtain ⟨fs, hr, hrun, hended, hW, hsame⟩ := X.leave (v := some (.long z)) (fun h => by rw [hret] at h; cases h) hlk
  exact ⟨_, _, X.lreturnOut hx hret hd hr, hrun, hended, _, _, rfl, hq, ⟨_, rfl⟩, hW, hsame.mono hc hs⟩
theorem OEnd.void (X : Stand p l e R s m args below meth c T locs cells slots) (hx : p.tables.exec = Jvm.exec) {pc : Nat} {Ls : Array Slot} (hret : meth.sig.returnType = none) (hlk : meth.locks = false) (hd : decode c.code pc = .ok (.return_, 1)) (hq : Q none T.heap locs) (hc : cells ≤ kc) (hs : slots ≤ ks) :
    OEnd p e below s T (mkF m pc Ls []) Q kc ks := by
  obtain ⟨fs, hr, hrun, hended, hW, hsame⟩ := X.leave (v := none) (fun _ => rfl) hlk
  exact ⟨_, _, X.returnOut hx hret hd hr, hrun, hended, _, _, rfl, hq, ⟨_, rfl⟩, hW, hsame.mono hc hs⟩
end Own
theorem own_head {A : Type} {l r : List A} {x : A} {i : Nat} (h : l.drop i = x :: r) : l[i]? = some x := by
  have q : (l.drop i)[0]? = some x := by rw [h]; rfl
  rw [List.getElem?_drop] at q
  exact q
theorem own_tail {A : Type} {l r : List A} {x : A} {i : Nat} (h : l.drop i = x :: r) : l.drop (i + 1) = r := by
  have q : (l.drop i).drop 1 = r := by rw [h]; rfl
  rw [List.drop_drop] at q
  exact q
theorem own_lenlt {A : Type} {l r : List A} {x : A} {i : Nat} (h : l.drop i = x :: r) : i < l.length := by
  have q := own_head h
  exact (List.getElem?_eq_some_iff.mp q).1
theorem own_lenge {A : Type} {l : List A} {i : Nat} (h : l.drop i = []) : l.length ≤ i := List.drop_eq_nil_iff.mp h
theorem own_oflt {i n : Nat} (hi : i < n) (hn : n < 2147483648) : Int32.ofNat i < Int32.ofNat n := by
  rw [Int32.lt_iff_toInt_lt, Int32.toInt_ofNat_of_lt (by omega), Int32.toInt_ofNat_of_lt (by omega)]
  omega
theorem own_ofge {i n : Nat} (hi : n ≤ i) (hn : i < 2147483648) : ¬ (Int32.ofNat i < Int32.ofNat n) := by
  rw [Int32.lt_iff_toInt_lt, Int32.toInt_ofNat_of_lt (by omega), Int32.toInt_ofNat_of_lt (by omega)]
  omega
theorem own_clamp {i : Nat} (hi : i < 2147483648) : (Int32.ofNat i).toNatClampNeg = i := by
  rw [Int32.toNatClampNeg, Int32.toInt_ofNat_of_lt (by omega)]
  exact Int.toNat_natCast i
theorem own_read {c : Cell} {n : Int32} {xs : List Int32} {d : Value} {i : Nat} {x : Int32} (S : c.slots.size = n.toNatClampNeg) (hn : n = Int32.ofNat xs.length) (lx : xs.length < 2147483648) (H : Has c (xs.map Value.int) d) (h : xs[i]? = some x) :
    ¬ (Int32.ofNat i < 0 ∨ c.slots.size ≤ (Int32.ofNat i).toNatClampNeg) ∧ c.slots[(Int32.ofNat i).toNatClampNeg]? = some (.int x) := by
  have hi := (List.getElem?_eq_some_iff.mp h).1
  have e1 : (Int32.ofNat i).toNatClampNeg = i := own_clamp (by omega)
  have e2 : c.slots.size = xs.length := by rw [S, hn]; exact own_clamp lx
  rw [e1, e2]
  refine ⟨?_, ?_⟩
  · rw [Int32.lt_iff_toInt_lt, Int32.toInt_ofNat_of_lt (by omega)]
    have e0 : (0 : Int32).toInt = 0 := by decide
    omega
  · have q := H i (by omega)
    rw [q, List.getD_eq_getElem?_getD, List.getElem?_map, h]
    rfl
def aadv (x : Int32) : List Int32 → List Int32
  | [] => []
  | y :: r => if (y / (2 : Int32)) < (x / (2 : Int32)) then aadv x r else y :: r
def ag : List Int32 → List Int32 → Int32
  | [], _ => 1
  | x :: xs, ys => match aadv x ys with
    | [] => ag xs []
    | y :: r => if (y / (2 : Int32)) = (x / (2 : Int32)) then (if y = x then ag xs (y :: r) else 0) else ag xs (y :: r)
theorem ag_cons (x : Int32) (xs ys : List Int32) : ag (x :: xs) ys = (match aadv x ys with
    | [] => ag xs []
    | y :: r => if (y / (2 : Int32)) = (x / (2 : Int32)) then (if y = x then ag xs (y :: r) else 0) else ag xs (y :: r)) := by rw [ag]
theorem own_at_k {c : Cell} {n : Int32} {xs : List Int32} {d : Value} {k : Nat} (S : c.slots.size = n.toNatClampNeg) (hn : n = Int32.ofNat xs.length) (lx : xs.length < 2147483648) (H : Has c (xs.map Value.int) d) (hk : k < 2147483648) (h : Int32.ofNat k < n) :
    ¬ (Int32.ofNat k < 0 ∨ c.slots.size ≤ (Int32.ofNat k).toNatClampNeg) ∧ c.slots[(Int32.ofNat k).toNatClampNeg]? = some (.int (xs.getD k 0)) := by
  have hl : k < xs.length := by
    rw [hn, Int32.lt_iff_toInt_lt, Int32.toInt_ofNat_of_lt (by omega), Int32.toInt_ofNat_of_lt (by omega)] at h
    omega
  have q : xs[k]? = some (xs.getD k 0) := by rw [List.getD_eq_getElem?_getD, List.getElem?_eq_getElem hl]; rfl
  exact own_read S hn lx H q
theorem d2_0 : decode method_3_code 0 = .ok (.iload_n 0, 1) := by decide +kernel
theorem d2_1 : decode method_3_code 1 = .ok (.ifCond .lt 25, 3) := by decide +kernel
theorem d2_26 : decode method_3_code 26 = .ok (.iconst 0, 1) := by decide +kernel
theorem d2_4 : decode method_3_code 4 = .ok (.iload_n 1, 1) := by decide +kernel
theorem d2_5 : decode method_3_code 5 = .ok (.ifCond .lt 21, 3) := by decide +kernel
theorem d2_8 : decode method_3_code 8 = .ok (.iload_n 0, 1) := by decide +kernel
theorem d2_9 : decode method_3_code 9 = .ok (.iconst 2, 1) := by decide +kernel
theorem d2_10 : decode method_3_code 10 = .ok (.idiv, 1) := by decide +kernel
theorem d2_11 : decode method_3_code 11 = .ok (.iload_n 1, 1) := by decide +kernel
theorem d2_12 : decode method_3_code 12 = .ok (.iconst 2, 1) := by decide +kernel
theorem d2_13 : decode method_3_code 13 = .ok (.idiv, 1) := by decide +kernel
theorem d2_14 : decode method_3_code 14 = .ok (.if_icmp .ne 12, 3) := by decide +kernel
theorem d2_17 : decode method_3_code 17 = .ok (.iload_n 0, 1) := by decide +kernel
theorem d2_18 : decode method_3_code 18 = .ok (.iload_n 1, 1) := by decide +kernel
theorem d2_19 : decode method_3_code 19 = .ok (.if_icmp .eq 7, 3) := by decide +kernel
theorem d2_22 : decode method_3_code 22 = .ok (.iconst 1, 1) := by decide +kernel
theorem d2_23 : decode method_3_code 23 = .ok (.goto 4, 3) := by decide +kernel
theorem d2_27 : decode method_3_code 27 = .ok (.ireturn, 1) := by decide +kernel
def f2 (p0 : Int32) (p1 : Int32) : Int32 := nar .boolean (if p0 < (0 : Int32) then (0 : Int32) else (if p1 < (0 : Int32) then (0 : Int32) else (if (p0 / (2 : Int32)) = (p1 / (2 : Int32)) then (if p0 = p1 then (0 : Int32) else (1 : Int32)) else (0 : Int32))))
theorem pn_com_example_nuthatch_nuthatch_logic_DemandsAgreePinLaw : plainName "com/example/nuthatch/nuthatch/logic/DemandsAgreePinLaw" = true := by first | (simp [plainName, overriddenIn]; done) | decide +kernel
theorem ef_2 (m : MethodId) (x0 : Int32) (x1 : Int32) : entryFrame m #[(.int x0), (.int x1)] 2 = mkF m 0 #[.val (.int x0), .val (.int x1)] [] := by first | (simp [entryFrame, mkF, argsToLocals, Value.category]; done) | rfl
def Q2 (Z : State) (p0 : Int32) (p1 : Int32) (h0 : Heap) (n0 : Nat) (v : Option Value) (h : Heap) (L : List Loc) : Prop := v = some (.int (f2 p0 p1)) ∧ Fr n0 L ∧ h = h0
set_option maxRecDepth 65536 in
set_option maxHeartbeats 40000000 in
theorem rm2 (l : Launch) (Z : State) (aZ : Array Value) (hw : ∀ d ∈ tables_1, d.before aZ Z = true) (ws : List Jvm.Cond) (p0 : Int32) (p1 : Int32) (h0 : Heap) (n0 : Nat) (Z0 : n0 ≤ h0.size) :
    MetFree l (⟨"com/example/nuthatch/nuthatch/logic/DemandsAgreePinLaw", "clash", "(II)Z"⟩ : MethodName) (head1 (Jvm.Cond.code (⟨"com/example/nuthatch/nuthatch/logic/DemandsAgreePinLaw", "clash", "(II)Z"⟩ : MethodName) method_3_code 2 (some .boolean) :: ws) ({ frames := 0, cells := 0, slots := 0, locals := 0 } : Room)) (fun a U => a = #[(.int p0), (.int p1)] ∧ Z.Warmed39 U.vm ∧ U.heap = h0) (fun _ _ _ _ _ => True) (fun _ U o U' => ∃ v L, o = .returned v ∧ Q2 Z p0 p1 h0 n0 v U'.heap L ∧ FrameEnd U o U' L ({ frames := 0, cells := 0, slots := 0, locals := 0 } : Room).cells ({ frames := 0, cells := 0, slots := 0, locals := 0 } : Room).slots) := by
  refine MetFree.of_bodySF (plainFor_of_name pn_com_example_nuthatch_nuthatch_logic_DemandsAgreePinLaw) hisR ?_
  intro p e s m args below meth c s₁ Bd hml0 hP hK
  obtain ⟨rfl, hZ, hh⟩ := hP
  have hx := Bd.exec
  have hby := Bd.bytes
  have hlk : meth.locks = false := BodyLoose.notSynchronized Bd
  have hml : c.maxLocals = 2 := hml0
  have hown : s.vm.findClass "com/example/nuthatch/nuthatch/logic/DemandsAgreePinLaw" = some m.cls := findClass_of_methodNamed Bd.named
  have hnm := (name_of_methodNamed Bd.named Bd.method).1
  have X0 : Stand p l e ({ frames := 0, cells := 0, slots := 0, locals := 0 } : Room) s m #[(.int p0), (.int p1)] below meth c s₁ [] 0 0 := Stand.of_body Bd
  have e0 : s₁.heap = h0 := by rw [← hh, Bd.state]; rfl
  have N0 := Fr.nil n0
  show OEnd p e below s s₁ (entryFrame m #[(.int p0), (.int p1)] 2) (Q2 Z p0 p1 h0 n0) ({ frames := 0, cells := 0, slots := 0, locals := 0 } : Room).cells ({ frames := 0, cells := 0, slots := 0, locals := 0 } : Room).slots
  refine OEnd.go (g' := (mkF m 0 #[.val (.int p0), .val (.int p1)] [])) (fun _ k => castTop (ef_2 m p0 p1) k) ?_
  refine OEnd.go (T' := s₁) (g' := (mkF m 1 #[.val (.int p0), .val (.int p1)] [(.int p0)])) (fun t k => ?_) ?_
  · show Steps p.tables e below (s₁.setTop (mkF m 0 #[.val (.int p0), .val (.int p1)] [])) t
    refine XS.iloadN X0.here hx rfl (hb hby d2_0) rfl ?_
    show Steps p.tables e below (s₁.setTop (mkF m 1 #[.val (.int p0), .val (.int p1)] [(.int p0)])) t
    exact k
  refine OEnd.go (T' := s₁) (g' := (mkF m 27 #[.val (.int p0), .val (.int p1)] [(.int (if p0 < (0 : Int32) then (0 : Int32) else (if p1 < (0 : Int32) then (0 : Int32) else (if (p0 / (2 : Int32)) = (p1 / (2 : Int32)) then (if p0 = p1 then (0 : Int32) else (1 : Int32)) else (0 : Int32)))))])) (fun t k => ?_) ?_
  · show Steps p.tables e below (s₁.setTop (mkF m 1 #[.val (.int p0), .val (.int p1)] [(.int p0)])) t
    by_cases hc1 : p0 < (0 : Int32)
    · skip
      refine XS.ifYes X0.here hx rfl (pc0 := 1) (pc' := 26) rfl (hb hby d2_1) rfl ((if0 _ _).trans (tlt (hc1)).1) (by decide) (by decide) ?_
      show Steps p.tables e below (s₁.setTop (mkF m 26 #[.val (.int p0), .val (.int p1)] [])) t
      refine SGo.go (T' := s₁) (g' := (mkF m 27 #[.val (.int p0), .val (.int p1)] [(.int (0 : Int32))])) (fun t k => ?_) ?_
      · show Steps p.tables e below (s₁.setTop (mkF m 26 #[.val (.int p0), .val (.int p1)] [])) t
        refine XS.iconst X0.here hx rfl (hb hby d2_26) ?_
        show Steps p.tables e below (s₁.setTop (mkF m 27 #[.val (.int p0), .val (.int p1)] [(.int (0 : Int32))])) t
        exact k
      exact (own_k (f := fun (z : Int32) => mkF m 27 #[.val (.int p0), .val (.int p1)] [(.int z)]) (if_pos hc1) k)
    · skip
      refine XS.ifNo X0.here hx rfl (hb hby d2_1) rfl ((if0 _ _).trans (flt (hc1)).1) ?_
      show Steps p.tables e below (s₁.setTop (mkF m 4 #[.val (.int p0), .val (.int p1)] [])) t
      refine SGo.go (T' := s₁) (g' := (mkF m 5 #[.val (.int p0), .val (.int p1)] [(.int p1)])) (fun t k => ?_) ?_
      · show Steps p.tables e below (s₁.setTop (mkF m 4 #[.val (.int p0), .val (.int p1)] [])) t
        refine XS.iloadN X0.here hx rfl (hb hby d2_4) rfl ?_
        show Steps p.tables e below (s₁.setTop (mkF m 5 #[.val (.int p0), .val (.int p1)] [(.int p1)])) t
        exact k
      by_cases hc2 : p1 < (0 : Int32)
      · skip
        refine XS.ifYes X0.here hx rfl (pc0 := 5) (pc' := 26) rfl (hb hby d2_5) rfl ((if0 _ _).trans (tlt (hc2)).1) (by decide) (by decide) ?_
        show Steps p.tables e below (s₁.setTop (mkF m 26 #[.val (.int p0), .val (.int p1)] [])) t
        refine SGo.go (T' := s₁) (g' := (mkF m 27 #[.val (.int p0), .val (.int p1)] [(.int (0 : Int32))])) (fun t k => ?_) ?_
        · show Steps p.tables e below (s₁.setTop (mkF m 26 #[.val (.int p0), .val (.int p1)] [])) t
          refine XS.iconst X0.here hx rfl (hb hby d2_26) ?_
          show Steps p.tables e below (s₁.setTop (mkF m 27 #[.val (.int p0), .val (.int p1)] [(.int (0 : Int32))])) t
          exact k
        exact (own_k (f := fun (z : Int32) => mkF m 27 #[.val (.int p0), .val (.int p1)] [(.int z)]) ((if_neg hc1).trans (if_pos hc2)) k)
      · skip
        refine XS.ifNo X0.here hx rfl (hb hby d2_5) rfl ((if0 _ _).trans (flt (hc2)).1) ?_
        show Steps p.tables e below (s₁.setTop (mkF m 8 #[.val (.int p0), .val (.int p1)] [])) t
        refine SGo.go (T' := s₁) (g' := (mkF m 14 #[.val (.int p0), .val (.int p1)] [(.int (p1 / (2 : Int32))), (.int (p0 / (2 : Int32)))])) (fun t k => ?_) ?_
        · show Steps p.tables e below (s₁.setTop (mkF m 8 #[.val (.int p0), .val (.int p1)] [])) t
          refine XS.iloadN X0.here hx rfl (hb hby d2_8) rfl ?_
          show Steps p.tables e below (s₁.setTop (mkF m 9 #[.val (.int p0), .val (.int p1)] [(.int p0)])) t
          refine XS.iconst X0.here hx rfl (hb hby d2_9) ?_
          show Steps p.tables e below (s₁.setTop (mkF m 10 #[.val (.int p0), .val (.int p1)] [(.int (2 : Int32)), (.int p0)])) t
          refine XS.idiv X0.here hx rfl (hb hby d2_10) rfl (by decide) ?_
          show Steps p.tables e below (s₁.setTop (mkF m 11 #[.val (.int p0), .val (.int p1)] [(.int (p0 / (2 : Int32)))])) t
          refine XS.iloadN X0.here hx rfl (hb hby d2_11) rfl ?_
          show Steps p.tables e below (s₁.setTop (mkF m 12 #[.val (.int p0), .val (.int p1)] [(.int p1), (.int (p0 / (2 : Int32)))])) t
          refine XS.iconst X0.here hx rfl (hb hby d2_12) ?_
          show Steps p.tables e below (s₁.setTop (mkF m 13 #[.val (.int p0), .val (.int p1)] [(.int (2 : Int32)), (.int p1), (.int (p0 / (2 : Int32)))])) t
          refine XS.idiv X0.here hx rfl (hb hby d2_13) rfl (by decide) ?_
          show Steps p.tables e below (s₁.setTop (mkF m 14 #[.val (.int p0), .val (.int p1)] [(.int (p1 / (2 : Int32))), (.int (p0 / (2 : Int32)))])) t
          exact k
        by_cases hc3 : (p0 / (2 : Int32)) = (p1 / (2 : Int32))
        · skip
          refine XS.icmpNo X0.here hx rfl (hb hby d2_14) rfl (teq (hc3)).2 ?_
          show Steps p.tables e below (s₁.setTop (mkF m 17 #[.val (.int p0), .val (.int p1)] [])) t
          refine SGo.go (T' := s₁) (g' := (mkF m 19 #[.val (.int p0), .val (.int p1)] [(.int p1), (.int p0)])) (fun t k => ?_) ?_
          · show Steps p.tables e below (s₁.setTop (mkF m 17 #[.val (.int p0), .val (.int p1)] [])) t
            refine XS.iloadN X0.here hx rfl (hb hby d2_17) rfl ?_
            show Steps p.tables e below (s₁.setTop (mkF m 18 #[.val (.int p0), .val (.int p1)] [(.int p0)])) t
            refine XS.iloadN X0.here hx rfl (hb hby d2_18) rfl ?_
            show Steps p.tables e below (s₁.setTop (mkF m 19 #[.val (.int p0), .val (.int p1)] [(.int p1), (.int p0)])) t
            exact k
          by_cases hc4 : p0 = p1
          · skip
            refine XS.icmpYes X0.here hx rfl (pc0 := 19) (pc' := 26) rfl (hb hby d2_19) rfl (teq (hc4)).1 (by decide) (by decide) ?_
            show Steps p.tables e below (s₁.setTop (mkF m 26 #[.val (.int p0), .val (.int p1)] [])) t
            refine SGo.go (T' := s₁) (g' := (mkF m 27 #[.val (.int p0), .val (.int p1)] [(.int (0 : Int32))])) (fun t k => ?_) ?_
            · show Steps p.tables e below (s₁.setTop (mkF m 26 #[.val (.int p0), .val (.int p1)] [])) t
              refine XS.iconst X0.here hx rfl (hb hby d2_26) ?_
              show Steps p.tables e below (s₁.setTop (mkF m 27 #[.val (.int p0), .val (.int p1)] [(.int (0 : Int32))])) t
              exact k
            exact (own_k (f := fun (z : Int32) => mkF m 27 #[.val (.int p0), .val (.int p1)] [(.int z)]) ((if_neg hc1).trans ((if_neg hc2).trans ((if_pos hc3).trans (if_pos hc4)))) k)
          · skip
            refine XS.icmpNo X0.here hx rfl (hb hby d2_19) rfl (feq (hc4)).1 ?_
            show Steps p.tables e below (s₁.setTop (mkF m 22 #[.val (.int p0), .val (.int p1)] [])) t
            refine SGo.go (T' := s₁) (g' := (mkF m 27 #[.val (.int p0), .val (.int p1)] [(.int (1 : Int32))])) (fun t k => ?_) ?_
            · show Steps p.tables e below (s₁.setTop (mkF m 22 #[.val (.int p0), .val (.int p1)] [])) t
              refine XS.iconst X0.here hx rfl (hb hby d2_22) ?_
              show Steps p.tables e below (s₁.setTop (mkF m 23 #[.val (.int p0), .val (.int p1)] [(.int (1 : Int32))])) t
              refine XS.goto X0.here hx rfl (pc0 := 23) (pc' := 27) rfl (hb hby d2_23) (by decide) (by decide) ?_
              show Steps p.tables e below (s₁.setTop (mkF m 27 #[.val (.int p0), .val (.int p1)] [(.int (1 : Int32))])) t
              exact k
            exact (own_k (f := fun (z : Int32) => mkF m 27 #[.val (.int p0), .val (.int p1)] [(.int z)]) ((if_neg hc1).trans ((if_neg hc2).trans ((if_pos hc3).trans (if_neg hc4)))) k)
        · skip
          refine XS.icmpYes X0.here hx rfl (pc0 := 14) (pc' := 26) rfl (hb hby d2_14) rfl (feq (hc3)).2 (by decide) (by decide) ?_
          show Steps p.tables e below (s₁.setTop (mkF m 26 #[.val (.int p0), .val (.int p1)] [])) t
          refine SGo.go (T' := s₁) (g' := (mkF m 27 #[.val (.int p0), .val (.int p1)] [(.int (0 : Int32))])) (fun t k => ?_) ?_
          · show Steps p.tables e below (s₁.setTop (mkF m 26 #[.val (.int p0), .val (.int p1)] [])) t
            refine XS.iconst X0.here hx rfl (hb hby d2_26) ?_
            show Steps p.tables e below (s₁.setTop (mkF m 27 #[.val (.int p0), .val (.int p1)] [(.int (0 : Int32))])) t
            exact k
          exact (own_k (f := fun (z : Int32) => mkF m 27 #[.val (.int p0), .val (.int p1)] [(.int z)]) ((if_neg hc1).trans ((if_neg hc2).trans (if_neg hc3))) k)
  exact OEnd.nar X0 hx (t := .boolean) Bd.returns (by simp) hlk (hb hby d2_27) ⟨rfl, N0, e0⟩ (by decide) (by decide)
theorem d1_0 : decode method_2_code 0 = .ok (.iload_n 1, 1) := by decide +kernel
theorem d1_1 : decode method_2_code 1 = .ok (.aload_n 0, 1) := by decide +kernel
theorem d1_2 : decode method_2_code 2 = .ok (.arraylength, 1) := by decide +kernel
theorem d1_3 : decode method_2_code 3 = .ok (.if_icmp .ge 9, 3) := by decide +kernel
theorem d1_6 : decode method_2_code 6 = .ok (.aload_n 0, 1) := by decide +kernel
theorem d1_7 : decode method_2_code 7 = .ok (.iload_n 1, 1) := by decide +kernel
theorem d1_8 : decode method_2_code 8 = .ok (.iaload, 1) := by decide +kernel
theorem d1_9 : decode method_2_code 9 = .ok (.goto 4, 3) := by decide +kernel
theorem d1_12 : decode method_2_code 12 = .ok (.iconst (-1), 1) := by decide +kernel
theorem d1_13 : decode method_2_code 13 = .ok (.ireturn, 1) := by decide +kernel
def f1_0 (xs : List Int32) (na : Int32) : Int32 := (if (0 : Int32) < na then (xs.getD 0 0) else (-1 : Int32))
theorem ef_1_0 (m : MethodId) (x0 : Addr) : entryFrame m #[(.ref x0), (.int (0 : Int32))] 2 = mkF m 0 #[.val (.ref x0), .val (.int (0 : Int32))] [] := by first | (simp [entryFrame, mkF, argsToLocals, Value.category]; done) | rfl
def Q1_0 (Z : State) (a0 : Addr) (xs : List Int32) (na : Int32) (h0 : Heap) (n0 : Nat) (v : Option Value) (h : Heap) (L : List Loc) : Prop := v = some (.int (f1_0 xs na)) ∧ Fr n0 L ∧ h = h0
set_option maxRecDepth 65536 in
set_option maxHeartbeats 40000000 in
theorem rm1_0 (l : Launch) (Z : State) (aZ : Array Value) (hw : ∀ d ∈ tables_1, d.before aZ Z = true) (ws : List Jvm.Cond) (a0 : Addr) (xs : List Int32) (na : Int32) (h0 : Heap) (n0 : Nat) (Z0 : n0 ≤ h0.size) (A0 : OArr Z h0 a0 .int na (xs.map Value.int) (.int (0 : Int32))) (hna : na = Int32.ofNat xs.length) (lx : xs.length < 2147483648) :
    MetFree l (⟨"com/example/nuthatch/nuthatch/logic/DemandsAgreePinLaw", "at", "([II)I"⟩ : MethodName) (head1 (Jvm.Cond.code (⟨"com/example/nuthatch/nuthatch/logic/DemandsAgreePinLaw", "at", "([II)I"⟩ : MethodName) method_2_code 2 (some .int) :: ws) ({ frames := 0, cells := 0, slots := 0, locals := 0 } : Room)) (fun a U => a = #[(.ref a0), (.int (0 : Int32))] ∧ Z.Warmed39 U.vm ∧ U.heap = h0) (fun _ _ _ _ _ => True) (fun _ U o U' => ∃ v L, o = .returned v ∧ Q1_0 Z a0 xs na h0 n0 v U'.heap L ∧ FrameEnd U o U' L ({ frames := 0, cells := 0, slots := 0, locals := 0 } : Room).cells ({ frames := 0, cells := 0, slots := 0, locals := 0 } : Room).slots) := by
  refine MetFree.of_bodySF (plainFor_of_name pn_com_example_nuthatch_nuthatch_logic_DemandsAgreePinLaw) hisR ?_
  intro p e s m args below meth c s₁ Bd hml0 hP hK
  obtain ⟨rfl, hZ, hh⟩ := hP
  have hx := Bd.exec
  have hby := Bd.bytes
  have hlk : meth.locks = false := BodyLoose.notSynchronized Bd
  have hml : c.maxLocals = 2 := hml0
  have hown : s.vm.findClass "com/example/nuthatch/nuthatch/logic/DemandsAgreePinLaw" = some m.cls := findClass_of_methodNamed Bd.named
  have hnm := (name_of_methodNamed Bd.named Bd.method).1
  have X0 : Stand p l e ({ frames := 0, cells := 0, slots := 0, locals := 0 } : Room) s m #[(.ref a0), (.int (0 : Int32))] below meth c s₁ [] 0 0 := Stand.of_body Bd
  have e0 : s₁.heap = h0 := by rw [← hh, Bd.state]; rfl
  have N0 := Fr.nil n0
  obtain ⟨k0, c0, Ar0, q0, S0, M0, H0, G0⟩ := A0
  show OEnd p e below s s₁ (entryFrame m #[(.ref a0), (.int (0 : Int32))] 2) (Q1_0 Z a0 xs na h0 n0) ({ frames := 0, cells := 0, slots := 0, locals := 0 } : Room).cells ({ frames := 0, cells := 0, slots := 0, locals := 0 } : Room).slots
  refine OEnd.go (g' := (mkF m 0 #[.val (.ref a0), .val (.int (0 : Int32))] [])) (fun _ k => castTop (ef_1_0 m a0) k) ?_
  refine OEnd.go (T' := s₁) (g' := (mkF m 2 #[.val (.ref a0), .val (.int (0 : Int32))] [(.ref a0), (.int (0 : Int32))])) (fun t k => ?_) ?_
  · show Steps p.tables e below (s₁.setTop (mkF m 0 #[.val (.ref a0), .val (.int (0 : Int32))] [])) t
    refine XS.iloadN X0.here hx rfl (hb hby d1_0) rfl ?_
    show Steps p.tables e below (s₁.setTop (mkF m 1 #[.val (.ref a0), .val (.int (0 : Int32))] [(.int (0 : Int32))])) t
    refine XS.aloadN X0.here hx rfl (hb hby d1_1) rfl rfl ?_
    show Steps p.tables e below (s₁.setTop (mkF m 2 #[.val (.ref a0), .val (.int (0 : Int32))] [(.ref a0), (.int (0 : Int32))])) t
    exact k
  refine OEnd.go (T' := s₁) (g' := (mkF m 3 #[.val (.ref a0), .val (.int (0 : Int32))] [(.int na), (.int (0 : Int32))])) (fun t k => ?_) ?_
  · refine X0.arraylength hx (by rw [e0]; exact Ar0.1) (State.isArrayOf_alike hZ.alike Ar0.2.1) (g := (mkF m 2 #[.val (.ref a0), .val (.int (0 : Int32))] [(.ref a0), (.int (0 : Int32))])) rfl rfl (hb hby d1_2) _ ?_
    rw [len_of S0 M0]
    exact k
  obtain ⟨T2, L2, X2, e2, N2, st2⟩ : ORch p l e ({ frames := 0, cells := 0, slots := 0, locals := 0 } : Room) s m #[(.ref a0), (.int (0 : Int32))] below meth c n0 s₁ (mkF m 3 #[.val (.ref a0), .val (.int (0 : Int32))] [(.int na), (.int (0 : Int32))]) h0 (mkF m 13 #[.val (.ref a0), .val (.int (0 : Int32))] [(.int (if (0 : Int32) < na then (xs.getD 0 0) else (-1 : Int32)))]) 0 0 := by
    by_cases hc1 : (0 : Int32) < na
    · skip
      refine ORch.go (T' := s₁) (g' := (mkF m 6 #[.val (.ref a0), .val (.int (0 : Int32))] [])) (fun t k => ?_) ?_
      · show Steps p.tables e below (s₁.setTop (mkF m 3 #[.val (.ref a0), .val (.int (0 : Int32))] [(.int na), (.int (0 : Int32))])) t
        refine XS.icmpNo X0.here hx rfl (hb hby d1_3) rfl (tlt (hc1)).2.1 ?_
        show Steps p.tables e below (s₁.setTop (mkF m 6 #[.val (.ref a0), .val (.int (0 : Int32))] [])) t
        exact k
      refine ORch.go (T' := s₁) (g' := (mkF m 8 #[.val (.ref a0), .val (.int (0 : Int32))] [(.int (0 : Int32)), (.ref a0)])) (fun t k => ?_) ?_
      · show Steps p.tables e below (s₁.setTop (mkF m 6 #[.val (.ref a0), .val (.int (0 : Int32))] [])) t
        refine XS.aloadN X0.here hx rfl (hb hby d1_6) rfl rfl ?_
        show Steps p.tables e below (s₁.setTop (mkF m 7 #[.val (.ref a0), .val (.int (0 : Int32))] [(.ref a0)])) t
        refine XS.iloadN X0.here hx rfl (hb hby d1_7) rfl ?_
        show Steps p.tables e below (s₁.setTop (mkF m 8 #[.val (.ref a0), .val (.int (0 : Int32))] [(.int (0 : Int32)), (.ref a0)])) t
        exact k
      refine ORch.go (T' := s₁) (g' := (mkF m 9 #[.val (.ref a0), .val (.int (0 : Int32))] [(.int (xs.getD 0 0))])) (fun t k => ?_) ?_
      · refine X0.iaload hx (j := (0 : Int32)) (v := (.int (xs.getD 0 0))) (by rw [e0]; exact Ar0.1) (State.isArrayOf_alike hZ.alike Ar0.2.1) Ar0.2.2 (own_at_k (k := 0) S0 hna lx H0 (by decide) hc1).1 (own_at_k (k := 0) S0 hna lx H0 (by decide) hc1).2 (g := (mkF m 8 #[.val (.ref a0), .val (.int (0 : Int32))] [(.int (0 : Int32)), (.ref a0)])) rfl rfl (hb hby d1_8) _ ?_
        exact k
      refine ORch.go (T' := s₁) (g' := (mkF m 13 #[.val (.ref a0), .val (.int (0 : Int32))] [(.int (xs.getD 0 0))])) (fun t k => ?_) ?_
      · show Steps p.tables e below (s₁.setTop (mkF m 9 #[.val (.ref a0), .val (.int (0 : Int32))] [(.int (xs.getD 0 0))])) t
        refine XS.goto X0.here hx rfl (pc0 := 9) (pc' := 13) rfl (hb hby d1_9) (by decide) (by decide) ?_
        show Steps p.tables e below (s₁.setTop (mkF m 13 #[.val (.ref a0), .val (.int (0 : Int32))] [(.int (xs.getD 0 0))])) t
        exact k
      exact ⟨_, _, X0, e0, N0, fun t k => (own_k (f := fun (z : Int32) => mkF m 13 #[.val (.ref a0), .val (.int (0 : Int32))] [(.int z)]) (if_pos hc1) k)⟩
    · skip
      refine ORch.go (T' := s₁) (g' := (mkF m 12 #[.val (.ref a0), .val (.int (0 : Int32))] [])) (fun t k => ?_) ?_
      · show Steps p.tables e below (s₁.setTop (mkF m 3 #[.val (.ref a0), .val (.int (0 : Int32))] [(.int na), (.int (0 : Int32))])) t
        refine XS.icmpYes X0.here hx rfl (pc0 := 3) (pc' := 12) rfl (hb hby d1_3) rfl (flt (hc1)).2.1 (by decide) (by decide) ?_
        show Steps p.tables e below (s₁.setTop (mkF m 12 #[.val (.ref a0), .val (.int (0 : Int32))] [])) t
        exact k
      refine ORch.go (T' := s₁) (g' := (mkF m 13 #[.val (.ref a0), .val (.int (0 : Int32))] [(.int (-1 : Int32))])) (fun t k => ?_) ?_
      · show Steps p.tables e below (s₁.setTop (mkF m 12 #[.val (.ref a0), .val (.int (0 : Int32))] [])) t
        refine XS.iconst X0.here hx rfl (hb hby d1_12) ?_
        show Steps p.tables e below (s₁.setTop (mkF m 13 #[.val (.ref a0), .val (.int (0 : Int32))] [(.int (-1 : Int32))])) t
        exact k
      exact ⟨_, _, X0, e0, N0, fun t k => (own_k (f := fun (z : Int32) => mkF m 13 #[.val (.ref a0), .val (.int (0 : Int32))] [(.int z)]) (if_neg hc1) k)⟩
  refine OEnd.go (g' := (mkF m 13 #[.val (.ref a0), .val (.int (0 : Int32))] [(.int (if (0 : Int32) < na then (xs.getD 0 0) else (-1 : Int32)))])) st2 ?_
  exact OEnd.int X2 hx Bd.returns hlk (hb hby d1_13) ⟨rfl, N2, e2⟩ (by decide) (by decide)
def f1_1 (xs : List Int32) (na : Int32) : Int32 := (if (1 : Int32) < na then (xs.getD 1 0) else (-1 : Int32))
theorem ef_1_1 (m : MethodId) (x0 : Addr) : entryFrame m #[(.ref x0), (.int (1 : Int32))] 2 = mkF m 0 #[.val (.ref x0), .val (.int (1 : Int32))] [] := by first | (simp [entryFrame, mkF, argsToLocals, Value.category]; done) | rfl
def Q1_1 (Z : State) (a0 : Addr) (xs : List Int32) (na : Int32) (h0 : Heap) (n0 : Nat) (v : Option Value) (h : Heap) (L : List Loc) : Prop := v = some (.int (f1_1 xs na)) ∧ Fr n0 L ∧ h = h0
set_option maxRecDepth 65536 in
set_option maxHeartbeats 40000000 in
theorem rm1_1 (l : Launch) (Z : State) (aZ : Array Value) (hw : ∀ d ∈ tables_1, d.before aZ Z = true) (ws : List Jvm.Cond) (a0 : Addr) (xs : List Int32) (na : Int32) (h0 : Heap) (n0 : Nat) (Z0 : n0 ≤ h0.size) (A0 : OArr Z h0 a0 .int na (xs.map Value.int) (.int (0 : Int32))) (hna : na = Int32.ofNat xs.length) (lx : xs.length < 2147483648) :
    MetFree l (⟨"com/example/nuthatch/nuthatch/logic/DemandsAgreePinLaw", "at", "([II)I"⟩ : MethodName) (head1 (Jvm.Cond.code (⟨"com/example/nuthatch/nuthatch/logic/DemandsAgreePinLaw", "at", "([II)I"⟩ : MethodName) method_2_code 2 (some .int) :: ws) ({ frames := 0, cells := 0, slots := 0, locals := 0 } : Room)) (fun a U => a = #[(.ref a0), (.int (1 : Int32))] ∧ Z.Warmed39 U.vm ∧ U.heap = h0) (fun _ _ _ _ _ => True) (fun _ U o U' => ∃ v L, o = .returned v ∧ Q1_1 Z a0 xs na h0 n0 v U'.heap L ∧ FrameEnd U o U' L ({ frames := 0, cells := 0, slots := 0, locals := 0 } : Room).cells ({ frames := 0, cells := 0, slots := 0, locals := 0 } : Room).slots) := by
  refine MetFree.of_bodySF (plainFor_of_name pn_com_example_nuthatch_nuthatch_logic_DemandsAgreePinLaw) hisR ?_
  intro p e s m args below meth c s₁ Bd hml0 hP hK
  obtain ⟨rfl, hZ, hh⟩ := hP
  have hx := Bd.exec
  have hby := Bd.bytes
  have hlk : meth.locks = false := BodyLoose.notSynchronized Bd
  have hml : c.maxLocals = 2 := hml0
  have hown : s.vm.findClass "com/example/nuthatch/nuthatch/logic/DemandsAgreePinLaw" = some m.cls := findClass_of_methodNamed Bd.named
  have hnm := (name_of_methodNamed Bd.named Bd.method).1
  have X0 : Stand p l e ({ frames := 0, cells := 0, slots := 0, locals := 0 } : Room) s m #[(.ref a0), (.int (1 : Int32))] below meth c s₁ [] 0 0 := Stand.of_body Bd
  have e0 : s₁.heap = h0 := by rw [← hh, Bd.state]; rfl
  have N0 := Fr.nil n0
  obtain ⟨k0, c0, Ar0, q0, S0, M0, H0, G0⟩ := A0
  show OEnd p e below s s₁ (entryFrame m #[(.ref a0), (.int (1 : Int32))] 2) (Q1_1 Z a0 xs na h0 n0) ({ frames := 0, cells := 0, slots := 0, locals := 0 } : Room).cells ({ frames := 0, cells := 0, slots := 0, locals := 0 } : Room).slots
  refine OEnd.go (g' := (mkF m 0 #[.val (.ref a0), .val (.int (1 : Int32))] [])) (fun _ k => castTop (ef_1_1 m a0) k) ?_
  refine OEnd.go (T' := s₁) (g' := (mkF m 2 #[.val (.ref a0), .val (.int (1 : Int32))] [(.ref a0), (.int (1 : Int32))])) (fun t k => ?_) ?_
  · show Steps p.tables e below (s₁.setTop (mkF m 0 #[.val (.ref a0), .val (.int (1 : Int32))] [])) t
    refine XS.iloadN X0.here hx rfl (hb hby d1_0) rfl ?_
    show Steps p.tables e below (s₁.setTop (mkF m 1 #[.val (.ref a0), .val (.int (1 : Int32))] [(.int (1 : Int32))])) t
    refine XS.aloadN X0.here hx rfl (hb hby d1_1) rfl rfl ?_
    show Steps p.tables e below (s₁.setTop (mkF m 2 #[.val (.ref a0), .val (.int (1 : Int32))] [(.ref a0), (.int (1 : Int32))])) t
    exact k
  refine OEnd.go (T' := s₁) (g' := (mkF m 3 #[.val (.ref a0), .val (.int (1 : Int32))] [(.int na), (.int (1 : Int32))])) (fun t k => ?_) ?_
  · refine X0.arraylength hx (by rw [e0]; exact Ar0.1) (State.isArrayOf_alike hZ.alike Ar0.2.1) (g := (mkF m 2 #[.val (.ref a0), .val (.int (1 : Int32))] [(.ref a0), (.int (1 : Int32))])) rfl rfl (hb hby d1_2) _ ?_
    rw [len_of S0 M0]
    exact k
  obtain ⟨T2, L2, X2, e2, N2, st2⟩ : ORch p l e ({ frames := 0, cells := 0, slots := 0, locals := 0 } : Room) s m #[(.ref a0), (.int (1 : Int32))] below meth c n0 s₁ (mkF m 3 #[.val (.ref a0), .val (.int (1 : Int32))] [(.int na), (.int (1 : Int32))]) h0 (mkF m 13 #[.val (.ref a0), .val (.int (1 : Int32))] [(.int (if (1 : Int32) < na then (xs.getD 1 0) else (-1 : Int32)))]) 0 0 := by
    by_cases hc1 : (1 : Int32) < na
    · skip
      refine ORch.go (T' := s₁) (g' := (mkF m 6 #[.val (.ref a0), .val (.int (1 : Int32))] [])) (fun t k => ?_) ?_
      · show Steps p.tables e below (s₁.setTop (mkF m 3 #[.val (.ref a0), .val (.int (1 : Int32))] [(.int na), (.int (1 : Int32))])) t
        refine XS.icmpNo X0.here hx rfl (hb hby d1_3) rfl (tlt (hc1)).2.1 ?_
        show Steps p.tables e below (s₁.setTop (mkF m 6 #[.val (.ref a0), .val (.int (1 : Int32))] [])) t
        exact k
      refine ORch.go (T' := s₁) (g' := (mkF m 8 #[.val (.ref a0), .val (.int (1 : Int32))] [(.int (1 : Int32)), (.ref a0)])) (fun t k => ?_) ?_
      · show Steps p.tables e below (s₁.setTop (mkF m 6 #[.val (.ref a0), .val (.int (1 : Int32))] [])) t
        refine XS.aloadN X0.here hx rfl (hb hby d1_6) rfl rfl ?_
        show Steps p.tables e below (s₁.setTop (mkF m 7 #[.val (.ref a0), .val (.int (1 : Int32))] [(.ref a0)])) t
        refine XS.iloadN X0.here hx rfl (hb hby d1_7) rfl ?_
        show Steps p.tables e below (s₁.setTop (mkF m 8 #[.val (.ref a0), .val (.int (1 : Int32))] [(.int (1 : Int32)), (.ref a0)])) t
        exact k
      refine ORch.go (T' := s₁) (g' := (mkF m 9 #[.val (.ref a0), .val (.int (1 : Int32))] [(.int (xs.getD 1 0))])) (fun t k => ?_) ?_
      · refine X0.iaload hx (j := (1 : Int32)) (v := (.int (xs.getD 1 0))) (by rw [e0]; exact Ar0.1) (State.isArrayOf_alike hZ.alike Ar0.2.1) Ar0.2.2 (own_at_k (k := 1) S0 hna lx H0 (by decide) hc1).1 (own_at_k (k := 1) S0 hna lx H0 (by decide) hc1).2 (g := (mkF m 8 #[.val (.ref a0), .val (.int (1 : Int32))] [(.int (1 : Int32)), (.ref a0)])) rfl rfl (hb hby d1_8) _ ?_
        exact k
      refine ORch.go (T' := s₁) (g' := (mkF m 13 #[.val (.ref a0), .val (.int (1 : Int32))] [(.int (xs.getD 1 0))])) (fun t k => ?_) ?_
      · show Steps p.tables e below (s₁.setTop (mkF m 9 #[.val (.ref a0), .val (.int (1 : Int32))] [(.int (xs.getD 1 0))])) t
        refine XS.goto X0.here hx rfl (pc0 := 9) (pc' := 13) rfl (hb hby d1_9) (by decide) (by decide) ?_
        show Steps p.tables e below (s₁.setTop (mkF m 13 #[.val (.ref a0), .val (.int (1 : Int32))] [(.int (xs.getD 1 0))])) t
        exact k
      exact ⟨_, _, X0, e0, N0, fun t k => (own_k (f := fun (z : Int32) => mkF m 13 #[.val (.ref a0), .val (.int (1 : Int32))] [(.int z)]) (if_pos hc1) k)⟩
    · skip
      refine ORch.go (T' := s₁) (g' := (mkF m 12 #[.val (.ref a0), .val (.int (1 : Int32))] [])) (fun t k => ?_) ?_
      · show Steps p.tables e below (s₁.setTop (mkF m 3 #[.val (.ref a0), .val (.int (1 : Int32))] [(.int na), (.int (1 : Int32))])) t
        refine XS.icmpYes X0.here hx rfl (pc0 := 3) (pc' := 12) rfl (hb hby d1_3) rfl (flt (hc1)).2.1 (by decide) (by decide) ?_
        show Steps p.tables e below (s₁.setTop (mkF m 12 #[.val (.ref a0), .val (.int (1 : Int32))] [])) t
        exact k
      refine ORch.go (T' := s₁) (g' := (mkF m 13 #[.val (.ref a0), .val (.int (1 : Int32))] [(.int (-1 : Int32))])) (fun t k => ?_) ?_
      · show Steps p.tables e below (s₁.setTop (mkF m 12 #[.val (.ref a0), .val (.int (1 : Int32))] [])) t
        refine XS.iconst X0.here hx rfl (hb hby d1_12) ?_
        show Steps p.tables e below (s₁.setTop (mkF m 13 #[.val (.ref a0), .val (.int (1 : Int32))] [(.int (-1 : Int32))])) t
        exact k
      exact ⟨_, _, X0, e0, N0, fun t k => (own_k (f := fun (z : Int32) => mkF m 13 #[.val (.ref a0), .val (.int (1 : Int32))] [(.int z)]) (if_neg hc1) k)⟩
  refine OEnd.go (g' := (mkF m 13 #[.val (.ref a0), .val (.int (1 : Int32))] [(.int (if (1 : Int32) < na then (xs.getD 1 0) else (-1 : Int32)))])) st2 ?_
  exact OEnd.int X2 hx Bd.returns hlk (hb hby d1_13) ⟨rfl, N2, e2⟩ (by decide) (by decide)
def f1_2 (xs : List Int32) (na : Int32) : Int32 := (if (2 : Int32) < na then (xs.getD 2 0) else (-1 : Int32))
theorem ef_1_2 (m : MethodId) (x0 : Addr) : entryFrame m #[(.ref x0), (.int (2 : Int32))] 2 = mkF m 0 #[.val (.ref x0), .val (.int (2 : Int32))] [] := by first | (simp [entryFrame, mkF, argsToLocals, Value.category]; done) | rfl
def Q1_2 (Z : State) (a0 : Addr) (xs : List Int32) (na : Int32) (h0 : Heap) (n0 : Nat) (v : Option Value) (h : Heap) (L : List Loc) : Prop := v = some (.int (f1_2 xs na)) ∧ Fr n0 L ∧ h = h0
set_option maxRecDepth 65536 in
set_option maxHeartbeats 40000000 in
theorem rm1_2 (l : Launch) (Z : State) (aZ : Array Value) (hw : ∀ d ∈ tables_1, d.before aZ Z = true) (ws : List Jvm.Cond) (a0 : Addr) (xs : List Int32) (na : Int32) (h0 : Heap) (n0 : Nat) (Z0 : n0 ≤ h0.size) (A0 : OArr Z h0 a0 .int na (xs.map Value.int) (.int (0 : Int32))) (hna : na = Int32.ofNat xs.length) (lx : xs.length < 2147483648) :
    MetFree l (⟨"com/example/nuthatch/nuthatch/logic/DemandsAgreePinLaw", "at", "([II)I"⟩ : MethodName) (head1 (Jvm.Cond.code (⟨"com/example/nuthatch/nuthatch/logic/DemandsAgreePinLaw", "at", "([II)I"⟩ : MethodName) method_2_code 2 (some .int) :: ws) ({ frames := 0, cells := 0, slots := 0, locals := 0 } : Room)) (fun a U => a = #[(.ref a0), (.int (2 : Int32))] ∧ Z.Warmed39 U.vm ∧ U.heap = h0) (fun _ _ _ _ _ => True) (fun _ U o U' => ∃ v L, o = .returned v ∧ Q1_2 Z a0 xs na h0 n0 v U'.heap L ∧ FrameEnd U o U' L ({ frames := 0, cells := 0, slots := 0, locals := 0 } : Room).cells ({ frames := 0, cells := 0, slots := 0, locals := 0 } : Room).slots) := by
  refine MetFree.of_bodySF (plainFor_of_name pn_com_example_nuthatch_nuthatch_logic_DemandsAgreePinLaw) hisR ?_
  intro p e s m args below meth c s₁ Bd hml0 hP hK
  obtain ⟨rfl, hZ, hh⟩ := hP
  have hx := Bd.exec
  have hby := Bd.bytes
  have hlk : meth.locks = false := BodyLoose.notSynchronized Bd
  have hml : c.maxLocals = 2 := hml0
  have hown : s.vm.findClass "com/example/nuthatch/nuthatch/logic/DemandsAgreePinLaw" = some m.cls := findClass_of_methodNamed Bd.named
  have hnm := (name_of_methodNamed Bd.named Bd.method).1
  have X0 : Stand p l e ({ frames := 0, cells := 0, slots := 0, locals := 0 } : Room) s m #[(.ref a0), (.int (2 : Int32))] below meth c s₁ [] 0 0 := Stand.of_body Bd
  have e0 : s₁.heap = h0 := by rw [← hh, Bd.state]; rfl
  have N0 := Fr.nil n0
  obtain ⟨k0, c0, Ar0, q0, S0, M0, H0, G0⟩ := A0
  show OEnd p e below s s₁ (entryFrame m #[(.ref a0), (.int (2 : Int32))] 2) (Q1_2 Z a0 xs na h0 n0) ({ frames := 0, cells := 0, slots := 0, locals := 0 } : Room).cells ({ frames := 0, cells := 0, slots := 0, locals := 0 } : Room).slots
  refine OEnd.go (g' := (mkF m 0 #[.val (.ref a0), .val (.int (2 : Int32))] [])) (fun _ k => castTop (ef_1_2 m a0) k) ?_
  refine OEnd.go (T' := s₁) (g' := (mkF m 2 #[.val (.ref a0), .val (.int (2 : Int32))] [(.ref a0), (.int (2 : Int32))])) (fun t k => ?_) ?_
  · show Steps p.tables e below (s₁.setTop (mkF m 0 #[.val (.ref a0), .val (.int (2 : Int32))] [])) t
    refine XS.iloadN X0.here hx rfl (hb hby d1_0) rfl ?_
    show Steps p.tables e below (s₁.setTop (mkF m 1 #[.val (.ref a0), .val (.int (2 : Int32))] [(.int (2 : Int32))])) t
    refine XS.aloadN X0.here hx rfl (hb hby d1_1) rfl rfl ?_
    show Steps p.tables e below (s₁.setTop (mkF m 2 #[.val (.ref a0), .val (.int (2 : Int32))] [(.ref a0), (.int (2 : Int32))])) t
    exact k
  refine OEnd.go (T' := s₁) (g' := (mkF m 3 #[.val (.ref a0), .val (.int (2 : Int32))] [(.int na), (.int (2 : Int32))])) (fun t k => ?_) ?_
  · refine X0.arraylength hx (by rw [e0]; exact Ar0.1) (State.isArrayOf_alike hZ.alike Ar0.2.1) (g := (mkF m 2 #[.val (.ref a0), .val (.int (2 : Int32))] [(.ref a0), (.int (2 : Int32))])) rfl rfl (hb hby d1_2) _ ?_
    rw [len_of S0 M0]
    exact k
  obtain ⟨T2, L2, X2, e2, N2, st2⟩ : ORch p l e ({ frames := 0, cells := 0, slots := 0, locals := 0 } : Room) s m #[(.ref a0), (.int (2 : Int32))] below meth c n0 s₁ (mkF m 3 #[.val (.ref a0), .val (.int (2 : Int32))] [(.int na), (.int (2 : Int32))]) h0 (mkF m 13 #[.val (.ref a0), .val (.int (2 : Int32))] [(.int (if (2 : Int32) < na then (xs.getD 2 0) else (-1 : Int32)))]) 0 0 := by
    by_cases hc1 : (2 : Int32) < na
    · skip
      refine ORch.go (T' := s₁) (g' := (mkF m 6 #[.val (.ref a0), .val (.int (2 : Int32))] [])) (fun t k => ?_) ?_
      · show Steps p.tables e below (s₁.setTop (mkF m 3 #[.val (.ref a0), .val (.int (2 : Int32))] [(.int na), (.int (2 : Int32))])) t
        refine XS.icmpNo X0.here hx rfl (hb hby d1_3) rfl (tlt (hc1)).2.1 ?_
        show Steps p.tables e below (s₁.setTop (mkF m 6 #[.val (.ref a0), .val (.int (2 : Int32))] [])) t
        exact k
      refine ORch.go (T' := s₁) (g' := (mkF m 8 #[.val (.ref a0), .val (.int (2 : Int32))] [(.int (2 : Int32)), (.ref a0)])) (fun t k => ?_) ?_
      · show Steps p.tables e below (s₁.setTop (mkF m 6 #[.val (.ref a0), .val (.int (2 : Int32))] [])) t
        refine XS.aloadN X0.here hx rfl (hb hby d1_6) rfl rfl ?_
        show Steps p.tables e below (s₁.setTop (mkF m 7 #[.val (.ref a0), .val (.int (2 : Int32))] [(.ref a0)])) t
        refine XS.iloadN X0.here hx rfl (hb hby d1_7) rfl ?_
        show Steps p.tables e below (s₁.setTop (mkF m 8 #[.val (.ref a0), .val (.int (2 : Int32))] [(.int (2 : Int32)), (.ref a0)])) t
        exact k
      refine ORch.go (T' := s₁) (g' := (mkF m 9 #[.val (.ref a0), .val (.int (2 : Int32))] [(.int (xs.getD 2 0))])) (fun t k => ?_) ?_
      · refine X0.iaload hx (j := (2 : Int32)) (v := (.int (xs.getD 2 0))) (by rw [e0]; exact Ar0.1) (State.isArrayOf_alike hZ.alike Ar0.2.1) Ar0.2.2 (own_at_k (k := 2) S0 hna lx H0 (by decide) hc1).1 (own_at_k (k := 2) S0 hna lx H0 (by decide) hc1).2 (g := (mkF m 8 #[.val (.ref a0), .val (.int (2 : Int32))] [(.int (2 : Int32)), (.ref a0)])) rfl rfl (hb hby d1_8) _ ?_
        exact k
      refine ORch.go (T' := s₁) (g' := (mkF m 13 #[.val (.ref a0), .val (.int (2 : Int32))] [(.int (xs.getD 2 0))])) (fun t k => ?_) ?_
      · show Steps p.tables e below (s₁.setTop (mkF m 9 #[.val (.ref a0), .val (.int (2 : Int32))] [(.int (xs.getD 2 0))])) t
        refine XS.goto X0.here hx rfl (pc0 := 9) (pc' := 13) rfl (hb hby d1_9) (by decide) (by decide) ?_
        show Steps p.tables e below (s₁.setTop (mkF m 13 #[.val (.ref a0), .val (.int (2 : Int32))] [(.int (xs.getD 2 0))])) t
        exact k
      exact ⟨_, _, X0, e0, N0, fun t k => (own_k (f := fun (z : Int32) => mkF m 13 #[.val (.ref a0), .val (.int (2 : Int32))] [(.int z)]) (if_pos hc1) k)⟩
    · skip
      refine ORch.go (T' := s₁) (g' := (mkF m 12 #[.val (.ref a0), .val (.int (2 : Int32))] [])) (fun t k => ?_) ?_
      · show Steps p.tables e below (s₁.setTop (mkF m 3 #[.val (.ref a0), .val (.int (2 : Int32))] [(.int na), (.int (2 : Int32))])) t
        refine XS.icmpYes X0.here hx rfl (pc0 := 3) (pc' := 12) rfl (hb hby d1_3) rfl (flt (hc1)).2.1 (by decide) (by decide) ?_
        show Steps p.tables e below (s₁.setTop (mkF m 12 #[.val (.ref a0), .val (.int (2 : Int32))] [])) t
        exact k
      refine ORch.go (T' := s₁) (g' := (mkF m 13 #[.val (.ref a0), .val (.int (2 : Int32))] [(.int (-1 : Int32))])) (fun t k => ?_) ?_
      · show Steps p.tables e below (s₁.setTop (mkF m 12 #[.val (.ref a0), .val (.int (2 : Int32))] [])) t
        refine XS.iconst X0.here hx rfl (hb hby d1_12) ?_
        show Steps p.tables e below (s₁.setTop (mkF m 13 #[.val (.ref a0), .val (.int (2 : Int32))] [(.int (-1 : Int32))])) t
        exact k
      exact ⟨_, _, X0, e0, N0, fun t k => (own_k (f := fun (z : Int32) => mkF m 13 #[.val (.ref a0), .val (.int (2 : Int32))] [(.int z)]) (if_neg hc1) k)⟩
  refine OEnd.go (g' := (mkF m 13 #[.val (.ref a0), .val (.int (2 : Int32))] [(.int (if (2 : Int32) < na then (xs.getD 2 0) else (-1 : Int32)))])) st2 ?_
  exact OEnd.int X2 hx Bd.returns hlk (hb hby d1_13) ⟨rfl, N2, e2⟩ (by decide) (by decide)
theorem d3_0 : decode prog_43_method_6_code 0 = .ok (.iconst 0, 1) := by decide +kernel
theorem d3_1 : decode prog_43_method_6_code 1 = .ok (.istore_n 2, 1) := by decide +kernel
theorem d3_2 : decode prog_43_method_6_code 2 = .ok (.aload_n 0, 1) := by decide +kernel
theorem d3_3 : decode prog_43_method_6_code 3 = .ok (.astore_n 3, 1) := by decide +kernel
theorem d3_4 : decode prog_43_method_6_code 4 = .ok (.aload_n 3, 1) := by decide +kernel
theorem d3_5 : decode prog_43_method_6_code 5 = .ok (.arraylength, 1) := by decide +kernel
theorem d3_6 : decode prog_43_method_6_code 6 = .ok (.istore 4, 2) := by decide +kernel
theorem d3_8 : decode prog_43_method_6_code 8 = .ok (.iconst 0, 1) := by decide +kernel
theorem d3_9 : decode prog_43_method_6_code 9 = .ok (.istore 5, 2) := by decide +kernel
theorem d3_11 : decode prog_43_method_6_code 11 = .ok (.iload 5, 2) := by decide +kernel
theorem d3_13 : decode prog_43_method_6_code 13 = .ok (.iload 4, 2) := by decide +kernel
theorem d3_15 : decode prog_43_method_6_code 15 = .ok (.if_icmp .ge 67, 3) := by decide +kernel
theorem d3_18 : decode prog_43_method_6_code 18 = .ok (.aload_n 3, 1) := by decide +kernel
theorem d3_19 : decode prog_43_method_6_code 19 = .ok (.iload 5, 2) := by decide +kernel
theorem d3_21 : decode prog_43_method_6_code 21 = .ok (.iaload, 1) := by decide +kernel
theorem d3_22 : decode prog_43_method_6_code 22 = .ok (.istore 6, 2) := by decide +kernel
theorem d3_24 : decode prog_43_method_6_code 24 = .ok (.iload_n 2, 1) := by decide +kernel
theorem d3_25 : decode prog_43_method_6_code 25 = .ok (.aload_n 1, 1) := by decide +kernel
theorem d3_26 : decode prog_43_method_6_code 26 = .ok (.arraylength, 1) := by decide +kernel
theorem d3_27 : decode prog_43_method_6_code 27 = .ok (.if_icmp .ge 21, 3) := by decide +kernel
theorem d3_30 : decode prog_43_method_6_code 30 = .ok (.aload_n 1, 1) := by decide +kernel
theorem d3_31 : decode prog_43_method_6_code 31 = .ok (.iload_n 2, 1) := by decide +kernel
theorem d3_32 : decode prog_43_method_6_code 32 = .ok (.iaload, 1) := by decide +kernel
theorem d3_33 : decode prog_43_method_6_code 33 = .ok (.iconst 2, 1) := by decide +kernel
theorem d3_34 : decode prog_43_method_6_code 34 = .ok (.idiv, 1) := by decide +kernel
theorem d3_35 : decode prog_43_method_6_code 35 = .ok (.iload 6, 2) := by decide +kernel
theorem d3_37 : decode prog_43_method_6_code 37 = .ok (.iconst 2, 1) := by decide +kernel
theorem d3_38 : decode prog_43_method_6_code 38 = .ok (.idiv, 1) := by decide +kernel
theorem d3_39 : decode prog_43_method_6_code 39 = .ok (.if_icmp .ge 9, 3) := by decide +kernel
theorem d3_42 : decode prog_43_method_6_code 42 = .ok (.iinc 2 1, 3) := by decide +kernel
theorem d3_45 : decode prog_43_method_6_code 45 = .ok (.goto (-21), 3) := by decide +kernel
theorem d3_48 : decode prog_43_method_6_code 48 = .ok (.iload_n 2, 1) := by decide +kernel
theorem d3_49 : decode prog_43_method_6_code 49 = .ok (.aload_n 1, 1) := by decide +kernel
theorem d3_50 : decode prog_43_method_6_code 50 = .ok (.arraylength, 1) := by decide +kernel
theorem d3_51 : decode prog_43_method_6_code 51 = .ok (.if_icmp .ge 25, 3) := by decide +kernel
theorem d3_76 : decode prog_43_method_6_code 76 = .ok (.iinc 5 1, 3) := by decide +kernel
theorem d3_79 : decode prog_43_method_6_code 79 = .ok (.goto (-68), 3) := by decide +kernel
theorem d3_54 : decode prog_43_method_6_code 54 = .ok (.aload_n 1, 1) := by decide +kernel
theorem d3_55 : decode prog_43_method_6_code 55 = .ok (.iload_n 2, 1) := by decide +kernel
theorem d3_56 : decode prog_43_method_6_code 56 = .ok (.iaload, 1) := by decide +kernel
theorem d3_57 : decode prog_43_method_6_code 57 = .ok (.iconst 2, 1) := by decide +kernel
theorem d3_58 : decode prog_43_method_6_code 58 = .ok (.idiv, 1) := by decide +kernel
theorem d3_59 : decode prog_43_method_6_code 59 = .ok (.iload 6, 2) := by decide +kernel
theorem d3_61 : decode prog_43_method_6_code 61 = .ok (.iconst 2, 1) := by decide +kernel
theorem d3_62 : decode prog_43_method_6_code 62 = .ok (.idiv, 1) := by decide +kernel
theorem d3_63 : decode prog_43_method_6_code 63 = .ok (.if_icmp .ne 13, 3) := by decide +kernel
theorem d3_66 : decode prog_43_method_6_code 66 = .ok (.aload_n 1, 1) := by decide +kernel
theorem d3_67 : decode prog_43_method_6_code 67 = .ok (.iload_n 2, 1) := by decide +kernel
theorem d3_68 : decode prog_43_method_6_code 68 = .ok (.iaload, 1) := by decide +kernel
theorem d3_69 : decode prog_43_method_6_code 69 = .ok (.iload 6, 2) := by decide +kernel
theorem d3_71 : decode prog_43_method_6_code 71 = .ok (.if_icmp .eq 5, 3) := by decide +kernel
theorem d3_74 : decode prog_43_method_6_code 74 = .ok (.iconst 0, 1) := by decide +kernel
theorem d3_82 : decode prog_43_method_6_code 82 = .ok (.iconst 1, 1) := by decide +kernel
theorem d3_83 : decode prog_43_method_6_code 83 = .ok (.ireturn, 1) := by decide +kernel
theorem d3_75 : decode prog_43_method_6_code 75 = .ok (.ireturn, 1) := by decide +kernel
theorem pn_com_example_nuthatch_nuthatch_logic_Demands : plainName "com/example/nuthatch/nuthatch/logic/Demands" = true := by first | (simp [plainName, overriddenIn]; done) | decide +kernel
theorem ef_3 (m : MethodId) (x0 : Addr) (x1 : Addr) : entryFrame m #[(.ref x0), (.ref x1)] 7 = mkF m 0 #[.val (.ref x0), .val (.ref x1), .unset, .unset, .unset, .unset, .unset] [] := by first | (simp [entryFrame, mkF, argsToLocals, Value.category]; done) | rfl
def Q3 (Z : State) (a0 : Addr) (a1 : Addr) (xs : List Int32) (ys : List Int32) (na : Int32) (nb : Int32) (h0 : Heap) (n0 : Nat) (v : Option Value) (h : Heap) (L : List Loc) : Prop := v = some (.int (nar .boolean (ag xs ys))) ∧ Fr n0 L ∧ h = h0
set_option maxRecDepth 65536 in
set_option maxHeartbeats 40000000 in
theorem rm3 (l : Launch) (Z : State) (aZ : Array Value) (hw : ∀ d ∈ tables_1, d.before aZ Z = true) (ws : List Jvm.Cond) (a0 : Addr) (a1 : Addr) (xs : List Int32) (ys : List Int32) (na : Int32) (nb : Int32) (h0 : Heap) (n0 : Nat) (Z0 : n0 ≤ h0.size) (A0 : OArr Z h0 a0 .int na (xs.map Value.int) (.int (0 : Int32))) (A1 : OArr Z h0 a1 .int nb (ys.map Value.int) (.int (0 : Int32))) (hna : na = Int32.ofNat xs.length) (hnb : nb = Int32.ofNat ys.length) (lx : xs.length < 2147483648) (ly : ys.length < 2147483648) :
    MetFree l (⟨"com/example/nuthatch/nuthatch/logic/Demands", "agree", "([I[I)Z"⟩ : MethodName) (head1 (Jvm.Cond.code (⟨"com/example/nuthatch/nuthatch/logic/Demands", "agree", "([I[I)Z"⟩ : MethodName) prog_43_method_6_code 7 (some .boolean) :: ws) ({ frames := 0, cells := 0, slots := 0, locals := 0 } : Room)) (fun a U => a = #[(.ref a0), (.ref a1)] ∧ Z.Warmed39 U.vm ∧ U.heap = h0) (fun _ _ _ _ _ => True) (fun _ U o U' => ∃ v L, o = .returned v ∧ Q3 Z a0 a1 xs ys na nb h0 n0 v U'.heap L ∧ FrameEnd U o U' L ({ frames := 0, cells := 0, slots := 0, locals := 0 } : Room).cells ({ frames := 0, cells := 0, slots := 0, locals := 0 } : Room).slots) := by
  refine MetFree.of_bodySF (plainFor_of_name pn_com_example_nuthatch_nuthatch_logic_Demands) hisR ?_
  intro p e s m args below meth c s₁ Bd hml0 hP hK
  obtain ⟨rfl, hZ, hh⟩ := hP
  have hx := Bd.exec
  have hby := Bd.bytes
  have hlk : meth.locks = false := BodyLoose.notSynchronized Bd
  have hml : c.maxLocals = 7 := hml0
  have hown : s.vm.findClass "com/example/nuthatch/nuthatch/logic/Demands" = some m.cls := findClass_of_methodNamed Bd.named
  have hnm := (name_of_methodNamed Bd.named Bd.method).1
  have X0 : Stand p l e ({ frames := 0, cells := 0, slots := 0, locals := 0 } : Room) s m #[(.ref a0), (.ref a1)] below meth c s₁ [] 0 0 := Stand.of_body Bd
  have e0 : s₁.heap = h0 := by rw [← hh, Bd.state]; rfl
  have N0 := Fr.nil n0
  show OEnd p e below s s₁ (entryFrame m #[(.ref a0), (.ref a1)] 7) (Q3 Z a0 a1 xs ys na nb h0 n0) ({ frames := 0, cells := 0, slots := 0, locals := 0 } : Room).cells ({ frames := 0, cells := 0, slots := 0, locals := 0 } : Room).slots
  refine OEnd.go (g' := (mkF m 0 #[.val (.ref a0), .val (.ref a1), .unset, .unset, .unset, .unset, .unset] [])) (fun _ k => castTop (ef_3 m a0 a1) k) ?_
  obtain ⟨k0, c0, Ar0, q0, S0, M0, H0, G0⟩ := A0
  obtain ⟨k1, c1, Ar1, q1, S1, M1, H1, G1⟩ := A1
  have sgS : ∀ (u : Unit), Goes p e below s₁ (mkF m 0 #[.val (.ref a0), .val (.ref a1), .unset, .unset, .unset, .unset, .unset] []) s₁ (mkF m 11 #[.val (.ref a0), .val (.ref a1), .val (.int (0 : Int32)), .val (.ref a0), .val (.int na), .val (.int (0 : Int32)), .unset] []) := by
    intro u t k
    refine SGo.go (T' := s₁) (g' := (mkF m 5 #[.val (.ref a0), .val (.ref a1), .val (.int (0 : Int32)), .val (.ref a0), .unset, .unset, .unset] [(.ref a0)])) (fun t k => ?_) ?_
    · show Steps p.tables e below (s₁.setTop (mkF m 0 #[.val (.ref a0), .val (.ref a1), .unset, .unset, .unset, .unset, .unset] [])) t
      refine XS.iconst X0.here hx rfl (hb hby d3_0) ?_
      show Steps p.tables e below (s₁.setTop (mkF m 1 #[.val (.ref a0), .val (.ref a1), .unset, .unset, .unset, .unset, .unset] [(.int (0 : Int32))])) t
      refine XS.istoreN X0.here hx rfl (hb hby d3_1) rfl (l' := #[.val (.ref a0), .val (.ref a1), .val (.int (0 : Int32)), .unset, .unset, .unset, .unset]) rfl ?_
      show Steps p.tables e below (s₁.setTop (mkF m 2 #[.val (.ref a0), .val (.ref a1), .val (.int (0 : Int32)), .unset, .unset, .unset, .unset] [])) t
      refine XS.aloadN X0.here hx rfl (hb hby d3_2) rfl rfl ?_
      show Steps p.tables e below (s₁.setTop (mkF m 3 #[.val (.ref a0), .val (.ref a1), .val (.int (0 : Int32)), .unset, .unset, .unset, .unset] [(.ref a0)])) t
      refine XS.astoreN X0.here hx rfl (hb hby d3_3) rfl rfl (l' := #[.val (.ref a0), .val (.ref a1), .val (.int (0 : Int32)), .val (.ref a0), .unset, .unset, .unset]) rfl ?_
      show Steps p.tables e below (s₁.setTop (mkF m 4 #[.val (.ref a0), .val (.ref a1), .val (.int (0 : Int32)), .val (.ref a0), .unset, .unset, .unset] [])) t
      refine XS.aloadN X0.here hx rfl (hb hby d3_4) rfl rfl ?_
      show Steps p.tables e below (s₁.setTop (mkF m 5 #[.val (.ref a0), .val (.ref a1), .val (.int (0 : Int32)), .val (.ref a0), .unset, .unset, .unset] [(.ref a0)])) t
      exact k
    refine SGo.go (T' := s₁) (g' := (mkF m 6 #[.val (.ref a0), .val (.ref a1), .val (.int (0 : Int32)), .val (.ref a0), .unset, .unset, .unset] [(.int na)])) (fun t k => ?_) ?_
    · refine X0.arraylength hx (by rw [e0]; exact Ar0.1) (State.isArrayOf_alike hZ.alike Ar0.2.1) (g := (mkF m 5 #[.val (.ref a0), .val (.ref a1), .val (.int (0 : Int32)), .val (.ref a0), .unset, .unset, .unset] [(.ref a0)])) rfl rfl (hb hby d3_5) _ ?_
      rw [len_of S0 M0]
      exact k
    refine SGo.go (T' := s₁) (g' := (mkF m 11 #[.val (.ref a0), .val (.ref a1), .val (.int (0 : Int32)), .val (.ref a0), .val (.int na), .val (.int (0 : Int32)), .unset] [])) (fun t k => ?_) ?_
    · show Steps p.tables e below (s₁.setTop (mkF m 6 #[.val (.ref a0), .val (.ref a1), .val (.int (0 : Int32)), .val (.ref a0), .unset, .unset, .unset] [(.int na)])) t
      refine XS.istore X0.here hx rfl (hb hby d3_6) rfl (l' := #[.val (.ref a0), .val (.ref a1), .val (.int (0 : Int32)), .val (.ref a0), .val (.int na), .unset, .unset]) rfl ?_
      show Steps p.tables e below (s₁.setTop (mkF m 8 #[.val (.ref a0), .val (.ref a1), .val (.int (0 : Int32)), .val (.ref a0), .val (.int na), .unset, .unset] [])) t
      refine XS.iconst X0.here hx rfl (hb hby d3_8) ?_
      show Steps p.tables e below (s₁.setTop (mkF m 9 #[.val (.ref a0), .val (.ref a1), .val (.int (0 : Int32)), .val (.ref a0), .val (.int na), .unset, .unset] [(.int (0 : Int32))])) t
      refine XS.istore X0.here hx rfl (hb hby d3_9) rfl (l' := #[.val (.ref a0), .val (.ref a1), .val (.int (0 : Int32)), .val (.ref a0), .val (.int na), .val (.int (0 : Int32)), .unset]) rfl ?_
      show Steps p.tables e below (s₁.setTop (mkF m 11 #[.val (.ref a0), .val (.ref a1), .val (.int (0 : Int32)), .val (.ref a0), .val (.int na), .val (.int (0 : Int32)), .unset] [])) t
      exact k
    exact k
  have sgAu : ∀ (i j : Nat) (x : Int32) (hx0 : xs[i]? = some x) (hi : (Int32.ofNat i) < na), Goes p e below s₁ (mkF m 11 #[.val (.ref a0), .val (.ref a1), .val (.int (Int32.ofNat j)), .val (.ref a0), .val (.int na), .val (.int (Int32.ofNat i)), .unset] []) s₁ (mkF m 24 #[.val (.ref a0), .val (.ref a1), .val (.int (Int32.ofNat j)), .val (.ref a0), .val (.int na), .val (.int (Int32.ofNat i)), .val (.int x)] []) := by
    intro i j x hx0 hi t k
    refine SGo.go (T' := s₁) (g' := (mkF m 21 #[.val (.ref a0), .val (.ref a1), .val (.int (Int32.ofNat j)), .val (.ref a0), .val (.int na), .val (.int (Int32.ofNat i)), .unset] [(.int (Int32.ofNat i)), (.ref a0)])) (fun t k => ?_) ?_
    · show Steps p.tables e below (s₁.setTop (mkF m 11 #[.val (.ref a0), .val (.ref a1), .val (.int (Int32.ofNat j)), .val (.ref a0), .val (.int na), .val (.int (Int32.ofNat i)), .unset] [])) t
      refine XS.iload X0.here hx rfl (hb hby d3_11) rfl ?_
      show Steps p.tables e below (s₁.setTop (mkF m 13 #[.val (.ref a0), .val (.ref a1), .val (.int (Int32.ofNat j)), .val (.ref a0), .val (.int na), .val (.int (Int32.ofNat i)), .unset] [(.int (Int32.ofNat i))])) t
      refine XS.iload X0.here hx rfl (hb hby d3_13) rfl ?_
      show Steps p.tables e below (s₁.setTop (mkF m 15 #[.val (.ref a0), .val (.ref a1), .val (.int (Int32.ofNat j)), .val (.ref a0), .val (.int na), .val (.int (Int32.ofNat i)), .unset] [(.int na), (.int (Int32.ofNat i))])) t
      refine XS.icmpNo X0.here hx rfl (hb hby d3_15) rfl (tlt (hi)).2.1 ?_
      show Steps p.tables e below (s₁.setTop (mkF m 18 #[.val (.ref a0), .val (.ref a1), .val (.int (Int32.ofNat j)), .val (.ref a0), .val (.int na), .val (.int (Int32.ofNat i)), .unset] [])) t
      refine XS.aloadN X0.here hx rfl (hb hby d3_18) rfl rfl ?_
      show Steps p.tables e below (s₁.setTop (mkF m 19 #[.val (.ref a0), .val (.ref a1), .val (.int (Int32.ofNat j)), .val (.ref a0), .val (.int na), .val (.int (Int32.ofNat i)), .unset] [(.ref a0)])) t
      refine XS.iload X0.here hx rfl (hb hby d3_19) rfl ?_
      show Steps p.tables e below (s₁.setTop (mkF m 21 #[.val (.ref a0), .val (.ref a1), .val (.int (Int32.ofNat j)), .val (.ref a0), .val (.int na), .val (.int (Int32.ofNat i)), .unset] [(.int (Int32.ofNat i)), (.ref a0)])) t
      exact k
    refine SGo.go (T' := s₁) (g' := (mkF m 22 #[.val (.ref a0), .val (.ref a1), .val (.int (Int32.ofNat j)), .val (.ref a0), .val (.int na), .val (.int (Int32.ofNat i)), .unset] [(.int x)])) (fun t k => ?_) ?_
    · refine X0.iaload hx (j := (Int32.ofNat i)) (v := (.int x)) (by rw [e0]; exact Ar0.1) (State.isArrayOf_alike hZ.alike Ar0.2.1) Ar0.2.2 (own_read S0 hna lx H0 hx0).1 (own_read S0 hna lx H0 hx0).2 (g := (mkF m 21 #[.val (.ref a0), .val (.ref a1), .val (.int (Int32.ofNat j)), .val (.ref a0), .val (.int na), .val (.int (Int32.ofNat i)), .unset] [(.int (Int32.ofNat i)), (.ref a0)])) rfl rfl (hb hby d3_21) _ ?_
      exact k
    refine SGo.go (T' := s₁) (g' := (mkF m 24 #[.val (.ref a0), .val (.ref a1), .val (.int (Int32.ofNat j)), .val (.ref a0), .val (.int na), .val (.int (Int32.ofNat i)), .val (.int x)] [])) (fun t k => ?_) ?_
    · show Steps p.tables e below (s₁.setTop (mkF m 22 #[.val (.ref a0), .val (.ref a1), .val (.int (Int32.ofNat j)), .val (.ref a0), .val (.int na), .val (.int (Int32.ofNat i)), .unset] [(.int x)])) t
      refine XS.istore X0.here hx rfl (hb hby d3_22) rfl (l' := #[.val (.ref a0), .val (.ref a1), .val (.int (Int32.ofNat j)), .val (.ref a0), .val (.int na), .val (.int (Int32.ofNat i)), .val (.int x)]) rfl ?_
      show Steps p.tables e below (s₁.setTop (mkF m 24 #[.val (.ref a0), .val (.ref a1), .val (.int (Int32.ofNat j)), .val (.ref a0), .val (.int na), .val (.int (Int32.ofNat i)), .val (.int x)] [])) t
      exact k
    exact k
  have sgXu : ∀ (i j : Nat) (hi : ¬ ((Int32.ofNat i) < na)), Goes p e below s₁ (mkF m 11 #[.val (.ref a0), .val (.ref a1), .val (.int (Int32.ofNat j)), .val (.ref a0), .val (.int na), .val (.int (Int32.ofNat i)), .unset] []) s₁ (mkF m 82 #[.val (.ref a0), .val (.ref a1), .val (.int (Int32.ofNat j)), .val (.ref a0), .val (.int na), .val (.int (Int32.ofNat i)), .unset] []) := by
    intro i j hi t k
    refine SGo.go (T' := s₁) (g' := (mkF m 82 #[.val (.ref a0), .val (.ref a1), .val (.int (Int32.ofNat j)), .val (.ref a0), .val (.int na), .val (.int (Int32.ofNat i)), .unset] [])) (fun t k => ?_) ?_
    · show Steps p.tables e below (s₁.setTop (mkF m 11 #[.val (.ref a0), .val (.ref a1), .val (.int (Int32.ofNat j)), .val (.ref a0), .val (.int na), .val (.int (Int32.ofNat i)), .unset] [])) t
      refine XS.iload X0.here hx rfl (hb hby d3_11) rfl ?_
      show Steps p.tables e below (s₁.setTop (mkF m 13 #[.val (.ref a0), .val (.ref a1), .val (.int (Int32.ofNat j)), .val (.ref a0), .val (.int na), .val (.int (Int32.ofNat i)), .unset] [(.int (Int32.ofNat i))])) t
      refine XS.iload X0.here hx rfl (hb hby d3_13) rfl ?_
      show Steps p.tables e below (s₁.setTop (mkF m 15 #[.val (.ref a0), .val (.ref a1), .val (.int (Int32.ofNat j)), .val (.ref a0), .val (.int na), .val (.int (Int32.ofNat i)), .unset] [(.int na), (.int (Int32.ofNat i))])) t
      refine XS.icmpYes X0.here hx rfl (pc0 := 15) (pc' := 82) rfl (hb hby d3_15) rfl (flt (hi)).2.1 (by decide) (by decide) ?_
      show Steps p.tables e below (s₁.setTop (mkF m 82 #[.val (.ref a0), .val (.ref a1), .val (.int (Int32.ofNat j)), .val (.ref a0), .val (.int na), .val (.int (Int32.ofNat i)), .unset] [])) t
      exact k
    exact k
  have sgAv : ∀ (i j : Nat) (x : Int32) (z : Int32) (hx0 : xs[i]? = some x) (hi : (Int32.ofNat i) < na), Goes p e below s₁ (mkF m 11 #[.val (.ref a0), .val (.ref a1), .val (.int (Int32.ofNat j)), .val (.ref a0), .val (.int na), .val (.int (Int32.ofNat i)), .val (.int z)] []) s₁ (mkF m 24 #[.val (.ref a0), .val (.ref a1), .val (.int (Int32.ofNat j)), .val (.ref a0), .val (.int na), .val (.int (Int32.ofNat i)), .val (.int x)] []) := by
    intro i j x z hx0 hi t k
    refine SGo.go (T' := s₁) (g' := (mkF m 21 #[.val (.ref a0), .val (.ref a1), .val (.int (Int32.ofNat j)), .val (.ref a0), .val (.int na), .val (.int (Int32.ofNat i)), .val (.int z)] [(.int (Int32.ofNat i)), (.ref a0)])) (fun t k => ?_) ?_
    · show Steps p.tables e below (s₁.setTop (mkF m 11 #[.val (.ref a0), .val (.ref a1), .val (.int (Int32.ofNat j)), .val (.ref a0), .val (.int na), .val (.int (Int32.ofNat i)), .val (.int z)] [])) t
      refine XS.iload X0.here hx rfl (hb hby d3_11) rfl ?_
      show Steps p.tables e below (s₁.setTop (mkF m 13 #[.val (.ref a0), .val (.ref a1), .val (.int (Int32.ofNat j)), .val (.ref a0), .val (.int na), .val (.int (Int32.ofNat i)), .val (.int z)] [(.int (Int32.ofNat i))])) t
      refine XS.iload X0.here hx rfl (hb hby d3_13) rfl ?_
      show Steps p.tables e below (s₁.setTop (mkF m 15 #[.val (.ref a0), .val (.ref a1), .val (.int (Int32.ofNat j)), .val (.ref a0), .val (.int na), .val (.int (Int32.ofNat i)), .val (.int z)] [(.int na), (.int (Int32.ofNat i))])) t
      refine XS.icmpNo X0.here hx rfl (hb hby d3_15) rfl (tlt (hi)).2.1 ?_
      show Steps p.tables e below (s₁.setTop (mkF m 18 #[.val (.ref a0), .val (.ref a1), .val (.int (Int32.ofNat j)), .val (.ref a0), .val (.int na), .val (.int (Int32.ofNat i)), .val (.int z)] [])) t
      refine XS.aloadN X0.here hx rfl (hb hby d3_18) rfl rfl ?_
      show Steps p.tables e below (s₁.setTop (mkF m 19 #[.val (.ref a0), .val (.ref a1), .val (.int (Int32.ofNat j)), .val (.ref a0), .val (.int na), .val (.int (Int32.ofNat i)), .val (.int z)] [(.ref a0)])) t
      refine XS.iload X0.here hx rfl (hb hby d3_19) rfl ?_
      show Steps p.tables e below (s₁.setTop (mkF m 21 #[.val (.ref a0), .val (.ref a1), .val (.int (Int32.ofNat j)), .val (.ref a0), .val (.int na), .val (.int (Int32.ofNat i)), .val (.int z)] [(.int (Int32.ofNat i)), (.ref a0)])) t
      exact k
    refine SGo.go (T' := s₁) (g' := (mkF m 22 #[.val (.ref a0), .val (.ref a1), .val (.int (Int32.ofNat j)), .val (.ref a0), .val (.int na), .val (.int (Int32.ofNat i)), .val (.int z)] [(.int x)])) (fun t k => ?_) ?_
    · refine X0.iaload hx (j := (Int32.ofNat i)) (v := (.int x)) (by rw [e0]; exact Ar0.1) (State.isArrayOf_alike hZ.alike Ar0.2.1) Ar0.2.2 (own_read S0 hna lx H0 hx0).1 (own_read S0 hna lx H0 hx0).2 (g := (mkF m 21 #[.val (.ref a0), .val (.ref a1), .val (.int (Int32.ofNat j)), .val (.ref a0), .val (.int na), .val (.int (Int32.ofNat i)), .val (.int z)] [(.int (Int32.ofNat i)), (.ref a0)])) rfl rfl (hb hby d3_21) _ ?_
      exact k
    refine SGo.go (T' := s₁) (g' := (mkF m 24 #[.val (.ref a0), .val (.ref a1), .val (.int (Int32.ofNat j)), .val (.ref a0), .val (.int na), .val (.int (Int32.ofNat i)), .val (.int x)] [])) (fun t k => ?_) ?_
    · show Steps p.tables e below (s₁.setTop (mkF m 22 #[.val (.ref a0), .val (.ref a1), .val (.int (Int32.ofNat j)), .val (.ref a0), .val (.int na), .val (.int (Int32.ofNat i)), .val (.int z)] [(.int x)])) t
      refine XS.istore X0.here hx rfl (hb hby d3_22) rfl (l' := #[.val (.ref a0), .val (.ref a1), .val (.int (Int32.ofNat j)), .val (.ref a0), .val (.int na), .val (.int (Int32.ofNat i)), .val (.int x)]) rfl ?_
      show Steps p.tables e below (s₁.setTop (mkF m 24 #[.val (.ref a0), .val (.ref a1), .val (.int (Int32.ofNat j)), .val (.ref a0), .val (.int na), .val (.int (Int32.ofNat i)), .val (.int x)] [])) t
      exact k
    exact k
  have sgXv : ∀ (i j : Nat) (z : Int32) (hi : ¬ ((Int32.ofNat i) < na)), Goes p e below s₁ (mkF m 11 #[.val (.ref a0), .val (.ref a1), .val (.int (Int32.ofNat j)), .val (.ref a0), .val (.int na), .val (.int (Int32.ofNat i)), .val (.int z)] []) s₁ (mkF m 82 #[.val (.ref a0), .val (.ref a1), .val (.int (Int32.ofNat j)), .val (.ref a0), .val (.int na), .val (.int (Int32.ofNat i)), .val (.int z)] []) := by
    intro i j z hi t k
    refine SGo.go (T' := s₁) (g' := (mkF m 82 #[.val (.ref a0), .val (.ref a1), .val (.int (Int32.ofNat j)), .val (.ref a0), .val (.int na), .val (.int (Int32.ofNat i)), .val (.int z)] [])) (fun t k => ?_) ?_
    · show Steps p.tables e below (s₁.setTop (mkF m 11 #[.val (.ref a0), .val (.ref a1), .val (.int (Int32.ofNat j)), .val (.ref a0), .val (.int na), .val (.int (Int32.ofNat i)), .val (.int z)] [])) t
      refine XS.iload X0.here hx rfl (hb hby d3_11) rfl ?_
      show Steps p.tables e below (s₁.setTop (mkF m 13 #[.val (.ref a0), .val (.ref a1), .val (.int (Int32.ofNat j)), .val (.ref a0), .val (.int na), .val (.int (Int32.ofNat i)), .val (.int z)] [(.int (Int32.ofNat i))])) t
      refine XS.iload X0.here hx rfl (hb hby d3_13) rfl ?_
      show Steps p.tables e below (s₁.setTop (mkF m 15 #[.val (.ref a0), .val (.ref a1), .val (.int (Int32.ofNat j)), .val (.ref a0), .val (.int na), .val (.int (Int32.ofNat i)), .val (.int z)] [(.int na), (.int (Int32.ofNat i))])) t
      refine XS.icmpYes X0.here hx rfl (pc0 := 15) (pc' := 82) rfl (hb hby d3_15) rfl (flt (hi)).2.1 (by decide) (by decide) ?_
      show Steps p.tables e below (s₁.setTop (mkF m 82 #[.val (.ref a0), .val (.ref a1), .val (.int (Int32.ofNat j)), .val (.ref a0), .val (.int na), .val (.int (Int32.ofNat i)), .val (.int z)] [])) t
      exact k
    exact k
  have sgB1 : ∀ (i j : Nat) (x y : Int32) (hy0 : ys[j]? = some y) (hj : (Int32.ofNat j) < nb) (hc : (y / (2 : Int32)) < (x / (2 : Int32))), Goes p e below s₁ (mkF m 24 #[.val (.ref a0), .val (.ref a1), .val (.int (Int32.ofNat j)), .val (.ref a0), .val (.int na), .val (.int (Int32.ofNat i)), .val (.int x)] []) s₁ (mkF m 24 #[.val (.ref a0), .val (.ref a1), .val (.int ((Int32.ofNat j) + (1 : Int32))), .val (.ref a0), .val (.int na), .val (.int (Int32.ofNat i)), .val (.int x)] []) := by
    intro i j x y hy0 hj hc t k
    refine SGo.go (T' := s₁) (g' := (mkF m 26 #[.val (.ref a0), .val (.ref a1), .val (.int (Int32.ofNat j)), .val (.ref a0), .val (.int na), .val (.int (Int32.ofNat i)), .val (.int x)] [(.ref a1), (.int (Int32.ofNat j))])) (fun t k => ?_) ?_
    · show Steps p.tables e below (s₁.setTop (mkF m 24 #[.val (.ref a0), .val (.ref a1), .val (.int (Int32.ofNat j)), .val (.ref a0), .val (.int na), .val (.int (Int32.ofNat i)), .val (.int x)] [])) t
      refine XS.iloadN X0.here hx rfl (hb hby d3_24) rfl ?_
      show Steps p.tables e below (s₁.setTop (mkF m 25 #[.val (.ref a0), .val (.ref a1), .val (.int (Int32.ofNat j)), .val (.ref a0), .val (.int na), .val (.int (Int32.ofNat i)), .val (.int x)] [(.int (Int32.ofNat j))])) t
      refine XS.aloadN X0.here hx rfl (hb hby d3_25) rfl rfl ?_
      show Steps p.tables e below (s₁.setTop (mkF m 26 #[.val (.ref a0), .val (.ref a1), .val (.int (Int32.ofNat j)), .val (.ref a0), .val (.int na), .val (.int (Int32.ofNat i)), .val (.int x)] [(.ref a1), (.int (Int32.ofNat j))])) t
      exact k
    refine SGo.go (T' := s₁) (g' := (mkF m 27 #[.val (.ref a0), .val (.ref a1), .val (.int (Int32.ofNat j)), .val (.ref a0), .val (.int na), .val (.int (Int32.ofNat i)), .val (.int x)] [(.int nb), (.int (Int32.ofNat j))])) (fun t k => ?_) ?_
    · refine X0.arraylength hx (by rw [e0]; exact Ar1.1) (State.isArrayOf_alike hZ.alike Ar1.2.1) (g := (mkF m 26 #[.val (.ref a0), .val (.ref a1), .val (.int (Int32.ofNat j)), .val (.ref a0), .val (.int na), .val (.int (Int32.ofNat i)), .val (.int x)] [(.ref a1), (.int (Int32.ofNat j))])) rfl rfl (hb hby d3_26) _ ?_
      rw [len_of S1 M1]
      exact k
    refine SGo.go (T' := s₁) (g' := (mkF m 32 #[.val (.ref a0), .val (.ref a1), .val (.int (Int32.ofNat j)), .val (.ref a0), .val (.int na), .val (.int (Int32.ofNat i)), .val (.int x)] [(.int (Int32.ofNat j)), (.ref a1)])) (fun t k => ?_) ?_
    · show Steps p.tables e below (s₁.setTop (mkF m 27 #[.val (.ref a0), .val (.ref a1), .val (.int (Int32.ofNat j)), .val (.ref a0), .val (.int na), .val (.int (Int32.ofNat i)), .val (.int x)] [(.int nb), (.int (Int32.ofNat j))])) t
      refine XS.icmpNo X0.here hx rfl (hb hby d3_27) rfl (tlt (hj)).2.1 ?_
      show Steps p.tables e below (s₁.setTop (mkF m 30 #[.val (.ref a0), .val (.ref a1), .val (.int (Int32.ofNat j)), .val (.ref a0), .val (.int na), .val (.int (Int32.ofNat i)), .val (.int x)] [])) t
      refine XS.aloadN X0.here hx rfl (hb hby d3_30) rfl rfl ?_
      show Steps p.tables e below (s₁.setTop (mkF m 31 #[.val (.ref a0), .val (.ref a1), .val (.int (Int32.ofNat j)), .val (.ref a0), .val (.int na), .val (.int (Int32.ofNat i)), .val (.int x)] [(.ref a1)])) t
      refine XS.iloadN X0.here hx rfl (hb hby d3_31) rfl ?_
      show Steps p.tables e below (s₁.setTop (mkF m 32 #[.val (.ref a0), .val (.ref a1), .val (.int (Int32.ofNat j)), .val (.ref a0), .val (.int na), .val (.int (Int32.ofNat i)), .val (.int x)] [(.int (Int32.ofNat j)), (.ref a1)])) t
      exact k
    refine SGo.go (T' := s₁) (g' := (mkF m 33 #[.val (.ref a0), .val (.ref a1), .val (.int (Int32.ofNat j)), .val (.ref a0), .val (.int na), .val (.int (Int32.ofNat i)), .val (.int x)] [(.int y)])) (fun t k => ?_) ?_
    · refine X0.iaload hx (j := (Int32.ofNat j)) (v := (.int y)) (by rw [e0]; exact Ar1.1) (State.isArrayOf_alike hZ.alike Ar1.2.1) Ar1.2.2 (own_read S1 hnb ly H1 hy0).1 (own_read S1 hnb ly H1 hy0).2 (g := (mkF m 32 #[.val (.ref a0), .val (.ref a1), .val (.int (Int32.ofNat j)), .val (.ref a0), .val (.int na), .val (.int (Int32.ofNat i)), .val (.int x)] [(.int (Int32.ofNat j)), (.ref a1)])) rfl rfl (hb hby d3_32) _ ?_
      exact k
    refine SGo.go (T' := s₁) (g' := (mkF m 24 #[.val (.ref a0), .val (.ref a1), .val (.int ((Int32.ofNat j) + (1 : Int32))), .val (.ref a0), .val (.int na), .val (.int (Int32.ofNat i)), .val (.int x)] [])) (fun t k => ?_) ?_
    · show Steps p.tables e below (s₁.setTop (mkF m 33 #[.val (.ref a0), .val (.ref a1), .val (.int (Int32.ofNat j)), .val (.ref a0), .val (.int na), .val (.int (Int32.ofNat i)), .val (.int x)] [(.int y)])) t
      refine XS.iconst X0.here hx rfl (hb hby d3_33) ?_
      show Steps p.tables e below (s₁.setTop (mkF m 34 #[.val (.ref a0), .val (.ref a1), .val (.int (Int32.ofNat j)), .val (.ref a0), .val (.int na), .val (.int (Int32.ofNat i)), .val (.int x)] [(.int (2 : Int32)), (.int y)])) t
      refine XS.idiv X0.here hx rfl (hb hby d3_34) rfl (by decide) ?_
      show Steps p.tables e below (s₁.setTop (mkF m 35 #[.val (.ref a0), .val (.ref a1), .val (.int (Int32.ofNat j)), .val (.ref a0), .val (.int na), .val (.int (Int32.ofNat i)), .val (.int x)] [(.int (y / (2 : Int32)))])) t
      refine XS.iload X0.here hx rfl (hb hby d3_35) rfl ?_
      show Steps p.tables e below (s₁.setTop (mkF m 37 #[.val (.ref a0), .val (.ref a1), .val (.int (Int32.ofNat j)), .val (.ref a0), .val (.int na), .val (.int (Int32.ofNat i)), .val (.int x)] [(.int x), (.int (y / (2 : Int32)))])) t
      refine XS.iconst X0.here hx rfl (hb hby d3_37) ?_
      show Steps p.tables e below (s₁.setTop (mkF m 38 #[.val (.ref a0), .val (.ref a1), .val (.int (Int32.ofNat j)), .val (.ref a0), .val (.int na), .val (.int (Int32.ofNat i)), .val (.int x)] [(.int (2 : Int32)), (.int x), (.int (y / (2 : Int32)))])) t
      refine XS.idiv X0.here hx rfl (hb hby d3_38) rfl (by decide) ?_
      show Steps p.tables e below (s₁.setTop (mkF m 39 #[.val (.ref a0), .val (.ref a1), .val (.int (Int32.ofNat j)), .val (.ref a0), .val (.int na), .val (.int (Int32.ofNat i)), .val (.int x)] [(.int (x / (2 : Int32))), (.int (y / (2 : Int32)))])) t
      refine XS.icmpNo X0.here hx rfl (hb hby d3_39) rfl (tlt (hc)).2.1 ?_
      show Steps p.tables e below (s₁.setTop (mkF m 42 #[.val (.ref a0), .val (.ref a1), .val (.int (Int32.ofNat j)), .val (.ref a0), .val (.int na), .val (.int (Int32.ofNat i)), .val (.int x)] [])) t
      refine XS.iinc X0.here hx rfl (hb hby d3_42) rfl (l' := #[.val (.ref a0), .val (.ref a1), .val (.int ((Int32.ofNat j) + (1 : Int32))), .val (.ref a0), .val (.int na), .val (.int (Int32.ofNat i)), .val (.int x)]) rfl ?_
      show Steps p.tables e below (s₁.setTop (mkF m 45 #[.val (.ref a0), .val (.ref a1), .val (.int ((Int32.ofNat j) + (1 : Int32))), .val (.ref a0), .val (.int na), .val (.int (Int32.ofNat i)), .val (.int x)] [])) t
      refine XS.goto X0.here hx rfl (pc0 := 45) (pc' := 24) rfl (hb hby d3_45) (by decide) (by decide) ?_
      show Steps p.tables e below (s₁.setTop (mkF m 24 #[.val (.ref a0), .val (.ref a1), .val (.int ((Int32.ofNat j) + (1 : Int32))), .val (.ref a0), .val (.int na), .val (.int (Int32.ofNat i)), .val (.int x)] [])) t
      exact k
    exact k
  have sgB2 : ∀ (i j : Nat) (x : Int32) (hj : ¬ ((Int32.ofNat j) < nb)), Goes p e below s₁ (mkF m 24 #[.val (.ref a0), .val (.ref a1), .val (.int (Int32.ofNat j)), .val (.ref a0), .val (.int na), .val (.int (Int32.ofNat i)), .val (.int x)] []) s₁ (mkF m 48 #[.val (.ref a0), .val (.ref a1), .val (.int (Int32.ofNat j)), .val (.ref a0), .val (.int na), .val (.int (Int32.ofNat i)), .val (.int x)] []) := by
    intro i j x hj t k
    refine SGo.go (T' := s₁) (g' := (mkF m 26 #[.val (.ref a0), .val (.ref a1), .val (.int (Int32.ofNat j)), .val (.ref a0), .val (.int na), .val (.int (Int32.ofNat i)), .val (.int x)] [(.ref a1), (.int (Int32.ofNat j))])) (fun t k => ?_) ?_
    · show Steps p.tables e below (s₁.setTop (mkF m 24 #[.val (.ref a0), .val (.ref a1), .val (.int (Int32.ofNat j)), .val (.ref a0), .val (.int na), .val (.int (Int32.ofNat i)), .val (.int x)] [])) t
      refine XS.iloadN X0.here hx rfl (hb hby d3_24) rfl ?_
      show Steps p.tables e below (s₁.setTop (mkF m 25 #[.val (.ref a0), .val (.ref a1), .val (.int (Int32.ofNat j)), .val (.ref a0), .val (.int na), .val (.int (Int32.ofNat i)), .val (.int x)] [(.int (Int32.ofNat j))])) t
      refine XS.aloadN X0.here hx rfl (hb hby d3_25) rfl rfl ?_
      show Steps p.tables e below (s₁.setTop (mkF m 26 #[.val (.ref a0), .val (.ref a1), .val (.int (Int32.ofNat j)), .val (.ref a0), .val (.int na), .val (.int (Int32.ofNat i)), .val (.int x)] [(.ref a1), (.int (Int32.ofNat j))])) t
      exact k
    refine SGo.go (T' := s₁) (g' := (mkF m 27 #[.val (.ref a0), .val (.ref a1), .val (.int (Int32.ofNat j)), .val (.ref a0), .val (.int na), .val (.int (Int32.ofNat i)), .val (.int x)] [(.int nb), (.int (Int32.ofNat j))])) (fun t k => ?_) ?_
    · refine X0.arraylength hx (by rw [e0]; exact Ar1.1) (State.isArrayOf_alike hZ.alike Ar1.2.1) (g := (mkF m 26 #[.val (.ref a0), .val (.ref a1), .val (.int (Int32.ofNat j)), .val (.ref a0), .val (.int na), .val (.int (Int32.ofNat i)), .val (.int x)] [(.ref a1), (.int (Int32.ofNat j))])) rfl rfl (hb hby d3_26) _ ?_
      rw [len_of S1 M1]
      exact k
    refine SGo.go (T' := s₁) (g' := (mkF m 48 #[.val (.ref a0), .val (.ref a1), .val (.int (Int32.ofNat j)), .val (.ref a0), .val (.int na), .val (.int (Int32.ofNat i)), .val (.int x)] [])) (fun t k => ?_) ?_
    · show Steps p.tables e below (s₁.setTop (mkF m 27 #[.val (.ref a0), .val (.ref a1), .val (.int (Int32.ofNat j)), .val (.ref a0), .val (.int na), .val (.int (Int32.ofNat i)), .val (.int x)] [(.int nb), (.int (Int32.ofNat j))])) t
      refine XS.icmpYes X0.here hx rfl (pc0 := 27) (pc' := 48) rfl (hb hby d3_27) rfl (flt (hj)).2.1 (by decide) (by decide) ?_
      show Steps p.tables e below (s₁.setTop (mkF m 48 #[.val (.ref a0), .val (.ref a1), .val (.int (Int32.ofNat j)), .val (.ref a0), .val (.int na), .val (.int (Int32.ofNat i)), .val (.int x)] [])) t
      exact k
    exact k
  have sgB3 : ∀ (i j : Nat) (x y : Int32) (hy0 : ys[j]? = some y) (hj : (Int32.ofNat j) < nb) (hc : ¬ ((y / (2 : Int32)) < (x / (2 : Int32)))), Goes p e below s₁ (mkF m 24 #[.val (.ref a0), .val (.ref a1), .val (.int (Int32.ofNat j)), .val (.ref a0), .val (.int na), .val (.int (Int32.ofNat i)), .val (.int x)] []) s₁ (mkF m 48 #[.val (.ref a0), .val (.ref a1), .val (.int (Int32.ofNat j)), .val (.ref a0), .val (.int na), .val (.int (Int32.ofNat i)), .val (.int x)] []) := by
    intro i j x y hy0 hj hc t k
    refine SGo.go (T' := s₁) (g' := (mkF m 26 #[.val (.ref a0), .val (.ref a1), .val (.int (Int32.ofNat j)), .val (.ref a0), .val (.int na), .val (.int (Int32.ofNat i)), .val (.int x)] [(.ref a1), (.int (Int32.ofNat j))])) (fun t k => ?_) ?_
    · show Steps p.tables e below (s₁.setTop (mkF m 24 #[.val (.ref a0), .val (.ref a1), .val (.int (Int32.ofNat j)), .val (.ref a0), .val (.int na), .val (.int (Int32.ofNat i)), .val (.int x)] [])) t
      refine XS.iloadN X0.here hx rfl (hb hby d3_24) rfl ?_
      show Steps p.tables e below (s₁.setTop (mkF m 25 #[.val (.ref a0), .val (.ref a1), .val (.int (Int32.ofNat j)), .val (.ref a0), .val (.int na), .val (.int (Int32.ofNat i)), .val (.int x)] [(.int (Int32.ofNat j))])) t
      refine XS.aloadN X0.here hx rfl (hb hby d3_25) rfl rfl ?_
      show Steps p.tables e below (s₁.setTop (mkF m 26 #[.val (.ref a0), .val (.ref a1), .val (.int (Int32.ofNat j)), .val (.ref a0), .val (.int na), .val (.int (Int32.ofNat i)), .val (.int x)] [(.ref a1), (.int (Int32.ofNat j))])) t
      exact k
    refine SGo.go (T' := s₁) (g' := (mkF m 27 #[.val (.ref a0), .val (.ref a1), .val (.int (Int32.ofNat j)), .val (.ref a0), .val (.int na), .val (.int (Int32.ofNat i)), .val (.int x)] [(.int nb), (.int (Int32.ofNat j))])) (fun t k => ?_) ?_
    · refine X0.arraylength hx (by rw [e0]; exact Ar1.1) (State.isArrayOf_alike hZ.alike Ar1.2.1) (g := (mkF m 26 #[.val (.ref a0), .val (.ref a1), .val (.int (Int32.ofNat j)), .val (.ref a0), .val (.int na), .val (.int (Int32.ofNat i)), .val (.int x)] [(.ref a1), (.int (Int32.ofNat j))])) rfl rfl (hb hby d3_26) _ ?_
      rw [len_of S1 M1]
      exact k
    refine SGo.go (T' := s₁) (g' := (mkF m 32 #[.val (.ref a0), .val (.ref a1), .val (.int (Int32.ofNat j)), .val (.ref a0), .val (.int na), .val (.int (Int32.ofNat i)), .val (.int x)] [(.int (Int32.ofNat j)), (.ref a1)])) (fun t k => ?_) ?_
    · show Steps p.tables e below (s₁.setTop (mkF m 27 #[.val (.ref a0), .val (.ref a1), .val (.int (Int32.ofNat j)), .val (.ref a0), .val (.int na), .val (.int (Int32.ofNat i)), .val (.int x)] [(.int nb), (.int (Int32.ofNat j))])) t
      refine XS.icmpNo X0.here hx rfl (hb hby d3_27) rfl (tlt (hj)).2.1 ?_
      show Steps p.tables e below (s₁.setTop (mkF m 30 #[.val (.ref a0), .val (.ref a1), .val (.int (Int32.ofNat j)), .val (.ref a0), .val (.int na), .val (.int (Int32.ofNat i)), .val (.int x)] [])) t
      refine XS.aloadN X0.here hx rfl (hb hby d3_30) rfl rfl ?_
      show Steps p.tables e below (s₁.setTop (mkF m 31 #[.val (.ref a0), .val (.ref a1), .val (.int (Int32.ofNat j)), .val (.ref a0), .val (.int na), .val (.int (Int32.ofNat i)), .val (.int x)] [(.ref a1)])) t
      refine XS.iloadN X0.here hx rfl (hb hby d3_31) rfl ?_
      show Steps p.tables e below (s₁.setTop (mkF m 32 #[.val (.ref a0), .val (.ref a1), .val (.int (Int32.ofNat j)), .val (.ref a0), .val (.int na), .val (.int (Int32.ofNat i)), .val (.int x)] [(.int (Int32.ofNat j)), (.ref a1)])) t
      exact k
    refine SGo.go (T' := s₁) (g' := (mkF m 33 #[.val (.ref a0), .val (.ref a1), .val (.int (Int32.ofNat j)), .val (.ref a0), .val (.int na), .val (.int (Int32.ofNat i)), .val (.int x)] [(.int y)])) (fun t k => ?_) ?_
    · refine X0.iaload hx (j := (Int32.ofNat j)) (v := (.int y)) (by rw [e0]; exact Ar1.1) (State.isArrayOf_alike hZ.alike Ar1.2.1) Ar1.2.2 (own_read S1 hnb ly H1 hy0).1 (own_read S1 hnb ly H1 hy0).2 (g := (mkF m 32 #[.val (.ref a0), .val (.ref a1), .val (.int (Int32.ofNat j)), .val (.ref a0), .val (.int na), .val (.int (Int32.ofNat i)), .val (.int x)] [(.int (Int32.ofNat j)), (.ref a1)])) rfl rfl (hb hby d3_32) _ ?_
      exact k
    refine SGo.go (T' := s₁) (g' := (mkF m 48 #[.val (.ref a0), .val (.ref a1), .val (.int (Int32.ofNat j)), .val (.ref a0), .val (.int na), .val (.int (Int32.ofNat i)), .val (.int x)] [])) (fun t k => ?_) ?_
    · show Steps p.tables e below (s₁.setTop (mkF m 33 #[.val (.ref a0), .val (.ref a1), .val (.int (Int32.ofNat j)), .val (.ref a0), .val (.int na), .val (.int (Int32.ofNat i)), .val (.int x)] [(.int y)])) t
      refine XS.iconst X0.here hx rfl (hb hby d3_33) ?_
      show Steps p.tables e below (s₁.setTop (mkF m 34 #[.val (.ref a0), .val (.ref a1), .val (.int (Int32.ofNat j)), .val (.ref a0), .val (.int na), .val (.int (Int32.ofNat i)), .val (.int x)] [(.int (2 : Int32)), (.int y)])) t
      refine XS.idiv X0.here hx rfl (hb hby d3_34) rfl (by decide) ?_
      show Steps p.tables e below (s₁.setTop (mkF m 35 #[.val (.ref a0), .val (.ref a1), .val (.int (Int32.ofNat j)), .val (.ref a0), .val (.int na), .val (.int (Int32.ofNat i)), .val (.int x)] [(.int (y / (2 : Int32)))])) t
      refine XS.iload X0.here hx rfl (hb hby d3_35) rfl ?_
      show Steps p.tables e below (s₁.setTop (mkF m 37 #[.val (.ref a0), .val (.ref a1), .val (.int (Int32.ofNat j)), .val (.ref a0), .val (.int na), .val (.int (Int32.ofNat i)), .val (.int x)] [(.int x), (.int (y / (2 : Int32)))])) t
      refine XS.iconst X0.here hx rfl (hb hby d3_37) ?_
      show Steps p.tables e below (s₁.setTop (mkF m 38 #[.val (.ref a0), .val (.ref a1), .val (.int (Int32.ofNat j)), .val (.ref a0), .val (.int na), .val (.int (Int32.ofNat i)), .val (.int x)] [(.int (2 : Int32)), (.int x), (.int (y / (2 : Int32)))])) t
      refine XS.idiv X0.here hx rfl (hb hby d3_38) rfl (by decide) ?_
      show Steps p.tables e below (s₁.setTop (mkF m 39 #[.val (.ref a0), .val (.ref a1), .val (.int (Int32.ofNat j)), .val (.ref a0), .val (.int na), .val (.int (Int32.ofNat i)), .val (.int x)] [(.int (x / (2 : Int32))), (.int (y / (2 : Int32)))])) t
      refine XS.icmpYes X0.here hx rfl (pc0 := 39) (pc' := 48) rfl (hb hby d3_39) rfl (flt (hc)).2.1 (by decide) (by decide) ?_
      show Steps p.tables e below (s₁.setTop (mkF m 48 #[.val (.ref a0), .val (.ref a1), .val (.int (Int32.ofNat j)), .val (.ref a0), .val (.int na), .val (.int (Int32.ofNat i)), .val (.int x)] [])) t
      exact k
    exact k
  have sgC1 : ∀ (i j : Nat) (x : Int32) (hj : ¬ ((Int32.ofNat j) < nb)), Goes p e below s₁ (mkF m 48 #[.val (.ref a0), .val (.ref a1), .val (.int (Int32.ofNat j)), .val (.ref a0), .val (.int na), .val (.int (Int32.ofNat i)), .val (.int x)] []) s₁ (mkF m 11 #[.val (.ref a0), .val (.ref a1), .val (.int (Int32.ofNat j)), .val (.ref a0), .val (.int na), .val (.int ((Int32.ofNat i) + (1 : Int32))), .val (.int x)] []) := by
    intro i j x hj t k
    refine SGo.go (T' := s₁) (g' := (mkF m 50 #[.val (.ref a0), .val (.ref a1), .val (.int (Int32.ofNat j)), .val (.ref a0), .val (.int na), .val (.int (Int32.ofNat i)), .val (.int x)] [(.ref a1), (.int (Int32.ofNat j))])) (fun t k => ?_) ?_
    · show Steps p.tables e below (s₁.setTop (mkF m 48 #[.val (.ref a0), .val (.ref a1), .val (.int (Int32.ofNat j)), .val (.ref a0), .val (.int na), .val (.int (Int32.ofNat i)), .val (.int x)] [])) t
      refine XS.iloadN X0.here hx rfl (hb hby d3_48) rfl ?_
      show Steps p.tables e below (s₁.setTop (mkF m 49 #[.val (.ref a0), .val (.ref a1), .val (.int (Int32.ofNat j)), .val (.ref a0), .val (.int na), .val (.int (Int32.ofNat i)), .val (.int x)] [(.int (Int32.ofNat j))])) t
      refine XS.aloadN X0.here hx rfl (hb hby d3_49) rfl rfl ?_
      show Steps p.tables e below (s₁.setTop (mkF m 50 #[.val (.ref a0), .val (.ref a1), .val (.int (Int32.ofNat j)), .val (.ref a0), .val (.int na), .val (.int (Int32.ofNat i)), .val (.int x)] [(.ref a1), (.int (Int32.ofNat j))])) t
      exact k
    refine SGo.go (T' := s₁) (g' := (mkF m 51 #[.val (.ref a0), .val (.ref a1), .val (.int (Int32.ofNat j)), .val (.ref a0), .val (.int na), .val (.int (Int32.ofNat i)), .val (.int x)] [(.int nb), (.int (Int32.ofNat j))])) (fun t k => ?_) ?_
    · refine X0.arraylength hx (by rw [e0]; exact Ar1.1) (State.isArrayOf_alike hZ.alike Ar1.2.1) (g := (mkF m 50 #[.val (.ref a0), .val (.ref a1), .val (.int (Int32.ofNat j)), .val (.ref a0), .val (.int na), .val (.int (Int32.ofNat i)), .val (.int x)] [(.ref a1), (.int (Int32.ofNat j))])) rfl rfl (hb hby d3_50) _ ?_
      rw [len_of S1 M1]
      exact k
    refine SGo.go (T' := s₁) (g' := (mkF m 11 #[.val (.ref a0), .val (.ref a1), .val (.int (Int32.ofNat j)), .val (.ref a0), .val (.int na), .val (.int ((Int32.ofNat i) + (1 : Int32))), .val (.int x)] [])) (fun t k => ?_) ?_
    · show Steps p.tables e below (s₁.setTop (mkF m 51 #[.val (.ref a0), .val (.ref a1), .val (.int (Int32.ofNat j)), .val (.ref a0), .val (.int na), .val (.int (Int32.ofNat i)), .val (.int x)] [(.int nb), (.int (Int32.ofNat j))])) t
      refine XS.icmpYes X0.here hx rfl (pc0 := 51) (pc' := 76) rfl (hb hby d3_51) rfl (flt (hj)).2.1 (by decide) (by decide) ?_
      show Steps p.tables e below (s₁.setTop (mkF m 76 #[.val (.ref a0), .val (.ref a1), .val (.int (Int32.ofNat j)), .val (.ref a0), .val (.int na), .val (.int (Int32.ofNat i)), .val (.int x)] [])) t
      refine XS.iinc X0.here hx rfl (hb hby d3_76) rfl (l' := #[.val (.ref a0), .val (.ref a1), .val (.int (Int32.ofNat j)), .val (.ref a0), .val (.int na), .val (.int ((Int32.ofNat i) + (1 : Int32))), .val (.int x)]) rfl ?_
      show Steps p.tables e below (s₁.setTop (mkF m 79 #[.val (.ref a0), .val (.ref a1), .val (.int (Int32.ofNat j)), .val (.ref a0), .val (.int na), .val (.int ((Int32.ofNat i) + (1 : Int32))), .val (.int x)] [])) t
      refine XS.goto X0.here hx rfl (pc0 := 79) (pc' := 11) rfl (hb hby d3_79) (by decide) (by decide) ?_
      show Steps p.tables e below (s₁.setTop (mkF m 11 #[.val (.ref a0), .val (.ref a1), .val (.int (Int32.ofNat j)), .val (.ref a0), .val (.int na), .val (.int ((Int32.ofNat i) + (1 : Int32))), .val (.int x)] [])) t
      exact k
    exact k
  have sgC2 : ∀ (i j : Nat) (x y : Int32) (hy0 : ys[j]? = some y) (hj : (Int32.ofNat j) < nb) (hc : ¬ ((y / (2 : Int32)) = (x / (2 : Int32)))), Goes p e below s₁ (mkF m 48 #[.val (.ref a0), .val (.ref a1), .val (.int (Int32.ofNat j)), .val (.ref a0), .val (.int na), .val (.int (Int32.ofNat i)), .val (.int x)] []) s₁ (mkF m 11 #[.val (.ref a0), .val (.ref a1), .val (.int (Int32.ofNat j)), .val (.ref a0), .val (.int na), .val (.int ((Int32.ofNat i) + (1 : Int32))), .val (.int x)] []) := by
    intro i j x y hy0 hj hc t k
    refine SGo.go (T' := s₁) (g' := (mkF m 50 #[.val (.ref a0), .val (.ref a1), .val (.int (Int32.ofNat j)), .val (.ref a0), .val (.int na), .val (.int (Int32.ofNat i)), .val (.int x)] [(.ref a1), (.int (Int32.ofNat j))])) (fun t k => ?_) ?_
    · show Steps p.tables e below (s₁.setTop (mkF m 48 #[.val (.ref a0), .val (.ref a1), .val (.int (Int32.ofNat j)), .val (.ref a0), .val (.int na), .val (.int (Int32.ofNat i)), .val (.int x)] [])) t
      refine XS.iloadN X0.here hx rfl (hb hby d3_48) rfl ?_
      show Steps p.tables e below (s₁.setTop (mkF m 49 #[.val (.ref a0), .val (.ref a1), .val (.int (Int32.ofNat j)), .val (.ref a0), .val (.int na), .val (.int (Int32.ofNat i)), .val (.int x)] [(.int (Int32.ofNat j))])) t
      refine XS.aloadN X0.here hx rfl (hb hby d3_49) rfl rfl ?_
      show Steps p.tables e below (s₁.setTop (mkF m 50 #[.val (.ref a0), .val (.ref a1), .val (.int (Int32.ofNat j)), .val (.ref a0), .val (.int na), .val (.int (Int32.ofNat i)), .val (.int x)] [(.ref a1), (.int (Int32.ofNat j))])) t
      exact k
    refine SGo.go (T' := s₁) (g' := (mkF m 51 #[.val (.ref a0), .val (.ref a1), .val (.int (Int32.ofNat j)), .val (.ref a0), .val (.int na), .val (.int (Int32.ofNat i)), .val (.int x)] [(.int nb), (.int (Int32.ofNat j))])) (fun t k => ?_) ?_
    · refine X0.arraylength hx (by rw [e0]; exact Ar1.1) (State.isArrayOf_alike hZ.alike Ar1.2.1) (g := (mkF m 50 #[.val (.ref a0), .val (.ref a1), .val (.int (Int32.ofNat j)), .val (.ref a0), .val (.int na), .val (.int (Int32.ofNat i)), .val (.int x)] [(.ref a1), (.int (Int32.ofNat j))])) rfl rfl (hb hby d3_50) _ ?_
      rw [len_of S1 M1]
      exact k
    refine SGo.go (T' := s₁) (g' := (mkF m 56 #[.val (.ref a0), .val (.ref a1), .val (.int (Int32.ofNat j)), .val (.ref a0), .val (.int na), .val (.int (Int32.ofNat i)), .val (.int x)] [(.int (Int32.ofNat j)), (.ref a1)])) (fun t k => ?_) ?_
    · show Steps p.tables e below (s₁.setTop (mkF m 51 #[.val (.ref a0), .val (.ref a1), .val (.int (Int32.ofNat j)), .val (.ref a0), .val (.int na), .val (.int (Int32.ofNat i)), .val (.int x)] [(.int nb), (.int (Int32.ofNat j))])) t
      refine XS.icmpNo X0.here hx rfl (hb hby d3_51) rfl (tlt (hj)).2.1 ?_
      show Steps p.tables e below (s₁.setTop (mkF m 54 #[.val (.ref a0), .val (.ref a1), .val (.int (Int32.ofNat j)), .val (.ref a0), .val (.int na), .val (.int (Int32.ofNat i)), .val (.int x)] [])) t
      refine XS.aloadN X0.here hx rfl (hb hby d3_54) rfl rfl ?_
      show Steps p.tables e below (s₁.setTop (mkF m 55 #[.val (.ref a0), .val (.ref a1), .val (.int (Int32.ofNat j)), .val (.ref a0), .val (.int na), .val (.int (Int32.ofNat i)), .val (.int x)] [(.ref a1)])) t
      refine XS.iloadN X0.here hx rfl (hb hby d3_55) rfl ?_
      show Steps p.tables e below (s₁.setTop (mkF m 56 #[.val (.ref a0), .val (.ref a1), .val (.int (Int32.ofNat j)), .val (.ref a0), .val (.int na), .val (.int (Int32.ofNat i)), .val (.int x)] [(.int (Int32.ofNat j)), (.ref a1)])) t
      exact k
    refine SGo.go (T' := s₁) (g' := (mkF m 57 #[.val (.ref a0), .val (.ref a1), .val (.int (Int32.ofNat j)), .val (.ref a0), .val (.int na), .val (.int (Int32.ofNat i)), .val (.int x)] [(.int y)])) (fun t k => ?_) ?_
    · refine X0.iaload hx (j := (Int32.ofNat j)) (v := (.int y)) (by rw [e0]; exact Ar1.1) (State.isArrayOf_alike hZ.alike Ar1.2.1) Ar1.2.2 (own_read S1 hnb ly H1 hy0).1 (own_read S1 hnb ly H1 hy0).2 (g := (mkF m 56 #[.val (.ref a0), .val (.ref a1), .val (.int (Int32.ofNat j)), .val (.ref a0), .val (.int na), .val (.int (Int32.ofNat i)), .val (.int x)] [(.int (Int32.ofNat j)), (.ref a1)])) rfl rfl (hb hby d3_56) _ ?_
      exact k
    refine SGo.go (T' := s₁) (g' := (mkF m 11 #[.val (.ref a0), .val (.ref a1), .val (.int (Int32.ofNat j)), .val (.ref a0), .val (.int na), .val (.int ((Int32.ofNat i) + (1 : Int32))), .val (.int x)] [])) (fun t k => ?_) ?_
    · show Steps p.tables e below (s₁.setTop (mkF m 57 #[.val (.ref a0), .val (.ref a1), .val (.int (Int32.ofNat j)), .val (.ref a0), .val (.int na), .val (.int (Int32.ofNat i)), .val (.int x)] [(.int y)])) t
      refine XS.iconst X0.here hx rfl (hb hby d3_57) ?_
      show Steps p.tables e below (s₁.setTop (mkF m 58 #[.val (.ref a0), .val (.ref a1), .val (.int (Int32.ofNat j)), .val (.ref a0), .val (.int na), .val (.int (Int32.ofNat i)), .val (.int x)] [(.int (2 : Int32)), (.int y)])) t
      refine XS.idiv X0.here hx rfl (hb hby d3_58) rfl (by decide) ?_
      show Steps p.tables e below (s₁.setTop (mkF m 59 #[.val (.ref a0), .val (.ref a1), .val (.int (Int32.ofNat j)), .val (.ref a0), .val (.int na), .val (.int (Int32.ofNat i)), .val (.int x)] [(.int (y / (2 : Int32)))])) t
      refine XS.iload X0.here hx rfl (hb hby d3_59) rfl ?_
      show Steps p.tables e below (s₁.setTop (mkF m 61 #[.val (.ref a0), .val (.ref a1), .val (.int (Int32.ofNat j)), .val (.ref a0), .val (.int na), .val (.int (Int32.ofNat i)), .val (.int x)] [(.int x), (.int (y / (2 : Int32)))])) t
      refine XS.iconst X0.here hx rfl (hb hby d3_61) ?_
      show Steps p.tables e below (s₁.setTop (mkF m 62 #[.val (.ref a0), .val (.ref a1), .val (.int (Int32.ofNat j)), .val (.ref a0), .val (.int na), .val (.int (Int32.ofNat i)), .val (.int x)] [(.int (2 : Int32)), (.int x), (.int (y / (2 : Int32)))])) t
      refine XS.idiv X0.here hx rfl (hb hby d3_62) rfl (by decide) ?_
      show Steps p.tables e below (s₁.setTop (mkF m 63 #[.val (.ref a0), .val (.ref a1), .val (.int (Int32.ofNat j)), .val (.ref a0), .val (.int na), .val (.int (Int32.ofNat i)), .val (.int x)] [(.int (x / (2 : Int32))), (.int (y / (2 : Int32)))])) t
      refine XS.icmpYes X0.here hx rfl (pc0 := 63) (pc' := 76) rfl (hb hby d3_63) rfl (feq (hc)).2 (by decide) (by decide) ?_
      show Steps p.tables e below (s₁.setTop (mkF m 76 #[.val (.ref a0), .val (.ref a1), .val (.int (Int32.ofNat j)), .val (.ref a0), .val (.int na), .val (.int (Int32.ofNat i)), .val (.int x)] [])) t
      refine XS.iinc X0.here hx rfl (hb hby d3_76) rfl (l' := #[.val (.ref a0), .val (.ref a1), .val (.int (Int32.ofNat j)), .val (.ref a0), .val (.int na), .val (.int ((Int32.ofNat i) + (1 : Int32))), .val (.int x)]) rfl ?_
      show Steps p.tables e below (s₁.setTop (mkF m 79 #[.val (.ref a0), .val (.ref a1), .val (.int (Int32.ofNat j)), .val (.ref a0), .val (.int na), .val (.int ((Int32.ofNat i) + (1 : Int32))), .val (.int x)] [])) t
      refine XS.goto X0.here hx rfl (pc0 := 79) (pc' := 11) rfl (hb hby d3_79) (by decide) (by decide) ?_
      show Steps p.tables e below (s₁.setTop (mkF m 11 #[.val (.ref a0), .val (.ref a1), .val (.int (Int32.ofNat j)), .val (.ref a0), .val (.int na), .val (.int ((Int32.ofNat i) + (1 : Int32))), .val (.int x)] [])) t
      exact k
    exact k
  have sgC3 : ∀ (i j : Nat) (x y : Int32) (hy0 : ys[j]? = some y) (hj : (Int32.ofNat j) < nb) (hc : (y / (2 : Int32)) = (x / (2 : Int32))) (hd : y = x), Goes p e below s₁ (mkF m 48 #[.val (.ref a0), .val (.ref a1), .val (.int (Int32.ofNat j)), .val (.ref a0), .val (.int na), .val (.int (Int32.ofNat i)), .val (.int x)] []) s₁ (mkF m 11 #[.val (.ref a0), .val (.ref a1), .val (.int (Int32.ofNat j)), .val (.ref a0), .val (.int na), .val (.int ((Int32.ofNat i) + (1 : Int32))), .val (.int x)] []) := by
    intro i j x y hy0 hj hc hd t k
    refine SGo.go (T' := s₁) (g' := (mkF m 50 #[.val (.ref a0), .val (.ref a1), .val (.int (Int32.ofNat j)), .val (.ref a0), .val (.int na), .val (.int (Int32.ofNat i)), .val (.int x)] [(.ref a1), (.int (Int32.ofNat j))])) (fun t k => ?_) ?_
    · show Steps p.tables e below (s₁.setTop (mkF m 48 #[.val (.ref a0), .val (.ref a1), .val (.int (Int32.ofNat j)), .val (.ref a0), .val (.int na), .val (.int (Int32.ofNat i)), .val (.int x)] [])) t
      refine XS.iloadN X0.here hx rfl (hb hby d3_48) rfl ?_
      show Steps p.tables e below (s₁.setTop (mkF m 49 #[.val (.ref a0), .val (.ref a1), .val (.int (Int32.ofNat j)), .val (.ref a0), .val (.int na), .val (.int (Int32.ofNat i)), .val (.int x)] [(.int (Int32.ofNat j))])) t
      refine XS.aloadN X0.here hx rfl (hb hby d3_49) rfl rfl ?_
      show Steps p.tables e below (s₁.setTop (mkF m 50 #[.val (.ref a0), .val (.ref a1), .val (.int (Int32.ofNat j)), .val (.ref a0), .val (.int na), .val (.int (Int32.ofNat i)), .val (.int x)] [(.ref a1), (.int (Int32.ofNat j))])) t
      exact k
    refine SGo.go (T' := s₁) (g' := (mkF m 51 #[.val (.ref a0), .val (.ref a1), .val (.int (Int32.ofNat j)), .val (.ref a0), .val (.int na), .val (.int (Int32.ofNat i)), .val (.int x)] [(.int nb), (.int (Int32.ofNat j))])) (fun t k => ?_) ?_
    · refine X0.arraylength hx (by rw [e0]; exact Ar1.1) (State.isArrayOf_alike hZ.alike Ar1.2.1) (g := (mkF m 50 #[.val (.ref a0), .val (.ref a1), .val (.int (Int32.ofNat j)), .val (.ref a0), .val (.int na), .val (.int (Int32.ofNat i)), .val (.int x)] [(.ref a1), (.int (Int32.ofNat j))])) rfl rfl (hb hby d3_50) _ ?_
      rw [len_of S1 M1]
      exact k
    refine SGo.go (T' := s₁) (g' := (mkF m 56 #[.val (.ref a0), .val (.ref a1), .val (.int (Int32.ofNat j)), .val (.ref a0), .val (.int na), .val (.int (Int32.ofNat i)), .val (.int x)] [(.int (Int32.ofNat j)), (.ref a1)])) (fun t k => ?_) ?_
    · show Steps p.tables e below (s₁.setTop (mkF m 51 #[.val (.ref a0), .val (.ref a1), .val (.int (Int32.ofNat j)), .val (.ref a0), .val (.int na), .val (.int (Int32.ofNat i)), .val (.int x)] [(.int nb), (.int (Int32.ofNat j))])) t
      refine XS.icmpNo X0.here hx rfl (hb hby d3_51) rfl (tlt (hj)).2.1 ?_
      show Steps p.tables e below (s₁.setTop (mkF m 54 #[.val (.ref a0), .val (.ref a1), .val (.int (Int32.ofNat j)), .val (.ref a0), .val (.int na), .val (.int (Int32.ofNat i)), .val (.int x)] [])) t
      refine XS.aloadN X0.here hx rfl (hb hby d3_54) rfl rfl ?_
      show Steps p.tables e below (s₁.setTop (mkF m 55 #[.val (.ref a0), .val (.ref a1), .val (.int (Int32.ofNat j)), .val (.ref a0), .val (.int na), .val (.int (Int32.ofNat i)), .val (.int x)] [(.ref a1)])) t
      refine XS.iloadN X0.here hx rfl (hb hby d3_55) rfl ?_
      show Steps p.tables e below (s₁.setTop (mkF m 56 #[.val (.ref a0), .val (.ref a1), .val (.int (Int32.ofNat j)), .val (.ref a0), .val (.int na), .val (.int (Int32.ofNat i)), .val (.int x)] [(.int (Int32.ofNat j)), (.ref a1)])) t
      exact k
    refine SGo.go (T' := s₁) (g' := (mkF m 57 #[.val (.ref a0), .val (.ref a1), .val (.int (Int32.ofNat j)), .val (.ref a0), .val (.int na), .val (.int (Int32.ofNat i)), .val (.int x)] [(.int y)])) (fun t k => ?_) ?_
    · refine X0.iaload hx (j := (Int32.ofNat j)) (v := (.int y)) (by rw [e0]; exact Ar1.1) (State.isArrayOf_alike hZ.alike Ar1.2.1) Ar1.2.2 (own_read S1 hnb ly H1 hy0).1 (own_read S1 hnb ly H1 hy0).2 (g := (mkF m 56 #[.val (.ref a0), .val (.ref a1), .val (.int (Int32.ofNat j)), .val (.ref a0), .val (.int na), .val (.int (Int32.ofNat i)), .val (.int x)] [(.int (Int32.ofNat j)), (.ref a1)])) rfl rfl (hb hby d3_56) _ ?_
      exact k
    refine SGo.go (T' := s₁) (g' := (mkF m 68 #[.val (.ref a0), .val (.ref a1), .val (.int (Int32.ofNat j)), .val (.ref a0), .val (.int na), .val (.int (Int32.ofNat i)), .val (.int x)] [(.int (Int32.ofNat j)), (.ref a1)])) (fun t k => ?_) ?_
    · show Steps p.tables e below (s₁.setTop (mkF m 57 #[.val (.ref a0), .val (.ref a1), .val (.int (Int32.ofNat j)), .val (.ref a0), .val (.int na), .val (.int (Int32.ofNat i)), .val (.int x)] [(.int y)])) t
      refine XS.iconst X0.here hx rfl (hb hby d3_57) ?_
      show Steps p.tables e below (s₁.setTop (mkF m 58 #[.val (.ref a0), .val (.ref a1), .val (.int (Int32.ofNat j)), .val (.ref a0), .val (.int na), .val (.int (Int32.ofNat i)), .val (.int x)] [(.int (2 : Int32)), (.int y)])) t
      refine XS.idiv X0.here hx rfl (hb hby d3_58) rfl (by decide) ?_
      show Steps p.tables e below (s₁.setTop (mkF m 59 #[.val (.ref a0), .val (.ref a1), .val (.int (Int32.ofNat j)), .val (.ref a0), .val (.int na), .val (.int (Int32.ofNat i)), .val (.int x)] [(.int (y / (2 : Int32)))])) t
      refine XS.iload X0.here hx rfl (hb hby d3_59) rfl ?_
      show Steps p.tables e below (s₁.setTop (mkF m 61 #[.val (.ref a0), .val (.ref a1), .val (.int (Int32.ofNat j)), .val (.ref a0), .val (.int na), .val (.int (Int32.ofNat i)), .val (.int x)] [(.int x), (.int (y / (2 : Int32)))])) t
      refine XS.iconst X0.here hx rfl (hb hby d3_61) ?_
      show Steps p.tables e below (s₁.setTop (mkF m 62 #[.val (.ref a0), .val (.ref a1), .val (.int (Int32.ofNat j)), .val (.ref a0), .val (.int na), .val (.int (Int32.ofNat i)), .val (.int x)] [(.int (2 : Int32)), (.int x), (.int (y / (2 : Int32)))])) t
      refine XS.idiv X0.here hx rfl (hb hby d3_62) rfl (by decide) ?_
      show Steps p.tables e below (s₁.setTop (mkF m 63 #[.val (.ref a0), .val (.ref a1), .val (.int (Int32.ofNat j)), .val (.ref a0), .val (.int na), .val (.int (Int32.ofNat i)), .val (.int x)] [(.int (x / (2 : Int32))), (.int (y / (2 : Int32)))])) t
      refine XS.icmpNo X0.here hx rfl (hb hby d3_63) rfl (teq (hc)).2 ?_
      show Steps p.tables e below (s₁.setTop (mkF m 66 #[.val (.ref a0), .val (.ref a1), .val (.int (Int32.ofNat j)), .val (.ref a0), .val (.int na), .val (.int (Int32.ofNat i)), .val (.int x)] [])) t
      refine XS.aloadN X0.here hx rfl (hb hby d3_66) rfl rfl ?_
      show Steps p.tables e below (s₁.setTop (mkF m 67 #[.val (.ref a0), .val (.ref a1), .val (.int (Int32.ofNat j)), .val (.ref a0), .val (.int na), .val (.int (Int32.ofNat i)), .val (.int x)] [(.ref a1)])) t
      refine XS.iloadN X0.here hx rfl (hb hby d3_67) rfl ?_
      show Steps p.tables e below (s₁.setTop (mkF m 68 #[.val (.ref a0), .val (.ref a1), .val (.int (Int32.ofNat j)), .val (.ref a0), .val (.int na), .val (.int (Int32.ofNat i)), .val (.int x)] [(.int (Int32.ofNat j)), (.ref a1)])) t
      exact k
    refine SGo.go (T' := s₁) (g' := (mkF m 69 #[.val (.ref a0), .val (.ref a1), .val (.int (Int32.ofNat j)), .val (.ref a0), .val (.int na), .val (.int (Int32.ofNat i)), .val (.int x)] [(.int y)])) (fun t k => ?_) ?_
    · refine X0.iaload hx (j := (Int32.ofNat j)) (v := (.int y)) (by rw [e0]; exact Ar1.1) (State.isArrayOf_alike hZ.alike Ar1.2.1) Ar1.2.2 (own_read S1 hnb ly H1 hy0).1 (own_read S1 hnb ly H1 hy0).2 (g := (mkF m 68 #[.val (.ref a0), .val (.ref a1), .val (.int (Int32.ofNat j)), .val (.ref a0), .val (.int na), .val (.int (Int32.ofNat i)), .val (.int x)] [(.int (Int32.ofNat j)), (.ref a1)])) rfl rfl (hb hby d3_68) _ ?_
      exact k
    refine SGo.go (T' := s₁) (g' := (mkF m 11 #[.val (.ref a0), .val (.ref a1), .val (.int (Int32.ofNat j)), .val (.ref a0), .val (.int na), .val (.int ((Int32.ofNat i) + (1 : Int32))), .val (.int x)] [])) (fun t k => ?_) ?_
    · show Steps p.tables e below (s₁.setTop (mkF m 69 #[.val (.ref a0), .val (.ref a1), .val (.int (Int32.ofNat j)), .val (.ref a0), .val (.int na), .val (.int (Int32.ofNat i)), .val (.int x)] [(.int y)])) t
      refine XS.iload X0.here hx rfl (hb hby d3_69) rfl ?_
      show Steps p.tables e below (s₁.setTop (mkF m 71 #[.val (.ref a0), .val (.ref a1), .val (.int (Int32.ofNat j)), .val (.ref a0), .val (.int na), .val (.int (Int32.ofNat i)), .val (.int x)] [(.int x), (.int y)])) t
      refine XS.icmpYes X0.here hx rfl (pc0 := 71) (pc' := 76) rfl (hb hby d3_71) rfl (teq (hd)).1 (by decide) (by decide) ?_
      show Steps p.tables e below (s₁.setTop (mkF m 76 #[.val (.ref a0), .val (.ref a1), .val (.int (Int32.ofNat j)), .val (.ref a0), .val (.int na), .val (.int (Int32.ofNat i)), .val (.int x)] [])) t
      refine XS.iinc X0.here hx rfl (hb hby d3_76) rfl (l' := #[.val (.ref a0), .val (.ref a1), .val (.int (Int32.ofNat j)), .val (.ref a0), .val (.int na), .val (.int ((Int32.ofNat i) + (1 : Int32))), .val (.int x)]) rfl ?_
      show Steps p.tables e below (s₁.setTop (mkF m 79 #[.val (.ref a0), .val (.ref a1), .val (.int (Int32.ofNat j)), .val (.ref a0), .val (.int na), .val (.int ((Int32.ofNat i) + (1 : Int32))), .val (.int x)] [])) t
      refine XS.goto X0.here hx rfl (pc0 := 79) (pc' := 11) rfl (hb hby d3_79) (by decide) (by decide) ?_
      show Steps p.tables e below (s₁.setTop (mkF m 11 #[.val (.ref a0), .val (.ref a1), .val (.int (Int32.ofNat j)), .val (.ref a0), .val (.int na), .val (.int ((Int32.ofNat i) + (1 : Int32))), .val (.int x)] [])) t
      exact k
    exact k
  have sgC4 : ∀ (i j : Nat) (x y : Int32) (hy0 : ys[j]? = some y) (hj : (Int32.ofNat j) < nb) (hc : (y / (2 : Int32)) = (x / (2 : Int32))) (hd : ¬ (y = x)), Goes p e below s₁ (mkF m 48 #[.val (.ref a0), .val (.ref a1), .val (.int (Int32.ofNat j)), .val (.ref a0), .val (.int na), .val (.int (Int32.ofNat i)), .val (.int x)] []) s₁ (mkF m 74 #[.val (.ref a0), .val (.ref a1), .val (.int (Int32.ofNat j)), .val (.ref a0), .val (.int na), .val (.int (Int32.ofNat i)), .val (.int x)] []) := by
    intro i j x y hy0 hj hc hd t k
    refine SGo.go (T' := s₁) (g' := (mkF m 50 #[.val (.ref a0), .val (.ref a1), .val (.int (Int32.ofNat j)), .val (.ref a0), .val (.int na), .val (.int (Int32.ofNat i)), .val (.int x)] [(.ref a1), (.int (Int32.ofNat j))])) (fun t k => ?_) ?_
    · show Steps p.tables e below (s₁.setTop (mkF m 48 #[.val (.ref a0), .val (.ref a1), .val (.int (Int32.ofNat j)), .val (.ref a0), .val (.int na), .val (.int (Int32.ofNat i)), .val (.int x)] [])) t
      refine XS.iloadN X0.here hx rfl (hb hby d3_48) rfl ?_
      show Steps p.tables e below (s₁.setTop (mkF m 49 #[.val (.ref a0), .val (.ref a1), .val (.int (Int32.ofNat j)), .val (.ref a0), .val (.int na), .val (.int (Int32.ofNat i)), .val (.int x)] [(.int (Int32.ofNat j))])) t
      refine XS.aloadN X0.here hx rfl (hb hby d3_49) rfl rfl ?_
      show Steps p.tables e below (s₁.setTop (mkF m 50 #[.val (.ref a0), .val (.ref a1), .val (.int (Int32.ofNat j)), .val (.ref a0), .val (.int na), .val (.int (Int32.ofNat i)), .val (.int x)] [(.ref a1), (.int (Int32.ofNat j))])) t
      exact k
    refine SGo.go (T' := s₁) (g' := (mkF m 51 #[.val (.ref a0), .val (.ref a1), .val (.int (Int32.ofNat j)), .val (.ref a0), .val (.int na), .val (.int (Int32.ofNat i)), .val (.int x)] [(.int nb), (.int (Int32.ofNat j))])) (fun t k => ?_) ?_
    · refine X0.arraylength hx (by rw [e0]; exact Ar1.1) (State.isArrayOf_alike hZ.alike Ar1.2.1) (g := (mkF m 50 #[.val (.ref a0), .val (.ref a1), .val (.int (Int32.ofNat j)), .val (.ref a0), .val (.int na), .val (.int (Int32.ofNat i)), .val (.int x)] [(.ref a1), (.int (Int32.ofNat j))])) rfl rfl (hb hby d3_50) _ ?_
      rw [len_of S1 M1]
      exact k
    refine SGo.go (T' := s₁) (g' := (mkF m 56 #[.val (.ref a0), .val (.ref a1), .val (.int (Int32.ofNat j)), .val (.ref a0), .val (.int na), .val (.int (Int32.ofNat i)), .val (.int x)] [(.int (Int32.ofNat j)), (.ref a1)])) (fun t k => ?_) ?_
    · show Steps p.tables e below (s₁.setTop (mkF m 51 #[.val (.ref a0), .val (.ref a1), .val (.int (Int32.ofNat j)), .val (.ref a0), .val (.int na), .val (.int (Int32.ofNat i)), .val (.int x)] [(.int nb), (.int (Int32.ofNat j))])) t
      refine XS.icmpNo X0.here hx rfl (hb hby d3_51) rfl (tlt (hj)).2.1 ?_
      show Steps p.tables e below (s₁.setTop (mkF m 54 #[.val (.ref a0), .val (.ref a1), .val (.int (Int32.ofNat j)), .val (.ref a0), .val (.int na), .val (.int (Int32.ofNat i)), .val (.int x)] [])) t
      refine XS.aloadN X0.here hx rfl (hb hby d3_54) rfl rfl ?_
      show Steps p.tables e below (s₁.setTop (mkF m 55 #[.val (.ref a0), .val (.ref a1), .val (.int (Int32.ofNat j)), .val (.ref a0), .val (.int na), .val (.int (Int32.ofNat i)), .val (.int x)] [(.ref a1)])) t
      refine XS.iloadN X0.here hx rfl (hb hby d3_55) rfl ?_
      show Steps p.tables e below (s₁.setTop (mkF m 56 #[.val (.ref a0), .val (.ref a1), .val (.int (Int32.ofNat j)), .val (.ref a0), .val (.int na), .val (.int (Int32.ofNat i)), .val (.int x)] [(.int (Int32.ofNat j)), (.ref a1)])) t
      exact k
    refine SGo.go (T' := s₁) (g' := (mkF m 57 #[.val (.ref a0), .val (.ref a1), .val (.int (Int32.ofNat j)), .val (.ref a0), .val (.int na), .val (.int (Int32.ofNat i)), .val (.int x)] [(.int y)])) (fun t k => ?_) ?_
    · refine X0.iaload hx (j := (Int32.ofNat j)) (v := (.int y)) (by rw [e0]; exact Ar1.1) (State.isArrayOf_alike hZ.alike Ar1.2.1) Ar1.2.2 (own_read S1 hnb ly H1 hy0).1 (own_read S1 hnb ly H1 hy0).2 (g := (mkF m 56 #[.val (.ref a0), .val (.ref a1), .val (.int (Int32.ofNat j)), .val (.ref a0), .val (.int na), .val (.int (Int32.ofNat i)), .val (.int x)] [(.int (Int32.ofNat j)), (.ref a1)])) rfl rfl (hb hby d3_56) _ ?_
      exact k
    refine SGo.go (T' := s₁) (g' := (mkF m 68 #[.val (.ref a0), .val (.ref a1), .val (.int (Int32.ofNat j)), .val (.ref a0), .val (.int na), .val (.int (Int32.ofNat i)), .val (.int x)] [(.int (Int32.ofNat j)), (.ref a1)])) (fun t k => ?_) ?_
    · show Steps p.tables e below (s₁.setTop (mkF m 57 #[.val (.ref a0), .val (.ref a1), .val (.int (Int32.ofNat j)), .val (.ref a0), .val (.int na), .val (.int (Int32.ofNat i)), .val (.int x)] [(.int y)])) t
      refine XS.iconst X0.here hx rfl (hb hby d3_57) ?_
      show Steps p.tables e below (s₁.setTop (mkF m 58 #[.val (.ref a0), .val (.ref a1), .val (.int (Int32.ofNat j)), .val (.ref a0), .val (.int na), .val (.int (Int32.ofNat i)), .val (.int x)] [(.int (2 : Int32)), (.int y)])) t
      refine XS.idiv X0.here hx rfl (hb hby d3_58) rfl (by decide) ?_
      show Steps p.tables e below (s₁.setTop (mkF m 59 #[.val (.ref a0), .val (.ref a1), .val (.int (Int32.ofNat j)), .val (.ref a0), .val (.int na), .val (.int (Int32.ofNat i)), .val (.int x)] [(.int (y / (2 : Int32)))])) t
      refine XS.iload X0.here hx rfl (hb hby d3_59) rfl ?_
      show Steps p.tables e below (s₁.setTop (mkF m 61 #[.val (.ref a0), .val (.ref a1), .val (.int (Int32.ofNat j)), .val (.ref a0), .val (.int na), .val (.int (Int32.ofNat i)), .val (.int x)] [(.int x), (.int (y / (2 : Int32)))])) t
      refine XS.iconst X0.here hx rfl (hb hby d3_61) ?_
      show Steps p.tables e below (s₁.setTop (mkF m 62 #[.val (.ref a0), .val (.ref a1), .val (.int (Int32.ofNat j)), .val (.ref a0), .val (.int na), .val (.int (Int32.ofNat i)), .val (.int x)] [(.int (2 : Int32)), (.int x), (.int (y / (2 : Int32)))])) t
      refine XS.idiv X0.here hx rfl (hb hby d3_62) rfl (by decide) ?_
      show Steps p.tables e below (s₁.setTop (mkF m 63 #[.val (.ref a0), .val (.ref a1), .val (.int (Int32.ofNat j)), .val (.ref a0), .val (.int na), .val (.int (Int32.ofNat i)), .val (.int x)] [(.int (x / (2 : Int32))), (.int (y / (2 : Int32)))])) t
      refine XS.icmpNo X0.here hx rfl (hb hby d3_63) rfl (teq (hc)).2 ?_
      show Steps p.tables e below (s₁.setTop (mkF m 66 #[.val (.ref a0), .val (.ref a1), .val (.int (Int32.ofNat j)), .val (.ref a0), .val (.int na), .val (.int (Int32.ofNat i)), .val (.int x)] [])) t
      refine XS.aloadN X0.here hx rfl (hb hby d3_66) rfl rfl ?_
      show Steps p.tables e below (s₁.setTop (mkF m 67 #[.val (.ref a0), .val (.ref a1), .val (.int (Int32.ofNat j)), .val (.ref a0), .val (.int na), .val (.int (Int32.ofNat i)), .val (.int x)] [(.ref a1)])) t
      refine XS.iloadN X0.here hx rfl (hb hby d3_67) rfl ?_
      show Steps p.tables e below (s₁.setTop (mkF m 68 #[.val (.ref a0), .val (.ref a1), .val (.int (Int32.ofNat j)), .val (.ref a0), .val (.int na), .val (.int (Int32.ofNat i)), .val (.int x)] [(.int (Int32.ofNat j)), (.ref a1)])) t
      exact k
    refine SGo.go (T' := s₁) (g' := (mkF m 69 #[.val (.ref a0), .val (.ref a1), .val (.int (Int32.ofNat j)), .val (.ref a0), .val (.int na), .val (.int (Int32.ofNat i)), .val (.int x)] [(.int y)])) (fun t k => ?_) ?_
    · refine X0.iaload hx (j := (Int32.ofNat j)) (v := (.int y)) (by rw [e0]; exact Ar1.1) (State.isArrayOf_alike hZ.alike Ar1.2.1) Ar1.2.2 (own_read S1 hnb ly H1 hy0).1 (own_read S1 hnb ly H1 hy0).2 (g := (mkF m 68 #[.val (.ref a0), .val (.ref a1), .val (.int (Int32.ofNat j)), .val (.ref a0), .val (.int na), .val (.int (Int32.ofNat i)), .val (.int x)] [(.int (Int32.ofNat j)), (.ref a1)])) rfl rfl (hb hby d3_68) _ ?_
      exact k
    refine SGo.go (T' := s₁) (g' := (mkF m 74 #[.val (.ref a0), .val (.ref a1), .val (.int (Int32.ofNat j)), .val (.ref a0), .val (.int na), .val (.int (Int32.ofNat i)), .val (.int x)] [])) (fun t k => ?_) ?_
    · show Steps p.tables e below (s₁.setTop (mkF m 69 #[.val (.ref a0), .val (.ref a1), .val (.int (Int32.ofNat j)), .val (.ref a0), .val (.int na), .val (.int (Int32.ofNat i)), .val (.int x)] [(.int y)])) t
      refine XS.iload X0.here hx rfl (hb hby d3_69) rfl ?_
      show Steps p.tables e below (s₁.setTop (mkF m 71 #[.val (.ref a0), .val (.ref a1), .val (.int (Int32.ofNat j)), .val (.ref a0), .val (.int na), .val (.int (Int32.ofNat i)), .val (.int x)] [(.int x), (.int y)])) t
      refine XS.icmpNo X0.here hx rfl (hb hby d3_71) rfl (feq (hd)).1 ?_
      show Steps p.tables e below (s₁.setTop (mkF m 74 #[.val (.ref a0), .val (.ref a1), .val (.int (Int32.ofNat j)), .val (.ref a0), .val (.int na), .val (.int (Int32.ofNat i)), .val (.int x)] [])) t
      exact k
    exact k
  have sgR0 : ∀ (i j : Nat) (x : Int32), Goes p e below s₁ (mkF m 74 #[.val (.ref a0), .val (.ref a1), .val (.int (Int32.ofNat j)), .val (.ref a0), .val (.int na), .val (.int (Int32.ofNat i)), .val (.int x)] []) s₁ (mkF m 75 #[.val (.ref a0), .val (.ref a1), .val (.int (Int32.ofNat j)), .val (.ref a0), .val (.int na), .val (.int (Int32.ofNat i)), .val (.int x)] [(.int (0 : Int32))]) := by
    intro i j x t k
    refine SGo.go (T' := s₁) (g' := (mkF m 75 #[.val (.ref a0), .val (.ref a1), .val (.int (Int32.ofNat j)), .val (.ref a0), .val (.int na), .val (.int (Int32.ofNat i)), .val (.int x)] [(.int (0 : Int32))])) (fun t k => ?_) ?_
    · show Steps p.tables e below (s₁.setTop (mkF m 74 #[.val (.ref a0), .val (.ref a1), .val (.int (Int32.ofNat j)), .val (.ref a0), .val (.int na), .val (.int (Int32.ofNat i)), .val (.int x)] [])) t
      refine XS.iconst X0.here hx rfl (hb hby d3_74) ?_
      show Steps p.tables e below (s₁.setTop (mkF m 75 #[.val (.ref a0), .val (.ref a1), .val (.int (Int32.ofNat j)), .val (.ref a0), .val (.int na), .val (.int (Int32.ofNat i)), .val (.int x)] [(.int (0 : Int32))])) t
      exact k
    exact k
  have sgR1u : ∀ (i j : Nat), Goes p e below s₁ (mkF m 82 #[.val (.ref a0), .val (.ref a1), .val (.int (Int32.ofNat j)), .val (.ref a0), .val (.int na), .val (.int (Int32.ofNat i)), .unset] []) s₁ (mkF m 83 #[.val (.ref a0), .val (.ref a1), .val (.int (Int32.ofNat j)), .val (.ref a0), .val (.int na), .val (.int (Int32.ofNat i)), .unset] [(.int (1 : Int32))]) := by
    intro i j t k
    refine SGo.go (T' := s₁) (g' := (mkF m 83 #[.val (.ref a0), .val (.ref a1), .val (.int (Int32.ofNat j)), .val (.ref a0), .val (.int na), .val (.int (Int32.ofNat i)), .unset] [(.int (1 : Int32))])) (fun t k => ?_) ?_
    · show Steps p.tables e below (s₁.setTop (mkF m 82 #[.val (.ref a0), .val (.ref a1), .val (.int (Int32.ofNat j)), .val (.ref a0), .val (.int na), .val (.int (Int32.ofNat i)), .unset] [])) t
      refine XS.iconst X0.here hx rfl (hb hby d3_82) ?_
      show Steps p.tables e below (s₁.setTop (mkF m 83 #[.val (.ref a0), .val (.ref a1), .val (.int (Int32.ofNat j)), .val (.ref a0), .val (.int na), .val (.int (Int32.ofNat i)), .unset] [(.int (1 : Int32))])) t
      exact k
    exact k
  have sgR1v : ∀ (i j : Nat) (z : Int32), Goes p e below s₁ (mkF m 82 #[.val (.ref a0), .val (.ref a1), .val (.int (Int32.ofNat j)), .val (.ref a0), .val (.int na), .val (.int (Int32.ofNat i)), .val (.int z)] []) s₁ (mkF m 83 #[.val (.ref a0), .val (.ref a1), .val (.int (Int32.ofNat j)), .val (.ref a0), .val (.int na), .val (.int (Int32.ofNat i)), .val (.int z)] [(.int (1 : Int32))]) := by
    intro i j z t k
    refine SGo.go (T' := s₁) (g' := (mkF m 83 #[.val (.ref a0), .val (.ref a1), .val (.int (Int32.ofNat j)), .val (.ref a0), .val (.int na), .val (.int (Int32.ofNat i)), .val (.int z)] [(.int (1 : Int32))])) (fun t k => ?_) ?_
    · show Steps p.tables e below (s₁.setTop (mkF m 82 #[.val (.ref a0), .val (.ref a1), .val (.int (Int32.ofNat j)), .val (.ref a0), .val (.int na), .val (.int (Int32.ofNat i)), .val (.int z)] [])) t
      refine XS.iconst X0.here hx rfl (hb hby d3_82) ?_
      show Steps p.tables e below (s₁.setTop (mkF m 83 #[.val (.ref a0), .val (.ref a1), .val (.int (Int32.ofNat j)), .val (.ref a0), .val (.int na), .val (.int (Int32.ofNat i)), .val (.int z)] [(.int (1 : Int32))])) t
      exact k
    exact k
  have inner : ∀ (x : Int32) (i : Nat) (ys' : List Int32) (j : Nat), j ≤ ys.length → ys.drop j = ys' → ∃ j', j' ≤ ys.length ∧ ys.drop j' = aadv x ys' ∧ Goes p e below s₁ (mkF m 24 #[.val (.ref a0), .val (.ref a1), .val (.int (Int32.ofNat j)), .val (.ref a0), .val (.int na), .val (.int (Int32.ofNat i)), .val (.int x)] []) s₁ (mkF m 48 #[.val (.ref a0), .val (.ref a1), .val (.int (Int32.ofNat j')), .val (.ref a0), .val (.int na), .val (.int (Int32.ofNat i)), .val (.int x)] []) := by
    intro x i ys'
    induction ys' with
    | nil =>
      intro j hjl hj
      exact ⟨j, hjl, hj, sgB2 i j x (by rw [hnb]; exact own_ofge (own_lenge hj) (by omega))⟩
    | cons y r ih =>
      intro j hjl hj
      have hy0 := own_head hj
      have hlen := own_lenlt hj
      have hlt : (Int32.ofNat j) < nb := by rw [hnb]; exact own_oflt hlen ly
      by_cases h : (y / (2 : Int32)) < (x / (2 : Int32))
      · obtain ⟨j', h0, h1, h2⟩ := ih (j + 1) hlen (own_tail hj)
        refine ⟨j', h0, by rw [aadv, if_pos h]; exact h1, fun t k => sgB1 i j x y hy0 hlt h t ?_⟩
        have q := h2 t k
        rw [inc_ofNat] at q
        exact q
      · exact ⟨j, Nat.le_of_lt hlen, by rw [aadv, if_neg h]; exact hj, sgB3 i j x y hy0 hlt h⟩
  have main : ∀ (xs' : List Int32) (x : Int32) (ys' : List Int32) (i j : Nat), xs.drop i = x :: xs' → j ≤ ys.length → ys.drop j = ys' → OEnd p e below s s₁ (mkF m 24 #[.val (.ref a0), .val (.ref a1), .val (.int (Int32.ofNat j)), .val (.ref a0), .val (.int na), .val (.int (Int32.ofNat i)), .val (.int x)] []) (fun v h L => v = some (.int (nar .boolean (ag (x :: xs') ys'))) ∧ Fr n0 L ∧ h = h0) 0 0 := by
    intro xs'
    induction xs' with
    | nil =>
      intro x ys' i j hi hjl hj
      have hi1 := own_tail hi
      have hil := own_lenlt hi
      obtain ⟨j', hl', hj', go⟩ := inner x i ys' j hjl hj
      refine OEnd.go go ?_
      have nx : ∀ (r : List Int32), ys.drop j' = r → OEnd p e below s s₁ (mkF m 11 #[.val (.ref a0), .val (.ref a1), .val (.int (Int32.ofNat j')), .val (.ref a0), .val (.int na), .val (.int (Int32.ofNat i + (1 : Int32))), .val (.int x)] []) (fun v h L => v = some (.int (nar .boolean (ag [] r))) ∧ Fr n0 L ∧ h = h0) 0 0 := by
        intro r hr
        rw [← inc_ofNat]
        refine OEnd.go (sgXv (i + 1) j' x (by rw [hna]; exact own_ofge (own_lenge hi1) (by omega))) ?_
        refine OEnd.go (sgR1v (i + 1) j' x) ?_
        exact OEnd.nar X0 hx (t := .boolean) Bd.returns (by simp) hlk (hb hby d3_83) ⟨by rw [ag], N0, e0⟩ (by decide) (by decide)
      cases hw2 : aadv x ys' with
      | nil =>
        rw [hw2] at hj'
        refine OEnd.go (sgC1 i j' x (by rw [hnb]; exact own_ofge (own_lenge hj') (by omega))) ?_
        have q := nx [] hj'
        rw [show ag (x :: []) ys' = ag [] [] from by rw [ag_cons, hw2]]
        exact q
      | cons y r =>
        rw [hw2] at hj'
        have hy0 := own_head hj'
        have hlen := own_lenlt hj'
        have hlt : (Int32.ofNat j') < nb := by rw [hnb]; exact own_oflt hlen ly
        by_cases h1 : (y / (2 : Int32)) = (x / (2 : Int32))
        · by_cases h2 : y = x
          · refine OEnd.go (sgC3 i j' x y hy0 hlt h1 h2) ?_
            have q := nx (y :: r) hj'
            rw [show ag (x :: []) ys' = ag [] (y :: r) from by rw [ag_cons, hw2]; exact (if_pos h1).trans (if_pos h2)]
            exact q
          · refine OEnd.go (sgC4 i j' x y hy0 hlt h1 h2) ?_
            refine OEnd.go (sgR0 i j' x) ?_
            exact OEnd.nar X0 hx (t := .boolean) Bd.returns (by simp) hlk (hb hby d3_75) ⟨by rw [show ag (x :: []) ys' = 0 from by rw [ag_cons, hw2]; exact (if_pos h1).trans (if_neg h2)], N0, e0⟩ (by decide) (by decide)
        · refine OEnd.go (sgC2 i j' x y hy0 hlt h1) ?_
          have q := nx (y :: r) hj'
          rw [show ag (x :: []) ys' = ag [] (y :: r) from by rw [ag_cons, hw2]; exact if_neg h1]
          exact q
    | cons x2 r2 ih =>
      intro x ys' i j hi hjl hj
      have hi1 := own_tail hi
      have hil := own_lenlt hi
      obtain ⟨j', hl', hj', go⟩ := inner x i ys' j hjl hj
      refine OEnd.go go ?_
      have nx : ∀ (r : List Int32), ys.drop j' = r → OEnd p e below s s₁ (mkF m 11 #[.val (.ref a0), .val (.ref a1), .val (.int (Int32.ofNat j')), .val (.ref a0), .val (.int na), .val (.int (Int32.ofNat i + (1 : Int32))), .val (.int x)] []) (fun v h L => v = some (.int (nar .boolean (ag (x2 :: r2) r))) ∧ Fr n0 L ∧ h = h0) 0 0 := by
        intro r hr
        rw [← inc_ofNat]
        refine OEnd.go (sgAv (i + 1) j' x2 x (own_head hi1) (by rw [hna]; exact own_oflt (own_lenlt hi1) lx)) ?_
        exact ih x2 r (i + 1) j' hi1 hl' hr
      cases hw2 : aadv x ys' with
      | nil =>
        rw [hw2] at hj'
        refine OEnd.go (sgC1 i j' x (by rw [hnb]; exact own_ofge (own_lenge hj') (by omega))) ?_
        have q := nx [] hj'
        rw [show ag (x :: (x2 :: r2)) ys' = ag (x2 :: r2) [] from by rw [ag_cons, hw2]]
        exact q
      | cons y r =>
        rw [hw2] at hj'
        have hy0 := own_head hj'
        have hlen := own_lenlt hj'
        have hlt : (Int32.ofNat j') < nb := by rw [hnb]; exact own_oflt hlen ly
        by_cases h1 : (y / (2 : Int32)) = (x / (2 : Int32))
        · by_cases h2 : y = x
          · refine OEnd.go (sgC3 i j' x y hy0 hlt h1 h2) ?_
            have q := nx (y :: r) hj'
            rw [show ag (x :: (x2 :: r2)) ys' = ag (x2 :: r2) (y :: r) from by rw [ag_cons, hw2]; exact (if_pos h1).trans (if_pos h2)]
            exact q
          · refine OEnd.go (sgC4 i j' x y hy0 hlt h1 h2) ?_
            refine OEnd.go (sgR0 i j' x) ?_
            exact OEnd.nar X0 hx (t := .boolean) Bd.returns (by simp) hlk (hb hby d3_75) ⟨by rw [show ag (x :: (x2 :: r2)) ys' = 0 from by rw [ag_cons, hw2]; exact (if_pos h1).trans (if_neg h2)], N0, e0⟩ (by decide) (by decide)
        · refine OEnd.go (sgC2 i j' x y hy0 hlt h1) ?_
          have q := nx (y :: r) hj'
          rw [show ag (x :: (x2 :: r2)) ys' = ag (x2 :: r2) (y :: r) from by rw [ag_cons, hw2]; exact if_neg h1]
          exact q
  refine OEnd.go (sgS ()) ?_
  cases hxs : xs with
  | nil =>
    subst hxs
    refine OEnd.go (sgXu 0 0 (by rw [hna]; decide)) ?_
    refine OEnd.go (sgR1u 0 0) ?_
    exact OEnd.nar X0 hx (t := .boolean) Bd.returns (by simp) hlk (hb hby d3_83) ⟨by rw [ag], N0, e0⟩ (by decide) (by decide)
  | cons x r =>
    have h0 : xs.drop 0 = x :: r := by rw [List.drop_zero]; exact hxs
    refine OEnd.go (sgAu 0 0 x (own_head h0) (by rw [hna]; exact own_oflt (own_lenlt h0) lx)) ?_
    have q := main r x ys 0 0 h0 (Nat.zero_le _) (List.drop_zero)
    rw [← hxs] at q ⊢
    exact q
theorem own_rem (x y : Int32) (d : Int) (hy : y.toInt = d) : (0 ≤ x.toInt → (x - (x / y) * y).toInt = x.toInt % d) ∧ (x.toInt < 0 → (x - (x / y) * y).toInt = -((-x.toInt) % d)) := by
  rw [rem_toInt, hy]
  exact tr _ _
theorem own_n0 : nar .boolean (0 : Int32) = 0 := by decide
theorem own_n1 : nar .boolean (1 : Int32) = 1 := by decide
theorem own_lt (x y : Int32) : x < y ↔ x.toInt < y.toInt := Int32.lt_iff_toInt_lt
theorem own_eq (x y : Int32) : x = y ↔ x.toInt = y.toInt := Int32.toInt_inj.symm
theorem own_four (x : Int32) : (x &&& (3 : Int32)) = 0 ∨ (x &&& (3 : Int32)) = 1 ∨ (x &&& (3 : Int32)) = 2 ∨ (x &&& (3 : Int32)) = 3 := by
  have h := c_mask x 3 2 (by decide) (by decide)
  have e0 : (0 : Int32).toInt = 0 := by decide
  have e1 : (1 : Int32).toInt = 1 := by decide
  have e2 : (2 : Int32).toInt = 2 := by decide
  have e3 : (3 : Int32).toInt = 3 := by decide
  simp only [own_eq, e0, e1, e2, e3, h]
  omega
def own_t3 (n a b c : Int32) : List Int32 := if n = 0 then [] else if n = 1 then [a] else if n = 2 then [a, b] else [a, b, c]
theorem own_len3 {n : Int32} (a b c : Int32) (h : n = 0 ∨ n = 1 ∨ n = 2 ∨ n = 3) : n = Int32.ofNat (own_t3 n a b c).length := by
  rcases h with rfl | rfl | rfl | rfl <;> rfl
theorem own_lt3 {n : Int32} (a b c : Int32) (h : n = 0 ∨ n = 1 ∨ n = 2 ∨ n = 3) : (own_t3 n a b c).length < 2147483648 := by
  rcases h with rfl | rfl | rfl | rfl <;> exact Nat.le_of_ble_eq_true rfl
theorem pd___II_I : parseMethodDescriptor "([II)I" = some ⟨[(.array .int), .int], some .int⟩ := by decide +kernel
theorem pd__II_Z : parseMethodDescriptor "(II)Z" = some ⟨[.int, .int], some .boolean⟩ := by decide +kernel
theorem pd___I_I_Z : parseMethodDescriptor "([I[I)Z" = some ⟨[(.array .int), (.array .int)], some .boolean⟩ := by decide +kernel
def v0_6 (p0 : Int32) (p1 : Int32) (p2 : Int32) (p3 : Int32) : Int32 := ((2 : Int32) * (p0 &&& (536870911 : Int32)))
def v0_18 (p0 : Int32) (p1 : Int32) (p2 : Int32) (p3 : Int32) : Int32 := (((p1.toUInt32 >>> ((2 : Int32) &&& 31).toUInt32).toInt32) &&& (3 : Int32))
def v0_27 (p0 : Int32) (p1 : Int32) (p2 : Int32) (p3 : Int32) : Int32 := ((v0_6 p0 p1 p2 p3) + (p2 &&& (15 : Int32)))
def v0_38 (p0 : Int32) (p1 : Int32) (p2 : Int32) (p3 : Int32) : Int32 := ((v0_27 p0 p1 p2 p3) + (((p2.toUInt32 >>> ((4 : Int32) &&& 31).toUInt32).toInt32) &&& (7 : Int32)))
def v0_50 (p0 : Int32) (p1 : Int32) (p2 : Int32) (p3 : Int32) : Int32 := ((v0_38 p0 p1 p2 p3) + (((p2.toUInt32 >>> ((7 : Int32) &&& 31).toUInt32).toInt32) &&& (7 : Int32)))
def v0_61 (p0 : Int32) (p1 : Int32) (p2 : Int32) (p3 : Int32) : Int32 := (((v0_6 p0 p1 p2 p3) / (2 : Int32)) + (p3 &&& (7 : Int32)))
def v0_73 (p0 : Int32) (p1 : Int32) (p2 : Int32) (p3 : Int32) : Int32 := (((v0_61 p0 p1 p2 p3) + (1 : Int32)) + (((p3.toUInt32 >>> ((3 : Int32) &&& 31).toUInt32).toInt32) &&& (3 : Int32)))
def v0_85 (p0 : Int32) (p1 : Int32) (p2 : Int32) (p3 : Int32) : Int32 := (((v0_73 p0 p1 p2 p3) + (1 : Int32)) + (((p3.toUInt32 >>> ((5 : Int32) &&& 31).toUInt32).toInt32) &&& (3 : Int32)))
def v0_98 (p0 : Int32) (p1 : Int32) (p2 : Int32) (p3 : Int32) : Int32 := (((2 : Int32) * (v0_61 p0 p1 p2 p3)) + (((p3.toUInt32 >>> ((7 : Int32) &&& 31).toUInt32).toInt32) &&& (1 : Int32)))
def v0_111 (p0 : Int32) (p1 : Int32) (p2 : Int32) (p3 : Int32) : Int32 := (((2 : Int32) * (v0_73 p0 p1 p2 p3)) + (((p3.toUInt32 >>> ((8 : Int32) &&& 31).toUInt32).toInt32) &&& (1 : Int32)))
def v0_124 (p0 : Int32) (p1 : Int32) (p2 : Int32) (p3 : Int32) : Int32 := (((2 : Int32) * (v0_85 p0 p1 p2 p3)) + (((p3.toUInt32 >>> ((9 : Int32) &&& 31).toUInt32).toInt32) &&& (1 : Int32)))
def v0_214 (p0 : Int32) (p1 : Int32) (p2 : Int32) (p3 : Int32) : Int32 := (f1_0 (own_t3 (p1 &&& (3 : Int32)) (v0_27 p0 p1 p2 p3) (v0_38 p0 p1 p2 p3) (v0_50 p0 p1 p2 p3)) (p1 &&& (3 : Int32)))
def v0_222 (p0 : Int32) (p1 : Int32) (p2 : Int32) (p3 : Int32) : Int32 := (f1_1 (own_t3 (p1 &&& (3 : Int32)) (v0_27 p0 p1 p2 p3) (v0_38 p0 p1 p2 p3) (v0_50 p0 p1 p2 p3)) (p1 &&& (3 : Int32)))
def v0_230 (p0 : Int32) (p1 : Int32) (p2 : Int32) (p3 : Int32) : Int32 := (f1_2 (own_t3 (p1 &&& (3 : Int32)) (v0_27 p0 p1 p2 p3) (v0_38 p0 p1 p2 p3) (v0_50 p0 p1 p2 p3)) (p1 &&& (3 : Int32)))
def v0_238 (p0 : Int32) (p1 : Int32) (p2 : Int32) (p3 : Int32) : Int32 := (f1_0 (own_t3 (v0_18 p0 p1 p2 p3) (v0_98 p0 p1 p2 p3) (v0_111 p0 p1 p2 p3) (v0_124 p0 p1 p2 p3)) (v0_18 p0 p1 p2 p3))
def v0_246 (p0 : Int32) (p1 : Int32) (p2 : Int32) (p3 : Int32) : Int32 := (f1_1 (own_t3 (v0_18 p0 p1 p2 p3) (v0_98 p0 p1 p2 p3) (v0_111 p0 p1 p2 p3) (v0_124 p0 p1 p2 p3)) (v0_18 p0 p1 p2 p3))
def v0_254 (p0 : Int32) (p1 : Int32) (p2 : Int32) (p3 : Int32) : Int32 := (f1_2 (own_t3 (v0_18 p0 p1 p2 p3) (v0_98 p0 p1 p2 p3) (v0_111 p0 p1 p2 p3) (v0_124 p0 p1 p2 p3)) (v0_18 p0 p1 p2 p3))
def v0_351 (p0 : Int32) (p1 : Int32) (p2 : Int32) (p3 : Int32) : Int32 := (if (f2 (v0_214 p0 p1 p2 p3) (v0_238 p0 p1 p2 p3)) = (0 : Int32) then (if (f2 (v0_214 p0 p1 p2 p3) (v0_246 p0 p1 p2 p3)) = (0 : Int32) then (if (f2 (v0_214 p0 p1 p2 p3) (v0_254 p0 p1 p2 p3)) = (0 : Int32) then (if (f2 (v0_222 p0 p1 p2 p3) (v0_238 p0 p1 p2 p3)) = (0 : Int32) then (if (f2 (v0_222 p0 p1 p2 p3) (v0_246 p0 p1 p2 p3)) = (0 : Int32) then (if (f2 (v0_222 p0 p1 p2 p3) (v0_254 p0 p1 p2 p3)) = (0 : Int32) then (if (f2 (v0_230 p0 p1 p2 p3) (v0_238 p0 p1 p2 p3)) = (0 : Int32) then (if (f2 (v0_230 p0 p1 p2 p3) (v0_246 p0 p1 p2 p3)) = (0 : Int32) then (if (f2 (v0_230 p0 p1 p2 p3) (v0_254 p0 p1 p2 p3)) = (0 : Int32) then (0 : Int32) else (1 : Int32)) else (1 : Int32)) else (1 : Int32)) else (1 : Int32)) else (1 : Int32)) else (1 : Int32)) else (1 : Int32)) else (1 : Int32)) else (1 : Int32))
def v0_363 (p0 : Int32) (p1 : Int32) (p2 : Int32) (p3 : Int32) : Int32 := (if (v0_351 p0 p1 p2 p3) = (0 : Int32) then (1 : Int32) else (0 : Int32))
def la0_0 (p0 : Int32) (p1 : Int32) (p2 : Int32) (p3 : Int32) : Array Slot := #[.val (.int p0), .val (.int p1), .val (.int p2), .val (.int p3), .unset, .unset, .unset, .unset, .unset, .unset, .unset, .unset, .unset, .unset, .unset, .unset, .unset, .unset, .unset, .unset, .unset, .unset, .unset, .unset, .unset, .unset]
def la0_1 (p0 : Int32) (p1 : Int32) (p2 : Int32) (p3 : Int32) : Array Slot := #[.val (.int p0), .val (.int p1), .val (.int p2), .val (.int p3), .val (.int (v0_6 p0 p1 p2 p3)), .unset, .unset, .unset, .unset, .unset, .unset, .unset, .unset, .unset, .unset, .unset, .unset, .unset, .unset, .unset, .unset, .unset, .unset, .unset, .unset, .unset]
def la0_2 (p0 : Int32) (p1 : Int32) (p2 : Int32) (p3 : Int32) : Array Slot := #[.val (.int p0), .val (.int p1), .val (.int p2), .val (.int p3), .val (.int (v0_6 p0 p1 p2 p3)), .val (.int (p1 &&& (3 : Int32))), .unset, .unset, .unset, .unset, .unset, .unset, .unset, .unset, .unset, .unset, .unset, .unset, .unset, .unset, .unset, .unset, .unset, .unset, .unset, .unset]
def la0_3 (p0 : Int32) (p1 : Int32) (p2 : Int32) (p3 : Int32) : Array Slot := #[.val (.int p0), .val (.int p1), .val (.int p2), .val (.int p3), .val (.int (v0_6 p0 p1 p2 p3)), .val (.int (p1 &&& (3 : Int32))), .val (.int (v0_18 p0 p1 p2 p3)), .unset, .unset, .unset, .unset, .unset, .unset, .unset, .unset, .unset, .unset, .unset, .unset, .unset, .unset, .unset, .unset, .unset, .unset, .unset]
def la0_4 (p0 : Int32) (p1 : Int32) (p2 : Int32) (p3 : Int32) : Array Slot := #[.val (.int p0), .val (.int p1), .val (.int p2), .val (.int p3), .val (.int (v0_6 p0 p1 p2 p3)), .val (.int (p1 &&& (3 : Int32))), .val (.int (v0_18 p0 p1 p2 p3)), .val (.int (v0_27 p0 p1 p2 p3)), .unset, .unset, .unset, .unset, .unset, .unset, .unset, .unset, .unset, .unset, .unset, .unset, .unset, .unset, .unset, .unset, .unset, .unset]
def la0_5 (p0 : Int32) (p1 : Int32) (p2 : Int32) (p3 : Int32) : Array Slot := #[.val (.int p0), .val (.int p1), .val (.int p2), .val (.int p3), .val (.int (v0_6 p0 p1 p2 p3)), .val (.int (p1 &&& (3 : Int32))), .val (.int (v0_18 p0 p1 p2 p3)), .val (.int (v0_27 p0 p1 p2 p3)), .val (.int (v0_38 p0 p1 p2 p3)), .unset, .unset, .unset, .unset, .unset, .unset, .unset, .unset, .unset, .unset, .unset, .unset, .unset, .unset, .unset, .unset, .unset]
def la0_6 (p0 : Int32) (p1 : Int32) (p2 : Int32) (p3 : Int32) : Array Slot := #[.val (.int p0), .val (.int p1), .val (.int p2), .val (.int p3), .val (.int (v0_6 p0 p1 p2 p3)), .val (.int (p1 &&& (3 : Int32))), .val (.int (v0_18 p0 p1 p2 p3)), .val (.int (v0_27 p0 p1 p2 p3)), .val (.int (v0_38 p0 p1 p2 p3)), .val (.int (v0_50 p0 p1 p2 p3)), .unset, .unset, .unset, .unset, .unset, .unset, .unset, .unset, .unset, .unset, .unset, .unset, .unset, .unset, .unset, .unset]
def la0_7 (p0 : Int32) (p1 : Int32) (p2 : Int32) (p3 : Int32) : Array Slot := #[.val (.int p0), .val (.int p1), .val (.int p2), .val (.int p3), .val (.int (v0_6 p0 p1 p2 p3)), .val (.int (p1 &&& (3 : Int32))), .val (.int (v0_18 p0 p1 p2 p3)), .val (.int (v0_27 p0 p1 p2 p3)), .val (.int (v0_38 p0 p1 p2 p3)), .val (.int (v0_50 p0 p1 p2 p3)), .val (.int (v0_61 p0 p1 p2 p3)), .unset, .unset, .unset, .unset, .unset, .unset, .unset, .unset, .unset, .unset, .unset, .unset, .unset, .unset, .unset]
def la0_8 (p0 : Int32) (p1 : Int32) (p2 : Int32) (p3 : Int32) : Array Slot := #[.val (.int p0), .val (.int p1), .val (.int p2), .val (.int p3), .val (.int (v0_6 p0 p1 p2 p3)), .val (.int (p1 &&& (3 : Int32))), .val (.int (v0_18 p0 p1 p2 p3)), .val (.int (v0_27 p0 p1 p2 p3)), .val (.int (v0_38 p0 p1 p2 p3)), .val (.int (v0_50 p0 p1 p2 p3)), .val (.int (v0_61 p0 p1 p2 p3)), .val (.int (v0_73 p0 p1 p2 p3)), .unset, .unset, .unset, .unset, .unset, .unset, .unset, .unset, .unset, .unset, .unset, .unset, .unset, .unset]
def la0_9 (p0 : Int32) (p1 : Int32) (p2 : Int32) (p3 : Int32) : Array Slot := #[.val (.int p0), .val (.int p1), .val (.int p2), .val (.int p3), .val (.int (v0_6 p0 p1 p2 p3)), .val (.int (p1 &&& (3 : Int32))), .val (.int (v0_18 p0 p1 p2 p3)), .val (.int (v0_27 p0 p1 p2 p3)), .val (.int (v0_38 p0 p1 p2 p3)), .val (.int (v0_50 p0 p1 p2 p3)), .val (.int (v0_61 p0 p1 p2 p3)), .val (.int (v0_73 p0 p1 p2 p3)), .val (.int (v0_85 p0 p1 p2 p3)), .unset, .unset, .unset, .unset, .unset, .unset, .unset, .unset, .unset, .unset, .unset, .unset, .unset]
def la0_10 (p0 : Int32) (p1 : Int32) (p2 : Int32) (p3 : Int32) : Array Slot := #[.val (.int p0), .val (.int p1), .val (.int p2), .val (.int p3), .val (.int (v0_6 p0 p1 p2 p3)), .val (.int (p1 &&& (3 : Int32))), .val (.int (v0_18 p0 p1 p2 p3)), .val (.int (v0_27 p0 p1 p2 p3)), .val (.int (v0_38 p0 p1 p2 p3)), .val (.int (v0_50 p0 p1 p2 p3)), .val (.int (v0_61 p0 p1 p2 p3)), .val (.int (v0_73 p0 p1 p2 p3)), .val (.int (v0_85 p0 p1 p2 p3)), .val (.int (v0_98 p0 p1 p2 p3)), .unset, .unset, .unset, .unset, .unset, .unset, .unset, .unset, .unset, .unset, .unset, .unset]
def la0_11 (p0 : Int32) (p1 : Int32) (p2 : Int32) (p3 : Int32) : Array Slot := #[.val (.int p0), .val (.int p1), .val (.int p2), .val (.int p3), .val (.int (v0_6 p0 p1 p2 p3)), .val (.int (p1 &&& (3 : Int32))), .val (.int (v0_18 p0 p1 p2 p3)), .val (.int (v0_27 p0 p1 p2 p3)), .val (.int (v0_38 p0 p1 p2 p3)), .val (.int (v0_50 p0 p1 p2 p3)), .val (.int (v0_61 p0 p1 p2 p3)), .val (.int (v0_73 p0 p1 p2 p3)), .val (.int (v0_85 p0 p1 p2 p3)), .val (.int (v0_98 p0 p1 p2 p3)), .val (.int (v0_111 p0 p1 p2 p3)), .unset, .unset, .unset, .unset, .unset, .unset, .unset, .unset, .unset, .unset, .unset]
def la0_12 (p0 : Int32) (p1 : Int32) (p2 : Int32) (p3 : Int32) : Array Slot := #[.val (.int p0), .val (.int p1), .val (.int p2), .val (.int p3), .val (.int (v0_6 p0 p1 p2 p3)), .val (.int (p1 &&& (3 : Int32))), .val (.int (v0_18 p0 p1 p2 p3)), .val (.int (v0_27 p0 p1 p2 p3)), .val (.int (v0_38 p0 p1 p2 p3)), .val (.int (v0_50 p0 p1 p2 p3)), .val (.int (v0_61 p0 p1 p2 p3)), .val (.int (v0_73 p0 p1 p2 p3)), .val (.int (v0_85 p0 p1 p2 p3)), .val (.int (v0_98 p0 p1 p2 p3)), .val (.int (v0_111 p0 p1 p2 p3)), .val (.int (v0_124 p0 p1 p2 p3)), .unset, .unset, .unset, .unset, .unset, .unset, .unset, .unset, .unset, .unset]
def la0_13 (p0 : Int32) (p1 : Int32) (p2 : Int32) (p3 : Int32) : Array Slot := #[.val (.int p0), .val (.int p1), .val (.int p2), .val (.int p3), .val (.int (v0_6 p0 p1 p2 p3)), .val (.int (0 : Int32)), .val (.int (v0_18 p0 p1 p2 p3)), .val (.int (v0_27 p0 p1 p2 p3)), .val (.int (v0_38 p0 p1 p2 p3)), .val (.int (v0_50 p0 p1 p2 p3)), .val (.int (v0_61 p0 p1 p2 p3)), .val (.int (v0_73 p0 p1 p2 p3)), .val (.int (v0_85 p0 p1 p2 p3)), .val (.int (v0_98 p0 p1 p2 p3)), .val (.int (v0_111 p0 p1 p2 p3)), .val (.int (v0_124 p0 p1 p2 p3)), .unset, .unset, .unset, .unset, .unset, .unset, .unset, .unset, .unset, .unset]
def la0_14 (p0 : Int32) (p1 : Int32) (p2 : Int32) (p3 : Int32) (b0_128 : Addr) : Array Slot := #[.val (.int p0), .val (.int p1), .val (.int p2), .val (.int p3), .val (.int (v0_6 p0 p1 p2 p3)), .val (.int (0 : Int32)), .val (.int (v0_18 p0 p1 p2 p3)), .val (.int (v0_27 p0 p1 p2 p3)), .val (.int (v0_38 p0 p1 p2 p3)), .val (.int (v0_50 p0 p1 p2 p3)), .val (.int (v0_61 p0 p1 p2 p3)), .val (.int (v0_73 p0 p1 p2 p3)), .val (.int (v0_85 p0 p1 p2 p3)), .val (.int (v0_98 p0 p1 p2 p3)), .val (.int (v0_111 p0 p1 p2 p3)), .val (.int (v0_124 p0 p1 p2 p3)), .val (.ref b0_128), .unset, .unset, .unset, .unset, .unset, .unset, .unset, .unset, .unset]
def la0_15 (p0 : Int32) (p1 : Int32) (p2 : Int32) (p3 : Int32) : Array Slot := #[.val (.int p0), .val (.int p1), .val (.int p2), .val (.int p3), .val (.int (v0_6 p0 p1 p2 p3)), .val (.int (1 : Int32)), .val (.int (v0_18 p0 p1 p2 p3)), .val (.int (v0_27 p0 p1 p2 p3)), .val (.int (v0_38 p0 p1 p2 p3)), .val (.int (v0_50 p0 p1 p2 p3)), .val (.int (v0_61 p0 p1 p2 p3)), .val (.int (v0_73 p0 p1 p2 p3)), .val (.int (v0_85 p0 p1 p2 p3)), .val (.int (v0_98 p0 p1 p2 p3)), .val (.int (v0_111 p0 p1 p2 p3)), .val (.int (v0_124 p0 p1 p2 p3)), .unset, .unset, .unset, .unset, .unset, .unset, .unset, .unset, .unset, .unset]
def la0_16 (p0 : Int32) (p1 : Int32) (p2 : Int32) (p3 : Int32) (b0_128 : Addr) : Array Slot := #[.val (.int p0), .val (.int p1), .val (.int p2), .val (.int p3), .val (.int (v0_6 p0 p1 p2 p3)), .val (.int (1 : Int32)), .val (.int (v0_18 p0 p1 p2 p3)), .val (.int (v0_27 p0 p1 p2 p3)), .val (.int (v0_38 p0 p1 p2 p3)), .val (.int (v0_50 p0 p1 p2 p3)), .val (.int (v0_61 p0 p1 p2 p3)), .val (.int (v0_73 p0 p1 p2 p3)), .val (.int (v0_85 p0 p1 p2 p3)), .val (.int (v0_98 p0 p1 p2 p3)), .val (.int (v0_111 p0 p1 p2 p3)), .val (.int (v0_124 p0 p1 p2 p3)), .val (.ref b0_128), .unset, .unset, .unset, .unset, .unset, .unset, .unset, .unset, .unset]
def la0_17 (p0 : Int32) (p1 : Int32) (p2 : Int32) (p3 : Int32) : Array Slot := #[.val (.int p0), .val (.int p1), .val (.int p2), .val (.int p3), .val (.int (v0_6 p0 p1 p2 p3)), .val (.int (2 : Int32)), .val (.int (v0_18 p0 p1 p2 p3)), .val (.int (v0_27 p0 p1 p2 p3)), .val (.int (v0_38 p0 p1 p2 p3)), .val (.int (v0_50 p0 p1 p2 p3)), .val (.int (v0_61 p0 p1 p2 p3)), .val (.int (v0_73 p0 p1 p2 p3)), .val (.int (v0_85 p0 p1 p2 p3)), .val (.int (v0_98 p0 p1 p2 p3)), .val (.int (v0_111 p0 p1 p2 p3)), .val (.int (v0_124 p0 p1 p2 p3)), .unset, .unset, .unset, .unset, .unset, .unset, .unset, .unset, .unset, .unset]
def la0_18 (p0 : Int32) (p1 : Int32) (p2 : Int32) (p3 : Int32) (b0_128 : Addr) : Array Slot := #[.val (.int p0), .val (.int p1), .val (.int p2), .val (.int p3), .val (.int (v0_6 p0 p1 p2 p3)), .val (.int (2 : Int32)), .val (.int (v0_18 p0 p1 p2 p3)), .val (.int (v0_27 p0 p1 p2 p3)), .val (.int (v0_38 p0 p1 p2 p3)), .val (.int (v0_50 p0 p1 p2 p3)), .val (.int (v0_61 p0 p1 p2 p3)), .val (.int (v0_73 p0 p1 p2 p3)), .val (.int (v0_85 p0 p1 p2 p3)), .val (.int (v0_98 p0 p1 p2 p3)), .val (.int (v0_111 p0 p1 p2 p3)), .val (.int (v0_124 p0 p1 p2 p3)), .val (.ref b0_128), .unset, .unset, .unset, .unset, .unset, .unset, .unset, .unset, .unset]
def la0_19 (p0 : Int32) (p1 : Int32) (p2 : Int32) (p3 : Int32) : Array Slot := #[.val (.int p0), .val (.int p1), .val (.int p2), .val (.int p3), .val (.int (v0_6 p0 p1 p2 p3)), .val (.int (3 : Int32)), .val (.int (v0_18 p0 p1 p2 p3)), .val (.int (v0_27 p0 p1 p2 p3)), .val (.int (v0_38 p0 p1 p2 p3)), .val (.int (v0_50 p0 p1 p2 p3)), .val (.int (v0_61 p0 p1 p2 p3)), .val (.int (v0_73 p0 p1 p2 p3)), .val (.int (v0_85 p0 p1 p2 p3)), .val (.int (v0_98 p0 p1 p2 p3)), .val (.int (v0_111 p0 p1 p2 p3)), .val (.int (v0_124 p0 p1 p2 p3)), .unset, .unset, .unset, .unset, .unset, .unset, .unset, .unset, .unset, .unset]
def la0_20 (p0 : Int32) (p1 : Int32) (p2 : Int32) (p3 : Int32) (b0_128 : Addr) : Array Slot := #[.val (.int p0), .val (.int p1), .val (.int p2), .val (.int p3), .val (.int (v0_6 p0 p1 p2 p3)), .val (.int (3 : Int32)), .val (.int (v0_18 p0 p1 p2 p3)), .val (.int (v0_27 p0 p1 p2 p3)), .val (.int (v0_38 p0 p1 p2 p3)), .val (.int (v0_50 p0 p1 p2 p3)), .val (.int (v0_61 p0 p1 p2 p3)), .val (.int (v0_73 p0 p1 p2 p3)), .val (.int (v0_85 p0 p1 p2 p3)), .val (.int (v0_98 p0 p1 p2 p3)), .val (.int (v0_111 p0 p1 p2 p3)), .val (.int (v0_124 p0 p1 p2 p3)), .val (.ref b0_128), .unset, .unset, .unset, .unset, .unset, .unset, .unset, .unset, .unset]
def la0_21 (p0 : Int32) (p1 : Int32) (p2 : Int32) (p3 : Int32) (b0_128 : Addr) : Array Slot := #[.val (.int p0), .val (.int p1), .val (.int p2), .val (.int p3), .val (.int (v0_6 p0 p1 p2 p3)), .val (.int (p1 &&& (3 : Int32))), .val (.int (0 : Int32)), .val (.int (v0_27 p0 p1 p2 p3)), .val (.int (v0_38 p0 p1 p2 p3)), .val (.int (v0_50 p0 p1 p2 p3)), .val (.int (v0_61 p0 p1 p2 p3)), .val (.int (v0_73 p0 p1 p2 p3)), .val (.int (v0_85 p0 p1 p2 p3)), .val (.int (v0_98 p0 p1 p2 p3)), .val (.int (v0_111 p0 p1 p2 p3)), .val (.int (v0_124 p0 p1 p2 p3)), .val (.ref b0_128), .unset, .unset, .unset, .unset, .unset, .unset, .unset, .unset, .unset]
def la0_22 (p0 : Int32) (p1 : Int32) (p2 : Int32) (p3 : Int32) (b0_128 : Addr) (b0_134 : Addr) : Array Slot := #[.val (.int p0), .val (.int p1), .val (.int p2), .val (.int p3), .val (.int (v0_6 p0 p1 p2 p3)), .val (.int (p1 &&& (3 : Int32))), .val (.int (0 : Int32)), .val (.int (v0_27 p0 p1 p2 p3)), .val (.int (v0_38 p0 p1 p2 p3)), .val (.int (v0_50 p0 p1 p2 p3)), .val (.int (v0_61 p0 p1 p2 p3)), .val (.int (v0_73 p0 p1 p2 p3)), .val (.int (v0_85 p0 p1 p2 p3)), .val (.int (v0_98 p0 p1 p2 p3)), .val (.int (v0_111 p0 p1 p2 p3)), .val (.int (v0_124 p0 p1 p2 p3)), .val (.ref b0_128), .val (.ref b0_134), .unset, .unset, .unset, .unset, .unset, .unset, .unset, .unset]
def la0_23 (p0 : Int32) (p1 : Int32) (p2 : Int32) (p3 : Int32) (b0_128 : Addr) : Array Slot := #[.val (.int p0), .val (.int p1), .val (.int p2), .val (.int p3), .val (.int (v0_6 p0 p1 p2 p3)), .val (.int (p1 &&& (3 : Int32))), .val (.int (1 : Int32)), .val (.int (v0_27 p0 p1 p2 p3)), .val (.int (v0_38 p0 p1 p2 p3)), .val (.int (v0_50 p0 p1 p2 p3)), .val (.int (v0_61 p0 p1 p2 p3)), .val (.int (v0_73 p0 p1 p2 p3)), .val (.int (v0_85 p0 p1 p2 p3)), .val (.int (v0_98 p0 p1 p2 p3)), .val (.int (v0_111 p0 p1 p2 p3)), .val (.int (v0_124 p0 p1 p2 p3)), .val (.ref b0_128), .unset, .unset, .unset, .unset, .unset, .unset, .unset, .unset, .unset]
def la0_24 (p0 : Int32) (p1 : Int32) (p2 : Int32) (p3 : Int32) (b0_128 : Addr) (b0_134 : Addr) : Array Slot := #[.val (.int p0), .val (.int p1), .val (.int p2), .val (.int p3), .val (.int (v0_6 p0 p1 p2 p3)), .val (.int (p1 &&& (3 : Int32))), .val (.int (1 : Int32)), .val (.int (v0_27 p0 p1 p2 p3)), .val (.int (v0_38 p0 p1 p2 p3)), .val (.int (v0_50 p0 p1 p2 p3)), .val (.int (v0_61 p0 p1 p2 p3)), .val (.int (v0_73 p0 p1 p2 p3)), .val (.int (v0_85 p0 p1 p2 p3)), .val (.int (v0_98 p0 p1 p2 p3)), .val (.int (v0_111 p0 p1 p2 p3)), .val (.int (v0_124 p0 p1 p2 p3)), .val (.ref b0_128), .val (.ref b0_134), .unset, .unset, .unset, .unset, .unset, .unset, .unset, .unset]
def la0_25 (p0 : Int32) (p1 : Int32) (p2 : Int32) (p3 : Int32) (b0_128 : Addr) : Array Slot := #[.val (.int p0), .val (.int p1), .val (.int p2), .val (.int p3), .val (.int (v0_6 p0 p1 p2 p3)), .val (.int (p1 &&& (3 : Int32))), .val (.int (2 : Int32)), .val (.int (v0_27 p0 p1 p2 p3)), .val (.int (v0_38 p0 p1 p2 p3)), .val (.int (v0_50 p0 p1 p2 p3)), .val (.int (v0_61 p0 p1 p2 p3)), .val (.int (v0_73 p0 p1 p2 p3)), .val (.int (v0_85 p0 p1 p2 p3)), .val (.int (v0_98 p0 p1 p2 p3)), .val (.int (v0_111 p0 p1 p2 p3)), .val (.int (v0_124 p0 p1 p2 p3)), .val (.ref b0_128), .unset, .unset, .unset, .unset, .unset, .unset, .unset, .unset, .unset]
def la0_26 (p0 : Int32) (p1 : Int32) (p2 : Int32) (p3 : Int32) (b0_128 : Addr) (b0_134 : Addr) : Array Slot := #[.val (.int p0), .val (.int p1), .val (.int p2), .val (.int p3), .val (.int (v0_6 p0 p1 p2 p3)), .val (.int (p1 &&& (3 : Int32))), .val (.int (2 : Int32)), .val (.int (v0_27 p0 p1 p2 p3)), .val (.int (v0_38 p0 p1 p2 p3)), .val (.int (v0_50 p0 p1 p2 p3)), .val (.int (v0_61 p0 p1 p2 p3)), .val (.int (v0_73 p0 p1 p2 p3)), .val (.int (v0_85 p0 p1 p2 p3)), .val (.int (v0_98 p0 p1 p2 p3)), .val (.int (v0_111 p0 p1 p2 p3)), .val (.int (v0_124 p0 p1 p2 p3)), .val (.ref b0_128), .val (.ref b0_134), .unset, .unset, .unset, .unset, .unset, .unset, .unset, .unset]
def la0_27 (p0 : Int32) (p1 : Int32) (p2 : Int32) (p3 : Int32) (b0_128 : Addr) : Array Slot := #[.val (.int p0), .val (.int p1), .val (.int p2), .val (.int p3), .val (.int (v0_6 p0 p1 p2 p3)), .val (.int (p1 &&& (3 : Int32))), .val (.int (3 : Int32)), .val (.int (v0_27 p0 p1 p2 p3)), .val (.int (v0_38 p0 p1 p2 p3)), .val (.int (v0_50 p0 p1 p2 p3)), .val (.int (v0_61 p0 p1 p2 p3)), .val (.int (v0_73 p0 p1 p2 p3)), .val (.int (v0_85 p0 p1 p2 p3)), .val (.int (v0_98 p0 p1 p2 p3)), .val (.int (v0_111 p0 p1 p2 p3)), .val (.int (v0_124 p0 p1 p2 p3)), .val (.ref b0_128), .unset, .unset, .unset, .unset, .unset, .unset, .unset, .unset, .unset]
def la0_28 (p0 : Int32) (p1 : Int32) (p2 : Int32) (p3 : Int32) (b0_128 : Addr) (b0_134 : Addr) : Array Slot := #[.val (.int p0), .val (.int p1), .val (.int p2), .val (.int p3), .val (.int (v0_6 p0 p1 p2 p3)), .val (.int (p1 &&& (3 : Int32))), .val (.int (3 : Int32)), .val (.int (v0_27 p0 p1 p2 p3)), .val (.int (v0_38 p0 p1 p2 p3)), .val (.int (v0_50 p0 p1 p2 p3)), .val (.int (v0_61 p0 p1 p2 p3)), .val (.int (v0_73 p0 p1 p2 p3)), .val (.int (v0_85 p0 p1 p2 p3)), .val (.int (v0_98 p0 p1 p2 p3)), .val (.int (v0_111 p0 p1 p2 p3)), .val (.int (v0_124 p0 p1 p2 p3)), .val (.ref b0_128), .val (.ref b0_134), .unset, .unset, .unset, .unset, .unset, .unset, .unset, .unset]
def la0_29 (p0 : Int32) (p1 : Int32) (p2 : Int32) (p3 : Int32) (b0_128 : Addr) (b0_134 : Addr) : Array Slot := #[.val (.int p0), .val (.int p1), .val (.int p2), .val (.int p3), .val (.int (v0_6 p0 p1 p2 p3)), .val (.int (1 : Int32)), .val (.int (v0_18 p0 p1 p2 p3)), .val (.int (v0_27 p0 p1 p2 p3)), .val (.int (v0_38 p0 p1 p2 p3)), .val (.int (v0_50 p0 p1 p2 p3)), .val (.int (v0_61 p0 p1 p2 p3)), .val (.int (v0_73 p0 p1 p2 p3)), .val (.int (v0_85 p0 p1 p2 p3)), .val (.int (v0_98 p0 p1 p2 p3)), .val (.int (v0_111 p0 p1 p2 p3)), .val (.int (v0_124 p0 p1 p2 p3)), .val (.ref b0_128), .val (.ref b0_134), .unset, .unset, .unset, .unset, .unset, .unset, .unset, .unset]
def la0_30 (p0 : Int32) (p1 : Int32) (p2 : Int32) (p3 : Int32) (b0_128 : Addr) (b0_134 : Addr) : Array Slot := #[.val (.int p0), .val (.int p1), .val (.int p2), .val (.int p3), .val (.int (v0_6 p0 p1 p2 p3)), .val (.int (2 : Int32)), .val (.int (v0_18 p0 p1 p2 p3)), .val (.int (v0_27 p0 p1 p2 p3)), .val (.int (v0_38 p0 p1 p2 p3)), .val (.int (v0_50 p0 p1 p2 p3)), .val (.int (v0_61 p0 p1 p2 p3)), .val (.int (v0_73 p0 p1 p2 p3)), .val (.int (v0_85 p0 p1 p2 p3)), .val (.int (v0_98 p0 p1 p2 p3)), .val (.int (v0_111 p0 p1 p2 p3)), .val (.int (v0_124 p0 p1 p2 p3)), .val (.ref b0_128), .val (.ref b0_134), .unset, .unset, .unset, .unset, .unset, .unset, .unset, .unset]
def la0_31 (p0 : Int32) (p1 : Int32) (p2 : Int32) (p3 : Int32) (b0_128 : Addr) (b0_134 : Addr) : Array Slot := #[.val (.int p0), .val (.int p1), .val (.int p2), .val (.int p3), .val (.int (v0_6 p0 p1 p2 p3)), .val (.int (3 : Int32)), .val (.int (v0_18 p0 p1 p2 p3)), .val (.int (v0_27 p0 p1 p2 p3)), .val (.int (v0_38 p0 p1 p2 p3)), .val (.int (v0_50 p0 p1 p2 p3)), .val (.int (v0_61 p0 p1 p2 p3)), .val (.int (v0_73 p0 p1 p2 p3)), .val (.int (v0_85 p0 p1 p2 p3)), .val (.int (v0_98 p0 p1 p2 p3)), .val (.int (v0_111 p0 p1 p2 p3)), .val (.int (v0_124 p0 p1 p2 p3)), .val (.ref b0_128), .val (.ref b0_134), .unset, .unset, .unset, .unset, .unset, .unset, .unset, .unset]
def la0_32 (p0 : Int32) (p1 : Int32) (p2 : Int32) (p3 : Int32) (b0_128 : Addr) (b0_134 : Addr) : Array Slot := #[.val (.int p0), .val (.int p1), .val (.int p2), .val (.int p3), .val (.int (v0_6 p0 p1 p2 p3)), .val (.int (p1 &&& (3 : Int32))), .val (.int (v0_18 p0 p1 p2 p3)), .val (.int (v0_27 p0 p1 p2 p3)), .val (.int (v0_38 p0 p1 p2 p3)), .val (.int (v0_50 p0 p1 p2 p3)), .val (.int (v0_61 p0 p1 p2 p3)), .val (.int (v0_73 p0 p1 p2 p3)), .val (.int (v0_85 p0 p1 p2 p3)), .val (.int (v0_98 p0 p1 p2 p3)), .val (.int (v0_111 p0 p1 p2 p3)), .val (.int (v0_124 p0 p1 p2 p3)), .val (.ref b0_128), .val (.ref b0_134), .unset, .unset, .unset, .unset, .unset, .unset, .unset, .unset]
def la0_33 (p0 : Int32) (p1 : Int32) (p2 : Int32) (p3 : Int32) (b0_128 : Addr) (b0_134 : Addr) : Array Slot := #[.val (.int p0), .val (.int p1), .val (.int p2), .val (.int p3), .val (.int (v0_6 p0 p1 p2 p3)), .val (.int (p1 &&& (3 : Int32))), .val (.int (v0_18 p0 p1 p2 p3)), .val (.int (v0_27 p0 p1 p2 p3)), .val (.int (v0_38 p0 p1 p2 p3)), .val (.int (v0_50 p0 p1 p2 p3)), .val (.int (v0_61 p0 p1 p2 p3)), .val (.int (v0_73 p0 p1 p2 p3)), .val (.int (v0_85 p0 p1 p2 p3)), .val (.int (v0_98 p0 p1 p2 p3)), .val (.int (v0_111 p0 p1 p2 p3)), .val (.int (v0_124 p0 p1 p2 p3)), .val (.ref b0_128), .val (.ref b0_134), .val (.int (v0_214 p0 p1 p2 p3)), .unset, .unset, .unset, .unset, .unset, .unset, .unset]
def la0_34 (p0 : Int32) (p1 : Int32) (p2 : Int32) (p3 : Int32) (b0_128 : Addr) (b0_134 : Addr) : Array Slot := #[.val (.int p0), .val (.int p1), .val (.int p2), .val (.int p3), .val (.int (v0_6 p0 p1 p2 p3)), .val (.int (p1 &&& (3 : Int32))), .val (.int (v0_18 p0 p1 p2 p3)), .val (.int (v0_27 p0 p1 p2 p3)), .val (.int (v0_38 p0 p1 p2 p3)), .val (.int (v0_50 p0 p1 p2 p3)), .val (.int (v0_61 p0 p1 p2 p3)), .val (.int (v0_73 p0 p1 p2 p3)), .val (.int (v0_85 p0 p1 p2 p3)), .val (.int (v0_98 p0 p1 p2 p3)), .val (.int (v0_111 p0 p1 p2 p3)), .val (.int (v0_124 p0 p1 p2 p3)), .val (.ref b0_128), .val (.ref b0_134), .val (.int (v0_214 p0 p1 p2 p3)), .val (.int (v0_222 p0 p1 p2 p3)), .unset, .unset, .unset, .unset, .unset, .unset]
def la0_35 (p0 : Int32) (p1 : Int32) (p2 : Int32) (p3 : Int32) (b0_128 : Addr) (b0_134 : Addr) : Array Slot := #[.val (.int p0), .val (.int p1), .val (.int p2), .val (.int p3), .val (.int (v0_6 p0 p1 p2 p3)), .val (.int (p1 &&& (3 : Int32))), .val (.int (v0_18 p0 p1 p2 p3)), .val (.int (v0_27 p0 p1 p2 p3)), .val (.int (v0_38 p0 p1 p2 p3)), .val (.int (v0_50 p0 p1 p2 p3)), .val (.int (v0_61 p0 p1 p2 p3)), .val (.int (v0_73 p0 p1 p2 p3)), .val (.int (v0_85 p0 p1 p2 p3)), .val (.int (v0_98 p0 p1 p2 p3)), .val (.int (v0_111 p0 p1 p2 p3)), .val (.int (v0_124 p0 p1 p2 p3)), .val (.ref b0_128), .val (.ref b0_134), .val (.int (v0_214 p0 p1 p2 p3)), .val (.int (v0_222 p0 p1 p2 p3)), .val (.int (v0_230 p0 p1 p2 p3)), .unset, .unset, .unset, .unset, .unset]
def la0_36 (p0 : Int32) (p1 : Int32) (p2 : Int32) (p3 : Int32) (b0_128 : Addr) (b0_134 : Addr) : Array Slot := #[.val (.int p0), .val (.int p1), .val (.int p2), .val (.int p3), .val (.int (v0_6 p0 p1 p2 p3)), .val (.int (p1 &&& (3 : Int32))), .val (.int (v0_18 p0 p1 p2 p3)), .val (.int (v0_27 p0 p1 p2 p3)), .val (.int (v0_38 p0 p1 p2 p3)), .val (.int (v0_50 p0 p1 p2 p3)), .val (.int (v0_61 p0 p1 p2 p3)), .val (.int (v0_73 p0 p1 p2 p3)), .val (.int (v0_85 p0 p1 p2 p3)), .val (.int (v0_98 p0 p1 p2 p3)), .val (.int (v0_111 p0 p1 p2 p3)), .val (.int (v0_124 p0 p1 p2 p3)), .val (.ref b0_128), .val (.ref b0_134), .val (.int (v0_214 p0 p1 p2 p3)), .val (.int (v0_222 p0 p1 p2 p3)), .val (.int (v0_230 p0 p1 p2 p3)), .val (.int (v0_238 p0 p1 p2 p3)), .unset, .unset, .unset, .unset]
def la0_37 (p0 : Int32) (p1 : Int32) (p2 : Int32) (p3 : Int32) (b0_128 : Addr) (b0_134 : Addr) : Array Slot := #[.val (.int p0), .val (.int p1), .val (.int p2), .val (.int p3), .val (.int (v0_6 p0 p1 p2 p3)), .val (.int (p1 &&& (3 : Int32))), .val (.int (v0_18 p0 p1 p2 p3)), .val (.int (v0_27 p0 p1 p2 p3)), .val (.int (v0_38 p0 p1 p2 p3)), .val (.int (v0_50 p0 p1 p2 p3)), .val (.int (v0_61 p0 p1 p2 p3)), .val (.int (v0_73 p0 p1 p2 p3)), .val (.int (v0_85 p0 p1 p2 p3)), .val (.int (v0_98 p0 p1 p2 p3)), .val (.int (v0_111 p0 p1 p2 p3)), .val (.int (v0_124 p0 p1 p2 p3)), .val (.ref b0_128), .val (.ref b0_134), .val (.int (v0_214 p0 p1 p2 p3)), .val (.int (v0_222 p0 p1 p2 p3)), .val (.int (v0_230 p0 p1 p2 p3)), .val (.int (v0_238 p0 p1 p2 p3)), .val (.int (v0_246 p0 p1 p2 p3)), .unset, .unset, .unset]
def la0_38 (p0 : Int32) (p1 : Int32) (p2 : Int32) (p3 : Int32) (b0_128 : Addr) (b0_134 : Addr) : Array Slot := #[.val (.int p0), .val (.int p1), .val (.int p2), .val (.int p3), .val (.int (v0_6 p0 p1 p2 p3)), .val (.int (p1 &&& (3 : Int32))), .val (.int (v0_18 p0 p1 p2 p3)), .val (.int (v0_27 p0 p1 p2 p3)), .val (.int (v0_38 p0 p1 p2 p3)), .val (.int (v0_50 p0 p1 p2 p3)), .val (.int (v0_61 p0 p1 p2 p3)), .val (.int (v0_73 p0 p1 p2 p3)), .val (.int (v0_85 p0 p1 p2 p3)), .val (.int (v0_98 p0 p1 p2 p3)), .val (.int (v0_111 p0 p1 p2 p3)), .val (.int (v0_124 p0 p1 p2 p3)), .val (.ref b0_128), .val (.ref b0_134), .val (.int (v0_214 p0 p1 p2 p3)), .val (.int (v0_222 p0 p1 p2 p3)), .val (.int (v0_230 p0 p1 p2 p3)), .val (.int (v0_238 p0 p1 p2 p3)), .val (.int (v0_246 p0 p1 p2 p3)), .val (.int (v0_254 p0 p1 p2 p3)), .unset, .unset]
def la0_39 (p0 : Int32) (p1 : Int32) (p2 : Int32) (p3 : Int32) (b0_128 : Addr) (b0_134 : Addr) : Array Slot := #[.val (.int p0), .val (.int p1), .val (.int p2), .val (.int p3), .val (.int (v0_6 p0 p1 p2 p3)), .val (.int (p1 &&& (3 : Int32))), .val (.int (v0_18 p0 p1 p2 p3)), .val (.int (v0_27 p0 p1 p2 p3)), .val (.int (v0_38 p0 p1 p2 p3)), .val (.int (v0_50 p0 p1 p2 p3)), .val (.int (v0_61 p0 p1 p2 p3)), .val (.int (v0_73 p0 p1 p2 p3)), .val (.int (v0_85 p0 p1 p2 p3)), .val (.int (v0_98 p0 p1 p2 p3)), .val (.int (v0_111 p0 p1 p2 p3)), .val (.int (v0_124 p0 p1 p2 p3)), .val (.ref b0_128), .val (.ref b0_134), .val (.int (v0_214 p0 p1 p2 p3)), .val (.int (v0_222 p0 p1 p2 p3)), .val (.int (v0_230 p0 p1 p2 p3)), .val (.int (v0_238 p0 p1 p2 p3)), .val (.int (v0_246 p0 p1 p2 p3)), .val (.int (v0_254 p0 p1 p2 p3)), .val (.int (v0_351 p0 p1 p2 p3)), .unset]
def la0_40 (p0 : Int32) (p1 : Int32) (p2 : Int32) (p3 : Int32) (b0_128 : Addr) (b0_134 : Addr) : Array Slot := #[.val (.int p0), .val (.int p1), .val (.int p2), .val (.int p3), .val (.int (v0_6 p0 p1 p2 p3)), .val (.int (p1 &&& (3 : Int32))), .val (.int (v0_18 p0 p1 p2 p3)), .val (.int (v0_27 p0 p1 p2 p3)), .val (.int (v0_38 p0 p1 p2 p3)), .val (.int (v0_50 p0 p1 p2 p3)), .val (.int (v0_61 p0 p1 p2 p3)), .val (.int (v0_73 p0 p1 p2 p3)), .val (.int (v0_85 p0 p1 p2 p3)), .val (.int (v0_98 p0 p1 p2 p3)), .val (.int (v0_111 p0 p1 p2 p3)), .val (.int (v0_124 p0 p1 p2 p3)), .val (.ref b0_128), .val (.ref b0_134), .val (.int (v0_214 p0 p1 p2 p3)), .val (.int (v0_222 p0 p1 p2 p3)), .val (.int (v0_230 p0 p1 p2 p3)), .val (.int (v0_238 p0 p1 p2 p3)), .val (.int (v0_246 p0 p1 p2 p3)), .val (.int (v0_254 p0 p1 p2 p3)), .val (.int (v0_351 p0 p1 p2 p3)), .val (.int (v0_363 p0 p1 p2 p3))]
def la0_41 (p0 : Int32) (p1 : Int32) (p2 : Int32) (p3 : Int32) (b0_128 : Addr) : Array Slot := #[.val (.int p0), .val (.int p1), .val (.int p2), .val (.int p3), .val (.int (v0_6 p0 p1 p2 p3)), .val (.int (p1 &&& (3 : Int32))), .val (.int (v0_18 p0 p1 p2 p3)), .val (.int (v0_27 p0 p1 p2 p3)), .val (.int (v0_38 p0 p1 p2 p3)), .val (.int (v0_50 p0 p1 p2 p3)), .val (.int (v0_61 p0 p1 p2 p3)), .val (.int (v0_73 p0 p1 p2 p3)), .val (.int (v0_85 p0 p1 p2 p3)), .val (.int (v0_98 p0 p1 p2 p3)), .val (.int (v0_111 p0 p1 p2 p3)), .val (.int (v0_124 p0 p1 p2 p3)), .val (.ref b0_128), .unset, .unset, .unset, .unset, .unset, .unset, .unset, .unset, .unset]
def la0_42 (p0 : Int32) (p1 : Int32) (p2 : Int32) (p3 : Int32) (b0_128 : Addr) (b0_134 : Addr) : Array Slot := #[.val (.int p0), .val (.int p1), .val (.int p2), .val (.int p3), .val (.int (v0_6 p0 p1 p2 p3)), .val (.int (0 : Int32)), .val (.int (v0_18 p0 p1 p2 p3)), .val (.int (v0_27 p0 p1 p2 p3)), .val (.int (v0_38 p0 p1 p2 p3)), .val (.int (v0_50 p0 p1 p2 p3)), .val (.int (v0_61 p0 p1 p2 p3)), .val (.int (v0_73 p0 p1 p2 p3)), .val (.int (v0_85 p0 p1 p2 p3)), .val (.int (v0_98 p0 p1 p2 p3)), .val (.int (v0_111 p0 p1 p2 p3)), .val (.int (v0_124 p0 p1 p2 p3)), .val (.ref b0_128), .val (.ref b0_134), .unset, .unset, .unset, .unset, .unset, .unset, .unset, .unset]
def f0 (p0 : Int32) (p1 : Int32) (p2 : Int32) (p3 : Int32) : Int32 := (if (nar .boolean (ag (own_t3 (p1 &&& (3 : Int32)) (v0_27 p0 p1 p2 p3) (v0_38 p0 p1 p2 p3) (v0_50 p0 p1 p2 p3)) (own_t3 (v0_18 p0 p1 p2 p3) (v0_98 p0 p1 p2 p3) (v0_111 p0 p1 p2 p3) (v0_124 p0 p1 p2 p3)))) = (v0_363 p0 p1 p2 p3) then (1 : Int32) else (0 : Int32))
theorem own_mm (a b c d : Int32) : v0_18 a b c d = 0 ∨ v0_18 a b c d = 1 ∨ v0_18 a b c d = 2 ∨ v0_18 a b c d = 3 := own_four _
def Hf (x : Int32) : Int := (x / (2 : Int32)).toInt
def Cl (x y : Int32) : Prop := (y / (2 : Int32)) = (x / (2 : Int32)) ∧ ¬ (y = x)
theorem own_cl {x y : Int32} (h : Hf y ≠ Hf x) : ¬ Cl x y := fun q => h (congrArg Int32.toInt q.1)
def SrtL (l : List Int32) : Prop := List.Pairwise (fun a b => Hf a ≤ Hf b) l
def SrtS (l : List Int32) : Prop := List.Pairwise (fun a b => Hf a < Hf b) l
theorem own_amem {x z : Int32} (h : Hf x ≤ Hf z) (ys : List Int32) : (∀ y ∈ ys, ¬ Cl z y) ↔ (∀ y ∈ aadv x ys, ¬ Cl z y) := by
  induction ys with
  | nil => exact Iff.rfl
  | cons y r ih =>
    rw [aadv]
    by_cases c : (y / (2 : Int32)) < (x / (2 : Int32))
    · rw [if_pos c, ← ih]
      have c' : Hf y < Hf x := (own_lt _ _).mp c
      constructor
      · exact fun q w hw => q w (List.mem_cons_of_mem _ hw)
      · intro q w hw
        rcases List.mem_cons.mp hw with rfl | hw
        · exact own_cl (by omega)
        · exact q w hw
    · rw [if_neg c]
theorem own_asrt {x : Int32} (ys : List Int32) (h : SrtS ys) : SrtS (aadv x ys) := by
  induction ys with
  | nil => exact h
  | cons y r ih =>
    rw [aadv]
    by_cases c : (y / (2 : Int32)) < (x / (2 : Int32))
    · rw [if_pos c]
      exact ih (List.Pairwise.of_cons h)
    · rw [if_neg c]
      exact h
theorem own_ahead {x y : Int32} {r : List Int32} (ys : List Int32) (e : aadv x ys = y :: r) : Hf x ≤ Hf y := by
  induction ys with
  | nil => cases e
  | cons y2 r2 ih =>
    rw [aadv] at e
    by_cases c : (y2 / (2 : Int32)) < (x / (2 : Int32))
    · rw [if_pos c] at e
      exact ih e
    · rw [if_neg c] at e
      cases e
      have c' := (not_congr (own_lt _ _)).mp c
      unfold Hf
      omega
theorem own_ag (xs : List Int32) : ∀ ys, SrtL xs → SrtS ys → ((∀ x ∈ xs, ∀ y ∈ ys, ¬ Cl x y) → ag xs ys = 1) ∧ (¬ (∀ x ∈ xs, ∀ y ∈ ys, ¬ Cl x y) → ag xs ys = 0) := by
  induction xs with
  | nil => exact fun ys _ _ => ⟨fun _ => by rw [ag], fun q => absurd (fun x hx => nomatch hx) q⟩
  | cons x xs ih =>
    intro ys hx hy
    rw [ag_cons]
    have hs := own_asrt (x := x) ys hy
    have hx2 := List.Pairwise.of_cons hx
    have rest : ∀ L, aadv x ys = L → ((∀ z ∈ xs, ∀ y ∈ ys, ¬ Cl z y) ↔ (∀ z ∈ xs, ∀ y ∈ L, ¬ Cl z y)) := by
      intro L hL
      subst hL
      constructor
      · exact fun q z hz => (own_amem (List.rel_of_pairwise_cons hx hz) ys).mp (q z hz)
      · exact fun q z hz => (own_amem (List.rel_of_pairwise_cons hx hz) ys).mpr (q z hz)
    have split : (∀ z ∈ x :: xs, ∀ y ∈ ys, ¬ Cl z y) ↔ ((∀ y ∈ ys, ¬ Cl x y) ∧ (∀ z ∈ xs, ∀ y ∈ ys, ¬ Cl z y)) := by
      constructor
      · exact fun q => ⟨q x (List.mem_cons_self ..), fun z hz => q z (List.mem_cons_of_mem _ hz)⟩
      · intro q z hz
        rcases List.mem_cons.mp hz with rfl | hz
        · exact q.1
        · exact q.2 z hz
    have own := own_amem (Int.le_refl (Hf x)) ys
    cases hw2 : aadv x ys with
    | nil =>
      rw [hw2] at own
      have k := ih [] hx2 List.Pairwise.nil
      rw [split, rest [] hw2]
      have t : ∀ y ∈ ys, ¬ Cl x y := own.mpr (fun y hy => nomatch hy)
      exact ⟨fun q => k.1 q.2, fun q => k.2 (fun z => q ⟨t, z⟩)⟩
    | cons y r =>
      have hh := own_ahead ys hw2
      rw [hw2] at own hs
      have k := ih (y :: r) hx2 hs
      rw [split, rest (y :: r) hw2]
      have hd : (∀ w ∈ ys, ¬ Cl x w) ↔ ¬ Cl x y := by
        rw [own]
        constructor
        · exact fun q => q y (List.mem_cons_self ..)
        · intro q w hw
          rcases List.mem_cons.mp hw with rfl | hw
          · exact q
          · have := List.rel_of_pairwise_cons hs hw
            exact own_cl (by omega)
      rw [hd]
      show (¬ Cl x y ∧ (∀ z ∈ xs, ∀ w ∈ y :: r, ¬ Cl z w) → (if (y / (2 : Int32)) = (x / (2 : Int32)) then (if y = x then ag xs (y :: r) else 0) else ag xs (y :: r)) = 1) ∧ (¬ (¬ Cl x y ∧ (∀ z ∈ xs, ∀ w ∈ y :: r, ¬ Cl z w)) → (if (y / (2 : Int32)) = (x / (2 : Int32)) then (if y = x then ag xs (y :: r) else 0) else ag xs (y :: r)) = 0)
      by_cases c1 : (y / (2 : Int32)) = (x / (2 : Int32))
      · rw [if_pos c1]
        by_cases c2 : y = x
        · rw [if_pos c2]
          have t : ¬ Cl x y := fun q => q.2 c2
          exact ⟨fun q => k.1 q.2, fun q => k.2 (fun z => q ⟨t, z⟩)⟩
        · rw [if_neg c2]
          exact ⟨fun q => absurd ⟨c1, c2⟩ q.1, fun _ => rfl⟩
      · rw [if_neg c1]
        have t : ¬ Cl x y := fun q => c1 q.1
        exact ⟨fun q => k.1 q.2, fun q => k.2 (fun z => q ⟨t, z⟩)⟩
theorem own_c0 {x y : Int32} (hx : 0 ≤ x.toInt) (hy : 0 ≤ y.toInt) : f2 x y = 0 ↔ ¬ Cl x y := by
  have e0 : (0 : Int32).toInt = 0 := by decide
  have a1 : ¬ (x < (0 : Int32)) := by rw [own_lt, e0]; omega
  have a2 : ¬ (y < (0 : Int32)) := by rw [own_lt, e0]; omega
  unfold f2 Cl
  rw [if_neg a1, if_neg a2]
  by_cases c1 : (x / (2 : Int32)) = (y / (2 : Int32))
  · rw [if_pos c1]
    by_cases c2 : x = y
    · rw [if_pos c2, own_n0]
      exact ⟨fun _ q => q.2 c2.symm, fun _ => rfl⟩
    · rw [if_neg c2, own_n1]
      exact ⟨fun q => absurd q (by decide), fun q => absurd ⟨c1.symm, fun z => c2 z.symm⟩ q⟩
  · rw [if_neg c1, own_n0]
    exact ⟨fun _ q => c1 q.1.symm, fun _ => rfl⟩
theorem own_cn (y : Int32) : f2 (-1) y = 0 := by
  unfold f2
  rw [if_pos (by decide), own_n0]
theorem own_cn' {x : Int32} (hx : 0 ≤ x.toInt) : f2 x (-1) = 0 := by
  have e0 : (0 : Int32).toInt = 0 := by decide
  have a1 : ¬ (x < (0 : Int32)) := by rw [own_lt, e0]; omega
  unfold f2
  rw [if_neg a1, if_pos (by decide), own_n0]
/-- the three places of an array, as 'at' says them -/
theorem own_ats {m : Int32} (h : m = 0 ∨ m = 1 ∨ m = 2 ∨ m = 3) (t0 t1 t2 : Int32) :
    (own_t3 m t0 t1 t2 = [] ∧ f1_0 (own_t3 m t0 t1 t2) m = -1 ∧ f1_1 (own_t3 m t0 t1 t2) m = -1 ∧ f1_2 (own_t3 m t0 t1 t2) m = -1) ∨
    (own_t3 m t0 t1 t2 = [t0] ∧ f1_0 (own_t3 m t0 t1 t2) m = t0 ∧ f1_1 (own_t3 m t0 t1 t2) m = -1 ∧ f1_2 (own_t3 m t0 t1 t2) m = -1) ∨
    (own_t3 m t0 t1 t2 = [t0, t1] ∧ f1_0 (own_t3 m t0 t1 t2) m = t0 ∧ f1_1 (own_t3 m t0 t1 t2) m = t1 ∧ f1_2 (own_t3 m t0 t1 t2) m = -1) ∨
    (own_t3 m t0 t1 t2 = [t0, t1, t2] ∧ f1_0 (own_t3 m t0 t1 t2) m = t0 ∧ f1_1 (own_t3 m t0 t1 t2) m = t1 ∧ f1_2 (own_t3 m t0 t1 t2) m = t2) := by
  rcases h with rfl | rfl | rfl | rfl
  · exact Or.inl ⟨rfl, rfl, rfl, rfl⟩
  · exact Or.inr (Or.inl ⟨rfl, rfl, rfl, rfl⟩)
  · exact Or.inr (Or.inr (Or.inl ⟨rfl, rfl, rfl, rfl⟩))
  · exact Or.inr (Or.inr (Or.inr ⟨rfl, rfl, rfl, rfl⟩))
def Zr (a c0 c1 c2 : Int32) : Prop := f2 a c0 = 0 ∧ f2 a c1 = 0 ∧ f2 a c2 = 0
theorem own_zn (c0 c1 c2 : Int32) : Zr (-1) c0 c1 c2 := ⟨own_cn _, own_cn _, own_cn _⟩
theorem own_row {a m t0 t1 t2 : Int32} (h : m = 0 ∨ m = 1 ∨ m = 2 ∨ m = 3) (ha : 0 ≤ a.toInt) (h0 : 0 ≤ t0.toInt) (h1 : 0 ≤ t1.toInt) (h2 : 0 ≤ t2.toInt) :
    Zr a (f1_0 (own_t3 m t0 t1 t2) m) (f1_1 (own_t3 m t0 t1 t2) m) (f1_2 (own_t3 m t0 t1 t2) m) ↔ (∀ y ∈ own_t3 m t0 t1 t2, ¬ Cl a y) := by
  unfold Zr
  rcases own_ats h t0 t1 t2 with ⟨e, e0, e1, e2⟩ | ⟨e, e0, e1, e2⟩ | ⟨e, e0, e1, e2⟩ | ⟨e, e0, e1, e2⟩
  · rw [e0, e1, e2, e]
    exact ⟨fun _ y hy => (nomatch hy), fun _ => ⟨own_cn' ha, own_cn' ha, own_cn' ha⟩⟩
  · rw [e0, e1, e2, e, own_c0 ha h0]
    simp only [List.mem_cons, List.not_mem_nil, or_false, forall_eq, own_cn' ha, and_true]
  · rw [e0, e1, e2, e, own_c0 ha h0, own_c0 ha h1]
    simp only [List.mem_cons, List.not_mem_nil, or_false, forall_eq_or_imp, forall_eq, own_cn' ha, and_true]
  · rw [e0, e1, e2, e, own_c0 ha h0, own_c0 ha h1, own_c0 ha h2]
    simp only [List.mem_cons, List.not_mem_nil, or_false, forall_eq_or_imp, forall_eq]
theorem own_all {n m o0 o1 o2 t0 t1 t2 : Int32} (hn : n = 0 ∨ n = 1 ∨ n = 2 ∨ n = 3) (hm : m = 0 ∨ m = 1 ∨ m = 2 ∨ m = 3) (g0 : 0 ≤ o0.toInt) (g1 : 0 ≤ o1.toInt) (g2 : 0 ≤ o2.toInt) (h0 : 0 ≤ t0.toInt) (h1 : 0 ≤ t1.toInt) (h2 : 0 ≤ t2.toInt) {c0 c1 c2 : Int32} (e0 : c0 = f1_0 (own_t3 m t0 t1 t2) m) (e1 : c1 = f1_1 (own_t3 m t0 t1 t2) m) (e2 : c2 = f1_2 (own_t3 m t0 t1 t2) m) :
    (Zr (f1_0 (own_t3 n o0 o1 o2) n) c0 c1 c2 ∧ Zr (f1_1 (own_t3 n o0 o1 o2) n) c0 c1 c2 ∧ Zr (f1_2 (own_t3 n o0 o1 o2) n) c0 c1 c2) ↔ (∀ x ∈ own_t3 n o0 o1 o2, ∀ y ∈ own_t3 m t0 t1 t2, ¬ Cl x y) := by
  have r0 := own_row hm g0 h0 h1 h2
  have r1 := own_row hm g1 h0 h1 h2
  have r2 := own_row hm g2 h0 h1 h2
  rw [← e0, ← e1, ← e2] at r0 r1 r2
  rcases own_ats hn o0 o1 o2 with ⟨e, q0, q1, q2⟩ | ⟨e, q0, q1, q2⟩ | ⟨e, q0, q1, q2⟩ | ⟨e, q0, q1, q2⟩
  · rw [q0, q1, q2, e]
    exact ⟨fun _ y hy => (nomatch hy), fun _ => ⟨own_zn _ _ _, own_zn _ _ _, own_zn _ _ _⟩⟩
  · rw [q0, q1, q2, e, r0]
    simp only [List.mem_cons, List.not_mem_nil, or_false, forall_eq, own_zn, and_true]
  · rw [q0, q1, q2, e, r0, r1]
    simp only [List.mem_cons, List.not_mem_nil, or_false, forall_eq_or_imp, forall_eq, own_zn, and_true]
  · rw [q0, q1, q2, e, r0, r1, r2]
    simp only [List.mem_cons, List.not_mem_nil, or_false, forall_eq_or_imp, forall_eq]
theorem own_half {x : Int32} (h : 0 ≤ x.toInt) : Hf x = x.toInt / 2 := (c_idiv x 2 2 (by decide) (by decide)).1 h
theorem own_sL (n : Int32) {a b c : Int32} (h1 : Hf a ≤ Hf b) (h2 : Hf b ≤ Hf c) : SrtL (own_t3 n a b c) := by
  unfold own_t3 SrtL
  split
  · exact List.Pairwise.nil
  split
  · simp
  split
  · simp [h1]
  · simp [h1, h2]; omega
theorem own_sS (n : Int32) {a b c : Int32} (h1 : Hf a < Hf b) (h2 : Hf b < Hf c) : SrtS (own_t3 n a b c) := by
  unfold own_t3 SrtS
  split
  · exact List.Pairwise.nil
  split
  · simp
  split
  · simp [h1]
  · simp [h1, h2]; omega
theorem own_add {x y : Int32} {A B : Int} (x1 : 0 ≤ x.toInt) (x2 : x.toInt ≤ A) (y1 : 0 ≤ y.toInt) (y2 : y.toInt ≤ B) (h : A + B < 2147483648) : (x + y).toInt = x.toInt + y.toInt := by
  have a := c_iadd x y
  have b1 := (x + y).toInt_lt
  have b2 := (x + y).le_toInt
  omega
theorem own_dbl {x : Int32} (x1 : 0 ≤ x.toInt) (x2 : x.toInt < 1073741824) : ((2 : Int32) * x).toInt = 2 * x.toInt := by
  have a := c_imul 2 x
  have e : (2 : Int32).toInt = 2 := by decide
  have b1 := ((2 : Int32) * x).toInt_lt
  have b2 := ((2 : Int32) * x).le_toInt
  rw [e] at a
  omega
theorem own_nums (a b c d : Int32) : (0 ≤ (v0_27 a b c d).toInt ∧ (v0_27 a b c d).toInt ≤ (v0_38 a b c d).toInt ∧ (v0_38 a b c d).toInt ≤ (v0_50 a b c d).toInt) ∧ (0 ≤ (v0_98 a b c d).toInt ∧ (v0_98 a b c d).toInt / 2 < (v0_111 a b c d).toInt / 2 ∧ (v0_111 a b c d).toInt / 2 < (v0_124 a b c d).toInt / 2) := by
  have e1 : (1 : Int32).toInt = 1 := by decide
  have k0 := c_mask a 536870911 29 (by decide) (by decide)
  have s0 : (v0_6 a b c d).toInt = 2 * (a &&& (536870911 : Int32)).toInt := own_dbl (by omega) (by omega)
  have k1 := c_mask c 15 4 (by decide) (by decide)
  have s1 : (v0_27 a b c d).toInt = (v0_6 a b c d).toInt + (c &&& (15 : Int32)).toInt := own_add (A := 1073741824) (B := 16) (by omega) (by omega) (by omega) (by omega) (by decide)
  have k2 := c_mask ((c.toUInt32 >>> ((4 : Int32) &&& 31).toUInt32).toInt32) 7 3 (by decide) (by decide)
  have s2 : (v0_38 a b c d).toInt = (v0_27 a b c d).toInt + ((((c.toUInt32 >>> ((4 : Int32) &&& 31).toUInt32).toInt32)) &&& (7 : Int32)).toInt := own_add (A := 1073741850) (B := 16) (by omega) (by omega) (by omega) (by omega) (by decide)
  have k3 := c_mask ((c.toUInt32 >>> ((7 : Int32) &&& 31).toUInt32).toInt32) 7 3 (by decide) (by decide)
  have s3 : (v0_50 a b c d).toInt = (v0_38 a b c d).toInt + ((((c.toUInt32 >>> ((7 : Int32) &&& 31).toUInt32).toInt32)) &&& (7 : Int32)).toInt := own_add (A := 1073741900) (B := 16) (by omega) (by omega) (by omega) (by omega) (by decide)
  have hb := own_half (x := v0_6 a b c d) (by omega)
  unfold Hf at hb
  have k4 := c_mask d 7 3 (by decide) (by decide)
  have s4 : (v0_61 a b c d).toInt = ((v0_6 a b c d) / (2 : Int32)).toInt + (d &&& (7 : Int32)).toInt := own_add (A := 536870920) (B := 16) (by omega) (by omega) (by omega) (by omega) (by decide)
  have k5 := c_mask ((d.toUInt32 >>> ((3 : Int32) &&& 31).toUInt32).toInt32) 3 2 (by decide) (by decide)
  have s5 : ((v0_61 a b c d) + (1 : Int32)).toInt = (v0_61 a b c d).toInt + (1 : Int32).toInt := own_add (A := 536870950) (B := 16) (by omega) (by omega) (by omega) (by omega) (by decide)
  have s6 : (v0_73 a b c d).toInt = ((v0_61 a b c d) + (1 : Int32)).toInt + ((((d.toUInt32 >>> ((3 : Int32) &&& 31).toUInt32).toInt32)) &&& (3 : Int32)).toInt := own_add (A := 536870980) (B := 16) (by omega) (by omega) (by omega) (by omega) (by decide)
  have k6 := c_mask ((d.toUInt32 >>> ((5 : Int32) &&& 31).toUInt32).toInt32) 3 2 (by decide) (by decide)
  have s7 : ((v0_73 a b c d) + (1 : Int32)).toInt = (v0_73 a b c d).toInt + (1 : Int32).toInt := own_add (A := 536871000) (B := 16) (by omega) (by omega) (by omega) (by omega) (by decide)
  have s8 : (v0_85 a b c d).toInt = ((v0_73 a b c d) + (1 : Int32)).toInt + ((((d.toUInt32 >>> ((5 : Int32) &&& 31).toUInt32).toInt32)) &&& (3 : Int32)).toInt := own_add (A := 536871020) (B := 16) (by omega) (by omega) (by omega) (by omega) (by decide)
  have m1 := own_dbl (x := v0_61 a b c d) (by omega) (by omega)
  have m2 := own_dbl (x := v0_73 a b c d) (by omega) (by omega)
  have m3 := own_dbl (x := v0_85 a b c d) (by omega) (by omega)
  have k7 := c_mask ((d.toUInt32 >>> ((7 : Int32) &&& 31).toUInt32).toInt32) 1 1 (by decide) (by decide)
  have k8 := c_mask ((d.toUInt32 >>> ((8 : Int32) &&& 31).toUInt32).toInt32) 1 1 (by decide) (by decide)
  have k9 := c_mask ((d.toUInt32 >>> ((9 : Int32) &&& 31).toUInt32).toInt32) 1 1 (by decide) (by decide)
  have t1 : (v0_98 a b c d).toInt = ((2 : Int32) * (v0_61 a b c d)).toInt + ((((d.toUInt32 >>> ((7 : Int32) &&& 31).toUInt32).toInt32)) &&& (1 : Int32)).toInt := own_add (A := 1073742200) (B := 16) (by omega) (by omega) (by omega) (by omega) (by decide)
  have t2 : (v0_111 a b c d).toInt = ((2 : Int32) * (v0_73 a b c d)).toInt + ((((d.toUInt32 >>> ((8 : Int32) &&& 31).toUInt32).toInt32)) &&& (1 : Int32)).toInt := own_add (A := 1073742200) (B := 16) (by omega) (by omega) (by omega) (by omega) (by decide)
  have t3 : (v0_124 a b c d).toInt = ((2 : Int32) * (v0_85 a b c d)).toInt + ((((d.toUInt32 >>> ((9 : Int32) &&& 31).toUInt32).toInt32)) &&& (1 : Int32)).toInt := own_add (A := 1073742200) (B := 16) (by omega) (by omega) (by omega) (by omega) (by decide)
  omega
theorem own_nine {z1 z2 z3 z4 z5 z6 z7 z8 z9 : Int32} : ((z1 = 0 ∧ z2 = 0 ∧ z3 = 0) ∧ (z4 = 0 ∧ z5 = 0 ∧ z6 = 0) ∧ (z7 = 0 ∧ z8 = 0 ∧ z9 = 0) → (if z1 = (0 : Int32) then (if z2 = (0 : Int32) then (if z3 = (0 : Int32) then (if z4 = (0 : Int32) then (if z5 = (0 : Int32) then (if z6 = (0 : Int32) then (if z7 = (0 : Int32) then (if z8 = (0 : Int32) then (if z9 = (0 : Int32) then (0 : Int32) else (1 : Int32)) else (1 : Int32)) else (1 : Int32)) else (1 : Int32)) else (1 : Int32)) else (1 : Int32)) else (1 : Int32)) else (1 : Int32)) else (1 : Int32)) = 0) ∧
    (¬ ((z1 = 0 ∧ z2 = 0 ∧ z3 = 0) ∧ (z4 = 0 ∧ z5 = 0 ∧ z6 = 0) ∧ (z7 = 0 ∧ z8 = 0 ∧ z9 = 0)) → (if z1 = (0 : Int32) then (if z2 = (0 : Int32) then (if z3 = (0 : Int32) then (if z4 = (0 : Int32) then (if z5 = (0 : Int32) then (if z6 = (0 : Int32) then (if z7 = (0 : Int32) then (if z8 = (0 : Int32) then (if z9 = (0 : Int32) then (0 : Int32) else (1 : Int32)) else (1 : Int32)) else (1 : Int32)) else (1 : Int32)) else (1 : Int32)) else (1 : Int32)) else (1 : Int32)) else (1 : Int32)) else (1 : Int32)) = 1) := by
  constructor
  · rintro ⟨⟨h1, h2, h3⟩, ⟨h4, h5, h6⟩, h7, h8, h9⟩
    rw [if_pos h1, if_pos h2, if_pos h3, if_pos h4, if_pos h5, if_pos h6, if_pos h7, if_pos h8, if_pos h9]
  · intro q
    by_cases h1 : z1 = 0
    · rw [if_pos h1]
      by_cases h2 : z2 = 0
      · rw [if_pos h2]
        by_cases h3 : z3 = 0
        · rw [if_pos h3]
          by_cases h4 : z4 = 0
          · rw [if_pos h4]
            by_cases h5 : z5 = 0
            · rw [if_pos h5]
              by_cases h6 : z6 = 0
              · rw [if_pos h6]
                by_cases h7 : z7 = 0
                · rw [if_pos h7]
                  by_cases h8 : z8 = 0
                  · rw [if_pos h8]
                    by_cases h9 : z9 = 0
                    · exact absurd ⟨⟨h1, h2, h3⟩, ⟨h4, h5, h6⟩, h7, h8, h9⟩ q
                    · rw [if_neg h9]
                  · rw [if_neg h8]
                · rw [if_neg h7]
              · rw [if_neg h6]
            · rw [if_neg h5]
          · rw [if_neg h4]
        · rw [if_neg h3]
      · rw [if_neg h2]
    · rw [if_neg h1]
theorem own_plain (a b c d : Int32) : f0 a b c d = 1 := by
  obtain ⟨⟨o1, o2, o3⟩, t1, t2, t3⟩ := own_nums a b c d
  have hx : SrtL (own_t3 (b &&& (3 : Int32)) (v0_27 a b c d) (v0_38 a b c d) (v0_50 a b c d)) := by
    refine own_sL _ ?_ ?_ <;> rw [own_half (by omega), own_half (by omega)] <;> omega
  have hy : SrtS (own_t3 (v0_18 a b c d) (v0_98 a b c d) (v0_111 a b c d) (v0_124 a b c d)) := by
    refine own_sS _ ?_ ?_ <;> rw [own_half (by omega), own_half (by omega)] <;> omega
  have k := own_ag _ _ hx hy
  have q := own_all (c0 := v0_238 a b c d) (c1 := v0_246 a b c d) (c2 := v0_254 a b c d) (own_four b) (own_mm a b c d) (o0 := v0_27 a b c d) (o1 := v0_38 a b c d) (o2 := v0_50 a b c d) (t0 := v0_98 a b c d) (t1 := v0_111 a b c d) (t2 := v0_124 a b c d) (by omega) (by omega) (by omega) (by omega) (by omega) (by omega) rfl rfl rfl
  have w := own_nine (z1 := f2 (v0_214 a b c d) (v0_238 a b c d)) (z2 := f2 (v0_214 a b c d) (v0_246 a b c d)) (z3 := f2 (v0_214 a b c d) (v0_254 a b c d)) (z4 := f2 (v0_222 a b c d) (v0_238 a b c d)) (z5 := f2 (v0_222 a b c d) (v0_246 a b c d)) (z6 := f2 (v0_222 a b c d) (v0_254 a b c d)) (z7 := f2 (v0_230 a b c d) (v0_238 a b c d)) (z8 := f2 (v0_230 a b c d) (v0_246 a b c d)) (z9 := f2 (v0_230 a b c d) (v0_254 a b c d))
  rw [← q] at k
  unfold f0
  rw [if_pos]
  unfold v0_363
  by_cases z : (Zr (f1_0 (own_t3 (b &&& (3 : Int32)) (v0_27 a b c d) (v0_38 a b c d) (v0_50 a b c d)) (b &&& (3 : Int32))) (v0_238 a b c d) (v0_246 a b c d) (v0_254 a b c d) ∧ Zr (f1_1 (own_t3 (b &&& (3 : Int32)) (v0_27 a b c d) (v0_38 a b c d) (v0_50 a b c d)) (b &&& (3 : Int32))) (v0_238 a b c d) (v0_246 a b c d) (v0_254 a b c d) ∧ Zr (f1_2 (own_t3 (b &&& (3 : Int32)) (v0_27 a b c d) (v0_38 a b c d) (v0_50 a b c d)) (b &&& (3 : Int32))) (v0_238 a b c d) (v0_246 a b c d) (v0_254 a b c d))
  · rw [k.1 z, own_n1, if_pos (show v0_351 a b c d = 0 from w.1 z)]
  · have r : v0_351 a b c d = 1 := w.2 z
    rw [k.2 z, own_n0, r, if_neg (by decide)]

theorem ef_0 (m : MethodId) (x0 : Int32) (x1 : Int32) (x2 : Int32) (x3 : Int32) : entryFrame m #[(.int x0), (.int x1), (.int x2), (.int x3)] maxLocals = mkF m 0 #[.val (.int x0), .val (.int x1), .val (.int x2), .val (.int x3), .unset, .unset, .unset, .unset, .unset, .unset, .unset, .unset, .unset, .unset, .unset, .unset, .unset, .unset, .unset, .unset, .unset, .unset, .unset, .unset, .unset, .unset] [] := by first | (simp [entryFrame, mkF, argsToLocals, Value.category, maxLocals]; done) | rfl
def Q0 (Z : State) (p0 : Int32) (p1 : Int32) (p2 : Int32) (p3 : Int32) (h0 : Heap) (n0 : Nat) (v : Option Value) (h : Heap) (L : List Loc) : Prop := v = some (.int 1) ∧ Fr n0 L
set_option maxRecDepth 65536 in
set_option maxHeartbeats 40000000 in
theorem rm0 (l : Launch) (Z : State) (aZ : Array Value) (hw : ∀ d ∈ tables_1, d.before aZ Z = true) (ws : List Jvm.Cond) (p0 : Int32) (p1 : Int32) (p2 : Int32) (p3 : Int32) (h0 : Heap) (n0 : Nat) (Z0 : n0 ≤ h0.size) :
    MetFree l x (head1 (Jvm.Cond.code x code maxLocals ret :: ws) room_1) (fun a U => a = #[(.int p0), (.int p1), (.int p2), (.int p3)] ∧ Z.Warmed39 U.vm ∧ U.heap = h0) (fun _ _ _ _ _ => True) (fun _ U o U' => ∃ v L, o = .returned v ∧ Q0 Z p0 p1 p2 p3 h0 n0 v U'.heap L ∧ FrameEnd U o U' L room_1.cells room_1.slots) := by
  refine MetFree.of_bodySF (plainFor_of_name pn_com_example_nuthatch_nuthatch_logic_DemandsAgreePinLaw) hisR ?_
  intro p e s m args below meth c s₁ Bd hml0 hP hK
  obtain ⟨rfl, hZ, hh⟩ := hP
  have hx := Bd.exec
  have hby := Bd.bytes
  have hlk : meth.locks = false := BodyLoose.notSynchronized Bd
  have hml : c.maxLocals = 26 := hml0
  have hown : s.vm.findClass "com/example/nuthatch/nuthatch/logic/DemandsAgreePinLaw" = some m.cls := findClass_of_methodNamed Bd.named
  have hnm := (name_of_methodNamed Bd.named Bd.method).1
  have X0 : Stand p l e room_1 s m #[(.int p0), (.int p1), (.int p2), (.int p3)] below meth c s₁ [] 0 0 := Stand.of_body Bd
  have e0 : s₁.heap = h0 := by rw [← hh, Bd.state]; rfl
  have N0 := Fr.nil n0
  show OEnd p e below s s₁ (entryFrame m #[(.int p0), (.int p1), (.int p2), (.int p3)] maxLocals) (Q0 Z p0 p1 p2 p3 h0 n0) room_1.cells room_1.slots
  refine OEnd.go (g' := (mkF m 0 (la0_0 p0 p1 p2 p3) [])) (fun _ k => castTop (ef_0 m p0 p1 p2 p3) k) ?_
  refine OEnd.go (T' := s₁) (g' := (mkF m 126 (la0_12 p0 p1 p2 p3) [])) (fun t k => ?_) ?_
  · show Steps p.tables e below (s₁.setTop (mkF m 0 (la0_0 p0 p1 p2 p3) [])) t
    refine XS.iconst X0.here hx rfl (hb hby at_0) ?_
    show Steps p.tables e below (s₁.setTop (mkF m 1 (la0_0 p0 p1 p2 p3) [(.int (2 : Int32))])) t
    refine XS.iloadN X0.here hx rfl (hb hby at_1) rfl ?_
    show Steps p.tables e below (s₁.setTop (mkF m 2 (la0_0 p0 p1 p2 p3) [(.int p0), (.int (2 : Int32))])) t
    refine X0.ldcInt hx hown (mvT hZ (hw _ (List.mem_of_getElem? (i := 0) rfl))) (g := (mkF m 2 (la0_0 p0 p1 p2 p3) [(.int p0), (.int (2 : Int32))])) rfl (hb hby at_2) _ ?_
    show Steps p.tables e below (s₁.setTop (mkF m 4 (la0_0 p0 p1 p2 p3) [(.int (536870911 : Int32)), (.int p0), (.int (2 : Int32))])) t
    refine XS.iand X0.here hx rfl (hb hby at_4) rfl ?_
    show Steps p.tables e below (s₁.setTop (mkF m 5 (la0_0 p0 p1 p2 p3) [(.int (p0 &&& (536870911 : Int32))), (.int (2 : Int32))])) t
    refine XS.imul X0.here hx rfl (hb hby at_5) rfl ?_
    show Steps p.tables e below (s₁.setTop (mkF m 6 (la0_0 p0 p1 p2 p3) [(.int ((2 : Int32) * (p0 &&& (536870911 : Int32))))])) t
    refine XS.istore X0.here hx rfl (hb hby at_6) rfl (l' := (la0_1 p0 p1 p2 p3)) rfl ?_
    show Steps p.tables e below (s₁.setTop (mkF m 8 (la0_1 p0 p1 p2 p3) [])) t
    refine XS.iloadN X0.here hx rfl (hb hby at_8) rfl ?_
    show Steps p.tables e below (s₁.setTop (mkF m 9 (la0_1 p0 p1 p2 p3) [(.int p1)])) t
    refine XS.iconst X0.here hx rfl (hb hby at_9) ?_
    show Steps p.tables e below (s₁.setTop (mkF m 10 (la0_1 p0 p1 p2 p3) [(.int (3 : Int32)), (.int p1)])) t
    refine XS.iand X0.here hx rfl (hb hby at_10) rfl ?_
    show Steps p.tables e below (s₁.setTop (mkF m 11 (la0_1 p0 p1 p2 p3) [(.int (p1 &&& (3 : Int32)))])) t
    refine XS.istore X0.here hx rfl (hb hby at_11) rfl (l' := (la0_2 p0 p1 p2 p3)) rfl ?_
    show Steps p.tables e below (s₁.setTop (mkF m 13 (la0_2 p0 p1 p2 p3) [])) t
    refine XS.iloadN X0.here hx rfl (hb hby at_13) rfl ?_
    show Steps p.tables e below (s₁.setTop (mkF m 14 (la0_2 p0 p1 p2 p3) [(.int p1)])) t
    refine XS.iconst X0.here hx rfl (hb hby at_14) ?_
    show Steps p.tables e below (s₁.setTop (mkF m 15 (la0_2 p0 p1 p2 p3) [(.int (2 : Int32)), (.int p1)])) t
    refine XS.iushr X0.here hx rfl (hb hby at_15) rfl ?_
    show Steps p.tables e below (s₁.setTop (mkF m 16 (la0_2 p0 p1 p2 p3) [(.int ((p1.toUInt32 >>> ((2 : Int32) &&& 31).toUInt32).toInt32))])) t
    refine XS.iconst X0.here hx rfl (hb hby at_16) ?_
    show Steps p.tables e below (s₁.setTop (mkF m 17 (la0_2 p0 p1 p2 p3) [(.int (3 : Int32)), (.int ((p1.toUInt32 >>> ((2 : Int32) &&& 31).toUInt32).toInt32))])) t
    refine XS.iand X0.here hx rfl (hb hby at_17) rfl ?_
    show Steps p.tables e below (s₁.setTop (mkF m 18 (la0_2 p0 p1 p2 p3) [(.int (((p1.toUInt32 >>> ((2 : Int32) &&& 31).toUInt32).toInt32) &&& (3 : Int32)))])) t
    refine XS.istore X0.here hx rfl (hb hby at_18) rfl (l' := (la0_3 p0 p1 p2 p3)) rfl ?_
    show Steps p.tables e below (s₁.setTop (mkF m 20 (la0_3 p0 p1 p2 p3) [])) t
    refine XS.iload X0.here hx rfl (hb hby at_20) rfl ?_
    show Steps p.tables e below (s₁.setTop (mkF m 22 (la0_3 p0 p1 p2 p3) [(.int (v0_6 p0 p1 p2 p3))])) t
    refine XS.iloadN X0.here hx rfl (hb hby at_22) rfl ?_
    show Steps p.tables e below (s₁.setTop (mkF m 23 (la0_3 p0 p1 p2 p3) [(.int p2), (.int (v0_6 p0 p1 p2 p3))])) t
    refine XS.bipush X0.here hx rfl (hb hby at_23) ?_
    show Steps p.tables e below (s₁.setTop (mkF m 25 (la0_3 p0 p1 p2 p3) [(.int (15 : Int32)), (.int p2), (.int (v0_6 p0 p1 p2 p3))])) t
    refine XS.iand X0.here hx rfl (hb hby at_25) rfl ?_
    show Steps p.tables e below (s₁.setTop (mkF m 26 (la0_3 p0 p1 p2 p3) [(.int (p2 &&& (15 : Int32))), (.int (v0_6 p0 p1 p2 p3))])) t
    refine XS.iadd X0.here hx rfl (hb hby at_26) rfl ?_
    show Steps p.tables e below (s₁.setTop (mkF m 27 (la0_3 p0 p1 p2 p3) [(.int ((v0_6 p0 p1 p2 p3) + (p2 &&& (15 : Int32))))])) t
    refine XS.istore X0.here hx rfl (hb hby at_27) rfl (l' := (la0_4 p0 p1 p2 p3)) rfl ?_
    show Steps p.tables e below (s₁.setTop (mkF m 29 (la0_4 p0 p1 p2 p3) [])) t
    refine XS.iload X0.here hx rfl (hb hby at_29) rfl ?_
    show Steps p.tables e below (s₁.setTop (mkF m 31 (la0_4 p0 p1 p2 p3) [(.int (v0_27 p0 p1 p2 p3))])) t
    refine XS.iloadN X0.here hx rfl (hb hby at_31) rfl ?_
    show Steps p.tables e below (s₁.setTop (mkF m 32 (la0_4 p0 p1 p2 p3) [(.int p2), (.int (v0_27 p0 p1 p2 p3))])) t
    refine XS.iconst X0.here hx rfl (hb hby at_32) ?_
    show Steps p.tables e below (s₁.setTop (mkF m 33 (la0_4 p0 p1 p2 p3) [(.int (4 : Int32)), (.int p2), (.int (v0_27 p0 p1 p2 p3))])) t
    refine XS.iushr X0.here hx rfl (hb hby at_33) rfl ?_
    show Steps p.tables e below (s₁.setTop (mkF m 34 (la0_4 p0 p1 p2 p3) [(.int ((p2.toUInt32 >>> ((4 : Int32) &&& 31).toUInt32).toInt32)), (.int (v0_27 p0 p1 p2 p3))])) t
    refine XS.bipush X0.here hx rfl (hb hby at_34) ?_
    show Steps p.tables e below (s₁.setTop (mkF m 36 (la0_4 p0 p1 p2 p3) [(.int (7 : Int32)), (.int ((p2.toUInt32 >>> ((4 : Int32) &&& 31).toUInt32).toInt32)), (.int (v0_27 p0 p1 p2 p3))])) t
    refine XS.iand X0.here hx rfl (hb hby at_36) rfl ?_
    show Steps p.tables e below (s₁.setTop (mkF m 37 (la0_4 p0 p1 p2 p3) [(.int (((p2.toUInt32 >>> ((4 : Int32) &&& 31).toUInt32).toInt32) &&& (7 : Int32))), (.int (v0_27 p0 p1 p2 p3))])) t
    refine XS.iadd X0.here hx rfl (hb hby at_37) rfl ?_
    show Steps p.tables e below (s₁.setTop (mkF m 38 (la0_4 p0 p1 p2 p3) [(.int ((v0_27 p0 p1 p2 p3) + (((p2.toUInt32 >>> ((4 : Int32) &&& 31).toUInt32).toInt32) &&& (7 : Int32))))])) t
    refine XS.istore X0.here hx rfl (hb hby at_38) rfl (l' := (la0_5 p0 p1 p2 p3)) rfl ?_
    show Steps p.tables e below (s₁.setTop (mkF m 40 (la0_5 p0 p1 p2 p3) [])) t
    refine XS.iload X0.here hx rfl (hb hby at_40) rfl ?_
    show Steps p.tables e below (s₁.setTop (mkF m 42 (la0_5 p0 p1 p2 p3) [(.int (v0_38 p0 p1 p2 p3))])) t
    refine XS.iloadN X0.here hx rfl (hb hby at_42) rfl ?_
    show Steps p.tables e below (s₁.setTop (mkF m 43 (la0_5 p0 p1 p2 p3) [(.int p2), (.int (v0_38 p0 p1 p2 p3))])) t
    refine XS.bipush X0.here hx rfl (hb hby at_43) ?_
    show Steps p.tables e below (s₁.setTop (mkF m 45 (la0_5 p0 p1 p2 p3) [(.int (7 : Int32)), (.int p2), (.int (v0_38 p0 p1 p2 p3))])) t
    refine XS.iushr X0.here hx rfl (hb hby at_45) rfl ?_
    show Steps p.tables e below (s₁.setTop (mkF m 46 (la0_5 p0 p1 p2 p3) [(.int ((p2.toUInt32 >>> ((7 : Int32) &&& 31).toUInt32).toInt32)), (.int (v0_38 p0 p1 p2 p3))])) t
    refine XS.bipush X0.here hx rfl (hb hby at_46) ?_
    show Steps p.tables e below (s₁.setTop (mkF m 48 (la0_5 p0 p1 p2 p3) [(.int (7 : Int32)), (.int ((p2.toUInt32 >>> ((7 : Int32) &&& 31).toUInt32).toInt32)), (.int (v0_38 p0 p1 p2 p3))])) t
    refine XS.iand X0.here hx rfl (hb hby at_48) rfl ?_
    show Steps p.tables e below (s₁.setTop (mkF m 49 (la0_5 p0 p1 p2 p3) [(.int (((p2.toUInt32 >>> ((7 : Int32) &&& 31).toUInt32).toInt32) &&& (7 : Int32))), (.int (v0_38 p0 p1 p2 p3))])) t
    refine XS.iadd X0.here hx rfl (hb hby at_49) rfl ?_
    show Steps p.tables e below (s₁.setTop (mkF m 50 (la0_5 p0 p1 p2 p3) [(.int ((v0_38 p0 p1 p2 p3) + (((p2.toUInt32 >>> ((7 : Int32) &&& 31).toUInt32).toInt32) &&& (7 : Int32))))])) t
    refine XS.istore X0.here hx rfl (hb hby at_50) rfl (l' := (la0_6 p0 p1 p2 p3)) rfl ?_
    show Steps p.tables e below (s₁.setTop (mkF m 52 (la0_6 p0 p1 p2 p3) [])) t
    refine XS.iload X0.here hx rfl (hb hby at_52) rfl ?_
    show Steps p.tables e below (s₁.setTop (mkF m 54 (la0_6 p0 p1 p2 p3) [(.int (v0_6 p0 p1 p2 p3))])) t
    refine XS.iconst X0.here hx rfl (hb hby at_54) ?_
    show Steps p.tables e below (s₁.setTop (mkF m 55 (la0_6 p0 p1 p2 p3) [(.int (2 : Int32)), (.int (v0_6 p0 p1 p2 p3))])) t
    refine XS.idiv X0.here hx rfl (hb hby at_55) rfl (by decide) ?_
    show Steps p.tables e below (s₁.setTop (mkF m 56 (la0_6 p0 p1 p2 p3) [(.int ((v0_6 p0 p1 p2 p3) / (2 : Int32)))])) t
    refine XS.iloadN X0.here hx rfl (hb hby at_56) rfl ?_
    show Steps p.tables e below (s₁.setTop (mkF m 57 (la0_6 p0 p1 p2 p3) [(.int p3), (.int ((v0_6 p0 p1 p2 p3) / (2 : Int32)))])) t
    refine XS.bipush X0.here hx rfl (hb hby at_57) ?_
    show Steps p.tables e below (s₁.setTop (mkF m 59 (la0_6 p0 p1 p2 p3) [(.int (7 : Int32)), (.int p3), (.int ((v0_6 p0 p1 p2 p3) / (2 : Int32)))])) t
    refine XS.iand X0.here hx rfl (hb hby at_59) rfl ?_
    show Steps p.tables e below (s₁.setTop (mkF m 60 (la0_6 p0 p1 p2 p3) [(.int (p3 &&& (7 : Int32))), (.int ((v0_6 p0 p1 p2 p3) / (2 : Int32)))])) t
    refine XS.iadd X0.here hx rfl (hb hby at_60) rfl ?_
    show Steps p.tables e below (s₁.setTop (mkF m 61 (la0_6 p0 p1 p2 p3) [(.int (((v0_6 p0 p1 p2 p3) / (2 : Int32)) + (p3 &&& (7 : Int32))))])) t
    refine XS.istore X0.here hx rfl (hb hby at_61) rfl (l' := (la0_7 p0 p1 p2 p3)) rfl ?_
    show Steps p.tables e below (s₁.setTop (mkF m 63 (la0_7 p0 p1 p2 p3) [])) t
    refine XS.iload X0.here hx rfl (hb hby at_63) rfl ?_
    show Steps p.tables e below (s₁.setTop (mkF m 65 (la0_7 p0 p1 p2 p3) [(.int (v0_61 p0 p1 p2 p3))])) t
    refine XS.iconst X0.here hx rfl (hb hby at_65) ?_
    show Steps p.tables e below (s₁.setTop (mkF m 66 (la0_7 p0 p1 p2 p3) [(.int (1 : Int32)), (.int (v0_61 p0 p1 p2 p3))])) t
    refine XS.iadd X0.here hx rfl (hb hby at_66) rfl ?_
    show Steps p.tables e below (s₁.setTop (mkF m 67 (la0_7 p0 p1 p2 p3) [(.int ((v0_61 p0 p1 p2 p3) + (1 : Int32)))])) t
    refine XS.iloadN X0.here hx rfl (hb hby at_67) rfl ?_
    show Steps p.tables e below (s₁.setTop (mkF m 68 (la0_7 p0 p1 p2 p3) [(.int p3), (.int ((v0_61 p0 p1 p2 p3) + (1 : Int32)))])) t
    refine XS.iconst X0.here hx rfl (hb hby at_68) ?_
    show Steps p.tables e below (s₁.setTop (mkF m 69 (la0_7 p0 p1 p2 p3) [(.int (3 : Int32)), (.int p3), (.int ((v0_61 p0 p1 p2 p3) + (1 : Int32)))])) t
    refine XS.iushr X0.here hx rfl (hb hby at_69) rfl ?_
    show Steps p.tables e below (s₁.setTop (mkF m 70 (la0_7 p0 p1 p2 p3) [(.int ((p3.toUInt32 >>> ((3 : Int32) &&& 31).toUInt32).toInt32)), (.int ((v0_61 p0 p1 p2 p3) + (1 : Int32)))])) t
    refine XS.iconst X0.here hx rfl (hb hby at_70) ?_
    show Steps p.tables e below (s₁.setTop (mkF m 71 (la0_7 p0 p1 p2 p3) [(.int (3 : Int32)), (.int ((p3.toUInt32 >>> ((3 : Int32) &&& 31).toUInt32).toInt32)), (.int ((v0_61 p0 p1 p2 p3) + (1 : Int32)))])) t
    refine XS.iand X0.here hx rfl (hb hby at_71) rfl ?_
    show Steps p.tables e below (s₁.setTop (mkF m 72 (la0_7 p0 p1 p2 p3) [(.int (((p3.toUInt32 >>> ((3 : Int32) &&& 31).toUInt32).toInt32) &&& (3 : Int32))), (.int ((v0_61 p0 p1 p2 p3) + (1 : Int32)))])) t
    refine XS.iadd X0.here hx rfl (hb hby at_72) rfl ?_
    show Steps p.tables e below (s₁.setTop (mkF m 73 (la0_7 p0 p1 p2 p3) [(.int (((v0_61 p0 p1 p2 p3) + (1 : Int32)) + (((p3.toUInt32 >>> ((3 : Int32) &&& 31).toUInt32).toInt32) &&& (3 : Int32))))])) t
    refine XS.istore X0.here hx rfl (hb hby at_73) rfl (l' := (la0_8 p0 p1 p2 p3)) rfl ?_
    show Steps p.tables e below (s₁.setTop (mkF m 75 (la0_8 p0 p1 p2 p3) [])) t
    refine XS.iload X0.here hx rfl (hb hby at_75) rfl ?_
    show Steps p.tables e below (s₁.setTop (mkF m 77 (la0_8 p0 p1 p2 p3) [(.int (v0_73 p0 p1 p2 p3))])) t
    refine XS.iconst X0.here hx rfl (hb hby at_77) ?_
    show Steps p.tables e below (s₁.setTop (mkF m 78 (la0_8 p0 p1 p2 p3) [(.int (1 : Int32)), (.int (v0_73 p0 p1 p2 p3))])) t
    refine XS.iadd X0.here hx rfl (hb hby at_78) rfl ?_
    show Steps p.tables e below (s₁.setTop (mkF m 79 (la0_8 p0 p1 p2 p3) [(.int ((v0_73 p0 p1 p2 p3) + (1 : Int32)))])) t
    refine XS.iloadN X0.here hx rfl (hb hby at_79) rfl ?_
    show Steps p.tables e below (s₁.setTop (mkF m 80 (la0_8 p0 p1 p2 p3) [(.int p3), (.int ((v0_73 p0 p1 p2 p3) + (1 : Int32)))])) t
    refine XS.iconst X0.here hx rfl (hb hby at_80) ?_
    show Steps p.tables e below (s₁.setTop (mkF m 81 (la0_8 p0 p1 p2 p3) [(.int (5 : Int32)), (.int p3), (.int ((v0_73 p0 p1 p2 p3) + (1 : Int32)))])) t
    refine XS.iushr X0.here hx rfl (hb hby at_81) rfl ?_
    show Steps p.tables e below (s₁.setTop (mkF m 82 (la0_8 p0 p1 p2 p3) [(.int ((p3.toUInt32 >>> ((5 : Int32) &&& 31).toUInt32).toInt32)), (.int ((v0_73 p0 p1 p2 p3) + (1 : Int32)))])) t
    refine XS.iconst X0.here hx rfl (hb hby at_82) ?_
    show Steps p.tables e below (s₁.setTop (mkF m 83 (la0_8 p0 p1 p2 p3) [(.int (3 : Int32)), (.int ((p3.toUInt32 >>> ((5 : Int32) &&& 31).toUInt32).toInt32)), (.int ((v0_73 p0 p1 p2 p3) + (1 : Int32)))])) t
    refine XS.iand X0.here hx rfl (hb hby at_83) rfl ?_
    show Steps p.tables e below (s₁.setTop (mkF m 84 (la0_8 p0 p1 p2 p3) [(.int (((p3.toUInt32 >>> ((5 : Int32) &&& 31).toUInt32).toInt32) &&& (3 : Int32))), (.int ((v0_73 p0 p1 p2 p3) + (1 : Int32)))])) t
    refine XS.iadd X0.here hx rfl (hb hby at_84) rfl ?_
    show Steps p.tables e below (s₁.setTop (mkF m 85 (la0_8 p0 p1 p2 p3) [(.int (((v0_73 p0 p1 p2 p3) + (1 : Int32)) + (((p3.toUInt32 >>> ((5 : Int32) &&& 31).toUInt32).toInt32) &&& (3 : Int32))))])) t
    refine XS.istore X0.here hx rfl (hb hby at_85) rfl (l' := (la0_9 p0 p1 p2 p3)) rfl ?_
    show Steps p.tables e below (s₁.setTop (mkF m 87 (la0_9 p0 p1 p2 p3) [])) t
    refine XS.iconst X0.here hx rfl (hb hby at_87) ?_
    show Steps p.tables e below (s₁.setTop (mkF m 88 (la0_9 p0 p1 p2 p3) [(.int (2 : Int32))])) t
    refine XS.iload X0.here hx rfl (hb hby at_88) rfl ?_
    show Steps p.tables e below (s₁.setTop (mkF m 90 (la0_9 p0 p1 p2 p3) [(.int (v0_61 p0 p1 p2 p3)), (.int (2 : Int32))])) t
    refine XS.imul X0.here hx rfl (hb hby at_90) rfl ?_
    show Steps p.tables e below (s₁.setTop (mkF m 91 (la0_9 p0 p1 p2 p3) [(.int ((2 : Int32) * (v0_61 p0 p1 p2 p3)))])) t
    refine XS.iloadN X0.here hx rfl (hb hby at_91) rfl ?_
    show Steps p.tables e below (s₁.setTop (mkF m 92 (la0_9 p0 p1 p2 p3) [(.int p3), (.int ((2 : Int32) * (v0_61 p0 p1 p2 p3)))])) t
    refine XS.bipush X0.here hx rfl (hb hby at_92) ?_
    show Steps p.tables e below (s₁.setTop (mkF m 94 (la0_9 p0 p1 p2 p3) [(.int (7 : Int32)), (.int p3), (.int ((2 : Int32) * (v0_61 p0 p1 p2 p3)))])) t
    refine XS.iushr X0.here hx rfl (hb hby at_94) rfl ?_
    show Steps p.tables e below (s₁.setTop (mkF m 95 (la0_9 p0 p1 p2 p3) [(.int ((p3.toUInt32 >>> ((7 : Int32) &&& 31).toUInt32).toInt32)), (.int ((2 : Int32) * (v0_61 p0 p1 p2 p3)))])) t
    refine XS.iconst X0.here hx rfl (hb hby at_95) ?_
    show Steps p.tables e below (s₁.setTop (mkF m 96 (la0_9 p0 p1 p2 p3) [(.int (1 : Int32)), (.int ((p3.toUInt32 >>> ((7 : Int32) &&& 31).toUInt32).toInt32)), (.int ((2 : Int32) * (v0_61 p0 p1 p2 p3)))])) t
    refine XS.iand X0.here hx rfl (hb hby at_96) rfl ?_
    show Steps p.tables e below (s₁.setTop (mkF m 97 (la0_9 p0 p1 p2 p3) [(.int (((p3.toUInt32 >>> ((7 : Int32) &&& 31).toUInt32).toInt32) &&& (1 : Int32))), (.int ((2 : Int32) * (v0_61 p0 p1 p2 p3)))])) t
    refine XS.iadd X0.here hx rfl (hb hby at_97) rfl ?_
    show Steps p.tables e below (s₁.setTop (mkF m 98 (la0_9 p0 p1 p2 p3) [(.int (((2 : Int32) * (v0_61 p0 p1 p2 p3)) + (((p3.toUInt32 >>> ((7 : Int32) &&& 31).toUInt32).toInt32) &&& (1 : Int32))))])) t
    refine XS.istore X0.here hx rfl (hb hby at_98) rfl (l' := (la0_10 p0 p1 p2 p3)) rfl ?_
    show Steps p.tables e below (s₁.setTop (mkF m 100 (la0_10 p0 p1 p2 p3) [])) t
    refine XS.iconst X0.here hx rfl (hb hby at_100) ?_
    show Steps p.tables e below (s₁.setTop (mkF m 101 (la0_10 p0 p1 p2 p3) [(.int (2 : Int32))])) t
    refine XS.iload X0.here hx rfl (hb hby at_101) rfl ?_
    show Steps p.tables e below (s₁.setTop (mkF m 103 (la0_10 p0 p1 p2 p3) [(.int (v0_73 p0 p1 p2 p3)), (.int (2 : Int32))])) t
    refine XS.imul X0.here hx rfl (hb hby at_103) rfl ?_
    show Steps p.tables e below (s₁.setTop (mkF m 104 (la0_10 p0 p1 p2 p3) [(.int ((2 : Int32) * (v0_73 p0 p1 p2 p3)))])) t
    refine XS.iloadN X0.here hx rfl (hb hby at_104) rfl ?_
    show Steps p.tables e below (s₁.setTop (mkF m 105 (la0_10 p0 p1 p2 p3) [(.int p3), (.int ((2 : Int32) * (v0_73 p0 p1 p2 p3)))])) t
    refine XS.bipush X0.here hx rfl (hb hby at_105) ?_
    show Steps p.tables e below (s₁.setTop (mkF m 107 (la0_10 p0 p1 p2 p3) [(.int (8 : Int32)), (.int p3), (.int ((2 : Int32) * (v0_73 p0 p1 p2 p3)))])) t
    refine XS.iushr X0.here hx rfl (hb hby at_107) rfl ?_
    show Steps p.tables e below (s₁.setTop (mkF m 108 (la0_10 p0 p1 p2 p3) [(.int ((p3.toUInt32 >>> ((8 : Int32) &&& 31).toUInt32).toInt32)), (.int ((2 : Int32) * (v0_73 p0 p1 p2 p3)))])) t
    refine XS.iconst X0.here hx rfl (hb hby at_108) ?_
    show Steps p.tables e below (s₁.setTop (mkF m 109 (la0_10 p0 p1 p2 p3) [(.int (1 : Int32)), (.int ((p3.toUInt32 >>> ((8 : Int32) &&& 31).toUInt32).toInt32)), (.int ((2 : Int32) * (v0_73 p0 p1 p2 p3)))])) t
    refine XS.iand X0.here hx rfl (hb hby at_109) rfl ?_
    show Steps p.tables e below (s₁.setTop (mkF m 110 (la0_10 p0 p1 p2 p3) [(.int (((p3.toUInt32 >>> ((8 : Int32) &&& 31).toUInt32).toInt32) &&& (1 : Int32))), (.int ((2 : Int32) * (v0_73 p0 p1 p2 p3)))])) t
    refine XS.iadd X0.here hx rfl (hb hby at_110) rfl ?_
    show Steps p.tables e below (s₁.setTop (mkF m 111 (la0_10 p0 p1 p2 p3) [(.int (((2 : Int32) * (v0_73 p0 p1 p2 p3)) + (((p3.toUInt32 >>> ((8 : Int32) &&& 31).toUInt32).toInt32) &&& (1 : Int32))))])) t
    refine XS.istore X0.here hx rfl (hb hby at_111) rfl (l' := (la0_11 p0 p1 p2 p3)) rfl ?_
    show Steps p.tables e below (s₁.setTop (mkF m 113 (la0_11 p0 p1 p2 p3) [])) t
    refine XS.iconst X0.here hx rfl (hb hby at_113) ?_
    show Steps p.tables e below (s₁.setTop (mkF m 114 (la0_11 p0 p1 p2 p3) [(.int (2 : Int32))])) t
    refine XS.iload X0.here hx rfl (hb hby at_114) rfl ?_
    show Steps p.tables e below (s₁.setTop (mkF m 116 (la0_11 p0 p1 p2 p3) [(.int (v0_85 p0 p1 p2 p3)), (.int (2 : Int32))])) t
    refine XS.imul X0.here hx rfl (hb hby at_116) rfl ?_
    show Steps p.tables e below (s₁.setTop (mkF m 117 (la0_11 p0 p1 p2 p3) [(.int ((2 : Int32) * (v0_85 p0 p1 p2 p3)))])) t
    refine XS.iloadN X0.here hx rfl (hb hby at_117) rfl ?_
    show Steps p.tables e below (s₁.setTop (mkF m 118 (la0_11 p0 p1 p2 p3) [(.int p3), (.int ((2 : Int32) * (v0_85 p0 p1 p2 p3)))])) t
    refine XS.bipush X0.here hx rfl (hb hby at_118) ?_
    show Steps p.tables e below (s₁.setTop (mkF m 120 (la0_11 p0 p1 p2 p3) [(.int (9 : Int32)), (.int p3), (.int ((2 : Int32) * (v0_85 p0 p1 p2 p3)))])) t
    refine XS.iushr X0.here hx rfl (hb hby at_120) rfl ?_
    show Steps p.tables e below (s₁.setTop (mkF m 121 (la0_11 p0 p1 p2 p3) [(.int ((p3.toUInt32 >>> ((9 : Int32) &&& 31).toUInt32).toInt32)), (.int ((2 : Int32) * (v0_85 p0 p1 p2 p3)))])) t
    refine XS.iconst X0.here hx rfl (hb hby at_121) ?_
    show Steps p.tables e below (s₁.setTop (mkF m 122 (la0_11 p0 p1 p2 p3) [(.int (1 : Int32)), (.int ((p3.toUInt32 >>> ((9 : Int32) &&& 31).toUInt32).toInt32)), (.int ((2 : Int32) * (v0_85 p0 p1 p2 p3)))])) t
    refine XS.iand X0.here hx rfl (hb hby at_122) rfl ?_
    show Steps p.tables e below (s₁.setTop (mkF m 123 (la0_11 p0 p1 p2 p3) [(.int (((p3.toUInt32 >>> ((9 : Int32) &&& 31).toUInt32).toInt32) &&& (1 : Int32))), (.int ((2 : Int32) * (v0_85 p0 p1 p2 p3)))])) t
    refine XS.iadd X0.here hx rfl (hb hby at_123) rfl ?_
    show Steps p.tables e below (s₁.setTop (mkF m 124 (la0_11 p0 p1 p2 p3) [(.int (((2 : Int32) * (v0_85 p0 p1 p2 p3)) + (((p3.toUInt32 >>> ((9 : Int32) &&& 31).toUInt32).toInt32) &&& (1 : Int32))))])) t
    refine XS.istore X0.here hx rfl (hb hby at_124) rfl (l' := (la0_12 p0 p1 p2 p3)) rfl ?_
    show Steps p.tables e below (s₁.setTop (mkF m 126 (la0_12 p0 p1 p2 p3) [])) t
    exact k
  obtain ⟨b0_128, T1, h1, L1, X1, e1, N1, ⟨u1_0, u1_1, u1_2, u1_3⟩, st1⟩ : ORchB p l e room_1 s m #[(.int p0), (.int p1), (.int p2), (.int p3)] below meth c n0 s₁ (mkF m 126 (la0_12 p0 p1 p2 p3) []) (fun b0_128 => (mkF m 132 (la0_41 p0 p1 p2 p3 b0_128) [])) 1 3 (fun h b0_128 => n0 ≤ b0_128 ∧ h0.size ≤ b0_128 ∧ Keep h0 h [] ∧ OArr Z h b0_128 .int (p1 &&& (3 : Int32)) (List.map Value.int (own_t3 (p1 &&& (3 : Int32)) (0 : Int32) (0 : Int32) (0 : Int32))) (.int (0 : Int32))) := by
    have KR1 : Keep h0 h0 [] := Keep.refl _ _
    rcases (own_four p1) with hs2 | hs2 | hs2 | hs2
    · skip
      refine ORchB.go (T' := s₁) (g' := (mkF m 126 (la0_13 p0 p1 p2 p3) [])) (fun t k => (own_k (f := fun (z : Int32) => mkF m 126 #[.val (.int p0), .val (.int p1), .val (.int p2), .val (.int p3), .val (.int (v0_6 p0 p1 p2 p3)), .val (.int z), .val (.int (v0_18 p0 p1 p2 p3)), .val (.int (v0_27 p0 p1 p2 p3)), .val (.int (v0_38 p0 p1 p2 p3)), .val (.int (v0_50 p0 p1 p2 p3)), .val (.int (v0_61 p0 p1 p2 p3)), .val (.int (v0_73 p0 p1 p2 p3)), .val (.int (v0_85 p0 p1 p2 p3)), .val (.int (v0_98 p0 p1 p2 p3)), .val (.int (v0_111 p0 p1 p2 p3)), .val (.int (v0_124 p0 p1 p2 p3)), .unset, .unset, .unset, .unset, .unset, .unset, .unset, .unset, .unset, .unset] []) hs2.symm k)) ?_
      refine ORchB.go (T' := s₁) (g' := (mkF m 128 (la0_13 p0 p1 p2 p3) [(.int (0 : Int32))])) (fun t k => ?_) ?_
      · show Steps p.tables e below (s₁.setTop (mkF m 126 (la0_13 p0 p1 p2 p3) [])) t
        refine XS.iload X0.here hx rfl (hb hby at_126) rfl ?_
        show Steps p.tables e below (s₁.setTop (mkF m 128 (la0_13 p0 p1 p2 p3) [(.int (0 : Int32))])) t
        exact k
      obtain ⟨T3, h3, k3, X3, e3, E3, A3, st3⟩ := newP X0 hx hZ (hw _ (List.mem_of_getElem? (i := 1) rfl)) e0 (g := (mkF m 128 (la0_13 p0 p1 p2 p3) [(.int (0 : Int32))])) rfl (hb hby at_128) rfl (by decide) (cap := 3) (by decide) (by decide) (by decide) (by decide)
      obtain ⟨b0_128, g3⟩ : ∃ z, z = h0.size := ⟨_, rfl⟩
      rw [← g3] at A3 st3
      have gle_b0_128 : n0 ≤ b0_128 := Nat.le_trans Z0 (Nat.le_of_eq g3.symm)
      have sz_b0_128 : h0.size ≤ b0_128 := Nat.le_trans KR1.1 (Nat.le_of_eq g3.symm)
      have Z3 : n0 ≤ h3.size := Nat.le_trans Z0 E3.1
      have K3 : Keep h0 h3 [] := KR1.ext E3
      have V3 : OArr Z h3 b0_128 .int (0 : Int32) [] (.int (0 : Int32)) := ⟨_, Arv.new A3 (by decide)⟩
      refine ORchB.go (g' := (mkF m 130 (la0_13 p0 p1 p2 p3) [(.ref b0_128)])) st3 ?_
      refine ORchB.go (T' := T3) (g' := (mkF m 132 (la0_14 p0 p1 p2 p3 b0_128) [])) (fun t k => ?_) ?_
      · show Steps p.tables e below (T3.setTop (mkF m 130 (la0_13 p0 p1 p2 p3) [(.ref b0_128)])) t
        refine XS.astore X3.here hx rfl (hb hby at_130) rfl rfl (l' := (la0_14 p0 p1 p2 p3 b0_128)) rfl ?_
        show Steps p.tables e below (T3.setTop (mkF m 132 (la0_14 p0 p1 p2 p3 b0_128) [])) t
        exact k
      exact ⟨_, _, _, _, X3, e3, N0, ⟨gle_b0_128, sz_b0_128, (own_at rfl (P := fun h => Keep h0 h []) K3), (by rw [hs2]; exact V3)⟩, fun t k => (own_k (f := fun (z : Int32) => mkF m 132 #[.val (.int p0), .val (.int p1), .val (.int p2), .val (.int p3), .val (.int (v0_6 p0 p1 p2 p3)), .val (.int z), .val (.int (v0_18 p0 p1 p2 p3)), .val (.int (v0_27 p0 p1 p2 p3)), .val (.int (v0_38 p0 p1 p2 p3)), .val (.int (v0_50 p0 p1 p2 p3)), .val (.int (v0_61 p0 p1 p2 p3)), .val (.int (v0_73 p0 p1 p2 p3)), .val (.int (v0_85 p0 p1 p2 p3)), .val (.int (v0_98 p0 p1 p2 p3)), .val (.int (v0_111 p0 p1 p2 p3)), .val (.int (v0_124 p0 p1 p2 p3)), .val (.ref b0_128), .unset, .unset, .unset, .unset, .unset, .unset, .unset, .unset, .unset] []) hs2 k)⟩
    · skip
      refine ORchB.go (T' := s₁) (g' := (mkF m 126 (la0_15 p0 p1 p2 p3) [])) (fun t k => (own_k (f := fun (z : Int32) => mkF m 126 #[.val (.int p0), .val (.int p1), .val (.int p2), .val (.int p3), .val (.int (v0_6 p0 p1 p2 p3)), .val (.int z), .val (.int (v0_18 p0 p1 p2 p3)), .val (.int (v0_27 p0 p1 p2 p3)), .val (.int (v0_38 p0 p1 p2 p3)), .val (.int (v0_50 p0 p1 p2 p3)), .val (.int (v0_61 p0 p1 p2 p3)), .val (.int (v0_73 p0 p1 p2 p3)), .val (.int (v0_85 p0 p1 p2 p3)), .val (.int (v0_98 p0 p1 p2 p3)), .val (.int (v0_111 p0 p1 p2 p3)), .val (.int (v0_124 p0 p1 p2 p3)), .unset, .unset, .unset, .unset, .unset, .unset, .unset, .unset, .unset, .unset] []) hs2.symm k)) ?_
      refine ORchB.go (T' := s₁) (g' := (mkF m 128 (la0_15 p0 p1 p2 p3) [(.int (1 : Int32))])) (fun t k => ?_) ?_
      · show Steps p.tables e below (s₁.setTop (mkF m 126 (la0_15 p0 p1 p2 p3) [])) t
        refine XS.iload X0.here hx rfl (hb hby at_126) rfl ?_
        show Steps p.tables e below (s₁.setTop (mkF m 128 (la0_15 p0 p1 p2 p3) [(.int (1 : Int32))])) t
        exact k
      obtain ⟨T4, h4, k4, X4, e4, E4, A4, st4⟩ := newP X0 hx hZ (hw _ (List.mem_of_getElem? (i := 1) rfl)) e0 (g := (mkF m 128 (la0_15 p0 p1 p2 p3) [(.int (1 : Int32))])) rfl (hb hby at_128) rfl (by decide) (cap := 3) (by decide) (by decide) (by decide) (by decide)
      obtain ⟨b0_128, g4⟩ : ∃ z, z = h0.size := ⟨_, rfl⟩
      rw [← g4] at A4 st4
      have gle_b0_128 : n0 ≤ b0_128 := Nat.le_trans Z0 (Nat.le_of_eq g4.symm)
      have sz_b0_128 : h0.size ≤ b0_128 := Nat.le_trans KR1.1 (Nat.le_of_eq g4.symm)
      have Z4 : n0 ≤ h4.size := Nat.le_trans Z0 E4.1
      have K4 : Keep h0 h4 [] := KR1.ext E4
      have V4 : OArr Z h4 b0_128 .int (1 : Int32) [(.int (0 : Int32))] (.int (0 : Int32)) := ⟨_, (Arv.new A4 (by decide)).pad (pad_rep [] (.int (0 : Int32)) 1)⟩
      refine ORchB.go (g' := (mkF m 130 (la0_15 p0 p1 p2 p3) [(.ref b0_128)])) st4 ?_
      refine ORchB.go (T' := T4) (g' := (mkF m 132 (la0_16 p0 p1 p2 p3 b0_128) [])) (fun t k => ?_) ?_
      · show Steps p.tables e below (T4.setTop (mkF m 130 (la0_15 p0 p1 p2 p3) [(.ref b0_128)])) t
        refine XS.astore X4.here hx rfl (hb hby at_130) rfl rfl (l' := (la0_16 p0 p1 p2 p3 b0_128)) rfl ?_
        show Steps p.tables e below (T4.setTop (mkF m 132 (la0_16 p0 p1 p2 p3 b0_128) [])) t
        exact k
      exact ⟨_, _, _, _, X4, e4, N0, ⟨gle_b0_128, sz_b0_128, (own_at rfl (P := fun h => Keep h0 h []) K4), (by rw [hs2]; exact V4)⟩, fun t k => (own_k (f := fun (z : Int32) => mkF m 132 #[.val (.int p0), .val (.int p1), .val (.int p2), .val (.int p3), .val (.int (v0_6 p0 p1 p2 p3)), .val (.int z), .val (.int (v0_18 p0 p1 p2 p3)), .val (.int (v0_27 p0 p1 p2 p3)), .val (.int (v0_38 p0 p1 p2 p3)), .val (.int (v0_50 p0 p1 p2 p3)), .val (.int (v0_61 p0 p1 p2 p3)), .val (.int (v0_73 p0 p1 p2 p3)), .val (.int (v0_85 p0 p1 p2 p3)), .val (.int (v0_98 p0 p1 p2 p3)), .val (.int (v0_111 p0 p1 p2 p3)), .val (.int (v0_124 p0 p1 p2 p3)), .val (.ref b0_128), .unset, .unset, .unset, .unset, .unset, .unset, .unset, .unset, .unset] []) hs2 k)⟩
    · skip
      refine ORchB.go (T' := s₁) (g' := (mkF m 126 (la0_17 p0 p1 p2 p3) [])) (fun t k => (own_k (f := fun (z : Int32) => mkF m 126 #[.val (.int p0), .val (.int p1), .val (.int p2), .val (.int p3), .val (.int (v0_6 p0 p1 p2 p3)), .val (.int z), .val (.int (v0_18 p0 p1 p2 p3)), .val (.int (v0_27 p0 p1 p2 p3)), .val (.int (v0_38 p0 p1 p2 p3)), .val (.int (v0_50 p0 p1 p2 p3)), .val (.int (v0_61 p0 p1 p2 p3)), .val (.int (v0_73 p0 p1 p2 p3)), .val (.int (v0_85 p0 p1 p2 p3)), .val (.int (v0_98 p0 p1 p2 p3)), .val (.int (v0_111 p0 p1 p2 p3)), .val (.int (v0_124 p0 p1 p2 p3)), .unset, .unset, .unset, .unset, .unset, .unset, .unset, .unset, .unset, .unset] []) hs2.symm k)) ?_
      refine ORchB.go (T' := s₁) (g' := (mkF m 128 (la0_17 p0 p1 p2 p3) [(.int (2 : Int32))])) (fun t k => ?_) ?_
      · show Steps p.tables e below (s₁.setTop (mkF m 126 (la0_17 p0 p1 p2 p3) [])) t
        refine XS.iload X0.here hx rfl (hb hby at_126) rfl ?_
        show Steps p.tables e below (s₁.setTop (mkF m 128 (la0_17 p0 p1 p2 p3) [(.int (2 : Int32))])) t
        exact k
      obtain ⟨T5, h5, k5, X5, e5, E5, A5, st5⟩ := newP X0 hx hZ (hw _ (List.mem_of_getElem? (i := 1) rfl)) e0 (g := (mkF m 128 (la0_17 p0 p1 p2 p3) [(.int (2 : Int32))])) rfl (hb hby at_128) rfl (by decide) (cap := 3) (by decide) (by decide) (by decide) (by decide)
      obtain ⟨b0_128, g5⟩ : ∃ z, z = h0.size := ⟨_, rfl⟩
      rw [← g5] at A5 st5
      have gle_b0_128 : n0 ≤ b0_128 := Nat.le_trans Z0 (Nat.le_of_eq g5.symm)
      have sz_b0_128 : h0.size ≤ b0_128 := Nat.le_trans KR1.1 (Nat.le_of_eq g5.symm)
      have Z5 : n0 ≤ h5.size := Nat.le_trans Z0 E5.1
      have K5 : Keep h0 h5 [] := KR1.ext E5
      have V5 : OArr Z h5 b0_128 .int (2 : Int32) [(.int (0 : Int32)), (.int (0 : Int32))] (.int (0 : Int32)) := ⟨_, (Arv.new A5 (by decide)).pad (pad_rep [] (.int (0 : Int32)) 2)⟩
      refine ORchB.go (g' := (mkF m 130 (la0_17 p0 p1 p2 p3) [(.ref b0_128)])) st5 ?_
      refine ORchB.go (T' := T5) (g' := (mkF m 132 (la0_18 p0 p1 p2 p3 b0_128) [])) (fun t k => ?_) ?_
      · show Steps p.tables e below (T5.setTop (mkF m 130 (la0_17 p0 p1 p2 p3) [(.ref b0_128)])) t
        refine XS.astore X5.here hx rfl (hb hby at_130) rfl rfl (l' := (la0_18 p0 p1 p2 p3 b0_128)) rfl ?_
        show Steps p.tables e below (T5.setTop (mkF m 132 (la0_18 p0 p1 p2 p3 b0_128) [])) t
        exact k
      exact ⟨_, _, _, _, X5, e5, N0, ⟨gle_b0_128, sz_b0_128, (own_at rfl (P := fun h => Keep h0 h []) K5), (by rw [hs2]; exact V5)⟩, fun t k => (own_k (f := fun (z : Int32) => mkF m 132 #[.val (.int p0), .val (.int p1), .val (.int p2), .val (.int p3), .val (.int (v0_6 p0 p1 p2 p3)), .val (.int z), .val (.int (v0_18 p0 p1 p2 p3)), .val (.int (v0_27 p0 p1 p2 p3)), .val (.int (v0_38 p0 p1 p2 p3)), .val (.int (v0_50 p0 p1 p2 p3)), .val (.int (v0_61 p0 p1 p2 p3)), .val (.int (v0_73 p0 p1 p2 p3)), .val (.int (v0_85 p0 p1 p2 p3)), .val (.int (v0_98 p0 p1 p2 p3)), .val (.int (v0_111 p0 p1 p2 p3)), .val (.int (v0_124 p0 p1 p2 p3)), .val (.ref b0_128), .unset, .unset, .unset, .unset, .unset, .unset, .unset, .unset, .unset] []) hs2 k)⟩
    · skip
      refine ORchB.go (T' := s₁) (g' := (mkF m 126 (la0_19 p0 p1 p2 p3) [])) (fun t k => (own_k (f := fun (z : Int32) => mkF m 126 #[.val (.int p0), .val (.int p1), .val (.int p2), .val (.int p3), .val (.int (v0_6 p0 p1 p2 p3)), .val (.int z), .val (.int (v0_18 p0 p1 p2 p3)), .val (.int (v0_27 p0 p1 p2 p3)), .val (.int (v0_38 p0 p1 p2 p3)), .val (.int (v0_50 p0 p1 p2 p3)), .val (.int (v0_61 p0 p1 p2 p3)), .val (.int (v0_73 p0 p1 p2 p3)), .val (.int (v0_85 p0 p1 p2 p3)), .val (.int (v0_98 p0 p1 p2 p3)), .val (.int (v0_111 p0 p1 p2 p3)), .val (.int (v0_124 p0 p1 p2 p3)), .unset, .unset, .unset, .unset, .unset, .unset, .unset, .unset, .unset, .unset] []) hs2.symm k)) ?_
      refine ORchB.go (T' := s₁) (g' := (mkF m 128 (la0_19 p0 p1 p2 p3) [(.int (3 : Int32))])) (fun t k => ?_) ?_
      · show Steps p.tables e below (s₁.setTop (mkF m 126 (la0_19 p0 p1 p2 p3) [])) t
        refine XS.iload X0.here hx rfl (hb hby at_126) rfl ?_
        show Steps p.tables e below (s₁.setTop (mkF m 128 (la0_19 p0 p1 p2 p3) [(.int (3 : Int32))])) t
        exact k
      obtain ⟨T6, h6, k6, X6, e6, E6, A6, st6⟩ := newP X0 hx hZ (hw _ (List.mem_of_getElem? (i := 1) rfl)) e0 (g := (mkF m 128 (la0_19 p0 p1 p2 p3) [(.int (3 : Int32))])) rfl (hb hby at_128) rfl (by decide) (cap := 3) (by decide) (by decide) (by decide) (by decide)
      obtain ⟨b0_128, g6⟩ : ∃ z, z = h0.size := ⟨_, rfl⟩
      rw [← g6] at A6 st6
      have gle_b0_128 : n0 ≤ b0_128 := Nat.le_trans Z0 (Nat.le_of_eq g6.symm)
      have sz_b0_128 : h0.size ≤ b0_128 := Nat.le_trans KR1.1 (Nat.le_of_eq g6.symm)
      have Z6 : n0 ≤ h6.size := Nat.le_trans Z0 E6.1
      have K6 : Keep h0 h6 [] := KR1.ext E6
      have V6 : OArr Z h6 b0_128 .int (3 : Int32) [(.int (0 : Int32)), (.int (0 : Int32)), (.int (0 : Int32))] (.int (0 : Int32)) := ⟨_, (Arv.new A6 (by decide)).pad (pad_rep [] (.int (0 : Int32)) 3)⟩
      refine ORchB.go (g' := (mkF m 130 (la0_19 p0 p1 p2 p3) [(.ref b0_128)])) st6 ?_
      refine ORchB.go (T' := T6) (g' := (mkF m 132 (la0_20 p0 p1 p2 p3 b0_128) [])) (fun t k => ?_) ?_
      · show Steps p.tables e below (T6.setTop (mkF m 130 (la0_19 p0 p1 p2 p3) [(.ref b0_128)])) t
        refine XS.astore X6.here hx rfl (hb hby at_130) rfl rfl (l' := (la0_20 p0 p1 p2 p3 b0_128)) rfl ?_
        show Steps p.tables e below (T6.setTop (mkF m 132 (la0_20 p0 p1 p2 p3 b0_128) [])) t
        exact k
      exact ⟨_, _, _, _, X6, e6, N0, ⟨gle_b0_128, sz_b0_128, (own_at rfl (P := fun h => Keep h0 h []) K6), (by rw [hs2]; exact V6)⟩, fun t k => (own_k (f := fun (z : Int32) => mkF m 132 #[.val (.int p0), .val (.int p1), .val (.int p2), .val (.int p3), .val (.int (v0_6 p0 p1 p2 p3)), .val (.int z), .val (.int (v0_18 p0 p1 p2 p3)), .val (.int (v0_27 p0 p1 p2 p3)), .val (.int (v0_38 p0 p1 p2 p3)), .val (.int (v0_50 p0 p1 p2 p3)), .val (.int (v0_61 p0 p1 p2 p3)), .val (.int (v0_73 p0 p1 p2 p3)), .val (.int (v0_85 p0 p1 p2 p3)), .val (.int (v0_98 p0 p1 p2 p3)), .val (.int (v0_111 p0 p1 p2 p3)), .val (.int (v0_124 p0 p1 p2 p3)), .val (.ref b0_128), .unset, .unset, .unset, .unset, .unset, .unset, .unset, .unset, .unset] []) hs2 k)⟩
  have Z1 : n0 ≤ h1.size := Nat.le_trans Z0 u1_2.1
  have gle_b0_128 := u1_0
  refine OEnd.go (g' := (mkF m 132 (la0_41 p0 p1 p2 p3 b0_128) [])) st1 ?_
  obtain ⟨b0_134, T7, h7, L7, X7, e7, N7, ⟨u7_0, u7_1, u7_2, u7_3⟩, st7⟩ : ORchB p l e room_1 s m #[(.int p0), (.int p1), (.int p2), (.int p3)] below meth c n0 T1 (mkF m 132 (la0_41 p0 p1 p2 p3 b0_128) []) (fun b0_134 => (mkF m 138 (la0_32 p0 p1 p2 p3 b0_128 b0_134) [])) 2 6 (fun h b0_134 => n0 ≤ b0_134 ∧ h1.size ≤ b0_134 ∧ Keep h1 h [] ∧ OArr Z h b0_134 .int (v0_18 p0 p1 p2 p3) (List.map Value.int (own_t3 (v0_18 p0 p1 p2 p3) (0 : Int32) (0 : Int32) (0 : Int32))) (.int (0 : Int32))) := by
    have KR7 : Keep h1 h1 [] := Keep.refl _ _
    rcases (own_mm p0 p1 p2 p3) with hs8 | hs8 | hs8 | hs8
    · skip
      refine ORchB.go (T' := T1) (g' := (mkF m 132 (la0_21 p0 p1 p2 p3 b0_128) [])) (fun t k => (own_k (f := fun (z : Int32) => mkF m 132 #[.val (.int p0), .val (.int p1), .val (.int p2), .val (.int p3), .val (.int (v0_6 p0 p1 p2 p3)), .val (.int (p1 &&& (3 : Int32))), .val (.int z), .val (.int (v0_27 p0 p1 p2 p3)), .val (.int (v0_38 p0 p1 p2 p3)), .val (.int (v0_50 p0 p1 p2 p3)), .val (.int (v0_61 p0 p1 p2 p3)), .val (.int (v0_73 p0 p1 p2 p3)), .val (.int (v0_85 p0 p1 p2 p3)), .val (.int (v0_98 p0 p1 p2 p3)), .val (.int (v0_111 p0 p1 p2 p3)), .val (.int (v0_124 p0 p1 p2 p3)), .val (.ref b0_128), .unset, .unset, .unset, .unset, .unset, .unset, .unset, .unset, .unset] []) hs8.symm k)) ?_
      refine ORchB.go (T' := T1) (g' := (mkF m 134 (la0_21 p0 p1 p2 p3 b0_128) [(.int (0 : Int32))])) (fun t k => ?_) ?_
      · show Steps p.tables e below (T1.setTop (mkF m 132 (la0_21 p0 p1 p2 p3 b0_128) [])) t
        refine XS.iload X1.here hx rfl (hb hby at_132) rfl ?_
        show Steps p.tables e below (T1.setTop (mkF m 134 (la0_21 p0 p1 p2 p3 b0_128) [(.int (0 : Int32))])) t
        exact k
      obtain ⟨T9, h9, k9, X9, e9, E9, A9, st9⟩ := newP X1 hx hZ (hw _ (List.mem_of_getElem? (i := 1) rfl)) e1 (g := (mkF m 134 (la0_21 p0 p1 p2 p3 b0_128) [(.int (0 : Int32))])) rfl (hb hby at_134) rfl (by decide) (cap := 3) (by decide) (by decide) (by decide) (by decide)
      obtain ⟨b0_134, g9⟩ : ∃ z, z = h1.size := ⟨_, rfl⟩
      rw [← g9] at A9 st9
      have gle_b0_134 : n0 ≤ b0_134 := Nat.le_trans Z1 (Nat.le_of_eq g9.symm)
      have sz_b0_134 : h1.size ≤ b0_134 := Nat.le_trans KR7.1 (Nat.le_of_eq g9.symm)
      have ne_b0_128_b0_134 : b0_128 ≠ b0_134 := Nat.ne_of_lt (Nat.lt_of_lt_of_le u1_3.lt (Nat.le_of_eq g9.symm))
      have fc10 : OArr Z h9 b0_128 .int (p1 &&& (3 : Int32)) (List.map Value.int (own_t3 (p1 &&& (3 : Int32)) (0 : Int32) (0 : Int32) (0 : Int32))) (.int (0 : Int32)) := (u1_3.ext E9)
      have Z9 : n0 ≤ h9.size := Nat.le_trans Z1 E9.1
      have K9 : Keep h1 h9 [] := KR7.ext E9
      have V9 : OArr Z h9 b0_134 .int (0 : Int32) [] (.int (0 : Int32)) := ⟨_, Arv.new A9 (by decide)⟩
      refine ORchB.go (g' := (mkF m 136 (la0_21 p0 p1 p2 p3 b0_128) [(.ref b0_134)])) st9 ?_
      refine ORchB.go (T' := T9) (g' := (mkF m 138 (la0_22 p0 p1 p2 p3 b0_128 b0_134) [])) (fun t k => ?_) ?_
      · show Steps p.tables e below (T9.setTop (mkF m 136 (la0_21 p0 p1 p2 p3 b0_128) [(.ref b0_134)])) t
        refine XS.astore X9.here hx rfl (hb hby at_136) rfl rfl (l' := (la0_22 p0 p1 p2 p3 b0_128 b0_134)) rfl ?_
        show Steps p.tables e below (T9.setTop (mkF m 138 (la0_22 p0 p1 p2 p3 b0_128 b0_134) [])) t
        exact k
      exact ⟨_, _, _, _, X9, e9, N1, ⟨gle_b0_134, sz_b0_134, (own_at rfl (P := fun h => Keep h1 h []) K9), (by rw [hs8]; exact V9)⟩, fun t k => (own_k (f := fun (z : Int32) => mkF m 138 #[.val (.int p0), .val (.int p1), .val (.int p2), .val (.int p3), .val (.int (v0_6 p0 p1 p2 p3)), .val (.int (p1 &&& (3 : Int32))), .val (.int z), .val (.int (v0_27 p0 p1 p2 p3)), .val (.int (v0_38 p0 p1 p2 p3)), .val (.int (v0_50 p0 p1 p2 p3)), .val (.int (v0_61 p0 p1 p2 p3)), .val (.int (v0_73 p0 p1 p2 p3)), .val (.int (v0_85 p0 p1 p2 p3)), .val (.int (v0_98 p0 p1 p2 p3)), .val (.int (v0_111 p0 p1 p2 p3)), .val (.int (v0_124 p0 p1 p2 p3)), .val (.ref b0_128), .val (.ref b0_134), .unset, .unset, .unset, .unset, .unset, .unset, .unset, .unset] []) hs8 k)⟩
    · skip
      refine ORchB.go (T' := T1) (g' := (mkF m 132 (la0_23 p0 p1 p2 p3 b0_128) [])) (fun t k => (own_k (f := fun (z : Int32) => mkF m 132 #[.val (.int p0), .val (.int p1), .val (.int p2), .val (.int p3), .val (.int (v0_6 p0 p1 p2 p3)), .val (.int (p1 &&& (3 : Int32))), .val (.int z), .val (.int (v0_27 p0 p1 p2 p3)), .val (.int (v0_38 p0 p1 p2 p3)), .val (.int (v0_50 p0 p1 p2 p3)), .val (.int (v0_61 p0 p1 p2 p3)), .val (.int (v0_73 p0 p1 p2 p3)), .val (.int (v0_85 p0 p1 p2 p3)), .val (.int (v0_98 p0 p1 p2 p3)), .val (.int (v0_111 p0 p1 p2 p3)), .val (.int (v0_124 p0 p1 p2 p3)), .val (.ref b0_128), .unset, .unset, .unset, .unset, .unset, .unset, .unset, .unset, .unset] []) hs8.symm k)) ?_
      refine ORchB.go (T' := T1) (g' := (mkF m 134 (la0_23 p0 p1 p2 p3 b0_128) [(.int (1 : Int32))])) (fun t k => ?_) ?_
      · show Steps p.tables e below (T1.setTop (mkF m 132 (la0_23 p0 p1 p2 p3 b0_128) [])) t
        refine XS.iload X1.here hx rfl (hb hby at_132) rfl ?_
        show Steps p.tables e below (T1.setTop (mkF m 134 (la0_23 p0 p1 p2 p3 b0_128) [(.int (1 : Int32))])) t
        exact k
      obtain ⟨T11, h11, k11, X11, e11, E11, A11, st11⟩ := newP X1 hx hZ (hw _ (List.mem_of_getElem? (i := 1) rfl)) e1 (g := (mkF m 134 (la0_23 p0 p1 p2 p3 b0_128) [(.int (1 : Int32))])) rfl (hb hby at_134) rfl (by decide) (cap := 3) (by decide) (by decide) (by decide) (by decide)
      obtain ⟨b0_134, g11⟩ : ∃ z, z = h1.size := ⟨_, rfl⟩
      rw [← g11] at A11 st11
      have gle_b0_134 : n0 ≤ b0_134 := Nat.le_trans Z1 (Nat.le_of_eq g11.symm)
      have sz_b0_134 : h1.size ≤ b0_134 := Nat.le_trans KR7.1 (Nat.le_of_eq g11.symm)
      have ne_b0_128_b0_134 : b0_128 ≠ b0_134 := Nat.ne_of_lt (Nat.lt_of_lt_of_le u1_3.lt (Nat.le_of_eq g11.symm))
      have fc12 : OArr Z h11 b0_128 .int (p1 &&& (3 : Int32)) (List.map Value.int (own_t3 (p1 &&& (3 : Int32)) (0 : Int32) (0 : Int32) (0 : Int32))) (.int (0 : Int32)) := (u1_3.ext E11)
      have Z11 : n0 ≤ h11.size := Nat.le_trans Z1 E11.1
      have K11 : Keep h1 h11 [] := KR7.ext E11
      have V11 : OArr Z h11 b0_134 .int (1 : Int32) [(.int (0 : Int32))] (.int (0 : Int32)) := ⟨_, (Arv.new A11 (by decide)).pad (pad_rep [] (.int (0 : Int32)) 1)⟩
      refine ORchB.go (g' := (mkF m 136 (la0_23 p0 p1 p2 p3 b0_128) [(.ref b0_134)])) st11 ?_
      refine ORchB.go (T' := T11) (g' := (mkF m 138 (la0_24 p0 p1 p2 p3 b0_128 b0_134) [])) (fun t k => ?_) ?_
      · show Steps p.tables e below (T11.setTop (mkF m 136 (la0_23 p0 p1 p2 p3 b0_128) [(.ref b0_134)])) t
        refine XS.astore X11.here hx rfl (hb hby at_136) rfl rfl (l' := (la0_24 p0 p1 p2 p3 b0_128 b0_134)) rfl ?_
        show Steps p.tables e below (T11.setTop (mkF m 138 (la0_24 p0 p1 p2 p3 b0_128 b0_134) [])) t
        exact k
      exact ⟨_, _, _, _, X11, e11, N1, ⟨gle_b0_134, sz_b0_134, (own_at rfl (P := fun h => Keep h1 h []) K11), (by rw [hs8]; exact V11)⟩, fun t k => (own_k (f := fun (z : Int32) => mkF m 138 #[.val (.int p0), .val (.int p1), .val (.int p2), .val (.int p3), .val (.int (v0_6 p0 p1 p2 p3)), .val (.int (p1 &&& (3 : Int32))), .val (.int z), .val (.int (v0_27 p0 p1 p2 p3)), .val (.int (v0_38 p0 p1 p2 p3)), .val (.int (v0_50 p0 p1 p2 p3)), .val (.int (v0_61 p0 p1 p2 p3)), .val (.int (v0_73 p0 p1 p2 p3)), .val (.int (v0_85 p0 p1 p2 p3)), .val (.int (v0_98 p0 p1 p2 p3)), .val (.int (v0_111 p0 p1 p2 p3)), .val (.int (v0_124 p0 p1 p2 p3)), .val (.ref b0_128), .val (.ref b0_134), .unset, .unset, .unset, .unset, .unset, .unset, .unset, .unset] []) hs8 k)⟩
    · skip
      refine ORchB.go (T' := T1) (g' := (mkF m 132 (la0_25 p0 p1 p2 p3 b0_128) [])) (fun t k => (own_k (f := fun (z : Int32) => mkF m 132 #[.val (.int p0), .val (.int p1), .val (.int p2), .val (.int p3), .val (.int (v0_6 p0 p1 p2 p3)), .val (.int (p1 &&& (3 : Int32))), .val (.int z), .val (.int (v0_27 p0 p1 p2 p3)), .val (.int (v0_38 p0 p1 p2 p3)), .val (.int (v0_50 p0 p1 p2 p3)), .val (.int (v0_61 p0 p1 p2 p3)), .val (.int (v0_73 p0 p1 p2 p3)), .val (.int (v0_85 p0 p1 p2 p3)), .val (.int (v0_98 p0 p1 p2 p3)), .val (.int (v0_111 p0 p1 p2 p3)), .val (.int (v0_124 p0 p1 p2 p3)), .val (.ref b0_128), .unset, .unset, .unset, .unset, .unset, .unset, .unset, .unset, .unset] []) hs8.symm k)) ?_
      refine ORchB.go (T' := T1) (g' := (mkF m 134 (la0_25 p0 p1 p2 p3 b0_128) [(.int (2 : Int32))])) (fun t k => ?_) ?_
      · show Steps p.tables e below (T1.setTop (mkF m 132 (la0_25 p0 p1 p2 p3 b0_128) [])) t
        refine XS.iload X1.here hx rfl (hb hby at_132) rfl ?_
        show Steps p.tables e below (T1.setTop (mkF m 134 (la0_25 p0 p1 p2 p3 b0_128) [(.int (2 : Int32))])) t
        exact k
      obtain ⟨T13, h13, k13, X13, e13, E13, A13, st13⟩ := newP X1 hx hZ (hw _ (List.mem_of_getElem? (i := 1) rfl)) e1 (g := (mkF m 134 (la0_25 p0 p1 p2 p3 b0_128) [(.int (2 : Int32))])) rfl (hb hby at_134) rfl (by decide) (cap := 3) (by decide) (by decide) (by decide) (by decide)
      obtain ⟨b0_134, g13⟩ : ∃ z, z = h1.size := ⟨_, rfl⟩
      rw [← g13] at A13 st13
      have gle_b0_134 : n0 ≤ b0_134 := Nat.le_trans Z1 (Nat.le_of_eq g13.symm)
      have sz_b0_134 : h1.size ≤ b0_134 := Nat.le_trans KR7.1 (Nat.le_of_eq g13.symm)
      have ne_b0_128_b0_134 : b0_128 ≠ b0_134 := Nat.ne_of_lt (Nat.lt_of_lt_of_le u1_3.lt (Nat.le_of_eq g13.symm))
      have fc14 : OArr Z h13 b0_128 .int (p1 &&& (3 : Int32)) (List.map Value.int (own_t3 (p1 &&& (3 : Int32)) (0 : Int32) (0 : Int32) (0 : Int32))) (.int (0 : Int32)) := (u1_3.ext E13)
      have Z13 : n0 ≤ h13.size := Nat.le_trans Z1 E13.1
      have K13 : Keep h1 h13 [] := KR7.ext E13
      have V13 : OArr Z h13 b0_134 .int (2 : Int32) [(.int (0 : Int32)), (.int (0 : Int32))] (.int (0 : Int32)) := ⟨_, (Arv.new A13 (by decide)).pad (pad_rep [] (.int (0 : Int32)) 2)⟩
      refine ORchB.go (g' := (mkF m 136 (la0_25 p0 p1 p2 p3 b0_128) [(.ref b0_134)])) st13 ?_
      refine ORchB.go (T' := T13) (g' := (mkF m 138 (la0_26 p0 p1 p2 p3 b0_128 b0_134) [])) (fun t k => ?_) ?_
      · show Steps p.tables e below (T13.setTop (mkF m 136 (la0_25 p0 p1 p2 p3 b0_128) [(.ref b0_134)])) t
        refine XS.astore X13.here hx rfl (hb hby at_136) rfl rfl (l' := (la0_26 p0 p1 p2 p3 b0_128 b0_134)) rfl ?_
        show Steps p.tables e below (T13.setTop (mkF m 138 (la0_26 p0 p1 p2 p3 b0_128 b0_134) [])) t
        exact k
      exact ⟨_, _, _, _, X13, e13, N1, ⟨gle_b0_134, sz_b0_134, (own_at rfl (P := fun h => Keep h1 h []) K13), (by rw [hs8]; exact V13)⟩, fun t k => (own_k (f := fun (z : Int32) => mkF m 138 #[.val (.int p0), .val (.int p1), .val (.int p2), .val (.int p3), .val (.int (v0_6 p0 p1 p2 p3)), .val (.int (p1 &&& (3 : Int32))), .val (.int z), .val (.int (v0_27 p0 p1 p2 p3)), .val (.int (v0_38 p0 p1 p2 p3)), .val (.int (v0_50 p0 p1 p2 p3)), .val (.int (v0_61 p0 p1 p2 p3)), .val (.int (v0_73 p0 p1 p2 p3)), .val (.int (v0_85 p0 p1 p2 p3)), .val (.int (v0_98 p0 p1 p2 p3)), .val (.int (v0_111 p0 p1 p2 p3)), .val (.int (v0_124 p0 p1 p2 p3)), .val (.ref b0_128), .val (.ref b0_134), .unset, .unset, .unset, .unset, .unset, .unset, .unset, .unset] []) hs8 k)⟩
    · skip
      refine ORchB.go (T' := T1) (g' := (mkF m 132 (la0_27 p0 p1 p2 p3 b0_128) [])) (fun t k => (own_k (f := fun (z : Int32) => mkF m 132 #[.val (.int p0), .val (.int p1), .val (.int p2), .val (.int p3), .val (.int (v0_6 p0 p1 p2 p3)), .val (.int (p1 &&& (3 : Int32))), .val (.int z), .val (.int (v0_27 p0 p1 p2 p3)), .val (.int (v0_38 p0 p1 p2 p3)), .val (.int (v0_50 p0 p1 p2 p3)), .val (.int (v0_61 p0 p1 p2 p3)), .val (.int (v0_73 p0 p1 p2 p3)), .val (.int (v0_85 p0 p1 p2 p3)), .val (.int (v0_98 p0 p1 p2 p3)), .val (.int (v0_111 p0 p1 p2 p3)), .val (.int (v0_124 p0 p1 p2 p3)), .val (.ref b0_128), .unset, .unset, .unset, .unset, .unset, .unset, .unset, .unset, .unset] []) hs8.symm k)) ?_
      refine ORchB.go (T' := T1) (g' := (mkF m 134 (la0_27 p0 p1 p2 p3 b0_128) [(.int (3 : Int32))])) (fun t k => ?_) ?_
      · show Steps p.tables e below (T1.setTop (mkF m 132 (la0_27 p0 p1 p2 p3 b0_128) [])) t
        refine XS.iload X1.here hx rfl (hb hby at_132) rfl ?_
        show Steps p.tables e below (T1.setTop (mkF m 134 (la0_27 p0 p1 p2 p3 b0_128) [(.int (3 : Int32))])) t
        exact k
      obtain ⟨T15, h15, k15, X15, e15, E15, A15, st15⟩ := newP X1 hx hZ (hw _ (List.mem_of_getElem? (i := 1) rfl)) e1 (g := (mkF m 134 (la0_27 p0 p1 p2 p3 b0_128) [(.int (3 : Int32))])) rfl (hb hby at_134) rfl (by decide) (cap := 3) (by decide) (by decide) (by decide) (by decide)
      obtain ⟨b0_134, g15⟩ : ∃ z, z = h1.size := ⟨_, rfl⟩
      rw [← g15] at A15 st15
      have gle_b0_134 : n0 ≤ b0_134 := Nat.le_trans Z1 (Nat.le_of_eq g15.symm)
      have sz_b0_134 : h1.size ≤ b0_134 := Nat.le_trans KR7.1 (Nat.le_of_eq g15.symm)
      have ne_b0_128_b0_134 : b0_128 ≠ b0_134 := Nat.ne_of_lt (Nat.lt_of_lt_of_le u1_3.lt (Nat.le_of_eq g15.symm))
      have fc16 : OArr Z h15 b0_128 .int (p1 &&& (3 : Int32)) (List.map Value.int (own_t3 (p1 &&& (3 : Int32)) (0 : Int32) (0 : Int32) (0 : Int32))) (.int (0 : Int32)) := (u1_3.ext E15)
      have Z15 : n0 ≤ h15.size := Nat.le_trans Z1 E15.1
      have K15 : Keep h1 h15 [] := KR7.ext E15
      have V15 : OArr Z h15 b0_134 .int (3 : Int32) [(.int (0 : Int32)), (.int (0 : Int32)), (.int (0 : Int32))] (.int (0 : Int32)) := ⟨_, (Arv.new A15 (by decide)).pad (pad_rep [] (.int (0 : Int32)) 3)⟩
      refine ORchB.go (g' := (mkF m 136 (la0_27 p0 p1 p2 p3 b0_128) [(.ref b0_134)])) st15 ?_
      refine ORchB.go (T' := T15) (g' := (mkF m 138 (la0_28 p0 p1 p2 p3 b0_128 b0_134) [])) (fun t k => ?_) ?_
      · show Steps p.tables e below (T15.setTop (mkF m 136 (la0_27 p0 p1 p2 p3 b0_128) [(.ref b0_134)])) t
        refine XS.astore X15.here hx rfl (hb hby at_136) rfl rfl (l' := (la0_28 p0 p1 p2 p3 b0_128 b0_134)) rfl ?_
        show Steps p.tables e below (T15.setTop (mkF m 138 (la0_28 p0 p1 p2 p3 b0_128 b0_134) [])) t
        exact k
      exact ⟨_, _, _, _, X15, e15, N1, ⟨gle_b0_134, sz_b0_134, (own_at rfl (P := fun h => Keep h1 h []) K15), (by rw [hs8]; exact V15)⟩, fun t k => (own_k (f := fun (z : Int32) => mkF m 138 #[.val (.int p0), .val (.int p1), .val (.int p2), .val (.int p3), .val (.int (v0_6 p0 p1 p2 p3)), .val (.int (p1 &&& (3 : Int32))), .val (.int z), .val (.int (v0_27 p0 p1 p2 p3)), .val (.int (v0_38 p0 p1 p2 p3)), .val (.int (v0_50 p0 p1 p2 p3)), .val (.int (v0_61 p0 p1 p2 p3)), .val (.int (v0_73 p0 p1 p2 p3)), .val (.int (v0_85 p0 p1 p2 p3)), .val (.int (v0_98 p0 p1 p2 p3)), .val (.int (v0_111 p0 p1 p2 p3)), .val (.int (v0_124 p0 p1 p2 p3)), .val (.ref b0_128), .val (.ref b0_134), .unset, .unset, .unset, .unset, .unset, .unset, .unset, .unset] []) hs8 k)⟩
  have Z7 : n0 ≤ h7.size := Nat.le_trans Z1 u7_2.1
  have gle_b0_134 := u7_0
  have ne_b0_128_b0_134 : b0_128 ≠ b0_134 := Nat.ne_of_lt (Nat.lt_of_lt_of_le u1_3.lt u7_1)
  have fc17 : OArr Z h7 b0_128 .int (p1 &&& (3 : Int32)) (List.map Value.int (own_t3 (p1 &&& (3 : Int32)) (0 : Int32) (0 : Int32) (0 : Int32))) (.int (0 : Int32)) := (u1_3.keep u7_2 nin0)
  refine OEnd.go (g' := (mkF m 138 (la0_32 p0 p1 p2 p3 b0_128 b0_134) [])) st7 ?_
  obtain ⟨T18, h18, L18, X18, e18, N18, ⟨u18_0, u18_1⟩, st18⟩ : ORchH p l e room_1 s m #[(.int p0), (.int p1), (.int p2), (.int p3)] below meth c n0 T7 (mkF m 138 (la0_32 p0 p1 p2 p3 b0_128 b0_134) []) (mkF m 173 (la0_32 p0 p1 p2 p3 b0_128 b0_134) []) 2 6 (fun h => Keep h7 h [b0_128] ∧ OArr Z h b0_128 .int (p1 &&& (3 : Int32)) (List.map Value.int (own_t3 (p1 &&& (3 : Int32)) (v0_27 p0 p1 p2 p3) (v0_38 p0 p1 p2 p3) (v0_50 p0 p1 p2 p3))) (.int (0 : Int32))) := by
    have KR18 : Keep h7 h7 [b0_128] := Keep.refl _ _
    rcases (own_four p1) with hs19 | hs19 | hs19 | hs19
    · skip
      refine ORchH.go (T' := T7) (g' := (mkF m 138 (la0_42 p0 p1 p2 p3 b0_128 b0_134) [])) (fun t k => (own_k (f := fun (z : Int32) => mkF m 138 #[.val (.int p0), .val (.int p1), .val (.int p2), .val (.int p3), .val (.int (v0_6 p0 p1 p2 p3)), .val (.int z), .val (.int (v0_18 p0 p1 p2 p3)), .val (.int (v0_27 p0 p1 p2 p3)), .val (.int (v0_38 p0 p1 p2 p3)), .val (.int (v0_50 p0 p1 p2 p3)), .val (.int (v0_61 p0 p1 p2 p3)), .val (.int (v0_73 p0 p1 p2 p3)), .val (.int (v0_85 p0 p1 p2 p3)), .val (.int (v0_98 p0 p1 p2 p3)), .val (.int (v0_111 p0 p1 p2 p3)), .val (.int (v0_124 p0 p1 p2 p3)), .val (.ref b0_128), .val (.ref b0_134), .unset, .unset, .unset, .unset, .unset, .unset, .unset, .unset] []) hs19.symm k)) ?_
      have fc20 : OArr Z h7 b0_128 .int (0 : Int32) [] (.int (0 : Int32)) := by
        have q := fc17
        rw [hs19] at q
        exact q
      refine ORchH.go (T' := T7) (g' := (mkF m 173 (la0_42 p0 p1 p2 p3 b0_128 b0_134) [])) (fun t k => ?_) ?_
      · show Steps p.tables e below (T7.setTop (mkF m 138 (la0_42 p0 p1 p2 p3 b0_128 b0_134) [])) t
        refine XS.iload X7.here hx rfl (hb hby at_138) rfl ?_
        show Steps p.tables e below (T7.setTop (mkF m 140 (la0_42 p0 p1 p2 p3 b0_128 b0_134) [(.int (0 : Int32))])) t
        refine XS.ifYes X7.here hx rfl (pc0 := 140) (pc' := 149) rfl (hb hby at_140) rfl ((if0 _ _).trans (flt ((by decide))).2.2.2) (by decide) (by decide) ?_
        show Steps p.tables e below (T7.setTop (mkF m 149 (la0_42 p0 p1 p2 p3 b0_128 b0_134) [])) t
        refine XS.iload X7.here hx rfl (hb hby at_149) rfl ?_
        show Steps p.tables e below (T7.setTop (mkF m 151 (la0_42 p0 p1 p2 p3 b0_128 b0_134) [(.int (0 : Int32))])) t
        refine XS.iconst X7.here hx rfl (hb hby at_151) ?_
        show Steps p.tables e below (T7.setTop (mkF m 152 (la0_42 p0 p1 p2 p3 b0_128 b0_134) [(.int (1 : Int32)), (.int (0 : Int32))])) t
        refine XS.icmpYes X7.here hx rfl (pc0 := 152) (pc' := 161) rfl (hb hby at_152) rfl (flt ((by decide))).2.2.2 (by decide) (by decide) ?_
        show Steps p.tables e below (T7.setTop (mkF m 161 (la0_42 p0 p1 p2 p3 b0_128 b0_134) [])) t
        refine XS.iload X7.here hx rfl (hb hby at_161) rfl ?_
        show Steps p.tables e below (T7.setTop (mkF m 163 (la0_42 p0 p1 p2 p3 b0_128 b0_134) [(.int (0 : Int32))])) t
        refine XS.iconst X7.here hx rfl (hb hby at_163) ?_
        show Steps p.tables e below (T7.setTop (mkF m 164 (la0_42 p0 p1 p2 p3 b0_128 b0_134) [(.int (2 : Int32)), (.int (0 : Int32))])) t
        refine XS.icmpYes X7.here hx rfl (pc0 := 164) (pc' := 173) rfl (hb hby at_164) rfl (flt ((by decide))).2.2.2 (by decide) (by decide) ?_
        show Steps p.tables e below (T7.setTop (mkF m 173 (la0_42 p0 p1 p2 p3 b0_128 b0_134) [])) t
        exact k
      exact ⟨_, _, _, X7, e7, N7, ⟨(own_at rfl (P := fun h => Keep h7 h [b0_128]) KR18), (by rw [hs19]; exact fc20)⟩, fun t k => (own_k (f := fun (z : Int32) => mkF m 173 #[.val (.int p0), .val (.int p1), .val (.int p2), .val (.int p3), .val (.int (v0_6 p0 p1 p2 p3)), .val (.int z), .val (.int (v0_18 p0 p1 p2 p3)), .val (.int (v0_27 p0 p1 p2 p3)), .val (.int (v0_38 p0 p1 p2 p3)), .val (.int (v0_50 p0 p1 p2 p3)), .val (.int (v0_61 p0 p1 p2 p3)), .val (.int (v0_73 p0 p1 p2 p3)), .val (.int (v0_85 p0 p1 p2 p3)), .val (.int (v0_98 p0 p1 p2 p3)), .val (.int (v0_111 p0 p1 p2 p3)), .val (.int (v0_124 p0 p1 p2 p3)), .val (.ref b0_128), .val (.ref b0_134), .unset, .unset, .unset, .unset, .unset, .unset, .unset, .unset] []) hs19 k)⟩
    · skip
      refine ORchH.go (T' := T7) (g' := (mkF m 138 (la0_29 p0 p1 p2 p3 b0_128 b0_134) [])) (fun t k => (own_k (f := fun (z : Int32) => mkF m 138 #[.val (.int p0), .val (.int p1), .val (.int p2), .val (.int p3), .val (.int (v0_6 p0 p1 p2 p3)), .val (.int z), .val (.int (v0_18 p0 p1 p2 p3)), .val (.int (v0_27 p0 p1 p2 p3)), .val (.int (v0_38 p0 p1 p2 p3)), .val (.int (v0_50 p0 p1 p2 p3)), .val (.int (v0_61 p0 p1 p2 p3)), .val (.int (v0_73 p0 p1 p2 p3)), .val (.int (v0_85 p0 p1 p2 p3)), .val (.int (v0_98 p0 p1 p2 p3)), .val (.int (v0_111 p0 p1 p2 p3)), .val (.int (v0_124 p0 p1 p2 p3)), .val (.ref b0_128), .val (.ref b0_134), .unset, .unset, .unset, .unset, .unset, .unset, .unset, .unset] []) hs19.symm k)) ?_
      have fc21 : OArr Z h7 b0_128 .int (1 : Int32) [(.int (0 : Int32))] (.int (0 : Int32)) := by
        have q := fc17
        rw [hs19] at q
        exact q
      refine ORchH.go (T' := T7) (g' := (mkF m 148 (la0_29 p0 p1 p2 p3 b0_128 b0_134) [(.int (v0_27 p0 p1 p2 p3)), (.int (0 : Int32)), (.ref b0_128)])) (fun t k => ?_) ?_
      · show Steps p.tables e below (T7.setTop (mkF m 138 (la0_29 p0 p1 p2 p3 b0_128 b0_134) [])) t
        refine XS.iload X7.here hx rfl (hb hby at_138) rfl ?_
        show Steps p.tables e below (T7.setTop (mkF m 140 (la0_29 p0 p1 p2 p3 b0_128 b0_134) [(.int (1 : Int32))])) t
        refine XS.ifNo X7.here hx rfl (hb hby at_140) rfl ((if0 _ _).trans (tlt ((by decide))).2.2.2) ?_
        show Steps p.tables e below (T7.setTop (mkF m 143 (la0_29 p0 p1 p2 p3 b0_128 b0_134) [])) t
        refine XS.aload X7.here hx rfl (hb hby at_143) rfl rfl ?_
        show Steps p.tables e below (T7.setTop (mkF m 145 (la0_29 p0 p1 p2 p3 b0_128 b0_134) [(.ref b0_128)])) t
        refine XS.iconst X7.here hx rfl (hb hby at_145) ?_
        show Steps p.tables e below (T7.setTop (mkF m 146 (la0_29 p0 p1 p2 p3 b0_128 b0_134) [(.int (0 : Int32)), (.ref b0_128)])) t
        refine XS.iload X7.here hx rfl (hb hby at_146) rfl ?_
        show Steps p.tables e below (T7.setTop (mkF m 148 (la0_29 p0 p1 p2 p3 b0_128 b0_134) [(.int (v0_27 p0 p1 p2 p3)), (.int (0 : Int32)), (.ref b0_128)])) t
        exact k
      obtain ⟨kc22, cl22, Ar22, q22, S22, M22, H22, G22⟩ := id fc21
      have hin22 : ¬ ((0 : Int32) < 0 ∨ cl22.slots.size ≤ ((0 : Int32)).toNatClampNeg) := inb_of S22 ⟨by decide, by decide⟩
      obtain ⟨T22, h22, X22, e22, W22, st22⟩ := stI X7 hx hZ e7 Ar22 (j := (0 : Int32)) hin22 (g := (mkF m 148 (la0_29 p0 p1 p2 p3 b0_128 b0_134) [(.int (v0_27 p0 p1 p2 p3)), (.int (0 : Int32)), (.ref b0_128)])) rfl rfl (hb hby at_148)
      have N22 := Fr.snoc X22 N7 gle_b0_128
      have Z22 : n0 ≤ h22.size := Nat.le_trans Z7 (Keep.of_wr W22).1
      have K22 : Keep h7 h22 [b0_128] := KR18.wr W22 (Or.inl (List.mem_of_getElem? (i := 0) rfl))
      have V22 : OArr Z h22 b0_128 .int (1 : Int32) [(.int (v0_27 p0 p1 p2 p3))] (.int (0 : Int32)) := ⟨_, Arv.set Ar22 q22 S22 M22 H22 G22 rfl W22 0 rfl (Nat.le_of_ble_eq_true rfl)⟩
      have fc23 : OArr Z h22 b0_134 .int (v0_18 p0 p1 p2 p3) (List.map Value.int (own_t3 (v0_18 p0 p1 p2 p3) (0 : Int32) (0 : Int32) (0 : Int32))) (.int (0 : Int32)) := (u7_3.other W22 (Ne.symm ne_b0_128_b0_134))
      refine ORchH.go (g' := (mkF m 149 (la0_29 p0 p1 p2 p3 b0_128 b0_134) [])) st22 ?_
      refine ORchH.go (T' := T22) (g' := (mkF m 173 (la0_29 p0 p1 p2 p3 b0_128 b0_134) [])) (fun t k => ?_) ?_
      · show Steps p.tables e below (T22.setTop (mkF m 149 (la0_29 p0 p1 p2 p3 b0_128 b0_134) [])) t
        refine XS.iload X22.here hx rfl (hb hby at_149) rfl ?_
        show Steps p.tables e below (T22.setTop (mkF m 151 (la0_29 p0 p1 p2 p3 b0_128 b0_134) [(.int (1 : Int32))])) t
        refine XS.iconst X22.here hx rfl (hb hby at_151) ?_
        show Steps p.tables e below (T22.setTop (mkF m 152 (la0_29 p0 p1 p2 p3 b0_128 b0_134) [(.int (1 : Int32)), (.int (1 : Int32))])) t
        refine XS.icmpYes X22.here hx rfl (pc0 := 152) (pc' := 161) rfl (hb hby at_152) rfl (flt ((by decide))).2.2.2 (by decide) (by decide) ?_
        show Steps p.tables e below (T22.setTop (mkF m 161 (la0_29 p0 p1 p2 p3 b0_128 b0_134) [])) t
        refine XS.iload X22.here hx rfl (hb hby at_161) rfl ?_
        show Steps p.tables e below (T22.setTop (mkF m 163 (la0_29 p0 p1 p2 p3 b0_128 b0_134) [(.int (1 : Int32))])) t
        refine XS.iconst X22.here hx rfl (hb hby at_163) ?_
        show Steps p.tables e below (T22.setTop (mkF m 164 (la0_29 p0 p1 p2 p3 b0_128 b0_134) [(.int (2 : Int32)), (.int (1 : Int32))])) t
        refine XS.icmpYes X22.here hx rfl (pc0 := 164) (pc' := 173) rfl (hb hby at_164) rfl (flt ((by decide))).2.2.2 (by decide) (by decide) ?_
        show Steps p.tables e below (T22.setTop (mkF m 173 (la0_29 p0 p1 p2 p3 b0_128 b0_134) [])) t
        exact k
      exact ⟨_, _, _, X22, e22, N22, ⟨(own_at rfl (P := fun h => Keep h7 h [b0_128]) K22), (by rw [hs19]; exact V22)⟩, fun t k => (own_k (f := fun (z : Int32) => mkF m 173 #[.val (.int p0), .val (.int p1), .val (.int p2), .val (.int p3), .val (.int (v0_6 p0 p1 p2 p3)), .val (.int z), .val (.int (v0_18 p0 p1 p2 p3)), .val (.int (v0_27 p0 p1 p2 p3)), .val (.int (v0_38 p0 p1 p2 p3)), .val (.int (v0_50 p0 p1 p2 p3)), .val (.int (v0_61 p0 p1 p2 p3)), .val (.int (v0_73 p0 p1 p2 p3)), .val (.int (v0_85 p0 p1 p2 p3)), .val (.int (v0_98 p0 p1 p2 p3)), .val (.int (v0_111 p0 p1 p2 p3)), .val (.int (v0_124 p0 p1 p2 p3)), .val (.ref b0_128), .val (.ref b0_134), .unset, .unset, .unset, .unset, .unset, .unset, .unset, .unset] []) hs19 k)⟩
    · skip
      refine ORchH.go (T' := T7) (g' := (mkF m 138 (la0_30 p0 p1 p2 p3 b0_128 b0_134) [])) (fun t k => (own_k (f := fun (z : Int32) => mkF m 138 #[.val (.int p0), .val (.int p1), .val (.int p2), .val (.int p3), .val (.int (v0_6 p0 p1 p2 p3)), .val (.int z), .val (.int (v0_18 p0 p1 p2 p3)), .val (.int (v0_27 p0 p1 p2 p3)), .val (.int (v0_38 p0 p1 p2 p3)), .val (.int (v0_50 p0 p1 p2 p3)), .val (.int (v0_61 p0 p1 p2 p3)), .val (.int (v0_73 p0 p1 p2 p3)), .val (.int (v0_85 p0 p1 p2 p3)), .val (.int (v0_98 p0 p1 p2 p3)), .val (.int (v0_111 p0 p1 p2 p3)), .val (.int (v0_124 p0 p1 p2 p3)), .val (.ref b0_128), .val (.ref b0_134), .unset, .unset, .unset, .unset, .unset, .unset, .unset, .unset] []) hs19.symm k)) ?_
      have fc24 : OArr Z h7 b0_128 .int (2 : Int32) [(.int (0 : Int32)), (.int (0 : Int32))] (.int (0 : Int32)) := by
        have q := fc17
        rw [hs19] at q
        exact q
      refine ORchH.go (T' := T7) (g' := (mkF m 148 (la0_30 p0 p1 p2 p3 b0_128 b0_134) [(.int (v0_27 p0 p1 p2 p3)), (.int (0 : Int32)), (.ref b0_128)])) (fun t k => ?_) ?_
      · show Steps p.tables e below (T7.setTop (mkF m 138 (la0_30 p0 p1 p2 p3 b0_128 b0_134) [])) t
        refine XS.iload X7.here hx rfl (hb hby at_138) rfl ?_
        show Steps p.tables e below (T7.setTop (mkF m 140 (la0_30 p0 p1 p2 p3 b0_128 b0_134) [(.int (2 : Int32))])) t
        refine XS.ifNo X7.here hx rfl (hb hby at_140) rfl ((if0 _ _).trans (tlt ((by decide))).2.2.2) ?_
        show Steps p.tables e below (T7.setTop (mkF m 143 (la0_30 p0 p1 p2 p3 b0_128 b0_134) [])) t
        refine XS.aload X7.here hx rfl (hb hby at_143) rfl rfl ?_
        show Steps p.tables e below (T7.setTop (mkF m 145 (la0_30 p0 p1 p2 p3 b0_128 b0_134) [(.ref b0_128)])) t
        refine XS.iconst X7.here hx rfl (hb hby at_145) ?_
        show Steps p.tables e below (T7.setTop (mkF m 146 (la0_30 p0 p1 p2 p3 b0_128 b0_134) [(.int (0 : Int32)), (.ref b0_128)])) t
        refine XS.iload X7.here hx rfl (hb hby at_146) rfl ?_
        show Steps p.tables e below (T7.setTop (mkF m 148 (la0_30 p0 p1 p2 p3 b0_128 b0_134) [(.int (v0_27 p0 p1 p2 p3)), (.int (0 : Int32)), (.ref b0_128)])) t
        exact k
      obtain ⟨kc25, cl25, Ar25, q25, S25, M25, H25, G25⟩ := id fc24
      have hin25 : ¬ ((0 : Int32) < 0 ∨ cl25.slots.size ≤ ((0 : Int32)).toNatClampNeg) := inb_of S25 ⟨by decide, by decide⟩
      obtain ⟨T25, h25, X25, e25, W25, st25⟩ := stI X7 hx hZ e7 Ar25 (j := (0 : Int32)) hin25 (g := (mkF m 148 (la0_30 p0 p1 p2 p3 b0_128 b0_134) [(.int (v0_27 p0 p1 p2 p3)), (.int (0 : Int32)), (.ref b0_128)])) rfl rfl (hb hby at_148)
      have N25 := Fr.snoc X25 N7 gle_b0_128
      have Z25 : n0 ≤ h25.size := Nat.le_trans Z7 (Keep.of_wr W25).1
      have K25 : Keep h7 h25 [b0_128] := KR18.wr W25 (Or.inl (List.mem_of_getElem? (i := 0) rfl))
      have V25 : OArr Z h25 b0_128 .int (2 : Int32) [(.int (v0_27 p0 p1 p2 p3)), (.int (0 : Int32))] (.int (0 : Int32)) := ⟨_, Arv.set Ar25 q25 S25 M25 H25 G25 rfl W25 0 rfl (Nat.le_of_ble_eq_true rfl)⟩
      have fc26 : OArr Z h25 b0_134 .int (v0_18 p0 p1 p2 p3) (List.map Value.int (own_t3 (v0_18 p0 p1 p2 p3) (0 : Int32) (0 : Int32) (0 : Int32))) (.int (0 : Int32)) := (u7_3.other W25 (Ne.symm ne_b0_128_b0_134))
      refine ORchH.go (g' := (mkF m 149 (la0_30 p0 p1 p2 p3 b0_128 b0_134) [])) st25 ?_
      refine ORchH.go (T' := T25) (g' := (mkF m 160 (la0_30 p0 p1 p2 p3 b0_128 b0_134) [(.int (v0_38 p0 p1 p2 p3)), (.int (1 : Int32)), (.ref b0_128)])) (fun t k => ?_) ?_
      · show Steps p.tables e below (T25.setTop (mkF m 149 (la0_30 p0 p1 p2 p3 b0_128 b0_134) [])) t
        refine XS.iload X25.here hx rfl (hb hby at_149) rfl ?_
        show Steps p.tables e below (T25.setTop (mkF m 151 (la0_30 p0 p1 p2 p3 b0_128 b0_134) [(.int (2 : Int32))])) t
        refine XS.iconst X25.here hx rfl (hb hby at_151) ?_
        show Steps p.tables e below (T25.setTop (mkF m 152 (la0_30 p0 p1 p2 p3 b0_128 b0_134) [(.int (1 : Int32)), (.int (2 : Int32))])) t
        refine XS.icmpNo X25.here hx rfl (hb hby at_152) rfl (tlt ((by decide))).2.2.2 ?_
        show Steps p.tables e below (T25.setTop (mkF m 155 (la0_30 p0 p1 p2 p3 b0_128 b0_134) [])) t
        refine XS.aload X25.here hx rfl (hb hby at_155) rfl rfl ?_
        show Steps p.tables e below (T25.setTop (mkF m 157 (la0_30 p0 p1 p2 p3 b0_128 b0_134) [(.ref b0_128)])) t
        refine XS.iconst X25.here hx rfl (hb hby at_157) ?_
        show Steps p.tables e below (T25.setTop (mkF m 158 (la0_30 p0 p1 p2 p3 b0_128 b0_134) [(.int (1 : Int32)), (.ref b0_128)])) t
        refine XS.iload X25.here hx rfl (hb hby at_158) rfl ?_
        show Steps p.tables e below (T25.setTop (mkF m 160 (la0_30 p0 p1 p2 p3 b0_128 b0_134) [(.int (v0_38 p0 p1 p2 p3)), (.int (1 : Int32)), (.ref b0_128)])) t
        exact k
      obtain ⟨kc27, cl27, Ar27, q27, S27, M27, H27, G27⟩ := id V25
      have hin27 : ¬ ((1 : Int32) < 0 ∨ cl27.slots.size ≤ ((1 : Int32)).toNatClampNeg) := inb_of S27 ⟨by decide, by decide⟩
      obtain ⟨T27, h27, X27, e27, W27, st27⟩ := stI X25 hx hZ e25 Ar27 (j := (1 : Int32)) hin27 (g := (mkF m 160 (la0_30 p0 p1 p2 p3 b0_128 b0_134) [(.int (v0_38 p0 p1 p2 p3)), (.int (1 : Int32)), (.ref b0_128)])) rfl rfl (hb hby at_160)
      have N27 := Fr.snoc X27 N25 gle_b0_128
      have Z27 : n0 ≤ h27.size := Nat.le_trans Z25 (Keep.of_wr W27).1
      have K27 : Keep h7 h27 [b0_128] := K25.wr W27 (Or.inl (List.mem_of_getElem? (i := 0) rfl))
      have V27 : OArr Z h27 b0_128 .int (2 : Int32) [(.int (v0_27 p0 p1 p2 p3)), (.int (v0_38 p0 p1 p2 p3))] (.int (0 : Int32)) := ⟨_, Arv.set Ar27 q27 S27 M27 H27 G27 rfl W27 1 rfl (Nat.le_of_ble_eq_true rfl)⟩
      have fc28 : OArr Z h27 b0_134 .int (v0_18 p0 p1 p2 p3) (List.map Value.int (own_t3 (v0_18 p0 p1 p2 p3) (0 : Int32) (0 : Int32) (0 : Int32))) (.int (0 : Int32)) := (fc26.other W27 (Ne.symm ne_b0_128_b0_134))
      refine ORchH.go (g' := (mkF m 161 (la0_30 p0 p1 p2 p3 b0_128 b0_134) [])) st27 ?_
      refine ORchH.go (T' := T27) (g' := (mkF m 173 (la0_30 p0 p1 p2 p3 b0_128 b0_134) [])) (fun t k => ?_) ?_
      · show Steps p.tables e below (T27.setTop (mkF m 161 (la0_30 p0 p1 p2 p3 b0_128 b0_134) [])) t
        refine XS.iload X27.here hx rfl (hb hby at_161) rfl ?_
        show Steps p.tables e below (T27.setTop (mkF m 163 (la0_30 p0 p1 p2 p3 b0_128 b0_134) [(.int (2 : Int32))])) t
        refine XS.iconst X27.here hx rfl (hb hby at_163) ?_
        show Steps p.tables e below (T27.setTop (mkF m 164 (la0_30 p0 p1 p2 p3 b0_128 b0_134) [(.int (2 : Int32)), (.int (2 : Int32))])) t
        refine XS.icmpYes X27.here hx rfl (pc0 := 164) (pc' := 173) rfl (hb hby at_164) rfl (flt ((by decide))).2.2.2 (by decide) (by decide) ?_
        show Steps p.tables e below (T27.setTop (mkF m 173 (la0_30 p0 p1 p2 p3 b0_128 b0_134) [])) t
        exact k
      exact ⟨_, _, _, X27, e27, N27, ⟨(own_at rfl (P := fun h => Keep h7 h [b0_128]) K27), (by rw [hs19]; exact V27)⟩, fun t k => (own_k (f := fun (z : Int32) => mkF m 173 #[.val (.int p0), .val (.int p1), .val (.int p2), .val (.int p3), .val (.int (v0_6 p0 p1 p2 p3)), .val (.int z), .val (.int (v0_18 p0 p1 p2 p3)), .val (.int (v0_27 p0 p1 p2 p3)), .val (.int (v0_38 p0 p1 p2 p3)), .val (.int (v0_50 p0 p1 p2 p3)), .val (.int (v0_61 p0 p1 p2 p3)), .val (.int (v0_73 p0 p1 p2 p3)), .val (.int (v0_85 p0 p1 p2 p3)), .val (.int (v0_98 p0 p1 p2 p3)), .val (.int (v0_111 p0 p1 p2 p3)), .val (.int (v0_124 p0 p1 p2 p3)), .val (.ref b0_128), .val (.ref b0_134), .unset, .unset, .unset, .unset, .unset, .unset, .unset, .unset] []) hs19 k)⟩
    · skip
      refine ORchH.go (T' := T7) (g' := (mkF m 138 (la0_31 p0 p1 p2 p3 b0_128 b0_134) [])) (fun t k => (own_k (f := fun (z : Int32) => mkF m 138 #[.val (.int p0), .val (.int p1), .val (.int p2), .val (.int p3), .val (.int (v0_6 p0 p1 p2 p3)), .val (.int z), .val (.int (v0_18 p0 p1 p2 p3)), .val (.int (v0_27 p0 p1 p2 p3)), .val (.int (v0_38 p0 p1 p2 p3)), .val (.int (v0_50 p0 p1 p2 p3)), .val (.int (v0_61 p0 p1 p2 p3)), .val (.int (v0_73 p0 p1 p2 p3)), .val (.int (v0_85 p0 p1 p2 p3)), .val (.int (v0_98 p0 p1 p2 p3)), .val (.int (v0_111 p0 p1 p2 p3)), .val (.int (v0_124 p0 p1 p2 p3)), .val (.ref b0_128), .val (.ref b0_134), .unset, .unset, .unset, .unset, .unset, .unset, .unset, .unset] []) hs19.symm k)) ?_
      have fc29 : OArr Z h7 b0_128 .int (3 : Int32) [(.int (0 : Int32)), (.int (0 : Int32)), (.int (0 : Int32))] (.int (0 : Int32)) := by
        have q := fc17
        rw [hs19] at q
        exact q
      refine ORchH.go (T' := T7) (g' := (mkF m 148 (la0_31 p0 p1 p2 p3 b0_128 b0_134) [(.int (v0_27 p0 p1 p2 p3)), (.int (0 : Int32)), (.ref b0_128)])) (fun t k => ?_) ?_
      · show Steps p.tables e below (T7.setTop (mkF m 138 (la0_31 p0 p1 p2 p3 b0_128 b0_134) [])) t
        refine XS.iload X7.here hx rfl (hb hby at_138) rfl ?_
        show Steps p.tables e below (T7.setTop (mkF m 140 (la0_31 p0 p1 p2 p3 b0_128 b0_134) [(.int (3 : Int32))])) t
        refine XS.ifNo X7.here hx rfl (hb hby at_140) rfl ((if0 _ _).trans (tlt ((by decide))).2.2.2) ?_
        show Steps p.tables e below (T7.setTop (mkF m 143 (la0_31 p0 p1 p2 p3 b0_128 b0_134) [])) t
        refine XS.aload X7.here hx rfl (hb hby at_143) rfl rfl ?_
        show Steps p.tables e below (T7.setTop (mkF m 145 (la0_31 p0 p1 p2 p3 b0_128 b0_134) [(.ref b0_128)])) t
        refine XS.iconst X7.here hx rfl (hb hby at_145) ?_
        show Steps p.tables e below (T7.setTop (mkF m 146 (la0_31 p0 p1 p2 p3 b0_128 b0_134) [(.int (0 : Int32)), (.ref b0_128)])) t
        refine XS.iload X7.here hx rfl (hb hby at_146) rfl ?_
        show Steps p.tables e below (T7.setTop (mkF m 148 (la0_31 p0 p1 p2 p3 b0_128 b0_134) [(.int (v0_27 p0 p1 p2 p3)), (.int (0 : Int32)), (.ref b0_128)])) t
        exact k
      obtain ⟨kc30, cl30, Ar30, q30, S30, M30, H30, G30⟩ := id fc29
      have hin30 : ¬ ((0 : Int32) < 0 ∨ cl30.slots.size ≤ ((0 : Int32)).toNatClampNeg) := inb_of S30 ⟨by decide, by decide⟩
      obtain ⟨T30, h30, X30, e30, W30, st30⟩ := stI X7 hx hZ e7 Ar30 (j := (0 : Int32)) hin30 (g := (mkF m 148 (la0_31 p0 p1 p2 p3 b0_128 b0_134) [(.int (v0_27 p0 p1 p2 p3)), (.int (0 : Int32)), (.ref b0_128)])) rfl rfl (hb hby at_148)
      have N30 := Fr.snoc X30 N7 gle_b0_128
      have Z30 : n0 ≤ h30.size := Nat.le_trans Z7 (Keep.of_wr W30).1
      have K30 : Keep h7 h30 [b0_128] := KR18.wr W30 (Or.inl (List.mem_of_getElem? (i := 0) rfl))
      have V30 : OArr Z h30 b0_128 .int (3 : Int32) [(.int (v0_27 p0 p1 p2 p3)), (.int (0 : Int32)), (.int (0 : Int32))] (.int (0 : Int32)) := ⟨_, Arv.set Ar30 q30 S30 M30 H30 G30 rfl W30 0 rfl (Nat.le_of_ble_eq_true rfl)⟩
      have fc31 : OArr Z h30 b0_134 .int (v0_18 p0 p1 p2 p3) (List.map Value.int (own_t3 (v0_18 p0 p1 p2 p3) (0 : Int32) (0 : Int32) (0 : Int32))) (.int (0 : Int32)) := (u7_3.other W30 (Ne.symm ne_b0_128_b0_134))
      refine ORchH.go (g' := (mkF m 149 (la0_31 p0 p1 p2 p3 b0_128 b0_134) [])) st30 ?_
      refine ORchH.go (T' := T30) (g' := (mkF m 160 (la0_31 p0 p1 p2 p3 b0_128 b0_134) [(.int (v0_38 p0 p1 p2 p3)), (.int (1 : Int32)), (.ref b0_128)])) (fun t k => ?_) ?_
      · show Steps p.tables e below (T30.setTop (mkF m 149 (la0_31 p0 p1 p2 p3 b0_128 b0_134) [])) t
        refine XS.iload X30.here hx rfl (hb hby at_149) rfl ?_
        show Steps p.tables e below (T30.setTop (mkF m 151 (la0_31 p0 p1 p2 p3 b0_128 b0_134) [(.int (3 : Int32))])) t
        refine XS.iconst X30.here hx rfl (hb hby at_151) ?_
        show Steps p.tables e below (T30.setTop (mkF m 152 (la0_31 p0 p1 p2 p3 b0_128 b0_134) [(.int (1 : Int32)), (.int (3 : Int32))])) t
        refine XS.icmpNo X30.here hx rfl (hb hby at_152) rfl (tlt ((by decide))).2.2.2 ?_
        show Steps p.tables e below (T30.setTop (mkF m 155 (la0_31 p0 p1 p2 p3 b0_128 b0_134) [])) t
        refine XS.aload X30.here hx rfl (hb hby at_155) rfl rfl ?_
        show Steps p.tables e below (T30.setTop (mkF m 157 (la0_31 p0 p1 p2 p3 b0_128 b0_134) [(.ref b0_128)])) t
        refine XS.iconst X30.here hx rfl (hb hby at_157) ?_
        show Steps p.tables e below (T30.setTop (mkF m 158 (la0_31 p0 p1 p2 p3 b0_128 b0_134) [(.int (1 : Int32)), (.ref b0_128)])) t
        refine XS.iload X30.here hx rfl (hb hby at_158) rfl ?_
        show Steps p.tables e below (T30.setTop (mkF m 160 (la0_31 p0 p1 p2 p3 b0_128 b0_134) [(.int (v0_38 p0 p1 p2 p3)), (.int (1 : Int32)), (.ref b0_128)])) t
        exact k
      obtain ⟨kc32, cl32, Ar32, q32, S32, M32, H32, G32⟩ := id V30
      have hin32 : ¬ ((1 : Int32) < 0 ∨ cl32.slots.size ≤ ((1 : Int32)).toNatClampNeg) := inb_of S32 ⟨by decide, by decide⟩
      obtain ⟨T32, h32, X32, e32, W32, st32⟩ := stI X30 hx hZ e30 Ar32 (j := (1 : Int32)) hin32 (g := (mkF m 160 (la0_31 p0 p1 p2 p3 b0_128 b0_134) [(.int (v0_38 p0 p1 p2 p3)), (.int (1 : Int32)), (.ref b0_128)])) rfl rfl (hb hby at_160)
      have N32 := Fr.snoc X32 N30 gle_b0_128
      have Z32 : n0 ≤ h32.size := Nat.le_trans Z30 (Keep.of_wr W32).1
      have K32 : Keep h7 h32 [b0_128] := K30.wr W32 (Or.inl (List.mem_of_getElem? (i := 0) rfl))
      have V32 : OArr Z h32 b0_128 .int (3 : Int32) [(.int (v0_27 p0 p1 p2 p3)), (.int (v0_38 p0 p1 p2 p3)), (.int (0 : Int32))] (.int (0 : Int32)) := ⟨_, Arv.set Ar32 q32 S32 M32 H32 G32 rfl W32 1 rfl (Nat.le_of_ble_eq_true rfl)⟩
      have fc33 : OArr Z h32 b0_134 .int (v0_18 p0 p1 p2 p3) (List.map Value.int (own_t3 (v0_18 p0 p1 p2 p3) (0 : Int32) (0 : Int32) (0 : Int32))) (.int (0 : Int32)) := (fc31.other W32 (Ne.symm ne_b0_128_b0_134))
      refine ORchH.go (g' := (mkF m 161 (la0_31 p0 p1 p2 p3 b0_128 b0_134) [])) st32 ?_
      refine ORchH.go (T' := T32) (g' := (mkF m 172 (la0_31 p0 p1 p2 p3 b0_128 b0_134) [(.int (v0_50 p0 p1 p2 p3)), (.int (2 : Int32)), (.ref b0_128)])) (fun t k => ?_) ?_
      · show Steps p.tables e below (T32.setTop (mkF m 161 (la0_31 p0 p1 p2 p3 b0_128 b0_134) [])) t
        refine XS.iload X32.here hx rfl (hb hby at_161) rfl ?_
        show Steps p.tables e below (T32.setTop (mkF m 163 (la0_31 p0 p1 p2 p3 b0_128 b0_134) [(.int (3 : Int32))])) t
        refine XS.iconst X32.here hx rfl (hb hby at_163) ?_
        show Steps p.tables e below (T32.setTop (mkF m 164 (la0_31 p0 p1 p2 p3 b0_128 b0_134) [(.int (2 : Int32)), (.int (3 : Int32))])) t
        refine XS.icmpNo X32.here hx rfl (hb hby at_164) rfl (tlt ((by decide))).2.2.2 ?_
        show Steps p.tables e below (T32.setTop (mkF m 167 (la0_31 p0 p1 p2 p3 b0_128 b0_134) [])) t
        refine XS.aload X32.here hx rfl (hb hby at_167) rfl rfl ?_
        show Steps p.tables e below (T32.setTop (mkF m 169 (la0_31 p0 p1 p2 p3 b0_128 b0_134) [(.ref b0_128)])) t
        refine XS.iconst X32.here hx rfl (hb hby at_169) ?_
        show Steps p.tables e below (T32.setTop (mkF m 170 (la0_31 p0 p1 p2 p3 b0_128 b0_134) [(.int (2 : Int32)), (.ref b0_128)])) t
        refine XS.iload X32.here hx rfl (hb hby at_170) rfl ?_
        show Steps p.tables e below (T32.setTop (mkF m 172 (la0_31 p0 p1 p2 p3 b0_128 b0_134) [(.int (v0_50 p0 p1 p2 p3)), (.int (2 : Int32)), (.ref b0_128)])) t
        exact k
      obtain ⟨kc34, cl34, Ar34, q34, S34, M34, H34, G34⟩ := id V32
      have hin34 : ¬ ((2 : Int32) < 0 ∨ cl34.slots.size ≤ ((2 : Int32)).toNatClampNeg) := inb_of S34 ⟨by decide, by decide⟩
      obtain ⟨T34, h34, X34, e34, W34, st34⟩ := stI X32 hx hZ e32 Ar34 (j := (2 : Int32)) hin34 (g := (mkF m 172 (la0_31 p0 p1 p2 p3 b0_128 b0_134) [(.int (v0_50 p0 p1 p2 p3)), (.int (2 : Int32)), (.ref b0_128)])) rfl rfl (hb hby at_172)
      have N34 := Fr.snoc X34 N32 gle_b0_128
      have Z34 : n0 ≤ h34.size := Nat.le_trans Z32 (Keep.of_wr W34).1
      have K34 : Keep h7 h34 [b0_128] := K32.wr W34 (Or.inl (List.mem_of_getElem? (i := 0) rfl))
      have V34 : OArr Z h34 b0_128 .int (3 : Int32) [(.int (v0_27 p0 p1 p2 p3)), (.int (v0_38 p0 p1 p2 p3)), (.int (v0_50 p0 p1 p2 p3))] (.int (0 : Int32)) := ⟨_, Arv.set Ar34 q34 S34 M34 H34 G34 rfl W34 2 rfl (Nat.le_of_ble_eq_true rfl)⟩
      have fc35 : OArr Z h34 b0_134 .int (v0_18 p0 p1 p2 p3) (List.map Value.int (own_t3 (v0_18 p0 p1 p2 p3) (0 : Int32) (0 : Int32) (0 : Int32))) (.int (0 : Int32)) := (fc33.other W34 (Ne.symm ne_b0_128_b0_134))
      refine ORchH.go (g' := (mkF m 173 (la0_31 p0 p1 p2 p3 b0_128 b0_134) [])) st34 ?_
      exact ⟨_, _, _, X34, e34, N34, ⟨(own_at rfl (P := fun h => Keep h7 h [b0_128]) K34), (by rw [hs19]; exact V34)⟩, fun t k => (own_k (f := fun (z : Int32) => mkF m 173 #[.val (.int p0), .val (.int p1), .val (.int p2), .val (.int p3), .val (.int (v0_6 p0 p1 p2 p3)), .val (.int z), .val (.int (v0_18 p0 p1 p2 p3)), .val (.int (v0_27 p0 p1 p2 p3)), .val (.int (v0_38 p0 p1 p2 p3)), .val (.int (v0_50 p0 p1 p2 p3)), .val (.int (v0_61 p0 p1 p2 p3)), .val (.int (v0_73 p0 p1 p2 p3)), .val (.int (v0_85 p0 p1 p2 p3)), .val (.int (v0_98 p0 p1 p2 p3)), .val (.int (v0_111 p0 p1 p2 p3)), .val (.int (v0_124 p0 p1 p2 p3)), .val (.ref b0_128), .val (.ref b0_134), .unset, .unset, .unset, .unset, .unset, .unset, .unset, .unset] []) hs19 k)⟩
  have Z18 : n0 ≤ h18.size := Nat.le_trans Z7 u18_0.1
  have fc36 : OArr Z h18 b0_134 .int (v0_18 p0 p1 p2 p3) (List.map Value.int (own_t3 (v0_18 p0 p1 p2 p3) (0 : Int32) (0 : Int32) (0 : Int32))) (.int (0 : Int32)) := (u7_3.keep u18_0 (ninS (Ne.symm ne_b0_128_b0_134) nin0))
  refine OEnd.go (g' := (mkF m 173 (la0_32 p0 p1 p2 p3 b0_128 b0_134) [])) st18 ?_
  obtain ⟨T37, h37, L37, X37, e37, N37, ⟨u37_0, u37_1⟩, st37⟩ : ORchH p l e room_1 s m #[(.int p0), (.int p1), (.int p2), (.int p3)] below meth c n0 T18 (mkF m 173 (la0_32 p0 p1 p2 p3 b0_128 b0_134) []) (mkF m 208 (la0_32 p0 p1 p2 p3 b0_128 b0_134) []) 2 6 (fun h => Keep h18 h [b0_134] ∧ OArr Z h b0_134 .int (v0_18 p0 p1 p2 p3) (List.map Value.int (own_t3 (v0_18 p0 p1 p2 p3) (v0_98 p0 p1 p2 p3) (v0_111 p0 p1 p2 p3) (v0_124 p0 p1 p2 p3))) (.int (0 : Int32))) := by
    have KR37 : Keep h18 h18 [b0_134] := Keep.refl _ _
    rcases (own_mm p0 p1 p2 p3) with hs38 | hs38 | hs38 | hs38
    · skip
      refine ORchH.go (T' := T18) (g' := (mkF m 173 (la0_22 p0 p1 p2 p3 b0_128 b0_134) [])) (fun t k => (own_k (f := fun (z : Int32) => mkF m 173 #[.val (.int p0), .val (.int p1), .val (.int p2), .val (.int p3), .val (.int (v0_6 p0 p1 p2 p3)), .val (.int (p1 &&& (3 : Int32))), .val (.int z), .val (.int (v0_27 p0 p1 p2 p3)), .val (.int (v0_38 p0 p1 p2 p3)), .val (.int (v0_50 p0 p1 p2 p3)), .val (.int (v0_61 p0 p1 p2 p3)), .val (.int (v0_73 p0 p1 p2 p3)), .val (.int (v0_85 p0 p1 p2 p3)), .val (.int (v0_98 p0 p1 p2 p3)), .val (.int (v0_111 p0 p1 p2 p3)), .val (.int (v0_124 p0 p1 p2 p3)), .val (.ref b0_128), .val (.ref b0_134), .unset, .unset, .unset, .unset, .unset, .unset, .unset, .unset] []) hs38.symm k)) ?_
      have fc39 : OArr Z h18 b0_134 .int (0 : Int32) [] (.int (0 : Int32)) := by
        have q := fc36
        rw [hs38] at q
        exact q
      refine ORchH.go (T' := T18) (g' := (mkF m 208 (la0_22 p0 p1 p2 p3 b0_128 b0_134) [])) (fun t k => ?_) ?_
      · show Steps p.tables e below (T18.setTop (mkF m 173 (la0_22 p0 p1 p2 p3 b0_128 b0_134) [])) t
        refine XS.iload X18.here hx rfl (hb hby at_173) rfl ?_
        show Steps p.tables e below (T18.setTop (mkF m 175 (la0_22 p0 p1 p2 p3 b0_128 b0_134) [(.int (0 : Int32))])) t
        refine XS.ifYes X18.here hx rfl (pc0 := 175) (pc' := 184) rfl (hb hby at_175) rfl ((if0 _ _).trans (flt ((by decide))).2.2.2) (by decide) (by decide) ?_
        show Steps p.tables e below (T18.setTop (mkF m 184 (la0_22 p0 p1 p2 p3 b0_128 b0_134) [])) t
        refine XS.iload X18.here hx rfl (hb hby at_184) rfl ?_
        show Steps p.tables e below (T18.setTop (mkF m 186 (la0_22 p0 p1 p2 p3 b0_128 b0_134) [(.int (0 : Int32))])) t
        refine XS.iconst X18.here hx rfl (hb hby at_186) ?_
        show Steps p.tables e below (T18.setTop (mkF m 187 (la0_22 p0 p1 p2 p3 b0_128 b0_134) [(.int (1 : Int32)), (.int (0 : Int32))])) t
        refine XS.icmpYes X18.here hx rfl (pc0 := 187) (pc' := 196) rfl (hb hby at_187) rfl (flt ((by decide))).2.2.2 (by decide) (by decide) ?_
        show Steps p.tables e below (T18.setTop (mkF m 196 (la0_22 p0 p1 p2 p3 b0_128 b0_134) [])) t
        refine XS.iload X18.here hx rfl (hb hby at_196) rfl ?_
        show Steps p.tables e below (T18.setTop (mkF m 198 (la0_22 p0 p1 p2 p3 b0_128 b0_134) [(.int (0 : Int32))])) t
        refine XS.iconst X18.here hx rfl (hb hby at_198) ?_
        show Steps p.tables e below (T18.setTop (mkF m 199 (la0_22 p0 p1 p2 p3 b0_128 b0_134) [(.int (2 : Int32)), (.int (0 : Int32))])) t
        refine XS.icmpYes X18.here hx rfl (pc0 := 199) (pc' := 208) rfl (hb hby at_199) rfl (flt ((by decide))).2.2.2 (by decide) (by decide) ?_
        show Steps p.tables e below (T18.setTop (mkF m 208 (la0_22 p0 p1 p2 p3 b0_128 b0_134) [])) t
        exact k
      exact ⟨_, _, _, X18, e18, N18, ⟨(own_at rfl (P := fun h => Keep h18 h [b0_134]) KR37), (by rw [hs38]; exact fc39)⟩, fun t k => (own_k (f := fun (z : Int32) => mkF m 208 #[.val (.int p0), .val (.int p1), .val (.int p2), .val (.int p3), .val (.int (v0_6 p0 p1 p2 p3)), .val (.int (p1 &&& (3 : Int32))), .val (.int z), .val (.int (v0_27 p0 p1 p2 p3)), .val (.int (v0_38 p0 p1 p2 p3)), .val (.int (v0_50 p0 p1 p2 p3)), .val (.int (v0_61 p0 p1 p2 p3)), .val (.int (v0_73 p0 p1 p2 p3)), .val (.int (v0_85 p0 p1 p2 p3)), .val (.int (v0_98 p0 p1 p2 p3)), .val (.int (v0_111 p0 p1 p2 p3)), .val (.int (v0_124 p0 p1 p2 p3)), .val (.ref b0_128), .val (.ref b0_134), .unset, .unset, .unset, .unset, .unset, .unset, .unset, .unset] []) hs38 k)⟩
    · skip
      refine ORchH.go (T' := T18) (g' := (mkF m 173 (la0_24 p0 p1 p2 p3 b0_128 b0_134) [])) (fun t k => (own_k (f := fun (z : Int32) => mkF m 173 #[.val (.int p0), .val (.int p1), .val (.int p2), .val (.int p3), .val (.int (v0_6 p0 p1 p2 p3)), .val (.int (p1 &&& (3 : Int32))), .val (.int z), .val (.int (v0_27 p0 p1 p2 p3)), .val (.int (v0_38 p0 p1 p2 p3)), .val (.int (v0_50 p0 p1 p2 p3)), .val (.int (v0_61 p0 p1 p2 p3)), .val (.int (v0_73 p0 p1 p2 p3)), .val (.int (v0_85 p0 p1 p2 p3)), .val (.int (v0_98 p0 p1 p2 p3)), .val (.int (v0_111 p0 p1 p2 p3)), .val (.int (v0_124 p0 p1 p2 p3)), .val (.ref b0_128), .val (.ref b0_134), .unset, .unset, .unset, .unset, .unset, .unset, .unset, .unset] []) hs38.symm k)) ?_
      have fc40 : OArr Z h18 b0_134 .int (1 : Int32) [(.int (0 : Int32))] (.int (0 : Int32)) := by
        have q := fc36
        rw [hs38] at q
        exact q
      refine ORchH.go (T' := T18) (g' := (mkF m 183 (la0_24 p0 p1 p2 p3 b0_128 b0_134) [(.int (v0_98 p0 p1 p2 p3)), (.int (0 : Int32)), (.ref b0_134)])) (fun t k => ?_) ?_
      · show Steps p.tables e below (T18.setTop (mkF m 173 (la0_24 p0 p1 p2 p3 b0_128 b0_134) [])) t
        refine XS.iload X18.here hx rfl (hb hby at_173) rfl ?_
        show Steps p.tables e below (T18.setTop (mkF m 175 (la0_24 p0 p1 p2 p3 b0_128 b0_134) [(.int (1 : Int32))])) t
        refine XS.ifNo X18.here hx rfl (hb hby at_175) rfl ((if0 _ _).trans (tlt ((by decide))).2.2.2) ?_
        show Steps p.tables e below (T18.setTop (mkF m 178 (la0_24 p0 p1 p2 p3 b0_128 b0_134) [])) t
        refine XS.aload X18.here hx rfl (hb hby at_178) rfl rfl ?_
        show Steps p.tables e below (T18.setTop (mkF m 180 (la0_24 p0 p1 p2 p3 b0_128 b0_134) [(.ref b0_134)])) t
        refine XS.iconst X18.here hx rfl (hb hby at_180) ?_
        show Steps p.tables e below (T18.setTop (mkF m 181 (la0_24 p0 p1 p2 p3 b0_128 b0_134) [(.int (0 : Int32)), (.ref b0_134)])) t
        refine XS.iload X18.here hx rfl (hb hby at_181) rfl ?_
        show Steps p.tables e below (T18.setTop (mkF m 183 (la0_24 p0 p1 p2 p3 b0_128 b0_134) [(.int (v0_98 p0 p1 p2 p3)), (.int (0 : Int32)), (.ref b0_134)])) t
        exact k
      obtain ⟨kc41, cl41, Ar41, q41, S41, M41, H41, G41⟩ := id fc40
      have hin41 : ¬ ((0 : Int32) < 0 ∨ cl41.slots.size ≤ ((0 : Int32)).toNatClampNeg) := inb_of S41 ⟨by decide, by decide⟩
      obtain ⟨T41, h41, X41, e41, W41, st41⟩ := stI X18 hx hZ e18 Ar41 (j := (0 : Int32)) hin41 (g := (mkF m 183 (la0_24 p0 p1 p2 p3 b0_128 b0_134) [(.int (v0_98 p0 p1 p2 p3)), (.int (0 : Int32)), (.ref b0_134)])) rfl rfl (hb hby at_183)
      have N41 := Fr.snoc X41 N18 gle_b0_134
      have Z41 : n0 ≤ h41.size := Nat.le_trans Z18 (Keep.of_wr W41).1
      have K41 : Keep h18 h41 [b0_134] := KR37.wr W41 (Or.inl (List.mem_of_getElem? (i := 0) rfl))
      have V41 : OArr Z h41 b0_134 .int (1 : Int32) [(.int (v0_98 p0 p1 p2 p3))] (.int (0 : Int32)) := ⟨_, Arv.set Ar41 q41 S41 M41 H41 G41 rfl W41 0 rfl (Nat.le_of_ble_eq_true rfl)⟩
      have fc42 : OArr Z h41 b0_128 .int (p1 &&& (3 : Int32)) (List.map Value.int (own_t3 (p1 &&& (3 : Int32)) (v0_27 p0 p1 p2 p3) (v0_38 p0 p1 p2 p3) (v0_50 p0 p1 p2 p3))) (.int (0 : Int32)) := (u18_1.other W41 ne_b0_128_b0_134)
      refine ORchH.go (g' := (mkF m 184 (la0_24 p0 p1 p2 p3 b0_128 b0_134) [])) st41 ?_
      refine ORchH.go (T' := T41) (g' := (mkF m 208 (la0_24 p0 p1 p2 p3 b0_128 b0_134) [])) (fun t k => ?_) ?_
      · show Steps p.tables e below (T41.setTop (mkF m 184 (la0_24 p0 p1 p2 p3 b0_128 b0_134) [])) t
        refine XS.iload X41.here hx rfl (hb hby at_184) rfl ?_
        show Steps p.tables e below (T41.setTop (mkF m 186 (la0_24 p0 p1 p2 p3 b0_128 b0_134) [(.int (1 : Int32))])) t
        refine XS.iconst X41.here hx rfl (hb hby at_186) ?_
        show Steps p.tables e below (T41.setTop (mkF m 187 (la0_24 p0 p1 p2 p3 b0_128 b0_134) [(.int (1 : Int32)), (.int (1 : Int32))])) t
        refine XS.icmpYes X41.here hx rfl (pc0 := 187) (pc' := 196) rfl (hb hby at_187) rfl (flt ((by decide))).2.2.2 (by decide) (by decide) ?_
        show Steps p.tables e below (T41.setTop (mkF m 196 (la0_24 p0 p1 p2 p3 b0_128 b0_134) [])) t
        refine XS.iload X41.here hx rfl (hb hby at_196) rfl ?_
        show Steps p.tables e below (T41.setTop (mkF m 198 (la0_24 p0 p1 p2 p3 b0_128 b0_134) [(.int (1 : Int32))])) t
        refine XS.iconst X41.here hx rfl (hb hby at_198) ?_
        show Steps p.tables e below (T41.setTop (mkF m 199 (la0_24 p0 p1 p2 p3 b0_128 b0_134) [(.int (2 : Int32)), (.int (1 : Int32))])) t
        refine XS.icmpYes X41.here hx rfl (pc0 := 199) (pc' := 208) rfl (hb hby at_199) rfl (flt ((by decide))).2.2.2 (by decide) (by decide) ?_
        show Steps p.tables e below (T41.setTop (mkF m 208 (la0_24 p0 p1 p2 p3 b0_128 b0_134) [])) t
        exact k
      exact ⟨_, _, _, X41, e41, N41, ⟨(own_at rfl (P := fun h => Keep h18 h [b0_134]) K41), (by rw [hs38]; exact V41)⟩, fun t k => (own_k (f := fun (z : Int32) => mkF m 208 #[.val (.int p0), .val (.int p1), .val (.int p2), .val (.int p3), .val (.int (v0_6 p0 p1 p2 p3)), .val (.int (p1 &&& (3 : Int32))), .val (.int z), .val (.int (v0_27 p0 p1 p2 p3)), .val (.int (v0_38 p0 p1 p2 p3)), .val (.int (v0_50 p0 p1 p2 p3)), .val (.int (v0_61 p0 p1 p2 p3)), .val (.int (v0_73 p0 p1 p2 p3)), .val (.int (v0_85 p0 p1 p2 p3)), .val (.int (v0_98 p0 p1 p2 p3)), .val (.int (v0_111 p0 p1 p2 p3)), .val (.int (v0_124 p0 p1 p2 p3)), .val (.ref b0_128), .val (.ref b0_134), .unset, .unset, .unset, .unset, .unset, .unset, .unset, .unset] []) hs38 k)⟩
    · skip
      refine ORchH.go (T' := T18) (g' := (mkF m 173 (la0_26 p0 p1 p2 p3 b0_128 b0_134) [])) (fun t k => (own_k (f := fun (z : Int32) => mkF m 173 #[.val (.int p0), .val (.int p1), .val (.int p2), .val (.int p3), .val (.int (v0_6 p0 p1 p2 p3)), .val (.int (p1 &&& (3 : Int32))), .val (.int z), .val (.int (v0_27 p0 p1 p2 p3)), .val (.int (v0_38 p0 p1 p2 p3)), .val (.int (v0_50 p0 p1 p2 p3)), .val (.int (v0_61 p0 p1 p2 p3)), .val (.int (v0_73 p0 p1 p2 p3)), .val (.int (v0_85 p0 p1 p2 p3)), .val (.int (v0_98 p0 p1 p2 p3)), .val (.int (v0_111 p0 p1 p2 p3)), .val (.int (v0_124 p0 p1 p2 p3)), .val (.ref b0_128), .val (.ref b0_134), .unset, .unset, .unset, .unset, .unset, .unset, .unset, .unset] []) hs38.symm k)) ?_
      have fc43 : OArr Z h18 b0_134 .int (2 : Int32) [(.int (0 : Int32)), (.int (0 : Int32))] (.int (0 : Int32)) := by
        have q := fc36
        rw [hs38] at q
        exact q
      refine ORchH.go (T' := T18) (g' := (mkF m 183 (la0_26 p0 p1 p2 p3 b0_128 b0_134) [(.int (v0_98 p0 p1 p2 p3)), (.int (0 : Int32)), (.ref b0_134)])) (fun t k => ?_) ?_
      · show Steps p.tables e below (T18.setTop (mkF m 173 (la0_26 p0 p1 p2 p3 b0_128 b0_134) [])) t
        refine XS.iload X18.here hx rfl (hb hby at_173) rfl ?_
        show Steps p.tables e below (T18.setTop (mkF m 175 (la0_26 p0 p1 p2 p3 b0_128 b0_134) [(.int (2 : Int32))])) t
        refine XS.ifNo X18.here hx rfl (hb hby at_175) rfl ((if0 _ _).trans (tlt ((by decide))).2.2.2) ?_
        show Steps p.tables e below (T18.setTop (mkF m 178 (la0_26 p0 p1 p2 p3 b0_128 b0_134) [])) t
        refine XS.aload X18.here hx rfl (hb hby at_178) rfl rfl ?_
        show Steps p.tables e below (T18.setTop (mkF m 180 (la0_26 p0 p1 p2 p3 b0_128 b0_134) [(.ref b0_134)])) t
        refine XS.iconst X18.here hx rfl (hb hby at_180) ?_
        show Steps p.tables e below (T18.setTop (mkF m 181 (la0_26 p0 p1 p2 p3 b0_128 b0_134) [(.int (0 : Int32)), (.ref b0_134)])) t
        refine XS.iload X18.here hx rfl (hb hby at_181) rfl ?_
        show Steps p.tables e below (T18.setTop (mkF m 183 (la0_26 p0 p1 p2 p3 b0_128 b0_134) [(.int (v0_98 p0 p1 p2 p3)), (.int (0 : Int32)), (.ref b0_134)])) t
        exact k
      obtain ⟨kc44, cl44, Ar44, q44, S44, M44, H44, G44⟩ := id fc43
      have hin44 : ¬ ((0 : Int32) < 0 ∨ cl44.slots.size ≤ ((0 : Int32)).toNatClampNeg) := inb_of S44 ⟨by decide, by decide⟩
      obtain ⟨T44, h44, X44, e44, W44, st44⟩ := stI X18 hx hZ e18 Ar44 (j := (0 : Int32)) hin44 (g := (mkF m 183 (la0_26 p0 p1 p2 p3 b0_128 b0_134) [(.int (v0_98 p0 p1 p2 p3)), (.int (0 : Int32)), (.ref b0_134)])) rfl rfl (hb hby at_183)
      have N44 := Fr.snoc X44 N18 gle_b0_134
      have Z44 : n0 ≤ h44.size := Nat.le_trans Z18 (Keep.of_wr W44).1
      have K44 : Keep h18 h44 [b0_134] := KR37.wr W44 (Or.inl (List.mem_of_getElem? (i := 0) rfl))
      have V44 : OArr Z h44 b0_134 .int (2 : Int32) [(.int (v0_98 p0 p1 p2 p3)), (.int (0 : Int32))] (.int (0 : Int32)) := ⟨_, Arv.set Ar44 q44 S44 M44 H44 G44 rfl W44 0 rfl (Nat.le_of_ble_eq_true rfl)⟩
      have fc45 : OArr Z h44 b0_128 .int (p1 &&& (3 : Int32)) (List.map Value.int (own_t3 (p1 &&& (3 : Int32)) (v0_27 p0 p1 p2 p3) (v0_38 p0 p1 p2 p3) (v0_50 p0 p1 p2 p3))) (.int (0 : Int32)) := (u18_1.other W44 ne_b0_128_b0_134)
      refine ORchH.go (g' := (mkF m 184 (la0_26 p0 p1 p2 p3 b0_128 b0_134) [])) st44 ?_
      refine ORchH.go (T' := T44) (g' := (mkF m 195 (la0_26 p0 p1 p2 p3 b0_128 b0_134) [(.int (v0_111 p0 p1 p2 p3)), (.int (1 : Int32)), (.ref b0_134)])) (fun t k => ?_) ?_
      · show Steps p.tables e below (T44.setTop (mkF m 184 (la0_26 p0 p1 p2 p3 b0_128 b0_134) [])) t
        refine XS.iload X44.here hx rfl (hb hby at_184) rfl ?_
        show Steps p.tables e below (T44.setTop (mkF m 186 (la0_26 p0 p1 p2 p3 b0_128 b0_134) [(.int (2 : Int32))])) t
        refine XS.iconst X44.here hx rfl (hb hby at_186) ?_
        show Steps p.tables e below (T44.setTop (mkF m 187 (la0_26 p0 p1 p2 p3 b0_128 b0_134) [(.int (1 : Int32)), (.int (2 : Int32))])) t
        refine XS.icmpNo X44.here hx rfl (hb hby at_187) rfl (tlt ((by decide))).2.2.2 ?_
        show Steps p.tables e below (T44.setTop (mkF m 190 (la0_26 p0 p1 p2 p3 b0_128 b0_134) [])) t
        refine XS.aload X44.here hx rfl (hb hby at_190) rfl rfl ?_
        show Steps p.tables e below (T44.setTop (mkF m 192 (la0_26 p0 p1 p2 p3 b0_128 b0_134) [(.ref b0_134)])) t
        refine XS.iconst X44.here hx rfl (hb hby at_192) ?_
        show Steps p.tables e below (T44.setTop (mkF m 193 (la0_26 p0 p1 p2 p3 b0_128 b0_134) [(.int (1 : Int32)), (.ref b0_134)])) t
        refine XS.iload X44.here hx rfl (hb hby at_193) rfl ?_
        show Steps p.tables e below (T44.setTop (mkF m 195 (la0_26 p0 p1 p2 p3 b0_128 b0_134) [(.int (v0_111 p0 p1 p2 p3)), (.int (1 : Int32)), (.ref b0_134)])) t
        exact k
      obtain ⟨kc46, cl46, Ar46, q46, S46, M46, H46, G46⟩ := id V44
      have hin46 : ¬ ((1 : Int32) < 0 ∨ cl46.slots.size ≤ ((1 : Int32)).toNatClampNeg) := inb_of S46 ⟨by decide, by decide⟩
      obtain ⟨T46, h46, X46, e46, W46, st46⟩ := stI X44 hx hZ e44 Ar46 (j := (1 : Int32)) hin46 (g := (mkF m 195 (la0_26 p0 p1 p2 p3 b0_128 b0_134) [(.int (v0_111 p0 p1 p2 p3)), (.int (1 : Int32)), (.ref b0_134)])) rfl rfl (hb hby at_195)
      have N46 := Fr.snoc X46 N44 gle_b0_134
      have Z46 : n0 ≤ h46.size := Nat.le_trans Z44 (Keep.of_wr W46).1
      have K46 : Keep h18 h46 [b0_134] := K44.wr W46 (Or.inl (List.mem_of_getElem? (i := 0) rfl))
      have V46 : OArr Z h46 b0_134 .int (2 : Int32) [(.int (v0_98 p0 p1 p2 p3)), (.int (v0_111 p0 p1 p2 p3))] (.int (0 : Int32)) := ⟨_, Arv.set Ar46 q46 S46 M46 H46 G46 rfl W46 1 rfl (Nat.le_of_ble_eq_true rfl)⟩
      have fc47 : OArr Z h46 b0_128 .int (p1 &&& (3 : Int32)) (List.map Value.int (own_t3 (p1 &&& (3 : Int32)) (v0_27 p0 p1 p2 p3) (v0_38 p0 p1 p2 p3) (v0_50 p0 p1 p2 p3))) (.int (0 : Int32)) := (fc45.other W46 ne_b0_128_b0_134)
      refine ORchH.go (g' := (mkF m 196 (la0_26 p0 p1 p2 p3 b0_128 b0_134) [])) st46 ?_
      refine ORchH.go (T' := T46) (g' := (mkF m 208 (la0_26 p0 p1 p2 p3 b0_128 b0_134) [])) (fun t k => ?_) ?_
      · show Steps p.tables e below (T46.setTop (mkF m 196 (la0_26 p0 p1 p2 p3 b0_128 b0_134) [])) t
        refine XS.iload X46.here hx rfl (hb hby at_196) rfl ?_
        show Steps p.tables e below (T46.setTop (mkF m 198 (la0_26 p0 p1 p2 p3 b0_128 b0_134) [(.int (2 : Int32))])) t
        refine XS.iconst X46.here hx rfl (hb hby at_198) ?_
        show Steps p.tables e below (T46.setTop (mkF m 199 (la0_26 p0 p1 p2 p3 b0_128 b0_134) [(.int (2 : Int32)), (.int (2 : Int32))])) t
        refine XS.icmpYes X46.here hx rfl (pc0 := 199) (pc' := 208) rfl (hb hby at_199) rfl (flt ((by decide))).2.2.2 (by decide) (by decide) ?_
        show Steps p.tables e below (T46.setTop (mkF m 208 (la0_26 p0 p1 p2 p3 b0_128 b0_134) [])) t
        exact k
      exact ⟨_, _, _, X46, e46, N46, ⟨(own_at rfl (P := fun h => Keep h18 h [b0_134]) K46), (by rw [hs38]; exact V46)⟩, fun t k => (own_k (f := fun (z : Int32) => mkF m 208 #[.val (.int p0), .val (.int p1), .val (.int p2), .val (.int p3), .val (.int (v0_6 p0 p1 p2 p3)), .val (.int (p1 &&& (3 : Int32))), .val (.int z), .val (.int (v0_27 p0 p1 p2 p3)), .val (.int (v0_38 p0 p1 p2 p3)), .val (.int (v0_50 p0 p1 p2 p3)), .val (.int (v0_61 p0 p1 p2 p3)), .val (.int (v0_73 p0 p1 p2 p3)), .val (.int (v0_85 p0 p1 p2 p3)), .val (.int (v0_98 p0 p1 p2 p3)), .val (.int (v0_111 p0 p1 p2 p3)), .val (.int (v0_124 p0 p1 p2 p3)), .val (.ref b0_128), .val (.ref b0_134), .unset, .unset, .unset, .unset, .unset, .unset, .unset, .unset] []) hs38 k)⟩
    · skip
      refine ORchH.go (T' := T18) (g' := (mkF m 173 (la0_28 p0 p1 p2 p3 b0_128 b0_134) [])) (fun t k => (own_k (f := fun (z : Int32) => mkF m 173 #[.val (.int p0), .val (.int p1), .val (.int p2), .val (.int p3), .val (.int (v0_6 p0 p1 p2 p3)), .val (.int (p1 &&& (3 : Int32))), .val (.int z), .val (.int (v0_27 p0 p1 p2 p3)), .val (.int (v0_38 p0 p1 p2 p3)), .val (.int (v0_50 p0 p1 p2 p3)), .val (.int (v0_61 p0 p1 p2 p3)), .val (.int (v0_73 p0 p1 p2 p3)), .val (.int (v0_85 p0 p1 p2 p3)), .val (.int (v0_98 p0 p1 p2 p3)), .val (.int (v0_111 p0 p1 p2 p3)), .val (.int (v0_124 p0 p1 p2 p3)), .val (.ref b0_128), .val (.ref b0_134), .unset, .unset, .unset, .unset, .unset, .unset, .unset, .unset] []) hs38.symm k)) ?_
      have fc48 : OArr Z h18 b0_134 .int (3 : Int32) [(.int (0 : Int32)), (.int (0 : Int32)), (.int (0 : Int32))] (.int (0 : Int32)) := by
        have q := fc36
        rw [hs38] at q
        exact q
      refine ORchH.go (T' := T18) (g' := (mkF m 183 (la0_28 p0 p1 p2 p3 b0_128 b0_134) [(.int (v0_98 p0 p1 p2 p3)), (.int (0 : Int32)), (.ref b0_134)])) (fun t k => ?_) ?_
      · show Steps p.tables e below (T18.setTop (mkF m 173 (la0_28 p0 p1 p2 p3 b0_128 b0_134) [])) t
        refine XS.iload X18.here hx rfl (hb hby at_173) rfl ?_
        show Steps p.tables e below (T18.setTop (mkF m 175 (la0_28 p0 p1 p2 p3 b0_128 b0_134) [(.int (3 : Int32))])) t
        refine XS.ifNo X18.here hx rfl (hb hby at_175) rfl ((if0 _ _).trans (tlt ((by decide))).2.2.2) ?_
        show Steps p.tables e below (T18.setTop (mkF m 178 (la0_28 p0 p1 p2 p3 b0_128 b0_134) [])) t
        refine XS.aload X18.here hx rfl (hb hby at_178) rfl rfl ?_
        show Steps p.tables e below (T18.setTop (mkF m 180 (la0_28 p0 p1 p2 p3 b0_128 b0_134) [(.ref b0_134)])) t
        refine XS.iconst X18.here hx rfl (hb hby at_180) ?_
        show Steps p.tables e below (T18.setTop (mkF m 181 (la0_28 p0 p1 p2 p3 b0_128 b0_134) [(.int (0 : Int32)), (.ref b0_134)])) t
        refine XS.iload X18.here hx rfl (hb hby at_181) rfl ?_
        show Steps p.tables e below (T18.setTop (mkF m 183 (la0_28 p0 p1 p2 p3 b0_128 b0_134) [(.int (v0_98 p0 p1 p2 p3)), (.int (0 : Int32)), (.ref b0_134)])) t
        exact k
      obtain ⟨kc49, cl49, Ar49, q49, S49, M49, H49, G49⟩ := id fc48
      have hin49 : ¬ ((0 : Int32) < 0 ∨ cl49.slots.size ≤ ((0 : Int32)).toNatClampNeg) := inb_of S49 ⟨by decide, by decide⟩
      obtain ⟨T49, h49, X49, e49, W49, st49⟩ := stI X18 hx hZ e18 Ar49 (j := (0 : Int32)) hin49 (g := (mkF m 183 (la0_28 p0 p1 p2 p3 b0_128 b0_134) [(.int (v0_98 p0 p1 p2 p3)), (.int (0 : Int32)), (.ref b0_134)])) rfl rfl (hb hby at_183)
      have N49 := Fr.snoc X49 N18 gle_b0_134
      have Z49 : n0 ≤ h49.size := Nat.le_trans Z18 (Keep.of_wr W49).1
      have K49 : Keep h18 h49 [b0_134] := KR37.wr W49 (Or.inl (List.mem_of_getElem? (i := 0) rfl))
      have V49 : OArr Z h49 b0_134 .int (3 : Int32) [(.int (v0_98 p0 p1 p2 p3)), (.int (0 : Int32)), (.int (0 : Int32))] (.int (0 : Int32)) := ⟨_, Arv.set Ar49 q49 S49 M49 H49 G49 rfl W49 0 rfl (Nat.le_of_ble_eq_true rfl)⟩
      have fc50 : OArr Z h49 b0_128 .int (p1 &&& (3 : Int32)) (List.map Value.int (own_t3 (p1 &&& (3 : Int32)) (v0_27 p0 p1 p2 p3) (v0_38 p0 p1 p2 p3) (v0_50 p0 p1 p2 p3))) (.int (0 : Int32)) := (u18_1.other W49 ne_b0_128_b0_134)
      refine ORchH.go (g' := (mkF m 184 (la0_28 p0 p1 p2 p3 b0_128 b0_134) [])) st49 ?_
      refine ORchH.go (T' := T49) (g' := (mkF m 195 (la0_28 p0 p1 p2 p3 b0_128 b0_134) [(.int (v0_111 p0 p1 p2 p3)), (.int (1 : Int32)), (.ref b0_134)])) (fun t k => ?_) ?_
      · show Steps p.tables e below (T49.setTop (mkF m 184 (la0_28 p0 p1 p2 p3 b0_128 b0_134) [])) t
        refine XS.iload X49.here hx rfl (hb hby at_184) rfl ?_
        show Steps p.tables e below (T49.setTop (mkF m 186 (la0_28 p0 p1 p2 p3 b0_128 b0_134) [(.int (3 : Int32))])) t
        refine XS.iconst X49.here hx rfl (hb hby at_186) ?_
        show Steps p.tables e below (T49.setTop (mkF m 187 (la0_28 p0 p1 p2 p3 b0_128 b0_134) [(.int (1 : Int32)), (.int (3 : Int32))])) t
        refine XS.icmpNo X49.here hx rfl (hb hby at_187) rfl (tlt ((by decide))).2.2.2 ?_
        show Steps p.tables e below (T49.setTop (mkF m 190 (la0_28 p0 p1 p2 p3 b0_128 b0_134) [])) t
        refine XS.aload X49.here hx rfl (hb hby at_190) rfl rfl ?_
        show Steps p.tables e below (T49.setTop (mkF m 192 (la0_28 p0 p1 p2 p3 b0_128 b0_134) [(.ref b0_134)])) t
        refine XS.iconst X49.here hx rfl (hb hby at_192) ?_
        show Steps p.tables e below (T49.setTop (mkF m 193 (la0_28 p0 p1 p2 p3 b0_128 b0_134) [(.int (1 : Int32)), (.ref b0_134)])) t
        refine XS.iload X49.here hx rfl (hb hby at_193) rfl ?_
        show Steps p.tables e below (T49.setTop (mkF m 195 (la0_28 p0 p1 p2 p3 b0_128 b0_134) [(.int (v0_111 p0 p1 p2 p3)), (.int (1 : Int32)), (.ref b0_134)])) t
        exact k
      obtain ⟨kc51, cl51, Ar51, q51, S51, M51, H51, G51⟩ := id V49
      have hin51 : ¬ ((1 : Int32) < 0 ∨ cl51.slots.size ≤ ((1 : Int32)).toNatClampNeg) := inb_of S51 ⟨by decide, by decide⟩
      obtain ⟨T51, h51, X51, e51, W51, st51⟩ := stI X49 hx hZ e49 Ar51 (j := (1 : Int32)) hin51 (g := (mkF m 195 (la0_28 p0 p1 p2 p3 b0_128 b0_134) [(.int (v0_111 p0 p1 p2 p3)), (.int (1 : Int32)), (.ref b0_134)])) rfl rfl (hb hby at_195)
      have N51 := Fr.snoc X51 N49 gle_b0_134
      have Z51 : n0 ≤ h51.size := Nat.le_trans Z49 (Keep.of_wr W51).1
      have K51 : Keep h18 h51 [b0_134] := K49.wr W51 (Or.inl (List.mem_of_getElem? (i := 0) rfl))
      have V51 : OArr Z h51 b0_134 .int (3 : Int32) [(.int (v0_98 p0 p1 p2 p3)), (.int (v0_111 p0 p1 p2 p3)), (.int (0 : Int32))] (.int (0 : Int32)) := ⟨_, Arv.set Ar51 q51 S51 M51 H51 G51 rfl W51 1 rfl (Nat.le_of_ble_eq_true rfl)⟩
      have fc52 : OArr Z h51 b0_128 .int (p1 &&& (3 : Int32)) (List.map Value.int (own_t3 (p1 &&& (3 : Int32)) (v0_27 p0 p1 p2 p3) (v0_38 p0 p1 p2 p3) (v0_50 p0 p1 p2 p3))) (.int (0 : Int32)) := (fc50.other W51 ne_b0_128_b0_134)
      refine ORchH.go (g' := (mkF m 196 (la0_28 p0 p1 p2 p3 b0_128 b0_134) [])) st51 ?_
      refine ORchH.go (T' := T51) (g' := (mkF m 207 (la0_28 p0 p1 p2 p3 b0_128 b0_134) [(.int (v0_124 p0 p1 p2 p3)), (.int (2 : Int32)), (.ref b0_134)])) (fun t k => ?_) ?_
      · show Steps p.tables e below (T51.setTop (mkF m 196 (la0_28 p0 p1 p2 p3 b0_128 b0_134) [])) t
        refine XS.iload X51.here hx rfl (hb hby at_196) rfl ?_
        show Steps p.tables e below (T51.setTop (mkF m 198 (la0_28 p0 p1 p2 p3 b0_128 b0_134) [(.int (3 : Int32))])) t
        refine XS.iconst X51.here hx rfl (hb hby at_198) ?_
        show Steps p.tables e below (T51.setTop (mkF m 199 (la0_28 p0 p1 p2 p3 b0_128 b0_134) [(.int (2 : Int32)), (.int (3 : Int32))])) t
        refine XS.icmpNo X51.here hx rfl (hb hby at_199) rfl (tlt ((by decide))).2.2.2 ?_
        show Steps p.tables e below (T51.setTop (mkF m 202 (la0_28 p0 p1 p2 p3 b0_128 b0_134) [])) t
        refine XS.aload X51.here hx rfl (hb hby at_202) rfl rfl ?_
        show Steps p.tables e below (T51.setTop (mkF m 204 (la0_28 p0 p1 p2 p3 b0_128 b0_134) [(.ref b0_134)])) t
        refine XS.iconst X51.here hx rfl (hb hby at_204) ?_
        show Steps p.tables e below (T51.setTop (mkF m 205 (la0_28 p0 p1 p2 p3 b0_128 b0_134) [(.int (2 : Int32)), (.ref b0_134)])) t
        refine XS.iload X51.here hx rfl (hb hby at_205) rfl ?_
        show Steps p.tables e below (T51.setTop (mkF m 207 (la0_28 p0 p1 p2 p3 b0_128 b0_134) [(.int (v0_124 p0 p1 p2 p3)), (.int (2 : Int32)), (.ref b0_134)])) t
        exact k
      obtain ⟨kc53, cl53, Ar53, q53, S53, M53, H53, G53⟩ := id V51
      have hin53 : ¬ ((2 : Int32) < 0 ∨ cl53.slots.size ≤ ((2 : Int32)).toNatClampNeg) := inb_of S53 ⟨by decide, by decide⟩
      obtain ⟨T53, h53, X53, e53, W53, st53⟩ := stI X51 hx hZ e51 Ar53 (j := (2 : Int32)) hin53 (g := (mkF m 207 (la0_28 p0 p1 p2 p3 b0_128 b0_134) [(.int (v0_124 p0 p1 p2 p3)), (.int (2 : Int32)), (.ref b0_134)])) rfl rfl (hb hby at_207)
      have N53 := Fr.snoc X53 N51 gle_b0_134
      have Z53 : n0 ≤ h53.size := Nat.le_trans Z51 (Keep.of_wr W53).1
      have K53 : Keep h18 h53 [b0_134] := K51.wr W53 (Or.inl (List.mem_of_getElem? (i := 0) rfl))
      have V53 : OArr Z h53 b0_134 .int (3 : Int32) [(.int (v0_98 p0 p1 p2 p3)), (.int (v0_111 p0 p1 p2 p3)), (.int (v0_124 p0 p1 p2 p3))] (.int (0 : Int32)) := ⟨_, Arv.set Ar53 q53 S53 M53 H53 G53 rfl W53 2 rfl (Nat.le_of_ble_eq_true rfl)⟩
      have fc54 : OArr Z h53 b0_128 .int (p1 &&& (3 : Int32)) (List.map Value.int (own_t3 (p1 &&& (3 : Int32)) (v0_27 p0 p1 p2 p3) (v0_38 p0 p1 p2 p3) (v0_50 p0 p1 p2 p3))) (.int (0 : Int32)) := (fc52.other W53 ne_b0_128_b0_134)
      refine ORchH.go (g' := (mkF m 208 (la0_28 p0 p1 p2 p3 b0_128 b0_134) [])) st53 ?_
      exact ⟨_, _, _, X53, e53, N53, ⟨(own_at rfl (P := fun h => Keep h18 h [b0_134]) K53), (by rw [hs38]; exact V53)⟩, fun t k => (own_k (f := fun (z : Int32) => mkF m 208 #[.val (.int p0), .val (.int p1), .val (.int p2), .val (.int p3), .val (.int (v0_6 p0 p1 p2 p3)), .val (.int (p1 &&& (3 : Int32))), .val (.int z), .val (.int (v0_27 p0 p1 p2 p3)), .val (.int (v0_38 p0 p1 p2 p3)), .val (.int (v0_50 p0 p1 p2 p3)), .val (.int (v0_61 p0 p1 p2 p3)), .val (.int (v0_73 p0 p1 p2 p3)), .val (.int (v0_85 p0 p1 p2 p3)), .val (.int (v0_98 p0 p1 p2 p3)), .val (.int (v0_111 p0 p1 p2 p3)), .val (.int (v0_124 p0 p1 p2 p3)), .val (.ref b0_128), .val (.ref b0_134), .unset, .unset, .unset, .unset, .unset, .unset, .unset, .unset] []) hs38 k)⟩
  have Z37 : n0 ≤ h37.size := Nat.le_trans Z18 u37_0.1
  have fc55 : OArr Z h37 b0_128 .int (p1 &&& (3 : Int32)) (List.map Value.int (own_t3 (p1 &&& (3 : Int32)) (v0_27 p0 p1 p2 p3) (v0_38 p0 p1 p2 p3) (v0_50 p0 p1 p2 p3))) (.int (0 : Int32)) := (u18_1.keep u37_0 (ninS ne_b0_128_b0_134 nin0))
  refine OEnd.go (g' := (mkF m 208 (la0_32 p0 p1 p2 p3 b0_128 b0_134) [])) st37 ?_
  refine OEnd.go (T' := T37) (g' := (mkF m 211 (la0_32 p0 p1 p2 p3 b0_128 b0_134) [(.int (0 : Int32)), (.ref b0_128)])) (fun t k => ?_) ?_
  · show Steps p.tables e below (T37.setTop (mkF m 208 (la0_32 p0 p1 p2 p3 b0_128 b0_134) [])) t
    refine XS.aload X37.here hx rfl (hb hby at_208) rfl rfl ?_
    show Steps p.tables e below (T37.setTop (mkF m 210 (la0_32 p0 p1 p2 p3 b0_128 b0_134) [(.ref b0_128)])) t
    refine XS.iconst X37.here hx rfl (hb hby at_210) ?_
    show Steps p.tables e below (T37.setTop (mkF m 211 (la0_32 p0 p1 p2 p3 b0_128 b0_134) [(.int (0 : Int32)), (.ref b0_128)])) t
    exact k
  obtain ⟨_, _, ⟨T56, L56, k56, n56⟩, -, X56, ⟨Lc56, hQ56, l56, y56, z56⟩, st56⟩ := Jvm.LawKit.callS X37 hx (y := (⟨"com/example/nuthatch/nuthatch/logic/DemandsAgreePinLaw", "at", "([II)I"⟩ : MethodName)) hown (mvT hZ (hw _ (List.mem_of_getElem? (i := 2) rfl))) (mvT hZ (hw _ (List.mem_of_getElem? (i := 3) rfl))) (mvT hZ (hw _ (List.mem_of_getElem? (i := 4) rfl))) (mvT hZ (hw _ (List.mem_of_getElem? (i := 5) rfl))) (by decide) (backOf (W := 0) (rm1_0 l Z aZ hw [] b0_128 (own_t3 (p1 &&& (3 : Int32)) (v0_27 p0 p1 p2 p3) (v0_38 p0 p1 p2 p3) (v0_50 p0 p1 p2 p3)) (p1 &&& (3 : Int32)) h37 n0 Z37 fc55 (own_len3 _ _ _ (own_four p1)) (own_lt3 _ _ _ (own_four p1))) hZ (hw _ (List.mem_of_getElem? (i := 5) rfl)) (hw _ (List.mem_of_getElem? (i := 4) rfl)) (by decide) (by decide)) (g := (mkF m 211 (la0_32 p0 p1 p2 p3 b0_128 b0_134) [(.int (0 : Int32)), (.ref b0_128)])) rfl (by rw [hml]; rfl) (argsL := [(.ref b0_128), (.int (0 : Int32))]) (rest := []) (lenOf pd___II_I rfl) rfl (by show 2 * 0 + _ ≤ _; exact Nat.le_of_eq rfl) (hb hby at_211) (fun _ _ => ⟨rfl, e37, (by decide : 2 + 0 ≤ _), (by decide : 6 + 0 ≤ _)⟩)
  dsimp only [Pt.U, Pt.locs, Pt.cells, Pt.slots] at X56 l56 y56 z56 st56 hQ56
  subst l56 y56 z56
  obtain ⟨rfl, N56q, e56⟩ := hQ56
  have N56 := Fr.app N37 N56q
  refine OEnd.go (g' := (mkF m 214 (la0_32 p0 p1 p2 p3 b0_128 b0_134) [(.int (f1_0 (own_t3 (p1 &&& (3 : Int32)) (v0_27 p0 p1 p2 p3) (v0_38 p0 p1 p2 p3) (v0_50 p0 p1 p2 p3)) (p1 &&& (3 : Int32))))])) st56 ?_
  refine OEnd.go (T' := T56) (g' := (mkF m 219 (la0_33 p0 p1 p2 p3 b0_128 b0_134) [(.int (1 : Int32)), (.ref b0_128)])) (fun t k => ?_) ?_
  · show Steps p.tables e below (T56.setTop (mkF m 214 (la0_32 p0 p1 p2 p3 b0_128 b0_134) [(.int (f1_0 (own_t3 (p1 &&& (3 : Int32)) (v0_27 p0 p1 p2 p3) (v0_38 p0 p1 p2 p3) (v0_50 p0 p1 p2 p3)) (p1 &&& (3 : Int32))))])) t
    refine XS.istore X56.here hx rfl (hb hby at_214) rfl (l' := (la0_33 p0 p1 p2 p3 b0_128 b0_134)) rfl ?_
    show Steps p.tables e below (T56.setTop (mkF m 216 (la0_33 p0 p1 p2 p3 b0_128 b0_134) [])) t
    refine XS.aload X56.here hx rfl (hb hby at_216) rfl rfl ?_
    show Steps p.tables e below (T56.setTop (mkF m 218 (la0_33 p0 p1 p2 p3 b0_128 b0_134) [(.ref b0_128)])) t
    refine XS.iconst X56.here hx rfl (hb hby at_218) ?_
    show Steps p.tables e below (T56.setTop (mkF m 219 (la0_33 p0 p1 p2 p3 b0_128 b0_134) [(.int (1 : Int32)), (.ref b0_128)])) t
    exact k
  obtain ⟨_, _, ⟨T57, L57, k57, n57⟩, -, X57, ⟨Lc57, hQ57, l57, y57, z57⟩, st57⟩ := Jvm.LawKit.callS X56 hx (y := (⟨"com/example/nuthatch/nuthatch/logic/DemandsAgreePinLaw", "at", "([II)I"⟩ : MethodName)) hown (mvT hZ (hw _ (List.mem_of_getElem? (i := 2) rfl))) (mvT hZ (hw _ (List.mem_of_getElem? (i := 3) rfl))) (mvT hZ (hw _ (List.mem_of_getElem? (i := 4) rfl))) (mvT hZ (hw _ (List.mem_of_getElem? (i := 5) rfl))) (by decide) (backOf (W := 0) (rm1_1 l Z aZ hw [] b0_128 (own_t3 (p1 &&& (3 : Int32)) (v0_27 p0 p1 p2 p3) (v0_38 p0 p1 p2 p3) (v0_50 p0 p1 p2 p3)) (p1 &&& (3 : Int32)) h37 n0 Z37 fc55 (own_len3 _ _ _ (own_four p1)) (own_lt3 _ _ _ (own_four p1))) hZ (hw _ (List.mem_of_getElem? (i := 5) rfl)) (hw _ (List.mem_of_getElem? (i := 4) rfl)) (by decide) (by decide)) (g := (mkF m 219 (la0_33 p0 p1 p2 p3 b0_128 b0_134) [(.int (1 : Int32)), (.ref b0_128)])) rfl (by rw [hml]; rfl) (argsL := [(.ref b0_128), (.int (1 : Int32))]) (rest := []) (lenOf pd___II_I rfl) rfl (by show 2 * 0 + _ ≤ _; exact Nat.le_of_eq rfl) (hb hby at_219) (fun _ _ => ⟨rfl, e56, (by decide : 2 + 0 ≤ _), (by decide : 6 + 0 ≤ _)⟩)
  dsimp only [Pt.U, Pt.locs, Pt.cells, Pt.slots] at X57 l57 y57 z57 st57 hQ57
  subst l57 y57 z57
  obtain ⟨rfl, N57q, e57⟩ := hQ57
  have N57 := Fr.app N56 N57q
  refine OEnd.go (g' := (mkF m 222 (la0_33 p0 p1 p2 p3 b0_128 b0_134) [(.int (f1_1 (own_t3 (p1 &&& (3 : Int32)) (v0_27 p0 p1 p2 p3) (v0_38 p0 p1 p2 p3) (v0_50 p0 p1 p2 p3)) (p1 &&& (3 : Int32))))])) st57 ?_
  refine OEnd.go (T' := T57) (g' := (mkF m 227 (la0_34 p0 p1 p2 p3 b0_128 b0_134) [(.int (2 : Int32)), (.ref b0_128)])) (fun t k => ?_) ?_
  · show Steps p.tables e below (T57.setTop (mkF m 222 (la0_33 p0 p1 p2 p3 b0_128 b0_134) [(.int (f1_1 (own_t3 (p1 &&& (3 : Int32)) (v0_27 p0 p1 p2 p3) (v0_38 p0 p1 p2 p3) (v0_50 p0 p1 p2 p3)) (p1 &&& (3 : Int32))))])) t
    refine XS.istore X57.here hx rfl (hb hby at_222) rfl (l' := (la0_34 p0 p1 p2 p3 b0_128 b0_134)) rfl ?_
    show Steps p.tables e below (T57.setTop (mkF m 224 (la0_34 p0 p1 p2 p3 b0_128 b0_134) [])) t
    refine XS.aload X57.here hx rfl (hb hby at_224) rfl rfl ?_
    show Steps p.tables e below (T57.setTop (mkF m 226 (la0_34 p0 p1 p2 p3 b0_128 b0_134) [(.ref b0_128)])) t
    refine XS.iconst X57.here hx rfl (hb hby at_226) ?_
    show Steps p.tables e below (T57.setTop (mkF m 227 (la0_34 p0 p1 p2 p3 b0_128 b0_134) [(.int (2 : Int32)), (.ref b0_128)])) t
    exact k
  obtain ⟨_, _, ⟨T58, L58, k58, n58⟩, -, X58, ⟨Lc58, hQ58, l58, y58, z58⟩, st58⟩ := Jvm.LawKit.callS X57 hx (y := (⟨"com/example/nuthatch/nuthatch/logic/DemandsAgreePinLaw", "at", "([II)I"⟩ : MethodName)) hown (mvT hZ (hw _ (List.mem_of_getElem? (i := 2) rfl))) (mvT hZ (hw _ (List.mem_of_getElem? (i := 3) rfl))) (mvT hZ (hw _ (List.mem_of_getElem? (i := 4) rfl))) (mvT hZ (hw _ (List.mem_of_getElem? (i := 5) rfl))) (by decide) (backOf (W := 0) (rm1_2 l Z aZ hw [] b0_128 (own_t3 (p1 &&& (3 : Int32)) (v0_27 p0 p1 p2 p3) (v0_38 p0 p1 p2 p3) (v0_50 p0 p1 p2 p3)) (p1 &&& (3 : Int32)) h37 n0 Z37 fc55 (own_len3 _ _ _ (own_four p1)) (own_lt3 _ _ _ (own_four p1))) hZ (hw _ (List.mem_of_getElem? (i := 5) rfl)) (hw _ (List.mem_of_getElem? (i := 4) rfl)) (by decide) (by decide)) (g := (mkF m 227 (la0_34 p0 p1 p2 p3 b0_128 b0_134) [(.int (2 : Int32)), (.ref b0_128)])) rfl (by rw [hml]; rfl) (argsL := [(.ref b0_128), (.int (2 : Int32))]) (rest := []) (lenOf pd___II_I rfl) rfl (by show 2 * 0 + _ ≤ _; exact Nat.le_of_eq rfl) (hb hby at_227) (fun _ _ => ⟨rfl, e57, (by decide : 2 + 0 ≤ _), (by decide : 6 + 0 ≤ _)⟩)
  dsimp only [Pt.U, Pt.locs, Pt.cells, Pt.slots] at X58 l58 y58 z58 st58 hQ58
  subst l58 y58 z58
  obtain ⟨rfl, N58q, e58⟩ := hQ58
  have N58 := Fr.app N57 N58q
  refine OEnd.go (g' := (mkF m 230 (la0_34 p0 p1 p2 p3 b0_128 b0_134) [(.int (f1_2 (own_t3 (p1 &&& (3 : Int32)) (v0_27 p0 p1 p2 p3) (v0_38 p0 p1 p2 p3) (v0_50 p0 p1 p2 p3)) (p1 &&& (3 : Int32))))])) st58 ?_
  refine OEnd.go (T' := T58) (g' := (mkF m 235 (la0_35 p0 p1 p2 p3 b0_128 b0_134) [(.int (0 : Int32)), (.ref b0_134)])) (fun t k => ?_) ?_
  · show Steps p.tables e below (T58.setTop (mkF m 230 (la0_34 p0 p1 p2 p3 b0_128 b0_134) [(.int (f1_2 (own_t3 (p1 &&& (3 : Int32)) (v0_27 p0 p1 p2 p3) (v0_38 p0 p1 p2 p3) (v0_50 p0 p1 p2 p3)) (p1 &&& (3 : Int32))))])) t
    refine XS.istore X58.here hx rfl (hb hby at_230) rfl (l' := (la0_35 p0 p1 p2 p3 b0_128 b0_134)) rfl ?_
    show Steps p.tables e below (T58.setTop (mkF m 232 (la0_35 p0 p1 p2 p3 b0_128 b0_134) [])) t
    refine XS.aload X58.here hx rfl (hb hby at_232) rfl rfl ?_
    show Steps p.tables e below (T58.setTop (mkF m 234 (la0_35 p0 p1 p2 p3 b0_128 b0_134) [(.ref b0_134)])) t
    refine XS.iconst X58.here hx rfl (hb hby at_234) ?_
    show Steps p.tables e below (T58.setTop (mkF m 235 (la0_35 p0 p1 p2 p3 b0_128 b0_134) [(.int (0 : Int32)), (.ref b0_134)])) t
    exact k
  obtain ⟨_, _, ⟨T59, L59, k59, n59⟩, -, X59, ⟨Lc59, hQ59, l59, y59, z59⟩, st59⟩ := Jvm.LawKit.callS X58 hx (y := (⟨"com/example/nuthatch/nuthatch/logic/DemandsAgreePinLaw", "at", "([II)I"⟩ : MethodName)) hown (mvT hZ (hw _ (List.mem_of_getElem? (i := 2) rfl))) (mvT hZ (hw _ (List.mem_of_getElem? (i := 3) rfl))) (mvT hZ (hw _ (List.mem_of_getElem? (i := 4) rfl))) (mvT hZ (hw _ (List.mem_of_getElem? (i := 5) rfl))) (by decide) (backOf (W := 0) (rm1_0 l Z aZ hw [] b0_134 (own_t3 (v0_18 p0 p1 p2 p3) (v0_98 p0 p1 p2 p3) (v0_111 p0 p1 p2 p3) (v0_124 p0 p1 p2 p3)) (v0_18 p0 p1 p2 p3) h37 n0 Z37 u37_1 (own_len3 _ _ _ (own_mm p0 p1 p2 p3)) (own_lt3 _ _ _ (own_mm p0 p1 p2 p3))) hZ (hw _ (List.mem_of_getElem? (i := 5) rfl)) (hw _ (List.mem_of_getElem? (i := 4) rfl)) (by decide) (by decide)) (g := (mkF m 235 (la0_35 p0 p1 p2 p3 b0_128 b0_134) [(.int (0 : Int32)), (.ref b0_134)])) rfl (by rw [hml]; rfl) (argsL := [(.ref b0_134), (.int (0 : Int32))]) (rest := []) (lenOf pd___II_I rfl) rfl (by show 2 * 0 + _ ≤ _; exact Nat.le_of_eq rfl) (hb hby at_235) (fun _ _ => ⟨rfl, e58, (by decide : 2 + 0 ≤ _), (by decide : 6 + 0 ≤ _)⟩)
  dsimp only [Pt.U, Pt.locs, Pt.cells, Pt.slots] at X59 l59 y59 z59 st59 hQ59
  subst l59 y59 z59
  obtain ⟨rfl, N59q, e59⟩ := hQ59
  have N59 := Fr.app N58 N59q
  refine OEnd.go (g' := (mkF m 238 (la0_35 p0 p1 p2 p3 b0_128 b0_134) [(.int (f1_0 (own_t3 (v0_18 p0 p1 p2 p3) (v0_98 p0 p1 p2 p3) (v0_111 p0 p1 p2 p3) (v0_124 p0 p1 p2 p3)) (v0_18 p0 p1 p2 p3)))])) st59 ?_
  refine OEnd.go (T' := T59) (g' := (mkF m 243 (la0_36 p0 p1 p2 p3 b0_128 b0_134) [(.int (1 : Int32)), (.ref b0_134)])) (fun t k => ?_) ?_
  · show Steps p.tables e below (T59.setTop (mkF m 238 (la0_35 p0 p1 p2 p3 b0_128 b0_134) [(.int (f1_0 (own_t3 (v0_18 p0 p1 p2 p3) (v0_98 p0 p1 p2 p3) (v0_111 p0 p1 p2 p3) (v0_124 p0 p1 p2 p3)) (v0_18 p0 p1 p2 p3)))])) t
    refine XS.istore X59.here hx rfl (hb hby at_238) rfl (l' := (la0_36 p0 p1 p2 p3 b0_128 b0_134)) rfl ?_
    show Steps p.tables e below (T59.setTop (mkF m 240 (la0_36 p0 p1 p2 p3 b0_128 b0_134) [])) t
    refine XS.aload X59.here hx rfl (hb hby at_240) rfl rfl ?_
    show Steps p.tables e below (T59.setTop (mkF m 242 (la0_36 p0 p1 p2 p3 b0_128 b0_134) [(.ref b0_134)])) t
    refine XS.iconst X59.here hx rfl (hb hby at_242) ?_
    show Steps p.tables e below (T59.setTop (mkF m 243 (la0_36 p0 p1 p2 p3 b0_128 b0_134) [(.int (1 : Int32)), (.ref b0_134)])) t
    exact k
  obtain ⟨_, _, ⟨T60, L60, k60, n60⟩, -, X60, ⟨Lc60, hQ60, l60, y60, z60⟩, st60⟩ := Jvm.LawKit.callS X59 hx (y := (⟨"com/example/nuthatch/nuthatch/logic/DemandsAgreePinLaw", "at", "([II)I"⟩ : MethodName)) hown (mvT hZ (hw _ (List.mem_of_getElem? (i := 2) rfl))) (mvT hZ (hw _ (List.mem_of_getElem? (i := 3) rfl))) (mvT hZ (hw _ (List.mem_of_getElem? (i := 4) rfl))) (mvT hZ (hw _ (List.mem_of_getElem? (i := 5) rfl))) (by decide) (backOf (W := 0) (rm1_1 l Z aZ hw [] b0_134 (own_t3 (v0_18 p0 p1 p2 p3) (v0_98 p0 p1 p2 p3) (v0_111 p0 p1 p2 p3) (v0_124 p0 p1 p2 p3)) (v0_18 p0 p1 p2 p3) h37 n0 Z37 u37_1 (own_len3 _ _ _ (own_mm p0 p1 p2 p3)) (own_lt3 _ _ _ (own_mm p0 p1 p2 p3))) hZ (hw _ (List.mem_of_getElem? (i := 5) rfl)) (hw _ (List.mem_of_getElem? (i := 4) rfl)) (by decide) (by decide)) (g := (mkF m 243 (la0_36 p0 p1 p2 p3 b0_128 b0_134) [(.int (1 : Int32)), (.ref b0_134)])) rfl (by rw [hml]; rfl) (argsL := [(.ref b0_134), (.int (1 : Int32))]) (rest := []) (lenOf pd___II_I rfl) rfl (by show 2 * 0 + _ ≤ _; exact Nat.le_of_eq rfl) (hb hby at_243) (fun _ _ => ⟨rfl, e59, (by decide : 2 + 0 ≤ _), (by decide : 6 + 0 ≤ _)⟩)
  dsimp only [Pt.U, Pt.locs, Pt.cells, Pt.slots] at X60 l60 y60 z60 st60 hQ60
  subst l60 y60 z60
  obtain ⟨rfl, N60q, e60⟩ := hQ60
  have N60 := Fr.app N59 N60q
  refine OEnd.go (g' := (mkF m 246 (la0_36 p0 p1 p2 p3 b0_128 b0_134) [(.int (f1_1 (own_t3 (v0_18 p0 p1 p2 p3) (v0_98 p0 p1 p2 p3) (v0_111 p0 p1 p2 p3) (v0_124 p0 p1 p2 p3)) (v0_18 p0 p1 p2 p3)))])) st60 ?_
  refine OEnd.go (T' := T60) (g' := (mkF m 251 (la0_37 p0 p1 p2 p3 b0_128 b0_134) [(.int (2 : Int32)), (.ref b0_134)])) (fun t k => ?_) ?_
  · show Steps p.tables e below (T60.setTop (mkF m 246 (la0_36 p0 p1 p2 p3 b0_128 b0_134) [(.int (f1_1 (own_t3 (v0_18 p0 p1 p2 p3) (v0_98 p0 p1 p2 p3) (v0_111 p0 p1 p2 p3) (v0_124 p0 p1 p2 p3)) (v0_18 p0 p1 p2 p3)))])) t
    refine XS.istore X60.here hx rfl (hb hby at_246) rfl (l' := (la0_37 p0 p1 p2 p3 b0_128 b0_134)) rfl ?_
    show Steps p.tables e below (T60.setTop (mkF m 248 (la0_37 p0 p1 p2 p3 b0_128 b0_134) [])) t
    refine XS.aload X60.here hx rfl (hb hby at_248) rfl rfl ?_
    show Steps p.tables e below (T60.setTop (mkF m 250 (la0_37 p0 p1 p2 p3 b0_128 b0_134) [(.ref b0_134)])) t
    refine XS.iconst X60.here hx rfl (hb hby at_250) ?_
    show Steps p.tables e below (T60.setTop (mkF m 251 (la0_37 p0 p1 p2 p3 b0_128 b0_134) [(.int (2 : Int32)), (.ref b0_134)])) t
    exact k
  obtain ⟨_, _, ⟨T61, L61, k61, n61⟩, -, X61, ⟨Lc61, hQ61, l61, y61, z61⟩, st61⟩ := Jvm.LawKit.callS X60 hx (y := (⟨"com/example/nuthatch/nuthatch/logic/DemandsAgreePinLaw", "at", "([II)I"⟩ : MethodName)) hown (mvT hZ (hw _ (List.mem_of_getElem? (i := 2) rfl))) (mvT hZ (hw _ (List.mem_of_getElem? (i := 3) rfl))) (mvT hZ (hw _ (List.mem_of_getElem? (i := 4) rfl))) (mvT hZ (hw _ (List.mem_of_getElem? (i := 5) rfl))) (by decide) (backOf (W := 0) (rm1_2 l Z aZ hw [] b0_134 (own_t3 (v0_18 p0 p1 p2 p3) (v0_98 p0 p1 p2 p3) (v0_111 p0 p1 p2 p3) (v0_124 p0 p1 p2 p3)) (v0_18 p0 p1 p2 p3) h37 n0 Z37 u37_1 (own_len3 _ _ _ (own_mm p0 p1 p2 p3)) (own_lt3 _ _ _ (own_mm p0 p1 p2 p3))) hZ (hw _ (List.mem_of_getElem? (i := 5) rfl)) (hw _ (List.mem_of_getElem? (i := 4) rfl)) (by decide) (by decide)) (g := (mkF m 251 (la0_37 p0 p1 p2 p3 b0_128 b0_134) [(.int (2 : Int32)), (.ref b0_134)])) rfl (by rw [hml]; rfl) (argsL := [(.ref b0_134), (.int (2 : Int32))]) (rest := []) (lenOf pd___II_I rfl) rfl (by show 2 * 0 + _ ≤ _; exact Nat.le_of_eq rfl) (hb hby at_251) (fun _ _ => ⟨rfl, e60, (by decide : 2 + 0 ≤ _), (by decide : 6 + 0 ≤ _)⟩)
  dsimp only [Pt.U, Pt.locs, Pt.cells, Pt.slots] at X61 l61 y61 z61 st61 hQ61
  subst l61 y61 z61
  obtain ⟨rfl, N61q, e61⟩ := hQ61
  have N61 := Fr.app N60 N61q
  refine OEnd.go (g' := (mkF m 254 (la0_37 p0 p1 p2 p3 b0_128 b0_134) [(.int (f1_2 (own_t3 (v0_18 p0 p1 p2 p3) (v0_98 p0 p1 p2 p3) (v0_111 p0 p1 p2 p3) (v0_124 p0 p1 p2 p3)) (v0_18 p0 p1 p2 p3)))])) st61 ?_
  refine OEnd.go (T' := T61) (g' := (mkF m 260 (la0_38 p0 p1 p2 p3 b0_128 b0_134) [(.int (v0_238 p0 p1 p2 p3)), (.int (v0_214 p0 p1 p2 p3))])) (fun t k => ?_) ?_
  · show Steps p.tables e below (T61.setTop (mkF m 254 (la0_37 p0 p1 p2 p3 b0_128 b0_134) [(.int (f1_2 (own_t3 (v0_18 p0 p1 p2 p3) (v0_98 p0 p1 p2 p3) (v0_111 p0 p1 p2 p3) (v0_124 p0 p1 p2 p3)) (v0_18 p0 p1 p2 p3)))])) t
    refine XS.istore X61.here hx rfl (hb hby at_254) rfl (l' := (la0_38 p0 p1 p2 p3 b0_128 b0_134)) rfl ?_
    show Steps p.tables e below (T61.setTop (mkF m 256 (la0_38 p0 p1 p2 p3 b0_128 b0_134) [])) t
    refine XS.iload X61.here hx rfl (hb hby at_256) rfl ?_
    show Steps p.tables e below (T61.setTop (mkF m 258 (la0_38 p0 p1 p2 p3 b0_128 b0_134) [(.int (v0_214 p0 p1 p2 p3))])) t
    refine XS.iload X61.here hx rfl (hb hby at_258) rfl ?_
    show Steps p.tables e below (T61.setTop (mkF m 260 (la0_38 p0 p1 p2 p3 b0_128 b0_134) [(.int (v0_238 p0 p1 p2 p3)), (.int (v0_214 p0 p1 p2 p3))])) t
    exact k
  obtain ⟨_, _, ⟨T62, L62, k62, n62⟩, -, X62, ⟨Lc62, hQ62, l62, y62, z62⟩, st62⟩ := Jvm.LawKit.callS X61 hx (y := (⟨"com/example/nuthatch/nuthatch/logic/DemandsAgreePinLaw", "clash", "(II)Z"⟩ : MethodName)) hown (mvT hZ (hw _ (List.mem_of_getElem? (i := 6) rfl))) (mvT hZ (hw _ (List.mem_of_getElem? (i := 7) rfl))) (mvT hZ (hw _ (List.mem_of_getElem? (i := 4) rfl))) (mvT hZ (hw _ (List.mem_of_getElem? (i := 8) rfl))) (by decide) (backOf (W := 0) (rm2 l Z aZ hw [] (v0_214 p0 p1 p2 p3) (v0_238 p0 p1 p2 p3) h37 n0 Z37 ) hZ (hw _ (List.mem_of_getElem? (i := 8) rfl)) (hw _ (List.mem_of_getElem? (i := 4) rfl)) (by decide) (by decide)) (g := (mkF m 260 (la0_38 p0 p1 p2 p3 b0_128 b0_134) [(.int (v0_238 p0 p1 p2 p3)), (.int (v0_214 p0 p1 p2 p3))])) rfl (by rw [hml]; rfl) (argsL := [(.int (v0_214 p0 p1 p2 p3)), (.int (v0_238 p0 p1 p2 p3))]) (rest := []) (lenOf pd__II_Z rfl) rfl (by show 2 * 0 + _ ≤ _; exact Nat.le_of_eq rfl) (hb hby at_260) (fun _ _ => ⟨rfl, e61, (by decide : 2 + 0 ≤ _), (by decide : 6 + 0 ≤ _)⟩)
  dsimp only [Pt.U, Pt.locs, Pt.cells, Pt.slots] at X62 l62 y62 z62 st62 hQ62
  subst l62 y62 z62
  obtain ⟨rfl, N62q, e62⟩ := hQ62
  have N62 := Fr.app N61 N62q
  refine OEnd.go (g' := (mkF m 263 (la0_38 p0 p1 p2 p3 b0_128 b0_134) [(.int (f2 (v0_214 p0 p1 p2 p3) (v0_238 p0 p1 p2 p3)))])) st62 ?_
  obtain ⟨T64, L64, X64, e64, N64, st64⟩ : ORch p l e room_1 s m #[(.int p0), (.int p1), (.int p2), (.int p3)] below meth c n0 T62 (mkF m 263 (la0_38 p0 p1 p2 p3 b0_128 b0_134) [(.int (f2 (v0_214 p0 p1 p2 p3) (v0_238 p0 p1 p2 p3)))]) h37 (mkF m 351 (la0_38 p0 p1 p2 p3 b0_128 b0_134) [(.int (if (f2 (v0_214 p0 p1 p2 p3) (v0_238 p0 p1 p2 p3)) = (0 : Int32) then (if (f2 (v0_214 p0 p1 p2 p3) (v0_246 p0 p1 p2 p3)) = (0 : Int32) then (if (f2 (v0_214 p0 p1 p2 p3) (v0_254 p0 p1 p2 p3)) = (0 : Int32) then (if (f2 (v0_222 p0 p1 p2 p3) (v0_238 p0 p1 p2 p3)) = (0 : Int32) then (if (f2 (v0_222 p0 p1 p2 p3) (v0_246 p0 p1 p2 p3)) = (0 : Int32) then (if (f2 (v0_222 p0 p1 p2 p3) (v0_254 p0 p1 p2 p3)) = (0 : Int32) then (if (f2 (v0_230 p0 p1 p2 p3) (v0_238 p0 p1 p2 p3)) = (0 : Int32) then (if (f2 (v0_230 p0 p1 p2 p3) (v0_246 p0 p1 p2 p3)) = (0 : Int32) then (if (f2 (v0_230 p0 p1 p2 p3) (v0_254 p0 p1 p2 p3)) = (0 : Int32) then (0 : Int32) else (1 : Int32)) else (1 : Int32)) else (1 : Int32)) else (1 : Int32)) else (1 : Int32)) else (1 : Int32)) else (1 : Int32)) else (1 : Int32)) else (1 : Int32)))]) 2 6 := by
    by_cases hc63 : (f2 (v0_214 p0 p1 p2 p3) (v0_238 p0 p1 p2 p3)) = (0 : Int32)
    · skip
      refine ORch.go (T' := T62) (g' := (mkF m 266 (la0_38 p0 p1 p2 p3 b0_128 b0_134) [])) (fun t k => ?_) ?_
      · show Steps p.tables e below (T62.setTop (mkF m 263 (la0_38 p0 p1 p2 p3 b0_128 b0_134) [(.int (f2 (v0_214 p0 p1 p2 p3) (v0_238 p0 p1 p2 p3)))])) t
        refine XS.ifNo X62.here hx rfl (hb hby at_263) rfl ((if0 _ _).trans (teq (hc63)).2) ?_
        show Steps p.tables e below (T62.setTop (mkF m 266 (la0_38 p0 p1 p2 p3 b0_128 b0_134) [])) t
        exact k
      refine ORch.go (T' := T62) (g' := (mkF m 270 (la0_38 p0 p1 p2 p3 b0_128 b0_134) [(.int (v0_246 p0 p1 p2 p3)), (.int (v0_214 p0 p1 p2 p3))])) (fun t k => ?_) ?_
      · show Steps p.tables e below (T62.setTop (mkF m 266 (la0_38 p0 p1 p2 p3 b0_128 b0_134) [])) t
        refine XS.iload X62.here hx rfl (hb hby at_266) rfl ?_
        show Steps p.tables e below (T62.setTop (mkF m 268 (la0_38 p0 p1 p2 p3 b0_128 b0_134) [(.int (v0_214 p0 p1 p2 p3))])) t
        refine XS.iload X62.here hx rfl (hb hby at_268) rfl ?_
        show Steps p.tables e below (T62.setTop (mkF m 270 (la0_38 p0 p1 p2 p3 b0_128 b0_134) [(.int (v0_246 p0 p1 p2 p3)), (.int (v0_214 p0 p1 p2 p3))])) t
        exact k
      obtain ⟨_, _, ⟨T65, L65, k65, n65⟩, -, X65, ⟨Lc65, hQ65, l65, y65, z65⟩, st65⟩ := Jvm.LawKit.callS X62 hx (y := (⟨"com/example/nuthatch/nuthatch/logic/DemandsAgreePinLaw", "clash", "(II)Z"⟩ : MethodName)) hown (mvT hZ (hw _ (List.mem_of_getElem? (i := 6) rfl))) (mvT hZ (hw _ (List.mem_of_getElem? (i := 7) rfl))) (mvT hZ (hw _ (List.mem_of_getElem? (i := 4) rfl))) (mvT hZ (hw _ (List.mem_of_getElem? (i := 8) rfl))) (by decide) (backOf (W := 0) (rm2 l Z aZ hw [] (v0_214 p0 p1 p2 p3) (v0_246 p0 p1 p2 p3) h37 n0 Z37 ) hZ (hw _ (List.mem_of_getElem? (i := 8) rfl)) (hw _ (List.mem_of_getElem? (i := 4) rfl)) (by decide) (by decide)) (g := (mkF m 270 (la0_38 p0 p1 p2 p3 b0_128 b0_134) [(.int (v0_246 p0 p1 p2 p3)), (.int (v0_214 p0 p1 p2 p3))])) rfl (by rw [hml]; rfl) (argsL := [(.int (v0_214 p0 p1 p2 p3)), (.int (v0_246 p0 p1 p2 p3))]) (rest := []) (lenOf pd__II_Z rfl) rfl (by show 2 * 0 + _ ≤ _; exact Nat.le_of_eq rfl) (hb hby at_270) (fun _ _ => ⟨rfl, e62, (by decide : 2 + 0 ≤ _), (by decide : 6 + 0 ≤ _)⟩)
      dsimp only [Pt.U, Pt.locs, Pt.cells, Pt.slots] at X65 l65 y65 z65 st65 hQ65
      subst l65 y65 z65
      obtain ⟨rfl, N65q, e65⟩ := hQ65
      have N65 := Fr.app N62 N65q
      refine ORch.go (g' := (mkF m 273 (la0_38 p0 p1 p2 p3 b0_128 b0_134) [(.int (f2 (v0_214 p0 p1 p2 p3) (v0_246 p0 p1 p2 p3)))])) st65 ?_
      by_cases hc66 : (f2 (v0_214 p0 p1 p2 p3) (v0_246 p0 p1 p2 p3)) = (0 : Int32)
      · skip
        refine ORch.go (T' := T65) (g' := (mkF m 276 (la0_38 p0 p1 p2 p3 b0_128 b0_134) [])) (fun t k => ?_) ?_
        · show Steps p.tables e below (T65.setTop (mkF m 273 (la0_38 p0 p1 p2 p3 b0_128 b0_134) [(.int (f2 (v0_214 p0 p1 p2 p3) (v0_246 p0 p1 p2 p3)))])) t
          refine XS.ifNo X65.here hx rfl (hb hby at_273) rfl ((if0 _ _).trans (teq (hc66)).2) ?_
          show Steps p.tables e below (T65.setTop (mkF m 276 (la0_38 p0 p1 p2 p3 b0_128 b0_134) [])) t
          exact k
        refine ORch.go (T' := T65) (g' := (mkF m 280 (la0_38 p0 p1 p2 p3 b0_128 b0_134) [(.int (v0_254 p0 p1 p2 p3)), (.int (v0_214 p0 p1 p2 p3))])) (fun t k => ?_) ?_
        · show Steps p.tables e below (T65.setTop (mkF m 276 (la0_38 p0 p1 p2 p3 b0_128 b0_134) [])) t
          refine XS.iload X65.here hx rfl (hb hby at_276) rfl ?_
          show Steps p.tables e below (T65.setTop (mkF m 278 (la0_38 p0 p1 p2 p3 b0_128 b0_134) [(.int (v0_214 p0 p1 p2 p3))])) t
          refine XS.iload X65.here hx rfl (hb hby at_278) rfl ?_
          show Steps p.tables e below (T65.setTop (mkF m 280 (la0_38 p0 p1 p2 p3 b0_128 b0_134) [(.int (v0_254 p0 p1 p2 p3)), (.int (v0_214 p0 p1 p2 p3))])) t
          exact k
        obtain ⟨_, _, ⟨T67, L67, k67, n67⟩, -, X67, ⟨Lc67, hQ67, l67, y67, z67⟩, st67⟩ := Jvm.LawKit.callS X65 hx (y := (⟨"com/example/nuthatch/nuthatch/logic/DemandsAgreePinLaw", "clash", "(II)Z"⟩ : MethodName)) hown (mvT hZ (hw _ (List.mem_of_getElem? (i := 6) rfl))) (mvT hZ (hw _ (List.mem_of_getElem? (i := 7) rfl))) (mvT hZ (hw _ (List.mem_of_getElem? (i := 4) rfl))) (mvT hZ (hw _ (List.mem_of_getElem? (i := 8) rfl))) (by decide) (backOf (W := 0) (rm2 l Z aZ hw [] (v0_214 p0 p1 p2 p3) (v0_254 p0 p1 p2 p3) h37 n0 Z37 ) hZ (hw _ (List.mem_of_getElem? (i := 8) rfl)) (hw _ (List.mem_of_getElem? (i := 4) rfl)) (by decide) (by decide)) (g := (mkF m 280 (la0_38 p0 p1 p2 p3 b0_128 b0_134) [(.int (v0_254 p0 p1 p2 p3)), (.int (v0_214 p0 p1 p2 p3))])) rfl (by rw [hml]; rfl) (argsL := [(.int (v0_214 p0 p1 p2 p3)), (.int (v0_254 p0 p1 p2 p3))]) (rest := []) (lenOf pd__II_Z rfl) rfl (by show 2 * 0 + _ ≤ _; exact Nat.le_of_eq rfl) (hb hby at_280) (fun _ _ => ⟨rfl, e65, (by decide : 2 + 0 ≤ _), (by decide : 6 + 0 ≤ _)⟩)
        dsimp only [Pt.U, Pt.locs, Pt.cells, Pt.slots] at X67 l67 y67 z67 st67 hQ67
        subst l67 y67 z67
        obtain ⟨rfl, N67q, e67⟩ := hQ67
        have N67 := Fr.app N65 N67q
        refine ORch.go (g' := (mkF m 283 (la0_38 p0 p1 p2 p3 b0_128 b0_134) [(.int (f2 (v0_214 p0 p1 p2 p3) (v0_254 p0 p1 p2 p3)))])) st67 ?_
        by_cases hc68 : (f2 (v0_214 p0 p1 p2 p3) (v0_254 p0 p1 p2 p3)) = (0 : Int32)
        · skip
          refine ORch.go (T' := T67) (g' := (mkF m 286 (la0_38 p0 p1 p2 p3 b0_128 b0_134) [])) (fun t k => ?_) ?_
          · show Steps p.tables e below (T67.setTop (mkF m 283 (la0_38 p0 p1 p2 p3 b0_128 b0_134) [(.int (f2 (v0_214 p0 p1 p2 p3) (v0_254 p0 p1 p2 p3)))])) t
            refine XS.ifNo X67.here hx rfl (hb hby at_283) rfl ((if0 _ _).trans (teq (hc68)).2) ?_
            show Steps p.tables e below (T67.setTop (mkF m 286 (la0_38 p0 p1 p2 p3 b0_128 b0_134) [])) t
            exact k
          refine ORch.go (T' := T67) (g' := (mkF m 290 (la0_38 p0 p1 p2 p3 b0_128 b0_134) [(.int (v0_238 p0 p1 p2 p3)), (.int (v0_222 p0 p1 p2 p3))])) (fun t k => ?_) ?_
          · show Steps p.tables e below (T67.setTop (mkF m 286 (la0_38 p0 p1 p2 p3 b0_128 b0_134) [])) t
            refine XS.iload X67.here hx rfl (hb hby at_286) rfl ?_
            show Steps p.tables e below (T67.setTop (mkF m 288 (la0_38 p0 p1 p2 p3 b0_128 b0_134) [(.int (v0_222 p0 p1 p2 p3))])) t
            refine XS.iload X67.here hx rfl (hb hby at_288) rfl ?_
            show Steps p.tables e below (T67.setTop (mkF m 290 (la0_38 p0 p1 p2 p3 b0_128 b0_134) [(.int (v0_238 p0 p1 p2 p3)), (.int (v0_222 p0 p1 p2 p3))])) t
            exact k
          obtain ⟨_, _, ⟨T69, L69, k69, n69⟩, -, X69, ⟨Lc69, hQ69, l69, y69, z69⟩, st69⟩ := Jvm.LawKit.callS X67 hx (y := (⟨"com/example/nuthatch/nuthatch/logic/DemandsAgreePinLaw", "clash", "(II)Z"⟩ : MethodName)) hown (mvT hZ (hw _ (List.mem_of_getElem? (i := 6) rfl))) (mvT hZ (hw _ (List.mem_of_getElem? (i := 7) rfl))) (mvT hZ (hw _ (List.mem_of_getElem? (i := 4) rfl))) (mvT hZ (hw _ (List.mem_of_getElem? (i := 8) rfl))) (by decide) (backOf (W := 0) (rm2 l Z aZ hw [] (v0_222 p0 p1 p2 p3) (v0_238 p0 p1 p2 p3) h37 n0 Z37 ) hZ (hw _ (List.mem_of_getElem? (i := 8) rfl)) (hw _ (List.mem_of_getElem? (i := 4) rfl)) (by decide) (by decide)) (g := (mkF m 290 (la0_38 p0 p1 p2 p3 b0_128 b0_134) [(.int (v0_238 p0 p1 p2 p3)), (.int (v0_222 p0 p1 p2 p3))])) rfl (by rw [hml]; rfl) (argsL := [(.int (v0_222 p0 p1 p2 p3)), (.int (v0_238 p0 p1 p2 p3))]) (rest := []) (lenOf pd__II_Z rfl) rfl (by show 2 * 0 + _ ≤ _; exact Nat.le_of_eq rfl) (hb hby at_290) (fun _ _ => ⟨rfl, e67, (by decide : 2 + 0 ≤ _), (by decide : 6 + 0 ≤ _)⟩)
          dsimp only [Pt.U, Pt.locs, Pt.cells, Pt.slots] at X69 l69 y69 z69 st69 hQ69
          subst l69 y69 z69
          obtain ⟨rfl, N69q, e69⟩ := hQ69
          have N69 := Fr.app N67 N69q
          refine ORch.go (g' := (mkF m 293 (la0_38 p0 p1 p2 p3 b0_128 b0_134) [(.int (f2 (v0_222 p0 p1 p2 p3) (v0_238 p0 p1 p2 p3)))])) st69 ?_
          by_cases hc70 : (f2 (v0_222 p0 p1 p2 p3) (v0_238 p0 p1 p2 p3)) = (0 : Int32)
          · skip
            refine ORch.go (T' := T69) (g' := (mkF m 296 (la0_38 p0 p1 p2 p3 b0_128 b0_134) [])) (fun t k => ?_) ?_
            · show Steps p.tables e below (T69.setTop (mkF m 293 (la0_38 p0 p1 p2 p3 b0_128 b0_134) [(.int (f2 (v0_222 p0 p1 p2 p3) (v0_238 p0 p1 p2 p3)))])) t
              refine XS.ifNo X69.here hx rfl (hb hby at_293) rfl ((if0 _ _).trans (teq (hc70)).2) ?_
              show Steps p.tables e below (T69.setTop (mkF m 296 (la0_38 p0 p1 p2 p3 b0_128 b0_134) [])) t
              exact k
            refine ORch.go (T' := T69) (g' := (mkF m 300 (la0_38 p0 p1 p2 p3 b0_128 b0_134) [(.int (v0_246 p0 p1 p2 p3)), (.int (v0_222 p0 p1 p2 p3))])) (fun t k => ?_) ?_
            · show Steps p.tables e below (T69.setTop (mkF m 296 (la0_38 p0 p1 p2 p3 b0_128 b0_134) [])) t
              refine XS.iload X69.here hx rfl (hb hby at_296) rfl ?_
              show Steps p.tables e below (T69.setTop (mkF m 298 (la0_38 p0 p1 p2 p3 b0_128 b0_134) [(.int (v0_222 p0 p1 p2 p3))])) t
              refine XS.iload X69.here hx rfl (hb hby at_298) rfl ?_
              show Steps p.tables e below (T69.setTop (mkF m 300 (la0_38 p0 p1 p2 p3 b0_128 b0_134) [(.int (v0_246 p0 p1 p2 p3)), (.int (v0_222 p0 p1 p2 p3))])) t
              exact k
            obtain ⟨_, _, ⟨T71, L71, k71, n71⟩, -, X71, ⟨Lc71, hQ71, l71, y71, z71⟩, st71⟩ := Jvm.LawKit.callS X69 hx (y := (⟨"com/example/nuthatch/nuthatch/logic/DemandsAgreePinLaw", "clash", "(II)Z"⟩ : MethodName)) hown (mvT hZ (hw _ (List.mem_of_getElem? (i := 6) rfl))) (mvT hZ (hw _ (List.mem_of_getElem? (i := 7) rfl))) (mvT hZ (hw _ (List.mem_of_getElem? (i := 4) rfl))) (mvT hZ (hw _ (List.mem_of_getElem? (i := 8) rfl))) (by decide) (backOf (W := 0) (rm2 l Z aZ hw [] (v0_222 p0 p1 p2 p3) (v0_246 p0 p1 p2 p3) h37 n0 Z37 ) hZ (hw _ (List.mem_of_getElem? (i := 8) rfl)) (hw _ (List.mem_of_getElem? (i := 4) rfl)) (by decide) (by decide)) (g := (mkF m 300 (la0_38 p0 p1 p2 p3 b0_128 b0_134) [(.int (v0_246 p0 p1 p2 p3)), (.int (v0_222 p0 p1 p2 p3))])) rfl (by rw [hml]; rfl) (argsL := [(.int (v0_222 p0 p1 p2 p3)), (.int (v0_246 p0 p1 p2 p3))]) (rest := []) (lenOf pd__II_Z rfl) rfl (by show 2 * 0 + _ ≤ _; exact Nat.le_of_eq rfl) (hb hby at_300) (fun _ _ => ⟨rfl, e69, (by decide : 2 + 0 ≤ _), (by decide : 6 + 0 ≤ _)⟩)
            dsimp only [Pt.U, Pt.locs, Pt.cells, Pt.slots] at X71 l71 y71 z71 st71 hQ71
            subst l71 y71 z71
            obtain ⟨rfl, N71q, e71⟩ := hQ71
            have N71 := Fr.app N69 N71q
            refine ORch.go (g' := (mkF m 303 (la0_38 p0 p1 p2 p3 b0_128 b0_134) [(.int (f2 (v0_222 p0 p1 p2 p3) (v0_246 p0 p1 p2 p3)))])) st71 ?_
            by_cases hc72 : (f2 (v0_222 p0 p1 p2 p3) (v0_246 p0 p1 p2 p3)) = (0 : Int32)
            · skip
              refine ORch.go (T' := T71) (g' := (mkF m 306 (la0_38 p0 p1 p2 p3 b0_128 b0_134) [])) (fun t k => ?_) ?_
              · show Steps p.tables e below (T71.setTop (mkF m 303 (la0_38 p0 p1 p2 p3 b0_128 b0_134) [(.int (f2 (v0_222 p0 p1 p2 p3) (v0_246 p0 p1 p2 p3)))])) t
                refine XS.ifNo X71.here hx rfl (hb hby at_303) rfl ((if0 _ _).trans (teq (hc72)).2) ?_
                show Steps p.tables e below (T71.setTop (mkF m 306 (la0_38 p0 p1 p2 p3 b0_128 b0_134) [])) t
                exact k
              refine ORch.go (T' := T71) (g' := (mkF m 310 (la0_38 p0 p1 p2 p3 b0_128 b0_134) [(.int (v0_254 p0 p1 p2 p3)), (.int (v0_222 p0 p1 p2 p3))])) (fun t k => ?_) ?_
              · show Steps p.tables e below (T71.setTop (mkF m 306 (la0_38 p0 p1 p2 p3 b0_128 b0_134) [])) t
                refine XS.iload X71.here hx rfl (hb hby at_306) rfl ?_
                show Steps p.tables e below (T71.setTop (mkF m 308 (la0_38 p0 p1 p2 p3 b0_128 b0_134) [(.int (v0_222 p0 p1 p2 p3))])) t
                refine XS.iload X71.here hx rfl (hb hby at_308) rfl ?_
                show Steps p.tables e below (T71.setTop (mkF m 310 (la0_38 p0 p1 p2 p3 b0_128 b0_134) [(.int (v0_254 p0 p1 p2 p3)), (.int (v0_222 p0 p1 p2 p3))])) t
                exact k
              obtain ⟨_, _, ⟨T73, L73, k73, n73⟩, -, X73, ⟨Lc73, hQ73, l73, y73, z73⟩, st73⟩ := Jvm.LawKit.callS X71 hx (y := (⟨"com/example/nuthatch/nuthatch/logic/DemandsAgreePinLaw", "clash", "(II)Z"⟩ : MethodName)) hown (mvT hZ (hw _ (List.mem_of_getElem? (i := 6) rfl))) (mvT hZ (hw _ (List.mem_of_getElem? (i := 7) rfl))) (mvT hZ (hw _ (List.mem_of_getElem? (i := 4) rfl))) (mvT hZ (hw _ (List.mem_of_getElem? (i := 8) rfl))) (by decide) (backOf (W := 0) (rm2 l Z aZ hw [] (v0_222 p0 p1 p2 p3) (v0_254 p0 p1 p2 p3) h37 n0 Z37 ) hZ (hw _ (List.mem_of_getElem? (i := 8) rfl)) (hw _ (List.mem_of_getElem? (i := 4) rfl)) (by decide) (by decide)) (g := (mkF m 310 (la0_38 p0 p1 p2 p3 b0_128 b0_134) [(.int (v0_254 p0 p1 p2 p3)), (.int (v0_222 p0 p1 p2 p3))])) rfl (by rw [hml]; rfl) (argsL := [(.int (v0_222 p0 p1 p2 p3)), (.int (v0_254 p0 p1 p2 p3))]) (rest := []) (lenOf pd__II_Z rfl) rfl (by show 2 * 0 + _ ≤ _; exact Nat.le_of_eq rfl) (hb hby at_310) (fun _ _ => ⟨rfl, e71, (by decide : 2 + 0 ≤ _), (by decide : 6 + 0 ≤ _)⟩)
              dsimp only [Pt.U, Pt.locs, Pt.cells, Pt.slots] at X73 l73 y73 z73 st73 hQ73
              subst l73 y73 z73
              obtain ⟨rfl, N73q, e73⟩ := hQ73
              have N73 := Fr.app N71 N73q
              refine ORch.go (g' := (mkF m 313 (la0_38 p0 p1 p2 p3 b0_128 b0_134) [(.int (f2 (v0_222 p0 p1 p2 p3) (v0_254 p0 p1 p2 p3)))])) st73 ?_
              by_cases hc74 : (f2 (v0_222 p0 p1 p2 p3) (v0_254 p0 p1 p2 p3)) = (0 : Int32)
              · skip
                refine ORch.go (T' := T73) (g' := (mkF m 316 (la0_38 p0 p1 p2 p3 b0_128 b0_134) [])) (fun t k => ?_) ?_
                · show Steps p.tables e below (T73.setTop (mkF m 313 (la0_38 p0 p1 p2 p3 b0_128 b0_134) [(.int (f2 (v0_222 p0 p1 p2 p3) (v0_254 p0 p1 p2 p3)))])) t
                  refine XS.ifNo X73.here hx rfl (hb hby at_313) rfl ((if0 _ _).trans (teq (hc74)).2) ?_
                  show Steps p.tables e below (T73.setTop (mkF m 316 (la0_38 p0 p1 p2 p3 b0_128 b0_134) [])) t
                  exact k
                refine ORch.go (T' := T73) (g' := (mkF m 320 (la0_38 p0 p1 p2 p3 b0_128 b0_134) [(.int (v0_238 p0 p1 p2 p3)), (.int (v0_230 p0 p1 p2 p3))])) (fun t k => ?_) ?_
                · show Steps p.tables e below (T73.setTop (mkF m 316 (la0_38 p0 p1 p2 p3 b0_128 b0_134) [])) t
                  refine XS.iload X73.here hx rfl (hb hby at_316) rfl ?_
                  show Steps p.tables e below (T73.setTop (mkF m 318 (la0_38 p0 p1 p2 p3 b0_128 b0_134) [(.int (v0_230 p0 p1 p2 p3))])) t
                  refine XS.iload X73.here hx rfl (hb hby at_318) rfl ?_
                  show Steps p.tables e below (T73.setTop (mkF m 320 (la0_38 p0 p1 p2 p3 b0_128 b0_134) [(.int (v0_238 p0 p1 p2 p3)), (.int (v0_230 p0 p1 p2 p3))])) t
                  exact k
                obtain ⟨_, _, ⟨T75, L75, k75, n75⟩, -, X75, ⟨Lc75, hQ75, l75, y75, z75⟩, st75⟩ := Jvm.LawKit.callS X73 hx (y := (⟨"com/example/nuthatch/nuthatch/logic/DemandsAgreePinLaw", "clash", "(II)Z"⟩ : MethodName)) hown (mvT hZ (hw _ (List.mem_of_getElem? (i := 6) rfl))) (mvT hZ (hw _ (List.mem_of_getElem? (i := 7) rfl))) (mvT hZ (hw _ (List.mem_of_getElem? (i := 4) rfl))) (mvT hZ (hw _ (List.mem_of_getElem? (i := 8) rfl))) (by decide) (backOf (W := 0) (rm2 l Z aZ hw [] (v0_230 p0 p1 p2 p3) (v0_238 p0 p1 p2 p3) h37 n0 Z37 ) hZ (hw _ (List.mem_of_getElem? (i := 8) rfl)) (hw _ (List.mem_of_getElem? (i := 4) rfl)) (by decide) (by decide)) (g := (mkF m 320 (la0_38 p0 p1 p2 p3 b0_128 b0_134) [(.int (v0_238 p0 p1 p2 p3)), (.int (v0_230 p0 p1 p2 p3))])) rfl (by rw [hml]; rfl) (argsL := [(.int (v0_230 p0 p1 p2 p3)), (.int (v0_238 p0 p1 p2 p3))]) (rest := []) (lenOf pd__II_Z rfl) rfl (by show 2 * 0 + _ ≤ _; exact Nat.le_of_eq rfl) (hb hby at_320) (fun _ _ => ⟨rfl, e73, (by decide : 2 + 0 ≤ _), (by decide : 6 + 0 ≤ _)⟩)
                dsimp only [Pt.U, Pt.locs, Pt.cells, Pt.slots] at X75 l75 y75 z75 st75 hQ75
                subst l75 y75 z75
                obtain ⟨rfl, N75q, e75⟩ := hQ75
                have N75 := Fr.app N73 N75q
                refine ORch.go (g' := (mkF m 323 (la0_38 p0 p1 p2 p3 b0_128 b0_134) [(.int (f2 (v0_230 p0 p1 p2 p3) (v0_238 p0 p1 p2 p3)))])) st75 ?_
                by_cases hc76 : (f2 (v0_230 p0 p1 p2 p3) (v0_238 p0 p1 p2 p3)) = (0 : Int32)
                · skip
                  refine ORch.go (T' := T75) (g' := (mkF m 326 (la0_38 p0 p1 p2 p3 b0_128 b0_134) [])) (fun t k => ?_) ?_
                  · show Steps p.tables e below (T75.setTop (mkF m 323 (la0_38 p0 p1 p2 p3 b0_128 b0_134) [(.int (f2 (v0_230 p0 p1 p2 p3) (v0_238 p0 p1 p2 p3)))])) t
                    refine XS.ifNo X75.here hx rfl (hb hby at_323) rfl ((if0 _ _).trans (teq (hc76)).2) ?_
                    show Steps p.tables e below (T75.setTop (mkF m 326 (la0_38 p0 p1 p2 p3 b0_128 b0_134) [])) t
                    exact k
                  refine ORch.go (T' := T75) (g' := (mkF m 330 (la0_38 p0 p1 p2 p3 b0_128 b0_134) [(.int (v0_246 p0 p1 p2 p3)), (.int (v0_230 p0 p1 p2 p3))])) (fun t k => ?_) ?_
                  · show Steps p.tables e below (T75.setTop (mkF m 326 (la0_38 p0 p1 p2 p3 b0_128 b0_134) [])) t
                    refine XS.iload X75.here hx rfl (hb hby at_326) rfl ?_
                    show Steps p.tables e below (T75.setTop (mkF m 328 (la0_38 p0 p1 p2 p3 b0_128 b0_134) [(.int (v0_230 p0 p1 p2 p3))])) t
                    refine XS.iload X75.here hx rfl (hb hby at_328) rfl ?_
                    show Steps p.tables e below (T75.setTop (mkF m 330 (la0_38 p0 p1 p2 p3 b0_128 b0_134) [(.int (v0_246 p0 p1 p2 p3)), (.int (v0_230 p0 p1 p2 p3))])) t
                    exact k
                  obtain ⟨_, _, ⟨T77, L77, k77, n77⟩, -, X77, ⟨Lc77, hQ77, l77, y77, z77⟩, st77⟩ := Jvm.LawKit.callS X75 hx (y := (⟨"com/example/nuthatch/nuthatch/logic/DemandsAgreePinLaw", "clash", "(II)Z"⟩ : MethodName)) hown (mvT hZ (hw _ (List.mem_of_getElem? (i := 6) rfl))) (mvT hZ (hw _ (List.mem_of_getElem? (i := 7) rfl))) (mvT hZ (hw _ (List.mem_of_getElem? (i := 4) rfl))) (mvT hZ (hw _ (List.mem_of_getElem? (i := 8) rfl))) (by decide) (backOf (W := 0) (rm2 l Z aZ hw [] (v0_230 p0 p1 p2 p3) (v0_246 p0 p1 p2 p3) h37 n0 Z37 ) hZ (hw _ (List.mem_of_getElem? (i := 8) rfl)) (hw _ (List.mem_of_getElem? (i := 4) rfl)) (by decide) (by decide)) (g := (mkF m 330 (la0_38 p0 p1 p2 p3 b0_128 b0_134) [(.int (v0_246 p0 p1 p2 p3)), (.int (v0_230 p0 p1 p2 p3))])) rfl (by rw [hml]; rfl) (argsL := [(.int (v0_230 p0 p1 p2 p3)), (.int (v0_246 p0 p1 p2 p3))]) (rest := []) (lenOf pd__II_Z rfl) rfl (by show 2 * 0 + _ ≤ _; exact Nat.le_of_eq rfl) (hb hby at_330) (fun _ _ => ⟨rfl, e75, (by decide : 2 + 0 ≤ _), (by decide : 6 + 0 ≤ _)⟩)
                  dsimp only [Pt.U, Pt.locs, Pt.cells, Pt.slots] at X77 l77 y77 z77 st77 hQ77
                  subst l77 y77 z77
                  obtain ⟨rfl, N77q, e77⟩ := hQ77
                  have N77 := Fr.app N75 N77q
                  refine ORch.go (g' := (mkF m 333 (la0_38 p0 p1 p2 p3 b0_128 b0_134) [(.int (f2 (v0_230 p0 p1 p2 p3) (v0_246 p0 p1 p2 p3)))])) st77 ?_
                  by_cases hc78 : (f2 (v0_230 p0 p1 p2 p3) (v0_246 p0 p1 p2 p3)) = (0 : Int32)
                  · skip
                    refine ORch.go (T' := T77) (g' := (mkF m 336 (la0_38 p0 p1 p2 p3 b0_128 b0_134) [])) (fun t k => ?_) ?_
                    · show Steps p.tables e below (T77.setTop (mkF m 333 (la0_38 p0 p1 p2 p3 b0_128 b0_134) [(.int (f2 (v0_230 p0 p1 p2 p3) (v0_246 p0 p1 p2 p3)))])) t
                      refine XS.ifNo X77.here hx rfl (hb hby at_333) rfl ((if0 _ _).trans (teq (hc78)).2) ?_
                      show Steps p.tables e below (T77.setTop (mkF m 336 (la0_38 p0 p1 p2 p3 b0_128 b0_134) [])) t
                      exact k
                    refine ORch.go (T' := T77) (g' := (mkF m 340 (la0_38 p0 p1 p2 p3 b0_128 b0_134) [(.int (v0_254 p0 p1 p2 p3)), (.int (v0_230 p0 p1 p2 p3))])) (fun t k => ?_) ?_
                    · show Steps p.tables e below (T77.setTop (mkF m 336 (la0_38 p0 p1 p2 p3 b0_128 b0_134) [])) t
                      refine XS.iload X77.here hx rfl (hb hby at_336) rfl ?_
                      show Steps p.tables e below (T77.setTop (mkF m 338 (la0_38 p0 p1 p2 p3 b0_128 b0_134) [(.int (v0_230 p0 p1 p2 p3))])) t
                      refine XS.iload X77.here hx rfl (hb hby at_338) rfl ?_
                      show Steps p.tables e below (T77.setTop (mkF m 340 (la0_38 p0 p1 p2 p3 b0_128 b0_134) [(.int (v0_254 p0 p1 p2 p3)), (.int (v0_230 p0 p1 p2 p3))])) t
                      exact k
                    obtain ⟨_, _, ⟨T79, L79, k79, n79⟩, -, X79, ⟨Lc79, hQ79, l79, y79, z79⟩, st79⟩ := Jvm.LawKit.callS X77 hx (y := (⟨"com/example/nuthatch/nuthatch/logic/DemandsAgreePinLaw", "clash", "(II)Z"⟩ : MethodName)) hown (mvT hZ (hw _ (List.mem_of_getElem? (i := 6) rfl))) (mvT hZ (hw _ (List.mem_of_getElem? (i := 7) rfl))) (mvT hZ (hw _ (List.mem_of_getElem? (i := 4) rfl))) (mvT hZ (hw _ (List.mem_of_getElem? (i := 8) rfl))) (by decide) (backOf (W := 0) (rm2 l Z aZ hw [] (v0_230 p0 p1 p2 p3) (v0_254 p0 p1 p2 p3) h37 n0 Z37 ) hZ (hw _ (List.mem_of_getElem? (i := 8) rfl)) (hw _ (List.mem_of_getElem? (i := 4) rfl)) (by decide) (by decide)) (g := (mkF m 340 (la0_38 p0 p1 p2 p3 b0_128 b0_134) [(.int (v0_254 p0 p1 p2 p3)), (.int (v0_230 p0 p1 p2 p3))])) rfl (by rw [hml]; rfl) (argsL := [(.int (v0_230 p0 p1 p2 p3)), (.int (v0_254 p0 p1 p2 p3))]) (rest := []) (lenOf pd__II_Z rfl) rfl (by show 2 * 0 + _ ≤ _; exact Nat.le_of_eq rfl) (hb hby at_340) (fun _ _ => ⟨rfl, e77, (by decide : 2 + 0 ≤ _), (by decide : 6 + 0 ≤ _)⟩)
                    dsimp only [Pt.U, Pt.locs, Pt.cells, Pt.slots] at X79 l79 y79 z79 st79 hQ79
                    subst l79 y79 z79
                    obtain ⟨rfl, N79q, e79⟩ := hQ79
                    have N79 := Fr.app N77 N79q
                    refine ORch.go (g' := (mkF m 343 (la0_38 p0 p1 p2 p3 b0_128 b0_134) [(.int (f2 (v0_230 p0 p1 p2 p3) (v0_254 p0 p1 p2 p3)))])) st79 ?_
                    by_cases hc80 : (f2 (v0_230 p0 p1 p2 p3) (v0_254 p0 p1 p2 p3)) = (0 : Int32)
                    · skip
                      refine ORch.go (T' := T79) (g' := (mkF m 350 (la0_38 p0 p1 p2 p3 b0_128 b0_134) [])) (fun t k => ?_) ?_
                      · show Steps p.tables e below (T79.setTop (mkF m 343 (la0_38 p0 p1 p2 p3 b0_128 b0_134) [(.int (f2 (v0_230 p0 p1 p2 p3) (v0_254 p0 p1 p2 p3)))])) t
                        refine XS.ifYes X79.here hx rfl (pc0 := 343) (pc' := 350) rfl (hb hby at_343) rfl ((if0 _ _).trans (teq (hc80)).1) (by decide) (by decide) ?_
                        show Steps p.tables e below (T79.setTop (mkF m 350 (la0_38 p0 p1 p2 p3 b0_128 b0_134) [])) t
                        exact k
                      refine ORch.go (T' := T79) (g' := (mkF m 351 (la0_38 p0 p1 p2 p3 b0_128 b0_134) [(.int (0 : Int32))])) (fun t k => ?_) ?_
                      · show Steps p.tables e below (T79.setTop (mkF m 350 (la0_38 p0 p1 p2 p3 b0_128 b0_134) [])) t
                        refine XS.iconst X79.here hx rfl (hb hby at_350) ?_
                        show Steps p.tables e below (T79.setTop (mkF m 351 (la0_38 p0 p1 p2 p3 b0_128 b0_134) [(.int (0 : Int32))])) t
                        exact k
                      exact ⟨_, _, X79, e79, N79, fun t k => (own_k (f := fun (z : Int32) => mkF m 351 #[.val (.int p0), .val (.int p1), .val (.int p2), .val (.int p3), .val (.int (v0_6 p0 p1 p2 p3)), .val (.int (p1 &&& (3 : Int32))), .val (.int (v0_18 p0 p1 p2 p3)), .val (.int (v0_27 p0 p1 p2 p3)), .val (.int (v0_38 p0 p1 p2 p3)), .val (.int (v0_50 p0 p1 p2 p3)), .val (.int (v0_61 p0 p1 p2 p3)), .val (.int (v0_73 p0 p1 p2 p3)), .val (.int (v0_85 p0 p1 p2 p3)), .val (.int (v0_98 p0 p1 p2 p3)), .val (.int (v0_111 p0 p1 p2 p3)), .val (.int (v0_124 p0 p1 p2 p3)), .val (.ref b0_128), .val (.ref b0_134), .val (.int (v0_214 p0 p1 p2 p3)), .val (.int (v0_222 p0 p1 p2 p3)), .val (.int (v0_230 p0 p1 p2 p3)), .val (.int (v0_238 p0 p1 p2 p3)), .val (.int (v0_246 p0 p1 p2 p3)), .val (.int (v0_254 p0 p1 p2 p3)), .unset, .unset] [(.int z)]) ((if_pos hc63).trans ((if_pos hc66).trans ((if_pos hc68).trans ((if_pos hc70).trans ((if_pos hc72).trans ((if_pos hc74).trans ((if_pos hc76).trans ((if_pos hc78).trans (if_pos hc80))))))))) k)⟩
                    · skip
                      refine ORch.go (T' := T79) (g' := (mkF m 346 (la0_38 p0 p1 p2 p3 b0_128 b0_134) [])) (fun t k => ?_) ?_
                      · show Steps p.tables e below (T79.setTop (mkF m 343 (la0_38 p0 p1 p2 p3 b0_128 b0_134) [(.int (f2 (v0_230 p0 p1 p2 p3) (v0_254 p0 p1 p2 p3)))])) t
                        refine XS.ifNo X79.here hx rfl (hb hby at_343) rfl ((if0 _ _).trans (feq (hc80)).1) ?_
                        show Steps p.tables e below (T79.setTop (mkF m 346 (la0_38 p0 p1 p2 p3 b0_128 b0_134) [])) t
                        exact k
                      refine ORch.go (T' := T79) (g' := (mkF m 351 (la0_38 p0 p1 p2 p3 b0_128 b0_134) [(.int (1 : Int32))])) (fun t k => ?_) ?_
                      · show Steps p.tables e below (T79.setTop (mkF m 346 (la0_38 p0 p1 p2 p3 b0_128 b0_134) [])) t
                        refine XS.iconst X79.here hx rfl (hb hby at_346) ?_
                        show Steps p.tables e below (T79.setTop (mkF m 347 (la0_38 p0 p1 p2 p3 b0_128 b0_134) [(.int (1 : Int32))])) t
                        refine XS.goto X79.here hx rfl (pc0 := 347) (pc' := 351) rfl (hb hby at_347) (by decide) (by decide) ?_
                        show Steps p.tables e below (T79.setTop (mkF m 351 (la0_38 p0 p1 p2 p3 b0_128 b0_134) [(.int (1 : Int32))])) t
                        exact k
                      exact ⟨_, _, X79, e79, N79, fun t k => (own_k (f := fun (z : Int32) => mkF m 351 #[.val (.int p0), .val (.int p1), .val (.int p2), .val (.int p3), .val (.int (v0_6 p0 p1 p2 p3)), .val (.int (p1 &&& (3 : Int32))), .val (.int (v0_18 p0 p1 p2 p3)), .val (.int (v0_27 p0 p1 p2 p3)), .val (.int (v0_38 p0 p1 p2 p3)), .val (.int (v0_50 p0 p1 p2 p3)), .val (.int (v0_61 p0 p1 p2 p3)), .val (.int (v0_73 p0 p1 p2 p3)), .val (.int (v0_85 p0 p1 p2 p3)), .val (.int (v0_98 p0 p1 p2 p3)), .val (.int (v0_111 p0 p1 p2 p3)), .val (.int (v0_124 p0 p1 p2 p3)), .val (.ref b0_128), .val (.ref b0_134), .val (.int (v0_214 p0 p1 p2 p3)), .val (.int (v0_222 p0 p1 p2 p3)), .val (.int (v0_230 p0 p1 p2 p3)), .val (.int (v0_238 p0 p1 p2 p3)), .val (.int (v0_246 p0 p1 p2 p3)), .val (.int (v0_254 p0 p1 p2 p3)), .unset, .unset] [(.int z)]) ((if_pos hc63).trans ((if_pos hc66).trans ((if_pos hc68).trans ((if_pos hc70).trans ((if_pos hc72).trans ((if_pos hc74).trans ((if_pos hc76).trans ((if_pos hc78).trans (if_neg hc80))))))))) k)⟩
                  · skip
                    refine ORch.go (T' := T77) (g' := (mkF m 346 (la0_38 p0 p1 p2 p3 b0_128 b0_134) [])) (fun t k => ?_) ?_
                    · show Steps p.tables e below (T77.setTop (mkF m 333 (la0_38 p0 p1 p2 p3 b0_128 b0_134) [(.int (f2 (v0_230 p0 p1 p2 p3) (v0_246 p0 p1 p2 p3)))])) t
                      refine XS.ifYes X77.here hx rfl (pc0 := 333) (pc' := 346) rfl (hb hby at_333) rfl ((if0 _ _).trans (feq (hc78)).2) (by decide) (by decide) ?_
                      show Steps p.tables e below (T77.setTop (mkF m 346 (la0_38 p0 p1 p2 p3 b0_128 b0_134) [])) t
                      exact k
                    refine ORch.go (T' := T77) (g' := (mkF m 351 (la0_38 p0 p1 p2 p3 b0_128 b0_134) [(.int (1 : Int32))])) (fun t k => ?_) ?_
                    · show Steps p.tables e below (T77.setTop (mkF m 346 (la0_38 p0 p1 p2 p3 b0_128 b0_134) [])) t
                      refine XS.iconst X77.here hx rfl (hb hby at_346) ?_
                      show Steps p.tables e below (T77.setTop (mkF m 347 (la0_38 p0 p1 p2 p3 b0_128 b0_134) [(.int (1 : Int32))])) t
                      refine XS.goto X77.here hx rfl (pc0 := 347) (pc' := 351) rfl (hb hby at_347) (by decide) (by decide) ?_
                      show Steps p.tables e below (T77.setTop (mkF m 351 (la0_38 p0 p1 p2 p3 b0_128 b0_134) [(.int (1 : Int32))])) t
                      exact k
                    exact ⟨_, _, X77, e77, N77, fun t k => (own_k (f := fun (z : Int32) => mkF m 351 #[.val (.int p0), .val (.int p1), .val (.int p2), .val (.int p3), .val (.int (v0_6 p0 p1 p2 p3)), .val (.int (p1 &&& (3 : Int32))), .val (.int (v0_18 p0 p1 p2 p3)), .val (.int (v0_27 p0 p1 p2 p3)), .val (.int (v0_38 p0 p1 p2 p3)), .val (.int (v0_50 p0 p1 p2 p3)), .val (.int (v0_61 p0 p1 p2 p3)), .val (.int (v0_73 p0 p1 p2 p3)), .val (.int (v0_85 p0 p1 p2 p3)), .val (.int (v0_98 p0 p1 p2 p3)), .val (.int (v0_111 p0 p1 p2 p3)), .val (.int (v0_124 p0 p1 p2 p3)), .val (.ref b0_128), .val (.ref b0_134), .val (.int (v0_214 p0 p1 p2 p3)), .val (.int (v0_222 p0 p1 p2 p3)), .val (.int (v0_230 p0 p1 p2 p3)), .val (.int (v0_238 p0 p1 p2 p3)), .val (.int (v0_246 p0 p1 p2 p3)), .val (.int (v0_254 p0 p1 p2 p3)), .unset, .unset] [(.int z)]) ((if_pos hc63).trans ((if_pos hc66).trans ((if_pos hc68).trans ((if_pos hc70).trans ((if_pos hc72).trans ((if_pos hc74).trans ((if_pos hc76).trans (if_neg hc78)))))))) k)⟩
                · skip
                  refine ORch.go (T' := T75) (g' := (mkF m 346 (la0_38 p0 p1 p2 p3 b0_128 b0_134) [])) (fun t k => ?_) ?_
                  · show Steps p.tables e below (T75.setTop (mkF m 323 (la0_38 p0 p1 p2 p3 b0_128 b0_134) [(.int (f2 (v0_230 p0 p1 p2 p3) (v0_238 p0 p1 p2 p3)))])) t
                    refine XS.ifYes X75.here hx rfl (pc0 := 323) (pc' := 346) rfl (hb hby at_323) rfl ((if0 _ _).trans (feq (hc76)).2) (by decide) (by decide) ?_
                    show Steps p.tables e below (T75.setTop (mkF m 346 (la0_38 p0 p1 p2 p3 b0_128 b0_134) [])) t
                    exact k
                  refine ORch.go (T' := T75) (g' := (mkF m 351 (la0_38 p0 p1 p2 p3 b0_128 b0_134) [(.int (1 : Int32))])) (fun t k => ?_) ?_
                  · show Steps p.tables e below (T75.setTop (mkF m 346 (la0_38 p0 p1 p2 p3 b0_128 b0_134) [])) t
                    refine XS.iconst X75.here hx rfl (hb hby at_346) ?_
                    show Steps p.tables e below (T75.setTop (mkF m 347 (la0_38 p0 p1 p2 p3 b0_128 b0_134) [(.int (1 : Int32))])) t
                    refine XS.goto X75.here hx rfl (pc0 := 347) (pc' := 351) rfl (hb hby at_347) (by decide) (by decide) ?_
                    show Steps p.tables e below (T75.setTop (mkF m 351 (la0_38 p0 p1 p2 p3 b0_128 b0_134) [(.int (1 : Int32))])) t
                    exact k
                  exact ⟨_, _, X75, e75, N75, fun t k => (own_k (f := fun (z : Int32) => mkF m 351 #[.val (.int p0), .val (.int p1), .val (.int p2), .val (.int p3), .val (.int (v0_6 p0 p1 p2 p3)), .val (.int (p1 &&& (3 : Int32))), .val (.int (v0_18 p0 p1 p2 p3)), .val (.int (v0_27 p0 p1 p2 p3)), .val (.int (v0_38 p0 p1 p2 p3)), .val (.int (v0_50 p0 p1 p2 p3)), .val (.int (v0_61 p0 p1 p2 p3)), .val (.int (v0_73 p0 p1 p2 p3)), .val (.int (v0_85 p0 p1 p2 p3)), .val (.int (v0_98 p0 p1 p2 p3)), .val (.int (v0_111 p0 p1 p2 p3)), .val (.int (v0_124 p0 p1 p2 p3)), .val (.ref b0_128), .val (.ref b0_134), .val (.int (v0_214 p0 p1 p2 p3)), .val (.int (v0_222 p0 p1 p2 p3)), .val (.int (v0_230 p0 p1 p2 p3)), .val (.int (v0_238 p0 p1 p2 p3)), .val (.int (v0_246 p0 p1 p2 p3)), .val (.int (v0_254 p0 p1 p2 p3)), .unset, .unset] [(.int z)]) ((if_pos hc63).trans ((if_pos hc66).trans ((if_pos hc68).trans ((if_pos hc70).trans ((if_pos hc72).trans ((if_pos hc74).trans (if_neg hc76))))))) k)⟩
              · skip
                refine ORch.go (T' := T73) (g' := (mkF m 346 (la0_38 p0 p1 p2 p3 b0_128 b0_134) [])) (fun t k => ?_) ?_
                · show Steps p.tables e below (T73.setTop (mkF m 313 (la0_38 p0 p1 p2 p3 b0_128 b0_134) [(.int (f2 (v0_222 p0 p1 p2 p3) (v0_254 p0 p1 p2 p3)))])) t
                  refine XS.ifYes X73.here hx rfl (pc0 := 313) (pc' := 346) rfl (hb hby at_313) rfl ((if0 _ _).trans (feq (hc74)).2) (by decide) (by decide) ?_
                  show Steps p.tables e below (T73.setTop (mkF m 346 (la0_38 p0 p1 p2 p3 b0_128 b0_134) [])) t
                  exact k
                refine ORch.go (T' := T73) (g' := (mkF m 351 (la0_38 p0 p1 p2 p3 b0_128 b0_134) [(.int (1 : Int32))])) (fun t k => ?_) ?_
                · show Steps p.tables e below (T73.setTop (mkF m 346 (la0_38 p0 p1 p2 p3 b0_128 b0_134) [])) t
                  refine XS.iconst X73.here hx rfl (hb hby at_346) ?_
                  show Steps p.tables e below (T73.setTop (mkF m 347 (la0_38 p0 p1 p2 p3 b0_128 b0_134) [(.int (1 : Int32))])) t
                  refine XS.goto X73.here hx rfl (pc0 := 347) (pc' := 351) rfl (hb hby at_347) (by decide) (by decide) ?_
                  show Steps p.tables e below (T73.setTop (mkF m 351 (la0_38 p0 p1 p2 p3 b0_128 b0_134) [(.int (1 : Int32))])) t
                  exact k
                exact ⟨_, _, X73, e73, N73, fun t k => (own_k (f := fun (z : Int32) => mkF m 351 #[.val (.int p0), .val (.int p1), .val (.int p2), .val (.int p3), .val (.int (v0_6 p0 p1 p2 p3)), .val (.int (p1 &&& (3 : Int32))), .val (.int (v0_18 p0 p1 p2 p3)), .val (.int (v0_27 p0 p1 p2 p3)), .val (.int (v0_38 p0 p1 p2 p3)), .val (.int (v0_50 p0 p1 p2 p3)), .val (.int (v0_61 p0 p1 p2 p3)), .val (.int (v0_73 p0 p1 p2 p3)), .val (.int (v0_85 p0 p1 p2 p3)), .val (.int (v0_98 p0 p1 p2 p3)), .val (.int (v0_111 p0 p1 p2 p3)), .val (.int (v0_124 p0 p1 p2 p3)), .val (.ref b0_128), .val (.ref b0_134), .val (.int (v0_214 p0 p1 p2 p3)), .val (.int (v0_222 p0 p1 p2 p3)), .val (.int (v0_230 p0 p1 p2 p3)), .val (.int (v0_238 p0 p1 p2 p3)), .val (.int (v0_246 p0 p1 p2 p3)), .val (.int (v0_254 p0 p1 p2 p3)), .unset, .unset] [(.int z)]) ((if_pos hc63).trans ((if_pos hc66).trans ((if_pos hc68).trans ((if_pos hc70).trans ((if_pos hc72).trans (if_neg hc74)))))) k)⟩
            · skip
              refine ORch.go (T' := T71) (g' := (mkF m 346 (la0_38 p0 p1 p2 p3 b0_128 b0_134) [])) (fun t k => ?_) ?_
              · show Steps p.tables e below (T71.setTop (mkF m 303 (la0_38 p0 p1 p2 p3 b0_128 b0_134) [(.int (f2 (v0_222 p0 p1 p2 p3) (v0_246 p0 p1 p2 p3)))])) t
                refine XS.ifYes X71.here hx rfl (pc0 := 303) (pc' := 346) rfl (hb hby at_303) rfl ((if0 _ _).trans (feq (hc72)).2) (by decide) (by decide) ?_
                show Steps p.tables e below (T71.setTop (mkF m 346 (la0_38 p0 p1 p2 p3 b0_128 b0_134) [])) t
                exact k
              refine ORch.go (T' := T71) (g' := (mkF m 351 (la0_38 p0 p1 p2 p3 b0_128 b0_134) [(.int (1 : Int32))])) (fun t k => ?_) ?_
              · show Steps p.tables e below (T71.setTop (mkF m 346 (la0_38 p0 p1 p2 p3 b0_128 b0_134) [])) t
                refine XS.iconst X71.here hx rfl (hb hby at_346) ?_
                show Steps p.tables e below (T71.setTop (mkF m 347 (la0_38 p0 p1 p2 p3 b0_128 b0_134) [(.int (1 : Int32))])) t
                refine XS.goto X71.here hx rfl (pc0 := 347) (pc' := 351) rfl (hb hby at_347) (by decide) (by decide) ?_
                show Steps p.tables e below (T71.setTop (mkF m 351 (la0_38 p0 p1 p2 p3 b0_128 b0_134) [(.int (1 : Int32))])) t
                exact k
              exact ⟨_, _, X71, e71, N71, fun t k => (own_k (f := fun (z : Int32) => mkF m 351 #[.val (.int p0), .val (.int p1), .val (.int p2), .val (.int p3), .val (.int (v0_6 p0 p1 p2 p3)), .val (.int (p1 &&& (3 : Int32))), .val (.int (v0_18 p0 p1 p2 p3)), .val (.int (v0_27 p0 p1 p2 p3)), .val (.int (v0_38 p0 p1 p2 p3)), .val (.int (v0_50 p0 p1 p2 p3)), .val (.int (v0_61 p0 p1 p2 p3)), .val (.int (v0_73 p0 p1 p2 p3)), .val (.int (v0_85 p0 p1 p2 p3)), .val (.int (v0_98 p0 p1 p2 p3)), .val (.int (v0_111 p0 p1 p2 p3)), .val (.int (v0_124 p0 p1 p2 p3)), .val (.ref b0_128), .val (.ref b0_134), .val (.int (v0_214 p0 p1 p2 p3)), .val (.int (v0_222 p0 p1 p2 p3)), .val (.int (v0_230 p0 p1 p2 p3)), .val (.int (v0_238 p0 p1 p2 p3)), .val (.int (v0_246 p0 p1 p2 p3)), .val (.int (v0_254 p0 p1 p2 p3)), .unset, .unset] [(.int z)]) ((if_pos hc63).trans ((if_pos hc66).trans ((if_pos hc68).trans ((if_pos hc70).trans (if_neg hc72))))) k)⟩
          · skip
            refine ORch.go (T' := T69) (g' := (mkF m 346 (la0_38 p0 p1 p2 p3 b0_128 b0_134) [])) (fun t k => ?_) ?_
            · show Steps p.tables e below (T69.setTop (mkF m 293 (la0_38 p0 p1 p2 p3 b0_128 b0_134) [(.int (f2 (v0_222 p0 p1 p2 p3) (v0_238 p0 p1 p2 p3)))])) t
              refine XS.ifYes X69.here hx rfl (pc0 := 293) (pc' := 346) rfl (hb hby at_293) rfl ((if0 _ _).trans (feq (hc70)).2) (by decide) (by decide) ?_
              show Steps p.tables e below (T69.setTop (mkF m 346 (la0_38 p0 p1 p2 p3 b0_128 b0_134) [])) t
              exact k
            refine ORch.go (T' := T69) (g' := (mkF m 351 (la0_38 p0 p1 p2 p3 b0_128 b0_134) [(.int (1 : Int32))])) (fun t k => ?_) ?_
            · show Steps p.tables e below (T69.setTop (mkF m 346 (la0_38 p0 p1 p2 p3 b0_128 b0_134) [])) t
              refine XS.iconst X69.here hx rfl (hb hby at_346) ?_
              show Steps p.tables e below (T69.setTop (mkF m 347 (la0_38 p0 p1 p2 p3 b0_128 b0_134) [(.int (1 : Int32))])) t
              refine XS.goto X69.here hx rfl (pc0 := 347) (pc' := 351) rfl (hb hby at_347) (by decide) (by decide) ?_
              show Steps p.tables e below (T69.setTop (mkF m 351 (la0_38 p0 p1 p2 p3 b0_128 b0_134) [(.int (1 : Int32))])) t
              exact k
            exact ⟨_, _, X69, e69, N69, fun t k => (own_k (f := fun (z : Int32) => mkF m 351 #[.val (.int p0), .val (.int p1), .val (.int p2), .val (.int p3), .val (.int (v0_6 p0 p1 p2 p3)), .val (.int (p1 &&& (3 : Int32))), .val (.int (v0_18 p0 p1 p2 p3)), .val (.int (v0_27 p0 p1 p2 p3)), .val (.int (v0_38 p0 p1 p2 p3)), .val (.int (v0_50 p0 p1 p2 p3)), .val (.int (v0_61 p0 p1 p2 p3)), .val (.int (v0_73 p0 p1 p2 p3)), .val (.int (v0_85 p0 p1 p2 p3)), .val (.int (v0_98 p0 p1 p2 p3)), .val (.int (v0_111 p0 p1 p2 p3)), .val (.int (v0_124 p0 p1 p2 p3)), .val (.ref b0_128), .val (.ref b0_134), .val (.int (v0_214 p0 p1 p2 p3)), .val (.int (v0_222 p0 p1 p2 p3)), .val (.int (v0_230 p0 p1 p2 p3)), .val (.int (v0_238 p0 p1 p2 p3)), .val (.int (v0_246 p0 p1 p2 p3)), .val (.int (v0_254 p0 p1 p2 p3)), .unset, .unset] [(.int z)]) ((if_pos hc63).trans ((if_pos hc66).trans ((if_pos hc68).trans (if_neg hc70)))) k)⟩
        · skip
          refine ORch.go (T' := T67) (g' := (mkF m 346 (la0_38 p0 p1 p2 p3 b0_128 b0_134) [])) (fun t k => ?_) ?_
          · show Steps p.tables e below (T67.setTop (mkF m 283 (la0_38 p0 p1 p2 p3 b0_128 b0_134) [(.int (f2 (v0_214 p0 p1 p2 p3) (v0_254 p0 p1 p2 p3)))])) t
            refine XS.ifYes X67.here hx rfl (pc0 := 283) (pc' := 346) rfl (hb hby at_283) rfl ((if0 _ _).trans (feq (hc68)).2) (by decide) (by decide) ?_
            show Steps p.tables e below (T67.setTop (mkF m 346 (la0_38 p0 p1 p2 p3 b0_128 b0_134) [])) t
            exact k
          refine ORch.go (T' := T67) (g' := (mkF m 351 (la0_38 p0 p1 p2 p3 b0_128 b0_134) [(.int (1 : Int32))])) (fun t k => ?_) ?_
          · show Steps p.tables e below (T67.setTop (mkF m 346 (la0_38 p0 p1 p2 p3 b0_128 b0_134) [])) t
            refine XS.iconst X67.here hx rfl (hb hby at_346) ?_
            show Steps p.tables e below (T67.setTop (mkF m 347 (la0_38 p0 p1 p2 p3 b0_128 b0_134) [(.int (1 : Int32))])) t
            refine XS.goto X67.here hx rfl (pc0 := 347) (pc' := 351) rfl (hb hby at_347) (by decide) (by decide) ?_
            show Steps p.tables e below (T67.setTop (mkF m 351 (la0_38 p0 p1 p2 p3 b0_128 b0_134) [(.int (1 : Int32))])) t
            exact k
          exact ⟨_, _, X67, e67, N67, fun t k => (own_k (f := fun (z : Int32) => mkF m 351 #[.val (.int p0), .val (.int p1), .val (.int p2), .val (.int p3), .val (.int (v0_6 p0 p1 p2 p3)), .val (.int (p1 &&& (3 : Int32))), .val (.int (v0_18 p0 p1 p2 p3)), .val (.int (v0_27 p0 p1 p2 p3)), .val (.int (v0_38 p0 p1 p2 p3)), .val (.int (v0_50 p0 p1 p2 p3)), .val (.int (v0_61 p0 p1 p2 p3)), .val (.int (v0_73 p0 p1 p2 p3)), .val (.int (v0_85 p0 p1 p2 p3)), .val (.int (v0_98 p0 p1 p2 p3)), .val (.int (v0_111 p0 p1 p2 p3)), .val (.int (v0_124 p0 p1 p2 p3)), .val (.ref b0_128), .val (.ref b0_134), .val (.int (v0_214 p0 p1 p2 p3)), .val (.int (v0_222 p0 p1 p2 p3)), .val (.int (v0_230 p0 p1 p2 p3)), .val (.int (v0_238 p0 p1 p2 p3)), .val (.int (v0_246 p0 p1 p2 p3)), .val (.int (v0_254 p0 p1 p2 p3)), .unset, .unset] [(.int z)]) ((if_pos hc63).trans ((if_pos hc66).trans (if_neg hc68))) k)⟩
      · skip
        refine ORch.go (T' := T65) (g' := (mkF m 346 (la0_38 p0 p1 p2 p3 b0_128 b0_134) [])) (fun t k => ?_) ?_
        · show Steps p.tables e below (T65.setTop (mkF m 273 (la0_38 p0 p1 p2 p3 b0_128 b0_134) [(.int (f2 (v0_214 p0 p1 p2 p3) (v0_246 p0 p1 p2 p3)))])) t
          refine XS.ifYes X65.here hx rfl (pc0 := 273) (pc' := 346) rfl (hb hby at_273) rfl ((if0 _ _).trans (feq (hc66)).2) (by decide) (by decide) ?_
          show Steps p.tables e below (T65.setTop (mkF m 346 (la0_38 p0 p1 p2 p3 b0_128 b0_134) [])) t
          exact k
        refine ORch.go (T' := T65) (g' := (mkF m 351 (la0_38 p0 p1 p2 p3 b0_128 b0_134) [(.int (1 : Int32))])) (fun t k => ?_) ?_
        · show Steps p.tables e below (T65.setTop (mkF m 346 (la0_38 p0 p1 p2 p3 b0_128 b0_134) [])) t
          refine XS.iconst X65.here hx rfl (hb hby at_346) ?_
          show Steps p.tables e below (T65.setTop (mkF m 347 (la0_38 p0 p1 p2 p3 b0_128 b0_134) [(.int (1 : Int32))])) t
          refine XS.goto X65.here hx rfl (pc0 := 347) (pc' := 351) rfl (hb hby at_347) (by decide) (by decide) ?_
          show Steps p.tables e below (T65.setTop (mkF m 351 (la0_38 p0 p1 p2 p3 b0_128 b0_134) [(.int (1 : Int32))])) t
          exact k
        exact ⟨_, _, X65, e65, N65, fun t k => (own_k (f := fun (z : Int32) => mkF m 351 #[.val (.int p0), .val (.int p1), .val (.int p2), .val (.int p3), .val (.int (v0_6 p0 p1 p2 p3)), .val (.int (p1 &&& (3 : Int32))), .val (.int (v0_18 p0 p1 p2 p3)), .val (.int (v0_27 p0 p1 p2 p3)), .val (.int (v0_38 p0 p1 p2 p3)), .val (.int (v0_50 p0 p1 p2 p3)), .val (.int (v0_61 p0 p1 p2 p3)), .val (.int (v0_73 p0 p1 p2 p3)), .val (.int (v0_85 p0 p1 p2 p3)), .val (.int (v0_98 p0 p1 p2 p3)), .val (.int (v0_111 p0 p1 p2 p3)), .val (.int (v0_124 p0 p1 p2 p3)), .val (.ref b0_128), .val (.ref b0_134), .val (.int (v0_214 p0 p1 p2 p3)), .val (.int (v0_222 p0 p1 p2 p3)), .val (.int (v0_230 p0 p1 p2 p3)), .val (.int (v0_238 p0 p1 p2 p3)), .val (.int (v0_246 p0 p1 p2 p3)), .val (.int (v0_254 p0 p1 p2 p3)), .unset, .unset] [(.int z)]) ((if_pos hc63).trans (if_neg hc66)) k)⟩
    · skip
      refine ORch.go (T' := T62) (g' := (mkF m 346 (la0_38 p0 p1 p2 p3 b0_128 b0_134) [])) (fun t k => ?_) ?_
      · show Steps p.tables e below (T62.setTop (mkF m 263 (la0_38 p0 p1 p2 p3 b0_128 b0_134) [(.int (f2 (v0_214 p0 p1 p2 p3) (v0_238 p0 p1 p2 p3)))])) t
        refine XS.ifYes X62.here hx rfl (pc0 := 263) (pc' := 346) rfl (hb hby at_263) rfl ((if0 _ _).trans (feq (hc63)).2) (by decide) (by decide) ?_
        show Steps p.tables e below (T62.setTop (mkF m 346 (la0_38 p0 p1 p2 p3 b0_128 b0_134) [])) t
        exact k
      refine ORch.go (T' := T62) (g' := (mkF m 351 (la0_38 p0 p1 p2 p3 b0_128 b0_134) [(.int (1 : Int32))])) (fun t k => ?_) ?_
      · show Steps p.tables e below (T62.setTop (mkF m 346 (la0_38 p0 p1 p2 p3 b0_128 b0_134) [])) t
        refine XS.iconst X62.here hx rfl (hb hby at_346) ?_
        show Steps p.tables e below (T62.setTop (mkF m 347 (la0_38 p0 p1 p2 p3 b0_128 b0_134) [(.int (1 : Int32))])) t
        refine XS.goto X62.here hx rfl (pc0 := 347) (pc' := 351) rfl (hb hby at_347) (by decide) (by decide) ?_
        show Steps p.tables e below (T62.setTop (mkF m 351 (la0_38 p0 p1 p2 p3 b0_128 b0_134) [(.int (1 : Int32))])) t
        exact k
      exact ⟨_, _, X62, e62, N62, fun t k => (own_k (f := fun (z : Int32) => mkF m 351 #[.val (.int p0), .val (.int p1), .val (.int p2), .val (.int p3), .val (.int (v0_6 p0 p1 p2 p3)), .val (.int (p1 &&& (3 : Int32))), .val (.int (v0_18 p0 p1 p2 p3)), .val (.int (v0_27 p0 p1 p2 p3)), .val (.int (v0_38 p0 p1 p2 p3)), .val (.int (v0_50 p0 p1 p2 p3)), .val (.int (v0_61 p0 p1 p2 p3)), .val (.int (v0_73 p0 p1 p2 p3)), .val (.int (v0_85 p0 p1 p2 p3)), .val (.int (v0_98 p0 p1 p2 p3)), .val (.int (v0_111 p0 p1 p2 p3)), .val (.int (v0_124 p0 p1 p2 p3)), .val (.ref b0_128), .val (.ref b0_134), .val (.int (v0_214 p0 p1 p2 p3)), .val (.int (v0_222 p0 p1 p2 p3)), .val (.int (v0_230 p0 p1 p2 p3)), .val (.int (v0_238 p0 p1 p2 p3)), .val (.int (v0_246 p0 p1 p2 p3)), .val (.int (v0_254 p0 p1 p2 p3)), .unset, .unset] [(.int z)]) (if_neg hc63) k)⟩
  refine OEnd.go (g' := (mkF m 351 (la0_38 p0 p1 p2 p3 b0_128 b0_134) [(.int (if (f2 (v0_214 p0 p1 p2 p3) (v0_238 p0 p1 p2 p3)) = (0 : Int32) then (if (f2 (v0_214 p0 p1 p2 p3) (v0_246 p0 p1 p2 p3)) = (0 : Int32) then (if (f2 (v0_214 p0 p1 p2 p3) (v0_254 p0 p1 p2 p3)) = (0 : Int32) then (if (f2 (v0_222 p0 p1 p2 p3) (v0_238 p0 p1 p2 p3)) = (0 : Int32) then (if (f2 (v0_222 p0 p1 p2 p3) (v0_246 p0 p1 p2 p3)) = (0 : Int32) then (if (f2 (v0_222 p0 p1 p2 p3) (v0_254 p0 p1 p2 p3)) = (0 : Int32) then (if (f2 (v0_230 p0 p1 p2 p3) (v0_238 p0 p1 p2 p3)) = (0 : Int32) then (if (f2 (v0_230 p0 p1 p2 p3) (v0_246 p0 p1 p2 p3)) = (0 : Int32) then (if (f2 (v0_230 p0 p1 p2 p3) (v0_254 p0 p1 p2 p3)) = (0 : Int32) then (0 : Int32) else (1 : Int32)) else (1 : Int32)) else (1 : Int32)) else (1 : Int32)) else (1 : Int32)) else (1 : Int32)) else (1 : Int32)) else (1 : Int32)) else (1 : Int32)))])) st64 ?_
  refine OEnd.go (T' := T64) (g' := (mkF m 355 (la0_39 p0 p1 p2 p3 b0_128 b0_134) [(.int (v0_351 p0 p1 p2 p3))])) (fun t k => ?_) ?_
  · show Steps p.tables e below (T64.setTop (mkF m 351 (la0_38 p0 p1 p2 p3 b0_128 b0_134) [(.int (if (f2 (v0_214 p0 p1 p2 p3) (v0_238 p0 p1 p2 p3)) = (0 : Int32) then (if (f2 (v0_214 p0 p1 p2 p3) (v0_246 p0 p1 p2 p3)) = (0 : Int32) then (if (f2 (v0_214 p0 p1 p2 p3) (v0_254 p0 p1 p2 p3)) = (0 : Int32) then (if (f2 (v0_222 p0 p1 p2 p3) (v0_238 p0 p1 p2 p3)) = (0 : Int32) then (if (f2 (v0_222 p0 p1 p2 p3) (v0_246 p0 p1 p2 p3)) = (0 : Int32) then (if (f2 (v0_222 p0 p1 p2 p3) (v0_254 p0 p1 p2 p3)) = (0 : Int32) then (if (f2 (v0_230 p0 p1 p2 p3) (v0_238 p0 p1 p2 p3)) = (0 : Int32) then (if (f2 (v0_230 p0 p1 p2 p3) (v0_246 p0 p1 p2 p3)) = (0 : Int32) then (if (f2 (v0_230 p0 p1 p2 p3) (v0_254 p0 p1 p2 p3)) = (0 : Int32) then (0 : Int32) else (1 : Int32)) else (1 : Int32)) else (1 : Int32)) else (1 : Int32)) else (1 : Int32)) else (1 : Int32)) else (1 : Int32)) else (1 : Int32)) else (1 : Int32)))])) t
    refine XS.istore X64.here hx rfl (hb hby at_351) rfl (l' := (la0_39 p0 p1 p2 p3 b0_128 b0_134)) rfl ?_
    show Steps p.tables e below (T64.setTop (mkF m 353 (la0_39 p0 p1 p2 p3 b0_128 b0_134) [])) t
    refine XS.iload X64.here hx rfl (hb hby at_353) rfl ?_
    show Steps p.tables e below (T64.setTop (mkF m 355 (la0_39 p0 p1 p2 p3 b0_128 b0_134) [(.int (v0_351 p0 p1 p2 p3))])) t
    exact k
  refine OEnd.go (T' := T64) (g' := (mkF m 363 (la0_39 p0 p1 p2 p3 b0_128 b0_134) [(.int (if (v0_351 p0 p1 p2 p3) = (0 : Int32) then (1 : Int32) else (0 : Int32)))])) (fun t k => ?_) ?_
  · show Steps p.tables e below (T64.setTop (mkF m 355 (la0_39 p0 p1 p2 p3 b0_128 b0_134) [(.int (v0_351 p0 p1 p2 p3))])) t
    by_cases hc81 : (v0_351 p0 p1 p2 p3) = (0 : Int32)
    · skip
      refine XS.ifNo X64.here hx rfl (hb hby at_355) rfl ((if0 _ _).trans (teq (hc81)).2) ?_
      show Steps p.tables e below (T64.setTop (mkF m 358 (la0_39 p0 p1 p2 p3 b0_128 b0_134) [])) t
      refine SGo.go (T' := T64) (g' := (mkF m 363 (la0_39 p0 p1 p2 p3 b0_128 b0_134) [(.int (1 : Int32))])) (fun t k => ?_) ?_
      · show Steps p.tables e below (T64.setTop (mkF m 358 (la0_39 p0 p1 p2 p3 b0_128 b0_134) [])) t
        refine XS.iconst X64.here hx rfl (hb hby at_358) ?_
        show Steps p.tables e below (T64.setTop (mkF m 359 (la0_39 p0 p1 p2 p3 b0_128 b0_134) [(.int (1 : Int32))])) t
        refine XS.goto X64.here hx rfl (pc0 := 359) (pc' := 363) rfl (hb hby at_359) (by decide) (by decide) ?_
        show Steps p.tables e below (T64.setTop (mkF m 363 (la0_39 p0 p1 p2 p3 b0_128 b0_134) [(.int (1 : Int32))])) t
        exact k
      exact (own_k (f := fun (z : Int32) => mkF m 363 #[.val (.int p0), .val (.int p1), .val (.int p2), .val (.int p3), .val (.int (v0_6 p0 p1 p2 p3)), .val (.int (p1 &&& (3 : Int32))), .val (.int (v0_18 p0 p1 p2 p3)), .val (.int (v0_27 p0 p1 p2 p3)), .val (.int (v0_38 p0 p1 p2 p3)), .val (.int (v0_50 p0 p1 p2 p3)), .val (.int (v0_61 p0 p1 p2 p3)), .val (.int (v0_73 p0 p1 p2 p3)), .val (.int (v0_85 p0 p1 p2 p3)), .val (.int (v0_98 p0 p1 p2 p3)), .val (.int (v0_111 p0 p1 p2 p3)), .val (.int (v0_124 p0 p1 p2 p3)), .val (.ref b0_128), .val (.ref b0_134), .val (.int (v0_214 p0 p1 p2 p3)), .val (.int (v0_222 p0 p1 p2 p3)), .val (.int (v0_230 p0 p1 p2 p3)), .val (.int (v0_238 p0 p1 p2 p3)), .val (.int (v0_246 p0 p1 p2 p3)), .val (.int (v0_254 p0 p1 p2 p3)), .val (.int (v0_351 p0 p1 p2 p3)), .unset] [(.int z)]) (if_pos hc81) k)
    · skip
      refine XS.ifYes X64.here hx rfl (pc0 := 355) (pc' := 362) rfl (hb hby at_355) rfl ((if0 _ _).trans (feq (hc81)).2) (by decide) (by decide) ?_
      show Steps p.tables e below (T64.setTop (mkF m 362 (la0_39 p0 p1 p2 p3 b0_128 b0_134) [])) t
      refine SGo.go (T' := T64) (g' := (mkF m 363 (la0_39 p0 p1 p2 p3 b0_128 b0_134) [(.int (0 : Int32))])) (fun t k => ?_) ?_
      · show Steps p.tables e below (T64.setTop (mkF m 362 (la0_39 p0 p1 p2 p3 b0_128 b0_134) [])) t
        refine XS.iconst X64.here hx rfl (hb hby at_362) ?_
        show Steps p.tables e below (T64.setTop (mkF m 363 (la0_39 p0 p1 p2 p3 b0_128 b0_134) [(.int (0 : Int32))])) t
        exact k
      exact (own_k (f := fun (z : Int32) => mkF m 363 #[.val (.int p0), .val (.int p1), .val (.int p2), .val (.int p3), .val (.int (v0_6 p0 p1 p2 p3)), .val (.int (p1 &&& (3 : Int32))), .val (.int (v0_18 p0 p1 p2 p3)), .val (.int (v0_27 p0 p1 p2 p3)), .val (.int (v0_38 p0 p1 p2 p3)), .val (.int (v0_50 p0 p1 p2 p3)), .val (.int (v0_61 p0 p1 p2 p3)), .val (.int (v0_73 p0 p1 p2 p3)), .val (.int (v0_85 p0 p1 p2 p3)), .val (.int (v0_98 p0 p1 p2 p3)), .val (.int (v0_111 p0 p1 p2 p3)), .val (.int (v0_124 p0 p1 p2 p3)), .val (.ref b0_128), .val (.ref b0_134), .val (.int (v0_214 p0 p1 p2 p3)), .val (.int (v0_222 p0 p1 p2 p3)), .val (.int (v0_230 p0 p1 p2 p3)), .val (.int (v0_238 p0 p1 p2 p3)), .val (.int (v0_246 p0 p1 p2 p3)), .val (.int (v0_254 p0 p1 p2 p3)), .val (.int (v0_351 p0 p1 p2 p3)), .unset] [(.int z)]) (if_neg hc81) k)
  refine OEnd.go (T' := T64) (g' := (mkF m 369 (la0_40 p0 p1 p2 p3 b0_128 b0_134) [(.ref b0_134), (.ref b0_128)])) (fun t k => ?_) ?_
  · show Steps p.tables e below (T64.setTop (mkF m 363 (la0_39 p0 p1 p2 p3 b0_128 b0_134) [(.int (if (v0_351 p0 p1 p2 p3) = (0 : Int32) then (1 : Int32) else (0 : Int32)))])) t
    refine XS.istore X64.here hx rfl (hb hby at_363) rfl (l' := (la0_40 p0 p1 p2 p3 b0_128 b0_134)) rfl ?_
    show Steps p.tables e below (T64.setTop (mkF m 365 (la0_40 p0 p1 p2 p3 b0_128 b0_134) [])) t
    refine XS.aload X64.here hx rfl (hb hby at_365) rfl rfl ?_
    show Steps p.tables e below (T64.setTop (mkF m 367 (la0_40 p0 p1 p2 p3 b0_128 b0_134) [(.ref b0_128)])) t
    refine XS.aload X64.here hx rfl (hb hby at_367) rfl rfl ?_
    show Steps p.tables e below (T64.setTop (mkF m 369 (la0_40 p0 p1 p2 p3 b0_128 b0_134) [(.ref b0_134), (.ref b0_128)])) t
    exact k
  obtain ⟨_, _, ⟨T82, L82, k82, n82⟩, -, X82, ⟨Lc82, hQ82, l82, y82, z82⟩, st82⟩ := Jvm.LawKit.callS X64 hx (y := (⟨"com/example/nuthatch/nuthatch/logic/Demands", "agree", "([I[I)Z"⟩ : MethodName)) hown (mvT hZ (hw _ (List.mem_of_getElem? (i := 9) rfl))) (mvT hZ (hw _ (List.mem_of_getElem? (i := 10) rfl))) (mvT hZ (hw _ (List.mem_of_getElem? (i := 11) rfl))) (mvT hZ (hw _ (List.mem_of_getElem? (i := 12) rfl))) (by decide) (backOf (W := 0) (rm3 l Z aZ hw [] b0_128 b0_134 (own_t3 (p1 &&& (3 : Int32)) (v0_27 p0 p1 p2 p3) (v0_38 p0 p1 p2 p3) (v0_50 p0 p1 p2 p3)) (own_t3 (v0_18 p0 p1 p2 p3) (v0_98 p0 p1 p2 p3) (v0_111 p0 p1 p2 p3) (v0_124 p0 p1 p2 p3)) (p1 &&& (3 : Int32)) (v0_18 p0 p1 p2 p3) h37 n0 Z37 fc55 u37_1 (own_len3 _ _ _ (own_four p1)) (own_len3 _ _ _ (own_mm p0 p1 p2 p3)) (own_lt3 _ _ _ (own_four p1)) (own_lt3 _ _ _ (own_mm p0 p1 p2 p3))) hZ (hw _ (List.mem_of_getElem? (i := 12) rfl)) (hw _ (List.mem_of_getElem? (i := 11) rfl)) (by decide) (by decide)) (g := (mkF m 369 (la0_40 p0 p1 p2 p3 b0_128 b0_134) [(.ref b0_134), (.ref b0_128)])) rfl (by rw [hml]; rfl) (argsL := [(.ref b0_128), (.ref b0_134)]) (rest := []) (lenOf pd___I_I_Z rfl) rfl (by show 2 * 0 + _ ≤ _; exact Nat.le_of_eq rfl) (hb hby at_369) (fun _ _ => ⟨rfl, e64, (by decide : 2 + 0 ≤ _), (by decide : 6 + 0 ≤ _)⟩)
  dsimp only [Pt.U, Pt.locs, Pt.cells, Pt.slots] at X82 l82 y82 z82 st82 hQ82
  subst l82 y82 z82
  obtain ⟨rfl, N82q, e82⟩ := hQ82
  have N82 := Fr.app N64 N82q
  refine OEnd.go (g' := (mkF m 372 (la0_40 p0 p1 p2 p3 b0_128 b0_134) [(.int (nar .boolean (ag (own_t3 (p1 &&& (3 : Int32)) (v0_27 p0 p1 p2 p3) (v0_38 p0 p1 p2 p3) (v0_50 p0 p1 p2 p3)) (own_t3 (v0_18 p0 p1 p2 p3) (v0_98 p0 p1 p2 p3) (v0_111 p0 p1 p2 p3) (v0_124 p0 p1 p2 p3)))))])) st82 ?_
  refine OEnd.go (T' := T82) (g' := (mkF m 374 (la0_40 p0 p1 p2 p3 b0_128 b0_134) [(.int (v0_363 p0 p1 p2 p3)), (.int (nar .boolean (ag (own_t3 (p1 &&& (3 : Int32)) (v0_27 p0 p1 p2 p3) (v0_38 p0 p1 p2 p3) (v0_50 p0 p1 p2 p3)) (own_t3 (v0_18 p0 p1 p2 p3) (v0_98 p0 p1 p2 p3) (v0_111 p0 p1 p2 p3) (v0_124 p0 p1 p2 p3)))))])) (fun t k => ?_) ?_
  · show Steps p.tables e below (T82.setTop (mkF m 372 (la0_40 p0 p1 p2 p3 b0_128 b0_134) [(.int (nar .boolean (ag (own_t3 (p1 &&& (3 : Int32)) (v0_27 p0 p1 p2 p3) (v0_38 p0 p1 p2 p3) (v0_50 p0 p1 p2 p3)) (own_t3 (v0_18 p0 p1 p2 p3) (v0_98 p0 p1 p2 p3) (v0_111 p0 p1 p2 p3) (v0_124 p0 p1 p2 p3)))))])) t
    refine XS.iload X82.here hx rfl (hb hby at_372) rfl ?_
    show Steps p.tables e below (T82.setTop (mkF m 374 (la0_40 p0 p1 p2 p3 b0_128 b0_134) [(.int (v0_363 p0 p1 p2 p3)), (.int (nar .boolean (ag (own_t3 (p1 &&& (3 : Int32)) (v0_27 p0 p1 p2 p3) (v0_38 p0 p1 p2 p3) (v0_50 p0 p1 p2 p3)) (own_t3 (v0_18 p0 p1 p2 p3) (v0_98 p0 p1 p2 p3) (v0_111 p0 p1 p2 p3) (v0_124 p0 p1 p2 p3)))))])) t
    exact k
  refine OEnd.go (T' := T82) (g' := (mkF m 382 (la0_40 p0 p1 p2 p3 b0_128 b0_134) [(.int (if (nar .boolean (ag (own_t3 (p1 &&& (3 : Int32)) (v0_27 p0 p1 p2 p3) (v0_38 p0 p1 p2 p3) (v0_50 p0 p1 p2 p3)) (own_t3 (v0_18 p0 p1 p2 p3) (v0_98 p0 p1 p2 p3) (v0_111 p0 p1 p2 p3) (v0_124 p0 p1 p2 p3)))) = (v0_363 p0 p1 p2 p3) then (1 : Int32) else (0 : Int32)))])) (fun t k => ?_) ?_
  · show Steps p.tables e below (T82.setTop (mkF m 374 (la0_40 p0 p1 p2 p3 b0_128 b0_134) [(.int (v0_363 p0 p1 p2 p3)), (.int (nar .boolean (ag (own_t3 (p1 &&& (3 : Int32)) (v0_27 p0 p1 p2 p3) (v0_38 p0 p1 p2 p3) (v0_50 p0 p1 p2 p3)) (own_t3 (v0_18 p0 p1 p2 p3) (v0_98 p0 p1 p2 p3) (v0_111 p0 p1 p2 p3) (v0_124 p0 p1 p2 p3)))))])) t
    by_cases hc83 : (nar .boolean (ag (own_t3 (p1 &&& (3 : Int32)) (v0_27 p0 p1 p2 p3) (v0_38 p0 p1 p2 p3) (v0_50 p0 p1 p2 p3)) (own_t3 (v0_18 p0 p1 p2 p3) (v0_98 p0 p1 p2 p3) (v0_111 p0 p1 p2 p3) (v0_124 p0 p1 p2 p3)))) = (v0_363 p0 p1 p2 p3)
    · skip
      refine XS.icmpNo X82.here hx rfl (hb hby at_374) rfl (teq (hc83)).2 ?_
      show Steps p.tables e below (T82.setTop (mkF m 377 (la0_40 p0 p1 p2 p3 b0_128 b0_134) [])) t
      refine SGo.go (T' := T82) (g' := (mkF m 382 (la0_40 p0 p1 p2 p3 b0_128 b0_134) [(.int (1 : Int32))])) (fun t k => ?_) ?_
      · show Steps p.tables e below (T82.setTop (mkF m 377 (la0_40 p0 p1 p2 p3 b0_128 b0_134) [])) t
        refine XS.iconst X82.here hx rfl (hb hby at_377) ?_
        show Steps p.tables e below (T82.setTop (mkF m 378 (la0_40 p0 p1 p2 p3 b0_128 b0_134) [(.int (1 : Int32))])) t
        refine XS.goto X82.here hx rfl (pc0 := 378) (pc' := 382) rfl (hb hby at_378) (by decide) (by decide) ?_
        show Steps p.tables e below (T82.setTop (mkF m 382 (la0_40 p0 p1 p2 p3 b0_128 b0_134) [(.int (1 : Int32))])) t
        exact k
      exact (own_k (f := fun (z : Int32) => mkF m 382 #[.val (.int p0), .val (.int p1), .val (.int p2), .val (.int p3), .val (.int (v0_6 p0 p1 p2 p3)), .val (.int (p1 &&& (3 : Int32))), .val (.int (v0_18 p0 p1 p2 p3)), .val (.int (v0_27 p0 p1 p2 p3)), .val (.int (v0_38 p0 p1 p2 p3)), .val (.int (v0_50 p0 p1 p2 p3)), .val (.int (v0_61 p0 p1 p2 p3)), .val (.int (v0_73 p0 p1 p2 p3)), .val (.int (v0_85 p0 p1 p2 p3)), .val (.int (v0_98 p0 p1 p2 p3)), .val (.int (v0_111 p0 p1 p2 p3)), .val (.int (v0_124 p0 p1 p2 p3)), .val (.ref b0_128), .val (.ref b0_134), .val (.int (v0_214 p0 p1 p2 p3)), .val (.int (v0_222 p0 p1 p2 p3)), .val (.int (v0_230 p0 p1 p2 p3)), .val (.int (v0_238 p0 p1 p2 p3)), .val (.int (v0_246 p0 p1 p2 p3)), .val (.int (v0_254 p0 p1 p2 p3)), .val (.int (v0_351 p0 p1 p2 p3)), .val (.int (v0_363 p0 p1 p2 p3))] [(.int z)]) (if_pos hc83) k)
    · skip
      refine XS.icmpYes X82.here hx rfl (pc0 := 374) (pc' := 381) rfl (hb hby at_374) rfl (feq (hc83)).2 (by decide) (by decide) ?_
      show Steps p.tables e below (T82.setTop (mkF m 381 (la0_40 p0 p1 p2 p3 b0_128 b0_134) [])) t
      refine SGo.go (T' := T82) (g' := (mkF m 382 (la0_40 p0 p1 p2 p3 b0_128 b0_134) [(.int (0 : Int32))])) (fun t k => ?_) ?_
      · show Steps p.tables e below (T82.setTop (mkF m 381 (la0_40 p0 p1 p2 p3 b0_128 b0_134) [])) t
        refine XS.iconst X82.here hx rfl (hb hby at_381) ?_
        show Steps p.tables e below (T82.setTop (mkF m 382 (la0_40 p0 p1 p2 p3 b0_128 b0_134) [(.int (0 : Int32))])) t
        exact k
      exact (own_k (f := fun (z : Int32) => mkF m 382 #[.val (.int p0), .val (.int p1), .val (.int p2), .val (.int p3), .val (.int (v0_6 p0 p1 p2 p3)), .val (.int (p1 &&& (3 : Int32))), .val (.int (v0_18 p0 p1 p2 p3)), .val (.int (v0_27 p0 p1 p2 p3)), .val (.int (v0_38 p0 p1 p2 p3)), .val (.int (v0_50 p0 p1 p2 p3)), .val (.int (v0_61 p0 p1 p2 p3)), .val (.int (v0_73 p0 p1 p2 p3)), .val (.int (v0_85 p0 p1 p2 p3)), .val (.int (v0_98 p0 p1 p2 p3)), .val (.int (v0_111 p0 p1 p2 p3)), .val (.int (v0_124 p0 p1 p2 p3)), .val (.ref b0_128), .val (.ref b0_134), .val (.int (v0_214 p0 p1 p2 p3)), .val (.int (v0_222 p0 p1 p2 p3)), .val (.int (v0_230 p0 p1 p2 p3)), .val (.int (v0_238 p0 p1 p2 p3)), .val (.int (v0_246 p0 p1 p2 p3)), .val (.int (v0_254 p0 p1 p2 p3)), .val (.int (v0_351 p0 p1 p2 p3)), .val (.int (v0_363 p0 p1 p2 p3))] [(.int z)]) (if_neg hc83) k)
  exact OEnd.nar X82 hx (t := .boolean) Bd.returns (by simp) hlk (hb hby at_382) ⟨(congrArg (fun z => some (Value.int (nar .boolean z))) (own_plain p0 p1 p2 p3)), N82⟩ (by decide) (by decide)
set_option maxRecDepth 65536 in
set_option maxHeartbeats 40000000 in
theorem comes_1 {Post : Tables → Env → Array Value → State → Outcome → State → Prop} (hpost : ∀ tb e args s v u, (limb_1_1.after args s (.returned v) u = true ∧ limb_1_2.after args s (.returned v) u = true ∧ True) → FrameEnd s (.returned v) u (Jvm.fieldLocs frame_1_writes args s ++ Jvm.arrayLocs frame_1_arrays args s ++ Jvm.staticLocs frame_1_statics s) 16 128 → Post tb e args s (.returned v) u) :
    ArmFor flags0 classFile x code maxLocals ret World_1 tables_1 room_1 Calls_1 rest_1 Pre_1 Post := by
  intro l hfl _ _ p e ha hc hk s m args below hf hA hF happ hP
  obtain ⟨hcalls, hrest, hpre⟩ := hP
  obtain ⟨-, -, -, hnamed, -, -, -, hat⟩ := (Spec.applies_iff hf).mp happ
  obtain ⟨hg, hn⟩ := and_e (Cond.before_iff.mp (show (Jvm.Cond.and given_1 narrow_1).before args s = true from hpre))
  obtain ⟨c1, c2⟩ := and_e hg
  obtain ⟨c3, c4⟩ := and_e c2
  obtain ⟨c5, c6⟩ := and_e c4
  obtain ⟨c7, c8⟩ := and_e c6
  obtain ⟨w0, w1, w2, w3, rfl⟩ : ∃ w0 w1 w2 w3 : Value, args = #[w0, w1, w2, w3] := by
    have hs : args.size = 4 := by simpa [Cond.value, given_1] using c1
    obtain ⟨L⟩ := args
    match L, hs with
    | [w0, w1, w2, w3], _ => exact ⟨w0, w1, w2, w3, rfl⟩
  have hw := fun d (hd : d ∈ tables_1) => atoms_spec (ws := Jvm.Cond.code x code maxLocals ret :: tables_1) hat d (List.mem_cons_of_mem _ hd)
  obtain ⟨i0, ei0⟩ := is_v c3
  obtain rfl : w0 = (.int i0) := Option.some.inj ei0
  obtain ⟨i1, ei1⟩ := is_v c5
  obtain rfl : w1 = (.int i1) := Option.some.inj ei1
  obtain ⟨i2, ei2⟩ := is_v c7
  obtain rfl : w2 = (.int i2) := Option.some.inj ei2
  obtain ⟨i3, ei3⟩ := is_v c8
  obtain rfl : w3 = (.int i3) := Option.some.inj ei3
  obtain ⟨n, o, h1, h2, h3, _, L, rfl, ⟨rfl, N⟩, hq⟩ := rm0 l s _ hw tables_1 i0 i1 i2 i3 s.heap s.heap.size (Nat.le_refl _)  p e ha hc hk s m _ below hf ((Spec.applies_iff_loose hf).mp happ).1 ⟨rfl, State.Warmed39.refl s, rfl⟩ trivial
  refine ⟨n, _, h1, h2, h3, hpost _ _ _ _ _ _ ⟨Cond.after_iff.mpr rfl, Cond.after_iff.mpr (eq_i res_at (Term.int_eval (1)) rfl), trivial⟩ ⟨hq.1, hq.2.1, (hq.2.2.sift fun y hy => Or.inr (N y hy)).mono (by decide) (by decide)⟩⟩
theorem main_1_1 : Claimed_1_1 := comes_1 fun _ _ _ _ _ _ h hF => ⟨h.1, hF⟩
theorem main_1_2 : Claimed_1_2 := comes_1 fun _ _ _ _ _ _ h hF => ⟨h.2.1, hF⟩
end Jvm.Pilot.@@N@@
namespace Jvm.Pilot.@@N@@
open Jvm Jvm.ClassFile Sem Op Lib Jvm.Free Jvm.Stand Jvm.Pilot.@@N@@.Jvm.D
/-! MADE BY PROGRAM (witnessworld.py) out of the Statement's table words and the real class files: 9 classes; the members and pool entries that the words name. The judged class is class 1, her method 3. -/
namespace start1
open Jvm.ClassFile
def u (s : String) : CpInfo := .utf8 (stringToUtf16 s)
/-- a pool by its gaps: so many unusable entries, then the entry; so many at the end -/
def gap : Nat → List CpInfo → List CpInfo
  | 0, r => r
  | n + 1, r => .unusable :: gap n r
def poolList (es : List (Nat × CpInfo)) (last : Nat) : List CpInfo := es.foldr (fun e r => gap e.1 (e.2 :: r)) (gap last [])
def pool (es : List (Nat × CpInfo)) (last : Nat) : Array CpInfo := ⟨poolList es last⟩
def fileOf (pool : Array CpInfo) (this : Nat) (attrs : Array Attribute := #[]) (ms : Array MethodInfo := #[]) (fl : Nat := 33) (sup : Nat := 0) (ifs : Array Nat := #[]) (fds : Array FieldInfo := #[]) : ClassFile where
  minorVersion := 0
  majorVersion := 65
  constantPool := pool
  accessFlags := fl
  thisClass := this
  superClass := sup
  interfaces := ifs
  fields := fds
  methods := ms
  attributes := attrs
def plain (name : String) (sup : Option ClassId) : Class where
  name := name
  kind := .ordinary
  loader := none
  accessFlags := 33
  super := sup
  interfaces := #[]
  cf := none
  fields := #[]
  methods := #[]
  instanceTypes := #[]
  staticTypes := #[]
  resolved := #[]
  callSites := []
  init := .initialized
  statics := none
  mirror := none

def pool0 : Array CpInfo := pool [(5, u "<init>"), (0, u "()V"), (1, .class_ 10), (1, u "java/lang/Object")] 113

def k0m0 : Method := { name := "<init>", desc := "()V", sig := { parameters := [], returnType := none }, accessFlags := 1, code := none }
/-- java/lang/Object -/
def k0 : Class := { plain "java/lang/Object" none with
  accessFlags := 33
  interfaces := #[]
  cf := some (fileOf pool0 8 #[] #[{ accessFlags := 1, nameIndex := 5, descriptorIndex := 6, attributes := #[] }] 33 0 #[] #[])
  fields := #[]
  methods := #[k0m0]
  instanceTypes := #[]
  staticTypes := #[]
  resolved := Array.replicate 124 none
  statics := none }

def pool1 : Array CpInfo := pool [(2, .class_ 4), (1, u "java/lang/Object"), (0, u "<init>"), (0, u "()V"), (0, .integer 536870911), (0, .methodref 9 10), (0, .class_ 11), (0, .nameAndType 12 13), (0, u "com/example/nuthatch/nuthatch/logic/DemandsAgreePinLaw"), (0, u "at"), (0, u "([II)I"), (0, .methodref 9 15), (0, .nameAndType 16 17), (0, u "clash"), (0, u "(II)Z"), (0, .methodref 19 20), (0, .class_ 21), (0, .nameAndType 22 23), (0, u "com/example/nuthatch/nuthatch/logic/Demands"), (0, u "agree"), (0, u "([I[I)Z"), (3, u "law"), (0, u "(IIII)Z")] 4

def k1m0 : Method := { name := "<init>", desc := "()V", sig := { parameters := [], returnType := none }, accessFlags := 2, code := none }
def k1c1 : Code := { maxStack := 2, maxLocals := 2, code := method_2_code, exceptionTable := #[], attributes := #[] }
def k1m1 : Method := { name := "at", desc := "([II)I", sig := { parameters := [(.array .int), .int], returnType := some .int }, accessFlags := 10, code := some k1c1 }
def k1c2 : Code := { maxStack := 3, maxLocals := 2, code := method_3_code, exceptionTable := #[], attributes := #[] }
def k1m2 : Method := { name := "clash", desc := "(II)Z", sig := { parameters := [.int, .int], returnType := some .boolean }, accessFlags := 10, code := some k1c2 }
def k1c3 : Code := { maxStack := 3, maxLocals := 26, code := code, exceptionTable := #[], attributes := #[] }
def k1m3 : Method := { name := "law", desc := "(IIII)Z", sig := { parameters := [.int, .int, .int, .int], returnType := some .boolean }, accessFlags := 9, code := some k1c3 }
/-- com/example/nuthatch/nuthatch/logic/DemandsAgreePinLaw -/
def k1 : Class := { plain "com/example/nuthatch/nuthatch/logic/DemandsAgreePinLaw" (some 0) with
  accessFlags := 49
  interfaces := #[]
  cf := some (fileOf pool1 9 #[] #[{ accessFlags := 2, nameIndex := 5, descriptorIndex := 6, attributes := #[] }, { accessFlags := 10, nameIndex := 12, descriptorIndex := 13, attributes := #[] }, { accessFlags := 10, nameIndex := 16, descriptorIndex := 17, attributes := #[] }, { accessFlags := 9, nameIndex := 27, descriptorIndex := 28, attributes := #[] }] 49 2 #[] #[])
  fields := #[]
  methods := #[k1m0, k1m1, k1m2, k1m3]
  instanceTypes := #[]
  staticTypes := #[]
  resolved := Array.replicate 33 none
  statics := none }

def pool2 : Array CpInfo := pool [(2, .class_ 4), (1, u "java/lang/Object"), (0, u "<init>"), (0, u "()V"), (52, .class_ 60), (0, u "com/example/nuthatch/nuthatch/logic/Demands"), (0, u "NOMINALS"), (0, u "I"), (2, u "ANY_NOMINALS"), (11, u "([I[I)Z"), (2, u "agree"), (5, .class_ 87), (0, u "com/example/nuthatch/nuthatch/logic/Demands$Failure"), (0, .class_ 89), (0, u "com/example/nuthatch/nuthatch/logic/Demands$Attempt"), (0, .class_ 91), (0, u "com/example/nuthatch/nuthatch/logic/Demands$Tree"), (0, .class_ 93), (0, u "com/example/nuthatch/nuthatch/logic/Demands$Demand")] 23

def k2m0 : Method := { name := "<init>", desc := "()V", sig := { parameters := [], returnType := none }, accessFlags := 2, code := none }
def k2c1 : Code := { maxStack := 3, maxLocals := 7, code := prog_43_method_6_code, exceptionTable := #[], attributes := #[] }
def k2m1 : Method := { name := "agree", desc := "([I[I)Z", sig := { parameters := [(.array .int), (.array .int)], returnType := some .boolean }, accessFlags := 8, code := some k2c1 }
/-- com/example/nuthatch/nuthatch/logic/Demands -/
def k2 : Class := { plain "com/example/nuthatch/nuthatch/logic/Demands" (some 0) with
  accessFlags := 48
  interfaces := #[]
  cf := some (fileOf pool2 59 #[.nestMembers #[86, 88, 90, 92]] #[{ accessFlags := 2, nameIndex := 5, descriptorIndex := 6, attributes := #[] }, { accessFlags := 8, nameIndex := 80, descriptorIndex := 77, attributes := #[] }] 48 2 #[] #[{ accessFlags := 24, nameIndex := 61, descriptorIndex := 62, attributes := #[] }, { accessFlags := 24, nameIndex := 65, descriptorIndex := 62, attributes := #[] }])
  fields := #[{ name := "NOMINALS", type := .int, accessFlags := 24, slot := 0, constantValue := 0 }, { name := "ANY_NOMINALS", type := .int, accessFlags := 24, slot := 1, constantValue := 0 }]
  methods := #[k2m0, k2m1]
  instanceTypes := #[]
  staticTypes := #[.int, .int]
  resolved := Array.replicate 117 none
  statics := none }

def pool3 : Array CpInfo := pool [(1, u "java/lang/Cloneable"), (0, .class_ 1), (0, u "java/lang/Object"), (0, .class_ 3)] 3

/-- java/lang/Cloneable -/
def k3 : Class := { plain "java/lang/Cloneable" (some 0) with
  accessFlags := 1537
  interfaces := #[]
  cf := some (fileOf pool3 2 #[] #[] 1537 4 #[] #[])
  fields := #[]
  methods := #[]
  instanceTypes := #[]
  staticTypes := #[]
  resolved := Array.replicate 8 none
  statics := none }

def pool4 : Array CpInfo := pool [(1, u "java/io/Serializable"), (0, .class_ 1), (0, u "java/lang/Object"), (0, .class_ 3)] 3

/-- java/io/Serializable -/
def k4 : Class := { plain "java/io/Serializable" (some 0) with
  accessFlags := 1537
  interfaces := #[]
  cf := some (fileOf pool4 2 #[] #[] 1537 4 #[] #[])
  fields := #[]
  methods := #[]
  instanceTypes := #[]
  staticTypes := #[]
  resolved := Array.replicate 8 none
  statics := none }

/-- the primitive byte -/
def k5 : Class := { plain "byte" none with kind := .primitive 'B', accessFlags := 0x411 }
/-- [B -/
def k6 : Class := { plain "[B" (some 0) with kind := .array 5 .byte, interfaces := #[3, 4], accessFlags := 1041 }

/-- the primitive int -/
def k7 : Class := { plain "int" none with kind := .primitive 'I', accessFlags := 0x411 }
/-- [I -/
def k8 : Class := { plain "[I" (some 0) with kind := .array 7 .int, interfaces := #[3, 4], accessFlags := 1041 }

def heap : Heap := #[]
def classes : Array Class := #[k0, k1, k2, k3, k4, k5, k6, k7, k8]
def interned : List (Array UInt16 × Addr) := []
def slotsUsed : Nat := 0
def theMethod : MethodId := ⟨1, 3⟩
def args0 : Array Value := #[.int 3, .int 1000, .int 5, .int 7]
def aboutOver (below : List Frame) : State where
  vm := { classes := classes, interned := interned.toArray }
  heap := heap
  slotsUsed := slotsUsed
  threads := #[{ frames := .invoking theMethod args0 :: below }]
def below0 : List Frame := [.native { method := ⟨0, 0⟩, args := #[] }]
def about1 : State := aboutOver below0
def p0 : Program := .bare "" "" ""
def e0 : Env := launch0.env 0 0 0
theorem w_frames : about1.frames = Frame.invoking theMethod args0 :: below0 := rfl
set_option maxRecDepth 65536 in
theorem w_args : argsFit about1.vm theMethod args0 = true := by decide +kernel
set_option maxRecDepth 65536 in
theorem w_heap : heapFits about1 = true := by decide +kernel
set_option maxRecDepth 65536 in
theorem w_runnable : about1.curStatus? = some .runnable := by decide +kernel
set_option maxRecDepth 65536 in
theorem w_alone : about1.alone = true := by decide +kernel
set_option maxRecDepth 65536 in
theorem w_named : about1.methodNamed? x = some theMethod := by decide +kernel
set_option maxRecDepth 65536 in
theorem w_hears : about1.hears theMethod below0 = true := by decide +kernel
set_option maxRecDepth 65536 in
theorem w_ripe : about1.ripe theMethod args0 below0 = true := by decide +kernel
theorem w_running : about1.status = .running := rfl
set_option maxRecDepth 65536 in
theorem w_room : about1.hasRoom e0.platform room_1 = true :=
  launch0.hasRoom_least _ room_1 (by decide +kernel) (by decide +kernel) (by decide +kernel) (by decide +kernel) (by decide +kernel) (by decide +kernel)
theorem allAtoms_all (ts : List Jvm.Cond) (a : Array Jvm.Value) (st : Jvm.State) : (allAtoms ts).before a st = ts.all (fun c => c.before a st) := by
  induction ts with
  | nil => rfl
  | cons c t ih =>
    show (Jvm.Cond.and c (allAtoms t)).before a st = _
    rw [Jvm.Cond.before_and, ih, List.all_cons]
def words1 : List Jvm.Cond := Jvm.Cond.code x code maxLocals ret :: tables_1
/-- a 'code' word, met by the world's own term for the bytes: nothing is compared byte by byte -/
theorem code_word {y : MethodName} {bytes : ByteArray} {mx : Nat} {rt : Option FieldType} {a : Array Value} {s : State} {m : MethodId} {meth : Method} {c : Code} (h1 : s.methodNamed? y = some m) (h2 : s.vm.method? m = some meth) (h3 : meth.code = some c) (h4 : c.code = bytes)
    (h5 : (c.maxLocals == mx && c.exceptionTable.isEmpty && decide (c.maxStack ≤ mostOperands) && decide (meth.sig.returnType = rt) && !meth.locks && decide (parseMethodDescriptor y.desc = some meth.sig)) = true) : (Jvm.Cond.code y bytes mx rt).before a s = true := by
  simp only [Bool.and_eq_true, beq_iff_eq, Bool.not_eq_true', decide_eq_true_eq] at h5
  obtain ⟨⟨⟨⟨⟨g1, g2⟩, g3⟩, g4⟩, g5⟩, g6⟩ := h5
  simp [Cond.before, Cond.holds, Cond.value, h1, h2, h3, h4, g1, g2, g3, g4, g5, g6]
def isCode : Jvm.Cond → Bool
  | .code _ _ _ _ => true
  | _ => false
theorem all_split {L : List Jvm.Cond} {P : Jvm.Cond → Bool} (h1 : L.all (fun c => isCode c || P c) = true) (h2 : ∀ c ∈ L.filter isCode, P c = true) : L.all P = true := by
  refine List.all_eq_true.mpr fun c hc => ?_
  have h := List.all_eq_true.mp h1 c hc
  rcases Bool.eq_false_or_eq_true (isCode c) with hi | hi
  · exact h2 c (List.mem_filter.mpr ⟨hc, hi⟩)
  · simpa [hi] using h
set_option maxRecDepth 65536 in
theorem w_c0 : (Jvm.Cond.code x code maxLocals ret).before args0 about1 = true := code_word (m := ⟨1, 3⟩) (meth := k1m3) (c := k1c3) (by decide +kernel) rfl rfl rfl (by decide +kernel)
set_option maxRecDepth 65536 in
theorem w_c1 : (Jvm.Cond.code ({ cls := "com/example/nuthatch/nuthatch/logic/DemandsAgreePinLaw", name := "at", desc := "([II)I" } : Jvm.MethodName) method_2_code (2 : Nat) (Option.some Jvm.ClassFile.FieldType.int)).before args0 about1 = true := code_word (m := ⟨1, 1⟩) (meth := k1m1) (c := k1c1) (by decide +kernel) rfl rfl rfl (by decide +kernel)
set_option maxRecDepth 65536 in
theorem w_c2 : (Jvm.Cond.code ({ cls := "com/example/nuthatch/nuthatch/logic/DemandsAgreePinLaw", name := "clash", desc := "(II)Z" } : Jvm.MethodName) method_3_code (2 : Nat) (Option.some Jvm.ClassFile.FieldType.boolean)).before args0 about1 = true := code_word (m := ⟨1, 2⟩) (meth := k1m2) (c := k1c2) (by decide +kernel) rfl rfl rfl (by decide +kernel)
set_option maxRecDepth 65536 in
theorem w_c3 : (Jvm.Cond.code ({ cls := "com/example/nuthatch/nuthatch/logic/Demands", name := "agree", desc := "([I[I)Z" } : Jvm.MethodName) prog_43_method_6_code (7 : Nat) (Option.some Jvm.ClassFile.FieldType.boolean)).before args0 about1 = true := code_word (m := ⟨2, 1⟩) (meth := k2m1) (c := k2c1) (by decide +kernel) rfl rfl rfl (by decide +kernel)
def codes1 : List Jvm.Cond := [Jvm.Cond.code x code maxLocals ret, Jvm.Cond.code ({ cls := "com/example/nuthatch/nuthatch/logic/DemandsAgreePinLaw", name := "at", desc := "([II)I" } : Jvm.MethodName) method_2_code (2 : Nat) (Option.some Jvm.ClassFile.FieldType.int), Jvm.Cond.code ({ cls := "com/example/nuthatch/nuthatch/logic/DemandsAgreePinLaw", name := "clash", desc := "(II)Z" } : Jvm.MethodName) method_3_code (2 : Nat) (Option.some Jvm.ClassFile.FieldType.boolean), Jvm.Cond.code ({ cls := "com/example/nuthatch/nuthatch/logic/Demands", name := "agree", desc := "([I[I)Z" } : Jvm.MethodName) prog_43_method_6_code (7 : Nat) (Option.some Jvm.ClassFile.FieldType.boolean)]
set_option maxRecDepth 65536 in
theorem codes_eq : words1.filter isCode = codes1 := rfl
theorem w_codes : ∀ c ∈ words1.filter isCode, c.before args0 about1 = true := by
  rw [codes_eq]
  intro c hc
  simp only [codes1, List.mem_cons, List.not_mem_nil, or_false] at hc
  rcases hc with rfl | rfl | rfl | rfl
  · exact w_c0
  · exact w_c1
  · exact w_c2
  · exact w_c3
set_option maxRecDepth 65536 in
theorem w_t1 : words1.all (fun c => isCode c || c.before args0 about1) = true := by decide +kernel
theorem w_tables : (allAtoms (Jvm.Cond.code x code maxLocals ret :: tables_1)).before args0 about1 = true := by
  rw [allAtoms_all]
  show words1.all (fun c => c.before args0 about1) = true
  refine all_split ?_ w_codes
  rw [w_t1]
set_option maxRecDepth 65536 in
theorem w_case : (Jvm.Cond.and given_1 narrow_1).before args0 about1 = true := by decide +kernel
theorem w_applies : (headSpec (Jvm.Cond.code x code maxLocals ret :: tables_1) room_1).applies x e0.platform about1 = true :=
  (Spec.applies_iff w_frames).mpr ⟨w_running, w_runnable, w_alone, w_named, w_hears, w_ripe, w_room, w_tables⟩
theorem atStart : AtStart classFile x code maxLocals ret World_1 tables_1 room_1 Calls_1 rest_1 Pre_1 launch0 p0 e0 about1 theMethod args0 below0 :=
  ⟨lists_1, trivial, launch0.admits_env _ _ _, launch0.least_env, fairChoices_fair.cas, fairChoices_fair.clock, w_frames, w_args, w_heap, w_applies, trivial, trivial, w_case⟩
end start1
theorem witness_1 : WitnessClaimed_1 := ⟨start1.p0, start1.e0, start1.about1, start1.theMethod, start1.args0, start1.below0, start1.atStart⟩
end Jvm.Pilot.@@N@@
