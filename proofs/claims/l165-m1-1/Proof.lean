import JvmDerived
import JvmDerived.Pilot.@@N@@Statement
import JvmDerived.Pilot.@@N@@Code
set_option linter.unusedVariables false
set_option linter.unusedSimpArgs false
namespace Jvm.RoadKit
open Sem ClassFile Op Lib Jvm.Stand Jvm.Free Jvm.LawKit
section New
variable {p : Program} {l : Launch} {e : Env} {R : Room} {s : State} {m : MethodId} {args : Array Value} {below : List Frame} {meth : Method} {c : Code} {T : State} {locs : List Loc} {cells slots : Nat}
theorem retI (X : Stand p l e R s m args below meth c T locs cells slots) (hx : p.tables.exec = Jvm.exec) {pc : Nat} {Ls : Array Slot} {z : Int32} {rest : List Value} (hret : meth.sig.returnType = some .int) (hd : decode c.code pc = .ok (.ireturn, 1)) {fs : List Frame}
    (hl : ∀ (f : JFrame) (acts : List Action), f.method = m → f.locked = none → f.entered = [] → (doReturn e (T.setTop f) acts (some (.int z))).1 = T.setFrames fs) : Steps p.tables e below (T.setTop (mkF m pc Ls (.int z :: rest))) (T.setFrames fs) := by
  have hm' : T.vm.method? m = some meth := X.method'
  have hn : narrow .int (.int z) = .int z := rfl
  show Steps p.tables e below (T.setTop { method := m, pc := pc, locals := Ls, stack := _ :: rest, locked := none }) _
  jvm_step X.here [X.here.top, hx, hd, hm', hret, hn]
  first | (intro acts; rw [hl _ acts rfl rfl rfl]) | rw [hl _ _ rfl rfl rfl]
  exact Steps.refl _
end New
end Jvm.RoadKit
namespace Jvm.Pilot.@@N@@
open Jvm Jvm.ClassFile Sem Op Lib Jvm.Free Jvm.Stand Jvm.LawKit Jvm.RoadKit Bundle Jvm.Pilot.@@N@@.Jvm.D
/-! the goals of a walk, and what closes them -/
def OEnd (p : Program) (e : Env) (below : List Frame) (s T : State) (g : JFrame) (Q : Option Value → Heap → List Loc → Prop) (kc ks : Nat) : Prop :=
  ∃ s₂ o, Steps p.tables e below (T.setTop g) s₂ ∧ s₂.status = .running ∧ Ended s₂ below o ∧ ∃ v L, o = .returned v ∧ Q v s₂.heap L ∧ FrameEnd s o s₂ L kc ks
def ORch (p : Program) (l : Launch) (e : Env) (R : Room) (s : State) (m : MethodId) (args : Array Value) (below : List Frame) (meth : Method) (c : Code) (n0 : Nat) (T : State) (g : JFrame) (h : Heap) (g' : JFrame) (cells slots : Nat) : Prop :=
  ∃ T' locs', Stand p l e R s m args below meth c T' locs' cells slots ∧ T'.heap = h ∧ Fr n0 locs' ∧ Goes p e below T g T' g'
def OArr (Z : State) (h : Heap) (a : Addr) (ty : FieldType) (n : Int32) (vs : List Value) (d : Value) : Prop := ∃ k, Arv Z h a k ty n vs d
def ORchH (p : Program) (l : Launch) (e : Env) (R : Room) (s : State) (m : MethodId) (args : Array Value) (below : List Frame) (meth : Method) (c : Code) (n0 : Nat) (T : State) (g : JFrame) (g' : JFrame) (cells slots : Nat) (P : Heap → Prop) : Prop :=
  ∃ T' h' locs', Stand p l e R s m args below meth c T' locs' cells slots ∧ T'.heap = h' ∧ Fr n0 locs' ∧ P h' ∧ Goes p e below T g T' g'
def ORchB (p : Program) (l : Launch) (e : Env) (R : Room) (s : State) (m : MethodId) (args : Array Value) (below : List Frame) (meth : Method) (c : Code) (n0 : Nat) (T : State) (g : JFrame) (g' : Addr → JFrame) (cells slots : Nat) (P : Heap → Addr → Prop) : Prop :=
  ∃ b T' h' locs', Stand p l e R s m args below meth c T' locs' cells slots ∧ T'.heap = h' ∧ Fr n0 locs' ∧ P h' b ∧ Goes p e below T g T' (g' b)
section Own
variable {p : Program} {l : Launch} {e : Env} {R : Room} {s : State} {m : MethodId} {args : Array Value} {below : List Frame} {meth : Method} {c : Code} {T T' : State} {locs : List Loc} {cells slots : Nat} {g g' g'' : JFrame} {Q : Option Value → Heap → List Loc → Prop} {kc ks : Nat}
theorem OEnd.go (k : Goes p e below T g T' g') (h : OEnd p e below s T' g' Q kc ks) : OEnd p e below s T g Q kc ks := by
  obtain ⟨s₂, o, h1, h2⟩ := h
  exact ⟨s₂, o, k _ h1, h2⟩
theorem ORch.go {n0 : Nat} {h : Heap} (k : Goes p e below T g T' g') (q : ORch p l e R s m args below meth c n0 T' g' h g'' cells slots) : ORch p l e R s m args below meth c n0 T g h g'' cells slots := by
  obtain ⟨T2, L2, h1, h2, h3, h4⟩ := q
  exact ⟨T2, L2, h1, h2, h3, fun t kt => k _ (h4 t kt)⟩
theorem ORchH.go {n0 : Nat} {P : Heap → Prop} (k : Goes p e below T g T' g') (q : ORchH p l e R s m args below meth c n0 T' g' g'' cells slots P) : ORchH p l e R s m args below meth c n0 T g g'' cells slots P := by
  obtain ⟨T2, h2, L2, h1, h2, h3, h4, h5⟩ := q
  exact ⟨T2, _, L2, h1, h2, h3, h4, fun t kt => k _ (h5 t kt)⟩
theorem ORchB.go {n0 : Nat} {P : Heap → Addr → Prop} {gb : Addr → JFrame} (k : Goes p e below T g T' g') (q : ORchB p l e R s m args below meth c n0 T' g' gb cells slots P) : ORchB p l e R s m args below meth c n0 T g gb cells slots P := by
  obtain ⟨b, T2, h2, L2, h1, h2, h3, h4, h5⟩ := q
  exact ⟨b, T2, _, L2, h1, h2, h3, h4, fun t kt => k _ (h5 t kt)⟩
theorem SGo.go {t : State} (k : Goes p e below T g T' g') (h : Steps p.tables e below (T'.setTop g') t) : Steps p.tables e below (T.setTop g) t := k _ h
theorem own_k {A : Type} {tb : Tables} {f : A → JFrame} {a b : A} {t : State} (q : a = b) (k : Steps tb e below (T.setTop (f a)) t) : Steps tb e below (T.setTop (f b)) t := q ▸ k
theorem own_symm {A : Type} {a b : A} (h : a = b) : b = a := h.symm
theorem own_via {A : Type} {a b c : A} (h : a = b) (k : a = c) : b = c := h.symm.trans k
theorem own_p {A : Type} {P : A → Prop} {a b : A} (q : a = b) (w : P a) : P b := q ▸ w
theorem own_at {h : Heap} {U : Heap} (q : U = h) {P : Heap → Prop} (w : P h) : P U := q ▸ w
theorem OArr.lt {Z : State} {h : Heap} {a : Addr} {ty : FieldType} {n : Int32} {vs : List Value} {d : Value} (F : OArr Z h a ty n vs d) : a < h.size := by obtain ⟨k, V⟩ := F; exact V.lt
theorem OArr.ext {Z : State} {h h' : Heap} {a : Addr} {ty : FieldType} {n : Int32} {vs : List Value} {d : Value} (F : OArr Z h a ty n vs d) (E : Ext h h') : OArr Z h' a ty n vs d := by obtain ⟨k, V⟩ := F; exact ⟨k, V.ext E⟩
theorem OArr.other {Z : State} {h h' : Heap} {a b : Addr} {ty : FieldType} {n : Int32} {vs : List Value} {d v : Value} {sl : Nat} (F : OArr Z h b ty n vs d) (W : Wr h h' a sl v) (q : b ≠ a) : OArr Z h' b ty n vs d := by obtain ⟨k, V⟩ := F; exact ⟨k, V.other W q⟩
theorem OArr.keep {Z : State} {h h' : Heap} {a : Addr} {ty : FieldType} {n : Int32} {vs : List Value} {d : Value} {ws : List Addr} (F : OArr Z h a ty n vs d) (K : Keep h h' ws) (q : a ∉ ws) : OArr Z h' a ty n vs d := by obtain ⟨k, V⟩ := F; exact ⟨k, V.keep K q⟩
theorem OEnd.int (X : Stand p l e R s m args below meth c T locs cells slots) (hx : p.tables.exec = Jvm.exec) {pc : Nat} {Ls : Array Slot} {z : Int32} {rest : List Value} (hret : meth.sig.returnType = some .int) (hlk : meth.locks = false) (hd : decode c.code pc = .ok (.ireturn, 1)) (hq : Q (some (.int z)) T.heap locs) (hc : cells ≤ kc) (hs : slots ≤ ks) :
    OEnd p e below s T (mkF m pc Ls (.int z :: rest)) Q kc ks := by
  obtain ⟨fs, hr, hrun, hended, hW, hsame⟩ := X.leave (v := some (.int z)) (fun h => by rw [hret] at h; cases h) hlk
  exact ⟨_, _, retI X hx hret hd hr, hrun, hended, _, _, rfl, hq, ⟨_, rfl⟩, hW, hsame.mono hc hs⟩
theorem OEnd.nar (X : Stand p l e R s m args below meth c T locs cells slots) (hx : p.tables.exec = Jvm.exec) {pc : Nat} {Ls : Array Slot} {z : Int32} {rest : List Value} {t : FieldType} (hret : meth.sig.returnType = some t) (ht : t = .boolean ∨ t = .byte ∨ t = .char ∨ t = .short) (hlk : meth.locks = false) (hd : decode c.code pc = .ok (.ireturn, 1)) (hq : Q (some (.int (nar t z))) T.heap locs) (hc : cells ≤ kc) (hs : slots ≤ ks) :
    OEnd p e below s T (mkF m pc Ls (.int z :: rest)) Q kc ks := by
  obtain ⟨fs, hr, hrun, hended, hW, hsame⟩ := X.leave (v := some (.int (RoadKit.nar t z))) (fun h => by rw [hret] at h; cases h) hlk
  exact ⟨_, _, retN X hx hret ht hd hr, hrun, hended, _, _, rfl, hq, ⟨_, rfl⟩, hW, hsame.mono hc hs⟩
theorem OEnd.long (X : Stand p l e R s m args below meth c T locs cells slots) (hx : p.tables.exec = Jvm.exec) {pc : Nat} {Ls : Array Slot} {z : Int64} (hret : meth.sig.returnType = some .long) (hlk : meth.locks = false) (hd : decode c.code pc = .ok (.lreturn, 1)) (hq : Q (some (.long z)) T.heap locs) (hc : cells ≤ kc) (hs : slots ≤ ks) :
    OEnd p e below s T (mkF m pc Ls [.long z]) Q kc ks := by
  obtain ⟨fs, hr, hrun, hended, hW, hsame⟩ := X.leave (v := some (.long z)) (fun h => by rw [hret] at h; cases h) hlk
  exact ⟨_, _, X.lreturnOut hx hret hd hr, hrun, hended, _, _, rfl, hq, ⟨_, rfl⟩, hW, hsame.mono hc hs⟩
theorem OEnd.void (X : Stand p l e R s m args below meth c T locs cells slots) (hx : p.tables.exec = Jvm.exec) {pc : Nat} {Ls : Array Slot} (hret : meth.sig.returnType = none) (hlk : meth.locks = false) (hd : decode c.code pc = .ok (.return_, 1)) (hq : Q none T.heap locs) (hc : cells ≤ kc) (hs : slots ≤ ks) :
    OEnd p e below s T (mkF m pc Ls []) Q kc ks := by
  obtain ⟨fs, hr, hrun, hended, hW, hsame⟩ := X.leave (v := none) (fun _ => rfl) hlk
  exact ⟨_, _, X.returnOut hx hret hd hr, hrun, hended, _, _, rfl, hq, ⟨_, rfl⟩, hW, hsame.mono hc hs⟩
theorem OEnd.ref (X : Stand p l e R s m args below meth c T locs cells slots) (hx : p.tables.exec = Jvm.exec) {pc : Nat} {Ls : Array Slot} {a : Addr} {t : FieldType} (hret : meth.sig.returnType = some t) (ht : t.isReference = true) (hlk : meth.locks = false) (hd : decode c.code pc = .ok (.areturn, 1)) (hq : Q (some (.ref a)) T.heap locs) (hc : cells ≤ kc) (hs : slots ≤ ks) :
    OEnd p e below s T (mkF m pc Ls [.ref a]) Q kc ks := by
  obtain ⟨fs, hr, hrun, hended, hW, hsame⟩ := X.leave (v := some (.ref a)) (fun h => by rw [hret] at h; cases h) hlk
  have hm' : T.vm.method? m = some meth := X.method'
  have st : Steps p.tables e below (T.setTop (mkF m pc Ls [.ref a])) (T.setFrames fs) := by
    show Steps p.tables e below (T.setTop { method := m, pc := pc, locals := Ls, stack := [_], locked := none }) _
    jvm_step X.here [X.here.top, hx, hd, hm', hret, ht, Value.isRef]
    first | (intro acts; rw [hr _ acts rfl rfl rfl]) | rw [hr _ _ rfl rfl rfl]
    exact Steps.refl _
  exact ⟨_, _, st, hrun, hended, _, _, rfl, hq, ⟨_, rfl⟩, hW, hsame.mono hc hs⟩
end Own
theorem own_clamp {i : Nat} (hi : i < 2147483648) : (Int32.ofNat i).toNatClampNeg = i := by
  rw [Int32.toNatClampNeg, Int32.toInt_ofNat_of_lt (by omega)]
  exact Int.toNat_natCast i
theorem own_frc {n0 : Nat} {dst : Addr} (h : n0 ≤ dst) (q k : Nat) : Fr n0 (Jvm.Stand.copyLocs dst q k) := by
  intro y hy
  obtain ⟨i, -, rfl⟩ := List.mem_map.mp hy
  exact h
theorem own_acopy {p : Program} {l : Launch} {e : Env} {R : Room} {s : State} {m : MethodId} {args : Array Value} {below : List Frame} {meth : Method} {c : Code} {T : State} {locs : List Loc} {cells slots : Nat} {Z : State} {aZ : Array Value} {h : Heap}
    (X : Stand p l e R s m args below meth c T locs cells slots) (hx : p.tables.exec = Jvm.exec) (hZ : Z.Warmed39 s.vm) {own : String} {index : Nat} (hown : s.vm.findClass own = some m.cls)
    (w1 : (Cond.methodLink own index ⟨"java/lang/System", "arraycopy", "(Ljava/lang/Object;ILjava/lang/Object;II)V"⟩).before aZ Z = true) (w2 : (Cond.native ⟨"java/lang/System", "arraycopy", "(Ljava/lang/Object;ILjava/lang/Object;II)V"⟩).before aZ Z = true) (w3 : (Cond.static ⟨"java/lang/System", "arraycopy", "(Ljava/lang/Object;ILjava/lang/Object;II)V"⟩).before aZ Z = true) (w4 : (Cond.initialized "java/lang/System").before aZ Z = true)
    (eT : T.heap = h) {src dst : Addr} {ns nd : Int32} {vs ws : List Value} {d : Value} (As : OArr Z h src .boolean ns vs d) (Ad : OArr Z h dst .boolean nd ws d) (k : Nat) (hk : ns = Int32.ofNat k) (hk2 : k < 2147483648) (hv : vs.length = k) (hle : k ≤ nd.toNatClampNeg) (hwl : ws.length = nd.toNatClampNeg)
    {g : JFrame} (hg : g.method = m) (hsize : g.locals.size = c.maxLocals) {rest : List Value} (hs : g.stack = .int ns :: .int 0 :: .ref dst :: .int 0 :: .ref src :: rest) (hd : decode c.code g.pc = .ok (.invokestatic index, 3)) (hfr : 1 ≤ R.frames) {W : Nat} (hW : 2 * g.monitorRoom + (rest.map fun v => v.category).sum ≤ W) (hlo : W + 40 ≤ R.locals) :
    ∃ T' h', Stand p l e R s m args below meth c T' (locs ++ Jvm.Stand.copyLocs dst 0 k) cells slots ∧ T'.heap = h' ∧ Keep h h' [dst] ∧ OArr Z h' dst .boolean nd (vs ++ ws.drop k) d ∧
      ∀ target, Steps p.tables e below (T'.setTop { g with pc := g.pc + 3, stack := rest }) target → Steps p.tables e below (T.setTop g) target := by
  obtain ⟨ka, cs, Ars, q1, S1, M1, H1, G1⟩ := As
  obtain ⟨kb, cd, Ard, q2, S2, M2, H2, G2⟩ := Ad
  subst hk
  have e0 : ((0 : Int32)).toNatClampNeg = 0 := by decide
  have ek : (Int32.ofNat k).toNatClampNeg = k := own_clamp hk2
  have sz1 : cs.slots.size = k := by rw [S1, ek]
  have sz2 : cd.slots.size = ws.length := by rw [S2, hwl]
  obtain ⟨ob1, k1, hk1, c1, kd1⟩ := State.isArrayOf_alike hZ.alike Ars.2.1
  obtain ⟨ob2, k2, hk2', c2, kd2⟩ := State.isArrayOf_alike hZ.alike Ard.2.1
  have ti0 : (0 : Int32).toInt = 0 := by decide
  have tik : (Int32.ofNat k).toInt = (k : Int) := Int32.toInt_ofNat_of_lt (by omega)
  have val : ∀ i, i < k → cs.slots.getD i .null = vs.getD i d := fun i hi => by
    have q := H1 i (by omega)
    rw [Array.getD_eq_getD_getElem?, q]
    rfl
  have nf : nativeFrameWords "java/lang/System" "arraycopy" 5 + 11 ≤ 40 := by decide
  obtain ⟨vm₁, hW1, X', st⟩ := X.arraycopyK hx hown (mvT hZ w1) (mvT hZ w2) (mvT hZ w3) (mvT hZ w4) (srcPos := 0) (destPos := 0) (n := Int32.ofNat k) (by rw [eT]; exact Ars.1) (by rw [eT]; exact Ard.1) ob1 ob2 Ars.2.2 Ard.2.2 hk1 hk2' kd1 kd2 (by decide) (by decide) (by decide) M1 (by rw [ti0, tik]; omega) (by rw [ti0, tik]; omega)
    (fun vmx hWx i hi => by
      rw [ek] at hi
      rw [e0, Nat.zero_add, val i hi]
      have gg := G1 i (by omega)
      refine ⟨gg, ?_⟩
      generalize vs.getD i d = v at gg
      cases v <;> first | trivial | (simp [fits] at gg)) hg hsize hs hd hfr (by omega)
  rw [e0, ek] at X'
  obtain ⟨f1, f2, f3⟩ := SB.copied_facts cs cd 0 0 (Int32.ofNat k)
  have at2 := Str.copied_at2 (cs := cs) (cd := cd) (o := 0) (p := 0) (n := k) (by decide) (by decide) hk2 (by omega)
  have hlt : dst < h.size := (Array.getElem?_eq_some_iff.mp Ard.1).1
  refine ⟨_, _, X', rfl, ⟨?_, ?_, ?_⟩, ⟨kb, copied cs cd 0 0 (Int32.ofNat k), ⟨?_, ?_, ?_⟩, ?_, ?_, M2, ?_, ?_⟩, st⟩
  · show h.size ≤ (T.heap.setIfInBounds dst _).size
    rw [eT]; simp
  · intro x c hxc hn
    show (T.heap.setIfInBounds dst _)[x]? = some c
    have : dst ≠ x := fun z => hn (by simp [z])
    rw [eT, Array.getElem?_setIfInBounds_ne this]; exact hxc
  · intro x c hxc
    show ∃ c', (T.heap.setIfInBounds dst _)[x]? = some c' ∧ _
    rw [eT]
    by_cases z : dst = x
    · subst z
      cases Ard.1.symm.trans hxc
      exact ⟨_, by rw [Array.getElem?_setIfInBounds_self_of_lt hlt], f1, f2, f3⟩
    · exact ⟨c, by rw [Array.getElem?_setIfInBounds_ne z]; exact hxc, rfl, rfl, rfl⟩
  · show (T.heap.setIfInBounds dst _)[dst]? = some _
    rw [eT, Array.getElem?_setIfInBounds_self_of_lt hlt]
  · obtain ⟨a1, b1, a2, a3, a4⟩ := Ard.2.1
    exact ⟨fun q => by rw [f2]; exact a1 q, b1, by rw [f1]; exact a2, a3, a4⟩
  · rw [f2]; exact Ard.2.2
  · rw [f1]; exact q2
  · rw [f3]; exact S2
  · intro j hj
    rw [f3] at hj
    have q := at2 j
    by_cases hjk : j < k
    · rw [if_pos ⟨Nat.zero_le _, by omega⟩] at q
      rw [show (0 : Nat) + (j - 0) = j by omega, val j hjk] at q
      rw [show (vs ++ ws.drop k).getD j d = vs.getD j d by simp [List.getD_eq_getElem?_getD, List.getElem?_append_left (show j < vs.length by omega)]]
      exact q
    · rw [if_neg (by omega), H2 j hj] at q
      rw [show (vs ++ ws.drop k).getD j d = ws.getD j d by
        simp only [List.getD_eq_getElem?_getD]
        rw [List.getElem?_append_right (by omega), List.getElem?_drop]
        congr 2
        omega]
      exact q
  · intro i hi
    rw [f3] at hi
    by_cases hik : i < k
    · rw [show (vs ++ ws.drop k).getD i d = vs.getD i d by simp [List.getD_eq_getElem?_getD, List.getElem?_append_left (show i < vs.length by omega)]]
      exact G1 i (by omega)
    · rw [show (vs ++ ws.drop k).getD i d = ws.getD i d by
        simp only [List.getD_eq_getElem?_getD]
        rw [List.getElem?_append_right (by omega), List.getElem?_drop]
        congr 2
        omega]
      exact G2 i hi
theorem own_rem (x y : Int32) (d : Int) (hy : y.toInt = d) : (0 ≤ x.toInt → (x - (x / y) * y).toInt = x.toInt % d) ∧ (x.toInt < 0 → (x - (x / y) * y).toInt = -((-x.toInt) % d)) := by
  rw [rem_toInt, hy]
  exact tr _ _
theorem own_n0 : nar .boolean (0 : Int32) = 0 := by decide
theorem own_n1 : nar .boolean (1 : Int32) = 1 := by decide
theorem own_lt (x y : Int32) : x < y ↔ x.toInt < y.toInt := Int32.lt_iff_toInt_lt
theorem own_eq (x y : Int32) : x = y ↔ x.toInt = y.toInt := Int32.toInt_inj.symm
theorem own_four (x : Int32) : (x &&& (3 : Int32)) = 0 ∨ (x &&& (3 : Int32)) = 1 ∨ (x &&& (3 : Int32)) = 2 ∨ (x &&& (3 : Int32)) = 3 := by
  have h := c_mask x 3 2 (by decide) (by decide)
  have e0 : (0 : Int32).toInt = 0 := by decide
  have e1 : (1 : Int32).toInt = 1 := by decide
  have e2 : (2 : Int32).toInt = 2 := by decide
  have e3 : (3 : Int32).toInt = 3 := by decide
  simp only [own_eq, e0, e1, e2, e3, h]
  omega

theorem d2_0 : decode prog_27_method_2_code 0 = .ok (.aload_n 0, 1) := by decide +kernel
theorem d2_1 : decode prog_27_method_2_code 1 = .ok (.invokespecial 7, 3) := by decide +kernel
theorem d2_4 : decode prog_27_method_2_code 4 = .ok (.aload_n 0, 1) := by decide +kernel
theorem d2_5 : decode prog_27_method_2_code 5 = .ok (.iconst 1, 1) := by decide +kernel
theorem d2_6 : decode prog_27_method_2_code 6 = .ok (.newarray .int, 2) := by decide +kernel
theorem d2_8 : decode prog_27_method_2_code 8 = .ok (.dup, 1) := by decide +kernel
theorem d2_9 : decode prog_27_method_2_code 9 = .ok (.iconst 0, 1) := by decide +kernel
theorem d2_10 : decode prog_27_method_2_code 10 = .ok (.iconst 0, 1) := by decide +kernel
theorem d2_11 : decode prog_27_method_2_code 11 = .ok (.iastore, 1) := by decide +kernel
theorem d2_12 : decode prog_27_method_2_code 12 = .ok (.putfield 12, 3) := by decide +kernel
theorem d2_15 : decode prog_27_method_2_code 15 = .ok (.aload_n 0, 1) := by decide +kernel
theorem d2_16 : decode prog_27_method_2_code 16 = .ok (.iconst 1, 1) := by decide +kernel
theorem d2_17 : decode prog_27_method_2_code 17 = .ok (.putfield 16, 3) := by decide +kernel
theorem d2_20 : decode prog_27_method_2_code 20 = .ok (.aload_n 0, 1) := by decide +kernel
theorem d2_21 : decode prog_27_method_2_code 21 = .ok (.iconst 1, 1) := by decide +kernel
theorem d2_22 : decode prog_27_method_2_code 22 = .ok (.newarray .boolean, 2) := by decide +kernel
theorem d2_24 : decode prog_27_method_2_code 24 = .ok (.putfield 20, 3) := by decide +kernel
theorem d2_27 : decode prog_27_method_2_code 27 = .ok (.aload_n 0, 1) := by decide +kernel
theorem d2_28 : decode prog_27_method_2_code 28 = .ok (.iload_n 1, 1) := by decide +kernel
theorem d2_29 : decode prog_27_method_2_code 29 = .ok (.putfield 24, 3) := by decide +kernel
theorem d2_32 : decode prog_27_method_2_code 32 = .ok (.return_, 1) := by decide +kernel
theorem pn_com_example_wedgetree_wedgetree_core_OpenedNodes : plainName "com/example/wedgetree/wedgetree/core/OpenedNodes" = true := by first | (simp [plainName, overriddenIn]; done) | decide +kernel
theorem ef_2_1 (m : MethodId) (x0 : Addr) : entryFrame m #[(.ref x0), (.int (1 : Int32))] 2 = mkF m 0 #[.val (.ref x0), .val (.int (1 : Int32))] [] := by first | (simp [entryFrame, mkF, argsToLocals, Value.category]; done) | rfl
def Q2_1 (Z : State) (a0 : Addr) (h0 : Heap) (n0 : Nat) (v : Option Value) (h : Heap) (L : List Loc) : Prop := ∃ w1 r1 : Addr, v = none ∧ Fr n0 L ∧ n0 ≤ w1 ∧ h0.size ≤ w1 ∧ n0 ≤ r1 ∧ h0.size ≤ r1 ∧ w1 ≠ r1 ∧ Keep h0 h [a0] ∧ Exa Z h a0 "com/example/wedgetree/wedgetree/core/OpenedNodes" ∧ Fld Z h a0 "com/example/wedgetree/wedgetree/core/OpenedNodes" "waitingDepths" "[I" (.ref w1) ∧ Fld Z h a0 "com/example/wedgetree/wedgetree/core/OpenedNodes" "waiting" "I" (.int (1 : Int32)) ∧ Fld Z h a0 "com/example/wedgetree/wedgetree/core/OpenedNodes" "holdsAnswer" "[Z" (.ref r1) ∧ Fld Z h a0 "com/example/wedgetree/wedgetree/core/OpenedNodes" "tallying" "Z" (.int (1 : Int32)) ∧ Fld Z h a0 "com/example/wedgetree/wedgetree/core/OpenedNodes" "depth" "I" (.int (0 : Int32)) ∧ Fld Z h a0 "com/example/wedgetree/wedgetree/core/OpenedNodes" "opened" "J" (.long (0 : Int64)) ∧ Fld Z h a0 "com/example/wedgetree/wedgetree/core/OpenedNodes" "holding" "J" (.long (0 : Int64)) ∧ OArr Z h w1 .int (1 : Int32) [(.int (0 : Int32))] (.int (0 : Int32)) ∧ OArr Z h r1 .boolean (1 : Int32) [(.int (0 : Int32))] (.int (0 : Int32))
set_option maxRecDepth 65536 in
set_option maxHeartbeats 40000000 in
theorem rm2_1 (l : Launch) (Z : State) (aZ : Array Value) (hw : ∀ d ∈ tables_1, d.before aZ Z = true) (ws : List Jvm.Cond) (a0 : Addr) (h0 : Heap) (n0 : Nat) (Z0 : n0 ≤ h0.size) (P0 : Fld Z h0 a0 "com/example/wedgetree/wedgetree/core/OpenedNodes" "waitingDepths" "[I" .null) (P1 : Fld Z h0 a0 "com/example/wedgetree/wedgetree/core/OpenedNodes" "waiting" "I" (.int (0 : Int32))) (P2 : Fld Z h0 a0 "com/example/wedgetree/wedgetree/core/OpenedNodes" "holdsAnswer" "[Z" .null) (P3 : Fld Z h0 a0 "com/example/wedgetree/wedgetree/core/OpenedNodes" "tallying" "Z" (.int (0 : Int32))) (P4 : Fld Z h0 a0 "com/example/wedgetree/wedgetree/core/OpenedNodes" "depth" "I" (.int (0 : Int32))) (P5 : Fld Z h0 a0 "com/example/wedgetree/wedgetree/core/OpenedNodes" "opened" "J" (.long (0 : Int64))) (P6 : Fld Z h0 a0 "com/example/wedgetree/wedgetree/core/OpenedNodes" "holding" "J" (.long (0 : Int64))) (P7 : Exa Z h0 a0 "com/example/wedgetree/wedgetree/core/OpenedNodes") (P8 : n0 ≤ a0) :
    MetFree l (⟨"com/example/wedgetree/wedgetree/core/OpenedNodes", "<init>", "(Z)V"⟩ : MethodName) (head1 (Jvm.Cond.code (⟨"com/example/wedgetree/wedgetree/core/OpenedNodes", "<init>", "(Z)V"⟩ : MethodName) prog_27_method_2_code 2 none :: ws) ({ frames := 1, cells := 2, slots := 2, locals := 12 } : Room)) (fun a U => a = #[(.ref a0), (.int (1 : Int32))] ∧ Z.Warmed39 U.vm ∧ U.heap = h0) (fun _ _ _ _ _ => True) (fun _ U o U' => ∃ v L, o = .returned v ∧ Q2_1 Z a0 h0 n0 v U'.heap L ∧ FrameEnd U o U' L ({ frames := 1, cells := 2, slots := 2, locals := 12 } : Room).cells ({ frames := 1, cells := 2, slots := 2, locals := 12 } : Room).slots) := by
  refine MetFree.of_bodySF (plainFor_of_name pn_com_example_wedgetree_wedgetree_core_OpenedNodes) hisR ?_
  intro p e s m args below meth c s₁ Bd hml0 hP hK
  obtain ⟨rfl, hZ, hh⟩ := hP
  have hx := Bd.exec
  have hby := Bd.bytes
  have hlk : meth.locks = false := BodyLoose.notSynchronized Bd
  have hml : c.maxLocals = 2 := hml0
  have hown : s.vm.findClass "com/example/wedgetree/wedgetree/core/OpenedNodes" = some m.cls := findClass_of_methodNamed Bd.named
  have hnm := (name_of_methodNamed Bd.named Bd.method).1
  have X0 : Stand p l e ({ frames := 1, cells := 2, slots := 2, locals := 12 } : Room) s m #[(.ref a0), (.int (1 : Int32))] below meth c s₁ [] 0 0 := Stand.of_body Bd
  have e0 : s₁.heap = h0 := by rw [← hh, Bd.state]; rfl
  have N0 := Fr.nil n0
  have K0 : Keep h0 h0 [a0] := Keep.refl _ _
  show OEnd p e below s s₁ (entryFrame m #[(.ref a0), (.int (1 : Int32))] 2) (Q2_1 Z a0 h0 n0) ({ frames := 1, cells := 2, slots := 2, locals := 12 } : Room).cells ({ frames := 1, cells := 2, slots := 2, locals := 12 } : Room).slots
  refine OEnd.go (g' := (mkF m 0 #[.val (.ref a0), .val (.int (1 : Int32))] [])) (fun _ k => castTop (ef_2_1 m a0) k) ?_
  refine OEnd.go (T' := s₁) (g' := (mkF m 1 #[.val (.ref a0), .val (.int (1 : Int32))] [(.ref a0)])) (fun t k => ?_) ?_
  · show Steps p.tables e below (s₁.setTop (mkF m 0 #[.val (.ref a0), .val (.int (1 : Int32))] [])) t
    refine XS.aloadN X0.here hx rfl (hb hby d2_0) rfl rfl ?_
    show Steps p.tables e below (s₁.setTop (mkF m 1 #[.val (.ref a0), .val (.int (1 : Int32))] [(.ref a0)])) t
    exact k
  obtain ⟨T1, X1, e1, st1⟩ := initO X0 hx hZ hown (hw _ (List.mem_of_getElem? (i := 9) rfl)) (hw _ (List.mem_of_getElem? (i := 10) rfl)) (hw _ (List.mem_of_getElem? (i := 11) rfl)) e0 (g := (mkF m 1 #[.val (.ref a0), .val (.int (1 : Int32))] [(.ref a0)])) rfl (by rw [hml]; rfl) rfl (hb hby d2_1) (by decide) (W := 0) (by show 2 * 0 + _ ≤ _; exact Nat.le_of_eq rfl) (by decide)
  refine OEnd.go (g' := (mkF m 4 #[.val (.ref a0), .val (.int (1 : Int32))] [])) st1 ?_
  refine OEnd.go (T' := T1) (g' := (mkF m 6 #[.val (.ref a0), .val (.int (1 : Int32))] [(.int (1 : Int32)), (.ref a0)])) (fun t k => ?_) ?_
  · show Steps p.tables e below (T1.setTop (mkF m 4 #[.val (.ref a0), .val (.int (1 : Int32))] [])) t
    refine XS.aloadN X1.here hx rfl (hb hby d2_4) rfl rfl ?_
    show Steps p.tables e below (T1.setTop (mkF m 5 #[.val (.ref a0), .val (.int (1 : Int32))] [(.ref a0)])) t
    refine XS.iconst X1.here hx rfl (hb hby d2_5) ?_
    show Steps p.tables e below (T1.setTop (mkF m 6 #[.val (.ref a0), .val (.int (1 : Int32))] [(.int (1 : Int32)), (.ref a0)])) t
    exact k
  obtain ⟨T2, h2, k2, X2, e2, E2, A2, st2⟩ := newP X1 hx hZ (hw _ (List.mem_of_getElem? (i := 12) rfl)) e1 (g := (mkF m 6 #[.val (.ref a0), .val (.int (1 : Int32))] [(.int (1 : Int32)), (.ref a0)])) rfl (hb hby d2_6) rfl (by decide) (cap := 1) (by decide) (by decide) (by decide) (by decide)
  obtain ⟨b2_6, g2⟩ : ∃ z, z = h0.size := ⟨_, rfl⟩
  rw [← g2] at A2 st2
  have gle_b2_6 : n0 ≤ b2_6 := Nat.le_trans Z0 (Nat.le_of_eq g2.symm)
  have sz_b2_6 : h0.size ≤ b2_6 := Nat.le_trans K0.1 (Nat.le_of_eq g2.symm)
  have ne_a0_b2_6 : a0 ≠ b2_6 := Nat.ne_of_lt (Nat.lt_of_lt_of_le P0.lt (Nat.le_of_eq g2.symm))
  have fc3 : Fld Z h2 a0 "com/example/wedgetree/wedgetree/core/OpenedNodes" "waitingDepths" "[I" .null := (P0.ext E2)
  have fc4 : Fld Z h2 a0 "com/example/wedgetree/wedgetree/core/OpenedNodes" "waiting" "I" (.int (0 : Int32)) := (P1.ext E2)
  have fc5 : Fld Z h2 a0 "com/example/wedgetree/wedgetree/core/OpenedNodes" "holdsAnswer" "[Z" .null := (P2.ext E2)
  have fc6 : Fld Z h2 a0 "com/example/wedgetree/wedgetree/core/OpenedNodes" "tallying" "Z" (.int (0 : Int32)) := (P3.ext E2)
  have fc7 : Fld Z h2 a0 "com/example/wedgetree/wedgetree/core/OpenedNodes" "depth" "I" (.int (0 : Int32)) := (P4.ext E2)
  have fc8 : Fld Z h2 a0 "com/example/wedgetree/wedgetree/core/OpenedNodes" "opened" "J" (.long (0 : Int64)) := (P5.ext E2)
  have fc9 : Fld Z h2 a0 "com/example/wedgetree/wedgetree/core/OpenedNodes" "holding" "J" (.long (0 : Int64)) := (P6.ext E2)
  have fc10 : Exa Z h2 a0 "com/example/wedgetree/wedgetree/core/OpenedNodes" := (P7.ext E2)
  have Z2 : n0 ≤ h2.size := Nat.le_trans Z0 E2.1
  have K2 : Keep h0 h2 [a0] := K0.ext E2
  have V2 : OArr Z h2 b2_6 .int (1 : Int32) [(.int (0 : Int32))] (.int (0 : Int32)) := ⟨_, (Arv.new A2 (by decide)).pad (pad_rep [] (.int (0 : Int32)) 1)⟩
  refine OEnd.go (g' := (mkF m 8 #[.val (.ref a0), .val (.int (1 : Int32))] [(.ref b2_6), (.ref a0)])) st2 ?_
  refine OEnd.go (T' := T2) (g' := (mkF m 11 #[.val (.ref a0), .val (.int (1 : Int32))] [(.int (0 : Int32)), (.int (0 : Int32)), (.ref b2_6), (.ref b2_6), (.ref a0)])) (fun t k => ?_) ?_
  · show Steps p.tables e below (T2.setTop (mkF m 8 #[.val (.ref a0), .val (.int (1 : Int32))] [(.ref b2_6), (.ref a0)])) t
    refine XS.dup X2.here hx rfl (hb hby d2_8) rfl rfl ?_
    show Steps p.tables e below (T2.setTop (mkF m 9 #[.val (.ref a0), .val (.int (1 : Int32))] [(.ref b2_6), (.ref b2_6), (.ref a0)])) t
    refine XS.iconst X2.here hx rfl (hb hby d2_9) ?_
    show Steps p.tables e below (T2.setTop (mkF m 10 #[.val (.ref a0), .val (.int (1 : Int32))] [(.int (0 : Int32)), (.ref b2_6), (.ref b2_6), (.ref a0)])) t
    refine XS.iconst X2.here hx rfl (hb hby d2_10) ?_
    show Steps p.tables e below (T2.setTop (mkF m 11 #[.val (.ref a0), .val (.int (1 : Int32))] [(.int (0 : Int32)), (.int (0 : Int32)), (.ref b2_6), (.ref b2_6), (.ref a0)])) t
    exact k
  obtain ⟨kc11, cl11, Ar11, q11, S11, M11, H11, G11⟩ := id V2
  have hin11 : ¬ ((0 : Int32) < 0 ∨ cl11.slots.size ≤ ((0 : Int32)).toNatClampNeg) := inb_of S11 ⟨by decide, by decide⟩
  obtain ⟨T11, h11, X11, e11, W11, st11⟩ := stI X2 hx hZ e2 Ar11 (j := (0 : Int32)) hin11 (g := (mkF m 11 #[.val (.ref a0), .val (.int (1 : Int32))] [(.int (0 : Int32)), (.int (0 : Int32)), (.ref b2_6), (.ref b2_6), (.ref a0)])) rfl rfl (hb hby d2_11)
  have N11 := Fr.snoc X11 N0 gle_b2_6
  have Z11 : n0 ≤ h11.size := Nat.le_trans Z2 (Keep.of_wr W11).1
  have K11 : Keep h0 h11 [a0] := K2.wr W11 (Or.inr sz_b2_6)
  have V11 : OArr Z h11 b2_6 .int (1 : Int32) [(.int (0 : Int32))] (.int (0 : Int32)) := ⟨_, Arv.set Ar11 q11 S11 M11 H11 G11 rfl W11 0 rfl (Nat.le_of_ble_eq_true rfl)⟩
  have fc12 : Fld Z h11 a0 "com/example/wedgetree/wedgetree/core/OpenedNodes" "waitingDepths" "[I" .null := (fc3.other W11 (Or.inl ne_a0_b2_6))
  have fc13 : Fld Z h11 a0 "com/example/wedgetree/wedgetree/core/OpenedNodes" "waiting" "I" (.int (0 : Int32)) := (fc4.other W11 (Or.inl ne_a0_b2_6))
  have fc14 : Fld Z h11 a0 "com/example/wedgetree/wedgetree/core/OpenedNodes" "holdsAnswer" "[Z" .null := (fc5.other W11 (Or.inl ne_a0_b2_6))
  have fc15 : Fld Z h11 a0 "com/example/wedgetree/wedgetree/core/OpenedNodes" "tallying" "Z" (.int (0 : Int32)) := (fc6.other W11 (Or.inl ne_a0_b2_6))
  have fc16 : Fld Z h11 a0 "com/example/wedgetree/wedgetree/core/OpenedNodes" "depth" "I" (.int (0 : Int32)) := (fc7.other W11 (Or.inl ne_a0_b2_6))
  have fc17 : Fld Z h11 a0 "com/example/wedgetree/wedgetree/core/OpenedNodes" "opened" "J" (.long (0 : Int64)) := (fc8.other W11 (Or.inl ne_a0_b2_6))
  have fc18 : Fld Z h11 a0 "com/example/wedgetree/wedgetree/core/OpenedNodes" "holding" "J" (.long (0 : Int64)) := (fc9.other W11 (Or.inl ne_a0_b2_6))
  have fc19 : Exa Z h11 a0 "com/example/wedgetree/wedgetree/core/OpenedNodes" := (fc10.wr W11)
  refine OEnd.go (g' := (mkF m 12 #[.val (.ref a0), .val (.int (1 : Int32))] [(.ref b2_6), (.ref a0)])) st11 ?_
  obtain ⟨T20, h20, X20, e20, W20, st20⟩ := putF X11 hx hZ hown (host := "") (Or.inl (hw _ (List.mem_of_getElem? (i := 13) rfl))) Via.refl e11 fc12 fc19 (Or.inl (hw _ (List.mem_of_getElem? (i := 14) rfl))) (hw _ (List.mem_of_getElem? (i := 1) rfl)) (ty := (.array .int)) (by decide) rfl rfl (g := (mkF m 12 #[.val (.ref a0), .val (.int (1 : Int32))] [(.ref b2_6), (.ref a0)])) rfl rfl (hb hby d2_12)
  have N20 := Fr.snoc X20 N11 P8
  have Z20 : n0 ≤ h20.size := Nat.le_trans Z11 (Keep.of_wr W20).1
  have K20 : Keep h0 h20 [a0] := K11.wr W20 (Or.inl (List.mem_of_getElem? (i := 0) rfl))
  have fc21 : Fld Z h20 a0 "com/example/wedgetree/wedgetree/core/OpenedNodes" "waitingDepths" "[I" (.ref b2_6) := (fc12.same W20)
  have fc22 : Fld Z h20 a0 "com/example/wedgetree/wedgetree/core/OpenedNodes" "waiting" "I" (.int (0 : Int32)) := (fc13.other W20 (Or.inr (slot_ne (Or.inl (hw _ (List.mem_of_getElem? (i := 16) rfl))) (Or.inl (hw _ (List.mem_of_getElem? (i := 14) rfl))) (by decide) (t := .int) (t' := (.array .int)) (by decide) (by decide))))
  have fc23 : Fld Z h20 a0 "com/example/wedgetree/wedgetree/core/OpenedNodes" "holdsAnswer" "[Z" .null := (fc14.other W20 (Or.inr (slot_ne (Or.inl (hw _ (List.mem_of_getElem? (i := 19) rfl))) (Or.inl (hw _ (List.mem_of_getElem? (i := 14) rfl))) (by decide) (t := (.array .boolean)) (t' := (.array .int)) (by decide) (by decide))))
  have fc24 : Fld Z h20 a0 "com/example/wedgetree/wedgetree/core/OpenedNodes" "tallying" "Z" (.int (0 : Int32)) := (fc15.other W20 (Or.inr (slot_ne (Or.inr (hw _ (List.mem_of_getElem? (i := 21) rfl))) (Or.inl (hw _ (List.mem_of_getElem? (i := 14) rfl))) (by decide) (t := .boolean) (t' := (.array .int)) (by decide) (by decide))))
  have fc25 : Fld Z h20 a0 "com/example/wedgetree/wedgetree/core/OpenedNodes" "depth" "I" (.int (0 : Int32)) := (fc16.other W20 (Or.inr (slot_ne (Or.inl (hw _ (List.mem_of_getElem? (i := 28) rfl))) (Or.inl (hw _ (List.mem_of_getElem? (i := 14) rfl))) (by decide) (t := .int) (t' := (.array .int)) (by decide) (by decide))))
  have fc26 : Fld Z h20 a0 "com/example/wedgetree/wedgetree/core/OpenedNodes" "opened" "J" (.long (0 : Int64)) := (fc17.other W20 (Or.inr (slot_ne (Or.inl (hw _ (List.mem_of_getElem? (i := 53) rfl))) (Or.inl (hw _ (List.mem_of_getElem? (i := 14) rfl))) (by decide) (t := .long) (t' := (.array .int)) (by decide) (by decide))))
  have fc27 : Fld Z h20 a0 "com/example/wedgetree/wedgetree/core/OpenedNodes" "holding" "J" (.long (0 : Int64)) := (fc18.other W20 (Or.inr (slot_ne (Or.inl (hw _ (List.mem_of_getElem? (i := 74) rfl))) (Or.inl (hw _ (List.mem_of_getElem? (i := 14) rfl))) (by decide) (t := .long) (t' := (.array .int)) (by decide) (by decide))))
  have fc28 : Exa Z h20 a0 "com/example/wedgetree/wedgetree/core/OpenedNodes" := (fc19.wr W20)
  have fc29 : OArr Z h20 b2_6 .int (1 : Int32) [(.int (0 : Int32))] (.int (0 : Int32)) := (V11.other W20 (Ne.symm ne_a0_b2_6))
  refine OEnd.go (g' := (mkF m 15 #[.val (.ref a0), .val (.int (1 : Int32))] [])) st20 ?_
  refine OEnd.go (T' := T20) (g' := (mkF m 17 #[.val (.ref a0), .val (.int (1 : Int32))] [(.int (1 : Int32)), (.ref a0)])) (fun t k => ?_) ?_
  · show Steps p.tables e below (T20.setTop (mkF m 15 #[.val (.ref a0), .val (.int (1 : Int32))] [])) t
    refine XS.aloadN X20.here hx rfl (hb hby d2_15) rfl rfl ?_
    show Steps p.tables e below (T20.setTop (mkF m 16 #[.val (.ref a0), .val (.int (1 : Int32))] [(.ref a0)])) t
    refine XS.iconst X20.here hx rfl (hb hby d2_16) ?_
    show Steps p.tables e below (T20.setTop (mkF m 17 #[.val (.ref a0), .val (.int (1 : Int32))] [(.int (1 : Int32)), (.ref a0)])) t
    exact k
  obtain ⟨T30, h30, X30, e30, W30, st30⟩ := putF X20 hx hZ hown (host := "") (Or.inl (hw _ (List.mem_of_getElem? (i := 15) rfl))) Via.refl e20 fc22 fc28 (Or.inl (hw _ (List.mem_of_getElem? (i := 16) rfl))) (hw _ (List.mem_of_getElem? (i := 1) rfl)) (ty := .int) (by decide) rfl rfl (g := (mkF m 17 #[.val (.ref a0), .val (.int (1 : Int32))] [(.int (1 : Int32)), (.ref a0)])) rfl rfl (hb hby d2_17)
  have N30 := Fr.snoc X30 N20 P8
  have Z30 : n0 ≤ h30.size := Nat.le_trans Z20 (Keep.of_wr W30).1
  have K30 : Keep h0 h30 [a0] := K20.wr W30 (Or.inl (List.mem_of_getElem? (i := 0) rfl))
  have fc31 : Fld Z h30 a0 "com/example/wedgetree/wedgetree/core/OpenedNodes" "waitingDepths" "[I" (.ref b2_6) := (fc21.other W30 (Or.inr (slot_ne (Or.inl (hw _ (List.mem_of_getElem? (i := 14) rfl))) (Or.inl (hw _ (List.mem_of_getElem? (i := 16) rfl))) (by decide) (t := (.array .int)) (t' := .int) (by decide) (by decide))))
  have fc32 : Fld Z h30 a0 "com/example/wedgetree/wedgetree/core/OpenedNodes" "waiting" "I" (.int (1 : Int32)) := (fc22.same W30)
  have fc33 : Fld Z h30 a0 "com/example/wedgetree/wedgetree/core/OpenedNodes" "holdsAnswer" "[Z" .null := (fc23.other W30 (Or.inr (slot_ne (Or.inl (hw _ (List.mem_of_getElem? (i := 19) rfl))) (Or.inl (hw _ (List.mem_of_getElem? (i := 16) rfl))) (by decide) (t := (.array .boolean)) (t' := .int) (by decide) (by decide))))
  have fc34 : Fld Z h30 a0 "com/example/wedgetree/wedgetree/core/OpenedNodes" "tallying" "Z" (.int (0 : Int32)) := (fc24.other W30 (Or.inr (slot_ne (Or.inr (hw _ (List.mem_of_getElem? (i := 21) rfl))) (Or.inl (hw _ (List.mem_of_getElem? (i := 16) rfl))) (by decide) (t := .boolean) (t' := .int) (by decide) (by decide))))
  have fc35 : Fld Z h30 a0 "com/example/wedgetree/wedgetree/core/OpenedNodes" "depth" "I" (.int (0 : Int32)) := (fc25.other W30 (Or.inr (slot_ne (Or.inl (hw _ (List.mem_of_getElem? (i := 28) rfl))) (Or.inl (hw _ (List.mem_of_getElem? (i := 16) rfl))) (by decide) (t := .int) (t' := .int) (by decide) (by decide))))
  have fc36 : Fld Z h30 a0 "com/example/wedgetree/wedgetree/core/OpenedNodes" "opened" "J" (.long (0 : Int64)) := (fc26.other W30 (Or.inr (slot_ne (Or.inl (hw _ (List.mem_of_getElem? (i := 53) rfl))) (Or.inl (hw _ (List.mem_of_getElem? (i := 16) rfl))) (by decide) (t := .long) (t' := .int) (by decide) (by decide))))
  have fc37 : Fld Z h30 a0 "com/example/wedgetree/wedgetree/core/OpenedNodes" "holding" "J" (.long (0 : Int64)) := (fc27.other W30 (Or.inr (slot_ne (Or.inl (hw _ (List.mem_of_getElem? (i := 74) rfl))) (Or.inl (hw _ (List.mem_of_getElem? (i := 16) rfl))) (by decide) (t := .long) (t' := .int) (by decide) (by decide))))
  have fc38 : Exa Z h30 a0 "com/example/wedgetree/wedgetree/core/OpenedNodes" := (fc28.wr W30)
  have fc39 : OArr Z h30 b2_6 .int (1 : Int32) [(.int (0 : Int32))] (.int (0 : Int32)) := (fc29.other W30 (Ne.symm ne_a0_b2_6))
  refine OEnd.go (g' := (mkF m 20 #[.val (.ref a0), .val (.int (1 : Int32))] [])) st30 ?_
  refine OEnd.go (T' := T30) (g' := (mkF m 22 #[.val (.ref a0), .val (.int (1 : Int32))] [(.int (1 : Int32)), (.ref a0)])) (fun t k => ?_) ?_
  · show Steps p.tables e below (T30.setTop (mkF m 20 #[.val (.ref a0), .val (.int (1 : Int32))] [])) t
    refine XS.aloadN X30.here hx rfl (hb hby d2_20) rfl rfl ?_
    show Steps p.tables e below (T30.setTop (mkF m 21 #[.val (.ref a0), .val (.int (1 : Int32))] [(.ref a0)])) t
    refine XS.iconst X30.here hx rfl (hb hby d2_21) ?_
    show Steps p.tables e below (T30.setTop (mkF m 22 #[.val (.ref a0), .val (.int (1 : Int32))] [(.int (1 : Int32)), (.ref a0)])) t
    exact k
  obtain ⟨T40, h40, k40, X40, e40, E40, A40, st40⟩ := newP X30 hx hZ (hw _ (List.mem_of_getElem? (i := 17) rfl)) e30 (g := (mkF m 22 #[.val (.ref a0), .val (.int (1 : Int32))] [(.int (1 : Int32)), (.ref a0)])) rfl (hb hby d2_22) rfl (by decide) (cap := 1) (by decide) (by decide) (by decide) (by decide)
  obtain ⟨b2_22, g40⟩ : ∃ z, z = h30.size := ⟨_, rfl⟩
  rw [← g40] at A40 st40
  have gle_b2_22 : n0 ≤ b2_22 := Nat.le_trans Z30 (Nat.le_of_eq g40.symm)
  have sz_b2_22 : h0.size ≤ b2_22 := Nat.le_trans K30.1 (Nat.le_of_eq g40.symm)
  have ne_a0_b2_22 : a0 ≠ b2_22 := Nat.ne_of_lt (Nat.lt_of_lt_of_le fc31.lt (Nat.le_of_eq g40.symm))
  have ne_b2_6_b2_22 : b2_6 ≠ b2_22 := Nat.ne_of_lt (Nat.lt_of_lt_of_le fc39.lt (Nat.le_of_eq g40.symm))
  have fc41 : Fld Z h40 a0 "com/example/wedgetree/wedgetree/core/OpenedNodes" "waitingDepths" "[I" (.ref b2_6) := (fc31.ext E40)
  have fc42 : Fld Z h40 a0 "com/example/wedgetree/wedgetree/core/OpenedNodes" "waiting" "I" (.int (1 : Int32)) := (fc32.ext E40)
  have fc43 : Fld Z h40 a0 "com/example/wedgetree/wedgetree/core/OpenedNodes" "holdsAnswer" "[Z" .null := (fc33.ext E40)
  have fc44 : Fld Z h40 a0 "com/example/wedgetree/wedgetree/core/OpenedNodes" "tallying" "Z" (.int (0 : Int32)) := (fc34.ext E40)
  have fc45 : Fld Z h40 a0 "com/example/wedgetree/wedgetree/core/OpenedNodes" "depth" "I" (.int (0 : Int32)) := (fc35.ext E40)
  have fc46 : Fld Z h40 a0 "com/example/wedgetree/wedgetree/core/OpenedNodes" "opened" "J" (.long (0 : Int64)) := (fc36.ext E40)
  have fc47 : Fld Z h40 a0 "com/example/wedgetree/wedgetree/core/OpenedNodes" "holding" "J" (.long (0 : Int64)) := (fc37.ext E40)
  have fc48 : Exa Z h40 a0 "com/example/wedgetree/wedgetree/core/OpenedNodes" := (fc38.ext E40)
  have fc49 : OArr Z h40 b2_6 .int (1 : Int32) [(.int (0 : Int32))] (.int (0 : Int32)) := (fc39.ext E40)
  have Z40 : n0 ≤ h40.size := Nat.le_trans Z30 E40.1
  have K40 : Keep h0 h40 [a0] := K30.ext E40
  have V40 : OArr Z h40 b2_22 .boolean (1 : Int32) [(.int (0 : Int32))] (.int (0 : Int32)) := ⟨_, (Arv.new A40 (by decide)).pad (pad_rep [] (.int (0 : Int32)) 1)⟩
  refine OEnd.go (g' := (mkF m 24 #[.val (.ref a0), .val (.int (1 : Int32))] [(.ref b2_22), (.ref a0)])) st40 ?_
  obtain ⟨T50, h50, X50, e50, W50, st50⟩ := putF X40 hx hZ hown (host := "") (Or.inl (hw _ (List.mem_of_getElem? (i := 18) rfl))) Via.refl e40 fc43 fc48 (Or.inl (hw _ (List.mem_of_getElem? (i := 19) rfl))) (hw _ (List.mem_of_getElem? (i := 1) rfl)) (ty := (.array .boolean)) (by decide) rfl rfl (g := (mkF m 24 #[.val (.ref a0), .val (.int (1 : Int32))] [(.ref b2_22), (.ref a0)])) rfl rfl (hb hby d2_24)
  have N50 := Fr.snoc X50 N30 P8
  have Z50 : n0 ≤ h50.size := Nat.le_trans Z40 (Keep.of_wr W50).1
  have K50 : Keep h0 h50 [a0] := K40.wr W50 (Or.inl (List.mem_of_getElem? (i := 0) rfl))
  have fc51 : Fld Z h50 a0 "com/example/wedgetree/wedgetree/core/OpenedNodes" "waitingDepths" "[I" (.ref b2_6) := (fc41.other W50 (Or.inr (slot_ne (Or.inl (hw _ (List.mem_of_getElem? (i := 14) rfl))) (Or.inl (hw _ (List.mem_of_getElem? (i := 19) rfl))) (by decide) (t := (.array .int)) (t' := (.array .boolean)) (by decide) (by decide))))
  have fc52 : Fld Z h50 a0 "com/example/wedgetree/wedgetree/core/OpenedNodes" "waiting" "I" (.int (1 : Int32)) := (fc42.other W50 (Or.inr (slot_ne (Or.inl (hw _ (List.mem_of_getElem? (i := 16) rfl))) (Or.inl (hw _ (List.mem_of_getElem? (i := 19) rfl))) (by decide) (t := .int) (t' := (.array .boolean)) (by decide) (by decide))))
  have fc53 : Fld Z h50 a0 "com/example/wedgetree/wedgetree/core/OpenedNodes" "holdsAnswer" "[Z" (.ref b2_22) := (fc43.same W50)
  have fc54 : Fld Z h50 a0 "com/example/wedgetree/wedgetree/core/OpenedNodes" "tallying" "Z" (.int (0 : Int32)) := (fc44.other W50 (Or.inr (slot_ne (Or.inr (hw _ (List.mem_of_getElem? (i := 21) rfl))) (Or.inl (hw _ (List.mem_of_getElem? (i := 19) rfl))) (by decide) (t := .boolean) (t' := (.array .boolean)) (by decide) (by decide))))
  have fc55 : Fld Z h50 a0 "com/example/wedgetree/wedgetree/core/OpenedNodes" "depth" "I" (.int (0 : Int32)) := (fc45.other W50 (Or.inr (slot_ne (Or.inl (hw _ (List.mem_of_getElem? (i := 28) rfl))) (Or.inl (hw _ (List.mem_of_getElem? (i := 19) rfl))) (by decide) (t := .int) (t' := (.array .boolean)) (by decide) (by decide))))
  have fc56 : Fld Z h50 a0 "com/example/wedgetree/wedgetree/core/OpenedNodes" "opened" "J" (.long (0 : Int64)) := (fc46.other W50 (Or.inr (slot_ne (Or.inl (hw _ (List.mem_of_getElem? (i := 53) rfl))) (Or.inl (hw _ (List.mem_of_getElem? (i := 19) rfl))) (by decide) (t := .long) (t' := (.array .boolean)) (by decide) (by decide))))
  have fc57 : Fld Z h50 a0 "com/example/wedgetree/wedgetree/core/OpenedNodes" "holding" "J" (.long (0 : Int64)) := (fc47.other W50 (Or.inr (slot_ne (Or.inl (hw _ (List.mem_of_getElem? (i := 74) rfl))) (Or.inl (hw _ (List.mem_of_getElem? (i := 19) rfl))) (by decide) (t := .long) (t' := (.array .boolean)) (by decide) (by decide))))
  have fc58 : Exa Z h50 a0 "com/example/wedgetree/wedgetree/core/OpenedNodes" := (fc48.wr W50)
  have fc59 : OArr Z h50 b2_6 .int (1 : Int32) [(.int (0 : Int32))] (.int (0 : Int32)) := (fc49.other W50 (Ne.symm ne_a0_b2_6))
  have fc60 : OArr Z h50 b2_22 .boolean (1 : Int32) [(.int (0 : Int32))] (.int (0 : Int32)) := (V40.other W50 (Ne.symm ne_a0_b2_22))
  refine OEnd.go (g' := (mkF m 27 #[.val (.ref a0), .val (.int (1 : Int32))] [])) st50 ?_
  refine OEnd.go (T' := T50) (g' := (mkF m 29 #[.val (.ref a0), .val (.int (1 : Int32))] [(.int (1 : Int32)), (.ref a0)])) (fun t k => ?_) ?_
  · show Steps p.tables e below (T50.setTop (mkF m 27 #[.val (.ref a0), .val (.int (1 : Int32))] [])) t
    refine XS.aloadN X50.here hx rfl (hb hby d2_27) rfl rfl ?_
    show Steps p.tables e below (T50.setTop (mkF m 28 #[.val (.ref a0), .val (.int (1 : Int32))] [(.ref a0)])) t
    refine XS.iloadN X50.here hx rfl (hb hby d2_28) rfl ?_
    show Steps p.tables e below (T50.setTop (mkF m 29 #[.val (.ref a0), .val (.int (1 : Int32))] [(.int (1 : Int32)), (.ref a0)])) t
    exact k
  obtain ⟨T61, h61, X61, e61, W61, st61⟩ := putFN X50 hx hZ hown (hw _ (List.mem_of_getElem? (i := 20) rfl)) Via.refl e50 fc54 fc58 (Or.inr ⟨(hw _ (List.mem_of_getElem? (i := 21) rfl)), rfl, hnm⟩) (hw _ (List.mem_of_getElem? (i := 1) rfl)) (ty := .boolean) (v' := (.int (1 : Int32))) (by decide) rfl rfl (g := (mkF m 29 #[.val (.ref a0), .val (.int (1 : Int32))] [(.int (1 : Int32)), (.ref a0)])) rfl rfl (hb hby d2_29)
  have N61 := Fr.snoc X61 N50 P8
  have Z61 : n0 ≤ h61.size := Nat.le_trans Z50 (Keep.of_wr W61).1
  have K61 : Keep h0 h61 [a0] := K50.wr W61 (Or.inl (List.mem_of_getElem? (i := 0) rfl))
  have fc62 : Fld Z h61 a0 "com/example/wedgetree/wedgetree/core/OpenedNodes" "waitingDepths" "[I" (.ref b2_6) := (fc51.other W61 (Or.inr (slot_ne (Or.inl (hw _ (List.mem_of_getElem? (i := 14) rfl))) (Or.inr (hw _ (List.mem_of_getElem? (i := 21) rfl))) (by decide) (t := (.array .int)) (t' := .boolean) (by decide) (by decide))))
  have fc63 : Fld Z h61 a0 "com/example/wedgetree/wedgetree/core/OpenedNodes" "waiting" "I" (.int (1 : Int32)) := (fc52.other W61 (Or.inr (slot_ne (Or.inl (hw _ (List.mem_of_getElem? (i := 16) rfl))) (Or.inr (hw _ (List.mem_of_getElem? (i := 21) rfl))) (by decide) (t := .int) (t' := .boolean) (by decide) (by decide))))
  have fc64 : Fld Z h61 a0 "com/example/wedgetree/wedgetree/core/OpenedNodes" "holdsAnswer" "[Z" (.ref b2_22) := (fc53.other W61 (Or.inr (slot_ne (Or.inl (hw _ (List.mem_of_getElem? (i := 19) rfl))) (Or.inr (hw _ (List.mem_of_getElem? (i := 21) rfl))) (by decide) (t := (.array .boolean)) (t' := .boolean) (by decide) (by decide))))
  have fc65 : Fld Z h61 a0 "com/example/wedgetree/wedgetree/core/OpenedNodes" "tallying" "Z" (.int (1 : Int32)) := (fc54.same W61)
  have fc66 : Fld Z h61 a0 "com/example/wedgetree/wedgetree/core/OpenedNodes" "depth" "I" (.int (0 : Int32)) := (fc55.other W61 (Or.inr (slot_ne (Or.inl (hw _ (List.mem_of_getElem? (i := 28) rfl))) (Or.inr (hw _ (List.mem_of_getElem? (i := 21) rfl))) (by decide) (t := .int) (t' := .boolean) (by decide) (by decide))))
  have fc67 : Fld Z h61 a0 "com/example/wedgetree/wedgetree/core/OpenedNodes" "opened" "J" (.long (0 : Int64)) := (fc56.other W61 (Or.inr (slot_ne (Or.inl (hw _ (List.mem_of_getElem? (i := 53) rfl))) (Or.inr (hw _ (List.mem_of_getElem? (i := 21) rfl))) (by decide) (t := .long) (t' := .boolean) (by decide) (by decide))))
  have fc68 : Fld Z h61 a0 "com/example/wedgetree/wedgetree/core/OpenedNodes" "holding" "J" (.long (0 : Int64)) := (fc57.other W61 (Or.inr (slot_ne (Or.inl (hw _ (List.mem_of_getElem? (i := 74) rfl))) (Or.inr (hw _ (List.mem_of_getElem? (i := 21) rfl))) (by decide) (t := .long) (t' := .boolean) (by decide) (by decide))))
  have fc69 : Exa Z h61 a0 "com/example/wedgetree/wedgetree/core/OpenedNodes" := (fc58.wr W61)
  have fc70 : OArr Z h61 b2_6 .int (1 : Int32) [(.int (0 : Int32))] (.int (0 : Int32)) := (fc59.other W61 (Ne.symm ne_a0_b2_6))
  have fc71 : OArr Z h61 b2_22 .boolean (1 : Int32) [(.int (0 : Int32))] (.int (0 : Int32)) := (fc60.other W61 (Ne.symm ne_a0_b2_22))
  refine OEnd.go (g' := (mkF m 32 #[.val (.ref a0), .val (.int (1 : Int32))] [])) st61 ?_
  exact OEnd.void X61 hx Bd.returns hlk (hb hby d2_32) ⟨b2_6, b2_22, rfl, N61, gle_b2_6, sz_b2_6, gle_b2_22, sz_b2_22, ne_b2_6_b2_22, (own_at e61 (P := fun h => Keep h0 h [a0]) K61), (own_at e61 (P := fun h => Exa Z h a0 "com/example/wedgetree/wedgetree/core/OpenedNodes") fc69), (own_at e61 (P := fun h => Fld Z h a0 "com/example/wedgetree/wedgetree/core/OpenedNodes" "waitingDepths" "[I" (.ref b2_6)) fc62), (own_at e61 (P := fun h => Fld Z h a0 "com/example/wedgetree/wedgetree/core/OpenedNodes" "waiting" "I" (.int (1 : Int32))) fc63), (own_at e61 (P := fun h => Fld Z h a0 "com/example/wedgetree/wedgetree/core/OpenedNodes" "holdsAnswer" "[Z" (.ref b2_22)) fc64), (own_at e61 (P := fun h => Fld Z h a0 "com/example/wedgetree/wedgetree/core/OpenedNodes" "tallying" "Z" (.int (1 : Int32))) fc65), (own_at e61 (P := fun h => Fld Z h a0 "com/example/wedgetree/wedgetree/core/OpenedNodes" "depth" "I" (.int (0 : Int32))) fc66), (own_at e61 (P := fun h => Fld Z h a0 "com/example/wedgetree/wedgetree/core/OpenedNodes" "opened" "J" (.long (0 : Int64))) fc67), (own_at e61 (P := fun h => Fld Z h a0 "com/example/wedgetree/wedgetree/core/OpenedNodes" "holding" "J" (.long (0 : Int64))) fc68), (own_at e61 (P := fun h => OArr Z h b2_6 .int (1 : Int32) [(.int (0 : Int32))] (.int (0 : Int32))) fc70), (own_at e61 (P := fun h => OArr Z h b2_22 .boolean (1 : Int32) [(.int (0 : Int32))] (.int (0 : Int32))) fc71)⟩ (by decide) (by decide)
theorem d1_0 : decode prog_27_method_1_code 0 = .ok (.aload_n 0, 1) := by decide +kernel
theorem d1_1 : decode prog_27_method_1_code 1 = .ok (.iconst 1, 1) := by decide +kernel
theorem d1_2 : decode prog_27_method_1_code 2 = .ok (.invokespecial 1, 3) := by decide +kernel
theorem pd__Z_V : parseMethodDescriptor "(Z)V" = some ⟨[.boolean], none⟩ := by decide +kernel
theorem d1_5 : decode prog_27_method_1_code 5 = .ok (.return_, 1) := by decide +kernel
theorem ef_1 (m : MethodId) (x0 : Addr) : entryFrame m #[(.ref x0)] 1 = mkF m 0 #[.val (.ref x0)] [] := by first | (simp [entryFrame, mkF, argsToLocals, Value.category]; done) | rfl
def Q1 (Z : State) (a0 : Addr) (h0 : Heap) (n0 : Nat) (v : Option Value) (h : Heap) (L : List Loc) : Prop := ∃ w1 r1 : Addr, v = none ∧ Fr n0 L ∧ n0 ≤ w1 ∧ h0.size ≤ w1 ∧ n0 ≤ r1 ∧ h0.size ≤ r1 ∧ w1 ≠ r1 ∧ Keep h0 h [a0] ∧ Exa Z h a0 "com/example/wedgetree/wedgetree/core/OpenedNodes" ∧ Fld Z h a0 "com/example/wedgetree/wedgetree/core/OpenedNodes" "waitingDepths" "[I" (.ref w1) ∧ Fld Z h a0 "com/example/wedgetree/wedgetree/core/OpenedNodes" "waiting" "I" (.int (1 : Int32)) ∧ Fld Z h a0 "com/example/wedgetree/wedgetree/core/OpenedNodes" "holdsAnswer" "[Z" (.ref r1) ∧ Fld Z h a0 "com/example/wedgetree/wedgetree/core/OpenedNodes" "tallying" "Z" (.int (1 : Int32)) ∧ Fld Z h a0 "com/example/wedgetree/wedgetree/core/OpenedNodes" "depth" "I" (.int (0 : Int32)) ∧ Fld Z h a0 "com/example/wedgetree/wedgetree/core/OpenedNodes" "opened" "J" (.long (0 : Int64)) ∧ Fld Z h a0 "com/example/wedgetree/wedgetree/core/OpenedNodes" "holding" "J" (.long (0 : Int64)) ∧ OArr Z h w1 .int (1 : Int32) [(.int (0 : Int32))] (.int (0 : Int32)) ∧ OArr Z h r1 .boolean (1 : Int32) [(.int (0 : Int32))] (.int (0 : Int32))
set_option maxRecDepth 65536 in
set_option maxHeartbeats 40000000 in
theorem rm1 (l : Launch) (Z : State) (aZ : Array Value) (hw : ∀ d ∈ tables_1, d.before aZ Z = true) (ws : List Jvm.Cond) (a0 : Addr) (h0 : Heap) (n0 : Nat) (Z0 : n0 ≤ h0.size) (P0 : Fld Z h0 a0 "com/example/wedgetree/wedgetree/core/OpenedNodes" "waitingDepths" "[I" .null) (P1 : Fld Z h0 a0 "com/example/wedgetree/wedgetree/core/OpenedNodes" "waiting" "I" (.int (0 : Int32))) (P2 : Fld Z h0 a0 "com/example/wedgetree/wedgetree/core/OpenedNodes" "holdsAnswer" "[Z" .null) (P3 : Fld Z h0 a0 "com/example/wedgetree/wedgetree/core/OpenedNodes" "tallying" "Z" (.int (0 : Int32))) (P4 : Fld Z h0 a0 "com/example/wedgetree/wedgetree/core/OpenedNodes" "depth" "I" (.int (0 : Int32))) (P5 : Fld Z h0 a0 "com/example/wedgetree/wedgetree/core/OpenedNodes" "opened" "J" (.long (0 : Int64))) (P6 : Fld Z h0 a0 "com/example/wedgetree/wedgetree/core/OpenedNodes" "holding" "J" (.long (0 : Int64))) (P7 : Exa Z h0 a0 "com/example/wedgetree/wedgetree/core/OpenedNodes") (P8 : n0 ≤ a0) :
    MetFree l (⟨"com/example/wedgetree/wedgetree/core/OpenedNodes", "<init>", "()V"⟩ : MethodName) (head1 (Jvm.Cond.code (⟨"com/example/wedgetree/wedgetree/core/OpenedNodes", "<init>", "()V"⟩ : MethodName) prog_27_method_1_code 1 none :: ws) ({ frames := 2, cells := 2, slots := 2, locals := 25 } : Room)) (fun a U => a = #[(.ref a0)] ∧ Z.Warmed39 U.vm ∧ U.heap = h0) (fun _ _ _ _ _ => True) (fun _ U o U' => ∃ v L, o = .returned v ∧ Q1 Z a0 h0 n0 v U'.heap L ∧ FrameEnd U o U' L ({ frames := 2, cells := 2, slots := 2, locals := 25 } : Room).cells ({ frames := 2, cells := 2, slots := 2, locals := 25 } : Room).slots) := by
  refine MetFree.of_bodySF (plainFor_of_name pn_com_example_wedgetree_wedgetree_core_OpenedNodes) hisR ?_
  intro p e s m args below meth c s₁ Bd hml0 hP hK
  obtain ⟨rfl, hZ, hh⟩ := hP
  have hx := Bd.exec
  have hby := Bd.bytes
  have hlk : meth.locks = false := BodyLoose.notSynchronized Bd
  have hml : c.maxLocals = 1 := hml0
  have hown : s.vm.findClass "com/example/wedgetree/wedgetree/core/OpenedNodes" = some m.cls := findClass_of_methodNamed Bd.named
  have hnm := (name_of_methodNamed Bd.named Bd.method).1
  have X0 : Stand p l e ({ frames := 2, cells := 2, slots := 2, locals := 25 } : Room) s m #[(.ref a0)] below meth c s₁ [] 0 0 := Stand.of_body Bd
  have e0 : s₁.heap = h0 := by rw [← hh, Bd.state]; rfl
  have N0 := Fr.nil n0
  have K0 : Keep h0 h0 [a0] := Keep.refl _ _
  show OEnd p e below s s₁ (entryFrame m #[(.ref a0)] 1) (Q1 Z a0 h0 n0) ({ frames := 2, cells := 2, slots := 2, locals := 25 } : Room).cells ({ frames := 2, cells := 2, slots := 2, locals := 25 } : Room).slots
  refine OEnd.go (g' := (mkF m 0 #[.val (.ref a0)] [])) (fun _ k => castTop (ef_1 m a0) k) ?_
  refine OEnd.go (T' := s₁) (g' := (mkF m 2 #[.val (.ref a0)] [(.int (1 : Int32)), (.ref a0)])) (fun t k => ?_) ?_
  · show Steps p.tables e below (s₁.setTop (mkF m 0 #[.val (.ref a0)] [])) t
    refine XS.aloadN X0.here hx rfl (hb hby d1_0) rfl rfl ?_
    show Steps p.tables e below (s₁.setTop (mkF m 1 #[.val (.ref a0)] [(.ref a0)])) t
    refine XS.iconst X0.here hx rfl (hb hby d1_1) ?_
    show Steps p.tables e below (s₁.setTop (mkF m 2 #[.val (.ref a0)] [(.int (1 : Int32)), (.ref a0)])) t
    exact k
  obtain ⟨_, _, ⟨T1, L1, k1, n1⟩, -, X1, ⟨Lc1, hQ1, l1, y1, z1⟩, st1⟩ := X0.specialBack hx (y := (⟨"com/example/wedgetree/wedgetree/core/OpenedNodes", "<init>", "(Z)V"⟩ : MethodName)) rfl hown (mvT hZ (hw _ (List.mem_of_getElem? (i := 6) rfl))) (mvT hZ (hw _ (List.mem_of_getElem? (i := 7) rfl))) (mvT hZ (hw _ (List.mem_of_getElem? (i := 8) rfl))) (by decide) (backOf (W := 0) (rm2_1 l Z aZ hw [] a0 h0 n0 Z0 P0 P1 P2 P3 P4 P5 P6 P7 P8) hZ (hw _ (List.mem_of_getElem? (i := 8) rfl)) (hw _ (List.mem_of_getElem? (i := 2) rfl)) (by decide) (by decide)) (g := (mkF m 2 #[.val (.ref a0)] [(.int (1 : Int32)), (.ref a0)])) rfl (by rw [hml]; rfl) (Steps.refl _) (a := a0) (argsL := [(.int (1 : Int32))]) (rest := []) (lenOf pd__Z_V rfl) rfl (by show 2 * 0 + _ ≤ _; exact Nat.le_of_eq rfl) (hb hby d1_2) (fun _ _ => ⟨rfl, e0, (by decide : 0 + 2 ≤ _), (by decide : 0 + 2 ≤ _)⟩)
  dsimp only [Pt.U, Pt.locs, Pt.cells, Pt.slots] at X1 l1 y1 z1 st1 hQ1
  subst l1 y1 z1
  obtain ⟨r1_21, r1_22, rfl, N1q, gle_r1_21, sz_r1_21', gle_r1_22, sz_r1_22', ne_r1_21_r1_22, u1_0, u1_1, u1_2, u1_3, u1_4, u1_5, u1_6, u1_7, u1_8, u1_9, u1_10⟩ := hQ1
  have ne_a0_r1_21 : a0 ≠ r1_21 := Nat.ne_of_lt (Nat.lt_of_lt_of_le P0.lt sz_r1_21')
  have sz_r1_21 : h0.size ≤ r1_21 := Nat.le_trans K0.1 sz_r1_21'
  have ne_a0_r1_22 : a0 ≠ r1_22 := Nat.ne_of_lt (Nat.lt_of_lt_of_le P0.lt sz_r1_22')
  have sz_r1_22 : h0.size ≤ r1_22 := Nat.le_trans K0.1 sz_r1_22'
  have N1 := Fr.app N0 N1q
  have Z1 : n0 ≤ T1.heap.size := Nat.le_trans Z0 u1_0.1
  have K1 : Keep h0 T1.heap [a0] := K0.trans u1_0 (allS (Or.inl (List.mem_of_getElem? (i := 0) rfl)) all0)
  refine OEnd.go (g' := (mkF m 5 #[.val (.ref a0)] [])) (fun _ k => st1.trans k) ?_
  exact OEnd.void X1 hx Bd.returns hlk (hb hby d1_5) ⟨r1_21, r1_22, rfl, N1, gle_r1_21, sz_r1_21, gle_r1_22, sz_r1_22, ne_r1_21_r1_22, (own_at rfl (P := fun h => Keep h0 h [a0]) K1), (own_at rfl (P := fun h => Exa Z h a0 "com/example/wedgetree/wedgetree/core/OpenedNodes") u1_1), (own_at rfl (P := fun h => Fld Z h a0 "com/example/wedgetree/wedgetree/core/OpenedNodes" "waitingDepths" "[I" (.ref r1_21)) u1_2), (own_at rfl (P := fun h => Fld Z h a0 "com/example/wedgetree/wedgetree/core/OpenedNodes" "waiting" "I" (.int (1 : Int32))) u1_3), (own_at rfl (P := fun h => Fld Z h a0 "com/example/wedgetree/wedgetree/core/OpenedNodes" "holdsAnswer" "[Z" (.ref r1_22)) u1_4), (own_at rfl (P := fun h => Fld Z h a0 "com/example/wedgetree/wedgetree/core/OpenedNodes" "tallying" "Z" (.int (1 : Int32))) u1_5), (own_at rfl (P := fun h => Fld Z h a0 "com/example/wedgetree/wedgetree/core/OpenedNodes" "depth" "I" (.int (0 : Int32))) u1_6), (own_at rfl (P := fun h => Fld Z h a0 "com/example/wedgetree/wedgetree/core/OpenedNodes" "opened" "J" (.long (0 : Int64))) u1_7), (own_at rfl (P := fun h => Fld Z h a0 "com/example/wedgetree/wedgetree/core/OpenedNodes" "holding" "J" (.long (0 : Int64))) u1_8), (own_at rfl (P := fun h => OArr Z h r1_21 .int (1 : Int32) [(.int (0 : Int32))] (.int (0 : Int32))) u1_9), (own_at rfl (P := fun h => OArr Z h r1_22 .boolean (1 : Int32) [(.int (0 : Int32))] (.int (0 : Int32))) u1_10)⟩ (by decide) (by decide)
theorem d9_0 : decode jdk_29_method_69_code 0 = .ok (.iload_n 0, 1) := by decide +kernel
theorem d9_1 : decode jdk_29_method_69_code 1 = .ok (.iload_n 1, 1) := by decide +kernel
theorem d9_2 : decode jdk_29_method_69_code 2 = .ok (.if_icmp .gt 7, 3) := by decide +kernel
theorem d9_5 : decode jdk_29_method_69_code 5 = .ok (.iload_n 0, 1) := by decide +kernel
theorem d9_6 : decode jdk_29_method_69_code 6 = .ok (.goto 4, 3) := by decide +kernel
theorem d9_10 : decode jdk_29_method_69_code 10 = .ok (.ireturn, 1) := by decide +kernel
def f9_1  : Int32 := (1 : Int32)
theorem ef_9_1 (m : MethodId)  : entryFrame m #[(.int (1 : Int32)), (.int (2 : Int32))] 2 = mkF m 0 #[.val (.int (1 : Int32)), .val (.int (2 : Int32))] [] := by first | (simp [entryFrame, mkF, argsToLocals, Value.category]; done) | rfl
def Q9_1 (Z : State)  (h0 : Heap) (n0 : Nat) (v : Option Value) (h : Heap) (L : List Loc) : Prop := v = some (.int (1 : Int32)) ∧ Fr n0 L ∧ h = h0
set_option maxRecDepth 65536 in
set_option maxHeartbeats 40000000 in
theorem rm9_1 (l : Launch) (Z : State) (aZ : Array Value) (hw : ∀ d ∈ tables_1, d.before aZ Z = true) (ws : List Jvm.Cond)  (h0 : Heap) (n0 : Nat) (Z0 : n0 ≤ h0.size) :
    MetFree l (⟨"java/lang/Math", "min", "(II)I"⟩ : MethodName) (head1 (Jvm.Cond.code (⟨"java/lang/Math", "min", "(II)I"⟩ : MethodName) jdk_29_method_69_code 2 (some .int) :: ws) ({ frames := 0, cells := 0, slots := 0, locals := 0 } : Room)) (fun a U => a = #[(.int (1 : Int32)), (.int (2 : Int32))] ∧ Z.Warmed39 U.vm ∧ U.heap = h0) (fun _ _ _ _ _ => True) (fun _ U o U' => ∃ v L, o = .returned v ∧ Q9_1 Z  h0 n0 v U'.heap L ∧ FrameEnd U o U' L ({ frames := 0, cells := 0, slots := 0, locals := 0 } : Room).cells ({ frames := 0, cells := 0, slots := 0, locals := 0 } : Room).slots) := by
  refine MetFree.of_bodySF (Jvm.Free.JP.mathPlain rfl (by decide +kernel)) hisR ?_
  intro p e s m args below meth c s₁ Bd hml0 hP hK
  obtain ⟨rfl, hZ, hh⟩ := hP
  have hx := Bd.exec
  have hby := Bd.bytes
  have hlk : meth.locks = false := BodyLoose.notSynchronized Bd
  have hml : c.maxLocals = 2 := hml0
  have hown : s.vm.findClass "java/lang/Math" = some m.cls := findClass_of_methodNamed Bd.named
  have hnm := (name_of_methodNamed Bd.named Bd.method).1
  have X0 : Stand p l e ({ frames := 0, cells := 0, slots := 0, locals := 0 } : Room) s m #[(.int (1 : Int32)), (.int (2 : Int32))] below meth c s₁ [] 0 0 := Stand.of_body Bd
  have e0 : s₁.heap = h0 := by rw [← hh, Bd.state]; rfl
  have N0 := Fr.nil n0
  show OEnd p e below s s₁ (entryFrame m #[(.int (1 : Int32)), (.int (2 : Int32))] 2) (Q9_1 Z  h0 n0) ({ frames := 0, cells := 0, slots := 0, locals := 0 } : Room).cells ({ frames := 0, cells := 0, slots := 0, locals := 0 } : Room).slots
  refine OEnd.go (g' := (mkF m 0 #[.val (.int (1 : Int32)), .val (.int (2 : Int32))] [])) (fun _ k => castTop (ef_9_1 m ) k) ?_
  refine OEnd.go (T' := s₁) (g' := (mkF m 10 #[.val (.int (1 : Int32)), .val (.int (2 : Int32))] [(.int (1 : Int32))])) (fun t k => ?_) ?_
  · show Steps p.tables e below (s₁.setTop (mkF m 0 #[.val (.int (1 : Int32)), .val (.int (2 : Int32))] [])) t
    refine XS.iloadN X0.here hx rfl (hb hby d9_0) rfl ?_
    show Steps p.tables e below (s₁.setTop (mkF m 1 #[.val (.int (1 : Int32)), .val (.int (2 : Int32))] [(.int (1 : Int32))])) t
    refine XS.iloadN X0.here hx rfl (hb hby d9_1) rfl ?_
    show Steps p.tables e below (s₁.setTop (mkF m 2 #[.val (.int (1 : Int32)), .val (.int (2 : Int32))] [(.int (2 : Int32)), (.int (1 : Int32))])) t
    refine XS.icmpNo X0.here hx rfl (hb hby d9_2) rfl (flt ((by decide))).2.2.1 ?_
    show Steps p.tables e below (s₁.setTop (mkF m 5 #[.val (.int (1 : Int32)), .val (.int (2 : Int32))] [])) t
    refine XS.iloadN X0.here hx rfl (hb hby d9_5) rfl ?_
    show Steps p.tables e below (s₁.setTop (mkF m 6 #[.val (.int (1 : Int32)), .val (.int (2 : Int32))] [(.int (1 : Int32))])) t
    refine XS.goto X0.here hx rfl (pc0 := 6) (pc' := 10) rfl (hb hby d9_6) (by decide) (by decide) ?_
    show Steps p.tables e below (s₁.setTop (mkF m 10 #[.val (.int (1 : Int32)), .val (.int (2 : Int32))] [(.int (1 : Int32))])) t
    exact k
  exact OEnd.int X0 hx Bd.returns hlk (hb hby d9_10) ⟨rfl, N0, e0⟩ (by decide) (by decide)
def f9_2  : Int32 := (2 : Int32)
theorem ef_9_2 (m : MethodId)  : entryFrame m #[(.int (2 : Int32)), (.int (4 : Int32))] 2 = mkF m 0 #[.val (.int (2 : Int32)), .val (.int (4 : Int32))] [] := by first | (simp [entryFrame, mkF, argsToLocals, Value.category]; done) | rfl
def Q9_2 (Z : State)  (h0 : Heap) (n0 : Nat) (v : Option Value) (h : Heap) (L : List Loc) : Prop := v = some (.int (2 : Int32)) ∧ Fr n0 L ∧ h = h0
set_option maxRecDepth 65536 in
set_option maxHeartbeats 40000000 in
theorem rm9_2 (l : Launch) (Z : State) (aZ : Array Value) (hw : ∀ d ∈ tables_1, d.before aZ Z = true) (ws : List Jvm.Cond)  (h0 : Heap) (n0 : Nat) (Z0 : n0 ≤ h0.size) :
    MetFree l (⟨"java/lang/Math", "min", "(II)I"⟩ : MethodName) (head1 (Jvm.Cond.code (⟨"java/lang/Math", "min", "(II)I"⟩ : MethodName) jdk_29_method_69_code 2 (some .int) :: ws) ({ frames := 0, cells := 0, slots := 0, locals := 0 } : Room)) (fun a U => a = #[(.int (2 : Int32)), (.int (4 : Int32))] ∧ Z.Warmed39 U.vm ∧ U.heap = h0) (fun _ _ _ _ _ => True) (fun _ U o U' => ∃ v L, o = .returned v ∧ Q9_2 Z  h0 n0 v U'.heap L ∧ FrameEnd U o U' L ({ frames := 0, cells := 0, slots := 0, locals := 0 } : Room).cells ({ frames := 0, cells := 0, slots := 0, locals := 0 } : Room).slots) := by
  refine MetFree.of_bodySF (Jvm.Free.JP.mathPlain rfl (by decide +kernel)) hisR ?_
  intro p e s m args below meth c s₁ Bd hml0 hP hK
  obtain ⟨rfl, hZ, hh⟩ := hP
  have hx := Bd.exec
  have hby := Bd.bytes
  have hlk : meth.locks = false := BodyLoose.notSynchronized Bd
  have hml : c.maxLocals = 2 := hml0
  have hown : s.vm.findClass "java/lang/Math" = some m.cls := findClass_of_methodNamed Bd.named
  have hnm := (name_of_methodNamed Bd.named Bd.method).1
  have X0 : Stand p l e ({ frames := 0, cells := 0, slots := 0, locals := 0 } : Room) s m #[(.int (2 : Int32)), (.int (4 : Int32))] below meth c s₁ [] 0 0 := Stand.of_body Bd
  have e0 : s₁.heap = h0 := by rw [← hh, Bd.state]; rfl
  have N0 := Fr.nil n0
  show OEnd p e below s s₁ (entryFrame m #[(.int (2 : Int32)), (.int (4 : Int32))] 2) (Q9_2 Z  h0 n0) ({ frames := 0, cells := 0, slots := 0, locals := 0 } : Room).cells ({ frames := 0, cells := 0, slots := 0, locals := 0 } : Room).slots
  refine OEnd.go (g' := (mkF m 0 #[.val (.int (2 : Int32)), .val (.int (4 : Int32))] [])) (fun _ k => castTop (ef_9_2 m ) k) ?_
  refine OEnd.go (T' := s₁) (g' := (mkF m 10 #[.val (.int (2 : Int32)), .val (.int (4 : Int32))] [(.int (2 : Int32))])) (fun t k => ?_) ?_
  · show Steps p.tables e below (s₁.setTop (mkF m 0 #[.val (.int (2 : Int32)), .val (.int (4 : Int32))] [])) t
    refine XS.iloadN X0.here hx rfl (hb hby d9_0) rfl ?_
    show Steps p.tables e below (s₁.setTop (mkF m 1 #[.val (.int (2 : Int32)), .val (.int (4 : Int32))] [(.int (2 : Int32))])) t
    refine XS.iloadN X0.here hx rfl (hb hby d9_1) rfl ?_
    show Steps p.tables e below (s₁.setTop (mkF m 2 #[.val (.int (2 : Int32)), .val (.int (4 : Int32))] [(.int (4 : Int32)), (.int (2 : Int32))])) t
    refine XS.icmpNo X0.here hx rfl (hb hby d9_2) rfl (flt ((by decide))).2.2.1 ?_
    show Steps p.tables e below (s₁.setTop (mkF m 5 #[.val (.int (2 : Int32)), .val (.int (4 : Int32))] [])) t
    refine XS.iloadN X0.here hx rfl (hb hby d9_5) rfl ?_
    show Steps p.tables e below (s₁.setTop (mkF m 6 #[.val (.int (2 : Int32)), .val (.int (4 : Int32))] [(.int (2 : Int32))])) t
    refine XS.goto X0.here hx rfl (pc0 := 6) (pc' := 10) rfl (hb hby d9_6) (by decide) (by decide) ?_
    show Steps p.tables e below (s₁.setTop (mkF m 10 #[.val (.int (2 : Int32)), .val (.int (4 : Int32))] [(.int (2 : Int32))])) t
    exact k
  exact OEnd.int X0 hx Bd.returns hlk (hb hby d9_10) ⟨rfl, N0, e0⟩ (by decide) (by decide)
theorem d8_0 : decode jdk_65_method_128_code 0 = .ok (.iload_n 1, 1) := by decide +kernel
theorem d8_1 : decode jdk_65_method_128_code 1 = .ok (.aload_n 0, 1) := by decide +kernel
theorem d8_2 : decode jdk_65_method_128_code 2 = .ok (.arraylength, 1) := by decide +kernel
theorem d8_3 : decode jdk_65_method_128_code 3 = .ok (.if_icmp .ne 11, 3) := by decide +kernel
theorem d8_14 : decode jdk_65_method_128_code 14 = .ok (.iload_n 1, 1) := by decide +kernel
theorem d8_15 : decode jdk_65_method_128_code 15 = .ok (.newarray .boolean, 2) := by decide +kernel
theorem d8_17 : decode jdk_65_method_128_code 17 = .ok (.astore_n 2, 1) := by decide +kernel
theorem d8_18 : decode jdk_65_method_128_code 18 = .ok (.aload_n 0, 1) := by decide +kernel
theorem d8_19 : decode jdk_65_method_128_code 19 = .ok (.iconst 0, 1) := by decide +kernel
theorem d8_20 : decode jdk_65_method_128_code 20 = .ok (.aload_n 2, 1) := by decide +kernel
theorem d8_21 : decode jdk_65_method_128_code 21 = .ok (.iconst 0, 1) := by decide +kernel
theorem d8_22 : decode jdk_65_method_128_code 22 = .ok (.aload_n 0, 1) := by decide +kernel
theorem d8_23 : decode jdk_65_method_128_code 23 = .ok (.arraylength, 1) := by decide +kernel
theorem d8_24 : decode jdk_65_method_128_code 24 = .ok (.iload_n 1, 1) := by decide +kernel
theorem d8_25 : decode jdk_65_method_128_code 25 = .ok (.invokestatic 304, 3) := by decide +kernel
theorem pd__II_I : parseMethodDescriptor "(II)I" = some ⟨[.int, .int], some .int⟩ := by decide +kernel
theorem d8_28 : decode jdk_65_method_128_code 28 = .ok (.invokestatic 150, 3) := by decide +kernel
theorem d8_31 : decode jdk_65_method_128_code 31 = .ok (.aload_n 2, 1) := by decide +kernel
theorem d8_32 : decode jdk_65_method_128_code 32 = .ok (.areturn, 1) := by decide +kernel
theorem pn_java_util_Arrays : plainName "java/util/Arrays" = true := by first | (simp [plainName, overriddenIn]; done) | decide +kernel
theorem ef_8_1 (m : MethodId) (x0 : Addr) : entryFrame m #[(.ref x0), (.int (2 : Int32))] 3 = mkF m 0 #[.val (.ref x0), .val (.int (2 : Int32)), .unset] [] := by first | (simp [entryFrame, mkF, argsToLocals, Value.category]; done) | rfl
def Q8_1 (Z : State) (a0 : Addr) (x0 : Int32) (h0 : Heap) (n0 : Nat) (v : Option Value) (h : Heap) (L : List Loc) : Prop := ∃ r : Addr, v = some (.ref r) ∧ n0 ≤ r ∧ h0.size ≤ r ∧ Fr n0 L ∧ Keep h0 h [] ∧ OArr Z h r .boolean (2 : Int32) [(.int x0), (.int (0 : Int32))] (.int (0 : Int32))
set_option maxRecDepth 65536 in
set_option maxHeartbeats 40000000 in
theorem rm8_1 (l : Launch) (Z : State) (aZ : Array Value) (hw : ∀ d ∈ tables_1, d.before aZ Z = true) (ws : List Jvm.Cond) (a0 : Addr) (x0 : Int32) (h0 : Heap) (n0 : Nat) (Z0 : n0 ≤ h0.size) (P0 : OArr Z h0 a0 .boolean (1 : Int32) [(.int x0)] (.int (0 : Int32))) :
    MetFree l (⟨"java/util/Arrays", "copyOf", "([ZI)[Z"⟩ : MethodName) (head1 (Jvm.Cond.code (⟨"java/util/Arrays", "copyOf", "([ZI)[Z"⟩ : MethodName) jdk_65_method_128_code 3 (some (.array .boolean)) :: ws) ({ frames := 1, cells := 1, slots := 2, locals := 40 } : Room)) (fun a U => a = #[(.ref a0), (.int (2 : Int32))] ∧ Z.Warmed39 U.vm ∧ U.heap = h0) (fun _ _ _ _ _ => True) (fun _ U o U' => ∃ v L, o = .returned v ∧ Q8_1 Z a0 x0 h0 n0 v U'.heap L ∧ FrameEnd U o U' L ({ frames := 1, cells := 1, slots := 2, locals := 40 } : Room).cells ({ frames := 1, cells := 1, slots := 2, locals := 40 } : Room).slots) := by
  refine MetFree.of_bodySF (plainFor_of_name pn_java_util_Arrays) hisR ?_
  intro p e s m args below meth c s₁ Bd hml0 hP hK
  obtain ⟨rfl, hZ, hh⟩ := hP
  have hx := Bd.exec
  have hby := Bd.bytes
  have hlk : meth.locks = false := BodyLoose.notSynchronized Bd
  have hml : c.maxLocals = 3 := hml0
  have hown : s.vm.findClass "java/util/Arrays" = some m.cls := findClass_of_methodNamed Bd.named
  have hnm := (name_of_methodNamed Bd.named Bd.method).1
  have X0 : Stand p l e ({ frames := 1, cells := 1, slots := 2, locals := 40 } : Room) s m #[(.ref a0), (.int (2 : Int32))] below meth c s₁ [] 0 0 := Stand.of_body Bd
  have e0 : s₁.heap = h0 := by rw [← hh, Bd.state]; rfl
  have N0 := Fr.nil n0
  have K0 : Keep h0 h0 [] := Keep.refl _ _
  show OEnd p e below s s₁ (entryFrame m #[(.ref a0), (.int (2 : Int32))] 3) (Q8_1 Z a0 x0 h0 n0) ({ frames := 1, cells := 1, slots := 2, locals := 40 } : Room).cells ({ frames := 1, cells := 1, slots := 2, locals := 40 } : Room).slots
  refine OEnd.go (g' := (mkF m 0 #[.val (.ref a0), .val (.int (2 : Int32)), .unset] [])) (fun _ k => castTop (ef_8_1 m a0) k) ?_
  refine OEnd.go (T' := s₁) (g' := (mkF m 2 #[.val (.ref a0), .val (.int (2 : Int32)), .unset] [(.ref a0), (.int (2 : Int32))])) (fun t k => ?_) ?_
  · show Steps p.tables e below (s₁.setTop (mkF m 0 #[.val (.ref a0), .val (.int (2 : Int32)), .unset] [])) t
    refine XS.iloadN X0.here hx rfl (hb hby d8_0) rfl ?_
    show Steps p.tables e below (s₁.setTop (mkF m 1 #[.val (.ref a0), .val (.int (2 : Int32)), .unset] [(.int (2 : Int32))])) t
    refine XS.aloadN X0.here hx rfl (hb hby d8_1) rfl rfl ?_
    show Steps p.tables e below (s₁.setTop (mkF m 2 #[.val (.ref a0), .val (.int (2 : Int32)), .unset] [(.ref a0), (.int (2 : Int32))])) t
    exact k
  obtain ⟨kc1, cl1, Ar1, q1, S1, M1, H1, G1⟩ := id P0
  refine OEnd.go (T' := s₁) (g' := (mkF m 3 #[.val (.ref a0), .val (.int (2 : Int32)), .unset] [(.int (1 : Int32)), (.int (2 : Int32))])) (fun t k => ?_) ?_
  · refine X0.arraylength hx (by rw [e0]; exact Ar1.1) (State.isArrayOf_alike hZ.alike Ar1.2.1) (g := (mkF m 2 #[.val (.ref a0), .val (.int (2 : Int32)), .unset] [(.ref a0), (.int (2 : Int32))])) rfl rfl (hb hby d8_2) _ ?_
    rw [len_of S1 M1]
    exact k
  refine OEnd.go (T' := s₁) (g' := (mkF m 15 #[.val (.ref a0), .val (.int (2 : Int32)), .unset] [(.int (2 : Int32))])) (fun t k => ?_) ?_
  · show Steps p.tables e below (s₁.setTop (mkF m 3 #[.val (.ref a0), .val (.int (2 : Int32)), .unset] [(.int (1 : Int32)), (.int (2 : Int32))])) t
    refine XS.icmpYes X0.here hx rfl (pc0 := 3) (pc' := 14) rfl (hb hby d8_3) rfl (feq ((by decide))).2 (by decide) (by decide) ?_
    show Steps p.tables e below (s₁.setTop (mkF m 14 #[.val (.ref a0), .val (.int (2 : Int32)), .unset] [])) t
    refine XS.iloadN X0.here hx rfl (hb hby d8_14) rfl ?_
    show Steps p.tables e below (s₁.setTop (mkF m 15 #[.val (.ref a0), .val (.int (2 : Int32)), .unset] [(.int (2 : Int32))])) t
    exact k
  obtain ⟨T2, h2, k2, X2, e2, E2, A2, st2⟩ := newP X0 hx hZ (hw _ (List.mem_of_getElem? (i := 17) rfl)) e0 (g := (mkF m 15 #[.val (.ref a0), .val (.int (2 : Int32)), .unset] [(.int (2 : Int32))])) rfl (hb hby d8_15) rfl (by decide) (cap := 2) (by decide) (by decide) (by decide) (by decide)
  obtain ⟨b8_15, g2⟩ : ∃ z, z = h0.size := ⟨_, rfl⟩
  rw [← g2] at A2 st2
  have gle_b8_15 : n0 ≤ b8_15 := Nat.le_trans Z0 (Nat.le_of_eq g2.symm)
  have sz_b8_15 : h0.size ≤ b8_15 := Nat.le_trans K0.1 (Nat.le_of_eq g2.symm)
  have ne_a0_b8_15 : a0 ≠ b8_15 := Nat.ne_of_lt (Nat.lt_of_lt_of_le P0.lt (Nat.le_of_eq g2.symm))
  have fc3 : OArr Z h2 a0 .boolean (1 : Int32) [(.int x0)] (.int (0 : Int32)) := (P0.ext E2)
  have Z2 : n0 ≤ h2.size := Nat.le_trans Z0 E2.1
  have K2 : Keep h0 h2 [] := K0.ext E2
  have V2 : OArr Z h2 b8_15 .boolean (2 : Int32) [(.int (0 : Int32)), (.int (0 : Int32))] (.int (0 : Int32)) := ⟨_, (Arv.new A2 (by decide)).pad (pad_rep [] (.int (0 : Int32)) 2)⟩
  refine OEnd.go (g' := (mkF m 17 #[.val (.ref a0), .val (.int (2 : Int32)), .unset] [(.ref b8_15)])) st2 ?_
  refine OEnd.go (T' := T2) (g' := (mkF m 23 #[.val (.ref a0), .val (.int (2 : Int32)), .val (.ref b8_15)] [(.ref a0), (.int (0 : Int32)), (.ref b8_15), (.int (0 : Int32)), (.ref a0)])) (fun t k => ?_) ?_
  · show Steps p.tables e below (T2.setTop (mkF m 17 #[.val (.ref a0), .val (.int (2 : Int32)), .unset] [(.ref b8_15)])) t
    refine XS.astoreN X2.here hx rfl (hb hby d8_17) rfl rfl (l' := #[.val (.ref a0), .val (.int (2 : Int32)), .val (.ref b8_15)]) rfl ?_
    show Steps p.tables e below (T2.setTop (mkF m 18 #[.val (.ref a0), .val (.int (2 : Int32)), .val (.ref b8_15)] [])) t
    refine XS.aloadN X2.here hx rfl (hb hby d8_18) rfl rfl ?_
    show Steps p.tables e below (T2.setTop (mkF m 19 #[.val (.ref a0), .val (.int (2 : Int32)), .val (.ref b8_15)] [(.ref a0)])) t
    refine XS.iconst X2.here hx rfl (hb hby d8_19) ?_
    show Steps p.tables e below (T2.setTop (mkF m 20 #[.val (.ref a0), .val (.int (2 : Int32)), .val (.ref b8_15)] [(.int (0 : Int32)), (.ref a0)])) t
    refine XS.aloadN X2.here hx rfl (hb hby d8_20) rfl rfl ?_
    show Steps p.tables e below (T2.setTop (mkF m 21 #[.val (.ref a0), .val (.int (2 : Int32)), .val (.ref b8_15)] [(.ref b8_15), (.int (0 : Int32)), (.ref a0)])) t
    refine XS.iconst X2.here hx rfl (hb hby d8_21) ?_
    show Steps p.tables e below (T2.setTop (mkF m 22 #[.val (.ref a0), .val (.int (2 : Int32)), .val (.ref b8_15)] [(.int (0 : Int32)), (.ref b8_15), (.int (0 : Int32)), (.ref a0)])) t
    refine XS.aloadN X2.here hx rfl (hb hby d8_22) rfl rfl ?_
    show Steps p.tables e below (T2.setTop (mkF m 23 #[.val (.ref a0), .val (.int (2 : Int32)), .val (.ref b8_15)] [(.ref a0), (.int (0 : Int32)), (.ref b8_15), (.int (0 : Int32)), (.ref a0)])) t
    exact k
  obtain ⟨kc4, cl4, Ar4, q4, S4, M4, H4, G4⟩ := id fc3
  refine OEnd.go (T' := T2) (g' := (mkF m 24 #[.val (.ref a0), .val (.int (2 : Int32)), .val (.ref b8_15)] [(.int (1 : Int32)), (.int (0 : Int32)), (.ref b8_15), (.int (0 : Int32)), (.ref a0)])) (fun t k => ?_) ?_
  · refine X2.arraylength hx (by rw [e2]; exact Ar4.1) (State.isArrayOf_alike hZ.alike Ar4.2.1) (g := (mkF m 23 #[.val (.ref a0), .val (.int (2 : Int32)), .val (.ref b8_15)] [(.ref a0), (.int (0 : Int32)), (.ref b8_15), (.int (0 : Int32)), (.ref a0)])) rfl rfl (hb hby d8_23) _ ?_
    rw [len_of S4 M4]
    exact k
  refine OEnd.go (T' := T2) (g' := (mkF m 25 #[.val (.ref a0), .val (.int (2 : Int32)), .val (.ref b8_15)] [(.int (2 : Int32)), (.int (1 : Int32)), (.int (0 : Int32)), (.ref b8_15), (.int (0 : Int32)), (.ref a0)])) (fun t k => ?_) ?_
  · show Steps p.tables e below (T2.setTop (mkF m 24 #[.val (.ref a0), .val (.int (2 : Int32)), .val (.ref b8_15)] [(.int (1 : Int32)), (.int (0 : Int32)), (.ref b8_15), (.int (0 : Int32)), (.ref a0)])) t
    refine XS.iloadN X2.here hx rfl (hb hby d8_24) rfl ?_
    show Steps p.tables e below (T2.setTop (mkF m 25 #[.val (.ref a0), .val (.int (2 : Int32)), .val (.ref b8_15)] [(.int (2 : Int32)), (.int (1 : Int32)), (.int (0 : Int32)), (.ref b8_15), (.int (0 : Int32)), (.ref a0)])) t
    exact k
  obtain ⟨_, _, ⟨T5, L5, k5, n5⟩, -, X5, ⟨Lc5, hQ5, l5, y5, z5⟩, st5⟩ := Jvm.LawKit.callS X2 hx (y := (⟨"java/lang/Math", "min", "(II)I"⟩ : MethodName)) hown (mvT hZ (hw _ (List.mem_of_getElem? (i := 44) rfl))) (mvT hZ (hw _ (List.mem_of_getElem? (i := 45) rfl))) (mvT hZ (hw _ (List.mem_of_getElem? (i := 46) rfl))) (mvT hZ (hw _ (List.mem_of_getElem? (i := 47) rfl))) (by decide) (backOf (W := 4) (rm9_1 l Z aZ hw []  h2 n0 Z2 ) hZ (hw _ (List.mem_of_getElem? (i := 47) rfl)) (hw _ (List.mem_of_getElem? (i := 46) rfl)) (by decide) (by decide)) (g := (mkF m 25 #[.val (.ref a0), .val (.int (2 : Int32)), .val (.ref b8_15)] [(.int (2 : Int32)), (.int (1 : Int32)), (.int (0 : Int32)), (.ref b8_15), (.int (0 : Int32)), (.ref a0)])) rfl (by rw [hml]; rfl) (argsL := [(.int (1 : Int32)), (.int (2 : Int32))]) (rest := [(.int (0 : Int32)), (.ref b8_15), (.int (0 : Int32)), (.ref a0)]) (lenOf pd__II_I rfl) rfl (by show 2 * 0 + _ ≤ _; exact Nat.le_of_eq rfl) (hb hby d8_25) (fun _ _ => ⟨rfl, e2, (by decide : 1 + 0 ≤ _), (by decide : 2 + 0 ≤ _)⟩)
  dsimp only [Pt.U, Pt.locs, Pt.cells, Pt.slots] at X5 l5 y5 z5 st5 hQ5
  subst l5 y5 z5
  obtain ⟨rfl, N5q, e5⟩ := hQ5
  have N5 := Fr.app N0 N5q
  refine OEnd.go (g' := (mkF m 28 #[.val (.ref a0), .val (.int (2 : Int32)), .val (.ref b8_15)] [(.int (1 : Int32)), (.int (0 : Int32)), (.ref b8_15), (.int (0 : Int32)), (.ref a0)])) st5 ?_
  obtain ⟨T6, h6, X6, e6, KC6, VC6, st6⟩ := own_acopy X5 hx hZ hown (hw _ (List.mem_of_getElem? (i := 48) rfl)) (hw _ (List.mem_of_getElem? (i := 51) rfl)) (hw _ (List.mem_of_getElem? (i := 49) rfl)) (hw _ (List.mem_of_getElem? (i := 50) rfl)) e5 fc3 V2 1 rfl (by decide) rfl (by decide) rfl (g := (mkF m 28 #[.val (.ref a0), .val (.int (2 : Int32)), .val (.ref b8_15)] [(.int (1 : Int32)), (.int (0 : Int32)), (.ref b8_15), (.int (0 : Int32)), (.ref a0)])) rfl (by rw [hml]; rfl) rfl (hb hby d8_28) (by decide) (W := 0) (by show 2 * 0 + _ ≤ _; exact Nat.le_of_eq rfl) (by decide)
  have V6 : OArr Z h6 b8_15 .boolean (2 : Int32) [(.int x0), (.int (0 : Int32))] (.int (0 : Int32)) := VC6
  have N6 := Fr.app N5 (own_frc gle_b8_15 0 1)
  have Z6 : n0 ≤ h6.size := Nat.le_trans Z2 KC6.1
  have K6 : Keep h0 h6 [] := K2.trans KC6 (allS (Or.inr sz_b8_15) all0)
  have fc7 : OArr Z h6 a0 .boolean (1 : Int32) [(.int x0)] (.int (0 : Int32)) := (fc3.keep KC6 (ninS ne_a0_b8_15 nin0))
  refine OEnd.go (g' := (mkF m 31 #[.val (.ref a0), .val (.int (2 : Int32)), .val (.ref b8_15)] [])) st6 ?_
  refine OEnd.go (T' := T6) (g' := (mkF m 32 #[.val (.ref a0), .val (.int (2 : Int32)), .val (.ref b8_15)] [(.ref b8_15)])) (fun t k => ?_) ?_
  · show Steps p.tables e below (T6.setTop (mkF m 31 #[.val (.ref a0), .val (.int (2 : Int32)), .val (.ref b8_15)] [])) t
    refine XS.aloadN X6.here hx rfl (hb hby d8_31) rfl rfl ?_
    show Steps p.tables e below (T6.setTop (mkF m 32 #[.val (.ref a0), .val (.int (2 : Int32)), .val (.ref b8_15)] [(.ref b8_15)])) t
    exact k
  exact OEnd.ref X6 hx Bd.returns rfl hlk (hb hby d8_32) ⟨b8_15, rfl, gle_b8_15, sz_b8_15, N6, (own_at e6 (P := fun h => Keep h0 h []) K6), (own_at e6 (P := fun h => OArr Z h b8_15 .boolean (2 : Int32) [(.int x0), (.int (0 : Int32))] (.int (0 : Int32))) V6)⟩ (by decide) (by decide)
theorem ef_8_2 (m : MethodId) (x0 : Addr) : entryFrame m #[(.ref x0), (.int (4 : Int32))] 3 = mkF m 0 #[.val (.ref x0), .val (.int (4 : Int32)), .unset] [] := by first | (simp [entryFrame, mkF, argsToLocals, Value.category]; done) | rfl
def Q8_2 (Z : State) (a0 : Addr) (x0 : Int32) (x1 : Int32) (h0 : Heap) (n0 : Nat) (v : Option Value) (h : Heap) (L : List Loc) : Prop := ∃ r : Addr, v = some (.ref r) ∧ n0 ≤ r ∧ h0.size ≤ r ∧ Fr n0 L ∧ Keep h0 h [] ∧ OArr Z h r .boolean (4 : Int32) [(.int x0), (.int x1), (.int (0 : Int32)), (.int (0 : Int32))] (.int (0 : Int32))
set_option maxRecDepth 65536 in
set_option maxHeartbeats 40000000 in
theorem rm8_2 (l : Launch) (Z : State) (aZ : Array Value) (hw : ∀ d ∈ tables_1, d.before aZ Z = true) (ws : List Jvm.Cond) (a0 : Addr) (x0 : Int32) (x1 : Int32) (h0 : Heap) (n0 : Nat) (Z0 : n0 ≤ h0.size) (P0 : OArr Z h0 a0 .boolean (2 : Int32) [(.int x0), (.int x1)] (.int (0 : Int32))) :
    MetFree l (⟨"java/util/Arrays", "copyOf", "([ZI)[Z"⟩ : MethodName) (head1 (Jvm.Cond.code (⟨"java/util/Arrays", "copyOf", "([ZI)[Z"⟩ : MethodName) jdk_65_method_128_code 3 (some (.array .boolean)) :: ws) ({ frames := 1, cells := 1, slots := 4, locals := 40 } : Room)) (fun a U => a = #[(.ref a0), (.int (4 : Int32))] ∧ Z.Warmed39 U.vm ∧ U.heap = h0) (fun _ _ _ _ _ => True) (fun _ U o U' => ∃ v L, o = .returned v ∧ Q8_2 Z a0 x0 x1 h0 n0 v U'.heap L ∧ FrameEnd U o U' L ({ frames := 1, cells := 1, slots := 4, locals := 40 } : Room).cells ({ frames := 1, cells := 1, slots := 4, locals := 40 } : Room).slots) := by
  refine MetFree.of_bodySF (plainFor_of_name pn_java_util_Arrays) hisR ?_
  intro p e s m args below meth c s₁ Bd hml0 hP hK
  obtain ⟨rfl, hZ, hh⟩ := hP
  have hx := Bd.exec
  have hby := Bd.bytes
  have hlk : meth.locks = false := BodyLoose.notSynchronized Bd
  have hml : c.maxLocals = 3 := hml0
  have hown : s.vm.findClass "java/util/Arrays" = some m.cls := findClass_of_methodNamed Bd.named
  have hnm := (name_of_methodNamed Bd.named Bd.method).1
  have X0 : Stand p l e ({ frames := 1, cells := 1, slots := 4, locals := 40 } : Room) s m #[(.ref a0), (.int (4 : Int32))] below meth c s₁ [] 0 0 := Stand.of_body Bd
  have e0 : s₁.heap = h0 := by rw [← hh, Bd.state]; rfl
  have N0 := Fr.nil n0
  have K0 : Keep h0 h0 [] := Keep.refl _ _
  show OEnd p e below s s₁ (entryFrame m #[(.ref a0), (.int (4 : Int32))] 3) (Q8_2 Z a0 x0 x1 h0 n0) ({ frames := 1, cells := 1, slots := 4, locals := 40 } : Room).cells ({ frames := 1, cells := 1, slots := 4, locals := 40 } : Room).slots
  refine OEnd.go (g' := (mkF m 0 #[.val (.ref a0), .val (.int (4 : Int32)), .unset] [])) (fun _ k => castTop (ef_8_2 m a0) k) ?_
  refine OEnd.go (T' := s₁) (g' := (mkF m 2 #[.val (.ref a0), .val (.int (4 : Int32)), .unset] [(.ref a0), (.int (4 : Int32))])) (fun t k => ?_) ?_
  · show Steps p.tables e below (s₁.setTop (mkF m 0 #[.val (.ref a0), .val (.int (4 : Int32)), .unset] [])) t
    refine XS.iloadN X0.here hx rfl (hb hby d8_0) rfl ?_
    show Steps p.tables e below (s₁.setTop (mkF m 1 #[.val (.ref a0), .val (.int (4 : Int32)), .unset] [(.int (4 : Int32))])) t
    refine XS.aloadN X0.here hx rfl (hb hby d8_1) rfl rfl ?_
    show Steps p.tables e below (s₁.setTop (mkF m 2 #[.val (.ref a0), .val (.int (4 : Int32)), .unset] [(.ref a0), (.int (4 : Int32))])) t
    exact k
  obtain ⟨kc1, cl1, Ar1, q1, S1, M1, H1, G1⟩ := id P0
  refine OEnd.go (T' := s₁) (g' := (mkF m 3 #[.val (.ref a0), .val (.int (4 : Int32)), .unset] [(.int (2 : Int32)), (.int (4 : Int32))])) (fun t k => ?_) ?_
  · refine X0.arraylength hx (by rw [e0]; exact Ar1.1) (State.isArrayOf_alike hZ.alike Ar1.2.1) (g := (mkF m 2 #[.val (.ref a0), .val (.int (4 : Int32)), .unset] [(.ref a0), (.int (4 : Int32))])) rfl rfl (hb hby d8_2) _ ?_
    rw [len_of S1 M1]
    exact k
  refine OEnd.go (T' := s₁) (g' := (mkF m 15 #[.val (.ref a0), .val (.int (4 : Int32)), .unset] [(.int (4 : Int32))])) (fun t k => ?_) ?_
  · show Steps p.tables e below (s₁.setTop (mkF m 3 #[.val (.ref a0), .val (.int (4 : Int32)), .unset] [(.int (2 : Int32)), (.int (4 : Int32))])) t
    refine XS.icmpYes X0.here hx rfl (pc0 := 3) (pc' := 14) rfl (hb hby d8_3) rfl (feq ((by decide))).2 (by decide) (by decide) ?_
    show Steps p.tables e below (s₁.setTop (mkF m 14 #[.val (.ref a0), .val (.int (4 : Int32)), .unset] [])) t
    refine XS.iloadN X0.here hx rfl (hb hby d8_14) rfl ?_
    show Steps p.tables e below (s₁.setTop (mkF m 15 #[.val (.ref a0), .val (.int (4 : Int32)), .unset] [(.int (4 : Int32))])) t
    exact k
  obtain ⟨T2, h2, k2, X2, e2, E2, A2, st2⟩ := newP X0 hx hZ (hw _ (List.mem_of_getElem? (i := 17) rfl)) e0 (g := (mkF m 15 #[.val (.ref a0), .val (.int (4 : Int32)), .unset] [(.int (4 : Int32))])) rfl (hb hby d8_15) rfl (by decide) (cap := 4) (by decide) (by decide) (by decide) (by decide)
  obtain ⟨b8_15, g2⟩ : ∃ z, z = h0.size := ⟨_, rfl⟩
  rw [← g2] at A2 st2
  have gle_b8_15 : n0 ≤ b8_15 := Nat.le_trans Z0 (Nat.le_of_eq g2.symm)
  have sz_b8_15 : h0.size ≤ b8_15 := Nat.le_trans K0.1 (Nat.le_of_eq g2.symm)
  have ne_a0_b8_15 : a0 ≠ b8_15 := Nat.ne_of_lt (Nat.lt_of_lt_of_le P0.lt (Nat.le_of_eq g2.symm))
  have fc3 : OArr Z h2 a0 .boolean (2 : Int32) [(.int x0), (.int x1)] (.int (0 : Int32)) := (P0.ext E2)
  have Z2 : n0 ≤ h2.size := Nat.le_trans Z0 E2.1
  have K2 : Keep h0 h2 [] := K0.ext E2
  have V2 : OArr Z h2 b8_15 .boolean (4 : Int32) [(.int (0 : Int32)), (.int (0 : Int32)), (.int (0 : Int32)), (.int (0 : Int32))] (.int (0 : Int32)) := ⟨_, (Arv.new A2 (by decide)).pad (pad_rep [] (.int (0 : Int32)) 4)⟩
  refine OEnd.go (g' := (mkF m 17 #[.val (.ref a0), .val (.int (4 : Int32)), .unset] [(.ref b8_15)])) st2 ?_
  refine OEnd.go (T' := T2) (g' := (mkF m 23 #[.val (.ref a0), .val (.int (4 : Int32)), .val (.ref b8_15)] [(.ref a0), (.int (0 : Int32)), (.ref b8_15), (.int (0 : Int32)), (.ref a0)])) (fun t k => ?_) ?_
  · show Steps p.tables e below (T2.setTop (mkF m 17 #[.val (.ref a0), .val (.int (4 : Int32)), .unset] [(.ref b8_15)])) t
    refine XS.astoreN X2.here hx rfl (hb hby d8_17) rfl rfl (l' := #[.val (.ref a0), .val (.int (4 : Int32)), .val (.ref b8_15)]) rfl ?_
    show Steps p.tables e below (T2.setTop (mkF m 18 #[.val (.ref a0), .val (.int (4 : Int32)), .val (.ref b8_15)] [])) t
    refine XS.aloadN X2.here hx rfl (hb hby d8_18) rfl rfl ?_
    show Steps p.tables e below (T2.setTop (mkF m 19 #[.val (.ref a0), .val (.int (4 : Int32)), .val (.ref b8_15)] [(.ref a0)])) t
    refine XS.iconst X2.here hx rfl (hb hby d8_19) ?_
    show Steps p.tables e below (T2.setTop (mkF m 20 #[.val (.ref a0), .val (.int (4 : Int32)), .val (.ref b8_15)] [(.int (0 : Int32)), (.ref a0)])) t
    refine XS.aloadN X2.here hx rfl (hb hby d8_20) rfl rfl ?_
    show Steps p.tables e below (T2.setTop (mkF m 21 #[.val (.ref a0), .val (.int (4 : Int32)), .val (.ref b8_15)] [(.ref b8_15), (.int (0 : Int32)), (.ref a0)])) t
    refine XS.iconst X2.here hx rfl (hb hby d8_21) ?_
    show Steps p.tables e below (T2.setTop (mkF m 22 #[.val (.ref a0), .val (.int (4 : Int32)), .val (.ref b8_15)] [(.int (0 : Int32)), (.ref b8_15), (.int (0 : Int32)), (.ref a0)])) t
    refine XS.aloadN X2.here hx rfl (hb hby d8_22) rfl rfl ?_
    show Steps p.tables e below (T2.setTop (mkF m 23 #[.val (.ref a0), .val (.int (4 : Int32)), .val (.ref b8_15)] [(.ref a0), (.int (0 : Int32)), (.ref b8_15), (.int (0 : Int32)), (.ref a0)])) t
    exact k
  obtain ⟨kc4, cl4, Ar4, q4, S4, M4, H4, G4⟩ := id fc3
  refine OEnd.go (T' := T2) (g' := (mkF m 24 #[.val (.ref a0), .val (.int (4 : Int32)), .val (.ref b8_15)] [(.int (2 : Int32)), (.int (0 : Int32)), (.ref b8_15), (.int (0 : Int32)), (.ref a0)])) (fun t k => ?_) ?_
  · refine X2.arraylength hx (by rw [e2]; exact Ar4.1) (State.isArrayOf_alike hZ.alike Ar4.2.1) (g := (mkF m 23 #[.val (.ref a0), .val (.int (4 : Int32)), .val (.ref b8_15)] [(.ref a0), (.int (0 : Int32)), (.ref b8_15), (.int (0 : Int32)), (.ref a0)])) rfl rfl (hb hby d8_23) _ ?_
    rw [len_of S4 M4]
    exact k
  refine OEnd.go (T' := T2) (g' := (mkF m 25 #[.val (.ref a0), .val (.int (4 : Int32)), .val (.ref b8_15)] [(.int (4 : Int32)), (.int (2 : Int32)), (.int (0 : Int32)), (.ref b8_15), (.int (0 : Int32)), (.ref a0)])) (fun t k => ?_) ?_
  · show Steps p.tables e below (T2.setTop (mkF m 24 #[.val (.ref a0), .val (.int (4 : Int32)), .val (.ref b8_15)] [(.int (2 : Int32)), (.int (0 : Int32)), (.ref b8_15), (.int (0 : Int32)), (.ref a0)])) t
    refine XS.iloadN X2.here hx rfl (hb hby d8_24) rfl ?_
    show Steps p.tables e below (T2.setTop (mkF m 25 #[.val (.ref a0), .val (.int (4 : Int32)), .val (.ref b8_15)] [(.int (4 : Int32)), (.int (2 : Int32)), (.int (0 : Int32)), (.ref b8_15), (.int (0 : Int32)), (.ref a0)])) t
    exact k
  obtain ⟨_, _, ⟨T5, L5, k5, n5⟩, -, X5, ⟨Lc5, hQ5, l5, y5, z5⟩, st5⟩ := Jvm.LawKit.callS X2 hx (y := (⟨"java/lang/Math", "min", "(II)I"⟩ : MethodName)) hown (mvT hZ (hw _ (List.mem_of_getElem? (i := 44) rfl))) (mvT hZ (hw _ (List.mem_of_getElem? (i := 45) rfl))) (mvT hZ (hw _ (List.mem_of_getElem? (i := 46) rfl))) (mvT hZ (hw _ (List.mem_of_getElem? (i := 47) rfl))) (by decide) (backOf (W := 4) (rm9_2 l Z aZ hw []  h2 n0 Z2 ) hZ (hw _ (List.mem_of_getElem? (i := 47) rfl)) (hw _ (List.mem_of_getElem? (i := 46) rfl)) (by decide) (by decide)) (g := (mkF m 25 #[.val (.ref a0), .val (.int (4 : Int32)), .val (.ref b8_15)] [(.int (4 : Int32)), (.int (2 : Int32)), (.int (0 : Int32)), (.ref b8_15), (.int (0 : Int32)), (.ref a0)])) rfl (by rw [hml]; rfl) (argsL := [(.int (2 : Int32)), (.int (4 : Int32))]) (rest := [(.int (0 : Int32)), (.ref b8_15), (.int (0 : Int32)), (.ref a0)]) (lenOf pd__II_I rfl) rfl (by show 2 * 0 + _ ≤ _; exact Nat.le_of_eq rfl) (hb hby d8_25) (fun _ _ => ⟨rfl, e2, (by decide : 1 + 0 ≤ _), (by decide : 4 + 0 ≤ _)⟩)
  dsimp only [Pt.U, Pt.locs, Pt.cells, Pt.slots] at X5 l5 y5 z5 st5 hQ5
  subst l5 y5 z5
  obtain ⟨rfl, N5q, e5⟩ := hQ5
  have N5 := Fr.app N0 N5q
  refine OEnd.go (g' := (mkF m 28 #[.val (.ref a0), .val (.int (4 : Int32)), .val (.ref b8_15)] [(.int (2 : Int32)), (.int (0 : Int32)), (.ref b8_15), (.int (0 : Int32)), (.ref a0)])) st5 ?_
  obtain ⟨T6, h6, X6, e6, KC6, VC6, st6⟩ := own_acopy X5 hx hZ hown (hw _ (List.mem_of_getElem? (i := 48) rfl)) (hw _ (List.mem_of_getElem? (i := 51) rfl)) (hw _ (List.mem_of_getElem? (i := 49) rfl)) (hw _ (List.mem_of_getElem? (i := 50) rfl)) e5 fc3 V2 2 rfl (by decide) rfl (by decide) rfl (g := (mkF m 28 #[.val (.ref a0), .val (.int (4 : Int32)), .val (.ref b8_15)] [(.int (2 : Int32)), (.int (0 : Int32)), (.ref b8_15), (.int (0 : Int32)), (.ref a0)])) rfl (by rw [hml]; rfl) rfl (hb hby d8_28) (by decide) (W := 0) (by show 2 * 0 + _ ≤ _; exact Nat.le_of_eq rfl) (by decide)
  have V6 : OArr Z h6 b8_15 .boolean (4 : Int32) [(.int x0), (.int x1), (.int (0 : Int32)), (.int (0 : Int32))] (.int (0 : Int32)) := VC6
  have N6 := Fr.app N5 (own_frc gle_b8_15 0 2)
  have Z6 : n0 ≤ h6.size := Nat.le_trans Z2 KC6.1
  have K6 : Keep h0 h6 [] := K2.trans KC6 (allS (Or.inr sz_b8_15) all0)
  have fc7 : OArr Z h6 a0 .boolean (2 : Int32) [(.int x0), (.int x1)] (.int (0 : Int32)) := (fc3.keep KC6 (ninS ne_a0_b8_15 nin0))
  refine OEnd.go (g' := (mkF m 31 #[.val (.ref a0), .val (.int (4 : Int32)), .val (.ref b8_15)] [])) st6 ?_
  refine OEnd.go (T' := T6) (g' := (mkF m 32 #[.val (.ref a0), .val (.int (4 : Int32)), .val (.ref b8_15)] [(.ref b8_15)])) (fun t k => ?_) ?_
  · show Steps p.tables e below (T6.setTop (mkF m 31 #[.val (.ref a0), .val (.int (4 : Int32)), .val (.ref b8_15)] [])) t
    refine XS.aloadN X6.here hx rfl (hb hby d8_31) rfl rfl ?_
    show Steps p.tables e below (T6.setTop (mkF m 32 #[.val (.ref a0), .val (.int (4 : Int32)), .val (.ref b8_15)] [(.ref b8_15)])) t
    exact k
  exact OEnd.ref X6 hx Bd.returns rfl hlk (hb hby d8_32) ⟨b8_15, rfl, gle_b8_15, sz_b8_15, N6, (own_at e6 (P := fun h => Keep h0 h []) K6), (own_at e6 (P := fun h => OArr Z h b8_15 .boolean (4 : Int32) [(.int x0), (.int x1), (.int (0 : Int32)), (.int (0 : Int32))] (.int (0 : Int32))) V6)⟩ (by decide) (by decide)
theorem d4_0 : decode prog_27_method_3_code 0 = .ok (.aload_n 0, 1) := by decide +kernel
theorem d4_1 : decode prog_27_method_3_code 1 = .ok (.getfield 24, 3) := by decide +kernel
theorem d4_4 : decode prog_27_method_3_code 4 = .ok (.ifCond .ne 4, 3) := by decide +kernel
theorem d4_8 : decode prog_27_method_3_code 8 = .ok (.aload_n 0, 1) := by decide +kernel
theorem d4_9 : decode prog_27_method_3_code 9 = .ok (.aload_n 0, 1) := by decide +kernel
theorem d4_10 : decode prog_27_method_3_code 10 = .ok (.getfield 12, 3) := by decide +kernel
theorem d4_13 : decode prog_27_method_3_code 13 = .ok (.aload_n 0, 1) := by decide +kernel
theorem d4_14 : decode prog_27_method_3_code 14 = .ok (.dup, 1) := by decide +kernel
theorem d4_15 : decode prog_27_method_3_code 15 = .ok (.getfield 16, 3) := by decide +kernel
theorem d4_18 : decode prog_27_method_3_code 18 = .ok (.iconst 1, 1) := by decide +kernel
theorem d4_19 : decode prog_27_method_3_code 19 = .ok (.isub, 1) := by decide +kernel
theorem d4_20 : decode prog_27_method_3_code 20 = .ok (.dup_x1, 1) := by decide +kernel
theorem d4_21 : decode prog_27_method_3_code 21 = .ok (.putfield 16, 3) := by decide +kernel
theorem d4_24 : decode prog_27_method_3_code 24 = .ok (.iaload, 1) := by decide +kernel
theorem d4_25 : decode prog_27_method_3_code 25 = .ok (.putfield 28, 3) := by decide +kernel
theorem d4_28 : decode prog_27_method_3_code 28 = .ok (.aload_n 0, 1) := by decide +kernel
theorem d4_29 : decode prog_27_method_3_code 29 = .ok (.getfield 28, 3) := by decide +kernel
theorem d4_32 : decode prog_27_method_3_code 32 = .ok (.aload_n 0, 1) := by decide +kernel
theorem d4_33 : decode prog_27_method_3_code 33 = .ok (.getfield 20, 3) := by decide +kernel
theorem d4_36 : decode prog_27_method_3_code 36 = .ok (.arraylength, 1) := by decide +kernel
theorem d4_37 : decode prog_27_method_3_code 37 = .ok (.if_icmp .ne 20, 3) := by decide +kernel
theorem d4_57 : decode prog_27_method_3_code 57 = .ok (.aload_n 0, 1) := by decide +kernel
theorem d4_58 : decode prog_27_method_3_code 58 = .ok (.getfield 20, 3) := by decide +kernel
theorem d4_61 : decode prog_27_method_3_code 61 = .ok (.aload_n 0, 1) := by decide +kernel
theorem d4_62 : decode prog_27_method_3_code 62 = .ok (.getfield 28, 3) := by decide +kernel
theorem d4_65 : decode prog_27_method_3_code 65 = .ok (.iconst 0, 1) := by decide +kernel
theorem d4_66 : decode prog_27_method_3_code 66 = .ok (.bastore, 1) := by decide +kernel
theorem d4_67 : decode prog_27_method_3_code 67 = .ok (.aload_n 0, 1) := by decide +kernel
theorem d4_68 : decode prog_27_method_3_code 68 = .ok (.getfield 28, 3) := by decide +kernel
theorem d4_71 : decode prog_27_method_3_code 71 = .ok (.ifCond .le 13, 3) := by decide +kernel
theorem d4_84 : decode prog_27_method_3_code 84 = .ok (.return_, 1) := by decide +kernel
theorem ef_4_0 (m : MethodId) (x0 : Addr) : entryFrame m #[(.ref x0)] 1 = mkF m 0 #[.val (.ref x0)] [] := by first | (simp [entryFrame, mkF, argsToLocals, Value.category]; done) | rfl
def Q4_0 (Z : State) (a0 : Addr) (w1 : Addr) (r1 : Addr) (x0 : Int32) (dd : Int32) (oo : Int64) (hv : Int64) (h0 : Heap) (n0 : Nat) (v : Option Value) (h : Heap) (L : List Loc) : Prop := v = none ∧ Fr n0 L ∧ Keep h0 h [a0, r1] ∧ Exa Z h a0 "com/example/wedgetree/wedgetree/core/OpenedNodes" ∧ Fld Z h a0 "com/example/wedgetree/wedgetree/core/OpenedNodes" "waitingDepths" "[I" (.ref w1) ∧ Fld Z h a0 "com/example/wedgetree/wedgetree/core/OpenedNodes" "waiting" "I" (.int (0 : Int32)) ∧ Fld Z h a0 "com/example/wedgetree/wedgetree/core/OpenedNodes" "holdsAnswer" "[Z" (.ref r1) ∧ Fld Z h a0 "com/example/wedgetree/wedgetree/core/OpenedNodes" "tallying" "Z" (.int (1 : Int32)) ∧ Fld Z h a0 "com/example/wedgetree/wedgetree/core/OpenedNodes" "depth" "I" (.int (0 : Int32)) ∧ Fld Z h a0 "com/example/wedgetree/wedgetree/core/OpenedNodes" "opened" "J" (.long oo) ∧ Fld Z h a0 "com/example/wedgetree/wedgetree/core/OpenedNodes" "holding" "J" (.long hv) ∧ OArr Z h r1 .boolean (1 : Int32) [(.int (0 : Int32))] (.int (0 : Int32))
set_option maxRecDepth 65536 in
set_option maxHeartbeats 40000000 in
theorem rm4_0 (l : Launch) (Z : State) (aZ : Array Value) (hw : ∀ d ∈ tables_1, d.before aZ Z = true) (ws : List Jvm.Cond) (a0 : Addr) (w1 : Addr) (r1 : Addr) (x0 : Int32) (dd : Int32) (oo : Int64) (hv : Int64) (h0 : Heap) (n0 : Nat) (Z0 : n0 ≤ h0.size) (P0 : Fld Z h0 a0 "com/example/wedgetree/wedgetree/core/OpenedNodes" "waitingDepths" "[I" (.ref w1)) (P1 : Fld Z h0 a0 "com/example/wedgetree/wedgetree/core/OpenedNodes" "waiting" "I" (.int (1 : Int32))) (P2 : Fld Z h0 a0 "com/example/wedgetree/wedgetree/core/OpenedNodes" "holdsAnswer" "[Z" (.ref r1)) (P3 : Fld Z h0 a0 "com/example/wedgetree/wedgetree/core/OpenedNodes" "tallying" "Z" (.int (1 : Int32))) (P4 : Fld Z h0 a0 "com/example/wedgetree/wedgetree/core/OpenedNodes" "depth" "I" (.int dd)) (P5 : Fld Z h0 a0 "com/example/wedgetree/wedgetree/core/OpenedNodes" "opened" "J" (.long oo)) (P6 : Fld Z h0 a0 "com/example/wedgetree/wedgetree/core/OpenedNodes" "holding" "J" (.long hv)) (P7 : OArr Z h0 w1 .int (1 : Int32) [(.int (0 : Int32))] (.int (0 : Int32))) (P8 : OArr Z h0 r1 .boolean (1 : Int32) [(.int x0)] (.int (0 : Int32))) (P9 : Exa Z h0 a0 "com/example/wedgetree/wedgetree/core/OpenedNodes") (P10 : n0 ≤ a0) (P11 : n0 ≤ r1) (P12 : a0 ≠ w1) (P13 : a0 ≠ r1) (P14 : w1 ≠ r1) :
    MetFree l (⟨"com/example/wedgetree/wedgetree/core/OpenedNodes", "open", "()V"⟩ : MethodName) (head1 (Jvm.Cond.code (⟨"com/example/wedgetree/wedgetree/core/OpenedNodes", "open", "()V"⟩ : MethodName) prog_27_method_3_code 1 none :: ws) ({ frames := 0, cells := 0, slots := 0, locals := 0 } : Room)) (fun a U => a = #[(.ref a0)] ∧ Z.Warmed39 U.vm ∧ U.heap = h0) (fun _ _ _ _ _ => True) (fun _ U o U' => ∃ v L, o = .returned v ∧ Q4_0 Z a0 w1 r1 x0 dd oo hv h0 n0 v U'.heap L ∧ FrameEnd U o U' L ({ frames := 0, cells := 0, slots := 0, locals := 0 } : Room).cells ({ frames := 0, cells := 0, slots := 0, locals := 0 } : Room).slots) := by
  refine MetFree.of_bodySF (plainFor_of_name pn_com_example_wedgetree_wedgetree_core_OpenedNodes) hisR ?_
  intro p e s m args below meth c s₁ Bd hml0 hP hK
  obtain ⟨rfl, hZ, hh⟩ := hP
  have hx := Bd.exec
  have hby := Bd.bytes
  have hlk : meth.locks = false := BodyLoose.notSynchronized Bd
  have hml : c.maxLocals = 1 := hml0
  have hown : s.vm.findClass "com/example/wedgetree/wedgetree/core/OpenedNodes" = some m.cls := findClass_of_methodNamed Bd.named
  have hnm := (name_of_methodNamed Bd.named Bd.method).1
  have X0 : Stand p l e ({ frames := 0, cells := 0, slots := 0, locals := 0 } : Room) s m #[(.ref a0)] below meth c s₁ [] 0 0 := Stand.of_body Bd
  have e0 : s₁.heap = h0 := by rw [← hh, Bd.state]; rfl
  have N0 := Fr.nil n0
  have K0 : Keep h0 h0 [a0, r1] := Keep.refl _ _
  show OEnd p e below s s₁ (entryFrame m #[(.ref a0)] 1) (Q4_0 Z a0 w1 r1 x0 dd oo hv h0 n0) ({ frames := 0, cells := 0, slots := 0, locals := 0 } : Room).cells ({ frames := 0, cells := 0, slots := 0, locals := 0 } : Room).slots
  refine OEnd.go (g' := (mkF m 0 #[.val (.ref a0)] [])) (fun _ k => castTop (ef_4_0 m a0) k) ?_
  refine OEnd.go (T' := s₁) (g' := (mkF m 1 #[.val (.ref a0)] [(.ref a0)])) (fun t k => ?_) ?_
  · show Steps p.tables e below (s₁.setTop (mkF m 0 #[.val (.ref a0)] [])) t
    refine XS.aloadN X0.here hx rfl (hb hby d4_0) rfl rfl ?_
    show Steps p.tables e below (s₁.setTop (mkF m 1 #[.val (.ref a0)] [(.ref a0)])) t
    exact k
  obtain ⟨T1, X1, e1, st1⟩ := getF X0 hx hZ hown (host := "") (Or.inl (hw _ (List.mem_of_getElem? (i := 20) rfl))) Via.refl e0 P3 (g := (mkF m 1 #[.val (.ref a0)] [(.ref a0)])) rfl rfl (hb hby d4_1)
  refine OEnd.go (g' := (mkF m 4 #[.val (.ref a0)] [(.int (1 : Int32))])) st1 ?_
  refine OEnd.go (T' := T1) (g' := (mkF m 10 #[.val (.ref a0)] [(.ref a0), (.ref a0)])) (fun t k => ?_) ?_
  · show Steps p.tables e below (T1.setTop (mkF m 4 #[.val (.ref a0)] [(.int (1 : Int32))])) t
    refine XS.ifYes X1.here hx rfl (pc0 := 4) (pc' := 8) rfl (hb hby d4_4) rfl ((if0 _ _).trans (feq ((by decide))).2) (by decide) (by decide) ?_
    show Steps p.tables e below (T1.setTop (mkF m 8 #[.val (.ref a0)] [])) t
    refine XS.aloadN X1.here hx rfl (hb hby d4_8) rfl rfl ?_
    show Steps p.tables e below (T1.setTop (mkF m 9 #[.val (.ref a0)] [(.ref a0)])) t
    refine XS.aloadN X1.here hx rfl (hb hby d4_9) rfl rfl ?_
    show Steps p.tables e below (T1.setTop (mkF m 10 #[.val (.ref a0)] [(.ref a0), (.ref a0)])) t
    exact k
  obtain ⟨T2, X2, e2, st2⟩ := getF X1 hx hZ hown (host := "") (Or.inl (hw _ (List.mem_of_getElem? (i := 13) rfl))) Via.refl e1 P0 (g := (mkF m 10 #[.val (.ref a0)] [(.ref a0), (.ref a0)])) rfl rfl (hb hby d4_10)
  refine OEnd.go (g' := (mkF m 13 #[.val (.ref a0)] [(.ref w1), (.ref a0)])) st2 ?_
  refine OEnd.go (T' := T2) (g' := (mkF m 15 #[.val (.ref a0)] [(.ref a0), (.ref a0), (.ref w1), (.ref a0)])) (fun t k => ?_) ?_
  · show Steps p.tables e below (T2.setTop (mkF m 13 #[.val (.ref a0)] [(.ref w1), (.ref a0)])) t
    refine XS.aloadN X2.here hx rfl (hb hby d4_13) rfl rfl ?_
    show Steps p.tables e below (T2.setTop (mkF m 14 #[.val (.ref a0)] [(.ref a0), (.ref w1), (.ref a0)])) t
    refine XS.dup X2.here hx rfl (hb hby d4_14) rfl rfl ?_
    show Steps p.tables e below (T2.setTop (mkF m 15 #[.val (.ref a0)] [(.ref a0), (.ref a0), (.ref w1), (.ref a0)])) t
    exact k
  obtain ⟨T3, X3, e3, st3⟩ := getF X2 hx hZ hown (host := "") (Or.inl (hw _ (List.mem_of_getElem? (i := 15) rfl))) Via.refl e2 P1 (g := (mkF m 15 #[.val (.ref a0)] [(.ref a0), (.ref a0), (.ref w1), (.ref a0)])) rfl rfl (hb hby d4_15)
  refine OEnd.go (g' := (mkF m 18 #[.val (.ref a0)] [(.int (1 : Int32)), (.ref a0), (.ref w1), (.ref a0)])) st3 ?_
  refine OEnd.go (T' := T3) (g' := (mkF m 21 #[.val (.ref a0)] [(.int (0 : Int32)), (.ref a0), (.int (0 : Int32)), (.ref w1), (.ref a0)])) (fun t k => ?_) ?_
  · show Steps p.tables e below (T3.setTop (mkF m 18 #[.val (.ref a0)] [(.int (1 : Int32)), (.ref a0), (.ref w1), (.ref a0)])) t
    refine XS.iconst X3.here hx rfl (hb hby d4_18) ?_
    show Steps p.tables e below (T3.setTop (mkF m 19 #[.val (.ref a0)] [(.int (1 : Int32)), (.int (1 : Int32)), (.ref a0), (.ref w1), (.ref a0)])) t
    refine XS.isub X3.here hx rfl (hb hby d4_19) rfl ?_
    show Steps p.tables e below (T3.setTop (mkF m 20 #[.val (.ref a0)] [(.int (0 : Int32)), (.ref a0), (.ref w1), (.ref a0)])) t
    refine XS.dupX1 X3.here hx rfl (hb hby d4_20) rfl rfl rfl ?_
    show Steps p.tables e below (T3.setTop (mkF m 21 #[.val (.ref a0)] [(.int (0 : Int32)), (.ref a0), (.int (0 : Int32)), (.ref w1), (.ref a0)])) t
    exact k
  obtain ⟨T4, h4, X4, e4, W4, st4⟩ := putF X3 hx hZ hown (host := "") (Or.inl (hw _ (List.mem_of_getElem? (i := 15) rfl))) Via.refl e3 P1 P9 (Or.inl (hw _ (List.mem_of_getElem? (i := 16) rfl))) (hw _ (List.mem_of_getElem? (i := 1) rfl)) (ty := .int) (by decide) rfl rfl (g := (mkF m 21 #[.val (.ref a0)] [(.int (0 : Int32)), (.ref a0), (.int (0 : Int32)), (.ref w1), (.ref a0)])) rfl rfl (hb hby d4_21)
  have N4 := Fr.snoc X4 N0 P10
  have Z4 : n0 ≤ h4.size := Nat.le_trans Z0 (Keep.of_wr W4).1
  have K4 : Keep h0 h4 [a0, r1] := K0.wr W4 (Or.inl (List.mem_of_getElem? (i := 0) rfl))
  have fc5 : Fld Z h4 a0 "com/example/wedgetree/wedgetree/core/OpenedNodes" "waitingDepths" "[I" (.ref w1) := (P0.other W4 (Or.inr (slot_ne (Or.inl (hw _ (List.mem_of_getElem? (i := 14) rfl))) (Or.inl (hw _ (List.mem_of_getElem? (i := 16) rfl))) (by decide) (t := (.array .int)) (t' := .int) (by decide) (by decide))))
  have fc6 : Fld Z h4 a0 "com/example/wedgetree/wedgetree/core/OpenedNodes" "waiting" "I" (.int (0 : Int32)) := (P1.same W4)
  have fc7 : Fld Z h4 a0 "com/example/wedgetree/wedgetree/core/OpenedNodes" "holdsAnswer" "[Z" (.ref r1) := (P2.other W4 (Or.inr (slot_ne (Or.inl (hw _ (List.mem_of_getElem? (i := 19) rfl))) (Or.inl (hw _ (List.mem_of_getElem? (i := 16) rfl))) (by decide) (t := (.array .boolean)) (t' := .int) (by decide) (by decide))))
  have fc8 : Fld Z h4 a0 "com/example/wedgetree/wedgetree/core/OpenedNodes" "tallying" "Z" (.int (1 : Int32)) := (P3.other W4 (Or.inr (slot_ne (Or.inr (hw _ (List.mem_of_getElem? (i := 21) rfl))) (Or.inl (hw _ (List.mem_of_getElem? (i := 16) rfl))) (by decide) (t := .boolean) (t' := .int) (by decide) (by decide))))
  have fc9 : Fld Z h4 a0 "com/example/wedgetree/wedgetree/core/OpenedNodes" "depth" "I" (.int dd) := (P4.other W4 (Or.inr (slot_ne (Or.inl (hw _ (List.mem_of_getElem? (i := 28) rfl))) (Or.inl (hw _ (List.mem_of_getElem? (i := 16) rfl))) (by decide) (t := .int) (t' := .int) (by decide) (by decide))))
  have fc10 : Fld Z h4 a0 "com/example/wedgetree/wedgetree/core/OpenedNodes" "opened" "J" (.long oo) := (P5.other W4 (Or.inr (slot_ne (Or.inl (hw _ (List.mem_of_getElem? (i := 53) rfl))) (Or.inl (hw _ (List.mem_of_getElem? (i := 16) rfl))) (by decide) (t := .long) (t' := .int) (by decide) (by decide))))
  have fc11 : Fld Z h4 a0 "com/example/wedgetree/wedgetree/core/OpenedNodes" "holding" "J" (.long hv) := (P6.other W4 (Or.inr (slot_ne (Or.inl (hw _ (List.mem_of_getElem? (i := 74) rfl))) (Or.inl (hw _ (List.mem_of_getElem? (i := 16) rfl))) (by decide) (t := .long) (t' := .int) (by decide) (by decide))))
  have fc12 : OArr Z h4 w1 .int (1 : Int32) [(.int (0 : Int32))] (.int (0 : Int32)) := (P7.other W4 (Ne.symm P12))
  have fc13 : OArr Z h4 r1 .boolean (1 : Int32) [(.int x0)] (.int (0 : Int32)) := (P8.other W4 (Ne.symm P13))
  have fc14 : Exa Z h4 a0 "com/example/wedgetree/wedgetree/core/OpenedNodes" := (P9.wr W4)
  refine OEnd.go (g' := (mkF m 24 #[.val (.ref a0)] [(.int (0 : Int32)), (.ref w1), (.ref a0)])) st4 ?_
  obtain ⟨kc15, cl15, Ar15, q15, S15, M15, H15, G15⟩ := id fc12
  have hin15 : ¬ ((0 : Int32) < 0 ∨ cl15.slots.size ≤ ((0 : Int32)).toNatClampNeg) := inb_of S15 ⟨by decide, by decide⟩
  have hat15 : cl15.slots[((0 : Int32)).toNatClampNeg]? = some (.int (0 : Int32)) := Has.at H15 hin15 rfl
  refine OEnd.go (T' := T4) (g' := (mkF m 25 #[.val (.ref a0)] [(.int (0 : Int32)), (.ref a0)])) (fun t k => ?_) ?_
  · refine X4.iaload hx (j := (0 : Int32)) (v := (.int (0 : Int32))) (by rw [e4]; exact Ar15.1) (State.isArrayOf_alike hZ.alike Ar15.2.1) Ar15.2.2 hin15 hat15 (g := (mkF m 24 #[.val (.ref a0)] [(.int (0 : Int32)), (.ref w1), (.ref a0)])) rfl rfl (hb hby d4_24) _ ?_
    exact k
  obtain ⟨T16, h16, X16, e16, W16, st16⟩ := putF X4 hx hZ hown (host := "") (Or.inl (hw _ (List.mem_of_getElem? (i := 27) rfl))) Via.refl e4 fc9 fc14 (Or.inl (hw _ (List.mem_of_getElem? (i := 28) rfl))) (hw _ (List.mem_of_getElem? (i := 1) rfl)) (ty := .int) (by decide) rfl rfl (g := (mkF m 25 #[.val (.ref a0)] [(.int (0 : Int32)), (.ref a0)])) rfl rfl (hb hby d4_25)
  have N16 := Fr.snoc X16 N4 P10
  have Z16 : n0 ≤ h16.size := Nat.le_trans Z4 (Keep.of_wr W16).1
  have K16 : Keep h0 h16 [a0, r1] := K4.wr W16 (Or.inl (List.mem_of_getElem? (i := 0) rfl))
  have fc17 : Fld Z h16 a0 "com/example/wedgetree/wedgetree/core/OpenedNodes" "waitingDepths" "[I" (.ref w1) := (fc5.other W16 (Or.inr (slot_ne (Or.inl (hw _ (List.mem_of_getElem? (i := 14) rfl))) (Or.inl (hw _ (List.mem_of_getElem? (i := 28) rfl))) (by decide) (t := (.array .int)) (t' := .int) (by decide) (by decide))))
  have fc18 : Fld Z h16 a0 "com/example/wedgetree/wedgetree/core/OpenedNodes" "waiting" "I" (.int (0 : Int32)) := (fc6.other W16 (Or.inr (slot_ne (Or.inl (hw _ (List.mem_of_getElem? (i := 16) rfl))) (Or.inl (hw _ (List.mem_of_getElem? (i := 28) rfl))) (by decide) (t := .int) (t' := .int) (by decide) (by decide))))
  have fc19 : Fld Z h16 a0 "com/example/wedgetree/wedgetree/core/OpenedNodes" "holdsAnswer" "[Z" (.ref r1) := (fc7.other W16 (Or.inr (slot_ne (Or.inl (hw _ (List.mem_of_getElem? (i := 19) rfl))) (Or.inl (hw _ (List.mem_of_getElem? (i := 28) rfl))) (by decide) (t := (.array .boolean)) (t' := .int) (by decide) (by decide))))
  have fc20 : Fld Z h16 a0 "com/example/wedgetree/wedgetree/core/OpenedNodes" "tallying" "Z" (.int (1 : Int32)) := (fc8.other W16 (Or.inr (slot_ne (Or.inr (hw _ (List.mem_of_getElem? (i := 21) rfl))) (Or.inl (hw _ (List.mem_of_getElem? (i := 28) rfl))) (by decide) (t := .boolean) (t' := .int) (by decide) (by decide))))
  have fc21 : Fld Z h16 a0 "com/example/wedgetree/wedgetree/core/OpenedNodes" "depth" "I" (.int (0 : Int32)) := (fc9.same W16)
  have fc22 : Fld Z h16 a0 "com/example/wedgetree/wedgetree/core/OpenedNodes" "opened" "J" (.long oo) := (fc10.other W16 (Or.inr (slot_ne (Or.inl (hw _ (List.mem_of_getElem? (i := 53) rfl))) (Or.inl (hw _ (List.mem_of_getElem? (i := 28) rfl))) (by decide) (t := .long) (t' := .int) (by decide) (by decide))))
  have fc23 : Fld Z h16 a0 "com/example/wedgetree/wedgetree/core/OpenedNodes" "holding" "J" (.long hv) := (fc11.other W16 (Or.inr (slot_ne (Or.inl (hw _ (List.mem_of_getElem? (i := 74) rfl))) (Or.inl (hw _ (List.mem_of_getElem? (i := 28) rfl))) (by decide) (t := .long) (t' := .int) (by decide) (by decide))))
  have fc24 : OArr Z h16 w1 .int (1 : Int32) [(.int (0 : Int32))] (.int (0 : Int32)) := (fc12.other W16 (Ne.symm P12))
  have fc25 : OArr Z h16 r1 .boolean (1 : Int32) [(.int x0)] (.int (0 : Int32)) := (fc13.other W16 (Ne.symm P13))
  have fc26 : Exa Z h16 a0 "com/example/wedgetree/wedgetree/core/OpenedNodes" := (fc14.wr W16)
  refine OEnd.go (g' := (mkF m 28 #[.val (.ref a0)] [])) st16 ?_
  refine OEnd.go (T' := T16) (g' := (mkF m 29 #[.val (.ref a0)] [(.ref a0)])) (fun t k => ?_) ?_
  · show Steps p.tables e below (T16.setTop (mkF m 28 #[.val (.ref a0)] [])) t
    refine XS.aloadN X16.here hx rfl (hb hby d4_28) rfl rfl ?_
    show Steps p.tables e below (T16.setTop (mkF m 29 #[.val (.ref a0)] [(.ref a0)])) t
    exact k
  obtain ⟨T27, X27, e27, st27⟩ := getF X16 hx hZ hown (host := "") (Or.inl (hw _ (List.mem_of_getElem? (i := 27) rfl))) Via.refl e16 fc21 (g := (mkF m 29 #[.val (.ref a0)] [(.ref a0)])) rfl rfl (hb hby d4_29)
  refine OEnd.go (g' := (mkF m 32 #[.val (.ref a0)] [(.int (0 : Int32))])) st27 ?_
  refine OEnd.go (T' := T27) (g' := (mkF m 33 #[.val (.ref a0)] [(.ref a0), (.int (0 : Int32))])) (fun t k => ?_) ?_
  · show Steps p.tables e below (T27.setTop (mkF m 32 #[.val (.ref a0)] [(.int (0 : Int32))])) t
    refine XS.aloadN X27.here hx rfl (hb hby d4_32) rfl rfl ?_
    show Steps p.tables e below (T27.setTop (mkF m 33 #[.val (.ref a0)] [(.ref a0), (.int (0 : Int32))])) t
    exact k
  obtain ⟨T28, X28, e28, st28⟩ := getF X27 hx hZ hown (host := "") (Or.inl (hw _ (List.mem_of_getElem? (i := 18) rfl))) Via.refl e27 fc19 (g := (mkF m 33 #[.val (.ref a0)] [(.ref a0), (.int (0 : Int32))])) rfl rfl (hb hby d4_33)
  refine OEnd.go (g' := (mkF m 36 #[.val (.ref a0)] [(.ref r1), (.int (0 : Int32))])) st28 ?_
  obtain ⟨kc29, cl29, Ar29, q29, S29, M29, H29, G29⟩ := id fc25
  refine OEnd.go (T' := T28) (g' := (mkF m 37 #[.val (.ref a0)] [(.int (1 : Int32)), (.int (0 : Int32))])) (fun t k => ?_) ?_
  · refine X28.arraylength hx (by rw [e28]; exact Ar29.1) (State.isArrayOf_alike hZ.alike Ar29.2.1) (g := (mkF m 36 #[.val (.ref a0)] [(.ref r1), (.int (0 : Int32))])) rfl rfl (hb hby d4_36) _ ?_
    rw [len_of S29 M29]
    exact k
  refine OEnd.go (T' := T28) (g' := (mkF m 58 #[.val (.ref a0)] [(.ref a0)])) (fun t k => ?_) ?_
  · show Steps p.tables e below (T28.setTop (mkF m 37 #[.val (.ref a0)] [(.int (1 : Int32)), (.int (0 : Int32))])) t
    refine XS.icmpYes X28.here hx rfl (pc0 := 37) (pc' := 57) rfl (hb hby d4_37) rfl (feq ((by decide))).2 (by decide) (by decide) ?_
    show Steps p.tables e below (T28.setTop (mkF m 57 #[.val (.ref a0)] [])) t
    refine XS.aloadN X28.here hx rfl (hb hby d4_57) rfl rfl ?_
    show Steps p.tables e below (T28.setTop (mkF m 58 #[.val (.ref a0)] [(.ref a0)])) t
    exact k
  obtain ⟨T30, X30, e30, st30⟩ := getF X28 hx hZ hown (host := "") (Or.inl (hw _ (List.mem_of_getElem? (i := 18) rfl))) Via.refl e28 fc19 (g := (mkF m 58 #[.val (.ref a0)] [(.ref a0)])) rfl rfl (hb hby d4_58)
  refine OEnd.go (g' := (mkF m 61 #[.val (.ref a0)] [(.ref r1)])) st30 ?_
  refine OEnd.go (T' := T30) (g' := (mkF m 62 #[.val (.ref a0)] [(.ref a0), (.ref r1)])) (fun t k => ?_) ?_
  · show Steps p.tables e below (T30.setTop (mkF m 61 #[.val (.ref a0)] [(.ref r1)])) t
    refine XS.aloadN X30.here hx rfl (hb hby d4_61) rfl rfl ?_
    show Steps p.tables e below (T30.setTop (mkF m 62 #[.val (.ref a0)] [(.ref a0), (.ref r1)])) t
    exact k
  obtain ⟨T31, X31, e31, st31⟩ := getF X30 hx hZ hown (host := "") (Or.inl (hw _ (List.mem_of_getElem? (i := 27) rfl))) Via.refl e30 fc21 (g := (mkF m 62 #[.val (.ref a0)] [(.ref a0), (.ref r1)])) rfl rfl (hb hby d4_62)
  refine OEnd.go (g' := (mkF m 65 #[.val (.ref a0)] [(.int (0 : Int32)), (.ref r1)])) st31 ?_
  refine OEnd.go (T' := T31) (g' := (mkF m 66 #[.val (.ref a0)] [(.int (0 : Int32)), (.int (0 : Int32)), (.ref r1)])) (fun t k => ?_) ?_
  · show Steps p.tables e below (T31.setTop (mkF m 65 #[.val (.ref a0)] [(.int (0 : Int32)), (.ref r1)])) t
    refine XS.iconst X31.here hx rfl (hb hby d4_65) ?_
    show Steps p.tables e below (T31.setTop (mkF m 66 #[.val (.ref a0)] [(.int (0 : Int32)), (.int (0 : Int32)), (.ref r1)])) t
    exact k
  obtain ⟨kc32, cl32, Ar32, q32, S32, M32, H32, G32⟩ := id fc25
  have hin32 : ¬ ((0 : Int32) < 0 ∨ cl32.slots.size ≤ ((0 : Int32)).toNatClampNeg) := inb_of S32 ⟨by decide, by decide⟩
  obtain ⟨T32, h32, X32, e32, W32, st32⟩ := stZ X31 hx hZ e31 Ar32 (j := (0 : Int32)) hin32 (g := (mkF m 66 #[.val (.ref a0)] [(.int (0 : Int32)), (.int (0 : Int32)), (.ref r1)])) rfl rfl (hb hby d4_66)
  have N32 := Fr.snoc X32 N16 P11
  have Z32 : n0 ≤ h32.size := Nat.le_trans Z16 (Keep.of_wr W32).1
  have K32 : Keep h0 h32 [a0, r1] := K16.wr W32 (Or.inl (List.mem_of_getElem? (i := 1) rfl))
  have V32 : OArr Z h32 r1 .boolean (1 : Int32) [(.int (0 : Int32))] (.int (0 : Int32)) := ⟨_, Arv.set Ar32 q32 S32 M32 H32 G32 (fits_nar_bool _) W32 0 rfl (Nat.le_of_ble_eq_true rfl)⟩
  have fc33 : Fld Z h32 a0 "com/example/wedgetree/wedgetree/core/OpenedNodes" "waitingDepths" "[I" (.ref w1) := (fc17.other W32 (Or.inl P13))
  have fc34 : Fld Z h32 a0 "com/example/wedgetree/wedgetree/core/OpenedNodes" "waiting" "I" (.int (0 : Int32)) := (fc18.other W32 (Or.inl P13))
  have fc35 : Fld Z h32 a0 "com/example/wedgetree/wedgetree/core/OpenedNodes" "holdsAnswer" "[Z" (.ref r1) := (fc19.other W32 (Or.inl P13))
  have fc36 : Fld Z h32 a0 "com/example/wedgetree/wedgetree/core/OpenedNodes" "tallying" "Z" (.int (1 : Int32)) := (fc20.other W32 (Or.inl P13))
  have fc37 : Fld Z h32 a0 "com/example/wedgetree/wedgetree/core/OpenedNodes" "depth" "I" (.int (0 : Int32)) := (fc21.other W32 (Or.inl P13))
  have fc38 : Fld Z h32 a0 "com/example/wedgetree/wedgetree/core/OpenedNodes" "opened" "J" (.long oo) := (fc22.other W32 (Or.inl P13))
  have fc39 : Fld Z h32 a0 "com/example/wedgetree/wedgetree/core/OpenedNodes" "holding" "J" (.long hv) := (fc23.other W32 (Or.inl P13))
  have fc40 : OArr Z h32 w1 .int (1 : Int32) [(.int (0 : Int32))] (.int (0 : Int32)) := (fc24.other W32 P14)
  have fc41 : Exa Z h32 a0 "com/example/wedgetree/wedgetree/core/OpenedNodes" := (fc26.wr W32)
  refine OEnd.go (g' := (mkF m 67 #[.val (.ref a0)] [])) st32 ?_
  refine OEnd.go (T' := T32) (g' := (mkF m 68 #[.val (.ref a0)] [(.ref a0)])) (fun t k => ?_) ?_
  · show Steps p.tables e below (T32.setTop (mkF m 67 #[.val (.ref a0)] [])) t
    refine XS.aloadN X32.here hx rfl (hb hby d4_67) rfl rfl ?_
    show Steps p.tables e below (T32.setTop (mkF m 68 #[.val (.ref a0)] [(.ref a0)])) t
    exact k
  obtain ⟨T42, X42, e42, st42⟩ := getF X32 hx hZ hown (host := "") (Or.inl (hw _ (List.mem_of_getElem? (i := 27) rfl))) Via.refl e32 fc37 (g := (mkF m 68 #[.val (.ref a0)] [(.ref a0)])) rfl rfl (hb hby d4_68)
  refine OEnd.go (g' := (mkF m 71 #[.val (.ref a0)] [(.int (0 : Int32))])) st42 ?_
  refine OEnd.go (T' := T42) (g' := (mkF m 84 #[.val (.ref a0)] [])) (fun t k => ?_) ?_
  · show Steps p.tables e below (T42.setTop (mkF m 71 #[.val (.ref a0)] [(.int (0 : Int32))])) t
    refine XS.ifYes X42.here hx rfl (pc0 := 71) (pc' := 84) rfl (hb hby d4_71) rfl ((if0 _ _).trans (flt ((by decide))).2.2.2) (by decide) (by decide) ?_
    show Steps p.tables e below (T42.setTop (mkF m 84 #[.val (.ref a0)] [])) t
    exact k
  exact OEnd.void X42 hx Bd.returns hlk (hb hby d4_84) ⟨rfl, N32, (own_at e42 (P := fun h => Keep h0 h [a0, r1]) K32), (own_at e42 (P := fun h => Exa Z h a0 "com/example/wedgetree/wedgetree/core/OpenedNodes") fc41), (own_at e42 (P := fun h => Fld Z h a0 "com/example/wedgetree/wedgetree/core/OpenedNodes" "waitingDepths" "[I" (.ref w1)) fc33), (own_at e42 (P := fun h => Fld Z h a0 "com/example/wedgetree/wedgetree/core/OpenedNodes" "waiting" "I" (.int (0 : Int32))) fc34), (own_at e42 (P := fun h => Fld Z h a0 "com/example/wedgetree/wedgetree/core/OpenedNodes" "holdsAnswer" "[Z" (.ref r1)) fc35), (own_at e42 (P := fun h => Fld Z h a0 "com/example/wedgetree/wedgetree/core/OpenedNodes" "tallying" "Z" (.int (1 : Int32))) fc36), (own_at e42 (P := fun h => Fld Z h a0 "com/example/wedgetree/wedgetree/core/OpenedNodes" "depth" "I" (.int (0 : Int32))) fc37), (own_at e42 (P := fun h => Fld Z h a0 "com/example/wedgetree/wedgetree/core/OpenedNodes" "opened" "J" (.long oo)) fc38), (own_at e42 (P := fun h => Fld Z h a0 "com/example/wedgetree/wedgetree/core/OpenedNodes" "holding" "J" (.long hv)) fc39), (own_at e42 (P := fun h => OArr Z h r1 .boolean (1 : Int32) [(.int (0 : Int32))] (.int (0 : Int32))) V32)⟩ (by decide) (by decide)
theorem d4_40 : decode prog_27_method_3_code 40 = .ok (.aload_n 0, 1) := by decide +kernel
theorem d4_41 : decode prog_27_method_3_code 41 = .ok (.aload_n 0, 1) := by decide +kernel
theorem d4_42 : decode prog_27_method_3_code 42 = .ok (.getfield 20, 3) := by decide +kernel
theorem d4_45 : decode prog_27_method_3_code 45 = .ok (.iconst 2, 1) := by decide +kernel
theorem d4_46 : decode prog_27_method_3_code 46 = .ok (.aload_n 0, 1) := by decide +kernel
theorem d4_47 : decode prog_27_method_3_code 47 = .ok (.getfield 28, 3) := by decide +kernel
theorem d4_50 : decode prog_27_method_3_code 50 = .ok (.imul, 1) := by decide +kernel
theorem d4_51 : decode prog_27_method_3_code 51 = .ok (.invokestatic 31, 3) := by decide +kernel
theorem pd___ZI__Z : parseMethodDescriptor "([ZI)[Z" = some ⟨[(.array .boolean), .int], some (.array .boolean)⟩ := by decide +kernel
theorem d4_54 : decode prog_27_method_3_code 54 = .ok (.putfield 20, 3) := by decide +kernel
theorem d4_74 : decode prog_27_method_3_code 74 = .ok (.aload_n 0, 1) := by decide +kernel
theorem d4_75 : decode prog_27_method_3_code 75 = .ok (.dup, 1) := by decide +kernel
theorem d4_76 : decode prog_27_method_3_code 76 = .ok (.getfield 37, 3) := by decide +kernel
theorem d4_79 : decode prog_27_method_3_code 79 = .ok (.lconst 1, 1) := by decide +kernel
theorem d4_80 : decode prog_27_method_3_code 80 = .ok (.ladd, 1) := by decide +kernel
theorem d4_81 : decode prog_27_method_3_code 81 = .ok (.putfield 37, 3) := by decide +kernel
theorem ef_4_1 (m : MethodId) (x0 : Addr) : entryFrame m #[(.ref x0)] 1 = mkF m 0 #[.val (.ref x0)] [] := by first | (simp [entryFrame, mkF, argsToLocals, Value.category]; done) | rfl
def Q4_1 (Z : State) (a0 : Addr) (w1 : Addr) (r1 : Addr) (x0 : Int32) (dd : Int32) (oo : Int64) (hv : Int64) (h0 : Heap) (n0 : Nat) (v : Option Value) (h : Heap) (L : List Loc) : Prop := ∃ r2 : Addr, v = none ∧ Fr n0 L ∧ n0 ≤ r2 ∧ h0.size ≤ r2 ∧ Keep h0 h [a0] ∧ Exa Z h a0 "com/example/wedgetree/wedgetree/core/OpenedNodes" ∧ Fld Z h a0 "com/example/wedgetree/wedgetree/core/OpenedNodes" "waitingDepths" "[I" (.ref w1) ∧ Fld Z h a0 "com/example/wedgetree/wedgetree/core/OpenedNodes" "waiting" "I" (.int (0 : Int32)) ∧ Fld Z h a0 "com/example/wedgetree/wedgetree/core/OpenedNodes" "holdsAnswer" "[Z" (.ref r2) ∧ Fld Z h a0 "com/example/wedgetree/wedgetree/core/OpenedNodes" "tallying" "Z" (.int (1 : Int32)) ∧ Fld Z h a0 "com/example/wedgetree/wedgetree/core/OpenedNodes" "depth" "I" (.int (1 : Int32)) ∧ Fld Z h a0 "com/example/wedgetree/wedgetree/core/OpenedNodes" "opened" "J" (.long (oo + (1 : Int64))) ∧ Fld Z h a0 "com/example/wedgetree/wedgetree/core/OpenedNodes" "holding" "J" (.long hv) ∧ OArr Z h r2 .boolean (2 : Int32) [(.int x0), (.int (0 : Int32))] (.int (0 : Int32))
set_option maxRecDepth 65536 in
set_option maxHeartbeats 40000000 in
theorem rm4_1 (l : Launch) (Z : State) (aZ : Array Value) (hw : ∀ d ∈ tables_1, d.before aZ Z = true) (ws : List Jvm.Cond) (a0 : Addr) (w1 : Addr) (r1 : Addr) (x0 : Int32) (dd : Int32) (oo : Int64) (hv : Int64) (h0 : Heap) (n0 : Nat) (Z0 : n0 ≤ h0.size) (P0 : Fld Z h0 a0 "com/example/wedgetree/wedgetree/core/OpenedNodes" "waitingDepths" "[I" (.ref w1)) (P1 : Fld Z h0 a0 "com/example/wedgetree/wedgetree/core/OpenedNodes" "waiting" "I" (.int (1 : Int32))) (P2 : Fld Z h0 a0 "com/example/wedgetree/wedgetree/core/OpenedNodes" "holdsAnswer" "[Z" (.ref r1)) (P3 : Fld Z h0 a0 "com/example/wedgetree/wedgetree/core/OpenedNodes" "tallying" "Z" (.int (1 : Int32))) (P4 : Fld Z h0 a0 "com/example/wedgetree/wedgetree/core/OpenedNodes" "depth" "I" (.int dd)) (P5 : Fld Z h0 a0 "com/example/wedgetree/wedgetree/core/OpenedNodes" "opened" "J" (.long oo)) (P6 : Fld Z h0 a0 "com/example/wedgetree/wedgetree/core/OpenedNodes" "holding" "J" (.long hv)) (P7 : OArr Z h0 w1 .int (1 : Int32) [(.int (1 : Int32))] (.int (0 : Int32))) (P8 : OArr Z h0 r1 .boolean (1 : Int32) [(.int x0)] (.int (0 : Int32))) (P9 : Exa Z h0 a0 "com/example/wedgetree/wedgetree/core/OpenedNodes") (P10 : n0 ≤ a0) (P11 : n0 ≤ r1) (P12 : a0 ≠ w1) (P13 : a0 ≠ r1) (P14 : w1 ≠ r1) :
    MetFree l (⟨"com/example/wedgetree/wedgetree/core/OpenedNodes", "open", "()V"⟩ : MethodName) (head1 (Jvm.Cond.code (⟨"com/example/wedgetree/wedgetree/core/OpenedNodes", "open", "()V"⟩ : MethodName) prog_27_method_3_code 1 none :: ws) ({ frames := 2, cells := 1, slots := 2, locals := 55 } : Room)) (fun a U => a = #[(.ref a0)] ∧ Z.Warmed39 U.vm ∧ U.heap = h0) (fun _ _ _ _ _ => True) (fun _ U o U' => ∃ v L, o = .returned v ∧ Q4_1 Z a0 w1 r1 x0 dd oo hv h0 n0 v U'.heap L ∧ FrameEnd U o U' L ({ frames := 2, cells := 1, slots := 2, locals := 55 } : Room).cells ({ frames := 2, cells := 1, slots := 2, locals := 55 } : Room).slots) := by
  refine MetFree.of_bodySF (plainFor_of_name pn_com_example_wedgetree_wedgetree_core_OpenedNodes) hisR ?_
  intro p e s m args below meth c s₁ Bd hml0 hP hK
  obtain ⟨rfl, hZ, hh⟩ := hP
  have hx := Bd.exec
  have hby := Bd.bytes
  have hlk : meth.locks = false := BodyLoose.notSynchronized Bd
  have hml : c.maxLocals = 1 := hml0
  have hown : s.vm.findClass "com/example/wedgetree/wedgetree/core/OpenedNodes" = some m.cls := findClass_of_methodNamed Bd.named
  have hnm := (name_of_methodNamed Bd.named Bd.method).1
  have X0 : Stand p l e ({ frames := 2, cells := 1, slots := 2, locals := 55 } : Room) s m #[(.ref a0)] below meth c s₁ [] 0 0 := Stand.of_body Bd
  have e0 : s₁.heap = h0 := by rw [← hh, Bd.state]; rfl
  have N0 := Fr.nil n0
  have K0 : Keep h0 h0 [a0] := Keep.refl _ _
  show OEnd p e below s s₁ (entryFrame m #[(.ref a0)] 1) (Q4_1 Z a0 w1 r1 x0 dd oo hv h0 n0) ({ frames := 2, cells := 1, slots := 2, locals := 55 } : Room).cells ({ frames := 2, cells := 1, slots := 2, locals := 55 } : Room).slots
  refine OEnd.go (g' := (mkF m 0 #[.val (.ref a0)] [])) (fun _ k => castTop (ef_4_1 m a0) k) ?_
  refine OEnd.go (T' := s₁) (g' := (mkF m 1 #[.val (.ref a0)] [(.ref a0)])) (fun t k => ?_) ?_
  · show Steps p.tables e below (s₁.setTop (mkF m 0 #[.val (.ref a0)] [])) t
    refine XS.aloadN X0.here hx rfl (hb hby d4_0) rfl rfl ?_
    show Steps p.tables e below (s₁.setTop (mkF m 1 #[.val (.ref a0)] [(.ref a0)])) t
    exact k
  obtain ⟨T1, X1, e1, st1⟩ := getF X0 hx hZ hown (host := "") (Or.inl (hw _ (List.mem_of_getElem? (i := 20) rfl))) Via.refl e0 P3 (g := (mkF m 1 #[.val (.ref a0)] [(.ref a0)])) rfl rfl (hb hby d4_1)
  refine OEnd.go (g' := (mkF m 4 #[.val (.ref a0)] [(.int (1 : Int32))])) st1 ?_
  refine OEnd.go (T' := T1) (g' := (mkF m 10 #[.val (.ref a0)] [(.ref a0), (.ref a0)])) (fun t k => ?_) ?_
  · show Steps p.tables e below (T1.setTop (mkF m 4 #[.val (.ref a0)] [(.int (1 : Int32))])) t
    refine XS.ifYes X1.here hx rfl (pc0 := 4) (pc' := 8) rfl (hb hby d4_4) rfl ((if0 _ _).trans (feq ((by decide))).2) (by decide) (by decide) ?_
    show Steps p.tables e below (T1.setTop (mkF m 8 #[.val (.ref a0)] [])) t
    refine XS.aloadN X1.here hx rfl (hb hby d4_8) rfl rfl ?_
    show Steps p.tables e below (T1.setTop (mkF m 9 #[.val (.ref a0)] [(.ref a0)])) t
    refine XS.aloadN X1.here hx rfl (hb hby d4_9) rfl rfl ?_
    show Steps p.tables e below (T1.setTop (mkF m 10 #[.val (.ref a0)] [(.ref a0), (.ref a0)])) t
    exact k
  obtain ⟨T2, X2, e2, st2⟩ := getF X1 hx hZ hown (host := "") (Or.inl (hw _ (List.mem_of_getElem? (i := 13) rfl))) Via.refl e1 P0 (g := (mkF m 10 #[.val (.ref a0)] [(.ref a0), (.ref a0)])) rfl rfl (hb hby d4_10)
  refine OEnd.go (g' := (mkF m 13 #[.val (.ref a0)] [(.ref w1), (.ref a0)])) st2 ?_
  refine OEnd.go (T' := T2) (g' := (mkF m 15 #[.val (.ref a0)] [(.ref a0), (.ref a0), (.ref w1), (.ref a0)])) (fun t k => ?_) ?_
  · show Steps p.tables e below (T2.setTop (mkF m 13 #[.val (.ref a0)] [(.ref w1), (.ref a0)])) t
    refine XS.aloadN X2.here hx rfl (hb hby d4_13) rfl rfl ?_
    show Steps p.tables e below (T2.setTop (mkF m 14 #[.val (.ref a0)] [(.ref a0), (.ref w1), (.ref a0)])) t
    refine XS.dup X2.here hx rfl (hb hby d4_14) rfl rfl ?_
    show Steps p.tables e below (T2.setTop (mkF m 15 #[.val (.ref a0)] [(.ref a0), (.ref a0), (.ref w1), (.ref a0)])) t
    exact k
  obtain ⟨T3, X3, e3, st3⟩ := getF X2 hx hZ hown (host := "") (Or.inl (hw _ (List.mem_of_getElem? (i := 15) rfl))) Via.refl e2 P1 (g := (mkF m 15 #[.val (.ref a0)] [(.ref a0), (.ref a0), (.ref w1), (.ref a0)])) rfl rfl (hb hby d4_15)
  refine OEnd.go (g' := (mkF m 18 #[.val (.ref a0)] [(.int (1 : Int32)), (.ref a0), (.ref w1), (.ref a0)])) st3 ?_
  refine OEnd.go (T' := T3) (g' := (mkF m 21 #[.val (.ref a0)] [(.int (0 : Int32)), (.ref a0), (.int (0 : Int32)), (.ref w1), (.ref a0)])) (fun t k => ?_) ?_
  · show Steps p.tables e below (T3.setTop (mkF m 18 #[.val (.ref a0)] [(.int (1 : Int32)), (.ref a0), (.ref w1), (.ref a0)])) t
    refine XS.iconst X3.here hx rfl (hb hby d4_18) ?_
    show Steps p.tables e below (T3.setTop (mkF m 19 #[.val (.ref a0)] [(.int (1 : Int32)), (.int (1 : Int32)), (.ref a0), (.ref w1), (.ref a0)])) t
    refine XS.isub X3.here hx rfl (hb hby d4_19) rfl ?_
    show Steps p.tables e below (T3.setTop (mkF m 20 #[.val (.ref a0)] [(.int (0 : Int32)), (.ref a0), (.ref w1), (.ref a0)])) t
    refine XS.dupX1 X3.here hx rfl (hb hby d4_20) rfl rfl rfl ?_
    show Steps p.tables e below (T3.setTop (mkF m 21 #[.val (.ref a0)] [(.int (0 : Int32)), (.ref a0), (.int (0 : Int32)), (.ref w1), (.ref a0)])) t
    exact k
  obtain ⟨T4, h4, X4, e4, W4, st4⟩ := putF X3 hx hZ hown (host := "") (Or.inl (hw _ (List.mem_of_getElem? (i := 15) rfl))) Via.refl e3 P1 P9 (Or.inl (hw _ (List.mem_of_getElem? (i := 16) rfl))) (hw _ (List.mem_of_getElem? (i := 1) rfl)) (ty := .int) (by decide) rfl rfl (g := (mkF m 21 #[.val (.ref a0)] [(.int (0 : Int32)), (.ref a0), (.int (0 : Int32)), (.ref w1), (.ref a0)])) rfl rfl (hb hby d4_21)
  have N4 := Fr.snoc X4 N0 P10
  have Z4 : n0 ≤ h4.size := Nat.le_trans Z0 (Keep.of_wr W4).1
  have K4 : Keep h0 h4 [a0] := K0.wr W4 (Or.inl (List.mem_of_getElem? (i := 0) rfl))
  have fc5 : Fld Z h4 a0 "com/example/wedgetree/wedgetree/core/OpenedNodes" "waitingDepths" "[I" (.ref w1) := (P0.other W4 (Or.inr (slot_ne (Or.inl (hw _ (List.mem_of_getElem? (i := 14) rfl))) (Or.inl (hw _ (List.mem_of_getElem? (i := 16) rfl))) (by decide) (t := (.array .int)) (t' := .int) (by decide) (by decide))))
  have fc6 : Fld Z h4 a0 "com/example/wedgetree/wedgetree/core/OpenedNodes" "waiting" "I" (.int (0 : Int32)) := (P1.same W4)
  have fc7 : Fld Z h4 a0 "com/example/wedgetree/wedgetree/core/OpenedNodes" "holdsAnswer" "[Z" (.ref r1) := (P2.other W4 (Or.inr (slot_ne (Or.inl (hw _ (List.mem_of_getElem? (i := 19) rfl))) (Or.inl (hw _ (List.mem_of_getElem? (i := 16) rfl))) (by decide) (t := (.array .boolean)) (t' := .int) (by decide) (by decide))))
  have fc8 : Fld Z h4 a0 "com/example/wedgetree/wedgetree/core/OpenedNodes" "tallying" "Z" (.int (1 : Int32)) := (P3.other W4 (Or.inr (slot_ne (Or.inr (hw _ (List.mem_of_getElem? (i := 21) rfl))) (Or.inl (hw _ (List.mem_of_getElem? (i := 16) rfl))) (by decide) (t := .boolean) (t' := .int) (by decide) (by decide))))
  have fc9 : Fld Z h4 a0 "com/example/wedgetree/wedgetree/core/OpenedNodes" "depth" "I" (.int dd) := (P4.other W4 (Or.inr (slot_ne (Or.inl (hw _ (List.mem_of_getElem? (i := 28) rfl))) (Or.inl (hw _ (List.mem_of_getElem? (i := 16) rfl))) (by decide) (t := .int) (t' := .int) (by decide) (by decide))))
  have fc10 : Fld Z h4 a0 "com/example/wedgetree/wedgetree/core/OpenedNodes" "opened" "J" (.long oo) := (P5.other W4 (Or.inr (slot_ne (Or.inl (hw _ (List.mem_of_getElem? (i := 53) rfl))) (Or.inl (hw _ (List.mem_of_getElem? (i := 16) rfl))) (by decide) (t := .long) (t' := .int) (by decide) (by decide))))
  have fc11 : Fld Z h4 a0 "com/example/wedgetree/wedgetree/core/OpenedNodes" "holding" "J" (.long hv) := (P6.other W4 (Or.inr (slot_ne (Or.inl (hw _ (List.mem_of_getElem? (i := 74) rfl))) (Or.inl (hw _ (List.mem_of_getElem? (i := 16) rfl))) (by decide) (t := .long) (t' := .int) (by decide) (by decide))))
  have fc12 : OArr Z h4 w1 .int (1 : Int32) [(.int (1 : Int32))] (.int (0 : Int32)) := (P7.other W4 (Ne.symm P12))
  have fc13 : OArr Z h4 r1 .boolean (1 : Int32) [(.int x0)] (.int (0 : Int32)) := (P8.other W4 (Ne.symm P13))
  have fc14 : Exa Z h4 a0 "com/example/wedgetree/wedgetree/core/OpenedNodes" := (P9.wr W4)
  refine OEnd.go (g' := (mkF m 24 #[.val (.ref a0)] [(.int (0 : Int32)), (.ref w1), (.ref a0)])) st4 ?_
  obtain ⟨kc15, cl15, Ar15, q15, S15, M15, H15, G15⟩ := id fc12
  have hin15 : ¬ ((0 : Int32) < 0 ∨ cl15.slots.size ≤ ((0 : Int32)).toNatClampNeg) := inb_of S15 ⟨by decide, by decide⟩
  have hat15 : cl15.slots[((0 : Int32)).toNatClampNeg]? = some (.int (1 : Int32)) := Has.at H15 hin15 rfl
  refine OEnd.go (T' := T4) (g' := (mkF m 25 #[.val (.ref a0)] [(.int (1 : Int32)), (.ref a0)])) (fun t k => ?_) ?_
  · refine X4.iaload hx (j := (0 : Int32)) (v := (.int (1 : Int32))) (by rw [e4]; exact Ar15.1) (State.isArrayOf_alike hZ.alike Ar15.2.1) Ar15.2.2 hin15 hat15 (g := (mkF m 24 #[.val (.ref a0)] [(.int (0 : Int32)), (.ref w1), (.ref a0)])) rfl rfl (hb hby d4_24) _ ?_
    exact k
  obtain ⟨T16, h16, X16, e16, W16, st16⟩ := putF X4 hx hZ hown (host := "") (Or.inl (hw _ (List.mem_of_getElem? (i := 27) rfl))) Via.refl e4 fc9 fc14 (Or.inl (hw _ (List.mem_of_getElem? (i := 28) rfl))) (hw _ (List.mem_of_getElem? (i := 1) rfl)) (ty := .int) (by decide) rfl rfl (g := (mkF m 25 #[.val (.ref a0)] [(.int (1 : Int32)), (.ref a0)])) rfl rfl (hb hby d4_25)
  have N16 := Fr.snoc X16 N4 P10
  have Z16 : n0 ≤ h16.size := Nat.le_trans Z4 (Keep.of_wr W16).1
  have K16 : Keep h0 h16 [a0] := K4.wr W16 (Or.inl (List.mem_of_getElem? (i := 0) rfl))
  have fc17 : Fld Z h16 a0 "com/example/wedgetree/wedgetree/core/OpenedNodes" "waitingDepths" "[I" (.ref w1) := (fc5.other W16 (Or.inr (slot_ne (Or.inl (hw _ (List.mem_of_getElem? (i := 14) rfl))) (Or.inl (hw _ (List.mem_of_getElem? (i := 28) rfl))) (by decide) (t := (.array .int)) (t' := .int) (by decide) (by decide))))
  have fc18 : Fld Z h16 a0 "com/example/wedgetree/wedgetree/core/OpenedNodes" "waiting" "I" (.int (0 : Int32)) := (fc6.other W16 (Or.inr (slot_ne (Or.inl (hw _ (List.mem_of_getElem? (i := 16) rfl))) (Or.inl (hw _ (List.mem_of_getElem? (i := 28) rfl))) (by decide) (t := .int) (t' := .int) (by decide) (by decide))))
  have fc19 : Fld Z h16 a0 "com/example/wedgetree/wedgetree/core/OpenedNodes" "holdsAnswer" "[Z" (.ref r1) := (fc7.other W16 (Or.inr (slot_ne (Or.inl (hw _ (List.mem_of_getElem? (i := 19) rfl))) (Or.inl (hw _ (List.mem_of_getElem? (i := 28) rfl))) (by decide) (t := (.array .boolean)) (t' := .int) (by decide) (by decide))))
  have fc20 : Fld Z h16 a0 "com/example/wedgetree/wedgetree/core/OpenedNodes" "tallying" "Z" (.int (1 : Int32)) := (fc8.other W16 (Or.inr (slot_ne (Or.inr (hw _ (List.mem_of_getElem? (i := 21) rfl))) (Or.inl (hw _ (List.mem_of_getElem? (i := 28) rfl))) (by decide) (t := .boolean) (t' := .int) (by decide) (by decide))))
  have fc21 : Fld Z h16 a0 "com/example/wedgetree/wedgetree/core/OpenedNodes" "depth" "I" (.int (1 : Int32)) := (fc9.same W16)
  have fc22 : Fld Z h16 a0 "com/example/wedgetree/wedgetree/core/OpenedNodes" "opened" "J" (.long oo) := (fc10.other W16 (Or.inr (slot_ne (Or.inl (hw _ (List.mem_of_getElem? (i := 53) rfl))) (Or.inl (hw _ (List.mem_of_getElem? (i := 28) rfl))) (by decide) (t := .long) (t' := .int) (by decide) (by decide))))
  have fc23 : Fld Z h16 a0 "com/example/wedgetree/wedgetree/core/OpenedNodes" "holding" "J" (.long hv) := (fc11.other W16 (Or.inr (slot_ne (Or.inl (hw _ (List.mem_of_getElem? (i := 74) rfl))) (Or.inl (hw _ (List.mem_of_getElem? (i := 28) rfl))) (by decide) (t := .long) (t' := .int) (by decide) (by decide))))
  have fc24 : OArr Z h16 w1 .int (1 : Int32) [(.int (1 : Int32))] (.int (0 : Int32)) := (fc12.other W16 (Ne.symm P12))
  have fc25 : OArr Z h16 r1 .boolean (1 : Int32) [(.int x0)] (.int (0 : Int32)) := (fc13.other W16 (Ne.symm P13))
  have fc26 : Exa Z h16 a0 "com/example/wedgetree/wedgetree/core/OpenedNodes" := (fc14.wr W16)
  refine OEnd.go (g' := (mkF m 28 #[.val (.ref a0)] [])) st16 ?_
  refine OEnd.go (T' := T16) (g' := (mkF m 29 #[.val (.ref a0)] [(.ref a0)])) (fun t k => ?_) ?_
  · show Steps p.tables e below (T16.setTop (mkF m 28 #[.val (.ref a0)] [])) t
    refine XS.aloadN X16.here hx rfl (hb hby d4_28) rfl rfl ?_
    show Steps p.tables e below (T16.setTop (mkF m 29 #[.val (.ref a0)] [(.ref a0)])) t
    exact k
  obtain ⟨T27, X27, e27, st27⟩ := getF X16 hx hZ hown (host := "") (Or.inl (hw _ (List.mem_of_getElem? (i := 27) rfl))) Via.refl e16 fc21 (g := (mkF m 29 #[.val (.ref a0)] [(.ref a0)])) rfl rfl (hb hby d4_29)
  refine OEnd.go (g' := (mkF m 32 #[.val (.ref a0)] [(.int (1 : Int32))])) st27 ?_
  refine OEnd.go (T' := T27) (g' := (mkF m 33 #[.val (.ref a0)] [(.ref a0), (.int (1 : Int32))])) (fun t k => ?_) ?_
  · show Steps p.tables e below (T27.setTop (mkF m 32 #[.val (.ref a0)] [(.int (1 : Int32))])) t
    refine XS.aloadN X27.here hx rfl (hb hby d4_32) rfl rfl ?_
    show Steps p.tables e below (T27.setTop (mkF m 33 #[.val (.ref a0)] [(.ref a0), (.int (1 : Int32))])) t
    exact k
  obtain ⟨T28, X28, e28, st28⟩ := getF X27 hx hZ hown (host := "") (Or.inl (hw _ (List.mem_of_getElem? (i := 18) rfl))) Via.refl e27 fc19 (g := (mkF m 33 #[.val (.ref a0)] [(.ref a0), (.int (1 : Int32))])) rfl rfl (hb hby d4_33)
  refine OEnd.go (g' := (mkF m 36 #[.val (.ref a0)] [(.ref r1), (.int (1 : Int32))])) st28 ?_
  obtain ⟨kc29, cl29, Ar29, q29, S29, M29, H29, G29⟩ := id fc25
  refine OEnd.go (T' := T28) (g' := (mkF m 37 #[.val (.ref a0)] [(.int (1 : Int32)), (.int (1 : Int32))])) (fun t k => ?_) ?_
  · refine X28.arraylength hx (by rw [e28]; exact Ar29.1) (State.isArrayOf_alike hZ.alike Ar29.2.1) (g := (mkF m 36 #[.val (.ref a0)] [(.ref r1), (.int (1 : Int32))])) rfl rfl (hb hby d4_36) _ ?_
    rw [len_of S29 M29]
    exact k
  refine OEnd.go (T' := T28) (g' := (mkF m 42 #[.val (.ref a0)] [(.ref a0), (.ref a0)])) (fun t k => ?_) ?_
  · show Steps p.tables e below (T28.setTop (mkF m 37 #[.val (.ref a0)] [(.int (1 : Int32)), (.int (1 : Int32))])) t
    refine XS.icmpNo X28.here hx rfl (hb hby d4_37) rfl (teq ((by decide))).2 ?_
    show Steps p.tables e below (T28.setTop (mkF m 40 #[.val (.ref a0)] [])) t
    refine XS.aloadN X28.here hx rfl (hb hby d4_40) rfl rfl ?_
    show Steps p.tables e below (T28.setTop (mkF m 41 #[.val (.ref a0)] [(.ref a0)])) t
    refine XS.aloadN X28.here hx rfl (hb hby d4_41) rfl rfl ?_
    show Steps p.tables e below (T28.setTop (mkF m 42 #[.val (.ref a0)] [(.ref a0), (.ref a0)])) t
    exact k
  obtain ⟨T30, X30, e30, st30⟩ := getF X28 hx hZ hown (host := "") (Or.inl (hw _ (List.mem_of_getElem? (i := 18) rfl))) Via.refl e28 fc19 (g := (mkF m 42 #[.val (.ref a0)] [(.ref a0), (.ref a0)])) rfl rfl (hb hby d4_42)
  refine OEnd.go (g' := (mkF m 45 #[.val (.ref a0)] [(.ref r1), (.ref a0)])) st30 ?_
  refine OEnd.go (T' := T30) (g' := (mkF m 47 #[.val (.ref a0)] [(.ref a0), (.int (2 : Int32)), (.ref r1), (.ref a0)])) (fun t k => ?_) ?_
  · show Steps p.tables e below (T30.setTop (mkF m 45 #[.val (.ref a0)] [(.ref r1), (.ref a0)])) t
    refine XS.iconst X30.here hx rfl (hb hby d4_45) ?_
    show Steps p.tables e below (T30.setTop (mkF m 46 #[.val (.ref a0)] [(.int (2 : Int32)), (.ref r1), (.ref a0)])) t
    refine XS.aloadN X30.here hx rfl (hb hby d4_46) rfl rfl ?_
    show Steps p.tables e below (T30.setTop (mkF m 47 #[.val (.ref a0)] [(.ref a0), (.int (2 : Int32)), (.ref r1), (.ref a0)])) t
    exact k
  obtain ⟨T31, X31, e31, st31⟩ := getF X30 hx hZ hown (host := "") (Or.inl (hw _ (List.mem_of_getElem? (i := 27) rfl))) Via.refl e30 fc21 (g := (mkF m 47 #[.val (.ref a0)] [(.ref a0), (.int (2 : Int32)), (.ref r1), (.ref a0)])) rfl rfl (hb hby d4_47)
  refine OEnd.go (g' := (mkF m 50 #[.val (.ref a0)] [(.int (1 : Int32)), (.int (2 : Int32)), (.ref r1), (.ref a0)])) st31 ?_
  refine OEnd.go (T' := T31) (g' := (mkF m 51 #[.val (.ref a0)] [(.int (2 : Int32)), (.ref r1), (.ref a0)])) (fun t k => ?_) ?_
  · show Steps p.tables e below (T31.setTop (mkF m 50 #[.val (.ref a0)] [(.int (1 : Int32)), (.int (2 : Int32)), (.ref r1), (.ref a0)])) t
    refine XS.imul X31.here hx rfl (hb hby d4_50) rfl ?_
    show Steps p.tables e below (T31.setTop (mkF m 51 #[.val (.ref a0)] [(.int (2 : Int32)), (.ref r1), (.ref a0)])) t
    exact k
  obtain ⟨_, _, ⟨T32, L32, k32, n32⟩, -, X32, ⟨Lc32, hQ32, l32, y32, z32⟩, st32⟩ := Jvm.LawKit.callS X31 hx (y := (⟨"java/util/Arrays", "copyOf", "([ZI)[Z"⟩ : MethodName)) hown (mvT hZ (hw _ (List.mem_of_getElem? (i := 41) rfl))) (mvT hZ (hw _ (List.mem_of_getElem? (i := 42) rfl))) (mvT hZ (hw _ (List.mem_of_getElem? (i := 36) rfl))) (mvT hZ (hw _ (List.mem_of_getElem? (i := 43) rfl))) (by decide) (backOf (W := 1) (rm8_1 l Z aZ hw [] r1 x0 h16 n0 Z16 fc25) hZ (hw _ (List.mem_of_getElem? (i := 43) rfl)) (hw _ (List.mem_of_getElem? (i := 36) rfl)) (by decide) (by decide)) (g := (mkF m 51 #[.val (.ref a0)] [(.int (2 : Int32)), (.ref r1), (.ref a0)])) rfl (by rw [hml]; rfl) (argsL := [(.ref r1), (.int (2 : Int32))]) (rest := [(.ref a0)]) (lenOf pd___ZI__Z rfl) rfl (by show 2 * 0 + _ ≤ _; exact Nat.le_of_eq rfl) (hb hby d4_51) (fun _ _ => ⟨rfl, e31, (by decide : 0 + 1 ≤ _), (by decide : 0 + 2 ≤ _)⟩)
  dsimp only [Pt.U, Pt.locs, Pt.cells, Pt.slots] at X32 l32 y32 z32 st32 hQ32
  subst l32 y32 z32
  obtain ⟨r4_51, rfl, gle_r4_51, sz_r4_51', N32q, u32_0, u32_1⟩ := hQ32
  have ne_a0_r4_51 : a0 ≠ r4_51 := Nat.ne_of_lt (Nat.lt_of_lt_of_le fc17.lt sz_r4_51')
  have ne_w1_r4_51 : w1 ≠ r4_51 := Nat.ne_of_lt (Nat.lt_of_lt_of_le fc24.lt sz_r4_51')
  have ne_r1_r4_51 : r1 ≠ r4_51 := Nat.ne_of_lt (Nat.lt_of_lt_of_le fc25.lt sz_r4_51')
  have sz_r4_51 : h0.size ≤ r4_51 := Nat.le_trans K16.1 sz_r4_51'
  have N32 := Fr.app N16 N32q
  have Z32 : n0 ≤ T32.heap.size := Nat.le_trans Z16 u32_0.1
  have K32 : Keep h0 T32.heap [a0] := K16.trans u32_0 all0
  have fc33 : Fld Z T32.heap a0 "com/example/wedgetree/wedgetree/core/OpenedNodes" "waitingDepths" "[I" (.ref w1) := (fc17.keep u32_0 nin0)
  have fc34 : Fld Z T32.heap a0 "com/example/wedgetree/wedgetree/core/OpenedNodes" "waiting" "I" (.int (0 : Int32)) := (fc18.keep u32_0 nin0)
  have fc35 : Fld Z T32.heap a0 "com/example/wedgetree/wedgetree/core/OpenedNodes" "holdsAnswer" "[Z" (.ref r1) := (fc19.keep u32_0 nin0)
  have fc36 : Fld Z T32.heap a0 "com/example/wedgetree/wedgetree/core/OpenedNodes" "tallying" "Z" (.int (1 : Int32)) := (fc20.keep u32_0 nin0)
  have fc37 : Fld Z T32.heap a0 "com/example/wedgetree/wedgetree/core/OpenedNodes" "depth" "I" (.int (1 : Int32)) := (fc21.keep u32_0 nin0)
  have fc38 : Fld Z T32.heap a0 "com/example/wedgetree/wedgetree/core/OpenedNodes" "opened" "J" (.long oo) := (fc22.keep u32_0 nin0)
  have fc39 : Fld Z T32.heap a0 "com/example/wedgetree/wedgetree/core/OpenedNodes" "holding" "J" (.long hv) := (fc23.keep u32_0 nin0)
  have fc40 : OArr Z T32.heap w1 .int (1 : Int32) [(.int (1 : Int32))] (.int (0 : Int32)) := (fc24.keep u32_0 nin0)
  have fc41 : OArr Z T32.heap r1 .boolean (1 : Int32) [(.int x0)] (.int (0 : Int32)) := (fc25.keep u32_0 nin0)
  have fc42 : Exa Z T32.heap a0 "com/example/wedgetree/wedgetree/core/OpenedNodes" := (fc26.keep u32_0)
  refine OEnd.go (g' := (mkF m 54 #[.val (.ref a0)] [(.ref r4_51), (.ref a0)])) st32 ?_
  obtain ⟨T43, h43, X43, e43, W43, st43⟩ := putF X32 hx hZ hown (host := "") (Or.inl (hw _ (List.mem_of_getElem? (i := 18) rfl))) Via.refl rfl fc35 fc42 (Or.inl (hw _ (List.mem_of_getElem? (i := 19) rfl))) (hw _ (List.mem_of_getElem? (i := 1) rfl)) (ty := (.array .boolean)) (by decide) rfl rfl (g := (mkF m 54 #[.val (.ref a0)] [(.ref r4_51), (.ref a0)])) rfl rfl (hb hby d4_54)
  have N43 := Fr.snoc X43 N32 P10
  have Z43 : n0 ≤ h43.size := Nat.le_trans Z32 (Keep.of_wr W43).1
  have K43 : Keep h0 h43 [a0] := K32.wr W43 (Or.inl (List.mem_of_getElem? (i := 0) rfl))
  have fc44 : Fld Z h43 a0 "com/example/wedgetree/wedgetree/core/OpenedNodes" "waitingDepths" "[I" (.ref w1) := (fc33.other W43 (Or.inr (slot_ne (Or.inl (hw _ (List.mem_of_getElem? (i := 14) rfl))) (Or.inl (hw _ (List.mem_of_getElem? (i := 19) rfl))) (by decide) (t := (.array .int)) (t' := (.array .boolean)) (by decide) (by decide))))
  have fc45 : Fld Z h43 a0 "com/example/wedgetree/wedgetree/core/OpenedNodes" "waiting" "I" (.int (0 : Int32)) := (fc34.other W43 (Or.inr (slot_ne (Or.inl (hw _ (List.mem_of_getElem? (i := 16) rfl))) (Or.inl (hw _ (List.mem_of_getElem? (i := 19) rfl))) (by decide) (t := .int) (t' := (.array .boolean)) (by decide) (by decide))))
  have fc46 : Fld Z h43 a0 "com/example/wedgetree/wedgetree/core/OpenedNodes" "holdsAnswer" "[Z" (.ref r4_51) := (fc35.same W43)
  have fc47 : Fld Z h43 a0 "com/example/wedgetree/wedgetree/core/OpenedNodes" "tallying" "Z" (.int (1 : Int32)) := (fc36.other W43 (Or.inr (slot_ne (Or.inr (hw _ (List.mem_of_getElem? (i := 21) rfl))) (Or.inl (hw _ (List.mem_of_getElem? (i := 19) rfl))) (by decide) (t := .boolean) (t' := (.array .boolean)) (by decide) (by decide))))
  have fc48 : Fld Z h43 a0 "com/example/wedgetree/wedgetree/core/OpenedNodes" "depth" "I" (.int (1 : Int32)) := (fc37.other W43 (Or.inr (slot_ne (Or.inl (hw _ (List.mem_of_getElem? (i := 28) rfl))) (Or.inl (hw _ (List.mem_of_getElem? (i := 19) rfl))) (by decide) (t := .int) (t' := (.array .boolean)) (by decide) (by decide))))
  have fc49 : Fld Z h43 a0 "com/example/wedgetree/wedgetree/core/OpenedNodes" "opened" "J" (.long oo) := (fc38.other W43 (Or.inr (slot_ne (Or.inl (hw _ (List.mem_of_getElem? (i := 53) rfl))) (Or.inl (hw _ (List.mem_of_getElem? (i := 19) rfl))) (by decide) (t := .long) (t' := (.array .boolean)) (by decide) (by decide))))
  have fc50 : Fld Z h43 a0 "com/example/wedgetree/wedgetree/core/OpenedNodes" "holding" "J" (.long hv) := (fc39.other W43 (Or.inr (slot_ne (Or.inl (hw _ (List.mem_of_getElem? (i := 74) rfl))) (Or.inl (hw _ (List.mem_of_getElem? (i := 19) rfl))) (by decide) (t := .long) (t' := (.array .boolean)) (by decide) (by decide))))
  have fc51 : OArr Z h43 w1 .int (1 : Int32) [(.int (1 : Int32))] (.int (0 : Int32)) := (fc40.other W43 (Ne.symm P12))
  have fc52 : OArr Z h43 r1 .boolean (1 : Int32) [(.int x0)] (.int (0 : Int32)) := (fc41.other W43 (Ne.symm P13))
  have fc53 : Exa Z h43 a0 "com/example/wedgetree/wedgetree/core/OpenedNodes" := (fc42.wr W43)
  have fc54 : OArr Z h43 r4_51 .boolean (2 : Int32) [(.int x0), (.int (0 : Int32))] (.int (0 : Int32)) := (u32_1.other W43 (Ne.symm ne_a0_r4_51))
  refine OEnd.go (g' := (mkF m 57 #[.val (.ref a0)] [])) st43 ?_
  refine OEnd.go (T' := T43) (g' := (mkF m 58 #[.val (.ref a0)] [(.ref a0)])) (fun t k => ?_) ?_
  · show Steps p.tables e below (T43.setTop (mkF m 57 #[.val (.ref a0)] [])) t
    refine XS.aloadN X43.here hx rfl (hb hby d4_57) rfl rfl ?_
    show Steps p.tables e below (T43.setTop (mkF m 58 #[.val (.ref a0)] [(.ref a0)])) t
    exact k
  obtain ⟨T55, X55, e55, st55⟩ := getF X43 hx hZ hown (host := "") (Or.inl (hw _ (List.mem_of_getElem? (i := 18) rfl))) Via.refl e43 fc46 (g := (mkF m 58 #[.val (.ref a0)] [(.ref a0)])) rfl rfl (hb hby d4_58)
  refine OEnd.go (g' := (mkF m 61 #[.val (.ref a0)] [(.ref r4_51)])) st55 ?_
  refine OEnd.go (T' := T55) (g' := (mkF m 62 #[.val (.ref a0)] [(.ref a0), (.ref r4_51)])) (fun t k => ?_) ?_
  · show Steps p.tables e below (T55.setTop (mkF m 61 #[.val (.ref a0)] [(.ref r4_51)])) t
    refine XS.aloadN X55.here hx rfl (hb hby d4_61) rfl rfl ?_
    show Steps p.tables e below (T55.setTop (mkF m 62 #[.val (.ref a0)] [(.ref a0), (.ref r4_51)])) t
    exact k
  obtain ⟨T56, X56, e56, st56⟩ := getF X55 hx hZ hown (host := "") (Or.inl (hw _ (List.mem_of_getElem? (i := 27) rfl))) Via.refl e55 fc48 (g := (mkF m 62 #[.val (.ref a0)] [(.ref a0), (.ref r4_51)])) rfl rfl (hb hby d4_62)
  refine OEnd.go (g' := (mkF m 65 #[.val (.ref a0)] [(.int (1 : Int32)), (.ref r4_51)])) st56 ?_
  refine OEnd.go (T' := T56) (g' := (mkF m 66 #[.val (.ref a0)] [(.int (0 : Int32)), (.int (1 : Int32)), (.ref r4_51)])) (fun t k => ?_) ?_
  · show Steps p.tables e below (T56.setTop (mkF m 65 #[.val (.ref a0)] [(.int (1 : Int32)), (.ref r4_51)])) t
    refine XS.iconst X56.here hx rfl (hb hby d4_65) ?_
    show Steps p.tables e below (T56.setTop (mkF m 66 #[.val (.ref a0)] [(.int (0 : Int32)), (.int (1 : Int32)), (.ref r4_51)])) t
    exact k
  obtain ⟨kc57, cl57, Ar57, q57, S57, M57, H57, G57⟩ := id fc54
  have hin57 : ¬ ((1 : Int32) < 0 ∨ cl57.slots.size ≤ ((1 : Int32)).toNatClampNeg) := inb_of S57 ⟨by decide, by decide⟩
  obtain ⟨T57, h57, X57, e57, W57, st57⟩ := stZ X56 hx hZ e56 Ar57 (j := (1 : Int32)) hin57 (g := (mkF m 66 #[.val (.ref a0)] [(.int (0 : Int32)), (.int (1 : Int32)), (.ref r4_51)])) rfl rfl (hb hby d4_66)
  have N57 := Fr.snoc X57 N43 gle_r4_51
  have Z57 : n0 ≤ h57.size := Nat.le_trans Z43 (Keep.of_wr W57).1
  have K57 : Keep h0 h57 [a0] := K43.wr W57 (Or.inr sz_r4_51)
  have V57 : OArr Z h57 r4_51 .boolean (2 : Int32) [(.int x0), (.int (0 : Int32))] (.int (0 : Int32)) := ⟨_, Arv.set Ar57 q57 S57 M57 H57 G57 (fits_nar_bool _) W57 1 rfl (Nat.le_of_ble_eq_true rfl)⟩
  have fc58 : Fld Z h57 a0 "com/example/wedgetree/wedgetree/core/OpenedNodes" "waitingDepths" "[I" (.ref w1) := (fc44.other W57 (Or.inl ne_a0_r4_51))
  have fc59 : Fld Z h57 a0 "com/example/wedgetree/wedgetree/core/OpenedNodes" "waiting" "I" (.int (0 : Int32)) := (fc45.other W57 (Or.inl ne_a0_r4_51))
  have fc60 : Fld Z h57 a0 "com/example/wedgetree/wedgetree/core/OpenedNodes" "holdsAnswer" "[Z" (.ref r4_51) := (fc46.other W57 (Or.inl ne_a0_r4_51))
  have fc61 : Fld Z h57 a0 "com/example/wedgetree/wedgetree/core/OpenedNodes" "tallying" "Z" (.int (1 : Int32)) := (fc47.other W57 (Or.inl ne_a0_r4_51))
  have fc62 : Fld Z h57 a0 "com/example/wedgetree/wedgetree/core/OpenedNodes" "depth" "I" (.int (1 : Int32)) := (fc48.other W57 (Or.inl ne_a0_r4_51))
  have fc63 : Fld Z h57 a0 "com/example/wedgetree/wedgetree/core/OpenedNodes" "opened" "J" (.long oo) := (fc49.other W57 (Or.inl ne_a0_r4_51))
  have fc64 : Fld Z h57 a0 "com/example/wedgetree/wedgetree/core/OpenedNodes" "holding" "J" (.long hv) := (fc50.other W57 (Or.inl ne_a0_r4_51))
  have fc65 : OArr Z h57 w1 .int (1 : Int32) [(.int (1 : Int32))] (.int (0 : Int32)) := (fc51.other W57 ne_w1_r4_51)
  have fc66 : OArr Z h57 r1 .boolean (1 : Int32) [(.int x0)] (.int (0 : Int32)) := (fc52.other W57 ne_r1_r4_51)
  have fc67 : Exa Z h57 a0 "com/example/wedgetree/wedgetree/core/OpenedNodes" := (fc53.wr W57)
  refine OEnd.go (g' := (mkF m 67 #[.val (.ref a0)] [])) st57 ?_
  refine OEnd.go (T' := T57) (g' := (mkF m 68 #[.val (.ref a0)] [(.ref a0)])) (fun t k => ?_) ?_
  · show Steps p.tables e below (T57.setTop (mkF m 67 #[.val (.ref a0)] [])) t
    refine XS.aloadN X57.here hx rfl (hb hby d4_67) rfl rfl ?_
    show Steps p.tables e below (T57.setTop (mkF m 68 #[.val (.ref a0)] [(.ref a0)])) t
    exact k
  obtain ⟨T68, X68, e68, st68⟩ := getF X57 hx hZ hown (host := "") (Or.inl (hw _ (List.mem_of_getElem? (i := 27) rfl))) Via.refl e57 fc62 (g := (mkF m 68 #[.val (.ref a0)] [(.ref a0)])) rfl rfl (hb hby d4_68)
  refine OEnd.go (g' := (mkF m 71 #[.val (.ref a0)] [(.int (1 : Int32))])) st68 ?_
  refine OEnd.go (T' := T68) (g' := (mkF m 76 #[.val (.ref a0)] [(.ref a0), (.ref a0)])) (fun t k => ?_) ?_
  · show Steps p.tables e below (T68.setTop (mkF m 71 #[.val (.ref a0)] [(.int (1 : Int32))])) t
    refine XS.ifNo X68.here hx rfl (hb hby d4_71) rfl ((if0 _ _).trans (tlt ((by decide))).2.2.2) ?_
    show Steps p.tables e below (T68.setTop (mkF m 74 #[.val (.ref a0)] [])) t
    refine XS.aloadN X68.here hx rfl (hb hby d4_74) rfl rfl ?_
    show Steps p.tables e below (T68.setTop (mkF m 75 #[.val (.ref a0)] [(.ref a0)])) t
    refine XS.dup X68.here hx rfl (hb hby d4_75) rfl rfl ?_
    show Steps p.tables e below (T68.setTop (mkF m 76 #[.val (.ref a0)] [(.ref a0), (.ref a0)])) t
    exact k
  obtain ⟨T69, X69, e69, st69⟩ := getF X68 hx hZ hown (host := "") (Or.inl (hw _ (List.mem_of_getElem? (i := 52) rfl))) Via.refl e68 fc63 (g := (mkF m 76 #[.val (.ref a0)] [(.ref a0), (.ref a0)])) rfl rfl (hb hby d4_76)
  refine OEnd.go (g' := (mkF m 79 #[.val (.ref a0)] [(.long oo), (.ref a0)])) st69 ?_
  refine OEnd.go (T' := T69) (g' := (mkF m 81 #[.val (.ref a0)] [(.long (oo + (1 : Int64))), (.ref a0)])) (fun t k => ?_) ?_
  · show Steps p.tables e below (T69.setTop (mkF m 79 #[.val (.ref a0)] [(.long oo), (.ref a0)])) t
    refine XS.lconst X69.here hx rfl (hb hby d4_79) ?_
    show Steps p.tables e below (T69.setTop (mkF m 80 #[.val (.ref a0)] [(.long (1 : Int64)), (.long oo), (.ref a0)])) t
    refine XS.ladd X69.here hx rfl (hb hby d4_80) rfl ?_
    show Steps p.tables e below (T69.setTop (mkF m 81 #[.val (.ref a0)] [(.long (oo + (1 : Int64))), (.ref a0)])) t
    exact k
  obtain ⟨T70, h70, X70, e70, W70, st70⟩ := putF X69 hx hZ hown (host := "") (Or.inl (hw _ (List.mem_of_getElem? (i := 52) rfl))) Via.refl e69 fc63 fc67 (Or.inl (hw _ (List.mem_of_getElem? (i := 53) rfl))) (hw _ (List.mem_of_getElem? (i := 1) rfl)) (ty := .long) (by decide) rfl rfl (g := (mkF m 81 #[.val (.ref a0)] [(.long (oo + (1 : Int64))), (.ref a0)])) rfl rfl (hb hby d4_81)
  have N70 := Fr.snoc X70 N57 P10
  have Z70 : n0 ≤ h70.size := Nat.le_trans Z57 (Keep.of_wr W70).1
  have K70 : Keep h0 h70 [a0] := K57.wr W70 (Or.inl (List.mem_of_getElem? (i := 0) rfl))
  have fc71 : Fld Z h70 a0 "com/example/wedgetree/wedgetree/core/OpenedNodes" "waitingDepths" "[I" (.ref w1) := (fc58.other W70 (Or.inr (slot_ne (Or.inl (hw _ (List.mem_of_getElem? (i := 14) rfl))) (Or.inl (hw _ (List.mem_of_getElem? (i := 53) rfl))) (by decide) (t := (.array .int)) (t' := .long) (by decide) (by decide))))
  have fc72 : Fld Z h70 a0 "com/example/wedgetree/wedgetree/core/OpenedNodes" "waiting" "I" (.int (0 : Int32)) := (fc59.other W70 (Or.inr (slot_ne (Or.inl (hw _ (List.mem_of_getElem? (i := 16) rfl))) (Or.inl (hw _ (List.mem_of_getElem? (i := 53) rfl))) (by decide) (t := .int) (t' := .long) (by decide) (by decide))))
  have fc73 : Fld Z h70 a0 "com/example/wedgetree/wedgetree/core/OpenedNodes" "holdsAnswer" "[Z" (.ref r4_51) := (fc60.other W70 (Or.inr (slot_ne (Or.inl (hw _ (List.mem_of_getElem? (i := 19) rfl))) (Or.inl (hw _ (List.mem_of_getElem? (i := 53) rfl))) (by decide) (t := (.array .boolean)) (t' := .long) (by decide) (by decide))))
  have fc74 : Fld Z h70 a0 "com/example/wedgetree/wedgetree/core/OpenedNodes" "tallying" "Z" (.int (1 : Int32)) := (fc61.other W70 (Or.inr (slot_ne (Or.inr (hw _ (List.mem_of_getElem? (i := 21) rfl))) (Or.inl (hw _ (List.mem_of_getElem? (i := 53) rfl))) (by decide) (t := .boolean) (t' := .long) (by decide) (by decide))))
  have fc75 : Fld Z h70 a0 "com/example/wedgetree/wedgetree/core/OpenedNodes" "depth" "I" (.int (1 : Int32)) := (fc62.other W70 (Or.inr (slot_ne (Or.inl (hw _ (List.mem_of_getElem? (i := 28) rfl))) (Or.inl (hw _ (List.mem_of_getElem? (i := 53) rfl))) (by decide) (t := .int) (t' := .long) (by decide) (by decide))))
  have fc76 : Fld Z h70 a0 "com/example/wedgetree/wedgetree/core/OpenedNodes" "opened" "J" (.long (oo + (1 : Int64))) := (fc63.same W70)
  have fc77 : Fld Z h70 a0 "com/example/wedgetree/wedgetree/core/OpenedNodes" "holding" "J" (.long hv) := (fc64.other W70 (Or.inr (slot_ne (Or.inl (hw _ (List.mem_of_getElem? (i := 74) rfl))) (Or.inl (hw _ (List.mem_of_getElem? (i := 53) rfl))) (by decide) (t := .long) (t' := .long) (by decide) (by decide))))
  have fc78 : OArr Z h70 w1 .int (1 : Int32) [(.int (1 : Int32))] (.int (0 : Int32)) := (fc65.other W70 (Ne.symm P12))
  have fc79 : OArr Z h70 r1 .boolean (1 : Int32) [(.int x0)] (.int (0 : Int32)) := (fc66.other W70 (Ne.symm P13))
  have fc80 : Exa Z h70 a0 "com/example/wedgetree/wedgetree/core/OpenedNodes" := (fc67.wr W70)
  have fc81 : OArr Z h70 r4_51 .boolean (2 : Int32) [(.int x0), (.int (0 : Int32))] (.int (0 : Int32)) := (V57.other W70 (Ne.symm ne_a0_r4_51))
  refine OEnd.go (g' := (mkF m 84 #[.val (.ref a0)] [])) st70 ?_
  exact OEnd.void X70 hx Bd.returns hlk (hb hby d4_84) ⟨r4_51, rfl, N70, gle_r4_51, sz_r4_51, (own_at e70 (P := fun h => Keep h0 h [a0]) K70), (own_at e70 (P := fun h => Exa Z h a0 "com/example/wedgetree/wedgetree/core/OpenedNodes") fc80), (own_at e70 (P := fun h => Fld Z h a0 "com/example/wedgetree/wedgetree/core/OpenedNodes" "waitingDepths" "[I" (.ref w1)) fc71), (own_at e70 (P := fun h => Fld Z h a0 "com/example/wedgetree/wedgetree/core/OpenedNodes" "waiting" "I" (.int (0 : Int32))) fc72), (own_at e70 (P := fun h => Fld Z h a0 "com/example/wedgetree/wedgetree/core/OpenedNodes" "holdsAnswer" "[Z" (.ref r4_51)) fc73), (own_at e70 (P := fun h => Fld Z h a0 "com/example/wedgetree/wedgetree/core/OpenedNodes" "tallying" "Z" (.int (1 : Int32))) fc74), (own_at e70 (P := fun h => Fld Z h a0 "com/example/wedgetree/wedgetree/core/OpenedNodes" "depth" "I" (.int (1 : Int32))) fc75), (own_at e70 (P := fun h => Fld Z h a0 "com/example/wedgetree/wedgetree/core/OpenedNodes" "opened" "J" (.long (oo + (1 : Int64)))) fc76), (own_at e70 (P := fun h => Fld Z h a0 "com/example/wedgetree/wedgetree/core/OpenedNodes" "holding" "J" (.long hv)) fc77), (own_at e70 (P := fun h => OArr Z h r4_51 .boolean (2 : Int32) [(.int x0), (.int (0 : Int32))] (.int (0 : Int32))) fc81)⟩ (by decide) (by decide)
theorem ef_4_2 (m : MethodId) (x0 : Addr) : entryFrame m #[(.ref x0)] 1 = mkF m 0 #[.val (.ref x0)] [] := by first | (simp [entryFrame, mkF, argsToLocals, Value.category]; done) | rfl
def Q4_2 (Z : State) (a0 : Addr) (w1 : Addr) (r1 : Addr) (x0 : Int32) (x1 : Int32) (dd : Int32) (oo : Int64) (hv : Int64) (h0 : Heap) (n0 : Nat) (v : Option Value) (h : Heap) (L : List Loc) : Prop := ∃ r2 : Addr, v = none ∧ Fr n0 L ∧ n0 ≤ r2 ∧ h0.size ≤ r2 ∧ Keep h0 h [a0] ∧ Exa Z h a0 "com/example/wedgetree/wedgetree/core/OpenedNodes" ∧ Fld Z h a0 "com/example/wedgetree/wedgetree/core/OpenedNodes" "waitingDepths" "[I" (.ref w1) ∧ Fld Z h a0 "com/example/wedgetree/wedgetree/core/OpenedNodes" "waiting" "I" (.int (0 : Int32)) ∧ Fld Z h a0 "com/example/wedgetree/wedgetree/core/OpenedNodes" "holdsAnswer" "[Z" (.ref r2) ∧ Fld Z h a0 "com/example/wedgetree/wedgetree/core/OpenedNodes" "tallying" "Z" (.int (1 : Int32)) ∧ Fld Z h a0 "com/example/wedgetree/wedgetree/core/OpenedNodes" "depth" "I" (.int (2 : Int32)) ∧ Fld Z h a0 "com/example/wedgetree/wedgetree/core/OpenedNodes" "opened" "J" (.long (oo + (1 : Int64))) ∧ Fld Z h a0 "com/example/wedgetree/wedgetree/core/OpenedNodes" "holding" "J" (.long hv) ∧ OArr Z h r2 .boolean (4 : Int32) [(.int x0), (.int x1), (.int (0 : Int32)), (.int (0 : Int32))] (.int (0 : Int32))
set_option maxRecDepth 65536 in
set_option maxHeartbeats 40000000 in
theorem rm4_2 (l : Launch) (Z : State) (aZ : Array Value) (hw : ∀ d ∈ tables_1, d.before aZ Z = true) (ws : List Jvm.Cond) (a0 : Addr) (w1 : Addr) (r1 : Addr) (x0 : Int32) (x1 : Int32) (dd : Int32) (oo : Int64) (hv : Int64) (h0 : Heap) (n0 : Nat) (Z0 : n0 ≤ h0.size) (P0 : Fld Z h0 a0 "com/example/wedgetree/wedgetree/core/OpenedNodes" "waitingDepths" "[I" (.ref w1)) (P1 : Fld Z h0 a0 "com/example/wedgetree/wedgetree/core/OpenedNodes" "waiting" "I" (.int (1 : Int32))) (P2 : Fld Z h0 a0 "com/example/wedgetree/wedgetree/core/OpenedNodes" "holdsAnswer" "[Z" (.ref r1)) (P3 : Fld Z h0 a0 "com/example/wedgetree/wedgetree/core/OpenedNodes" "tallying" "Z" (.int (1 : Int32))) (P4 : Fld Z h0 a0 "com/example/wedgetree/wedgetree/core/OpenedNodes" "depth" "I" (.int dd)) (P5 : Fld Z h0 a0 "com/example/wedgetree/wedgetree/core/OpenedNodes" "opened" "J" (.long oo)) (P6 : Fld Z h0 a0 "com/example/wedgetree/wedgetree/core/OpenedNodes" "holding" "J" (.long hv)) (P7 : OArr Z h0 w1 .int (1 : Int32) [(.int (2 : Int32))] (.int (0 : Int32))) (P8 : OArr Z h0 r1 .boolean (2 : Int32) [(.int x0), (.int x1)] (.int (0 : Int32))) (P9 : Exa Z h0 a0 "com/example/wedgetree/wedgetree/core/OpenedNodes") (P10 : n0 ≤ a0) (P11 : n0 ≤ r1) (P12 : a0 ≠ w1) (P13 : a0 ≠ r1) (P14 : w1 ≠ r1) :
    MetFree l (⟨"com/example/wedgetree/wedgetree/core/OpenedNodes", "open", "()V"⟩ : MethodName) (head1 (Jvm.Cond.code (⟨"com/example/wedgetree/wedgetree/core/OpenedNodes", "open", "()V"⟩ : MethodName) prog_27_method_3_code 1 none :: ws) ({ frames := 2, cells := 1, slots := 4, locals := 55 } : Room)) (fun a U => a = #[(.ref a0)] ∧ Z.Warmed39 U.vm ∧ U.heap = h0) (fun _ _ _ _ _ => True) (fun _ U o U' => ∃ v L, o = .returned v ∧ Q4_2 Z a0 w1 r1 x0 x1 dd oo hv h0 n0 v U'.heap L ∧ FrameEnd U o U' L ({ frames := 2, cells := 1, slots := 4, locals := 55 } : Room).cells ({ frames := 2, cells := 1, slots := 4, locals := 55 } : Room).slots) := by
  refine MetFree.of_bodySF (plainFor_of_name pn_com_example_wedgetree_wedgetree_core_OpenedNodes) hisR ?_
  intro p e s m args below meth c s₁ Bd hml0 hP hK
  obtain ⟨rfl, hZ, hh⟩ := hP
  have hx := Bd.exec
  have hby := Bd.bytes
  have hlk : meth.locks = false := BodyLoose.notSynchronized Bd
  have hml : c.maxLocals = 1 := hml0
  have hown : s.vm.findClass "com/example/wedgetree/wedgetree/core/OpenedNodes" = some m.cls := findClass_of_methodNamed Bd.named
  have hnm := (name_of_methodNamed Bd.named Bd.method).1
  have X0 : Stand p l e ({ frames := 2, cells := 1, slots := 4, locals := 55 } : Room) s m #[(.ref a0)] below meth c s₁ [] 0 0 := Stand.of_body Bd
  have e0 : s₁.heap = h0 := by rw [← hh, Bd.state]; rfl
  have N0 := Fr.nil n0
  have K0 : Keep h0 h0 [a0] := Keep.refl _ _
  show OEnd p e below s s₁ (entryFrame m #[(.ref a0)] 1) (Q4_2 Z a0 w1 r1 x0 x1 dd oo hv h0 n0) ({ frames := 2, cells := 1, slots := 4, locals := 55 } : Room).cells ({ frames := 2, cells := 1, slots := 4, locals := 55 } : Room).slots
  refine OEnd.go (g' := (mkF m 0 #[.val (.ref a0)] [])) (fun _ k => castTop (ef_4_2 m a0) k) ?_
  refine OEnd.go (T' := s₁) (g' := (mkF m 1 #[.val (.ref a0)] [(.ref a0)])) (fun t k => ?_) ?_
  · show Steps p.tables e below (s₁.setTop (mkF m 0 #[.val (.ref a0)] [])) t
    refine XS.aloadN X0.here hx rfl (hb hby d4_0) rfl rfl ?_
    show Steps p.tables e below (s₁.setTop (mkF m 1 #[.val (.ref a0)] [(.ref a0)])) t
    exact k
  obtain ⟨T1, X1, e1, st1⟩ := getF X0 hx hZ hown (host := "") (Or.inl (hw _ (List.mem_of_getElem? (i := 20) rfl))) Via.refl e0 P3 (g := (mkF m 1 #[.val (.ref a0)] [(.ref a0)])) rfl rfl (hb hby d4_1)
  refine OEnd.go (g' := (mkF m 4 #[.val (.ref a0)] [(.int (1 : Int32))])) st1 ?_
  refine OEnd.go (T' := T1) (g' := (mkF m 10 #[.val (.ref a0)] [(.ref a0), (.ref a0)])) (fun t k => ?_) ?_
  · show Steps p.tables e below (T1.setTop (mkF m 4 #[.val (.ref a0)] [(.int (1 : Int32))])) t
    refine XS.ifYes X1.here hx rfl (pc0 := 4) (pc' := 8) rfl (hb hby d4_4) rfl ((if0 _ _).trans (feq ((by decide))).2) (by decide) (by decide) ?_
    show Steps p.tables e below (T1.setTop (mkF m 8 #[.val (.ref a0)] [])) t
    refine XS.aloadN X1.here hx rfl (hb hby d4_8) rfl rfl ?_
    show Steps p.tables e below (T1.setTop (mkF m 9 #[.val (.ref a0)] [(.ref a0)])) t
    refine XS.aloadN X1.here hx rfl (hb hby d4_9) rfl rfl ?_
    show Steps p.tables e below (T1.setTop (mkF m 10 #[.val (.ref a0)] [(.ref a0), (.ref a0)])) t
    exact k
  obtain ⟨T2, X2, e2, st2⟩ := getF X1 hx hZ hown (host := "") (Or.inl (hw _ (List.mem_of_getElem? (i := 13) rfl))) Via.refl e1 P0 (g := (mkF m 10 #[.val (.ref a0)] [(.ref a0), (.ref a0)])) rfl rfl (hb hby d4_10)
  refine OEnd.go (g' := (mkF m 13 #[.val (.ref a0)] [(.ref w1), (.ref a0)])) st2 ?_
  refine OEnd.go (T' := T2) (g' := (mkF m 15 #[.val (.ref a0)] [(.ref a0), (.ref a0), (.ref w1), (.ref a0)])) (fun t k => ?_) ?_
  · show Steps p.tables e below (T2.setTop (mkF m 13 #[.val (.ref a0)] [(.ref w1), (.ref a0)])) t
    refine XS.aloadN X2.here hx rfl (hb hby d4_13) rfl rfl ?_
    show Steps p.tables e below (T2.setTop (mkF m 14 #[.val (.ref a0)] [(.ref a0), (.ref w1), (.ref a0)])) t
    refine XS.dup X2.here hx rfl (hb hby d4_14) rfl rfl ?_
    show Steps p.tables e below (T2.setTop (mkF m 15 #[.val (.ref a0)] [(.ref a0), (.ref a0), (.ref w1), (.ref a0)])) t
    exact k
  obtain ⟨T3, X3, e3, st3⟩ := getF X2 hx hZ hown (host := "") (Or.inl (hw _ (List.mem_of_getElem? (i := 15) rfl))) Via.refl e2 P1 (g := (mkF m 15 #[.val (.ref a0)] [(.ref a0), (.ref a0), (.ref w1), (.ref a0)])) rfl rfl (hb hby d4_15)
  refine OEnd.go (g' := (mkF m 18 #[.val (.ref a0)] [(.int (1 : Int32)), (.ref a0), (.ref w1), (.ref a0)])) st3 ?_
  refine OEnd.go (T' := T3) (g' := (mkF m 21 #[.val (.ref a0)] [(.int (0 : Int32)), (.ref a0), (.int (0 : Int32)), (.ref w1), (.ref a0)])) (fun t k => ?_) ?_
  · show Steps p.tables e below (T3.setTop (mkF m 18 #[.val (.ref a0)] [(.int (1 : Int32)), (.ref a0), (.ref w1), (.ref a0)])) t
    refine XS.iconst X3.here hx rfl (hb hby d4_18) ?_
    show Steps p.tables e below (T3.setTop (mkF m 19 #[.val (.ref a0)] [(.int (1 : Int32)), (.int (1 : Int32)), (.ref a0), (.ref w1), (.ref a0)])) t
    refine XS.isub X3.here hx rfl (hb hby d4_19) rfl ?_
    show Steps p.tables e below (T3.setTop (mkF m 20 #[.val (.ref a0)] [(.int (0 : Int32)), (.ref a0), (.ref w1), (.ref a0)])) t
    refine XS.dupX1 X3.here hx rfl (hb hby d4_20) rfl rfl rfl ?_
    show Steps p.tables e below (T3.setTop (mkF m 21 #[.val (.ref a0)] [(.int (0 : Int32)), (.ref a0), (.int (0 : Int32)), (.ref w1), (.ref a0)])) t
    exact k
  obtain ⟨T4, h4, X4, e4, W4, st4⟩ := putF X3 hx hZ hown (host := "") (Or.inl (hw _ (List.mem_of_getElem? (i := 15) rfl))) Via.refl e3 P1 P9 (Or.inl (hw _ (List.mem_of_getElem? (i := 16) rfl))) (hw _ (List.mem_of_getElem? (i := 1) rfl)) (ty := .int) (by decide) rfl rfl (g := (mkF m 21 #[.val (.ref a0)] [(.int (0 : Int32)), (.ref a0), (.int (0 : Int32)), (.ref w1), (.ref a0)])) rfl rfl (hb hby d4_21)
  have N4 := Fr.snoc X4 N0 P10
  have Z4 : n0 ≤ h4.size := Nat.le_trans Z0 (Keep.of_wr W4).1
  have K4 : Keep h0 h4 [a0] := K0.wr W4 (Or.inl (List.mem_of_getElem? (i := 0) rfl))
  have fc5 : Fld Z h4 a0 "com/example/wedgetree/wedgetree/core/OpenedNodes" "waitingDepths" "[I" (.ref w1) := (P0.other W4 (Or.inr (slot_ne (Or.inl (hw _ (List.mem_of_getElem? (i := 14) rfl))) (Or.inl (hw _ (List.mem_of_getElem? (i := 16) rfl))) (by decide) (t := (.array .int)) (t' := .int) (by decide) (by decide))))
  have fc6 : Fld Z h4 a0 "com/example/wedgetree/wedgetree/core/OpenedNodes" "waiting" "I" (.int (0 : Int32)) := (P1.same W4)
  have fc7 : Fld Z h4 a0 "com/example/wedgetree/wedgetree/core/OpenedNodes" "holdsAnswer" "[Z" (.ref r1) := (P2.other W4 (Or.inr (slot_ne (Or.inl (hw _ (List.mem_of_getElem? (i := 19) rfl))) (Or.inl (hw _ (List.mem_of_getElem? (i := 16) rfl))) (by decide) (t := (.array .boolean)) (t' := .int) (by decide) (by decide))))
  have fc8 : Fld Z h4 a0 "com/example/wedgetree/wedgetree/core/OpenedNodes" "tallying" "Z" (.int (1 : Int32)) := (P3.other W4 (Or.inr (slot_ne (Or.inr (hw _ (List.mem_of_getElem? (i := 21) rfl))) (Or.inl (hw _ (List.mem_of_getElem? (i := 16) rfl))) (by decide) (t := .boolean) (t' := .int) (by decide) (by decide))))
  have fc9 : Fld Z h4 a0 "com/example/wedgetree/wedgetree/core/OpenedNodes" "depth" "I" (.int dd) := (P4.other W4 (Or.inr (slot_ne (Or.inl (hw _ (List.mem_of_getElem? (i := 28) rfl))) (Or.inl (hw _ (List.mem_of_getElem? (i := 16) rfl))) (by decide) (t := .int) (t' := .int) (by decide) (by decide))))
  have fc10 : Fld Z h4 a0 "com/example/wedgetree/wedgetree/core/OpenedNodes" "opened" "J" (.long oo) := (P5.other W4 (Or.inr (slot_ne (Or.inl (hw _ (List.mem_of_getElem? (i := 53) rfl))) (Or.inl (hw _ (List.mem_of_getElem? (i := 16) rfl))) (by decide) (t := .long) (t' := .int) (by decide) (by decide))))
  have fc11 : Fld Z h4 a0 "com/example/wedgetree/wedgetree/core/OpenedNodes" "holding" "J" (.long hv) := (P6.other W4 (Or.inr (slot_ne (Or.inl (hw _ (List.mem_of_getElem? (i := 74) rfl))) (Or.inl (hw _ (List.mem_of_getElem? (i := 16) rfl))) (by decide) (t := .long) (t' := .int) (by decide) (by decide))))
  have fc12 : OArr Z h4 w1 .int (1 : Int32) [(.int (2 : Int32))] (.int (0 : Int32)) := (P7.other W4 (Ne.symm P12))
  have fc13 : OArr Z h4 r1 .boolean (2 : Int32) [(.int x0), (.int x1)] (.int (0 : Int32)) := (P8.other W4 (Ne.symm P13))
  have fc14 : Exa Z h4 a0 "com/example/wedgetree/wedgetree/core/OpenedNodes" := (P9.wr W4)
  refine OEnd.go (g' := (mkF m 24 #[.val (.ref a0)] [(.int (0 : Int32)), (.ref w1), (.ref a0)])) st4 ?_
  obtain ⟨kc15, cl15, Ar15, q15, S15, M15, H15, G15⟩ := id fc12
  have hin15 : ¬ ((0 : Int32) < 0 ∨ cl15.slots.size ≤ ((0 : Int32)).toNatClampNeg) := inb_of S15 ⟨by decide, by decide⟩
  have hat15 : cl15.slots[((0 : Int32)).toNatClampNeg]? = some (.int (2 : Int32)) := Has.at H15 hin15 rfl
  refine OEnd.go (T' := T4) (g' := (mkF m 25 #[.val (.ref a0)] [(.int (2 : Int32)), (.ref a0)])) (fun t k => ?_) ?_
  · refine X4.iaload hx (j := (0 : Int32)) (v := (.int (2 : Int32))) (by rw [e4]; exact Ar15.1) (State.isArrayOf_alike hZ.alike Ar15.2.1) Ar15.2.2 hin15 hat15 (g := (mkF m 24 #[.val (.ref a0)] [(.int (0 : Int32)), (.ref w1), (.ref a0)])) rfl rfl (hb hby d4_24) _ ?_
    exact k
  obtain ⟨T16, h16, X16, e16, W16, st16⟩ := putF X4 hx hZ hown (host := "") (Or.inl (hw _ (List.mem_of_getElem? (i := 27) rfl))) Via.refl e4 fc9 fc14 (Or.inl (hw _ (List.mem_of_getElem? (i := 28) rfl))) (hw _ (List.mem_of_getElem? (i := 1) rfl)) (ty := .int) (by decide) rfl rfl (g := (mkF m 25 #[.val (.ref a0)] [(.int (2 : Int32)), (.ref a0)])) rfl rfl (hb hby d4_25)
  have N16 := Fr.snoc X16 N4 P10
  have Z16 : n0 ≤ h16.size := Nat.le_trans Z4 (Keep.of_wr W16).1
  have K16 : Keep h0 h16 [a0] := K4.wr W16 (Or.inl (List.mem_of_getElem? (i := 0) rfl))
  have fc17 : Fld Z h16 a0 "com/example/wedgetree/wedgetree/core/OpenedNodes" "waitingDepths" "[I" (.ref w1) := (fc5.other W16 (Or.inr (slot_ne (Or.inl (hw _ (List.mem_of_getElem? (i := 14) rfl))) (Or.inl (hw _ (List.mem_of_getElem? (i := 28) rfl))) (by decide) (t := (.array .int)) (t' := .int) (by decide) (by decide))))
  have fc18 : Fld Z h16 a0 "com/example/wedgetree/wedgetree/core/OpenedNodes" "waiting" "I" (.int (0 : Int32)) := (fc6.other W16 (Or.inr (slot_ne (Or.inl (hw _ (List.mem_of_getElem? (i := 16) rfl))) (Or.inl (hw _ (List.mem_of_getElem? (i := 28) rfl))) (by decide) (t := .int) (t' := .int) (by decide) (by decide))))
  have fc19 : Fld Z h16 a0 "com/example/wedgetree/wedgetree/core/OpenedNodes" "holdsAnswer" "[Z" (.ref r1) := (fc7.other W16 (Or.inr (slot_ne (Or.inl (hw _ (List.mem_of_getElem? (i := 19) rfl))) (Or.inl (hw _ (List.mem_of_getElem? (i := 28) rfl))) (by decide) (t := (.array .boolean)) (t' := .int) (by decide) (by decide))))
  have fc20 : Fld Z h16 a0 "com/example/wedgetree/wedgetree/core/OpenedNodes" "tallying" "Z" (.int (1 : Int32)) := (fc8.other W16 (Or.inr (slot_ne (Or.inr (hw _ (List.mem_of_getElem? (i := 21) rfl))) (Or.inl (hw _ (List.mem_of_getElem? (i := 28) rfl))) (by decide) (t := .boolean) (t' := .int) (by decide) (by decide))))
  have fc21 : Fld Z h16 a0 "com/example/wedgetree/wedgetree/core/OpenedNodes" "depth" "I" (.int (2 : Int32)) := (fc9.same W16)
  have fc22 : Fld Z h16 a0 "com/example/wedgetree/wedgetree/core/OpenedNodes" "opened" "J" (.long oo) := (fc10.other W16 (Or.inr (slot_ne (Or.inl (hw _ (List.mem_of_getElem? (i := 53) rfl))) (Or.inl (hw _ (List.mem_of_getElem? (i := 28) rfl))) (by decide) (t := .long) (t' := .int) (by decide) (by decide))))
  have fc23 : Fld Z h16 a0 "com/example/wedgetree/wedgetree/core/OpenedNodes" "holding" "J" (.long hv) := (fc11.other W16 (Or.inr (slot_ne (Or.inl (hw _ (List.mem_of_getElem? (i := 74) rfl))) (Or.inl (hw _ (List.mem_of_getElem? (i := 28) rfl))) (by decide) (t := .long) (t' := .int) (by decide) (by decide))))
  have fc24 : OArr Z h16 w1 .int (1 : Int32) [(.int (2 : Int32))] (.int (0 : Int32)) := (fc12.other W16 (Ne.symm P12))
  have fc25 : OArr Z h16 r1 .boolean (2 : Int32) [(.int x0), (.int x1)] (.int (0 : Int32)) := (fc13.other W16 (Ne.symm P13))
  have fc26 : Exa Z h16 a0 "com/example/wedgetree/wedgetree/core/OpenedNodes" := (fc14.wr W16)
  refine OEnd.go (g' := (mkF m 28 #[.val (.ref a0)] [])) st16 ?_
  refine OEnd.go (T' := T16) (g' := (mkF m 29 #[.val (.ref a0)] [(.ref a0)])) (fun t k => ?_) ?_
  · show Steps p.tables e below (T16.setTop (mkF m 28 #[.val (.ref a0)] [])) t
    refine XS.aloadN X16.here hx rfl (hb hby d4_28) rfl rfl ?_
    show Steps p.tables e below (T16.setTop (mkF m 29 #[.val (.ref a0)] [(.ref a0)])) t
    exact k
  obtain ⟨T27, X27, e27, st27⟩ := getF X16 hx hZ hown (host := "") (Or.inl (hw _ (List.mem_of_getElem? (i := 27) rfl))) Via.refl e16 fc21 (g := (mkF m 29 #[.val (.ref a0)] [(.ref a0)])) rfl rfl (hb hby d4_29)
  refine OEnd.go (g' := (mkF m 32 #[.val (.ref a0)] [(.int (2 : Int32))])) st27 ?_
  refine OEnd.go (T' := T27) (g' := (mkF m 33 #[.val (.ref a0)] [(.ref a0), (.int (2 : Int32))])) (fun t k => ?_) ?_
  · show Steps p.tables e below (T27.setTop (mkF m 32 #[.val (.ref a0)] [(.int (2 : Int32))])) t
    refine XS.aloadN X27.here hx rfl (hb hby d4_32) rfl rfl ?_
    show Steps p.tables e below (T27.setTop (mkF m 33 #[.val (.ref a0)] [(.ref a0), (.int (2 : Int32))])) t
    exact k
  obtain ⟨T28, X28, e28, st28⟩ := getF X27 hx hZ hown (host := "") (Or.inl (hw _ (List.mem_of_getElem? (i := 18) rfl))) Via.refl e27 fc19 (g := (mkF m 33 #[.val (.ref a0)] [(.ref a0), (.int (2 : Int32))])) rfl rfl (hb hby d4_33)
  refine OEnd.go (g' := (mkF m 36 #[.val (.ref a0)] [(.ref r1), (.int (2 : Int32))])) st28 ?_
  obtain ⟨kc29, cl29, Ar29, q29, S29, M29, H29, G29⟩ := id fc25
  refine OEnd.go (T' := T28) (g' := (mkF m 37 #[.val (.ref a0)] [(.int (2 : Int32)), (.int (2 : Int32))])) (fun t k => ?_) ?_
  · refine X28.arraylength hx (by rw [e28]; exact Ar29.1) (State.isArrayOf_alike hZ.alike Ar29.2.1) (g := (mkF m 36 #[.val (.ref a0)] [(.ref r1), (.int (2 : Int32))])) rfl rfl (hb hby d4_36) _ ?_
    rw [len_of S29 M29]
    exact k
  refine OEnd.go (T' := T28) (g' := (mkF m 42 #[.val (.ref a0)] [(.ref a0), (.ref a0)])) (fun t k => ?_) ?_
  · show Steps p.tables e below (T28.setTop (mkF m 37 #[.val (.ref a0)] [(.int (2 : Int32)), (.int (2 : Int32))])) t
    refine XS.icmpNo X28.here hx rfl (hb hby d4_37) rfl (teq ((by decide))).2 ?_
    show Steps p.tables e below (T28.setTop (mkF m 40 #[.val (.ref a0)] [])) t
    refine XS.aloadN X28.here hx rfl (hb hby d4_40) rfl rfl ?_
    show Steps p.tables e below (T28.setTop (mkF m 41 #[.val (.ref a0)] [(.ref a0)])) t
    refine XS.aloadN X28.here hx rfl (hb hby d4_41) rfl rfl ?_
    show Steps p.tables e below (T28.setTop (mkF m 42 #[.val (.ref a0)] [(.ref a0), (.ref a0)])) t
    exact k
  obtain ⟨T30, X30, e30, st30⟩ := getF X28 hx hZ hown (host := "") (Or.inl (hw _ (List.mem_of_getElem? (i := 18) rfl))) Via.refl e28 fc19 (g := (mkF m 42 #[.val (.ref a0)] [(.ref a0), (.ref a0)])) rfl rfl (hb hby d4_42)
  refine OEnd.go (g' := (mkF m 45 #[.val (.ref a0)] [(.ref r1), (.ref a0)])) st30 ?_
  refine OEnd.go (T' := T30) (g' := (mkF m 47 #[.val (.ref a0)] [(.ref a0), (.int (2 : Int32)), (.ref r1), (.ref a0)])) (fun t k => ?_) ?_
  · show Steps p.tables e below (T30.setTop (mkF m 45 #[.val (.ref a0)] [(.ref r1), (.ref a0)])) t
    refine XS.iconst X30.here hx rfl (hb hby d4_45) ?_
    show Steps p.tables e below (T30.setTop (mkF m 46 #[.val (.ref a0)] [(.int (2 : Int32)), (.ref r1), (.ref a0)])) t
    refine XS.aloadN X30.here hx rfl (hb hby d4_46) rfl rfl ?_
    show Steps p.tables e below (T30.setTop (mkF m 47 #[.val (.ref a0)] [(.ref a0), (.int (2 : Int32)), (.ref r1), (.ref a0)])) t
    exact k
  obtain ⟨T31, X31, e31, st31⟩ := getF X30 hx hZ hown (host := "") (Or.inl (hw _ (List.mem_of_getElem? (i := 27) rfl))) Via.refl e30 fc21 (g := (mkF m 47 #[.val (.ref a0)] [(.ref a0), (.int (2 : Int32)), (.ref r1), (.ref a0)])) rfl rfl (hb hby d4_47)
  refine OEnd.go (g' := (mkF m 50 #[.val (.ref a0)] [(.int (2 : Int32)), (.int (2 : Int32)), (.ref r1), (.ref a0)])) st31 ?_
  refine OEnd.go (T' := T31) (g' := (mkF m 51 #[.val (.ref a0)] [(.int (4 : Int32)), (.ref r1), (.ref a0)])) (fun t k => ?_) ?_
  · show Steps p.tables e below (T31.setTop (mkF m 50 #[.val (.ref a0)] [(.int (2 : Int32)), (.int (2 : Int32)), (.ref r1), (.ref a0)])) t
    refine XS.imul X31.here hx rfl (hb hby d4_50) rfl ?_
    show Steps p.tables e below (T31.setTop (mkF m 51 #[.val (.ref a0)] [(.int (4 : Int32)), (.ref r1), (.ref a0)])) t
    exact k
  obtain ⟨_, _, ⟨T32, L32, k32, n32⟩, -, X32, ⟨Lc32, hQ32, l32, y32, z32⟩, st32⟩ := Jvm.LawKit.callS X31 hx (y := (⟨"java/util/Arrays", "copyOf", "([ZI)[Z"⟩ : MethodName)) hown (mvT hZ (hw _ (List.mem_of_getElem? (i := 41) rfl))) (mvT hZ (hw _ (List.mem_of_getElem? (i := 42) rfl))) (mvT hZ (hw _ (List.mem_of_getElem? (i := 36) rfl))) (mvT hZ (hw _ (List.mem_of_getElem? (i := 43) rfl))) (by decide) (backOf (W := 1) (rm8_2 l Z aZ hw [] r1 x0 x1 h16 n0 Z16 fc25) hZ (hw _ (List.mem_of_getElem? (i := 43) rfl)) (hw _ (List.mem_of_getElem? (i := 36) rfl)) (by decide) (by decide)) (g := (mkF m 51 #[.val (.ref a0)] [(.int (4 : Int32)), (.ref r1), (.ref a0)])) rfl (by rw [hml]; rfl) (argsL := [(.ref r1), (.int (4 : Int32))]) (rest := [(.ref a0)]) (lenOf pd___ZI__Z rfl) rfl (by show 2 * 0 + _ ≤ _; exact Nat.le_of_eq rfl) (hb hby d4_51) (fun _ _ => ⟨rfl, e31, (by decide : 0 + 1 ≤ _), (by decide : 0 + 4 ≤ _)⟩)
  dsimp only [Pt.U, Pt.locs, Pt.cells, Pt.slots] at X32 l32 y32 z32 st32 hQ32
  subst l32 y32 z32
  obtain ⟨r4_51, rfl, gle_r4_51, sz_r4_51', N32q, u32_0, u32_1⟩ := hQ32
  have ne_a0_r4_51 : a0 ≠ r4_51 := Nat.ne_of_lt (Nat.lt_of_lt_of_le fc17.lt sz_r4_51')
  have ne_w1_r4_51 : w1 ≠ r4_51 := Nat.ne_of_lt (Nat.lt_of_lt_of_le fc24.lt sz_r4_51')
  have ne_r1_r4_51 : r1 ≠ r4_51 := Nat.ne_of_lt (Nat.lt_of_lt_of_le fc25.lt sz_r4_51')
  have sz_r4_51 : h0.size ≤ r4_51 := Nat.le_trans K16.1 sz_r4_51'
  have N32 := Fr.app N16 N32q
  have Z32 : n0 ≤ T32.heap.size := Nat.le_trans Z16 u32_0.1
  have K32 : Keep h0 T32.heap [a0] := K16.trans u32_0 all0
  have fc33 : Fld Z T32.heap a0 "com/example/wedgetree/wedgetree/core/OpenedNodes" "waitingDepths" "[I" (.ref w1) := (fc17.keep u32_0 nin0)
  have fc34 : Fld Z T32.heap a0 "com/example/wedgetree/wedgetree/core/OpenedNodes" "waiting" "I" (.int (0 : Int32)) := (fc18.keep u32_0 nin0)
  have fc35 : Fld Z T32.heap a0 "com/example/wedgetree/wedgetree/core/OpenedNodes" "holdsAnswer" "[Z" (.ref r1) := (fc19.keep u32_0 nin0)
  have fc36 : Fld Z T32.heap a0 "com/example/wedgetree/wedgetree/core/OpenedNodes" "tallying" "Z" (.int (1 : Int32)) := (fc20.keep u32_0 nin0)
  have fc37 : Fld Z T32.heap a0 "com/example/wedgetree/wedgetree/core/OpenedNodes" "depth" "I" (.int (2 : Int32)) := (fc21.keep u32_0 nin0)
  have fc38 : Fld Z T32.heap a0 "com/example/wedgetree/wedgetree/core/OpenedNodes" "opened" "J" (.long oo) := (fc22.keep u32_0 nin0)
  have fc39 : Fld Z T32.heap a0 "com/example/wedgetree/wedgetree/core/OpenedNodes" "holding" "J" (.long hv) := (fc23.keep u32_0 nin0)
  have fc40 : OArr Z T32.heap w1 .int (1 : Int32) [(.int (2 : Int32))] (.int (0 : Int32)) := (fc24.keep u32_0 nin0)
  have fc41 : OArr Z T32.heap r1 .boolean (2 : Int32) [(.int x0), (.int x1)] (.int (0 : Int32)) := (fc25.keep u32_0 nin0)
  have fc42 : Exa Z T32.heap a0 "com/example/wedgetree/wedgetree/core/OpenedNodes" := (fc26.keep u32_0)
  refine OEnd.go (g' := (mkF m 54 #[.val (.ref a0)] [(.ref r4_51), (.ref a0)])) st32 ?_
  obtain ⟨T43, h43, X43, e43, W43, st43⟩ := putF X32 hx hZ hown (host := "") (Or.inl (hw _ (List.mem_of_getElem? (i := 18) rfl))) Via.refl rfl fc35 fc42 (Or.inl (hw _ (List.mem_of_getElem? (i := 19) rfl))) (hw _ (List.mem_of_getElem? (i := 1) rfl)) (ty := (.array .boolean)) (by decide) rfl rfl (g := (mkF m 54 #[.val (.ref a0)] [(.ref r4_51), (.ref a0)])) rfl rfl (hb hby d4_54)
  have N43 := Fr.snoc X43 N32 P10
  have Z43 : n0 ≤ h43.size := Nat.le_trans Z32 (Keep.of_wr W43).1
  have K43 : Keep h0 h43 [a0] := K32.wr W43 (Or.inl (List.mem_of_getElem? (i := 0) rfl))
  have fc44 : Fld Z h43 a0 "com/example/wedgetree/wedgetree/core/OpenedNodes" "waitingDepths" "[I" (.ref w1) := (fc33.other W43 (Or.inr (slot_ne (Or.inl (hw _ (List.mem_of_getElem? (i := 14) rfl))) (Or.inl (hw _ (List.mem_of_getElem? (i := 19) rfl))) (by decide) (t := (.array .int)) (t' := (.array .boolean)) (by decide) (by decide))))
  have fc45 : Fld Z h43 a0 "com/example/wedgetree/wedgetree/core/OpenedNodes" "waiting" "I" (.int (0 : Int32)) := (fc34.other W43 (Or.inr (slot_ne (Or.inl (hw _ (List.mem_of_getElem? (i := 16) rfl))) (Or.inl (hw _ (List.mem_of_getElem? (i := 19) rfl))) (by decide) (t := .int) (t' := (.array .boolean)) (by decide) (by decide))))
  have fc46 : Fld Z h43 a0 "com/example/wedgetree/wedgetree/core/OpenedNodes" "holdsAnswer" "[Z" (.ref r4_51) := (fc35.same W43)
  have fc47 : Fld Z h43 a0 "com/example/wedgetree/wedgetree/core/OpenedNodes" "tallying" "Z" (.int (1 : Int32)) := (fc36.other W43 (Or.inr (slot_ne (Or.inr (hw _ (List.mem_of_getElem? (i := 21) rfl))) (Or.inl (hw _ (List.mem_of_getElem? (i := 19) rfl))) (by decide) (t := .boolean) (t' := (.array .boolean)) (by decide) (by decide))))
  have fc48 : Fld Z h43 a0 "com/example/wedgetree/wedgetree/core/OpenedNodes" "depth" "I" (.int (2 : Int32)) := (fc37.other W43 (Or.inr (slot_ne (Or.inl (hw _ (List.mem_of_getElem? (i := 28) rfl))) (Or.inl (hw _ (List.mem_of_getElem? (i := 19) rfl))) (by decide) (t := .int) (t' := (.array .boolean)) (by decide) (by decide))))
  have fc49 : Fld Z h43 a0 "com/example/wedgetree/wedgetree/core/OpenedNodes" "opened" "J" (.long oo) := (fc38.other W43 (Or.inr (slot_ne (Or.inl (hw _ (List.mem_of_getElem? (i := 53) rfl))) (Or.inl (hw _ (List.mem_of_getElem? (i := 19) rfl))) (by decide) (t := .long) (t' := (.array .boolean)) (by decide) (by decide))))
  have fc50 : Fld Z h43 a0 "com/example/wedgetree/wedgetree/core/OpenedNodes" "holding" "J" (.long hv) := (fc39.other W43 (Or.inr (slot_ne (Or.inl (hw _ (List.mem_of_getElem? (i := 74) rfl))) (Or.inl (hw _ (List.mem_of_getElem? (i := 19) rfl))) (by decide) (t := .long) (t' := (.array .boolean)) (by decide) (by decide))))
  have fc51 : OArr Z h43 w1 .int (1 : Int32) [(.int (2 : Int32))] (.int (0 : Int32)) := (fc40.other W43 (Ne.symm P12))
  have fc52 : OArr Z h43 r1 .boolean (2 : Int32) [(.int x0), (.int x1)] (.int (0 : Int32)) := (fc41.other W43 (Ne.symm P13))
  have fc53 : Exa Z h43 a0 "com/example/wedgetree/wedgetree/core/OpenedNodes" := (fc42.wr W43)
  have fc54 : OArr Z h43 r4_51 .boolean (4 : Int32) [(.int x0), (.int x1), (.int (0 : Int32)), (.int (0 : Int32))] (.int (0 : Int32)) := (u32_1.other W43 (Ne.symm ne_a0_r4_51))
  refine OEnd.go (g' := (mkF m 57 #[.val (.ref a0)] [])) st43 ?_
  refine OEnd.go (T' := T43) (g' := (mkF m 58 #[.val (.ref a0)] [(.ref a0)])) (fun t k => ?_) ?_
  · show Steps p.tables e below (T43.setTop (mkF m 57 #[.val (.ref a0)] [])) t
    refine XS.aloadN X43.here hx rfl (hb hby d4_57) rfl rfl ?_
    show Steps p.tables e below (T43.setTop (mkF m 58 #[.val (.ref a0)] [(.ref a0)])) t
    exact k
  obtain ⟨T55, X55, e55, st55⟩ := getF X43 hx hZ hown (host := "") (Or.inl (hw _ (List.mem_of_getElem? (i := 18) rfl))) Via.refl e43 fc46 (g := (mkF m 58 #[.val (.ref a0)] [(.ref a0)])) rfl rfl (hb hby d4_58)
  refine OEnd.go (g' := (mkF m 61 #[.val (.ref a0)] [(.ref r4_51)])) st55 ?_
  refine OEnd.go (T' := T55) (g' := (mkF m 62 #[.val (.ref a0)] [(.ref a0), (.ref r4_51)])) (fun t k => ?_) ?_
  · show Steps p.tables e below (T55.setTop (mkF m 61 #[.val (.ref a0)] [(.ref r4_51)])) t
    refine XS.aloadN X55.here hx rfl (hb hby d4_61) rfl rfl ?_
    show Steps p.tables e below (T55.setTop (mkF m 62 #[.val (.ref a0)] [(.ref a0), (.ref r4_51)])) t
    exact k
  obtain ⟨T56, X56, e56, st56⟩ := getF X55 hx hZ hown (host := "") (Or.inl (hw _ (List.mem_of_getElem? (i := 27) rfl))) Via.refl e55 fc48 (g := (mkF m 62 #[.val (.ref a0)] [(.ref a0), (.ref r4_51)])) rfl rfl (hb hby d4_62)
  refine OEnd.go (g' := (mkF m 65 #[.val (.ref a0)] [(.int (2 : Int32)), (.ref r4_51)])) st56 ?_
  refine OEnd.go (T' := T56) (g' := (mkF m 66 #[.val (.ref a0)] [(.int (0 : Int32)), (.int (2 : Int32)), (.ref r4_51)])) (fun t k => ?_) ?_
  · show Steps p.tables e below (T56.setTop (mkF m 65 #[.val (.ref a0)] [(.int (2 : Int32)), (.ref r4_51)])) t
    refine XS.iconst X56.here hx rfl (hb hby d4_65) ?_
    show Steps p.tables e below (T56.setTop (mkF m 66 #[.val (.ref a0)] [(.int (0 : Int32)), (.int (2 : Int32)), (.ref r4_51)])) t
    exact k
  obtain ⟨kc57, cl57, Ar57, q57, S57, M57, H57, G57⟩ := id fc54
  have hin57 : ¬ ((2 : Int32) < 0 ∨ cl57.slots.size ≤ ((2 : Int32)).toNatClampNeg) := inb_of S57 ⟨by decide, by decide⟩
  obtain ⟨T57, h57, X57, e57, W57, st57⟩ := stZ X56 hx hZ e56 Ar57 (j := (2 : Int32)) hin57 (g := (mkF m 66 #[.val (.ref a0)] [(.int (0 : Int32)), (.int (2 : Int32)), (.ref r4_51)])) rfl rfl (hb hby d4_66)
  have N57 := Fr.snoc X57 N43 gle_r4_51
  have Z57 : n0 ≤ h57.size := Nat.le_trans Z43 (Keep.of_wr W57).1
  have K57 : Keep h0 h57 [a0] := K43.wr W57 (Or.inr sz_r4_51)
  have V57 : OArr Z h57 r4_51 .boolean (4 : Int32) [(.int x0), (.int x1), (.int (0 : Int32)), (.int (0 : Int32))] (.int (0 : Int32)) := ⟨_, Arv.set Ar57 q57 S57 M57 H57 G57 (fits_nar_bool _) W57 2 rfl (Nat.le_of_ble_eq_true rfl)⟩
  have fc58 : Fld Z h57 a0 "com/example/wedgetree/wedgetree/core/OpenedNodes" "waitingDepths" "[I" (.ref w1) := (fc44.other W57 (Or.inl ne_a0_r4_51))
  have fc59 : Fld Z h57 a0 "com/example/wedgetree/wedgetree/core/OpenedNodes" "waiting" "I" (.int (0 : Int32)) := (fc45.other W57 (Or.inl ne_a0_r4_51))
  have fc60 : Fld Z h57 a0 "com/example/wedgetree/wedgetree/core/OpenedNodes" "holdsAnswer" "[Z" (.ref r4_51) := (fc46.other W57 (Or.inl ne_a0_r4_51))
  have fc61 : Fld Z h57 a0 "com/example/wedgetree/wedgetree/core/OpenedNodes" "tallying" "Z" (.int (1 : Int32)) := (fc47.other W57 (Or.inl ne_a0_r4_51))
  have fc62 : Fld Z h57 a0 "com/example/wedgetree/wedgetree/core/OpenedNodes" "depth" "I" (.int (2 : Int32)) := (fc48.other W57 (Or.inl ne_a0_r4_51))
  have fc63 : Fld Z h57 a0 "com/example/wedgetree/wedgetree/core/OpenedNodes" "opened" "J" (.long oo) := (fc49.other W57 (Or.inl ne_a0_r4_51))
  have fc64 : Fld Z h57 a0 "com/example/wedgetree/wedgetree/core/OpenedNodes" "holding" "J" (.long hv) := (fc50.other W57 (Or.inl ne_a0_r4_51))
  have fc65 : OArr Z h57 w1 .int (1 : Int32) [(.int (2 : Int32))] (.int (0 : Int32)) := (fc51.other W57 ne_w1_r4_51)
  have fc66 : OArr Z h57 r1 .boolean (2 : Int32) [(.int x0), (.int x1)] (.int (0 : Int32)) := (fc52.other W57 ne_r1_r4_51)
  have fc67 : Exa Z h57 a0 "com/example/wedgetree/wedgetree/core/OpenedNodes" := (fc53.wr W57)
  refine OEnd.go (g' := (mkF m 67 #[.val (.ref a0)] [])) st57 ?_
  refine OEnd.go (T' := T57) (g' := (mkF m 68 #[.val (.ref a0)] [(.ref a0)])) (fun t k => ?_) ?_
  · show Steps p.tables e below (T57.setTop (mkF m 67 #[.val (.ref a0)] [])) t
    refine XS.aloadN X57.here hx rfl (hb hby d4_67) rfl rfl ?_
    show Steps p.tables e below (T57.setTop (mkF m 68 #[.val (.ref a0)] [(.ref a0)])) t
    exact k
  obtain ⟨T68, X68, e68, st68⟩ := getF X57 hx hZ hown (host := "") (Or.inl (hw _ (List.mem_of_getElem? (i := 27) rfl))) Via.refl e57 fc62 (g := (mkF m 68 #[.val (.ref a0)] [(.ref a0)])) rfl rfl (hb hby d4_68)
  refine OEnd.go (g' := (mkF m 71 #[.val (.ref a0)] [(.int (2 : Int32))])) st68 ?_
  refine OEnd.go (T' := T68) (g' := (mkF m 76 #[.val (.ref a0)] [(.ref a0), (.ref a0)])) (fun t k => ?_) ?_
  · show Steps p.tables e below (T68.setTop (mkF m 71 #[.val (.ref a0)] [(.int (2 : Int32))])) t
    refine XS.ifNo X68.here hx rfl (hb hby d4_71) rfl ((if0 _ _).trans (tlt ((by decide))).2.2.2) ?_
    show Steps p.tables e below (T68.setTop (mkF m 74 #[.val (.ref a0)] [])) t
    refine XS.aloadN X68.here hx rfl (hb hby d4_74) rfl rfl ?_
    show Steps p.tables e below (T68.setTop (mkF m 75 #[.val (.ref a0)] [(.ref a0)])) t
    refine XS.dup X68.here hx rfl (hb hby d4_75) rfl rfl ?_
    show Steps p.tables e below (T68.setTop (mkF m 76 #[.val (.ref a0)] [(.ref a0), (.ref a0)])) t
    exact k
  obtain ⟨T69, X69, e69, st69⟩ := getF X68 hx hZ hown (host := "") (Or.inl (hw _ (List.mem_of_getElem? (i := 52) rfl))) Via.refl e68 fc63 (g := (mkF m 76 #[.val (.ref a0)] [(.ref a0), (.ref a0)])) rfl rfl (hb hby d4_76)
  refine OEnd.go (g' := (mkF m 79 #[.val (.ref a0)] [(.long oo), (.ref a0)])) st69 ?_
  refine OEnd.go (T' := T69) (g' := (mkF m 81 #[.val (.ref a0)] [(.long (oo + (1 : Int64))), (.ref a0)])) (fun t k => ?_) ?_
  · show Steps p.tables e below (T69.setTop (mkF m 79 #[.val (.ref a0)] [(.long oo), (.ref a0)])) t
    refine XS.lconst X69.here hx rfl (hb hby d4_79) ?_
    show Steps p.tables e below (T69.setTop (mkF m 80 #[.val (.ref a0)] [(.long (1 : Int64)), (.long oo), (.ref a0)])) t
    refine XS.ladd X69.here hx rfl (hb hby d4_80) rfl ?_
    show Steps p.tables e below (T69.setTop (mkF m 81 #[.val (.ref a0)] [(.long (oo + (1 : Int64))), (.ref a0)])) t
    exact k
  obtain ⟨T70, h70, X70, e70, W70, st70⟩ := putF X69 hx hZ hown (host := "") (Or.inl (hw _ (List.mem_of_getElem? (i := 52) rfl))) Via.refl e69 fc63 fc67 (Or.inl (hw _ (List.mem_of_getElem? (i := 53) rfl))) (hw _ (List.mem_of_getElem? (i := 1) rfl)) (ty := .long) (by decide) rfl rfl (g := (mkF m 81 #[.val (.ref a0)] [(.long (oo + (1 : Int64))), (.ref a0)])) rfl rfl (hb hby d4_81)
  have N70 := Fr.snoc X70 N57 P10
  have Z70 : n0 ≤ h70.size := Nat.le_trans Z57 (Keep.of_wr W70).1
  have K70 : Keep h0 h70 [a0] := K57.wr W70 (Or.inl (List.mem_of_getElem? (i := 0) rfl))
  have fc71 : Fld Z h70 a0 "com/example/wedgetree/wedgetree/core/OpenedNodes" "waitingDepths" "[I" (.ref w1) := (fc58.other W70 (Or.inr (slot_ne (Or.inl (hw _ (List.mem_of_getElem? (i := 14) rfl))) (Or.inl (hw _ (List.mem_of_getElem? (i := 53) rfl))) (by decide) (t := (.array .int)) (t' := .long) (by decide) (by decide))))
  have fc72 : Fld Z h70 a0 "com/example/wedgetree/wedgetree/core/OpenedNodes" "waiting" "I" (.int (0 : Int32)) := (fc59.other W70 (Or.inr (slot_ne (Or.inl (hw _ (List.mem_of_getElem? (i := 16) rfl))) (Or.inl (hw _ (List.mem_of_getElem? (i := 53) rfl))) (by decide) (t := .int) (t' := .long) (by decide) (by decide))))
  have fc73 : Fld Z h70 a0 "com/example/wedgetree/wedgetree/core/OpenedNodes" "holdsAnswer" "[Z" (.ref r4_51) := (fc60.other W70 (Or.inr (slot_ne (Or.inl (hw _ (List.mem_of_getElem? (i := 19) rfl))) (Or.inl (hw _ (List.mem_of_getElem? (i := 53) rfl))) (by decide) (t := (.array .boolean)) (t' := .long) (by decide) (by decide))))
  have fc74 : Fld Z h70 a0 "com/example/wedgetree/wedgetree/core/OpenedNodes" "tallying" "Z" (.int (1 : Int32)) := (fc61.other W70 (Or.inr (slot_ne (Or.inr (hw _ (List.mem_of_getElem? (i := 21) rfl))) (Or.inl (hw _ (List.mem_of_getElem? (i := 53) rfl))) (by decide) (t := .boolean) (t' := .long) (by decide) (by decide))))
  have fc75 : Fld Z h70 a0 "com/example/wedgetree/wedgetree/core/OpenedNodes" "depth" "I" (.int (2 : Int32)) := (fc62.other W70 (Or.inr (slot_ne (Or.inl (hw _ (List.mem_of_getElem? (i := 28) rfl))) (Or.inl (hw _ (List.mem_of_getElem? (i := 53) rfl))) (by decide) (t := .int) (t' := .long) (by decide) (by decide))))
  have fc76 : Fld Z h70 a0 "com/example/wedgetree/wedgetree/core/OpenedNodes" "opened" "J" (.long (oo + (1 : Int64))) := (fc63.same W70)
  have fc77 : Fld Z h70 a0 "com/example/wedgetree/wedgetree/core/OpenedNodes" "holding" "J" (.long hv) := (fc64.other W70 (Or.inr (slot_ne (Or.inl (hw _ (List.mem_of_getElem? (i := 74) rfl))) (Or.inl (hw _ (List.mem_of_getElem? (i := 53) rfl))) (by decide) (t := .long) (t' := .long) (by decide) (by decide))))
  have fc78 : OArr Z h70 w1 .int (1 : Int32) [(.int (2 : Int32))] (.int (0 : Int32)) := (fc65.other W70 (Ne.symm P12))
  have fc79 : OArr Z h70 r1 .boolean (2 : Int32) [(.int x0), (.int x1)] (.int (0 : Int32)) := (fc66.other W70 (Ne.symm P13))
  have fc80 : Exa Z h70 a0 "com/example/wedgetree/wedgetree/core/OpenedNodes" := (fc67.wr W70)
  have fc81 : OArr Z h70 r4_51 .boolean (4 : Int32) [(.int x0), (.int x1), (.int (0 : Int32)), (.int (0 : Int32))] (.int (0 : Int32)) := (V57.other W70 (Ne.symm ne_a0_r4_51))
  refine OEnd.go (g' := (mkF m 84 #[.val (.ref a0)] [])) st70 ?_
  exact OEnd.void X70 hx Bd.returns hlk (hb hby d4_84) ⟨r4_51, rfl, N70, gle_r4_51, sz_r4_51, (own_at e70 (P := fun h => Keep h0 h [a0]) K70), (own_at e70 (P := fun h => Exa Z h a0 "com/example/wedgetree/wedgetree/core/OpenedNodes") fc80), (own_at e70 (P := fun h => Fld Z h a0 "com/example/wedgetree/wedgetree/core/OpenedNodes" "waitingDepths" "[I" (.ref w1)) fc71), (own_at e70 (P := fun h => Fld Z h a0 "com/example/wedgetree/wedgetree/core/OpenedNodes" "waiting" "I" (.int (0 : Int32))) fc72), (own_at e70 (P := fun h => Fld Z h a0 "com/example/wedgetree/wedgetree/core/OpenedNodes" "holdsAnswer" "[Z" (.ref r4_51)) fc73), (own_at e70 (P := fun h => Fld Z h a0 "com/example/wedgetree/wedgetree/core/OpenedNodes" "tallying" "Z" (.int (1 : Int32))) fc74), (own_at e70 (P := fun h => Fld Z h a0 "com/example/wedgetree/wedgetree/core/OpenedNodes" "depth" "I" (.int (2 : Int32))) fc75), (own_at e70 (P := fun h => Fld Z h a0 "com/example/wedgetree/wedgetree/core/OpenedNodes" "opened" "J" (.long (oo + (1 : Int64)))) fc76), (own_at e70 (P := fun h => Fld Z h a0 "com/example/wedgetree/wedgetree/core/OpenedNodes" "holding" "J" (.long hv)) fc77), (own_at e70 (P := fun h => OArr Z h r4_51 .boolean (4 : Int32) [(.int x0), (.int x1), (.int (0 : Int32)), (.int (0 : Int32))] (.int (0 : Int32))) fc81)⟩ (by decide) (by decide)
theorem ef_4_3 (m : MethodId) (x0 : Addr) : entryFrame m #[(.ref x0)] 1 = mkF m 0 #[.val (.ref x0)] [] := by first | (simp [entryFrame, mkF, argsToLocals, Value.category]; done) | rfl
def Q4_3 (Z : State) (a0 : Addr) (w1 : Addr) (r1 : Addr) (x0 : Int32) (x1 : Int32) (x2 : Int32) (x3 : Int32) (dd : Int32) (oo : Int64) (hv : Int64) (h0 : Heap) (n0 : Nat) (v : Option Value) (h : Heap) (L : List Loc) : Prop := v = none ∧ Fr n0 L ∧ Keep h0 h [a0, r1] ∧ Exa Z h a0 "com/example/wedgetree/wedgetree/core/OpenedNodes" ∧ Fld Z h a0 "com/example/wedgetree/wedgetree/core/OpenedNodes" "waitingDepths" "[I" (.ref w1) ∧ Fld Z h a0 "com/example/wedgetree/wedgetree/core/OpenedNodes" "waiting" "I" (.int (0 : Int32)) ∧ Fld Z h a0 "com/example/wedgetree/wedgetree/core/OpenedNodes" "holdsAnswer" "[Z" (.ref r1) ∧ Fld Z h a0 "com/example/wedgetree/wedgetree/core/OpenedNodes" "tallying" "Z" (.int (1 : Int32)) ∧ Fld Z h a0 "com/example/wedgetree/wedgetree/core/OpenedNodes" "depth" "I" (.int (3 : Int32)) ∧ Fld Z h a0 "com/example/wedgetree/wedgetree/core/OpenedNodes" "opened" "J" (.long (oo + (1 : Int64))) ∧ Fld Z h a0 "com/example/wedgetree/wedgetree/core/OpenedNodes" "holding" "J" (.long hv) ∧ OArr Z h r1 .boolean (4 : Int32) [(.int x0), (.int x1), (.int x2), (.int (0 : Int32))] (.int (0 : Int32))
set_option maxRecDepth 65536 in
set_option maxHeartbeats 40000000 in
theorem rm4_3 (l : Launch) (Z : State) (aZ : Array Value) (hw : ∀ d ∈ tables_1, d.before aZ Z = true) (ws : List Jvm.Cond) (a0 : Addr) (w1 : Addr) (r1 : Addr) (x0 : Int32) (x1 : Int32) (x2 : Int32) (x3 : Int32) (dd : Int32) (oo : Int64) (hv : Int64) (h0 : Heap) (n0 : Nat) (Z0 : n0 ≤ h0.size) (P0 : Fld Z h0 a0 "com/example/wedgetree/wedgetree/core/OpenedNodes" "waitingDepths" "[I" (.ref w1)) (P1 : Fld Z h0 a0 "com/example/wedgetree/wedgetree/core/OpenedNodes" "waiting" "I" (.int (1 : Int32))) (P2 : Fld Z h0 a0 "com/example/wedgetree/wedgetree/core/OpenedNodes" "holdsAnswer" "[Z" (.ref r1)) (P3 : Fld Z h0 a0 "com/example/wedgetree/wedgetree/core/OpenedNodes" "tallying" "Z" (.int (1 : Int32))) (P4 : Fld Z h0 a0 "com/example/wedgetree/wedgetree/core/OpenedNodes" "depth" "I" (.int dd)) (P5 : Fld Z h0 a0 "com/example/wedgetree/wedgetree/core/OpenedNodes" "opened" "J" (.long oo)) (P6 : Fld Z h0 a0 "com/example/wedgetree/wedgetree/core/OpenedNodes" "holding" "J" (.long hv)) (P7 : OArr Z h0 w1 .int (1 : Int32) [(.int (3 : Int32))] (.int (0 : Int32))) (P8 : OArr Z h0 r1 .boolean (4 : Int32) [(.int x0), (.int x1), (.int x2), (.int x3)] (.int (0 : Int32))) (P9 : Exa Z h0 a0 "com/example/wedgetree/wedgetree/core/OpenedNodes") (P10 : n0 ≤ a0) (P11 : n0 ≤ r1) (P12 : a0 ≠ w1) (P13 : a0 ≠ r1) (P14 : w1 ≠ r1) :
    MetFree l (⟨"com/example/wedgetree/wedgetree/core/OpenedNodes", "open", "()V"⟩ : MethodName) (head1 (Jvm.Cond.code (⟨"com/example/wedgetree/wedgetree/core/OpenedNodes", "open", "()V"⟩ : MethodName) prog_27_method_3_code 1 none :: ws) ({ frames := 0, cells := 0, slots := 0, locals := 0 } : Room)) (fun a U => a = #[(.ref a0)] ∧ Z.Warmed39 U.vm ∧ U.heap = h0) (fun _ _ _ _ _ => True) (fun _ U o U' => ∃ v L, o = .returned v ∧ Q4_3 Z a0 w1 r1 x0 x1 x2 x3 dd oo hv h0 n0 v U'.heap L ∧ FrameEnd U o U' L ({ frames := 0, cells := 0, slots := 0, locals := 0 } : Room).cells ({ frames := 0, cells := 0, slots := 0, locals := 0 } : Room).slots) := by
  refine MetFree.of_bodySF (plainFor_of_name pn_com_example_wedgetree_wedgetree_core_OpenedNodes) hisR ?_
  intro p e s m args below meth c s₁ Bd hml0 hP hK
  obtain ⟨rfl, hZ, hh⟩ := hP
  have hx := Bd.exec
  have hby := Bd.bytes
  have hlk : meth.locks = false := BodyLoose.notSynchronized Bd
  have hml : c.maxLocals = 1 := hml0
  have hown : s.vm.findClass "com/example/wedgetree/wedgetree/core/OpenedNodes" = some m.cls := findClass_of_methodNamed Bd.named
  have hnm := (name_of_methodNamed Bd.named Bd.method).1
  have X0 : Stand p l e ({ frames := 0, cells := 0, slots := 0, locals := 0 } : Room) s m #[(.ref a0)] below meth c s₁ [] 0 0 := Stand.of_body Bd
  have e0 : s₁.heap = h0 := by rw [← hh, Bd.state]; rfl
  have N0 := Fr.nil n0
  have K0 : Keep h0 h0 [a0, r1] := Keep.refl _ _
  show OEnd p e below s s₁ (entryFrame m #[(.ref a0)] 1) (Q4_3 Z a0 w1 r1 x0 x1 x2 x3 dd oo hv h0 n0) ({ frames := 0, cells := 0, slots := 0, locals := 0 } : Room).cells ({ frames := 0, cells := 0, slots := 0, locals := 0 } : Room).slots
  refine OEnd.go (g' := (mkF m 0 #[.val (.ref a0)] [])) (fun _ k => castTop (ef_4_3 m a0) k) ?_
  refine OEnd.go (T' := s₁) (g' := (mkF m 1 #[.val (.ref a0)] [(.ref a0)])) (fun t k => ?_) ?_
  · show Steps p.tables e below (s₁.setTop (mkF m 0 #[.val (.ref a0)] [])) t
    refine XS.aloadN X0.here hx rfl (hb hby d4_0) rfl rfl ?_
    show Steps p.tables e below (s₁.setTop (mkF m 1 #[.val (.ref a0)] [(.ref a0)])) t
    exact k
  obtain ⟨T1, X1, e1, st1⟩ := getF X0 hx hZ hown (host := "") (Or.inl (hw _ (List.mem_of_getElem? (i := 20) rfl))) Via.refl e0 P3 (g := (mkF m 1 #[.val (.ref a0)] [(.ref a0)])) rfl rfl (hb hby d4_1)
  refine OEnd.go (g' := (mkF m 4 #[.val (.ref a0)] [(.int (1 : Int32))])) st1 ?_
  refine OEnd.go (T' := T1) (g' := (mkF m 10 #[.val (.ref a0)] [(.ref a0), (.ref a0)])) (fun t k => ?_) ?_
  · show Steps p.tables e below (T1.setTop (mkF m 4 #[.val (.ref a0)] [(.int (1 : Int32))])) t
    refine XS.ifYes X1.here hx rfl (pc0 := 4) (pc' := 8) rfl (hb hby d4_4) rfl ((if0 _ _).trans (feq ((by decide))).2) (by decide) (by decide) ?_
    show Steps p.tables e below (T1.setTop (mkF m 8 #[.val (.ref a0)] [])) t
    refine XS.aloadN X1.here hx rfl (hb hby d4_8) rfl rfl ?_
    show Steps p.tables e below (T1.setTop (mkF m 9 #[.val (.ref a0)] [(.ref a0)])) t
    refine XS.aloadN X1.here hx rfl (hb hby d4_9) rfl rfl ?_
    show Steps p.tables e below (T1.setTop (mkF m 10 #[.val (.ref a0)] [(.ref a0), (.ref a0)])) t
    exact k
  obtain ⟨T2, X2, e2, st2⟩ := getF X1 hx hZ hown (host := "") (Or.inl (hw _ (List.mem_of_getElem? (i := 13) rfl))) Via.refl e1 P0 (g := (mkF m 10 #[.val (.ref a0)] [(.ref a0), (.ref a0)])) rfl rfl (hb hby d4_10)
  refine OEnd.go (g' := (mkF m 13 #[.val (.ref a0)] [(.ref w1), (.ref a0)])) st2 ?_
  refine OEnd.go (T' := T2) (g' := (mkF m 15 #[.val (.ref a0)] [(.ref a0), (.ref a0), (.ref w1), (.ref a0)])) (fun t k => ?_) ?_
  · show Steps p.tables e below (T2.setTop (mkF m 13 #[.val (.ref a0)] [(.ref w1), (.ref a0)])) t
    refine XS.aloadN X2.here hx rfl (hb hby d4_13) rfl rfl ?_
    show Steps p.tables e below (T2.setTop (mkF m 14 #[.val (.ref a0)] [(.ref a0), (.ref w1), (.ref a0)])) t
    refine XS.dup X2.here hx rfl (hb hby d4_14) rfl rfl ?_
    show Steps p.tables e below (T2.setTop (mkF m 15 #[.val (.ref a0)] [(.ref a0), (.ref a0), (.ref w1), (.ref a0)])) t
    exact k
  obtain ⟨T3, X3, e3, st3⟩ := getF X2 hx hZ hown (host := "") (Or.inl (hw _ (List.mem_of_getElem? (i := 15) rfl))) Via.refl e2 P1 (g := (mkF m 15 #[.val (.ref a0)] [(.ref a0), (.ref a0), (.ref w1), (.ref a0)])) rfl rfl (hb hby d4_15)
  refine OEnd.go (g' := (mkF m 18 #[.val (.ref a0)] [(.int (1 : Int32)), (.ref a0), (.ref w1), (.ref a0)])) st3 ?_
  refine OEnd.go (T' := T3) (g' := (mkF m 21 #[.val (.ref a0)] [(.int (0 : Int32)), (.ref a0), (.int (0 : Int32)), (.ref w1), (.ref a0)])) (fun t k => ?_) ?_
  · show Steps p.tables e below (T3.setTop (mkF m 18 #[.val (.ref a0)] [(.int (1 : Int32)), (.ref a0), (.ref w1), (.ref a0)])) t
    refine XS.iconst X3.here hx rfl (hb hby d4_18) ?_
    show Steps p.tables e below (T3.setTop (mkF m 19 #[.val (.ref a0)] [(.int (1 : Int32)), (.int (1 : Int32)), (.ref a0), (.ref w1), (.ref a0)])) t
    refine XS.isub X3.here hx rfl (hb hby d4_19) rfl ?_
    show Steps p.tables e below (T3.setTop (mkF m 20 #[.val (.ref a0)] [(.int (0 : Int32)), (.ref a0), (.ref w1), (.ref a0)])) t
    refine XS.dupX1 X3.here hx rfl (hb hby d4_20) rfl rfl rfl ?_
    show Steps p.tables e below (T3.setTop (mkF m 21 #[.val (.ref a0)] [(.int (0 : Int32)), (.ref a0), (.int (0 : Int32)), (.ref w1), (.ref a0)])) t
    exact k
  obtain ⟨T4, h4, X4, e4, W4, st4⟩ := putF X3 hx hZ hown (host := "") (Or.inl (hw _ (List.mem_of_getElem? (i := 15) rfl))) Via.refl e3 P1 P9 (Or.inl (hw _ (List.mem_of_getElem? (i := 16) rfl))) (hw _ (List.mem_of_getElem? (i := 1) rfl)) (ty := .int) (by decide) rfl rfl (g := (mkF m 21 #[.val (.ref a0)] [(.int (0 : Int32)), (.ref a0), (.int (0 : Int32)), (.ref w1), (.ref a0)])) rfl rfl (hb hby d4_21)
  have N4 := Fr.snoc X4 N0 P10
  have Z4 : n0 ≤ h4.size := Nat.le_trans Z0 (Keep.of_wr W4).1
  have K4 : Keep h0 h4 [a0, r1] := K0.wr W4 (Or.inl (List.mem_of_getElem? (i := 0) rfl))
  have fc5 : Fld Z h4 a0 "com/example/wedgetree/wedgetree/core/OpenedNodes" "waitingDepths" "[I" (.ref w1) := (P0.other W4 (Or.inr (slot_ne (Or.inl (hw _ (List.mem_of_getElem? (i := 14) rfl))) (Or.inl (hw _ (List.mem_of_getElem? (i := 16) rfl))) (by decide) (t := (.array .int)) (t' := .int) (by decide) (by decide))))
  have fc6 : Fld Z h4 a0 "com/example/wedgetree/wedgetree/core/OpenedNodes" "waiting" "I" (.int (0 : Int32)) := (P1.same W4)
  have fc7 : Fld Z h4 a0 "com/example/wedgetree/wedgetree/core/OpenedNodes" "holdsAnswer" "[Z" (.ref r1) := (P2.other W4 (Or.inr (slot_ne (Or.inl (hw _ (List.mem_of_getElem? (i := 19) rfl))) (Or.inl (hw _ (List.mem_of_getElem? (i := 16) rfl))) (by decide) (t := (.array .boolean)) (t' := .int) (by decide) (by decide))))
  have fc8 : Fld Z h4 a0 "com/example/wedgetree/wedgetree/core/OpenedNodes" "tallying" "Z" (.int (1 : Int32)) := (P3.other W4 (Or.inr (slot_ne (Or.inr (hw _ (List.mem_of_getElem? (i := 21) rfl))) (Or.inl (hw _ (List.mem_of_getElem? (i := 16) rfl))) (by decide) (t := .boolean) (t' := .int) (by decide) (by decide))))
  have fc9 : Fld Z h4 a0 "com/example/wedgetree/wedgetree/core/OpenedNodes" "depth" "I" (.int dd) := (P4.other W4 (Or.inr (slot_ne (Or.inl (hw _ (List.mem_of_getElem? (i := 28) rfl))) (Or.inl (hw _ (List.mem_of_getElem? (i := 16) rfl))) (by decide) (t := .int) (t' := .int) (by decide) (by decide))))
  have fc10 : Fld Z h4 a0 "com/example/wedgetree/wedgetree/core/OpenedNodes" "opened" "J" (.long oo) := (P5.other W4 (Or.inr (slot_ne (Or.inl (hw _ (List.mem_of_getElem? (i := 53) rfl))) (Or.inl (hw _ (List.mem_of_getElem? (i := 16) rfl))) (by decide) (t := .long) (t' := .int) (by decide) (by decide))))
  have fc11 : Fld Z h4 a0 "com/example/wedgetree/wedgetree/core/OpenedNodes" "holding" "J" (.long hv) := (P6.other W4 (Or.inr (slot_ne (Or.inl (hw _ (List.mem_of_getElem? (i := 74) rfl))) (Or.inl (hw _ (List.mem_of_getElem? (i := 16) rfl))) (by decide) (t := .long) (t' := .int) (by decide) (by decide))))
  have fc12 : OArr Z h4 w1 .int (1 : Int32) [(.int (3 : Int32))] (.int (0 : Int32)) := (P7.other W4 (Ne.symm P12))
  have fc13 : OArr Z h4 r1 .boolean (4 : Int32) [(.int x0), (.int x1), (.int x2), (.int x3)] (.int (0 : Int32)) := (P8.other W4 (Ne.symm P13))
  have fc14 : Exa Z h4 a0 "com/example/wedgetree/wedgetree/core/OpenedNodes" := (P9.wr W4)
  refine OEnd.go (g' := (mkF m 24 #[.val (.ref a0)] [(.int (0 : Int32)), (.ref w1), (.ref a0)])) st4 ?_
  obtain ⟨kc15, cl15, Ar15, q15, S15, M15, H15, G15⟩ := id fc12
  have hin15 : ¬ ((0 : Int32) < 0 ∨ cl15.slots.size ≤ ((0 : Int32)).toNatClampNeg) := inb_of S15 ⟨by decide, by decide⟩
  have hat15 : cl15.slots[((0 : Int32)).toNatClampNeg]? = some (.int (3 : Int32)) := Has.at H15 hin15 rfl
  refine OEnd.go (T' := T4) (g' := (mkF m 25 #[.val (.ref a0)] [(.int (3 : Int32)), (.ref a0)])) (fun t k => ?_) ?_
  · refine X4.iaload hx (j := (0 : Int32)) (v := (.int (3 : Int32))) (by rw [e4]; exact Ar15.1) (State.isArrayOf_alike hZ.alike Ar15.2.1) Ar15.2.2 hin15 hat15 (g := (mkF m 24 #[.val (.ref a0)] [(.int (0 : Int32)), (.ref w1), (.ref a0)])) rfl rfl (hb hby d4_24) _ ?_
    exact k
  obtain ⟨T16, h16, X16, e16, W16, st16⟩ := putF X4 hx hZ hown (host := "") (Or.inl (hw _ (List.mem_of_getElem? (i := 27) rfl))) Via.refl e4 fc9 fc14 (Or.inl (hw _ (List.mem_of_getElem? (i := 28) rfl))) (hw _ (List.mem_of_getElem? (i := 1) rfl)) (ty := .int) (by decide) rfl rfl (g := (mkF m 25 #[.val (.ref a0)] [(.int (3 : Int32)), (.ref a0)])) rfl rfl (hb hby d4_25)
  have N16 := Fr.snoc X16 N4 P10
  have Z16 : n0 ≤ h16.size := Nat.le_trans Z4 (Keep.of_wr W16).1
  have K16 : Keep h0 h16 [a0, r1] := K4.wr W16 (Or.inl (List.mem_of_getElem? (i := 0) rfl))
  have fc17 : Fld Z h16 a0 "com/example/wedgetree/wedgetree/core/OpenedNodes" "waitingDepths" "[I" (.ref w1) := (fc5.other W16 (Or.inr (slot_ne (Or.inl (hw _ (List.mem_of_getElem? (i := 14) rfl))) (Or.inl (hw _ (List.mem_of_getElem? (i := 28) rfl))) (by decide) (t := (.array .int)) (t' := .int) (by decide) (by decide))))
  have fc18 : Fld Z h16 a0 "com/example/wedgetree/wedgetree/core/OpenedNodes" "waiting" "I" (.int (0 : Int32)) := (fc6.other W16 (Or.inr (slot_ne (Or.inl (hw _ (List.mem_of_getElem? (i := 16) rfl))) (Or.inl (hw _ (List.mem_of_getElem? (i := 28) rfl))) (by decide) (t := .int) (t' := .int) (by decide) (by decide))))
  have fc19 : Fld Z h16 a0 "com/example/wedgetree/wedgetree/core/OpenedNodes" "holdsAnswer" "[Z" (.ref r1) := (fc7.other W16 (Or.inr (slot_ne (Or.inl (hw _ (List.mem_of_getElem? (i := 19) rfl))) (Or.inl (hw _ (List.mem_of_getElem? (i := 28) rfl))) (by decide) (t := (.array .boolean)) (t' := .int) (by decide) (by decide))))
  have fc20 : Fld Z h16 a0 "com/example/wedgetree/wedgetree/core/OpenedNodes" "tallying" "Z" (.int (1 : Int32)) := (fc8.other W16 (Or.inr (slot_ne (Or.inr (hw _ (List.mem_of_getElem? (i := 21) rfl))) (Or.inl (hw _ (List.mem_of_getElem? (i := 28) rfl))) (by decide) (t := .boolean) (t' := .int) (by decide) (by decide))))
  have fc21 : Fld Z h16 a0 "com/example/wedgetree/wedgetree/core/OpenedNodes" "depth" "I" (.int (3 : Int32)) := (fc9.same W16)
  have fc22 : Fld Z h16 a0 "com/example/wedgetree/wedgetree/core/OpenedNodes" "opened" "J" (.long oo) := (fc10.other W16 (Or.inr (slot_ne (Or.inl (hw _ (List.mem_of_getElem? (i := 53) rfl))) (Or.inl (hw _ (List.mem_of_getElem? (i := 28) rfl))) (by decide) (t := .long) (t' := .int) (by decide) (by decide))))
  have fc23 : Fld Z h16 a0 "com/example/wedgetree/wedgetree/core/OpenedNodes" "holding" "J" (.long hv) := (fc11.other W16 (Or.inr (slot_ne (Or.inl (hw _ (List.mem_of_getElem? (i := 74) rfl))) (Or.inl (hw _ (List.mem_of_getElem? (i := 28) rfl))) (by decide) (t := .long) (t' := .int) (by decide) (by decide))))
  have fc24 : OArr Z h16 w1 .int (1 : Int32) [(.int (3 : Int32))] (.int (0 : Int32)) := (fc12.other W16 (Ne.symm P12))
  have fc25 : OArr Z h16 r1 .boolean (4 : Int32) [(.int x0), (.int x1), (.int x2), (.int x3)] (.int (0 : Int32)) := (fc13.other W16 (Ne.symm P13))
  have fc26 : Exa Z h16 a0 "com/example/wedgetree/wedgetree/core/OpenedNodes" := (fc14.wr W16)
  refine OEnd.go (g' := (mkF m 28 #[.val (.ref a0)] [])) st16 ?_
  refine OEnd.go (T' := T16) (g' := (mkF m 29 #[.val (.ref a0)] [(.ref a0)])) (fun t k => ?_) ?_
  · show Steps p.tables e below (T16.setTop (mkF m 28 #[.val (.ref a0)] [])) t
    refine XS.aloadN X16.here hx rfl (hb hby d4_28) rfl rfl ?_
    show Steps p.tables e below (T16.setTop (mkF m 29 #[.val (.ref a0)] [(.ref a0)])) t
    exact k
  obtain ⟨T27, X27, e27, st27⟩ := getF X16 hx hZ hown (host := "") (Or.inl (hw _ (List.mem_of_getElem? (i := 27) rfl))) Via.refl e16 fc21 (g := (mkF m 29 #[.val (.ref a0)] [(.ref a0)])) rfl rfl (hb hby d4_29)
  refine OEnd.go (g' := (mkF m 32 #[.val (.ref a0)] [(.int (3 : Int32))])) st27 ?_
  refine OEnd.go (T' := T27) (g' := (mkF m 33 #[.val (.ref a0)] [(.ref a0), (.int (3 : Int32))])) (fun t k => ?_) ?_
  · show Steps p.tables e below (T27.setTop (mkF m 32 #[.val (.ref a0)] [(.int (3 : Int32))])) t
    refine XS.aloadN X27.here hx rfl (hb hby d4_32) rfl rfl ?_
    show Steps p.tables e below (T27.setTop (mkF m 33 #[.val (.ref a0)] [(.ref a0), (.int (3 : Int32))])) t
    exact k
  obtain ⟨T28, X28, e28, st28⟩ := getF X27 hx hZ hown (host := "") (Or.inl (hw _ (List.mem_of_getElem? (i := 18) rfl))) Via.refl e27 fc19 (g := (mkF m 33 #[.val (.ref a0)] [(.ref a0), (.int (3 : Int32))])) rfl rfl (hb hby d4_33)
  refine OEnd.go (g' := (mkF m 36 #[.val (.ref a0)] [(.ref r1), (.int (3 : Int32))])) st28 ?_
  obtain ⟨kc29, cl29, Ar29, q29, S29, M29, H29, G29⟩ := id fc25
  refine OEnd.go (T' := T28) (g' := (mkF m 37 #[.val (.ref a0)] [(.int (4 : Int32)), (.int (3 : Int32))])) (fun t k => ?_) ?_
  · refine X28.arraylength hx (by rw [e28]; exact Ar29.1) (State.isArrayOf_alike hZ.alike Ar29.2.1) (g := (mkF m 36 #[.val (.ref a0)] [(.ref r1), (.int (3 : Int32))])) rfl rfl (hb hby d4_36) _ ?_
    rw [len_of S29 M29]
    exact k
  refine OEnd.go (T' := T28) (g' := (mkF m 58 #[.val (.ref a0)] [(.ref a0)])) (fun t k => ?_) ?_
  · show Steps p.tables e below (T28.setTop (mkF m 37 #[.val (.ref a0)] [(.int (4 : Int32)), (.int (3 : Int32))])) t
    refine XS.icmpYes X28.here hx rfl (pc0 := 37) (pc' := 57) rfl (hb hby d4_37) rfl (feq ((by decide))).2 (by decide) (by decide) ?_
    show Steps p.tables e below (T28.setTop (mkF m 57 #[.val (.ref a0)] [])) t
    refine XS.aloadN X28.here hx rfl (hb hby d4_57) rfl rfl ?_
    show Steps p.tables e below (T28.setTop (mkF m 58 #[.val (.ref a0)] [(.ref a0)])) t
    exact k
  obtain ⟨T30, X30, e30, st30⟩ := getF X28 hx hZ hown (host := "") (Or.inl (hw _ (List.mem_of_getElem? (i := 18) rfl))) Via.refl e28 fc19 (g := (mkF m 58 #[.val (.ref a0)] [(.ref a0)])) rfl rfl (hb hby d4_58)
  refine OEnd.go (g' := (mkF m 61 #[.val (.ref a0)] [(.ref r1)])) st30 ?_
  refine OEnd.go (T' := T30) (g' := (mkF m 62 #[.val (.ref a0)] [(.ref a0), (.ref r1)])) (fun t k => ?_) ?_
  · show Steps p.tables e below (T30.setTop (mkF m 61 #[.val (.ref a0)] [(.ref r1)])) t
    refine XS.aloadN X30.here hx rfl (hb hby d4_61) rfl rfl ?_
    show Steps p.tables e below (T30.setTop (mkF m 62 #[.val (.ref a0)] [(.ref a0), (.ref r1)])) t
    exact k
  obtain ⟨T31, X31, e31, st31⟩ := getF X30 hx hZ hown (host := "") (Or.inl (hw _ (List.mem_of_getElem? (i := 27) rfl))) Via.refl e30 fc21 (g := (mkF m 62 #[.val (.ref a0)] [(.ref a0), (.ref r1)])) rfl rfl (hb hby d4_62)
  refine OEnd.go (g' := (mkF m 65 #[.val (.ref a0)] [(.int (3 : Int32)), (.ref r1)])) st31 ?_
  refine OEnd.go (T' := T31) (g' := (mkF m 66 #[.val (.ref a0)] [(.int (0 : Int32)), (.int (3 : Int32)), (.ref r1)])) (fun t k => ?_) ?_
  · show Steps p.tables e below (T31.setTop (mkF m 65 #[.val (.ref a0)] [(.int (3 : Int32)), (.ref r1)])) t
    refine XS.iconst X31.here hx rfl (hb hby d4_65) ?_
    show Steps p.tables e below (T31.setTop (mkF m 66 #[.val (.ref a0)] [(.int (0 : Int32)), (.int (3 : Int32)), (.ref r1)])) t
    exact k
  obtain ⟨kc32, cl32, Ar32, q32, S32, M32, H32, G32⟩ := id fc25
  have hin32 : ¬ ((3 : Int32) < 0 ∨ cl32.slots.size ≤ ((3 : Int32)).toNatClampNeg) := inb_of S32 ⟨by decide, by decide⟩
  obtain ⟨T32, h32, X32, e32, W32, st32⟩ := stZ X31 hx hZ e31 Ar32 (j := (3 : Int32)) hin32 (g := (mkF m 66 #[.val (.ref a0)] [(.int (0 : Int32)), (.int (3 : Int32)), (.ref r1)])) rfl rfl (hb hby d4_66)
  have N32 := Fr.snoc X32 N16 P11
  have Z32 : n0 ≤ h32.size := Nat.le_trans Z16 (Keep.of_wr W32).1
  have K32 : Keep h0 h32 [a0, r1] := K16.wr W32 (Or.inl (List.mem_of_getElem? (i := 1) rfl))
  have V32 : OArr Z h32 r1 .boolean (4 : Int32) [(.int x0), (.int x1), (.int x2), (.int (0 : Int32))] (.int (0 : Int32)) := ⟨_, Arv.set Ar32 q32 S32 M32 H32 G32 (fits_nar_bool _) W32 3 rfl (Nat.le_of_ble_eq_true rfl)⟩
  have fc33 : Fld Z h32 a0 "com/example/wedgetree/wedgetree/core/OpenedNodes" "waitingDepths" "[I" (.ref w1) := (fc17.other W32 (Or.inl P13))
  have fc34 : Fld Z h32 a0 "com/example/wedgetree/wedgetree/core/OpenedNodes" "waiting" "I" (.int (0 : Int32)) := (fc18.other W32 (Or.inl P13))
  have fc35 : Fld Z h32 a0 "com/example/wedgetree/wedgetree/core/OpenedNodes" "holdsAnswer" "[Z" (.ref r1) := (fc19.other W32 (Or.inl P13))
  have fc36 : Fld Z h32 a0 "com/example/wedgetree/wedgetree/core/OpenedNodes" "tallying" "Z" (.int (1 : Int32)) := (fc20.other W32 (Or.inl P13))
  have fc37 : Fld Z h32 a0 "com/example/wedgetree/wedgetree/core/OpenedNodes" "depth" "I" (.int (3 : Int32)) := (fc21.other W32 (Or.inl P13))
  have fc38 : Fld Z h32 a0 "com/example/wedgetree/wedgetree/core/OpenedNodes" "opened" "J" (.long oo) := (fc22.other W32 (Or.inl P13))
  have fc39 : Fld Z h32 a0 "com/example/wedgetree/wedgetree/core/OpenedNodes" "holding" "J" (.long hv) := (fc23.other W32 (Or.inl P13))
  have fc40 : OArr Z h32 w1 .int (1 : Int32) [(.int (3 : Int32))] (.int (0 : Int32)) := (fc24.other W32 P14)
  have fc41 : Exa Z h32 a0 "com/example/wedgetree/wedgetree/core/OpenedNodes" := (fc26.wr W32)
  refine OEnd.go (g' := (mkF m 67 #[.val (.ref a0)] [])) st32 ?_
  refine OEnd.go (T' := T32) (g' := (mkF m 68 #[.val (.ref a0)] [(.ref a0)])) (fun t k => ?_) ?_
  · show Steps p.tables e below (T32.setTop (mkF m 67 #[.val (.ref a0)] [])) t
    refine XS.aloadN X32.here hx rfl (hb hby d4_67) rfl rfl ?_
    show Steps p.tables e below (T32.setTop (mkF m 68 #[.val (.ref a0)] [(.ref a0)])) t
    exact k
  obtain ⟨T42, X42, e42, st42⟩ := getF X32 hx hZ hown (host := "") (Or.inl (hw _ (List.mem_of_getElem? (i := 27) rfl))) Via.refl e32 fc37 (g := (mkF m 68 #[.val (.ref a0)] [(.ref a0)])) rfl rfl (hb hby d4_68)
  refine OEnd.go (g' := (mkF m 71 #[.val (.ref a0)] [(.int (3 : Int32))])) st42 ?_
  refine OEnd.go (T' := T42) (g' := (mkF m 76 #[.val (.ref a0)] [(.ref a0), (.ref a0)])) (fun t k => ?_) ?_
  · show Steps p.tables e below (T42.setTop (mkF m 71 #[.val (.ref a0)] [(.int (3 : Int32))])) t
    refine XS.ifNo X42.here hx rfl (hb hby d4_71) rfl ((if0 _ _).trans (tlt ((by decide))).2.2.2) ?_
    show Steps p.tables e below (T42.setTop (mkF m 74 #[.val (.ref a0)] [])) t
    refine XS.aloadN X42.here hx rfl (hb hby d4_74) rfl rfl ?_
    show Steps p.tables e below (T42.setTop (mkF m 75 #[.val (.ref a0)] [(.ref a0)])) t
    refine XS.dup X42.here hx rfl (hb hby d4_75) rfl rfl ?_
    show Steps p.tables e below (T42.setTop (mkF m 76 #[.val (.ref a0)] [(.ref a0), (.ref a0)])) t
    exact k
  obtain ⟨T43, X43, e43, st43⟩ := getF X42 hx hZ hown (host := "") (Or.inl (hw _ (List.mem_of_getElem? (i := 52) rfl))) Via.refl e42 fc38 (g := (mkF m 76 #[.val (.ref a0)] [(.ref a0), (.ref a0)])) rfl rfl (hb hby d4_76)
  refine OEnd.go (g' := (mkF m 79 #[.val (.ref a0)] [(.long oo), (.ref a0)])) st43 ?_
  refine OEnd.go (T' := T43) (g' := (mkF m 81 #[.val (.ref a0)] [(.long (oo + (1 : Int64))), (.ref a0)])) (fun t k => ?_) ?_
  · show Steps p.tables e below (T43.setTop (mkF m 79 #[.val (.ref a0)] [(.long oo), (.ref a0)])) t
    refine XS.lconst X43.here hx rfl (hb hby d4_79) ?_
    show Steps p.tables e below (T43.setTop (mkF m 80 #[.val (.ref a0)] [(.long (1 : Int64)), (.long oo), (.ref a0)])) t
    refine XS.ladd X43.here hx rfl (hb hby d4_80) rfl ?_
    show Steps p.tables e below (T43.setTop (mkF m 81 #[.val (.ref a0)] [(.long (oo + (1 : Int64))), (.ref a0)])) t
    exact k
  obtain ⟨T44, h44, X44, e44, W44, st44⟩ := putF X43 hx hZ hown (host := "") (Or.inl (hw _ (List.mem_of_getElem? (i := 52) rfl))) Via.refl e43 fc38 fc41 (Or.inl (hw _ (List.mem_of_getElem? (i := 53) rfl))) (hw _ (List.mem_of_getElem? (i := 1) rfl)) (ty := .long) (by decide) rfl rfl (g := (mkF m 81 #[.val (.ref a0)] [(.long (oo + (1 : Int64))), (.ref a0)])) rfl rfl (hb hby d4_81)
  have N44 := Fr.snoc X44 N32 P10
  have Z44 : n0 ≤ h44.size := Nat.le_trans Z32 (Keep.of_wr W44).1
  have K44 : Keep h0 h44 [a0, r1] := K32.wr W44 (Or.inl (List.mem_of_getElem? (i := 0) rfl))
  have fc45 : Fld Z h44 a0 "com/example/wedgetree/wedgetree/core/OpenedNodes" "waitingDepths" "[I" (.ref w1) := (fc33.other W44 (Or.inr (slot_ne (Or.inl (hw _ (List.mem_of_getElem? (i := 14) rfl))) (Or.inl (hw _ (List.mem_of_getElem? (i := 53) rfl))) (by decide) (t := (.array .int)) (t' := .long) (by decide) (by decide))))
  have fc46 : Fld Z h44 a0 "com/example/wedgetree/wedgetree/core/OpenedNodes" "waiting" "I" (.int (0 : Int32)) := (fc34.other W44 (Or.inr (slot_ne (Or.inl (hw _ (List.mem_of_getElem? (i := 16) rfl))) (Or.inl (hw _ (List.mem_of_getElem? (i := 53) rfl))) (by decide) (t := .int) (t' := .long) (by decide) (by decide))))
  have fc47 : Fld Z h44 a0 "com/example/wedgetree/wedgetree/core/OpenedNodes" "holdsAnswer" "[Z" (.ref r1) := (fc35.other W44 (Or.inr (slot_ne (Or.inl (hw _ (List.mem_of_getElem? (i := 19) rfl))) (Or.inl (hw _ (List.mem_of_getElem? (i := 53) rfl))) (by decide) (t := (.array .boolean)) (t' := .long) (by decide) (by decide))))
  have fc48 : Fld Z h44 a0 "com/example/wedgetree/wedgetree/core/OpenedNodes" "tallying" "Z" (.int (1 : Int32)) := (fc36.other W44 (Or.inr (slot_ne (Or.inr (hw _ (List.mem_of_getElem? (i := 21) rfl))) (Or.inl (hw _ (List.mem_of_getElem? (i := 53) rfl))) (by decide) (t := .boolean) (t' := .long) (by decide) (by decide))))
  have fc49 : Fld Z h44 a0 "com/example/wedgetree/wedgetree/core/OpenedNodes" "depth" "I" (.int (3 : Int32)) := (fc37.other W44 (Or.inr (slot_ne (Or.inl (hw _ (List.mem_of_getElem? (i := 28) rfl))) (Or.inl (hw _ (List.mem_of_getElem? (i := 53) rfl))) (by decide) (t := .int) (t' := .long) (by decide) (by decide))))
  have fc50 : Fld Z h44 a0 "com/example/wedgetree/wedgetree/core/OpenedNodes" "opened" "J" (.long (oo + (1 : Int64))) := (fc38.same W44)
  have fc51 : Fld Z h44 a0 "com/example/wedgetree/wedgetree/core/OpenedNodes" "holding" "J" (.long hv) := (fc39.other W44 (Or.inr (slot_ne (Or.inl (hw _ (List.mem_of_getElem? (i := 74) rfl))) (Or.inl (hw _ (List.mem_of_getElem? (i := 53) rfl))) (by decide) (t := .long) (t' := .long) (by decide) (by decide))))
  have fc52 : OArr Z h44 w1 .int (1 : Int32) [(.int (3 : Int32))] (.int (0 : Int32)) := (fc40.other W44 (Ne.symm P12))
  have fc53 : Exa Z h44 a0 "com/example/wedgetree/wedgetree/core/OpenedNodes" := (fc41.wr W44)
  have fc54 : OArr Z h44 r1 .boolean (4 : Int32) [(.int x0), (.int x1), (.int x2), (.int (0 : Int32))] (.int (0 : Int32)) := (V32.other W44 (Ne.symm P13))
  refine OEnd.go (g' := (mkF m 84 #[.val (.ref a0)] [])) st44 ?_
  exact OEnd.void X44 hx Bd.returns hlk (hb hby d4_84) ⟨rfl, N44, (own_at e44 (P := fun h => Keep h0 h [a0, r1]) K44), (own_at e44 (P := fun h => Exa Z h a0 "com/example/wedgetree/wedgetree/core/OpenedNodes") fc53), (own_at e44 (P := fun h => Fld Z h a0 "com/example/wedgetree/wedgetree/core/OpenedNodes" "waitingDepths" "[I" (.ref w1)) fc45), (own_at e44 (P := fun h => Fld Z h a0 "com/example/wedgetree/wedgetree/core/OpenedNodes" "waiting" "I" (.int (0 : Int32))) fc46), (own_at e44 (P := fun h => Fld Z h a0 "com/example/wedgetree/wedgetree/core/OpenedNodes" "holdsAnswer" "[Z" (.ref r1)) fc47), (own_at e44 (P := fun h => Fld Z h a0 "com/example/wedgetree/wedgetree/core/OpenedNodes" "tallying" "Z" (.int (1 : Int32))) fc48), (own_at e44 (P := fun h => Fld Z h a0 "com/example/wedgetree/wedgetree/core/OpenedNodes" "depth" "I" (.int (3 : Int32))) fc49), (own_at e44 (P := fun h => Fld Z h a0 "com/example/wedgetree/wedgetree/core/OpenedNodes" "opened" "J" (.long (oo + (1 : Int64)))) fc50), (own_at e44 (P := fun h => Fld Z h a0 "com/example/wedgetree/wedgetree/core/OpenedNodes" "holding" "J" (.long hv)) fc51), (own_at e44 (P := fun h => OArr Z h r1 .boolean (4 : Int32) [(.int x0), (.int x1), (.int x2), (.int (0 : Int32))] (.int (0 : Int32))) fc54)⟩ (by decide) (by decide)
theorem d7_0 : decode jdk_65_method_30_code 0 = .ok (.iload_n 1, 1) := by decide +kernel
theorem d7_1 : decode jdk_65_method_30_code 1 = .ok (.iload_n 2, 1) := by decide +kernel
theorem d7_2 : decode jdk_65_method_30_code 2 = .ok (.if_icmp .le 44, 3) := by decide +kernel
theorem d7_46 : decode jdk_65_method_30_code 46 = .ok (.iload_n 1, 1) := by decide +kernel
theorem d7_47 : decode jdk_65_method_30_code 47 = .ok (.ifCond .ge 12, 3) := by decide +kernel
theorem d7_59 : decode jdk_65_method_30_code 59 = .ok (.iload_n 2, 1) := by decide +kernel
theorem d7_60 : decode jdk_65_method_30_code 60 = .ok (.iload_n 0, 1) := by decide +kernel
theorem d7_61 : decode jdk_65_method_30_code 61 = .ok (.if_icmp .le 12, 3) := by decide +kernel
theorem d7_73 : decode jdk_65_method_30_code 73 = .ok (.return_, 1) := by decide +kernel
theorem ef_7 (m : MethodId)  : entryFrame m #[(.int (1 : Int32)), (.int (0 : Int32)), (.int (1 : Int32))] 3 = mkF m 0 #[.val (.int (1 : Int32)), .val (.int (0 : Int32)), .val (.int (1 : Int32))] [] := by first | (simp [entryFrame, mkF, argsToLocals, Value.category]; done) | rfl
def Q7 (Z : State)  (h0 : Heap) (n0 : Nat) (v : Option Value) (h : Heap) (L : List Loc) : Prop := v = none ∧ Fr n0 L ∧ h = h0
set_option maxRecDepth 65536 in
set_option maxHeartbeats 40000000 in
theorem rm7 (l : Launch) (Z : State) (aZ : Array Value) (hw : ∀ d ∈ tables_1, d.before aZ Z = true) (ws : List Jvm.Cond)  (h0 : Heap) (n0 : Nat) (Z0 : n0 ≤ h0.size) :
    MetFree l (⟨"java/util/Arrays", "rangeCheck", "(III)V"⟩ : MethodName) (head1 (Jvm.Cond.code (⟨"java/util/Arrays", "rangeCheck", "(III)V"⟩ : MethodName) jdk_65_method_30_code 3 none :: ws) ({ frames := 0, cells := 0, slots := 0, locals := 0 } : Room)) (fun a U => a = #[(.int (1 : Int32)), (.int (0 : Int32)), (.int (1 : Int32))] ∧ Z.Warmed39 U.vm ∧ U.heap = h0) (fun _ _ _ _ _ => True) (fun _ U o U' => ∃ v L, o = .returned v ∧ Q7 Z  h0 n0 v U'.heap L ∧ FrameEnd U o U' L ({ frames := 0, cells := 0, slots := 0, locals := 0 } : Room).cells ({ frames := 0, cells := 0, slots := 0, locals := 0 } : Room).slots) := by
  refine MetFree.of_bodySF (plainFor_of_name pn_java_util_Arrays) hisR ?_
  intro p e s m args below meth c s₁ Bd hml0 hP hK
  obtain ⟨rfl, hZ, hh⟩ := hP
  have hx := Bd.exec
  have hby := Bd.bytes
  have hlk : meth.locks = false := BodyLoose.notSynchronized Bd
  have hml : c.maxLocals = 3 := hml0
  have hown : s.vm.findClass "java/util/Arrays" = some m.cls := findClass_of_methodNamed Bd.named
  have hnm := (name_of_methodNamed Bd.named Bd.method).1
  have X0 : Stand p l e ({ frames := 0, cells := 0, slots := 0, locals := 0 } : Room) s m #[(.int (1 : Int32)), (.int (0 : Int32)), (.int (1 : Int32))] below meth c s₁ [] 0 0 := Stand.of_body Bd
  have e0 : s₁.heap = h0 := by rw [← hh, Bd.state]; rfl
  have N0 := Fr.nil n0
  show OEnd p e below s s₁ (entryFrame m #[(.int (1 : Int32)), (.int (0 : Int32)), (.int (1 : Int32))] 3) (Q7 Z  h0 n0) ({ frames := 0, cells := 0, slots := 0, locals := 0 } : Room).cells ({ frames := 0, cells := 0, slots := 0, locals := 0 } : Room).slots
  refine OEnd.go (g' := (mkF m 0 #[.val (.int (1 : Int32)), .val (.int (0 : Int32)), .val (.int (1 : Int32))] [])) (fun _ k => castTop (ef_7 m ) k) ?_
  refine OEnd.go (T' := s₁) (g' := (mkF m 73 #[.val (.int (1 : Int32)), .val (.int (0 : Int32)), .val (.int (1 : Int32))] [])) (fun t k => ?_) ?_
  · show Steps p.tables e below (s₁.setTop (mkF m 0 #[.val (.int (1 : Int32)), .val (.int (0 : Int32)), .val (.int (1 : Int32))] [])) t
    refine XS.iloadN X0.here hx rfl (hb hby d7_0) rfl ?_
    show Steps p.tables e below (s₁.setTop (mkF m 1 #[.val (.int (1 : Int32)), .val (.int (0 : Int32)), .val (.int (1 : Int32))] [(.int (0 : Int32))])) t
    refine XS.iloadN X0.here hx rfl (hb hby d7_1) rfl ?_
    show Steps p.tables e below (s₁.setTop (mkF m 2 #[.val (.int (1 : Int32)), .val (.int (0 : Int32)), .val (.int (1 : Int32))] [(.int (1 : Int32)), (.int (0 : Int32))])) t
    refine XS.icmpYes X0.here hx rfl (pc0 := 2) (pc' := 46) rfl (hb hby d7_2) rfl (flt ((by decide))).2.2.2 (by decide) (by decide) ?_
    show Steps p.tables e below (s₁.setTop (mkF m 46 #[.val (.int (1 : Int32)), .val (.int (0 : Int32)), .val (.int (1 : Int32))] [])) t
    refine XS.iloadN X0.here hx rfl (hb hby d7_46) rfl ?_
    show Steps p.tables e below (s₁.setTop (mkF m 47 #[.val (.int (1 : Int32)), .val (.int (0 : Int32)), .val (.int (1 : Int32))] [(.int (0 : Int32))])) t
    refine XS.ifYes X0.here hx rfl (pc0 := 47) (pc' := 59) rfl (hb hby d7_47) rfl ((if0 _ _).trans (flt ((by decide))).2.1) (by decide) (by decide) ?_
    show Steps p.tables e below (s₁.setTop (mkF m 59 #[.val (.int (1 : Int32)), .val (.int (0 : Int32)), .val (.int (1 : Int32))] [])) t
    refine XS.iloadN X0.here hx rfl (hb hby d7_59) rfl ?_
    show Steps p.tables e below (s₁.setTop (mkF m 60 #[.val (.int (1 : Int32)), .val (.int (0 : Int32)), .val (.int (1 : Int32))] [(.int (1 : Int32))])) t
    refine XS.iloadN X0.here hx rfl (hb hby d7_60) rfl ?_
    show Steps p.tables e below (s₁.setTop (mkF m 61 #[.val (.int (1 : Int32)), .val (.int (0 : Int32)), .val (.int (1 : Int32))] [(.int (1 : Int32)), (.int (1 : Int32))])) t
    refine XS.icmpYes X0.here hx rfl (pc0 := 61) (pc' := 73) rfl (hb hby d7_61) rfl (flt ((by decide))).2.2.2 (by decide) (by decide) ?_
    show Steps p.tables e below (s₁.setTop (mkF m 73 #[.val (.int (1 : Int32)), .val (.int (0 : Int32)), .val (.int (1 : Int32))] [])) t
    exact k
  exact OEnd.void X0 hx Bd.returns hlk (hb hby d7_73) ⟨rfl, N0, e0⟩ (by decide) (by decide)
theorem d6_0 : decode jdk_65_method_104_code 0 = .ok (.aload_n 0, 1) := by decide +kernel
theorem d6_1 : decode jdk_65_method_104_code 1 = .ok (.arraylength, 1) := by decide +kernel
theorem d6_2 : decode jdk_65_method_104_code 2 = .ok (.iload_n 1, 1) := by decide +kernel
theorem d6_3 : decode jdk_65_method_104_code 3 = .ok (.iload_n 2, 1) := by decide +kernel
theorem d6_4 : decode jdk_65_method_104_code 4 = .ok (.invokestatic 13, 3) := by decide +kernel
theorem pd__III_V : parseMethodDescriptor "(III)V" = some ⟨[.int, .int, .int], none⟩ := by decide +kernel
theorem d6_7 : decode jdk_65_method_104_code 7 = .ok (.iload_n 1, 1) := by decide +kernel
theorem d6_8 : decode jdk_65_method_104_code 8 = .ok (.istore 4, 2) := by decide +kernel
theorem d6_10 : decode jdk_65_method_104_code 10 = .ok (.iload 4, 2) := by decide +kernel
theorem d6_12 : decode jdk_65_method_104_code 12 = .ok (.iload_n 2, 1) := by decide +kernel
theorem d6_13 : decode jdk_65_method_104_code 13 = .ok (.if_icmp .ge 14, 3) := by decide +kernel
theorem d6_16 : decode jdk_65_method_104_code 16 = .ok (.aload_n 0, 1) := by decide +kernel
theorem d6_17 : decode jdk_65_method_104_code 17 = .ok (.iload 4, 2) := by decide +kernel
theorem d6_19 : decode jdk_65_method_104_code 19 = .ok (.iload_n 3, 1) := by decide +kernel
theorem d6_20 : decode jdk_65_method_104_code 20 = .ok (.iastore, 1) := by decide +kernel
theorem d6_21 : decode jdk_65_method_104_code 21 = .ok (.iinc 4 1, 3) := by decide +kernel
theorem d6_24 : decode jdk_65_method_104_code 24 = .ok (.goto (-14), 3) := by decide +kernel
theorem d6_27 : decode jdk_65_method_104_code 27 = .ok (.return_, 1) := by decide +kernel
theorem ef_6 (m : MethodId) (x0 : Addr) (x3 : Int32) : entryFrame m #[(.ref x0), (.int (0 : Int32)), (.int (1 : Int32)), (.int x3)] 5 = mkF m 0 #[.val (.ref x0), .val (.int (0 : Int32)), .val (.int (1 : Int32)), .val (.int x3), .unset] [] := by first | (simp [entryFrame, mkF, argsToLocals, Value.category]; done) | rfl
def Q6 (Z : State) (a0 : Addr) (p3 : Int32) (y0 : Int32) (h0 : Heap) (n0 : Nat) (v : Option Value) (h : Heap) (L : List Loc) : Prop := v = none ∧ Fr n0 L ∧ Keep h0 h [a0] ∧ OArr Z h a0 .int (1 : Int32) [(.int p3)] (.int (0 : Int32))
set_option maxRecDepth 65536 in
set_option maxHeartbeats 40000000 in
theorem rm6 (l : Launch) (Z : State) (aZ : Array Value) (hw : ∀ d ∈ tables_1, d.before aZ Z = true) (ws : List Jvm.Cond) (a0 : Addr) (p3 : Int32) (y0 : Int32) (h0 : Heap) (n0 : Nat) (Z0 : n0 ≤ h0.size) (P0 : OArr Z h0 a0 .int (1 : Int32) [(.int y0)] (.int (0 : Int32))) (P1 : n0 ≤ a0) :
    MetFree l (⟨"java/util/Arrays", "fill", "([IIII)V"⟩ : MethodName) (head1 (Jvm.Cond.code (⟨"java/util/Arrays", "fill", "([IIII)V"⟩ : MethodName) jdk_65_method_104_code 5 none :: ws) ({ frames := 1, cells := 0, slots := 0, locals := 14 } : Room)) (fun a U => a = #[(.ref a0), (.int (0 : Int32)), (.int (1 : Int32)), (.int p3)] ∧ Z.Warmed39 U.vm ∧ U.heap = h0) (fun _ _ _ _ _ => True) (fun _ U o U' => ∃ v L, o = .returned v ∧ Q6 Z a0 p3 y0 h0 n0 v U'.heap L ∧ FrameEnd U o U' L ({ frames := 1, cells := 0, slots := 0, locals := 14 } : Room).cells ({ frames := 1, cells := 0, slots := 0, locals := 14 } : Room).slots) := by
  refine MetFree.of_bodySF (plainFor_of_name pn_java_util_Arrays) hisR ?_
  intro p e s m args below meth c s₁ Bd hml0 hP hK
  obtain ⟨rfl, hZ, hh⟩ := hP
  have hx := Bd.exec
  have hby := Bd.bytes
  have hlk : meth.locks = false := BodyLoose.notSynchronized Bd
  have hml : c.maxLocals = 5 := hml0
  have hown : s.vm.findClass "java/util/Arrays" = some m.cls := findClass_of_methodNamed Bd.named
  have hnm := (name_of_methodNamed Bd.named Bd.method).1
  have X0 : Stand p l e ({ frames := 1, cells := 0, slots := 0, locals := 14 } : Room) s m #[(.ref a0), (.int (0 : Int32)), (.int (1 : Int32)), (.int p3)] below meth c s₁ [] 0 0 := Stand.of_body Bd
  have e0 : s₁.heap = h0 := by rw [← hh, Bd.state]; rfl
  have N0 := Fr.nil n0
  have K0 : Keep h0 h0 [a0] := Keep.refl _ _
  show OEnd p e below s s₁ (entryFrame m #[(.ref a0), (.int (0 : Int32)), (.int (1 : Int32)), (.int p3)] 5) (Q6 Z a0 p3 y0 h0 n0) ({ frames := 1, cells := 0, slots := 0, locals := 14 } : Room).cells ({ frames := 1, cells := 0, slots := 0, locals := 14 } : Room).slots
  refine OEnd.go (g' := (mkF m 0 #[.val (.ref a0), .val (.int (0 : Int32)), .val (.int (1 : Int32)), .val (.int p3), .unset] [])) (fun _ k => castTop (ef_6 m a0 p3) k) ?_
  refine OEnd.go (T' := s₁) (g' := (mkF m 1 #[.val (.ref a0), .val (.int (0 : Int32)), .val (.int (1 : Int32)), .val (.int p3), .unset] [(.ref a0)])) (fun t k => ?_) ?_
  · show Steps p.tables e below (s₁.setTop (mkF m 0 #[.val (.ref a0), .val (.int (0 : Int32)), .val (.int (1 : Int32)), .val (.int p3), .unset] [])) t
    refine XS.aloadN X0.here hx rfl (hb hby d6_0) rfl rfl ?_
    show Steps p.tables e below (s₁.setTop (mkF m 1 #[.val (.ref a0), .val (.int (0 : Int32)), .val (.int (1 : Int32)), .val (.int p3), .unset] [(.ref a0)])) t
    exact k
  obtain ⟨kc1, cl1, Ar1, q1, S1, M1, H1, G1⟩ := id P0
  refine OEnd.go (T' := s₁) (g' := (mkF m 2 #[.val (.ref a0), .val (.int (0 : Int32)), .val (.int (1 : Int32)), .val (.int p3), .unset] [(.int (1 : Int32))])) (fun t k => ?_) ?_
  · refine X0.arraylength hx (by rw [e0]; exact Ar1.1) (State.isArrayOf_alike hZ.alike Ar1.2.1) (g := (mkF m 1 #[.val (.ref a0), .val (.int (0 : Int32)), .val (.int (1 : Int32)), .val (.int p3), .unset] [(.ref a0)])) rfl rfl (hb hby d6_1) _ ?_
    rw [len_of S1 M1]
    exact k
  refine OEnd.go (T' := s₁) (g' := (mkF m 4 #[.val (.ref a0), .val (.int (0 : Int32)), .val (.int (1 : Int32)), .val (.int p3), .unset] [(.int (1 : Int32)), (.int (0 : Int32)), (.int (1 : Int32))])) (fun t k => ?_) ?_
  · show Steps p.tables e below (s₁.setTop (mkF m 2 #[.val (.ref a0), .val (.int (0 : Int32)), .val (.int (1 : Int32)), .val (.int p3), .unset] [(.int (1 : Int32))])) t
    refine XS.iloadN X0.here hx rfl (hb hby d6_2) rfl ?_
    show Steps p.tables e below (s₁.setTop (mkF m 3 #[.val (.ref a0), .val (.int (0 : Int32)), .val (.int (1 : Int32)), .val (.int p3), .unset] [(.int (0 : Int32)), (.int (1 : Int32))])) t
    refine XS.iloadN X0.here hx rfl (hb hby d6_3) rfl ?_
    show Steps p.tables e below (s₁.setTop (mkF m 4 #[.val (.ref a0), .val (.int (0 : Int32)), .val (.int (1 : Int32)), .val (.int p3), .unset] [(.int (1 : Int32)), (.int (0 : Int32)), (.int (1 : Int32))])) t
    exact k
  obtain ⟨_, _, ⟨T2, L2, k2, n2⟩, -, X2, ⟨Lc2, hQ2, l2, y2, z2⟩, st2⟩ := Jvm.LawKit.callS X0 hx (y := (⟨"java/util/Arrays", "rangeCheck", "(III)V"⟩ : MethodName)) hown (mvT hZ (hw _ (List.mem_of_getElem? (i := 38) rfl))) (mvT hZ (hw _ (List.mem_of_getElem? (i := 39) rfl))) (mvT hZ (hw _ (List.mem_of_getElem? (i := 36) rfl))) (mvT hZ (hw _ (List.mem_of_getElem? (i := 40) rfl))) (by decide) (backOf (W := 0) (rm7 l Z aZ hw []  h0 n0 Z0 ) hZ (hw _ (List.mem_of_getElem? (i := 40) rfl)) (hw _ (List.mem_of_getElem? (i := 36) rfl)) (by decide) (by decide)) (g := (mkF m 4 #[.val (.ref a0), .val (.int (0 : Int32)), .val (.int (1 : Int32)), .val (.int p3), .unset] [(.int (1 : Int32)), (.int (0 : Int32)), (.int (1 : Int32))])) rfl (by rw [hml]; rfl) (argsL := [(.int (1 : Int32)), (.int (0 : Int32)), (.int (1 : Int32))]) (rest := []) (lenOf pd__III_V rfl) rfl (by show 2 * 0 + _ ≤ _; exact Nat.le_of_eq rfl) (hb hby d6_4) (fun _ _ => ⟨rfl, e0, (by decide : 0 + 0 ≤ _), (by decide : 0 + 0 ≤ _)⟩)
  dsimp only [Pt.U, Pt.locs, Pt.cells, Pt.slots] at X2 l2 y2 z2 st2 hQ2
  subst l2 y2 z2
  obtain ⟨rfl, N2q, e2⟩ := hQ2
  have N2 := Fr.app N0 N2q
  refine OEnd.go (g' := (mkF m 7 #[.val (.ref a0), .val (.int (0 : Int32)), .val (.int (1 : Int32)), .val (.int p3), .unset] [])) st2 ?_
  refine OEnd.go (T' := T2) (g' := (mkF m 20 #[.val (.ref a0), .val (.int (0 : Int32)), .val (.int (1 : Int32)), .val (.int p3), .val (.int (0 : Int32))] [(.int p3), (.int (0 : Int32)), (.ref a0)])) (fun t k => ?_) ?_
  · show Steps p.tables e below (T2.setTop (mkF m 7 #[.val (.ref a0), .val (.int (0 : Int32)), .val (.int (1 : Int32)), .val (.int p3), .unset] [])) t
    refine XS.iloadN X2.here hx rfl (hb hby d6_7) rfl ?_
    show Steps p.tables e below (T2.setTop (mkF m 8 #[.val (.ref a0), .val (.int (0 : Int32)), .val (.int (1 : Int32)), .val (.int p3), .unset] [(.int (0 : Int32))])) t
    refine XS.istore X2.here hx rfl (hb hby d6_8) rfl (l' := #[.val (.ref a0), .val (.int (0 : Int32)), .val (.int (1 : Int32)), .val (.int p3), .val (.int (0 : Int32))]) rfl ?_
    show Steps p.tables e below (T2.setTop (mkF m 10 #[.val (.ref a0), .val (.int (0 : Int32)), .val (.int (1 : Int32)), .val (.int p3), .val (.int (0 : Int32))] [])) t
    refine XS.iload X2.here hx rfl (hb hby d6_10) rfl ?_
    show Steps p.tables e below (T2.setTop (mkF m 12 #[.val (.ref a0), .val (.int (0 : Int32)), .val (.int (1 : Int32)), .val (.int p3), .val (.int (0 : Int32))] [(.int (0 : Int32))])) t
    refine XS.iloadN X2.here hx rfl (hb hby d6_12) rfl ?_
    show Steps p.tables e below (T2.setTop (mkF m 13 #[.val (.ref a0), .val (.int (0 : Int32)), .val (.int (1 : Int32)), .val (.int p3), .val (.int (0 : Int32))] [(.int (1 : Int32)), (.int (0 : Int32))])) t
    refine XS.icmpNo X2.here hx rfl (hb hby d6_13) rfl (tlt ((by decide))).2.1 ?_
    show Steps p.tables e below (T2.setTop (mkF m 16 #[.val (.ref a0), .val (.int (0 : Int32)), .val (.int (1 : Int32)), .val (.int p3), .val (.int (0 : Int32))] [])) t
    refine XS.aloadN X2.here hx rfl (hb hby d6_16) rfl rfl ?_
    show Steps p.tables e below (T2.setTop (mkF m 17 #[.val (.ref a0), .val (.int (0 : Int32)), .val (.int (1 : Int32)), .val (.int p3), .val (.int (0 : Int32))] [(.ref a0)])) t
    refine XS.iload X2.here hx rfl (hb hby d6_17) rfl ?_
    show Steps p.tables e below (T2.setTop (mkF m 19 #[.val (.ref a0), .val (.int (0 : Int32)), .val (.int (1 : Int32)), .val (.int p3), .val (.int (0 : Int32))] [(.int (0 : Int32)), (.ref a0)])) t
    refine XS.iloadN X2.here hx rfl (hb hby d6_19) rfl ?_
    show Steps p.tables e below (T2.setTop (mkF m 20 #[.val (.ref a0), .val (.int (0 : Int32)), .val (.int (1 : Int32)), .val (.int p3), .val (.int (0 : Int32))] [(.int p3), (.int (0 : Int32)), (.ref a0)])) t
    exact k
  obtain ⟨kc3, cl3, Ar3, q3, S3, M3, H3, G3⟩ := id P0
  have hin3 : ¬ ((0 : Int32) < 0 ∨ cl3.slots.size ≤ ((0 : Int32)).toNatClampNeg) := inb_of S3 ⟨by decide, by decide⟩
  obtain ⟨T3, h3, X3, e3, W3, st3⟩ := stI X2 hx hZ e2 Ar3 (j := (0 : Int32)) hin3 (g := (mkF m 20 #[.val (.ref a0), .val (.int (0 : Int32)), .val (.int (1 : Int32)), .val (.int p3), .val (.int (0 : Int32))] [(.int p3), (.int (0 : Int32)), (.ref a0)])) rfl rfl (hb hby d6_20)
  have N3 := Fr.snoc X3 N2 P1
  have Z3 : n0 ≤ h3.size := Nat.le_trans Z0 (Keep.of_wr W3).1
  have K3 : Keep h0 h3 [a0] := K0.wr W3 (Or.inl (List.mem_of_getElem? (i := 0) rfl))
  have V3 : OArr Z h3 a0 .int (1 : Int32) [(.int p3)] (.int (0 : Int32)) := ⟨_, Arv.set Ar3 q3 S3 M3 H3 G3 rfl W3 0 rfl (Nat.le_of_ble_eq_true rfl)⟩
  refine OEnd.go (g' := (mkF m 21 #[.val (.ref a0), .val (.int (0 : Int32)), .val (.int (1 : Int32)), .val (.int p3), .val (.int (0 : Int32))] [])) st3 ?_
  refine OEnd.go (T' := T3) (g' := (mkF m 27 #[.val (.ref a0), .val (.int (0 : Int32)), .val (.int (1 : Int32)), .val (.int p3), .val (.int (1 : Int32))] [])) (fun t k => ?_) ?_
  · show Steps p.tables e below (T3.setTop (mkF m 21 #[.val (.ref a0), .val (.int (0 : Int32)), .val (.int (1 : Int32)), .val (.int p3), .val (.int (0 : Int32))] [])) t
    refine XS.iinc X3.here hx rfl (hb hby d6_21) rfl (l' := #[.val (.ref a0), .val (.int (0 : Int32)), .val (.int (1 : Int32)), .val (.int p3), .val (.int (1 : Int32))]) rfl ?_
    show Steps p.tables e below (T3.setTop (mkF m 24 #[.val (.ref a0), .val (.int (0 : Int32)), .val (.int (1 : Int32)), .val (.int p3), .val (.int (1 : Int32))] [])) t
    refine XS.goto X3.here hx rfl (pc0 := 24) (pc' := 10) rfl (hb hby d6_24) (by decide) (by decide) ?_
    show Steps p.tables e below (T3.setTop (mkF m 10 #[.val (.ref a0), .val (.int (0 : Int32)), .val (.int (1 : Int32)), .val (.int p3), .val (.int (1 : Int32))] [])) t
    refine XS.iload X3.here hx rfl (hb hby d6_10) rfl ?_
    show Steps p.tables e below (T3.setTop (mkF m 12 #[.val (.ref a0), .val (.int (0 : Int32)), .val (.int (1 : Int32)), .val (.int p3), .val (.int (1 : Int32))] [(.int (1 : Int32))])) t
    refine XS.iloadN X3.here hx rfl (hb hby d6_12) rfl ?_
    show Steps p.tables e below (T3.setTop (mkF m 13 #[.val (.ref a0), .val (.int (0 : Int32)), .val (.int (1 : Int32)), .val (.int p3), .val (.int (1 : Int32))] [(.int (1 : Int32)), (.int (1 : Int32))])) t
    refine XS.icmpYes X3.here hx rfl (pc0 := 13) (pc' := 27) rfl (hb hby d6_13) rfl (flt ((by decide))).2.1 (by decide) (by decide) ?_
    show Steps p.tables e below (T3.setTop (mkF m 27 #[.val (.ref a0), .val (.int (0 : Int32)), .val (.int (1 : Int32)), .val (.int p3), .val (.int (1 : Int32))] [])) t
    exact k
  exact OEnd.void X3 hx Bd.returns hlk (hb hby d6_27) ⟨rfl, N3, (own_at e3 (P := fun h => Keep h0 h [a0]) K3), (own_at e3 (P := fun h => OArr Z h a0 .int (1 : Int32) [(.int p3)] (.int (0 : Int32))) V3)⟩ (by decide) (by decide)
theorem d5_0 : decode prog_27_method_4_code 0 = .ok (.aload_n 0, 1) := by decide +kernel
theorem d5_1 : decode prog_27_method_4_code 1 = .ok (.getfield 24, 3) := by decide +kernel
theorem d5_4 : decode prog_27_method_4_code 4 = .ok (.ifCond .ne 4, 3) := by decide +kernel
theorem d5_8 : decode prog_27_method_4_code 8 = .ok (.aload_n 0, 1) := by decide +kernel
theorem d5_9 : decode prog_27_method_4_code 9 = .ok (.getfield 12, 3) := by decide +kernel
theorem d5_12 : decode prog_27_method_4_code 12 = .ok (.arraylength, 1) := by decide +kernel
theorem d5_13 : decode prog_27_method_4_code 13 = .ok (.aload_n 0, 1) := by decide +kernel
theorem d5_14 : decode prog_27_method_4_code 14 = .ok (.getfield 16, 3) := by decide +kernel
theorem d5_17 : decode prog_27_method_4_code 17 = .ok (.isub, 1) := by decide +kernel
theorem d5_18 : decode prog_27_method_4_code 18 = .ok (.iload_n 1, 1) := by decide +kernel
theorem d5_19 : decode prog_27_method_4_code 19 = .ok (.if_icmp .ge 30, 3) := by decide +kernel
theorem d5_49 : decode prog_27_method_4_code 49 = .ok (.aload_n 0, 1) := by decide +kernel
theorem d5_50 : decode prog_27_method_4_code 50 = .ok (.getfield 12, 3) := by decide +kernel
theorem d5_53 : decode prog_27_method_4_code 53 = .ok (.aload_n 0, 1) := by decide +kernel
theorem d5_54 : decode prog_27_method_4_code 54 = .ok (.getfield 16, 3) := by decide +kernel
theorem d5_57 : decode prog_27_method_4_code 57 = .ok (.aload_n 0, 1) := by decide +kernel
theorem d5_58 : decode prog_27_method_4_code 58 = .ok (.getfield 16, 3) := by decide +kernel
theorem d5_61 : decode prog_27_method_4_code 61 = .ok (.iload_n 1, 1) := by decide +kernel
theorem d5_62 : decode prog_27_method_4_code 62 = .ok (.iadd, 1) := by decide +kernel
theorem d5_63 : decode prog_27_method_4_code 63 = .ok (.aload_n 0, 1) := by decide +kernel
theorem d5_64 : decode prog_27_method_4_code 64 = .ok (.getfield 28, 3) := by decide +kernel
theorem d5_67 : decode prog_27_method_4_code 67 = .ok (.iconst 1, 1) := by decide +kernel
theorem d5_68 : decode prog_27_method_4_code 68 = .ok (.iadd, 1) := by decide +kernel
theorem d5_69 : decode prog_27_method_4_code 69 = .ok (.invokestatic 50, 3) := by decide +kernel
theorem pd___IIII_V : parseMethodDescriptor "([IIII)V" = some ⟨[(.array .int), .int, .int, .int], none⟩ := by decide +kernel
theorem d5_72 : decode prog_27_method_4_code 72 = .ok (.aload_n 0, 1) := by decide +kernel
theorem d5_73 : decode prog_27_method_4_code 73 = .ok (.dup, 1) := by decide +kernel
theorem d5_74 : decode prog_27_method_4_code 74 = .ok (.getfield 16, 3) := by decide +kernel
theorem d5_77 : decode prog_27_method_4_code 77 = .ok (.iload_n 1, 1) := by decide +kernel
theorem d5_78 : decode prog_27_method_4_code 78 = .ok (.iadd, 1) := by decide +kernel
theorem d5_79 : decode prog_27_method_4_code 79 = .ok (.putfield 16, 3) := by decide +kernel
theorem d5_82 : decode prog_27_method_4_code 82 = .ok (.return_, 1) := by decide +kernel
theorem ef_5_0 (m : MethodId) (x0 : Addr) : entryFrame m #[(.ref x0), (.int (1 : Int32))] 2 = mkF m 0 #[.val (.ref x0), .val (.int (1 : Int32))] [] := by first | (simp [entryFrame, mkF, argsToLocals, Value.category]; done) | rfl
def Q5_0 (Z : State) (a0 : Addr) (w1 : Addr) (r1 : Addr) (y0 : Int32) (oo : Int64) (hv : Int64) (h0 : Heap) (n0 : Nat) (v : Option Value) (h : Heap) (L : List Loc) : Prop := v = none ∧ Fr n0 L ∧ Keep h0 h [a0, w1] ∧ Exa Z h a0 "com/example/wedgetree/wedgetree/core/OpenedNodes" ∧ Fld Z h a0 "com/example/wedgetree/wedgetree/core/OpenedNodes" "waitingDepths" "[I" (.ref w1) ∧ Fld Z h a0 "com/example/wedgetree/wedgetree/core/OpenedNodes" "waiting" "I" (.int (1 : Int32)) ∧ Fld Z h a0 "com/example/wedgetree/wedgetree/core/OpenedNodes" "holdsAnswer" "[Z" (.ref r1) ∧ Fld Z h a0 "com/example/wedgetree/wedgetree/core/OpenedNodes" "tallying" "Z" (.int (1 : Int32)) ∧ Fld Z h a0 "com/example/wedgetree/wedgetree/core/OpenedNodes" "depth" "I" (.int (0 : Int32)) ∧ Fld Z h a0 "com/example/wedgetree/wedgetree/core/OpenedNodes" "opened" "J" (.long oo) ∧ Fld Z h a0 "com/example/wedgetree/wedgetree/core/OpenedNodes" "holding" "J" (.long hv) ∧ OArr Z h w1 .int (1 : Int32) [(.int (1 : Int32))] (.int (0 : Int32))
set_option maxRecDepth 65536 in
set_option maxHeartbeats 40000000 in
theorem rm5_0 (l : Launch) (Z : State) (aZ : Array Value) (hw : ∀ d ∈ tables_1, d.before aZ Z = true) (ws : List Jvm.Cond) (a0 : Addr) (w1 : Addr) (r1 : Addr) (y0 : Int32) (oo : Int64) (hv : Int64) (h0 : Heap) (n0 : Nat) (Z0 : n0 ≤ h0.size) (P0 : Fld Z h0 a0 "com/example/wedgetree/wedgetree/core/OpenedNodes" "waitingDepths" "[I" (.ref w1)) (P1 : Fld Z h0 a0 "com/example/wedgetree/wedgetree/core/OpenedNodes" "waiting" "I" (.int (0 : Int32))) (P2 : Fld Z h0 a0 "com/example/wedgetree/wedgetree/core/OpenedNodes" "holdsAnswer" "[Z" (.ref r1)) (P3 : Fld Z h0 a0 "com/example/wedgetree/wedgetree/core/OpenedNodes" "tallying" "Z" (.int (1 : Int32))) (P4 : Fld Z h0 a0 "com/example/wedgetree/wedgetree/core/OpenedNodes" "depth" "I" (.int (0 : Int32))) (P5 : Fld Z h0 a0 "com/example/wedgetree/wedgetree/core/OpenedNodes" "opened" "J" (.long oo)) (P6 : Fld Z h0 a0 "com/example/wedgetree/wedgetree/core/OpenedNodes" "holding" "J" (.long hv)) (P7 : OArr Z h0 w1 .int (1 : Int32) [(.int y0)] (.int (0 : Int32))) (P8 : Exa Z h0 a0 "com/example/wedgetree/wedgetree/core/OpenedNodes") (P9 : n0 ≤ a0) (P10 : n0 ≤ w1) (P11 : a0 ≠ w1) :
    MetFree l (⟨"com/example/wedgetree/wedgetree/core/OpenedNodes", "addWaiting", "(I)V"⟩ : MethodName) (head1 (Jvm.Cond.code (⟨"com/example/wedgetree/wedgetree/core/OpenedNodes", "addWaiting", "(I)V"⟩ : MethodName) prog_27_method_4_code 2 none :: ws) ({ frames := 2, cells := 0, slots := 0, locals := 30 } : Room)) (fun a U => a = #[(.ref a0), (.int (1 : Int32))] ∧ Z.Warmed39 U.vm ∧ U.heap = h0) (fun _ _ _ _ _ => True) (fun _ U o U' => ∃ v L, o = .returned v ∧ Q5_0 Z a0 w1 r1 y0 oo hv h0 n0 v U'.heap L ∧ FrameEnd U o U' L ({ frames := 2, cells := 0, slots := 0, locals := 30 } : Room).cells ({ frames := 2, cells := 0, slots := 0, locals := 30 } : Room).slots) := by
  refine MetFree.of_bodySF (plainFor_of_name pn_com_example_wedgetree_wedgetree_core_OpenedNodes) hisR ?_
  intro p e s m args below meth c s₁ Bd hml0 hP hK
  obtain ⟨rfl, hZ, hh⟩ := hP
  have hx := Bd.exec
  have hby := Bd.bytes
  have hlk : meth.locks = false := BodyLoose.notSynchronized Bd
  have hml : c.maxLocals = 2 := hml0
  have hown : s.vm.findClass "com/example/wedgetree/wedgetree/core/OpenedNodes" = some m.cls := findClass_of_methodNamed Bd.named
  have hnm := (name_of_methodNamed Bd.named Bd.method).1
  have X0 : Stand p l e ({ frames := 2, cells := 0, slots := 0, locals := 30 } : Room) s m #[(.ref a0), (.int (1 : Int32))] below meth c s₁ [] 0 0 := Stand.of_body Bd
  have e0 : s₁.heap = h0 := by rw [← hh, Bd.state]; rfl
  have N0 := Fr.nil n0
  have K0 : Keep h0 h0 [a0, w1] := Keep.refl _ _
  show OEnd p e below s s₁ (entryFrame m #[(.ref a0), (.int (1 : Int32))] 2) (Q5_0 Z a0 w1 r1 y0 oo hv h0 n0) ({ frames := 2, cells := 0, slots := 0, locals := 30 } : Room).cells ({ frames := 2, cells := 0, slots := 0, locals := 30 } : Room).slots
  refine OEnd.go (g' := (mkF m 0 #[.val (.ref a0), .val (.int (1 : Int32))] [])) (fun _ k => castTop (ef_5_0 m a0) k) ?_
  refine OEnd.go (T' := s₁) (g' := (mkF m 1 #[.val (.ref a0), .val (.int (1 : Int32))] [(.ref a0)])) (fun t k => ?_) ?_
  · show Steps p.tables e below (s₁.setTop (mkF m 0 #[.val (.ref a0), .val (.int (1 : Int32))] [])) t
    refine XS.aloadN X0.here hx rfl (hb hby d5_0) rfl rfl ?_
    show Steps p.tables e below (s₁.setTop (mkF m 1 #[.val (.ref a0), .val (.int (1 : Int32))] [(.ref a0)])) t
    exact k
  obtain ⟨T1, X1, e1, st1⟩ := getF X0 hx hZ hown (host := "") (Or.inl (hw _ (List.mem_of_getElem? (i := 20) rfl))) Via.refl e0 P3 (g := (mkF m 1 #[.val (.ref a0), .val (.int (1 : Int32))] [(.ref a0)])) rfl rfl (hb hby d5_1)
  refine OEnd.go (g' := (mkF m 4 #[.val (.ref a0), .val (.int (1 : Int32))] [(.int (1 : Int32))])) st1 ?_
  refine OEnd.go (T' := T1) (g' := (mkF m 9 #[.val (.ref a0), .val (.int (1 : Int32))] [(.ref a0)])) (fun t k => ?_) ?_
  · show Steps p.tables e below (T1.setTop (mkF m 4 #[.val (.ref a0), .val (.int (1 : Int32))] [(.int (1 : Int32))])) t
    refine XS.ifYes X1.here hx rfl (pc0 := 4) (pc' := 8) rfl (hb hby d5_4) rfl ((if0 _ _).trans (feq ((by decide))).2) (by decide) (by decide) ?_
    show Steps p.tables e below (T1.setTop (mkF m 8 #[.val (.ref a0), .val (.int (1 : Int32))] [])) t
    refine XS.aloadN X1.here hx rfl (hb hby d5_8) rfl rfl ?_
    show Steps p.tables e below (T1.setTop (mkF m 9 #[.val (.ref a0), .val (.int (1 : Int32))] [(.ref a0)])) t
    exact k
  obtain ⟨T2, X2, e2, st2⟩ := getF X1 hx hZ hown (host := "") (Or.inl (hw _ (List.mem_of_getElem? (i := 13) rfl))) Via.refl e1 P0 (g := (mkF m 9 #[.val (.ref a0), .val (.int (1 : Int32))] [(.ref a0)])) rfl rfl (hb hby d5_9)
  refine OEnd.go (g' := (mkF m 12 #[.val (.ref a0), .val (.int (1 : Int32))] [(.ref w1)])) st2 ?_
  obtain ⟨kc3, cl3, Ar3, q3, S3, M3, H3, G3⟩ := id P7
  refine OEnd.go (T' := T2) (g' := (mkF m 13 #[.val (.ref a0), .val (.int (1 : Int32))] [(.int (1 : Int32))])) (fun t k => ?_) ?_
  · refine X2.arraylength hx (by rw [e2]; exact Ar3.1) (State.isArrayOf_alike hZ.alike Ar3.2.1) (g := (mkF m 12 #[.val (.ref a0), .val (.int (1 : Int32))] [(.ref w1)])) rfl rfl (hb hby d5_12) _ ?_
    rw [len_of S3 M3]
    exact k
  refine OEnd.go (T' := T2) (g' := (mkF m 14 #[.val (.ref a0), .val (.int (1 : Int32))] [(.ref a0), (.int (1 : Int32))])) (fun t k => ?_) ?_
  · show Steps p.tables e below (T2.setTop (mkF m 13 #[.val (.ref a0), .val (.int (1 : Int32))] [(.int (1 : Int32))])) t
    refine XS.aloadN X2.here hx rfl (hb hby d5_13) rfl rfl ?_
    show Steps p.tables e below (T2.setTop (mkF m 14 #[.val (.ref a0), .val (.int (1 : Int32))] [(.ref a0), (.int (1 : Int32))])) t
    exact k
  obtain ⟨T4, X4, e4, st4⟩ := getF X2 hx hZ hown (host := "") (Or.inl (hw _ (List.mem_of_getElem? (i := 15) rfl))) Via.refl e2 P1 (g := (mkF m 14 #[.val (.ref a0), .val (.int (1 : Int32))] [(.ref a0), (.int (1 : Int32))])) rfl rfl (hb hby d5_14)
  refine OEnd.go (g' := (mkF m 17 #[.val (.ref a0), .val (.int (1 : Int32))] [(.int (0 : Int32)), (.int (1 : Int32))])) st4 ?_
  refine OEnd.go (T' := T4) (g' := (mkF m 50 #[.val (.ref a0), .val (.int (1 : Int32))] [(.ref a0)])) (fun t k => ?_) ?_
  · show Steps p.tables e below (T4.setTop (mkF m 17 #[.val (.ref a0), .val (.int (1 : Int32))] [(.int (0 : Int32)), (.int (1 : Int32))])) t
    refine XS.isub X4.here hx rfl (hb hby d5_17) rfl ?_
    show Steps p.tables e below (T4.setTop (mkF m 18 #[.val (.ref a0), .val (.int (1 : Int32))] [(.int (1 : Int32))])) t
    refine XS.iloadN X4.here hx rfl (hb hby d5_18) rfl ?_
    show Steps p.tables e below (T4.setTop (mkF m 19 #[.val (.ref a0), .val (.int (1 : Int32))] [(.int (1 : Int32)), (.int (1 : Int32))])) t
    refine XS.icmpYes X4.here hx rfl (pc0 := 19) (pc' := 49) rfl (hb hby d5_19) rfl (flt ((by decide))).2.1 (by decide) (by decide) ?_
    show Steps p.tables e below (T4.setTop (mkF m 49 #[.val (.ref a0), .val (.int (1 : Int32))] [])) t
    refine XS.aloadN X4.here hx rfl (hb hby d5_49) rfl rfl ?_
    show Steps p.tables e below (T4.setTop (mkF m 50 #[.val (.ref a0), .val (.int (1 : Int32))] [(.ref a0)])) t
    exact k
  obtain ⟨T5, X5, e5, st5⟩ := getF X4 hx hZ hown (host := "") (Or.inl (hw _ (List.mem_of_getElem? (i := 13) rfl))) Via.refl e4 P0 (g := (mkF m 50 #[.val (.ref a0), .val (.int (1 : Int32))] [(.ref a0)])) rfl rfl (hb hby d5_50)
  refine OEnd.go (g' := (mkF m 53 #[.val (.ref a0), .val (.int (1 : Int32))] [(.ref w1)])) st5 ?_
  refine OEnd.go (T' := T5) (g' := (mkF m 54 #[.val (.ref a0), .val (.int (1 : Int32))] [(.ref a0), (.ref w1)])) (fun t k => ?_) ?_
  · show Steps p.tables e below (T5.setTop (mkF m 53 #[.val (.ref a0), .val (.int (1 : Int32))] [(.ref w1)])) t
    refine XS.aloadN X5.here hx rfl (hb hby d5_53) rfl rfl ?_
    show Steps p.tables e below (T5.setTop (mkF m 54 #[.val (.ref a0), .val (.int (1 : Int32))] [(.ref a0), (.ref w1)])) t
    exact k
  obtain ⟨T6, X6, e6, st6⟩ := getF X5 hx hZ hown (host := "") (Or.inl (hw _ (List.mem_of_getElem? (i := 15) rfl))) Via.refl e5 P1 (g := (mkF m 54 #[.val (.ref a0), .val (.int (1 : Int32))] [(.ref a0), (.ref w1)])) rfl rfl (hb hby d5_54)
  refine OEnd.go (g' := (mkF m 57 #[.val (.ref a0), .val (.int (1 : Int32))] [(.int (0 : Int32)), (.ref w1)])) st6 ?_
  refine OEnd.go (T' := T6) (g' := (mkF m 58 #[.val (.ref a0), .val (.int (1 : Int32))] [(.ref a0), (.int (0 : Int32)), (.ref w1)])) (fun t k => ?_) ?_
  · show Steps p.tables e below (T6.setTop (mkF m 57 #[.val (.ref a0), .val (.int (1 : Int32))] [(.int (0 : Int32)), (.ref w1)])) t
    refine XS.aloadN X6.here hx rfl (hb hby d5_57) rfl rfl ?_
    show Steps p.tables e below (T6.setTop (mkF m 58 #[.val (.ref a0), .val (.int (1 : Int32))] [(.ref a0), (.int (0 : Int32)), (.ref w1)])) t
    exact k
  obtain ⟨T7, X7, e7, st7⟩ := getF X6 hx hZ hown (host := "") (Or.inl (hw _ (List.mem_of_getElem? (i := 15) rfl))) Via.refl e6 P1 (g := (mkF m 58 #[.val (.ref a0), .val (.int (1 : Int32))] [(.ref a0), (.int (0 : Int32)), (.ref w1)])) rfl rfl (hb hby d5_58)
  refine OEnd.go (g' := (mkF m 61 #[.val (.ref a0), .val (.int (1 : Int32))] [(.int (0 : Int32)), (.int (0 : Int32)), (.ref w1)])) st7 ?_
  refine OEnd.go (T' := T7) (g' := (mkF m 64 #[.val (.ref a0), .val (.int (1 : Int32))] [(.ref a0), (.int (1 : Int32)), (.int (0 : Int32)), (.ref w1)])) (fun t k => ?_) ?_
  · show Steps p.tables e below (T7.setTop (mkF m 61 #[.val (.ref a0), .val (.int (1 : Int32))] [(.int (0 : Int32)), (.int (0 : Int32)), (.ref w1)])) t
    refine XS.iloadN X7.here hx rfl (hb hby d5_61) rfl ?_
    show Steps p.tables e below (T7.setTop (mkF m 62 #[.val (.ref a0), .val (.int (1 : Int32))] [(.int (1 : Int32)), (.int (0 : Int32)), (.int (0 : Int32)), (.ref w1)])) t
    refine XS.iadd X7.here hx rfl (hb hby d5_62) rfl ?_
    show Steps p.tables e below (T7.setTop (mkF m 63 #[.val (.ref a0), .val (.int (1 : Int32))] [(.int (1 : Int32)), (.int (0 : Int32)), (.ref w1)])) t
    refine XS.aloadN X7.here hx rfl (hb hby d5_63) rfl rfl ?_
    show Steps p.tables e below (T7.setTop (mkF m 64 #[.val (.ref a0), .val (.int (1 : Int32))] [(.ref a0), (.int (1 : Int32)), (.int (0 : Int32)), (.ref w1)])) t
    exact k
  obtain ⟨T8, X8, e8, st8⟩ := getF X7 hx hZ hown (host := "") (Or.inl (hw _ (List.mem_of_getElem? (i := 27) rfl))) Via.refl e7 P4 (g := (mkF m 64 #[.val (.ref a0), .val (.int (1 : Int32))] [(.ref a0), (.int (1 : Int32)), (.int (0 : Int32)), (.ref w1)])) rfl rfl (hb hby d5_64)
  refine OEnd.go (g' := (mkF m 67 #[.val (.ref a0), .val (.int (1 : Int32))] [(.int (0 : Int32)), (.int (1 : Int32)), (.int (0 : Int32)), (.ref w1)])) st8 ?_
  refine OEnd.go (T' := T8) (g' := (mkF m 69 #[.val (.ref a0), .val (.int (1 : Int32))] [(.int (1 : Int32)), (.int (1 : Int32)), (.int (0 : Int32)), (.ref w1)])) (fun t k => ?_) ?_
  · show Steps p.tables e below (T8.setTop (mkF m 67 #[.val (.ref a0), .val (.int (1 : Int32))] [(.int (0 : Int32)), (.int (1 : Int32)), (.int (0 : Int32)), (.ref w1)])) t
    refine XS.iconst X8.here hx rfl (hb hby d5_67) ?_
    show Steps p.tables e below (T8.setTop (mkF m 68 #[.val (.ref a0), .val (.int (1 : Int32))] [(.int (1 : Int32)), (.int (0 : Int32)), (.int (1 : Int32)), (.int (0 : Int32)), (.ref w1)])) t
    refine XS.iadd X8.here hx rfl (hb hby d5_68) rfl ?_
    show Steps p.tables e below (T8.setTop (mkF m 69 #[.val (.ref a0), .val (.int (1 : Int32))] [(.int (1 : Int32)), (.int (1 : Int32)), (.int (0 : Int32)), (.ref w1)])) t
    exact k
  obtain ⟨_, _, ⟨T9, L9, k9, n9⟩, -, X9, ⟨Lc9, hQ9, l9, y9, z9⟩, st9⟩ := Jvm.LawKit.callS X8 hx (y := (⟨"java/util/Arrays", "fill", "([IIII)V"⟩ : MethodName)) hown (mvT hZ (hw _ (List.mem_of_getElem? (i := 34) rfl))) (mvT hZ (hw _ (List.mem_of_getElem? (i := 35) rfl))) (mvT hZ (hw _ (List.mem_of_getElem? (i := 36) rfl))) (mvT hZ (hw _ (List.mem_of_getElem? (i := 37) rfl))) (by decide) (backOf (W := 0) (rm6 l Z aZ hw [] w1 (1 : Int32) y0 h0 n0 Z0 P7 P10) hZ (hw _ (List.mem_of_getElem? (i := 37) rfl)) (hw _ (List.mem_of_getElem? (i := 36) rfl)) (by decide) (by decide)) (g := (mkF m 69 #[.val (.ref a0), .val (.int (1 : Int32))] [(.int (1 : Int32)), (.int (1 : Int32)), (.int (0 : Int32)), (.ref w1)])) rfl (by rw [hml]; rfl) (argsL := [(.ref w1), (.int (0 : Int32)), (.int (1 : Int32)), (.int (1 : Int32))]) (rest := []) (lenOf pd___IIII_V rfl) rfl (by show 2 * 0 + _ ≤ _; exact Nat.le_of_eq rfl) (hb hby d5_69) (fun _ _ => ⟨rfl, e8, (by decide : 0 + 0 ≤ _), (by decide : 0 + 0 ≤ _)⟩)
  dsimp only [Pt.U, Pt.locs, Pt.cells, Pt.slots] at X9 l9 y9 z9 st9 hQ9
  subst l9 y9 z9
  obtain ⟨rfl, N9q, u9_0, u9_1⟩ := hQ9
  have N9 := Fr.app N0 N9q
  have Z9 : n0 ≤ T9.heap.size := Nat.le_trans Z0 u9_0.1
  have K9 : Keep h0 T9.heap [a0, w1] := K0.trans u9_0 (allS (Or.inl (List.mem_of_getElem? (i := 1) rfl)) all0)
  have fc10 : Fld Z T9.heap a0 "com/example/wedgetree/wedgetree/core/OpenedNodes" "waitingDepths" "[I" (.ref w1) := (P0.keep u9_0 (ninS P11 nin0))
  have fc11 : Fld Z T9.heap a0 "com/example/wedgetree/wedgetree/core/OpenedNodes" "waiting" "I" (.int (0 : Int32)) := (P1.keep u9_0 (ninS P11 nin0))
  have fc12 : Fld Z T9.heap a0 "com/example/wedgetree/wedgetree/core/OpenedNodes" "holdsAnswer" "[Z" (.ref r1) := (P2.keep u9_0 (ninS P11 nin0))
  have fc13 : Fld Z T9.heap a0 "com/example/wedgetree/wedgetree/core/OpenedNodes" "tallying" "Z" (.int (1 : Int32)) := (P3.keep u9_0 (ninS P11 nin0))
  have fc14 : Fld Z T9.heap a0 "com/example/wedgetree/wedgetree/core/OpenedNodes" "depth" "I" (.int (0 : Int32)) := (P4.keep u9_0 (ninS P11 nin0))
  have fc15 : Fld Z T9.heap a0 "com/example/wedgetree/wedgetree/core/OpenedNodes" "opened" "J" (.long oo) := (P5.keep u9_0 (ninS P11 nin0))
  have fc16 : Fld Z T9.heap a0 "com/example/wedgetree/wedgetree/core/OpenedNodes" "holding" "J" (.long hv) := (P6.keep u9_0 (ninS P11 nin0))
  have fc17 : Exa Z T9.heap a0 "com/example/wedgetree/wedgetree/core/OpenedNodes" := (P8.keep u9_0)
  refine OEnd.go (g' := (mkF m 72 #[.val (.ref a0), .val (.int (1 : Int32))] [])) st9 ?_
  refine OEnd.go (T' := T9) (g' := (mkF m 74 #[.val (.ref a0), .val (.int (1 : Int32))] [(.ref a0), (.ref a0)])) (fun t k => ?_) ?_
  · show Steps p.tables e below (T9.setTop (mkF m 72 #[.val (.ref a0), .val (.int (1 : Int32))] [])) t
    refine XS.aloadN X9.here hx rfl (hb hby d5_72) rfl rfl ?_
    show Steps p.tables e below (T9.setTop (mkF m 73 #[.val (.ref a0), .val (.int (1 : Int32))] [(.ref a0)])) t
    refine XS.dup X9.here hx rfl (hb hby d5_73) rfl rfl ?_
    show Steps p.tables e below (T9.setTop (mkF m 74 #[.val (.ref a0), .val (.int (1 : Int32))] [(.ref a0), (.ref a0)])) t
    exact k
  obtain ⟨T18, X18, e18, st18⟩ := getF X9 hx hZ hown (host := "") (Or.inl (hw _ (List.mem_of_getElem? (i := 15) rfl))) Via.refl rfl fc11 (g := (mkF m 74 #[.val (.ref a0), .val (.int (1 : Int32))] [(.ref a0), (.ref a0)])) rfl rfl (hb hby d5_74)
  refine OEnd.go (g' := (mkF m 77 #[.val (.ref a0), .val (.int (1 : Int32))] [(.int (0 : Int32)), (.ref a0)])) st18 ?_
  refine OEnd.go (T' := T18) (g' := (mkF m 79 #[.val (.ref a0), .val (.int (1 : Int32))] [(.int (1 : Int32)), (.ref a0)])) (fun t k => ?_) ?_
  · show Steps p.tables e below (T18.setTop (mkF m 77 #[.val (.ref a0), .val (.int (1 : Int32))] [(.int (0 : Int32)), (.ref a0)])) t
    refine XS.iloadN X18.here hx rfl (hb hby d5_77) rfl ?_
    show Steps p.tables e below (T18.setTop (mkF m 78 #[.val (.ref a0), .val (.int (1 : Int32))] [(.int (1 : Int32)), (.int (0 : Int32)), (.ref a0)])) t
    refine XS.iadd X18.here hx rfl (hb hby d5_78) rfl ?_
    show Steps p.tables e below (T18.setTop (mkF m 79 #[.val (.ref a0), .val (.int (1 : Int32))] [(.int (1 : Int32)), (.ref a0)])) t
    exact k
  obtain ⟨T19, h19, X19, e19, W19, st19⟩ := putF X18 hx hZ hown (host := "") (Or.inl (hw _ (List.mem_of_getElem? (i := 15) rfl))) Via.refl e18 fc11 fc17 (Or.inl (hw _ (List.mem_of_getElem? (i := 16) rfl))) (hw _ (List.mem_of_getElem? (i := 1) rfl)) (ty := .int) (by decide) rfl rfl (g := (mkF m 79 #[.val (.ref a0), .val (.int (1 : Int32))] [(.int (1 : Int32)), (.ref a0)])) rfl rfl (hb hby d5_79)
  have N19 := Fr.snoc X19 N9 P9
  have Z19 : n0 ≤ h19.size := Nat.le_trans Z9 (Keep.of_wr W19).1
  have K19 : Keep h0 h19 [a0, w1] := K9.wr W19 (Or.inl (List.mem_of_getElem? (i := 0) rfl))
  have fc20 : Fld Z h19 a0 "com/example/wedgetree/wedgetree/core/OpenedNodes" "waitingDepths" "[I" (.ref w1) := (fc10.other W19 (Or.inr (slot_ne (Or.inl (hw _ (List.mem_of_getElem? (i := 14) rfl))) (Or.inl (hw _ (List.mem_of_getElem? (i := 16) rfl))) (by decide) (t := (.array .int)) (t' := .int) (by decide) (by decide))))
  have fc21 : Fld Z h19 a0 "com/example/wedgetree/wedgetree/core/OpenedNodes" "waiting" "I" (.int (1 : Int32)) := (fc11.same W19)
  have fc22 : Fld Z h19 a0 "com/example/wedgetree/wedgetree/core/OpenedNodes" "holdsAnswer" "[Z" (.ref r1) := (fc12.other W19 (Or.inr (slot_ne (Or.inl (hw _ (List.mem_of_getElem? (i := 19) rfl))) (Or.inl (hw _ (List.mem_of_getElem? (i := 16) rfl))) (by decide) (t := (.array .boolean)) (t' := .int) (by decide) (by decide))))
  have fc23 : Fld Z h19 a0 "com/example/wedgetree/wedgetree/core/OpenedNodes" "tallying" "Z" (.int (1 : Int32)) := (fc13.other W19 (Or.inr (slot_ne (Or.inr (hw _ (List.mem_of_getElem? (i := 21) rfl))) (Or.inl (hw _ (List.mem_of_getElem? (i := 16) rfl))) (by decide) (t := .boolean) (t' := .int) (by decide) (by decide))))
  have fc24 : Fld Z h19 a0 "com/example/wedgetree/wedgetree/core/OpenedNodes" "depth" "I" (.int (0 : Int32)) := (fc14.other W19 (Or.inr (slot_ne (Or.inl (hw _ (List.mem_of_getElem? (i := 28) rfl))) (Or.inl (hw _ (List.mem_of_getElem? (i := 16) rfl))) (by decide) (t := .int) (t' := .int) (by decide) (by decide))))
  have fc25 : Fld Z h19 a0 "com/example/wedgetree/wedgetree/core/OpenedNodes" "opened" "J" (.long oo) := (fc15.other W19 (Or.inr (slot_ne (Or.inl (hw _ (List.mem_of_getElem? (i := 53) rfl))) (Or.inl (hw _ (List.mem_of_getElem? (i := 16) rfl))) (by decide) (t := .long) (t' := .int) (by decide) (by decide))))
  have fc26 : Fld Z h19 a0 "com/example/wedgetree/wedgetree/core/OpenedNodes" "holding" "J" (.long hv) := (fc16.other W19 (Or.inr (slot_ne (Or.inl (hw _ (List.mem_of_getElem? (i := 74) rfl))) (Or.inl (hw _ (List.mem_of_getElem? (i := 16) rfl))) (by decide) (t := .long) (t' := .int) (by decide) (by decide))))
  have fc27 : Exa Z h19 a0 "com/example/wedgetree/wedgetree/core/OpenedNodes" := (fc17.wr W19)
  have fc28 : OArr Z h19 w1 .int (1 : Int32) [(.int (1 : Int32))] (.int (0 : Int32)) := (u9_1.other W19 (Ne.symm P11))
  refine OEnd.go (g' := (mkF m 82 #[.val (.ref a0), .val (.int (1 : Int32))] [])) st19 ?_
  exact OEnd.void X19 hx Bd.returns hlk (hb hby d5_82) ⟨rfl, N19, (own_at e19 (P := fun h => Keep h0 h [a0, w1]) K19), (own_at e19 (P := fun h => Exa Z h a0 "com/example/wedgetree/wedgetree/core/OpenedNodes") fc27), (own_at e19 (P := fun h => Fld Z h a0 "com/example/wedgetree/wedgetree/core/OpenedNodes" "waitingDepths" "[I" (.ref w1)) fc20), (own_at e19 (P := fun h => Fld Z h a0 "com/example/wedgetree/wedgetree/core/OpenedNodes" "waiting" "I" (.int (1 : Int32))) fc21), (own_at e19 (P := fun h => Fld Z h a0 "com/example/wedgetree/wedgetree/core/OpenedNodes" "holdsAnswer" "[Z" (.ref r1)) fc22), (own_at e19 (P := fun h => Fld Z h a0 "com/example/wedgetree/wedgetree/core/OpenedNodes" "tallying" "Z" (.int (1 : Int32))) fc23), (own_at e19 (P := fun h => Fld Z h a0 "com/example/wedgetree/wedgetree/core/OpenedNodes" "depth" "I" (.int (0 : Int32))) fc24), (own_at e19 (P := fun h => Fld Z h a0 "com/example/wedgetree/wedgetree/core/OpenedNodes" "opened" "J" (.long oo)) fc25), (own_at e19 (P := fun h => Fld Z h a0 "com/example/wedgetree/wedgetree/core/OpenedNodes" "holding" "J" (.long hv)) fc26), (own_at e19 (P := fun h => OArr Z h w1 .int (1 : Int32) [(.int (1 : Int32))] (.int (0 : Int32))) fc28)⟩ (by decide) (by decide)
theorem ef_5_1 (m : MethodId) (x0 : Addr) : entryFrame m #[(.ref x0), (.int (1 : Int32))] 2 = mkF m 0 #[.val (.ref x0), .val (.int (1 : Int32))] [] := by first | (simp [entryFrame, mkF, argsToLocals, Value.category]; done) | rfl
def Q5_1 (Z : State) (a0 : Addr) (w1 : Addr) (r1 : Addr) (y0 : Int32) (oo : Int64) (hv : Int64) (h0 : Heap) (n0 : Nat) (v : Option Value) (h : Heap) (L : List Loc) : Prop := v = none ∧ Fr n0 L ∧ Keep h0 h [a0, w1] ∧ Exa Z h a0 "com/example/wedgetree/wedgetree/core/OpenedNodes" ∧ Fld Z h a0 "com/example/wedgetree/wedgetree/core/OpenedNodes" "waitingDepths" "[I" (.ref w1) ∧ Fld Z h a0 "com/example/wedgetree/wedgetree/core/OpenedNodes" "waiting" "I" (.int (1 : Int32)) ∧ Fld Z h a0 "com/example/wedgetree/wedgetree/core/OpenedNodes" "holdsAnswer" "[Z" (.ref r1) ∧ Fld Z h a0 "com/example/wedgetree/wedgetree/core/OpenedNodes" "tallying" "Z" (.int (1 : Int32)) ∧ Fld Z h a0 "com/example/wedgetree/wedgetree/core/OpenedNodes" "depth" "I" (.int (1 : Int32)) ∧ Fld Z h a0 "com/example/wedgetree/wedgetree/core/OpenedNodes" "opened" "J" (.long oo) ∧ Fld Z h a0 "com/example/wedgetree/wedgetree/core/OpenedNodes" "holding" "J" (.long hv) ∧ OArr Z h w1 .int (1 : Int32) [(.int (2 : Int32))] (.int (0 : Int32))
set_option maxRecDepth 65536 in
set_option maxHeartbeats 40000000 in
theorem rm5_1 (l : Launch) (Z : State) (aZ : Array Value) (hw : ∀ d ∈ tables_1, d.before aZ Z = true) (ws : List Jvm.Cond) (a0 : Addr) (w1 : Addr) (r1 : Addr) (y0 : Int32) (oo : Int64) (hv : Int64) (h0 : Heap) (n0 : Nat) (Z0 : n0 ≤ h0.size) (P0 : Fld Z h0 a0 "com/example/wedgetree/wedgetree/core/OpenedNodes" "waitingDepths" "[I" (.ref w1)) (P1 : Fld Z h0 a0 "com/example/wedgetree/wedgetree/core/OpenedNodes" "waiting" "I" (.int (0 : Int32))) (P2 : Fld Z h0 a0 "com/example/wedgetree/wedgetree/core/OpenedNodes" "holdsAnswer" "[Z" (.ref r1)) (P3 : Fld Z h0 a0 "com/example/wedgetree/wedgetree/core/OpenedNodes" "tallying" "Z" (.int (1 : Int32))) (P4 : Fld Z h0 a0 "com/example/wedgetree/wedgetree/core/OpenedNodes" "depth" "I" (.int (1 : Int32))) (P5 : Fld Z h0 a0 "com/example/wedgetree/wedgetree/core/OpenedNodes" "opened" "J" (.long oo)) (P6 : Fld Z h0 a0 "com/example/wedgetree/wedgetree/core/OpenedNodes" "holding" "J" (.long hv)) (P7 : OArr Z h0 w1 .int (1 : Int32) [(.int y0)] (.int (0 : Int32))) (P8 : Exa Z h0 a0 "com/example/wedgetree/wedgetree/core/OpenedNodes") (P9 : n0 ≤ a0) (P10 : n0 ≤ w1) (P11 : a0 ≠ w1) :
    MetFree l (⟨"com/example/wedgetree/wedgetree/core/OpenedNodes", "addWaiting", "(I)V"⟩ : MethodName) (head1 (Jvm.Cond.code (⟨"com/example/wedgetree/wedgetree/core/OpenedNodes", "addWaiting", "(I)V"⟩ : MethodName) prog_27_method_4_code 2 none :: ws) ({ frames := 2, cells := 0, slots := 0, locals := 30 } : Room)) (fun a U => a = #[(.ref a0), (.int (1 : Int32))] ∧ Z.Warmed39 U.vm ∧ U.heap = h0) (fun _ _ _ _ _ => True) (fun _ U o U' => ∃ v L, o = .returned v ∧ Q5_1 Z a0 w1 r1 y0 oo hv h0 n0 v U'.heap L ∧ FrameEnd U o U' L ({ frames := 2, cells := 0, slots := 0, locals := 30 } : Room).cells ({ frames := 2, cells := 0, slots := 0, locals := 30 } : Room).slots) := by
  refine MetFree.of_bodySF (plainFor_of_name pn_com_example_wedgetree_wedgetree_core_OpenedNodes) hisR ?_
  intro p e s m args below meth c s₁ Bd hml0 hP hK
  obtain ⟨rfl, hZ, hh⟩ := hP
  have hx := Bd.exec
  have hby := Bd.bytes
  have hlk : meth.locks = false := BodyLoose.notSynchronized Bd
  have hml : c.maxLocals = 2 := hml0
  have hown : s.vm.findClass "com/example/wedgetree/wedgetree/core/OpenedNodes" = some m.cls := findClass_of_methodNamed Bd.named
  have hnm := (name_of_methodNamed Bd.named Bd.method).1
  have X0 : Stand p l e ({ frames := 2, cells := 0, slots := 0, locals := 30 } : Room) s m #[(.ref a0), (.int (1 : Int32))] below meth c s₁ [] 0 0 := Stand.of_body Bd
  have e0 : s₁.heap = h0 := by rw [← hh, Bd.state]; rfl
  have N0 := Fr.nil n0
  have K0 : Keep h0 h0 [a0, w1] := Keep.refl _ _
  show OEnd p e below s s₁ (entryFrame m #[(.ref a0), (.int (1 : Int32))] 2) (Q5_1 Z a0 w1 r1 y0 oo hv h0 n0) ({ frames := 2, cells := 0, slots := 0, locals := 30 } : Room).cells ({ frames := 2, cells := 0, slots := 0, locals := 30 } : Room).slots
  refine OEnd.go (g' := (mkF m 0 #[.val (.ref a0), .val (.int (1 : Int32))] [])) (fun _ k => castTop (ef_5_1 m a0) k) ?_
  refine OEnd.go (T' := s₁) (g' := (mkF m 1 #[.val (.ref a0), .val (.int (1 : Int32))] [(.ref a0)])) (fun t k => ?_) ?_
  · show Steps p.tables e below (s₁.setTop (mkF m 0 #[.val (.ref a0), .val (.int (1 : Int32))] [])) t
    refine XS.aloadN X0.here hx rfl (hb hby d5_0) rfl rfl ?_
    show Steps p.tables e below (s₁.setTop (mkF m 1 #[.val (.ref a0), .val (.int (1 : Int32))] [(.ref a0)])) t
    exact k
  obtain ⟨T1, X1, e1, st1⟩ := getF X0 hx hZ hown (host := "") (Or.inl (hw _ (List.mem_of_getElem? (i := 20) rfl))) Via.refl e0 P3 (g := (mkF m 1 #[.val (.ref a0), .val (.int (1 : Int32))] [(.ref a0)])) rfl rfl (hb hby d5_1)
  refine OEnd.go (g' := (mkF m 4 #[.val (.ref a0), .val (.int (1 : Int32))] [(.int (1 : Int32))])) st1 ?_
  refine OEnd.go (T' := T1) (g' := (mkF m 9 #[.val (.ref a0), .val (.int (1 : Int32))] [(.ref a0)])) (fun t k => ?_) ?_
  · show Steps p.tables e below (T1.setTop (mkF m 4 #[.val (.ref a0), .val (.int (1 : Int32))] [(.int (1 : Int32))])) t
    refine XS.ifYes X1.here hx rfl (pc0 := 4) (pc' := 8) rfl (hb hby d5_4) rfl ((if0 _ _).trans (feq ((by decide))).2) (by decide) (by decide) ?_
    show Steps p.tables e below (T1.setTop (mkF m 8 #[.val (.ref a0), .val (.int (1 : Int32))] [])) t
    refine XS.aloadN X1.here hx rfl (hb hby d5_8) rfl rfl ?_
    show Steps p.tables e below (T1.setTop (mkF m 9 #[.val (.ref a0), .val (.int (1 : Int32))] [(.ref a0)])) t
    exact k
  obtain ⟨T2, X2, e2, st2⟩ := getF X1 hx hZ hown (host := "") (Or.inl (hw _ (List.mem_of_getElem? (i := 13) rfl))) Via.refl e1 P0 (g := (mkF m 9 #[.val (.ref a0), .val (.int (1 : Int32))] [(.ref a0)])) rfl rfl (hb hby d5_9)
  refine OEnd.go (g' := (mkF m 12 #[.val (.ref a0), .val (.int (1 : Int32))] [(.ref w1)])) st2 ?_
  obtain ⟨kc3, cl3, Ar3, q3, S3, M3, H3, G3⟩ := id P7
  refine OEnd.go (T' := T2) (g' := (mkF m 13 #[.val (.ref a0), .val (.int (1 : Int32))] [(.int (1 : Int32))])) (fun t k => ?_) ?_
  · refine X2.arraylength hx (by rw [e2]; exact Ar3.1) (State.isArrayOf_alike hZ.alike Ar3.2.1) (g := (mkF m 12 #[.val (.ref a0), .val (.int (1 : Int32))] [(.ref w1)])) rfl rfl (hb hby d5_12) _ ?_
    rw [len_of S3 M3]
    exact k
  refine OEnd.go (T' := T2) (g' := (mkF m 14 #[.val (.ref a0), .val (.int (1 : Int32))] [(.ref a0), (.int (1 : Int32))])) (fun t k => ?_) ?_
  · show Steps p.tables e below (T2.setTop (mkF m 13 #[.val (.ref a0), .val (.int (1 : Int32))] [(.int (1 : Int32))])) t
    refine XS.aloadN X2.here hx rfl (hb hby d5_13) rfl rfl ?_
    show Steps p.tables e below (T2.setTop (mkF m 14 #[.val (.ref a0), .val (.int (1 : Int32))] [(.ref a0), (.int (1 : Int32))])) t
    exact k
  obtain ⟨T4, X4, e4, st4⟩ := getF X2 hx hZ hown (host := "") (Or.inl (hw _ (List.mem_of_getElem? (i := 15) rfl))) Via.refl e2 P1 (g := (mkF m 14 #[.val (.ref a0), .val (.int (1 : Int32))] [(.ref a0), (.int (1 : Int32))])) rfl rfl (hb hby d5_14)
  refine OEnd.go (g' := (mkF m 17 #[.val (.ref a0), .val (.int (1 : Int32))] [(.int (0 : Int32)), (.int (1 : Int32))])) st4 ?_
  refine OEnd.go (T' := T4) (g' := (mkF m 50 #[.val (.ref a0), .val (.int (1 : Int32))] [(.ref a0)])) (fun t k => ?_) ?_
  · show Steps p.tables e below (T4.setTop (mkF m 17 #[.val (.ref a0), .val (.int (1 : Int32))] [(.int (0 : Int32)), (.int (1 : Int32))])) t
    refine XS.isub X4.here hx rfl (hb hby d5_17) rfl ?_
    show Steps p.tables e below (T4.setTop (mkF m 18 #[.val (.ref a0), .val (.int (1 : Int32))] [(.int (1 : Int32))])) t
    refine XS.iloadN X4.here hx rfl (hb hby d5_18) rfl ?_
    show Steps p.tables e below (T4.setTop (mkF m 19 #[.val (.ref a0), .val (.int (1 : Int32))] [(.int (1 : Int32)), (.int (1 : Int32))])) t
    refine XS.icmpYes X4.here hx rfl (pc0 := 19) (pc' := 49) rfl (hb hby d5_19) rfl (flt ((by decide))).2.1 (by decide) (by decide) ?_
    show Steps p.tables e below (T4.setTop (mkF m 49 #[.val (.ref a0), .val (.int (1 : Int32))] [])) t
    refine XS.aloadN X4.here hx rfl (hb hby d5_49) rfl rfl ?_
    show Steps p.tables e below (T4.setTop (mkF m 50 #[.val (.ref a0), .val (.int (1 : Int32))] [(.ref a0)])) t
    exact k
  obtain ⟨T5, X5, e5, st5⟩ := getF X4 hx hZ hown (host := "") (Or.inl (hw _ (List.mem_of_getElem? (i := 13) rfl))) Via.refl e4 P0 (g := (mkF m 50 #[.val (.ref a0), .val (.int (1 : Int32))] [(.ref a0)])) rfl rfl (hb hby d5_50)
  refine OEnd.go (g' := (mkF m 53 #[.val (.ref a0), .val (.int (1 : Int32))] [(.ref w1)])) st5 ?_
  refine OEnd.go (T' := T5) (g' := (mkF m 54 #[.val (.ref a0), .val (.int (1 : Int32))] [(.ref a0), (.ref w1)])) (fun t k => ?_) ?_
  · show Steps p.tables e below (T5.setTop (mkF m 53 #[.val (.ref a0), .val (.int (1 : Int32))] [(.ref w1)])) t
    refine XS.aloadN X5.here hx rfl (hb hby d5_53) rfl rfl ?_
    show Steps p.tables e below (T5.setTop (mkF m 54 #[.val (.ref a0), .val (.int (1 : Int32))] [(.ref a0), (.ref w1)])) t
    exact k
  obtain ⟨T6, X6, e6, st6⟩ := getF X5 hx hZ hown (host := "") (Or.inl (hw _ (List.mem_of_getElem? (i := 15) rfl))) Via.refl e5 P1 (g := (mkF m 54 #[.val (.ref a0), .val (.int (1 : Int32))] [(.ref a0), (.ref w1)])) rfl rfl (hb hby d5_54)
  refine OEnd.go (g' := (mkF m 57 #[.val (.ref a0), .val (.int (1 : Int32))] [(.int (0 : Int32)), (.ref w1)])) st6 ?_
  refine OEnd.go (T' := T6) (g' := (mkF m 58 #[.val (.ref a0), .val (.int (1 : Int32))] [(.ref a0), (.int (0 : Int32)), (.ref w1)])) (fun t k => ?_) ?_
  · show Steps p.tables e below (T6.setTop (mkF m 57 #[.val (.ref a0), .val (.int (1 : Int32))] [(.int (0 : Int32)), (.ref w1)])) t
    refine XS.aloadN X6.here hx rfl (hb hby d5_57) rfl rfl ?_
    show Steps p.tables e below (T6.setTop (mkF m 58 #[.val (.ref a0), .val (.int (1 : Int32))] [(.ref a0), (.int (0 : Int32)), (.ref w1)])) t
    exact k
  obtain ⟨T7, X7, e7, st7⟩ := getF X6 hx hZ hown (host := "") (Or.inl (hw _ (List.mem_of_getElem? (i := 15) rfl))) Via.refl e6 P1 (g := (mkF m 58 #[.val (.ref a0), .val (.int (1 : Int32))] [(.ref a0), (.int (0 : Int32)), (.ref w1)])) rfl rfl (hb hby d5_58)
  refine OEnd.go (g' := (mkF m 61 #[.val (.ref a0), .val (.int (1 : Int32))] [(.int (0 : Int32)), (.int (0 : Int32)), (.ref w1)])) st7 ?_
  refine OEnd.go (T' := T7) (g' := (mkF m 64 #[.val (.ref a0), .val (.int (1 : Int32))] [(.ref a0), (.int (1 : Int32)), (.int (0 : Int32)), (.ref w1)])) (fun t k => ?_) ?_
  · show Steps p.tables e below (T7.setTop (mkF m 61 #[.val (.ref a0), .val (.int (1 : Int32))] [(.int (0 : Int32)), (.int (0 : Int32)), (.ref w1)])) t
    refine XS.iloadN X7.here hx rfl (hb hby d5_61) rfl ?_
    show Steps p.tables e below (T7.setTop (mkF m 62 #[.val (.ref a0), .val (.int (1 : Int32))] [(.int (1 : Int32)), (.int (0 : Int32)), (.int (0 : Int32)), (.ref w1)])) t
    refine XS.iadd X7.here hx rfl (hb hby d5_62) rfl ?_
    show Steps p.tables e below (T7.setTop (mkF m 63 #[.val (.ref a0), .val (.int (1 : Int32))] [(.int (1 : Int32)), (.int (0 : Int32)), (.ref w1)])) t
    refine XS.aloadN X7.here hx rfl (hb hby d5_63) rfl rfl ?_
    show Steps p.tables e below (T7.setTop (mkF m 64 #[.val (.ref a0), .val (.int (1 : Int32))] [(.ref a0), (.int (1 : Int32)), (.int (0 : Int32)), (.ref w1)])) t
    exact k
  obtain ⟨T8, X8, e8, st8⟩ := getF X7 hx hZ hown (host := "") (Or.inl (hw _ (List.mem_of_getElem? (i := 27) rfl))) Via.refl e7 P4 (g := (mkF m 64 #[.val (.ref a0), .val (.int (1 : Int32))] [(.ref a0), (.int (1 : Int32)), (.int (0 : Int32)), (.ref w1)])) rfl rfl (hb hby d5_64)
  refine OEnd.go (g' := (mkF m 67 #[.val (.ref a0), .val (.int (1 : Int32))] [(.int (1 : Int32)), (.int (1 : Int32)), (.int (0 : Int32)), (.ref w1)])) st8 ?_
  refine OEnd.go (T' := T8) (g' := (mkF m 69 #[.val (.ref a0), .val (.int (1 : Int32))] [(.int (2 : Int32)), (.int (1 : Int32)), (.int (0 : Int32)), (.ref w1)])) (fun t k => ?_) ?_
  · show Steps p.tables e below (T8.setTop (mkF m 67 #[.val (.ref a0), .val (.int (1 : Int32))] [(.int (1 : Int32)), (.int (1 : Int32)), (.int (0 : Int32)), (.ref w1)])) t
    refine XS.iconst X8.here hx rfl (hb hby d5_67) ?_
    show Steps p.tables e below (T8.setTop (mkF m 68 #[.val (.ref a0), .val (.int (1 : Int32))] [(.int (1 : Int32)), (.int (1 : Int32)), (.int (1 : Int32)), (.int (0 : Int32)), (.ref w1)])) t
    refine XS.iadd X8.here hx rfl (hb hby d5_68) rfl ?_
    show Steps p.tables e below (T8.setTop (mkF m 69 #[.val (.ref a0), .val (.int (1 : Int32))] [(.int (2 : Int32)), (.int (1 : Int32)), (.int (0 : Int32)), (.ref w1)])) t
    exact k
  obtain ⟨_, _, ⟨T9, L9, k9, n9⟩, -, X9, ⟨Lc9, hQ9, l9, y9, z9⟩, st9⟩ := Jvm.LawKit.callS X8 hx (y := (⟨"java/util/Arrays", "fill", "([IIII)V"⟩ : MethodName)) hown (mvT hZ (hw _ (List.mem_of_getElem? (i := 34) rfl))) (mvT hZ (hw _ (List.mem_of_getElem? (i := 35) rfl))) (mvT hZ (hw _ (List.mem_of_getElem? (i := 36) rfl))) (mvT hZ (hw _ (List.mem_of_getElem? (i := 37) rfl))) (by decide) (backOf (W := 0) (rm6 l Z aZ hw [] w1 (2 : Int32) y0 h0 n0 Z0 P7 P10) hZ (hw _ (List.mem_of_getElem? (i := 37) rfl)) (hw _ (List.mem_of_getElem? (i := 36) rfl)) (by decide) (by decide)) (g := (mkF m 69 #[.val (.ref a0), .val (.int (1 : Int32))] [(.int (2 : Int32)), (.int (1 : Int32)), (.int (0 : Int32)), (.ref w1)])) rfl (by rw [hml]; rfl) (argsL := [(.ref w1), (.int (0 : Int32)), (.int (1 : Int32)), (.int (2 : Int32))]) (rest := []) (lenOf pd___IIII_V rfl) rfl (by show 2 * 0 + _ ≤ _; exact Nat.le_of_eq rfl) (hb hby d5_69) (fun _ _ => ⟨rfl, e8, (by decide : 0 + 0 ≤ _), (by decide : 0 + 0 ≤ _)⟩)
  dsimp only [Pt.U, Pt.locs, Pt.cells, Pt.slots] at X9 l9 y9 z9 st9 hQ9
  subst l9 y9 z9
  obtain ⟨rfl, N9q, u9_0, u9_1⟩ := hQ9
  have N9 := Fr.app N0 N9q
  have Z9 : n0 ≤ T9.heap.size := Nat.le_trans Z0 u9_0.1
  have K9 : Keep h0 T9.heap [a0, w1] := K0.trans u9_0 (allS (Or.inl (List.mem_of_getElem? (i := 1) rfl)) all0)
  have fc10 : Fld Z T9.heap a0 "com/example/wedgetree/wedgetree/core/OpenedNodes" "waitingDepths" "[I" (.ref w1) := (P0.keep u9_0 (ninS P11 nin0))
  have fc11 : Fld Z T9.heap a0 "com/example/wedgetree/wedgetree/core/OpenedNodes" "waiting" "I" (.int (0 : Int32)) := (P1.keep u9_0 (ninS P11 nin0))
  have fc12 : Fld Z T9.heap a0 "com/example/wedgetree/wedgetree/core/OpenedNodes" "holdsAnswer" "[Z" (.ref r1) := (P2.keep u9_0 (ninS P11 nin0))
  have fc13 : Fld Z T9.heap a0 "com/example/wedgetree/wedgetree/core/OpenedNodes" "tallying" "Z" (.int (1 : Int32)) := (P3.keep u9_0 (ninS P11 nin0))
  have fc14 : Fld Z T9.heap a0 "com/example/wedgetree/wedgetree/core/OpenedNodes" "depth" "I" (.int (1 : Int32)) := (P4.keep u9_0 (ninS P11 nin0))
  have fc15 : Fld Z T9.heap a0 "com/example/wedgetree/wedgetree/core/OpenedNodes" "opened" "J" (.long oo) := (P5.keep u9_0 (ninS P11 nin0))
  have fc16 : Fld Z T9.heap a0 "com/example/wedgetree/wedgetree/core/OpenedNodes" "holding" "J" (.long hv) := (P6.keep u9_0 (ninS P11 nin0))
  have fc17 : Exa Z T9.heap a0 "com/example/wedgetree/wedgetree/core/OpenedNodes" := (P8.keep u9_0)
  refine OEnd.go (g' := (mkF m 72 #[.val (.ref a0), .val (.int (1 : Int32))] [])) st9 ?_
  refine OEnd.go (T' := T9) (g' := (mkF m 74 #[.val (.ref a0), .val (.int (1 : Int32))] [(.ref a0), (.ref a0)])) (fun t k => ?_) ?_
  · show Steps p.tables e below (T9.setTop (mkF m 72 #[.val (.ref a0), .val (.int (1 : Int32))] [])) t
    refine XS.aloadN X9.here hx rfl (hb hby d5_72) rfl rfl ?_
    show Steps p.tables e below (T9.setTop (mkF m 73 #[.val (.ref a0), .val (.int (1 : Int32))] [(.ref a0)])) t
    refine XS.dup X9.here hx rfl (hb hby d5_73) rfl rfl ?_
    show Steps p.tables e below (T9.setTop (mkF m 74 #[.val (.ref a0), .val (.int (1 : Int32))] [(.ref a0), (.ref a0)])) t
    exact k
  obtain ⟨T18, X18, e18, st18⟩ := getF X9 hx hZ hown (host := "") (Or.inl (hw _ (List.mem_of_getElem? (i := 15) rfl))) Via.refl rfl fc11 (g := (mkF m 74 #[.val (.ref a0), .val (.int (1 : Int32))] [(.ref a0), (.ref a0)])) rfl rfl (hb hby d5_74)
  refine OEnd.go (g' := (mkF m 77 #[.val (.ref a0), .val (.int (1 : Int32))] [(.int (0 : Int32)), (.ref a0)])) st18 ?_
  refine OEnd.go (T' := T18) (g' := (mkF m 79 #[.val (.ref a0), .val (.int (1 : Int32))] [(.int (1 : Int32)), (.ref a0)])) (fun t k => ?_) ?_
  · show Steps p.tables e below (T18.setTop (mkF m 77 #[.val (.ref a0), .val (.int (1 : Int32))] [(.int (0 : Int32)), (.ref a0)])) t
    refine XS.iloadN X18.here hx rfl (hb hby d5_77) rfl ?_
    show Steps p.tables e below (T18.setTop (mkF m 78 #[.val (.ref a0), .val (.int (1 : Int32))] [(.int (1 : Int32)), (.int (0 : Int32)), (.ref a0)])) t
    refine XS.iadd X18.here hx rfl (hb hby d5_78) rfl ?_
    show Steps p.tables e below (T18.setTop (mkF m 79 #[.val (.ref a0), .val (.int (1 : Int32))] [(.int (1 : Int32)), (.ref a0)])) t
    exact k
  obtain ⟨T19, h19, X19, e19, W19, st19⟩ := putF X18 hx hZ hown (host := "") (Or.inl (hw _ (List.mem_of_getElem? (i := 15) rfl))) Via.refl e18 fc11 fc17 (Or.inl (hw _ (List.mem_of_getElem? (i := 16) rfl))) (hw _ (List.mem_of_getElem? (i := 1) rfl)) (ty := .int) (by decide) rfl rfl (g := (mkF m 79 #[.val (.ref a0), .val (.int (1 : Int32))] [(.int (1 : Int32)), (.ref a0)])) rfl rfl (hb hby d5_79)
  have N19 := Fr.snoc X19 N9 P9
  have Z19 : n0 ≤ h19.size := Nat.le_trans Z9 (Keep.of_wr W19).1
  have K19 : Keep h0 h19 [a0, w1] := K9.wr W19 (Or.inl (List.mem_of_getElem? (i := 0) rfl))
  have fc20 : Fld Z h19 a0 "com/example/wedgetree/wedgetree/core/OpenedNodes" "waitingDepths" "[I" (.ref w1) := (fc10.other W19 (Or.inr (slot_ne (Or.inl (hw _ (List.mem_of_getElem? (i := 14) rfl))) (Or.inl (hw _ (List.mem_of_getElem? (i := 16) rfl))) (by decide) (t := (.array .int)) (t' := .int) (by decide) (by decide))))
  have fc21 : Fld Z h19 a0 "com/example/wedgetree/wedgetree/core/OpenedNodes" "waiting" "I" (.int (1 : Int32)) := (fc11.same W19)
  have fc22 : Fld Z h19 a0 "com/example/wedgetree/wedgetree/core/OpenedNodes" "holdsAnswer" "[Z" (.ref r1) := (fc12.other W19 (Or.inr (slot_ne (Or.inl (hw _ (List.mem_of_getElem? (i := 19) rfl))) (Or.inl (hw _ (List.mem_of_getElem? (i := 16) rfl))) (by decide) (t := (.array .boolean)) (t' := .int) (by decide) (by decide))))
  have fc23 : Fld Z h19 a0 "com/example/wedgetree/wedgetree/core/OpenedNodes" "tallying" "Z" (.int (1 : Int32)) := (fc13.other W19 (Or.inr (slot_ne (Or.inr (hw _ (List.mem_of_getElem? (i := 21) rfl))) (Or.inl (hw _ (List.mem_of_getElem? (i := 16) rfl))) (by decide) (t := .boolean) (t' := .int) (by decide) (by decide))))
  have fc24 : Fld Z h19 a0 "com/example/wedgetree/wedgetree/core/OpenedNodes" "depth" "I" (.int (1 : Int32)) := (fc14.other W19 (Or.inr (slot_ne (Or.inl (hw _ (List.mem_of_getElem? (i := 28) rfl))) (Or.inl (hw _ (List.mem_of_getElem? (i := 16) rfl))) (by decide) (t := .int) (t' := .int) (by decide) (by decide))))
  have fc25 : Fld Z h19 a0 "com/example/wedgetree/wedgetree/core/OpenedNodes" "opened" "J" (.long oo) := (fc15.other W19 (Or.inr (slot_ne (Or.inl (hw _ (List.mem_of_getElem? (i := 53) rfl))) (Or.inl (hw _ (List.mem_of_getElem? (i := 16) rfl))) (by decide) (t := .long) (t' := .int) (by decide) (by decide))))
  have fc26 : Fld Z h19 a0 "com/example/wedgetree/wedgetree/core/OpenedNodes" "holding" "J" (.long hv) := (fc16.other W19 (Or.inr (slot_ne (Or.inl (hw _ (List.mem_of_getElem? (i := 74) rfl))) (Or.inl (hw _ (List.mem_of_getElem? (i := 16) rfl))) (by decide) (t := .long) (t' := .int) (by decide) (by decide))))
  have fc27 : Exa Z h19 a0 "com/example/wedgetree/wedgetree/core/OpenedNodes" := (fc17.wr W19)
  have fc28 : OArr Z h19 w1 .int (1 : Int32) [(.int (2 : Int32))] (.int (0 : Int32)) := (u9_1.other W19 (Ne.symm P11))
  refine OEnd.go (g' := (mkF m 82 #[.val (.ref a0), .val (.int (1 : Int32))] [])) st19 ?_
  exact OEnd.void X19 hx Bd.returns hlk (hb hby d5_82) ⟨rfl, N19, (own_at e19 (P := fun h => Keep h0 h [a0, w1]) K19), (own_at e19 (P := fun h => Exa Z h a0 "com/example/wedgetree/wedgetree/core/OpenedNodes") fc27), (own_at e19 (P := fun h => Fld Z h a0 "com/example/wedgetree/wedgetree/core/OpenedNodes" "waitingDepths" "[I" (.ref w1)) fc20), (own_at e19 (P := fun h => Fld Z h a0 "com/example/wedgetree/wedgetree/core/OpenedNodes" "waiting" "I" (.int (1 : Int32))) fc21), (own_at e19 (P := fun h => Fld Z h a0 "com/example/wedgetree/wedgetree/core/OpenedNodes" "holdsAnswer" "[Z" (.ref r1)) fc22), (own_at e19 (P := fun h => Fld Z h a0 "com/example/wedgetree/wedgetree/core/OpenedNodes" "tallying" "Z" (.int (1 : Int32))) fc23), (own_at e19 (P := fun h => Fld Z h a0 "com/example/wedgetree/wedgetree/core/OpenedNodes" "depth" "I" (.int (1 : Int32))) fc24), (own_at e19 (P := fun h => Fld Z h a0 "com/example/wedgetree/wedgetree/core/OpenedNodes" "opened" "J" (.long oo)) fc25), (own_at e19 (P := fun h => Fld Z h a0 "com/example/wedgetree/wedgetree/core/OpenedNodes" "holding" "J" (.long hv)) fc26), (own_at e19 (P := fun h => OArr Z h w1 .int (1 : Int32) [(.int (2 : Int32))] (.int (0 : Int32))) fc28)⟩ (by decide) (by decide)
theorem ef_5_2 (m : MethodId) (x0 : Addr) : entryFrame m #[(.ref x0), (.int (1 : Int32))] 2 = mkF m 0 #[.val (.ref x0), .val (.int (1 : Int32))] [] := by first | (simp [entryFrame, mkF, argsToLocals, Value.category]; done) | rfl
def Q5_2 (Z : State) (a0 : Addr) (w1 : Addr) (r1 : Addr) (y0 : Int32) (oo : Int64) (hv : Int64) (h0 : Heap) (n0 : Nat) (v : Option Value) (h : Heap) (L : List Loc) : Prop := v = none ∧ Fr n0 L ∧ Keep h0 h [a0, w1] ∧ Exa Z h a0 "com/example/wedgetree/wedgetree/core/OpenedNodes" ∧ Fld Z h a0 "com/example/wedgetree/wedgetree/core/OpenedNodes" "waitingDepths" "[I" (.ref w1) ∧ Fld Z h a0 "com/example/wedgetree/wedgetree/core/OpenedNodes" "waiting" "I" (.int (1 : Int32)) ∧ Fld Z h a0 "com/example/wedgetree/wedgetree/core/OpenedNodes" "holdsAnswer" "[Z" (.ref r1) ∧ Fld Z h a0 "com/example/wedgetree/wedgetree/core/OpenedNodes" "tallying" "Z" (.int (1 : Int32)) ∧ Fld Z h a0 "com/example/wedgetree/wedgetree/core/OpenedNodes" "depth" "I" (.int (2 : Int32)) ∧ Fld Z h a0 "com/example/wedgetree/wedgetree/core/OpenedNodes" "opened" "J" (.long oo) ∧ Fld Z h a0 "com/example/wedgetree/wedgetree/core/OpenedNodes" "holding" "J" (.long hv) ∧ OArr Z h w1 .int (1 : Int32) [(.int (3 : Int32))] (.int (0 : Int32))
set_option maxRecDepth 65536 in
set_option maxHeartbeats 40000000 in
theorem rm5_2 (l : Launch) (Z : State) (aZ : Array Value) (hw : ∀ d ∈ tables_1, d.before aZ Z = true) (ws : List Jvm.Cond) (a0 : Addr) (w1 : Addr) (r1 : Addr) (y0 : Int32) (oo : Int64) (hv : Int64) (h0 : Heap) (n0 : Nat) (Z0 : n0 ≤ h0.size) (P0 : Fld Z h0 a0 "com/example/wedgetree/wedgetree/core/OpenedNodes" "waitingDepths" "[I" (.ref w1)) (P1 : Fld Z h0 a0 "com/example/wedgetree/wedgetree/core/OpenedNodes" "waiting" "I" (.int (0 : Int32))) (P2 : Fld Z h0 a0 "com/example/wedgetree/wedgetree/core/OpenedNodes" "holdsAnswer" "[Z" (.ref r1)) (P3 : Fld Z h0 a0 "com/example/wedgetree/wedgetree/core/OpenedNodes" "tallying" "Z" (.int (1 : Int32))) (P4 : Fld Z h0 a0 "com/example/wedgetree/wedgetree/core/OpenedNodes" "depth" "I" (.int (2 : Int32))) (P5 : Fld Z h0 a0 "com/example/wedgetree/wedgetree/core/OpenedNodes" "opened" "J" (.long oo)) (P6 : Fld Z h0 a0 "com/example/wedgetree/wedgetree/core/OpenedNodes" "holding" "J" (.long hv)) (P7 : OArr Z h0 w1 .int (1 : Int32) [(.int y0)] (.int (0 : Int32))) (P8 : Exa Z h0 a0 "com/example/wedgetree/wedgetree/core/OpenedNodes") (P9 : n0 ≤ a0) (P10 : n0 ≤ w1) (P11 : a0 ≠ w1) :
    MetFree l (⟨"com/example/wedgetree/wedgetree/core/OpenedNodes", "addWaiting", "(I)V"⟩ : MethodName) (head1 (Jvm.Cond.code (⟨"com/example/wedgetree/wedgetree/core/OpenedNodes", "addWaiting", "(I)V"⟩ : MethodName) prog_27_method_4_code 2 none :: ws) ({ frames := 2, cells := 0, slots := 0, locals := 30 } : Room)) (fun a U => a = #[(.ref a0), (.int (1 : Int32))] ∧ Z.Warmed39 U.vm ∧ U.heap = h0) (fun _ _ _ _ _ => True) (fun _ U o U' => ∃ v L, o = .returned v ∧ Q5_2 Z a0 w1 r1 y0 oo hv h0 n0 v U'.heap L ∧ FrameEnd U o U' L ({ frames := 2, cells := 0, slots := 0, locals := 30 } : Room).cells ({ frames := 2, cells := 0, slots := 0, locals := 30 } : Room).slots) := by
  refine MetFree.of_bodySF (plainFor_of_name pn_com_example_wedgetree_wedgetree_core_OpenedNodes) hisR ?_
  intro p e s m args below meth c s₁ Bd hml0 hP hK
  obtain ⟨rfl, hZ, hh⟩ := hP
  have hx := Bd.exec
  have hby := Bd.bytes
  have hlk : meth.locks = false := BodyLoose.notSynchronized Bd
  have hml : c.maxLocals = 2 := hml0
  have hown : s.vm.findClass "com/example/wedgetree/wedgetree/core/OpenedNodes" = some m.cls := findClass_of_methodNamed Bd.named
  have hnm := (name_of_methodNamed Bd.named Bd.method).1
  have X0 : Stand p l e ({ frames := 2, cells := 0, slots := 0, locals := 30 } : Room) s m #[(.ref a0), (.int (1 : Int32))] below meth c s₁ [] 0 0 := Stand.of_body Bd
  have e0 : s₁.heap = h0 := by rw [← hh, Bd.state]; rfl
  have N0 := Fr.nil n0
  have K0 : Keep h0 h0 [a0, w1] := Keep.refl _ _
  show OEnd p e below s s₁ (entryFrame m #[(.ref a0), (.int (1 : Int32))] 2) (Q5_2 Z a0 w1 r1 y0 oo hv h0 n0) ({ frames := 2, cells := 0, slots := 0, locals := 30 } : Room).cells ({ frames := 2, cells := 0, slots := 0, locals := 30 } : Room).slots
  refine OEnd.go (g' := (mkF m 0 #[.val (.ref a0), .val (.int (1 : Int32))] [])) (fun _ k => castTop (ef_5_2 m a0) k) ?_
  refine OEnd.go (T' := s₁) (g' := (mkF m 1 #[.val (.ref a0), .val (.int (1 : Int32))] [(.ref a0)])) (fun t k => ?_) ?_
  · show Steps p.tables e below (s₁.setTop (mkF m 0 #[.val (.ref a0), .val (.int (1 : Int32))] [])) t
    refine XS.aloadN X0.here hx rfl (hb hby d5_0) rfl rfl ?_
    show Steps p.tables e below (s₁.setTop (mkF m 1 #[.val (.ref a0), .val (.int (1 : Int32))] [(.ref a0)])) t
    exact k
  obtain ⟨T1, X1, e1, st1⟩ := getF X0 hx hZ hown (host := "") (Or.inl (hw _ (List.mem_of_getElem? (i := 20) rfl))) Via.refl e0 P3 (g := (mkF m 1 #[.val (.ref a0), .val (.int (1 : Int32))] [(.ref a0)])) rfl rfl (hb hby d5_1)
  refine OEnd.go (g' := (mkF m 4 #[.val (.ref a0), .val (.int (1 : Int32))] [(.int (1 : Int32))])) st1 ?_
  refine OEnd.go (T' := T1) (g' := (mkF m 9 #[.val (.ref a0), .val (.int (1 : Int32))] [(.ref a0)])) (fun t k => ?_) ?_
  · show Steps p.tables e below (T1.setTop (mkF m 4 #[.val (.ref a0), .val (.int (1 : Int32))] [(.int (1 : Int32))])) t
    refine XS.ifYes X1.here hx rfl (pc0 := 4) (pc' := 8) rfl (hb hby d5_4) rfl ((if0 _ _).trans (feq ((by decide))).2) (by decide) (by decide) ?_
    show Steps p.tables e below (T1.setTop (mkF m 8 #[.val (.ref a0), .val (.int (1 : Int32))] [])) t
    refine XS.aloadN X1.here hx rfl (hb hby d5_8) rfl rfl ?_
    show Steps p.tables e below (T1.setTop (mkF m 9 #[.val (.ref a0), .val (.int (1 : Int32))] [(.ref a0)])) t
    exact k
  obtain ⟨T2, X2, e2, st2⟩ := getF X1 hx hZ hown (host := "") (Or.inl (hw _ (List.mem_of_getElem? (i := 13) rfl))) Via.refl e1 P0 (g := (mkF m 9 #[.val (.ref a0), .val (.int (1 : Int32))] [(.ref a0)])) rfl rfl (hb hby d5_9)
  refine OEnd.go (g' := (mkF m 12 #[.val (.ref a0), .val (.int (1 : Int32))] [(.ref w1)])) st2 ?_
  obtain ⟨kc3, cl3, Ar3, q3, S3, M3, H3, G3⟩ := id P7
  refine OEnd.go (T' := T2) (g' := (mkF m 13 #[.val (.ref a0), .val (.int (1 : Int32))] [(.int (1 : Int32))])) (fun t k => ?_) ?_
  · refine X2.arraylength hx (by rw [e2]; exact Ar3.1) (State.isArrayOf_alike hZ.alike Ar3.2.1) (g := (mkF m 12 #[.val (.ref a0), .val (.int (1 : Int32))] [(.ref w1)])) rfl rfl (hb hby d5_12) _ ?_
    rw [len_of S3 M3]
    exact k
  refine OEnd.go (T' := T2) (g' := (mkF m 14 #[.val (.ref a0), .val (.int (1 : Int32))] [(.ref a0), (.int (1 : Int32))])) (fun t k => ?_) ?_
  · show Steps p.tables e below (T2.setTop (mkF m 13 #[.val (.ref a0), .val (.int (1 : Int32))] [(.int (1 : Int32))])) t
    refine XS.aloadN X2.here hx rfl (hb hby d5_13) rfl rfl ?_
    show Steps p.tables e below (T2.setTop (mkF m 14 #[.val (.ref a0), .val (.int (1 : Int32))] [(.ref a0), (.int (1 : Int32))])) t
    exact k
  obtain ⟨T4, X4, e4, st4⟩ := getF X2 hx hZ hown (host := "") (Or.inl (hw _ (List.mem_of_getElem? (i := 15) rfl))) Via.refl e2 P1 (g := (mkF m 14 #[.val (.ref a0), .val (.int (1 : Int32))] [(.ref a0), (.int (1 : Int32))])) rfl rfl (hb hby d5_14)
  refine OEnd.go (g' := (mkF m 17 #[.val (.ref a0), .val (.int (1 : Int32))] [(.int (0 : Int32)), (.int (1 : Int32))])) st4 ?_
  refine OEnd.go (T' := T4) (g' := (mkF m 50 #[.val (.ref a0), .val (.int (1 : Int32))] [(.ref a0)])) (fun t k => ?_) ?_
  · show Steps p.tables e below (T4.setTop (mkF m 17 #[.val (.ref a0), .val (.int (1 : Int32))] [(.int (0 : Int32)), (.int (1 : Int32))])) t
    refine XS.isub X4.here hx rfl (hb hby d5_17) rfl ?_
    show Steps p.tables e below (T4.setTop (mkF m 18 #[.val (.ref a0), .val (.int (1 : Int32))] [(.int (1 : Int32))])) t
    refine XS.iloadN X4.here hx rfl (hb hby d5_18) rfl ?_
    show Steps p.tables e below (T4.setTop (mkF m 19 #[.val (.ref a0), .val (.int (1 : Int32))] [(.int (1 : Int32)), (.int (1 : Int32))])) t
    refine XS.icmpYes X4.here hx rfl (pc0 := 19) (pc' := 49) rfl (hb hby d5_19) rfl (flt ((by decide))).2.1 (by decide) (by decide) ?_
    show Steps p.tables e below (T4.setTop (mkF m 49 #[.val (.ref a0), .val (.int (1 : Int32))] [])) t
    refine XS.aloadN X4.here hx rfl (hb hby d5_49) rfl rfl ?_
    show Steps p.tables e below (T4.setTop (mkF m 50 #[.val (.ref a0), .val (.int (1 : Int32))] [(.ref a0)])) t
    exact k
  obtain ⟨T5, X5, e5, st5⟩ := getF X4 hx hZ hown (host := "") (Or.inl (hw _ (List.mem_of_getElem? (i := 13) rfl))) Via.refl e4 P0 (g := (mkF m 50 #[.val (.ref a0), .val (.int (1 : Int32))] [(.ref a0)])) rfl rfl (hb hby d5_50)
  refine OEnd.go (g' := (mkF m 53 #[.val (.ref a0), .val (.int (1 : Int32))] [(.ref w1)])) st5 ?_
  refine OEnd.go (T' := T5) (g' := (mkF m 54 #[.val (.ref a0), .val (.int (1 : Int32))] [(.ref a0), (.ref w1)])) (fun t k => ?_) ?_
  · show Steps p.tables e below (T5.setTop (mkF m 53 #[.val (.ref a0), .val (.int (1 : Int32))] [(.ref w1)])) t
    refine XS.aloadN X5.here hx rfl (hb hby d5_53) rfl rfl ?_
    show Steps p.tables e below (T5.setTop (mkF m 54 #[.val (.ref a0), .val (.int (1 : Int32))] [(.ref a0), (.ref w1)])) t
    exact k
  obtain ⟨T6, X6, e6, st6⟩ := getF X5 hx hZ hown (host := "") (Or.inl (hw _ (List.mem_of_getElem? (i := 15) rfl))) Via.refl e5 P1 (g := (mkF m 54 #[.val (.ref a0), .val (.int (1 : Int32))] [(.ref a0), (.ref w1)])) rfl rfl (hb hby d5_54)
  refine OEnd.go (g' := (mkF m 57 #[.val (.ref a0), .val (.int (1 : Int32))] [(.int (0 : Int32)), (.ref w1)])) st6 ?_
  refine OEnd.go (T' := T6) (g' := (mkF m 58 #[.val (.ref a0), .val (.int (1 : Int32))] [(.ref a0), (.int (0 : Int32)), (.ref w1)])) (fun t k => ?_) ?_
  · show Steps p.tables e below (T6.setTop (mkF m 57 #[.val (.ref a0), .val (.int (1 : Int32))] [(.int (0 : Int32)), (.ref w1)])) t
    refine XS.aloadN X6.here hx rfl (hb hby d5_57) rfl rfl ?_
    show Steps p.tables e below (T6.setTop (mkF m 58 #[.val (.ref a0), .val (.int (1 : Int32))] [(.ref a0), (.int (0 : Int32)), (.ref w1)])) t
    exact k
  obtain ⟨T7, X7, e7, st7⟩ := getF X6 hx hZ hown (host := "") (Or.inl (hw _ (List.mem_of_getElem? (i := 15) rfl))) Via.refl e6 P1 (g := (mkF m 58 #[.val (.ref a0), .val (.int (1 : Int32))] [(.ref a0), (.int (0 : Int32)), (.ref w1)])) rfl rfl (hb hby d5_58)
  refine OEnd.go (g' := (mkF m 61 #[.val (.ref a0), .val (.int (1 : Int32))] [(.int (0 : Int32)), (.int (0 : Int32)), (.ref w1)])) st7 ?_
  refine OEnd.go (T' := T7) (g' := (mkF m 64 #[.val (.ref a0), .val (.int (1 : Int32))] [(.ref a0), (.int (1 : Int32)), (.int (0 : Int32)), (.ref w1)])) (fun t k => ?_) ?_
  · show Steps p.tables e below (T7.setTop (mkF m 61 #[.val (.ref a0), .val (.int (1 : Int32))] [(.int (0 : Int32)), (.int (0 : Int32)), (.ref w1)])) t
    refine XS.iloadN X7.here hx rfl (hb hby d5_61) rfl ?_
    show Steps p.tables e below (T7.setTop (mkF m 62 #[.val (.ref a0), .val (.int (1 : Int32))] [(.int (1 : Int32)), (.int (0 : Int32)), (.int (0 : Int32)), (.ref w1)])) t
    refine XS.iadd X7.here hx rfl (hb hby d5_62) rfl ?_
    show Steps p.tables e below (T7.setTop (mkF m 63 #[.val (.ref a0), .val (.int (1 : Int32))] [(.int (1 : Int32)), (.int (0 : Int32)), (.ref w1)])) t
    refine XS.aloadN X7.here hx rfl (hb hby d5_63) rfl rfl ?_
    show Steps p.tables e below (T7.setTop (mkF m 64 #[.val (.ref a0), .val (.int (1 : Int32))] [(.ref a0), (.int (1 : Int32)), (.int (0 : Int32)), (.ref w1)])) t
    exact k
  obtain ⟨T8, X8, e8, st8⟩ := getF X7 hx hZ hown (host := "") (Or.inl (hw _ (List.mem_of_getElem? (i := 27) rfl))) Via.refl e7 P4 (g := (mkF m 64 #[.val (.ref a0), .val (.int (1 : Int32))] [(.ref a0), (.int (1 : Int32)), (.int (0 : Int32)), (.ref w1)])) rfl rfl (hb hby d5_64)
  refine OEnd.go (g' := (mkF m 67 #[.val (.ref a0), .val (.int (1 : Int32))] [(.int (2 : Int32)), (.int (1 : Int32)), (.int (0 : Int32)), (.ref w1)])) st8 ?_
  refine OEnd.go (T' := T8) (g' := (mkF m 69 #[.val (.ref a0), .val (.int (1 : Int32))] [(.int (3 : Int32)), (.int (1 : Int32)), (.int (0 : Int32)), (.ref w1)])) (fun t k => ?_) ?_
  · show Steps p.tables e below (T8.setTop (mkF m 67 #[.val (.ref a0), .val (.int (1 : Int32))] [(.int (2 : Int32)), (.int (1 : Int32)), (.int (0 : Int32)), (.ref w1)])) t
    refine XS.iconst X8.here hx rfl (hb hby d5_67) ?_
    show Steps p.tables e below (T8.setTop (mkF m 68 #[.val (.ref a0), .val (.int (1 : Int32))] [(.int (1 : Int32)), (.int (2 : Int32)), (.int (1 : Int32)), (.int (0 : Int32)), (.ref w1)])) t
    refine XS.iadd X8.here hx rfl (hb hby d5_68) rfl ?_
    show Steps p.tables e below (T8.setTop (mkF m 69 #[.val (.ref a0), .val (.int (1 : Int32))] [(.int (3 : Int32)), (.int (1 : Int32)), (.int (0 : Int32)), (.ref w1)])) t
    exact k
  obtain ⟨_, _, ⟨T9, L9, k9, n9⟩, -, X9, ⟨Lc9, hQ9, l9, y9, z9⟩, st9⟩ := Jvm.LawKit.callS X8 hx (y := (⟨"java/util/Arrays", "fill", "([IIII)V"⟩ : MethodName)) hown (mvT hZ (hw _ (List.mem_of_getElem? (i := 34) rfl))) (mvT hZ (hw _ (List.mem_of_getElem? (i := 35) rfl))) (mvT hZ (hw _ (List.mem_of_getElem? (i := 36) rfl))) (mvT hZ (hw _ (List.mem_of_getElem? (i := 37) rfl))) (by decide) (backOf (W := 0) (rm6 l Z aZ hw [] w1 (3 : Int32) y0 h0 n0 Z0 P7 P10) hZ (hw _ (List.mem_of_getElem? (i := 37) rfl)) (hw _ (List.mem_of_getElem? (i := 36) rfl)) (by decide) (by decide)) (g := (mkF m 69 #[.val (.ref a0), .val (.int (1 : Int32))] [(.int (3 : Int32)), (.int (1 : Int32)), (.int (0 : Int32)), (.ref w1)])) rfl (by rw [hml]; rfl) (argsL := [(.ref w1), (.int (0 : Int32)), (.int (1 : Int32)), (.int (3 : Int32))]) (rest := []) (lenOf pd___IIII_V rfl) rfl (by show 2 * 0 + _ ≤ _; exact Nat.le_of_eq rfl) (hb hby d5_69) (fun _ _ => ⟨rfl, e8, (by decide : 0 + 0 ≤ _), (by decide : 0 + 0 ≤ _)⟩)
  dsimp only [Pt.U, Pt.locs, Pt.cells, Pt.slots] at X9 l9 y9 z9 st9 hQ9
  subst l9 y9 z9
  obtain ⟨rfl, N9q, u9_0, u9_1⟩ := hQ9
  have N9 := Fr.app N0 N9q
  have Z9 : n0 ≤ T9.heap.size := Nat.le_trans Z0 u9_0.1
  have K9 : Keep h0 T9.heap [a0, w1] := K0.trans u9_0 (allS (Or.inl (List.mem_of_getElem? (i := 1) rfl)) all0)
  have fc10 : Fld Z T9.heap a0 "com/example/wedgetree/wedgetree/core/OpenedNodes" "waitingDepths" "[I" (.ref w1) := (P0.keep u9_0 (ninS P11 nin0))
  have fc11 : Fld Z T9.heap a0 "com/example/wedgetree/wedgetree/core/OpenedNodes" "waiting" "I" (.int (0 : Int32)) := (P1.keep u9_0 (ninS P11 nin0))
  have fc12 : Fld Z T9.heap a0 "com/example/wedgetree/wedgetree/core/OpenedNodes" "holdsAnswer" "[Z" (.ref r1) := (P2.keep u9_0 (ninS P11 nin0))
  have fc13 : Fld Z T9.heap a0 "com/example/wedgetree/wedgetree/core/OpenedNodes" "tallying" "Z" (.int (1 : Int32)) := (P3.keep u9_0 (ninS P11 nin0))
  have fc14 : Fld Z T9.heap a0 "com/example/wedgetree/wedgetree/core/OpenedNodes" "depth" "I" (.int (2 : Int32)) := (P4.keep u9_0 (ninS P11 nin0))
  have fc15 : Fld Z T9.heap a0 "com/example/wedgetree/wedgetree/core/OpenedNodes" "opened" "J" (.long oo) := (P5.keep u9_0 (ninS P11 nin0))
  have fc16 : Fld Z T9.heap a0 "com/example/wedgetree/wedgetree/core/OpenedNodes" "holding" "J" (.long hv) := (P6.keep u9_0 (ninS P11 nin0))
  have fc17 : Exa Z T9.heap a0 "com/example/wedgetree/wedgetree/core/OpenedNodes" := (P8.keep u9_0)
  refine OEnd.go (g' := (mkF m 72 #[.val (.ref a0), .val (.int (1 : Int32))] [])) st9 ?_
  refine OEnd.go (T' := T9) (g' := (mkF m 74 #[.val (.ref a0), .val (.int (1 : Int32))] [(.ref a0), (.ref a0)])) (fun t k => ?_) ?_
  · show Steps p.tables e below (T9.setTop (mkF m 72 #[.val (.ref a0), .val (.int (1 : Int32))] [])) t
    refine XS.aloadN X9.here hx rfl (hb hby d5_72) rfl rfl ?_
    show Steps p.tables e below (T9.setTop (mkF m 73 #[.val (.ref a0), .val (.int (1 : Int32))] [(.ref a0)])) t
    refine XS.dup X9.here hx rfl (hb hby d5_73) rfl rfl ?_
    show Steps p.tables e below (T9.setTop (mkF m 74 #[.val (.ref a0), .val (.int (1 : Int32))] [(.ref a0), (.ref a0)])) t
    exact k
  obtain ⟨T18, X18, e18, st18⟩ := getF X9 hx hZ hown (host := "") (Or.inl (hw _ (List.mem_of_getElem? (i := 15) rfl))) Via.refl rfl fc11 (g := (mkF m 74 #[.val (.ref a0), .val (.int (1 : Int32))] [(.ref a0), (.ref a0)])) rfl rfl (hb hby d5_74)
  refine OEnd.go (g' := (mkF m 77 #[.val (.ref a0), .val (.int (1 : Int32))] [(.int (0 : Int32)), (.ref a0)])) st18 ?_
  refine OEnd.go (T' := T18) (g' := (mkF m 79 #[.val (.ref a0), .val (.int (1 : Int32))] [(.int (1 : Int32)), (.ref a0)])) (fun t k => ?_) ?_
  · show Steps p.tables e below (T18.setTop (mkF m 77 #[.val (.ref a0), .val (.int (1 : Int32))] [(.int (0 : Int32)), (.ref a0)])) t
    refine XS.iloadN X18.here hx rfl (hb hby d5_77) rfl ?_
    show Steps p.tables e below (T18.setTop (mkF m 78 #[.val (.ref a0), .val (.int (1 : Int32))] [(.int (1 : Int32)), (.int (0 : Int32)), (.ref a0)])) t
    refine XS.iadd X18.here hx rfl (hb hby d5_78) rfl ?_
    show Steps p.tables e below (T18.setTop (mkF m 79 #[.val (.ref a0), .val (.int (1 : Int32))] [(.int (1 : Int32)), (.ref a0)])) t
    exact k
  obtain ⟨T19, h19, X19, e19, W19, st19⟩ := putF X18 hx hZ hown (host := "") (Or.inl (hw _ (List.mem_of_getElem? (i := 15) rfl))) Via.refl e18 fc11 fc17 (Or.inl (hw _ (List.mem_of_getElem? (i := 16) rfl))) (hw _ (List.mem_of_getElem? (i := 1) rfl)) (ty := .int) (by decide) rfl rfl (g := (mkF m 79 #[.val (.ref a0), .val (.int (1 : Int32))] [(.int (1 : Int32)), (.ref a0)])) rfl rfl (hb hby d5_79)
  have N19 := Fr.snoc X19 N9 P9
  have Z19 : n0 ≤ h19.size := Nat.le_trans Z9 (Keep.of_wr W19).1
  have K19 : Keep h0 h19 [a0, w1] := K9.wr W19 (Or.inl (List.mem_of_getElem? (i := 0) rfl))
  have fc20 : Fld Z h19 a0 "com/example/wedgetree/wedgetree/core/OpenedNodes" "waitingDepths" "[I" (.ref w1) := (fc10.other W19 (Or.inr (slot_ne (Or.inl (hw _ (List.mem_of_getElem? (i := 14) rfl))) (Or.inl (hw _ (List.mem_of_getElem? (i := 16) rfl))) (by decide) (t := (.array .int)) (t' := .int) (by decide) (by decide))))
  have fc21 : Fld Z h19 a0 "com/example/wedgetree/wedgetree/core/OpenedNodes" "waiting" "I" (.int (1 : Int32)) := (fc11.same W19)
  have fc22 : Fld Z h19 a0 "com/example/wedgetree/wedgetree/core/OpenedNodes" "holdsAnswer" "[Z" (.ref r1) := (fc12.other W19 (Or.inr (slot_ne (Or.inl (hw _ (List.mem_of_getElem? (i := 19) rfl))) (Or.inl (hw _ (List.mem_of_getElem? (i := 16) rfl))) (by decide) (t := (.array .boolean)) (t' := .int) (by decide) (by decide))))
  have fc23 : Fld Z h19 a0 "com/example/wedgetree/wedgetree/core/OpenedNodes" "tallying" "Z" (.int (1 : Int32)) := (fc13.other W19 (Or.inr (slot_ne (Or.inr (hw _ (List.mem_of_getElem? (i := 21) rfl))) (Or.inl (hw _ (List.mem_of_getElem? (i := 16) rfl))) (by decide) (t := .boolean) (t' := .int) (by decide) (by decide))))
  have fc24 : Fld Z h19 a0 "com/example/wedgetree/wedgetree/core/OpenedNodes" "depth" "I" (.int (2 : Int32)) := (fc14.other W19 (Or.inr (slot_ne (Or.inl (hw _ (List.mem_of_getElem? (i := 28) rfl))) (Or.inl (hw _ (List.mem_of_getElem? (i := 16) rfl))) (by decide) (t := .int) (t' := .int) (by decide) (by decide))))
  have fc25 : Fld Z h19 a0 "com/example/wedgetree/wedgetree/core/OpenedNodes" "opened" "J" (.long oo) := (fc15.other W19 (Or.inr (slot_ne (Or.inl (hw _ (List.mem_of_getElem? (i := 53) rfl))) (Or.inl (hw _ (List.mem_of_getElem? (i := 16) rfl))) (by decide) (t := .long) (t' := .int) (by decide) (by decide))))
  have fc26 : Fld Z h19 a0 "com/example/wedgetree/wedgetree/core/OpenedNodes" "holding" "J" (.long hv) := (fc16.other W19 (Or.inr (slot_ne (Or.inl (hw _ (List.mem_of_getElem? (i := 74) rfl))) (Or.inl (hw _ (List.mem_of_getElem? (i := 16) rfl))) (by decide) (t := .long) (t' := .int) (by decide) (by decide))))
  have fc27 : Exa Z h19 a0 "com/example/wedgetree/wedgetree/core/OpenedNodes" := (fc17.wr W19)
  have fc28 : OArr Z h19 w1 .int (1 : Int32) [(.int (3 : Int32))] (.int (0 : Int32)) := (u9_1.other W19 (Ne.symm P11))
  refine OEnd.go (g' := (mkF m 82 #[.val (.ref a0), .val (.int (1 : Int32))] [])) st19 ?_
  exact OEnd.void X19 hx Bd.returns hlk (hb hby d5_82) ⟨rfl, N19, (own_at e19 (P := fun h => Keep h0 h [a0, w1]) K19), (own_at e19 (P := fun h => Exa Z h a0 "com/example/wedgetree/wedgetree/core/OpenedNodes") fc27), (own_at e19 (P := fun h => Fld Z h a0 "com/example/wedgetree/wedgetree/core/OpenedNodes" "waitingDepths" "[I" (.ref w1)) fc20), (own_at e19 (P := fun h => Fld Z h a0 "com/example/wedgetree/wedgetree/core/OpenedNodes" "waiting" "I" (.int (1 : Int32))) fc21), (own_at e19 (P := fun h => Fld Z h a0 "com/example/wedgetree/wedgetree/core/OpenedNodes" "holdsAnswer" "[Z" (.ref r1)) fc22), (own_at e19 (P := fun h => Fld Z h a0 "com/example/wedgetree/wedgetree/core/OpenedNodes" "tallying" "Z" (.int (1 : Int32))) fc23), (own_at e19 (P := fun h => Fld Z h a0 "com/example/wedgetree/wedgetree/core/OpenedNodes" "depth" "I" (.int (2 : Int32))) fc24), (own_at e19 (P := fun h => Fld Z h a0 "com/example/wedgetree/wedgetree/core/OpenedNodes" "opened" "J" (.long oo)) fc25), (own_at e19 (P := fun h => Fld Z h a0 "com/example/wedgetree/wedgetree/core/OpenedNodes" "holding" "J" (.long hv)) fc26), (own_at e19 (P := fun h => OArr Z h w1 .int (1 : Int32) [(.int (3 : Int32))] (.int (0 : Int32))) fc28)⟩ (by decide) (by decide)
theorem d20_0 : decode prog_27_method_5_code 0 = .ok (.aload_n 0, 1) := by decide +kernel
theorem d20_1 : decode prog_27_method_5_code 1 = .ok (.getfield 24, 3) := by decide +kernel
theorem d20_4 : decode prog_27_method_5_code 4 = .ok (.ifCond .ne 4, 3) := by decide +kernel
theorem d20_8 : decode prog_27_method_5_code 8 = .ok (.aload_n 0, 1) := by decide +kernel
theorem d20_9 : decode prog_27_method_5_code 9 = .ok (.getfield 28, 3) := by decide +kernel
theorem d20_12 : decode prog_27_method_5_code 12 = .ok (.istore_n 1, 1) := by decide +kernel
theorem d20_13 : decode prog_27_method_5_code 13 = .ok (.iload_n 1, 1) := by decide +kernel
theorem d20_14 : decode prog_27_method_5_code 14 = .ok (.ifCond .le 35, 3) := by decide +kernel
theorem d20_49 : decode prog_27_method_5_code 49 = .ok (.return_, 1) := by decide +kernel
theorem ef_20_0 (m : MethodId) (x0 : Addr) : entryFrame m #[(.ref x0)] 2 = mkF m 0 #[.val (.ref x0), .unset] [] := by first | (simp [entryFrame, mkF, argsToLocals, Value.category]; done) | rfl
def Q20_0 (Z : State) (a0 : Addr) (h0 : Heap) (n0 : Nat) (v : Option Value) (h : Heap) (L : List Loc) : Prop := v = none ∧ Fr n0 L ∧ h = h0
set_option maxRecDepth 65536 in
set_option maxHeartbeats 40000000 in
theorem rm20_0 (l : Launch) (Z : State) (aZ : Array Value) (hw : ∀ d ∈ tables_1, d.before aZ Z = true) (ws : List Jvm.Cond) (a0 : Addr) (h0 : Heap) (n0 : Nat) (Z0 : n0 ≤ h0.size) (P0 : Fld Z h0 a0 "com/example/wedgetree/wedgetree/core/OpenedNodes" "tallying" "Z" (.int (1 : Int32))) (P1 : Fld Z h0 a0 "com/example/wedgetree/wedgetree/core/OpenedNodes" "depth" "I" (.int (0 : Int32))) :
    MetFree l (⟨"com/example/wedgetree/wedgetree/core/OpenedNodes", "answered", "()V"⟩ : MethodName) (head1 (Jvm.Cond.code (⟨"com/example/wedgetree/wedgetree/core/OpenedNodes", "answered", "()V"⟩ : MethodName) prog_27_method_5_code 2 none :: ws) ({ frames := 0, cells := 0, slots := 0, locals := 0 } : Room)) (fun a U => a = #[(.ref a0)] ∧ Z.Warmed39 U.vm ∧ U.heap = h0) (fun _ _ _ _ _ => True) (fun _ U o U' => ∃ v L, o = .returned v ∧ Q20_0 Z a0 h0 n0 v U'.heap L ∧ FrameEnd U o U' L ({ frames := 0, cells := 0, slots := 0, locals := 0 } : Room).cells ({ frames := 0, cells := 0, slots := 0, locals := 0 } : Room).slots) := by
  refine MetFree.of_bodySF (plainFor_of_name pn_com_example_wedgetree_wedgetree_core_OpenedNodes) hisR ?_
  intro p e s m args below meth c s₁ Bd hml0 hP hK
  obtain ⟨rfl, hZ, hh⟩ := hP
  have hx := Bd.exec
  have hby := Bd.bytes
  have hlk : meth.locks = false := BodyLoose.notSynchronized Bd
  have hml : c.maxLocals = 2 := hml0
  have hown : s.vm.findClass "com/example/wedgetree/wedgetree/core/OpenedNodes" = some m.cls := findClass_of_methodNamed Bd.named
  have hnm := (name_of_methodNamed Bd.named Bd.method).1
  have X0 : Stand p l e ({ frames := 0, cells := 0, slots := 0, locals := 0 } : Room) s m #[(.ref a0)] below meth c s₁ [] 0 0 := Stand.of_body Bd
  have e0 : s₁.heap = h0 := by rw [← hh, Bd.state]; rfl
  have N0 := Fr.nil n0
  show OEnd p e below s s₁ (entryFrame m #[(.ref a0)] 2) (Q20_0 Z a0 h0 n0) ({ frames := 0, cells := 0, slots := 0, locals := 0 } : Room).cells ({ frames := 0, cells := 0, slots := 0, locals := 0 } : Room).slots
  refine OEnd.go (g' := (mkF m 0 #[.val (.ref a0), .unset] [])) (fun _ k => castTop (ef_20_0 m a0) k) ?_
  refine OEnd.go (T' := s₁) (g' := (mkF m 1 #[.val (.ref a0), .unset] [(.ref a0)])) (fun t k => ?_) ?_
  · show Steps p.tables e below (s₁.setTop (mkF m 0 #[.val (.ref a0), .unset] [])) t
    refine XS.aloadN X0.here hx rfl (hb hby d20_0) rfl rfl ?_
    show Steps p.tables e below (s₁.setTop (mkF m 1 #[.val (.ref a0), .unset] [(.ref a0)])) t
    exact k
  obtain ⟨T1, X1, e1, st1⟩ := getF X0 hx hZ hown (host := "") (Or.inl (hw _ (List.mem_of_getElem? (i := 20) rfl))) Via.refl e0 P0 (g := (mkF m 1 #[.val (.ref a0), .unset] [(.ref a0)])) rfl rfl (hb hby d20_1)
  refine OEnd.go (g' := (mkF m 4 #[.val (.ref a0), .unset] [(.int (1 : Int32))])) st1 ?_
  refine OEnd.go (T' := T1) (g' := (mkF m 9 #[.val (.ref a0), .unset] [(.ref a0)])) (fun t k => ?_) ?_
  · show Steps p.tables e below (T1.setTop (mkF m 4 #[.val (.ref a0), .unset] [(.int (1 : Int32))])) t
    refine XS.ifYes X1.here hx rfl (pc0 := 4) (pc' := 8) rfl (hb hby d20_4) rfl ((if0 _ _).trans (feq ((by decide))).2) (by decide) (by decide) ?_
    show Steps p.tables e below (T1.setTop (mkF m 8 #[.val (.ref a0), .unset] [])) t
    refine XS.aloadN X1.here hx rfl (hb hby d20_8) rfl rfl ?_
    show Steps p.tables e below (T1.setTop (mkF m 9 #[.val (.ref a0), .unset] [(.ref a0)])) t
    exact k
  obtain ⟨T2, X2, e2, st2⟩ := getF X1 hx hZ hown (host := "") (Or.inl (hw _ (List.mem_of_getElem? (i := 27) rfl))) Via.refl e1 P1 (g := (mkF m 9 #[.val (.ref a0), .unset] [(.ref a0)])) rfl rfl (hb hby d20_9)
  refine OEnd.go (g' := (mkF m 12 #[.val (.ref a0), .unset] [(.int (0 : Int32))])) st2 ?_
  refine OEnd.go (T' := T2) (g' := (mkF m 49 #[.val (.ref a0), .val (.int (0 : Int32))] [])) (fun t k => ?_) ?_
  · show Steps p.tables e below (T2.setTop (mkF m 12 #[.val (.ref a0), .unset] [(.int (0 : Int32))])) t
    refine XS.istoreN X2.here hx rfl (hb hby d20_12) rfl (l' := #[.val (.ref a0), .val (.int (0 : Int32))]) rfl ?_
    show Steps p.tables e below (T2.setTop (mkF m 13 #[.val (.ref a0), .val (.int (0 : Int32))] [])) t
    refine XS.iloadN X2.here hx rfl (hb hby d20_13) rfl ?_
    show Steps p.tables e below (T2.setTop (mkF m 14 #[.val (.ref a0), .val (.int (0 : Int32))] [(.int (0 : Int32))])) t
    refine XS.ifYes X2.here hx rfl (pc0 := 14) (pc' := 49) rfl (hb hby d20_14) rfl ((if0 _ _).trans (flt ((by decide))).2.2.2) (by decide) (by decide) ?_
    show Steps p.tables e below (T2.setTop (mkF m 49 #[.val (.ref a0), .val (.int (0 : Int32))] [])) t
    exact k
  exact OEnd.void X2 hx Bd.returns hlk (hb hby d20_49) ⟨rfl, N0, e2⟩ (by decide) (by decide)
theorem d20_17 : decode prog_27_method_5_code 17 = .ok (.aload_n 0, 1) := by decide +kernel
theorem d20_18 : decode prog_27_method_5_code 18 = .ok (.getfield 20, 3) := by decide +kernel
theorem d20_21 : decode prog_27_method_5_code 21 = .ok (.iload_n 1, 1) := by decide +kernel
theorem d20_22 : decode prog_27_method_5_code 22 = .ok (.baload, 1) := by decide +kernel
theorem d20_23 : decode prog_27_method_5_code 23 = .ok (.ifCond .ne 26, 3) := by decide +kernel
theorem d20_26 : decode prog_27_method_5_code 26 = .ok (.aload_n 0, 1) := by decide +kernel
theorem d20_27 : decode prog_27_method_5_code 27 = .ok (.getfield 20, 3) := by decide +kernel
theorem d20_30 : decode prog_27_method_5_code 30 = .ok (.iload_n 1, 1) := by decide +kernel
theorem d20_31 : decode prog_27_method_5_code 31 = .ok (.iconst 1, 1) := by decide +kernel
theorem d20_32 : decode prog_27_method_5_code 32 = .ok (.bastore, 1) := by decide +kernel
theorem d20_33 : decode prog_27_method_5_code 33 = .ok (.aload_n 0, 1) := by decide +kernel
theorem d20_34 : decode prog_27_method_5_code 34 = .ok (.dup, 1) := by decide +kernel
theorem d20_35 : decode prog_27_method_5_code 35 = .ok (.getfield 54, 3) := by decide +kernel
theorem d20_38 : decode prog_27_method_5_code 38 = .ok (.lconst 1, 1) := by decide +kernel
theorem d20_39 : decode prog_27_method_5_code 39 = .ok (.ladd, 1) := by decide +kernel
theorem d20_40 : decode prog_27_method_5_code 40 = .ok (.putfield 54, 3) := by decide +kernel
theorem d20_43 : decode prog_27_method_5_code 43 = .ok (.iinc 1 (-1), 3) := by decide +kernel
theorem d20_46 : decode prog_27_method_5_code 46 = .ok (.goto (-33), 3) := by decide +kernel
theorem ef_20_1 (m : MethodId) (x0 : Addr) : entryFrame m #[(.ref x0)] 2 = mkF m 0 #[.val (.ref x0), .unset] [] := by first | (simp [entryFrame, mkF, argsToLocals, Value.category]; done) | rfl
def Q20_1 (Z : State) (a0 : Addr) (w1 : Addr) (r1 : Addr) (x0 : Int32) (x1 : Int32) (ww : Int32) (oo : Int64) (hv : Int64) (h0 : Heap) (n0 : Nat) (v : Option Value) (h : Heap) (L : List Loc) : Prop := v = none ∧ Fr n0 L ∧ Keep h0 h [a0, r1] ∧ Exa Z h a0 "com/example/wedgetree/wedgetree/core/OpenedNodes" ∧ Fld Z h a0 "com/example/wedgetree/wedgetree/core/OpenedNodes" "waitingDepths" "[I" (.ref w1) ∧ Fld Z h a0 "com/example/wedgetree/wedgetree/core/OpenedNodes" "waiting" "I" (.int ww) ∧ Fld Z h a0 "com/example/wedgetree/wedgetree/core/OpenedNodes" "holdsAnswer" "[Z" (.ref r1) ∧ Fld Z h a0 "com/example/wedgetree/wedgetree/core/OpenedNodes" "tallying" "Z" (.int (1 : Int32)) ∧ Fld Z h a0 "com/example/wedgetree/wedgetree/core/OpenedNodes" "depth" "I" (.int (1 : Int32)) ∧ Fld Z h a0 "com/example/wedgetree/wedgetree/core/OpenedNodes" "opened" "J" (.long oo) ∧ OArr Z h r1 .boolean (2 : Int32) [(.int x0), (.int (if x1 = (0 : Int32) then (1 : Int32) else x1))] (.int (0 : Int32)) ∧ Fld Z h a0 "com/example/wedgetree/wedgetree/core/OpenedNodes" "holding" "J" (.long (if x1 = (0 : Int32) then (hv + (1 : Int64)) else hv))
set_option maxRecDepth 65536 in
set_option maxHeartbeats 40000000 in
theorem rm20_1 (l : Launch) (Z : State) (aZ : Array Value) (hw : ∀ d ∈ tables_1, d.before aZ Z = true) (ws : List Jvm.Cond) (a0 : Addr) (w1 : Addr) (r1 : Addr) (x0 : Int32) (x1 : Int32) (ww : Int32) (oo : Int64) (hv : Int64) (h0 : Heap) (n0 : Nat) (Z0 : n0 ≤ h0.size) (P0 : Fld Z h0 a0 "com/example/wedgetree/wedgetree/core/OpenedNodes" "waitingDepths" "[I" (.ref w1)) (P1 : Fld Z h0 a0 "com/example/wedgetree/wedgetree/core/OpenedNodes" "waiting" "I" (.int ww)) (P2 : Fld Z h0 a0 "com/example/wedgetree/wedgetree/core/OpenedNodes" "holdsAnswer" "[Z" (.ref r1)) (P3 : Fld Z h0 a0 "com/example/wedgetree/wedgetree/core/OpenedNodes" "tallying" "Z" (.int (1 : Int32))) (P4 : Fld Z h0 a0 "com/example/wedgetree/wedgetree/core/OpenedNodes" "depth" "I" (.int (1 : Int32))) (P5 : Fld Z h0 a0 "com/example/wedgetree/wedgetree/core/OpenedNodes" "opened" "J" (.long oo)) (P6 : Fld Z h0 a0 "com/example/wedgetree/wedgetree/core/OpenedNodes" "holding" "J" (.long hv)) (P7 : OArr Z h0 r1 .boolean (2 : Int32) [(.int x0), (.int x1)] (.int (0 : Int32))) (P8 : Exa Z h0 a0 "com/example/wedgetree/wedgetree/core/OpenedNodes") (P9 : n0 ≤ a0) (P10 : n0 ≤ r1) (P11 : a0 ≠ r1) :
    MetFree l (⟨"com/example/wedgetree/wedgetree/core/OpenedNodes", "answered", "()V"⟩ : MethodName) (head1 (Jvm.Cond.code (⟨"com/example/wedgetree/wedgetree/core/OpenedNodes", "answered", "()V"⟩ : MethodName) prog_27_method_5_code 2 none :: ws) ({ frames := 0, cells := 0, slots := 0, locals := 0 } : Room)) (fun a U => a = #[(.ref a0)] ∧ Z.Warmed39 U.vm ∧ U.heap = h0) (fun _ _ _ _ _ => True) (fun _ U o U' => ∃ v L, o = .returned v ∧ Q20_1 Z a0 w1 r1 x0 x1 ww oo hv h0 n0 v U'.heap L ∧ FrameEnd U o U' L ({ frames := 0, cells := 0, slots := 0, locals := 0 } : Room).cells ({ frames := 0, cells := 0, slots := 0, locals := 0 } : Room).slots) := by
  refine MetFree.of_bodySF (plainFor_of_name pn_com_example_wedgetree_wedgetree_core_OpenedNodes) hisR ?_
  intro p e s m args below meth c s₁ Bd hml0 hP hK
  obtain ⟨rfl, hZ, hh⟩ := hP
  have hx := Bd.exec
  have hby := Bd.bytes
  have hlk : meth.locks = false := BodyLoose.notSynchronized Bd
  have hml : c.maxLocals = 2 := hml0
  have hown : s.vm.findClass "com/example/wedgetree/wedgetree/core/OpenedNodes" = some m.cls := findClass_of_methodNamed Bd.named
  have hnm := (name_of_methodNamed Bd.named Bd.method).1
  have X0 : Stand p l e ({ frames := 0, cells := 0, slots := 0, locals := 0 } : Room) s m #[(.ref a0)] below meth c s₁ [] 0 0 := Stand.of_body Bd
  have e0 : s₁.heap = h0 := by rw [← hh, Bd.state]; rfl
  have N0 := Fr.nil n0
  have K0 : Keep h0 h0 [a0, r1] := Keep.refl _ _
  show OEnd p e below s s₁ (entryFrame m #[(.ref a0)] 2) (Q20_1 Z a0 w1 r1 x0 x1 ww oo hv h0 n0) ({ frames := 0, cells := 0, slots := 0, locals := 0 } : Room).cells ({ frames := 0, cells := 0, slots := 0, locals := 0 } : Room).slots
  refine OEnd.go (g' := (mkF m 0 #[.val (.ref a0), .unset] [])) (fun _ k => castTop (ef_20_1 m a0) k) ?_
  refine OEnd.go (T' := s₁) (g' := (mkF m 1 #[.val (.ref a0), .unset] [(.ref a0)])) (fun t k => ?_) ?_
  · show Steps p.tables e below (s₁.setTop (mkF m 0 #[.val (.ref a0), .unset] [])) t
    refine XS.aloadN X0.here hx rfl (hb hby d20_0) rfl rfl ?_
    show Steps p.tables e below (s₁.setTop (mkF m 1 #[.val (.ref a0), .unset] [(.ref a0)])) t
    exact k
  obtain ⟨T1, X1, e1, st1⟩ := getF X0 hx hZ hown (host := "") (Or.inl (hw _ (List.mem_of_getElem? (i := 20) rfl))) Via.refl e0 P3 (g := (mkF m 1 #[.val (.ref a0), .unset] [(.ref a0)])) rfl rfl (hb hby d20_1)
  refine OEnd.go (g' := (mkF m 4 #[.val (.ref a0), .unset] [(.int (1 : Int32))])) st1 ?_
  refine OEnd.go (T' := T1) (g' := (mkF m 9 #[.val (.ref a0), .unset] [(.ref a0)])) (fun t k => ?_) ?_
  · show Steps p.tables e below (T1.setTop (mkF m 4 #[.val (.ref a0), .unset] [(.int (1 : Int32))])) t
    refine XS.ifYes X1.here hx rfl (pc0 := 4) (pc' := 8) rfl (hb hby d20_4) rfl ((if0 _ _).trans (feq ((by decide))).2) (by decide) (by decide) ?_
    show Steps p.tables e below (T1.setTop (mkF m 8 #[.val (.ref a0), .unset] [])) t
    refine XS.aloadN X1.here hx rfl (hb hby d20_8) rfl rfl ?_
    show Steps p.tables e below (T1.setTop (mkF m 9 #[.val (.ref a0), .unset] [(.ref a0)])) t
    exact k
  obtain ⟨T2, X2, e2, st2⟩ := getF X1 hx hZ hown (host := "") (Or.inl (hw _ (List.mem_of_getElem? (i := 27) rfl))) Via.refl e1 P4 (g := (mkF m 9 #[.val (.ref a0), .unset] [(.ref a0)])) rfl rfl (hb hby d20_9)
  refine OEnd.go (g' := (mkF m 12 #[.val (.ref a0), .unset] [(.int (1 : Int32))])) st2 ?_
  refine OEnd.go (T' := T2) (g' := (mkF m 18 #[.val (.ref a0), .val (.int (1 : Int32))] [(.ref a0)])) (fun t k => ?_) ?_
  · show Steps p.tables e below (T2.setTop (mkF m 12 #[.val (.ref a0), .unset] [(.int (1 : Int32))])) t
    refine XS.istoreN X2.here hx rfl (hb hby d20_12) rfl (l' := #[.val (.ref a0), .val (.int (1 : Int32))]) rfl ?_
    show Steps p.tables e below (T2.setTop (mkF m 13 #[.val (.ref a0), .val (.int (1 : Int32))] [])) t
    refine XS.iloadN X2.here hx rfl (hb hby d20_13) rfl ?_
    show Steps p.tables e below (T2.setTop (mkF m 14 #[.val (.ref a0), .val (.int (1 : Int32))] [(.int (1 : Int32))])) t
    refine XS.ifNo X2.here hx rfl (hb hby d20_14) rfl ((if0 _ _).trans (tlt ((by decide))).2.2.2) ?_
    show Steps p.tables e below (T2.setTop (mkF m 17 #[.val (.ref a0), .val (.int (1 : Int32))] [])) t
    refine XS.aloadN X2.here hx rfl (hb hby d20_17) rfl rfl ?_
    show Steps p.tables e below (T2.setTop (mkF m 18 #[.val (.ref a0), .val (.int (1 : Int32))] [(.ref a0)])) t
    exact k
  obtain ⟨T3, X3, e3, st3⟩ := getF X2 hx hZ hown (host := "") (Or.inl (hw _ (List.mem_of_getElem? (i := 18) rfl))) Via.refl e2 P2 (g := (mkF m 18 #[.val (.ref a0), .val (.int (1 : Int32))] [(.ref a0)])) rfl rfl (hb hby d20_18)
  refine OEnd.go (g' := (mkF m 21 #[.val (.ref a0), .val (.int (1 : Int32))] [(.ref r1)])) st3 ?_
  refine OEnd.go (T' := T3) (g' := (mkF m 22 #[.val (.ref a0), .val (.int (1 : Int32))] [(.int (1 : Int32)), (.ref r1)])) (fun t k => ?_) ?_
  · show Steps p.tables e below (T3.setTop (mkF m 21 #[.val (.ref a0), .val (.int (1 : Int32))] [(.ref r1)])) t
    refine XS.iloadN X3.here hx rfl (hb hby d20_21) rfl ?_
    show Steps p.tables e below (T3.setTop (mkF m 22 #[.val (.ref a0), .val (.int (1 : Int32))] [(.int (1 : Int32)), (.ref r1)])) t
    exact k
  obtain ⟨kc4, cl4, Ar4, q4, S4, M4, H4, G4⟩ := id P7
  have hin4 : ¬ ((1 : Int32) < 0 ∨ cl4.slots.size ≤ ((1 : Int32)).toNatClampNeg) := inb_of S4 ⟨by decide, by decide⟩
  have hat4 : cl4.slots[((1 : Int32)).toNatClampNeg]? = some (.int x1) := Has.at H4 hin4 rfl
  refine OEnd.go (T' := T3) (g' := (mkF m 23 #[.val (.ref a0), .val (.int (1 : Int32))] [(.int x1)])) (fun t k => ?_) ?_
  · refine X3.baloadBooleans hx (j := (1 : Int32)) (v := (.int x1)) (by rw [e3]; exact Ar4.1) (State.isArrayOf_alike hZ.alike Ar4.2.1) Ar4.2.2 hin4 hat4 (g := (mkF m 22 #[.val (.ref a0), .val (.int (1 : Int32))] [(.int (1 : Int32)), (.ref r1)])) rfl rfl (hb hby d20_22) _ ?_
    exact k
  by_cases hc5 : x1 = (0 : Int32)
  · skip
    refine OEnd.go (T' := T3) (g' := (mkF m 26 #[.val (.ref a0), .val (.int (1 : Int32))] [])) (fun t k => ?_) ?_
    · show Steps p.tables e below (T3.setTop (mkF m 23 #[.val (.ref a0), .val (.int (1 : Int32))] [(.int x1)])) t
      refine XS.ifNo X3.here hx rfl (hb hby d20_23) rfl ((if0 _ _).trans (teq (hc5)).2) ?_
      show Steps p.tables e below (T3.setTop (mkF m 26 #[.val (.ref a0), .val (.int (1 : Int32))] [])) t
      exact k
    refine OEnd.go (T' := T3) (g' := (mkF m 27 #[.val (.ref a0), .val (.int (1 : Int32))] [(.ref a0)])) (fun t k => ?_) ?_
    · show Steps p.tables e below (T3.setTop (mkF m 26 #[.val (.ref a0), .val (.int (1 : Int32))] [])) t
      refine XS.aloadN X3.here hx rfl (hb hby d20_26) rfl rfl ?_
      show Steps p.tables e below (T3.setTop (mkF m 27 #[.val (.ref a0), .val (.int (1 : Int32))] [(.ref a0)])) t
      exact k
    obtain ⟨T6, X6, e6, st6⟩ := getF X3 hx hZ hown (host := "") (Or.inl (hw _ (List.mem_of_getElem? (i := 18) rfl))) Via.refl e3 P2 (g := (mkF m 27 #[.val (.ref a0), .val (.int (1 : Int32))] [(.ref a0)])) rfl rfl (hb hby d20_27)
    refine OEnd.go (g' := (mkF m 30 #[.val (.ref a0), .val (.int (1 : Int32))] [(.ref r1)])) st6 ?_
    refine OEnd.go (T' := T6) (g' := (mkF m 32 #[.val (.ref a0), .val (.int (1 : Int32))] [(.int (1 : Int32)), (.int (1 : Int32)), (.ref r1)])) (fun t k => ?_) ?_
    · show Steps p.tables e below (T6.setTop (mkF m 30 #[.val (.ref a0), .val (.int (1 : Int32))] [(.ref r1)])) t
      refine XS.iloadN X6.here hx rfl (hb hby d20_30) rfl ?_
      show Steps p.tables e below (T6.setTop (mkF m 31 #[.val (.ref a0), .val (.int (1 : Int32))] [(.int (1 : Int32)), (.ref r1)])) t
      refine XS.iconst X6.here hx rfl (hb hby d20_31) ?_
      show Steps p.tables e below (T6.setTop (mkF m 32 #[.val (.ref a0), .val (.int (1 : Int32))] [(.int (1 : Int32)), (.int (1 : Int32)), (.ref r1)])) t
      exact k
    obtain ⟨kc7, cl7, Ar7, q7, S7, M7, H7, G7⟩ := id P7
    have hin7 : ¬ ((1 : Int32) < 0 ∨ cl7.slots.size ≤ ((1 : Int32)).toNatClampNeg) := inb_of S7 ⟨by decide, by decide⟩
    obtain ⟨T7, h7, X7, e7, W7, st7⟩ := stZ X6 hx hZ e6 Ar7 (j := (1 : Int32)) hin7 (g := (mkF m 32 #[.val (.ref a0), .val (.int (1 : Int32))] [(.int (1 : Int32)), (.int (1 : Int32)), (.ref r1)])) rfl rfl (hb hby d20_32)
    have N7 := Fr.snoc X7 N0 P10
    have Z7 : n0 ≤ h7.size := Nat.le_trans Z0 (Keep.of_wr W7).1
    have K7 : Keep h0 h7 [a0, r1] := K0.wr W7 (Or.inl (List.mem_of_getElem? (i := 1) rfl))
    have V7 : OArr Z h7 r1 .boolean (2 : Int32) [(.int x0), (.int (1 : Int32))] (.int (0 : Int32)) := ⟨_, Arv.set Ar7 q7 S7 M7 H7 G7 (fits_nar_bool _) W7 1 rfl (Nat.le_of_ble_eq_true rfl)⟩
    have fc8 : Fld Z h7 a0 "com/example/wedgetree/wedgetree/core/OpenedNodes" "waitingDepths" "[I" (.ref w1) := (P0.other W7 (Or.inl P11))
    have fc9 : Fld Z h7 a0 "com/example/wedgetree/wedgetree/core/OpenedNodes" "waiting" "I" (.int ww) := (P1.other W7 (Or.inl P11))
    have fc10 : Fld Z h7 a0 "com/example/wedgetree/wedgetree/core/OpenedNodes" "holdsAnswer" "[Z" (.ref r1) := (P2.other W7 (Or.inl P11))
    have fc11 : Fld Z h7 a0 "com/example/wedgetree/wedgetree/core/OpenedNodes" "tallying" "Z" (.int (1 : Int32)) := (P3.other W7 (Or.inl P11))
    have fc12 : Fld Z h7 a0 "com/example/wedgetree/wedgetree/core/OpenedNodes" "depth" "I" (.int (1 : Int32)) := (P4.other W7 (Or.inl P11))
    have fc13 : Fld Z h7 a0 "com/example/wedgetree/wedgetree/core/OpenedNodes" "opened" "J" (.long oo) := (P5.other W7 (Or.inl P11))
    have fc14 : Fld Z h7 a0 "com/example/wedgetree/wedgetree/core/OpenedNodes" "holding" "J" (.long hv) := (P6.other W7 (Or.inl P11))
    have fc15 : Exa Z h7 a0 "com/example/wedgetree/wedgetree/core/OpenedNodes" := (P8.wr W7)
    refine OEnd.go (g' := (mkF m 33 #[.val (.ref a0), .val (.int (1 : Int32))] [])) st7 ?_
    refine OEnd.go (T' := T7) (g' := (mkF m 35 #[.val (.ref a0), .val (.int (1 : Int32))] [(.ref a0), (.ref a0)])) (fun t k => ?_) ?_
    · show Steps p.tables e below (T7.setTop (mkF m 33 #[.val (.ref a0), .val (.int (1 : Int32))] [])) t
      refine XS.aloadN X7.here hx rfl (hb hby d20_33) rfl rfl ?_
      show Steps p.tables e below (T7.setTop (mkF m 34 #[.val (.ref a0), .val (.int (1 : Int32))] [(.ref a0)])) t
      refine XS.dup X7.here hx rfl (hb hby d20_34) rfl rfl ?_
      show Steps p.tables e below (T7.setTop (mkF m 35 #[.val (.ref a0), .val (.int (1 : Int32))] [(.ref a0), (.ref a0)])) t
      exact k
    obtain ⟨T16, X16, e16, st16⟩ := getF X7 hx hZ hown (host := "") (Or.inl (hw _ (List.mem_of_getElem? (i := 73) rfl))) Via.refl e7 fc14 (g := (mkF m 35 #[.val (.ref a0), .val (.int (1 : Int32))] [(.ref a0), (.ref a0)])) rfl rfl (hb hby d20_35)
    refine OEnd.go (g' := (mkF m 38 #[.val (.ref a0), .val (.int (1 : Int32))] [(.long hv), (.ref a0)])) st16 ?_
    refine OEnd.go (T' := T16) (g' := (mkF m 40 #[.val (.ref a0), .val (.int (1 : Int32))] [(.long (hv + (1 : Int64))), (.ref a0)])) (fun t k => ?_) ?_
    · show Steps p.tables e below (T16.setTop (mkF m 38 #[.val (.ref a0), .val (.int (1 : Int32))] [(.long hv), (.ref a0)])) t
      refine XS.lconst X16.here hx rfl (hb hby d20_38) ?_
      show Steps p.tables e below (T16.setTop (mkF m 39 #[.val (.ref a0), .val (.int (1 : Int32))] [(.long (1 : Int64)), (.long hv), (.ref a0)])) t
      refine XS.ladd X16.here hx rfl (hb hby d20_39) rfl ?_
      show Steps p.tables e below (T16.setTop (mkF m 40 #[.val (.ref a0), .val (.int (1 : Int32))] [(.long (hv + (1 : Int64))), (.ref a0)])) t
      exact k
    obtain ⟨T17, h17, X17, e17, W17, st17⟩ := putF X16 hx hZ hown (host := "") (Or.inl (hw _ (List.mem_of_getElem? (i := 73) rfl))) Via.refl e16 fc14 fc15 (Or.inl (hw _ (List.mem_of_getElem? (i := 74) rfl))) (hw _ (List.mem_of_getElem? (i := 1) rfl)) (ty := .long) (by decide) rfl rfl (g := (mkF m 40 #[.val (.ref a0), .val (.int (1 : Int32))] [(.long (hv + (1 : Int64))), (.ref a0)])) rfl rfl (hb hby d20_40)
    have N17 := Fr.snoc X17 N7 P9
    have Z17 : n0 ≤ h17.size := Nat.le_trans Z7 (Keep.of_wr W17).1
    have K17 : Keep h0 h17 [a0, r1] := K7.wr W17 (Or.inl (List.mem_of_getElem? (i := 0) rfl))
    have fc18 : Fld Z h17 a0 "com/example/wedgetree/wedgetree/core/OpenedNodes" "waitingDepths" "[I" (.ref w1) := (fc8.other W17 (Or.inr (slot_ne (Or.inl (hw _ (List.mem_of_getElem? (i := 14) rfl))) (Or.inl (hw _ (List.mem_of_getElem? (i := 74) rfl))) (by decide) (t := (.array .int)) (t' := .long) (by decide) (by decide))))
    have fc19 : Fld Z h17 a0 "com/example/wedgetree/wedgetree/core/OpenedNodes" "waiting" "I" (.int ww) := (fc9.other W17 (Or.inr (slot_ne (Or.inl (hw _ (List.mem_of_getElem? (i := 16) rfl))) (Or.inl (hw _ (List.mem_of_getElem? (i := 74) rfl))) (by decide) (t := .int) (t' := .long) (by decide) (by decide))))
    have fc20 : Fld Z h17 a0 "com/example/wedgetree/wedgetree/core/OpenedNodes" "holdsAnswer" "[Z" (.ref r1) := (fc10.other W17 (Or.inr (slot_ne (Or.inl (hw _ (List.mem_of_getElem? (i := 19) rfl))) (Or.inl (hw _ (List.mem_of_getElem? (i := 74) rfl))) (by decide) (t := (.array .boolean)) (t' := .long) (by decide) (by decide))))
    have fc21 : Fld Z h17 a0 "com/example/wedgetree/wedgetree/core/OpenedNodes" "tallying" "Z" (.int (1 : Int32)) := (fc11.other W17 (Or.inr (slot_ne (Or.inr (hw _ (List.mem_of_getElem? (i := 21) rfl))) (Or.inl (hw _ (List.mem_of_getElem? (i := 74) rfl))) (by decide) (t := .boolean) (t' := .long) (by decide) (by decide))))
    have fc22 : Fld Z h17 a0 "com/example/wedgetree/wedgetree/core/OpenedNodes" "depth" "I" (.int (1 : Int32)) := (fc12.other W17 (Or.inr (slot_ne (Or.inl (hw _ (List.mem_of_getElem? (i := 28) rfl))) (Or.inl (hw _ (List.mem_of_getElem? (i := 74) rfl))) (by decide) (t := .int) (t' := .long) (by decide) (by decide))))
    have fc23 : Fld Z h17 a0 "com/example/wedgetree/wedgetree/core/OpenedNodes" "opened" "J" (.long oo) := (fc13.other W17 (Or.inr (slot_ne (Or.inl (hw _ (List.mem_of_getElem? (i := 53) rfl))) (Or.inl (hw _ (List.mem_of_getElem? (i := 74) rfl))) (by decide) (t := .long) (t' := .long) (by decide) (by decide))))
    have fc24 : Fld Z h17 a0 "com/example/wedgetree/wedgetree/core/OpenedNodes" "holding" "J" (.long (hv + (1 : Int64))) := (fc14.same W17)
    have fc25 : Exa Z h17 a0 "com/example/wedgetree/wedgetree/core/OpenedNodes" := (fc15.wr W17)
    have fc26 : OArr Z h17 r1 .boolean (2 : Int32) [(.int x0), (.int (1 : Int32))] (.int (0 : Int32)) := (V7.other W17 (Ne.symm P11))
    refine OEnd.go (g' := (mkF m 43 #[.val (.ref a0), .val (.int (1 : Int32))] [])) st17 ?_
    refine OEnd.go (T' := T17) (g' := (mkF m 49 #[.val (.ref a0), .val (.int (0 : Int32))] [])) (fun t k => ?_) ?_
    · show Steps p.tables e below (T17.setTop (mkF m 43 #[.val (.ref a0), .val (.int (1 : Int32))] [])) t
      refine XS.iinc X17.here hx rfl (hb hby d20_43) rfl (l' := #[.val (.ref a0), .val (.int (0 : Int32))]) rfl ?_
      show Steps p.tables e below (T17.setTop (mkF m 46 #[.val (.ref a0), .val (.int (0 : Int32))] [])) t
      refine XS.goto X17.here hx rfl (pc0 := 46) (pc' := 13) rfl (hb hby d20_46) (by decide) (by decide) ?_
      show Steps p.tables e below (T17.setTop (mkF m 13 #[.val (.ref a0), .val (.int (0 : Int32))] [])) t
      refine XS.iloadN X17.here hx rfl (hb hby d20_13) rfl ?_
      show Steps p.tables e below (T17.setTop (mkF m 14 #[.val (.ref a0), .val (.int (0 : Int32))] [(.int (0 : Int32))])) t
      refine XS.ifYes X17.here hx rfl (pc0 := 14) (pc' := 49) rfl (hb hby d20_14) rfl ((if0 _ _).trans (flt ((by decide))).2.2.2) (by decide) (by decide) ?_
      show Steps p.tables e below (T17.setTop (mkF m 49 #[.val (.ref a0), .val (.int (0 : Int32))] [])) t
      exact k
    exact OEnd.void X17 hx Bd.returns hlk (hb hby d20_49) ⟨rfl, N17, (own_at e17 (P := fun h => Keep h0 h [a0, r1]) K17), (own_at e17 (P := fun h => Exa Z h a0 "com/example/wedgetree/wedgetree/core/OpenedNodes") fc25), (own_at e17 (P := fun h => Fld Z h a0 "com/example/wedgetree/wedgetree/core/OpenedNodes" "waitingDepths" "[I" (.ref w1)) fc18), (own_at e17 (P := fun h => Fld Z h a0 "com/example/wedgetree/wedgetree/core/OpenedNodes" "waiting" "I" (.int ww)) fc19), (own_at e17 (P := fun h => Fld Z h a0 "com/example/wedgetree/wedgetree/core/OpenedNodes" "holdsAnswer" "[Z" (.ref r1)) fc20), (own_at e17 (P := fun h => Fld Z h a0 "com/example/wedgetree/wedgetree/core/OpenedNodes" "tallying" "Z" (.int (1 : Int32))) fc21), (own_at e17 (P := fun h => Fld Z h a0 "com/example/wedgetree/wedgetree/core/OpenedNodes" "depth" "I" (.int (1 : Int32))) fc22), (own_at e17 (P := fun h => Fld Z h a0 "com/example/wedgetree/wedgetree/core/OpenedNodes" "opened" "J" (.long oo)) fc23), (own_p (P := fun (z : Int32) => OArr Z _ r1 .boolean (2 : Int32) [(.int x0), (.int z)] (.int (0 : Int32))) (own_symm (if_pos hc5)) (own_at e17 (P := fun h => OArr Z h r1 .boolean (2 : Int32) [(.int x0), (.int (1 : Int32))] (.int (0 : Int32))) fc26)), (own_p (P := fun (z : Int64) => Fld Z _ a0 "com/example/wedgetree/wedgetree/core/OpenedNodes" "holding" "J" (.long z)) (own_symm (if_pos hc5)) (own_at e17 (P := fun h => Fld Z h a0 "com/example/wedgetree/wedgetree/core/OpenedNodes" "holding" "J" (.long (hv + (1 : Int64)))) fc24))⟩ (by decide) (by decide)
  · skip
    refine OEnd.go (T' := T3) (g' := (mkF m 49 #[.val (.ref a0), .val (.int (1 : Int32))] [])) (fun t k => ?_) ?_
    · show Steps p.tables e below (T3.setTop (mkF m 23 #[.val (.ref a0), .val (.int (1 : Int32))] [(.int x1)])) t
      refine XS.ifYes X3.here hx rfl (pc0 := 23) (pc' := 49) rfl (hb hby d20_23) rfl ((if0 _ _).trans (feq (hc5)).2) (by decide) (by decide) ?_
      show Steps p.tables e below (T3.setTop (mkF m 49 #[.val (.ref a0), .val (.int (1 : Int32))] [])) t
      exact k
    exact OEnd.void X3 hx Bd.returns hlk (hb hby d20_49) ⟨rfl, N0, (own_at e3 (P := fun h => Keep h0 h [a0, r1]) K0), (own_at e3 (P := fun h => Exa Z h a0 "com/example/wedgetree/wedgetree/core/OpenedNodes") P8), (own_at e3 (P := fun h => Fld Z h a0 "com/example/wedgetree/wedgetree/core/OpenedNodes" "waitingDepths" "[I" (.ref w1)) P0), (own_at e3 (P := fun h => Fld Z h a0 "com/example/wedgetree/wedgetree/core/OpenedNodes" "waiting" "I" (.int ww)) P1), (own_at e3 (P := fun h => Fld Z h a0 "com/example/wedgetree/wedgetree/core/OpenedNodes" "holdsAnswer" "[Z" (.ref r1)) P2), (own_at e3 (P := fun h => Fld Z h a0 "com/example/wedgetree/wedgetree/core/OpenedNodes" "tallying" "Z" (.int (1 : Int32))) P3), (own_at e3 (P := fun h => Fld Z h a0 "com/example/wedgetree/wedgetree/core/OpenedNodes" "depth" "I" (.int (1 : Int32))) P4), (own_at e3 (P := fun h => Fld Z h a0 "com/example/wedgetree/wedgetree/core/OpenedNodes" "opened" "J" (.long oo)) P5), (own_p (P := fun (z : Int32) => OArr Z _ r1 .boolean (2 : Int32) [(.int x0), (.int z)] (.int (0 : Int32))) (own_symm (if_neg hc5)) (own_at e3 (P := fun h => OArr Z h r1 .boolean (2 : Int32) [(.int x0), (.int x1)] (.int (0 : Int32))) P7)), (own_p (P := fun (z : Int64) => Fld Z _ a0 "com/example/wedgetree/wedgetree/core/OpenedNodes" "holding" "J" (.long z)) (own_symm (if_neg hc5)) (own_at e3 (P := fun h => Fld Z h a0 "com/example/wedgetree/wedgetree/core/OpenedNodes" "holding" "J" (.long hv)) P6))⟩ (by decide) (by decide)
theorem ef_20_2 (m : MethodId) (x0 : Addr) : entryFrame m #[(.ref x0)] 2 = mkF m 0 #[.val (.ref x0), .unset] [] := by first | (simp [entryFrame, mkF, argsToLocals, Value.category]; done) | rfl
def Q20_2 (Z : State) (a0 : Addr) (w1 : Addr) (r1 : Addr) (x0 : Int32) (x1 : Int32) (x2 : Int32) (x3 : Int32) (ww : Int32) (oo : Int64) (hv : Int64) (h0 : Heap) (n0 : Nat) (v : Option Value) (h : Heap) (L : List Loc) : Prop := v = none ∧ Fr n0 L ∧ Keep h0 h [a0, r1] ∧ Exa Z h a0 "com/example/wedgetree/wedgetree/core/OpenedNodes" ∧ Fld Z h a0 "com/example/wedgetree/wedgetree/core/OpenedNodes" "waitingDepths" "[I" (.ref w1) ∧ Fld Z h a0 "com/example/wedgetree/wedgetree/core/OpenedNodes" "waiting" "I" (.int ww) ∧ Fld Z h a0 "com/example/wedgetree/wedgetree/core/OpenedNodes" "holdsAnswer" "[Z" (.ref r1) ∧ Fld Z h a0 "com/example/wedgetree/wedgetree/core/OpenedNodes" "tallying" "Z" (.int (1 : Int32)) ∧ Fld Z h a0 "com/example/wedgetree/wedgetree/core/OpenedNodes" "depth" "I" (.int (2 : Int32)) ∧ Fld Z h a0 "com/example/wedgetree/wedgetree/core/OpenedNodes" "opened" "J" (.long oo) ∧ OArr Z h r1 .boolean (4 : Int32) [(.int x0), (.int (if x2 = (0 : Int32) then (if x1 = (0 : Int32) then (1 : Int32) else x1) else x1)), (.int (if x2 = (0 : Int32) then (1 : Int32) else x2)), (.int x3)] (.int (0 : Int32)) ∧ Fld Z h a0 "com/example/wedgetree/wedgetree/core/OpenedNodes" "holding" "J" (.long (if x2 = (0 : Int32) then (if x1 = (0 : Int32) then ((hv + (1 : Int64)) + (1 : Int64)) else (hv + (1 : Int64))) else hv))
set_option maxRecDepth 65536 in
set_option maxHeartbeats 40000000 in
theorem rm20_2 (l : Launch) (Z : State) (aZ : Array Value) (hw : ∀ d ∈ tables_1, d.before aZ Z = true) (ws : List Jvm.Cond) (a0 : Addr) (w1 : Addr) (r1 : Addr) (x0 : Int32) (x1 : Int32) (x2 : Int32) (x3 : Int32) (ww : Int32) (oo : Int64) (hv : Int64) (h0 : Heap) (n0 : Nat) (Z0 : n0 ≤ h0.size) (P0 : Fld Z h0 a0 "com/example/wedgetree/wedgetree/core/OpenedNodes" "waitingDepths" "[I" (.ref w1)) (P1 : Fld Z h0 a0 "com/example/wedgetree/wedgetree/core/OpenedNodes" "waiting" "I" (.int ww)) (P2 : Fld Z h0 a0 "com/example/wedgetree/wedgetree/core/OpenedNodes" "holdsAnswer" "[Z" (.ref r1)) (P3 : Fld Z h0 a0 "com/example/wedgetree/wedgetree/core/OpenedNodes" "tallying" "Z" (.int (1 : Int32))) (P4 : Fld Z h0 a0 "com/example/wedgetree/wedgetree/core/OpenedNodes" "depth" "I" (.int (2 : Int32))) (P5 : Fld Z h0 a0 "com/example/wedgetree/wedgetree/core/OpenedNodes" "opened" "J" (.long oo)) (P6 : Fld Z h0 a0 "com/example/wedgetree/wedgetree/core/OpenedNodes" "holding" "J" (.long hv)) (P7 : OArr Z h0 r1 .boolean (4 : Int32) [(.int x0), (.int x1), (.int x2), (.int x3)] (.int (0 : Int32))) (P8 : Exa Z h0 a0 "com/example/wedgetree/wedgetree/core/OpenedNodes") (P9 : n0 ≤ a0) (P10 : n0 ≤ r1) (P11 : a0 ≠ r1) :
    MetFree l (⟨"com/example/wedgetree/wedgetree/core/OpenedNodes", "answered", "()V"⟩ : MethodName) (head1 (Jvm.Cond.code (⟨"com/example/wedgetree/wedgetree/core/OpenedNodes", "answered", "()V"⟩ : MethodName) prog_27_method_5_code 2 none :: ws) ({ frames := 0, cells := 0, slots := 0, locals := 0 } : Room)) (fun a U => a = #[(.ref a0)] ∧ Z.Warmed39 U.vm ∧ U.heap = h0) (fun _ _ _ _ _ => True) (fun _ U o U' => ∃ v L, o = .returned v ∧ Q20_2 Z a0 w1 r1 x0 x1 x2 x3 ww oo hv h0 n0 v U'.heap L ∧ FrameEnd U o U' L ({ frames := 0, cells := 0, slots := 0, locals := 0 } : Room).cells ({ frames := 0, cells := 0, slots := 0, locals := 0 } : Room).slots) := by
  refine MetFree.of_bodySF (plainFor_of_name pn_com_example_wedgetree_wedgetree_core_OpenedNodes) hisR ?_
  intro p e s m args below meth c s₁ Bd hml0 hP hK
  obtain ⟨rfl, hZ, hh⟩ := hP
  have hx := Bd.exec
  have hby := Bd.bytes
  have hlk : meth.locks = false := BodyLoose.notSynchronized Bd
  have hml : c.maxLocals = 2 := hml0
  have hown : s.vm.findClass "com/example/wedgetree/wedgetree/core/OpenedNodes" = some m.cls := findClass_of_methodNamed Bd.named
  have hnm := (name_of_methodNamed Bd.named Bd.method).1
  have X0 : Stand p l e ({ frames := 0, cells := 0, slots := 0, locals := 0 } : Room) s m #[(.ref a0)] below meth c s₁ [] 0 0 := Stand.of_body Bd
  have e0 : s₁.heap = h0 := by rw [← hh, Bd.state]; rfl
  have N0 := Fr.nil n0
  have K0 : Keep h0 h0 [a0, r1] := Keep.refl _ _
  show OEnd p e below s s₁ (entryFrame m #[(.ref a0)] 2) (Q20_2 Z a0 w1 r1 x0 x1 x2 x3 ww oo hv h0 n0) ({ frames := 0, cells := 0, slots := 0, locals := 0 } : Room).cells ({ frames := 0, cells := 0, slots := 0, locals := 0 } : Room).slots
  refine OEnd.go (g' := (mkF m 0 #[.val (.ref a0), .unset] [])) (fun _ k => castTop (ef_20_2 m a0) k) ?_
  refine OEnd.go (T' := s₁) (g' := (mkF m 1 #[.val (.ref a0), .unset] [(.ref a0)])) (fun t k => ?_) ?_
  · show Steps p.tables e below (s₁.setTop (mkF m 0 #[.val (.ref a0), .unset] [])) t
    refine XS.aloadN X0.here hx rfl (hb hby d20_0) rfl rfl ?_
    show Steps p.tables e below (s₁.setTop (mkF m 1 #[.val (.ref a0), .unset] [(.ref a0)])) t
    exact k
  obtain ⟨T1, X1, e1, st1⟩ := getF X0 hx hZ hown (host := "") (Or.inl (hw _ (List.mem_of_getElem? (i := 20) rfl))) Via.refl e0 P3 (g := (mkF m 1 #[.val (.ref a0), .unset] [(.ref a0)])) rfl rfl (hb hby d20_1)
  refine OEnd.go (g' := (mkF m 4 #[.val (.ref a0), .unset] [(.int (1 : Int32))])) st1 ?_
  refine OEnd.go (T' := T1) (g' := (mkF m 9 #[.val (.ref a0), .unset] [(.ref a0)])) (fun t k => ?_) ?_
  · show Steps p.tables e below (T1.setTop (mkF m 4 #[.val (.ref a0), .unset] [(.int (1 : Int32))])) t
    refine XS.ifYes X1.here hx rfl (pc0 := 4) (pc' := 8) rfl (hb hby d20_4) rfl ((if0 _ _).trans (feq ((by decide))).2) (by decide) (by decide) ?_
    show Steps p.tables e below (T1.setTop (mkF m 8 #[.val (.ref a0), .unset] [])) t
    refine XS.aloadN X1.here hx rfl (hb hby d20_8) rfl rfl ?_
    show Steps p.tables e below (T1.setTop (mkF m 9 #[.val (.ref a0), .unset] [(.ref a0)])) t
    exact k
  obtain ⟨T2, X2, e2, st2⟩ := getF X1 hx hZ hown (host := "") (Or.inl (hw _ (List.mem_of_getElem? (i := 27) rfl))) Via.refl e1 P4 (g := (mkF m 9 #[.val (.ref a0), .unset] [(.ref a0)])) rfl rfl (hb hby d20_9)
  refine OEnd.go (g' := (mkF m 12 #[.val (.ref a0), .unset] [(.int (2 : Int32))])) st2 ?_
  refine OEnd.go (T' := T2) (g' := (mkF m 18 #[.val (.ref a0), .val (.int (2 : Int32))] [(.ref a0)])) (fun t k => ?_) ?_
  · show Steps p.tables e below (T2.setTop (mkF m 12 #[.val (.ref a0), .unset] [(.int (2 : Int32))])) t
    refine XS.istoreN X2.here hx rfl (hb hby d20_12) rfl (l' := #[.val (.ref a0), .val (.int (2 : Int32))]) rfl ?_
    show Steps p.tables e below (T2.setTop (mkF m 13 #[.val (.ref a0), .val (.int (2 : Int32))] [])) t
    refine XS.iloadN X2.here hx rfl (hb hby d20_13) rfl ?_
    show Steps p.tables e below (T2.setTop (mkF m 14 #[.val (.ref a0), .val (.int (2 : Int32))] [(.int (2 : Int32))])) t
    refine XS.ifNo X2.here hx rfl (hb hby d20_14) rfl ((if0 _ _).trans (tlt ((by decide))).2.2.2) ?_
    show Steps p.tables e below (T2.setTop (mkF m 17 #[.val (.ref a0), .val (.int (2 : Int32))] [])) t
    refine XS.aloadN X2.here hx rfl (hb hby d20_17) rfl rfl ?_
    show Steps p.tables e below (T2.setTop (mkF m 18 #[.val (.ref a0), .val (.int (2 : Int32))] [(.ref a0)])) t
    exact k
  obtain ⟨T3, X3, e3, st3⟩ := getF X2 hx hZ hown (host := "") (Or.inl (hw _ (List.mem_of_getElem? (i := 18) rfl))) Via.refl e2 P2 (g := (mkF m 18 #[.val (.ref a0), .val (.int (2 : Int32))] [(.ref a0)])) rfl rfl (hb hby d20_18)
  refine OEnd.go (g' := (mkF m 21 #[.val (.ref a0), .val (.int (2 : Int32))] [(.ref r1)])) st3 ?_
  refine OEnd.go (T' := T3) (g' := (mkF m 22 #[.val (.ref a0), .val (.int (2 : Int32))] [(.int (2 : Int32)), (.ref r1)])) (fun t k => ?_) ?_
  · show Steps p.tables e below (T3.setTop (mkF m 21 #[.val (.ref a0), .val (.int (2 : Int32))] [(.ref r1)])) t
    refine XS.iloadN X3.here hx rfl (hb hby d20_21) rfl ?_
    show Steps p.tables e below (T3.setTop (mkF m 22 #[.val (.ref a0), .val (.int (2 : Int32))] [(.int (2 : Int32)), (.ref r1)])) t
    exact k
  obtain ⟨kc4, cl4, Ar4, q4, S4, M4, H4, G4⟩ := id P7
  have hin4 : ¬ ((2 : Int32) < 0 ∨ cl4.slots.size ≤ ((2 : Int32)).toNatClampNeg) := inb_of S4 ⟨by decide, by decide⟩
  have hat4 : cl4.slots[((2 : Int32)).toNatClampNeg]? = some (.int x2) := Has.at H4 hin4 rfl
  refine OEnd.go (T' := T3) (g' := (mkF m 23 #[.val (.ref a0), .val (.int (2 : Int32))] [(.int x2)])) (fun t k => ?_) ?_
  · refine X3.baloadBooleans hx (j := (2 : Int32)) (v := (.int x2)) (by rw [e3]; exact Ar4.1) (State.isArrayOf_alike hZ.alike Ar4.2.1) Ar4.2.2 hin4 hat4 (g := (mkF m 22 #[.val (.ref a0), .val (.int (2 : Int32))] [(.int (2 : Int32)), (.ref r1)])) rfl rfl (hb hby d20_22) _ ?_
    exact k
  by_cases hc5 : x2 = (0 : Int32)
  · skip
    refine OEnd.go (T' := T3) (g' := (mkF m 26 #[.val (.ref a0), .val (.int (2 : Int32))] [])) (fun t k => ?_) ?_
    · show Steps p.tables e below (T3.setTop (mkF m 23 #[.val (.ref a0), .val (.int (2 : Int32))] [(.int x2)])) t
      refine XS.ifNo X3.here hx rfl (hb hby d20_23) rfl ((if0 _ _).trans (teq (hc5)).2) ?_
      show Steps p.tables e below (T3.setTop (mkF m 26 #[.val (.ref a0), .val (.int (2 : Int32))] [])) t
      exact k
    refine OEnd.go (T' := T3) (g' := (mkF m 27 #[.val (.ref a0), .val (.int (2 : Int32))] [(.ref a0)])) (fun t k => ?_) ?_
    · show Steps p.tables e below (T3.setTop (mkF m 26 #[.val (.ref a0), .val (.int (2 : Int32))] [])) t
      refine XS.aloadN X3.here hx rfl (hb hby d20_26) rfl rfl ?_
      show Steps p.tables e below (T3.setTop (mkF m 27 #[.val (.ref a0), .val (.int (2 : Int32))] [(.ref a0)])) t
      exact k
    obtain ⟨T6, X6, e6, st6⟩ := getF X3 hx hZ hown (host := "") (Or.inl (hw _ (List.mem_of_getElem? (i := 18) rfl))) Via.refl e3 P2 (g := (mkF m 27 #[.val (.ref a0), .val (.int (2 : Int32))] [(.ref a0)])) rfl rfl (hb hby d20_27)
    refine OEnd.go (g' := (mkF m 30 #[.val (.ref a0), .val (.int (2 : Int32))] [(.ref r1)])) st6 ?_
    refine OEnd.go (T' := T6) (g' := (mkF m 32 #[.val (.ref a0), .val (.int (2 : Int32))] [(.int (1 : Int32)), (.int (2 : Int32)), (.ref r1)])) (fun t k => ?_) ?_
    · show Steps p.tables e below (T6.setTop (mkF m 30 #[.val (.ref a0), .val (.int (2 : Int32))] [(.ref r1)])) t
      refine XS.iloadN X6.here hx rfl (hb hby d20_30) rfl ?_
      show Steps p.tables e below (T6.setTop (mkF m 31 #[.val (.ref a0), .val (.int (2 : Int32))] [(.int (2 : Int32)), (.ref r1)])) t
      refine XS.iconst X6.here hx rfl (hb hby d20_31) ?_
      show Steps p.tables e below (T6.setTop (mkF m 32 #[.val (.ref a0), .val (.int (2 : Int32))] [(.int (1 : Int32)), (.int (2 : Int32)), (.ref r1)])) t
      exact k
    obtain ⟨kc7, cl7, Ar7, q7, S7, M7, H7, G7⟩ := id P7
    have hin7 : ¬ ((2 : Int32) < 0 ∨ cl7.slots.size ≤ ((2 : Int32)).toNatClampNeg) := inb_of S7 ⟨by decide, by decide⟩
    obtain ⟨T7, h7, X7, e7, W7, st7⟩ := stZ X6 hx hZ e6 Ar7 (j := (2 : Int32)) hin7 (g := (mkF m 32 #[.val (.ref a0), .val (.int (2 : Int32))] [(.int (1 : Int32)), (.int (2 : Int32)), (.ref r1)])) rfl rfl (hb hby d20_32)
    have N7 := Fr.snoc X7 N0 P10
    have Z7 : n0 ≤ h7.size := Nat.le_trans Z0 (Keep.of_wr W7).1
    have K7 : Keep h0 h7 [a0, r1] := K0.wr W7 (Or.inl (List.mem_of_getElem? (i := 1) rfl))
    have V7 : OArr Z h7 r1 .boolean (4 : Int32) [(.int x0), (.int x1), (.int (1 : Int32)), (.int x3)] (.int (0 : Int32)) := ⟨_, Arv.set Ar7 q7 S7 M7 H7 G7 (fits_nar_bool _) W7 2 rfl (Nat.le_of_ble_eq_true rfl)⟩
    have fc8 : Fld Z h7 a0 "com/example/wedgetree/wedgetree/core/OpenedNodes" "waitingDepths" "[I" (.ref w1) := (P0.other W7 (Or.inl P11))
    have fc9 : Fld Z h7 a0 "com/example/wedgetree/wedgetree/core/OpenedNodes" "waiting" "I" (.int ww) := (P1.other W7 (Or.inl P11))
    have fc10 : Fld Z h7 a0 "com/example/wedgetree/wedgetree/core/OpenedNodes" "holdsAnswer" "[Z" (.ref r1) := (P2.other W7 (Or.inl P11))
    have fc11 : Fld Z h7 a0 "com/example/wedgetree/wedgetree/core/OpenedNodes" "tallying" "Z" (.int (1 : Int32)) := (P3.other W7 (Or.inl P11))
    have fc12 : Fld Z h7 a0 "com/example/wedgetree/wedgetree/core/OpenedNodes" "depth" "I" (.int (2 : Int32)) := (P4.other W7 (Or.inl P11))
    have fc13 : Fld Z h7 a0 "com/example/wedgetree/wedgetree/core/OpenedNodes" "opened" "J" (.long oo) := (P5.other W7 (Or.inl P11))
    have fc14 : Fld Z h7 a0 "com/example/wedgetree/wedgetree/core/OpenedNodes" "holding" "J" (.long hv) := (P6.other W7 (Or.inl P11))
    have fc15 : Exa Z h7 a0 "com/example/wedgetree/wedgetree/core/OpenedNodes" := (P8.wr W7)
    refine OEnd.go (g' := (mkF m 33 #[.val (.ref a0), .val (.int (2 : Int32))] [])) st7 ?_
    refine OEnd.go (T' := T7) (g' := (mkF m 35 #[.val (.ref a0), .val (.int (2 : Int32))] [(.ref a0), (.ref a0)])) (fun t k => ?_) ?_
    · show Steps p.tables e below (T7.setTop (mkF m 33 #[.val (.ref a0), .val (.int (2 : Int32))] [])) t
      refine XS.aloadN X7.here hx rfl (hb hby d20_33) rfl rfl ?_
      show Steps p.tables e below (T7.setTop (mkF m 34 #[.val (.ref a0), .val (.int (2 : Int32))] [(.ref a0)])) t
      refine XS.dup X7.here hx rfl (hb hby d20_34) rfl rfl ?_
      show Steps p.tables e below (T7.setTop (mkF m 35 #[.val (.ref a0), .val (.int (2 : Int32))] [(.ref a0), (.ref a0)])) t
      exact k
    obtain ⟨T16, X16, e16, st16⟩ := getF X7 hx hZ hown (host := "") (Or.inl (hw _ (List.mem_of_getElem? (i := 73) rfl))) Via.refl e7 fc14 (g := (mkF m 35 #[.val (.ref a0), .val (.int (2 : Int32))] [(.ref a0), (.ref a0)])) rfl rfl (hb hby d20_35)
    refine OEnd.go (g' := (mkF m 38 #[.val (.ref a0), .val (.int (2 : Int32))] [(.long hv), (.ref a0)])) st16 ?_
    refine OEnd.go (T' := T16) (g' := (mkF m 40 #[.val (.ref a0), .val (.int (2 : Int32))] [(.long (hv + (1 : Int64))), (.ref a0)])) (fun t k => ?_) ?_
    · show Steps p.tables e below (T16.setTop (mkF m 38 #[.val (.ref a0), .val (.int (2 : Int32))] [(.long hv), (.ref a0)])) t
      refine XS.lconst X16.here hx rfl (hb hby d20_38) ?_
      show Steps p.tables e below (T16.setTop (mkF m 39 #[.val (.ref a0), .val (.int (2 : Int32))] [(.long (1 : Int64)), (.long hv), (.ref a0)])) t
      refine XS.ladd X16.here hx rfl (hb hby d20_39) rfl ?_
      show Steps p.tables e below (T16.setTop (mkF m 40 #[.val (.ref a0), .val (.int (2 : Int32))] [(.long (hv + (1 : Int64))), (.ref a0)])) t
      exact k
    obtain ⟨T17, h17, X17, e17, W17, st17⟩ := putF X16 hx hZ hown (host := "") (Or.inl (hw _ (List.mem_of_getElem? (i := 73) rfl))) Via.refl e16 fc14 fc15 (Or.inl (hw _ (List.mem_of_getElem? (i := 74) rfl))) (hw _ (List.mem_of_getElem? (i := 1) rfl)) (ty := .long) (by decide) rfl rfl (g := (mkF m 40 #[.val (.ref a0), .val (.int (2 : Int32))] [(.long (hv + (1 : Int64))), (.ref a0)])) rfl rfl (hb hby d20_40)
    have N17 := Fr.snoc X17 N7 P9
    have Z17 : n0 ≤ h17.size := Nat.le_trans Z7 (Keep.of_wr W17).1
    have K17 : Keep h0 h17 [a0, r1] := K7.wr W17 (Or.inl (List.mem_of_getElem? (i := 0) rfl))
    have fc18 : Fld Z h17 a0 "com/example/wedgetree/wedgetree/core/OpenedNodes" "waitingDepths" "[I" (.ref w1) := (fc8.other W17 (Or.inr (slot_ne (Or.inl (hw _ (List.mem_of_getElem? (i := 14) rfl))) (Or.inl (hw _ (List.mem_of_getElem? (i := 74) rfl))) (by decide) (t := (.array .int)) (t' := .long) (by decide) (by decide))))
    have fc19 : Fld Z h17 a0 "com/example/wedgetree/wedgetree/core/OpenedNodes" "waiting" "I" (.int ww) := (fc9.other W17 (Or.inr (slot_ne (Or.inl (hw _ (List.mem_of_getElem? (i := 16) rfl))) (Or.inl (hw _ (List.mem_of_getElem? (i := 74) rfl))) (by decide) (t := .int) (t' := .long) (by decide) (by decide))))
    have fc20 : Fld Z h17 a0 "com/example/wedgetree/wedgetree/core/OpenedNodes" "holdsAnswer" "[Z" (.ref r1) := (fc10.other W17 (Or.inr (slot_ne (Or.inl (hw _ (List.mem_of_getElem? (i := 19) rfl))) (Or.inl (hw _ (List.mem_of_getElem? (i := 74) rfl))) (by decide) (t := (.array .boolean)) (t' := .long) (by decide) (by decide))))
    have fc21 : Fld Z h17 a0 "com/example/wedgetree/wedgetree/core/OpenedNodes" "tallying" "Z" (.int (1 : Int32)) := (fc11.other W17 (Or.inr (slot_ne (Or.inr (hw _ (List.mem_of_getElem? (i := 21) rfl))) (Or.inl (hw _ (List.mem_of_getElem? (i := 74) rfl))) (by decide) (t := .boolean) (t' := .long) (by decide) (by decide))))
    have fc22 : Fld Z h17 a0 "com/example/wedgetree/wedgetree/core/OpenedNodes" "depth" "I" (.int (2 : Int32)) := (fc12.other W17 (Or.inr (slot_ne (Or.inl (hw _ (List.mem_of_getElem? (i := 28) rfl))) (Or.inl (hw _ (List.mem_of_getElem? (i := 74) rfl))) (by decide) (t := .int) (t' := .long) (by decide) (by decide))))
    have fc23 : Fld Z h17 a0 "com/example/wedgetree/wedgetree/core/OpenedNodes" "opened" "J" (.long oo) := (fc13.other W17 (Or.inr (slot_ne (Or.inl (hw _ (List.mem_of_getElem? (i := 53) rfl))) (Or.inl (hw _ (List.mem_of_getElem? (i := 74) rfl))) (by decide) (t := .long) (t' := .long) (by decide) (by decide))))
    have fc24 : Fld Z h17 a0 "com/example/wedgetree/wedgetree/core/OpenedNodes" "holding" "J" (.long (hv + (1 : Int64))) := (fc14.same W17)
    have fc25 : Exa Z h17 a0 "com/example/wedgetree/wedgetree/core/OpenedNodes" := (fc15.wr W17)
    have fc26 : OArr Z h17 r1 .boolean (4 : Int32) [(.int x0), (.int x1), (.int (1 : Int32)), (.int x3)] (.int (0 : Int32)) := (V7.other W17 (Ne.symm P11))
    refine OEnd.go (g' := (mkF m 43 #[.val (.ref a0), .val (.int (2 : Int32))] [])) st17 ?_
    refine OEnd.go (T' := T17) (g' := (mkF m 18 #[.val (.ref a0), .val (.int (1 : Int32))] [(.ref a0)])) (fun t k => ?_) ?_
    · show Steps p.tables e below (T17.setTop (mkF m 43 #[.val (.ref a0), .val (.int (2 : Int32))] [])) t
      refine XS.iinc X17.here hx rfl (hb hby d20_43) rfl (l' := #[.val (.ref a0), .val (.int (1 : Int32))]) rfl ?_
      show Steps p.tables e below (T17.setTop (mkF m 46 #[.val (.ref a0), .val (.int (1 : Int32))] [])) t
      refine XS.goto X17.here hx rfl (pc0 := 46) (pc' := 13) rfl (hb hby d20_46) (by decide) (by decide) ?_
      show Steps p.tables e below (T17.setTop (mkF m 13 #[.val (.ref a0), .val (.int (1 : Int32))] [])) t
      refine XS.iloadN X17.here hx rfl (hb hby d20_13) rfl ?_
      show Steps p.tables e below (T17.setTop (mkF m 14 #[.val (.ref a0), .val (.int (1 : Int32))] [(.int (1 : Int32))])) t
      refine XS.ifNo X17.here hx rfl (hb hby d20_14) rfl ((if0 _ _).trans (tlt ((by decide))).2.2.2) ?_
      show Steps p.tables e below (T17.setTop (mkF m 17 #[.val (.ref a0), .val (.int (1 : Int32))] [])) t
      refine XS.aloadN X17.here hx rfl (hb hby d20_17) rfl rfl ?_
      show Steps p.tables e below (T17.setTop (mkF m 18 #[.val (.ref a0), .val (.int (1 : Int32))] [(.ref a0)])) t
      exact k
    obtain ⟨T27, X27, e27, st27⟩ := getF X17 hx hZ hown (host := "") (Or.inl (hw _ (List.mem_of_getElem? (i := 18) rfl))) Via.refl e17 fc20 (g := (mkF m 18 #[.val (.ref a0), .val (.int (1 : Int32))] [(.ref a0)])) rfl rfl (hb hby d20_18)
    refine OEnd.go (g' := (mkF m 21 #[.val (.ref a0), .val (.int (1 : Int32))] [(.ref r1)])) st27 ?_
    refine OEnd.go (T' := T27) (g' := (mkF m 22 #[.val (.ref a0), .val (.int (1 : Int32))] [(.int (1 : Int32)), (.ref r1)])) (fun t k => ?_) ?_
    · show Steps p.tables e below (T27.setTop (mkF m 21 #[.val (.ref a0), .val (.int (1 : Int32))] [(.ref r1)])) t
      refine XS.iloadN X27.here hx rfl (hb hby d20_21) rfl ?_
      show Steps p.tables e below (T27.setTop (mkF m 22 #[.val (.ref a0), .val (.int (1 : Int32))] [(.int (1 : Int32)), (.ref r1)])) t
      exact k
    obtain ⟨kc28, cl28, Ar28, q28, S28, M28, H28, G28⟩ := id fc26
    have hin28 : ¬ ((1 : Int32) < 0 ∨ cl28.slots.size ≤ ((1 : Int32)).toNatClampNeg) := inb_of S28 ⟨by decide, by decide⟩
    have hat28 : cl28.slots[((1 : Int32)).toNatClampNeg]? = some (.int x1) := Has.at H28 hin28 rfl
    refine OEnd.go (T' := T27) (g' := (mkF m 23 #[.val (.ref a0), .val (.int (1 : Int32))] [(.int x1)])) (fun t k => ?_) ?_
    · refine X27.baloadBooleans hx (j := (1 : Int32)) (v := (.int x1)) (by rw [e27]; exact Ar28.1) (State.isArrayOf_alike hZ.alike Ar28.2.1) Ar28.2.2 hin28 hat28 (g := (mkF m 22 #[.val (.ref a0), .val (.int (1 : Int32))] [(.int (1 : Int32)), (.ref r1)])) rfl rfl (hb hby d20_22) _ ?_
      exact k
    by_cases hc29 : x1 = (0 : Int32)
    · skip
      refine OEnd.go (T' := T27) (g' := (mkF m 26 #[.val (.ref a0), .val (.int (1 : Int32))] [])) (fun t k => ?_) ?_
      · show Steps p.tables e below (T27.setTop (mkF m 23 #[.val (.ref a0), .val (.int (1 : Int32))] [(.int x1)])) t
        refine XS.ifNo X27.here hx rfl (hb hby d20_23) rfl ((if0 _ _).trans (teq (hc29)).2) ?_
        show Steps p.tables e below (T27.setTop (mkF m 26 #[.val (.ref a0), .val (.int (1 : Int32))] [])) t
        exact k
      refine OEnd.go (T' := T27) (g' := (mkF m 27 #[.val (.ref a0), .val (.int (1 : Int32))] [(.ref a0)])) (fun t k => ?_) ?_
      · show Steps p.tables e below (T27.setTop (mkF m 26 #[.val (.ref a0), .val (.int (1 : Int32))] [])) t
        refine XS.aloadN X27.here hx rfl (hb hby d20_26) rfl rfl ?_
        show Steps p.tables e below (T27.setTop (mkF m 27 #[.val (.ref a0), .val (.int (1 : Int32))] [(.ref a0)])) t
        exact k
      obtain ⟨T30, X30, e30, st30⟩ := getF X27 hx hZ hown (host := "") (Or.inl (hw _ (List.mem_of_getElem? (i := 18) rfl))) Via.refl e27 fc20 (g := (mkF m 27 #[.val (.ref a0), .val (.int (1 : Int32))] [(.ref a0)])) rfl rfl (hb hby d20_27)
      refine OEnd.go (g' := (mkF m 30 #[.val (.ref a0), .val (.int (1 : Int32))] [(.ref r1)])) st30 ?_
      refine OEnd.go (T' := T30) (g' := (mkF m 32 #[.val (.ref a0), .val (.int (1 : Int32))] [(.int (1 : Int32)), (.int (1 : Int32)), (.ref r1)])) (fun t k => ?_) ?_
      · show Steps p.tables e below (T30.setTop (mkF m 30 #[.val (.ref a0), .val (.int (1 : Int32))] [(.ref r1)])) t
        refine XS.iloadN X30.here hx rfl (hb hby d20_30) rfl ?_
        show Steps p.tables e below (T30.setTop (mkF m 31 #[.val (.ref a0), .val (.int (1 : Int32))] [(.int (1 : Int32)), (.ref r1)])) t
        refine XS.iconst X30.here hx rfl (hb hby d20_31) ?_
        show Steps p.tables e below (T30.setTop (mkF m 32 #[.val (.ref a0), .val (.int (1 : Int32))] [(.int (1 : Int32)), (.int (1 : Int32)), (.ref r1)])) t
        exact k
      obtain ⟨kc31, cl31, Ar31, q31, S31, M31, H31, G31⟩ := id fc26
      have hin31 : ¬ ((1 : Int32) < 0 ∨ cl31.slots.size ≤ ((1 : Int32)).toNatClampNeg) := inb_of S31 ⟨by decide, by decide⟩
      obtain ⟨T31, h31, X31, e31, W31, st31⟩ := stZ X30 hx hZ e30 Ar31 (j := (1 : Int32)) hin31 (g := (mkF m 32 #[.val (.ref a0), .val (.int (1 : Int32))] [(.int (1 : Int32)), (.int (1 : Int32)), (.ref r1)])) rfl rfl (hb hby d20_32)
      have N31 := Fr.snoc X31 N17 P10
      have Z31 : n0 ≤ h31.size := Nat.le_trans Z17 (Keep.of_wr W31).1
      have K31 : Keep h0 h31 [a0, r1] := K17.wr W31 (Or.inl (List.mem_of_getElem? (i := 1) rfl))
      have V31 : OArr Z h31 r1 .boolean (4 : Int32) [(.int x0), (.int (1 : Int32)), (.int (1 : Int32)), (.int x3)] (.int (0 : Int32)) := ⟨_, Arv.set Ar31 q31 S31 M31 H31 G31 (fits_nar_bool _) W31 1 rfl (Nat.le_of_ble_eq_true rfl)⟩
      have fc32 : Fld Z h31 a0 "com/example/wedgetree/wedgetree/core/OpenedNodes" "waitingDepths" "[I" (.ref w1) := (fc18.other W31 (Or.inl P11))
      have fc33 : Fld Z h31 a0 "com/example/wedgetree/wedgetree/core/OpenedNodes" "waiting" "I" (.int ww) := (fc19.other W31 (Or.inl P11))
      have fc34 : Fld Z h31 a0 "com/example/wedgetree/wedgetree/core/OpenedNodes" "holdsAnswer" "[Z" (.ref r1) := (fc20.other W31 (Or.inl P11))
      have fc35 : Fld Z h31 a0 "com/example/wedgetree/wedgetree/core/OpenedNodes" "tallying" "Z" (.int (1 : Int32)) := (fc21.other W31 (Or.inl P11))
      have fc36 : Fld Z h31 a0 "com/example/wedgetree/wedgetree/core/OpenedNodes" "depth" "I" (.int (2 : Int32)) := (fc22.other W31 (Or.inl P11))
      have fc37 : Fld Z h31 a0 "com/example/wedgetree/wedgetree/core/OpenedNodes" "opened" "J" (.long oo) := (fc23.other W31 (Or.inl P11))
      have fc38 : Fld Z h31 a0 "com/example/wedgetree/wedgetree/core/OpenedNodes" "holding" "J" (.long (hv + (1 : Int64))) := (fc24.other W31 (Or.inl P11))
      have fc39 : Exa Z h31 a0 "com/example/wedgetree/wedgetree/core/OpenedNodes" := (fc25.wr W31)
      refine OEnd.go (g' := (mkF m 33 #[.val (.ref a0), .val (.int (1 : Int32))] [])) st31 ?_
      refine OEnd.go (T' := T31) (g' := (mkF m 35 #[.val (.ref a0), .val (.int (1 : Int32))] [(.ref a0), (.ref a0)])) (fun t k => ?_) ?_
      · show Steps p.tables e below (T31.setTop (mkF m 33 #[.val (.ref a0), .val (.int (1 : Int32))] [])) t
        refine XS.aloadN X31.here hx rfl (hb hby d20_33) rfl rfl ?_
        show Steps p.tables e below (T31.setTop (mkF m 34 #[.val (.ref a0), .val (.int (1 : Int32))] [(.ref a0)])) t
        refine XS.dup X31.here hx rfl (hb hby d20_34) rfl rfl ?_
        show Steps p.tables e below (T31.setTop (mkF m 35 #[.val (.ref a0), .val (.int (1 : Int32))] [(.ref a0), (.ref a0)])) t
        exact k
      obtain ⟨T40, X40, e40, st40⟩ := getF X31 hx hZ hown (host := "") (Or.inl (hw _ (List.mem_of_getElem? (i := 73) rfl))) Via.refl e31 fc38 (g := (mkF m 35 #[.val (.ref a0), .val (.int (1 : Int32))] [(.ref a0), (.ref a0)])) rfl rfl (hb hby d20_35)
      refine OEnd.go (g' := (mkF m 38 #[.val (.ref a0), .val (.int (1 : Int32))] [(.long (hv + (1 : Int64))), (.ref a0)])) st40 ?_
      refine OEnd.go (T' := T40) (g' := (mkF m 40 #[.val (.ref a0), .val (.int (1 : Int32))] [(.long ((hv + (1 : Int64)) + (1 : Int64))), (.ref a0)])) (fun t k => ?_) ?_
      · show Steps p.tables e below (T40.setTop (mkF m 38 #[.val (.ref a0), .val (.int (1 : Int32))] [(.long (hv + (1 : Int64))), (.ref a0)])) t
        refine XS.lconst X40.here hx rfl (hb hby d20_38) ?_
        show Steps p.tables e below (T40.setTop (mkF m 39 #[.val (.ref a0), .val (.int (1 : Int32))] [(.long (1 : Int64)), (.long (hv + (1 : Int64))), (.ref a0)])) t
        refine XS.ladd X40.here hx rfl (hb hby d20_39) rfl ?_
        show Steps p.tables e below (T40.setTop (mkF m 40 #[.val (.ref a0), .val (.int (1 : Int32))] [(.long ((hv + (1 : Int64)) + (1 : Int64))), (.ref a0)])) t
        exact k
      obtain ⟨T41, h41, X41, e41, W41, st41⟩ := putF X40 hx hZ hown (host := "") (Or.inl (hw _ (List.mem_of_getElem? (i := 73) rfl))) Via.refl e40 fc38 fc39 (Or.inl (hw _ (List.mem_of_getElem? (i := 74) rfl))) (hw _ (List.mem_of_getElem? (i := 1) rfl)) (ty := .long) (by decide) rfl rfl (g := (mkF m 40 #[.val (.ref a0), .val (.int (1 : Int32))] [(.long ((hv + (1 : Int64)) + (1 : Int64))), (.ref a0)])) rfl rfl (hb hby d20_40)
      have N41 := Fr.snoc X41 N31 P9
      have Z41 : n0 ≤ h41.size := Nat.le_trans Z31 (Keep.of_wr W41).1
      have K41 : Keep h0 h41 [a0, r1] := K31.wr W41 (Or.inl (List.mem_of_getElem? (i := 0) rfl))
      have fc42 : Fld Z h41 a0 "com/example/wedgetree/wedgetree/core/OpenedNodes" "waitingDepths" "[I" (.ref w1) := (fc32.other W41 (Or.inr (slot_ne (Or.inl (hw _ (List.mem_of_getElem? (i := 14) rfl))) (Or.inl (hw _ (List.mem_of_getElem? (i := 74) rfl))) (by decide) (t := (.array .int)) (t' := .long) (by decide) (by decide))))
      have fc43 : Fld Z h41 a0 "com/example/wedgetree/wedgetree/core/OpenedNodes" "waiting" "I" (.int ww) := (fc33.other W41 (Or.inr (slot_ne (Or.inl (hw _ (List.mem_of_getElem? (i := 16) rfl))) (Or.inl (hw _ (List.mem_of_getElem? (i := 74) rfl))) (by decide) (t := .int) (t' := .long) (by decide) (by decide))))
      have fc44 : Fld Z h41 a0 "com/example/wedgetree/wedgetree/core/OpenedNodes" "holdsAnswer" "[Z" (.ref r1) := (fc34.other W41 (Or.inr (slot_ne (Or.inl (hw _ (List.mem_of_getElem? (i := 19) rfl))) (Or.inl (hw _ (List.mem_of_getElem? (i := 74) rfl))) (by decide) (t := (.array .boolean)) (t' := .long) (by decide) (by decide))))
      have fc45 : Fld Z h41 a0 "com/example/wedgetree/wedgetree/core/OpenedNodes" "tallying" "Z" (.int (1 : Int32)) := (fc35.other W41 (Or.inr (slot_ne (Or.inr (hw _ (List.mem_of_getElem? (i := 21) rfl))) (Or.inl (hw _ (List.mem_of_getElem? (i := 74) rfl))) (by decide) (t := .boolean) (t' := .long) (by decide) (by decide))))
      have fc46 : Fld Z h41 a0 "com/example/wedgetree/wedgetree/core/OpenedNodes" "depth" "I" (.int (2 : Int32)) := (fc36.other W41 (Or.inr (slot_ne (Or.inl (hw _ (List.mem_of_getElem? (i := 28) rfl))) (Or.inl (hw _ (List.mem_of_getElem? (i := 74) rfl))) (by decide) (t := .int) (t' := .long) (by decide) (by decide))))
      have fc47 : Fld Z h41 a0 "com/example/wedgetree/wedgetree/core/OpenedNodes" "opened" "J" (.long oo) := (fc37.other W41 (Or.inr (slot_ne (Or.inl (hw _ (List.mem_of_getElem? (i := 53) rfl))) (Or.inl (hw _ (List.mem_of_getElem? (i := 74) rfl))) (by decide) (t := .long) (t' := .long) (by decide) (by decide))))
      have fc48 : Fld Z h41 a0 "com/example/wedgetree/wedgetree/core/OpenedNodes" "holding" "J" (.long ((hv + (1 : Int64)) + (1 : Int64))) := (fc38.same W41)
      have fc49 : Exa Z h41 a0 "com/example/wedgetree/wedgetree/core/OpenedNodes" := (fc39.wr W41)
      have fc50 : OArr Z h41 r1 .boolean (4 : Int32) [(.int x0), (.int (1 : Int32)), (.int (1 : Int32)), (.int x3)] (.int (0 : Int32)) := (V31.other W41 (Ne.symm P11))
      refine OEnd.go (g' := (mkF m 43 #[.val (.ref a0), .val (.int (1 : Int32))] [])) st41 ?_
      refine OEnd.go (T' := T41) (g' := (mkF m 49 #[.val (.ref a0), .val (.int (0 : Int32))] [])) (fun t k => ?_) ?_
      · show Steps p.tables e below (T41.setTop (mkF m 43 #[.val (.ref a0), .val (.int (1 : Int32))] [])) t
        refine XS.iinc X41.here hx rfl (hb hby d20_43) rfl (l' := #[.val (.ref a0), .val (.int (0 : Int32))]) rfl ?_
        show Steps p.tables e below (T41.setTop (mkF m 46 #[.val (.ref a0), .val (.int (0 : Int32))] [])) t
        refine XS.goto X41.here hx rfl (pc0 := 46) (pc' := 13) rfl (hb hby d20_46) (by decide) (by decide) ?_
        show Steps p.tables e below (T41.setTop (mkF m 13 #[.val (.ref a0), .val (.int (0 : Int32))] [])) t
        refine XS.iloadN X41.here hx rfl (hb hby d20_13) rfl ?_
        show Steps p.tables e below (T41.setTop (mkF m 14 #[.val (.ref a0), .val (.int (0 : Int32))] [(.int (0 : Int32))])) t
        refine XS.ifYes X41.here hx rfl (pc0 := 14) (pc' := 49) rfl (hb hby d20_14) rfl ((if0 _ _).trans (flt ((by decide))).2.2.2) (by decide) (by decide) ?_
        show Steps p.tables e below (T41.setTop (mkF m 49 #[.val (.ref a0), .val (.int (0 : Int32))] [])) t
        exact k
      exact OEnd.void X41 hx Bd.returns hlk (hb hby d20_49) ⟨rfl, N41, (own_at e41 (P := fun h => Keep h0 h [a0, r1]) K41), (own_at e41 (P := fun h => Exa Z h a0 "com/example/wedgetree/wedgetree/core/OpenedNodes") fc49), (own_at e41 (P := fun h => Fld Z h a0 "com/example/wedgetree/wedgetree/core/OpenedNodes" "waitingDepths" "[I" (.ref w1)) fc42), (own_at e41 (P := fun h => Fld Z h a0 "com/example/wedgetree/wedgetree/core/OpenedNodes" "waiting" "I" (.int ww)) fc43), (own_at e41 (P := fun h => Fld Z h a0 "com/example/wedgetree/wedgetree/core/OpenedNodes" "holdsAnswer" "[Z" (.ref r1)) fc44), (own_at e41 (P := fun h => Fld Z h a0 "com/example/wedgetree/wedgetree/core/OpenedNodes" "tallying" "Z" (.int (1 : Int32))) fc45), (own_at e41 (P := fun h => Fld Z h a0 "com/example/wedgetree/wedgetree/core/OpenedNodes" "depth" "I" (.int (2 : Int32))) fc46), (own_at e41 (P := fun h => Fld Z h a0 "com/example/wedgetree/wedgetree/core/OpenedNodes" "opened" "J" (.long oo)) fc47), (own_p (P := fun (z : Int32) => OArr Z _ r1 .boolean (4 : Int32) [(.int x0), (.int (if x2 = (0 : Int32) then (if x1 = (0 : Int32) then (1 : Int32) else x1) else x1)), (.int z), (.int x3)] (.int (0 : Int32))) (own_symm (if_pos hc5)) (own_p (P := fun (z : Int32) => OArr Z _ r1 .boolean (4 : Int32) [(.int x0), (.int z), (.int (1 : Int32)), (.int x3)] (.int (0 : Int32))) (own_symm ((if_pos hc5).trans (if_pos hc29))) (own_at e41 (P := fun h => OArr Z h r1 .boolean (4 : Int32) [(.int x0), (.int (1 : Int32)), (.int (1 : Int32)), (.int x3)] (.int (0 : Int32))) fc50))), (own_p (P := fun (z : Int64) => Fld Z _ a0 "com/example/wedgetree/wedgetree/core/OpenedNodes" "holding" "J" (.long z)) (own_symm ((if_pos hc5).trans (if_pos hc29))) (own_at e41 (P := fun h => Fld Z h a0 "com/example/wedgetree/wedgetree/core/OpenedNodes" "holding" "J" (.long ((hv + (1 : Int64)) + (1 : Int64)))) fc48))⟩ (by decide) (by decide)
    · skip
      refine OEnd.go (T' := T27) (g' := (mkF m 49 #[.val (.ref a0), .val (.int (1 : Int32))] [])) (fun t k => ?_) ?_
      · show Steps p.tables e below (T27.setTop (mkF m 23 #[.val (.ref a0), .val (.int (1 : Int32))] [(.int x1)])) t
        refine XS.ifYes X27.here hx rfl (pc0 := 23) (pc' := 49) rfl (hb hby d20_23) rfl ((if0 _ _).trans (feq (hc29)).2) (by decide) (by decide) ?_
        show Steps p.tables e below (T27.setTop (mkF m 49 #[.val (.ref a0), .val (.int (1 : Int32))] [])) t
        exact k
      exact OEnd.void X27 hx Bd.returns hlk (hb hby d20_49) ⟨rfl, N17, (own_at e27 (P := fun h => Keep h0 h [a0, r1]) K17), (own_at e27 (P := fun h => Exa Z h a0 "com/example/wedgetree/wedgetree/core/OpenedNodes") fc25), (own_at e27 (P := fun h => Fld Z h a0 "com/example/wedgetree/wedgetree/core/OpenedNodes" "waitingDepths" "[I" (.ref w1)) fc18), (own_at e27 (P := fun h => Fld Z h a0 "com/example/wedgetree/wedgetree/core/OpenedNodes" "waiting" "I" (.int ww)) fc19), (own_at e27 (P := fun h => Fld Z h a0 "com/example/wedgetree/wedgetree/core/OpenedNodes" "holdsAnswer" "[Z" (.ref r1)) fc20), (own_at e27 (P := fun h => Fld Z h a0 "com/example/wedgetree/wedgetree/core/OpenedNodes" "tallying" "Z" (.int (1 : Int32))) fc21), (own_at e27 (P := fun h => Fld Z h a0 "com/example/wedgetree/wedgetree/core/OpenedNodes" "depth" "I" (.int (2 : Int32))) fc22), (own_at e27 (P := fun h => Fld Z h a0 "com/example/wedgetree/wedgetree/core/OpenedNodes" "opened" "J" (.long oo)) fc23), (own_p (P := fun (z : Int32) => OArr Z _ r1 .boolean (4 : Int32) [(.int x0), (.int (if x2 = (0 : Int32) then (if x1 = (0 : Int32) then (1 : Int32) else x1) else x1)), (.int z), (.int x3)] (.int (0 : Int32))) (own_symm (if_pos hc5)) (own_p (P := fun (z : Int32) => OArr Z _ r1 .boolean (4 : Int32) [(.int x0), (.int z), (.int (1 : Int32)), (.int x3)] (.int (0 : Int32))) (own_symm ((if_pos hc5).trans (if_neg hc29))) (own_at e27 (P := fun h => OArr Z h r1 .boolean (4 : Int32) [(.int x0), (.int x1), (.int (1 : Int32)), (.int x3)] (.int (0 : Int32))) fc26))), (own_p (P := fun (z : Int64) => Fld Z _ a0 "com/example/wedgetree/wedgetree/core/OpenedNodes" "holding" "J" (.long z)) (own_symm ((if_pos hc5).trans (if_neg hc29))) (own_at e27 (P := fun h => Fld Z h a0 "com/example/wedgetree/wedgetree/core/OpenedNodes" "holding" "J" (.long (hv + (1 : Int64)))) fc24))⟩ (by decide) (by decide)
  · skip
    refine OEnd.go (T' := T3) (g' := (mkF m 49 #[.val (.ref a0), .val (.int (2 : Int32))] [])) (fun t k => ?_) ?_
    · show Steps p.tables e below (T3.setTop (mkF m 23 #[.val (.ref a0), .val (.int (2 : Int32))] [(.int x2)])) t
      refine XS.ifYes X3.here hx rfl (pc0 := 23) (pc' := 49) rfl (hb hby d20_23) rfl ((if0 _ _).trans (feq (hc5)).2) (by decide) (by decide) ?_
      show Steps p.tables e below (T3.setTop (mkF m 49 #[.val (.ref a0), .val (.int (2 : Int32))] [])) t
      exact k
    exact OEnd.void X3 hx Bd.returns hlk (hb hby d20_49) ⟨rfl, N0, (own_at e3 (P := fun h => Keep h0 h [a0, r1]) K0), (own_at e3 (P := fun h => Exa Z h a0 "com/example/wedgetree/wedgetree/core/OpenedNodes") P8), (own_at e3 (P := fun h => Fld Z h a0 "com/example/wedgetree/wedgetree/core/OpenedNodes" "waitingDepths" "[I" (.ref w1)) P0), (own_at e3 (P := fun h => Fld Z h a0 "com/example/wedgetree/wedgetree/core/OpenedNodes" "waiting" "I" (.int ww)) P1), (own_at e3 (P := fun h => Fld Z h a0 "com/example/wedgetree/wedgetree/core/OpenedNodes" "holdsAnswer" "[Z" (.ref r1)) P2), (own_at e3 (P := fun h => Fld Z h a0 "com/example/wedgetree/wedgetree/core/OpenedNodes" "tallying" "Z" (.int (1 : Int32))) P3), (own_at e3 (P := fun h => Fld Z h a0 "com/example/wedgetree/wedgetree/core/OpenedNodes" "depth" "I" (.int (2 : Int32))) P4), (own_at e3 (P := fun h => Fld Z h a0 "com/example/wedgetree/wedgetree/core/OpenedNodes" "opened" "J" (.long oo)) P5), (own_p (P := fun (z : Int32) => OArr Z _ r1 .boolean (4 : Int32) [(.int x0), (.int (if x2 = (0 : Int32) then (if x1 = (0 : Int32) then (1 : Int32) else x1) else x1)), (.int z), (.int x3)] (.int (0 : Int32))) (own_symm (if_neg hc5)) (own_p (P := fun (z : Int32) => OArr Z _ r1 .boolean (4 : Int32) [(.int x0), (.int z), (.int x2), (.int x3)] (.int (0 : Int32))) (own_symm (if_neg hc5)) (own_at e3 (P := fun h => OArr Z h r1 .boolean (4 : Int32) [(.int x0), (.int x1), (.int x2), (.int x3)] (.int (0 : Int32))) P7))), (own_p (P := fun (z : Int64) => Fld Z _ a0 "com/example/wedgetree/wedgetree/core/OpenedNodes" "holding" "J" (.long z)) (own_symm (if_neg hc5)) (own_at e3 (P := fun h => Fld Z h a0 "com/example/wedgetree/wedgetree/core/OpenedNodes" "holding" "J" (.long hv)) P6))⟩ (by decide) (by decide)
theorem ef_20_3 (m : MethodId) (x0 : Addr) : entryFrame m #[(.ref x0)] 2 = mkF m 0 #[.val (.ref x0), .unset] [] := by first | (simp [entryFrame, mkF, argsToLocals, Value.category]; done) | rfl
def Q20_3 (Z : State) (a0 : Addr) (w1 : Addr) (r1 : Addr) (x0 : Int32) (x1 : Int32) (x2 : Int32) (x3 : Int32) (ww : Int32) (oo : Int64) (hv : Int64) (h0 : Heap) (n0 : Nat) (v : Option Value) (h : Heap) (L : List Loc) : Prop := v = none ∧ Fr n0 L ∧ Keep h0 h [a0, r1] ∧ Exa Z h a0 "com/example/wedgetree/wedgetree/core/OpenedNodes" ∧ Fld Z h a0 "com/example/wedgetree/wedgetree/core/OpenedNodes" "waitingDepths" "[I" (.ref w1) ∧ Fld Z h a0 "com/example/wedgetree/wedgetree/core/OpenedNodes" "waiting" "I" (.int ww) ∧ Fld Z h a0 "com/example/wedgetree/wedgetree/core/OpenedNodes" "holdsAnswer" "[Z" (.ref r1) ∧ Fld Z h a0 "com/example/wedgetree/wedgetree/core/OpenedNodes" "tallying" "Z" (.int (1 : Int32)) ∧ Fld Z h a0 "com/example/wedgetree/wedgetree/core/OpenedNodes" "depth" "I" (.int (3 : Int32)) ∧ Fld Z h a0 "com/example/wedgetree/wedgetree/core/OpenedNodes" "opened" "J" (.long oo) ∧ OArr Z h r1 .boolean (4 : Int32) [(.int x0), (.int (if x3 = (0 : Int32) then (if x2 = (0 : Int32) then (if x1 = (0 : Int32) then (1 : Int32) else x1) else x1) else x1)), (.int (if x3 = (0 : Int32) then (if x2 = (0 : Int32) then (1 : Int32) else x2) else x2)), (.int (if x3 = (0 : Int32) then (1 : Int32) else x3))] (.int (0 : Int32)) ∧ Fld Z h a0 "com/example/wedgetree/wedgetree/core/OpenedNodes" "holding" "J" (.long (if x3 = (0 : Int32) then (if x2 = (0 : Int32) then (if x1 = (0 : Int32) then (((hv + (1 : Int64)) + (1 : Int64)) + (1 : Int64)) else ((hv + (1 : Int64)) + (1 : Int64))) else (hv + (1 : Int64))) else hv))
set_option maxRecDepth 65536 in
set_option maxHeartbeats 40000000 in
theorem rm20_3 (l : Launch) (Z : State) (aZ : Array Value) (hw : ∀ d ∈ tables_1, d.before aZ Z = true) (ws : List Jvm.Cond) (a0 : Addr) (w1 : Addr) (r1 : Addr) (x0 : Int32) (x1 : Int32) (x2 : Int32) (x3 : Int32) (ww : Int32) (oo : Int64) (hv : Int64) (h0 : Heap) (n0 : Nat) (Z0 : n0 ≤ h0.size) (P0 : Fld Z h0 a0 "com/example/wedgetree/wedgetree/core/OpenedNodes" "waitingDepths" "[I" (.ref w1)) (P1 : Fld Z h0 a0 "com/example/wedgetree/wedgetree/core/OpenedNodes" "waiting" "I" (.int ww)) (P2 : Fld Z h0 a0 "com/example/wedgetree/wedgetree/core/OpenedNodes" "holdsAnswer" "[Z" (.ref r1)) (P3 : Fld Z h0 a0 "com/example/wedgetree/wedgetree/core/OpenedNodes" "tallying" "Z" (.int (1 : Int32))) (P4 : Fld Z h0 a0 "com/example/wedgetree/wedgetree/core/OpenedNodes" "depth" "I" (.int (3 : Int32))) (P5 : Fld Z h0 a0 "com/example/wedgetree/wedgetree/core/OpenedNodes" "opened" "J" (.long oo)) (P6 : Fld Z h0 a0 "com/example/wedgetree/wedgetree/core/OpenedNodes" "holding" "J" (.long hv)) (P7 : OArr Z h0 r1 .boolean (4 : Int32) [(.int x0), (.int x1), (.int x2), (.int x3)] (.int (0 : Int32))) (P8 : Exa Z h0 a0 "com/example/wedgetree/wedgetree/core/OpenedNodes") (P9 : n0 ≤ a0) (P10 : n0 ≤ r1) (P11 : a0 ≠ r1) :
    MetFree l (⟨"com/example/wedgetree/wedgetree/core/OpenedNodes", "answered", "()V"⟩ : MethodName) (head1 (Jvm.Cond.code (⟨"com/example/wedgetree/wedgetree/core/OpenedNodes", "answered", "()V"⟩ : MethodName) prog_27_method_5_code 2 none :: ws) ({ frames := 0, cells := 0, slots := 0, locals := 0 } : Room)) (fun a U => a = #[(.ref a0)] ∧ Z.Warmed39 U.vm ∧ U.heap = h0) (fun _ _ _ _ _ => True) (fun _ U o U' => ∃ v L, o = .returned v ∧ Q20_3 Z a0 w1 r1 x0 x1 x2 x3 ww oo hv h0 n0 v U'.heap L ∧ FrameEnd U o U' L ({ frames := 0, cells := 0, slots := 0, locals := 0 } : Room).cells ({ frames := 0, cells := 0, slots := 0, locals := 0 } : Room).slots) := by
  refine MetFree.of_bodySF (plainFor_of_name pn_com_example_wedgetree_wedgetree_core_OpenedNodes) hisR ?_
  intro p e s m args below meth c s₁ Bd hml0 hP hK
  obtain ⟨rfl, hZ, hh⟩ := hP
  have hx := Bd.exec
  have hby := Bd.bytes
  have hlk : meth.locks = false := BodyLoose.notSynchronized Bd
  have hml : c.maxLocals = 2 := hml0
  have hown : s.vm.findClass "com/example/wedgetree/wedgetree/core/OpenedNodes" = some m.cls := findClass_of_methodNamed Bd.named
  have hnm := (name_of_methodNamed Bd.named Bd.method).1
  have X0 : Stand p l e ({ frames := 0, cells := 0, slots := 0, locals := 0 } : Room) s m #[(.ref a0)] below meth c s₁ [] 0 0 := Stand.of_body Bd
  have e0 : s₁.heap = h0 := by rw [← hh, Bd.state]; rfl
  have N0 := Fr.nil n0
  have K0 : Keep h0 h0 [a0, r1] := Keep.refl _ _
  show OEnd p e below s s₁ (entryFrame m #[(.ref a0)] 2) (Q20_3 Z a0 w1 r1 x0 x1 x2 x3 ww oo hv h0 n0) ({ frames := 0, cells := 0, slots := 0, locals := 0 } : Room).cells ({ frames := 0, cells := 0, slots := 0, locals := 0 } : Room).slots
  refine OEnd.go (g' := (mkF m 0 #[.val (.ref a0), .unset] [])) (fun _ k => castTop (ef_20_3 m a0) k) ?_
  refine OEnd.go (T' := s₁) (g' := (mkF m 1 #[.val (.ref a0), .unset] [(.ref a0)])) (fun t k => ?_) ?_
  · show Steps p.tables e below (s₁.setTop (mkF m 0 #[.val (.ref a0), .unset] [])) t
    refine XS.aloadN X0.here hx rfl (hb hby d20_0) rfl rfl ?_
    show Steps p.tables e below (s₁.setTop (mkF m 1 #[.val (.ref a0), .unset] [(.ref a0)])) t
    exact k
  obtain ⟨T1, X1, e1, st1⟩ := getF X0 hx hZ hown (host := "") (Or.inl (hw _ (List.mem_of_getElem? (i := 20) rfl))) Via.refl e0 P3 (g := (mkF m 1 #[.val (.ref a0), .unset] [(.ref a0)])) rfl rfl (hb hby d20_1)
  refine OEnd.go (g' := (mkF m 4 #[.val (.ref a0), .unset] [(.int (1 : Int32))])) st1 ?_
  refine OEnd.go (T' := T1) (g' := (mkF m 9 #[.val (.ref a0), .unset] [(.ref a0)])) (fun t k => ?_) ?_
  · show Steps p.tables e below (T1.setTop (mkF m 4 #[.val (.ref a0), .unset] [(.int (1 : Int32))])) t
    refine XS.ifYes X1.here hx rfl (pc0 := 4) (pc' := 8) rfl (hb hby d20_4) rfl ((if0 _ _).trans (feq ((by decide))).2) (by decide) (by decide) ?_
    show Steps p.tables e below (T1.setTop (mkF m 8 #[.val (.ref a0), .unset] [])) t
    refine XS.aloadN X1.here hx rfl (hb hby d20_8) rfl rfl ?_
    show Steps p.tables e below (T1.setTop (mkF m 9 #[.val (.ref a0), .unset] [(.ref a0)])) t
    exact k
  obtain ⟨T2, X2, e2, st2⟩ := getF X1 hx hZ hown (host := "") (Or.inl (hw _ (List.mem_of_getElem? (i := 27) rfl))) Via.refl e1 P4 (g := (mkF m 9 #[.val (.ref a0), .unset] [(.ref a0)])) rfl rfl (hb hby d20_9)
  refine OEnd.go (g' := (mkF m 12 #[.val (.ref a0), .unset] [(.int (3 : Int32))])) st2 ?_
  refine OEnd.go (T' := T2) (g' := (mkF m 18 #[.val (.ref a0), .val (.int (3 : Int32))] [(.ref a0)])) (fun t k => ?_) ?_
  · show Steps p.tables e below (T2.setTop (mkF m 12 #[.val (.ref a0), .unset] [(.int (3 : Int32))])) t
    refine XS.istoreN X2.here hx rfl (hb hby d20_12) rfl (l' := #[.val (.ref a0), .val (.int (3 : Int32))]) rfl ?_
    show Steps p.tables e below (T2.setTop (mkF m 13 #[.val (.ref a0), .val (.int (3 : Int32))] [])) t
    refine XS.iloadN X2.here hx rfl (hb hby d20_13) rfl ?_
    show Steps p.tables e below (T2.setTop (mkF m 14 #[.val (.ref a0), .val (.int (3 : Int32))] [(.int (3 : Int32))])) t
    refine XS.ifNo X2.here hx rfl (hb hby d20_14) rfl ((if0 _ _).trans (tlt ((by decide))).2.2.2) ?_
    show Steps p.tables e below (T2.setTop (mkF m 17 #[.val (.ref a0), .val (.int (3 : Int32))] [])) t
    refine XS.aloadN X2.here hx rfl (hb hby d20_17) rfl rfl ?_
    show Steps p.tables e below (T2.setTop (mkF m 18 #[.val (.ref a0), .val (.int (3 : Int32))] [(.ref a0)])) t
    exact k
  obtain ⟨T3, X3, e3, st3⟩ := getF X2 hx hZ hown (host := "") (Or.inl (hw _ (List.mem_of_getElem? (i := 18) rfl))) Via.refl e2 P2 (g := (mkF m 18 #[.val (.ref a0), .val (.int (3 : Int32))] [(.ref a0)])) rfl rfl (hb hby d20_18)
  refine OEnd.go (g' := (mkF m 21 #[.val (.ref a0), .val (.int (3 : Int32))] [(.ref r1)])) st3 ?_
  refine OEnd.go (T' := T3) (g' := (mkF m 22 #[.val (.ref a0), .val (.int (3 : Int32))] [(.int (3 : Int32)), (.ref r1)])) (fun t k => ?_) ?_
  · show Steps p.tables e below (T3.setTop (mkF m 21 #[.val (.ref a0), .val (.int (3 : Int32))] [(.ref r1)])) t
    refine XS.iloadN X3.here hx rfl (hb hby d20_21) rfl ?_
    show Steps p.tables e below (T3.setTop (mkF m 22 #[.val (.ref a0), .val (.int (3 : Int32))] [(.int (3 : Int32)), (.ref r1)])) t
    exact k
  obtain ⟨kc4, cl4, Ar4, q4, S4, M4, H4, G4⟩ := id P7
  have hin4 : ¬ ((3 : Int32) < 0 ∨ cl4.slots.size ≤ ((3 : Int32)).toNatClampNeg) := inb_of S4 ⟨by decide, by decide⟩
  have hat4 : cl4.slots[((3 : Int32)).toNatClampNeg]? = some (.int x3) := Has.at H4 hin4 rfl
  refine OEnd.go (T' := T3) (g' := (mkF m 23 #[.val (.ref a0), .val (.int (3 : Int32))] [(.int x3)])) (fun t k => ?_) ?_
  · refine X3.baloadBooleans hx (j := (3 : Int32)) (v := (.int x3)) (by rw [e3]; exact Ar4.1) (State.isArrayOf_alike hZ.alike Ar4.2.1) Ar4.2.2 hin4 hat4 (g := (mkF m 22 #[.val (.ref a0), .val (.int (3 : Int32))] [(.int (3 : Int32)), (.ref r1)])) rfl rfl (hb hby d20_22) _ ?_
    exact k
  by_cases hc5 : x3 = (0 : Int32)
  · skip
    refine OEnd.go (T' := T3) (g' := (mkF m 26 #[.val (.ref a0), .val (.int (3 : Int32))] [])) (fun t k => ?_) ?_
    · show Steps p.tables e below (T3.setTop (mkF m 23 #[.val (.ref a0), .val (.int (3 : Int32))] [(.int x3)])) t
      refine XS.ifNo X3.here hx rfl (hb hby d20_23) rfl ((if0 _ _).trans (teq (hc5)).2) ?_
      show Steps p.tables e below (T3.setTop (mkF m 26 #[.val (.ref a0), .val (.int (3 : Int32))] [])) t
      exact k
    refine OEnd.go (T' := T3) (g' := (mkF m 27 #[.val (.ref a0), .val (.int (3 : Int32))] [(.ref a0)])) (fun t k => ?_) ?_
    · show Steps p.tables e below (T3.setTop (mkF m 26 #[.val (.ref a0), .val (.int (3 : Int32))] [])) t
      refine XS.aloadN X3.here hx rfl (hb hby d20_26) rfl rfl ?_
      show Steps p.tables e below (T3.setTop (mkF m 27 #[.val (.ref a0), .val (.int (3 : Int32))] [(.ref a0)])) t
      exact k
    obtain ⟨T6, X6, e6, st6⟩ := getF X3 hx hZ hown (host := "") (Or.inl (hw _ (List.mem_of_getElem? (i := 18) rfl))) Via.refl e3 P2 (g := (mkF m 27 #[.val (.ref a0), .val (.int (3 : Int32))] [(.ref a0)])) rfl rfl (hb hby d20_27)
    refine OEnd.go (g' := (mkF m 30 #[.val (.ref a0), .val (.int (3 : Int32))] [(.ref r1)])) st6 ?_
    refine OEnd.go (T' := T6) (g' := (mkF m 32 #[.val (.ref a0), .val (.int (3 : Int32))] [(.int (1 : Int32)), (.int (3 : Int32)), (.ref r1)])) (fun t k => ?_) ?_
    · show Steps p.tables e below (T6.setTop (mkF m 30 #[.val (.ref a0), .val (.int (3 : Int32))] [(.ref r1)])) t
      refine XS.iloadN X6.here hx rfl (hb hby d20_30) rfl ?_
      show Steps p.tables e below (T6.setTop (mkF m 31 #[.val (.ref a0), .val (.int (3 : Int32))] [(.int (3 : Int32)), (.ref r1)])) t
      refine XS.iconst X6.here hx rfl (hb hby d20_31) ?_
      show Steps p.tables e below (T6.setTop (mkF m 32 #[.val (.ref a0), .val (.int (3 : Int32))] [(.int (1 : Int32)), (.int (3 : Int32)), (.ref r1)])) t
      exact k
    obtain ⟨kc7, cl7, Ar7, q7, S7, M7, H7, G7⟩ := id P7
    have hin7 : ¬ ((3 : Int32) < 0 ∨ cl7.slots.size ≤ ((3 : Int32)).toNatClampNeg) := inb_of S7 ⟨by decide, by decide⟩
    obtain ⟨T7, h7, X7, e7, W7, st7⟩ := stZ X6 hx hZ e6 Ar7 (j := (3 : Int32)) hin7 (g := (mkF m 32 #[.val (.ref a0), .val (.int (3 : Int32))] [(.int (1 : Int32)), (.int (3 : Int32)), (.ref r1)])) rfl rfl (hb hby d20_32)
    have N7 := Fr.snoc X7 N0 P10
    have Z7 : n0 ≤ h7.size := Nat.le_trans Z0 (Keep.of_wr W7).1
    have K7 : Keep h0 h7 [a0, r1] := K0.wr W7 (Or.inl (List.mem_of_getElem? (i := 1) rfl))
    have V7 : OArr Z h7 r1 .boolean (4 : Int32) [(.int x0), (.int x1), (.int x2), (.int (1 : Int32))] (.int (0 : Int32)) := ⟨_, Arv.set Ar7 q7 S7 M7 H7 G7 (fits_nar_bool _) W7 3 rfl (Nat.le_of_ble_eq_true rfl)⟩
    have fc8 : Fld Z h7 a0 "com/example/wedgetree/wedgetree/core/OpenedNodes" "waitingDepths" "[I" (.ref w1) := (P0.other W7 (Or.inl P11))
    have fc9 : Fld Z h7 a0 "com/example/wedgetree/wedgetree/core/OpenedNodes" "waiting" "I" (.int ww) := (P1.other W7 (Or.inl P11))
    have fc10 : Fld Z h7 a0 "com/example/wedgetree/wedgetree/core/OpenedNodes" "holdsAnswer" "[Z" (.ref r1) := (P2.other W7 (Or.inl P11))
    have fc11 : Fld Z h7 a0 "com/example/wedgetree/wedgetree/core/OpenedNodes" "tallying" "Z" (.int (1 : Int32)) := (P3.other W7 (Or.inl P11))
    have fc12 : Fld Z h7 a0 "com/example/wedgetree/wedgetree/core/OpenedNodes" "depth" "I" (.int (3 : Int32)) := (P4.other W7 (Or.inl P11))
    have fc13 : Fld Z h7 a0 "com/example/wedgetree/wedgetree/core/OpenedNodes" "opened" "J" (.long oo) := (P5.other W7 (Or.inl P11))
    have fc14 : Fld Z h7 a0 "com/example/wedgetree/wedgetree/core/OpenedNodes" "holding" "J" (.long hv) := (P6.other W7 (Or.inl P11))
    have fc15 : Exa Z h7 a0 "com/example/wedgetree/wedgetree/core/OpenedNodes" := (P8.wr W7)
    refine OEnd.go (g' := (mkF m 33 #[.val (.ref a0), .val (.int (3 : Int32))] [])) st7 ?_
    refine OEnd.go (T' := T7) (g' := (mkF m 35 #[.val (.ref a0), .val (.int (3 : Int32))] [(.ref a0), (.ref a0)])) (fun t k => ?_) ?_
    · show Steps p.tables e below (T7.setTop (mkF m 33 #[.val (.ref a0), .val (.int (3 : Int32))] [])) t
      refine XS.aloadN X7.here hx rfl (hb hby d20_33) rfl rfl ?_
      show Steps p.tables e below (T7.setTop (mkF m 34 #[.val (.ref a0), .val (.int (3 : Int32))] [(.ref a0)])) t
      refine XS.dup X7.here hx rfl (hb hby d20_34) rfl rfl ?_
      show Steps p.tables e below (T7.setTop (mkF m 35 #[.val (.ref a0), .val (.int (3 : Int32))] [(.ref a0), (.ref a0)])) t
      exact k
    obtain ⟨T16, X16, e16, st16⟩ := getF X7 hx hZ hown (host := "") (Or.inl (hw _ (List.mem_of_getElem? (i := 73) rfl))) Via.refl e7 fc14 (g := (mkF m 35 #[.val (.ref a0), .val (.int (3 : Int32))] [(.ref a0), (.ref a0)])) rfl rfl (hb hby d20_35)
    refine OEnd.go (g' := (mkF m 38 #[.val (.ref a0), .val (.int (3 : Int32))] [(.long hv), (.ref a0)])) st16 ?_
    refine OEnd.go (T' := T16) (g' := (mkF m 40 #[.val (.ref a0), .val (.int (3 : Int32))] [(.long (hv + (1 : Int64))), (.ref a0)])) (fun t k => ?_) ?_
    · show Steps p.tables e below (T16.setTop (mkF m 38 #[.val (.ref a0), .val (.int (3 : Int32))] [(.long hv), (.ref a0)])) t
      refine XS.lconst X16.here hx rfl (hb hby d20_38) ?_
      show Steps p.tables e below (T16.setTop (mkF m 39 #[.val (.ref a0), .val (.int (3 : Int32))] [(.long (1 : Int64)), (.long hv), (.ref a0)])) t
      refine XS.ladd X16.here hx rfl (hb hby d20_39) rfl ?_
      show Steps p.tables e below (T16.setTop (mkF m 40 #[.val (.ref a0), .val (.int (3 : Int32))] [(.long (hv + (1 : Int64))), (.ref a0)])) t
      exact k
    obtain ⟨T17, h17, X17, e17, W17, st17⟩ := putF X16 hx hZ hown (host := "") (Or.inl (hw _ (List.mem_of_getElem? (i := 73) rfl))) Via.refl e16 fc14 fc15 (Or.inl (hw _ (List.mem_of_getElem? (i := 74) rfl))) (hw _ (List.mem_of_getElem? (i := 1) rfl)) (ty := .long) (by decide) rfl rfl (g := (mkF m 40 #[.val (.ref a0), .val (.int (3 : Int32))] [(.long (hv + (1 : Int64))), (.ref a0)])) rfl rfl (hb hby d20_40)
    have N17 := Fr.snoc X17 N7 P9
    have Z17 : n0 ≤ h17.size := Nat.le_trans Z7 (Keep.of_wr W17).1
    have K17 : Keep h0 h17 [a0, r1] := K7.wr W17 (Or.inl (List.mem_of_getElem? (i := 0) rfl))
    have fc18 : Fld Z h17 a0 "com/example/wedgetree/wedgetree/core/OpenedNodes" "waitingDepths" "[I" (.ref w1) := (fc8.other W17 (Or.inr (slot_ne (Or.inl (hw _ (List.mem_of_getElem? (i := 14) rfl))) (Or.inl (hw _ (List.mem_of_getElem? (i := 74) rfl))) (by decide) (t := (.array .int)) (t' := .long) (by decide) (by decide))))
    have fc19 : Fld Z h17 a0 "com/example/wedgetree/wedgetree/core/OpenedNodes" "waiting" "I" (.int ww) := (fc9.other W17 (Or.inr (slot_ne (Or.inl (hw _ (List.mem_of_getElem? (i := 16) rfl))) (Or.inl (hw _ (List.mem_of_getElem? (i := 74) rfl))) (by decide) (t := .int) (t' := .long) (by decide) (by decide))))
    have fc20 : Fld Z h17 a0 "com/example/wedgetree/wedgetree/core/OpenedNodes" "holdsAnswer" "[Z" (.ref r1) := (fc10.other W17 (Or.inr (slot_ne (Or.inl (hw _ (List.mem_of_getElem? (i := 19) rfl))) (Or.inl (hw _ (List.mem_of_getElem? (i := 74) rfl))) (by decide) (t := (.array .boolean)) (t' := .long) (by decide) (by decide))))
    have fc21 : Fld Z h17 a0 "com/example/wedgetree/wedgetree/core/OpenedNodes" "tallying" "Z" (.int (1 : Int32)) := (fc11.other W17 (Or.inr (slot_ne (Or.inr (hw _ (List.mem_of_getElem? (i := 21) rfl))) (Or.inl (hw _ (List.mem_of_getElem? (i := 74) rfl))) (by decide) (t := .boolean) (t' := .long) (by decide) (by decide))))
    have fc22 : Fld Z h17 a0 "com/example/wedgetree/wedgetree/core/OpenedNodes" "depth" "I" (.int (3 : Int32)) := (fc12.other W17 (Or.inr (slot_ne (Or.inl (hw _ (List.mem_of_getElem? (i := 28) rfl))) (Or.inl (hw _ (List.mem_of_getElem? (i := 74) rfl))) (by decide) (t := .int) (t' := .long) (by decide) (by decide))))
    have fc23 : Fld Z h17 a0 "com/example/wedgetree/wedgetree/core/OpenedNodes" "opened" "J" (.long oo) := (fc13.other W17 (Or.inr (slot_ne (Or.inl (hw _ (List.mem_of_getElem? (i := 53) rfl))) (Or.inl (hw _ (List.mem_of_getElem? (i := 74) rfl))) (by decide) (t := .long) (t' := .long) (by decide) (by decide))))
    have fc24 : Fld Z h17 a0 "com/example/wedgetree/wedgetree/core/OpenedNodes" "holding" "J" (.long (hv + (1 : Int64))) := (fc14.same W17)
    have fc25 : Exa Z h17 a0 "com/example/wedgetree/wedgetree/core/OpenedNodes" := (fc15.wr W17)
    have fc26 : OArr Z h17 r1 .boolean (4 : Int32) [(.int x0), (.int x1), (.int x2), (.int (1 : Int32))] (.int (0 : Int32)) := (V7.other W17 (Ne.symm P11))
    refine OEnd.go (g' := (mkF m 43 #[.val (.ref a0), .val (.int (3 : Int32))] [])) st17 ?_
    refine OEnd.go (T' := T17) (g' := (mkF m 18 #[.val (.ref a0), .val (.int (2 : Int32))] [(.ref a0)])) (fun t k => ?_) ?_
    · show Steps p.tables e below (T17.setTop (mkF m 43 #[.val (.ref a0), .val (.int (3 : Int32))] [])) t
      refine XS.iinc X17.here hx rfl (hb hby d20_43) rfl (l' := #[.val (.ref a0), .val (.int (2 : Int32))]) rfl ?_
      show Steps p.tables e below (T17.setTop (mkF m 46 #[.val (.ref a0), .val (.int (2 : Int32))] [])) t
      refine XS.goto X17.here hx rfl (pc0 := 46) (pc' := 13) rfl (hb hby d20_46) (by decide) (by decide) ?_
      show Steps p.tables e below (T17.setTop (mkF m 13 #[.val (.ref a0), .val (.int (2 : Int32))] [])) t
      refine XS.iloadN X17.here hx rfl (hb hby d20_13) rfl ?_
      show Steps p.tables e below (T17.setTop (mkF m 14 #[.val (.ref a0), .val (.int (2 : Int32))] [(.int (2 : Int32))])) t
      refine XS.ifNo X17.here hx rfl (hb hby d20_14) rfl ((if0 _ _).trans (tlt ((by decide))).2.2.2) ?_
      show Steps p.tables e below (T17.setTop (mkF m 17 #[.val (.ref a0), .val (.int (2 : Int32))] [])) t
      refine XS.aloadN X17.here hx rfl (hb hby d20_17) rfl rfl ?_
      show Steps p.tables e below (T17.setTop (mkF m 18 #[.val (.ref a0), .val (.int (2 : Int32))] [(.ref a0)])) t
      exact k
    obtain ⟨T27, X27, e27, st27⟩ := getF X17 hx hZ hown (host := "") (Or.inl (hw _ (List.mem_of_getElem? (i := 18) rfl))) Via.refl e17 fc20 (g := (mkF m 18 #[.val (.ref a0), .val (.int (2 : Int32))] [(.ref a0)])) rfl rfl (hb hby d20_18)
    refine OEnd.go (g' := (mkF m 21 #[.val (.ref a0), .val (.int (2 : Int32))] [(.ref r1)])) st27 ?_
    refine OEnd.go (T' := T27) (g' := (mkF m 22 #[.val (.ref a0), .val (.int (2 : Int32))] [(.int (2 : Int32)), (.ref r1)])) (fun t k => ?_) ?_
    · show Steps p.tables e below (T27.setTop (mkF m 21 #[.val (.ref a0), .val (.int (2 : Int32))] [(.ref r1)])) t
      refine XS.iloadN X27.here hx rfl (hb hby d20_21) rfl ?_
      show Steps p.tables e below (T27.setTop (mkF m 22 #[.val (.ref a0), .val (.int (2 : Int32))] [(.int (2 : Int32)), (.ref r1)])) t
      exact k
    obtain ⟨kc28, cl28, Ar28, q28, S28, M28, H28, G28⟩ := id fc26
    have hin28 : ¬ ((2 : Int32) < 0 ∨ cl28.slots.size ≤ ((2 : Int32)).toNatClampNeg) := inb_of S28 ⟨by decide, by decide⟩
    have hat28 : cl28.slots[((2 : Int32)).toNatClampNeg]? = some (.int x2) := Has.at H28 hin28 rfl
    refine OEnd.go (T' := T27) (g' := (mkF m 23 #[.val (.ref a0), .val (.int (2 : Int32))] [(.int x2)])) (fun t k => ?_) ?_
    · refine X27.baloadBooleans hx (j := (2 : Int32)) (v := (.int x2)) (by rw [e27]; exact Ar28.1) (State.isArrayOf_alike hZ.alike Ar28.2.1) Ar28.2.2 hin28 hat28 (g := (mkF m 22 #[.val (.ref a0), .val (.int (2 : Int32))] [(.int (2 : Int32)), (.ref r1)])) rfl rfl (hb hby d20_22) _ ?_
      exact k
    by_cases hc29 : x2 = (0 : Int32)
    · skip
      refine OEnd.go (T' := T27) (g' := (mkF m 26 #[.val (.ref a0), .val (.int (2 : Int32))] [])) (fun t k => ?_) ?_
      · show Steps p.tables e below (T27.setTop (mkF m 23 #[.val (.ref a0), .val (.int (2 : Int32))] [(.int x2)])) t
        refine XS.ifNo X27.here hx rfl (hb hby d20_23) rfl ((if0 _ _).trans (teq (hc29)).2) ?_
        show Steps p.tables e below (T27.setTop (mkF m 26 #[.val (.ref a0), .val (.int (2 : Int32))] [])) t
        exact k
      refine OEnd.go (T' := T27) (g' := (mkF m 27 #[.val (.ref a0), .val (.int (2 : Int32))] [(.ref a0)])) (fun t k => ?_) ?_
      · show Steps p.tables e below (T27.setTop (mkF m 26 #[.val (.ref a0), .val (.int (2 : Int32))] [])) t
        refine XS.aloadN X27.here hx rfl (hb hby d20_26) rfl rfl ?_
        show Steps p.tables e below (T27.setTop (mkF m 27 #[.val (.ref a0), .val (.int (2 : Int32))] [(.ref a0)])) t
        exact k
      obtain ⟨T30, X30, e30, st30⟩ := getF X27 hx hZ hown (host := "") (Or.inl (hw _ (List.mem_of_getElem? (i := 18) rfl))) Via.refl e27 fc20 (g := (mkF m 27 #[.val (.ref a0), .val (.int (2 : Int32))] [(.ref a0)])) rfl rfl (hb hby d20_27)
      refine OEnd.go (g' := (mkF m 30 #[.val (.ref a0), .val (.int (2 : Int32))] [(.ref r1)])) st30 ?_
      refine OEnd.go (T' := T30) (g' := (mkF m 32 #[.val (.ref a0), .val (.int (2 : Int32))] [(.int (1 : Int32)), (.int (2 : Int32)), (.ref r1)])) (fun t k => ?_) ?_
      · show Steps p.tables e below (T30.setTop (mkF m 30 #[.val (.ref a0), .val (.int (2 : Int32))] [(.ref r1)])) t
        refine XS.iloadN X30.here hx rfl (hb hby d20_30) rfl ?_
        show Steps p.tables e below (T30.setTop (mkF m 31 #[.val (.ref a0), .val (.int (2 : Int32))] [(.int (2 : Int32)), (.ref r1)])) t
        refine XS.iconst X30.here hx rfl (hb hby d20_31) ?_
        show Steps p.tables e below (T30.setTop (mkF m 32 #[.val (.ref a0), .val (.int (2 : Int32))] [(.int (1 : Int32)), (.int (2 : Int32)), (.ref r1)])) t
        exact k
      obtain ⟨kc31, cl31, Ar31, q31, S31, M31, H31, G31⟩ := id fc26
      have hin31 : ¬ ((2 : Int32) < 0 ∨ cl31.slots.size ≤ ((2 : Int32)).toNatClampNeg) := inb_of S31 ⟨by decide, by decide⟩
      obtain ⟨T31, h31, X31, e31, W31, st31⟩ := stZ X30 hx hZ e30 Ar31 (j := (2 : Int32)) hin31 (g := (mkF m 32 #[.val (.ref a0), .val (.int (2 : Int32))] [(.int (1 : Int32)), (.int (2 : Int32)), (.ref r1)])) rfl rfl (hb hby d20_32)
      have N31 := Fr.snoc X31 N17 P10
      have Z31 : n0 ≤ h31.size := Nat.le_trans Z17 (Keep.of_wr W31).1
      have K31 : Keep h0 h31 [a0, r1] := K17.wr W31 (Or.inl (List.mem_of_getElem? (i := 1) rfl))
      have V31 : OArr Z h31 r1 .boolean (4 : Int32) [(.int x0), (.int x1), (.int (1 : Int32)), (.int (1 : Int32))] (.int (0 : Int32)) := ⟨_, Arv.set Ar31 q31 S31 M31 H31 G31 (fits_nar_bool _) W31 2 rfl (Nat.le_of_ble_eq_true rfl)⟩
      have fc32 : Fld Z h31 a0 "com/example/wedgetree/wedgetree/core/OpenedNodes" "waitingDepths" "[I" (.ref w1) := (fc18.other W31 (Or.inl P11))
      have fc33 : Fld Z h31 a0 "com/example/wedgetree/wedgetree/core/OpenedNodes" "waiting" "I" (.int ww) := (fc19.other W31 (Or.inl P11))
      have fc34 : Fld Z h31 a0 "com/example/wedgetree/wedgetree/core/OpenedNodes" "holdsAnswer" "[Z" (.ref r1) := (fc20.other W31 (Or.inl P11))
      have fc35 : Fld Z h31 a0 "com/example/wedgetree/wedgetree/core/OpenedNodes" "tallying" "Z" (.int (1 : Int32)) := (fc21.other W31 (Or.inl P11))
      have fc36 : Fld Z h31 a0 "com/example/wedgetree/wedgetree/core/OpenedNodes" "depth" "I" (.int (3 : Int32)) := (fc22.other W31 (Or.inl P11))
      have fc37 : Fld Z h31 a0 "com/example/wedgetree/wedgetree/core/OpenedNodes" "opened" "J" (.long oo) := (fc23.other W31 (Or.inl P11))
      have fc38 : Fld Z h31 a0 "com/example/wedgetree/wedgetree/core/OpenedNodes" "holding" "J" (.long (hv + (1 : Int64))) := (fc24.other W31 (Or.inl P11))
      have fc39 : Exa Z h31 a0 "com/example/wedgetree/wedgetree/core/OpenedNodes" := (fc25.wr W31)
      refine OEnd.go (g' := (mkF m 33 #[.val (.ref a0), .val (.int (2 : Int32))] [])) st31 ?_
      refine OEnd.go (T' := T31) (g' := (mkF m 35 #[.val (.ref a0), .val (.int (2 : Int32))] [(.ref a0), (.ref a0)])) (fun t k => ?_) ?_
      · show Steps p.tables e below (T31.setTop (mkF m 33 #[.val (.ref a0), .val (.int (2 : Int32))] [])) t
        refine XS.aloadN X31.here hx rfl (hb hby d20_33) rfl rfl ?_
        show Steps p.tables e below (T31.setTop (mkF m 34 #[.val (.ref a0), .val (.int (2 : Int32))] [(.ref a0)])) t
        refine XS.dup X31.here hx rfl (hb hby d20_34) rfl rfl ?_
        show Steps p.tables e below (T31.setTop (mkF m 35 #[.val (.ref a0), .val (.int (2 : Int32))] [(.ref a0), (.ref a0)])) t
        exact k
      obtain ⟨T40, X40, e40, st40⟩ := getF X31 hx hZ hown (host := "") (Or.inl (hw _ (List.mem_of_getElem? (i := 73) rfl))) Via.refl e31 fc38 (g := (mkF m 35 #[.val (.ref a0), .val (.int (2 : Int32))] [(.ref a0), (.ref a0)])) rfl rfl (hb hby d20_35)
      refine OEnd.go (g' := (mkF m 38 #[.val (.ref a0), .val (.int (2 : Int32))] [(.long (hv + (1 : Int64))), (.ref a0)])) st40 ?_
      refine OEnd.go (T' := T40) (g' := (mkF m 40 #[.val (.ref a0), .val (.int (2 : Int32))] [(.long ((hv + (1 : Int64)) + (1 : Int64))), (.ref a0)])) (fun t k => ?_) ?_
      · show Steps p.tables e below (T40.setTop (mkF m 38 #[.val (.ref a0), .val (.int (2 : Int32))] [(.long (hv + (1 : Int64))), (.ref a0)])) t
        refine XS.lconst X40.here hx rfl (hb hby d20_38) ?_
        show Steps p.tables e below (T40.setTop (mkF m 39 #[.val (.ref a0), .val (.int (2 : Int32))] [(.long (1 : Int64)), (.long (hv + (1 : Int64))), (.ref a0)])) t
        refine XS.ladd X40.here hx rfl (hb hby d20_39) rfl ?_
        show Steps p.tables e below (T40.setTop (mkF m 40 #[.val (.ref a0), .val (.int (2 : Int32))] [(.long ((hv + (1 : Int64)) + (1 : Int64))), (.ref a0)])) t
        exact k
      obtain ⟨T41, h41, X41, e41, W41, st41⟩ := putF X40 hx hZ hown (host := "") (Or.inl (hw _ (List.mem_of_getElem? (i := 73) rfl))) Via.refl e40 fc38 fc39 (Or.inl (hw _ (List.mem_of_getElem? (i := 74) rfl))) (hw _ (List.mem_of_getElem? (i := 1) rfl)) (ty := .long) (by decide) rfl rfl (g := (mkF m 40 #[.val (.ref a0), .val (.int (2 : Int32))] [(.long ((hv + (1 : Int64)) + (1 : Int64))), (.ref a0)])) rfl rfl (hb hby d20_40)
      have N41 := Fr.snoc X41 N31 P9
      have Z41 : n0 ≤ h41.size := Nat.le_trans Z31 (Keep.of_wr W41).1
      have K41 : Keep h0 h41 [a0, r1] := K31.wr W41 (Or.inl (List.mem_of_getElem? (i := 0) rfl))
      have fc42 : Fld Z h41 a0 "com/example/wedgetree/wedgetree/core/OpenedNodes" "waitingDepths" "[I" (.ref w1) := (fc32.other W41 (Or.inr (slot_ne (Or.inl (hw _ (List.mem_of_getElem? (i := 14) rfl))) (Or.inl (hw _ (List.mem_of_getElem? (i := 74) rfl))) (by decide) (t := (.array .int)) (t' := .long) (by decide) (by decide))))
      have fc43 : Fld Z h41 a0 "com/example/wedgetree/wedgetree/core/OpenedNodes" "waiting" "I" (.int ww) := (fc33.other W41 (Or.inr (slot_ne (Or.inl (hw _ (List.mem_of_getElem? (i := 16) rfl))) (Or.inl (hw _ (List.mem_of_getElem? (i := 74) rfl))) (by decide) (t := .int) (t' := .long) (by decide) (by decide))))
      have fc44 : Fld Z h41 a0 "com/example/wedgetree/wedgetree/core/OpenedNodes" "holdsAnswer" "[Z" (.ref r1) := (fc34.other W41 (Or.inr (slot_ne (Or.inl (hw _ (List.mem_of_getElem? (i := 19) rfl))) (Or.inl (hw _ (List.mem_of_getElem? (i := 74) rfl))) (by decide) (t := (.array .boolean)) (t' := .long) (by decide) (by decide))))
      have fc45 : Fld Z h41 a0 "com/example/wedgetree/wedgetree/core/OpenedNodes" "tallying" "Z" (.int (1 : Int32)) := (fc35.other W41 (Or.inr (slot_ne (Or.inr (hw _ (List.mem_of_getElem? (i := 21) rfl))) (Or.inl (hw _ (List.mem_of_getElem? (i := 74) rfl))) (by decide) (t := .boolean) (t' := .long) (by decide) (by decide))))
      have fc46 : Fld Z h41 a0 "com/example/wedgetree/wedgetree/core/OpenedNodes" "depth" "I" (.int (3 : Int32)) := (fc36.other W41 (Or.inr (slot_ne (Or.inl (hw _ (List.mem_of_getElem? (i := 28) rfl))) (Or.inl (hw _ (List.mem_of_getElem? (i := 74) rfl))) (by decide) (t := .int) (t' := .long) (by decide) (by decide))))
      have fc47 : Fld Z h41 a0 "com/example/wedgetree/wedgetree/core/OpenedNodes" "opened" "J" (.long oo) := (fc37.other W41 (Or.inr (slot_ne (Or.inl (hw _ (List.mem_of_getElem? (i := 53) rfl))) (Or.inl (hw _ (List.mem_of_getElem? (i := 74) rfl))) (by decide) (t := .long) (t' := .long) (by decide) (by decide))))
      have fc48 : Fld Z h41 a0 "com/example/wedgetree/wedgetree/core/OpenedNodes" "holding" "J" (.long ((hv + (1 : Int64)) + (1 : Int64))) := (fc38.same W41)
      have fc49 : Exa Z h41 a0 "com/example/wedgetree/wedgetree/core/OpenedNodes" := (fc39.wr W41)
      have fc50 : OArr Z h41 r1 .boolean (4 : Int32) [(.int x0), (.int x1), (.int (1 : Int32)), (.int (1 : Int32))] (.int (0 : Int32)) := (V31.other W41 (Ne.symm P11))
      refine OEnd.go (g' := (mkF m 43 #[.val (.ref a0), .val (.int (2 : Int32))] [])) st41 ?_
      refine OEnd.go (T' := T41) (g' := (mkF m 18 #[.val (.ref a0), .val (.int (1 : Int32))] [(.ref a0)])) (fun t k => ?_) ?_
      · show Steps p.tables e below (T41.setTop (mkF m 43 #[.val (.ref a0), .val (.int (2 : Int32))] [])) t
        refine XS.iinc X41.here hx rfl (hb hby d20_43) rfl (l' := #[.val (.ref a0), .val (.int (1 : Int32))]) rfl ?_
        show Steps p.tables e below (T41.setTop (mkF m 46 #[.val (.ref a0), .val (.int (1 : Int32))] [])) t
        refine XS.goto X41.here hx rfl (pc0 := 46) (pc' := 13) rfl (hb hby d20_46) (by decide) (by decide) ?_
        show Steps p.tables e below (T41.setTop (mkF m 13 #[.val (.ref a0), .val (.int (1 : Int32))] [])) t
        refine XS.iloadN X41.here hx rfl (hb hby d20_13) rfl ?_
        show Steps p.tables e below (T41.setTop (mkF m 14 #[.val (.ref a0), .val (.int (1 : Int32))] [(.int (1 : Int32))])) t
        refine XS.ifNo X41.here hx rfl (hb hby d20_14) rfl ((if0 _ _).trans (tlt ((by decide))).2.2.2) ?_
        show Steps p.tables e below (T41.setTop (mkF m 17 #[.val (.ref a0), .val (.int (1 : Int32))] [])) t
        refine XS.aloadN X41.here hx rfl (hb hby d20_17) rfl rfl ?_
        show Steps p.tables e below (T41.setTop (mkF m 18 #[.val (.ref a0), .val (.int (1 : Int32))] [(.ref a0)])) t
        exact k
      obtain ⟨T51, X51, e51, st51⟩ := getF X41 hx hZ hown (host := "") (Or.inl (hw _ (List.mem_of_getElem? (i := 18) rfl))) Via.refl e41 fc44 (g := (mkF m 18 #[.val (.ref a0), .val (.int (1 : Int32))] [(.ref a0)])) rfl rfl (hb hby d20_18)
      refine OEnd.go (g' := (mkF m 21 #[.val (.ref a0), .val (.int (1 : Int32))] [(.ref r1)])) st51 ?_
      refine OEnd.go (T' := T51) (g' := (mkF m 22 #[.val (.ref a0), .val (.int (1 : Int32))] [(.int (1 : Int32)), (.ref r1)])) (fun t k => ?_) ?_
      · show Steps p.tables e below (T51.setTop (mkF m 21 #[.val (.ref a0), .val (.int (1 : Int32))] [(.ref r1)])) t
        refine XS.iloadN X51.here hx rfl (hb hby d20_21) rfl ?_
        show Steps p.tables e below (T51.setTop (mkF m 22 #[.val (.ref a0), .val (.int (1 : Int32))] [(.int (1 : Int32)), (.ref r1)])) t
        exact k
      obtain ⟨kc52, cl52, Ar52, q52, S52, M52, H52, G52⟩ := id fc50
      have hin52 : ¬ ((1 : Int32) < 0 ∨ cl52.slots.size ≤ ((1 : Int32)).toNatClampNeg) := inb_of S52 ⟨by decide, by decide⟩
      have hat52 : cl52.slots[((1 : Int32)).toNatClampNeg]? = some (.int x1) := Has.at H52 hin52 rfl
      refine OEnd.go (T' := T51) (g' := (mkF m 23 #[.val (.ref a0), .val (.int (1 : Int32))] [(.int x1)])) (fun t k => ?_) ?_
      · refine X51.baloadBooleans hx (j := (1 : Int32)) (v := (.int x1)) (by rw [e51]; exact Ar52.1) (State.isArrayOf_alike hZ.alike Ar52.2.1) Ar52.2.2 hin52 hat52 (g := (mkF m 22 #[.val (.ref a0), .val (.int (1 : Int32))] [(.int (1 : Int32)), (.ref r1)])) rfl rfl (hb hby d20_22) _ ?_
        exact k
      by_cases hc53 : x1 = (0 : Int32)
      · skip
        refine OEnd.go (T' := T51) (g' := (mkF m 26 #[.val (.ref a0), .val (.int (1 : Int32))] [])) (fun t k => ?_) ?_
        · show Steps p.tables e below (T51.setTop (mkF m 23 #[.val (.ref a0), .val (.int (1 : Int32))] [(.int x1)])) t
          refine XS.ifNo X51.here hx rfl (hb hby d20_23) rfl ((if0 _ _).trans (teq (hc53)).2) ?_
          show Steps p.tables e below (T51.setTop (mkF m 26 #[.val (.ref a0), .val (.int (1 : Int32))] [])) t
          exact k
        refine OEnd.go (T' := T51) (g' := (mkF m 27 #[.val (.ref a0), .val (.int (1 : Int32))] [(.ref a0)])) (fun t k => ?_) ?_
        · show Steps p.tables e below (T51.setTop (mkF m 26 #[.val (.ref a0), .val (.int (1 : Int32))] [])) t
          refine XS.aloadN X51.here hx rfl (hb hby d20_26) rfl rfl ?_
          show Steps p.tables e below (T51.setTop (mkF m 27 #[.val (.ref a0), .val (.int (1 : Int32))] [(.ref a0)])) t
          exact k
        obtain ⟨T54, X54, e54, st54⟩ := getF X51 hx hZ hown (host := "") (Or.inl (hw _ (List.mem_of_getElem? (i := 18) rfl))) Via.refl e51 fc44 (g := (mkF m 27 #[.val (.ref a0), .val (.int (1 : Int32))] [(.ref a0)])) rfl rfl (hb hby d20_27)
        refine OEnd.go (g' := (mkF m 30 #[.val (.ref a0), .val (.int (1 : Int32))] [(.ref r1)])) st54 ?_
        refine OEnd.go (T' := T54) (g' := (mkF m 32 #[.val (.ref a0), .val (.int (1 : Int32))] [(.int (1 : Int32)), (.int (1 : Int32)), (.ref r1)])) (fun t k => ?_) ?_
        · show Steps p.tables e below (T54.setTop (mkF m 30 #[.val (.ref a0), .val (.int (1 : Int32))] [(.ref r1)])) t
          refine XS.iloadN X54.here hx rfl (hb hby d20_30) rfl ?_
          show Steps p.tables e below (T54.setTop (mkF m 31 #[.val (.ref a0), .val (.int (1 : Int32))] [(.int (1 : Int32)), (.ref r1)])) t
          refine XS.iconst X54.here hx rfl (hb hby d20_31) ?_
          show Steps p.tables e below (T54.setTop (mkF m 32 #[.val (.ref a0), .val (.int (1 : Int32))] [(.int (1 : Int32)), (.int (1 : Int32)), (.ref r1)])) t
          exact k
        obtain ⟨kc55, cl55, Ar55, q55, S55, M55, H55, G55⟩ := id fc50
        have hin55 : ¬ ((1 : Int32) < 0 ∨ cl55.slots.size ≤ ((1 : Int32)).toNatClampNeg) := inb_of S55 ⟨by decide, by decide⟩
        obtain ⟨T55, h55, X55, e55, W55, st55⟩ := stZ X54 hx hZ e54 Ar55 (j := (1 : Int32)) hin55 (g := (mkF m 32 #[.val (.ref a0), .val (.int (1 : Int32))] [(.int (1 : Int32)), (.int (1 : Int32)), (.ref r1)])) rfl rfl (hb hby d20_32)
        have N55 := Fr.snoc X55 N41 P10
        have Z55 : n0 ≤ h55.size := Nat.le_trans Z41 (Keep.of_wr W55).1
        have K55 : Keep h0 h55 [a0, r1] := K41.wr W55 (Or.inl (List.mem_of_getElem? (i := 1) rfl))
        have V55 : OArr Z h55 r1 .boolean (4 : Int32) [(.int x0), (.int (1 : Int32)), (.int (1 : Int32)), (.int (1 : Int32))] (.int (0 : Int32)) := ⟨_, Arv.set Ar55 q55 S55 M55 H55 G55 (fits_nar_bool _) W55 1 rfl (Nat.le_of_ble_eq_true rfl)⟩
        have fc56 : Fld Z h55 a0 "com/example/wedgetree/wedgetree/core/OpenedNodes" "waitingDepths" "[I" (.ref w1) := (fc42.other W55 (Or.inl P11))
        have fc57 : Fld Z h55 a0 "com/example/wedgetree/wedgetree/core/OpenedNodes" "waiting" "I" (.int ww) := (fc43.other W55 (Or.inl P11))
        have fc58 : Fld Z h55 a0 "com/example/wedgetree/wedgetree/core/OpenedNodes" "holdsAnswer" "[Z" (.ref r1) := (fc44.other W55 (Or.inl P11))
        have fc59 : Fld Z h55 a0 "com/example/wedgetree/wedgetree/core/OpenedNodes" "tallying" "Z" (.int (1 : Int32)) := (fc45.other W55 (Or.inl P11))
        have fc60 : Fld Z h55 a0 "com/example/wedgetree/wedgetree/core/OpenedNodes" "depth" "I" (.int (3 : Int32)) := (fc46.other W55 (Or.inl P11))
        have fc61 : Fld Z h55 a0 "com/example/wedgetree/wedgetree/core/OpenedNodes" "opened" "J" (.long oo) := (fc47.other W55 (Or.inl P11))
        have fc62 : Fld Z h55 a0 "com/example/wedgetree/wedgetree/core/OpenedNodes" "holding" "J" (.long ((hv + (1 : Int64)) + (1 : Int64))) := (fc48.other W55 (Or.inl P11))
        have fc63 : Exa Z h55 a0 "com/example/wedgetree/wedgetree/core/OpenedNodes" := (fc49.wr W55)
        refine OEnd.go (g' := (mkF m 33 #[.val (.ref a0), .val (.int (1 : Int32))] [])) st55 ?_
        refine OEnd.go (T' := T55) (g' := (mkF m 35 #[.val (.ref a0), .val (.int (1 : Int32))] [(.ref a0), (.ref a0)])) (fun t k => ?_) ?_
        · show Steps p.tables e below (T55.setTop (mkF m 33 #[.val (.ref a0), .val (.int (1 : Int32))] [])) t
          refine XS.aloadN X55.here hx rfl (hb hby d20_33) rfl rfl ?_
          show Steps p.tables e below (T55.setTop (mkF m 34 #[.val (.ref a0), .val (.int (1 : Int32))] [(.ref a0)])) t
          refine XS.dup X55.here hx rfl (hb hby d20_34) rfl rfl ?_
          show Steps p.tables e below (T55.setTop (mkF m 35 #[.val (.ref a0), .val (.int (1 : Int32))] [(.ref a0), (.ref a0)])) t
          exact k
        obtain ⟨T64, X64, e64, st64⟩ := getF X55 hx hZ hown (host := "") (Or.inl (hw _ (List.mem_of_getElem? (i := 73) rfl))) Via.refl e55 fc62 (g := (mkF m 35 #[.val (.ref a0), .val (.int (1 : Int32))] [(.ref a0), (.ref a0)])) rfl rfl (hb hby d20_35)
        refine OEnd.go (g' := (mkF m 38 #[.val (.ref a0), .val (.int (1 : Int32))] [(.long ((hv + (1 : Int64)) + (1 : Int64))), (.ref a0)])) st64 ?_
        refine OEnd.go (T' := T64) (g' := (mkF m 40 #[.val (.ref a0), .val (.int (1 : Int32))] [(.long (((hv + (1 : Int64)) + (1 : Int64)) + (1 : Int64))), (.ref a0)])) (fun t k => ?_) ?_
        · show Steps p.tables e below (T64.setTop (mkF m 38 #[.val (.ref a0), .val (.int (1 : Int32))] [(.long ((hv + (1 : Int64)) + (1 : Int64))), (.ref a0)])) t
          refine XS.lconst X64.here hx rfl (hb hby d20_38) ?_
          show Steps p.tables e below (T64.setTop (mkF m 39 #[.val (.ref a0), .val (.int (1 : Int32))] [(.long (1 : Int64)), (.long ((hv + (1 : Int64)) + (1 : Int64))), (.ref a0)])) t
          refine XS.ladd X64.here hx rfl (hb hby d20_39) rfl ?_
          show Steps p.tables e below (T64.setTop (mkF m 40 #[.val (.ref a0), .val (.int (1 : Int32))] [(.long (((hv + (1 : Int64)) + (1 : Int64)) + (1 : Int64))), (.ref a0)])) t
          exact k
        obtain ⟨T65, h65, X65, e65, W65, st65⟩ := putF X64 hx hZ hown (host := "") (Or.inl (hw _ (List.mem_of_getElem? (i := 73) rfl))) Via.refl e64 fc62 fc63 (Or.inl (hw _ (List.mem_of_getElem? (i := 74) rfl))) (hw _ (List.mem_of_getElem? (i := 1) rfl)) (ty := .long) (by decide) rfl rfl (g := (mkF m 40 #[.val (.ref a0), .val (.int (1 : Int32))] [(.long (((hv + (1 : Int64)) + (1 : Int64)) + (1 : Int64))), (.ref a0)])) rfl rfl (hb hby d20_40)
        have N65 := Fr.snoc X65 N55 P9
        have Z65 : n0 ≤ h65.size := Nat.le_trans Z55 (Keep.of_wr W65).1
        have K65 : Keep h0 h65 [a0, r1] := K55.wr W65 (Or.inl (List.mem_of_getElem? (i := 0) rfl))
        have fc66 : Fld Z h65 a0 "com/example/wedgetree/wedgetree/core/OpenedNodes" "waitingDepths" "[I" (.ref w1) := (fc56.other W65 (Or.inr (slot_ne (Or.inl (hw _ (List.mem_of_getElem? (i := 14) rfl))) (Or.inl (hw _ (List.mem_of_getElem? (i := 74) rfl))) (by decide) (t := (.array .int)) (t' := .long) (by decide) (by decide))))
        have fc67 : Fld Z h65 a0 "com/example/wedgetree/wedgetree/core/OpenedNodes" "waiting" "I" (.int ww) := (fc57.other W65 (Or.inr (slot_ne (Or.inl (hw _ (List.mem_of_getElem? (i := 16) rfl))) (Or.inl (hw _ (List.mem_of_getElem? (i := 74) rfl))) (by decide) (t := .int) (t' := .long) (by decide) (by decide))))
        have fc68 : Fld Z h65 a0 "com/example/wedgetree/wedgetree/core/OpenedNodes" "holdsAnswer" "[Z" (.ref r1) := (fc58.other W65 (Or.inr (slot_ne (Or.inl (hw _ (List.mem_of_getElem? (i := 19) rfl))) (Or.inl (hw _ (List.mem_of_getElem? (i := 74) rfl))) (by decide) (t := (.array .boolean)) (t' := .long) (by decide) (by decide))))
        have fc69 : Fld Z h65 a0 "com/example/wedgetree/wedgetree/core/OpenedNodes" "tallying" "Z" (.int (1 : Int32)) := (fc59.other W65 (Or.inr (slot_ne (Or.inr (hw _ (List.mem_of_getElem? (i := 21) rfl))) (Or.inl (hw _ (List.mem_of_getElem? (i := 74) rfl))) (by decide) (t := .boolean) (t' := .long) (by decide) (by decide))))
        have fc70 : Fld Z h65 a0 "com/example/wedgetree/wedgetree/core/OpenedNodes" "depth" "I" (.int (3 : Int32)) := (fc60.other W65 (Or.inr (slot_ne (Or.inl (hw _ (List.mem_of_getElem? (i := 28) rfl))) (Or.inl (hw _ (List.mem_of_getElem? (i := 74) rfl))) (by decide) (t := .int) (t' := .long) (by decide) (by decide))))
        have fc71 : Fld Z h65 a0 "com/example/wedgetree/wedgetree/core/OpenedNodes" "opened" "J" (.long oo) := (fc61.other W65 (Or.inr (slot_ne (Or.inl (hw _ (List.mem_of_getElem? (i := 53) rfl))) (Or.inl (hw _ (List.mem_of_getElem? (i := 74) rfl))) (by decide) (t := .long) (t' := .long) (by decide) (by decide))))
        have fc72 : Fld Z h65 a0 "com/example/wedgetree/wedgetree/core/OpenedNodes" "holding" "J" (.long (((hv + (1 : Int64)) + (1 : Int64)) + (1 : Int64))) := (fc62.same W65)
        have fc73 : Exa Z h65 a0 "com/example/wedgetree/wedgetree/core/OpenedNodes" := (fc63.wr W65)
        have fc74 : OArr Z h65 r1 .boolean (4 : Int32) [(.int x0), (.int (1 : Int32)), (.int (1 : Int32)), (.int (1 : Int32))] (.int (0 : Int32)) := (V55.other W65 (Ne.symm P11))
        refine OEnd.go (g' := (mkF m 43 #[.val (.ref a0), .val (.int (1 : Int32))] [])) st65 ?_
        refine OEnd.go (T' := T65) (g' := (mkF m 49 #[.val (.ref a0), .val (.int (0 : Int32))] [])) (fun t k => ?_) ?_
        · show Steps p.tables e below (T65.setTop (mkF m 43 #[.val (.ref a0), .val (.int (1 : Int32))] [])) t
          refine XS.iinc X65.here hx rfl (hb hby d20_43) rfl (l' := #[.val (.ref a0), .val (.int (0 : Int32))]) rfl ?_
          show Steps p.tables e below (T65.setTop (mkF m 46 #[.val (.ref a0), .val (.int (0 : Int32))] [])) t
          refine XS.goto X65.here hx rfl (pc0 := 46) (pc' := 13) rfl (hb hby d20_46) (by decide) (by decide) ?_
          show Steps p.tables e below (T65.setTop (mkF m 13 #[.val (.ref a0), .val (.int (0 : Int32))] [])) t
          refine XS.iloadN X65.here hx rfl (hb hby d20_13) rfl ?_
          show Steps p.tables e below (T65.setTop (mkF m 14 #[.val (.ref a0), .val (.int (0 : Int32))] [(.int (0 : Int32))])) t
          refine XS.ifYes X65.here hx rfl (pc0 := 14) (pc' := 49) rfl (hb hby d20_14) rfl ((if0 _ _).trans (flt ((by decide))).2.2.2) (by decide) (by decide) ?_
          show Steps p.tables e below (T65.setTop (mkF m 49 #[.val (.ref a0), .val (.int (0 : Int32))] [])) t
          exact k
        exact OEnd.void X65 hx Bd.returns hlk (hb hby d20_49) ⟨rfl, N65, (own_at e65 (P := fun h => Keep h0 h [a0, r1]) K65), (own_at e65 (P := fun h => Exa Z h a0 "com/example/wedgetree/wedgetree/core/OpenedNodes") fc73), (own_at e65 (P := fun h => Fld Z h a0 "com/example/wedgetree/wedgetree/core/OpenedNodes" "waitingDepths" "[I" (.ref w1)) fc66), (own_at e65 (P := fun h => Fld Z h a0 "com/example/wedgetree/wedgetree/core/OpenedNodes" "waiting" "I" (.int ww)) fc67), (own_at e65 (P := fun h => Fld Z h a0 "com/example/wedgetree/wedgetree/core/OpenedNodes" "holdsAnswer" "[Z" (.ref r1)) fc68), (own_at e65 (P := fun h => Fld Z h a0 "com/example/wedgetree/wedgetree/core/OpenedNodes" "tallying" "Z" (.int (1 : Int32))) fc69), (own_at e65 (P := fun h => Fld Z h a0 "com/example/wedgetree/wedgetree/core/OpenedNodes" "depth" "I" (.int (3 : Int32))) fc70), (own_at e65 (P := fun h => Fld Z h a0 "com/example/wedgetree/wedgetree/core/OpenedNodes" "opened" "J" (.long oo)) fc71), (own_p (P := fun (z : Int32) => OArr Z _ r1 .boolean (4 : Int32) [(.int x0), (.int (if x3 = (0 : Int32) then (if x2 = (0 : Int32) then (if x1 = (0 : Int32) then (1 : Int32) else x1) else x1) else x1)), (.int (if x3 = (0 : Int32) then (if x2 = (0 : Int32) then (1 : Int32) else x2) else x2)), (.int z)] (.int (0 : Int32))) (own_symm (if_pos hc5)) (own_p (P := fun (z : Int32) => OArr Z _ r1 .boolean (4 : Int32) [(.int x0), (.int (if x3 = (0 : Int32) then (if x2 = (0 : Int32) then (if x1 = (0 : Int32) then (1 : Int32) else x1) else x1) else x1)), (.int z), (.int (1 : Int32))] (.int (0 : Int32))) (own_symm ((if_pos hc5).trans (if_pos hc29))) (own_p (P := fun (z : Int32) => OArr Z _ r1 .boolean (4 : Int32) [(.int x0), (.int z), (.int (1 : Int32)), (.int (1 : Int32))] (.int (0 : Int32))) (own_symm ((if_pos hc5).trans ((if_pos hc29).trans (if_pos hc53)))) (own_at e65 (P := fun h => OArr Z h r1 .boolean (4 : Int32) [(.int x0), (.int (1 : Int32)), (.int (1 : Int32)), (.int (1 : Int32))] (.int (0 : Int32))) fc74)))), (own_p (P := fun (z : Int64) => Fld Z _ a0 "com/example/wedgetree/wedgetree/core/OpenedNodes" "holding" "J" (.long z)) (own_symm ((if_pos hc5).trans ((if_pos hc29).trans (if_pos hc53)))) (own_at e65 (P := fun h => Fld Z h a0 "com/example/wedgetree/wedgetree/core/OpenedNodes" "holding" "J" (.long (((hv + (1 : Int64)) + (1 : Int64)) + (1 : Int64)))) fc72))⟩ (by decide) (by decide)
      · skip
        refine OEnd.go (T' := T51) (g' := (mkF m 49 #[.val (.ref a0), .val (.int (1 : Int32))] [])) (fun t k => ?_) ?_
        · show Steps p.tables e below (T51.setTop (mkF m 23 #[.val (.ref a0), .val (.int (1 : Int32))] [(.int x1)])) t
          refine XS.ifYes X51.here hx rfl (pc0 := 23) (pc' := 49) rfl (hb hby d20_23) rfl ((if0 _ _).trans (feq (hc53)).2) (by decide) (by decide) ?_
          show Steps p.tables e below (T51.setTop (mkF m 49 #[.val (.ref a0), .val (.int (1 : Int32))] [])) t
          exact k
        exact OEnd.void X51 hx Bd.returns hlk (hb hby d20_49) ⟨rfl, N41, (own_at e51 (P := fun h => Keep h0 h [a0, r1]) K41), (own_at e51 (P := fun h => Exa Z h a0 "com/example/wedgetree/wedgetree/core/OpenedNodes") fc49), (own_at e51 (P := fun h => Fld Z h a0 "com/example/wedgetree/wedgetree/core/OpenedNodes" "waitingDepths" "[I" (.ref w1)) fc42), (own_at e51 (P := fun h => Fld Z h a0 "com/example/wedgetree/wedgetree/core/OpenedNodes" "waiting" "I" (.int ww)) fc43), (own_at e51 (P := fun h => Fld Z h a0 "com/example/wedgetree/wedgetree/core/OpenedNodes" "holdsAnswer" "[Z" (.ref r1)) fc44), (own_at e51 (P := fun h => Fld Z h a0 "com/example/wedgetree/wedgetree/core/OpenedNodes" "tallying" "Z" (.int (1 : Int32))) fc45), (own_at e51 (P := fun h => Fld Z h a0 "com/example/wedgetree/wedgetree/core/OpenedNodes" "depth" "I" (.int (3 : Int32))) fc46), (own_at e51 (P := fun h => Fld Z h a0 "com/example/wedgetree/wedgetree/core/OpenedNodes" "opened" "J" (.long oo)) fc47), (own_p (P := fun (z : Int32) => OArr Z _ r1 .boolean (4 : Int32) [(.int x0), (.int (if x3 = (0 : Int32) then (if x2 = (0 : Int32) then (if x1 = (0 : Int32) then (1 : Int32) else x1) else x1) else x1)), (.int (if x3 = (0 : Int32) then (if x2 = (0 : Int32) then (1 : Int32) else x2) else x2)), (.int z)] (.int (0 : Int32))) (own_symm (if_pos hc5)) (own_p (P := fun (z : Int32) => OArr Z _ r1 .boolean (4 : Int32) [(.int x0), (.int (if x3 = (0 : Int32) then (if x2 = (0 : Int32) then (if x1 = (0 : Int32) then (1 : Int32) else x1) else x1) else x1)), (.int z), (.int (1 : Int32))] (.int (0 : Int32))) (own_symm ((if_pos hc5).trans (if_pos hc29))) (own_p (P := fun (z : Int32) => OArr Z _ r1 .boolean (4 : Int32) [(.int x0), (.int z), (.int (1 : Int32)), (.int (1 : Int32))] (.int (0 : Int32))) (own_symm ((if_pos hc5).trans ((if_pos hc29).trans (if_neg hc53)))) (own_at e51 (P := fun h => OArr Z h r1 .boolean (4 : Int32) [(.int x0), (.int x1), (.int (1 : Int32)), (.int (1 : Int32))] (.int (0 : Int32))) fc50)))), (own_p (P := fun (z : Int64) => Fld Z _ a0 "com/example/wedgetree/wedgetree/core/OpenedNodes" "holding" "J" (.long z)) (own_symm ((if_pos hc5).trans ((if_pos hc29).trans (if_neg hc53)))) (own_at e51 (P := fun h => Fld Z h a0 "com/example/wedgetree/wedgetree/core/OpenedNodes" "holding" "J" (.long ((hv + (1 : Int64)) + (1 : Int64)))) fc48))⟩ (by decide) (by decide)
    · skip
      refine OEnd.go (T' := T27) (g' := (mkF m 49 #[.val (.ref a0), .val (.int (2 : Int32))] [])) (fun t k => ?_) ?_
      · show Steps p.tables e below (T27.setTop (mkF m 23 #[.val (.ref a0), .val (.int (2 : Int32))] [(.int x2)])) t
        refine XS.ifYes X27.here hx rfl (pc0 := 23) (pc' := 49) rfl (hb hby d20_23) rfl ((if0 _ _).trans (feq (hc29)).2) (by decide) (by decide) ?_
        show Steps p.tables e below (T27.setTop (mkF m 49 #[.val (.ref a0), .val (.int (2 : Int32))] [])) t
        exact k
      exact OEnd.void X27 hx Bd.returns hlk (hb hby d20_49) ⟨rfl, N17, (own_at e27 (P := fun h => Keep h0 h [a0, r1]) K17), (own_at e27 (P := fun h => Exa Z h a0 "com/example/wedgetree/wedgetree/core/OpenedNodes") fc25), (own_at e27 (P := fun h => Fld Z h a0 "com/example/wedgetree/wedgetree/core/OpenedNodes" "waitingDepths" "[I" (.ref w1)) fc18), (own_at e27 (P := fun h => Fld Z h a0 "com/example/wedgetree/wedgetree/core/OpenedNodes" "waiting" "I" (.int ww)) fc19), (own_at e27 (P := fun h => Fld Z h a0 "com/example/wedgetree/wedgetree/core/OpenedNodes" "holdsAnswer" "[Z" (.ref r1)) fc20), (own_at e27 (P := fun h => Fld Z h a0 "com/example/wedgetree/wedgetree/core/OpenedNodes" "tallying" "Z" (.int (1 : Int32))) fc21), (own_at e27 (P := fun h => Fld Z h a0 "com/example/wedgetree/wedgetree/core/OpenedNodes" "depth" "I" (.int (3 : Int32))) fc22), (own_at e27 (P := fun h => Fld Z h a0 "com/example/wedgetree/wedgetree/core/OpenedNodes" "opened" "J" (.long oo)) fc23), (own_p (P := fun (z : Int32) => OArr Z _ r1 .boolean (4 : Int32) [(.int x0), (.int (if x3 = (0 : Int32) then (if x2 = (0 : Int32) then (if x1 = (0 : Int32) then (1 : Int32) else x1) else x1) else x1)), (.int (if x3 = (0 : Int32) then (if x2 = (0 : Int32) then (1 : Int32) else x2) else x2)), (.int z)] (.int (0 : Int32))) (own_symm (if_pos hc5)) (own_p (P := fun (z : Int32) => OArr Z _ r1 .boolean (4 : Int32) [(.int x0), (.int (if x3 = (0 : Int32) then (if x2 = (0 : Int32) then (if x1 = (0 : Int32) then (1 : Int32) else x1) else x1) else x1)), (.int z), (.int (1 : Int32))] (.int (0 : Int32))) (own_symm ((if_pos hc5).trans (if_neg hc29))) (own_p (P := fun (z : Int32) => OArr Z _ r1 .boolean (4 : Int32) [(.int x0), (.int z), (.int x2), (.int (1 : Int32))] (.int (0 : Int32))) (own_symm ((if_pos hc5).trans (if_neg hc29))) (own_at e27 (P := fun h => OArr Z h r1 .boolean (4 : Int32) [(.int x0), (.int x1), (.int x2), (.int (1 : Int32))] (.int (0 : Int32))) fc26)))), (own_p (P := fun (z : Int64) => Fld Z _ a0 "com/example/wedgetree/wedgetree/core/OpenedNodes" "holding" "J" (.long z)) (own_symm ((if_pos hc5).trans (if_neg hc29))) (own_at e27 (P := fun h => Fld Z h a0 "com/example/wedgetree/wedgetree/core/OpenedNodes" "holding" "J" (.long (hv + (1 : Int64)))) fc24))⟩ (by decide) (by decide)
  · skip
    refine OEnd.go (T' := T3) (g' := (mkF m 49 #[.val (.ref a0), .val (.int (3 : Int32))] [])) (fun t k => ?_) ?_
    · show Steps p.tables e below (T3.setTop (mkF m 23 #[.val (.ref a0), .val (.int (3 : Int32))] [(.int x3)])) t
      refine XS.ifYes X3.here hx rfl (pc0 := 23) (pc' := 49) rfl (hb hby d20_23) rfl ((if0 _ _).trans (feq (hc5)).2) (by decide) (by decide) ?_
      show Steps p.tables e below (T3.setTop (mkF m 49 #[.val (.ref a0), .val (.int (3 : Int32))] [])) t
      exact k
    exact OEnd.void X3 hx Bd.returns hlk (hb hby d20_49) ⟨rfl, N0, (own_at e3 (P := fun h => Keep h0 h [a0, r1]) K0), (own_at e3 (P := fun h => Exa Z h a0 "com/example/wedgetree/wedgetree/core/OpenedNodes") P8), (own_at e3 (P := fun h => Fld Z h a0 "com/example/wedgetree/wedgetree/core/OpenedNodes" "waitingDepths" "[I" (.ref w1)) P0), (own_at e3 (P := fun h => Fld Z h a0 "com/example/wedgetree/wedgetree/core/OpenedNodes" "waiting" "I" (.int ww)) P1), (own_at e3 (P := fun h => Fld Z h a0 "com/example/wedgetree/wedgetree/core/OpenedNodes" "holdsAnswer" "[Z" (.ref r1)) P2), (own_at e3 (P := fun h => Fld Z h a0 "com/example/wedgetree/wedgetree/core/OpenedNodes" "tallying" "Z" (.int (1 : Int32))) P3), (own_at e3 (P := fun h => Fld Z h a0 "com/example/wedgetree/wedgetree/core/OpenedNodes" "depth" "I" (.int (3 : Int32))) P4), (own_at e3 (P := fun h => Fld Z h a0 "com/example/wedgetree/wedgetree/core/OpenedNodes" "opened" "J" (.long oo)) P5), (own_p (P := fun (z : Int32) => OArr Z _ r1 .boolean (4 : Int32) [(.int x0), (.int (if x3 = (0 : Int32) then (if x2 = (0 : Int32) then (if x1 = (0 : Int32) then (1 : Int32) else x1) else x1) else x1)), (.int (if x3 = (0 : Int32) then (if x2 = (0 : Int32) then (1 : Int32) else x2) else x2)), (.int z)] (.int (0 : Int32))) (own_symm (if_neg hc5)) (own_p (P := fun (z : Int32) => OArr Z _ r1 .boolean (4 : Int32) [(.int x0), (.int (if x3 = (0 : Int32) then (if x2 = (0 : Int32) then (if x1 = (0 : Int32) then (1 : Int32) else x1) else x1) else x1)), (.int z), (.int x3)] (.int (0 : Int32))) (own_symm (if_neg hc5)) (own_p (P := fun (z : Int32) => OArr Z _ r1 .boolean (4 : Int32) [(.int x0), (.int z), (.int x2), (.int x3)] (.int (0 : Int32))) (own_symm (if_neg hc5)) (own_at e3 (P := fun h => OArr Z h r1 .boolean (4 : Int32) [(.int x0), (.int x1), (.int x2), (.int x3)] (.int (0 : Int32))) P7)))), (own_p (P := fun (z : Int64) => Fld Z _ a0 "com/example/wedgetree/wedgetree/core/OpenedNodes" "holding" "J" (.long z)) (own_symm (if_neg hc5)) (own_at e3 (P := fun h => Fld Z h a0 "com/example/wedgetree/wedgetree/core/OpenedNodes" "holding" "J" (.long hv)) P6))⟩ (by decide) (by decide)
theorem d10_0 : decode prog_39_method_1_code 0 = .ok (.aload_n 0, 1) := by decide +kernel
theorem d10_1 : decode prog_39_method_1_code 1 = .ok (.invokespecial 1, 3) := by decide +kernel
theorem d10_4 : decode prog_39_method_1_code 4 = .ok (.return_, 1) := by decide +kernel
theorem pn_com_example_wedgetree_wedgetree_core_QueryCounts : plainName "com/example/wedgetree/wedgetree/core/QueryCounts" = true := by first | (simp [plainName, overriddenIn]; done) | decide +kernel
theorem ef_10 (m : MethodId) (x0 : Addr) : entryFrame m #[(.ref x0)] 1 = mkF m 0 #[.val (.ref x0)] [] := by first | (simp [entryFrame, mkF, argsToLocals, Value.category]; done) | rfl
def Q10 (Z : State) (a0 : Addr) (h0 : Heap) (n0 : Nat) (v : Option Value) (h : Heap) (L : List Loc) : Prop := v = none ∧ Fr n0 L ∧ h = h0
set_option maxRecDepth 65536 in
set_option maxHeartbeats 40000000 in
theorem rm10 (l : Launch) (Z : State) (aZ : Array Value) (hw : ∀ d ∈ tables_1, d.before aZ Z = true) (ws : List Jvm.Cond) (a0 : Addr) (h0 : Heap) (n0 : Nat) (Z0 : n0 ≤ h0.size) :
    MetFree l (⟨"com/example/wedgetree/wedgetree/core/QueryCounts", "<init>", "()V"⟩ : MethodName) (head1 (Jvm.Cond.code (⟨"com/example/wedgetree/wedgetree/core/QueryCounts", "<init>", "()V"⟩ : MethodName) prog_39_method_1_code 1 none :: ws) ({ frames := 1, cells := 0, slots := 0, locals := 12 } : Room)) (fun a U => a = #[(.ref a0)] ∧ Z.Warmed39 U.vm ∧ U.heap = h0) (fun _ _ _ _ _ => True) (fun _ U o U' => ∃ v L, o = .returned v ∧ Q10 Z a0 h0 n0 v U'.heap L ∧ FrameEnd U o U' L ({ frames := 1, cells := 0, slots := 0, locals := 12 } : Room).cells ({ frames := 1, cells := 0, slots := 0, locals := 12 } : Room).slots) := by
  refine MetFree.of_bodySF (plainFor_of_name pn_com_example_wedgetree_wedgetree_core_QueryCounts) hisR ?_
  intro p e s m args below meth c s₁ Bd hml0 hP hK
  obtain ⟨rfl, hZ, hh⟩ := hP
  have hx := Bd.exec
  have hby := Bd.bytes
  have hlk : meth.locks = false := BodyLoose.notSynchronized Bd
  have hml : c.maxLocals = 1 := hml0
  have hown : s.vm.findClass "com/example/wedgetree/wedgetree/core/QueryCounts" = some m.cls := findClass_of_methodNamed Bd.named
  have hnm := (name_of_methodNamed Bd.named Bd.method).1
  have X0 : Stand p l e ({ frames := 1, cells := 0, slots := 0, locals := 12 } : Room) s m #[(.ref a0)] below meth c s₁ [] 0 0 := Stand.of_body Bd
  have e0 : s₁.heap = h0 := by rw [← hh, Bd.state]; rfl
  have N0 := Fr.nil n0
  show OEnd p e below s s₁ (entryFrame m #[(.ref a0)] 1) (Q10 Z a0 h0 n0) ({ frames := 1, cells := 0, slots := 0, locals := 12 } : Room).cells ({ frames := 1, cells := 0, slots := 0, locals := 12 } : Room).slots
  refine OEnd.go (g' := (mkF m 0 #[.val (.ref a0)] [])) (fun _ k => castTop (ef_10 m a0) k) ?_
  refine OEnd.go (T' := s₁) (g' := (mkF m 1 #[.val (.ref a0)] [(.ref a0)])) (fun t k => ?_) ?_
  · show Steps p.tables e below (s₁.setTop (mkF m 0 #[.val (.ref a0)] [])) t
    refine XS.aloadN X0.here hx rfl (hb hby d10_0) rfl rfl ?_
    show Steps p.tables e below (s₁.setTop (mkF m 1 #[.val (.ref a0)] [(.ref a0)])) t
    exact k
  obtain ⟨T1, X1, e1, st1⟩ := initO X0 hx hZ hown (hw _ (List.mem_of_getElem? (i := 60) rfl)) (hw _ (List.mem_of_getElem? (i := 10) rfl)) (hw _ (List.mem_of_getElem? (i := 11) rfl)) e0 (g := (mkF m 1 #[.val (.ref a0)] [(.ref a0)])) rfl (by rw [hml]; rfl) rfl (hb hby d10_1) (by decide) (W := 0) (by show 2 * 0 + _ ≤ _; exact Nat.le_of_eq rfl) (by decide)
  refine OEnd.go (g' := (mkF m 4 #[.val (.ref a0)] [])) st1 ?_
  exact OEnd.void X1 hx Bd.returns hlk (hb hby d10_4) ⟨rfl, N0, e1⟩ (by decide) (by decide)
theorem d12_0 : decode prog_39_method_5_code 0 = .ok (.aload_n 0, 1) := by decide +kernel
theorem d12_1 : decode prog_39_method_5_code 1 = .ok (.dup, 1) := by decide +kernel
theorem d12_2 : decode prog_39_method_5_code 2 = .ok (.getfield 7, 3) := by decide +kernel
theorem d12_5 : decode prog_39_method_5_code 5 = .ok (.lload_n 1, 1) := by decide +kernel
theorem d12_6 : decode prog_39_method_5_code 6 = .ok (.ladd, 1) := by decide +kernel
theorem d12_7 : decode prog_39_method_5_code 7 = .ok (.putfield 7, 3) := by decide +kernel
theorem d12_10 : decode prog_39_method_5_code 10 = .ok (.return_, 1) := by decide +kernel
theorem ef_12 (m : MethodId) (x0 : Addr) (x1 : Int64) : entryFrame m #[(.ref x0), (.long x1)] 3 = mkF m 0 #[.val (.ref x0), .val (.long x1), .second] [] := by first | (simp [entryFrame, mkF, argsToLocals, Value.category]; done) | rfl
def Q12 (Z : State) (a0 : Addr) (q1 : Int64) (n1 : Int64) (n2 : Int64) (h0 : Heap) (n0 : Nat) (v : Option Value) (h : Heap) (L : List Loc) : Prop := v = none ∧ Fr n0 L ∧ Keep h0 h [a0] ∧ Exa Z h a0 "com/example/wedgetree/wedgetree/core/QueryCounts" ∧ Fld Z h a0 "com/example/wedgetree/wedgetree/core/QueryCounts" "nodesOpened" "J" (.long (n1 + q1)) ∧ Fld Z h a0 "com/example/wedgetree/wedgetree/core/QueryCounts" "wrongNodes" "J" (.long n2) ∧ Fld Z h a0 "com/example/wedgetree/wedgetree/core/QueryCounts" "wrongNodesUnknown" "Z" (.int (0 : Int32))
set_option maxRecDepth 65536 in
set_option maxHeartbeats 40000000 in
theorem rm12 (l : Launch) (Z : State) (aZ : Array Value) (hw : ∀ d ∈ tables_1, d.before aZ Z = true) (ws : List Jvm.Cond) (a0 : Addr) (q1 : Int64) (n1 : Int64) (n2 : Int64) (h0 : Heap) (n0 : Nat) (Z0 : n0 ≤ h0.size) (P0 : Fld Z h0 a0 "com/example/wedgetree/wedgetree/core/QueryCounts" "nodesOpened" "J" (.long n1)) (P1 : Fld Z h0 a0 "com/example/wedgetree/wedgetree/core/QueryCounts" "wrongNodes" "J" (.long n2)) (P2 : Fld Z h0 a0 "com/example/wedgetree/wedgetree/core/QueryCounts" "wrongNodesUnknown" "Z" (.int (0 : Int32))) (P3 : Exa Z h0 a0 "com/example/wedgetree/wedgetree/core/QueryCounts") (P4 : n0 ≤ a0) :
    MetFree l (⟨"com/example/wedgetree/wedgetree/core/QueryCounts", "addNodesOpened", "(J)V"⟩ : MethodName) (head1 (Jvm.Cond.code (⟨"com/example/wedgetree/wedgetree/core/QueryCounts", "addNodesOpened", "(J)V"⟩ : MethodName) prog_39_method_5_code 3 none :: ws) ({ frames := 0, cells := 0, slots := 0, locals := 0 } : Room)) (fun a U => a = #[(.ref a0), (.long q1)] ∧ Z.Warmed39 U.vm ∧ U.heap = h0) (fun _ _ _ _ _ => True) (fun _ U o U' => ∃ v L, o = .returned v ∧ Q12 Z a0 q1 n1 n2 h0 n0 v U'.heap L ∧ FrameEnd U o U' L ({ frames := 0, cells := 0, slots := 0, locals := 0 } : Room).cells ({ frames := 0, cells := 0, slots := 0, locals := 0 } : Room).slots) := by
  refine MetFree.of_bodySF (plainFor_of_name pn_com_example_wedgetree_wedgetree_core_QueryCounts) hisR ?_
  intro p e s m args below meth c s₁ Bd hml0 hP hK
  obtain ⟨rfl, hZ, hh⟩ := hP
  have hx := Bd.exec
  have hby := Bd.bytes
  have hlk : meth.locks = false := BodyLoose.notSynchronized Bd
  have hml : c.maxLocals = 3 := hml0
  have hown : s.vm.findClass "com/example/wedgetree/wedgetree/core/QueryCounts" = some m.cls := findClass_of_methodNamed Bd.named
  have hnm := (name_of_methodNamed Bd.named Bd.method).1
  have X0 : Stand p l e ({ frames := 0, cells := 0, slots := 0, locals := 0 } : Room) s m #[(.ref a0), (.long q1)] below meth c s₁ [] 0 0 := Stand.of_body Bd
  have e0 : s₁.heap = h0 := by rw [← hh, Bd.state]; rfl
  have N0 := Fr.nil n0
  have K0 : Keep h0 h0 [a0] := Keep.refl _ _
  show OEnd p e below s s₁ (entryFrame m #[(.ref a0), (.long q1)] 3) (Q12 Z a0 q1 n1 n2 h0 n0) ({ frames := 0, cells := 0, slots := 0, locals := 0 } : Room).cells ({ frames := 0, cells := 0, slots := 0, locals := 0 } : Room).slots
  refine OEnd.go (g' := (mkF m 0 #[.val (.ref a0), .val (.long q1), .second] [])) (fun _ k => castTop (ef_12 m a0 q1) k) ?_
  refine OEnd.go (T' := s₁) (g' := (mkF m 2 #[.val (.ref a0), .val (.long q1), .second] [(.ref a0), (.ref a0)])) (fun t k => ?_) ?_
  · show Steps p.tables e below (s₁.setTop (mkF m 0 #[.val (.ref a0), .val (.long q1), .second] [])) t
    refine XS.aloadN X0.here hx rfl (hb hby d12_0) rfl rfl ?_
    show Steps p.tables e below (s₁.setTop (mkF m 1 #[.val (.ref a0), .val (.long q1), .second] [(.ref a0)])) t
    refine XS.dup X0.here hx rfl (hb hby d12_1) rfl rfl ?_
    show Steps p.tables e below (s₁.setTop (mkF m 2 #[.val (.ref a0), .val (.long q1), .second] [(.ref a0), (.ref a0)])) t
    exact k
  obtain ⟨T1, X1, e1, st1⟩ := getF X0 hx hZ hown (host := "") (Or.inl (hw _ (List.mem_of_getElem? (i := 71) rfl))) Via.refl e0 P0 (g := (mkF m 2 #[.val (.ref a0), .val (.long q1), .second] [(.ref a0), (.ref a0)])) rfl rfl (hb hby d12_2)
  refine OEnd.go (g' := (mkF m 5 #[.val (.ref a0), .val (.long q1), .second] [(.long n1), (.ref a0)])) st1 ?_
  refine OEnd.go (T' := T1) (g' := (mkF m 7 #[.val (.ref a0), .val (.long q1), .second] [(.long (n1 + q1)), (.ref a0)])) (fun t k => ?_) ?_
  · show Steps p.tables e below (T1.setTop (mkF m 5 #[.val (.ref a0), .val (.long q1), .second] [(.long n1), (.ref a0)])) t
    refine XS.lloadN X1.here hx rfl (hb hby d12_5) rfl ?_
    show Steps p.tables e below (T1.setTop (mkF m 6 #[.val (.ref a0), .val (.long q1), .second] [(.long q1), (.long n1), (.ref a0)])) t
    refine XS.ladd X1.here hx rfl (hb hby d12_6) rfl ?_
    show Steps p.tables e below (T1.setTop (mkF m 7 #[.val (.ref a0), .val (.long q1), .second] [(.long (n1 + q1)), (.ref a0)])) t
    exact k
  obtain ⟨T2, h2, X2, e2, W2, st2⟩ := putF X1 hx hZ hown (host := "") (Or.inl (hw _ (List.mem_of_getElem? (i := 71) rfl))) Via.refl e1 P0 P3 (Or.inl (hw _ (List.mem_of_getElem? (i := 72) rfl))) (hw _ (List.mem_of_getElem? (i := 55) rfl)) (ty := .long) (by decide) rfl rfl (g := (mkF m 7 #[.val (.ref a0), .val (.long q1), .second] [(.long (n1 + q1)), (.ref a0)])) rfl rfl (hb hby d12_7)
  have N2 := Fr.snoc X2 N0 P4
  have Z2 : n0 ≤ h2.size := Nat.le_trans Z0 (Keep.of_wr W2).1
  have K2 : Keep h0 h2 [a0] := K0.wr W2 (Or.inl (List.mem_of_getElem? (i := 0) rfl))
  have fc3 : Fld Z h2 a0 "com/example/wedgetree/wedgetree/core/QueryCounts" "nodesOpened" "J" (.long (n1 + q1)) := (P0.same W2)
  have fc4 : Fld Z h2 a0 "com/example/wedgetree/wedgetree/core/QueryCounts" "wrongNodes" "J" (.long n2) := (P1.other W2 (Or.inr (slot_ne (Or.inl (hw _ (List.mem_of_getElem? (i := 81) rfl))) (Or.inl (hw _ (List.mem_of_getElem? (i := 72) rfl))) (by decide) (t := .long) (t' := .long) (by decide) (by decide))))
  have fc5 : Fld Z h2 a0 "com/example/wedgetree/wedgetree/core/QueryCounts" "wrongNodesUnknown" "Z" (.int (0 : Int32)) := (P2.other W2 (Or.inr (slot_ne (Or.inl (hw _ (List.mem_of_getElem? (i := 88) rfl))) (Or.inl (hw _ (List.mem_of_getElem? (i := 72) rfl))) (by decide) (t := .boolean) (t' := .long) (by decide) (by decide))))
  have fc6 : Exa Z h2 a0 "com/example/wedgetree/wedgetree/core/QueryCounts" := (P3.wr W2)
  refine OEnd.go (g' := (mkF m 10 #[.val (.ref a0), .val (.long q1), .second] [])) st2 ?_
  exact OEnd.void X2 hx Bd.returns hlk (hb hby d12_10) ⟨rfl, N2, (own_at e2 (P := fun h => Keep h0 h [a0]) K2), (own_at e2 (P := fun h => Exa Z h a0 "com/example/wedgetree/wedgetree/core/QueryCounts") fc6), (own_at e2 (P := fun h => Fld Z h a0 "com/example/wedgetree/wedgetree/core/QueryCounts" "nodesOpened" "J" (.long (n1 + q1))) fc3), (own_at e2 (P := fun h => Fld Z h a0 "com/example/wedgetree/wedgetree/core/QueryCounts" "wrongNodes" "J" (.long n2)) fc4), (own_at e2 (P := fun h => Fld Z h a0 "com/example/wedgetree/wedgetree/core/QueryCounts" "wrongNodesUnknown" "Z" (.int (0 : Int32))) fc5)⟩ (by decide) (by decide)
theorem d13_0 : decode prog_39_method_6_code 0 = .ok (.aload_n 0, 1) := by decide +kernel
theorem d13_1 : decode prog_39_method_6_code 1 = .ok (.dup, 1) := by decide +kernel
theorem d13_2 : decode prog_39_method_6_code 2 = .ok (.getfield 23, 3) := by decide +kernel
theorem d13_5 : decode prog_39_method_6_code 5 = .ok (.lload_n 1, 1) := by decide +kernel
theorem d13_6 : decode prog_39_method_6_code 6 = .ok (.ladd, 1) := by decide +kernel
theorem d13_7 : decode prog_39_method_6_code 7 = .ok (.putfield 23, 3) := by decide +kernel
theorem d13_10 : decode prog_39_method_6_code 10 = .ok (.return_, 1) := by decide +kernel
theorem ef_13 (m : MethodId) (x0 : Addr) (x1 : Int64) : entryFrame m #[(.ref x0), (.long x1)] 3 = mkF m 0 #[.val (.ref x0), .val (.long x1), .second] [] := by first | (simp [entryFrame, mkF, argsToLocals, Value.category]; done) | rfl
def Q13 (Z : State) (a0 : Addr) (q1 : Int64) (n1 : Int64) (n2 : Int64) (h0 : Heap) (n0 : Nat) (v : Option Value) (h : Heap) (L : List Loc) : Prop := v = none ∧ Fr n0 L ∧ Keep h0 h [a0] ∧ Exa Z h a0 "com/example/wedgetree/wedgetree/core/QueryCounts" ∧ Fld Z h a0 "com/example/wedgetree/wedgetree/core/QueryCounts" "nodesOpened" "J" (.long n1) ∧ Fld Z h a0 "com/example/wedgetree/wedgetree/core/QueryCounts" "wrongNodes" "J" (.long (n2 + q1)) ∧ Fld Z h a0 "com/example/wedgetree/wedgetree/core/QueryCounts" "wrongNodesUnknown" "Z" (.int (0 : Int32))
set_option maxRecDepth 65536 in
set_option maxHeartbeats 40000000 in
theorem rm13 (l : Launch) (Z : State) (aZ : Array Value) (hw : ∀ d ∈ tables_1, d.before aZ Z = true) (ws : List Jvm.Cond) (a0 : Addr) (q1 : Int64) (n1 : Int64) (n2 : Int64) (h0 : Heap) (n0 : Nat) (Z0 : n0 ≤ h0.size) (P0 : Fld Z h0 a0 "com/example/wedgetree/wedgetree/core/QueryCounts" "nodesOpened" "J" (.long n1)) (P1 : Fld Z h0 a0 "com/example/wedgetree/wedgetree/core/QueryCounts" "wrongNodes" "J" (.long n2)) (P2 : Fld Z h0 a0 "com/example/wedgetree/wedgetree/core/QueryCounts" "wrongNodesUnknown" "Z" (.int (0 : Int32))) (P3 : Exa Z h0 a0 "com/example/wedgetree/wedgetree/core/QueryCounts") (P4 : n0 ≤ a0) :
    MetFree l (⟨"com/example/wedgetree/wedgetree/core/QueryCounts", "addWrongNodes", "(J)V"⟩ : MethodName) (head1 (Jvm.Cond.code (⟨"com/example/wedgetree/wedgetree/core/QueryCounts", "addWrongNodes", "(J)V"⟩ : MethodName) prog_39_method_6_code 3 none :: ws) ({ frames := 0, cells := 0, slots := 0, locals := 0 } : Room)) (fun a U => a = #[(.ref a0), (.long q1)] ∧ Z.Warmed39 U.vm ∧ U.heap = h0) (fun _ _ _ _ _ => True) (fun _ U o U' => ∃ v L, o = .returned v ∧ Q13 Z a0 q1 n1 n2 h0 n0 v U'.heap L ∧ FrameEnd U o U' L ({ frames := 0, cells := 0, slots := 0, locals := 0 } : Room).cells ({ frames := 0, cells := 0, slots := 0, locals := 0 } : Room).slots) := by
  refine MetFree.of_bodySF (plainFor_of_name pn_com_example_wedgetree_wedgetree_core_QueryCounts) hisR ?_
  intro p e s m args below meth c s₁ Bd hml0 hP hK
  obtain ⟨rfl, hZ, hh⟩ := hP
  have hx := Bd.exec
  have hby := Bd.bytes
  have hlk : meth.locks = false := BodyLoose.notSynchronized Bd
  have hml : c.maxLocals = 3 := hml0
  have hown : s.vm.findClass "com/example/wedgetree/wedgetree/core/QueryCounts" = some m.cls := findClass_of_methodNamed Bd.named
  have hnm := (name_of_methodNamed Bd.named Bd.method).1
  have X0 : Stand p l e ({ frames := 0, cells := 0, slots := 0, locals := 0 } : Room) s m #[(.ref a0), (.long q1)] below meth c s₁ [] 0 0 := Stand.of_body Bd
  have e0 : s₁.heap = h0 := by rw [← hh, Bd.state]; rfl
  have N0 := Fr.nil n0
  have K0 : Keep h0 h0 [a0] := Keep.refl _ _
  show OEnd p e below s s₁ (entryFrame m #[(.ref a0), (.long q1)] 3) (Q13 Z a0 q1 n1 n2 h0 n0) ({ frames := 0, cells := 0, slots := 0, locals := 0 } : Room).cells ({ frames := 0, cells := 0, slots := 0, locals := 0 } : Room).slots
  refine OEnd.go (g' := (mkF m 0 #[.val (.ref a0), .val (.long q1), .second] [])) (fun _ k => castTop (ef_13 m a0 q1) k) ?_
  refine OEnd.go (T' := s₁) (g' := (mkF m 2 #[.val (.ref a0), .val (.long q1), .second] [(.ref a0), (.ref a0)])) (fun t k => ?_) ?_
  · show Steps p.tables e below (s₁.setTop (mkF m 0 #[.val (.ref a0), .val (.long q1), .second] [])) t
    refine XS.aloadN X0.here hx rfl (hb hby d13_0) rfl rfl ?_
    show Steps p.tables e below (s₁.setTop (mkF m 1 #[.val (.ref a0), .val (.long q1), .second] [(.ref a0)])) t
    refine XS.dup X0.here hx rfl (hb hby d13_1) rfl rfl ?_
    show Steps p.tables e below (s₁.setTop (mkF m 2 #[.val (.ref a0), .val (.long q1), .second] [(.ref a0), (.ref a0)])) t
    exact k
  obtain ⟨T1, X1, e1, st1⟩ := getF X0 hx hZ hown (host := "") (Or.inl (hw _ (List.mem_of_getElem? (i := 80) rfl))) Via.refl e0 P1 (g := (mkF m 2 #[.val (.ref a0), .val (.long q1), .second] [(.ref a0), (.ref a0)])) rfl rfl (hb hby d13_2)
  refine OEnd.go (g' := (mkF m 5 #[.val (.ref a0), .val (.long q1), .second] [(.long n2), (.ref a0)])) st1 ?_
  refine OEnd.go (T' := T1) (g' := (mkF m 7 #[.val (.ref a0), .val (.long q1), .second] [(.long (n2 + q1)), (.ref a0)])) (fun t k => ?_) ?_
  · show Steps p.tables e below (T1.setTop (mkF m 5 #[.val (.ref a0), .val (.long q1), .second] [(.long n2), (.ref a0)])) t
    refine XS.lloadN X1.here hx rfl (hb hby d13_5) rfl ?_
    show Steps p.tables e below (T1.setTop (mkF m 6 #[.val (.ref a0), .val (.long q1), .second] [(.long q1), (.long n2), (.ref a0)])) t
    refine XS.ladd X1.here hx rfl (hb hby d13_6) rfl ?_
    show Steps p.tables e below (T1.setTop (mkF m 7 #[.val (.ref a0), .val (.long q1), .second] [(.long (n2 + q1)), (.ref a0)])) t
    exact k
  obtain ⟨T2, h2, X2, e2, W2, st2⟩ := putF X1 hx hZ hown (host := "") (Or.inl (hw _ (List.mem_of_getElem? (i := 80) rfl))) Via.refl e1 P1 P3 (Or.inl (hw _ (List.mem_of_getElem? (i := 81) rfl))) (hw _ (List.mem_of_getElem? (i := 55) rfl)) (ty := .long) (by decide) rfl rfl (g := (mkF m 7 #[.val (.ref a0), .val (.long q1), .second] [(.long (n2 + q1)), (.ref a0)])) rfl rfl (hb hby d13_7)
  have N2 := Fr.snoc X2 N0 P4
  have Z2 : n0 ≤ h2.size := Nat.le_trans Z0 (Keep.of_wr W2).1
  have K2 : Keep h0 h2 [a0] := K0.wr W2 (Or.inl (List.mem_of_getElem? (i := 0) rfl))
  have fc3 : Fld Z h2 a0 "com/example/wedgetree/wedgetree/core/QueryCounts" "nodesOpened" "J" (.long n1) := (P0.other W2 (Or.inr (slot_ne (Or.inl (hw _ (List.mem_of_getElem? (i := 72) rfl))) (Or.inl (hw _ (List.mem_of_getElem? (i := 81) rfl))) (by decide) (t := .long) (t' := .long) (by decide) (by decide))))
  have fc4 : Fld Z h2 a0 "com/example/wedgetree/wedgetree/core/QueryCounts" "wrongNodes" "J" (.long (n2 + q1)) := (P1.same W2)
  have fc5 : Fld Z h2 a0 "com/example/wedgetree/wedgetree/core/QueryCounts" "wrongNodesUnknown" "Z" (.int (0 : Int32)) := (P2.other W2 (Or.inr (slot_ne (Or.inl (hw _ (List.mem_of_getElem? (i := 88) rfl))) (Or.inl (hw _ (List.mem_of_getElem? (i := 81) rfl))) (by decide) (t := .boolean) (t' := .long) (by decide) (by decide))))
  have fc6 : Exa Z h2 a0 "com/example/wedgetree/wedgetree/core/QueryCounts" := (P3.wr W2)
  refine OEnd.go (g' := (mkF m 10 #[.val (.ref a0), .val (.long q1), .second] [])) st2 ?_
  exact OEnd.void X2 hx Bd.returns hlk (hb hby d13_10) ⟨rfl, N2, (own_at e2 (P := fun h => Keep h0 h [a0]) K2), (own_at e2 (P := fun h => Exa Z h a0 "com/example/wedgetree/wedgetree/core/QueryCounts") fc6), (own_at e2 (P := fun h => Fld Z h a0 "com/example/wedgetree/wedgetree/core/QueryCounts" "nodesOpened" "J" (.long n1)) fc3), (own_at e2 (P := fun h => Fld Z h a0 "com/example/wedgetree/wedgetree/core/QueryCounts" "wrongNodes" "J" (.long (n2 + q1))) fc4), (own_at e2 (P := fun h => Fld Z h a0 "com/example/wedgetree/wedgetree/core/QueryCounts" "wrongNodesUnknown" "Z" (.int (0 : Int32))) fc5)⟩ (by decide) (by decide)
theorem d11_0 : decode prog_27_method_6_code 0 = .ok (.aload_n 0, 1) := by decide +kernel
theorem d11_1 : decode prog_27_method_6_code 1 = .ok (.getfield 24, 3) := by decide +kernel
theorem d11_4 : decode prog_27_method_6_code 4 = .ok (.ifCond .ne 13, 3) := by decide +kernel
theorem d11_17 : decode prog_27_method_6_code 17 = .ok (.aload_n 1, 1) := by decide +kernel
theorem d11_18 : decode prog_27_method_6_code 18 = .ok (.lconst 1, 1) := by decide +kernel
theorem d11_19 : decode prog_27_method_6_code 19 = .ok (.aload_n 0, 1) := by decide +kernel
theorem d11_20 : decode prog_27_method_6_code 20 = .ok (.getfield 37, 3) := by decide +kernel
theorem d11_23 : decode prog_27_method_6_code 23 = .ok (.ladd, 1) := by decide +kernel
theorem d11_24 : decode prog_27_method_6_code 24 = .ok (.invokevirtual 64, 3) := by decide +kernel
theorem pd__J_V : parseMethodDescriptor "(J)V" = some ⟨[.long], none⟩ := by decide +kernel
theorem d11_27 : decode prog_27_method_6_code 27 = .ok (.aload_n 1, 1) := by decide +kernel
theorem d11_28 : decode prog_27_method_6_code 28 = .ok (.aload_n 0, 1) := by decide +kernel
theorem d11_29 : decode prog_27_method_6_code 29 = .ok (.getfield 37, 3) := by decide +kernel
theorem d11_32 : decode prog_27_method_6_code 32 = .ok (.aload_n 0, 1) := by decide +kernel
theorem d11_33 : decode prog_27_method_6_code 33 = .ok (.getfield 54, 3) := by decide +kernel
theorem d11_36 : decode prog_27_method_6_code 36 = .ok (.lsub, 1) := by decide +kernel
theorem d11_37 : decode prog_27_method_6_code 37 = .ok (.invokevirtual 70, 3) := by decide +kernel
theorem d11_40 : decode prog_27_method_6_code 40 = .ok (.return_, 1) := by decide +kernel
theorem ef_11 (m : MethodId) (x0 : Addr) (x1 : Addr) : entryFrame m #[(.ref x0), (.ref x1)] 2 = mkF m 0 #[.val (.ref x0), .val (.ref x1)] [] := by first | (simp [entryFrame, mkF, argsToLocals, Value.category]; done) | rfl
def Q11 (Z : State) (a0 : Addr) (a1 : Addr) (oo : Int64) (hv : Int64) (n1 : Int64) (n2 : Int64) (h0 : Heap) (n0 : Nat) (v : Option Value) (h : Heap) (L : List Loc) : Prop := v = none ∧ Fr n0 L ∧ Keep h0 h [a1] ∧ Exa Z h a1 "com/example/wedgetree/wedgetree/core/QueryCounts" ∧ Fld Z h a1 "com/example/wedgetree/wedgetree/core/QueryCounts" "nodesOpened" "J" (.long (n1 + ((1 : Int64) + oo))) ∧ Fld Z h a1 "com/example/wedgetree/wedgetree/core/QueryCounts" "wrongNodes" "J" (.long (n2 + (oo - hv))) ∧ Fld Z h a1 "com/example/wedgetree/wedgetree/core/QueryCounts" "wrongNodesUnknown" "Z" (.int (0 : Int32))
set_option maxRecDepth 65536 in
set_option maxHeartbeats 40000000 in
theorem rm11 (l : Launch) (Z : State) (aZ : Array Value) (hw : ∀ d ∈ tables_1, d.before aZ Z = true) (ws : List Jvm.Cond) (a0 : Addr) (a1 : Addr) (oo : Int64) (hv : Int64) (n1 : Int64) (n2 : Int64) (h0 : Heap) (n0 : Nat) (Z0 : n0 ≤ h0.size) (P0 : Fld Z h0 a0 "com/example/wedgetree/wedgetree/core/OpenedNodes" "tallying" "Z" (.int (1 : Int32))) (P1 : Fld Z h0 a0 "com/example/wedgetree/wedgetree/core/OpenedNodes" "opened" "J" (.long oo)) (P2 : Fld Z h0 a0 "com/example/wedgetree/wedgetree/core/OpenedNodes" "holding" "J" (.long hv)) (P3 : Fld Z h0 a1 "com/example/wedgetree/wedgetree/core/QueryCounts" "nodesOpened" "J" (.long n1)) (P4 : Fld Z h0 a1 "com/example/wedgetree/wedgetree/core/QueryCounts" "wrongNodes" "J" (.long n2)) (P5 : Fld Z h0 a1 "com/example/wedgetree/wedgetree/core/QueryCounts" "wrongNodesUnknown" "Z" (.int (0 : Int32))) (P6 : Exa Z h0 a1 "com/example/wedgetree/wedgetree/core/QueryCounts") (P7 : n0 ≤ a1) (P8 : a0 ≠ a1) :
    MetFree l (⟨"com/example/wedgetree/wedgetree/core/OpenedNodes", "addTo", "(Lcom/example/wedgetree/wedgetree/core/QueryCounts;)V"⟩ : MethodName) (head1 (Jvm.Cond.code (⟨"com/example/wedgetree/wedgetree/core/OpenedNodes", "addTo", "(Lcom/example/wedgetree/wedgetree/core/QueryCounts;)V"⟩ : MethodName) prog_27_method_6_code 2 none :: ws) ({ frames := 1, cells := 0, slots := 0, locals := 14 } : Room)) (fun a U => a = #[(.ref a0), (.ref a1)] ∧ Z.Warmed39 U.vm ∧ U.heap = h0) (fun _ _ _ _ _ => True) (fun _ U o U' => ∃ v L, o = .returned v ∧ Q11 Z a0 a1 oo hv n1 n2 h0 n0 v U'.heap L ∧ FrameEnd U o U' L ({ frames := 1, cells := 0, slots := 0, locals := 14 } : Room).cells ({ frames := 1, cells := 0, slots := 0, locals := 14 } : Room).slots) := by
  refine MetFree.of_bodySF (plainFor_of_name pn_com_example_wedgetree_wedgetree_core_OpenedNodes) hisR ?_
  intro p e s m args below meth c s₁ Bd hml0 hP hK
  obtain ⟨rfl, hZ, hh⟩ := hP
  have hx := Bd.exec
  have hby := Bd.bytes
  have hlk : meth.locks = false := BodyLoose.notSynchronized Bd
  have hml : c.maxLocals = 2 := hml0
  have hown : s.vm.findClass "com/example/wedgetree/wedgetree/core/OpenedNodes" = some m.cls := findClass_of_methodNamed Bd.named
  have hnm := (name_of_methodNamed Bd.named Bd.method).1
  have X0 : Stand p l e ({ frames := 1, cells := 0, slots := 0, locals := 14 } : Room) s m #[(.ref a0), (.ref a1)] below meth c s₁ [] 0 0 := Stand.of_body Bd
  have e0 : s₁.heap = h0 := by rw [← hh, Bd.state]; rfl
  have N0 := Fr.nil n0
  have K0 : Keep h0 h0 [a1] := Keep.refl _ _
  show OEnd p e below s s₁ (entryFrame m #[(.ref a0), (.ref a1)] 2) (Q11 Z a0 a1 oo hv n1 n2 h0 n0) ({ frames := 1, cells := 0, slots := 0, locals := 14 } : Room).cells ({ frames := 1, cells := 0, slots := 0, locals := 14 } : Room).slots
  refine OEnd.go (g' := (mkF m 0 #[.val (.ref a0), .val (.ref a1)] [])) (fun _ k => castTop (ef_11 m a0 a1) k) ?_
  refine OEnd.go (T' := s₁) (g' := (mkF m 1 #[.val (.ref a0), .val (.ref a1)] [(.ref a0)])) (fun t k => ?_) ?_
  · show Steps p.tables e below (s₁.setTop (mkF m 0 #[.val (.ref a0), .val (.ref a1)] [])) t
    refine XS.aloadN X0.here hx rfl (hb hby d11_0) rfl rfl ?_
    show Steps p.tables e below (s₁.setTop (mkF m 1 #[.val (.ref a0), .val (.ref a1)] [(.ref a0)])) t
    exact k
  obtain ⟨T1, X1, e1, st1⟩ := getF X0 hx hZ hown (host := "") (Or.inl (hw _ (List.mem_of_getElem? (i := 20) rfl))) Via.refl e0 P0 (g := (mkF m 1 #[.val (.ref a0), .val (.ref a1)] [(.ref a0)])) rfl rfl (hb hby d11_1)
  refine OEnd.go (g' := (mkF m 4 #[.val (.ref a0), .val (.ref a1)] [(.int (1 : Int32))])) st1 ?_
  refine OEnd.go (T' := T1) (g' := (mkF m 20 #[.val (.ref a0), .val (.ref a1)] [(.ref a0), (.long (1 : Int64)), (.ref a1)])) (fun t k => ?_) ?_
  · show Steps p.tables e below (T1.setTop (mkF m 4 #[.val (.ref a0), .val (.ref a1)] [(.int (1 : Int32))])) t
    refine XS.ifYes X1.here hx rfl (pc0 := 4) (pc' := 17) rfl (hb hby d11_4) rfl ((if0 _ _).trans (feq ((by decide))).2) (by decide) (by decide) ?_
    show Steps p.tables e below (T1.setTop (mkF m 17 #[.val (.ref a0), .val (.ref a1)] [])) t
    refine XS.aloadN X1.here hx rfl (hb hby d11_17) rfl rfl ?_
    show Steps p.tables e below (T1.setTop (mkF m 18 #[.val (.ref a0), .val (.ref a1)] [(.ref a1)])) t
    refine XS.lconst X1.here hx rfl (hb hby d11_18) ?_
    show Steps p.tables e below (T1.setTop (mkF m 19 #[.val (.ref a0), .val (.ref a1)] [(.long (1 : Int64)), (.ref a1)])) t
    refine XS.aloadN X1.here hx rfl (hb hby d11_19) rfl rfl ?_
    show Steps p.tables e below (T1.setTop (mkF m 20 #[.val (.ref a0), .val (.ref a1)] [(.ref a0), (.long (1 : Int64)), (.ref a1)])) t
    exact k
  obtain ⟨T2, X2, e2, st2⟩ := getF X1 hx hZ hown (host := "") (Or.inl (hw _ (List.mem_of_getElem? (i := 52) rfl))) Via.refl e1 P1 (g := (mkF m 20 #[.val (.ref a0), .val (.ref a1)] [(.ref a0), (.long (1 : Int64)), (.ref a1)])) rfl rfl (hb hby d11_20)
  refine OEnd.go (g' := (mkF m 23 #[.val (.ref a0), .val (.ref a1)] [(.long oo), (.long (1 : Int64)), (.ref a1)])) st2 ?_
  refine OEnd.go (T' := T2) (g' := (mkF m 24 #[.val (.ref a0), .val (.ref a1)] [(.long ((1 : Int64) + oo)), (.ref a1)])) (fun t k => ?_) ?_
  · show Steps p.tables e below (T2.setTop (mkF m 23 #[.val (.ref a0), .val (.ref a1)] [(.long oo), (.long (1 : Int64)), (.ref a1)])) t
    refine XS.ladd X2.here hx rfl (hb hby d11_23) rfl ?_
    show Steps p.tables e below (T2.setTop (mkF m 24 #[.val (.ref a0), .val (.ref a1)] [(.long ((1 : Int64) + oo)), (.ref a1)])) t
    exact k
  obtain ⟨cq3, kq3, q3a, q3b, q3c⟩ := isOf hZ e2 P6
  obtain ⟨_, _, ⟨T3, L3, k3, n3⟩, -, X3, ⟨Lc3, hQ3, l3, y3, z3⟩, st3⟩ := X2.virtualBack hx (y := (⟨"com/example/wedgetree/wedgetree/core/QueryCounts", "addNodesOpened", "(J)V"⟩ : MethodName)) (z := (⟨"com/example/wedgetree/wedgetree/core/QueryCounts", "addNodesOpened", "(J)V"⟩ : MethodName)) hown (mvT hZ (hw _ (List.mem_of_getElem? (i := 66) rfl))) (mvT hZ (hw _ (List.mem_of_getElem? (i := 67) rfl))) (notFace_of_selects (args := #[]) (mvT hZ (hw _ (List.mem_of_getElem? (i := 69) rfl)))) (mvT hZ (hw _ (List.mem_of_getElem? (i := 69) rfl))) (mvT hZ (hw _ (List.mem_of_getElem? (i := 68) rfl))) (by decide) (backOf (W := 0) (rm12 l Z aZ hw [] a1 ((1 : Int64) + oo) n1 n2 h0 n0 Z0 P3 P4 P5 P6 P7) hZ (hw _ (List.mem_of_getElem? (i := 70) rfl)) (hw _ (List.mem_of_getElem? (i := 56) rfl)) (by decide) (by decide)) q3a q3c (g := (mkF m 24 #[.val (.ref a0), .val (.ref a1)] [(.long ((1 : Int64) + oo)), (.ref a1)])) rfl (by rw [hml]; rfl) (Steps.refl _) (argsL := [(.long ((1 : Int64) + oo))]) (rest := []) (lenOf pd__J_V rfl) rfl (by show 2 * 0 + _ ≤ _; exact Nat.le_of_eq rfl) (hb hby d11_24) (fun _ _ => ⟨rfl, e2, (by decide : 0 + 0 ≤ _), (by decide : 0 + 0 ≤ _)⟩)
  dsimp only [Pt.U, Pt.locs, Pt.cells, Pt.slots] at X3 l3 y3 z3 st3 hQ3
  subst l3 y3 z3
  obtain ⟨rfl, N3q, u3_0, u3_1, u3_2, u3_3, u3_4⟩ := hQ3
  have N3 := Fr.app N0 N3q
  have Z3 : n0 ≤ T3.heap.size := Nat.le_trans Z0 u3_0.1
  have K3 : Keep h0 T3.heap [a1] := K0.trans u3_0 (allS (Or.inl (List.mem_of_getElem? (i := 0) rfl)) all0)
  have fc4 : Fld Z T3.heap a0 "com/example/wedgetree/wedgetree/core/OpenedNodes" "tallying" "Z" (.int (1 : Int32)) := (P0.keep u3_0 (ninS P8 nin0))
  have fc5 : Fld Z T3.heap a0 "com/example/wedgetree/wedgetree/core/OpenedNodes" "opened" "J" (.long oo) := (P1.keep u3_0 (ninS P8 nin0))
  have fc6 : Fld Z T3.heap a0 "com/example/wedgetree/wedgetree/core/OpenedNodes" "holding" "J" (.long hv) := (P2.keep u3_0 (ninS P8 nin0))
  refine OEnd.go (g' := (mkF m 27 #[.val (.ref a0), .val (.ref a1)] [])) (fun _ k => st3.trans k) ?_
  refine OEnd.go (T' := T3) (g' := (mkF m 29 #[.val (.ref a0), .val (.ref a1)] [(.ref a0), (.ref a1)])) (fun t k => ?_) ?_
  · show Steps p.tables e below (T3.setTop (mkF m 27 #[.val (.ref a0), .val (.ref a1)] [])) t
    refine XS.aloadN X3.here hx rfl (hb hby d11_27) rfl rfl ?_
    show Steps p.tables e below (T3.setTop (mkF m 28 #[.val (.ref a0), .val (.ref a1)] [(.ref a1)])) t
    refine XS.aloadN X3.here hx rfl (hb hby d11_28) rfl rfl ?_
    show Steps p.tables e below (T3.setTop (mkF m 29 #[.val (.ref a0), .val (.ref a1)] [(.ref a0), (.ref a1)])) t
    exact k
  obtain ⟨T7, X7, e7, st7⟩ := getF X3 hx hZ hown (host := "") (Or.inl (hw _ (List.mem_of_getElem? (i := 52) rfl))) Via.refl rfl fc5 (g := (mkF m 29 #[.val (.ref a0), .val (.ref a1)] [(.ref a0), (.ref a1)])) rfl rfl (hb hby d11_29)
  refine OEnd.go (g' := (mkF m 32 #[.val (.ref a0), .val (.ref a1)] [(.long oo), (.ref a1)])) st7 ?_
  refine OEnd.go (T' := T7) (g' := (mkF m 33 #[.val (.ref a0), .val (.ref a1)] [(.ref a0), (.long oo), (.ref a1)])) (fun t k => ?_) ?_
  · show Steps p.tables e below (T7.setTop (mkF m 32 #[.val (.ref a0), .val (.ref a1)] [(.long oo), (.ref a1)])) t
    refine XS.aloadN X7.here hx rfl (hb hby d11_32) rfl rfl ?_
    show Steps p.tables e below (T7.setTop (mkF m 33 #[.val (.ref a0), .val (.ref a1)] [(.ref a0), (.long oo), (.ref a1)])) t
    exact k
  obtain ⟨T8, X8, e8, st8⟩ := getF X7 hx hZ hown (host := "") (Or.inl (hw _ (List.mem_of_getElem? (i := 73) rfl))) Via.refl e7 fc6 (g := (mkF m 33 #[.val (.ref a0), .val (.ref a1)] [(.ref a0), (.long oo), (.ref a1)])) rfl rfl (hb hby d11_33)
  refine OEnd.go (g' := (mkF m 36 #[.val (.ref a0), .val (.ref a1)] [(.long hv), (.long oo), (.ref a1)])) st8 ?_
  refine OEnd.go (T' := T8) (g' := (mkF m 37 #[.val (.ref a0), .val (.ref a1)] [(.long (oo - hv)), (.ref a1)])) (fun t k => ?_) ?_
  · show Steps p.tables e below (T8.setTop (mkF m 36 #[.val (.ref a0), .val (.ref a1)] [(.long hv), (.long oo), (.ref a1)])) t
    refine XS.lsub X8.here hx rfl (hb hby d11_36) rfl ?_
    show Steps p.tables e below (T8.setTop (mkF m 37 #[.val (.ref a0), .val (.ref a1)] [(.long (oo - hv)), (.ref a1)])) t
    exact k
  obtain ⟨cq9, kq9, q9a, q9b, q9c⟩ := isOf hZ e8 u3_1
  obtain ⟨_, _, ⟨T9, L9, k9, n9⟩, -, X9, ⟨Lc9, hQ9, l9, y9, z9⟩, st9⟩ := X8.virtualBack hx (y := (⟨"com/example/wedgetree/wedgetree/core/QueryCounts", "addWrongNodes", "(J)V"⟩ : MethodName)) (z := (⟨"com/example/wedgetree/wedgetree/core/QueryCounts", "addWrongNodes", "(J)V"⟩ : MethodName)) hown (mvT hZ (hw _ (List.mem_of_getElem? (i := 75) rfl))) (mvT hZ (hw _ (List.mem_of_getElem? (i := 76) rfl))) (notFace_of_selects (args := #[]) (mvT hZ (hw _ (List.mem_of_getElem? (i := 78) rfl)))) (mvT hZ (hw _ (List.mem_of_getElem? (i := 78) rfl))) (mvT hZ (hw _ (List.mem_of_getElem? (i := 77) rfl))) (by decide) (backOf (W := 0) (rm13 l Z aZ hw [] a1 (oo - hv) (n1 + ((1 : Int64) + oo)) n2 T3.heap n0 Z3 u3_2 u3_3 u3_4 u3_1 P7) hZ (hw _ (List.mem_of_getElem? (i := 79) rfl)) (hw _ (List.mem_of_getElem? (i := 56) rfl)) (by decide) (by decide)) q9a q9c (g := (mkF m 37 #[.val (.ref a0), .val (.ref a1)] [(.long (oo - hv)), (.ref a1)])) rfl (by rw [hml]; rfl) (Steps.refl _) (argsL := [(.long (oo - hv))]) (rest := []) (lenOf pd__J_V rfl) rfl (by show 2 * 0 + _ ≤ _; exact Nat.le_of_eq rfl) (hb hby d11_37) (fun _ _ => ⟨rfl, e8, (by decide : 0 + 0 ≤ _), (by decide : 0 + 0 ≤ _)⟩)
  dsimp only [Pt.U, Pt.locs, Pt.cells, Pt.slots] at X9 l9 y9 z9 st9 hQ9
  subst l9 y9 z9
  obtain ⟨rfl, N9q, u9_0, u9_1, u9_2, u9_3, u9_4⟩ := hQ9
  have N9 := Fr.app N3 N9q
  have Z9 : n0 ≤ T9.heap.size := Nat.le_trans Z3 u9_0.1
  have K9 : Keep h0 T9.heap [a1] := K3.trans u9_0 (allS (Or.inl (List.mem_of_getElem? (i := 0) rfl)) all0)
  have fc10 : Fld Z T9.heap a0 "com/example/wedgetree/wedgetree/core/OpenedNodes" "tallying" "Z" (.int (1 : Int32)) := (fc4.keep u9_0 (ninS P8 nin0))
  have fc11 : Fld Z T9.heap a0 "com/example/wedgetree/wedgetree/core/OpenedNodes" "opened" "J" (.long oo) := (fc5.keep u9_0 (ninS P8 nin0))
  have fc12 : Fld Z T9.heap a0 "com/example/wedgetree/wedgetree/core/OpenedNodes" "holding" "J" (.long hv) := (fc6.keep u9_0 (ninS P8 nin0))
  refine OEnd.go (g' := (mkF m 40 #[.val (.ref a0), .val (.ref a1)] [])) (fun _ k => st9.trans k) ?_
  exact OEnd.void X9 hx Bd.returns hlk (hb hby d11_40) ⟨rfl, N9, (own_at rfl (P := fun h => Keep h0 h [a1]) K9), (own_at rfl (P := fun h => Exa Z h a1 "com/example/wedgetree/wedgetree/core/QueryCounts") u9_1), (own_at rfl (P := fun h => Fld Z h a1 "com/example/wedgetree/wedgetree/core/QueryCounts" "nodesOpened" "J" (.long (n1 + ((1 : Int64) + oo)))) u9_2), (own_at rfl (P := fun h => Fld Z h a1 "com/example/wedgetree/wedgetree/core/QueryCounts" "wrongNodes" "J" (.long (n2 + (oo - hv)))) u9_3), (own_at rfl (P := fun h => Fld Z h a1 "com/example/wedgetree/wedgetree/core/QueryCounts" "wrongNodesUnknown" "Z" (.int (0 : Int32))) u9_4)⟩ (by decide) (by decide)
theorem d16_0 : decode jdk_2650_method_3_code 0 = .ok (.aload_n 0, 1) := by decide +kernel
theorem d16_1 : decode jdk_2650_method_3_code 1 = .ok (.invokespecial 1, 3) := by decide +kernel
theorem d16_4 : decode jdk_2650_method_3_code 4 = .ok (.aload_n 0, 1) := by decide +kernel
theorem d16_5 : decode jdk_2650_method_3_code 5 = .ok (.iconst 1, 1) := by decide +kernel
theorem d16_6 : decode jdk_2650_method_3_code 6 = .ok (.putfield 7, 3) := by decide +kernel
theorem d16_9 : decode jdk_2650_method_3_code 9 = .ok (.aload_n 0, 1) := by decide +kernel
theorem d16_10 : decode jdk_2650_method_3_code 10 = .ok (.lload_n 1, 1) := by decide +kernel
theorem d16_11 : decode jdk_2650_method_3_code 11 = .ok (.putfield 13, 3) := by decide +kernel
theorem d16_14 : decode jdk_2650_method_3_code 14 = .ok (.return_, 1) := by decide +kernel
theorem pn_java_util_OptionalLong : plainName "java/util/OptionalLong" = true := by first | (simp [plainName, overriddenIn]; done) | decide +kernel
theorem ef_16 (m : MethodId) (x0 : Addr) (x1 : Int64) : entryFrame m #[(.ref x0), (.long x1)] 3 = mkF m 0 #[.val (.ref x0), .val (.long x1), .second] [] := by first | (simp [entryFrame, mkF, argsToLocals, Value.category]; done) | rfl
def Q16 (Z : State) (a0 : Addr) (q1 : Int64) (h0 : Heap) (n0 : Nat) (v : Option Value) (h : Heap) (L : List Loc) : Prop := v = none ∧ Fr n0 L ∧ Keep h0 h [a0] ∧ Exa Z h a0 "java/util/OptionalLong" ∧ Fld Z h a0 "java/util/OptionalLong" "isPresent" "Z" (.int (1 : Int32)) ∧ Fld Z h a0 "java/util/OptionalLong" "value" "J" (.long q1)
set_option maxRecDepth 65536 in
set_option maxHeartbeats 40000000 in
theorem rm16 (l : Launch) (Z : State) (aZ : Array Value) (hw : ∀ d ∈ tables_1, d.before aZ Z = true) (ws : List Jvm.Cond) (a0 : Addr) (q1 : Int64) (h0 : Heap) (n0 : Nat) (Z0 : n0 ≤ h0.size) (P0 : Fld Z h0 a0 "java/util/OptionalLong" "isPresent" "Z" (.int (0 : Int32))) (P1 : Fld Z h0 a0 "java/util/OptionalLong" "value" "J" (.long (0 : Int64))) (P2 : Exa Z h0 a0 "java/util/OptionalLong") (P3 : n0 ≤ a0) :
    MetFree l (⟨"java/util/OptionalLong", "<init>", "(J)V"⟩ : MethodName) (head1 (Jvm.Cond.code (⟨"java/util/OptionalLong", "<init>", "(J)V"⟩ : MethodName) jdk_2650_method_3_code 3 none :: ws) ({ frames := 1, cells := 0, slots := 0, locals := 12 } : Room)) (fun a U => a = #[(.ref a0), (.long q1)] ∧ Z.Warmed39 U.vm ∧ U.heap = h0) (fun _ _ _ _ _ => True) (fun _ U o U' => ∃ v L, o = .returned v ∧ Q16 Z a0 q1 h0 n0 v U'.heap L ∧ FrameEnd U o U' L ({ frames := 1, cells := 0, slots := 0, locals := 12 } : Room).cells ({ frames := 1, cells := 0, slots := 0, locals := 12 } : Room).slots) := by
  refine MetFree.of_bodySF (plainFor_of_name pn_java_util_OptionalLong) hisR ?_
  intro p e s m args below meth c s₁ Bd hml0 hP hK
  obtain ⟨rfl, hZ, hh⟩ := hP
  have hx := Bd.exec
  have hby := Bd.bytes
  have hlk : meth.locks = false := BodyLoose.notSynchronized Bd
  have hml : c.maxLocals = 3 := hml0
  have hown : s.vm.findClass "java/util/OptionalLong" = some m.cls := findClass_of_methodNamed Bd.named
  have hnm := (name_of_methodNamed Bd.named Bd.method).1
  have X0 : Stand p l e ({ frames := 1, cells := 0, slots := 0, locals := 12 } : Room) s m #[(.ref a0), (.long q1)] below meth c s₁ [] 0 0 := Stand.of_body Bd
  have e0 : s₁.heap = h0 := by rw [← hh, Bd.state]; rfl
  have N0 := Fr.nil n0
  have K0 : Keep h0 h0 [a0] := Keep.refl _ _
  show OEnd p e below s s₁ (entryFrame m #[(.ref a0), (.long q1)] 3) (Q16 Z a0 q1 h0 n0) ({ frames := 1, cells := 0, slots := 0, locals := 12 } : Room).cells ({ frames := 1, cells := 0, slots := 0, locals := 12 } : Room).slots
  refine OEnd.go (g' := (mkF m 0 #[.val (.ref a0), .val (.long q1), .second] [])) (fun _ k => castTop (ef_16 m a0 q1) k) ?_
  refine OEnd.go (T' := s₁) (g' := (mkF m 1 #[.val (.ref a0), .val (.long q1), .second] [(.ref a0)])) (fun t k => ?_) ?_
  · show Steps p.tables e below (s₁.setTop (mkF m 0 #[.val (.ref a0), .val (.long q1), .second] [])) t
    refine XS.aloadN X0.here hx rfl (hb hby d16_0) rfl rfl ?_
    show Steps p.tables e below (s₁.setTop (mkF m 1 #[.val (.ref a0), .val (.long q1), .second] [(.ref a0)])) t
    exact k
  obtain ⟨T1, X1, e1, st1⟩ := initO X0 hx hZ hown (hw _ (List.mem_of_getElem? (i := 99) rfl)) (hw _ (List.mem_of_getElem? (i := 10) rfl)) (hw _ (List.mem_of_getElem? (i := 11) rfl)) e0 (g := (mkF m 1 #[.val (.ref a0), .val (.long q1), .second] [(.ref a0)])) rfl (by rw [hml]; rfl) rfl (hb hby d16_1) (by decide) (W := 0) (by show 2 * 0 + _ ≤ _; exact Nat.le_of_eq rfl) (by decide)
  refine OEnd.go (g' := (mkF m 4 #[.val (.ref a0), .val (.long q1), .second] [])) st1 ?_
  refine OEnd.go (T' := T1) (g' := (mkF m 6 #[.val (.ref a0), .val (.long q1), .second] [(.int (1 : Int32)), (.ref a0)])) (fun t k => ?_) ?_
  · show Steps p.tables e below (T1.setTop (mkF m 4 #[.val (.ref a0), .val (.long q1), .second] [])) t
    refine XS.aloadN X1.here hx rfl (hb hby d16_4) rfl rfl ?_
    show Steps p.tables e below (T1.setTop (mkF m 5 #[.val (.ref a0), .val (.long q1), .second] [(.ref a0)])) t
    refine XS.iconst X1.here hx rfl (hb hby d16_5) ?_
    show Steps p.tables e below (T1.setTop (mkF m 6 #[.val (.ref a0), .val (.long q1), .second] [(.int (1 : Int32)), (.ref a0)])) t
    exact k
  obtain ⟨T2, h2, X2, e2, W2, st2⟩ := putFN X1 hx hZ hown (hw _ (List.mem_of_getElem? (i := 100) rfl)) Via.refl e1 P0 P2 (Or.inr ⟨(hw _ (List.mem_of_getElem? (i := 101) rfl)), rfl, hnm⟩) (hw _ (List.mem_of_getElem? (i := 94) rfl)) (ty := .boolean) (v' := (.int (1 : Int32))) (by decide) rfl rfl (g := (mkF m 6 #[.val (.ref a0), .val (.long q1), .second] [(.int (1 : Int32)), (.ref a0)])) rfl rfl (hb hby d16_6)
  have N2 := Fr.snoc X2 N0 P3
  have Z2 : n0 ≤ h2.size := Nat.le_trans Z0 (Keep.of_wr W2).1
  have K2 : Keep h0 h2 [a0] := K0.wr W2 (Or.inl (List.mem_of_getElem? (i := 0) rfl))
  have fc3 : Fld Z h2 a0 "java/util/OptionalLong" "isPresent" "Z" (.int (1 : Int32)) := (P0.same W2)
  have fc4 : Fld Z h2 a0 "java/util/OptionalLong" "value" "J" (.long (0 : Int64)) := (P1.other W2 (Or.inr (slot_ne (Or.inr (hw _ (List.mem_of_getElem? (i := 103) rfl))) (Or.inr (hw _ (List.mem_of_getElem? (i := 101) rfl))) (by decide) (t := .long) (t' := .boolean) (by decide) (by decide))))
  have fc5 : Exa Z h2 a0 "java/util/OptionalLong" := (P2.wr W2)
  refine OEnd.go (g' := (mkF m 9 #[.val (.ref a0), .val (.long q1), .second] [])) st2 ?_
  refine OEnd.go (T' := T2) (g' := (mkF m 11 #[.val (.ref a0), .val (.long q1), .second] [(.long q1), (.ref a0)])) (fun t k => ?_) ?_
  · show Steps p.tables e below (T2.setTop (mkF m 9 #[.val (.ref a0), .val (.long q1), .second] [])) t
    refine XS.aloadN X2.here hx rfl (hb hby d16_9) rfl rfl ?_
    show Steps p.tables e below (T2.setTop (mkF m 10 #[.val (.ref a0), .val (.long q1), .second] [(.ref a0)])) t
    refine XS.lloadN X2.here hx rfl (hb hby d16_10) rfl ?_
    show Steps p.tables e below (T2.setTop (mkF m 11 #[.val (.ref a0), .val (.long q1), .second] [(.long q1), (.ref a0)])) t
    exact k
  obtain ⟨T6, h6, X6, e6, W6, st6⟩ := putF X2 hx hZ hown (host := "") (Or.inl (hw _ (List.mem_of_getElem? (i := 102) rfl))) Via.refl e2 fc4 fc5 (Or.inr ⟨(hw _ (List.mem_of_getElem? (i := 103) rfl)), rfl, hnm⟩) (hw _ (List.mem_of_getElem? (i := 94) rfl)) (ty := .long) (by decide) rfl rfl (g := (mkF m 11 #[.val (.ref a0), .val (.long q1), .second] [(.long q1), (.ref a0)])) rfl rfl (hb hby d16_11)
  have N6 := Fr.snoc X6 N2 P3
  have Z6 : n0 ≤ h6.size := Nat.le_trans Z2 (Keep.of_wr W6).1
  have K6 : Keep h0 h6 [a0] := K2.wr W6 (Or.inl (List.mem_of_getElem? (i := 0) rfl))
  have fc7 : Fld Z h6 a0 "java/util/OptionalLong" "isPresent" "Z" (.int (1 : Int32)) := (fc3.other W6 (Or.inr (slot_ne (Or.inr (hw _ (List.mem_of_getElem? (i := 101) rfl))) (Or.inr (hw _ (List.mem_of_getElem? (i := 103) rfl))) (by decide) (t := .boolean) (t' := .long) (by decide) (by decide))))
  have fc8 : Fld Z h6 a0 "java/util/OptionalLong" "value" "J" (.long q1) := (fc4.same W6)
  have fc9 : Exa Z h6 a0 "java/util/OptionalLong" := (fc5.wr W6)
  refine OEnd.go (g' := (mkF m 14 #[.val (.ref a0), .val (.long q1), .second] [])) st6 ?_
  exact OEnd.void X6 hx Bd.returns hlk (hb hby d16_14) ⟨rfl, N6, (own_at e6 (P := fun h => Keep h0 h [a0]) K6), (own_at e6 (P := fun h => Exa Z h a0 "java/util/OptionalLong") fc9), (own_at e6 (P := fun h => Fld Z h a0 "java/util/OptionalLong" "isPresent" "Z" (.int (1 : Int32))) fc7), (own_at e6 (P := fun h => Fld Z h a0 "java/util/OptionalLong" "value" "J" (.long q1)) fc8)⟩ (by decide) (by decide)
theorem d15_0 : decode jdk_2650_method_4_code 0 = .ok (.new 8, 3) := by decide +kernel
theorem d15_3 : decode jdk_2650_method_4_code 3 = .ok (.dup, 1) := by decide +kernel
theorem d15_4 : decode jdk_2650_method_4_code 4 = .ok (.lload_n 0, 1) := by decide +kernel
theorem d15_5 : decode jdk_2650_method_4_code 5 = .ok (.invokespecial 21, 3) := by decide +kernel
theorem d15_8 : decode jdk_2650_method_4_code 8 = .ok (.areturn, 1) := by decide +kernel
theorem ef_15 (m : MethodId) (x0 : Int64) : entryFrame m #[(.long x0)] 2 = mkF m 0 #[.val (.long x0), .second] [] := by first | (simp [entryFrame, mkF, argsToLocals, Value.category]; done) | rfl
def Q15 (Z : State) (q0 : Int64) (h0 : Heap) (n0 : Nat) (v : Option Value) (h : Heap) (L : List Loc) : Prop := ∃ r : Addr, v = some (.ref r) ∧ n0 ≤ r ∧ h0.size ≤ r ∧ Fr n0 L ∧ Keep h0 h [] ∧ Exa Z h r "java/util/OptionalLong" ∧ Fld Z h r "java/util/OptionalLong" "isPresent" "Z" (.int (1 : Int32)) ∧ Fld Z h r "java/util/OptionalLong" "value" "J" (.long q0)
set_option maxRecDepth 65536 in
set_option maxHeartbeats 40000000 in
theorem rm15 (l : Launch) (Z : State) (aZ : Array Value) (hw : ∀ d ∈ tables_1, d.before aZ Z = true) (ws : List Jvm.Cond) (q0 : Int64) (h0 : Heap) (n0 : Nat) (Z0 : n0 ≤ h0.size) :
    MetFree l (⟨"java/util/OptionalLong", "of", "(J)Ljava/util/OptionalLong;"⟩ : MethodName) (head1 (Jvm.Cond.code (⟨"java/util/OptionalLong", "of", "(J)Ljava/util/OptionalLong;"⟩ : MethodName) jdk_2650_method_4_code 2 (some (.object "java/util/OptionalLong")) :: ws) ({ frames := 2, cells := 1, slots := 2, locals := 27 } : Room)) (fun a U => a = #[(.long q0)] ∧ Z.Warmed39 U.vm ∧ U.heap = h0) (fun _ _ _ _ _ => True) (fun _ U o U' => ∃ v L, o = .returned v ∧ Q15 Z q0 h0 n0 v U'.heap L ∧ FrameEnd U o U' L ({ frames := 2, cells := 1, slots := 2, locals := 27 } : Room).cells ({ frames := 2, cells := 1, slots := 2, locals := 27 } : Room).slots) := by
  refine MetFree.of_bodySF (plainFor_of_name pn_java_util_OptionalLong) hisR ?_
  intro p e s m args below meth c s₁ Bd hml0 hP hK
  obtain ⟨rfl, hZ, hh⟩ := hP
  have hx := Bd.exec
  have hby := Bd.bytes
  have hlk : meth.locks = false := BodyLoose.notSynchronized Bd
  have hml : c.maxLocals = 2 := hml0
  have hown : s.vm.findClass "java/util/OptionalLong" = some m.cls := findClass_of_methodNamed Bd.named
  have hnm := (name_of_methodNamed Bd.named Bd.method).1
  have X0 : Stand p l e ({ frames := 2, cells := 1, slots := 2, locals := 27 } : Room) s m #[(.long q0)] below meth c s₁ [] 0 0 := Stand.of_body Bd
  have e0 : s₁.heap = h0 := by rw [← hh, Bd.state]; rfl
  have N0 := Fr.nil n0
  have K0 : Keep h0 h0 [] := Keep.refl _ _
  show OEnd p e below s s₁ (entryFrame m #[(.long q0)] 2) (Q15 Z q0 h0 n0) ({ frames := 2, cells := 1, slots := 2, locals := 27 } : Room).cells ({ frames := 2, cells := 1, slots := 2, locals := 27 } : Room).slots
  refine OEnd.go (g' := (mkF m 0 #[.val (.long q0), .second] [])) (fun _ k => castTop (ef_15 m q0) k) ?_
  obtain ⟨T1, h1, X1, e1, E1, A1, D1, -, st1⟩ := newO X0 hx hZ hown (hw _ (List.mem_of_getElem? (i := 93) rfl)) (hw _ (List.mem_of_getElem? (i := 94) rfl)) (hw _ (List.mem_of_getElem? (i := 91) rfl)) e0 (g := (mkF m 0 #[.val (.long q0), .second] [])) rfl (hb hby d15_0) (by decide) (by decide)
  obtain ⟨b15_0, g1⟩ : ∃ z, z = h0.size := ⟨_, rfl⟩
  rw [← g1] at A1 D1 st1
  have gle_b15_0 : n0 ≤ b15_0 := Nat.le_trans Z0 (Nat.le_of_eq g1.symm)
  have sz_b15_0 : h0.size ≤ b15_0 := Nat.le_trans K0.1 (Nat.le_of_eq g1.symm)
  have Z1 : n0 ≤ h1.size := Nat.le_trans Z0 E1.1
  have K1 : Keep h0 h1 [] := K0.ext E1
  have fc2 : Fld Z h1 b15_0 "java/util/OptionalLong" "isPresent" "Z" (.int (0 : Int32)) := D1 (Or.inr (hw _ (List.mem_of_getElem? (i := 101) rfl))) (ty := .boolean) (by decide)
  have fc3 : Fld Z h1 b15_0 "java/util/OptionalLong" "value" "J" (.long (0 : Int64)) := D1 (Or.inr (hw _ (List.mem_of_getElem? (i := 103) rfl))) (ty := .long) (by decide)
  refine OEnd.go (g' := (mkF m 3 #[.val (.long q0), .second] [(.ref b15_0)])) st1 ?_
  refine OEnd.go (T' := T1) (g' := (mkF m 5 #[.val (.long q0), .second] [(.long q0), (.ref b15_0), (.ref b15_0)])) (fun t k => ?_) ?_
  · show Steps p.tables e below (T1.setTop (mkF m 3 #[.val (.long q0), .second] [(.ref b15_0)])) t
    refine XS.dup X1.here hx rfl (hb hby d15_3) rfl rfl ?_
    show Steps p.tables e below (T1.setTop (mkF m 4 #[.val (.long q0), .second] [(.ref b15_0), (.ref b15_0)])) t
    refine XS.lloadN X1.here hx rfl (hb hby d15_4) rfl ?_
    show Steps p.tables e below (T1.setTop (mkF m 5 #[.val (.long q0), .second] [(.long q0), (.ref b15_0), (.ref b15_0)])) t
    exact k
  obtain ⟨_, _, ⟨T4, L4, k4, n4⟩, -, X4, ⟨Lc4, hQ4, l4, y4, z4⟩, st4⟩ := X1.specialBack hx (y := (⟨"java/util/OptionalLong", "<init>", "(J)V"⟩ : MethodName)) rfl hown (mvT hZ (hw _ (List.mem_of_getElem? (i := 95) rfl))) (mvT hZ (hw _ (List.mem_of_getElem? (i := 96) rfl))) (mvT hZ (hw _ (List.mem_of_getElem? (i := 98) rfl))) (by decide) (backOf (W := 1) (rm16 l Z aZ hw [] b15_0 q0 h1 n0 Z1 fc2 fc3 A1 gle_b15_0) hZ (hw _ (List.mem_of_getElem? (i := 98) rfl)) (hw _ (List.mem_of_getElem? (i := 91) rfl)) (by decide) (by decide)) (g := (mkF m 5 #[.val (.long q0), .second] [(.long q0), (.ref b15_0), (.ref b15_0)])) rfl (by rw [hml]; rfl) (Steps.refl _) (a := b15_0) (argsL := [(.long q0)]) (rest := [(.ref b15_0)]) (lenOf pd__J_V rfl) rfl (by show 2 * 0 + _ ≤ _; exact Nat.le_of_eq rfl) (hb hby d15_5) (fun _ _ => ⟨rfl, e1, (by decide : 1 + 0 ≤ _), (by decide : 2 + 0 ≤ _)⟩)
  dsimp only [Pt.U, Pt.locs, Pt.cells, Pt.slots] at X4 l4 y4 z4 st4 hQ4
  subst l4 y4 z4
  obtain ⟨rfl, N4q, u4_0, u4_1, u4_2, u4_3⟩ := hQ4
  have N4 := Fr.app N0 N4q
  have Z4 : n0 ≤ T4.heap.size := Nat.le_trans Z1 u4_0.1
  have K4 : Keep h0 T4.heap [] := K1.trans u4_0 (allS (Or.inr sz_b15_0) all0)
  refine OEnd.go (g' := (mkF m 8 #[.val (.long q0), .second] [(.ref b15_0)])) (fun _ k => st4.trans k) ?_
  exact OEnd.ref X4 hx Bd.returns rfl hlk (hb hby d15_8) ⟨b15_0, rfl, gle_b15_0, sz_b15_0, N4, (own_at rfl (P := fun h => Keep h0 h []) K4), (own_at rfl (P := fun h => Exa Z h b15_0 "java/util/OptionalLong") u4_1), (own_at rfl (P := fun h => Fld Z h b15_0 "java/util/OptionalLong" "isPresent" "Z" (.int (1 : Int32))) u4_2), (own_at rfl (P := fun h => Fld Z h b15_0 "java/util/OptionalLong" "value" "J" (.long q0)) u4_3)⟩ (by decide) (by decide)
theorem d14_0 : decode prog_39_method_3_code 0 = .ok (.aload_n 0, 1) := by decide +kernel
theorem d14_1 : decode prog_39_method_3_code 1 = .ok (.getfield 13, 3) := by decide +kernel
theorem d14_4 : decode prog_39_method_3_code 4 = .ok (.ifCond .eq 9, 3) := by decide +kernel
theorem d14_13 : decode prog_39_method_3_code 13 = .ok (.aload_n 0, 1) := by decide +kernel
theorem d14_14 : decode prog_39_method_3_code 14 = .ok (.getfield 23, 3) := by decide +kernel
theorem d14_17 : decode prog_39_method_3_code 17 = .ok (.invokestatic 26, 3) := by decide +kernel
theorem pd__J_Ljava_util_OptionalLong_ : parseMethodDescriptor "(J)Ljava/util/OptionalLong;" = some ⟨[.long], some (.object "java/util/OptionalLong")⟩ := by decide +kernel
theorem d14_20 : decode prog_39_method_3_code 20 = .ok (.areturn, 1) := by decide +kernel
theorem ef_14 (m : MethodId) (x0 : Addr) : entryFrame m #[(.ref x0)] 1 = mkF m 0 #[.val (.ref x0)] [] := by first | (simp [entryFrame, mkF, argsToLocals, Value.category]; done) | rfl
def Q14 (Z : State) (a0 : Addr) (n2 : Int64) (h0 : Heap) (n0 : Nat) (v : Option Value) (h : Heap) (L : List Loc) : Prop := ∃ r : Addr, v = some (.ref r) ∧ n0 ≤ r ∧ h0.size ≤ r ∧ Fr n0 L ∧ Keep h0 h [] ∧ Exa Z h r "java/util/OptionalLong" ∧ Fld Z h r "java/util/OptionalLong" "isPresent" "Z" (.int (1 : Int32)) ∧ Fld Z h r "java/util/OptionalLong" "value" "J" (.long n2)
set_option maxRecDepth 65536 in
set_option maxHeartbeats 40000000 in
theorem rm14 (l : Launch) (Z : State) (aZ : Array Value) (hw : ∀ d ∈ tables_1, d.before aZ Z = true) (ws : List Jvm.Cond) (a0 : Addr) (n2 : Int64) (h0 : Heap) (n0 : Nat) (Z0 : n0 ≤ h0.size) (P0 : Fld Z h0 a0 "com/example/wedgetree/wedgetree/core/QueryCounts" "wrongNodes" "J" (.long n2)) (P1 : Fld Z h0 a0 "com/example/wedgetree/wedgetree/core/QueryCounts" "wrongNodesUnknown" "Z" (.int (0 : Int32))) :
    MetFree l (⟨"com/example/wedgetree/wedgetree/core/QueryCounts", "wrongNodes", "()Ljava/util/OptionalLong;"⟩ : MethodName) (head1 (Jvm.Cond.code (⟨"com/example/wedgetree/wedgetree/core/QueryCounts", "wrongNodes", "()Ljava/util/OptionalLong;"⟩ : MethodName) prog_39_method_3_code 1 (some (.object "java/util/OptionalLong")) :: ws) ({ frames := 3, cells := 1, slots := 2, locals := 40 } : Room)) (fun a U => a = #[(.ref a0)] ∧ Z.Warmed39 U.vm ∧ U.heap = h0) (fun _ _ _ _ _ => True) (fun _ U o U' => ∃ v L, o = .returned v ∧ Q14 Z a0 n2 h0 n0 v U'.heap L ∧ FrameEnd U o U' L ({ frames := 3, cells := 1, slots := 2, locals := 40 } : Room).cells ({ frames := 3, cells := 1, slots := 2, locals := 40 } : Room).slots) := by
  refine MetFree.of_bodySF (plainFor_of_name pn_com_example_wedgetree_wedgetree_core_QueryCounts) hisR ?_
  intro p e s m args below meth c s₁ Bd hml0 hP hK
  obtain ⟨rfl, hZ, hh⟩ := hP
  have hx := Bd.exec
  have hby := Bd.bytes
  have hlk : meth.locks = false := BodyLoose.notSynchronized Bd
  have hml : c.maxLocals = 1 := hml0
  have hown : s.vm.findClass "com/example/wedgetree/wedgetree/core/QueryCounts" = some m.cls := findClass_of_methodNamed Bd.named
  have hnm := (name_of_methodNamed Bd.named Bd.method).1
  have X0 : Stand p l e ({ frames := 3, cells := 1, slots := 2, locals := 40 } : Room) s m #[(.ref a0)] below meth c s₁ [] 0 0 := Stand.of_body Bd
  have e0 : s₁.heap = h0 := by rw [← hh, Bd.state]; rfl
  have N0 := Fr.nil n0
  have K0 : Keep h0 h0 [] := Keep.refl _ _
  show OEnd p e below s s₁ (entryFrame m #[(.ref a0)] 1) (Q14 Z a0 n2 h0 n0) ({ frames := 3, cells := 1, slots := 2, locals := 40 } : Room).cells ({ frames := 3, cells := 1, slots := 2, locals := 40 } : Room).slots
  refine OEnd.go (g' := (mkF m 0 #[.val (.ref a0)] [])) (fun _ k => castTop (ef_14 m a0) k) ?_
  refine OEnd.go (T' := s₁) (g' := (mkF m 1 #[.val (.ref a0)] [(.ref a0)])) (fun t k => ?_) ?_
  · show Steps p.tables e below (s₁.setTop (mkF m 0 #[.val (.ref a0)] [])) t
    refine XS.aloadN X0.here hx rfl (hb hby d14_0) rfl rfl ?_
    show Steps p.tables e below (s₁.setTop (mkF m 1 #[.val (.ref a0)] [(.ref a0)])) t
    exact k
  obtain ⟨T1, X1, e1, st1⟩ := getF X0 hx hZ hown (host := "") (Or.inl (hw _ (List.mem_of_getElem? (i := 87) rfl))) Via.refl e0 P1 (g := (mkF m 1 #[.val (.ref a0)] [(.ref a0)])) rfl rfl (hb hby d14_1)
  refine OEnd.go (g' := (mkF m 4 #[.val (.ref a0)] [(.int (0 : Int32))])) st1 ?_
  refine OEnd.go (T' := T1) (g' := (mkF m 14 #[.val (.ref a0)] [(.ref a0)])) (fun t k => ?_) ?_
  · show Steps p.tables e below (T1.setTop (mkF m 4 #[.val (.ref a0)] [(.int (0 : Int32))])) t
    refine XS.ifYes X1.here hx rfl (pc0 := 4) (pc' := 13) rfl (hb hby d14_4) rfl ((if0 _ _).trans (teq ((by decide))).1) (by decide) (by decide) ?_
    show Steps p.tables e below (T1.setTop (mkF m 13 #[.val (.ref a0)] [])) t
    refine XS.aloadN X1.here hx rfl (hb hby d14_13) rfl rfl ?_
    show Steps p.tables e below (T1.setTop (mkF m 14 #[.val (.ref a0)] [(.ref a0)])) t
    exact k
  obtain ⟨T2, X2, e2, st2⟩ := getF X1 hx hZ hown (host := "") (Or.inl (hw _ (List.mem_of_getElem? (i := 80) rfl))) Via.refl e1 P0 (g := (mkF m 14 #[.val (.ref a0)] [(.ref a0)])) rfl rfl (hb hby d14_14)
  refine OEnd.go (g' := (mkF m 17 #[.val (.ref a0)] [(.long n2)])) st2 ?_
  obtain ⟨_, _, ⟨T3, L3, k3, n3⟩, -, X3, ⟨Lc3, hQ3, l3, y3, z3⟩, st3⟩ := Jvm.LawKit.callS X2 hx (y := (⟨"java/util/OptionalLong", "of", "(J)Ljava/util/OptionalLong;"⟩ : MethodName)) hown (mvT hZ (hw _ (List.mem_of_getElem? (i := 89) rfl))) (mvT hZ (hw _ (List.mem_of_getElem? (i := 90) rfl))) (mvT hZ (hw _ (List.mem_of_getElem? (i := 91) rfl))) (mvT hZ (hw _ (List.mem_of_getElem? (i := 92) rfl))) (by decide) (backOf (W := 0) (rm15 l Z aZ hw [] n2 h0 n0 Z0 ) hZ (hw _ (List.mem_of_getElem? (i := 92) rfl)) (hw _ (List.mem_of_getElem? (i := 91) rfl)) (by decide) (by decide)) (g := (mkF m 17 #[.val (.ref a0)] [(.long n2)])) rfl (by rw [hml]; rfl) (argsL := [(.long n2)]) (rest := []) (lenOf pd__J_Ljava_util_OptionalLong_ rfl) rfl (by show 2 * 0 + _ ≤ _; exact Nat.le_of_eq rfl) (hb hby d14_17) (fun _ _ => ⟨rfl, e2, (by decide : 0 + 1 ≤ _), (by decide : 0 + 2 ≤ _)⟩)
  dsimp only [Pt.U, Pt.locs, Pt.cells, Pt.slots] at X3 l3 y3 z3 st3 hQ3
  subst l3 y3 z3
  obtain ⟨r14_17, rfl, gle_r14_17, sz_r14_17', N3q, u3_0, u3_1, u3_2, u3_3⟩ := hQ3
  have ne_a0_r14_17 : a0 ≠ r14_17 := Nat.ne_of_lt (Nat.lt_of_lt_of_le P0.lt sz_r14_17')
  have sz_r14_17 : h0.size ≤ r14_17 := Nat.le_trans K0.1 sz_r14_17'
  have N3 := Fr.app N0 N3q
  have Z3 : n0 ≤ T3.heap.size := Nat.le_trans Z0 u3_0.1
  have K3 : Keep h0 T3.heap [] := K0.trans u3_0 all0
  have fc4 : Fld Z T3.heap a0 "com/example/wedgetree/wedgetree/core/QueryCounts" "wrongNodes" "J" (.long n2) := (P0.keep u3_0 nin0)
  have fc5 : Fld Z T3.heap a0 "com/example/wedgetree/wedgetree/core/QueryCounts" "wrongNodesUnknown" "Z" (.int (0 : Int32)) := (P1.keep u3_0 nin0)
  refine OEnd.go (g' := (mkF m 20 #[.val (.ref a0)] [(.ref r14_17)])) st3 ?_
  exact OEnd.ref X3 hx Bd.returns rfl hlk (hb hby d14_20) ⟨r14_17, rfl, gle_r14_17, sz_r14_17, N3, (own_at rfl (P := fun h => Keep h0 h []) K3), (own_at rfl (P := fun h => Exa Z h r14_17 "java/util/OptionalLong") u3_1), (own_at rfl (P := fun h => Fld Z h r14_17 "java/util/OptionalLong" "isPresent" "Z" (.int (1 : Int32))) u3_2), (own_at rfl (P := fun h => Fld Z h r14_17 "java/util/OptionalLong" "value" "J" (.long n2)) u3_3)⟩ (by decide) (by decide)
theorem d17_0 : decode prog_39_method_2_code 0 = .ok (.aload_n 0, 1) := by decide +kernel
theorem d17_1 : decode prog_39_method_2_code 1 = .ok (.getfield 7, 3) := by decide +kernel
theorem d17_4 : decode prog_39_method_2_code 4 = .ok (.lreturn, 1) := by decide +kernel
def f17 (n1 : Int64) : Int64 := n1
theorem ef_17 (m : MethodId) (x0 : Addr) : entryFrame m #[(.ref x0)] 1 = mkF m 0 #[.val (.ref x0)] [] := by first | (simp [entryFrame, mkF, argsToLocals, Value.category]; done) | rfl
def Q17 (Z : State) (a0 : Addr) (n1 : Int64) (h0 : Heap) (n0 : Nat) (v : Option Value) (h : Heap) (L : List Loc) : Prop := v = some (.long (f17 n1)) ∧ Fr n0 L ∧ h = h0
set_option maxRecDepth 65536 in
set_option maxHeartbeats 40000000 in
theorem rm17 (l : Launch) (Z : State) (aZ : Array Value) (hw : ∀ d ∈ tables_1, d.before aZ Z = true) (ws : List Jvm.Cond) (a0 : Addr) (n1 : Int64) (h0 : Heap) (n0 : Nat) (Z0 : n0 ≤ h0.size) (P0 : Fld Z h0 a0 "com/example/wedgetree/wedgetree/core/QueryCounts" "nodesOpened" "J" (.long n1)) :
    MetFree l (⟨"com/example/wedgetree/wedgetree/core/QueryCounts", "nodesOpened", "()J"⟩ : MethodName) (head1 (Jvm.Cond.code (⟨"com/example/wedgetree/wedgetree/core/QueryCounts", "nodesOpened", "()J"⟩ : MethodName) prog_39_method_2_code 1 (some .long) :: ws) ({ frames := 0, cells := 0, slots := 0, locals := 0 } : Room)) (fun a U => a = #[(.ref a0)] ∧ Z.Warmed39 U.vm ∧ U.heap = h0) (fun _ _ _ _ _ => True) (fun _ U o U' => ∃ v L, o = .returned v ∧ Q17 Z a0 n1 h0 n0 v U'.heap L ∧ FrameEnd U o U' L ({ frames := 0, cells := 0, slots := 0, locals := 0 } : Room).cells ({ frames := 0, cells := 0, slots := 0, locals := 0 } : Room).slots) := by
  refine MetFree.of_bodySF (plainFor_of_name pn_com_example_wedgetree_wedgetree_core_QueryCounts) hisR ?_
  intro p e s m args below meth c s₁ Bd hml0 hP hK
  obtain ⟨rfl, hZ, hh⟩ := hP
  have hx := Bd.exec
  have hby := Bd.bytes
  have hlk : meth.locks = false := BodyLoose.notSynchronized Bd
  have hml : c.maxLocals = 1 := hml0
  have hown : s.vm.findClass "com/example/wedgetree/wedgetree/core/QueryCounts" = some m.cls := findClass_of_methodNamed Bd.named
  have hnm := (name_of_methodNamed Bd.named Bd.method).1
  have X0 : Stand p l e ({ frames := 0, cells := 0, slots := 0, locals := 0 } : Room) s m #[(.ref a0)] below meth c s₁ [] 0 0 := Stand.of_body Bd
  have e0 : s₁.heap = h0 := by rw [← hh, Bd.state]; rfl
  have N0 := Fr.nil n0
  show OEnd p e below s s₁ (entryFrame m #[(.ref a0)] 1) (Q17 Z a0 n1 h0 n0) ({ frames := 0, cells := 0, slots := 0, locals := 0 } : Room).cells ({ frames := 0, cells := 0, slots := 0, locals := 0 } : Room).slots
  refine OEnd.go (g' := (mkF m 0 #[.val (.ref a0)] [])) (fun _ k => castTop (ef_17 m a0) k) ?_
  refine OEnd.go (T' := s₁) (g' := (mkF m 1 #[.val (.ref a0)] [(.ref a0)])) (fun t k => ?_) ?_
  · show Steps p.tables e below (s₁.setTop (mkF m 0 #[.val (.ref a0)] [])) t
    refine XS.aloadN X0.here hx rfl (hb hby d17_0) rfl rfl ?_
    show Steps p.tables e below (s₁.setTop (mkF m 1 #[.val (.ref a0)] [(.ref a0)])) t
    exact k
  obtain ⟨T1, X1, e1, st1⟩ := getF X0 hx hZ hown (host := "") (Or.inl (hw _ (List.mem_of_getElem? (i := 71) rfl))) Via.refl e0 P0 (g := (mkF m 1 #[.val (.ref a0)] [(.ref a0)])) rfl rfl (hb hby d17_1)
  refine OEnd.go (g' := (mkF m 4 #[.val (.ref a0)] [(.long n1)])) st1 ?_
  exact OEnd.long X1 hx Bd.returns hlk (hb hby d17_4) ⟨rfl, N0, e1⟩ (by decide) (by decide)
theorem d18_0 : decode jdk_2650_method_6_code 0 = .ok (.aload_n 0, 1) := by decide +kernel
theorem d18_1 : decode jdk_2650_method_6_code 1 = .ok (.getfield 7, 3) := by decide +kernel
theorem d18_4 : decode jdk_2650_method_6_code 4 = .ok (.ireturn, 1) := by decide +kernel
def f18  : Int32 := nar .boolean (1 : Int32)
theorem ef_18 (m : MethodId) (x0 : Addr) : entryFrame m #[(.ref x0)] 1 = mkF m 0 #[.val (.ref x0)] [] := by first | (simp [entryFrame, mkF, argsToLocals, Value.category]; done) | rfl
def Q18 (Z : State) (a0 : Addr) (h0 : Heap) (n0 : Nat) (v : Option Value) (h : Heap) (L : List Loc) : Prop := v = some (.int f18) ∧ Fr n0 L ∧ h = h0
set_option maxRecDepth 65536 in
set_option maxHeartbeats 40000000 in
theorem rm18 (l : Launch) (Z : State) (aZ : Array Value) (hw : ∀ d ∈ tables_1, d.before aZ Z = true) (ws : List Jvm.Cond) (a0 : Addr) (h0 : Heap) (n0 : Nat) (Z0 : n0 ≤ h0.size) (P0 : Fld Z h0 a0 "java/util/OptionalLong" "isPresent" "Z" (.int (1 : Int32))) :
    MetFree l (⟨"java/util/OptionalLong", "isPresent", "()Z"⟩ : MethodName) (head1 (Jvm.Cond.code (⟨"java/util/OptionalLong", "isPresent", "()Z"⟩ : MethodName) jdk_2650_method_6_code 1 (some .boolean) :: ws) ({ frames := 0, cells := 0, slots := 0, locals := 0 } : Room)) (fun a U => a = #[(.ref a0)] ∧ Z.Warmed39 U.vm ∧ U.heap = h0) (fun _ _ _ _ _ => True) (fun _ U o U' => ∃ v L, o = .returned v ∧ Q18 Z a0 h0 n0 v U'.heap L ∧ FrameEnd U o U' L ({ frames := 0, cells := 0, slots := 0, locals := 0 } : Room).cells ({ frames := 0, cells := 0, slots := 0, locals := 0 } : Room).slots) := by
  refine MetFree.of_bodySF (plainFor_of_name pn_java_util_OptionalLong) hisR ?_
  intro p e s m args below meth c s₁ Bd hml0 hP hK
  obtain ⟨rfl, hZ, hh⟩ := hP
  have hx := Bd.exec
  have hby := Bd.bytes
  have hlk : meth.locks = false := BodyLoose.notSynchronized Bd
  have hml : c.maxLocals = 1 := hml0
  have hown : s.vm.findClass "java/util/OptionalLong" = some m.cls := findClass_of_methodNamed Bd.named
  have hnm := (name_of_methodNamed Bd.named Bd.method).1
  have X0 : Stand p l e ({ frames := 0, cells := 0, slots := 0, locals := 0 } : Room) s m #[(.ref a0)] below meth c s₁ [] 0 0 := Stand.of_body Bd
  have e0 : s₁.heap = h0 := by rw [← hh, Bd.state]; rfl
  have N0 := Fr.nil n0
  show OEnd p e below s s₁ (entryFrame m #[(.ref a0)] 1) (Q18 Z a0 h0 n0) ({ frames := 0, cells := 0, slots := 0, locals := 0 } : Room).cells ({ frames := 0, cells := 0, slots := 0, locals := 0 } : Room).slots
  refine OEnd.go (g' := (mkF m 0 #[.val (.ref a0)] [])) (fun _ k => castTop (ef_18 m a0) k) ?_
  refine OEnd.go (T' := s₁) (g' := (mkF m 1 #[.val (.ref a0)] [(.ref a0)])) (fun t k => ?_) ?_
  · show Steps p.tables e below (s₁.setTop (mkF m 0 #[.val (.ref a0)] [])) t
    refine XS.aloadN X0.here hx rfl (hb hby d18_0) rfl rfl ?_
    show Steps p.tables e below (s₁.setTop (mkF m 1 #[.val (.ref a0)] [(.ref a0)])) t
    exact k
  obtain ⟨T1, X1, e1, st1⟩ := getF X0 hx hZ hown (host := "") (Or.inl (hw _ (List.mem_of_getElem? (i := 100) rfl))) Via.refl e0 P0 (g := (mkF m 1 #[.val (.ref a0)] [(.ref a0)])) rfl rfl (hb hby d18_1)
  refine OEnd.go (g' := (mkF m 4 #[.val (.ref a0)] [(.int (1 : Int32))])) st1 ?_
  exact OEnd.nar X1 hx (t := .boolean) Bd.returns (by simp) hlk (hb hby d18_4) ⟨rfl, N0, e1⟩ (by decide) (by decide)
theorem d19_0 : decode jdk_2650_method_5_code 0 = .ok (.aload_n 0, 1) := by decide +kernel
theorem d19_1 : decode jdk_2650_method_5_code 1 = .ok (.getfield 7, 3) := by decide +kernel
theorem d19_4 : decode jdk_2650_method_5_code 4 = .ok (.ifCond .ne 13, 3) := by decide +kernel
theorem d19_17 : decode jdk_2650_method_5_code 17 = .ok (.aload_n 0, 1) := by decide +kernel
theorem d19_18 : decode jdk_2650_method_5_code 18 = .ok (.getfield 13, 3) := by decide +kernel
theorem d19_21 : decode jdk_2650_method_5_code 21 = .ok (.lreturn, 1) := by decide +kernel
def f19 (n1 : Int64) : Int64 := n1
theorem ef_19 (m : MethodId) (x0 : Addr) : entryFrame m #[(.ref x0)] 1 = mkF m 0 #[.val (.ref x0)] [] := by first | (simp [entryFrame, mkF, argsToLocals, Value.category]; done) | rfl
def Q19 (Z : State) (a0 : Addr) (n1 : Int64) (h0 : Heap) (n0 : Nat) (v : Option Value) (h : Heap) (L : List Loc) : Prop := v = some (.long (f19 n1)) ∧ Fr n0 L ∧ h = h0
set_option maxRecDepth 65536 in
set_option maxHeartbeats 40000000 in
theorem rm19 (l : Launch) (Z : State) (aZ : Array Value) (hw : ∀ d ∈ tables_1, d.before aZ Z = true) (ws : List Jvm.Cond) (a0 : Addr) (n1 : Int64) (h0 : Heap) (n0 : Nat) (Z0 : n0 ≤ h0.size) (P0 : Fld Z h0 a0 "java/util/OptionalLong" "isPresent" "Z" (.int (1 : Int32))) (P1 : Fld Z h0 a0 "java/util/OptionalLong" "value" "J" (.long n1)) :
    MetFree l (⟨"java/util/OptionalLong", "getAsLong", "()J"⟩ : MethodName) (head1 (Jvm.Cond.code (⟨"java/util/OptionalLong", "getAsLong", "()J"⟩ : MethodName) jdk_2650_method_5_code 1 (some .long) :: ws) ({ frames := 0, cells := 0, slots := 0, locals := 0 } : Room)) (fun a U => a = #[(.ref a0)] ∧ Z.Warmed39 U.vm ∧ U.heap = h0) (fun _ _ _ _ _ => True) (fun _ U o U' => ∃ v L, o = .returned v ∧ Q19 Z a0 n1 h0 n0 v U'.heap L ∧ FrameEnd U o U' L ({ frames := 0, cells := 0, slots := 0, locals := 0 } : Room).cells ({ frames := 0, cells := 0, slots := 0, locals := 0 } : Room).slots) := by
  refine MetFree.of_bodySF (plainFor_of_name pn_java_util_OptionalLong) hisR ?_
  intro p e s m args below meth c s₁ Bd hml0 hP hK
  obtain ⟨rfl, hZ, hh⟩ := hP
  have hx := Bd.exec
  have hby := Bd.bytes
  have hlk : meth.locks = false := BodyLoose.notSynchronized Bd
  have hml : c.maxLocals = 1 := hml0
  have hown : s.vm.findClass "java/util/OptionalLong" = some m.cls := findClass_of_methodNamed Bd.named
  have hnm := (name_of_methodNamed Bd.named Bd.method).1
  have X0 : Stand p l e ({ frames := 0, cells := 0, slots := 0, locals := 0 } : Room) s m #[(.ref a0)] below meth c s₁ [] 0 0 := Stand.of_body Bd
  have e0 : s₁.heap = h0 := by rw [← hh, Bd.state]; rfl
  have N0 := Fr.nil n0
  show OEnd p e below s s₁ (entryFrame m #[(.ref a0)] 1) (Q19 Z a0 n1 h0 n0) ({ frames := 0, cells := 0, slots := 0, locals := 0 } : Room).cells ({ frames := 0, cells := 0, slots := 0, locals := 0 } : Room).slots
  refine OEnd.go (g' := (mkF m 0 #[.val (.ref a0)] [])) (fun _ k => castTop (ef_19 m a0) k) ?_
  refine OEnd.go (T' := s₁) (g' := (mkF m 1 #[.val (.ref a0)] [(.ref a0)])) (fun t k => ?_) ?_
  · show Steps p.tables e below (s₁.setTop (mkF m 0 #[.val (.ref a0)] [])) t
    refine XS.aloadN X0.here hx rfl (hb hby d19_0) rfl rfl ?_
    show Steps p.tables e below (s₁.setTop (mkF m 1 #[.val (.ref a0)] [(.ref a0)])) t
    exact k
  obtain ⟨T1, X1, e1, st1⟩ := getF X0 hx hZ hown (host := "") (Or.inl (hw _ (List.mem_of_getElem? (i := 100) rfl))) Via.refl e0 P0 (g := (mkF m 1 #[.val (.ref a0)] [(.ref a0)])) rfl rfl (hb hby d19_1)
  refine OEnd.go (g' := (mkF m 4 #[.val (.ref a0)] [(.int (1 : Int32))])) st1 ?_
  refine OEnd.go (T' := T1) (g' := (mkF m 18 #[.val (.ref a0)] [(.ref a0)])) (fun t k => ?_) ?_
  · show Steps p.tables e below (T1.setTop (mkF m 4 #[.val (.ref a0)] [(.int (1 : Int32))])) t
    refine XS.ifYes X1.here hx rfl (pc0 := 4) (pc' := 17) rfl (hb hby d19_4) rfl ((if0 _ _).trans (feq ((by decide))).2) (by decide) (by decide) ?_
    show Steps p.tables e below (T1.setTop (mkF m 17 #[.val (.ref a0)] [])) t
    refine XS.aloadN X1.here hx rfl (hb hby d19_17) rfl rfl ?_
    show Steps p.tables e below (T1.setTop (mkF m 18 #[.val (.ref a0)] [(.ref a0)])) t
    exact k
  obtain ⟨T2, X2, e2, st2⟩ := getF X1 hx hZ hown (host := "") (Or.inl (hw _ (List.mem_of_getElem? (i := 102) rfl))) Via.refl e1 P1 (g := (mkF m 18 #[.val (.ref a0)] [(.ref a0)])) rfl rfl (hb hby d19_18)
  refine OEnd.go (g' := (mkF m 21 #[.val (.ref a0)] [(.long n1)])) st2 ?_
  exact OEnd.long X2 hx Bd.returns hlk (hb hby d19_21) ⟨rfl, N0, e2⟩ (by decide) (by decide)
theorem pd___V : parseMethodDescriptor "()V" = some ⟨[], none⟩ := by decide +kernel
theorem pd__I_V : parseMethodDescriptor "(I)V" = some ⟨[.int], none⟩ := by decide +kernel
theorem pd__Lcom_example_wedgetree_wedgetree_core_QueryCounts__V : parseMethodDescriptor "(Lcom/example/wedgetree/wedgetree/core/QueryCounts;)V" = some ⟨[(.object "com/example/wedgetree/wedgetree/core/QueryCounts")], none⟩ := by decide +kernel
theorem pd___Ljava_util_OptionalLong_ : parseMethodDescriptor "()Ljava/util/OptionalLong;" = some ⟨[], some (.object "java/util/OptionalLong")⟩ := by decide +kernel
theorem pd___J : parseMethodDescriptor "()J" = some ⟨[], some .long⟩ := by decide +kernel
theorem pd___Z : parseMethodDescriptor "()Z" = some ⟨[], some .boolean⟩ := by decide +kernel
def v0_11 (p0 : Int32) : Int32 := (if (p0 &&& (1 : Int32)) = (0 : Int32) then (0 : Int32) else (1 : Int32))
def v0_23 (p0 : Int32) : Int32 := (if (p0 &&& (2 : Int32)) = (0 : Int32) then (0 : Int32) else (1 : Int32))
def v0_35 (p0 : Int32) : Int32 := (if (p0 &&& (4 : Int32)) = (0 : Int32) then (0 : Int32) else (1 : Int32))
def v0_48 (p0 : Int32) : Int32 := (if (p0 &&& (8 : Int32)) = (0 : Int32) then (0 : Int32) else (1 : Int32))
def v0_62 (p0 : Int32) : Int32 := (if (p0 &&& (16 : Int32)) = (0 : Int32) then (0 : Int32) else (1 : Int32))
def v0_113_holding (p0 : Int32) : Int64 := (if (v0_23 p0) = (0 : Int32) then (0 : Int64) else (if (0 : Int32) = (0 : Int32) then ((0 : Int64) + (1 : Int64)) else (0 : Int64)))
def v0_113_r0_951_1 (p0 : Int32) : Int32 := (if (v0_23 p0) = (0 : Int32) then (0 : Int32) else (if (0 : Int32) = (0 : Int32) then (1 : Int32) else (0 : Int32)))
def v0_133_opened (p0 : Int32) : Int64 := (((0 : Int64) + (1 : Int64)) + (1 : Int64))
def v0_133_holding (p0 : Int32) : Int64 := (if (v0_35 p0) = (0 : Int32) then (v0_113_holding p0) else (if (0 : Int32) = (0 : Int32) then (if (v0_113_r0_951_1 p0) = (0 : Int32) then (((v0_113_holding p0) + (1 : Int64)) + (1 : Int64)) else ((v0_113_holding p0) + (1 : Int64))) else (v0_113_holding p0)))
def v0_133_r0_1151_1 (p0 : Int32) : Int32 := (if (v0_35 p0) = (0 : Int32) then (v0_113_r0_951_1 p0) else (if (0 : Int32) = (0 : Int32) then (if (v0_113_r0_951_1 p0) = (0 : Int32) then (1 : Int32) else (v0_113_r0_951_1 p0)) else (v0_113_r0_951_1 p0)))
def v0_133_r0_1151_2 (p0 : Int32) : Int32 := (if (v0_35 p0) = (0 : Int32) then (0 : Int32) else (if (0 : Int32) = (0 : Int32) then (1 : Int32) else (0 : Int32)))
def v0_148_opened (p0 : Int32) : Int64 := ((v0_133_opened p0) + (1 : Int64))
def v0_148_holding (p0 : Int32) : Int64 := (if (v0_48 p0) = (0 : Int32) then (v0_133_holding p0) else (if (0 : Int32) = (0 : Int32) then (if (v0_133_r0_1151_2 p0) = (0 : Int32) then (if (v0_133_r0_1151_1 p0) = (0 : Int32) then ((((v0_133_holding p0) + (1 : Int64)) + (1 : Int64)) + (1 : Int64)) else (((v0_133_holding p0) + (1 : Int64)) + (1 : Int64))) else ((v0_133_holding p0) + (1 : Int64))) else (v0_133_holding p0)))
def v0_148_r0_1151_1 (p0 : Int32) : Int32 := (if (v0_48 p0) = (0 : Int32) then (v0_133_r0_1151_1 p0) else (if (0 : Int32) = (0 : Int32) then (if (v0_133_r0_1151_2 p0) = (0 : Int32) then (if (v0_133_r0_1151_1 p0) = (0 : Int32) then (1 : Int32) else (v0_133_r0_1151_1 p0)) else (v0_133_r0_1151_1 p0)) else (v0_133_r0_1151_1 p0)))
def v0_148_r0_1151_2 (p0 : Int32) : Int32 := (if (v0_48 p0) = (0 : Int32) then (v0_133_r0_1151_2 p0) else (if (0 : Int32) = (0 : Int32) then (if (v0_133_r0_1151_2 p0) = (0 : Int32) then (1 : Int32) else (v0_133_r0_1151_2 p0)) else (v0_133_r0_1151_2 p0)))
def v0_148_r0_1151_3 (p0 : Int32) : Int32 := (if (v0_48 p0) = (0 : Int32) then (0 : Int32) else (if (0 : Int32) = (0 : Int32) then (1 : Int32) else (0 : Int32)))
def v0_158_holding (p0 : Int32) : Int64 := (if (v0_62 p0) = (0 : Int32) then (v0_148_holding p0) else (if (v0_148_r0_1151_3 p0) = (0 : Int32) then (if (v0_148_r0_1151_2 p0) = (0 : Int32) then (if (v0_148_r0_1151_1 p0) = (0 : Int32) then ((((v0_148_holding p0) + (1 : Int64)) + (1 : Int64)) + (1 : Int64)) else (((v0_148_holding p0) + (1 : Int64)) + (1 : Int64))) else ((v0_148_holding p0) + (1 : Int64))) else (v0_148_holding p0)))
def v0_158_r0_1151_1 (p0 : Int32) : Int32 := (if (v0_62 p0) = (0 : Int32) then (v0_148_r0_1151_1 p0) else (if (v0_148_r0_1151_3 p0) = (0 : Int32) then (if (v0_148_r0_1151_2 p0) = (0 : Int32) then (if (v0_148_r0_1151_1 p0) = (0 : Int32) then (1 : Int32) else (v0_148_r0_1151_1 p0)) else (v0_148_r0_1151_1 p0)) else (v0_148_r0_1151_1 p0)))
def v0_158_r0_1151_2 (p0 : Int32) : Int32 := (if (v0_62 p0) = (0 : Int32) then (v0_148_r0_1151_2 p0) else (if (v0_148_r0_1151_3 p0) = (0 : Int32) then (if (v0_148_r0_1151_2 p0) = (0 : Int32) then (1 : Int32) else (v0_148_r0_1151_2 p0)) else (v0_148_r0_1151_2 p0)))
def v0_158_r0_1151_3 (p0 : Int32) : Int32 := (if (v0_62 p0) = (0 : Int32) then (v0_148_r0_1151_3 p0) else (if (v0_148_r0_1151_3 p0) = (0 : Int32) then (1 : Int32) else (v0_148_r0_1151_3 p0)))
def v0_189 (p0 : Int32) : Int32 := (if (v0_48 p0) = (0 : Int32) then (if (v0_62 p0) = (0 : Int32) then (0 : Int32) else (1 : Int32)) else (1 : Int32))
def v0_205 (p0 : Int32) : Int32 := (if (v0_189 p0) = (0 : Int32) then (if (v0_35 p0) = (0 : Int32) then (0 : Int32) else (1 : Int32)) else (1 : Int32))
def v0_221 (p0 : Int32) : Int32 := (if (v0_205 p0) = (0 : Int32) then (if (v0_23 p0) = (0 : Int32) then (0 : Int32) else (1 : Int32)) else (1 : Int32))
def v0_243_s0 (p0 : Int32) : Int64 := (if (v0_205 p0) = (0 : Int32) then (0 : Int64) else (1 : Int64))
def v0_243_s1 (p0 : Int32) : Int64 := (if (v0_221 p0) = (0 : Int32) then (0 : Int64) else (1 : Int64))
def v0_254_s0 (p0 : Int32) : Int64 := (if (v0_189 p0) = (0 : Int32) then (0 : Int64) else (1 : Int64))
def v0_255 (p0 : Int32) : Int64 := (((v0_243_s1 p0) + (v0_243_s0 p0)) + (v0_254_s0 p0))
def la0_0 (p0 : Int32) : Array Slot := #[.val (.int p0), .val (.int (v0_11 p0)), .val (.int (v0_23 p0)), .val (.int (v0_35 p0)), .unset, .unset, .unset, .unset, .unset, .unset, .unset, .unset, .unset, .unset]
def la0_1 (p0 : Int32) : Array Slot := #[.val (.int p0), .val (.int (v0_11 p0)), .val (.int (v0_23 p0)), .val (.int (v0_35 p0)), .val (.int (v0_48 p0)), .unset, .unset, .unset, .unset, .unset, .unset, .unset, .unset, .unset]
def la0_2 (p0 : Int32) : Array Slot := #[.val (.int p0), .val (.int (v0_11 p0)), .val (.int (v0_23 p0)), .val (.int (v0_35 p0)), .val (.int (v0_48 p0)), .val (.int (v0_62 p0)), .unset, .unset, .unset, .unset, .unset, .unset, .unset, .unset]
def la0_3 (p0 : Int32) (b0_64 : Addr) : Array Slot := #[.val (.int p0), .val (.int (v0_11 p0)), .val (.int (v0_23 p0)), .val (.int (v0_35 p0)), .val (.int (v0_48 p0)), .val (.int (v0_62 p0)), .val (.ref b0_64), .unset, .unset, .unset, .unset, .unset, .unset, .unset]
def la0_4 (p0 : Int32) (b0_158 : Addr) (b0_64 : Addr) : Array Slot := #[.val (.int p0), .val (.int (v0_11 p0)), .val (.int (v0_23 p0)), .val (.int (v0_35 p0)), .val (.int (v0_48 p0)), .val (.int (v0_62 p0)), .val (.ref b0_64), .val (.ref b0_158), .unset, .unset, .unset, .unset, .unset, .unset]
def la0_5 (p0 : Int32) (b0_158 : Addr) (b0_64 : Addr) : Array Slot := #[.val (.int p0), .val (.int (v0_11 p0)), .val (.int (v0_23 p0)), .val (.int (v0_35 p0)), .val (.int (v0_48 p0)), .val (.int (v0_62 p0)), .val (.ref b0_64), .val (.ref b0_158), .val (.int (v0_189 p0)), .unset, .unset, .unset, .unset, .unset]
def la0_6 (p0 : Int32) (b0_158 : Addr) (b0_64 : Addr) : Array Slot := #[.val (.int p0), .val (.int (v0_11 p0)), .val (.int (v0_23 p0)), .val (.int (v0_35 p0)), .val (.int (v0_48 p0)), .val (.int (v0_62 p0)), .val (.ref b0_64), .val (.ref b0_158), .val (.int (v0_189 p0)), .val (.int (v0_205 p0)), .unset, .unset, .unset, .unset]
def la0_7 (p0 : Int32) (b0_158 : Addr) (b0_64 : Addr) : Array Slot := #[.val (.int p0), .val (.int (v0_11 p0)), .val (.int (v0_23 p0)), .val (.int (v0_35 p0)), .val (.int (v0_48 p0)), .val (.int (v0_62 p0)), .val (.ref b0_64), .val (.ref b0_158), .val (.int (v0_189 p0)), .val (.int (v0_205 p0)), .val (.int (v0_221 p0)), .unset, .unset, .unset]
def la0_8 (p0 : Int32) (b0_158 : Addr) (b0_64 : Addr) : Array Slot := #[.val (.int p0), .val (.int (v0_11 p0)), .val (.int (v0_23 p0)), .val (.int (v0_35 p0)), .val (.int (v0_48 p0)), .val (.int (v0_62 p0)), .val (.ref b0_64), .val (.ref b0_158), .val (.int (v0_189 p0)), .val (.int (v0_205 p0)), .val (.int (v0_221 p0)), .val (.long (v0_255 p0)), .second, .unset]
def la0_9 (p0 : Int32) (b0_158 : Addr) (b0_64 : Addr) (r0_259 : Addr) : Array Slot := #[.val (.int p0), .val (.int (v0_11 p0)), .val (.int (v0_23 p0)), .val (.int (v0_35 p0)), .val (.int (v0_48 p0)), .val (.int (v0_62 p0)), .val (.ref b0_64), .val (.ref b0_158), .val (.int (v0_189 p0)), .val (.int (v0_205 p0)), .val (.int (v0_221 p0)), .val (.long (v0_255 p0)), .second, .val (.ref r0_259)]
def f0 (p0 : Int32) : Int32 := (if (f17 ((0 : Int64) + ((1 : Int64) + (v0_148_opened p0)))) = (4 : Int64) then (if f18 = (0 : Int32) then (0 : Int32) else (if (f19 ((0 : Int64) + ((v0_148_opened p0) - (v0_158_holding p0)))) = ((3 : Int64) - (v0_255 p0)) then (1 : Int32) else (0 : Int32))) else (0 : Int32))
def g_v0_113_holding (x y z w : Int32) : Int64 := (if x = (0 : Int32) then (0 : Int64) else (if (0 : Int32) = (0 : Int32) then ((0 : Int64) + (1 : Int64)) else (0 : Int64)))
theorem eg_v0_113_holding (a : Int32) : v0_113_holding a = g_v0_113_holding (v0_23 a) (v0_35 a) (v0_48 a) (v0_62 a) := by
  unfold v0_113_holding g_v0_113_holding
  rfl
def g_v0_113_r0_951_1 (x y z w : Int32) : Int32 := (if x = (0 : Int32) then (0 : Int32) else (if (0 : Int32) = (0 : Int32) then (1 : Int32) else (0 : Int32)))
theorem eg_v0_113_r0_951_1 (a : Int32) : v0_113_r0_951_1 a = g_v0_113_r0_951_1 (v0_23 a) (v0_35 a) (v0_48 a) (v0_62 a) := by
  unfold v0_113_r0_951_1 g_v0_113_r0_951_1
  rfl
def g_v0_133_opened (x y z w : Int32) : Int64 := (((0 : Int64) + (1 : Int64)) + (1 : Int64))
theorem eg_v0_133_opened (a : Int32) : v0_133_opened a = g_v0_133_opened (v0_23 a) (v0_35 a) (v0_48 a) (v0_62 a) := by
  unfold v0_133_opened g_v0_133_opened
  rfl
def g_v0_133_holding (x y z w : Int32) : Int64 := (if y = (0 : Int32) then (g_v0_113_holding x y z w) else (if (0 : Int32) = (0 : Int32) then (if (g_v0_113_r0_951_1 x y z w) = (0 : Int32) then (((g_v0_113_holding x y z w) + (1 : Int64)) + (1 : Int64)) else ((g_v0_113_holding x y z w) + (1 : Int64))) else (g_v0_113_holding x y z w)))
theorem eg_v0_133_holding (a : Int32) : v0_133_holding a = g_v0_133_holding (v0_23 a) (v0_35 a) (v0_48 a) (v0_62 a) := by
  unfold v0_133_holding g_v0_133_holding
  rw [eg_v0_113_holding, eg_v0_113_r0_951_1]
def g_v0_133_r0_1151_1 (x y z w : Int32) : Int32 := (if y = (0 : Int32) then (g_v0_113_r0_951_1 x y z w) else (if (0 : Int32) = (0 : Int32) then (if (g_v0_113_r0_951_1 x y z w) = (0 : Int32) then (1 : Int32) else (g_v0_113_r0_951_1 x y z w)) else (g_v0_113_r0_951_1 x y z w)))
theorem eg_v0_133_r0_1151_1 (a : Int32) : v0_133_r0_1151_1 a = g_v0_133_r0_1151_1 (v0_23 a) (v0_35 a) (v0_48 a) (v0_62 a) := by
  unfold v0_133_r0_1151_1 g_v0_133_r0_1151_1
  rw [eg_v0_113_r0_951_1]
def g_v0_133_r0_1151_2 (x y z w : Int32) : Int32 := (if y = (0 : Int32) then (0 : Int32) else (if (0 : Int32) = (0 : Int32) then (1 : Int32) else (0 : Int32)))
theorem eg_v0_133_r0_1151_2 (a : Int32) : v0_133_r0_1151_2 a = g_v0_133_r0_1151_2 (v0_23 a) (v0_35 a) (v0_48 a) (v0_62 a) := by
  unfold v0_133_r0_1151_2 g_v0_133_r0_1151_2
  rfl
def g_v0_148_opened (x y z w : Int32) : Int64 := ((g_v0_133_opened x y z w) + (1 : Int64))
theorem eg_v0_148_opened (a : Int32) : v0_148_opened a = g_v0_148_opened (v0_23 a) (v0_35 a) (v0_48 a) (v0_62 a) := by
  unfold v0_148_opened g_v0_148_opened
  rw [eg_v0_133_opened]
def g_v0_148_holding (x y z w : Int32) : Int64 := (if z = (0 : Int32) then (g_v0_133_holding x y z w) else (if (0 : Int32) = (0 : Int32) then (if (g_v0_133_r0_1151_2 x y z w) = (0 : Int32) then (if (g_v0_133_r0_1151_1 x y z w) = (0 : Int32) then ((((g_v0_133_holding x y z w) + (1 : Int64)) + (1 : Int64)) + (1 : Int64)) else (((g_v0_133_holding x y z w) + (1 : Int64)) + (1 : Int64))) else ((g_v0_133_holding x y z w) + (1 : Int64))) else (g_v0_133_holding x y z w)))
theorem eg_v0_148_holding (a : Int32) : v0_148_holding a = g_v0_148_holding (v0_23 a) (v0_35 a) (v0_48 a) (v0_62 a) := by
  unfold v0_148_holding g_v0_148_holding
  rw [eg_v0_133_holding, eg_v0_133_r0_1151_1, eg_v0_133_r0_1151_2]
def g_v0_148_r0_1151_1 (x y z w : Int32) : Int32 := (if z = (0 : Int32) then (g_v0_133_r0_1151_1 x y z w) else (if (0 : Int32) = (0 : Int32) then (if (g_v0_133_r0_1151_2 x y z w) = (0 : Int32) then (if (g_v0_133_r0_1151_1 x y z w) = (0 : Int32) then (1 : Int32) else (g_v0_133_r0_1151_1 x y z w)) else (g_v0_133_r0_1151_1 x y z w)) else (g_v0_133_r0_1151_1 x y z w)))
theorem eg_v0_148_r0_1151_1 (a : Int32) : v0_148_r0_1151_1 a = g_v0_148_r0_1151_1 (v0_23 a) (v0_35 a) (v0_48 a) (v0_62 a) := by
  unfold v0_148_r0_1151_1 g_v0_148_r0_1151_1
  rw [eg_v0_133_r0_1151_1, eg_v0_133_r0_1151_2]
def g_v0_148_r0_1151_2 (x y z w : Int32) : Int32 := (if z = (0 : Int32) then (g_v0_133_r0_1151_2 x y z w) else (if (0 : Int32) = (0 : Int32) then (if (g_v0_133_r0_1151_2 x y z w) = (0 : Int32) then (1 : Int32) else (g_v0_133_r0_1151_2 x y z w)) else (g_v0_133_r0_1151_2 x y z w)))
theorem eg_v0_148_r0_1151_2 (a : Int32) : v0_148_r0_1151_2 a = g_v0_148_r0_1151_2 (v0_23 a) (v0_35 a) (v0_48 a) (v0_62 a) := by
  unfold v0_148_r0_1151_2 g_v0_148_r0_1151_2
  rw [eg_v0_133_r0_1151_2]
def g_v0_148_r0_1151_3 (x y z w : Int32) : Int32 := (if z = (0 : Int32) then (0 : Int32) else (if (0 : Int32) = (0 : Int32) then (1 : Int32) else (0 : Int32)))
theorem eg_v0_148_r0_1151_3 (a : Int32) : v0_148_r0_1151_3 a = g_v0_148_r0_1151_3 (v0_23 a) (v0_35 a) (v0_48 a) (v0_62 a) := by
  unfold v0_148_r0_1151_3 g_v0_148_r0_1151_3
  rfl
def g_v0_158_holding (x y z w : Int32) : Int64 := (if w = (0 : Int32) then (g_v0_148_holding x y z w) else (if (g_v0_148_r0_1151_3 x y z w) = (0 : Int32) then (if (g_v0_148_r0_1151_2 x y z w) = (0 : Int32) then (if (g_v0_148_r0_1151_1 x y z w) = (0 : Int32) then ((((g_v0_148_holding x y z w) + (1 : Int64)) + (1 : Int64)) + (1 : Int64)) else (((g_v0_148_holding x y z w) + (1 : Int64)) + (1 : Int64))) else ((g_v0_148_holding x y z w) + (1 : Int64))) else (g_v0_148_holding x y z w)))
theorem eg_v0_158_holding (a : Int32) : v0_158_holding a = g_v0_158_holding (v0_23 a) (v0_35 a) (v0_48 a) (v0_62 a) := by
  unfold v0_158_holding g_v0_158_holding
  rw [eg_v0_148_holding, eg_v0_148_r0_1151_1, eg_v0_148_r0_1151_2, eg_v0_148_r0_1151_3]
def g_v0_158_r0_1151_1 (x y z w : Int32) : Int32 := (if w = (0 : Int32) then (g_v0_148_r0_1151_1 x y z w) else (if (g_v0_148_r0_1151_3 x y z w) = (0 : Int32) then (if (g_v0_148_r0_1151_2 x y z w) = (0 : Int32) then (if (g_v0_148_r0_1151_1 x y z w) = (0 : Int32) then (1 : Int32) else (g_v0_148_r0_1151_1 x y z w)) else (g_v0_148_r0_1151_1 x y z w)) else (g_v0_148_r0_1151_1 x y z w)))
theorem eg_v0_158_r0_1151_1 (a : Int32) : v0_158_r0_1151_1 a = g_v0_158_r0_1151_1 (v0_23 a) (v0_35 a) (v0_48 a) (v0_62 a) := by
  unfold v0_158_r0_1151_1 g_v0_158_r0_1151_1
  rw [eg_v0_148_r0_1151_1, eg_v0_148_r0_1151_2, eg_v0_148_r0_1151_3]
def g_v0_158_r0_1151_2 (x y z w : Int32) : Int32 := (if w = (0 : Int32) then (g_v0_148_r0_1151_2 x y z w) else (if (g_v0_148_r0_1151_3 x y z w) = (0 : Int32) then (if (g_v0_148_r0_1151_2 x y z w) = (0 : Int32) then (1 : Int32) else (g_v0_148_r0_1151_2 x y z w)) else (g_v0_148_r0_1151_2 x y z w)))
theorem eg_v0_158_r0_1151_2 (a : Int32) : v0_158_r0_1151_2 a = g_v0_158_r0_1151_2 (v0_23 a) (v0_35 a) (v0_48 a) (v0_62 a) := by
  unfold v0_158_r0_1151_2 g_v0_158_r0_1151_2
  rw [eg_v0_148_r0_1151_2, eg_v0_148_r0_1151_3]
def g_v0_158_r0_1151_3 (x y z w : Int32) : Int32 := (if w = (0 : Int32) then (g_v0_148_r0_1151_3 x y z w) else (if (g_v0_148_r0_1151_3 x y z w) = (0 : Int32) then (1 : Int32) else (g_v0_148_r0_1151_3 x y z w)))
theorem eg_v0_158_r0_1151_3 (a : Int32) : v0_158_r0_1151_3 a = g_v0_158_r0_1151_3 (v0_23 a) (v0_35 a) (v0_48 a) (v0_62 a) := by
  unfold v0_158_r0_1151_3 g_v0_158_r0_1151_3
  rw [eg_v0_148_r0_1151_3]
def g_v0_189 (x y z w : Int32) : Int32 := (if z = (0 : Int32) then (if w = (0 : Int32) then (0 : Int32) else (1 : Int32)) else (1 : Int32))
theorem eg_v0_189 (a : Int32) : v0_189 a = g_v0_189 (v0_23 a) (v0_35 a) (v0_48 a) (v0_62 a) := by
  unfold v0_189 g_v0_189
  rfl
def g_v0_205 (x y z w : Int32) : Int32 := (if (g_v0_189 x y z w) = (0 : Int32) then (if y = (0 : Int32) then (0 : Int32) else (1 : Int32)) else (1 : Int32))
theorem eg_v0_205 (a : Int32) : v0_205 a = g_v0_205 (v0_23 a) (v0_35 a) (v0_48 a) (v0_62 a) := by
  unfold v0_205 g_v0_205
  rw [eg_v0_189]
def g_v0_221 (x y z w : Int32) : Int32 := (if (g_v0_205 x y z w) = (0 : Int32) then (if x = (0 : Int32) then (0 : Int32) else (1 : Int32)) else (1 : Int32))
theorem eg_v0_221 (a : Int32) : v0_221 a = g_v0_221 (v0_23 a) (v0_35 a) (v0_48 a) (v0_62 a) := by
  unfold v0_221 g_v0_221
  rw [eg_v0_205]
def g_v0_243_s0 (x y z w : Int32) : Int64 := (if (g_v0_205 x y z w) = (0 : Int32) then (0 : Int64) else (1 : Int64))
theorem eg_v0_243_s0 (a : Int32) : v0_243_s0 a = g_v0_243_s0 (v0_23 a) (v0_35 a) (v0_48 a) (v0_62 a) := by
  unfold v0_243_s0 g_v0_243_s0
  rw [eg_v0_205]
def g_v0_243_s1 (x y z w : Int32) : Int64 := (if (g_v0_221 x y z w) = (0 : Int32) then (0 : Int64) else (1 : Int64))
theorem eg_v0_243_s1 (a : Int32) : v0_243_s1 a = g_v0_243_s1 (v0_23 a) (v0_35 a) (v0_48 a) (v0_62 a) := by
  unfold v0_243_s1 g_v0_243_s1
  rw [eg_v0_221]
def g_v0_254_s0 (x y z w : Int32) : Int64 := (if (g_v0_189 x y z w) = (0 : Int32) then (0 : Int64) else (1 : Int64))
theorem eg_v0_254_s0 (a : Int32) : v0_254_s0 a = g_v0_254_s0 (v0_23 a) (v0_35 a) (v0_48 a) (v0_62 a) := by
  unfold v0_254_s0 g_v0_254_s0
  rw [eg_v0_189]
def g_v0_255 (x y z w : Int32) : Int64 := (((g_v0_243_s1 x y z w) + (g_v0_243_s0 x y z w)) + (g_v0_254_s0 x y z w))
theorem eg_v0_255 (a : Int32) : v0_255 a = g_v0_255 (v0_23 a) (v0_35 a) (v0_48 a) (v0_62 a) := by
  unfold v0_255 g_v0_255
  rw [eg_v0_243_s0, eg_v0_243_s1, eg_v0_254_s0]
def g_f0 (x y z w : Int32) : Int32 := (if (f17 ((0 : Int64) + ((1 : Int64) + (g_v0_148_opened x y z w)))) = (4 : Int64) then (if f18 = (0 : Int32) then (0 : Int32) else (if (f19 ((0 : Int64) + ((g_v0_148_opened x y z w) - (g_v0_158_holding x y z w)))) = ((3 : Int64) - (g_v0_255 x y z w)) then (1 : Int32) else (0 : Int32))) else (0 : Int32))
theorem eg_f0 (a : Int32) : f0 a = g_f0 (v0_23 a) (v0_35 a) (v0_48 a) (v0_62 a) := by
  unfold f0 g_f0
  rw [eg_v0_148_opened, eg_v0_158_holding, eg_v0_255]
theorem own_bit (c : Prop) [Decidable c] : (if c then (0 : Int32) else (1 : Int32)) = 0 ∨ (if c then (0 : Int32) else (1 : Int32)) = 1 := by
  by_cases h : c
  · exact Or.inl (if_pos h)
  · exact Or.inr (if_neg h)
theorem own_plain (a : Int32) : f0 a = 1 := by
  have b1 : v0_23 a = 0 ∨ v0_23 a = 1 := own_bit _
  have b2 : v0_35 a = 0 ∨ v0_35 a = 1 := own_bit _
  have b3 : v0_48 a = 0 ∨ v0_48 a = 1 := own_bit _
  have b4 : v0_62 a = 0 ∨ v0_62 a = 1 := own_bit _
  rw [eg_f0]
  generalize v0_23 a = x at *
  generalize v0_35 a = y at *
  generalize v0_48 a = z at *
  generalize v0_62 a = w at *
  rcases b1 with rfl | rfl <;> rcases b2 with rfl | rfl <;> rcases b3 with rfl | rfl <;> rcases b4 with rfl | rfl <;> decide +kernel
theorem pn_com_example_wedgetree_wedgetree_core_OpenedNodesAnsweredPinLaw : plainName "com/example/wedgetree/wedgetree/core/OpenedNodesAnsweredPinLaw" = true := by first | (simp [plainName, overriddenIn]; done) | decide +kernel
theorem ef_0 (m : MethodId) (x0 : Int32) : entryFrame m #[(.int x0)] maxLocals = mkF m 0 #[.val (.int x0), .unset, .unset, .unset, .unset, .unset, .unset, .unset, .unset, .unset, .unset, .unset, .unset, .unset] [] := by first | (simp [entryFrame, mkF, argsToLocals, Value.category, maxLocals]; done) | rfl
def Q0 (Z : State) (p0 : Int32) (h0 : Heap) (n0 : Nat) (v : Option Value) (h : Heap) (L : List Loc) : Prop := v = some (.int 1) ∧ Fr n0 L
set_option maxRecDepth 65536 in
set_option maxHeartbeats 40000000 in
theorem rm0 (l : Launch) (Z : State) (aZ : Array Value) (hw : ∀ d ∈ tables_1, d.before aZ Z = true) (ws : List Jvm.Cond) (p0 : Int32) (h0 : Heap) (n0 : Nat) (Z0 : n0 ≤ h0.size) :
    MetFree l x (head1 (Jvm.Cond.code x code maxLocals ret :: ws) room_1) (fun a U => a = #[(.int p0)] ∧ Z.Warmed39 U.vm ∧ U.heap = h0) (fun _ _ _ _ _ => True) (fun _ U o U' => ∃ v L, o = .returned v ∧ Q0 Z p0 h0 n0 v U'.heap L ∧ FrameEnd U o U' L room_1.cells room_1.slots) := by
  refine MetFree.of_bodySF (plainFor_of_name pn_com_example_wedgetree_wedgetree_core_OpenedNodesAnsweredPinLaw) hisR ?_
  intro p e s m args below meth c s₁ Bd hml0 hP hK
  obtain ⟨rfl, hZ, hh⟩ := hP
  have hx := Bd.exec
  have hby := Bd.bytes
  have hlk : meth.locks = false := BodyLoose.notSynchronized Bd
  have hml : c.maxLocals = 14 := hml0
  have hown : s.vm.findClass "com/example/wedgetree/wedgetree/core/OpenedNodesAnsweredPinLaw" = some m.cls := findClass_of_methodNamed Bd.named
  have hnm := (name_of_methodNamed Bd.named Bd.method).1
  have X0 : Stand p l e room_1 s m #[(.int p0)] below meth c s₁ [] 0 0 := Stand.of_body Bd
  have e0 : s₁.heap = h0 := by rw [← hh, Bd.state]; rfl
  have N0 := Fr.nil n0
  show OEnd p e below s s₁ (entryFrame m #[(.int p0)] maxLocals) (Q0 Z p0 h0 n0) room_1.cells room_1.slots
  refine OEnd.go (g' := (mkF m 0 #[.val (.int p0), .unset, .unset, .unset, .unset, .unset, .unset, .unset, .unset, .unset, .unset, .unset, .unset, .unset] [])) (fun _ k => castTop (ef_0 m p0) k) ?_
  refine OEnd.go (T' := s₁) (g' := (mkF m 3 #[.val (.int p0), .unset, .unset, .unset, .unset, .unset, .unset, .unset, .unset, .unset, .unset, .unset, .unset, .unset] [(.int (p0 &&& (1 : Int32)))])) (fun t k => ?_) ?_
  · show Steps p.tables e below (s₁.setTop (mkF m 0 #[.val (.int p0), .unset, .unset, .unset, .unset, .unset, .unset, .unset, .unset, .unset, .unset, .unset, .unset, .unset] [])) t
    refine XS.iloadN X0.here hx rfl (hb hby at_0) rfl ?_
    show Steps p.tables e below (s₁.setTop (mkF m 1 #[.val (.int p0), .unset, .unset, .unset, .unset, .unset, .unset, .unset, .unset, .unset, .unset, .unset, .unset, .unset] [(.int p0)])) t
    refine XS.iconst X0.here hx rfl (hb hby at_1) ?_
    show Steps p.tables e below (s₁.setTop (mkF m 2 #[.val (.int p0), .unset, .unset, .unset, .unset, .unset, .unset, .unset, .unset, .unset, .unset, .unset, .unset, .unset] [(.int (1 : Int32)), (.int p0)])) t
    refine XS.iand X0.here hx rfl (hb hby at_2) rfl ?_
    show Steps p.tables e below (s₁.setTop (mkF m 3 #[.val (.int p0), .unset, .unset, .unset, .unset, .unset, .unset, .unset, .unset, .unset, .unset, .unset, .unset, .unset] [(.int (p0 &&& (1 : Int32)))])) t
    exact k
  refine OEnd.go (T' := s₁) (g' := (mkF m 11 #[.val (.int p0), .unset, .unset, .unset, .unset, .unset, .unset, .unset, .unset, .unset, .unset, .unset, .unset, .unset] [(.int (if (p0 &&& (1 : Int32)) = (0 : Int32) then (0 : Int32) else (1 : Int32)))])) (fun t k => ?_) ?_
  · show Steps p.tables e below (s₁.setTop (mkF m 3 #[.val (.int p0), .unset, .unset, .unset, .unset, .unset, .unset, .unset, .unset, .unset, .unset, .unset, .unset, .unset] [(.int (p0 &&& (1 : Int32)))])) t
    by_cases hc1 : (p0 &&& (1 : Int32)) = (0 : Int32)
    · skip
      refine XS.ifYes X0.here hx rfl (pc0 := 3) (pc' := 10) rfl (hb hby at_3) rfl ((if0 _ _).trans (teq (hc1)).1) (by decide) (by decide) ?_
      show Steps p.tables e below (s₁.setTop (mkF m 10 #[.val (.int p0), .unset, .unset, .unset, .unset, .unset, .unset, .unset, .unset, .unset, .unset, .unset, .unset, .unset] [])) t
      refine SGo.go (T' := s₁) (g' := (mkF m 11 #[.val (.int p0), .unset, .unset, .unset, .unset, .unset, .unset, .unset, .unset, .unset, .unset, .unset, .unset, .unset] [(.int (0 : Int32))])) (fun t k => ?_) ?_
      · show Steps p.tables e below (s₁.setTop (mkF m 10 #[.val (.int p0), .unset, .unset, .unset, .unset, .unset, .unset, .unset, .unset, .unset, .unset, .unset, .unset, .unset] [])) t
        refine XS.iconst X0.here hx rfl (hb hby at_10) ?_
        show Steps p.tables e below (s₁.setTop (mkF m 11 #[.val (.int p0), .unset, .unset, .unset, .unset, .unset, .unset, .unset, .unset, .unset, .unset, .unset, .unset, .unset] [(.int (0 : Int32))])) t
        exact k
      exact (own_k (f := fun (z : Int32) => mkF m 11 #[.val (.int p0), .unset, .unset, .unset, .unset, .unset, .unset, .unset, .unset, .unset, .unset, .unset, .unset, .unset] [(.int z)]) (if_pos hc1) k)
    · skip
      refine XS.ifNo X0.here hx rfl (hb hby at_3) rfl ((if0 _ _).trans (feq (hc1)).1) ?_
      show Steps p.tables e below (s₁.setTop (mkF m 6 #[.val (.int p0), .unset, .unset, .unset, .unset, .unset, .unset, .unset, .unset, .unset, .unset, .unset, .unset, .unset] [])) t
      refine SGo.go (T' := s₁) (g' := (mkF m 11 #[.val (.int p0), .unset, .unset, .unset, .unset, .unset, .unset, .unset, .unset, .unset, .unset, .unset, .unset, .unset] [(.int (1 : Int32))])) (fun t k => ?_) ?_
      · show Steps p.tables e below (s₁.setTop (mkF m 6 #[.val (.int p0), .unset, .unset, .unset, .unset, .unset, .unset, .unset, .unset, .unset, .unset, .unset, .unset, .unset] [])) t
        refine XS.iconst X0.here hx rfl (hb hby at_6) ?_
        show Steps p.tables e below (s₁.setTop (mkF m 7 #[.val (.int p0), .unset, .unset, .unset, .unset, .unset, .unset, .unset, .unset, .unset, .unset, .unset, .unset, .unset] [(.int (1 : Int32))])) t
        refine XS.goto X0.here hx rfl (pc0 := 7) (pc' := 11) rfl (hb hby at_7) (by decide) (by decide) ?_
        show Steps p.tables e below (s₁.setTop (mkF m 11 #[.val (.int p0), .unset, .unset, .unset, .unset, .unset, .unset, .unset, .unset, .unset, .unset, .unset, .unset, .unset] [(.int (1 : Int32))])) t
        exact k
      exact (own_k (f := fun (z : Int32) => mkF m 11 #[.val (.int p0), .unset, .unset, .unset, .unset, .unset, .unset, .unset, .unset, .unset, .unset, .unset, .unset, .unset] [(.int z)]) (if_neg hc1) k)
  refine OEnd.go (T' := s₁) (g' := (mkF m 15 #[.val (.int p0), .val (.int (v0_11 p0)), .unset, .unset, .unset, .unset, .unset, .unset, .unset, .unset, .unset, .unset, .unset, .unset] [(.int (p0 &&& (2 : Int32)))])) (fun t k => ?_) ?_
  · show Steps p.tables e below (s₁.setTop (mkF m 11 #[.val (.int p0), .unset, .unset, .unset, .unset, .unset, .unset, .unset, .unset, .unset, .unset, .unset, .unset, .unset] [(.int (if (p0 &&& (1 : Int32)) = (0 : Int32) then (0 : Int32) else (1 : Int32)))])) t
    refine XS.istoreN X0.here hx rfl (hb hby at_11) rfl (l' := #[.val (.int p0), .val (.int (v0_11 p0)), .unset, .unset, .unset, .unset, .unset, .unset, .unset, .unset, .unset, .unset, .unset, .unset]) rfl ?_
    show Steps p.tables e below (s₁.setTop (mkF m 12 #[.val (.int p0), .val (.int (v0_11 p0)), .unset, .unset, .unset, .unset, .unset, .unset, .unset, .unset, .unset, .unset, .unset, .unset] [])) t
    refine XS.iloadN X0.here hx rfl (hb hby at_12) rfl ?_
    show Steps p.tables e below (s₁.setTop (mkF m 13 #[.val (.int p0), .val (.int (v0_11 p0)), .unset, .unset, .unset, .unset, .unset, .unset, .unset, .unset, .unset, .unset, .unset, .unset] [(.int p0)])) t
    refine XS.iconst X0.here hx rfl (hb hby at_13) ?_
    show Steps p.tables e below (s₁.setTop (mkF m 14 #[.val (.int p0), .val (.int (v0_11 p0)), .unset, .unset, .unset, .unset, .unset, .unset, .unset, .unset, .unset, .unset, .unset, .unset] [(.int (2 : Int32)), (.int p0)])) t
    refine XS.iand X0.here hx rfl (hb hby at_14) rfl ?_
    show Steps p.tables e below (s₁.setTop (mkF m 15 #[.val (.int p0), .val (.int (v0_11 p0)), .unset, .unset, .unset, .unset, .unset, .unset, .unset, .unset, .unset, .unset, .unset, .unset] [(.int (p0 &&& (2 : Int32)))])) t
    exact k
  refine OEnd.go (T' := s₁) (g' := (mkF m 23 #[.val (.int p0), .val (.int (v0_11 p0)), .unset, .unset, .unset, .unset, .unset, .unset, .unset, .unset, .unset, .unset, .unset, .unset] [(.int (if (p0 &&& (2 : Int32)) = (0 : Int32) then (0 : Int32) else (1 : Int32)))])) (fun t k => ?_) ?_
  · show Steps p.tables e below (s₁.setTop (mkF m 15 #[.val (.int p0), .val (.int (v0_11 p0)), .unset, .unset, .unset, .unset, .unset, .unset, .unset, .unset, .unset, .unset, .unset, .unset] [(.int (p0 &&& (2 : Int32)))])) t
    by_cases hc2 : (p0 &&& (2 : Int32)) = (0 : Int32)
    · skip
      refine XS.ifYes X0.here hx rfl (pc0 := 15) (pc' := 22) rfl (hb hby at_15) rfl ((if0 _ _).trans (teq (hc2)).1) (by decide) (by decide) ?_
      show Steps p.tables e below (s₁.setTop (mkF m 22 #[.val (.int p0), .val (.int (v0_11 p0)), .unset, .unset, .unset, .unset, .unset, .unset, .unset, .unset, .unset, .unset, .unset, .unset] [])) t
      refine SGo.go (T' := s₁) (g' := (mkF m 23 #[.val (.int p0), .val (.int (v0_11 p0)), .unset, .unset, .unset, .unset, .unset, .unset, .unset, .unset, .unset, .unset, .unset, .unset] [(.int (0 : Int32))])) (fun t k => ?_) ?_
      · show Steps p.tables e below (s₁.setTop (mkF m 22 #[.val (.int p0), .val (.int (v0_11 p0)), .unset, .unset, .unset, .unset, .unset, .unset, .unset, .unset, .unset, .unset, .unset, .unset] [])) t
        refine XS.iconst X0.here hx rfl (hb hby at_22) ?_
        show Steps p.tables e below (s₁.setTop (mkF m 23 #[.val (.int p0), .val (.int (v0_11 p0)), .unset, .unset, .unset, .unset, .unset, .unset, .unset, .unset, .unset, .unset, .unset, .unset] [(.int (0 : Int32))])) t
        exact k
      exact (own_k (f := fun (z : Int32) => mkF m 23 #[.val (.int p0), .val (.int (v0_11 p0)), .unset, .unset, .unset, .unset, .unset, .unset, .unset, .unset, .unset, .unset, .unset, .unset] [(.int z)]) (if_pos hc2) k)
    · skip
      refine XS.ifNo X0.here hx rfl (hb hby at_15) rfl ((if0 _ _).trans (feq (hc2)).1) ?_
      show Steps p.tables e below (s₁.setTop (mkF m 18 #[.val (.int p0), .val (.int (v0_11 p0)), .unset, .unset, .unset, .unset, .unset, .unset, .unset, .unset, .unset, .unset, .unset, .unset] [])) t
      refine SGo.go (T' := s₁) (g' := (mkF m 23 #[.val (.int p0), .val (.int (v0_11 p0)), .unset, .unset, .unset, .unset, .unset, .unset, .unset, .unset, .unset, .unset, .unset, .unset] [(.int (1 : Int32))])) (fun t k => ?_) ?_
      · show Steps p.tables e below (s₁.setTop (mkF m 18 #[.val (.int p0), .val (.int (v0_11 p0)), .unset, .unset, .unset, .unset, .unset, .unset, .unset, .unset, .unset, .unset, .unset, .unset] [])) t
        refine XS.iconst X0.here hx rfl (hb hby at_18) ?_
        show Steps p.tables e below (s₁.setTop (mkF m 19 #[.val (.int p0), .val (.int (v0_11 p0)), .unset, .unset, .unset, .unset, .unset, .unset, .unset, .unset, .unset, .unset, .unset, .unset] [(.int (1 : Int32))])) t
        refine XS.goto X0.here hx rfl (pc0 := 19) (pc' := 23) rfl (hb hby at_19) (by decide) (by decide) ?_
        show Steps p.tables e below (s₁.setTop (mkF m 23 #[.val (.int p0), .val (.int (v0_11 p0)), .unset, .unset, .unset, .unset, .unset, .unset, .unset, .unset, .unset, .unset, .unset, .unset] [(.int (1 : Int32))])) t
        exact k
      exact (own_k (f := fun (z : Int32) => mkF m 23 #[.val (.int p0), .val (.int (v0_11 p0)), .unset, .unset, .unset, .unset, .unset, .unset, .unset, .unset, .unset, .unset, .unset, .unset] [(.int z)]) (if_neg hc2) k)
  refine OEnd.go (T' := s₁) (g' := (mkF m 27 #[.val (.int p0), .val (.int (v0_11 p0)), .val (.int (v0_23 p0)), .unset, .unset, .unset, .unset, .unset, .unset, .unset, .unset, .unset, .unset, .unset] [(.int (p0 &&& (4 : Int32)))])) (fun t k => ?_) ?_
  · show Steps p.tables e below (s₁.setTop (mkF m 23 #[.val (.int p0), .val (.int (v0_11 p0)), .unset, .unset, .unset, .unset, .unset, .unset, .unset, .unset, .unset, .unset, .unset, .unset] [(.int (if (p0 &&& (2 : Int32)) = (0 : Int32) then (0 : Int32) else (1 : Int32)))])) t
    refine XS.istoreN X0.here hx rfl (hb hby at_23) rfl (l' := #[.val (.int p0), .val (.int (v0_11 p0)), .val (.int (v0_23 p0)), .unset, .unset, .unset, .unset, .unset, .unset, .unset, .unset, .unset, .unset, .unset]) rfl ?_
    show Steps p.tables e below (s₁.setTop (mkF m 24 #[.val (.int p0), .val (.int (v0_11 p0)), .val (.int (v0_23 p0)), .unset, .unset, .unset, .unset, .unset, .unset, .unset, .unset, .unset, .unset, .unset] [])) t
    refine XS.iloadN X0.here hx rfl (hb hby at_24) rfl ?_
    show Steps p.tables e below (s₁.setTop (mkF m 25 #[.val (.int p0), .val (.int (v0_11 p0)), .val (.int (v0_23 p0)), .unset, .unset, .unset, .unset, .unset, .unset, .unset, .unset, .unset, .unset, .unset] [(.int p0)])) t
    refine XS.iconst X0.here hx rfl (hb hby at_25) ?_
    show Steps p.tables e below (s₁.setTop (mkF m 26 #[.val (.int p0), .val (.int (v0_11 p0)), .val (.int (v0_23 p0)), .unset, .unset, .unset, .unset, .unset, .unset, .unset, .unset, .unset, .unset, .unset] [(.int (4 : Int32)), (.int p0)])) t
    refine XS.iand X0.here hx rfl (hb hby at_26) rfl ?_
    show Steps p.tables e below (s₁.setTop (mkF m 27 #[.val (.int p0), .val (.int (v0_11 p0)), .val (.int (v0_23 p0)), .unset, .unset, .unset, .unset, .unset, .unset, .unset, .unset, .unset, .unset, .unset] [(.int (p0 &&& (4 : Int32)))])) t
    exact k
  refine OEnd.go (T' := s₁) (g' := (mkF m 35 #[.val (.int p0), .val (.int (v0_11 p0)), .val (.int (v0_23 p0)), .unset, .unset, .unset, .unset, .unset, .unset, .unset, .unset, .unset, .unset, .unset] [(.int (if (p0 &&& (4 : Int32)) = (0 : Int32) then (0 : Int32) else (1 : Int32)))])) (fun t k => ?_) ?_
  · show Steps p.tables e below (s₁.setTop (mkF m 27 #[.val (.int p0), .val (.int (v0_11 p0)), .val (.int (v0_23 p0)), .unset, .unset, .unset, .unset, .unset, .unset, .unset, .unset, .unset, .unset, .unset] [(.int (p0 &&& (4 : Int32)))])) t
    by_cases hc3 : (p0 &&& (4 : Int32)) = (0 : Int32)
    · skip
      refine XS.ifYes X0.here hx rfl (pc0 := 27) (pc' := 34) rfl (hb hby at_27) rfl ((if0 _ _).trans (teq (hc3)).1) (by decide) (by decide) ?_
      show Steps p.tables e below (s₁.setTop (mkF m 34 #[.val (.int p0), .val (.int (v0_11 p0)), .val (.int (v0_23 p0)), .unset, .unset, .unset, .unset, .unset, .unset, .unset, .unset, .unset, .unset, .unset] [])) t
      refine SGo.go (T' := s₁) (g' := (mkF m 35 #[.val (.int p0), .val (.int (v0_11 p0)), .val (.int (v0_23 p0)), .unset, .unset, .unset, .unset, .unset, .unset, .unset, .unset, .unset, .unset, .unset] [(.int (0 : Int32))])) (fun t k => ?_) ?_
      · show Steps p.tables e below (s₁.setTop (mkF m 34 #[.val (.int p0), .val (.int (v0_11 p0)), .val (.int (v0_23 p0)), .unset, .unset, .unset, .unset, .unset, .unset, .unset, .unset, .unset, .unset, .unset] [])) t
        refine XS.iconst X0.here hx rfl (hb hby at_34) ?_
        show Steps p.tables e below (s₁.setTop (mkF m 35 #[.val (.int p0), .val (.int (v0_11 p0)), .val (.int (v0_23 p0)), .unset, .unset, .unset, .unset, .unset, .unset, .unset, .unset, .unset, .unset, .unset] [(.int (0 : Int32))])) t
        exact k
      exact (own_k (f := fun (z : Int32) => mkF m 35 #[.val (.int p0), .val (.int (v0_11 p0)), .val (.int (v0_23 p0)), .unset, .unset, .unset, .unset, .unset, .unset, .unset, .unset, .unset, .unset, .unset] [(.int z)]) (if_pos hc3) k)
    · skip
      refine XS.ifNo X0.here hx rfl (hb hby at_27) rfl ((if0 _ _).trans (feq (hc3)).1) ?_
      show Steps p.tables e below (s₁.setTop (mkF m 30 #[.val (.int p0), .val (.int (v0_11 p0)), .val (.int (v0_23 p0)), .unset, .unset, .unset, .unset, .unset, .unset, .unset, .unset, .unset, .unset, .unset] [])) t
      refine SGo.go (T' := s₁) (g' := (mkF m 35 #[.val (.int p0), .val (.int (v0_11 p0)), .val (.int (v0_23 p0)), .unset, .unset, .unset, .unset, .unset, .unset, .unset, .unset, .unset, .unset, .unset] [(.int (1 : Int32))])) (fun t k => ?_) ?_
      · show Steps p.tables e below (s₁.setTop (mkF m 30 #[.val (.int p0), .val (.int (v0_11 p0)), .val (.int (v0_23 p0)), .unset, .unset, .unset, .unset, .unset, .unset, .unset, .unset, .unset, .unset, .unset] [])) t
        refine XS.iconst X0.here hx rfl (hb hby at_30) ?_
        show Steps p.tables e below (s₁.setTop (mkF m 31 #[.val (.int p0), .val (.int (v0_11 p0)), .val (.int (v0_23 p0)), .unset, .unset, .unset, .unset, .unset, .unset, .unset, .unset, .unset, .unset, .unset] [(.int (1 : Int32))])) t
        refine XS.goto X0.here hx rfl (pc0 := 31) (pc' := 35) rfl (hb hby at_31) (by decide) (by decide) ?_
        show Steps p.tables e below (s₁.setTop (mkF m 35 #[.val (.int p0), .val (.int (v0_11 p0)), .val (.int (v0_23 p0)), .unset, .unset, .unset, .unset, .unset, .unset, .unset, .unset, .unset, .unset, .unset] [(.int (1 : Int32))])) t
        exact k
      exact (own_k (f := fun (z : Int32) => mkF m 35 #[.val (.int p0), .val (.int (v0_11 p0)), .val (.int (v0_23 p0)), .unset, .unset, .unset, .unset, .unset, .unset, .unset, .unset, .unset, .unset, .unset] [(.int z)]) (if_neg hc3) k)
  refine OEnd.go (T' := s₁) (g' := (mkF m 40 (la0_0 p0) [(.int (p0 &&& (8 : Int32)))])) (fun t k => ?_) ?_
  · show Steps p.tables e below (s₁.setTop (mkF m 35 #[.val (.int p0), .val (.int (v0_11 p0)), .val (.int (v0_23 p0)), .unset, .unset, .unset, .unset, .unset, .unset, .unset, .unset, .unset, .unset, .unset] [(.int (if (p0 &&& (4 : Int32)) = (0 : Int32) then (0 : Int32) else (1 : Int32)))])) t
    refine XS.istoreN X0.here hx rfl (hb hby at_35) rfl (l' := (la0_0 p0)) rfl ?_
    show Steps p.tables e below (s₁.setTop (mkF m 36 (la0_0 p0) [])) t
    refine XS.iloadN X0.here hx rfl (hb hby at_36) rfl ?_
    show Steps p.tables e below (s₁.setTop (mkF m 37 (la0_0 p0) [(.int p0)])) t
    refine XS.bipush X0.here hx rfl (hb hby at_37) ?_
    show Steps p.tables e below (s₁.setTop (mkF m 39 (la0_0 p0) [(.int (8 : Int32)), (.int p0)])) t
    refine XS.iand X0.here hx rfl (hb hby at_39) rfl ?_
    show Steps p.tables e below (s₁.setTop (mkF m 40 (la0_0 p0) [(.int (p0 &&& (8 : Int32)))])) t
    exact k
  refine OEnd.go (T' := s₁) (g' := (mkF m 48 (la0_0 p0) [(.int (if (p0 &&& (8 : Int32)) = (0 : Int32) then (0 : Int32) else (1 : Int32)))])) (fun t k => ?_) ?_
  · show Steps p.tables e below (s₁.setTop (mkF m 40 (la0_0 p0) [(.int (p0 &&& (8 : Int32)))])) t
    by_cases hc4 : (p0 &&& (8 : Int32)) = (0 : Int32)
    · skip
      refine XS.ifYes X0.here hx rfl (pc0 := 40) (pc' := 47) rfl (hb hby at_40) rfl ((if0 _ _).trans (teq (hc4)).1) (by decide) (by decide) ?_
      show Steps p.tables e below (s₁.setTop (mkF m 47 (la0_0 p0) [])) t
      refine SGo.go (T' := s₁) (g' := (mkF m 48 (la0_0 p0) [(.int (0 : Int32))])) (fun t k => ?_) ?_
      · show Steps p.tables e below (s₁.setTop (mkF m 47 (la0_0 p0) [])) t
        refine XS.iconst X0.here hx rfl (hb hby at_47) ?_
        show Steps p.tables e below (s₁.setTop (mkF m 48 (la0_0 p0) [(.int (0 : Int32))])) t
        exact k
      exact (own_k (f := fun (z : Int32) => mkF m 48 #[.val (.int p0), .val (.int (v0_11 p0)), .val (.int (v0_23 p0)), .val (.int (v0_35 p0)), .unset, .unset, .unset, .unset, .unset, .unset, .unset, .unset, .unset, .unset] [(.int z)]) (if_pos hc4) k)
    · skip
      refine XS.ifNo X0.here hx rfl (hb hby at_40) rfl ((if0 _ _).trans (feq (hc4)).1) ?_
      show Steps p.tables e below (s₁.setTop (mkF m 43 (la0_0 p0) [])) t
      refine SGo.go (T' := s₁) (g' := (mkF m 48 (la0_0 p0) [(.int (1 : Int32))])) (fun t k => ?_) ?_
      · show Steps p.tables e below (s₁.setTop (mkF m 43 (la0_0 p0) [])) t
        refine XS.iconst X0.here hx rfl (hb hby at_43) ?_
        show Steps p.tables e below (s₁.setTop (mkF m 44 (la0_0 p0) [(.int (1 : Int32))])) t
        refine XS.goto X0.here hx rfl (pc0 := 44) (pc' := 48) rfl (hb hby at_44) (by decide) (by decide) ?_
        show Steps p.tables e below (s₁.setTop (mkF m 48 (la0_0 p0) [(.int (1 : Int32))])) t
        exact k
      exact (own_k (f := fun (z : Int32) => mkF m 48 #[.val (.int p0), .val (.int (v0_11 p0)), .val (.int (v0_23 p0)), .val (.int (v0_35 p0)), .unset, .unset, .unset, .unset, .unset, .unset, .unset, .unset, .unset, .unset] [(.int z)]) (if_neg hc4) k)
  refine OEnd.go (T' := s₁) (g' := (mkF m 54 (la0_1 p0) [(.int (p0 &&& (16 : Int32)))])) (fun t k => ?_) ?_
  · show Steps p.tables e below (s₁.setTop (mkF m 48 (la0_0 p0) [(.int (if (p0 &&& (8 : Int32)) = (0 : Int32) then (0 : Int32) else (1 : Int32)))])) t
    refine XS.istore X0.here hx rfl (hb hby at_48) rfl (l' := (la0_1 p0)) rfl ?_
    show Steps p.tables e below (s₁.setTop (mkF m 50 (la0_1 p0) [])) t
    refine XS.iloadN X0.here hx rfl (hb hby at_50) rfl ?_
    show Steps p.tables e below (s₁.setTop (mkF m 51 (la0_1 p0) [(.int p0)])) t
    refine XS.bipush X0.here hx rfl (hb hby at_51) ?_
    show Steps p.tables e below (s₁.setTop (mkF m 53 (la0_1 p0) [(.int (16 : Int32)), (.int p0)])) t
    refine XS.iand X0.here hx rfl (hb hby at_53) rfl ?_
    show Steps p.tables e below (s₁.setTop (mkF m 54 (la0_1 p0) [(.int (p0 &&& (16 : Int32)))])) t
    exact k
  refine OEnd.go (T' := s₁) (g' := (mkF m 62 (la0_1 p0) [(.int (if (p0 &&& (16 : Int32)) = (0 : Int32) then (0 : Int32) else (1 : Int32)))])) (fun t k => ?_) ?_
  · show Steps p.tables e below (s₁.setTop (mkF m 54 (la0_1 p0) [(.int (p0 &&& (16 : Int32)))])) t
    by_cases hc5 : (p0 &&& (16 : Int32)) = (0 : Int32)
    · skip
      refine XS.ifYes X0.here hx rfl (pc0 := 54) (pc' := 61) rfl (hb hby at_54) rfl ((if0 _ _).trans (teq (hc5)).1) (by decide) (by decide) ?_
      show Steps p.tables e below (s₁.setTop (mkF m 61 (la0_1 p0) [])) t
      refine SGo.go (T' := s₁) (g' := (mkF m 62 (la0_1 p0) [(.int (0 : Int32))])) (fun t k => ?_) ?_
      · show Steps p.tables e below (s₁.setTop (mkF m 61 (la0_1 p0) [])) t
        refine XS.iconst X0.here hx rfl (hb hby at_61) ?_
        show Steps p.tables e below (s₁.setTop (mkF m 62 (la0_1 p0) [(.int (0 : Int32))])) t
        exact k
      exact (own_k (f := fun (z : Int32) => mkF m 62 #[.val (.int p0), .val (.int (v0_11 p0)), .val (.int (v0_23 p0)), .val (.int (v0_35 p0)), .val (.int (v0_48 p0)), .unset, .unset, .unset, .unset, .unset, .unset, .unset, .unset, .unset] [(.int z)]) (if_pos hc5) k)
    · skip
      refine XS.ifNo X0.here hx rfl (hb hby at_54) rfl ((if0 _ _).trans (feq (hc5)).1) ?_
      show Steps p.tables e below (s₁.setTop (mkF m 57 (la0_1 p0) [])) t
      refine SGo.go (T' := s₁) (g' := (mkF m 62 (la0_1 p0) [(.int (1 : Int32))])) (fun t k => ?_) ?_
      · show Steps p.tables e below (s₁.setTop (mkF m 57 (la0_1 p0) [])) t
        refine XS.iconst X0.here hx rfl (hb hby at_57) ?_
        show Steps p.tables e below (s₁.setTop (mkF m 58 (la0_1 p0) [(.int (1 : Int32))])) t
        refine XS.goto X0.here hx rfl (pc0 := 58) (pc' := 62) rfl (hb hby at_58) (by decide) (by decide) ?_
        show Steps p.tables e below (s₁.setTop (mkF m 62 (la0_1 p0) [(.int (1 : Int32))])) t
        exact k
      exact (own_k (f := fun (z : Int32) => mkF m 62 #[.val (.int p0), .val (.int (v0_11 p0)), .val (.int (v0_23 p0)), .val (.int (v0_35 p0)), .val (.int (v0_48 p0)), .unset, .unset, .unset, .unset, .unset, .unset, .unset, .unset, .unset] [(.int z)]) (if_neg hc5) k)
  refine OEnd.go (T' := s₁) (g' := (mkF m 64 (la0_2 p0) [])) (fun t k => ?_) ?_
  · show Steps p.tables e below (s₁.setTop (mkF m 62 (la0_1 p0) [(.int (if (p0 &&& (16 : Int32)) = (0 : Int32) then (0 : Int32) else (1 : Int32)))])) t
    refine XS.istore X0.here hx rfl (hb hby at_62) rfl (l' := (la0_2 p0)) rfl ?_
    show Steps p.tables e below (s₁.setTop (mkF m 64 (la0_2 p0) [])) t
    exact k
  obtain ⟨T6, h6, X6, e6, E6, A6, D6, -, st6⟩ := newO X0 hx hZ hown (hw _ (List.mem_of_getElem? (i := 0) rfl)) (hw _ (List.mem_of_getElem? (i := 1) rfl)) (hw _ (List.mem_of_getElem? (i := 2) rfl)) e0 (g := (mkF m 64 (la0_2 p0) [])) rfl (hb hby at_64) (by decide) (by decide)
  obtain ⟨b0_64, g6⟩ : ∃ z, z = h0.size := ⟨_, rfl⟩
  rw [← g6] at A6 D6 st6
  have gle_b0_64 : n0 ≤ b0_64 := Nat.le_trans Z0 (Nat.le_of_eq g6.symm)
  have Z6 : n0 ≤ h6.size := Nat.le_trans Z0 E6.1
  have fc7 : Fld Z h6 b0_64 "com/example/wedgetree/wedgetree/core/OpenedNodes" "waitingDepths" "[I" .null := D6 (Or.inl (hw _ (List.mem_of_getElem? (i := 14) rfl))) (ty := (.array .int)) (by decide)
  have fc8 : Fld Z h6 b0_64 "com/example/wedgetree/wedgetree/core/OpenedNodes" "waiting" "I" (.int (0 : Int32)) := D6 (Or.inl (hw _ (List.mem_of_getElem? (i := 16) rfl))) (ty := .int) (by decide)
  have fc9 : Fld Z h6 b0_64 "com/example/wedgetree/wedgetree/core/OpenedNodes" "holdsAnswer" "[Z" .null := D6 (Or.inl (hw _ (List.mem_of_getElem? (i := 19) rfl))) (ty := (.array .boolean)) (by decide)
  have fc10 : Fld Z h6 b0_64 "com/example/wedgetree/wedgetree/core/OpenedNodes" "tallying" "Z" (.int (0 : Int32)) := D6 (Or.inr (hw _ (List.mem_of_getElem? (i := 21) rfl))) (ty := .boolean) (by decide)
  have fc11 : Fld Z h6 b0_64 "com/example/wedgetree/wedgetree/core/OpenedNodes" "depth" "I" (.int (0 : Int32)) := D6 (Or.inl (hw _ (List.mem_of_getElem? (i := 28) rfl))) (ty := .int) (by decide)
  have fc12 : Fld Z h6 b0_64 "com/example/wedgetree/wedgetree/core/OpenedNodes" "opened" "J" (.long (0 : Int64)) := D6 (Or.inl (hw _ (List.mem_of_getElem? (i := 53) rfl))) (ty := .long) (by decide)
  have fc13 : Fld Z h6 b0_64 "com/example/wedgetree/wedgetree/core/OpenedNodes" "holding" "J" (.long (0 : Int64)) := D6 (Or.inl (hw _ (List.mem_of_getElem? (i := 74) rfl))) (ty := .long) (by decide)
  refine OEnd.go (g' := (mkF m 67 (la0_2 p0) [(.ref b0_64)])) st6 ?_
  refine OEnd.go (T' := T6) (g' := (mkF m 68 (la0_2 p0) [(.ref b0_64), (.ref b0_64)])) (fun t k => ?_) ?_
  · show Steps p.tables e below (T6.setTop (mkF m 67 (la0_2 p0) [(.ref b0_64)])) t
    refine XS.dup X6.here hx rfl (hb hby at_67) rfl rfl ?_
    show Steps p.tables e below (T6.setTop (mkF m 68 (la0_2 p0) [(.ref b0_64), (.ref b0_64)])) t
    exact k
  obtain ⟨_, _, ⟨T14, L14, k14, n14⟩, -, X14, ⟨Lc14, hQ14, l14, y14, z14⟩, st14⟩ := X6.specialBack hx (y := (⟨"com/example/wedgetree/wedgetree/core/OpenedNodes", "<init>", "()V"⟩ : MethodName)) rfl hown (mvT hZ (hw _ (List.mem_of_getElem? (i := 3) rfl))) (mvT hZ (hw _ (List.mem_of_getElem? (i := 4) rfl))) (mvT hZ (hw _ (List.mem_of_getElem? (i := 5) rfl))) (by decide) (backOf (W := 1) (rm1 l Z aZ hw [] b0_64 h6 n0 Z6 fc7 fc8 fc9 fc10 fc11 fc12 fc13 A6 gle_b0_64) hZ (hw _ (List.mem_of_getElem? (i := 5) rfl)) (hw _ (List.mem_of_getElem? (i := 2) rfl)) (by decide) (by decide)) (g := (mkF m 68 (la0_2 p0) [(.ref b0_64), (.ref b0_64)])) rfl (by rw [hml]; rfl) (Steps.refl _) (a := b0_64) (argsL := []) (rest := [(.ref b0_64)]) (lenOf pd___V rfl) rfl (by show 2 * 0 + _ ≤ _; exact Nat.le_of_eq rfl) (hb hby at_68) (fun _ _ => ⟨rfl, e6, (by decide : 1 + 2 ≤ _), (by decide : 7 + 2 ≤ _)⟩)
  dsimp only [Pt.U, Pt.locs, Pt.cells, Pt.slots] at X14 l14 y14 z14 st14 hQ14
  subst l14 y14 z14
  obtain ⟨r0_681, r0_682, rfl, N14q, gle_r0_681, sz_r0_681', gle_r0_682, sz_r0_682', ne_r0_681_r0_682, u14_0, u14_1, u14_2, u14_3, u14_4, u14_5, u14_6, u14_7, u14_8, u14_9, u14_10⟩ := hQ14
  have ne_b0_64_r0_681 : b0_64 ≠ r0_681 := Nat.ne_of_lt (Nat.lt_of_lt_of_le A6.lt sz_r0_681')
  have ne_b0_64_r0_682 : b0_64 ≠ r0_682 := Nat.ne_of_lt (Nat.lt_of_lt_of_le A6.lt sz_r0_682')
  have N14 := Fr.app N0 N14q
  have Z14 : n0 ≤ T14.heap.size := Nat.le_trans Z6 u14_0.1
  refine OEnd.go (g' := (mkF m 71 (la0_2 p0) [(.ref b0_64)])) (fun _ k => st14.trans k) ?_
  refine OEnd.go (T' := T14) (g' := (mkF m 75 (la0_3 p0 b0_64) [(.ref b0_64)])) (fun t k => ?_) ?_
  · show Steps p.tables e below (T14.setTop (mkF m 71 (la0_2 p0) [(.ref b0_64)])) t
    refine XS.astore X14.here hx rfl (hb hby at_71) rfl rfl (l' := (la0_3 p0 b0_64)) rfl ?_
    show Steps p.tables e below (T14.setTop (mkF m 73 (la0_3 p0 b0_64) [])) t
    refine XS.aload X14.here hx rfl (hb hby at_73) rfl rfl ?_
    show Steps p.tables e below (T14.setTop (mkF m 75 (la0_3 p0 b0_64) [(.ref b0_64)])) t
    exact k
  obtain ⟨cq15, kq15, q15a, q15b, q15c⟩ := isOf hZ rfl u14_1
  obtain ⟨_, _, ⟨T15, L15, k15, n15⟩, -, X15, ⟨Lc15, hQ15, l15, y15, z15⟩, st15⟩ := X14.virtualBack hx (y := (⟨"com/example/wedgetree/wedgetree/core/OpenedNodes", "open", "()V"⟩ : MethodName)) (z := (⟨"com/example/wedgetree/wedgetree/core/OpenedNodes", "open", "()V"⟩ : MethodName)) hown (mvT hZ (hw _ (List.mem_of_getElem? (i := 22) rfl))) (mvT hZ (hw _ (List.mem_of_getElem? (i := 23) rfl))) (notFace_of_selects (args := #[]) (mvT hZ (hw _ (List.mem_of_getElem? (i := 25) rfl)))) (mvT hZ (hw _ (List.mem_of_getElem? (i := 25) rfl))) (mvT hZ (hw _ (List.mem_of_getElem? (i := 24) rfl))) (by decide) (backOf (W := 0) (rm4_0 l Z aZ hw [] b0_64 r0_681 r0_682 (0 : Int32) (0 : Int32) (0 : Int64) (0 : Int64) T14.heap n0 Z14 u14_2 u14_3 u14_4 u14_5 u14_6 u14_7 u14_8 u14_9 u14_10 u14_1 gle_b0_64 gle_r0_682 ne_b0_64_r0_681 ne_b0_64_r0_682 ne_r0_681_r0_682) hZ (hw _ (List.mem_of_getElem? (i := 26) rfl)) (hw _ (List.mem_of_getElem? (i := 2) rfl)) (by decide) (by decide)) q15a q15c (g := (mkF m 75 (la0_3 p0 b0_64) [(.ref b0_64)])) rfl (by rw [hml]; rfl) (Steps.refl _) (argsL := []) (rest := []) (lenOf pd___V rfl) rfl (by show 2 * 0 + _ ≤ _; exact Nat.le_of_eq rfl) (hb hby at_75) (fun _ _ => ⟨rfl, rfl, (by decide : 3 + 0 ≤ _), (by decide : 9 + 0 ≤ _)⟩)
  dsimp only [Pt.U, Pt.locs, Pt.cells, Pt.slots] at X15 l15 y15 z15 st15 hQ15
  subst l15 y15 z15
  obtain ⟨rfl, N15q, u15_0, u15_1, u15_2, u15_3, u15_4, u15_5, u15_6, u15_7, u15_8, u15_9⟩ := hQ15
  have N15 := Fr.app N14 N15q
  have Z15 : n0 ≤ T15.heap.size := Nat.le_trans Z14 u15_0.1
  have fc16 : OArr Z T15.heap r0_681 .int (1 : Int32) [(.int (0 : Int32))] (.int (0 : Int32)) := (u14_9.keep u15_0 (ninS (Ne.symm ne_b0_64_r0_681) (ninS ne_r0_681_r0_682 nin0)))
  refine OEnd.go (g' := (mkF m 78 (la0_3 p0 b0_64) [])) (fun _ k => st15.trans k) ?_
  refine OEnd.go (T' := T15) (g' := (mkF m 81 (la0_3 p0 b0_64) [(.int (1 : Int32)), (.ref b0_64)])) (fun t k => ?_) ?_
  · show Steps p.tables e below (T15.setTop (mkF m 78 (la0_3 p0 b0_64) [])) t
    refine XS.aload X15.here hx rfl (hb hby at_78) rfl rfl ?_
    show Steps p.tables e below (T15.setTop (mkF m 80 (la0_3 p0 b0_64) [(.ref b0_64)])) t
    refine XS.iconst X15.here hx rfl (hb hby at_80) ?_
    show Steps p.tables e below (T15.setTop (mkF m 81 (la0_3 p0 b0_64) [(.int (1 : Int32)), (.ref b0_64)])) t
    exact k
  obtain ⟨cq17, kq17, q17a, q17b, q17c⟩ := isOf hZ rfl u15_1
  obtain ⟨_, _, ⟨T17, L17, k17, n17⟩, -, X17, ⟨Lc17, hQ17, l17, y17, z17⟩, st17⟩ := X15.virtualBack hx (y := (⟨"com/example/wedgetree/wedgetree/core/OpenedNodes", "addWaiting", "(I)V"⟩ : MethodName)) (z := (⟨"com/example/wedgetree/wedgetree/core/OpenedNodes", "addWaiting", "(I)V"⟩ : MethodName)) hown (mvT hZ (hw _ (List.mem_of_getElem? (i := 29) rfl))) (mvT hZ (hw _ (List.mem_of_getElem? (i := 30) rfl))) (notFace_of_selects (args := #[]) (mvT hZ (hw _ (List.mem_of_getElem? (i := 32) rfl)))) (mvT hZ (hw _ (List.mem_of_getElem? (i := 32) rfl))) (mvT hZ (hw _ (List.mem_of_getElem? (i := 31) rfl))) (by decide) (backOf (W := 0) (rm5_0 l Z aZ hw [] b0_64 r0_681 r0_682 (0 : Int32) (0 : Int64) (0 : Int64) T15.heap n0 Z15 u15_2 u15_3 u15_4 u15_5 u15_6 u15_7 u15_8 fc16 u15_1 gle_b0_64 gle_r0_681 ne_b0_64_r0_681) hZ (hw _ (List.mem_of_getElem? (i := 33) rfl)) (hw _ (List.mem_of_getElem? (i := 2) rfl)) (by decide) (by decide)) q17a q17c (g := (mkF m 81 (la0_3 p0 b0_64) [(.int (1 : Int32)), (.ref b0_64)])) rfl (by rw [hml]; rfl) (Steps.refl _) (argsL := [(.int (1 : Int32))]) (rest := []) (lenOf pd__I_V rfl) rfl (by show 2 * 0 + _ ≤ _; exact Nat.le_of_eq rfl) (hb hby at_81) (fun _ _ => ⟨rfl, rfl, (by decide : 3 + 0 ≤ _), (by decide : 9 + 0 ≤ _)⟩)
  dsimp only [Pt.U, Pt.locs, Pt.cells, Pt.slots] at X17 l17 y17 z17 st17 hQ17
  subst l17 y17 z17
  obtain ⟨rfl, N17q, u17_0, u17_1, u17_2, u17_3, u17_4, u17_5, u17_6, u17_7, u17_8, u17_9⟩ := hQ17
  have N17 := Fr.app N15 N17q
  have Z17 : n0 ≤ T17.heap.size := Nat.le_trans Z15 u17_0.1
  have fc18 : OArr Z T17.heap r0_682 .boolean (1 : Int32) [(.int (0 : Int32))] (.int (0 : Int32)) := (u15_9.keep u17_0 (ninS (Ne.symm ne_b0_64_r0_682) (ninS (Ne.symm ne_r0_681_r0_682) nin0)))
  refine OEnd.go (g' := (mkF m 84 (la0_3 p0 b0_64) [])) (fun _ k => st17.trans k) ?_
  obtain ⟨T19, h19, L19, X19, e19, N19, u19_0, st19⟩ : ORchH p l e room_1 s m #[(.int p0)] below meth c n0 T17 (mkF m 84 (la0_3 p0 b0_64) []) (mkF m 93 (la0_3 p0 b0_64) []) 3 9 (fun h => Keep T17.heap h []) := by
    have KR19 : Keep T17.heap T17.heap [] := Keep.refl _ _
    refine ORchH.go (T' := T17) (g' := (mkF m 85 (la0_3 p0 b0_64) [(.int (v0_11 p0))])) (fun t k => ?_) ?_
    · show Steps p.tables e below (T17.setTop (mkF m 84 (la0_3 p0 b0_64) [])) t
      refine XS.iloadN X17.here hx rfl (hb hby at_84) rfl ?_
      show Steps p.tables e below (T17.setTop (mkF m 85 (la0_3 p0 b0_64) [(.int (v0_11 p0))])) t
      exact k
    by_cases hc21 : (v0_11 p0) = (0 : Int32)
    · skip
      refine ORchH.go (T' := T17) (g' := (mkF m 93 (la0_3 p0 b0_64) [])) (fun t k => ?_) ?_
      · show Steps p.tables e below (T17.setTop (mkF m 85 (la0_3 p0 b0_64) [(.int (v0_11 p0))])) t
        refine XS.ifYes X17.here hx rfl (pc0 := 85) (pc' := 93) rfl (hb hby at_85) rfl ((if0 _ _).trans (teq (hc21)).1) (by decide) (by decide) ?_
        show Steps p.tables e below (T17.setTop (mkF m 93 (la0_3 p0 b0_64) [])) t
        exact k
      exact ⟨_, _, _, X17, rfl, N17, (own_at rfl (P := fun h => Keep T17.heap h []) KR19), fun t k => k⟩
    · skip
      refine ORchH.go (T' := T17) (g' := (mkF m 88 (la0_3 p0 b0_64) [])) (fun t k => ?_) ?_
      · show Steps p.tables e below (T17.setTop (mkF m 85 (la0_3 p0 b0_64) [(.int (v0_11 p0))])) t
        refine XS.ifNo X17.here hx rfl (hb hby at_85) rfl ((if0 _ _).trans (feq (hc21)).1) ?_
        show Steps p.tables e below (T17.setTop (mkF m 88 (la0_3 p0 b0_64) [])) t
        exact k
      refine ORchH.go (T' := T17) (g' := (mkF m 90 (la0_3 p0 b0_64) [(.ref b0_64)])) (fun t k => ?_) ?_
      · show Steps p.tables e below (T17.setTop (mkF m 88 (la0_3 p0 b0_64) [])) t
        refine XS.aload X17.here hx rfl (hb hby at_88) rfl rfl ?_
        show Steps p.tables e below (T17.setTop (mkF m 90 (la0_3 p0 b0_64) [(.ref b0_64)])) t
        exact k
      obtain ⟨cq22, kq22, q22a, q22b, q22c⟩ := isOf hZ rfl u17_1
      obtain ⟨_, _, ⟨T22, L22, k22, n22⟩, -, X22, ⟨Lc22, hQ22, l22, y22, z22⟩, st22⟩ := X17.virtualBack hx (y := (⟨"com/example/wedgetree/wedgetree/core/OpenedNodes", "answered", "()V"⟩ : MethodName)) (z := (⟨"com/example/wedgetree/wedgetree/core/OpenedNodes", "answered", "()V"⟩ : MethodName)) hown (mvT hZ (hw _ (List.mem_of_getElem? (i := 121) rfl))) (mvT hZ (hw _ (List.mem_of_getElem? (i := 122) rfl))) (notFace_of_selects (args := #[]) (mvT hZ (hw _ (List.mem_of_getElem? (i := 124) rfl)))) (mvT hZ (hw _ (List.mem_of_getElem? (i := 124) rfl))) (mvT hZ (hw _ (List.mem_of_getElem? (i := 123) rfl))) (by decide) (backOf (W := 0) (rm20_0 l Z aZ hw [] b0_64 T17.heap n0 Z17 u17_5 u17_6) hZ (hw _ (List.mem_of_getElem? (i := 125) rfl)) (hw _ (List.mem_of_getElem? (i := 2) rfl)) (by decide) (by decide)) q22a q22c (g := (mkF m 90 (la0_3 p0 b0_64) [(.ref b0_64)])) rfl (by rw [hml]; rfl) (Steps.refl _) (argsL := []) (rest := []) (lenOf pd___V rfl) rfl (by show 2 * 0 + _ ≤ _; exact Nat.le_of_eq rfl) (hb hby at_90) (fun _ _ => ⟨rfl, rfl, (by decide : 3 + 0 ≤ _), (by decide : 9 + 0 ≤ _)⟩)
      dsimp only [Pt.U, Pt.locs, Pt.cells, Pt.slots] at X22 l22 y22 z22 st22 hQ22
      subst l22 y22 z22
      obtain ⟨rfl, N22q, e22⟩ := hQ22
      have N22 := Fr.app N17 N22q
      refine ORchH.go (g' := (mkF m 93 (la0_3 p0 b0_64) [])) (fun _ k => st22.trans k) ?_
      exact ⟨_, _, _, X22, e22, N22, (own_at rfl (P := fun h => Keep T17.heap h []) KR19), fun t k => k⟩
  have Z19 : n0 ≤ h19.size := Nat.le_trans Z17 u19_0.1
  have fc23 : OArr Z h19 r0_682 .boolean (1 : Int32) [(.int (0 : Int32))] (.int (0 : Int32)) := (fc18.keep u19_0 nin0)
  have fc24 : Exa Z h19 b0_64 "com/example/wedgetree/wedgetree/core/OpenedNodes" := (u17_1.keep u19_0)
  have fc25 : Fld Z h19 b0_64 "com/example/wedgetree/wedgetree/core/OpenedNodes" "waitingDepths" "[I" (.ref r0_681) := (u17_2.keep u19_0 nin0)
  have fc26 : Fld Z h19 b0_64 "com/example/wedgetree/wedgetree/core/OpenedNodes" "waiting" "I" (.int (1 : Int32)) := (u17_3.keep u19_0 nin0)
  have fc27 : Fld Z h19 b0_64 "com/example/wedgetree/wedgetree/core/OpenedNodes" "holdsAnswer" "[Z" (.ref r0_682) := (u17_4.keep u19_0 nin0)
  have fc28 : Fld Z h19 b0_64 "com/example/wedgetree/wedgetree/core/OpenedNodes" "tallying" "Z" (.int (1 : Int32)) := (u17_5.keep u19_0 nin0)
  have fc29 : Fld Z h19 b0_64 "com/example/wedgetree/wedgetree/core/OpenedNodes" "depth" "I" (.int (0 : Int32)) := (u17_6.keep u19_0 nin0)
  have fc30 : Fld Z h19 b0_64 "com/example/wedgetree/wedgetree/core/OpenedNodes" "opened" "J" (.long (0 : Int64)) := (u17_7.keep u19_0 nin0)
  have fc31 : Fld Z h19 b0_64 "com/example/wedgetree/wedgetree/core/OpenedNodes" "holding" "J" (.long (0 : Int64)) := (u17_8.keep u19_0 nin0)
  have fc32 : OArr Z h19 r0_681 .int (1 : Int32) [(.int (1 : Int32))] (.int (0 : Int32)) := (u17_9.keep u19_0 nin0)
  refine OEnd.go (g' := (mkF m 93 (la0_3 p0 b0_64) [])) st19 ?_
  refine OEnd.go (T' := T19) (g' := (mkF m 95 (la0_3 p0 b0_64) [(.ref b0_64)])) (fun t k => ?_) ?_
  · show Steps p.tables e below (T19.setTop (mkF m 93 (la0_3 p0 b0_64) [])) t
    refine XS.aload X19.here hx rfl (hb hby at_93) rfl rfl ?_
    show Steps p.tables e below (T19.setTop (mkF m 95 (la0_3 p0 b0_64) [(.ref b0_64)])) t
    exact k
  obtain ⟨cq33, kq33, q33a, q33b, q33c⟩ := isOf hZ e19 fc24
  obtain ⟨_, _, ⟨T33, L33, k33, n33⟩, -, X33, ⟨Lc33, hQ33, l33, y33, z33⟩, st33⟩ := X19.virtualBack hx (y := (⟨"com/example/wedgetree/wedgetree/core/OpenedNodes", "open", "()V"⟩ : MethodName)) (z := (⟨"com/example/wedgetree/wedgetree/core/OpenedNodes", "open", "()V"⟩ : MethodName)) hown (mvT hZ (hw _ (List.mem_of_getElem? (i := 22) rfl))) (mvT hZ (hw _ (List.mem_of_getElem? (i := 23) rfl))) (notFace_of_selects (args := #[]) (mvT hZ (hw _ (List.mem_of_getElem? (i := 25) rfl)))) (mvT hZ (hw _ (List.mem_of_getElem? (i := 25) rfl))) (mvT hZ (hw _ (List.mem_of_getElem? (i := 24) rfl))) (by decide) (backOf (W := 0) (rm4_1 l Z aZ hw [] b0_64 r0_681 r0_682 (0 : Int32) (0 : Int32) (0 : Int64) (0 : Int64) h19 n0 Z19 fc25 fc26 fc27 fc28 fc29 fc30 fc31 fc32 fc23 fc24 gle_b0_64 gle_r0_682 ne_b0_64_r0_681 ne_b0_64_r0_682 ne_r0_681_r0_682) hZ (hw _ (List.mem_of_getElem? (i := 26) rfl)) (hw _ (List.mem_of_getElem? (i := 2) rfl)) (by decide) (by decide)) q33a q33c (g := (mkF m 95 (la0_3 p0 b0_64) [(.ref b0_64)])) rfl (by rw [hml]; rfl) (Steps.refl _) (argsL := []) (rest := []) (lenOf pd___V rfl) rfl (by show 2 * 0 + _ ≤ _; exact Nat.le_of_eq rfl) (hb hby at_95) (fun _ _ => ⟨rfl, e19, (by decide : 3 + 1 ≤ _), (by decide : 9 + 2 ≤ _)⟩)
  dsimp only [Pt.U, Pt.locs, Pt.cells, Pt.slots] at X33 l33 y33 z33 st33 hQ33
  subst l33 y33 z33
  obtain ⟨r0_951, rfl, N33q, gle_r0_951, sz_r0_951', u33_0, u33_1, u33_2, u33_3, u33_4, u33_5, u33_6, u33_7, u33_8, u33_9⟩ := hQ33
  have ne_r0_682_r0_951 : r0_682 ≠ r0_951 := Nat.ne_of_lt (Nat.lt_of_lt_of_le fc23.lt sz_r0_951')
  have ne_b0_64_r0_951 : b0_64 ≠ r0_951 := Nat.ne_of_lt (Nat.lt_of_lt_of_le fc24.lt sz_r0_951')
  have ne_r0_681_r0_951 : r0_681 ≠ r0_951 := Nat.ne_of_lt (Nat.lt_of_lt_of_le fc32.lt sz_r0_951')
  have N33 := Fr.app N19 N33q
  have Z33 : n0 ≤ T33.heap.size := Nat.le_trans Z19 u33_0.1
  have fc34 : OArr Z T33.heap r0_682 .boolean (1 : Int32) [(.int (0 : Int32))] (.int (0 : Int32)) := (fc23.keep u33_0 (ninS (Ne.symm ne_b0_64_r0_682) nin0))
  have fc35 : OArr Z T33.heap r0_681 .int (1 : Int32) [(.int (1 : Int32))] (.int (0 : Int32)) := (fc32.keep u33_0 (ninS (Ne.symm ne_b0_64_r0_681) nin0))
  refine OEnd.go (g' := (mkF m 98 (la0_3 p0 b0_64) [])) (fun _ k => st33.trans k) ?_
  refine OEnd.go (T' := T33) (g' := (mkF m 101 (la0_3 p0 b0_64) [(.int (1 : Int32)), (.ref b0_64)])) (fun t k => ?_) ?_
  · show Steps p.tables e below (T33.setTop (mkF m 98 (la0_3 p0 b0_64) [])) t
    refine XS.aload X33.here hx rfl (hb hby at_98) rfl rfl ?_
    show Steps p.tables e below (T33.setTop (mkF m 100 (la0_3 p0 b0_64) [(.ref b0_64)])) t
    refine XS.iconst X33.here hx rfl (hb hby at_100) ?_
    show Steps p.tables e below (T33.setTop (mkF m 101 (la0_3 p0 b0_64) [(.int (1 : Int32)), (.ref b0_64)])) t
    exact k
  obtain ⟨cq36, kq36, q36a, q36b, q36c⟩ := isOf hZ rfl u33_1
  obtain ⟨_, _, ⟨T36, L36, k36, n36⟩, -, X36, ⟨Lc36, hQ36, l36, y36, z36⟩, st36⟩ := X33.virtualBack hx (y := (⟨"com/example/wedgetree/wedgetree/core/OpenedNodes", "addWaiting", "(I)V"⟩ : MethodName)) (z := (⟨"com/example/wedgetree/wedgetree/core/OpenedNodes", "addWaiting", "(I)V"⟩ : MethodName)) hown (mvT hZ (hw _ (List.mem_of_getElem? (i := 29) rfl))) (mvT hZ (hw _ (List.mem_of_getElem? (i := 30) rfl))) (notFace_of_selects (args := #[]) (mvT hZ (hw _ (List.mem_of_getElem? (i := 32) rfl)))) (mvT hZ (hw _ (List.mem_of_getElem? (i := 32) rfl))) (mvT hZ (hw _ (List.mem_of_getElem? (i := 31) rfl))) (by decide) (backOf (W := 0) (rm5_1 l Z aZ hw [] b0_64 r0_681 r0_951 (1 : Int32) ((0 : Int64) + (1 : Int64)) (0 : Int64) T33.heap n0 Z33 u33_2 u33_3 u33_4 u33_5 u33_6 u33_7 u33_8 fc35 u33_1 gle_b0_64 gle_r0_681 ne_b0_64_r0_681) hZ (hw _ (List.mem_of_getElem? (i := 33) rfl)) (hw _ (List.mem_of_getElem? (i := 2) rfl)) (by decide) (by decide)) q36a q36c (g := (mkF m 101 (la0_3 p0 b0_64) [(.int (1 : Int32)), (.ref b0_64)])) rfl (by rw [hml]; rfl) (Steps.refl _) (argsL := [(.int (1 : Int32))]) (rest := []) (lenOf pd__I_V rfl) rfl (by show 2 * 0 + _ ≤ _; exact Nat.le_of_eq rfl) (hb hby at_101) (fun _ _ => ⟨rfl, rfl, (by decide : 4 + 0 ≤ _), (by decide : 11 + 0 ≤ _)⟩)
  dsimp only [Pt.U, Pt.locs, Pt.cells, Pt.slots] at X36 l36 y36 z36 st36 hQ36
  subst l36 y36 z36
  obtain ⟨rfl, N36q, u36_0, u36_1, u36_2, u36_3, u36_4, u36_5, u36_6, u36_7, u36_8, u36_9⟩ := hQ36
  have N36 := Fr.app N33 N36q
  have Z36 : n0 ≤ T36.heap.size := Nat.le_trans Z33 u36_0.1
  have fc37 : OArr Z T36.heap r0_682 .boolean (1 : Int32) [(.int (0 : Int32))] (.int (0 : Int32)) := (fc34.keep u36_0 (ninS (Ne.symm ne_b0_64_r0_682) (ninS (Ne.symm ne_r0_681_r0_682) nin0)))
  have fc38 : OArr Z T36.heap r0_951 .boolean (2 : Int32) [(.int (0 : Int32)), (.int (0 : Int32))] (.int (0 : Int32)) := (u33_9.keep u36_0 (ninS (Ne.symm ne_b0_64_r0_951) (ninS (Ne.symm ne_r0_681_r0_951) nin0)))
  refine OEnd.go (g' := (mkF m 104 (la0_3 p0 b0_64) [])) (fun _ k => st36.trans k) ?_
  obtain ⟨T39, h39, L39, X39, e39, N39, ⟨u39_0, u39_1, u39_2, u39_3, u39_4, u39_5, u39_6, u39_7, u39_8⟩, st39⟩ : ORchH p l e room_1 s m #[(.int p0)] below meth c n0 T36 (mkF m 104 (la0_3 p0 b0_64) []) (mkF m 113 (la0_3 p0 b0_64) []) 4 11 (fun h => Keep T36.heap h [b0_64, r0_951] ∧ Fld Z h b0_64 "com/example/wedgetree/wedgetree/core/OpenedNodes" "waitingDepths" "[I" (.ref r0_681) ∧ Fld Z h b0_64 "com/example/wedgetree/wedgetree/core/OpenedNodes" "waiting" "I" (.int (1 : Int32)) ∧ Fld Z h b0_64 "com/example/wedgetree/wedgetree/core/OpenedNodes" "holdsAnswer" "[Z" (.ref r0_951) ∧ Fld Z h b0_64 "com/example/wedgetree/wedgetree/core/OpenedNodes" "tallying" "Z" (.int (1 : Int32)) ∧ Fld Z h b0_64 "com/example/wedgetree/wedgetree/core/OpenedNodes" "depth" "I" (.int (1 : Int32)) ∧ Fld Z h b0_64 "com/example/wedgetree/wedgetree/core/OpenedNodes" "opened" "J" (.long ((0 : Int64) + (1 : Int64))) ∧ Fld Z h b0_64 "com/example/wedgetree/wedgetree/core/OpenedNodes" "holding" "J" (.long (v0_113_holding p0)) ∧ OArr Z h r0_951 .boolean (2 : Int32) [(.int (0 : Int32)), (.int (v0_113_r0_951_1 p0))] (.int (0 : Int32))) := by
    have KR39 : Keep T36.heap T36.heap [b0_64, r0_951] := Keep.refl _ _
    refine ORchH.go (T' := T36) (g' := (mkF m 105 (la0_3 p0 b0_64) [(.int (v0_23 p0))])) (fun t k => ?_) ?_
    · show Steps p.tables e below (T36.setTop (mkF m 104 (la0_3 p0 b0_64) [])) t
      refine XS.iloadN X36.here hx rfl (hb hby at_104) rfl ?_
      show Steps p.tables e below (T36.setTop (mkF m 105 (la0_3 p0 b0_64) [(.int (v0_23 p0))])) t
      exact k
    by_cases hc41 : (v0_23 p0) = (0 : Int32)
    · skip
      refine ORchH.go (T' := T36) (g' := (mkF m 113 (la0_3 p0 b0_64) [])) (fun t k => ?_) ?_
      · show Steps p.tables e below (T36.setTop (mkF m 105 (la0_3 p0 b0_64) [(.int (v0_23 p0))])) t
        refine XS.ifYes X36.here hx rfl (pc0 := 105) (pc' := 113) rfl (hb hby at_105) rfl ((if0 _ _).trans (teq (hc41)).1) (by decide) (by decide) ?_
        show Steps p.tables e below (T36.setTop (mkF m 113 (la0_3 p0 b0_64) [])) t
        exact k
      exact ⟨_, _, _, X36, rfl, N36, ⟨(own_at rfl (P := fun h => Keep T36.heap h [b0_64, r0_951]) KR39), u36_2, u36_3, u36_4, u36_5, u36_6, u36_7, (own_p (P := fun (z : Int64) => Fld Z T36.heap b0_64 "com/example/wedgetree/wedgetree/core/OpenedNodes" "holding" "J" (.long z)) (own_symm (if_pos hc41)) u36_8), (own_p (P := fun (z : Int32) => OArr Z T36.heap r0_951 .boolean (2 : Int32) [(.int (0 : Int32)), (.int z)] (.int (0 : Int32))) (own_symm (if_pos hc41)) fc38)⟩, fun t k => k⟩
    · skip
      refine ORchH.go (T' := T36) (g' := (mkF m 108 (la0_3 p0 b0_64) [])) (fun t k => ?_) ?_
      · show Steps p.tables e below (T36.setTop (mkF m 105 (la0_3 p0 b0_64) [(.int (v0_23 p0))])) t
        refine XS.ifNo X36.here hx rfl (hb hby at_105) rfl ((if0 _ _).trans (feq (hc41)).1) ?_
        show Steps p.tables e below (T36.setTop (mkF m 108 (la0_3 p0 b0_64) [])) t
        exact k
      refine ORchH.go (T' := T36) (g' := (mkF m 110 (la0_3 p0 b0_64) [(.ref b0_64)])) (fun t k => ?_) ?_
      · show Steps p.tables e below (T36.setTop (mkF m 108 (la0_3 p0 b0_64) [])) t
        refine XS.aload X36.here hx rfl (hb hby at_108) rfl rfl ?_
        show Steps p.tables e below (T36.setTop (mkF m 110 (la0_3 p0 b0_64) [(.ref b0_64)])) t
        exact k
      obtain ⟨cq42, kq42, q42a, q42b, q42c⟩ := isOf hZ rfl u36_1
      obtain ⟨_, _, ⟨T42, L42, k42, n42⟩, -, X42, ⟨Lc42, hQ42, l42, y42, z42⟩, st42⟩ := X36.virtualBack hx (y := (⟨"com/example/wedgetree/wedgetree/core/OpenedNodes", "answered", "()V"⟩ : MethodName)) (z := (⟨"com/example/wedgetree/wedgetree/core/OpenedNodes", "answered", "()V"⟩ : MethodName)) hown (mvT hZ (hw _ (List.mem_of_getElem? (i := 121) rfl))) (mvT hZ (hw _ (List.mem_of_getElem? (i := 122) rfl))) (notFace_of_selects (args := #[]) (mvT hZ (hw _ (List.mem_of_getElem? (i := 124) rfl)))) (mvT hZ (hw _ (List.mem_of_getElem? (i := 124) rfl))) (mvT hZ (hw _ (List.mem_of_getElem? (i := 123) rfl))) (by decide) (backOf (W := 0) (rm20_1 l Z aZ hw [] b0_64 r0_681 r0_951 (0 : Int32) (0 : Int32) (1 : Int32) ((0 : Int64) + (1 : Int64)) (0 : Int64) T36.heap n0 Z36 u36_2 u36_3 u36_4 u36_5 u36_6 u36_7 u36_8 fc38 u36_1 gle_b0_64 gle_r0_951 ne_b0_64_r0_951) hZ (hw _ (List.mem_of_getElem? (i := 125) rfl)) (hw _ (List.mem_of_getElem? (i := 2) rfl)) (by decide) (by decide)) q42a q42c (g := (mkF m 110 (la0_3 p0 b0_64) [(.ref b0_64)])) rfl (by rw [hml]; rfl) (Steps.refl _) (argsL := []) (rest := []) (lenOf pd___V rfl) rfl (by show 2 * 0 + _ ≤ _; exact Nat.le_of_eq rfl) (hb hby at_110) (fun _ _ => ⟨rfl, rfl, (by decide : 4 + 0 ≤ _), (by decide : 11 + 0 ≤ _)⟩)
      dsimp only [Pt.U, Pt.locs, Pt.cells, Pt.slots] at X42 l42 y42 z42 st42 hQ42
      subst l42 y42 z42
      obtain ⟨rfl, N42q, u42_0, u42_1, u42_2, u42_3, u42_4, u42_5, u42_6, u42_7, u42_8, u42_9⟩ := hQ42
      have N42 := Fr.app N36 N42q
      have Z42 : n0 ≤ T42.heap.size := Nat.le_trans Z36 u42_0.1
      have K42 : Keep T36.heap T42.heap [b0_64, r0_951] := KR39.trans u42_0 (allS (Or.inl (List.mem_of_getElem? (i := 0) rfl)) (allS (Or.inl (List.mem_of_getElem? (i := 1) rfl)) all0))
      have fc43 : OArr Z T42.heap r0_682 .boolean (1 : Int32) [(.int (0 : Int32))] (.int (0 : Int32)) := (fc37.keep u42_0 (ninS (Ne.symm ne_b0_64_r0_682) (ninS ne_r0_682_r0_951 nin0)))
      have fc44 : OArr Z T42.heap r0_681 .int (1 : Int32) [(.int (2 : Int32))] (.int (0 : Int32)) := (u36_9.keep u42_0 (ninS (Ne.symm ne_b0_64_r0_681) (ninS ne_r0_681_r0_951 nin0)))
      refine ORchH.go (g' := (mkF m 113 (la0_3 p0 b0_64) [])) (fun _ k => st42.trans k) ?_
      exact ⟨_, _, _, X42, rfl, N42, ⟨(own_at rfl (P := fun h => Keep T36.heap h [b0_64, r0_951]) K42), u42_2, u42_3, u42_4, u42_5, u42_6, u42_7, (own_p (P := fun (z : Int64) => Fld Z T42.heap b0_64 "com/example/wedgetree/wedgetree/core/OpenedNodes" "holding" "J" (.long z)) (own_symm (if_neg hc41)) u42_9), (own_p (P := fun (z : Int32) => OArr Z T42.heap r0_951 .boolean (2 : Int32) [(.int (0 : Int32)), (.int z)] (.int (0 : Int32))) (own_symm (if_neg hc41)) u42_8)⟩, fun t k => k⟩
  have Z39 : n0 ≤ h39.size := Nat.le_trans Z36 u39_0.1
  have fc45 : OArr Z h39 r0_682 .boolean (1 : Int32) [(.int (0 : Int32))] (.int (0 : Int32)) := (fc37.keep u39_0 (ninS (Ne.symm ne_b0_64_r0_682) (ninS ne_r0_682_r0_951 nin0)))
  have fc46 : Exa Z h39 b0_64 "com/example/wedgetree/wedgetree/core/OpenedNodes" := (u36_1.keep u39_0)
  have fc47 : OArr Z h39 r0_681 .int (1 : Int32) [(.int (2 : Int32))] (.int (0 : Int32)) := (u36_9.keep u39_0 (ninS (Ne.symm ne_b0_64_r0_681) (ninS ne_r0_681_r0_951 nin0)))
  refine OEnd.go (g' := (mkF m 113 (la0_3 p0 b0_64) [])) st39 ?_
  refine OEnd.go (T' := T39) (g' := (mkF m 115 (la0_3 p0 b0_64) [(.ref b0_64)])) (fun t k => ?_) ?_
  · show Steps p.tables e below (T39.setTop (mkF m 113 (la0_3 p0 b0_64) [])) t
    refine XS.aload X39.here hx rfl (hb hby at_113) rfl rfl ?_
    show Steps p.tables e below (T39.setTop (mkF m 115 (la0_3 p0 b0_64) [(.ref b0_64)])) t
    exact k
  obtain ⟨cq48, kq48, q48a, q48b, q48c⟩ := isOf hZ e39 fc46
  obtain ⟨_, _, ⟨T48, L48, k48, n48⟩, -, X48, ⟨Lc48, hQ48, l48, y48, z48⟩, st48⟩ := X39.virtualBack hx (y := (⟨"com/example/wedgetree/wedgetree/core/OpenedNodes", "open", "()V"⟩ : MethodName)) (z := (⟨"com/example/wedgetree/wedgetree/core/OpenedNodes", "open", "()V"⟩ : MethodName)) hown (mvT hZ (hw _ (List.mem_of_getElem? (i := 22) rfl))) (mvT hZ (hw _ (List.mem_of_getElem? (i := 23) rfl))) (notFace_of_selects (args := #[]) (mvT hZ (hw _ (List.mem_of_getElem? (i := 25) rfl)))) (mvT hZ (hw _ (List.mem_of_getElem? (i := 25) rfl))) (mvT hZ (hw _ (List.mem_of_getElem? (i := 24) rfl))) (by decide) (backOf (W := 0) (rm4_2 l Z aZ hw [] b0_64 r0_681 r0_951 (0 : Int32) (v0_113_r0_951_1 p0) (1 : Int32) ((0 : Int64) + (1 : Int64)) (v0_113_holding p0) h39 n0 Z39 u39_1 u39_2 u39_3 u39_4 u39_5 u39_6 u39_7 fc47 u39_8 fc46 gle_b0_64 gle_r0_951 ne_b0_64_r0_681 ne_b0_64_r0_951 ne_r0_681_r0_951) hZ (hw _ (List.mem_of_getElem? (i := 26) rfl)) (hw _ (List.mem_of_getElem? (i := 2) rfl)) (by decide) (by decide)) q48a q48c (g := (mkF m 115 (la0_3 p0 b0_64) [(.ref b0_64)])) rfl (by rw [hml]; rfl) (Steps.refl _) (argsL := []) (rest := []) (lenOf pd___V rfl) rfl (by show 2 * 0 + _ ≤ _; exact Nat.le_of_eq rfl) (hb hby at_115) (fun _ _ => ⟨rfl, e39, (by decide : 4 + 1 ≤ _), (by decide : 11 + 4 ≤ _)⟩)
  dsimp only [Pt.U, Pt.locs, Pt.cells, Pt.slots] at X48 l48 y48 z48 st48 hQ48
  subst l48 y48 z48
  obtain ⟨r0_1151, rfl, N48q, gle_r0_1151, sz_r0_1151', u48_0, u48_1, u48_2, u48_3, u48_4, u48_5, u48_6, u48_7, u48_8, u48_9⟩ := hQ48
  have ne_r0_682_r0_1151 : r0_682 ≠ r0_1151 := Nat.ne_of_lt (Nat.lt_of_lt_of_le fc45.lt sz_r0_1151')
  have ne_b0_64_r0_1151 : b0_64 ≠ r0_1151 := Nat.ne_of_lt (Nat.lt_of_lt_of_le fc46.lt sz_r0_1151')
  have ne_r0_681_r0_1151 : r0_681 ≠ r0_1151 := Nat.ne_of_lt (Nat.lt_of_lt_of_le fc47.lt sz_r0_1151')
  have ne_r0_951_r0_1151 : r0_951 ≠ r0_1151 := Nat.ne_of_lt (Nat.lt_of_lt_of_le u39_8.lt sz_r0_1151')
  have N48 := Fr.app N39 N48q
  have Z48 : n0 ≤ T48.heap.size := Nat.le_trans Z39 u48_0.1
  have fc49 : OArr Z T48.heap r0_682 .boolean (1 : Int32) [(.int (0 : Int32))] (.int (0 : Int32)) := (fc45.keep u48_0 (ninS (Ne.symm ne_b0_64_r0_682) nin0))
  have fc50 : OArr Z T48.heap r0_681 .int (1 : Int32) [(.int (2 : Int32))] (.int (0 : Int32)) := (fc47.keep u48_0 (ninS (Ne.symm ne_b0_64_r0_681) nin0))
  have fc51 : OArr Z T48.heap r0_951 .boolean (2 : Int32) [(.int (0 : Int32)), (.int (v0_113_r0_951_1 p0))] (.int (0 : Int32)) := (u39_8.keep u48_0 (ninS (Ne.symm ne_b0_64_r0_951) nin0))
  refine OEnd.go (g' := (mkF m 118 (la0_3 p0 b0_64) [])) (fun _ k => st48.trans k) ?_
  refine OEnd.go (T' := T48) (g' := (mkF m 121 (la0_3 p0 b0_64) [(.int (1 : Int32)), (.ref b0_64)])) (fun t k => ?_) ?_
  · show Steps p.tables e below (T48.setTop (mkF m 118 (la0_3 p0 b0_64) [])) t
    refine XS.aload X48.here hx rfl (hb hby at_118) rfl rfl ?_
    show Steps p.tables e below (T48.setTop (mkF m 120 (la0_3 p0 b0_64) [(.ref b0_64)])) t
    refine XS.iconst X48.here hx rfl (hb hby at_120) ?_
    show Steps p.tables e below (T48.setTop (mkF m 121 (la0_3 p0 b0_64) [(.int (1 : Int32)), (.ref b0_64)])) t
    exact k
  obtain ⟨cq52, kq52, q52a, q52b, q52c⟩ := isOf hZ rfl u48_1
  obtain ⟨_, _, ⟨T52, L52, k52, n52⟩, -, X52, ⟨Lc52, hQ52, l52, y52, z52⟩, st52⟩ := X48.virtualBack hx (y := (⟨"com/example/wedgetree/wedgetree/core/OpenedNodes", "addWaiting", "(I)V"⟩ : MethodName)) (z := (⟨"com/example/wedgetree/wedgetree/core/OpenedNodes", "addWaiting", "(I)V"⟩ : MethodName)) hown (mvT hZ (hw _ (List.mem_of_getElem? (i := 29) rfl))) (mvT hZ (hw _ (List.mem_of_getElem? (i := 30) rfl))) (notFace_of_selects (args := #[]) (mvT hZ (hw _ (List.mem_of_getElem? (i := 32) rfl)))) (mvT hZ (hw _ (List.mem_of_getElem? (i := 32) rfl))) (mvT hZ (hw _ (List.mem_of_getElem? (i := 31) rfl))) (by decide) (backOf (W := 0) (rm5_2 l Z aZ hw [] b0_64 r0_681 r0_1151 (2 : Int32) (((0 : Int64) + (1 : Int64)) + (1 : Int64)) (v0_113_holding p0) T48.heap n0 Z48 u48_2 u48_3 u48_4 u48_5 u48_6 u48_7 u48_8 fc50 u48_1 gle_b0_64 gle_r0_681 ne_b0_64_r0_681) hZ (hw _ (List.mem_of_getElem? (i := 33) rfl)) (hw _ (List.mem_of_getElem? (i := 2) rfl)) (by decide) (by decide)) q52a q52c (g := (mkF m 121 (la0_3 p0 b0_64) [(.int (1 : Int32)), (.ref b0_64)])) rfl (by rw [hml]; rfl) (Steps.refl _) (argsL := [(.int (1 : Int32))]) (rest := []) (lenOf pd__I_V rfl) rfl (by show 2 * 0 + _ ≤ _; exact Nat.le_of_eq rfl) (hb hby at_121) (fun _ _ => ⟨rfl, rfl, (by decide : 5 + 0 ≤ _), (by decide : 15 + 0 ≤ _)⟩)
  dsimp only [Pt.U, Pt.locs, Pt.cells, Pt.slots] at X52 l52 y52 z52 st52 hQ52
  subst l52 y52 z52
  obtain ⟨rfl, N52q, u52_0, u52_1, u52_2, u52_3, u52_4, u52_5, u52_6, u52_7, u52_8, u52_9⟩ := hQ52
  have N52 := Fr.app N48 N52q
  have Z52 : n0 ≤ T52.heap.size := Nat.le_trans Z48 u52_0.1
  have fc53 : OArr Z T52.heap r0_682 .boolean (1 : Int32) [(.int (0 : Int32))] (.int (0 : Int32)) := (fc49.keep u52_0 (ninS (Ne.symm ne_b0_64_r0_682) (ninS (Ne.symm ne_r0_681_r0_682) nin0)))
  have fc54 : OArr Z T52.heap r0_951 .boolean (2 : Int32) [(.int (0 : Int32)), (.int (v0_113_r0_951_1 p0))] (.int (0 : Int32)) := (fc51.keep u52_0 (ninS (Ne.symm ne_b0_64_r0_951) (ninS (Ne.symm ne_r0_681_r0_951) nin0)))
  have fc55 : OArr Z T52.heap r0_1151 .boolean (4 : Int32) [(.int (0 : Int32)), (.int (v0_113_r0_951_1 p0)), (.int (0 : Int32)), (.int (0 : Int32))] (.int (0 : Int32)) := (u48_9.keep u52_0 (ninS (Ne.symm ne_b0_64_r0_1151) (ninS (Ne.symm ne_r0_681_r0_1151) nin0)))
  refine OEnd.go (g' := (mkF m 124 (la0_3 p0 b0_64) [])) (fun _ k => st52.trans k) ?_
  obtain ⟨T56, h56, L56, X56, e56, N56, ⟨u56_0, u56_1, u56_2, u56_3, u56_4, u56_5, u56_6, u56_7, u56_8⟩, st56⟩ : ORchH p l e room_1 s m #[(.int p0)] below meth c n0 T52 (mkF m 124 (la0_3 p0 b0_64) []) (mkF m 133 (la0_3 p0 b0_64) []) 5 15 (fun h => Keep T52.heap h [b0_64, r0_1151] ∧ Fld Z h b0_64 "com/example/wedgetree/wedgetree/core/OpenedNodes" "waitingDepths" "[I" (.ref r0_681) ∧ Fld Z h b0_64 "com/example/wedgetree/wedgetree/core/OpenedNodes" "waiting" "I" (.int (1 : Int32)) ∧ Fld Z h b0_64 "com/example/wedgetree/wedgetree/core/OpenedNodes" "holdsAnswer" "[Z" (.ref r0_1151) ∧ Fld Z h b0_64 "com/example/wedgetree/wedgetree/core/OpenedNodes" "tallying" "Z" (.int (1 : Int32)) ∧ Fld Z h b0_64 "com/example/wedgetree/wedgetree/core/OpenedNodes" "depth" "I" (.int (2 : Int32)) ∧ Fld Z h b0_64 "com/example/wedgetree/wedgetree/core/OpenedNodes" "opened" "J" (.long (v0_133_opened p0)) ∧ Fld Z h b0_64 "com/example/wedgetree/wedgetree/core/OpenedNodes" "holding" "J" (.long (v0_133_holding p0)) ∧ OArr Z h r0_1151 .boolean (4 : Int32) [(.int (0 : Int32)), (.int (v0_133_r0_1151_1 p0)), (.int (v0_133_r0_1151_2 p0)), (.int (0 : Int32))] (.int (0 : Int32))) := by
    have KR56 : Keep T52.heap T52.heap [b0_64, r0_1151] := Keep.refl _ _
    refine ORchH.go (T' := T52) (g' := (mkF m 125 (la0_3 p0 b0_64) [(.int (v0_35 p0))])) (fun t k => ?_) ?_
    · show Steps p.tables e below (T52.setTop (mkF m 124 (la0_3 p0 b0_64) [])) t
      refine XS.iloadN X52.here hx rfl (hb hby at_124) rfl ?_
      show Steps p.tables e below (T52.setTop (mkF m 125 (la0_3 p0 b0_64) [(.int (v0_35 p0))])) t
      exact k
    by_cases hc58 : (v0_35 p0) = (0 : Int32)
    · skip
      refine ORchH.go (T' := T52) (g' := (mkF m 133 (la0_3 p0 b0_64) [])) (fun t k => ?_) ?_
      · show Steps p.tables e below (T52.setTop (mkF m 125 (la0_3 p0 b0_64) [(.int (v0_35 p0))])) t
        refine XS.ifYes X52.here hx rfl (pc0 := 125) (pc' := 133) rfl (hb hby at_125) rfl ((if0 _ _).trans (teq (hc58)).1) (by decide) (by decide) ?_
        show Steps p.tables e below (T52.setTop (mkF m 133 (la0_3 p0 b0_64) [])) t
        exact k
      exact ⟨_, _, _, X52, rfl, N52, ⟨(own_at rfl (P := fun h => Keep T52.heap h [b0_64, r0_1151]) KR56), u52_2, u52_3, u52_4, u52_5, u52_6, u52_7, (own_p (P := fun (z : Int64) => Fld Z T52.heap b0_64 "com/example/wedgetree/wedgetree/core/OpenedNodes" "holding" "J" (.long z)) (own_symm (if_pos hc58)) u52_8), (own_p (P := fun (z : Int32) => OArr Z T52.heap r0_1151 .boolean (4 : Int32) [(.int (0 : Int32)), (.int (if (v0_35 p0) = (0 : Int32) then (v0_113_r0_951_1 p0) else (if (0 : Int32) = (0 : Int32) then (if (v0_113_r0_951_1 p0) = (0 : Int32) then (1 : Int32) else (v0_113_r0_951_1 p0)) else (v0_113_r0_951_1 p0)))), (.int z), (.int (0 : Int32))] (.int (0 : Int32))) (own_symm (if_pos hc58)) (own_p (P := fun (z : Int32) => OArr Z T52.heap r0_1151 .boolean (4 : Int32) [(.int (0 : Int32)), (.int z), (.int (0 : Int32)), (.int (0 : Int32))] (.int (0 : Int32))) (own_symm (if_pos hc58)) fc55))⟩, fun t k => k⟩
    · skip
      refine ORchH.go (T' := T52) (g' := (mkF m 128 (la0_3 p0 b0_64) [])) (fun t k => ?_) ?_
      · show Steps p.tables e below (T52.setTop (mkF m 125 (la0_3 p0 b0_64) [(.int (v0_35 p0))])) t
        refine XS.ifNo X52.here hx rfl (hb hby at_125) rfl ((if0 _ _).trans (feq (hc58)).1) ?_
        show Steps p.tables e below (T52.setTop (mkF m 128 (la0_3 p0 b0_64) [])) t
        exact k
      refine ORchH.go (T' := T52) (g' := (mkF m 130 (la0_3 p0 b0_64) [(.ref b0_64)])) (fun t k => ?_) ?_
      · show Steps p.tables e below (T52.setTop (mkF m 128 (la0_3 p0 b0_64) [])) t
        refine XS.aload X52.here hx rfl (hb hby at_128) rfl rfl ?_
        show Steps p.tables e below (T52.setTop (mkF m 130 (la0_3 p0 b0_64) [(.ref b0_64)])) t
        exact k
      obtain ⟨cq59, kq59, q59a, q59b, q59c⟩ := isOf hZ rfl u52_1
      obtain ⟨_, _, ⟨T59, L59, k59, n59⟩, -, X59, ⟨Lc59, hQ59, l59, y59, z59⟩, st59⟩ := X52.virtualBack hx (y := (⟨"com/example/wedgetree/wedgetree/core/OpenedNodes", "answered", "()V"⟩ : MethodName)) (z := (⟨"com/example/wedgetree/wedgetree/core/OpenedNodes", "answered", "()V"⟩ : MethodName)) hown (mvT hZ (hw _ (List.mem_of_getElem? (i := 121) rfl))) (mvT hZ (hw _ (List.mem_of_getElem? (i := 122) rfl))) (notFace_of_selects (args := #[]) (mvT hZ (hw _ (List.mem_of_getElem? (i := 124) rfl)))) (mvT hZ (hw _ (List.mem_of_getElem? (i := 124) rfl))) (mvT hZ (hw _ (List.mem_of_getElem? (i := 123) rfl))) (by decide) (backOf (W := 0) (rm20_2 l Z aZ hw [] b0_64 r0_681 r0_1151 (0 : Int32) (v0_113_r0_951_1 p0) (0 : Int32) (0 : Int32) (1 : Int32) (((0 : Int64) + (1 : Int64)) + (1 : Int64)) (v0_113_holding p0) T52.heap n0 Z52 u52_2 u52_3 u52_4 u52_5 u52_6 u52_7 u52_8 fc55 u52_1 gle_b0_64 gle_r0_1151 ne_b0_64_r0_1151) hZ (hw _ (List.mem_of_getElem? (i := 125) rfl)) (hw _ (List.mem_of_getElem? (i := 2) rfl)) (by decide) (by decide)) q59a q59c (g := (mkF m 130 (la0_3 p0 b0_64) [(.ref b0_64)])) rfl (by rw [hml]; rfl) (Steps.refl _) (argsL := []) (rest := []) (lenOf pd___V rfl) rfl (by show 2 * 0 + _ ≤ _; exact Nat.le_of_eq rfl) (hb hby at_130) (fun _ _ => ⟨rfl, rfl, (by decide : 5 + 0 ≤ _), (by decide : 15 + 0 ≤ _)⟩)
      dsimp only [Pt.U, Pt.locs, Pt.cells, Pt.slots] at X59 l59 y59 z59 st59 hQ59
      subst l59 y59 z59
      obtain ⟨rfl, N59q, u59_0, u59_1, u59_2, u59_3, u59_4, u59_5, u59_6, u59_7, u59_8, u59_9⟩ := hQ59
      have N59 := Fr.app N52 N59q
      have Z59 : n0 ≤ T59.heap.size := Nat.le_trans Z52 u59_0.1
      have K59 : Keep T52.heap T59.heap [b0_64, r0_1151] := KR56.trans u59_0 (allS (Or.inl (List.mem_of_getElem? (i := 0) rfl)) (allS (Or.inl (List.mem_of_getElem? (i := 1) rfl)) all0))
      have fc60 : OArr Z T59.heap r0_682 .boolean (1 : Int32) [(.int (0 : Int32))] (.int (0 : Int32)) := (fc53.keep u59_0 (ninS (Ne.symm ne_b0_64_r0_682) (ninS ne_r0_682_r0_1151 nin0)))
      have fc61 : OArr Z T59.heap r0_951 .boolean (2 : Int32) [(.int (0 : Int32)), (.int (v0_113_r0_951_1 p0))] (.int (0 : Int32)) := (fc54.keep u59_0 (ninS (Ne.symm ne_b0_64_r0_951) (ninS ne_r0_951_r0_1151 nin0)))
      have fc62 : OArr Z T59.heap r0_681 .int (1 : Int32) [(.int (3 : Int32))] (.int (0 : Int32)) := (u52_9.keep u59_0 (ninS (Ne.symm ne_b0_64_r0_681) (ninS ne_r0_681_r0_1151 nin0)))
      refine ORchH.go (g' := (mkF m 133 (la0_3 p0 b0_64) [])) (fun _ k => st59.trans k) ?_
      exact ⟨_, _, _, X59, rfl, N59, ⟨(own_at rfl (P := fun h => Keep T52.heap h [b0_64, r0_1151]) K59), u59_2, u59_3, u59_4, u59_5, u59_6, u59_7, (own_p (P := fun (z : Int64) => Fld Z T59.heap b0_64 "com/example/wedgetree/wedgetree/core/OpenedNodes" "holding" "J" (.long z)) (own_symm (if_neg hc58)) u59_9), (own_p (P := fun (z : Int32) => OArr Z T59.heap r0_1151 .boolean (4 : Int32) [(.int (0 : Int32)), (.int (if (v0_35 p0) = (0 : Int32) then (v0_113_r0_951_1 p0) else (if (0 : Int32) = (0 : Int32) then (if (v0_113_r0_951_1 p0) = (0 : Int32) then (1 : Int32) else (v0_113_r0_951_1 p0)) else (v0_113_r0_951_1 p0)))), (.int z), (.int (0 : Int32))] (.int (0 : Int32))) (own_symm (if_neg hc58)) (own_p (P := fun (z : Int32) => OArr Z T59.heap r0_1151 .boolean (4 : Int32) [(.int (0 : Int32)), (.int z), (.int (if (0 : Int32) = (0 : Int32) then (1 : Int32) else (0 : Int32))), (.int (0 : Int32))] (.int (0 : Int32))) (own_symm (if_neg hc58)) u59_8))⟩, fun t k => k⟩
  have Z56 : n0 ≤ h56.size := Nat.le_trans Z52 u56_0.1
  have fc63 : OArr Z h56 r0_682 .boolean (1 : Int32) [(.int (0 : Int32))] (.int (0 : Int32)) := (fc53.keep u56_0 (ninS (Ne.symm ne_b0_64_r0_682) (ninS ne_r0_682_r0_1151 nin0)))
  have fc64 : OArr Z h56 r0_951 .boolean (2 : Int32) [(.int (0 : Int32)), (.int (v0_113_r0_951_1 p0))] (.int (0 : Int32)) := (fc54.keep u56_0 (ninS (Ne.symm ne_b0_64_r0_951) (ninS ne_r0_951_r0_1151 nin0)))
  have fc65 : Exa Z h56 b0_64 "com/example/wedgetree/wedgetree/core/OpenedNodes" := (u52_1.keep u56_0)
  have fc66 : OArr Z h56 r0_681 .int (1 : Int32) [(.int (3 : Int32))] (.int (0 : Int32)) := (u52_9.keep u56_0 (ninS (Ne.symm ne_b0_64_r0_681) (ninS ne_r0_681_r0_1151 nin0)))
  refine OEnd.go (g' := (mkF m 133 (la0_3 p0 b0_64) [])) st56 ?_
  refine OEnd.go (T' := T56) (g' := (mkF m 135 (la0_3 p0 b0_64) [(.ref b0_64)])) (fun t k => ?_) ?_
  · show Steps p.tables e below (T56.setTop (mkF m 133 (la0_3 p0 b0_64) [])) t
    refine XS.aload X56.here hx rfl (hb hby at_133) rfl rfl ?_
    show Steps p.tables e below (T56.setTop (mkF m 135 (la0_3 p0 b0_64) [(.ref b0_64)])) t
    exact k
  obtain ⟨cq67, kq67, q67a, q67b, q67c⟩ := isOf hZ e56 fc65
  obtain ⟨_, _, ⟨T67, L67, k67, n67⟩, -, X67, ⟨Lc67, hQ67, l67, y67, z67⟩, st67⟩ := X56.virtualBack hx (y := (⟨"com/example/wedgetree/wedgetree/core/OpenedNodes", "open", "()V"⟩ : MethodName)) (z := (⟨"com/example/wedgetree/wedgetree/core/OpenedNodes", "open", "()V"⟩ : MethodName)) hown (mvT hZ (hw _ (List.mem_of_getElem? (i := 22) rfl))) (mvT hZ (hw _ (List.mem_of_getElem? (i := 23) rfl))) (notFace_of_selects (args := #[]) (mvT hZ (hw _ (List.mem_of_getElem? (i := 25) rfl)))) (mvT hZ (hw _ (List.mem_of_getElem? (i := 25) rfl))) (mvT hZ (hw _ (List.mem_of_getElem? (i := 24) rfl))) (by decide) (backOf (W := 0) (rm4_3 l Z aZ hw [] b0_64 r0_681 r0_1151 (0 : Int32) (v0_133_r0_1151_1 p0) (v0_133_r0_1151_2 p0) (0 : Int32) (2 : Int32) (v0_133_opened p0) (v0_133_holding p0) h56 n0 Z56 u56_1 u56_2 u56_3 u56_4 u56_5 u56_6 u56_7 fc66 u56_8 fc65 gle_b0_64 gle_r0_1151 ne_b0_64_r0_681 ne_b0_64_r0_1151 ne_r0_681_r0_1151) hZ (hw _ (List.mem_of_getElem? (i := 26) rfl)) (hw _ (List.mem_of_getElem? (i := 2) rfl)) (by decide) (by decide)) q67a q67c (g := (mkF m 135 (la0_3 p0 b0_64) [(.ref b0_64)])) rfl (by rw [hml]; rfl) (Steps.refl _) (argsL := []) (rest := []) (lenOf pd___V rfl) rfl (by show 2 * 0 + _ ≤ _; exact Nat.le_of_eq rfl) (hb hby at_135) (fun _ _ => ⟨rfl, e56, (by decide : 5 + 0 ≤ _), (by decide : 15 + 0 ≤ _)⟩)
  dsimp only [Pt.U, Pt.locs, Pt.cells, Pt.slots] at X67 l67 y67 z67 st67 hQ67
  subst l67 y67 z67
  obtain ⟨rfl, N67q, u67_0, u67_1, u67_2, u67_3, u67_4, u67_5, u67_6, u67_7, u67_8, u67_9⟩ := hQ67
  have N67 := Fr.app N56 N67q
  have Z67 : n0 ≤ T67.heap.size := Nat.le_trans Z56 u67_0.1
  have fc68 : OArr Z T67.heap r0_682 .boolean (1 : Int32) [(.int (0 : Int32))] (.int (0 : Int32)) := (fc63.keep u67_0 (ninS (Ne.symm ne_b0_64_r0_682) (ninS ne_r0_682_r0_1151 nin0)))
  have fc69 : OArr Z T67.heap r0_951 .boolean (2 : Int32) [(.int (0 : Int32)), (.int (v0_113_r0_951_1 p0))] (.int (0 : Int32)) := (fc64.keep u67_0 (ninS (Ne.symm ne_b0_64_r0_951) (ninS ne_r0_951_r0_1151 nin0)))
  have fc70 : OArr Z T67.heap r0_681 .int (1 : Int32) [(.int (3 : Int32))] (.int (0 : Int32)) := (fc66.keep u67_0 (ninS (Ne.symm ne_b0_64_r0_681) (ninS ne_r0_681_r0_1151 nin0)))
  refine OEnd.go (g' := (mkF m 138 (la0_3 p0 b0_64) [])) (fun _ k => st67.trans k) ?_
  obtain ⟨T71, h71, L71, X71, e71, N71, ⟨u71_0, u71_1, u71_2, u71_3, u71_4, u71_5, u71_6, u71_7, u71_8⟩, st71⟩ : ORchH p l e room_1 s m #[(.int p0)] below meth c n0 T67 (mkF m 138 (la0_3 p0 b0_64) []) (mkF m 148 (la0_3 p0 b0_64) []) 5 15 (fun h => Keep T67.heap h [b0_64, r0_1151] ∧ Fld Z h b0_64 "com/example/wedgetree/wedgetree/core/OpenedNodes" "waitingDepths" "[I" (.ref r0_681) ∧ Fld Z h b0_64 "com/example/wedgetree/wedgetree/core/OpenedNodes" "waiting" "I" (.int (0 : Int32)) ∧ Fld Z h b0_64 "com/example/wedgetree/wedgetree/core/OpenedNodes" "holdsAnswer" "[Z" (.ref r0_1151) ∧ Fld Z h b0_64 "com/example/wedgetree/wedgetree/core/OpenedNodes" "tallying" "Z" (.int (1 : Int32)) ∧ Fld Z h b0_64 "com/example/wedgetree/wedgetree/core/OpenedNodes" "depth" "I" (.int (3 : Int32)) ∧ Fld Z h b0_64 "com/example/wedgetree/wedgetree/core/OpenedNodes" "opened" "J" (.long (v0_148_opened p0)) ∧ Fld Z h b0_64 "com/example/wedgetree/wedgetree/core/OpenedNodes" "holding" "J" (.long (v0_148_holding p0)) ∧ OArr Z h r0_1151 .boolean (4 : Int32) [(.int (0 : Int32)), (.int (v0_148_r0_1151_1 p0)), (.int (v0_148_r0_1151_2 p0)), (.int (v0_148_r0_1151_3 p0))] (.int (0 : Int32))) := by
    have KR71 : Keep T67.heap T67.heap [b0_64, r0_1151] := Keep.refl _ _
    refine ORchH.go (T' := T67) (g' := (mkF m 140 (la0_3 p0 b0_64) [(.int (v0_48 p0))])) (fun t k => ?_) ?_
    · show Steps p.tables e below (T67.setTop (mkF m 138 (la0_3 p0 b0_64) [])) t
      refine XS.iload X67.here hx rfl (hb hby at_138) rfl ?_
      show Steps p.tables e below (T67.setTop (mkF m 140 (la0_3 p0 b0_64) [(.int (v0_48 p0))])) t
      exact k
    by_cases hc73 : (v0_48 p0) = (0 : Int32)
    · skip
      refine ORchH.go (T' := T67) (g' := (mkF m 148 (la0_3 p0 b0_64) [])) (fun t k => ?_) ?_
      · show Steps p.tables e below (T67.setTop (mkF m 140 (la0_3 p0 b0_64) [(.int (v0_48 p0))])) t
        refine XS.ifYes X67.here hx rfl (pc0 := 140) (pc' := 148) rfl (hb hby at_140) rfl ((if0 _ _).trans (teq (hc73)).1) (by decide) (by decide) ?_
        show Steps p.tables e below (T67.setTop (mkF m 148 (la0_3 p0 b0_64) [])) t
        exact k
      exact ⟨_, _, _, X67, rfl, N67, ⟨(own_at rfl (P := fun h => Keep T67.heap h [b0_64, r0_1151]) KR71), u67_2, u67_3, u67_4, u67_5, u67_6, u67_7, (own_p (P := fun (z : Int64) => Fld Z T67.heap b0_64 "com/example/wedgetree/wedgetree/core/OpenedNodes" "holding" "J" (.long z)) (own_symm (if_pos hc73)) u67_8), (own_p (P := fun (z : Int32) => OArr Z T67.heap r0_1151 .boolean (4 : Int32) [(.int (0 : Int32)), (.int (if (v0_48 p0) = (0 : Int32) then (v0_133_r0_1151_1 p0) else (if (0 : Int32) = (0 : Int32) then (if (v0_133_r0_1151_2 p0) = (0 : Int32) then (if (v0_133_r0_1151_1 p0) = (0 : Int32) then (1 : Int32) else (v0_133_r0_1151_1 p0)) else (v0_133_r0_1151_1 p0)) else (v0_133_r0_1151_1 p0)))), (.int (if (v0_48 p0) = (0 : Int32) then (v0_133_r0_1151_2 p0) else (if (0 : Int32) = (0 : Int32) then (if (v0_133_r0_1151_2 p0) = (0 : Int32) then (1 : Int32) else (v0_133_r0_1151_2 p0)) else (v0_133_r0_1151_2 p0)))), (.int z)] (.int (0 : Int32))) (own_symm (if_pos hc73)) (own_p (P := fun (z : Int32) => OArr Z T67.heap r0_1151 .boolean (4 : Int32) [(.int (0 : Int32)), (.int (if (v0_48 p0) = (0 : Int32) then (v0_133_r0_1151_1 p0) else (if (0 : Int32) = (0 : Int32) then (if (v0_133_r0_1151_2 p0) = (0 : Int32) then (if (v0_133_r0_1151_1 p0) = (0 : Int32) then (1 : Int32) else (v0_133_r0_1151_1 p0)) else (v0_133_r0_1151_1 p0)) else (v0_133_r0_1151_1 p0)))), (.int z), (.int (0 : Int32))] (.int (0 : Int32))) (own_symm (if_pos hc73)) (own_p (P := fun (z : Int32) => OArr Z T67.heap r0_1151 .boolean (4 : Int32) [(.int (0 : Int32)), (.int z), (.int (v0_133_r0_1151_2 p0)), (.int (0 : Int32))] (.int (0 : Int32))) (own_symm (if_pos hc73)) u67_9)))⟩, fun t k => k⟩
    · skip
      refine ORchH.go (T' := T67) (g' := (mkF m 143 (la0_3 p0 b0_64) [])) (fun t k => ?_) ?_
      · show Steps p.tables e below (T67.setTop (mkF m 140 (la0_3 p0 b0_64) [(.int (v0_48 p0))])) t
        refine XS.ifNo X67.here hx rfl (hb hby at_140) rfl ((if0 _ _).trans (feq (hc73)).1) ?_
        show Steps p.tables e below (T67.setTop (mkF m 143 (la0_3 p0 b0_64) [])) t
        exact k
      refine ORchH.go (T' := T67) (g' := (mkF m 145 (la0_3 p0 b0_64) [(.ref b0_64)])) (fun t k => ?_) ?_
      · show Steps p.tables e below (T67.setTop (mkF m 143 (la0_3 p0 b0_64) [])) t
        refine XS.aload X67.here hx rfl (hb hby at_143) rfl rfl ?_
        show Steps p.tables e below (T67.setTop (mkF m 145 (la0_3 p0 b0_64) [(.ref b0_64)])) t
        exact k
      obtain ⟨cq74, kq74, q74a, q74b, q74c⟩ := isOf hZ rfl u67_1
      obtain ⟨_, _, ⟨T74, L74, k74, n74⟩, -, X74, ⟨Lc74, hQ74, l74, y74, z74⟩, st74⟩ := X67.virtualBack hx (y := (⟨"com/example/wedgetree/wedgetree/core/OpenedNodes", "answered", "()V"⟩ : MethodName)) (z := (⟨"com/example/wedgetree/wedgetree/core/OpenedNodes", "answered", "()V"⟩ : MethodName)) hown (mvT hZ (hw _ (List.mem_of_getElem? (i := 121) rfl))) (mvT hZ (hw _ (List.mem_of_getElem? (i := 122) rfl))) (notFace_of_selects (args := #[]) (mvT hZ (hw _ (List.mem_of_getElem? (i := 124) rfl)))) (mvT hZ (hw _ (List.mem_of_getElem? (i := 124) rfl))) (mvT hZ (hw _ (List.mem_of_getElem? (i := 123) rfl))) (by decide) (backOf (W := 0) (rm20_3 l Z aZ hw [] b0_64 r0_681 r0_1151 (0 : Int32) (v0_133_r0_1151_1 p0) (v0_133_r0_1151_2 p0) (0 : Int32) (0 : Int32) ((v0_133_opened p0) + (1 : Int64)) (v0_133_holding p0) T67.heap n0 Z67 u67_2 u67_3 u67_4 u67_5 u67_6 u67_7 u67_8 u67_9 u67_1 gle_b0_64 gle_r0_1151 ne_b0_64_r0_1151) hZ (hw _ (List.mem_of_getElem? (i := 125) rfl)) (hw _ (List.mem_of_getElem? (i := 2) rfl)) (by decide) (by decide)) q74a q74c (g := (mkF m 145 (la0_3 p0 b0_64) [(.ref b0_64)])) rfl (by rw [hml]; rfl) (Steps.refl _) (argsL := []) (rest := []) (lenOf pd___V rfl) rfl (by show 2 * 0 + _ ≤ _; exact Nat.le_of_eq rfl) (hb hby at_145) (fun _ _ => ⟨rfl, rfl, (by decide : 5 + 0 ≤ _), (by decide : 15 + 0 ≤ _)⟩)
      dsimp only [Pt.U, Pt.locs, Pt.cells, Pt.slots] at X74 l74 y74 z74 st74 hQ74
      subst l74 y74 z74
      obtain ⟨rfl, N74q, u74_0, u74_1, u74_2, u74_3, u74_4, u74_5, u74_6, u74_7, u74_8, u74_9⟩ := hQ74
      have N74 := Fr.app N67 N74q
      have Z74 : n0 ≤ T74.heap.size := Nat.le_trans Z67 u74_0.1
      have K74 : Keep T67.heap T74.heap [b0_64, r0_1151] := KR71.trans u74_0 (allS (Or.inl (List.mem_of_getElem? (i := 0) rfl)) (allS (Or.inl (List.mem_of_getElem? (i := 1) rfl)) all0))
      have fc75 : OArr Z T74.heap r0_682 .boolean (1 : Int32) [(.int (0 : Int32))] (.int (0 : Int32)) := (fc68.keep u74_0 (ninS (Ne.symm ne_b0_64_r0_682) (ninS ne_r0_682_r0_1151 nin0)))
      have fc76 : OArr Z T74.heap r0_951 .boolean (2 : Int32) [(.int (0 : Int32)), (.int (v0_113_r0_951_1 p0))] (.int (0 : Int32)) := (fc69.keep u74_0 (ninS (Ne.symm ne_b0_64_r0_951) (ninS ne_r0_951_r0_1151 nin0)))
      have fc77 : OArr Z T74.heap r0_681 .int (1 : Int32) [(.int (3 : Int32))] (.int (0 : Int32)) := (fc70.keep u74_0 (ninS (Ne.symm ne_b0_64_r0_681) (ninS ne_r0_681_r0_1151 nin0)))
      refine ORchH.go (g' := (mkF m 148 (la0_3 p0 b0_64) [])) (fun _ k => st74.trans k) ?_
      exact ⟨_, _, _, X74, rfl, N74, ⟨(own_at rfl (P := fun h => Keep T67.heap h [b0_64, r0_1151]) K74), u74_2, u74_3, u74_4, u74_5, u74_6, u74_7, (own_p (P := fun (z : Int64) => Fld Z T74.heap b0_64 "com/example/wedgetree/wedgetree/core/OpenedNodes" "holding" "J" (.long z)) (own_symm (if_neg hc73)) u74_9), (own_p (P := fun (z : Int32) => OArr Z T74.heap r0_1151 .boolean (4 : Int32) [(.int (0 : Int32)), (.int (if (v0_48 p0) = (0 : Int32) then (v0_133_r0_1151_1 p0) else (if (0 : Int32) = (0 : Int32) then (if (v0_133_r0_1151_2 p0) = (0 : Int32) then (if (v0_133_r0_1151_1 p0) = (0 : Int32) then (1 : Int32) else (v0_133_r0_1151_1 p0)) else (v0_133_r0_1151_1 p0)) else (v0_133_r0_1151_1 p0)))), (.int (if (v0_48 p0) = (0 : Int32) then (v0_133_r0_1151_2 p0) else (if (0 : Int32) = (0 : Int32) then (if (v0_133_r0_1151_2 p0) = (0 : Int32) then (1 : Int32) else (v0_133_r0_1151_2 p0)) else (v0_133_r0_1151_2 p0)))), (.int z)] (.int (0 : Int32))) (own_symm (if_neg hc73)) (own_p (P := fun (z : Int32) => OArr Z T74.heap r0_1151 .boolean (4 : Int32) [(.int (0 : Int32)), (.int (if (v0_48 p0) = (0 : Int32) then (v0_133_r0_1151_1 p0) else (if (0 : Int32) = (0 : Int32) then (if (v0_133_r0_1151_2 p0) = (0 : Int32) then (if (v0_133_r0_1151_1 p0) = (0 : Int32) then (1 : Int32) else (v0_133_r0_1151_1 p0)) else (v0_133_r0_1151_1 p0)) else (v0_133_r0_1151_1 p0)))), (.int z), (.int (if (0 : Int32) = (0 : Int32) then (1 : Int32) else (0 : Int32)))] (.int (0 : Int32))) (own_symm (if_neg hc73)) (own_p (P := fun (z : Int32) => OArr Z T74.heap r0_1151 .boolean (4 : Int32) [(.int (0 : Int32)), (.int z), (.int (if (0 : Int32) = (0 : Int32) then (if (v0_133_r0_1151_2 p0) = (0 : Int32) then (1 : Int32) else (v0_133_r0_1151_2 p0)) else (v0_133_r0_1151_2 p0))), (.int (if (0 : Int32) = (0 : Int32) then (1 : Int32) else (0 : Int32)))] (.int (0 : Int32))) (own_symm (if_neg hc73)) u74_8)))⟩, fun t k => k⟩
  have Z71 : n0 ≤ h71.size := Nat.le_trans Z67 u71_0.1
  have fc78 : OArr Z h71 r0_682 .boolean (1 : Int32) [(.int (0 : Int32))] (.int (0 : Int32)) := (fc68.keep u71_0 (ninS (Ne.symm ne_b0_64_r0_682) (ninS ne_r0_682_r0_1151 nin0)))
  have fc79 : OArr Z h71 r0_951 .boolean (2 : Int32) [(.int (0 : Int32)), (.int (v0_113_r0_951_1 p0))] (.int (0 : Int32)) := (fc69.keep u71_0 (ninS (Ne.symm ne_b0_64_r0_951) (ninS ne_r0_951_r0_1151 nin0)))
  have fc80 : OArr Z h71 r0_681 .int (1 : Int32) [(.int (3 : Int32))] (.int (0 : Int32)) := (fc70.keep u71_0 (ninS (Ne.symm ne_b0_64_r0_681) (ninS ne_r0_681_r0_1151 nin0)))
  have fc81 : Exa Z h71 b0_64 "com/example/wedgetree/wedgetree/core/OpenedNodes" := (u67_1.keep u71_0)
  refine OEnd.go (g' := (mkF m 148 (la0_3 p0 b0_64) [])) st71 ?_
  obtain ⟨T82, h82, L82, X82, e82, N82, ⟨u82_0, u82_1, u82_2, u82_3, u82_4, u82_5, u82_6, u82_7, u82_8⟩, st82⟩ : ORchH p l e room_1 s m #[(.int p0)] below meth c n0 T71 (mkF m 148 (la0_3 p0 b0_64) []) (mkF m 158 (la0_3 p0 b0_64) []) 5 15 (fun h => Keep h71 h [b0_64, r0_1151] ∧ Fld Z h b0_64 "com/example/wedgetree/wedgetree/core/OpenedNodes" "waitingDepths" "[I" (.ref r0_681) ∧ Fld Z h b0_64 "com/example/wedgetree/wedgetree/core/OpenedNodes" "waiting" "I" (.int (0 : Int32)) ∧ Fld Z h b0_64 "com/example/wedgetree/wedgetree/core/OpenedNodes" "holdsAnswer" "[Z" (.ref r0_1151) ∧ Fld Z h b0_64 "com/example/wedgetree/wedgetree/core/OpenedNodes" "tallying" "Z" (.int (1 : Int32)) ∧ Fld Z h b0_64 "com/example/wedgetree/wedgetree/core/OpenedNodes" "depth" "I" (.int (3 : Int32)) ∧ Fld Z h b0_64 "com/example/wedgetree/wedgetree/core/OpenedNodes" "opened" "J" (.long (v0_148_opened p0)) ∧ Fld Z h b0_64 "com/example/wedgetree/wedgetree/core/OpenedNodes" "holding" "J" (.long (v0_158_holding p0)) ∧ OArr Z h r0_1151 .boolean (4 : Int32) [(.int (0 : Int32)), (.int (v0_158_r0_1151_1 p0)), (.int (v0_158_r0_1151_2 p0)), (.int (v0_158_r0_1151_3 p0))] (.int (0 : Int32))) := by
    have KR82 : Keep h71 h71 [b0_64, r0_1151] := Keep.refl _ _
    refine ORchH.go (T' := T71) (g' := (mkF m 150 (la0_3 p0 b0_64) [(.int (v0_62 p0))])) (fun t k => ?_) ?_
    · show Steps p.tables e below (T71.setTop (mkF m 148 (la0_3 p0 b0_64) [])) t
      refine XS.iload X71.here hx rfl (hb hby at_148) rfl ?_
      show Steps p.tables e below (T71.setTop (mkF m 150 (la0_3 p0 b0_64) [(.int (v0_62 p0))])) t
      exact k
    by_cases hc84 : (v0_62 p0) = (0 : Int32)
    · skip
      refine ORchH.go (T' := T71) (g' := (mkF m 158 (la0_3 p0 b0_64) [])) (fun t k => ?_) ?_
      · show Steps p.tables e below (T71.setTop (mkF m 150 (la0_3 p0 b0_64) [(.int (v0_62 p0))])) t
        refine XS.ifYes X71.here hx rfl (pc0 := 150) (pc' := 158) rfl (hb hby at_150) rfl ((if0 _ _).trans (teq (hc84)).1) (by decide) (by decide) ?_
        show Steps p.tables e below (T71.setTop (mkF m 158 (la0_3 p0 b0_64) [])) t
        exact k
      exact ⟨_, _, _, X71, e71, N71, ⟨(own_at rfl (P := fun h => Keep h71 h [b0_64, r0_1151]) KR82), u71_1, u71_2, u71_3, u71_4, u71_5, u71_6, (own_p (P := fun (z : Int64) => Fld Z h71 b0_64 "com/example/wedgetree/wedgetree/core/OpenedNodes" "holding" "J" (.long z)) (own_symm (if_pos hc84)) u71_7), (own_p (P := fun (z : Int32) => OArr Z h71 r0_1151 .boolean (4 : Int32) [(.int (0 : Int32)), (.int (if (v0_62 p0) = (0 : Int32) then (v0_148_r0_1151_1 p0) else (if (v0_148_r0_1151_3 p0) = (0 : Int32) then (if (v0_148_r0_1151_2 p0) = (0 : Int32) then (if (v0_148_r0_1151_1 p0) = (0 : Int32) then (1 : Int32) else (v0_148_r0_1151_1 p0)) else (v0_148_r0_1151_1 p0)) else (v0_148_r0_1151_1 p0)))), (.int (if (v0_62 p0) = (0 : Int32) then (v0_148_r0_1151_2 p0) else (if (v0_148_r0_1151_3 p0) = (0 : Int32) then (if (v0_148_r0_1151_2 p0) = (0 : Int32) then (1 : Int32) else (v0_148_r0_1151_2 p0)) else (v0_148_r0_1151_2 p0)))), (.int z)] (.int (0 : Int32))) (own_symm (if_pos hc84)) (own_p (P := fun (z : Int32) => OArr Z h71 r0_1151 .boolean (4 : Int32) [(.int (0 : Int32)), (.int (if (v0_62 p0) = (0 : Int32) then (v0_148_r0_1151_1 p0) else (if (v0_148_r0_1151_3 p0) = (0 : Int32) then (if (v0_148_r0_1151_2 p0) = (0 : Int32) then (if (v0_148_r0_1151_1 p0) = (0 : Int32) then (1 : Int32) else (v0_148_r0_1151_1 p0)) else (v0_148_r0_1151_1 p0)) else (v0_148_r0_1151_1 p0)))), (.int z), (.int (v0_148_r0_1151_3 p0))] (.int (0 : Int32))) (own_symm (if_pos hc84)) (own_p (P := fun (z : Int32) => OArr Z h71 r0_1151 .boolean (4 : Int32) [(.int (0 : Int32)), (.int z), (.int (v0_148_r0_1151_2 p0)), (.int (v0_148_r0_1151_3 p0))] (.int (0 : Int32))) (own_symm (if_pos hc84)) u71_8)))⟩, fun t k => k⟩
    · skip
      refine ORchH.go (T' := T71) (g' := (mkF m 153 (la0_3 p0 b0_64) [])) (fun t k => ?_) ?_
      · show Steps p.tables e below (T71.setTop (mkF m 150 (la0_3 p0 b0_64) [(.int (v0_62 p0))])) t
        refine XS.ifNo X71.here hx rfl (hb hby at_150) rfl ((if0 _ _).trans (feq (hc84)).1) ?_
        show Steps p.tables e below (T71.setTop (mkF m 153 (la0_3 p0 b0_64) [])) t
        exact k
      refine ORchH.go (T' := T71) (g' := (mkF m 155 (la0_3 p0 b0_64) [(.ref b0_64)])) (fun t k => ?_) ?_
      · show Steps p.tables e below (T71.setTop (mkF m 153 (la0_3 p0 b0_64) [])) t
        refine XS.aload X71.here hx rfl (hb hby at_153) rfl rfl ?_
        show Steps p.tables e below (T71.setTop (mkF m 155 (la0_3 p0 b0_64) [(.ref b0_64)])) t
        exact k
      obtain ⟨cq85, kq85, q85a, q85b, q85c⟩ := isOf hZ e71 fc81
      obtain ⟨_, _, ⟨T85, L85, k85, n85⟩, -, X85, ⟨Lc85, hQ85, l85, y85, z85⟩, st85⟩ := X71.virtualBack hx (y := (⟨"com/example/wedgetree/wedgetree/core/OpenedNodes", "answered", "()V"⟩ : MethodName)) (z := (⟨"com/example/wedgetree/wedgetree/core/OpenedNodes", "answered", "()V"⟩ : MethodName)) hown (mvT hZ (hw _ (List.mem_of_getElem? (i := 121) rfl))) (mvT hZ (hw _ (List.mem_of_getElem? (i := 122) rfl))) (notFace_of_selects (args := #[]) (mvT hZ (hw _ (List.mem_of_getElem? (i := 124) rfl)))) (mvT hZ (hw _ (List.mem_of_getElem? (i := 124) rfl))) (mvT hZ (hw _ (List.mem_of_getElem? (i := 123) rfl))) (by decide) (backOf (W := 0) (rm20_3 l Z aZ hw [] b0_64 r0_681 r0_1151 (0 : Int32) (v0_148_r0_1151_1 p0) (v0_148_r0_1151_2 p0) (v0_148_r0_1151_3 p0) (0 : Int32) (v0_148_opened p0) (v0_148_holding p0) h71 n0 Z71 u71_1 u71_2 u71_3 u71_4 u71_5 u71_6 u71_7 u71_8 fc81 gle_b0_64 gle_r0_1151 ne_b0_64_r0_1151) hZ (hw _ (List.mem_of_getElem? (i := 125) rfl)) (hw _ (List.mem_of_getElem? (i := 2) rfl)) (by decide) (by decide)) q85a q85c (g := (mkF m 155 (la0_3 p0 b0_64) [(.ref b0_64)])) rfl (by rw [hml]; rfl) (Steps.refl _) (argsL := []) (rest := []) (lenOf pd___V rfl) rfl (by show 2 * 0 + _ ≤ _; exact Nat.le_of_eq rfl) (hb hby at_155) (fun _ _ => ⟨rfl, e71, (by decide : 5 + 0 ≤ _), (by decide : 15 + 0 ≤ _)⟩)
      dsimp only [Pt.U, Pt.locs, Pt.cells, Pt.slots] at X85 l85 y85 z85 st85 hQ85
      subst l85 y85 z85
      obtain ⟨rfl, N85q, u85_0, u85_1, u85_2, u85_3, u85_4, u85_5, u85_6, u85_7, u85_8, u85_9⟩ := hQ85
      have N85 := Fr.app N71 N85q
      have Z85 : n0 ≤ T85.heap.size := Nat.le_trans Z71 u85_0.1
      have K85 : Keep h71 T85.heap [b0_64, r0_1151] := KR82.trans u85_0 (allS (Or.inl (List.mem_of_getElem? (i := 0) rfl)) (allS (Or.inl (List.mem_of_getElem? (i := 1) rfl)) all0))
      have fc86 : OArr Z T85.heap r0_682 .boolean (1 : Int32) [(.int (0 : Int32))] (.int (0 : Int32)) := (fc78.keep u85_0 (ninS (Ne.symm ne_b0_64_r0_682) (ninS ne_r0_682_r0_1151 nin0)))
      have fc87 : OArr Z T85.heap r0_951 .boolean (2 : Int32) [(.int (0 : Int32)), (.int (v0_113_r0_951_1 p0))] (.int (0 : Int32)) := (fc79.keep u85_0 (ninS (Ne.symm ne_b0_64_r0_951) (ninS ne_r0_951_r0_1151 nin0)))
      have fc88 : OArr Z T85.heap r0_681 .int (1 : Int32) [(.int (3 : Int32))] (.int (0 : Int32)) := (fc80.keep u85_0 (ninS (Ne.symm ne_b0_64_r0_681) (ninS ne_r0_681_r0_1151 nin0)))
      refine ORchH.go (g' := (mkF m 158 (la0_3 p0 b0_64) [])) (fun _ k => st85.trans k) ?_
      exact ⟨_, _, _, X85, rfl, N85, ⟨(own_at rfl (P := fun h => Keep h71 h [b0_64, r0_1151]) K85), u85_2, u85_3, u85_4, u85_5, u85_6, u85_7, (own_p (P := fun (z : Int64) => Fld Z T85.heap b0_64 "com/example/wedgetree/wedgetree/core/OpenedNodes" "holding" "J" (.long z)) (own_symm (if_neg hc84)) u85_9), (own_p (P := fun (z : Int32) => OArr Z T85.heap r0_1151 .boolean (4 : Int32) [(.int (0 : Int32)), (.int (if (v0_62 p0) = (0 : Int32) then (v0_148_r0_1151_1 p0) else (if (v0_148_r0_1151_3 p0) = (0 : Int32) then (if (v0_148_r0_1151_2 p0) = (0 : Int32) then (if (v0_148_r0_1151_1 p0) = (0 : Int32) then (1 : Int32) else (v0_148_r0_1151_1 p0)) else (v0_148_r0_1151_1 p0)) else (v0_148_r0_1151_1 p0)))), (.int (if (v0_62 p0) = (0 : Int32) then (v0_148_r0_1151_2 p0) else (if (v0_148_r0_1151_3 p0) = (0 : Int32) then (if (v0_148_r0_1151_2 p0) = (0 : Int32) then (1 : Int32) else (v0_148_r0_1151_2 p0)) else (v0_148_r0_1151_2 p0)))), (.int z)] (.int (0 : Int32))) (own_symm (if_neg hc84)) (own_p (P := fun (z : Int32) => OArr Z T85.heap r0_1151 .boolean (4 : Int32) [(.int (0 : Int32)), (.int (if (v0_62 p0) = (0 : Int32) then (v0_148_r0_1151_1 p0) else (if (v0_148_r0_1151_3 p0) = (0 : Int32) then (if (v0_148_r0_1151_2 p0) = (0 : Int32) then (if (v0_148_r0_1151_1 p0) = (0 : Int32) then (1 : Int32) else (v0_148_r0_1151_1 p0)) else (v0_148_r0_1151_1 p0)) else (v0_148_r0_1151_1 p0)))), (.int z), (.int (if (v0_148_r0_1151_3 p0) = (0 : Int32) then (1 : Int32) else (v0_148_r0_1151_3 p0)))] (.int (0 : Int32))) (own_symm (if_neg hc84)) (own_p (P := fun (z : Int32) => OArr Z T85.heap r0_1151 .boolean (4 : Int32) [(.int (0 : Int32)), (.int z), (.int (if (v0_148_r0_1151_3 p0) = (0 : Int32) then (if (v0_148_r0_1151_2 p0) = (0 : Int32) then (1 : Int32) else (v0_148_r0_1151_2 p0)) else (v0_148_r0_1151_2 p0))), (.int (if (v0_148_r0_1151_3 p0) = (0 : Int32) then (1 : Int32) else (v0_148_r0_1151_3 p0)))] (.int (0 : Int32))) (own_symm (if_neg hc84)) u85_8)))⟩, fun t k => k⟩
  have Z82 : n0 ≤ h82.size := Nat.le_trans Z71 u82_0.1
  have fc89 : OArr Z h82 r0_682 .boolean (1 : Int32) [(.int (0 : Int32))] (.int (0 : Int32)) := (fc78.keep u82_0 (ninS (Ne.symm ne_b0_64_r0_682) (ninS ne_r0_682_r0_1151 nin0)))
  have fc90 : OArr Z h82 r0_951 .boolean (2 : Int32) [(.int (0 : Int32)), (.int (v0_113_r0_951_1 p0))] (.int (0 : Int32)) := (fc79.keep u82_0 (ninS (Ne.symm ne_b0_64_r0_951) (ninS ne_r0_951_r0_1151 nin0)))
  have fc91 : OArr Z h82 r0_681 .int (1 : Int32) [(.int (3 : Int32))] (.int (0 : Int32)) := (fc80.keep u82_0 (ninS (Ne.symm ne_b0_64_r0_681) (ninS ne_r0_681_r0_1151 nin0)))
  have fc92 : Exa Z h82 b0_64 "com/example/wedgetree/wedgetree/core/OpenedNodes" := (fc81.keep u82_0)
  refine OEnd.go (g' := (mkF m 158 (la0_3 p0 b0_64) [])) st82 ?_
  obtain ⟨T93, h93, X93, e93, E93, A93, D93, -, st93⟩ := newO X82 hx hZ hown (hw _ (List.mem_of_getElem? (i := 54) rfl)) (hw _ (List.mem_of_getElem? (i := 55) rfl)) (hw _ (List.mem_of_getElem? (i := 56) rfl)) e82 (g := (mkF m 158 (la0_3 p0 b0_64) [])) rfl (hb hby at_158) (by decide) (by decide)
  obtain ⟨b0_158, g93⟩ : ∃ z, z = h82.size := ⟨_, rfl⟩
  rw [← g93] at A93 D93 st93
  have gle_b0_158 : n0 ≤ b0_158 := Nat.le_trans Z82 (Nat.le_of_eq g93.symm)
  have ne_r0_682_b0_158 : r0_682 ≠ b0_158 := Nat.ne_of_lt (Nat.lt_of_lt_of_le fc89.lt (Nat.le_of_eq g93.symm))
  have ne_r0_951_b0_158 : r0_951 ≠ b0_158 := Nat.ne_of_lt (Nat.lt_of_lt_of_le fc90.lt (Nat.le_of_eq g93.symm))
  have ne_r0_681_b0_158 : r0_681 ≠ b0_158 := Nat.ne_of_lt (Nat.lt_of_lt_of_le fc91.lt (Nat.le_of_eq g93.symm))
  have ne_b0_64_b0_158 : b0_64 ≠ b0_158 := Nat.ne_of_lt (Nat.lt_of_lt_of_le fc92.lt (Nat.le_of_eq g93.symm))
  have ne_r0_1151_b0_158 : r0_1151 ≠ b0_158 := Nat.ne_of_lt (Nat.lt_of_lt_of_le u82_8.lt (Nat.le_of_eq g93.symm))
  have fc94 : OArr Z h93 r0_682 .boolean (1 : Int32) [(.int (0 : Int32))] (.int (0 : Int32)) := (fc89.ext E93)
  have fc95 : OArr Z h93 r0_951 .boolean (2 : Int32) [(.int (0 : Int32)), (.int (v0_113_r0_951_1 p0))] (.int (0 : Int32)) := (fc90.ext E93)
  have fc96 : OArr Z h93 r0_681 .int (1 : Int32) [(.int (3 : Int32))] (.int (0 : Int32)) := (fc91.ext E93)
  have fc97 : Exa Z h93 b0_64 "com/example/wedgetree/wedgetree/core/OpenedNodes" := (fc92.ext E93)
  have fc98 : Fld Z h93 b0_64 "com/example/wedgetree/wedgetree/core/OpenedNodes" "waitingDepths" "[I" (.ref r0_681) := (u82_1.ext E93)
  have fc99 : Fld Z h93 b0_64 "com/example/wedgetree/wedgetree/core/OpenedNodes" "waiting" "I" (.int (0 : Int32)) := (u82_2.ext E93)
  have fc100 : Fld Z h93 b0_64 "com/example/wedgetree/wedgetree/core/OpenedNodes" "holdsAnswer" "[Z" (.ref r0_1151) := (u82_3.ext E93)
  have fc101 : Fld Z h93 b0_64 "com/example/wedgetree/wedgetree/core/OpenedNodes" "tallying" "Z" (.int (1 : Int32)) := (u82_4.ext E93)
  have fc102 : Fld Z h93 b0_64 "com/example/wedgetree/wedgetree/core/OpenedNodes" "depth" "I" (.int (3 : Int32)) := (u82_5.ext E93)
  have fc103 : Fld Z h93 b0_64 "com/example/wedgetree/wedgetree/core/OpenedNodes" "opened" "J" (.long (v0_148_opened p0)) := (u82_6.ext E93)
  have fc104 : Fld Z h93 b0_64 "com/example/wedgetree/wedgetree/core/OpenedNodes" "holding" "J" (.long (v0_158_holding p0)) := (u82_7.ext E93)
  have fc105 : OArr Z h93 r0_1151 .boolean (4 : Int32) [(.int (0 : Int32)), (.int (v0_158_r0_1151_1 p0)), (.int (v0_158_r0_1151_2 p0)), (.int (v0_158_r0_1151_3 p0))] (.int (0 : Int32)) := (u82_8.ext E93)
  have Z93 : n0 ≤ h93.size := Nat.le_trans Z82 E93.1
  have fc106 : Fld Z h93 b0_158 "com/example/wedgetree/wedgetree/core/QueryCounts" "nodesOpened" "J" (.long (0 : Int64)) := D93 (Or.inl (hw _ (List.mem_of_getElem? (i := 72) rfl))) (ty := .long) (by decide)
  have fc107 : Fld Z h93 b0_158 "com/example/wedgetree/wedgetree/core/QueryCounts" "wrongNodes" "J" (.long (0 : Int64)) := D93 (Or.inl (hw _ (List.mem_of_getElem? (i := 81) rfl))) (ty := .long) (by decide)
  have fc108 : Fld Z h93 b0_158 "com/example/wedgetree/wedgetree/core/QueryCounts" "wrongNodesUnknown" "Z" (.int (0 : Int32)) := D93 (Or.inl (hw _ (List.mem_of_getElem? (i := 88) rfl))) (ty := .boolean) (by decide)
  refine OEnd.go (g' := (mkF m 161 (la0_3 p0 b0_64) [(.ref b0_158)])) st93 ?_
  refine OEnd.go (T' := T93) (g' := (mkF m 162 (la0_3 p0 b0_64) [(.ref b0_158), (.ref b0_158)])) (fun t k => ?_) ?_
  · show Steps p.tables e below (T93.setTop (mkF m 161 (la0_3 p0 b0_64) [(.ref b0_158)])) t
    refine XS.dup X93.here hx rfl (hb hby at_161) rfl rfl ?_
    show Steps p.tables e below (T93.setTop (mkF m 162 (la0_3 p0 b0_64) [(.ref b0_158), (.ref b0_158)])) t
    exact k
  obtain ⟨_, _, ⟨T109, L109, k109, n109⟩, -, X109, ⟨Lc109, hQ109, l109, y109, z109⟩, st109⟩ := X93.specialBack hx (y := (⟨"com/example/wedgetree/wedgetree/core/QueryCounts", "<init>", "()V"⟩ : MethodName)) rfl hown (mvT hZ (hw _ (List.mem_of_getElem? (i := 57) rfl))) (mvT hZ (hw _ (List.mem_of_getElem? (i := 58) rfl))) (mvT hZ (hw _ (List.mem_of_getElem? (i := 59) rfl))) (by decide) (backOf (W := 1) (rm10 l Z aZ hw [] b0_158 h93 n0 Z93 ) hZ (hw _ (List.mem_of_getElem? (i := 59) rfl)) (hw _ (List.mem_of_getElem? (i := 56) rfl)) (by decide) (by decide)) (g := (mkF m 162 (la0_3 p0 b0_64) [(.ref b0_158), (.ref b0_158)])) rfl (by rw [hml]; rfl) (Steps.refl _) (a := b0_158) (argsL := []) (rest := [(.ref b0_158)]) (lenOf pd___V rfl) rfl (by show 2 * 0 + _ ≤ _; exact Nat.le_of_eq rfl) (hb hby at_162) (fun _ _ => ⟨rfl, e93, (by decide : 6 + 0 ≤ _), (by decide : 19 + 0 ≤ _)⟩)
  dsimp only [Pt.U, Pt.locs, Pt.cells, Pt.slots] at X109 l109 y109 z109 st109 hQ109
  subst l109 y109 z109
  obtain ⟨rfl, N109q, e109⟩ := hQ109
  have N109 := Fr.app N82 N109q
  refine OEnd.go (g' := (mkF m 165 (la0_3 p0 b0_64) [(.ref b0_158)])) (fun _ k => st109.trans k) ?_
  refine OEnd.go (T' := T109) (g' := (mkF m 171 (la0_4 p0 b0_158 b0_64) [(.ref b0_158), (.ref b0_64)])) (fun t k => ?_) ?_
  · show Steps p.tables e below (T109.setTop (mkF m 165 (la0_3 p0 b0_64) [(.ref b0_158)])) t
    refine XS.astore X109.here hx rfl (hb hby at_165) rfl rfl (l' := (la0_4 p0 b0_158 b0_64)) rfl ?_
    show Steps p.tables e below (T109.setTop (mkF m 167 (la0_4 p0 b0_158 b0_64) [])) t
    refine XS.aload X109.here hx rfl (hb hby at_167) rfl rfl ?_
    show Steps p.tables e below (T109.setTop (mkF m 169 (la0_4 p0 b0_158 b0_64) [(.ref b0_64)])) t
    refine XS.aload X109.here hx rfl (hb hby at_169) rfl rfl ?_
    show Steps p.tables e below (T109.setTop (mkF m 171 (la0_4 p0 b0_158 b0_64) [(.ref b0_158), (.ref b0_64)])) t
    exact k
  obtain ⟨cq110, kq110, q110a, q110b, q110c⟩ := isOf hZ e109 fc97
  obtain ⟨_, _, ⟨T110, L110, k110, n110⟩, -, X110, ⟨Lc110, hQ110, l110, y110, z110⟩, st110⟩ := X109.virtualBack hx (y := (⟨"com/example/wedgetree/wedgetree/core/OpenedNodes", "addTo", "(Lcom/example/wedgetree/wedgetree/core/QueryCounts;)V"⟩ : MethodName)) (z := (⟨"com/example/wedgetree/wedgetree/core/OpenedNodes", "addTo", "(Lcom/example/wedgetree/wedgetree/core/QueryCounts;)V"⟩ : MethodName)) hown (mvT hZ (hw _ (List.mem_of_getElem? (i := 61) rfl))) (mvT hZ (hw _ (List.mem_of_getElem? (i := 62) rfl))) (notFace_of_selects (args := #[]) (mvT hZ (hw _ (List.mem_of_getElem? (i := 64) rfl)))) (mvT hZ (hw _ (List.mem_of_getElem? (i := 64) rfl))) (mvT hZ (hw _ (List.mem_of_getElem? (i := 63) rfl))) (by decide) (backOf (W := 0) (rm11 l Z aZ hw [] b0_64 b0_158 (v0_148_opened p0) (v0_158_holding p0) (0 : Int64) (0 : Int64) h93 n0 Z93 fc101 fc103 fc104 fc106 fc107 fc108 A93 gle_b0_158 ne_b0_64_b0_158) hZ (hw _ (List.mem_of_getElem? (i := 65) rfl)) (hw _ (List.mem_of_getElem? (i := 2) rfl)) (by decide) (by decide)) q110a q110c (g := (mkF m 171 (la0_4 p0 b0_158 b0_64) [(.ref b0_158), (.ref b0_64)])) rfl (by rw [hml]; rfl) (Steps.refl _) (argsL := [(.ref b0_158)]) (rest := []) (lenOf pd__Lcom_example_wedgetree_wedgetree_core_QueryCounts__V rfl) rfl (by show 2 * 0 + _ ≤ _; exact Nat.le_of_eq rfl) (hb hby at_171) (fun _ _ => ⟨rfl, e109, (by decide : 6 + 0 ≤ _), (by decide : 19 + 0 ≤ _)⟩)
  dsimp only [Pt.U, Pt.locs, Pt.cells, Pt.slots] at X110 l110 y110 z110 st110 hQ110
  subst l110 y110 z110
  obtain ⟨rfl, N110q, u110_0, u110_1, u110_2, u110_3, u110_4⟩ := hQ110
  have N110 := Fr.app N109 N110q
  have Z110 : n0 ≤ T110.heap.size := Nat.le_trans Z93 u110_0.1
  have fc111 : OArr Z T110.heap r0_682 .boolean (1 : Int32) [(.int (0 : Int32))] (.int (0 : Int32)) := (fc94.keep u110_0 (ninS ne_r0_682_b0_158 nin0))
  have fc112 : OArr Z T110.heap r0_951 .boolean (2 : Int32) [(.int (0 : Int32)), (.int (v0_113_r0_951_1 p0))] (.int (0 : Int32)) := (fc95.keep u110_0 (ninS ne_r0_951_b0_158 nin0))
  have fc113 : OArr Z T110.heap r0_681 .int (1 : Int32) [(.int (3 : Int32))] (.int (0 : Int32)) := (fc96.keep u110_0 (ninS ne_r0_681_b0_158 nin0))
  have fc114 : Exa Z T110.heap b0_64 "com/example/wedgetree/wedgetree/core/OpenedNodes" := (fc97.keep u110_0)
  have fc115 : Fld Z T110.heap b0_64 "com/example/wedgetree/wedgetree/core/OpenedNodes" "waitingDepths" "[I" (.ref r0_681) := (fc98.keep u110_0 (ninS ne_b0_64_b0_158 nin0))
  have fc116 : Fld Z T110.heap b0_64 "com/example/wedgetree/wedgetree/core/OpenedNodes" "waiting" "I" (.int (0 : Int32)) := (fc99.keep u110_0 (ninS ne_b0_64_b0_158 nin0))
  have fc117 : Fld Z T110.heap b0_64 "com/example/wedgetree/wedgetree/core/OpenedNodes" "holdsAnswer" "[Z" (.ref r0_1151) := (fc100.keep u110_0 (ninS ne_b0_64_b0_158 nin0))
  have fc118 : Fld Z T110.heap b0_64 "com/example/wedgetree/wedgetree/core/OpenedNodes" "tallying" "Z" (.int (1 : Int32)) := (fc101.keep u110_0 (ninS ne_b0_64_b0_158 nin0))
  have fc119 : Fld Z T110.heap b0_64 "com/example/wedgetree/wedgetree/core/OpenedNodes" "depth" "I" (.int (3 : Int32)) := (fc102.keep u110_0 (ninS ne_b0_64_b0_158 nin0))
  have fc120 : Fld Z T110.heap b0_64 "com/example/wedgetree/wedgetree/core/OpenedNodes" "opened" "J" (.long (v0_148_opened p0)) := (fc103.keep u110_0 (ninS ne_b0_64_b0_158 nin0))
  have fc121 : Fld Z T110.heap b0_64 "com/example/wedgetree/wedgetree/core/OpenedNodes" "holding" "J" (.long (v0_158_holding p0)) := (fc104.keep u110_0 (ninS ne_b0_64_b0_158 nin0))
  have fc122 : OArr Z T110.heap r0_1151 .boolean (4 : Int32) [(.int (0 : Int32)), (.int (v0_158_r0_1151_1 p0)), (.int (v0_158_r0_1151_2 p0)), (.int (v0_158_r0_1151_3 p0))] (.int (0 : Int32)) := (fc105.keep u110_0 (ninS ne_r0_1151_b0_158 nin0))
  refine OEnd.go (g' := (mkF m 174 (la0_4 p0 b0_158 b0_64) [])) (fun _ k => st110.trans k) ?_
  refine OEnd.go (T' := T110) (g' := (mkF m 176 (la0_4 p0 b0_158 b0_64) [(.int (v0_48 p0))])) (fun t k => ?_) ?_
  · show Steps p.tables e below (T110.setTop (mkF m 174 (la0_4 p0 b0_158 b0_64) [])) t
    refine XS.iload X110.here hx rfl (hb hby at_174) rfl ?_
    show Steps p.tables e below (T110.setTop (mkF m 176 (la0_4 p0 b0_158 b0_64) [(.int (v0_48 p0))])) t
    exact k
  refine OEnd.go (T' := T110) (g' := (mkF m 189 (la0_4 p0 b0_158 b0_64) [(.int (if (v0_48 p0) = (0 : Int32) then (if (v0_62 p0) = (0 : Int32) then (0 : Int32) else (1 : Int32)) else (1 : Int32)))])) (fun t k => ?_) ?_
  · show Steps p.tables e below (T110.setTop (mkF m 176 (la0_4 p0 b0_158 b0_64) [(.int (v0_48 p0))])) t
    by_cases hc123 : (v0_48 p0) = (0 : Int32)
    · skip
      refine XS.ifNo X110.here hx rfl (hb hby at_176) rfl ((if0 _ _).trans (teq (hc123)).2) ?_
      show Steps p.tables e below (T110.setTop (mkF m 179 (la0_4 p0 b0_158 b0_64) [])) t
      refine SGo.go (T' := T110) (g' := (mkF m 181 (la0_4 p0 b0_158 b0_64) [(.int (v0_62 p0))])) (fun t k => ?_) ?_
      · show Steps p.tables e below (T110.setTop (mkF m 179 (la0_4 p0 b0_158 b0_64) [])) t
        refine XS.iload X110.here hx rfl (hb hby at_179) rfl ?_
        show Steps p.tables e below (T110.setTop (mkF m 181 (la0_4 p0 b0_158 b0_64) [(.int (v0_62 p0))])) t
        exact k
      by_cases hc124 : (v0_62 p0) = (0 : Int32)
      · skip
        refine XS.ifYes X110.here hx rfl (pc0 := 181) (pc' := 188) rfl (hb hby at_181) rfl ((if0 _ _).trans (teq (hc124)).1) (by decide) (by decide) ?_
        show Steps p.tables e below (T110.setTop (mkF m 188 (la0_4 p0 b0_158 b0_64) [])) t
        refine SGo.go (T' := T110) (g' := (mkF m 189 (la0_4 p0 b0_158 b0_64) [(.int (0 : Int32))])) (fun t k => ?_) ?_
        · show Steps p.tables e below (T110.setTop (mkF m 188 (la0_4 p0 b0_158 b0_64) [])) t
          refine XS.iconst X110.here hx rfl (hb hby at_188) ?_
          show Steps p.tables e below (T110.setTop (mkF m 189 (la0_4 p0 b0_158 b0_64) [(.int (0 : Int32))])) t
          exact k
        exact (own_k (f := fun (z : Int32) => mkF m 189 #[.val (.int p0), .val (.int (v0_11 p0)), .val (.int (v0_23 p0)), .val (.int (v0_35 p0)), .val (.int (v0_48 p0)), .val (.int (v0_62 p0)), .val (.ref b0_64), .val (.ref b0_158), .unset, .unset, .unset, .unset, .unset, .unset] [(.int z)]) ((if_pos hc123).trans (if_pos hc124)) k)
      · skip
        refine XS.ifNo X110.here hx rfl (hb hby at_181) rfl ((if0 _ _).trans (feq (hc124)).1) ?_
        show Steps p.tables e below (T110.setTop (mkF m 184 (la0_4 p0 b0_158 b0_64) [])) t
        refine SGo.go (T' := T110) (g' := (mkF m 189 (la0_4 p0 b0_158 b0_64) [(.int (1 : Int32))])) (fun t k => ?_) ?_
        · show Steps p.tables e below (T110.setTop (mkF m 184 (la0_4 p0 b0_158 b0_64) [])) t
          refine XS.iconst X110.here hx rfl (hb hby at_184) ?_
          show Steps p.tables e below (T110.setTop (mkF m 185 (la0_4 p0 b0_158 b0_64) [(.int (1 : Int32))])) t
          refine XS.goto X110.here hx rfl (pc0 := 185) (pc' := 189) rfl (hb hby at_185) (by decide) (by decide) ?_
          show Steps p.tables e below (T110.setTop (mkF m 189 (la0_4 p0 b0_158 b0_64) [(.int (1 : Int32))])) t
          exact k
        exact (own_k (f := fun (z : Int32) => mkF m 189 #[.val (.int p0), .val (.int (v0_11 p0)), .val (.int (v0_23 p0)), .val (.int (v0_35 p0)), .val (.int (v0_48 p0)), .val (.int (v0_62 p0)), .val (.ref b0_64), .val (.ref b0_158), .unset, .unset, .unset, .unset, .unset, .unset] [(.int z)]) ((if_pos hc123).trans (if_neg hc124)) k)
    · skip
      refine XS.ifYes X110.here hx rfl (pc0 := 176) (pc' := 184) rfl (hb hby at_176) rfl ((if0 _ _).trans (feq (hc123)).2) (by decide) (by decide) ?_
      show Steps p.tables e below (T110.setTop (mkF m 184 (la0_4 p0 b0_158 b0_64) [])) t
      refine SGo.go (T' := T110) (g' := (mkF m 189 (la0_4 p0 b0_158 b0_64) [(.int (1 : Int32))])) (fun t k => ?_) ?_
      · show Steps p.tables e below (T110.setTop (mkF m 184 (la0_4 p0 b0_158 b0_64) [])) t
        refine XS.iconst X110.here hx rfl (hb hby at_184) ?_
        show Steps p.tables e below (T110.setTop (mkF m 185 (la0_4 p0 b0_158 b0_64) [(.int (1 : Int32))])) t
        refine XS.goto X110.here hx rfl (pc0 := 185) (pc' := 189) rfl (hb hby at_185) (by decide) (by decide) ?_
        show Steps p.tables e below (T110.setTop (mkF m 189 (la0_4 p0 b0_158 b0_64) [(.int (1 : Int32))])) t
        exact k
      exact (own_k (f := fun (z : Int32) => mkF m 189 #[.val (.int p0), .val (.int (v0_11 p0)), .val (.int (v0_23 p0)), .val (.int (v0_35 p0)), .val (.int (v0_48 p0)), .val (.int (v0_62 p0)), .val (.ref b0_64), .val (.ref b0_158), .unset, .unset, .unset, .unset, .unset, .unset] [(.int z)]) (if_neg hc123) k)
  refine OEnd.go (T' := T110) (g' := (mkF m 193 (la0_5 p0 b0_158 b0_64) [(.int (v0_189 p0))])) (fun t k => ?_) ?_
  · show Steps p.tables e below (T110.setTop (mkF m 189 (la0_4 p0 b0_158 b0_64) [(.int (if (v0_48 p0) = (0 : Int32) then (if (v0_62 p0) = (0 : Int32) then (0 : Int32) else (1 : Int32)) else (1 : Int32)))])) t
    refine XS.istore X110.here hx rfl (hb hby at_189) rfl (l' := (la0_5 p0 b0_158 b0_64)) rfl ?_
    show Steps p.tables e below (T110.setTop (mkF m 191 (la0_5 p0 b0_158 b0_64) [])) t
    refine XS.iload X110.here hx rfl (hb hby at_191) rfl ?_
    show Steps p.tables e below (T110.setTop (mkF m 193 (la0_5 p0 b0_158 b0_64) [(.int (v0_189 p0))])) t
    exact k
  refine OEnd.go (T' := T110) (g' := (mkF m 205 (la0_5 p0 b0_158 b0_64) [(.int (if (v0_189 p0) = (0 : Int32) then (if (v0_35 p0) = (0 : Int32) then (0 : Int32) else (1 : Int32)) else (1 : Int32)))])) (fun t k => ?_) ?_
  · show Steps p.tables e below (T110.setTop (mkF m 193 (la0_5 p0 b0_158 b0_64) [(.int (v0_189 p0))])) t
    by_cases hc125 : (v0_189 p0) = (0 : Int32)
    · skip
      refine XS.ifNo X110.here hx rfl (hb hby at_193) rfl ((if0 _ _).trans (teq (hc125)).2) ?_
      show Steps p.tables e below (T110.setTop (mkF m 196 (la0_5 p0 b0_158 b0_64) [])) t
      refine SGo.go (T' := T110) (g' := (mkF m 197 (la0_5 p0 b0_158 b0_64) [(.int (v0_35 p0))])) (fun t k => ?_) ?_
      · show Steps p.tables e below (T110.setTop (mkF m 196 (la0_5 p0 b0_158 b0_64) [])) t
        refine XS.iloadN X110.here hx rfl (hb hby at_196) rfl ?_
        show Steps p.tables e below (T110.setTop (mkF m 197 (la0_5 p0 b0_158 b0_64) [(.int (v0_35 p0))])) t
        exact k
      by_cases hc126 : (v0_35 p0) = (0 : Int32)
      · skip
        refine XS.ifYes X110.here hx rfl (pc0 := 197) (pc' := 204) rfl (hb hby at_197) rfl ((if0 _ _).trans (teq (hc126)).1) (by decide) (by decide) ?_
        show Steps p.tables e below (T110.setTop (mkF m 204 (la0_5 p0 b0_158 b0_64) [])) t
        refine SGo.go (T' := T110) (g' := (mkF m 205 (la0_5 p0 b0_158 b0_64) [(.int (0 : Int32))])) (fun t k => ?_) ?_
        · show Steps p.tables e below (T110.setTop (mkF m 204 (la0_5 p0 b0_158 b0_64) [])) t
          refine XS.iconst X110.here hx rfl (hb hby at_204) ?_
          show Steps p.tables e below (T110.setTop (mkF m 205 (la0_5 p0 b0_158 b0_64) [(.int (0 : Int32))])) t
          exact k
        exact (own_k (f := fun (z : Int32) => mkF m 205 #[.val (.int p0), .val (.int (v0_11 p0)), .val (.int (v0_23 p0)), .val (.int (v0_35 p0)), .val (.int (v0_48 p0)), .val (.int (v0_62 p0)), .val (.ref b0_64), .val (.ref b0_158), .val (.int (v0_189 p0)), .unset, .unset, .unset, .unset, .unset] [(.int z)]) ((if_pos hc125).trans (if_pos hc126)) k)
      · skip
        refine XS.ifNo X110.here hx rfl (hb hby at_197) rfl ((if0 _ _).trans (feq (hc126)).1) ?_
        show Steps p.tables e below (T110.setTop (mkF m 200 (la0_5 p0 b0_158 b0_64) [])) t
        refine SGo.go (T' := T110) (g' := (mkF m 205 (la0_5 p0 b0_158 b0_64) [(.int (1 : Int32))])) (fun t k => ?_) ?_
        · show Steps p.tables e below (T110.setTop (mkF m 200 (la0_5 p0 b0_158 b0_64) [])) t
          refine XS.iconst X110.here hx rfl (hb hby at_200) ?_
          show Steps p.tables e below (T110.setTop (mkF m 201 (la0_5 p0 b0_158 b0_64) [(.int (1 : Int32))])) t
          refine XS.goto X110.here hx rfl (pc0 := 201) (pc' := 205) rfl (hb hby at_201) (by decide) (by decide) ?_
          show Steps p.tables e below (T110.setTop (mkF m 205 (la0_5 p0 b0_158 b0_64) [(.int (1 : Int32))])) t
          exact k
        exact (own_k (f := fun (z : Int32) => mkF m 205 #[.val (.int p0), .val (.int (v0_11 p0)), .val (.int (v0_23 p0)), .val (.int (v0_35 p0)), .val (.int (v0_48 p0)), .val (.int (v0_62 p0)), .val (.ref b0_64), .val (.ref b0_158), .val (.int (v0_189 p0)), .unset, .unset, .unset, .unset, .unset] [(.int z)]) ((if_pos hc125).trans (if_neg hc126)) k)
    · skip
      refine XS.ifYes X110.here hx rfl (pc0 := 193) (pc' := 200) rfl (hb hby at_193) rfl ((if0 _ _).trans (feq (hc125)).2) (by decide) (by decide) ?_
      show Steps p.tables e below (T110.setTop (mkF m 200 (la0_5 p0 b0_158 b0_64) [])) t
      refine SGo.go (T' := T110) (g' := (mkF m 205 (la0_5 p0 b0_158 b0_64) [(.int (1 : Int32))])) (fun t k => ?_) ?_
      · show Steps p.tables e below (T110.setTop (mkF m 200 (la0_5 p0 b0_158 b0_64) [])) t
        refine XS.iconst X110.here hx rfl (hb hby at_200) ?_
        show Steps p.tables e below (T110.setTop (mkF m 201 (la0_5 p0 b0_158 b0_64) [(.int (1 : Int32))])) t
        refine XS.goto X110.here hx rfl (pc0 := 201) (pc' := 205) rfl (hb hby at_201) (by decide) (by decide) ?_
        show Steps p.tables e below (T110.setTop (mkF m 205 (la0_5 p0 b0_158 b0_64) [(.int (1 : Int32))])) t
        exact k
      exact (own_k (f := fun (z : Int32) => mkF m 205 #[.val (.int p0), .val (.int (v0_11 p0)), .val (.int (v0_23 p0)), .val (.int (v0_35 p0)), .val (.int (v0_48 p0)), .val (.int (v0_62 p0)), .val (.ref b0_64), .val (.ref b0_158), .val (.int (v0_189 p0)), .unset, .unset, .unset, .unset, .unset] [(.int z)]) (if_neg hc125) k)
  refine OEnd.go (T' := T110) (g' := (mkF m 209 (la0_6 p0 b0_158 b0_64) [(.int (v0_205 p0))])) (fun t k => ?_) ?_
  · show Steps p.tables e below (T110.setTop (mkF m 205 (la0_5 p0 b0_158 b0_64) [(.int (if (v0_189 p0) = (0 : Int32) then (if (v0_35 p0) = (0 : Int32) then (0 : Int32) else (1 : Int32)) else (1 : Int32)))])) t
    refine XS.istore X110.here hx rfl (hb hby at_205) rfl (l' := (la0_6 p0 b0_158 b0_64)) rfl ?_
    show Steps p.tables e below (T110.setTop (mkF m 207 (la0_6 p0 b0_158 b0_64) [])) t
    refine XS.iload X110.here hx rfl (hb hby at_207) rfl ?_
    show Steps p.tables e below (T110.setTop (mkF m 209 (la0_6 p0 b0_158 b0_64) [(.int (v0_205 p0))])) t
    exact k
  refine OEnd.go (T' := T110) (g' := (mkF m 221 (la0_6 p0 b0_158 b0_64) [(.int (if (v0_205 p0) = (0 : Int32) then (if (v0_23 p0) = (0 : Int32) then (0 : Int32) else (1 : Int32)) else (1 : Int32)))])) (fun t k => ?_) ?_
  · show Steps p.tables e below (T110.setTop (mkF m 209 (la0_6 p0 b0_158 b0_64) [(.int (v0_205 p0))])) t
    by_cases hc127 : (v0_205 p0) = (0 : Int32)
    · skip
      refine XS.ifNo X110.here hx rfl (hb hby at_209) rfl ((if0 _ _).trans (teq (hc127)).2) ?_
      show Steps p.tables e below (T110.setTop (mkF m 212 (la0_6 p0 b0_158 b0_64) [])) t
      refine SGo.go (T' := T110) (g' := (mkF m 213 (la0_6 p0 b0_158 b0_64) [(.int (v0_23 p0))])) (fun t k => ?_) ?_
      · show Steps p.tables e below (T110.setTop (mkF m 212 (la0_6 p0 b0_158 b0_64) [])) t
        refine XS.iloadN X110.here hx rfl (hb hby at_212) rfl ?_
        show Steps p.tables e below (T110.setTop (mkF m 213 (la0_6 p0 b0_158 b0_64) [(.int (v0_23 p0))])) t
        exact k
      by_cases hc128 : (v0_23 p0) = (0 : Int32)
      · skip
        refine XS.ifYes X110.here hx rfl (pc0 := 213) (pc' := 220) rfl (hb hby at_213) rfl ((if0 _ _).trans (teq (hc128)).1) (by decide) (by decide) ?_
        show Steps p.tables e below (T110.setTop (mkF m 220 (la0_6 p0 b0_158 b0_64) [])) t
        refine SGo.go (T' := T110) (g' := (mkF m 221 (la0_6 p0 b0_158 b0_64) [(.int (0 : Int32))])) (fun t k => ?_) ?_
        · show Steps p.tables e below (T110.setTop (mkF m 220 (la0_6 p0 b0_158 b0_64) [])) t
          refine XS.iconst X110.here hx rfl (hb hby at_220) ?_
          show Steps p.tables e below (T110.setTop (mkF m 221 (la0_6 p0 b0_158 b0_64) [(.int (0 : Int32))])) t
          exact k
        exact (own_k (f := fun (z : Int32) => mkF m 221 #[.val (.int p0), .val (.int (v0_11 p0)), .val (.int (v0_23 p0)), .val (.int (v0_35 p0)), .val (.int (v0_48 p0)), .val (.int (v0_62 p0)), .val (.ref b0_64), .val (.ref b0_158), .val (.int (v0_189 p0)), .val (.int (v0_205 p0)), .unset, .unset, .unset, .unset] [(.int z)]) ((if_pos hc127).trans (if_pos hc128)) k)
      · skip
        refine XS.ifNo X110.here hx rfl (hb hby at_213) rfl ((if0 _ _).trans (feq (hc128)).1) ?_
        show Steps p.tables e below (T110.setTop (mkF m 216 (la0_6 p0 b0_158 b0_64) [])) t
        refine SGo.go (T' := T110) (g' := (mkF m 221 (la0_6 p0 b0_158 b0_64) [(.int (1 : Int32))])) (fun t k => ?_) ?_
        · show Steps p.tables e below (T110.setTop (mkF m 216 (la0_6 p0 b0_158 b0_64) [])) t
          refine XS.iconst X110.here hx rfl (hb hby at_216) ?_
          show Steps p.tables e below (T110.setTop (mkF m 217 (la0_6 p0 b0_158 b0_64) [(.int (1 : Int32))])) t
          refine XS.goto X110.here hx rfl (pc0 := 217) (pc' := 221) rfl (hb hby at_217) (by decide) (by decide) ?_
          show Steps p.tables e below (T110.setTop (mkF m 221 (la0_6 p0 b0_158 b0_64) [(.int (1 : Int32))])) t
          exact k
        exact (own_k (f := fun (z : Int32) => mkF m 221 #[.val (.int p0), .val (.int (v0_11 p0)), .val (.int (v0_23 p0)), .val (.int (v0_35 p0)), .val (.int (v0_48 p0)), .val (.int (v0_62 p0)), .val (.ref b0_64), .val (.ref b0_158), .val (.int (v0_189 p0)), .val (.int (v0_205 p0)), .unset, .unset, .unset, .unset] [(.int z)]) ((if_pos hc127).trans (if_neg hc128)) k)
    · skip
      refine XS.ifYes X110.here hx rfl (pc0 := 209) (pc' := 216) rfl (hb hby at_209) rfl ((if0 _ _).trans (feq (hc127)).2) (by decide) (by decide) ?_
      show Steps p.tables e below (T110.setTop (mkF m 216 (la0_6 p0 b0_158 b0_64) [])) t
      refine SGo.go (T' := T110) (g' := (mkF m 221 (la0_6 p0 b0_158 b0_64) [(.int (1 : Int32))])) (fun t k => ?_) ?_
      · show Steps p.tables e below (T110.setTop (mkF m 216 (la0_6 p0 b0_158 b0_64) [])) t
        refine XS.iconst X110.here hx rfl (hb hby at_216) ?_
        show Steps p.tables e below (T110.setTop (mkF m 217 (la0_6 p0 b0_158 b0_64) [(.int (1 : Int32))])) t
        refine XS.goto X110.here hx rfl (pc0 := 217) (pc' := 221) rfl (hb hby at_217) (by decide) (by decide) ?_
        show Steps p.tables e below (T110.setTop (mkF m 221 (la0_6 p0 b0_158 b0_64) [(.int (1 : Int32))])) t
        exact k
      exact (own_k (f := fun (z : Int32) => mkF m 221 #[.val (.int p0), .val (.int (v0_11 p0)), .val (.int (v0_23 p0)), .val (.int (v0_35 p0)), .val (.int (v0_48 p0)), .val (.int (v0_62 p0)), .val (.ref b0_64), .val (.ref b0_158), .val (.int (v0_189 p0)), .val (.int (v0_205 p0)), .unset, .unset, .unset, .unset] [(.int z)]) (if_neg hc127) k)
  refine OEnd.go (T' := T110) (g' := (mkF m 225 (la0_7 p0 b0_158 b0_64) [(.int (v0_221 p0))])) (fun t k => ?_) ?_
  · show Steps p.tables e below (T110.setTop (mkF m 221 (la0_6 p0 b0_158 b0_64) [(.int (if (v0_205 p0) = (0 : Int32) then (if (v0_23 p0) = (0 : Int32) then (0 : Int32) else (1 : Int32)) else (1 : Int32)))])) t
    refine XS.istore X110.here hx rfl (hb hby at_221) rfl (l' := (la0_7 p0 b0_158 b0_64)) rfl ?_
    show Steps p.tables e below (T110.setTop (mkF m 223 (la0_7 p0 b0_158 b0_64) [])) t
    refine XS.iload X110.here hx rfl (hb hby at_223) rfl ?_
    show Steps p.tables e below (T110.setTop (mkF m 225 (la0_7 p0 b0_158 b0_64) [(.int (v0_221 p0))])) t
    exact k
  refine OEnd.go (T' := T110) (g' := (mkF m 233 (la0_7 p0 b0_158 b0_64) [(.long (if (v0_221 p0) = (0 : Int32) then (0 : Int64) else (1 : Int64)))])) (fun t k => ?_) ?_
  · show Steps p.tables e below (T110.setTop (mkF m 225 (la0_7 p0 b0_158 b0_64) [(.int (v0_221 p0))])) t
    by_cases hc129 : (v0_221 p0) = (0 : Int32)
    · skip
      refine XS.ifYes X110.here hx rfl (pc0 := 225) (pc' := 232) rfl (hb hby at_225) rfl ((if0 _ _).trans (teq (hc129)).1) (by decide) (by decide) ?_
      show Steps p.tables e below (T110.setTop (mkF m 232 (la0_7 p0 b0_158 b0_64) [])) t
      refine SGo.go (T' := T110) (g' := (mkF m 233 (la0_7 p0 b0_158 b0_64) [(.long (0 : Int64))])) (fun t k => ?_) ?_
      · show Steps p.tables e below (T110.setTop (mkF m 232 (la0_7 p0 b0_158 b0_64) [])) t
        refine XS.lconst X110.here hx rfl (hb hby at_232) ?_
        show Steps p.tables e below (T110.setTop (mkF m 233 (la0_7 p0 b0_158 b0_64) [(.long (0 : Int64))])) t
        exact k
      exact (own_k (f := fun (z : Int64) => mkF m 233 #[.val (.int p0), .val (.int (v0_11 p0)), .val (.int (v0_23 p0)), .val (.int (v0_35 p0)), .val (.int (v0_48 p0)), .val (.int (v0_62 p0)), .val (.ref b0_64), .val (.ref b0_158), .val (.int (v0_189 p0)), .val (.int (v0_205 p0)), .val (.int (v0_221 p0)), .unset, .unset, .unset] [(.long z)]) (if_pos hc129) k)
    · skip
      refine XS.ifNo X110.here hx rfl (hb hby at_225) rfl ((if0 _ _).trans (feq (hc129)).1) ?_
      show Steps p.tables e below (T110.setTop (mkF m 228 (la0_7 p0 b0_158 b0_64) [])) t
      refine SGo.go (T' := T110) (g' := (mkF m 233 (la0_7 p0 b0_158 b0_64) [(.long (1 : Int64))])) (fun t k => ?_) ?_
      · show Steps p.tables e below (T110.setTop (mkF m 228 (la0_7 p0 b0_158 b0_64) [])) t
        refine XS.lconst X110.here hx rfl (hb hby at_228) ?_
        show Steps p.tables e below (T110.setTop (mkF m 229 (la0_7 p0 b0_158 b0_64) [(.long (1 : Int64))])) t
        refine XS.goto X110.here hx rfl (pc0 := 229) (pc' := 233) rfl (hb hby at_229) (by decide) (by decide) ?_
        show Steps p.tables e below (T110.setTop (mkF m 233 (la0_7 p0 b0_158 b0_64) [(.long (1 : Int64))])) t
        exact k
      exact (own_k (f := fun (z : Int64) => mkF m 233 #[.val (.int p0), .val (.int (v0_11 p0)), .val (.int (v0_23 p0)), .val (.int (v0_35 p0)), .val (.int (v0_48 p0)), .val (.int (v0_62 p0)), .val (.ref b0_64), .val (.ref b0_158), .val (.int (v0_189 p0)), .val (.int (v0_205 p0)), .val (.int (v0_221 p0)), .unset, .unset, .unset] [(.long z)]) (if_neg hc129) k)
  refine OEnd.go (T' := T110) (g' := (mkF m 235 (la0_7 p0 b0_158 b0_64) [(.int (v0_205 p0)), (.long (if (v0_221 p0) = (0 : Int32) then (0 : Int64) else (1 : Int64)))])) (fun t k => ?_) ?_
  · show Steps p.tables e below (T110.setTop (mkF m 233 (la0_7 p0 b0_158 b0_64) [(.long (if (v0_221 p0) = (0 : Int32) then (0 : Int64) else (1 : Int64)))])) t
    refine XS.iload X110.here hx rfl (hb hby at_233) rfl ?_
    show Steps p.tables e below (T110.setTop (mkF m 235 (la0_7 p0 b0_158 b0_64) [(.int (v0_205 p0)), (.long (if (v0_221 p0) = (0 : Int32) then (0 : Int64) else (1 : Int64)))])) t
    exact k
  refine OEnd.go (T' := T110) (g' := (mkF m 243 (la0_7 p0 b0_158 b0_64) [(.long (if (v0_205 p0) = (0 : Int32) then (0 : Int64) else (1 : Int64))), (.long (if (v0_221 p0) = (0 : Int32) then (0 : Int64) else (1 : Int64)))])) (fun t k => ?_) ?_
  · show Steps p.tables e below (T110.setTop (mkF m 235 (la0_7 p0 b0_158 b0_64) [(.int (v0_205 p0)), (.long (if (v0_221 p0) = (0 : Int32) then (0 : Int64) else (1 : Int64)))])) t
    by_cases hc130 : (v0_205 p0) = (0 : Int32)
    · skip
      refine XS.ifYes X110.here hx rfl (pc0 := 235) (pc' := 242) rfl (hb hby at_235) rfl ((if0 _ _).trans (teq (hc130)).1) (by decide) (by decide) ?_
      show Steps p.tables e below (T110.setTop (mkF m 242 (la0_7 p0 b0_158 b0_64) [(.long (if (v0_221 p0) = (0 : Int32) then (0 : Int64) else (1 : Int64)))])) t
      refine SGo.go (T' := T110) (g' := (mkF m 243 (la0_7 p0 b0_158 b0_64) [(.long (0 : Int64)), (.long (if (v0_221 p0) = (0 : Int32) then (0 : Int64) else (1 : Int64)))])) (fun t k => ?_) ?_
      · show Steps p.tables e below (T110.setTop (mkF m 242 (la0_7 p0 b0_158 b0_64) [(.long (if (v0_221 p0) = (0 : Int32) then (0 : Int64) else (1 : Int64)))])) t
        refine XS.lconst X110.here hx rfl (hb hby at_242) ?_
        show Steps p.tables e below (T110.setTop (mkF m 243 (la0_7 p0 b0_158 b0_64) [(.long (0 : Int64)), (.long (if (v0_221 p0) = (0 : Int32) then (0 : Int64) else (1 : Int64)))])) t
        exact k
      exact (own_k (f := fun (z : Int64) => mkF m 243 #[.val (.int p0), .val (.int (v0_11 p0)), .val (.int (v0_23 p0)), .val (.int (v0_35 p0)), .val (.int (v0_48 p0)), .val (.int (v0_62 p0)), .val (.ref b0_64), .val (.ref b0_158), .val (.int (v0_189 p0)), .val (.int (v0_205 p0)), .val (.int (v0_221 p0)), .unset, .unset, .unset] [(.long z), (.long (if (v0_221 p0) = (0 : Int32) then (0 : Int64) else (1 : Int64)))]) (if_pos hc130) k)
    · skip
      refine XS.ifNo X110.here hx rfl (hb hby at_235) rfl ((if0 _ _).trans (feq (hc130)).1) ?_
      show Steps p.tables e below (T110.setTop (mkF m 238 (la0_7 p0 b0_158 b0_64) [(.long (if (v0_221 p0) = (0 : Int32) then (0 : Int64) else (1 : Int64)))])) t
      refine SGo.go (T' := T110) (g' := (mkF m 243 (la0_7 p0 b0_158 b0_64) [(.long (1 : Int64)), (.long (if (v0_221 p0) = (0 : Int32) then (0 : Int64) else (1 : Int64)))])) (fun t k => ?_) ?_
      · show Steps p.tables e below (T110.setTop (mkF m 238 (la0_7 p0 b0_158 b0_64) [(.long (if (v0_221 p0) = (0 : Int32) then (0 : Int64) else (1 : Int64)))])) t
        refine XS.lconst X110.here hx rfl (hb hby at_238) ?_
        show Steps p.tables e below (T110.setTop (mkF m 239 (la0_7 p0 b0_158 b0_64) [(.long (1 : Int64)), (.long (if (v0_221 p0) = (0 : Int32) then (0 : Int64) else (1 : Int64)))])) t
        refine XS.goto X110.here hx rfl (pc0 := 239) (pc' := 243) rfl (hb hby at_239) (by decide) (by decide) ?_
        show Steps p.tables e below (T110.setTop (mkF m 243 (la0_7 p0 b0_158 b0_64) [(.long (1 : Int64)), (.long (if (v0_221 p0) = (0 : Int32) then (0 : Int64) else (1 : Int64)))])) t
        exact k
      exact (own_k (f := fun (z : Int64) => mkF m 243 #[.val (.int p0), .val (.int (v0_11 p0)), .val (.int (v0_23 p0)), .val (.int (v0_35 p0)), .val (.int (v0_48 p0)), .val (.int (v0_62 p0)), .val (.ref b0_64), .val (.ref b0_158), .val (.int (v0_189 p0)), .val (.int (v0_205 p0)), .val (.int (v0_221 p0)), .unset, .unset, .unset] [(.long z), (.long (if (v0_221 p0) = (0 : Int32) then (0 : Int64) else (1 : Int64)))]) (if_neg hc130) k)
  refine OEnd.go (T' := T110) (g' := (mkF m 246 (la0_7 p0 b0_158 b0_64) [(.int (v0_189 p0)), (.long ((v0_243_s1 p0) + (v0_243_s0 p0)))])) (fun t k => ?_) ?_
  · show Steps p.tables e below (T110.setTop (mkF m 243 (la0_7 p0 b0_158 b0_64) [(.long (v0_243_s0 p0)), (.long (v0_243_s1 p0))])) t
    refine XS.ladd X110.here hx rfl (hb hby at_243) rfl ?_
    show Steps p.tables e below (T110.setTop (mkF m 244 (la0_7 p0 b0_158 b0_64) [(.long ((v0_243_s1 p0) + (v0_243_s0 p0)))])) t
    refine XS.iload X110.here hx rfl (hb hby at_244) rfl ?_
    show Steps p.tables e below (T110.setTop (mkF m 246 (la0_7 p0 b0_158 b0_64) [(.int (v0_189 p0)), (.long ((v0_243_s1 p0) + (v0_243_s0 p0)))])) t
    exact k
  refine OEnd.go (T' := T110) (g' := (mkF m 254 (la0_7 p0 b0_158 b0_64) [(.long (if (v0_189 p0) = (0 : Int32) then (0 : Int64) else (1 : Int64))), (.long ((v0_243_s1 p0) + (v0_243_s0 p0)))])) (fun t k => ?_) ?_
  · show Steps p.tables e below (T110.setTop (mkF m 246 (la0_7 p0 b0_158 b0_64) [(.int (v0_189 p0)), (.long ((v0_243_s1 p0) + (v0_243_s0 p0)))])) t
    by_cases hc131 : (v0_189 p0) = (0 : Int32)
    · skip
      refine XS.ifYes X110.here hx rfl (pc0 := 246) (pc' := 253) rfl (hb hby at_246) rfl ((if0 _ _).trans (teq (hc131)).1) (by decide) (by decide) ?_
      show Steps p.tables e below (T110.setTop (mkF m 253 (la0_7 p0 b0_158 b0_64) [(.long ((v0_243_s1 p0) + (v0_243_s0 p0)))])) t
      refine SGo.go (T' := T110) (g' := (mkF m 254 (la0_7 p0 b0_158 b0_64) [(.long (0 : Int64)), (.long ((v0_243_s1 p0) + (v0_243_s0 p0)))])) (fun t k => ?_) ?_
      · show Steps p.tables e below (T110.setTop (mkF m 253 (la0_7 p0 b0_158 b0_64) [(.long ((v0_243_s1 p0) + (v0_243_s0 p0)))])) t
        refine XS.lconst X110.here hx rfl (hb hby at_253) ?_
        show Steps p.tables e below (T110.setTop (mkF m 254 (la0_7 p0 b0_158 b0_64) [(.long (0 : Int64)), (.long ((v0_243_s1 p0) + (v0_243_s0 p0)))])) t
        exact k
      exact (own_k (f := fun (z : Int64) => mkF m 254 #[.val (.int p0), .val (.int (v0_11 p0)), .val (.int (v0_23 p0)), .val (.int (v0_35 p0)), .val (.int (v0_48 p0)), .val (.int (v0_62 p0)), .val (.ref b0_64), .val (.ref b0_158), .val (.int (v0_189 p0)), .val (.int (v0_205 p0)), .val (.int (v0_221 p0)), .unset, .unset, .unset] [(.long z), (.long ((v0_243_s1 p0) + (v0_243_s0 p0)))]) (if_pos hc131) k)
    · skip
      refine XS.ifNo X110.here hx rfl (hb hby at_246) rfl ((if0 _ _).trans (feq (hc131)).1) ?_
      show Steps p.tables e below (T110.setTop (mkF m 249 (la0_7 p0 b0_158 b0_64) [(.long ((v0_243_s1 p0) + (v0_243_s0 p0)))])) t
      refine SGo.go (T' := T110) (g' := (mkF m 254 (la0_7 p0 b0_158 b0_64) [(.long (1 : Int64)), (.long ((v0_243_s1 p0) + (v0_243_s0 p0)))])) (fun t k => ?_) ?_
      · show Steps p.tables e below (T110.setTop (mkF m 249 (la0_7 p0 b0_158 b0_64) [(.long ((v0_243_s1 p0) + (v0_243_s0 p0)))])) t
        refine XS.lconst X110.here hx rfl (hb hby at_249) ?_
        show Steps p.tables e below (T110.setTop (mkF m 250 (la0_7 p0 b0_158 b0_64) [(.long (1 : Int64)), (.long ((v0_243_s1 p0) + (v0_243_s0 p0)))])) t
        refine XS.goto X110.here hx rfl (pc0 := 250) (pc' := 254) rfl (hb hby at_250) (by decide) (by decide) ?_
        show Steps p.tables e below (T110.setTop (mkF m 254 (la0_7 p0 b0_158 b0_64) [(.long (1 : Int64)), (.long ((v0_243_s1 p0) + (v0_243_s0 p0)))])) t
        exact k
      exact (own_k (f := fun (z : Int64) => mkF m 254 #[.val (.int p0), .val (.int (v0_11 p0)), .val (.int (v0_23 p0)), .val (.int (v0_35 p0)), .val (.int (v0_48 p0)), .val (.int (v0_62 p0)), .val (.ref b0_64), .val (.ref b0_158), .val (.int (v0_189 p0)), .val (.int (v0_205 p0)), .val (.int (v0_221 p0)), .unset, .unset, .unset] [(.long z), (.long ((v0_243_s1 p0) + (v0_243_s0 p0)))]) (if_neg hc131) k)
  refine OEnd.go (T' := T110) (g' := (mkF m 259 (la0_8 p0 b0_158 b0_64) [(.ref b0_158)])) (fun t k => ?_) ?_
  · show Steps p.tables e below (T110.setTop (mkF m 254 (la0_7 p0 b0_158 b0_64) [(.long (v0_254_s0 p0)), (.long ((v0_243_s1 p0) + (v0_243_s0 p0)))])) t
    refine XS.ladd X110.here hx rfl (hb hby at_254) rfl ?_
    show Steps p.tables e below (T110.setTop (mkF m 255 (la0_7 p0 b0_158 b0_64) [(.long (((v0_243_s1 p0) + (v0_243_s0 p0)) + (v0_254_s0 p0)))])) t
    refine XS.lstore X110.here hx rfl (hb hby at_255) rfl (l' := (la0_8 p0 b0_158 b0_64)) rfl ?_
    show Steps p.tables e below (T110.setTop (mkF m 257 (la0_8 p0 b0_158 b0_64) [])) t
    refine XS.aload X110.here hx rfl (hb hby at_257) rfl rfl ?_
    show Steps p.tables e below (T110.setTop (mkF m 259 (la0_8 p0 b0_158 b0_64) [(.ref b0_158)])) t
    exact k
  obtain ⟨cq132, kq132, q132a, q132b, q132c⟩ := isOf hZ rfl u110_1
  obtain ⟨_, _, ⟨T132, L132, k132, n132⟩, -, X132, ⟨Lc132, hQ132, l132, y132, z132⟩, st132⟩ := X110.virtualBack hx (y := (⟨"com/example/wedgetree/wedgetree/core/QueryCounts", "wrongNodes", "()Ljava/util/OptionalLong;"⟩ : MethodName)) (z := (⟨"com/example/wedgetree/wedgetree/core/QueryCounts", "wrongNodes", "()Ljava/util/OptionalLong;"⟩ : MethodName)) hown (mvT hZ (hw _ (List.mem_of_getElem? (i := 82) rfl))) (mvT hZ (hw _ (List.mem_of_getElem? (i := 83) rfl))) (notFace_of_selects (args := #[]) (mvT hZ (hw _ (List.mem_of_getElem? (i := 85) rfl)))) (mvT hZ (hw _ (List.mem_of_getElem? (i := 85) rfl))) (mvT hZ (hw _ (List.mem_of_getElem? (i := 84) rfl))) (by decide) (backOf (W := 0) (rm14 l Z aZ hw [] b0_158 ((0 : Int64) + ((v0_148_opened p0) - (v0_158_holding p0))) T110.heap n0 Z110 u110_3 u110_4) hZ (hw _ (List.mem_of_getElem? (i := 86) rfl)) (hw _ (List.mem_of_getElem? (i := 56) rfl)) (by decide) (by decide)) q132a q132c (g := (mkF m 259 (la0_8 p0 b0_158 b0_64) [(.ref b0_158)])) rfl (by rw [hml]; rfl) (Steps.refl _) (argsL := []) (rest := []) (lenOf pd___Ljava_util_OptionalLong_ rfl) rfl (by show 2 * 0 + _ ≤ _; exact Nat.le_of_eq rfl) (hb hby at_259) (fun _ _ => ⟨rfl, rfl, (by decide : 6 + 1 ≤ _), (by decide : 19 + 2 ≤ _)⟩)
  dsimp only [Pt.U, Pt.locs, Pt.cells, Pt.slots] at X132 l132 y132 z132 st132 hQ132
  subst l132 y132 z132
  obtain ⟨r0_259, rfl, gle_r0_259, sz_r0_259', N132q, u132_0, u132_1, u132_2, u132_3⟩ := hQ132
  have ne_r0_682_r0_259 : r0_682 ≠ r0_259 := Nat.ne_of_lt (Nat.lt_of_lt_of_le fc111.lt sz_r0_259')
  have ne_r0_951_r0_259 : r0_951 ≠ r0_259 := Nat.ne_of_lt (Nat.lt_of_lt_of_le fc112.lt sz_r0_259')
  have ne_r0_681_r0_259 : r0_681 ≠ r0_259 := Nat.ne_of_lt (Nat.lt_of_lt_of_le fc113.lt sz_r0_259')
  have ne_b0_64_r0_259 : b0_64 ≠ r0_259 := Nat.ne_of_lt (Nat.lt_of_lt_of_le fc114.lt sz_r0_259')
  have ne_r0_1151_r0_259 : r0_1151 ≠ r0_259 := Nat.ne_of_lt (Nat.lt_of_lt_of_le fc122.lt sz_r0_259')
  have ne_b0_158_r0_259 : b0_158 ≠ r0_259 := Nat.ne_of_lt (Nat.lt_of_lt_of_le u110_1.lt sz_r0_259')
  have N132 := Fr.app N110 N132q
  have Z132 : n0 ≤ T132.heap.size := Nat.le_trans Z110 u132_0.1
  have fc133 : OArr Z T132.heap r0_682 .boolean (1 : Int32) [(.int (0 : Int32))] (.int (0 : Int32)) := (fc111.keep u132_0 nin0)
  have fc134 : OArr Z T132.heap r0_951 .boolean (2 : Int32) [(.int (0 : Int32)), (.int (v0_113_r0_951_1 p0))] (.int (0 : Int32)) := (fc112.keep u132_0 nin0)
  have fc135 : OArr Z T132.heap r0_681 .int (1 : Int32) [(.int (3 : Int32))] (.int (0 : Int32)) := (fc113.keep u132_0 nin0)
  have fc136 : Exa Z T132.heap b0_64 "com/example/wedgetree/wedgetree/core/OpenedNodes" := (fc114.keep u132_0)
  have fc137 : Fld Z T132.heap b0_64 "com/example/wedgetree/wedgetree/core/OpenedNodes" "waitingDepths" "[I" (.ref r0_681) := (fc115.keep u132_0 nin0)
  have fc138 : Fld Z T132.heap b0_64 "com/example/wedgetree/wedgetree/core/OpenedNodes" "waiting" "I" (.int (0 : Int32)) := (fc116.keep u132_0 nin0)
  have fc139 : Fld Z T132.heap b0_64 "com/example/wedgetree/wedgetree/core/OpenedNodes" "holdsAnswer" "[Z" (.ref r0_1151) := (fc117.keep u132_0 nin0)
  have fc140 : Fld Z T132.heap b0_64 "com/example/wedgetree/wedgetree/core/OpenedNodes" "tallying" "Z" (.int (1 : Int32)) := (fc118.keep u132_0 nin0)
  have fc141 : Fld Z T132.heap b0_64 "com/example/wedgetree/wedgetree/core/OpenedNodes" "depth" "I" (.int (3 : Int32)) := (fc119.keep u132_0 nin0)
  have fc142 : Fld Z T132.heap b0_64 "com/example/wedgetree/wedgetree/core/OpenedNodes" "opened" "J" (.long (v0_148_opened p0)) := (fc120.keep u132_0 nin0)
  have fc143 : Fld Z T132.heap b0_64 "com/example/wedgetree/wedgetree/core/OpenedNodes" "holding" "J" (.long (v0_158_holding p0)) := (fc121.keep u132_0 nin0)
  have fc144 : OArr Z T132.heap r0_1151 .boolean (4 : Int32) [(.int (0 : Int32)), (.int (v0_158_r0_1151_1 p0)), (.int (v0_158_r0_1151_2 p0)), (.int (v0_158_r0_1151_3 p0))] (.int (0 : Int32)) := (fc122.keep u132_0 nin0)
  have fc145 : Exa Z T132.heap b0_158 "com/example/wedgetree/wedgetree/core/QueryCounts" := (u110_1.keep u132_0)
  have fc146 : Fld Z T132.heap b0_158 "com/example/wedgetree/wedgetree/core/QueryCounts" "nodesOpened" "J" (.long ((0 : Int64) + ((1 : Int64) + (v0_148_opened p0)))) := (u110_2.keep u132_0 nin0)
  have fc147 : Fld Z T132.heap b0_158 "com/example/wedgetree/wedgetree/core/QueryCounts" "wrongNodes" "J" (.long ((0 : Int64) + ((v0_148_opened p0) - (v0_158_holding p0)))) := (u110_3.keep u132_0 nin0)
  have fc148 : Fld Z T132.heap b0_158 "com/example/wedgetree/wedgetree/core/QueryCounts" "wrongNodesUnknown" "Z" (.int (0 : Int32)) := (u110_4.keep u132_0 nin0)
  refine OEnd.go (g' := (mkF m 262 (la0_8 p0 b0_158 b0_64) [(.ref r0_259)])) (fun _ k => st132.trans k) ?_
  refine OEnd.go (T' := T132) (g' := (mkF m 266 (la0_9 p0 b0_158 b0_64 r0_259) [(.ref b0_158)])) (fun t k => ?_) ?_
  · show Steps p.tables e below (T132.setTop (mkF m 262 (la0_8 p0 b0_158 b0_64) [(.ref r0_259)])) t
    refine XS.astore X132.here hx rfl (hb hby at_262) rfl rfl (l' := (la0_9 p0 b0_158 b0_64 r0_259)) rfl ?_
    show Steps p.tables e below (T132.setTop (mkF m 264 (la0_9 p0 b0_158 b0_64 r0_259) [])) t
    refine XS.aload X132.here hx rfl (hb hby at_264) rfl rfl ?_
    show Steps p.tables e below (T132.setTop (mkF m 266 (la0_9 p0 b0_158 b0_64 r0_259) [(.ref b0_158)])) t
    exact k
  obtain ⟨cq149, kq149, q149a, q149b, q149c⟩ := isOf hZ rfl fc145
  obtain ⟨_, _, ⟨T149, L149, k149, n149⟩, -, X149, ⟨Lc149, hQ149, l149, y149, z149⟩, st149⟩ := X132.virtualBack hx (y := (⟨"com/example/wedgetree/wedgetree/core/QueryCounts", "nodesOpened", "()J"⟩ : MethodName)) (z := (⟨"com/example/wedgetree/wedgetree/core/QueryCounts", "nodesOpened", "()J"⟩ : MethodName)) hown (mvT hZ (hw _ (List.mem_of_getElem? (i := 104) rfl))) (mvT hZ (hw _ (List.mem_of_getElem? (i := 105) rfl))) (notFace_of_selects (args := #[]) (mvT hZ (hw _ (List.mem_of_getElem? (i := 107) rfl)))) (mvT hZ (hw _ (List.mem_of_getElem? (i := 107) rfl))) (mvT hZ (hw _ (List.mem_of_getElem? (i := 106) rfl))) (by decide) (backOf (W := 0) (rm17 l Z aZ hw [] b0_158 ((0 : Int64) + ((1 : Int64) + (v0_148_opened p0))) T132.heap n0 Z132 fc146) hZ (hw _ (List.mem_of_getElem? (i := 108) rfl)) (hw _ (List.mem_of_getElem? (i := 56) rfl)) (by decide) (by decide)) q149a q149c (g := (mkF m 266 (la0_9 p0 b0_158 b0_64 r0_259) [(.ref b0_158)])) rfl (by rw [hml]; rfl) (Steps.refl _) (argsL := []) (rest := []) (lenOf pd___J rfl) rfl (by show 2 * 0 + _ ≤ _; exact Nat.le_of_eq rfl) (hb hby at_266) (fun _ _ => ⟨rfl, rfl, (by decide : 7 + 0 ≤ _), (by decide : 21 + 0 ≤ _)⟩)
  dsimp only [Pt.U, Pt.locs, Pt.cells, Pt.slots] at X149 l149 y149 z149 st149 hQ149
  subst l149 y149 z149
  obtain ⟨rfl, N149q, e149⟩ := hQ149
  have N149 := Fr.app N132 N149q
  refine OEnd.go (g' := (mkF m 269 (la0_9 p0 b0_158 b0_64 r0_259) [(.long (f17 ((0 : Int64) + ((1 : Int64) + (v0_148_opened p0)))))])) (fun _ k => st149.trans k) ?_
  refine OEnd.go (T' := T149) (g' := (mkF m 273 (la0_9 p0 b0_158 b0_64 r0_259) [(.int (lcmpW (f17 ((0 : Int64) + ((1 : Int64) + (v0_148_opened p0)))) (4 : Int64)))])) (fun t k => ?_) ?_
  · show Steps p.tables e below (T149.setTop (mkF m 269 (la0_9 p0 b0_158 b0_64 r0_259) [(.long (f17 ((0 : Int64) + ((1 : Int64) + (v0_148_opened p0)))))])) t
    refine X149.ldc2Long hx hown (mvT hZ (hw _ (List.mem_of_getElem? (i := 109) rfl))) (g := (mkF m 269 (la0_9 p0 b0_158 b0_64 r0_259) [(.long (f17 ((0 : Int64) + ((1 : Int64) + (v0_148_opened p0)))))])) rfl (hb hby at_269) _ ?_
    show Steps p.tables e below (T149.setTop (mkF m 272 (la0_9 p0 b0_158 b0_64 r0_259) [(.long (4 : Int64)), (.long (f17 ((0 : Int64) + ((1 : Int64) + (v0_148_opened p0)))))])) t
    refine XS.lcmp X149.here hx rfl (hb hby at_272) rfl ?_
    show Steps p.tables e below (T149.setTop (mkF m 273 (la0_9 p0 b0_158 b0_64 r0_259) [(.int (lcmpW (f17 ((0 : Int64) + ((1 : Int64) + (v0_148_opened p0)))) (4 : Int64)))])) t
    exact k
  obtain ⟨T151, L151, X151, e151, N151, st151⟩ : ORch p l e room_1 s m #[(.int p0)] below meth c n0 T149 (mkF m 273 (la0_9 p0 b0_158 b0_64 r0_259) [(.int (lcmpW (f17 ((0 : Int64) + ((1 : Int64) + (v0_148_opened p0)))) (4 : Int64)))]) T132.heap (mkF m 304 (la0_9 p0 b0_158 b0_64 r0_259) [(.int (if (f17 ((0 : Int64) + ((1 : Int64) + (v0_148_opened p0)))) = (4 : Int64) then (if f18 = (0 : Int32) then (0 : Int32) else (if (f19 ((0 : Int64) + ((v0_148_opened p0) - (v0_158_holding p0)))) = ((3 : Int64) - (v0_255 p0)) then (1 : Int32) else (0 : Int32))) else (0 : Int32)))]) 7 21 := by
    by_cases hc150 : (f17 ((0 : Int64) + ((1 : Int64) + (v0_148_opened p0)))) = (4 : Int64)
    · skip
      refine ORch.go (T' := T149) (g' := (mkF m 276 (la0_9 p0 b0_158 b0_64 r0_259) [])) (fun t k => ?_) ?_
      · show Steps p.tables e below (T149.setTop (mkF m 273 (la0_9 p0 b0_158 b0_64 r0_259) [(.int (lcmpW (f17 ((0 : Int64) + ((1 : Int64) + (v0_148_opened p0)))) (4 : Int64)))])) t
        refine XS.ifNo X149.here hx rfl (hb hby at_273) rfl ((if0 _ _).trans (teq ((lw_eq (f17 ((0 : Int64) + ((1 : Int64) + (v0_148_opened p0)))) (4 : Int64)).mpr hc150)).2) ?_
        show Steps p.tables e below (T149.setTop (mkF m 276 (la0_9 p0 b0_158 b0_64 r0_259) [])) t
        exact k
      refine ORch.go (T' := T149) (g' := (mkF m 278 (la0_9 p0 b0_158 b0_64 r0_259) [(.ref r0_259)])) (fun t k => ?_) ?_
      · show Steps p.tables e below (T149.setTop (mkF m 276 (la0_9 p0 b0_158 b0_64 r0_259) [])) t
        refine XS.aload X149.here hx rfl (hb hby at_276) rfl rfl ?_
        show Steps p.tables e below (T149.setTop (mkF m 278 (la0_9 p0 b0_158 b0_64 r0_259) [(.ref r0_259)])) t
        exact k
      obtain ⟨cq152, kq152, q152a, q152b, q152c⟩ := isOf hZ e149 u132_1
      obtain ⟨_, _, ⟨T152, L152, k152, n152⟩, -, X152, ⟨Lc152, hQ152, l152, y152, z152⟩, st152⟩ := X149.virtualBack hx (y := (⟨"java/util/OptionalLong", "isPresent", "()Z"⟩ : MethodName)) (z := (⟨"java/util/OptionalLong", "isPresent", "()Z"⟩ : MethodName)) hown (mvT hZ (hw _ (List.mem_of_getElem? (i := 110) rfl))) (mvT hZ (hw _ (List.mem_of_getElem? (i := 111) rfl))) (notFace_of_selects (args := #[]) (mvT hZ (hw _ (List.mem_of_getElem? (i := 113) rfl)))) (mvT hZ (hw _ (List.mem_of_getElem? (i := 113) rfl))) (mvT hZ (hw _ (List.mem_of_getElem? (i := 112) rfl))) (by decide) (backOf (W := 0) (rm18 l Z aZ hw [] r0_259 T132.heap n0 Z132 u132_2) hZ (hw _ (List.mem_of_getElem? (i := 114) rfl)) (hw _ (List.mem_of_getElem? (i := 91) rfl)) (by decide) (by decide)) q152a q152c (g := (mkF m 278 (la0_9 p0 b0_158 b0_64 r0_259) [(.ref r0_259)])) rfl (by rw [hml]; rfl) (Steps.refl _) (argsL := []) (rest := []) (lenOf pd___Z rfl) rfl (by show 2 * 0 + _ ≤ _; exact Nat.le_of_eq rfl) (hb hby at_278) (fun _ _ => ⟨rfl, e149, (by decide : 7 + 0 ≤ _), (by decide : 21 + 0 ≤ _)⟩)
      dsimp only [Pt.U, Pt.locs, Pt.cells, Pt.slots] at X152 l152 y152 z152 st152 hQ152
      subst l152 y152 z152
      obtain ⟨rfl, N152q, e152⟩ := hQ152
      have N152 := Fr.app N149 N152q
      refine ORch.go (g' := (mkF m 281 (la0_9 p0 b0_158 b0_64 r0_259) [(.int f18)])) (fun _ k => st152.trans k) ?_
      by_cases hc153 : f18 = (0 : Int32)
      · skip
        refine ORch.go (T' := T152) (g' := (mkF m 303 (la0_9 p0 b0_158 b0_64 r0_259) [])) (fun t k => ?_) ?_
        · show Steps p.tables e below (T152.setTop (mkF m 281 (la0_9 p0 b0_158 b0_64 r0_259) [(.int f18)])) t
          refine XS.ifYes X152.here hx rfl (pc0 := 281) (pc' := 303) rfl (hb hby at_281) rfl ((if0 _ _).trans (teq (hc153)).1) (by decide) (by decide) ?_
          show Steps p.tables e below (T152.setTop (mkF m 303 (la0_9 p0 b0_158 b0_64 r0_259) [])) t
          exact k
        refine ORch.go (T' := T152) (g' := (mkF m 304 (la0_9 p0 b0_158 b0_64 r0_259) [(.int (0 : Int32))])) (fun t k => ?_) ?_
        · show Steps p.tables e below (T152.setTop (mkF m 303 (la0_9 p0 b0_158 b0_64 r0_259) [])) t
          refine XS.iconst X152.here hx rfl (hb hby at_303) ?_
          show Steps p.tables e below (T152.setTop (mkF m 304 (la0_9 p0 b0_158 b0_64 r0_259) [(.int (0 : Int32))])) t
          exact k
        exact ⟨_, _, X152, e152, N152, fun t k => (own_k (f := fun (z : Int32) => mkF m 304 #[.val (.int p0), .val (.int (v0_11 p0)), .val (.int (v0_23 p0)), .val (.int (v0_35 p0)), .val (.int (v0_48 p0)), .val (.int (v0_62 p0)), .val (.ref b0_64), .val (.ref b0_158), .val (.int (v0_189 p0)), .val (.int (v0_205 p0)), .val (.int (v0_221 p0)), .val (.long (v0_255 p0)), .second, .val (.ref r0_259)] [(.int z)]) ((if_pos hc150).trans (if_pos hc153)) k)⟩
      · skip
        refine ORch.go (T' := T152) (g' := (mkF m 284 (la0_9 p0 b0_158 b0_64 r0_259) [])) (fun t k => ?_) ?_
        · show Steps p.tables e below (T152.setTop (mkF m 281 (la0_9 p0 b0_158 b0_64 r0_259) [(.int f18)])) t
          refine XS.ifNo X152.here hx rfl (hb hby at_281) rfl ((if0 _ _).trans (feq (hc153)).1) ?_
          show Steps p.tables e below (T152.setTop (mkF m 284 (la0_9 p0 b0_158 b0_64 r0_259) [])) t
          exact k
        refine ORch.go (T' := T152) (g' := (mkF m 286 (la0_9 p0 b0_158 b0_64 r0_259) [(.ref r0_259)])) (fun t k => ?_) ?_
        · show Steps p.tables e below (T152.setTop (mkF m 284 (la0_9 p0 b0_158 b0_64 r0_259) [])) t
          refine XS.aload X152.here hx rfl (hb hby at_284) rfl rfl ?_
          show Steps p.tables e below (T152.setTop (mkF m 286 (la0_9 p0 b0_158 b0_64 r0_259) [(.ref r0_259)])) t
          exact k
        obtain ⟨cq154, kq154, q154a, q154b, q154c⟩ := isOf hZ e152 u132_1
        obtain ⟨_, _, ⟨T154, L154, k154, n154⟩, -, X154, ⟨Lc154, hQ154, l154, y154, z154⟩, st154⟩ := X152.virtualBack hx (y := (⟨"java/util/OptionalLong", "getAsLong", "()J"⟩ : MethodName)) (z := (⟨"java/util/OptionalLong", "getAsLong", "()J"⟩ : MethodName)) hown (mvT hZ (hw _ (List.mem_of_getElem? (i := 115) rfl))) (mvT hZ (hw _ (List.mem_of_getElem? (i := 116) rfl))) (notFace_of_selects (args := #[]) (mvT hZ (hw _ (List.mem_of_getElem? (i := 118) rfl)))) (mvT hZ (hw _ (List.mem_of_getElem? (i := 118) rfl))) (mvT hZ (hw _ (List.mem_of_getElem? (i := 117) rfl))) (by decide) (backOf (W := 0) (rm19 l Z aZ hw [] r0_259 ((0 : Int64) + ((v0_148_opened p0) - (v0_158_holding p0))) T132.heap n0 Z132 u132_2 u132_3) hZ (hw _ (List.mem_of_getElem? (i := 119) rfl)) (hw _ (List.mem_of_getElem? (i := 91) rfl)) (by decide) (by decide)) q154a q154c (g := (mkF m 286 (la0_9 p0 b0_158 b0_64 r0_259) [(.ref r0_259)])) rfl (by rw [hml]; rfl) (Steps.refl _) (argsL := []) (rest := []) (lenOf pd___J rfl) rfl (by show 2 * 0 + _ ≤ _; exact Nat.le_of_eq rfl) (hb hby at_286) (fun _ _ => ⟨rfl, e152, (by decide : 7 + 0 ≤ _), (by decide : 21 + 0 ≤ _)⟩)
        dsimp only [Pt.U, Pt.locs, Pt.cells, Pt.slots] at X154 l154 y154 z154 st154 hQ154
        subst l154 y154 z154
        obtain ⟨rfl, N154q, e154⟩ := hQ154
        have N154 := Fr.app N152 N154q
        refine ORch.go (g' := (mkF m 289 (la0_9 p0 b0_158 b0_64 r0_259) [(.long (f19 ((0 : Int64) + ((v0_148_opened p0) - (v0_158_holding p0)))))])) (fun _ k => st154.trans k) ?_
        refine ORch.go (T' := T154) (g' := (mkF m 296 (la0_9 p0 b0_158 b0_64 r0_259) [(.int (lcmpW (f19 ((0 : Int64) + ((v0_148_opened p0) - (v0_158_holding p0)))) ((3 : Int64) - (v0_255 p0))))])) (fun t k => ?_) ?_
        · show Steps p.tables e below (T154.setTop (mkF m 289 (la0_9 p0 b0_158 b0_64 r0_259) [(.long (f19 ((0 : Int64) + ((v0_148_opened p0) - (v0_158_holding p0)))))])) t
          refine X154.ldc2Long hx hown (mvT hZ (hw _ (List.mem_of_getElem? (i := 120) rfl))) (g := (mkF m 289 (la0_9 p0 b0_158 b0_64 r0_259) [(.long (f19 ((0 : Int64) + ((v0_148_opened p0) - (v0_158_holding p0)))))])) rfl (hb hby at_289) _ ?_
          show Steps p.tables e below (T154.setTop (mkF m 292 (la0_9 p0 b0_158 b0_64 r0_259) [(.long (3 : Int64)), (.long (f19 ((0 : Int64) + ((v0_148_opened p0) - (v0_158_holding p0)))))])) t
          refine XS.lload X154.here hx rfl (hb hby at_292) rfl ?_
          show Steps p.tables e below (T154.setTop (mkF m 294 (la0_9 p0 b0_158 b0_64 r0_259) [(.long (v0_255 p0)), (.long (3 : Int64)), (.long (f19 ((0 : Int64) + ((v0_148_opened p0) - (v0_158_holding p0)))))])) t
          refine XS.lsub X154.here hx rfl (hb hby at_294) rfl ?_
          show Steps p.tables e below (T154.setTop (mkF m 295 (la0_9 p0 b0_158 b0_64 r0_259) [(.long ((3 : Int64) - (v0_255 p0))), (.long (f19 ((0 : Int64) + ((v0_148_opened p0) - (v0_158_holding p0)))))])) t
          refine XS.lcmp X154.here hx rfl (hb hby at_295) rfl ?_
          show Steps p.tables e below (T154.setTop (mkF m 296 (la0_9 p0 b0_158 b0_64 r0_259) [(.int (lcmpW (f19 ((0 : Int64) + ((v0_148_opened p0) - (v0_158_holding p0)))) ((3 : Int64) - (v0_255 p0))))])) t
          exact k
        by_cases hc155 : (f19 ((0 : Int64) + ((v0_148_opened p0) - (v0_158_holding p0)))) = ((3 : Int64) - (v0_255 p0))
        · skip
          refine ORch.go (T' := T154) (g' := (mkF m 299 (la0_9 p0 b0_158 b0_64 r0_259) [])) (fun t k => ?_) ?_
          · show Steps p.tables e below (T154.setTop (mkF m 296 (la0_9 p0 b0_158 b0_64 r0_259) [(.int (lcmpW (f19 ((0 : Int64) + ((v0_148_opened p0) - (v0_158_holding p0)))) ((3 : Int64) - (v0_255 p0))))])) t
            refine XS.ifNo X154.here hx rfl (hb hby at_296) rfl ((if0 _ _).trans (teq ((lw_eq (f19 ((0 : Int64) + ((v0_148_opened p0) - (v0_158_holding p0)))) ((3 : Int64) - (v0_255 p0))).mpr hc155)).2) ?_
            show Steps p.tables e below (T154.setTop (mkF m 299 (la0_9 p0 b0_158 b0_64 r0_259) [])) t
            exact k
          refine ORch.go (T' := T154) (g' := (mkF m 304 (la0_9 p0 b0_158 b0_64 r0_259) [(.int (1 : Int32))])) (fun t k => ?_) ?_
          · show Steps p.tables e below (T154.setTop (mkF m 299 (la0_9 p0 b0_158 b0_64 r0_259) [])) t
            refine XS.iconst X154.here hx rfl (hb hby at_299) ?_
            show Steps p.tables e below (T154.setTop (mkF m 300 (la0_9 p0 b0_158 b0_64 r0_259) [(.int (1 : Int32))])) t
            refine XS.goto X154.here hx rfl (pc0 := 300) (pc' := 304) rfl (hb hby at_300) (by decide) (by decide) ?_
            show Steps p.tables e below (T154.setTop (mkF m 304 (la0_9 p0 b0_158 b0_64 r0_259) [(.int (1 : Int32))])) t
            exact k
          exact ⟨_, _, X154, e154, N154, fun t k => (own_k (f := fun (z : Int32) => mkF m 304 #[.val (.int p0), .val (.int (v0_11 p0)), .val (.int (v0_23 p0)), .val (.int (v0_35 p0)), .val (.int (v0_48 p0)), .val (.int (v0_62 p0)), .val (.ref b0_64), .val (.ref b0_158), .val (.int (v0_189 p0)), .val (.int (v0_205 p0)), .val (.int (v0_221 p0)), .val (.long (v0_255 p0)), .second, .val (.ref r0_259)] [(.int z)]) ((if_pos hc150).trans ((if_neg hc153).trans (if_pos hc155))) k)⟩
        · skip
          refine ORch.go (T' := T154) (g' := (mkF m 303 (la0_9 p0 b0_158 b0_64 r0_259) [])) (fun t k => ?_) ?_
          · show Steps p.tables e below (T154.setTop (mkF m 296 (la0_9 p0 b0_158 b0_64 r0_259) [(.int (lcmpW (f19 ((0 : Int64) + ((v0_148_opened p0) - (v0_158_holding p0)))) ((3 : Int64) - (v0_255 p0))))])) t
            refine XS.ifYes X154.here hx rfl (pc0 := 296) (pc' := 303) rfl (hb hby at_296) rfl ((if0 _ _).trans (feq ((fun q => hc155 ((lw_eq (f19 ((0 : Int64) + ((v0_148_opened p0) - (v0_158_holding p0)))) ((3 : Int64) - (v0_255 p0))).mp q)))).2) (by decide) (by decide) ?_
            show Steps p.tables e below (T154.setTop (mkF m 303 (la0_9 p0 b0_158 b0_64 r0_259) [])) t
            exact k
          refine ORch.go (T' := T154) (g' := (mkF m 304 (la0_9 p0 b0_158 b0_64 r0_259) [(.int (0 : Int32))])) (fun t k => ?_) ?_
          · show Steps p.tables e below (T154.setTop (mkF m 303 (la0_9 p0 b0_158 b0_64 r0_259) [])) t
            refine XS.iconst X154.here hx rfl (hb hby at_303) ?_
            show Steps p.tables e below (T154.setTop (mkF m 304 (la0_9 p0 b0_158 b0_64 r0_259) [(.int (0 : Int32))])) t
            exact k
          exact ⟨_, _, X154, e154, N154, fun t k => (own_k (f := fun (z : Int32) => mkF m 304 #[.val (.int p0), .val (.int (v0_11 p0)), .val (.int (v0_23 p0)), .val (.int (v0_35 p0)), .val (.int (v0_48 p0)), .val (.int (v0_62 p0)), .val (.ref b0_64), .val (.ref b0_158), .val (.int (v0_189 p0)), .val (.int (v0_205 p0)), .val (.int (v0_221 p0)), .val (.long (v0_255 p0)), .second, .val (.ref r0_259)] [(.int z)]) ((if_pos hc150).trans ((if_neg hc153).trans (if_neg hc155))) k)⟩
    · skip
      refine ORch.go (T' := T149) (g' := (mkF m 303 (la0_9 p0 b0_158 b0_64 r0_259) [])) (fun t k => ?_) ?_
      · show Steps p.tables e below (T149.setTop (mkF m 273 (la0_9 p0 b0_158 b0_64 r0_259) [(.int (lcmpW (f17 ((0 : Int64) + ((1 : Int64) + (v0_148_opened p0)))) (4 : Int64)))])) t
        refine XS.ifYes X149.here hx rfl (pc0 := 273) (pc' := 303) rfl (hb hby at_273) rfl ((if0 _ _).trans (feq ((fun q => hc150 ((lw_eq (f17 ((0 : Int64) + ((1 : Int64) + (v0_148_opened p0)))) (4 : Int64)).mp q)))).2) (by decide) (by decide) ?_
        show Steps p.tables e below (T149.setTop (mkF m 303 (la0_9 p0 b0_158 b0_64 r0_259) [])) t
        exact k
      refine ORch.go (T' := T149) (g' := (mkF m 304 (la0_9 p0 b0_158 b0_64 r0_259) [(.int (0 : Int32))])) (fun t k => ?_) ?_
      · show Steps p.tables e below (T149.setTop (mkF m 303 (la0_9 p0 b0_158 b0_64 r0_259) [])) t
        refine XS.iconst X149.here hx rfl (hb hby at_303) ?_
        show Steps p.tables e below (T149.setTop (mkF m 304 (la0_9 p0 b0_158 b0_64 r0_259) [(.int (0 : Int32))])) t
        exact k
      exact ⟨_, _, X149, e149, N149, fun t k => (own_k (f := fun (z : Int32) => mkF m 304 #[.val (.int p0), .val (.int (v0_11 p0)), .val (.int (v0_23 p0)), .val (.int (v0_35 p0)), .val (.int (v0_48 p0)), .val (.int (v0_62 p0)), .val (.ref b0_64), .val (.ref b0_158), .val (.int (v0_189 p0)), .val (.int (v0_205 p0)), .val (.int (v0_221 p0)), .val (.long (v0_255 p0)), .second, .val (.ref r0_259)] [(.int z)]) (if_neg hc150) k)⟩
  refine OEnd.go (g' := (mkF m 304 (la0_9 p0 b0_158 b0_64 r0_259) [(.int (if (f17 ((0 : Int64) + ((1 : Int64) + (v0_148_opened p0)))) = (4 : Int64) then (if f18 = (0 : Int32) then (0 : Int32) else (if (f19 ((0 : Int64) + ((v0_148_opened p0) - (v0_158_holding p0)))) = ((3 : Int64) - (v0_255 p0)) then (1 : Int32) else (0 : Int32))) else (0 : Int32)))])) st151 ?_
  exact OEnd.nar X151 hx (t := .boolean) Bd.returns (by simp) hlk (hb hby at_304) ⟨(congrArg (fun z => some (Value.int (nar .boolean z))) (own_plain p0)), N151⟩ (by decide) (by decide)
set_option maxRecDepth 65536 in
set_option maxHeartbeats 40000000 in
theorem comes_1 {Post : Tables → Env → Array Value → State → Outcome → State → Prop} (hpost : ∀ tb e args s v u, (limb_1_1.after args s (.returned v) u = true ∧ limb_1_2.after args s (.returned v) u = true ∧ True) → FrameEnd s (.returned v) u (Jvm.fieldLocs frame_1_writes args s ++ Jvm.arrayLocs frame_1_arrays args s ++ Jvm.staticLocs frame_1_statics s) 24 128 → Post tb e args s (.returned v) u) :
    ArmFor flags0 classFile x code maxLocals ret World_1 tables_1 room_1 Calls_1 rest_1 Pre_1 Post := by
  intro l hfl _ _ p e ha hc hk s m args below hf hA hF happ hP
  obtain ⟨hcalls, hrest, hpre⟩ := hP
  obtain ⟨-, -, -, hnamed, -, -, -, hat⟩ := (Spec.applies_iff hf).mp happ
  obtain ⟨hg, hn⟩ := and_e (Cond.before_iff.mp (show (Jvm.Cond.and given_1 narrow_1).before args s = true from hpre))
  obtain ⟨c1, c2⟩ := and_e hg
  obtain ⟨w0, rfl⟩ : ∃ w0 : Value, args = #[w0] := by
    have hs : args.size = 1 := by simpa [Cond.value, given_1] using c1
    obtain ⟨L⟩ := args
    match L, hs with
    | [w0], _ => exact ⟨w0, rfl⟩
  have hw := fun d (hd : d ∈ tables_1) => atoms_spec (ws := Jvm.Cond.code x code maxLocals ret :: tables_1) hat d (List.mem_cons_of_mem _ hd)
  obtain ⟨i0, ei0⟩ := is_v c2
  obtain rfl : w0 = (.int i0) := Option.some.inj ei0
  obtain ⟨n, o, h1, h2, h3, _, L, rfl, ⟨rfl, N⟩, hq⟩ := rm0 l s _ hw tables_1 i0 s.heap s.heap.size (Nat.le_refl _)  p e ha hc hk s m _ below hf ((Spec.applies_iff_loose hf).mp happ).1 ⟨rfl, State.Warmed39.refl s, rfl⟩ trivial
  refine ⟨n, _, h1, h2, h3, hpost _ _ _ _ _ _ ⟨Cond.after_iff.mpr rfl, Cond.after_iff.mpr (eq_i res_at (Term.int_eval (1)) rfl), trivial⟩ ⟨hq.1, hq.2.1, (hq.2.2.sift fun y hy => Or.inr (N y hy)).mono (by decide) (by decide)⟩⟩
theorem main_1_1 : Claimed_1_1 := comes_1 fun _ _ _ _ _ _ h hF => ⟨h.1, hF⟩
theorem main_1_2 : Claimed_1_2 := comes_1 fun _ _ _ _ _ _ h hF => ⟨h.2.1, hF⟩
end Jvm.Pilot.@@N@@
namespace Jvm.Pilot.@@N@@
open Jvm Jvm.ClassFile Sem Op Lib Jvm.Free Jvm.Stand Jvm.Pilot.@@N@@.Jvm.D
/-! MADE BY PROGRAM (witnessworld.py) out of the Statement's table words and the real class files: 16 classes; the members and pool entries that the words name. The judged class is class 1, her method 1. -/
namespace start1
open Jvm.ClassFile
def u (s : String) : CpInfo := .utf8 (stringToUtf16 s)
/-- a pool by its gaps: so many unusable entries, then the entry; so many at the end -/
def gap : Nat → List CpInfo → List CpInfo
  | 0, r => r
  | n + 1, r => .unusable :: gap n r
def poolList (es : List (Nat × CpInfo)) (last : Nat) : List CpInfo := es.foldr (fun e r => gap e.1 (e.2 :: r)) (gap last [])
def pool (es : List (Nat × CpInfo)) (last : Nat) : Array CpInfo := ⟨poolList es last⟩
def fileOf (pool : Array CpInfo) (this : Nat) (attrs : Array Attribute := #[]) (ms : Array MethodInfo := #[]) (fl : Nat := 33) (sup : Nat := 0) (ifs : Array Nat := #[]) (fds : Array FieldInfo := #[]) : ClassFile where
  minorVersion := 0
  majorVersion := 65
  constantPool := pool
  accessFlags := fl
  thisClass := this
  superClass := sup
  interfaces := ifs
  fields := fds
  methods := ms
  attributes := attrs
def plain (name : String) (sup : Option ClassId) : Class where
  name := name
  kind := .ordinary
  loader := none
  accessFlags := 33
  super := sup
  interfaces := #[]
  cf := none
  fields := #[]
  methods := #[]
  instanceTypes := #[]
  staticTypes := #[]
  resolved := #[]
  callSites := []
  init := .initialized
  statics := none
  mirror := none

def pool0 : Array CpInfo := pool [(5, u "<init>"), (0, u "()V"), (1, .class_ 10), (1, u "java/lang/Object")] 113

def k0c0 : Code := { maxStack := 0, maxLocals := 1, code := object_method_1_code, exceptionTable := #[], attributes := #[] }
def k0m0 : Method := { name := "<init>", desc := "()V", sig := { parameters := [], returnType := none }, accessFlags := 1, code := some k0c0 }
/-- java/lang/Object -/
def k0 : Class := { plain "java/lang/Object" none with
  accessFlags := 33
  interfaces := #[]
  cf := some (fileOf pool0 8 #[] #[{ accessFlags := 1, nameIndex := 5, descriptorIndex := 6, attributes := #[] }] 33 0 #[] #[])
  fields := #[]
  methods := #[k0m0]
  instanceTypes := #[]
  staticTypes := #[]
  resolved := Array.replicate 124 none
  statics := none }

def pool1 : Array CpInfo := pool [(2, .class_ 4), (0, .nameAndType 5 6), (0, u "java/lang/Object"), (0, u "<init>"), (0, u "()V"), (0, .class_ 8), (0, u "com/example/wedgetree/wedgetree/core/OpenedNodes"), (0, .methodref 7 3), (0, .methodref 7 11), (0, .nameAndType 12 6), (0, u "open"), (0, .methodref 7 14), (0, .nameAndType 15 16), (0, u "addWaiting"), (0, u "(I)V"), (0, .methodref 7 18), (0, .nameAndType 19 6), (0, u "answered"), (0, .class_ 21), (0, u "com/example/wedgetree/wedgetree/core/QueryCounts"), (0, .methodref 20 3), (0, .methodref 7 24), (0, .nameAndType 25 26), (0, u "addTo"), (0, u "(Lcom/example/wedgetree/wedgetree/core/QueryCounts;)V"), (0, .methodref 20 28), (0, .nameAndType 29 30), (0, u "wrongNodes"), (0, u "()Ljava/util/OptionalLong;"), (0, .methodref 20 32), (0, .nameAndType 33 34), (0, u "nodesOpened"), (0, u "()J"), (0, .long 4), (1, .methodref 38 39), (0, .class_ 40), (0, .nameAndType 41 42), (0, u "java/util/OptionalLong"), (0, u "isPresent"), (0, u "()Z"), (0, .methodref 38 44), (0, .nameAndType 45 34), (0, u "getAsLong"), (0, .long 3), (1, .class_ 49), (0, u "com/example/wedgetree/wedgetree/core/OpenedNodesAnsweredPinLaw"), (2, u "law"), (0, u "(I)Z")] 3

def k1m0 : Method := { name := "<init>", desc := "()V", sig := { parameters := [], returnType := none }, accessFlags := 1, code := none }
def k1c1 : Code := { maxStack := 6, maxLocals := 14, code := code, exceptionTable := #[], attributes := #[] }
def k1m1 : Method := { name := "law", desc := "(I)Z", sig := { parameters := [.int], returnType := some .boolean }, accessFlags := 9, code := some k1c1 }
/-- com/example/wedgetree/wedgetree/core/OpenedNodesAnsweredPinLaw -/
def k1 : Class := { plain "com/example/wedgetree/wedgetree/core/OpenedNodesAnsweredPinLaw" (some 0) with
  accessFlags := 49
  interfaces := #[]
  cf := some (fileOf pool1 48 #[] #[{ accessFlags := 1, nameIndex := 5, descriptorIndex := 6, attributes := #[] }, { accessFlags := 9, nameIndex := 52, descriptorIndex := 53, attributes := #[] }] 49 2 #[] #[])
  fields := #[]
  methods := #[k1m0, k1m1]
  instanceTypes := #[]
  staticTypes := #[]
  resolved := Array.replicate 57 none
  statics := none }

def pool2 : Array CpInfo := pool [(1, .methodref 2 3), (0, .class_ 4), (0, .nameAndType 5 6), (0, u "com/example/wedgetree/wedgetree/core/OpenedNodes"), (0, u "<init>"), (0, u "(Z)V"), (0, .methodref 8 9), (0, .class_ 10), (0, .nameAndType 5 11), (0, u "java/lang/Object"), (0, u "()V"), (0, .fieldref 2 13), (0, .nameAndType 14 15), (0, u "waitingDepths"), (0, u "[I"), (0, .fieldref 2 17), (0, .nameAndType 18 19), (0, u "waiting"), (0, u "I"), (0, .fieldref 2 21), (0, .nameAndType 22 23), (0, u "holdsAnswer"), (0, u "[Z"), (0, .fieldref 2 25), (0, .nameAndType 26 27), (0, u "tallying"), (0, u "Z"), (0, .fieldref 2 29), (0, .nameAndType 30 19), (0, u "depth"), (0, .methodref 32 33), (0, .class_ 34), (0, .nameAndType 35 36), (0, u "java/util/Arrays"), (0, u "copyOf"), (0, u "([ZI)[Z"), (0, .fieldref 2 38), (0, .nameAndType 39 40), (0, u "opened"), (0, u "J"), (9, .methodref 32 51), (0, .nameAndType 52 53), (0, u "fill"), (0, u "([IIII)V"), (0, .fieldref 2 55), (0, .nameAndType 56 40), (0, u "holding"), (7, .methodref 65 66), (0, .class_ 67), (0, .nameAndType 68 69), (0, u "com/example/wedgetree/wedgetree/core/QueryCounts"), (0, u "addNodesOpened"), (0, u "(J)V"), (0, .methodref 65 71), (0, .nameAndType 72 69), (0, u "addWrongNodes"), (2, u "NONE"), (0, u "Lcom/example/wedgetree/wedgetree/core/OpenedNodes;"), (2, u "open"), (1, u "addWaiting"), (0, u "(I)V"), (0, u "answered"), (0, u "addTo"), (0, u "(Lcom/example/wedgetree/wedgetree/core/QueryCounts;)V")] 3

def k2c0 : Code := { maxStack := 2, maxLocals := 1, code := prog_27_method_1_code, exceptionTable := #[], attributes := #[] }
def k2m0 : Method := { name := "<init>", desc := "()V", sig := { parameters := [], returnType := none }, accessFlags := 1, code := some k2c0 }
def k2c1 : Code := { maxStack := 5, maxLocals := 2, code := prog_27_method_2_code, exceptionTable := #[], attributes := #[] }
def k2m1 : Method := { name := "<init>", desc := "(Z)V", sig := { parameters := [.boolean], returnType := none }, accessFlags := 2, code := some k2c1 }
def k2c2 : Code := { maxStack := 5, maxLocals := 1, code := prog_27_method_3_code, exceptionTable := #[], attributes := #[] }
def k2m2 : Method := { name := "open", desc := "()V", sig := { parameters := [], returnType := none }, accessFlags := 1, code := some k2c2 }
def k2c3 : Code := { maxStack := 5, maxLocals := 2, code := prog_27_method_4_code, exceptionTable := #[], attributes := #[] }
def k2m3 : Method := { name := "addWaiting", desc := "(I)V", sig := { parameters := [.int], returnType := none }, accessFlags := 1, code := some k2c3 }
def k2c4 : Code := { maxStack := 5, maxLocals := 2, code := prog_27_method_5_code, exceptionTable := #[], attributes := #[] }
def k2m4 : Method := { name := "answered", desc := "()V", sig := { parameters := [], returnType := none }, accessFlags := 1, code := some k2c4 }
def k2c5 : Code := { maxStack := 5, maxLocals := 2, code := prog_27_method_6_code, exceptionTable := #[], attributes := #[] }
def k2m5 : Method := { name := "addTo", desc := "(Lcom/example/wedgetree/wedgetree/core/QueryCounts;)V", sig := { parameters := [(.object "com/example/wedgetree/wedgetree/core/QueryCounts")], returnType := none }, accessFlags := 1, code := some k2c5 }
/-- com/example/wedgetree/wedgetree/core/OpenedNodes -/
def k2 : Class := { plain "com/example/wedgetree/wedgetree/core/OpenedNodes" (some 0) with
  accessFlags := 49
  interfaces := #[]
  cf := some (fileOf pool2 2 #[] #[{ accessFlags := 1, nameIndex := 5, descriptorIndex := 11, attributes := #[] }, { accessFlags := 2, nameIndex := 5, descriptorIndex := 6, attributes := #[] }, { accessFlags := 1, nameIndex := 79, descriptorIndex := 11, attributes := #[] }, { accessFlags := 1, nameIndex := 81, descriptorIndex := 82, attributes := #[] }, { accessFlags := 1, nameIndex := 83, descriptorIndex := 11, attributes := #[] }, { accessFlags := 1, nameIndex := 84, descriptorIndex := 85, attributes := #[] }] 49 8 #[] #[{ accessFlags := 25, nameIndex := 75, descriptorIndex := 76, attributes := #[] }, { accessFlags := 18, nameIndex := 26, descriptorIndex := 27, attributes := #[] }, { accessFlags := 2, nameIndex := 14, descriptorIndex := 15, attributes := #[] }, { accessFlags := 2, nameIndex := 18, descriptorIndex := 19, attributes := #[] }, { accessFlags := 2, nameIndex := 30, descriptorIndex := 19, attributes := #[] }, { accessFlags := 2, nameIndex := 22, descriptorIndex := 23, attributes := #[] }, { accessFlags := 2, nameIndex := 39, descriptorIndex := 40, attributes := #[] }, { accessFlags := 2, nameIndex := 56, descriptorIndex := 40, attributes := #[] }])
  fields := #[{ name := "NONE", type := (.object "com/example/wedgetree/wedgetree/core/OpenedNodes"), accessFlags := 25, slot := 0, constantValue := 0 }, { name := "tallying", type := .boolean, accessFlags := 18, slot := 0, constantValue := 0 }, { name := "waitingDepths", type := (.array .int), accessFlags := 2, slot := 1, constantValue := 0 }, { name := "waiting", type := .int, accessFlags := 2, slot := 2, constantValue := 0 }, { name := "depth", type := .int, accessFlags := 2, slot := 3, constantValue := 0 }, { name := "holdsAnswer", type := (.array .boolean), accessFlags := 2, slot := 4, constantValue := 0 }, { name := "opened", type := .long, accessFlags := 2, slot := 5, constantValue := 0 }, { name := "holding", type := .long, accessFlags := 2, slot := 6, constantValue := 0 }]
  methods := #[k2m0, k2m1, k2m2, k2m3, k2m4, k2m5]
  instanceTypes := #[.boolean, (.array .int), .int, .int, (.array .boolean), .long, .long]
  staticTypes := #[(.object "com/example/wedgetree/wedgetree/core/OpenedNodes")]
  resolved := Array.replicate 89 none
  statics := none }

def pool3 : Array CpInfo := pool [(2, .class_ 4), (1, u "java/lang/Object"), (0, u "<init>"), (0, u "()V"), (5, u "([IIII)V"), (0, .methodref 14 15), (0, .class_ 16), (0, .nameAndType 17 18), (0, u "java/util/Arrays"), (0, u "rangeCheck"), (0, u "(III)V"), (55, .class_ 76), (1, u "java/util/Arrays$NaturalOrder"), (36, .class_ 115), (1, u "java/util/Arrays$LegacyMergeSort"), (1, u "Z"), (32, .methodref 151 152), (0, .class_ 153), (0, .nameAndType 154 155), (0, u "java/lang/System"), (0, u "arraycopy"), (0, u "(Ljava/lang/Object;ILjava/lang/Object;II)V"), (146, u "copyOf"), (1, .methodref 305 306), (0, .class_ 307), (0, .nameAndType 308 309), (0, u "java/lang/Math"), (0, u "min"), (0, u "(II)I"), (65, .class_ 376), (0, u "java/util/Arrays$ArrayList"), (68, u "$assertionsDisabled"), (269, u "MIN_ARRAY_SORT_GRAN"), (0, u "I"), (2, u "INSERTIONSORT_THRESHOLD"), (120, u "fill"), (35, u "([ZI)[Z"), (98, .class_ 976), (0, u "java/util/Arrays$ArrayItr")] 52

def k3m0 : Method := { name := "<init>", desc := "()V", sig := { parameters := [], returnType := none }, accessFlags := 2, code := none }
def k3c1 : Code := { maxStack := 4, maxLocals := 3, code := jdk_65_method_30_code, exceptionTable := #[], attributes := #[] }
def k3m1 : Method := { name := "rangeCheck", desc := "(III)V", sig := { parameters := [.int, .int, .int], returnType := none }, accessFlags := 8, code := some k3c1 }
def k3c2 : Code := { maxStack := 3, maxLocals := 5, code := jdk_65_method_104_code, exceptionTable := #[], attributes := #[] }
def k3m2 : Method := { name := "fill", desc := "([IIII)V", sig := { parameters := [(.array .int), .int, .int, .int], returnType := none }, accessFlags := 9, code := some k3c2 }
def k3c3 : Code := { maxStack := 6, maxLocals := 3, code := jdk_65_method_128_code, exceptionTable := #[], attributes := #[] }
def k3m3 : Method := { name := "copyOf", desc := "([ZI)[Z", sig := { parameters := [(.array .boolean), .int], returnType := some (.array .boolean) }, accessFlags := 9, code := some k3c3 }
/-- java/util/Arrays -/
def k3 : Class := { plain "java/util/Arrays" (some 0) with
  accessFlags := 49
  interfaces := #[]
  cf := some (fileOf pool3 14 #[.nestMembers #[975, 375, 113, 74]] #[{ accessFlags := 2, nameIndex := 5, descriptorIndex := 6, attributes := #[] }, { accessFlags := 8, nameIndex := 17, descriptorIndex := 18, attributes := #[] }, { accessFlags := 9, nameIndex := 840, descriptorIndex := 12, attributes := #[] }, { accessFlags := 9, nameIndex := 302, descriptorIndex := 876, attributes := #[] }] 49 2 #[] #[{ accessFlags := 26, nameIndex := 715, descriptorIndex := 716, attributes := #[] }, { accessFlags := 26, nameIndex := 719, descriptorIndex := 716, attributes := #[] }, { accessFlags := 4120, nameIndex := 445, descriptorIndex := 117, attributes := #[] }])
  fields := #[{ name := "MIN_ARRAY_SORT_GRAN", type := .int, accessFlags := 26, slot := 0, constantValue := 0 }, { name := "INSERTIONSORT_THRESHOLD", type := .int, accessFlags := 26, slot := 1, constantValue := 0 }, { name := "$assertionsDisabled", type := .boolean, accessFlags := 4120, slot := 2, constantValue := 0 }]
  methods := #[k3m0, k3m1, k3m2, k3m3]
  instanceTypes := #[]
  staticTypes := #[.int, .int, .boolean]
  resolved := Array.replicate 1029 none
  statics := none }

def pool4 : Array CpInfo := pool [(1, .class_ 2), (0, u "java/lang/Math"), (1, .class_ 6), (1, u "java/lang/Object"), (0, u "<init>"), (0, u "()V"), (89, .class_ 100), (1, u "java/lang/Math$RandomNumberGeneratorHolder"), (71, u "negativeZeroFloatBits"), (0, u "J"), (2, u "negativeZeroDoubleBits"), (24, u "min"), (43, u "$assertionsDisabled"), (0, u "Z"), (88, u "(II)I"), (2, u "twoToTheDoubleScaleDown"), (0, u "D"), (4, u "twoToTheDoubleScaleUp"), (9, u "E"), (3, u "PI"), (2, u "TAU"), (2, u "DEGREES_TO_RADIANS"), (0, u "RADIANS_TO_DEGREES")] 94

def k4m0 : Method := { name := "<init>", desc := "()V", sig := { parameters := [], returnType := none }, accessFlags := 2, code := none }
def k4c1 : Code := { maxStack := 2, maxLocals := 2, code := jdk_29_method_69_code, exceptionTable := #[], attributes := #[] }
def k4m1 : Method := { name := "min", desc := "(II)I", sig := { parameters := [.int, .int], returnType := some .int }, accessFlags := 9, code := some k4c1 }
/-- java/lang/Math -/
def k4 : Class := { plain "java/lang/Math" (some 0) with
  accessFlags := 49
  interfaces := #[]
  cf := some (fileOf pool4 1 #[.nestMembers #[98]] #[{ accessFlags := 2, nameIndex := 7, descriptorIndex := 8, attributes := #[] }, { accessFlags := 9, nameIndex := 201, descriptorIndex := 335, attributes := #[] }] 49 4 #[] #[{ accessFlags := 25, nameIndex := 354, descriptorIndex := 339, attributes := #[] }, { accessFlags := 25, nameIndex := 358, descriptorIndex := 339, attributes := #[] }, { accessFlags := 25, nameIndex := 361, descriptorIndex := 339, attributes := #[] }, { accessFlags := 26, nameIndex := 364, descriptorIndex := 339, attributes := #[] }, { accessFlags := 26, nameIndex := 365, descriptorIndex := 339, attributes := #[] }, { accessFlags := 26, nameIndex := 172, descriptorIndex := 173, attributes := #[] }, { accessFlags := 26, nameIndex := 176, descriptorIndex := 173, attributes := #[] }, { accessFlags := 8, nameIndex := 344, descriptorIndex := 339, attributes := #[] }, { accessFlags := 8, nameIndex := 338, descriptorIndex := 339, attributes := #[] }, { accessFlags := 4120, nameIndex := 245, descriptorIndex := 246, attributes := #[] }])
  fields := #[{ name := "E", type := .double, accessFlags := 25, slot := 0, constantValue := 0 }, { name := "PI", type := .double, accessFlags := 25, slot := 1, constantValue := 0 }, { name := "TAU", type := .double, accessFlags := 25, slot := 2, constantValue := 0 }, { name := "DEGREES_TO_RADIANS", type := .double, accessFlags := 26, slot := 3, constantValue := 0 }, { name := "RADIANS_TO_DEGREES", type := .double, accessFlags := 26, slot := 4, constantValue := 0 }, { name := "negativeZeroFloatBits", type := .long, accessFlags := 26, slot := 5, constantValue := 0 }, { name := "negativeZeroDoubleBits", type := .long, accessFlags := 26, slot := 6, constantValue := 0 }, { name := "twoToTheDoubleScaleUp", type := .double, accessFlags := 8, slot := 7, constantValue := 0 }, { name := "twoToTheDoubleScaleDown", type := .double, accessFlags := 8, slot := 8, constantValue := 0 }, { name := "$assertionsDisabled", type := .boolean, accessFlags := 4120, slot := 9, constantValue := 0 }]
  methods := #[k4m0, k4m1]
  instanceTypes := #[]
  staticTypes := #[.double, .double, .double, .double, .double, .long, .long, .double, .double, .boolean]
  resolved := Array.replicate 460 none
  statics := none }

def pool5 : Array CpInfo := pool [(2, .class_ 4), (1, u "java/lang/Object"), (0, u "<init>"), (0, u "()V"), (1, .class_ 10), (1, u "java/lang/System"), (0, u "allowSecurityManager"), (0, u "I"), (16, u "cons"), (0, u "Ljava/io/Console;"), (77, .class_ 110), (1, u "java/lang/System$CallersHolder"), (43, u "initialErrStream"), (0, u "Ljava/io/PrintStream;"), (19, u "security"), (0, u "Ljava/lang/SecurityManager;"), (31, .class_ 209), (0, u "java/lang/System$1"), (7, u "props"), (0, u "Ljava/util/Properties;"), (2, u "lineSeparator"), (0, u "Ljava/lang/String;"), (96, .class_ 321), (1, u "java/lang/System$LoggerFinder"), (5, .class_ 328), (0, u "java/lang/System$Logger"), (67, u "err"), (2, u "out"), (91, u "notSupportedJnuEncoding"), (15, u "in"), (17, u "initialIn"), (0, u "Ljava/io/InputStream;"), (35, u "bootLayer"), (0, u "Ljava/lang/ModuleLayer;"), (99, .class_ 664), (0, u "java/lang/System$2"), (9, u "NEVER"), (2, u "MAYBE"), (49, u "arraycopy"), (0, u "(Ljava/lang/Object;ILjava/lang/Object;II)V"), (72, .class_ 802), (0, u "java/lang/System$Logger$Level")] 31

def k5m0 : Method := { name := "<init>", desc := "()V", sig := { parameters := [], returnType := none }, accessFlags := 2, code := none }
def k5m1 : Method := { name := "arraycopy", desc := "(Ljava/lang/Object;ILjava/lang/Object;II)V", sig := { parameters := [(.object "java/lang/Object"), .int, (.object "java/lang/Object"), .int, .int], returnType := none }, accessFlags := 265, code := none }
/-- java/lang/System -/
def k5 : Class := { plain "java/lang/System" (some 0) with
  accessFlags := 49
  interfaces := #[]
  cf := some (fileOf pool5 8 #[.nestMembers #[319, 327, 801, 108, 663, 208]] #[{ accessFlags := 2, nameIndex := 5, descriptorIndex := 6, attributes := #[] }, { accessFlags := 265, nameIndex := 727, descriptorIndex := 728, attributes := #[] }] 49 2 #[] #[{ accessFlags := 25, nameIndex := 507, descriptorIndex := 526, attributes := #[] }, { accessFlags := 25, nameIndex := 399, descriptorIndex := 155, attributes := #[] }, { accessFlags := 25, nameIndex := 396, descriptorIndex := 155, attributes := #[] }, { accessFlags := 10, nameIndex := 525, descriptorIndex := 526, attributes := #[] }, { accessFlags := 26, nameIndex := 674, descriptorIndex := 12, attributes := #[] }, { accessFlags := 26, nameIndex := 677, descriptorIndex := 12, attributes := #[] }, { accessFlags := 10, nameIndex := 11, descriptorIndex := 12, attributes := #[] }, { accessFlags := 74, nameIndex := 175, descriptorIndex := 176, attributes := #[] }, { accessFlags := 10, nameIndex := 491, descriptorIndex := 222, attributes := #[] }, { accessFlags := 74, nameIndex := 29, descriptorIndex := 30, attributes := #[] }, { accessFlags := 74, nameIndex := 154, descriptorIndex := 155, attributes := #[] }, { accessFlags := 10, nameIndex := 217, descriptorIndex := 218, attributes := #[] }, { accessFlags := 10, nameIndex := 221, descriptorIndex := 222, attributes := #[] }, { accessFlags := 8, nameIndex := 562, descriptorIndex := 563, attributes := #[] }])
  fields := #[{ name := "in", type := (.object "java/io/InputStream"), accessFlags := 25, slot := 0, constantValue := 0 }, { name := "out", type := (.object "java/io/PrintStream"), accessFlags := 25, slot := 1, constantValue := 0 }, { name := "err", type := (.object "java/io/PrintStream"), accessFlags := 25, slot := 2, constantValue := 0 }, { name := "initialIn", type := (.object "java/io/InputStream"), accessFlags := 10, slot := 3, constantValue := 0 }, { name := "NEVER", type := .int, accessFlags := 26, slot := 4, constantValue := 0 }, { name := "MAYBE", type := .int, accessFlags := 26, slot := 5, constantValue := 0 }, { name := "allowSecurityManager", type := .int, accessFlags := 10, slot := 6, constantValue := 0 }, { name := "security", type := (.object "java/lang/SecurityManager"), accessFlags := 74, slot := 7, constantValue := 0 }, { name := "notSupportedJnuEncoding", type := (.object "java/lang/String"), accessFlags := 10, slot := 8, constantValue := 0 }, { name := "cons", type := (.object "java/io/Console"), accessFlags := 74, slot := 9, constantValue := 0 }, { name := "initialErrStream", type := (.object "java/io/PrintStream"), accessFlags := 74, slot := 10, constantValue := 0 }, { name := "props", type := (.object "java/util/Properties"), accessFlags := 10, slot := 11, constantValue := 0 }, { name := "lineSeparator", type := (.object "java/lang/String"), accessFlags := 10, slot := 12, constantValue := 0 }, { name := "bootLayer", type := (.object "java/lang/ModuleLayer"), accessFlags := 8, slot := 13, constantValue := 0 }]
  methods := #[k5m0, k5m1]
  instanceTypes := #[]
  staticTypes := #[(.object "java/io/InputStream"), (.object "java/io/PrintStream"), (.object "java/io/PrintStream"), (.object "java/io/InputStream"), .int, .int, .int, (.object "java/lang/SecurityManager"), (.object "java/lang/String"), (.object "java/io/Console"), (.object "java/io/PrintStream"), (.object "java/util/Properties"), (.object "java/lang/String"), (.object "java/lang/ModuleLayer")]
  resolved := Array.replicate 834 none
  statics := none }

def pool6 : Array CpInfo := pool [(1, .methodref 2 3), (0, .class_ 4), (0, .nameAndType 5 6), (0, u "java/lang/Object"), (0, u "<init>"), (0, u "()V"), (0, .fieldref 8 9), (0, .class_ 10), (0, .nameAndType 11 12), (0, u "com/example/wedgetree/wedgetree/core/QueryCounts"), (0, u "nodesOpened"), (0, u "J"), (0, .fieldref 8 14), (0, .nameAndType 15 16), (0, u "wrongNodesUnknown"), (0, u "Z"), (1, .class_ 20), (1, u "java/util/OptionalLong"), (1, u "()Ljava/util/OptionalLong;"), (0, .fieldref 8 24), (0, .nameAndType 25 12), (0, u "wrongNodes"), (0, .methodref 18 27), (0, .nameAndType 28 29), (0, u "of"), (0, u "(J)Ljava/util/OptionalLong;"), (2, u "viewsExamined"), (2, u "()J"), (1, u "addNodesOpened"), (0, u "(J)V"), (0, u "addWrongNodes")] 4

def k6c0 : Code := { maxStack := 1, maxLocals := 1, code := prog_39_method_1_code, exceptionTable := #[], attributes := #[] }
def k6m0 : Method := { name := "<init>", desc := "()V", sig := { parameters := [], returnType := none }, accessFlags := 1, code := some k6c0 }
def k6c1 : Code := { maxStack := 2, maxLocals := 1, code := prog_39_method_2_code, exceptionTable := #[], attributes := #[] }
def k6m1 : Method := { name := "nodesOpened", desc := "()J", sig := { parameters := [], returnType := some .long }, accessFlags := 1, code := some k6c1 }
def k6c2 : Code := { maxStack := 2, maxLocals := 1, code := prog_39_method_3_code, exceptionTable := #[], attributes := #[] }
def k6m2 : Method := { name := "wrongNodes", desc := "()Ljava/util/OptionalLong;", sig := { parameters := [], returnType := some (.object "java/util/OptionalLong") }, accessFlags := 1, code := some k6c2 }
def k6c3 : Code := { maxStack := 5, maxLocals := 3, code := prog_39_method_5_code, exceptionTable := #[], attributes := #[] }
def k6m3 : Method := { name := "addNodesOpened", desc := "(J)V", sig := { parameters := [.long], returnType := none }, accessFlags := 1, code := some k6c3 }
def k6c4 : Code := { maxStack := 5, maxLocals := 3, code := prog_39_method_6_code, exceptionTable := #[], attributes := #[] }
def k6m4 : Method := { name := "addWrongNodes", desc := "(J)V", sig := { parameters := [.long], returnType := none }, accessFlags := 1, code := some k6c4 }
/-- com/example/wedgetree/wedgetree/core/QueryCounts -/
def k6 : Class := { plain "com/example/wedgetree/wedgetree/core/QueryCounts" (some 0) with
  accessFlags := 49
  interfaces := #[]
  cf := some (fileOf pool6 8 #[] #[{ accessFlags := 1, nameIndex := 5, descriptorIndex := 6, attributes := #[] }, { accessFlags := 1, nameIndex := 11, descriptorIndex := 35, attributes := #[] }, { accessFlags := 1, nameIndex := 25, descriptorIndex := 22, attributes := #[] }, { accessFlags := 1, nameIndex := 37, descriptorIndex := 38, attributes := #[] }, { accessFlags := 1, nameIndex := 39, descriptorIndex := 38, attributes := #[] }] 49 2 #[] #[{ accessFlags := 2, nameIndex := 11, descriptorIndex := 12, attributes := #[] }, { accessFlags := 2, nameIndex := 25, descriptorIndex := 12, attributes := #[] }, { accessFlags := 2, nameIndex := 15, descriptorIndex := 16, attributes := #[] }, { accessFlags := 2, nameIndex := 32, descriptorIndex := 12, attributes := #[] }])
  fields := #[{ name := "nodesOpened", type := .long, accessFlags := 2, slot := 0, constantValue := 0 }, { name := "wrongNodes", type := .long, accessFlags := 2, slot := 1, constantValue := 0 }, { name := "wrongNodesUnknown", type := .boolean, accessFlags := 2, slot := 2, constantValue := 0 }, { name := "viewsExamined", type := .long, accessFlags := 2, slot := 3, constantValue := 0 }]
  methods := #[k6m0, k6m1, k6m2, k6m3, k6m4]
  instanceTypes := #[.long, .long, .boolean, .long]
  staticTypes := #[]
  resolved := Array.replicate 44 none
  statics := none }

def pool7 : Array CpInfo := pool [(1, .methodref 2 3), (0, .class_ 4), (0, .nameAndType 5 6), (0, u "java/lang/Object"), (0, u "<init>"), (0, u "()V"), (0, .fieldref 8 9), (0, .class_ 10), (0, .nameAndType 11 12), (0, u "java/util/OptionalLong"), (0, u "isPresent"), (0, u "Z"), (0, .fieldref 8 14), (0, .nameAndType 15 16), (0, u "value"), (0, u "J"), (2, u "EMPTY"), (0, u "Ljava/util/OptionalLong;"), (0, .methodref 8 22), (0, .nameAndType 5 23), (0, u "(J)V"), (21, u "of"), (9, u "getAsLong"), (0, u "()J"), (40, u "(J)Ljava/util/OptionalLong;"), (1, u "()Z")] 38

def k7m0 : Method := { name := "<init>", desc := "()V", sig := { parameters := [], returnType := none }, accessFlags := 2, code := none }
def k7c1 : Code := { maxStack := 3, maxLocals := 3, code := jdk_2650_method_3_code, exceptionTable := #[], attributes := #[] }
def k7m1 : Method := { name := "<init>", desc := "(J)V", sig := { parameters := [.long], returnType := none }, accessFlags := 2, code := some k7c1 }
def k7c2 : Code := { maxStack := 4, maxLocals := 2, code := jdk_2650_method_4_code, exceptionTable := #[], attributes := #[] }
def k7m2 : Method := { name := "of", desc := "(J)Ljava/util/OptionalLong;", sig := { parameters := [.long], returnType := some (.object "java/util/OptionalLong") }, accessFlags := 9, code := some k7c2 }
def k7c3 : Code := { maxStack := 3, maxLocals := 1, code := jdk_2650_method_5_code, exceptionTable := #[], attributes := #[] }
def k7m3 : Method := { name := "getAsLong", desc := "()J", sig := { parameters := [], returnType := some .long }, accessFlags := 1, code := some k7c3 }
def k7c4 : Code := { maxStack := 1, maxLocals := 1, code := jdk_2650_method_6_code, exceptionTable := #[], attributes := #[] }
def k7m4 : Method := { name := "isPresent", desc := "()Z", sig := { parameters := [], returnType := some .boolean }, accessFlags := 1, code := some k7c4 }
/-- java/util/OptionalLong -/
def k7 : Class := { plain "java/util/OptionalLong" (some 0) with
  accessFlags := 49
  interfaces := #[]
  cf := some (fileOf pool7 8 #[] #[{ accessFlags := 2, nameIndex := 5, descriptorIndex := 6, attributes := #[] }, { accessFlags := 2, nameIndex := 5, descriptorIndex := 23, attributes := #[] }, { accessFlags := 9, nameIndex := 45, descriptorIndex := 97, attributes := #[] }, { accessFlags := 1, nameIndex := 55, descriptorIndex := 56, attributes := #[] }, { accessFlags := 1, nameIndex := 11, descriptorIndex := 99, attributes := #[] }] 49 2 #[] #[{ accessFlags := 26, nameIndex := 19, descriptorIndex := 20, attributes := #[] }, { accessFlags := 18, nameIndex := 11, descriptorIndex := 12, attributes := #[] }, { accessFlags := 18, nameIndex := 15, descriptorIndex := 16, attributes := #[] }])
  fields := #[{ name := "EMPTY", type := (.object "java/util/OptionalLong"), accessFlags := 26, slot := 0, constantValue := 0 }, { name := "isPresent", type := .boolean, accessFlags := 18, slot := 0, constantValue := 0 }, { name := "value", type := .long, accessFlags := 18, slot := 1, constantValue := 0 }]
  methods := #[k7m0, k7m1, k7m2, k7m3, k7m4]
  instanceTypes := #[.boolean, .long]
  staticTypes := #[(.object "java/util/OptionalLong")]
  resolved := Array.replicate 138 none
  statics := none }

def pool8 : Array CpInfo := pool [(1, u "java/lang/Cloneable"), (0, .class_ 1), (0, u "java/lang/Object"), (0, .class_ 3)] 3

/-- java/lang/Cloneable -/
def k8 : Class := { plain "java/lang/Cloneable" (some 0) with
  accessFlags := 1537
  interfaces := #[]
  cf := some (fileOf pool8 2 #[] #[] 1537 4 #[] #[])
  fields := #[]
  methods := #[]
  instanceTypes := #[]
  staticTypes := #[]
  resolved := Array.replicate 8 none
  statics := none }

def pool9 : Array CpInfo := pool [(1, u "java/io/Serializable"), (0, .class_ 1), (0, u "java/lang/Object"), (0, .class_ 3)] 3

/-- java/io/Serializable -/
def k9 : Class := { plain "java/io/Serializable" (some 0) with
  accessFlags := 1537
  interfaces := #[]
  cf := some (fileOf pool9 2 #[] #[] 1537 4 #[] #[])
  fields := #[]
  methods := #[]
  instanceTypes := #[]
  staticTypes := #[]
  resolved := Array.replicate 8 none
  statics := none }

/-- the primitive boolean -/
def k10 : Class := { plain "boolean" none with kind := .primitive 'Z', accessFlags := 0x411 }
/-- [Z -/
def k11 : Class := { plain "[Z" (some 0) with kind := .array 10 .boolean, interfaces := #[8, 9], accessFlags := 1041 }

/-- the primitive byte -/
def k12 : Class := { plain "byte" none with kind := .primitive 'B', accessFlags := 0x411 }
/-- [B -/
def k13 : Class := { plain "[B" (some 0) with kind := .array 12 .byte, interfaces := #[8, 9], accessFlags := 1041 }

/-- the primitive int -/
def k14 : Class := { plain "int" none with kind := .primitive 'I', accessFlags := 0x411 }
/-- [I -/
def k15 : Class := { plain "[I" (some 0) with kind := .array 14 .int, interfaces := #[8, 9], accessFlags := 1041 }

def heap : Heap := #[]
def classes : Array Class := #[k0, k1, k2, k3, k4, k5, k6, k7, k8, k9, k10, k11, k12, k13, k14, k15]
def interned : List (Array UInt16 × Addr) := []
def slotsUsed : Nat := 0
def theMethod : MethodId := ⟨1, 1⟩
def args0 : Array Value := #[.int 21]
def aboutOver (below : List Frame) : State where
  vm := { classes := classes, interned := interned.toArray }
  heap := heap
  slotsUsed := slotsUsed
  threads := #[{ frames := .invoking theMethod args0 :: below }]
def below0 : List Frame := [.native { method := ⟨0, 0⟩, args := #[] }]
def about1 : State := aboutOver below0
def p0 : Program := .bare "" "" ""
def e0 : Env := launch0.env 0 0 0
theorem w_frames : about1.frames = Frame.invoking theMethod args0 :: below0 := rfl
set_option maxRecDepth 65536 in
theorem w_args : argsFit about1.vm theMethod args0 = true := by decide +kernel
set_option maxRecDepth 65536 in
theorem w_heap : heapFits about1 = true := by decide +kernel
set_option maxRecDepth 65536 in
theorem w_runnable : about1.curStatus? = some .runnable := by decide +kernel
set_option maxRecDepth 65536 in
theorem w_alone : about1.alone = true := by decide +kernel
set_option maxRecDepth 65536 in
theorem w_named : about1.methodNamed? x = some theMethod := by decide +kernel
set_option maxRecDepth 65536 in
theorem w_hears : about1.hears theMethod below0 = true := by decide +kernel
set_option maxRecDepth 65536 in
theorem w_ripe : about1.ripe theMethod args0 below0 = true := by decide +kernel
theorem w_running : about1.status = .running := rfl
set_option maxRecDepth 65536 in
theorem w_room : about1.hasRoom e0.platform room_1 = true :=
  launch0.hasRoom_least _ room_1 (by decide +kernel) (by decide +kernel) (by decide +kernel) (by decide +kernel) (by decide +kernel) (by decide +kernel)
theorem allAtoms_all (ts : List Jvm.Cond) (a : Array Jvm.Value) (st : Jvm.State) : (allAtoms ts).before a st = ts.all (fun c => c.before a st) := by
  induction ts with
  | nil => rfl
  | cons c t ih =>
    show (Jvm.Cond.and c (allAtoms t)).before a st = _
    rw [Jvm.Cond.before_and, ih, List.all_cons]
def words1 : List Jvm.Cond := Jvm.Cond.code x code maxLocals ret :: tables_1
/-- a 'code' word, met by the world's own term for the bytes: nothing is compared byte by byte -/
theorem code_word {y : MethodName} {bytes : ByteArray} {mx : Nat} {rt : Option FieldType} {a : Array Value} {s : State} {m : MethodId} {meth : Method} {c : Code} (h1 : s.methodNamed? y = some m) (h2 : s.vm.method? m = some meth) (h3 : meth.code = some c) (h4 : c.code = bytes)
    (h5 : (c.maxLocals == mx && c.exceptionTable.isEmpty && decide (c.maxStack ≤ mostOperands) && decide (meth.sig.returnType = rt) && !meth.locks && decide (parseMethodDescriptor y.desc = some meth.sig)) = true) : (Jvm.Cond.code y bytes mx rt).before a s = true := by
  simp only [Bool.and_eq_true, beq_iff_eq, Bool.not_eq_true', decide_eq_true_eq] at h5
  obtain ⟨⟨⟨⟨⟨g1, g2⟩, g3⟩, g4⟩, g5⟩, g6⟩ := h5
  simp [Cond.before, Cond.holds, Cond.value, h1, h2, h3, h4, g1, g2, g3, g4, g5, g6]
def isCode : Jvm.Cond → Bool
  | .code _ _ _ _ => true
  | _ => false
theorem all_split {L : List Jvm.Cond} {P : Jvm.Cond → Bool} (h1 : L.all (fun c => isCode c || P c) = true) (h2 : ∀ c ∈ L.filter isCode, P c = true) : L.all P = true := by
  refine List.all_eq_true.mpr fun c hc => ?_
  have h := List.all_eq_true.mp h1 c hc
  rcases Bool.eq_false_or_eq_true (isCode c) with hi | hi
  · exact h2 c (List.mem_filter.mpr ⟨hc, hi⟩)
  · simpa [hi] using h
set_option maxRecDepth 65536 in
theorem w_c0 : (Jvm.Cond.code x code maxLocals ret).before args0 about1 = true := code_word (m := ⟨1, 1⟩) (meth := k1m1) (c := k1c1) (by decide +kernel) rfl rfl rfl (by decide +kernel)
set_option maxRecDepth 65536 in
theorem w_c1 : (Jvm.Cond.code ({ cls := "com/example/wedgetree/wedgetree/core/OpenedNodes", name := "<init>", desc := "()V" } : Jvm.MethodName) prog_27_method_1_code (1 : Nat) (Option.none : Option Jvm.ClassFile.FieldType)).before args0 about1 = true := code_word (m := ⟨2, 0⟩) (meth := k2m0) (c := k2c0) (by decide +kernel) rfl rfl rfl (by decide +kernel)
set_option maxRecDepth 65536 in
theorem w_c2 : (Jvm.Cond.code ({ cls := "com/example/wedgetree/wedgetree/core/OpenedNodes", name := "<init>", desc := "(Z)V" } : Jvm.MethodName) prog_27_method_2_code (2 : Nat) (Option.none : Option Jvm.ClassFile.FieldType)).before args0 about1 = true := code_word (m := ⟨2, 1⟩) (meth := k2m1) (c := k2c1) (by decide +kernel) rfl rfl rfl (by decide +kernel)
set_option maxRecDepth 65536 in
theorem w_c3 : (Jvm.Cond.code ({ cls := "java/lang/Object", name := "<init>", desc := "()V" } : Jvm.MethodName) object_method_1_code (1 : Nat) (Option.none : Option Jvm.ClassFile.FieldType)).before args0 about1 = true := code_word (m := ⟨0, 0⟩) (meth := k0m0) (c := k0c0) (by decide +kernel) rfl rfl rfl (by decide +kernel)
set_option maxRecDepth 65536 in
theorem w_c4 : (Jvm.Cond.code ({ cls := "com/example/wedgetree/wedgetree/core/OpenedNodes", name := "open", desc := "()V" } : Jvm.MethodName) prog_27_method_3_code (1 : Nat) (Option.none : Option Jvm.ClassFile.FieldType)).before args0 about1 = true := code_word (m := ⟨2, 2⟩) (meth := k2m2) (c := k2c2) (by decide +kernel) rfl rfl rfl (by decide +kernel)
set_option maxRecDepth 65536 in
theorem w_c5 : (Jvm.Cond.code ({ cls := "com/example/wedgetree/wedgetree/core/OpenedNodes", name := "addWaiting", desc := "(I)V" } : Jvm.MethodName) prog_27_method_4_code (2 : Nat) (Option.none : Option Jvm.ClassFile.FieldType)).before args0 about1 = true := code_word (m := ⟨2, 3⟩) (meth := k2m3) (c := k2c3) (by decide +kernel) rfl rfl rfl (by decide +kernel)
set_option maxRecDepth 65536 in
theorem w_c6 : (Jvm.Cond.code ({ cls := "java/util/Arrays", name := "fill", desc := "([IIII)V" } : Jvm.MethodName) jdk_65_method_104_code (5 : Nat) (Option.none : Option Jvm.ClassFile.FieldType)).before args0 about1 = true := code_word (m := ⟨3, 2⟩) (meth := k3m2) (c := k3c2) (by decide +kernel) rfl rfl rfl (by decide +kernel)
set_option maxRecDepth 65536 in
theorem w_c7 : (Jvm.Cond.code ({ cls := "java/util/Arrays", name := "rangeCheck", desc := "(III)V" } : Jvm.MethodName) jdk_65_method_30_code (3 : Nat) (Option.none : Option Jvm.ClassFile.FieldType)).before args0 about1 = true := code_word (m := ⟨3, 1⟩) (meth := k3m1) (c := k3c1) (by decide +kernel) rfl rfl rfl (by decide +kernel)
set_option maxRecDepth 65536 in
theorem w_c8 : (Jvm.Cond.code ({ cls := "java/util/Arrays", name := "copyOf", desc := "([ZI)[Z" } : Jvm.MethodName) jdk_65_method_128_code (3 : Nat) (Option.some (Jvm.ClassFile.FieldType.array Jvm.ClassFile.FieldType.boolean))).before args0 about1 = true := code_word (m := ⟨3, 3⟩) (meth := k3m3) (c := k3c3) (by decide +kernel) rfl rfl rfl (by decide +kernel)
set_option maxRecDepth 65536 in
theorem w_c9 : (Jvm.Cond.code ({ cls := "java/lang/Math", name := "min", desc := "(II)I" } : Jvm.MethodName) jdk_29_method_69_code (2 : Nat) (Option.some Jvm.ClassFile.FieldType.int)).before args0 about1 = true := code_word (m := ⟨4, 1⟩) (meth := k4m1) (c := k4c1) (by decide +kernel) rfl rfl rfl (by decide +kernel)
set_option maxRecDepth 65536 in
theorem w_c10 : (Jvm.Cond.code ({ cls := "com/example/wedgetree/wedgetree/core/QueryCounts", name := "<init>", desc := "()V" } : Jvm.MethodName) prog_39_method_1_code (1 : Nat) (Option.none : Option Jvm.ClassFile.FieldType)).before args0 about1 = true := code_word (m := ⟨6, 0⟩) (meth := k6m0) (c := k6c0) (by decide +kernel) rfl rfl rfl (by decide +kernel)
set_option maxRecDepth 65536 in
theorem w_c11 : (Jvm.Cond.code ({ cls := "com/example/wedgetree/wedgetree/core/OpenedNodes", name := "addTo", desc := "(Lcom/example/wedgetree/wedgetree/core/QueryCounts;)V" } : Jvm.MethodName) prog_27_method_6_code (2 : Nat) (Option.none : Option Jvm.ClassFile.FieldType)).before args0 about1 = true := code_word (m := ⟨2, 5⟩) (meth := k2m5) (c := k2c5) (by decide +kernel) rfl rfl rfl (by decide +kernel)
set_option maxRecDepth 65536 in
theorem w_c12 : (Jvm.Cond.code ({ cls := "com/example/wedgetree/wedgetree/core/QueryCounts", name := "addNodesOpened", desc := "(J)V" } : Jvm.MethodName) prog_39_method_5_code (3 : Nat) (Option.none : Option Jvm.ClassFile.FieldType)).before args0 about1 = true := code_word (m := ⟨6, 3⟩) (meth := k6m3) (c := k6c3) (by decide +kernel) rfl rfl rfl (by decide +kernel)
set_option maxRecDepth 65536 in
theorem w_c13 : (Jvm.Cond.code ({ cls := "com/example/wedgetree/wedgetree/core/QueryCounts", name := "addWrongNodes", desc := "(J)V" } : Jvm.MethodName) prog_39_method_6_code (3 : Nat) (Option.none : Option Jvm.ClassFile.FieldType)).before args0 about1 = true := code_word (m := ⟨6, 4⟩) (meth := k6m4) (c := k6c4) (by decide +kernel) rfl rfl rfl (by decide +kernel)
set_option maxRecDepth 65536 in
theorem w_c14 : (Jvm.Cond.code ({ cls := "com/example/wedgetree/wedgetree/core/QueryCounts", name := "wrongNodes", desc := "()Ljava/util/OptionalLong;" } : Jvm.MethodName) prog_39_method_3_code (1 : Nat) (Option.some (Jvm.ClassFile.FieldType.object "java/util/OptionalLong"))).before args0 about1 = true := code_word (m := ⟨6, 2⟩) (meth := k6m2) (c := k6c2) (by decide +kernel) rfl rfl rfl (by decide +kernel)
set_option maxRecDepth 65536 in
theorem w_c15 : (Jvm.Cond.code ({ cls := "java/util/OptionalLong", name := "of", desc := "(J)Ljava/util/OptionalLong;" } : Jvm.MethodName) jdk_2650_method_4_code (2 : Nat) (Option.some (Jvm.ClassFile.FieldType.object "java/util/OptionalLong"))).before args0 about1 = true := code_word (m := ⟨7, 2⟩) (meth := k7m2) (c := k7c2) (by decide +kernel) rfl rfl rfl (by decide +kernel)
set_option maxRecDepth 65536 in
theorem w_c16 : (Jvm.Cond.code ({ cls := "java/util/OptionalLong", name := "<init>", desc := "(J)V" } : Jvm.MethodName) jdk_2650_method_3_code (3 : Nat) (Option.none : Option Jvm.ClassFile.FieldType)).before args0 about1 = true := code_word (m := ⟨7, 1⟩) (meth := k7m1) (c := k7c1) (by decide +kernel) rfl rfl rfl (by decide +kernel)
set_option maxRecDepth 65536 in
theorem w_c17 : (Jvm.Cond.code ({ cls := "com/example/wedgetree/wedgetree/core/QueryCounts", name := "nodesOpened", desc := "()J" } : Jvm.MethodName) prog_39_method_2_code (1 : Nat) (Option.some Jvm.ClassFile.FieldType.long)).before args0 about1 = true := code_word (m := ⟨6, 1⟩) (meth := k6m1) (c := k6c1) (by decide +kernel) rfl rfl rfl (by decide +kernel)
set_option maxRecDepth 65536 in
theorem w_c18 : (Jvm.Cond.code ({ cls := "java/util/OptionalLong", name := "isPresent", desc := "()Z" } : Jvm.MethodName) jdk_2650_method_6_code (1 : Nat) (Option.some Jvm.ClassFile.FieldType.boolean)).before args0 about1 = true := code_word (m := ⟨7, 4⟩) (meth := k7m4) (c := k7c4) (by decide +kernel) rfl rfl rfl (by decide +kernel)
set_option maxRecDepth 65536 in
theorem w_c19 : (Jvm.Cond.code ({ cls := "java/util/OptionalLong", name := "getAsLong", desc := "()J" } : Jvm.MethodName) jdk_2650_method_5_code (1 : Nat) (Option.some Jvm.ClassFile.FieldType.long)).before args0 about1 = true := code_word (m := ⟨7, 3⟩) (meth := k7m3) (c := k7c3) (by decide +kernel) rfl rfl rfl (by decide +kernel)
set_option maxRecDepth 65536 in
theorem w_c20 : (Jvm.Cond.code ({ cls := "com/example/wedgetree/wedgetree/core/OpenedNodes", name := "answered", desc := "()V" } : Jvm.MethodName) prog_27_method_5_code (2 : Nat) (Option.none : Option Jvm.ClassFile.FieldType)).before args0 about1 = true := code_word (m := ⟨2, 4⟩) (meth := k2m4) (c := k2c4) (by decide +kernel) rfl rfl rfl (by decide +kernel)
def codes1 : List Jvm.Cond := [Jvm.Cond.code x code maxLocals ret, Jvm.Cond.code ({ cls := "com/example/wedgetree/wedgetree/core/OpenedNodes", name := "<init>", desc := "()V" } : Jvm.MethodName) prog_27_method_1_code (1 : Nat) (Option.none : Option Jvm.ClassFile.FieldType), Jvm.Cond.code ({ cls := "com/example/wedgetree/wedgetree/core/OpenedNodes", name := "<init>", desc := "(Z)V" } : Jvm.MethodName) prog_27_method_2_code (2 : Nat) (Option.none : Option Jvm.ClassFile.FieldType), Jvm.Cond.code ({ cls := "java/lang/Object", name := "<init>", desc := "()V" } : Jvm.MethodName) object_method_1_code (1 : Nat) (Option.none : Option Jvm.ClassFile.FieldType), Jvm.Cond.code ({ cls := "com/example/wedgetree/wedgetree/core/OpenedNodes", name := "open", desc := "()V" } : Jvm.MethodName) prog_27_method_3_code (1 : Nat) (Option.none : Option Jvm.ClassFile.FieldType), Jvm.Cond.code ({ cls := "com/example/wedgetree/wedgetree/core/OpenedNodes", name := "addWaiting", desc := "(I)V" } : Jvm.MethodName) prog_27_method_4_code (2 : Nat) (Option.none : Option Jvm.ClassFile.FieldType), Jvm.Cond.code ({ cls := "java/util/Arrays", name := "fill", desc := "([IIII)V" } : Jvm.MethodName) jdk_65_method_104_code (5 : Nat) (Option.none : Option Jvm.ClassFile.FieldType), Jvm.Cond.code ({ cls := "java/util/Arrays", name := "rangeCheck", desc := "(III)V" } : Jvm.MethodName) jdk_65_method_30_code (3 : Nat) (Option.none : Option Jvm.ClassFile.FieldType), Jvm.Cond.code ({ cls := "java/util/Arrays", name := "copyOf", desc := "([ZI)[Z" } : Jvm.MethodName) jdk_65_method_128_code (3 : Nat) (Option.some (Jvm.ClassFile.FieldType.array Jvm.ClassFile.FieldType.boolean)), Jvm.Cond.code ({ cls := "java/lang/Math", name := "min", desc := "(II)I" } : Jvm.MethodName) jdk_29_method_69_code (2 : Nat) (Option.some Jvm.ClassFile.FieldType.int), Jvm.Cond.code ({ cls := "com/example/wedgetree/wedgetree/core/QueryCounts", name := "<init>", desc := "()V" } : Jvm.MethodName) prog_39_method_1_code (1 : Nat) (Option.none : Option Jvm.ClassFile.FieldType), Jvm.Cond.code ({ cls := "com/example/wedgetree/wedgetree/core/OpenedNodes", name := "addTo", desc := "(Lcom/example/wedgetree/wedgetree/core/QueryCounts;)V" } : Jvm.MethodName) prog_27_method_6_code (2 : Nat) (Option.none : Option Jvm.ClassFile.FieldType), Jvm.Cond.code ({ cls := "com/example/wedgetree/wedgetree/core/QueryCounts", name := "addNodesOpened", desc := "(J)V" } : Jvm.MethodName) prog_39_method_5_code (3 : Nat) (Option.none : Option Jvm.ClassFile.FieldType), Jvm.Cond.code ({ cls := "com/example/wedgetree/wedgetree/core/QueryCounts", name := "addWrongNodes", desc := "(J)V" } : Jvm.MethodName) prog_39_method_6_code (3 : Nat) (Option.none : Option Jvm.ClassFile.FieldType), Jvm.Cond.code ({ cls := "com/example/wedgetree/wedgetree/core/QueryCounts", name := "wrongNodes", desc := "()Ljava/util/OptionalLong;" } : Jvm.MethodName) prog_39_method_3_code (1 : Nat) (Option.some (Jvm.ClassFile.FieldType.object "java/util/OptionalLong")), Jvm.Cond.code ({ cls := "java/util/OptionalLong", name := "of", desc := "(J)Ljava/util/OptionalLong;" } : Jvm.MethodName) jdk_2650_method_4_code (2 : Nat) (Option.some (Jvm.ClassFile.FieldType.object "java/util/OptionalLong")), Jvm.Cond.code ({ cls := "java/util/OptionalLong", name := "<init>", desc := "(J)V" } : Jvm.MethodName) jdk_2650_method_3_code (3 : Nat) (Option.none : Option Jvm.ClassFile.FieldType), Jvm.Cond.code ({ cls := "com/example/wedgetree/wedgetree/core/QueryCounts", name := "nodesOpened", desc := "()J" } : Jvm.MethodName) prog_39_method_2_code (1 : Nat) (Option.some Jvm.ClassFile.FieldType.long), Jvm.Cond.code ({ cls := "java/util/OptionalLong", name := "isPresent", desc := "()Z" } : Jvm.MethodName) jdk_2650_method_6_code (1 : Nat) (Option.some Jvm.ClassFile.FieldType.boolean), Jvm.Cond.code ({ cls := "java/util/OptionalLong", name := "getAsLong", desc := "()J" } : Jvm.MethodName) jdk_2650_method_5_code (1 : Nat) (Option.some Jvm.ClassFile.FieldType.long), Jvm.Cond.code ({ cls := "com/example/wedgetree/wedgetree/core/OpenedNodes", name := "answered", desc := "()V" } : Jvm.MethodName) prog_27_method_5_code (2 : Nat) (Option.none : Option Jvm.ClassFile.FieldType)]
set_option maxRecDepth 65536 in
theorem codes_eq : words1.filter isCode = codes1 := rfl
theorem w_codes : ∀ c ∈ words1.filter isCode, c.before args0 about1 = true := by
  rw [codes_eq]
  intro c hc
  simp only [codes1, List.mem_cons, List.not_mem_nil, or_false] at hc
  rcases hc with rfl | rfl | rfl | rfl | rfl | rfl | rfl | rfl | rfl | rfl | rfl | rfl | rfl | rfl | rfl | rfl | rfl | rfl | rfl | rfl | rfl
  · exact w_c0
  · exact w_c1
  · exact w_c2
  · exact w_c3
  · exact w_c4
  · exact w_c5
  · exact w_c6
  · exact w_c7
  · exact w_c8
  · exact w_c9
  · exact w_c10
  · exact w_c11
  · exact w_c12
  · exact w_c13
  · exact w_c14
  · exact w_c15
  · exact w_c16
  · exact w_c17
  · exact w_c18
  · exact w_c19
  · exact w_c20
set_option maxRecDepth 65536 in
theorem w_t1 : (words1.take 24).all (fun c => isCode c || c.before args0 about1) = true := by decide +kernel
set_option maxRecDepth 65536 in
theorem w_t2 : ((words1.drop 24).take 24).all (fun c => isCode c || c.before args0 about1) = true := by decide +kernel
set_option maxRecDepth 65536 in
theorem w_t3 : (((words1.drop 24).drop 24).take 24).all (fun c => isCode c || c.before args0 about1) = true := by decide +kernel
set_option maxRecDepth 65536 in
theorem w_t4 : ((((words1.drop 24).drop 24).drop 24).take 24).all (fun c => isCode c || c.before args0 about1) = true := by decide +kernel
set_option maxRecDepth 65536 in
theorem w_t5 : (((((words1.drop 24).drop 24).drop 24).drop 24).take 24).all (fun c => isCode c || c.before args0 about1) = true := by decide +kernel
set_option maxRecDepth 65536 in
theorem w_t6 : (((((words1.drop 24).drop 24).drop 24).drop 24).drop 24).all (fun c => isCode c || c.before args0 about1) = true := by decide +kernel
theorem w_tables : (allAtoms (Jvm.Cond.code x code maxLocals ret :: tables_1)).before args0 about1 = true := by
  rw [allAtoms_all]
  show words1.all (fun c => c.before args0 about1) = true
  refine all_split ?_ w_codes
  rw [← List.take_append_drop 24 words1, List.all_append, w_t1, ← List.take_append_drop 24 (words1.drop 24), List.all_append, w_t2, ← List.take_append_drop 24 ((words1.drop 24).drop 24), List.all_append, w_t3, ← List.take_append_drop 24 (((words1.drop 24).drop 24).drop 24), List.all_append, w_t4, ← List.take_append_drop 24 ((((words1.drop 24).drop 24).drop 24).drop 24), List.all_append, w_t5, w_t6]
  rfl
set_option maxRecDepth 65536 in
theorem w_case : (Jvm.Cond.and given_1 narrow_1).before args0 about1 = true := by decide +kernel
theorem w_applies : (headSpec (Jvm.Cond.code x code maxLocals ret :: tables_1) room_1).applies x e0.platform about1 = true :=
  (Spec.applies_iff w_frames).mpr ⟨w_running, w_runnable, w_alone, w_named, w_hears, w_ripe, w_room, w_tables⟩
theorem atStart : AtStart classFile x code maxLocals ret World_1 tables_1 room_1 Calls_1 rest_1 Pre_1 launch0 p0 e0 about1 theMethod args0 below0 :=
  ⟨lists_1, trivial, launch0.admits_env _ _ _, launch0.least_env, fairChoices_fair.cas, fairChoices_fair.clock, w_frames, w_args, w_heap, w_applies, trivial, trivial, w_case⟩
end start1
theorem witness_1 : WitnessClaimed_1 := ⟨start1.p0, start1.e0, start1.about1, start1.theMethod, start1.args0, start1.below0, start1.atStart⟩
end Jvm.Pilot.@@N@@
