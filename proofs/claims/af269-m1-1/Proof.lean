import JvmDerived
import JvmDerived.Pilot.@@N@@Statement
import JvmDerived.Pilot.@@N@@Code
set_option linter.unusedVariables false
set_option linter.unusedSimpArgs false
namespace Jvm.Pilot.@@N@@
open Jvm Jvm.ClassFile Sem Op Lib Jvm.Free Jvm.Stand Jvm.LawKit Jvm.RoadKit Bundle Jvm.Pilot.@@N@@.Jvm.D
theorem own_g {Z : State} {a0 : Array Value} (hw : ∀ d ∈ tables_1, d.before a0 Z = true) {i : Nat} {d : Jvm.Cond} (h : tables_1[i]? = some d) : d.before a0 Z = true := hw _ (List.mem_of_getElem? h)
/-- the walk from the frame g in the state T comes to an end of which K holds -/
def own_E (p : Program) (e : Env) (below : List Frame) (K : Outcome → State → Prop) (T : State) (g : JFrame) : Prop := ∃ s₂ o, Steps p.tables e below (T.setTop g) s₂ ∧ s₂.status = .running ∧ Ended s₂ below o ∧ K o s₂
def own_K (s : State) (Q : Option Value → Heap → List Loc → Prop) (kc ks : Nat) (o : Outcome) (U : State) : Prop := ∃ v L, o = .returned v ∧ Q v U.heap L ∧ FrameEnd s o U L kc ks
section OwnKit
variable {p : Program} {l : Launch} {e : Env} {R : Room} {s : State} {m : MethodId} {args : Array Value} {below : List Frame} {meth : Method} {c : Code} {T T' : State} {locs : List Loc} {cells slots : Nat} {K : Outcome → State → Prop} {Z : State} {h h' : Heap}
theorem own_S {g : JFrame} (g' : JFrame) (st : ∀ t, Steps p.tables e below (T'.setTop g') t → Steps p.tables e below (T.setTop g) t) (k : own_E p e below K T' g') : own_E p e below K T g := by
  obtain ⟨s₂, o, h1, h2⟩ := k
  exact ⟨s₂, o, st _ h1, h2⟩
theorem own_s {g : JFrame} {t : State} (g' : JFrame) (st : ∀ t, Steps p.tables e below (T'.setTop g') t → Steps p.tables e below (T.setTop g) t) (k : Steps p.tables e below (T'.setTop g') t) : Steps p.tables e below (T.setTop g) t := st t k
theorem own_ret {Q : Option Value → Heap → List Loc → Prop} {kc ks : Nat} (X : Stand p l e R s m args below meth c T locs cells slots) (hx : p.tables.exec = Jvm.exec) (hlk : meth.locks = false) {pc : Nat} {Ls : Array Slot} {w : Value} {t : FieldType} {i : Instr} {rest : List Value} (hret : meth.sig.returnType = some t) (hn : narrow t w = w)
    (hi : (i = .ireturn ∧ (t = .int ∨ t = .boolean ∨ t = .byte ∨ t = .char ∨ t = .short) ∧ ∃ z, w = .int z) ∨ (i = .lreturn ∧ t = .long ∧ ∃ z, w = .long z) ∨ (i = .dreturn ∧ t = .double ∧ ∃ z, w = .double z) ∨ (i = .freturn ∧ t = .float ∧ ∃ z, w = .float z) ∨ (i = .areturn ∧ t.isReference = true ∧ w.isRef = true))
    (hd : decode c.code pc = .ok (i, 1)) (hQ : Q (some w) T.heap locs) (h1 : cells ≤ kc) (h2 : slots ≤ ks) : own_E p e below (own_K s Q kc ks) T (mkF m pc Ls (w :: rest)) := by
  obtain ⟨fs, hr, hrun, hended, hW, hsame⟩ := X.leave (v := some w) (fun h => by rw [hret] at h; cases h) hlk
  exact ⟨_, _, retOut X hx hret hn hi hd hr, hrun, hended, _, _, rfl, hQ, ⟨_, rfl⟩, hW, hsame.mono h1 h2⟩
theorem own_retN {Q : Option Value → Heap → List Loc → Prop} {kc ks : Nat} (X : Stand p l e R s m args below meth c T locs cells slots) (hx : p.tables.exec = Jvm.exec) (hlk : meth.locks = false) {pc : Nat} {Ls : Array Slot} {z : Int32} {t : FieldType} {rest : List Value} (hret : meth.sig.returnType = some t) (ht : t = .boolean ∨ t = .byte ∨ t = .char ∨ t = .short)
    (hd : decode c.code pc = .ok (.ireturn, 1)) (hQ : Q (some (.int (nar t z))) T.heap locs) (h1 : cells ≤ kc) (h2 : slots ≤ ks) : own_E p e below (own_K s Q kc ks) T (mkF m pc Ls (.int z :: rest)) := by
  obtain ⟨fs, hr, hrun, hended, hW, hsame⟩ := X.leave (v := some (.int (nar t z))) (fun h => by rw [hret] at h; cases h) hlk
  exact ⟨_, _, retN X hx hret ht hd hr, hrun, hended, _, _, rfl, hQ, ⟨_, rfl⟩, hW, hsame.mono h1 h2⟩
theorem own_ret0 {Q : Option Value → Heap → List Loc → Prop} {kc ks : Nat} (X : Stand p l e R s m args below meth c T locs cells slots) (hx : p.tables.exec = Jvm.exec) (hlk : meth.locks = false) {pc : Nat} {Ls : Array Slot} (hret : meth.sig.returnType = none)
    (hd : decode c.code pc = .ok (.return_, 1)) (hQ : Q none T.heap locs) (h1 : cells ≤ kc) (h2 : slots ≤ ks) : own_E p e below (own_K s Q kc ks) T (mkF m pc Ls []) := by
  obtain ⟨fs, hr, hrun, hended, hW, hsame⟩ := X.leave (v := none) (fun _ => rfl) hlk
  exact ⟨_, _, X.returnOut hx hret hd hr, hrun, hended, _, _, rfl, hQ, ⟨_, rfl⟩, hW, hsame.mono h1 h2⟩
theorem own_weak (X : Stand p l e R s m args below meth c T locs cells slots) {locs' : List Loc} {kc ks : Nat} (hl : ∀ y ∈ locs, y ∈ locs' ∨ s.heap.size ≤ y.base) (h1 : cells ≤ kc) (h2 : slots ≤ ks) : Stand p l e R s m args below meth c T locs' kc ks :=
  { X with same := (X.same.sift hl).mono h1 h2 }
theorem Sta_keep {C n d : String} {w : Value} {ws : List Addr} {n0 : Nat} (F : Sta Z h C n d w) (K : Keep h h' ws) (hn : ∀ a ∈ ws, ∀ cell : Cell, h[a]? = some cell → cell.vm.isStatics = false) : Sta Z h' C n d w := by
  obtain ⟨cf, i, k, f, st, cell, h1, h2, h3, h4, h5, h6, h7⟩ := F
  exact ⟨cf, i, k, f, st, cell, h1, h2, h3, h4, K.2.1 st cell h5 (fun q => by have := hn st q cell h5; rw [h6] at this; cases this), h6, h7⟩
theorem Ins_keep {a : Addr} {C : String} {b : Bool} {ws : List Addr} (F : Ins Z h a C b) (K : Keep h h' ws) : Ins Z h' a C b := by
  obtain ⟨cell, cT, h1, h2, h3⟩ := F
  obtain ⟨c', q1, q2, q3, -⟩ := K.2.2 a cell h1
  exact ⟨c', cT, q1, h2, by rw [q2, q3]; exact h3⟩
end OwnKit
theorem own_fieldI {Z : State} {args : Array Value} {t : Term} {C n d : String} {k : Int32} {a : Addr} (ev : t.eval args Z none [] Z = some (.ref a)) (h : (Cond.eq (.field t C n d) (.int k)).value args Z none Z [] = some true) : Fld Z Z.heap a C n d (.int k) := by
  obtain ⟨x, y, h1, h2, k1, k2⟩ := cmp_v (Or.inl h)
  have hy : y = .int k := (Option.some.inj h2).symm
  subst hy
  obtain ⟨z, rfl⟩ : ∃ z, x = .int z := k2
  have hz : z = k := gotT (Cond.eq_ints h1 h2) h
  subst hz
  exact Fld.start ((fld_at ev).symm.trans h1)
theorem own_exa_plain {Z : State} {h : Heap} {a : Addr} {C : String} (F : Exa Z h a C) : ∀ cell : Cell, h[a]? = some cell → cell.vm.isStatics = false := fun cell hc => by
  obtain ⟨c1, k, h1, h2, h3, h4, h5⟩ := F
  cases h1.symm.trans hc
  exact h4
theorem own_allS {P : Addr → Prop} {y : Addr} {L : List Addr} (q : P y) (r : ∀ x ∈ L, P x) : ∀ x ∈ y :: L, P x := fun x z => (List.mem_cons.mp z).elim (fun u => u ▸ q) (r x)
theorem own_NSr {Z : State} {a0 : Array Value} {O K : String} {n : Nat} (w : (Cond.noSuperclass O).before a0 Z = true) (wk : (Cond.instantiable K n).before a0 Z = true) (hn : O ≠ K) : NS Z O K := by
  obtain ⟨c, k, h1, h2, h3, -, -⟩ := Cond.noSuperclass_spec w
  obtain ⟨t, kt, g1, -⟩ := Cond.instantiable_spec wk
  refine ⟨c, t, h1, g1, fun fuel => ?_⟩
  have ne := ids_ne h1 g1 hn
  cases fuel with
  | zero => rfl
  | succ f => simp [Vm.isSubclassAux, ne, h2, h3]
theorem own_NSn {Z : State} {a0 : Array Value} {C S K : String} {n : Nat} (w : (Cond.superclass C S).before a0 Z = true) (wk : (Cond.instantiable K n).before a0 Z = true) (q : NS Z C K) : ∃ c t, Z.vm.findClass C = some c ∧ Z.vm.findClass K = some t ∧ Z.vm.assignable c t = false := by
  obtain ⟨c, t, h0, g0, h3⟩ := q
  obtain ⟨p, k, kp, -, h2, -, -, h5, -⟩ := Cond.superclass_spec h0 w
  obtain ⟨t', kt, g1, g2, g3, g4, -⟩ := Cond.instantiable_spec wk
  cases g0.symm.trans g1
  refine ⟨c, t, h0, g0, ?_⟩
  cases hA : Z.vm.assignable c t with
  | false => rfl
  | true =>
    have hi : kt.isInterface = false := by
      cases hk : kt.isInterface with
      | false => rfl
      | true => rw [hk] at g4; cases g4
    have hS : Z.vm.isSubclass c t = true := isSubclass_of_assignable h2 g2 h5 g3 hi hA
    have hF : Z.vm.isSubclass c t = false := h3 _
    rw [hF] at hS
    cases hS
theorem own_nn (x : Int32) : ¬ ((x &&& (2147483647 : Int32)) < (0 : Int32)) := by
  have := c_mask x 2147483647 31 (by decide) (by decide)
  rw [Int32.lt_iff_toInt_lt, this]
  have h0 : (0 : Int32).toInt = 0 := rfl
  omega
theorem own_and3 (x : Int32) : (x &&& (3 : Int32)) = 0 ∨ (x &&& (3 : Int32)) = 1 ∨ (x &&& (3 : Int32)) = 2 ∨ (x &&& (3 : Int32)) = 3 := by
  have h := c_mask x 3 2 (by decide) (by decide)
  have e0 : (0 : Int32).toInt = 0 := rfl
  have e1 : (1 : Int32).toInt = 1 := rfl
  have e2 : (2 : Int32).toInt = 2 := rfl
  have e3 : (3 : Int32).toInt = 3 := rfl
  simp only [← Int32.toInt_inj]
  omega
theorem own_sym (a b c d e f : Int32) : (if b = a ∧ d = c ∧ f = e then (1 : Int32) else (0 : Int32)) = (if a = b ∧ c = d ∧ e = f then (1 : Int32) else (0 : Int32)) := by
  simp only [eq_comm]
theorem own_law (kd c1 c2 k1 k2 b1 b2 t1 t2 i1 i2 : Int32) (hlt : kd < (2 : Int32)) (o1 : b1 = 0 ∨ b1 = 1) (o2 : b2 = 0 ∨ b2 = 1) (h1 : i1 = if b1 = (0 : Int32) then (-1 : Int32) else t1) (h2 : i2 = if b2 = (0 : Int32) then (-1 : Int32) else t2) (n1 : ¬ (t1 < (0 : Int32))) (n2 : ¬ (t2 < (0 : Int32))) :
    (if c1 = c2 ∧ k1 = k2 ∧ i1 = i2 then (1 : Int32) else (0 : Int32)) = (if kd < (2 : Int32) then (if c1 = c2 then (if k1 = k2 then (if b1 = b2 then (if b1 = (0 : Int32) then (1 : Int32) else (if t1 = t2 then (1 : Int32) else (0 : Int32))) else (0 : Int32)) else (0 : Int32)) else (0 : Int32)) else (0 : Int32)) := by
  have m1 : ¬ (t1 = (-1 : Int32)) := fun q => n1 (by rw [q]; decide)
  have m2 : ¬ ((-1 : Int32) = t2) := fun q => n2 (by rw [← q]; decide)
  subst h1 h2
  rcases o1 with rfl | rfl <;> rcases o2 with rfl | rfl <;> by_cases e1 : c1 = c2 <;> by_cases e2 : k1 = k2 <;> simp [hlt, e1, e2, m1, m2]
abbrev own_y0 : MethodName := ⟨"com/example/referee/referee/logic/ltl/Formula", "<init>", "(II)V"⟩
abbrev own_y1 : MethodName := ⟨"com/example/referee/referee/logic/ltl/Pointer", "<init>", "(III)V"⟩
abbrev own_y2 : MethodName := ⟨"com/example/referee/referee/logic/ltl/Pointer", "<init>", "(II)V"⟩
abbrev own_y3 : MethodName := ⟨"com/example/referee/referee/logic/ltl/Pointer", "at", "(I)Lcom/example/referee/referee/logic/ltl/Pointer;"⟩
abbrev own_y4 : MethodName := ⟨"com/example/referee/referee/logic/ltl/Pointer", "equals", "(Ljava/lang/Object;)Z"⟩
theorem d3_0 : decode prog_75_method_1_code 0 = .ok (.aload_n 0, 1) := by decide +kernel
theorem d3_1 : decode prog_75_method_1_code 1 = .ok (.invokespecial 1, 3) := by decide +kernel
theorem d3_4 : decode prog_75_method_1_code 4 = .ok (.aload_n 0, 1) := by decide +kernel
theorem d3_5 : decode prog_75_method_1_code 5 = .ok (.iload_n 1, 1) := by decide +kernel
theorem d3_6 : decode prog_75_method_1_code 6 = .ok (.putfield 7, 3) := by decide +kernel
theorem d3_9 : decode prog_75_method_1_code 9 = .ok (.aload_n 0, 1) := by decide +kernel
theorem d3_10 : decode prog_75_method_1_code 10 = .ok (.iload_n 2, 1) := by decide +kernel
theorem d3_11 : decode prog_75_method_1_code 11 = .ok (.putfield 13, 3) := by decide +kernel
theorem d3_14 : decode prog_75_method_1_code 14 = .ok (.return_, 1) := by decide +kernel
theorem own_pn_com_example_referee_referee_logic_ltl_Formula : plainName "com/example/referee/referee/logic/ltl/Formula" = true := by first | (simp [plainName, overriddenIn]; done) | decide +kernel
theorem own_ef_fi (m : MethodId) (y0 : Addr) (y1 : Int32) (y2 : Int32) : entryFrame m #[(.ref y0), (.int y1), (.int y2)] 3 = mkF m 0 #[rv y0, iv y1, iv y2] [] := by first | (simp [entryFrame, mkF, argsToLocals, Value.category]; done) | rfl
def own_Qfi (Z : State) (a : Addr) (x : Int32) (y : Int32) (u1 : Value) (u2 : Value) (u3 : Value) (u4 : Value) (u5 : Value) (h0 : Heap) (n0 : Nat) (v : Option Value) (h : Heap) (L : List Loc) : Prop := v = none ∧ Fr n0 L ∧ Keep h0 h [a] ∧ Exa Z h a "com/example/referee/referee/logic/ltl/Pointer" ∧ Fld Z h a "com/example/referee/referee/logic/ltl/Formula" "height" "I" (.int x) ∧ Fld Z h a "com/example/referee/referee/logic/ltl/Formula" "size" "I" (.int y) ∧ Fld Z h a "com/example/referee/referee/logic/ltl/Pointer" "component" "I" u3 ∧ Fld Z h a "com/example/referee/referee/logic/ltl/Pointer" "cell" "I" u4 ∧ Fld Z h a "com/example/referee/referee/logic/ltl/Pointer" "instance" "I" u5
set_option maxRecDepth 65536 in
set_option maxHeartbeats 40000000 in
theorem own_rmfi (l : Launch) (Z : State) (a0 : Array Value) (hw : ∀ d ∈ tables_1, d.before a0 Z = true) (ws : List Jvm.Cond) (a : Addr) (x : Int32) (y : Int32) (u1 : Value) (u2 : Value) (u3 : Value) (u4 : Value) (u5 : Value) (h0 : Heap) (n0 : Nat) (Z0 : n0 ≤ h0.size) (P0 : Exa Z h0 a "com/example/referee/referee/logic/ltl/Pointer") (P1 : Fld Z h0 a "com/example/referee/referee/logic/ltl/Formula" "height" "I" u1) (P2 : Fld Z h0 a "com/example/referee/referee/logic/ltl/Formula" "size" "I" u2) (P3 : Fld Z h0 a "com/example/referee/referee/logic/ltl/Pointer" "component" "I" u3) (P4 : Fld Z h0 a "com/example/referee/referee/logic/ltl/Pointer" "cell" "I" u4) (P5 : Fld Z h0 a "com/example/referee/referee/logic/ltl/Pointer" "instance" "I" u5) (G_a : n0 ≤ a) :
    MetFree l own_y0 (head1 (Jvm.Cond.code own_y0 prog_75_method_1_code 3 none :: ws) ({ frames := 1, cells := 0, slots := 0, locals := 12 } : Room)) (fun az Uz => az = #[(.ref a), (.int x), (.int y)] ∧ Z.Warmed39 Uz.vm ∧ Uz.heap = h0) (fun _ _ _ _ _ => True) (fun _ U o U' => ∃ v L, o = .returned v ∧ own_Qfi Z a x y u1 u2 u3 u4 u5 h0 n0 v U'.heap L ∧ FrameEnd U o U' L ({ frames := 1, cells := 0, slots := 0, locals := 12 } : Room).cells ({ frames := 1, cells := 0, slots := 0, locals := 12 } : Room).slots) := by
  refine MetFree.of_bodySF (plainFor_of_name own_pn_com_example_referee_referee_logic_ltl_Formula) hisR ?_
  intro p e s m args below meth c s₁ Bd hml0 hP hK
  obtain ⟨rfl, hZ, hh⟩ := hP
  have hx := Bd.exec
  have hby := Bd.bytes
  have hml : c.maxLocals = 3 := hml0
  have hown : s.vm.findClass "com/example/referee/referee/logic/ltl/Formula" = some m.cls := findClass_of_methodNamed Bd.named
  have hnm := (name_of_methodNamed Bd.named Bd.method).1
  have hlk : meth.locks = false := BodyLoose.notSynchronized Bd
  have hret := Bd.returns
  have X0 : Stand p l e ({ frames := 1, cells := 0, slots := 0, locals := 12 } : Room) s m #[(.ref a), (.int x), (.int y)] below meth c s₁ [] 0 0 := Stand.of_body Bd
  have e0 : s₁.heap = h0 := by rw [← hh, Bd.state]; rfl
  have N0 := Fr.nil n0
  show own_E p e below (own_K s (own_Qfi Z a x y u1 u2 u3 u4 u5 h0 n0) ({ frames := 1, cells := 0, slots := 0, locals := 12 } : Room).cells ({ frames := 1, cells := 0, slots := 0, locals := 12 } : Room).slots) s₁ (entryFrame m #[(.ref a), (.int x), (.int y)] 3)
  refine own_S (mkF m 0 #[rv a, iv x, iv y] []) (fun _ k => castTop (own_ef_fi m (a) (x) (y)) k) ?_
  refine own_S (mkF m 1 #[rv a, iv x, iv y] [(.ref a)]) (fun _ k => XS.aloadN X0.here hx rfl (hb hby d3_0) rfl rfl k) ?_
  obtain ⟨T1, X1, e1, st1⟩ := initO X0 hx hZ hown (own_g hw (i := 15) rfl) (own_g hw (i := 16) rfl) (own_g hw (i := 17) rfl) e0 (g := (mkF m 1 #[rv a, iv x, iv y] [(.ref a)])) rfl (by rw [hml]; rfl) rfl (hb hby d3_1) (by decide) (W := 0) (by show 2 * 0 + _ ≤ _; exact Nat.le_of_eq rfl) (by decide)
  refine own_S (mkF m 4 #[rv a, iv x, iv y] []) st1 ?_
  refine own_S (mkF m 5 #[rv a, iv x, iv y] [(.ref a)]) (fun _ k => XS.aloadN X1.here hx rfl (hb hby d3_4) rfl rfl k) ?_
  refine own_S (mkF m 6 #[rv a, iv x, iv y] [(.int x), (.ref a)]) (fun _ k => XS.iloadN X1.here hx rfl (hb hby d3_5) rfl k) ?_
  obtain ⟨T2, h2, X2, e2, W2, st2⟩ := putF X1 hx hZ hown (host := "") (Or.inl (own_g hw (i := 18) rfl)) Via.refl e1 P1 P0 (Or.inr ⟨(own_g hw (i := 19) rfl), rfl, hnm⟩) (own_g hw (i := 2) rfl) (ty := .int) (by decide) rfl rfl (g := (mkF m 6 #[rv a, iv x, iv y] [(.int x), (.ref a)])) rfl rfl (hb hby d3_6)
  refine own_S (mkF m 9 #[rv a, iv x, iv y] []) st2 ?_
  have F3 := P0.wr W2
  have F4 := P1.same W2
  have F5 := P2.other W2 (Or.inr (slot_ne (Or.inr (own_g hw (i := 21) rfl)) (Or.inr (own_g hw (i := 19) rfl)) (by decide) (t := .int) (t' := .int) (by decide) (by decide)))
  have F6 := P3.other W2 (Or.inr (slot_ne (Or.inr (own_g hw (i := 23) rfl)) (Or.inr (own_g hw (i := 19) rfl)) (by decide) (t := .int) (t' := .int) (by decide) (by decide)))
  have F7 := P4.other W2 (Or.inr (slot_ne (Or.inr (own_g hw (i := 25) rfl)) (Or.inr (own_g hw (i := 19) rfl)) (by decide) (t := .int) (t' := .int) (by decide) (by decide)))
  have F8 := P5.other W2 (Or.inr (slot_ne (Or.inr (own_g hw (i := 27) rfl)) (Or.inr (own_g hw (i := 19) rfl)) (by decide) (t := .int) (t' := .int) (by decide) (by decide)))
  have N2 := Fr.snoc X2 N0 G_a
  have Z2 : n0 ≤ h2.size := by rw [Wr.size W2]; exact Z0
  have K2 : Keep h0 h2 [a] := (Keep.refl _ _).wr W2 (Or.inl (List.mem_of_getElem? (i := 0) rfl))
  refine own_S (mkF m 10 #[rv a, iv x, iv y] [(.ref a)]) (fun _ k => XS.aloadN X2.here hx rfl (hb hby d3_9) rfl rfl k) ?_
  refine own_S (mkF m 11 #[rv a, iv x, iv y] [(.int y), (.ref a)]) (fun _ k => XS.iloadN X2.here hx rfl (hb hby d3_10) rfl k) ?_
  obtain ⟨T9, h9, X9, e9, W9, st9⟩ := putF X2 hx hZ hown (host := "") (Or.inl (own_g hw (i := 20) rfl)) Via.refl e2 F5 F3 (Or.inr ⟨(own_g hw (i := 21) rfl), rfl, hnm⟩) (own_g hw (i := 2) rfl) (ty := .int) (by decide) rfl rfl (g := (mkF m 11 #[rv a, iv x, iv y] [(.int y), (.ref a)])) rfl rfl (hb hby d3_11)
  refine own_S (mkF m 14 #[rv a, iv x, iv y] []) st9 ?_
  have F10 := F3.wr W9
  have F11 := F4.other W9 (Or.inr (slot_ne (Or.inr (own_g hw (i := 19) rfl)) (Or.inr (own_g hw (i := 21) rfl)) (by decide) (t := .int) (t' := .int) (by decide) (by decide)))
  have F12 := F5.same W9
  have F13 := F6.other W9 (Or.inr (slot_ne (Or.inr (own_g hw (i := 23) rfl)) (Or.inr (own_g hw (i := 21) rfl)) (by decide) (t := .int) (t' := .int) (by decide) (by decide)))
  have F14 := F7.other W9 (Or.inr (slot_ne (Or.inr (own_g hw (i := 25) rfl)) (Or.inr (own_g hw (i := 21) rfl)) (by decide) (t := .int) (t' := .int) (by decide) (by decide)))
  have F15 := F8.other W9 (Or.inr (slot_ne (Or.inr (own_g hw (i := 27) rfl)) (Or.inr (own_g hw (i := 21) rfl)) (by decide) (t := .int) (t' := .int) (by decide) (by decide)))
  have N9 := Fr.snoc X9 N2 G_a
  have Z9 : n0 ≤ h9.size := by rw [Wr.size W9]; exact Z2
  have K9 : Keep h0 h9 [a] := K2.wr W9 (Or.inl (List.mem_of_getElem? (i := 0) rfl))
  exact own_ret0 X9 hx hlk hret (hb hby d3_14) (by rw [e9]; exact ⟨rfl, N9, K9, F10, F11, F12, F13, F14, F15⟩) (by decide) (by decide)
theorem d2_0 : decode prog_88_method_2_code 0 = .ok (.aload_n 0, 1) := by decide +kernel
theorem d2_1 : decode prog_88_method_2_code 1 = .ok (.iconst 1, 1) := by decide +kernel
theorem d2_2 : decode prog_88_method_2_code 2 = .ok (.iconst 1, 1) := by decide +kernel
theorem d2_3 : decode prog_88_method_2_code 3 = .ok (.invokespecial 7, 3) := by decide +kernel
theorem d2_6 : decode prog_88_method_2_code 6 = .ok (.iload_n 1, 1) := by decide +kernel
theorem d2_7 : decode prog_88_method_2_code 7 = .ok (.ifCond .lt 7, 3) := by decide +kernel
theorem d2_10 : decode prog_88_method_2_code 10 = .ok (.iload_n 2, 1) := by decide +kernel
theorem d2_11 : decode prog_88_method_2_code 11 = .ok (.ifCond .ge 18, 3) := by decide +kernel
theorem d2_29 : decode prog_88_method_2_code 29 = .ok (.aload_n 0, 1) := by decide +kernel
theorem d2_30 : decode prog_88_method_2_code 30 = .ok (.iload_n 1, 1) := by decide +kernel
theorem d2_31 : decode prog_88_method_2_code 31 = .ok (.putfield 21, 3) := by decide +kernel
theorem d2_34 : decode prog_88_method_2_code 34 = .ok (.aload_n 0, 1) := by decide +kernel
theorem d2_35 : decode prog_88_method_2_code 35 = .ok (.iload_n 2, 1) := by decide +kernel
theorem d2_36 : decode prog_88_method_2_code 36 = .ok (.putfield 25, 3) := by decide +kernel
theorem d2_39 : decode prog_88_method_2_code 39 = .ok (.aload_n 0, 1) := by decide +kernel
theorem d2_40 : decode prog_88_method_2_code 40 = .ok (.iload_n 3, 1) := by decide +kernel
theorem d2_41 : decode prog_88_method_2_code 41 = .ok (.putfield 28, 3) := by decide +kernel
theorem d2_44 : decode prog_88_method_2_code 44 = .ok (.return_, 1) := by decide +kernel
theorem own_pd__II_V : parseMethodDescriptor "(II)V" = some ⟨[.int, .int], none⟩ := by decide +kernel
theorem own_pn_com_example_referee_referee_logic_ltl_Pointer : plainName "com/example/referee/referee/logic/ltl/Pointer" = true := by first | (simp [plainName, overriddenIn]; done) | decide +kernel
theorem own_ef_p3 (m : MethodId) (y0 : Addr) (y1 : Int32) (y2 : Int32) (y3 : Int32) : entryFrame m #[(.ref y0), (.int y1), (.int y2), (.int y3)] 4 = mkF m 0 #[rv y0, iv y1, iv y2, iv y3] [] := by first | (simp [entryFrame, mkF, argsToLocals, Value.category]; done) | rfl
def own_Qp3 (Z : State) (a : Addr) (x : Int32) (y : Int32) (z : Int32) (u1 : Value) (u2 : Value) (u3 : Value) (u4 : Value) (u5 : Value) (h0 : Heap) (n0 : Nat) (v : Option Value) (h : Heap) (L : List Loc) : Prop := v = none ∧ Fr n0 L ∧ Keep h0 h [a] ∧ Exa Z h a "com/example/referee/referee/logic/ltl/Pointer" ∧ Fld Z h a "com/example/referee/referee/logic/ltl/Formula" "height" "I" (.int (1 : Int32)) ∧ Fld Z h a "com/example/referee/referee/logic/ltl/Formula" "size" "I" (.int (1 : Int32)) ∧ Fld Z h a "com/example/referee/referee/logic/ltl/Pointer" "component" "I" (.int x) ∧ Fld Z h a "com/example/referee/referee/logic/ltl/Pointer" "cell" "I" (.int y) ∧ Fld Z h a "com/example/referee/referee/logic/ltl/Pointer" "instance" "I" (.int z)
set_option maxRecDepth 65536 in
set_option maxHeartbeats 40000000 in
theorem own_rmp3 (l : Launch) (Z : State) (a0 : Array Value) (hw : ∀ d ∈ tables_1, d.before a0 Z = true) (ws : List Jvm.Cond) (a : Addr) (x : Int32) (y : Int32) (z : Int32) (u1 : Value) (u2 : Value) (u3 : Value) (u4 : Value) (u5 : Value) (h0 : Heap) (n0 : Nat) (Z0 : n0 ≤ h0.size) (P0 : Exa Z h0 a "com/example/referee/referee/logic/ltl/Pointer") (P1 : Fld Z h0 a "com/example/referee/referee/logic/ltl/Formula" "height" "I" u1) (P2 : Fld Z h0 a "com/example/referee/referee/logic/ltl/Formula" "size" "I" u2) (P3 : Fld Z h0 a "com/example/referee/referee/logic/ltl/Pointer" "component" "I" u3) (P4 : Fld Z h0 a "com/example/referee/referee/logic/ltl/Pointer" "cell" "I" u4) (P5 : Fld Z h0 a "com/example/referee/referee/logic/ltl/Pointer" "instance" "I" u5) (G_a : n0 ≤ a) (hx0 : ¬ (x < (0 : Int32))) (hy0 : ¬ (y < (0 : Int32))) :
    MetFree l own_y1 (head1 (Jvm.Cond.code own_y1 prog_88_method_2_code 4 none :: ws) ({ frames := 2, cells := 0, slots := 0, locals := 26 } : Room)) (fun az Uz => az = #[(.ref a), (.int x), (.int y), (.int z)] ∧ Z.Warmed39 Uz.vm ∧ Uz.heap = h0) (fun _ _ _ _ _ => True) (fun _ U o U' => ∃ v L, o = .returned v ∧ own_Qp3 Z a x y z u1 u2 u3 u4 u5 h0 n0 v U'.heap L ∧ FrameEnd U o U' L ({ frames := 2, cells := 0, slots := 0, locals := 26 } : Room).cells ({ frames := 2, cells := 0, slots := 0, locals := 26 } : Room).slots) := by
  refine MetFree.of_bodySF (plainFor_of_name own_pn_com_example_referee_referee_logic_ltl_Pointer) hisR ?_
  intro p e s m args below meth c s₁ Bd hml0 hP hK
  obtain ⟨rfl, hZ, hh⟩ := hP
  have hx := Bd.exec
  have hby := Bd.bytes
  have hml : c.maxLocals = 4 := hml0
  have hown : s.vm.findClass "com/example/referee/referee/logic/ltl/Pointer" = some m.cls := findClass_of_methodNamed Bd.named
  have hnm := (name_of_methodNamed Bd.named Bd.method).1
  have hlk : meth.locks = false := BodyLoose.notSynchronized Bd
  have hret := Bd.returns
  have X0 : Stand p l e ({ frames := 2, cells := 0, slots := 0, locals := 26 } : Room) s m #[(.ref a), (.int x), (.int y), (.int z)] below meth c s₁ [] 0 0 := Stand.of_body Bd
  have e0 : s₁.heap = h0 := by rw [← hh, Bd.state]; rfl
  have N0 := Fr.nil n0
  show own_E p e below (own_K s (own_Qp3 Z a x y z u1 u2 u3 u4 u5 h0 n0) ({ frames := 2, cells := 0, slots := 0, locals := 26 } : Room).cells ({ frames := 2, cells := 0, slots := 0, locals := 26 } : Room).slots) s₁ (entryFrame m #[(.ref a), (.int x), (.int y), (.int z)] 4)
  refine own_S (mkF m 0 #[rv a, iv x, iv y, iv z] []) (fun _ k => castTop (own_ef_p3 m (a) (x) (y) (z)) k) ?_
  refine own_S (mkF m 1 #[rv a, iv x, iv y, iv z] [(.ref a)]) (fun _ k => XS.aloadN X0.here hx rfl (hb hby d2_0) rfl rfl k) ?_
  refine own_S (mkF m 2 #[rv a, iv x, iv y, iv z] [(.int 1), (.ref a)]) (fun _ k => XS.iconst X0.here hx rfl (hb hby d2_1) k) ?_
  refine own_S (mkF m 3 #[rv a, iv x, iv y, iv z] [(.int 1), (.int 1), (.ref a)]) (fun _ k => XS.iconst X0.here hx rfl (hb hby d2_2) k) ?_
  obtain ⟨_, _, ⟨T1, L1, k1, n1⟩, -, X1, ⟨Lc1, hQ1, l1, y1, z1⟩, st1⟩ := X0.specialBack hx (y := own_y0) rfl hown (mvT hZ (own_g hw (i := 10) rfl)) (mvT hZ (own_g hw (i := 11) rfl)) (mvT hZ (own_g hw (i := 14) rfl)) (by decide) (backOf (W := 0) (own_rmfi l Z a0 hw [] (a) ((1 : Int32)) ((1 : Int32)) (u1) (u2) (u3) (u4) (u5) h0 n0 Z0 P0 P1 P2 P3 P4 P5 G_a) hZ (own_g hw (i := 14) rfl) (own_g hw (i := 13) rfl) (by decide) (by decide)) (g := (mkF m 3 #[rv a, iv x, iv y, iv z] [(.int 1), (.int 1), (.ref a)])) rfl (by rw [hml]; rfl) (Steps.refl _) (a := a) (argsL := [(.int 1), (.int 1)]) (rest := []) (lenOf own_pd__II_V rfl) rfl (by show 2 * 0 + _ ≤ _; exact Nat.le_of_eq rfl) (hb hby d2_3) (fun _ _ => ⟨rfl, e0, (by decide : 0 + 0 ≤ _), (by decide : 0 + 0 ≤ _)⟩)
  dsimp only [Pt.U, Pt.locs, Pt.cells, Pt.slots] at X1 l1 y1 z1 st1 hQ1
  subst l1 y1 z1
  obtain ⟨rfl, N1q, K1q, F2, F3, F4, F5, F6, F7⟩ := hQ1
  have N1 := Fr.app N0 N1q
  refine own_S (mkF m 6 #[rv a, iv x, iv y, iv z] []) (fun _ k => st1.trans k) ?_
  have K1 : Keep h0 T1.heap [a] := (Keep.refl h0 [a]).trans K1q (allS (Or.inl (List.mem_of_getElem? (i := 0) rfl)) all0)
  have Z1 : n0 ≤ T1.heap.size := Nat.le_trans Z0 K1q.1
  refine own_S (mkF m 7 #[rv a, iv x, iv y, iv z] [(.int x)]) (fun _ k => XS.iloadN X1.here hx rfl (hb hby d2_6) rfl k) ?_
  have hc8 : ¬ (x < (0 : Int32)) := hx0
  refine own_S (mkF m 10 #[rv a, iv x, iv y, iv z] []) (fun _ k => XS.ifNo X1.here hx rfl (hb hby d2_7) rfl ((if0 _ _).trans (flt hc8).1) k) ?_
  refine own_S (mkF m 11 #[rv a, iv x, iv y, iv z] [(.int y)]) (fun _ k => XS.iloadN X1.here hx rfl (hb hby d2_10) rfl k) ?_
  have hc9 : ¬ (y < (0 : Int32)) := hy0
  refine own_S (mkF m 29 #[rv a, iv x, iv y, iv z] []) (fun _ k => XS.ifYes X1.here hx rfl (pc0 := 11) (pc' := 29) rfl (hb hby d2_11) rfl ((if0 _ _).trans (flt hc9).2.1) (by decide) (by decide) k) ?_
  refine own_S (mkF m 30 #[rv a, iv x, iv y, iv z] [(.ref a)]) (fun _ k => XS.aloadN X1.here hx rfl (hb hby d2_29) rfl rfl k) ?_
  refine own_S (mkF m 31 #[rv a, iv x, iv y, iv z] [(.int x), (.ref a)]) (fun _ k => XS.iloadN X1.here hx rfl (hb hby d2_30) rfl k) ?_
  obtain ⟨T10, h10, X10, e10, W10, st10⟩ := putF X1 hx hZ hown (host := "") (Or.inl (own_g hw (i := 22) rfl)) Via.refl rfl F5 F2 (Or.inr ⟨(own_g hw (i := 23) rfl), rfl, hnm⟩) (own_g hw (i := 2) rfl) (ty := .int) (by decide) rfl rfl (g := (mkF m 31 #[rv a, iv x, iv y, iv z] [(.int x), (.ref a)])) rfl rfl (hb hby d2_31)
  refine own_S (mkF m 34 #[rv a, iv x, iv y, iv z] []) st10 ?_
  have F11 := F2.wr W10
  have F12 := F3.other W10 (Or.inr (slot_ne (Or.inr (own_g hw (i := 19) rfl)) (Or.inr (own_g hw (i := 23) rfl)) (by decide) (t := .int) (t' := .int) (by decide) (by decide)))
  have F13 := F4.other W10 (Or.inr (slot_ne (Or.inr (own_g hw (i := 21) rfl)) (Or.inr (own_g hw (i := 23) rfl)) (by decide) (t := .int) (t' := .int) (by decide) (by decide)))
  have F14 := F5.same W10
  have F15 := F6.other W10 (Or.inr (slot_ne (Or.inr (own_g hw (i := 25) rfl)) (Or.inr (own_g hw (i := 23) rfl)) (by decide) (t := .int) (t' := .int) (by decide) (by decide)))
  have F16 := F7.other W10 (Or.inr (slot_ne (Or.inr (own_g hw (i := 27) rfl)) (Or.inr (own_g hw (i := 23) rfl)) (by decide) (t := .int) (t' := .int) (by decide) (by decide)))
  have N10 := Fr.snoc X10 N1 G_a
  have Z10 : n0 ≤ h10.size := by rw [Wr.size W10]; exact Z1
  have K10 : Keep h0 h10 [a] := K1.wr W10 (Or.inl (List.mem_of_getElem? (i := 0) rfl))
  refine own_S (mkF m 35 #[rv a, iv x, iv y, iv z] [(.ref a)]) (fun _ k => XS.aloadN X10.here hx rfl (hb hby d2_34) rfl rfl k) ?_
  refine own_S (mkF m 36 #[rv a, iv x, iv y, iv z] [(.int y), (.ref a)]) (fun _ k => XS.iloadN X10.here hx rfl (hb hby d2_35) rfl k) ?_
  obtain ⟨T17, h17, X17, e17, W17, st17⟩ := putF X10 hx hZ hown (host := "") (Or.inl (own_g hw (i := 24) rfl)) Via.refl e10 F15 F11 (Or.inr ⟨(own_g hw (i := 25) rfl), rfl, hnm⟩) (own_g hw (i := 2) rfl) (ty := .int) (by decide) rfl rfl (g := (mkF m 36 #[rv a, iv x, iv y, iv z] [(.int y), (.ref a)])) rfl rfl (hb hby d2_36)
  refine own_S (mkF m 39 #[rv a, iv x, iv y, iv z] []) st17 ?_
  have F18 := F11.wr W17
  have F19 := F12.other W17 (Or.inr (slot_ne (Or.inr (own_g hw (i := 19) rfl)) (Or.inr (own_g hw (i := 25) rfl)) (by decide) (t := .int) (t' := .int) (by decide) (by decide)))
  have F20 := F13.other W17 (Or.inr (slot_ne (Or.inr (own_g hw (i := 21) rfl)) (Or.inr (own_g hw (i := 25) rfl)) (by decide) (t := .int) (t' := .int) (by decide) (by decide)))
  have F21 := F14.other W17 (Or.inr (slot_ne (Or.inr (own_g hw (i := 23) rfl)) (Or.inr (own_g hw (i := 25) rfl)) (by decide) (t := .int) (t' := .int) (by decide) (by decide)))
  have F22 := F15.same W17
  have F23 := F16.other W17 (Or.inr (slot_ne (Or.inr (own_g hw (i := 27) rfl)) (Or.inr (own_g hw (i := 25) rfl)) (by decide) (t := .int) (t' := .int) (by decide) (by decide)))
  have N17 := Fr.snoc X17 N10 G_a
  have Z17 : n0 ≤ h17.size := by rw [Wr.size W17]; exact Z10
  have K17 : Keep h0 h17 [a] := K10.wr W17 (Or.inl (List.mem_of_getElem? (i := 0) rfl))
  refine own_S (mkF m 40 #[rv a, iv x, iv y, iv z] [(.ref a)]) (fun _ k => XS.aloadN X17.here hx rfl (hb hby d2_39) rfl rfl k) ?_
  refine own_S (mkF m 41 #[rv a, iv x, iv y, iv z] [(.int z), (.ref a)]) (fun _ k => XS.iloadN X17.here hx rfl (hb hby d2_40) rfl k) ?_
  obtain ⟨T24, h24, X24, e24, W24, st24⟩ := putF X17 hx hZ hown (host := "") (Or.inl (own_g hw (i := 26) rfl)) Via.refl e17 F23 F18 (Or.inr ⟨(own_g hw (i := 27) rfl), rfl, hnm⟩) (own_g hw (i := 2) rfl) (ty := .int) (by decide) rfl rfl (g := (mkF m 41 #[rv a, iv x, iv y, iv z] [(.int z), (.ref a)])) rfl rfl (hb hby d2_41)
  refine own_S (mkF m 44 #[rv a, iv x, iv y, iv z] []) st24 ?_
  have F25 := F18.wr W24
  have F26 := F19.other W24 (Or.inr (slot_ne (Or.inr (own_g hw (i := 19) rfl)) (Or.inr (own_g hw (i := 27) rfl)) (by decide) (t := .int) (t' := .int) (by decide) (by decide)))
  have F27 := F20.other W24 (Or.inr (slot_ne (Or.inr (own_g hw (i := 21) rfl)) (Or.inr (own_g hw (i := 27) rfl)) (by decide) (t := .int) (t' := .int) (by decide) (by decide)))
  have F28 := F21.other W24 (Or.inr (slot_ne (Or.inr (own_g hw (i := 23) rfl)) (Or.inr (own_g hw (i := 27) rfl)) (by decide) (t := .int) (t' := .int) (by decide) (by decide)))
  have F29 := F22.other W24 (Or.inr (slot_ne (Or.inr (own_g hw (i := 25) rfl)) (Or.inr (own_g hw (i := 27) rfl)) (by decide) (t := .int) (t' := .int) (by decide) (by decide)))
  have F30 := F23.same W24
  have N24 := Fr.snoc X24 N17 G_a
  have Z24 : n0 ≤ h24.size := by rw [Wr.size W24]; exact Z17
  have K24 : Keep h0 h24 [a] := K17.wr W24 (Or.inl (List.mem_of_getElem? (i := 0) rfl))
  exact own_ret0 X24 hx hlk hret (hb hby d2_44) (by rw [e24]; exact ⟨rfl, N24, K24, F25, F26, F27, F28, F29, F30⟩) (by decide) (by decide)
theorem d1_0 : decode prog_88_method_1_code 0 = .ok (.aload_n 0, 1) := by decide +kernel
theorem d1_1 : decode prog_88_method_1_code 1 = .ok (.iload_n 1, 1) := by decide +kernel
theorem d1_2 : decode prog_88_method_1_code 2 = .ok (.iload_n 2, 1) := by decide +kernel
theorem d1_3 : decode prog_88_method_1_code 3 = .ok (.iconst (-1), 1) := by decide +kernel
theorem d1_4 : decode prog_88_method_1_code 4 = .ok (.invokespecial 3, 3) := by decide +kernel
theorem d1_7 : decode prog_88_method_1_code 7 = .ok (.return_, 1) := by decide +kernel
theorem own_pd__III_V : parseMethodDescriptor "(III)V" = some ⟨[.int, .int, .int], none⟩ := by decide +kernel
theorem own_ef_p2 (m : MethodId) (y0 : Addr) (y1 : Int32) (y2 : Int32) : entryFrame m #[(.ref y0), (.int y1), (.int y2)] 3 = mkF m 0 #[rv y0, iv y1, iv y2] [] := by first | (simp [entryFrame, mkF, argsToLocals, Value.category]; done) | rfl
def own_Qp2 (Z : State) (a : Addr) (x : Int32) (y : Int32) (u1 : Value) (u2 : Value) (u3 : Value) (u4 : Value) (u5 : Value) (h0 : Heap) (n0 : Nat) (v : Option Value) (h : Heap) (L : List Loc) : Prop := v = none ∧ Fr n0 L ∧ Keep h0 h [a] ∧ Exa Z h a "com/example/referee/referee/logic/ltl/Pointer" ∧ Fld Z h a "com/example/referee/referee/logic/ltl/Formula" "height" "I" (.int (1 : Int32)) ∧ Fld Z h a "com/example/referee/referee/logic/ltl/Formula" "size" "I" (.int (1 : Int32)) ∧ Fld Z h a "com/example/referee/referee/logic/ltl/Pointer" "component" "I" (.int x) ∧ Fld Z h a "com/example/referee/referee/logic/ltl/Pointer" "cell" "I" (.int y) ∧ Fld Z h a "com/example/referee/referee/logic/ltl/Pointer" "instance" "I" (.int (-1 : Int32))
set_option maxRecDepth 65536 in
set_option maxHeartbeats 40000000 in
theorem own_rmp2 (l : Launch) (Z : State) (a0 : Array Value) (hw : ∀ d ∈ tables_1, d.before a0 Z = true) (ws : List Jvm.Cond) (a : Addr) (x : Int32) (y : Int32) (u1 : Value) (u2 : Value) (u3 : Value) (u4 : Value) (u5 : Value) (h0 : Heap) (n0 : Nat) (Z0 : n0 ≤ h0.size) (P0 : Exa Z h0 a "com/example/referee/referee/logic/ltl/Pointer") (P1 : Fld Z h0 a "com/example/referee/referee/logic/ltl/Formula" "height" "I" u1) (P2 : Fld Z h0 a "com/example/referee/referee/logic/ltl/Formula" "size" "I" u2) (P3 : Fld Z h0 a "com/example/referee/referee/logic/ltl/Pointer" "component" "I" u3) (P4 : Fld Z h0 a "com/example/referee/referee/logic/ltl/Pointer" "cell" "I" u4) (P5 : Fld Z h0 a "com/example/referee/referee/logic/ltl/Pointer" "instance" "I" u5) (G_a : n0 ≤ a) (hx0 : ¬ (x < (0 : Int32))) (hy0 : ¬ (y < (0 : Int32))) :
    MetFree l own_y2 (head1 (Jvm.Cond.code own_y2 prog_88_method_1_code 3 none :: ws) ({ frames := 3, cells := 0, slots := 0, locals := 41 } : Room)) (fun az Uz => az = #[(.ref a), (.int x), (.int y)] ∧ Z.Warmed39 Uz.vm ∧ Uz.heap = h0) (fun _ _ _ _ _ => True) (fun _ U o U' => ∃ v L, o = .returned v ∧ own_Qp2 Z a x y u1 u2 u3 u4 u5 h0 n0 v U'.heap L ∧ FrameEnd U o U' L ({ frames := 3, cells := 0, slots := 0, locals := 41 } : Room).cells ({ frames := 3, cells := 0, slots := 0, locals := 41 } : Room).slots) := by
  refine MetFree.of_bodySF (plainFor_of_name own_pn_com_example_referee_referee_logic_ltl_Pointer) hisR ?_
  intro p e s m args below meth c s₁ Bd hml0 hP hK
  obtain ⟨rfl, hZ, hh⟩ := hP
  have hx := Bd.exec
  have hby := Bd.bytes
  have hml : c.maxLocals = 3 := hml0
  have hown : s.vm.findClass "com/example/referee/referee/logic/ltl/Pointer" = some m.cls := findClass_of_methodNamed Bd.named
  have hnm := (name_of_methodNamed Bd.named Bd.method).1
  have hlk : meth.locks = false := BodyLoose.notSynchronized Bd
  have hret := Bd.returns
  have X0 : Stand p l e ({ frames := 3, cells := 0, slots := 0, locals := 41 } : Room) s m #[(.ref a), (.int x), (.int y)] below meth c s₁ [] 0 0 := Stand.of_body Bd
  have e0 : s₁.heap = h0 := by rw [← hh, Bd.state]; rfl
  have N0 := Fr.nil n0
  show own_E p e below (own_K s (own_Qp2 Z a x y u1 u2 u3 u4 u5 h0 n0) ({ frames := 3, cells := 0, slots := 0, locals := 41 } : Room).cells ({ frames := 3, cells := 0, slots := 0, locals := 41 } : Room).slots) s₁ (entryFrame m #[(.ref a), (.int x), (.int y)] 3)
  refine own_S (mkF m 0 #[rv a, iv x, iv y] []) (fun _ k => castTop (own_ef_p2 m (a) (x) (y)) k) ?_
  refine own_S (mkF m 1 #[rv a, iv x, iv y] [(.ref a)]) (fun _ k => XS.aloadN X0.here hx rfl (hb hby d1_0) rfl rfl k) ?_
  refine own_S (mkF m 2 #[rv a, iv x, iv y] [(.int x), (.ref a)]) (fun _ k => XS.iloadN X0.here hx rfl (hb hby d1_1) rfl k) ?_
  refine own_S (mkF m 3 #[rv a, iv x, iv y] [(.int y), (.int x), (.ref a)]) (fun _ k => XS.iloadN X0.here hx rfl (hb hby d1_2) rfl k) ?_
  refine own_S (mkF m 4 #[rv a, iv x, iv y] [(.int (-1)), (.int y), (.int x), (.ref a)]) (fun _ k => XS.iconst X0.here hx rfl (hb hby d1_3) k) ?_
  obtain ⟨_, _, ⟨T1, L1, k1, n1⟩, -, X1, ⟨Lc1, hQ1, l1, y1, z1⟩, st1⟩ := X0.specialBack hx (y := own_y1) rfl hown (mvT hZ (own_g hw (i := 7) rfl)) (mvT hZ (own_g hw (i := 8) rfl)) (mvT hZ (own_g hw (i := 9) rfl)) (by decide) (backOf (W := 0) (own_rmp3 l Z a0 hw [] (a) (x) (y) ((-1 : Int32)) (u1) (u2) (u3) (u4) (u5) h0 n0 Z0 P0 P1 P2 P3 P4 P5 G_a hx0 hy0) hZ (own_g hw (i := 9) rfl) (own_g hw (i := 3) rfl) (by decide) (by decide)) (g := (mkF m 4 #[rv a, iv x, iv y] [(.int (-1)), (.int y), (.int x), (.ref a)])) rfl (by rw [hml]; rfl) (Steps.refl _) (a := a) (argsL := [(.int x), (.int y), (.int (-1))]) (rest := []) (lenOf own_pd__III_V rfl) rfl (by show 2 * 0 + _ ≤ _; exact Nat.le_of_eq rfl) (hb hby d1_4) (fun _ _ => ⟨rfl, e0, (by decide : 0 + 0 ≤ _), (by decide : 0 + 0 ≤ _)⟩)
  dsimp only [Pt.U, Pt.locs, Pt.cells, Pt.slots] at X1 l1 y1 z1 st1 hQ1
  subst l1 y1 z1
  obtain ⟨rfl, N1q, K1q, F2, F3, F4, F5, F6, F7⟩ := hQ1
  have N1 := Fr.app N0 N1q
  refine own_S (mkF m 7 #[rv a, iv x, iv y] []) (fun _ k => st1.trans k) ?_
  have K1 : Keep h0 T1.heap [a] := (Keep.refl h0 [a]).trans K1q (allS (Or.inl (List.mem_of_getElem? (i := 0) rfl)) all0)
  have Z1 : n0 ≤ T1.heap.size := Nat.le_trans Z0 K1q.1
  exact own_ret0 X1 hx hlk hret (hb hby d1_7) ⟨rfl, N1, K1, F2, F3, F4, F5, F6, F7⟩ (by decide) (by decide)
theorem d5_0 : decode prog_88_method_3_code 0 = .ok (.iload_n 1, 1) := by decide +kernel
theorem d5_1 : decode prog_88_method_3_code 1 = .ok (.ifCond .ge 17, 3) := by decide +kernel
theorem d5_18 : decode prog_88_method_3_code 18 = .ok (.new 1, 3) := by decide +kernel
theorem d5_21 : decode prog_88_method_3_code 21 = .ok (.dup, 1) := by decide +kernel
theorem d5_22 : decode prog_88_method_3_code 22 = .ok (.aload_n 0, 1) := by decide +kernel
theorem d5_23 : decode prog_88_method_3_code 23 = .ok (.getfield 21, 3) := by decide +kernel
theorem d5_26 : decode prog_88_method_3_code 26 = .ok (.aload_n 0, 1) := by decide +kernel
theorem d5_27 : decode prog_88_method_3_code 27 = .ok (.getfield 25, 3) := by decide +kernel
theorem d5_30 : decode prog_88_method_3_code 30 = .ok (.iload_n 1, 1) := by decide +kernel
theorem d5_31 : decode prog_88_method_3_code 31 = .ok (.invokespecial 3, 3) := by decide +kernel
theorem d5_34 : decode prog_88_method_3_code 34 = .ok (.areturn, 1) := by decide +kernel
theorem own_ef_at (m : MethodId) (y0 : Addr) (y1 : Int32) : entryFrame m #[(.ref y0), (.int y1)] 2 = mkF m 0 #[rv y0, iv y1] [] := by first | (simp [entryFrame, mkF, argsToLocals, Value.category]; done) | rfl
def own_Qat (Z : State) (a : Addr) (t : Int32) (x : Int32) (y : Int32) (h0 : Heap) (n0 : Nat) (v : Option Value) (h : Heap) (L : List Loc) : Prop := ∃ (r : Addr), v = some (.ref r) ∧ Fr n0 L ∧ Keep h0 h [] ∧ Exa Z h r "com/example/referee/referee/logic/ltl/Pointer" ∧ Fld Z h r "com/example/referee/referee/logic/ltl/Formula" "height" "I" (.int (1 : Int32)) ∧ Fld Z h r "com/example/referee/referee/logic/ltl/Formula" "size" "I" (.int (1 : Int32)) ∧ Fld Z h r "com/example/referee/referee/logic/ltl/Pointer" "component" "I" (.int x) ∧ Fld Z h r "com/example/referee/referee/logic/ltl/Pointer" "cell" "I" (.int y) ∧ Fld Z h r "com/example/referee/referee/logic/ltl/Pointer" "instance" "I" (.int t) ∧ h0.size ≤ r
set_option maxRecDepth 65536 in
set_option maxHeartbeats 40000000 in
theorem own_rmat (l : Launch) (Z : State) (a0 : Array Value) (hw : ∀ d ∈ tables_1, d.before a0 Z = true) (ws : List Jvm.Cond) (a : Addr) (t : Int32) (x : Int32) (y : Int32) (h0 : Heap) (n0 : Nat) (Z0 : n0 ≤ h0.size) (P0 : Fld Z h0 a "com/example/referee/referee/logic/ltl/Pointer" "component" "I" (.int x)) (P1 : Fld Z h0 a "com/example/referee/referee/logic/ltl/Pointer" "cell" "I" (.int y)) (ht0 : ¬ (t < (0 : Int32))) (hx0 : ¬ (x < (0 : Int32))) (hy0 : ¬ (y < (0 : Int32))) :
    MetFree l own_y3 (head1 (Jvm.Cond.code own_y3 prog_88_method_3_code 2 (some (.object "com/example/referee/referee/logic/ltl/Pointer")) :: ws) ({ frames := 3, cells := 1, slots := 5, locals := 42 } : Room)) (fun az Uz => az = #[(.ref a), (.int t)] ∧ Z.Warmed39 Uz.vm ∧ Uz.heap = h0) (fun _ _ _ _ _ => True) (fun _ U o U' => ∃ v L, o = .returned v ∧ own_Qat Z a t x y h0 n0 v U'.heap L ∧ FrameEnd U o U' L ({ frames := 3, cells := 1, slots := 5, locals := 42 } : Room).cells ({ frames := 3, cells := 1, slots := 5, locals := 42 } : Room).slots) := by
  refine MetFree.of_bodySF (plainFor_of_name own_pn_com_example_referee_referee_logic_ltl_Pointer) hisR ?_
  intro p e s m args below meth c s₁ Bd hml0 hP hK
  obtain ⟨rfl, hZ, hh⟩ := hP
  have hx := Bd.exec
  have hby := Bd.bytes
  have hml : c.maxLocals = 2 := hml0
  have hown : s.vm.findClass "com/example/referee/referee/logic/ltl/Pointer" = some m.cls := findClass_of_methodNamed Bd.named
  have hnm := (name_of_methodNamed Bd.named Bd.method).1
  have hlk : meth.locks = false := BodyLoose.notSynchronized Bd
  have hret := Bd.returns
  have X0 : Stand p l e ({ frames := 3, cells := 1, slots := 5, locals := 42 } : Room) s m #[(.ref a), (.int t)] below meth c s₁ [] 0 0 := Stand.of_body Bd
  have e0 : s₁.heap = h0 := by rw [← hh, Bd.state]; rfl
  have N0 := Fr.nil n0
  show own_E p e below (own_K s (own_Qat Z a t x y h0 n0) ({ frames := 3, cells := 1, slots := 5, locals := 42 } : Room).cells ({ frames := 3, cells := 1, slots := 5, locals := 42 } : Room).slots) s₁ (entryFrame m #[(.ref a), (.int t)] 2)
  refine own_S (mkF m 0 #[rv a, iv t] []) (fun _ k => castTop (own_ef_at m (a) (t)) k) ?_
  refine own_S (mkF m 1 #[rv a, iv t] [(.int t)]) (fun _ k => XS.iloadN X0.here hx rfl (hb hby d5_0) rfl k) ?_
  have hc1 : ¬ (t < (0 : Int32)) := ht0
  refine own_S (mkF m 18 #[rv a, iv t] []) (fun _ k => XS.ifYes X0.here hx rfl (pc0 := 1) (pc' := 18) rfl (hb hby d5_1) rfl ((if0 _ _).trans (flt hc1).2.1) (by decide) (by decide) k) ?_
  obtain ⟨T2, h2, X2, e2, E2, A2, D2, -, st2⟩ := newO X0 hx hZ hown (own_g hw (i := 33) rfl) (own_g hw (i := 2) rfl) (own_g hw (i := 3) rfl) e0 (g := (mkF m 18 #[rv a, iv t] [])) rfl (hb hby d5_18) (by decide) (by decide)
  obtain ⟨r, g2⟩ : ∃ z, z = h0.size := ⟨_, rfl⟩
  rw [← g2] at A2 D2 st2
  have n3 : a ≠ r := Nat.ne_of_lt (Nat.lt_of_lt_of_eq P0.lt g2.symm)
  have ge_r : n0 ≤ r := Nat.le_trans Z0 (Nat.le_of_eq g2.symm)
  have fr_r : h0.size ≤ r := Nat.le_trans (Keep.refl h0 []).1 (Nat.le_of_eq g2.symm)
  have K2 : Keep h0 h2 [] := (Keep.refl _ _).ext E2
  have F4 := P0.ext E2
  have F5 := P1.ext E2
  have Z2 : n0 ≤ h2.size := Nat.le_trans Z0 E2.1
  have F6 : Fld Z h2 r "com/example/referee/referee/logic/ltl/Formula" "height" "I" (.int (0 : Int32)) := D2 (Or.inr (own_g hw (i := 19) rfl)) (ty := .int) (by decide)
  have F7 : Fld Z h2 r "com/example/referee/referee/logic/ltl/Formula" "size" "I" (.int (0 : Int32)) := D2 (Or.inr (own_g hw (i := 21) rfl)) (ty := .int) (by decide)
  have F8 : Fld Z h2 r "com/example/referee/referee/logic/ltl/Pointer" "component" "I" (.int (0 : Int32)) := D2 (Or.inr (own_g hw (i := 23) rfl)) (ty := .int) (by decide)
  have F9 : Fld Z h2 r "com/example/referee/referee/logic/ltl/Pointer" "cell" "I" (.int (0 : Int32)) := D2 (Or.inr (own_g hw (i := 25) rfl)) (ty := .int) (by decide)
  have F10 : Fld Z h2 r "com/example/referee/referee/logic/ltl/Pointer" "instance" "I" (.int (0 : Int32)) := D2 (Or.inr (own_g hw (i := 27) rfl)) (ty := .int) (by decide)
  refine own_S (mkF m 21 #[rv a, iv t] [(.ref r)]) st2 ?_
  refine own_S (mkF m 22 #[rv a, iv t] [(.ref r), (.ref r)]) (fun _ k => XS.dup X2.here hx rfl (hb hby d5_21) rfl rfl k) ?_
  refine own_S (mkF m 23 #[rv a, iv t] [(.ref a), (.ref r), (.ref r)]) (fun _ k => XS.aloadN X2.here hx rfl (hb hby d5_22) rfl rfl k) ?_
  obtain ⟨T11, X11, e11, st11⟩ := getF X2 hx hZ hown (host := "") (Or.inl (own_g hw (i := 22) rfl)) Via.refl e2 F4 (g := (mkF m 23 #[rv a, iv t] [(.ref a), (.ref r), (.ref r)])) rfl rfl (hb hby d5_23)
  refine own_S (mkF m 26 #[rv a, iv t] [(.int x), (.ref r), (.ref r)]) st11 ?_
  refine own_S (mkF m 27 #[rv a, iv t] [(.ref a), (.int x), (.ref r), (.ref r)]) (fun _ k => XS.aloadN X11.here hx rfl (hb hby d5_26) rfl rfl k) ?_
  obtain ⟨T12, X12, e12, st12⟩ := getF X11 hx hZ hown (host := "") (Or.inl (own_g hw (i := 24) rfl)) Via.refl e11 F5 (g := (mkF m 27 #[rv a, iv t] [(.ref a), (.int x), (.ref r), (.ref r)])) rfl rfl (hb hby d5_27)
  refine own_S (mkF m 30 #[rv a, iv t] [(.int y), (.int x), (.ref r), (.ref r)]) st12 ?_
  refine own_S (mkF m 31 #[rv a, iv t] [(.int t), (.int y), (.int x), (.ref r), (.ref r)]) (fun _ k => XS.iloadN X12.here hx rfl (hb hby d5_30) rfl k) ?_
  obtain ⟨_, _, ⟨T13, L13, k13, n13⟩, -, X13, ⟨Lc13, hQ13, l13, y13, z13⟩, st13⟩ := X12.specialBack hx (y := own_y1) rfl hown (mvT hZ (own_g hw (i := 7) rfl)) (mvT hZ (own_g hw (i := 8) rfl)) (mvT hZ (own_g hw (i := 9) rfl)) (by decide) (backOf (W := 1) (own_rmp3 l Z a0 hw [] (r) (x) (y) (t) ((.int (0 : Int32))) ((.int (0 : Int32))) ((.int (0 : Int32))) ((.int (0 : Int32))) ((.int (0 : Int32))) h2 n0 Z2 A2 F6 F7 F8 F9 F10 ge_r hx0 hy0) hZ (own_g hw (i := 9) rfl) (own_g hw (i := 3) rfl) (by decide) (by decide)) (g := (mkF m 31 #[rv a, iv t] [(.int t), (.int y), (.int x), (.ref r), (.ref r)])) rfl (by rw [hml]; rfl) (Steps.refl _) (a := r) (argsL := [(.int x), (.int y), (.int t)]) (rest := [(.ref r)]) (lenOf own_pd__III_V rfl) rfl (by show 2 * 0 + _ ≤ _; exact Nat.le_of_eq rfl) (hb hby d5_31) (fun _ _ => ⟨rfl, e12, (by decide : 1 + 0 ≤ _), (by decide : 5 + 0 ≤ _)⟩)
  dsimp only [Pt.U, Pt.locs, Pt.cells, Pt.slots] at X13 l13 y13 z13 st13 hQ13
  subst l13 y13 z13
  obtain ⟨rfl, N13q, K13q, F14, F15, F16, F17, F18, F19⟩ := hQ13
  have N13 := Fr.app N0 N13q
  refine own_S (mkF m 34 #[rv a, iv t] [(.ref r)]) (fun _ k => st13.trans k) ?_
  have K13 : Keep h0 T13.heap [] := K2.trans K13q (allS (Or.inr fr_r) all0)
  have F20 := F4.keep K13q (ninS n3 nin0)
  have F21 := F5.keep K13q (ninS n3 nin0)
  have Z13 : n0 ≤ T13.heap.size := Nat.le_trans Z2 K13q.1
  exact own_ret X13 hx hlk (t := (.object "com/example/referee/referee/logic/ltl/Pointer")) hret rfl (Or.inr (Or.inr (Or.inr (Or.inr ⟨rfl, rfl, rfl⟩)))) (hb hby d5_34) ⟨r, rfl, N13, K13, F14, F15, F16, F17, F18, F19, fr_r⟩ (by decide) (by decide)
theorem d6_0 : decode prog_88_method_10_code 0 = .ok (.aload_n 1, 1) := by decide +kernel
theorem d6_1 : decode prog_88_method_10_code 1 = .ok (.instanceof 1, 3) := by decide +kernel
theorem d6_4 : decode prog_88_method_10_code 4 = .ok (.ifCond .eq 45, 3) := by decide +kernel
theorem d6_7 : decode prog_88_method_10_code 7 = .ok (.aload_n 1, 1) := by decide +kernel
theorem d6_8 : decode prog_88_method_10_code 8 = .ok (.checkcast 1, 3) := by decide +kernel
theorem d6_11 : decode prog_88_method_10_code 11 = .ok (.astore_n 2, 1) := by decide +kernel
theorem d6_12 : decode prog_88_method_10_code 12 = .ok (.aload_n 0, 1) := by decide +kernel
theorem d6_13 : decode prog_88_method_10_code 13 = .ok (.getfield 21, 3) := by decide +kernel
theorem d6_16 : decode prog_88_method_10_code 16 = .ok (.aload_n 2, 1) := by decide +kernel
theorem d6_17 : decode prog_88_method_10_code 17 = .ok (.getfield 21, 3) := by decide +kernel
theorem d6_20 : decode prog_88_method_10_code 20 = .ok (.if_icmp .ne 29, 3) := by decide +kernel
theorem d6_23 : decode prog_88_method_10_code 23 = .ok (.aload_n 0, 1) := by decide +kernel
theorem d6_24 : decode prog_88_method_10_code 24 = .ok (.getfield 25, 3) := by decide +kernel
theorem d6_27 : decode prog_88_method_10_code 27 = .ok (.aload_n 2, 1) := by decide +kernel
theorem d6_28 : decode prog_88_method_10_code 28 = .ok (.getfield 25, 3) := by decide +kernel
theorem d6_31 : decode prog_88_method_10_code 31 = .ok (.if_icmp .ne 18, 3) := by decide +kernel
theorem d6_34 : decode prog_88_method_10_code 34 = .ok (.aload_n 0, 1) := by decide +kernel
theorem d6_35 : decode prog_88_method_10_code 35 = .ok (.getfield 28, 3) := by decide +kernel
theorem d6_38 : decode prog_88_method_10_code 38 = .ok (.aload_n 2, 1) := by decide +kernel
theorem d6_39 : decode prog_88_method_10_code 39 = .ok (.getfield 28, 3) := by decide +kernel
theorem d6_42 : decode prog_88_method_10_code 42 = .ok (.if_icmp .ne 7, 3) := by decide +kernel
theorem d6_45 : decode prog_88_method_10_code 45 = .ok (.iconst 1, 1) := by decide +kernel
theorem d6_46 : decode prog_88_method_10_code 46 = .ok (.goto 4, 3) := by decide +kernel
theorem d6_49 : decode prog_88_method_10_code 49 = .ok (.iconst 0, 1) := by decide +kernel
theorem d6_50 : decode prog_88_method_10_code 50 = .ok (.ireturn, 1) := by decide +kernel
theorem own_ef_eq (m : MethodId) (y0 : Addr) (y1 : Addr) : entryFrame m #[(.ref y0), (.ref y1)] 3 = mkF m 0 #[rv y0, rv y1, .unset] [] := by first | (simp [entryFrame, mkF, argsToLocals, Value.category]; done) | rfl
def own_Qeq (Z : State) (a : Addr) (b : Addr) (x1 : Int32) (y1 : Int32) (z1 : Int32) (x2 : Int32) (y2 : Int32) (z2 : Int32) (h0 : Heap) (n0 : Nat) (v : Option Value) (h : Heap) (L : List Loc) : Prop := v = some (.int (if x1 = x2 ∧ y1 = y2 ∧ z1 = z2 then (1 : Int32) else (0 : Int32))) ∧ Fr n0 L ∧ h = h0
set_option maxRecDepth 65536 in
set_option maxHeartbeats 40000000 in
theorem own_rmeq (l : Launch) (Z : State) (a0 : Array Value) (hw : ∀ d ∈ tables_1, d.before a0 Z = true) (ws : List Jvm.Cond) (a : Addr) (b : Addr) (x1 : Int32) (y1 : Int32) (z1 : Int32) (x2 : Int32) (y2 : Int32) (z2 : Int32) (h0 : Heap) (n0 : Nat) (Z0 : n0 ≤ h0.size) (P0 : Exa Z h0 b "com/example/referee/referee/logic/ltl/Pointer") (P1 : Fld Z h0 a "com/example/referee/referee/logic/ltl/Pointer" "component" "I" (.int x1)) (P2 : Fld Z h0 a "com/example/referee/referee/logic/ltl/Pointer" "cell" "I" (.int y1)) (P3 : Fld Z h0 a "com/example/referee/referee/logic/ltl/Pointer" "instance" "I" (.int z1)) (P4 : Fld Z h0 b "com/example/referee/referee/logic/ltl/Pointer" "component" "I" (.int x2)) (P5 : Fld Z h0 b "com/example/referee/referee/logic/ltl/Pointer" "cell" "I" (.int y2)) (P6 : Fld Z h0 b "com/example/referee/referee/logic/ltl/Pointer" "instance" "I" (.int z2)) :
    MetFree l own_y4 (head1 (Jvm.Cond.code own_y4 prog_88_method_10_code 3 (some .boolean) :: ws) ({ frames := 0, cells := 0, slots := 0, locals := 0 } : Room)) (fun az Uz => az = #[(.ref a), (.ref b)] ∧ Z.Warmed39 Uz.vm ∧ Uz.heap = h0) (fun _ _ _ _ _ => True) (fun _ U o U' => ∃ v L, o = .returned v ∧ own_Qeq Z a b x1 y1 z1 x2 y2 z2 h0 n0 v U'.heap L ∧ FrameEnd U o U' L ({ frames := 0, cells := 0, slots := 0, locals := 0 } : Room).cells ({ frames := 0, cells := 0, slots := 0, locals := 0 } : Room).slots) := by
  refine MetFree.of_bodySF (plainFor_of_name own_pn_com_example_referee_referee_logic_ltl_Pointer) hisR ?_
  intro p e s m args below meth c s₁ Bd hml0 hP hK
  obtain ⟨rfl, hZ, hh⟩ := hP
  have hx := Bd.exec
  have hby := Bd.bytes
  have hml : c.maxLocals = 3 := hml0
  have hown : s.vm.findClass "com/example/referee/referee/logic/ltl/Pointer" = some m.cls := findClass_of_methodNamed Bd.named
  have hnm := (name_of_methodNamed Bd.named Bd.method).1
  have hlk : meth.locks = false := BodyLoose.notSynchronized Bd
  have hret := Bd.returns
  have X0 : Stand p l e ({ frames := 0, cells := 0, slots := 0, locals := 0 } : Room) s m #[(.ref a), (.ref b)] below meth c s₁ [] 0 0 := Stand.of_body Bd
  have e0 : s₁.heap = h0 := by rw [← hh, Bd.state]; rfl
  have N0 := Fr.nil n0
  show own_E p e below (own_K s (own_Qeq Z a b x1 y1 z1 x2 y2 z2 h0 n0) ({ frames := 0, cells := 0, slots := 0, locals := 0 } : Room).cells ({ frames := 0, cells := 0, slots := 0, locals := 0 } : Room).slots) s₁ (entryFrame m #[(.ref a), (.ref b)] 3)
  refine own_S (mkF m 0 #[rv a, rv b, .unset] []) (fun _ k => castTop (own_ef_eq m (a) (b)) k) ?_
  refine own_S (mkF m 1 #[rv a, rv b, .unset] [(.ref b)]) (fun _ k => XS.aloadN X0.here hx rfl (hb hby d6_0) rfl rfl k) ?_
  obtain ⟨T1, X1, e1, st1⟩ := instY X0 hx hZ hown (own_g hw (i := 33) rfl) e0 (Ins.self P0) (g := (mkF m 1 #[rv a, rv b, .unset] [(.ref b)])) rfl rfl (hb hby d6_1)
  refine own_S (mkF m 4 #[rv a, rv b, .unset] [(.int 1)]) st1 ?_
  have hc2 : ¬ ((1 : Int32) = (0 : Int32)) := by decide
  refine own_S (mkF m 7 #[rv a, rv b, .unset] []) (fun _ k => XS.ifNo X1.here hx rfl (hb hby d6_4) rfl ((if0 _ _).trans (feq hc2).1) k) ?_
  refine own_S (mkF m 8 #[rv a, rv b, .unset] [(.ref b)]) (fun _ k => XS.aloadN X1.here hx rfl (hb hby d6_7) rfl rfl k) ?_
  obtain ⟨T3, X3, e3, st3⟩ := castY X1 hx hZ hown (own_g hw (i := 33) rfl) e1 (Ins.self P0) (g := (mkF m 8 #[rv a, rv b, .unset] [(.ref b)])) rfl rfl (hb hby d6_8)
  refine own_S (mkF m 11 #[rv a, rv b, .unset] [(.ref b)]) st3 ?_
  refine own_S (mkF m 12 #[rv a, rv b, rv b] []) (fun _ k => XS.astoreN X3.here hx rfl (hb hby d6_11) rfl rfl (l' := #[rv a, rv b, rv b]) rfl k) ?_
  refine own_S (mkF m 13 #[rv a, rv b, rv b] [(.ref a)]) (fun _ k => XS.aloadN X3.here hx rfl (hb hby d6_12) rfl rfl k) ?_
  obtain ⟨T4, X4, e4, st4⟩ := getF X3 hx hZ hown (host := "") (Or.inl (own_g hw (i := 22) rfl)) Via.refl e3 P1 (g := (mkF m 13 #[rv a, rv b, rv b] [(.ref a)])) rfl rfl (hb hby d6_13)
  refine own_S (mkF m 16 #[rv a, rv b, rv b] [(.int x1)]) st4 ?_
  refine own_S (mkF m 17 #[rv a, rv b, rv b] [(.ref b), (.int x1)]) (fun _ k => XS.aloadN X4.here hx rfl (hb hby d6_16) rfl rfl k) ?_
  obtain ⟨T5, X5, e5, st5⟩ := getF X4 hx hZ hown (host := "") (Or.inl (own_g hw (i := 22) rfl)) Via.refl e4 P4 (g := (mkF m 17 #[rv a, rv b, rv b] [(.ref b), (.int x1)])) rfl rfl (hb hby d6_17)
  refine own_S (mkF m 20 #[rv a, rv b, rv b] [(.int x2), (.int x1)]) st5 ?_
  by_cases h1 : x1 = x2
  · -- x1 = x2
    refine own_S (mkF m 23 #[rv a, rv b, rv b] []) (fun _ k => XS.icmpNo X5.here hx rfl (hb hby d6_20) rfl (teq h1).2 k) ?_
    refine own_S (mkF m 24 #[rv a, rv b, rv b] [(.ref a)]) (fun _ k => XS.aloadN X5.here hx rfl (hb hby d6_23) rfl rfl k) ?_
    obtain ⟨T6, X6, e6, st6⟩ := getF X5 hx hZ hown (host := "") (Or.inl (own_g hw (i := 24) rfl)) Via.refl e5 P2 (g := (mkF m 24 #[rv a, rv b, rv b] [(.ref a)])) rfl rfl (hb hby d6_24)
    refine own_S (mkF m 27 #[rv a, rv b, rv b] [(.int y1)]) st6 ?_
    refine own_S (mkF m 28 #[rv a, rv b, rv b] [(.ref b), (.int y1)]) (fun _ k => XS.aloadN X6.here hx rfl (hb hby d6_27) rfl rfl k) ?_
    obtain ⟨T7, X7, e7, st7⟩ := getF X6 hx hZ hown (host := "") (Or.inl (own_g hw (i := 24) rfl)) Via.refl e6 P5 (g := (mkF m 28 #[rv a, rv b, rv b] [(.ref b), (.int y1)])) rfl rfl (hb hby d6_28)
    refine own_S (mkF m 31 #[rv a, rv b, rv b] [(.int y2), (.int y1)]) st7 ?_
    by_cases h2 : y1 = y2
    · -- y1 = y2
      refine own_S (mkF m 34 #[rv a, rv b, rv b] []) (fun _ k => XS.icmpNo X7.here hx rfl (hb hby d6_31) rfl (teq h2).2 k) ?_
      refine own_S (mkF m 35 #[rv a, rv b, rv b] [(.ref a)]) (fun _ k => XS.aloadN X7.here hx rfl (hb hby d6_34) rfl rfl k) ?_
      obtain ⟨T8, X8, e8, st8⟩ := getF X7 hx hZ hown (host := "") (Or.inl (own_g hw (i := 26) rfl)) Via.refl e7 P3 (g := (mkF m 35 #[rv a, rv b, rv b] [(.ref a)])) rfl rfl (hb hby d6_35)
      refine own_S (mkF m 38 #[rv a, rv b, rv b] [(.int z1)]) st8 ?_
      refine own_S (mkF m 39 #[rv a, rv b, rv b] [(.ref b), (.int z1)]) (fun _ k => XS.aloadN X8.here hx rfl (hb hby d6_38) rfl rfl k) ?_
      obtain ⟨T9, X9, e9, st9⟩ := getF X8 hx hZ hown (host := "") (Or.inl (own_g hw (i := 26) rfl)) Via.refl e8 P6 (g := (mkF m 39 #[rv a, rv b, rv b] [(.ref b), (.int z1)])) rfl rfl (hb hby d6_39)
      refine own_S (mkF m 42 #[rv a, rv b, rv b] [(.int z2), (.int z1)]) st9 ?_
      by_cases h3 : z1 = z2
      · -- z1 = z2
        refine own_S (mkF m 45 #[rv a, rv b, rv b] []) (fun _ k => XS.icmpNo X9.here hx rfl (hb hby d6_42) rfl (teq h3).2 k) ?_
        refine own_S (mkF m 46 #[rv a, rv b, rv b] [(.int 1)]) (fun _ k => XS.iconst X9.here hx rfl (hb hby d6_45) k) ?_
        refine own_S (mkF m 50 #[rv a, rv b, rv b] [(.int 1)]) (fun _ k => XS.goto X9.here hx rfl (pc0 := 46) (pc' := 50) rfl (hb hby d6_46) (by decide) (by decide) k) ?_
        exact own_retN X9 hx hlk (t := .boolean) hret (by simp) (hb hby d6_50) (by rw [e9]; exact ⟨(by rw [if_pos ⟨h1, h2, h3⟩]; rfl), N0, rfl⟩) (by decide) (by decide)
      · -- not z1 = z2
        refine own_S (mkF m 49 #[rv a, rv b, rv b] []) (fun _ k => XS.icmpYes X9.here hx rfl (pc0 := 42) (pc' := 49) rfl (hb hby d6_42) rfl (feq h3).2 (by decide) (by decide) k) ?_
        refine own_S (mkF m 50 #[rv a, rv b, rv b] [(.int 0)]) (fun _ k => XS.iconst X9.here hx rfl (hb hby d6_49) k) ?_
        exact own_retN X9 hx hlk (t := .boolean) hret (by simp) (hb hby d6_50) (by rw [e9]; exact ⟨(by rw [if_neg (fun q => h3 q.2.2)]; rfl), N0, rfl⟩) (by decide) (by decide)
    · -- not y1 = y2
      refine own_S (mkF m 49 #[rv a, rv b, rv b] []) (fun _ k => XS.icmpYes X7.here hx rfl (pc0 := 31) (pc' := 49) rfl (hb hby d6_31) rfl (feq h2).2 (by decide) (by decide) k) ?_
      refine own_S (mkF m 50 #[rv a, rv b, rv b] [(.int 0)]) (fun _ k => XS.iconst X7.here hx rfl (hb hby d6_49) k) ?_
      exact own_retN X7 hx hlk (t := .boolean) hret (by simp) (hb hby d6_50) (by rw [e7]; exact ⟨(by rw [if_neg (fun q => h2 q.2.1)]; rfl), N0, rfl⟩) (by decide) (by decide)
  · -- not x1 = x2
    refine own_S (mkF m 49 #[rv a, rv b, rv b] []) (fun _ k => XS.icmpYes X5.here hx rfl (pc0 := 20) (pc' := 49) rfl (hb hby d6_20) rfl (feq h1).2 (by decide) (by decide) k) ?_
    refine own_S (mkF m 50 #[rv a, rv b, rv b] [(.int 0)]) (fun _ k => XS.iconst X5.here hx rfl (hb hby d6_49) k) ?_
    exact own_retN X5 hx hlk (t := .boolean) hret (by simp) (hb hby d6_50) (by rw [e5]; exact ⟨(by rw [if_neg (fun q => h1 q.1)]; rfl), N0, rfl⟩) (by decide) (by decide)
theorem own_ef_en (m : MethodId) (y0 : Addr) : entryFrame m #[(.ref y0), .null] 3 = mkF m 0 #[rv y0, .val .null, .unset] [] := by first | (simp [entryFrame, mkF, argsToLocals, Value.category]; done) | rfl
def own_Qen (Z : State) (a : Addr) (h0 : Heap) (n0 : Nat) (v : Option Value) (h : Heap) (L : List Loc) : Prop := v = some (.int (0 : Int32)) ∧ Fr n0 L ∧ h = h0
set_option maxRecDepth 65536 in
set_option maxHeartbeats 40000000 in
theorem own_rmen (l : Launch) (Z : State) (a0 : Array Value) (hw : ∀ d ∈ tables_1, d.before a0 Z = true) (ws : List Jvm.Cond) (a : Addr) (h0 : Heap) (n0 : Nat) (Z0 : n0 ≤ h0.size)  :
    MetFree l own_y4 (head1 (Jvm.Cond.code own_y4 prog_88_method_10_code 3 (some .boolean) :: ws) ({ frames := 0, cells := 0, slots := 0, locals := 0 } : Room)) (fun az Uz => az = #[(.ref a), .null] ∧ Z.Warmed39 Uz.vm ∧ Uz.heap = h0) (fun _ _ _ _ _ => True) (fun _ U o U' => ∃ v L, o = .returned v ∧ own_Qen Z a h0 n0 v U'.heap L ∧ FrameEnd U o U' L ({ frames := 0, cells := 0, slots := 0, locals := 0 } : Room).cells ({ frames := 0, cells := 0, slots := 0, locals := 0 } : Room).slots) := by
  refine MetFree.of_bodySF (plainFor_of_name own_pn_com_example_referee_referee_logic_ltl_Pointer) hisR ?_
  intro p e s m args below meth c s₁ Bd hml0 hP hK
  obtain ⟨rfl, hZ, hh⟩ := hP
  have hx := Bd.exec
  have hby := Bd.bytes
  have hml : c.maxLocals = 3 := hml0
  have hown : s.vm.findClass "com/example/referee/referee/logic/ltl/Pointer" = some m.cls := findClass_of_methodNamed Bd.named
  have hnm := (name_of_methodNamed Bd.named Bd.method).1
  have hlk : meth.locks = false := BodyLoose.notSynchronized Bd
  have hret := Bd.returns
  have X0 : Stand p l e ({ frames := 0, cells := 0, slots := 0, locals := 0 } : Room) s m #[(.ref a), .null] below meth c s₁ [] 0 0 := Stand.of_body Bd
  have e0 : s₁.heap = h0 := by rw [← hh, Bd.state]; rfl
  have N0 := Fr.nil n0
  show own_E p e below (own_K s (own_Qen Z a h0 n0) ({ frames := 0, cells := 0, slots := 0, locals := 0 } : Room).cells ({ frames := 0, cells := 0, slots := 0, locals := 0 } : Room).slots) s₁ (entryFrame m #[(.ref a), .null] 3)
  refine own_S (mkF m 0 #[rv a, .val .null, .unset] []) (fun _ k => castTop (own_ef_en m (a)) k) ?_
  refine own_S (mkF m 1 #[rv a, .val .null, .unset] [.null]) (fun _ k => XS.aloadN X0.here hx rfl (hb hby d6_0) rfl rfl k) ?_
  refine own_S (mkF m 4 #[rv a, .val .null, .unset] [(.int 0)]) (fun _ k => X0.instanceofNull hx (g := (mkF m 1 #[rv a, .val .null, .unset] [.null])) rfl rfl (hb hby d6_1) _ k) ?_
  have hc1 : (0 : Int32) = (0 : Int32) := by decide
  refine own_S (mkF m 49 #[rv a, .val .null, .unset] []) (fun _ k => XS.ifYes X0.here hx rfl (pc0 := 4) (pc' := 49) rfl (hb hby d6_4) rfl ((if0 _ _).trans (teq hc1).1) (by decide) (by decide) k) ?_
  refine own_S (mkF m 50 #[rv a, .val .null, .unset] [(.int 0)]) (fun _ k => XS.iconst X0.here hx rfl (hb hby d6_49) k) ?_
  exact own_retN X0 hx hlk (t := .boolean) hret (by simp) (hb hby d6_50) (by rw [e0]; exact ⟨rfl, N0, rfl⟩) (by decide) (by decide)
theorem own_ef_ec (m : MethodId) (y0 : Addr) (y1 : Addr) : entryFrame m #[(.ref y0), (.ref y1)] 3 = mkF m 0 #[rv y0, rv y1, .unset] [] := by first | (simp [entryFrame, mkF, argsToLocals, Value.category]; done) | rfl
def own_Qec (Z : State) (a : Addr) (b : Addr) (h0 : Heap) (n0 : Nat) (v : Option Value) (h : Heap) (L : List Loc) : Prop := v = some (.int (0 : Int32)) ∧ Fr n0 L ∧ h = h0
set_option maxRecDepth 65536 in
set_option maxHeartbeats 40000000 in
theorem own_rmec (l : Launch) (Z : State) (a0 : Array Value) (hw : ∀ d ∈ tables_1, d.before a0 Z = true) (ws : List Jvm.Cond) (a : Addr) (b : Addr) (h0 : Heap) (n0 : Nat) (Z0 : n0 ≤ h0.size) (P0 : Exa Z h0 b "com/example/referee/referee/logic/ltl/Constant") :
    MetFree l own_y4 (head1 (Jvm.Cond.code own_y4 prog_88_method_10_code 3 (some .boolean) :: ws) ({ frames := 0, cells := 0, slots := 0, locals := 0 } : Room)) (fun az Uz => az = #[(.ref a), (.ref b)] ∧ Z.Warmed39 Uz.vm ∧ Uz.heap = h0) (fun _ _ _ _ _ => True) (fun _ U o U' => ∃ v L, o = .returned v ∧ own_Qec Z a b h0 n0 v U'.heap L ∧ FrameEnd U o U' L ({ frames := 0, cells := 0, slots := 0, locals := 0 } : Room).cells ({ frames := 0, cells := 0, slots := 0, locals := 0 } : Room).slots) := by
  refine MetFree.of_bodySF (plainFor_of_name own_pn_com_example_referee_referee_logic_ltl_Pointer) hisR ?_
  intro p e s m args below meth c s₁ Bd hml0 hP hK
  obtain ⟨rfl, hZ, hh⟩ := hP
  have hx := Bd.exec
  have hby := Bd.bytes
  have hml : c.maxLocals = 3 := hml0
  have hown : s.vm.findClass "com/example/referee/referee/logic/ltl/Pointer" = some m.cls := findClass_of_methodNamed Bd.named
  have hnm := (name_of_methodNamed Bd.named Bd.method).1
  have hlk : meth.locks = false := BodyLoose.notSynchronized Bd
  have hret := Bd.returns
  have X0 : Stand p l e ({ frames := 0, cells := 0, slots := 0, locals := 0 } : Room) s m #[(.ref a), (.ref b)] below meth c s₁ [] 0 0 := Stand.of_body Bd
  have e0 : s₁.heap = h0 := by rw [← hh, Bd.state]; rfl
  have N0 := Fr.nil n0
  show own_E p e below (own_K s (own_Qec Z a b h0 n0) ({ frames := 0, cells := 0, slots := 0, locals := 0 } : Room).cells ({ frames := 0, cells := 0, slots := 0, locals := 0 } : Room).slots) s₁ (entryFrame m #[(.ref a), (.ref b)] 3)
  refine own_S (mkF m 0 #[rv a, rv b, .unset] []) (fun _ k => castTop (own_ef_ec m (a) (b)) k) ?_
  refine own_S (mkF m 1 #[rv a, rv b, .unset] [(.ref b)]) (fun _ k => XS.aloadN X0.here hx rfl (hb hby d6_0) rfl rfl k) ?_
  obtain ⟨T1, X1, e1, st1⟩ := instNo X0 hx hZ hown (own_g hw (i := 33) rfl) e0 P0 (own_NSn (own_g hw (i := 43) rfl) (own_g hw (i := 2) rfl) (NS.step (own_g hw (i := 43) rfl) (NS.step (own_g hw (i := 44) rfl) (own_NSr (own_g hw (i := 45) rfl) (own_g hw (i := 2) rfl) (by decide)) (by decide)) (by decide))) (g := (mkF m 1 #[rv a, rv b, .unset] [(.ref b)])) rfl rfl (hb hby d6_1)
  refine own_S (mkF m 4 #[rv a, rv b, .unset] [(.int 0)]) st1 ?_
  have hc2 : (0 : Int32) = (0 : Int32) := by decide
  refine own_S (mkF m 49 #[rv a, rv b, .unset] []) (fun _ k => XS.ifYes X1.here hx rfl (pc0 := 4) (pc' := 49) rfl (hb hby d6_4) rfl ((if0 _ _).trans (teq hc2).1) (by decide) (by decide) k) ?_
  refine own_S (mkF m 50 #[rv a, rv b, .unset] [(.int 0)]) (fun _ k => XS.iconst X1.here hx rfl (hb hby d6_49) k) ?_
  exact own_retN X1 hx hlk (t := .boolean) hret (by simp) (hb hby d6_50) (by rw [e1]; exact ⟨rfl, N0, rfl⟩) (by decide) (by decide)
theorem own_pd__Ljava_lang_Object__Z : parseMethodDescriptor "(Ljava/lang/Object;)Z" = some ⟨[(.object "java/lang/Object")], (some .boolean)⟩ := by decide +kernel
theorem own_pd__I_Lcom_example_referee_referee_logic_ltl_Pointer_ : parseMethodDescriptor "(I)Lcom/example/referee/referee/logic/ltl/Pointer;" = some ⟨[.int], (some (.object "com/example/referee/referee/logic/ltl/Pointer"))⟩ := by decide +kernel
theorem own_pn_com_example_referee_referee_logic_ltl_PointerEqualsPinLaw : plainName "com/example/referee/referee/logic/ltl/PointerEqualsPinLaw" = true := by first | (simp [plainName, overriddenIn]; done) | decide +kernel
theorem own_ef_law (m : MethodId) (y0 : Int32) (y1 : Int32) (y2 : Int32) (y3 : Int32) (y4 : Int32) (y5 : Int32) : entryFrame m #[(.int y0), (.int y1), (.int y2), (.int y3), (.int y4), (.int y5)] maxLocals = mkF m 0 #[iv y0, iv y1, iv y2, iv y3, iv y4, iv y5, .unset, .unset, .unset, .unset, .unset, .unset, .unset, .unset, .unset, .unset, .unset, .unset, .unset, .unset] [] := by first | (simp [entryFrame, mkF, argsToLocals, Value.category, maxLocals]; done) | rfl
def own_Qlaw (Z : State) (aa : Int32) (bb : Int32) (sx : Int32) (ddd : Int32) (ee : Int32) (md : Int32) (ct : Addr) (h0 : Heap) (n0 : Nat) (v : Option Value) (h : Heap) (L : List Loc) : Prop := v = some (.int 1) ∧ Fr n0 L ∧ True
set_option maxRecDepth 65536 in
set_option maxHeartbeats 40000000 in
theorem own_rmlaw (l : Launch) (Z : State) (a0 : Array Value) (hw : ∀ d ∈ tables_1, d.before a0 Z = true) (ws : List Jvm.Cond) (aa : Int32) (bb : Int32) (sx : Int32) (ddd : Int32) (ee : Int32) (md : Int32) (ct : Addr) (h0 : Heap) (n0 : Nat) (Z0 : n0 ≤ h0.size) (P0 : Sta Z h0 "com/example/referee/referee/logic/ltl/Constant" "TRUE" "Lcom/example/referee/referee/logic/ltl/Constant;" (.ref ct)) (P1 : Exa Z h0 ct "com/example/referee/referee/logic/ltl/Constant") :
    MetFree l x (head1 (Jvm.Cond.code x code maxLocals ret :: ws) room_1) (fun az Uz => az = #[(.int aa), (.int bb), (.int sx), (.int ddd), (.int ee), (.int md)] ∧ Z.Warmed39 Uz.vm ∧ Uz.heap = h0) (fun _ _ _ _ _ => True) (fun _ U o U' => ∃ v L, o = .returned v ∧ own_Qlaw Z aa bb sx ddd ee md ct h0 n0 v U'.heap L ∧ FrameEnd U o U' L room_1.cells room_1.slots) := by
  refine MetFree.of_bodySF (plainFor_of_name own_pn_com_example_referee_referee_logic_ltl_PointerEqualsPinLaw) hisR ?_
  intro p e s m args below meth c s₁ Bd hml0 hP hK
  obtain ⟨rfl, hZ, hh⟩ := hP
  have hx := Bd.exec
  have hby := Bd.bytes
  have hml : c.maxLocals = 20 := hml0
  have hown : s.vm.findClass "com/example/referee/referee/logic/ltl/PointerEqualsPinLaw" = some m.cls := findClass_of_methodNamed Bd.named
  have hnm := (name_of_methodNamed Bd.named Bd.method).1
  have hlk : meth.locks = false := BodyLoose.notSynchronized Bd
  have hret := Bd.returns
  have X0 : Stand p l e room_1 s m #[(.int aa), (.int bb), (.int sx), (.int ddd), (.int ee), (.int md)] below meth c s₁ [] 0 0 := Stand.of_body Bd
  have e0 : s₁.heap = h0 := by rw [← hh, Bd.state]; rfl
  have N0 := Fr.nil n0
  show own_E p e below (own_K s (own_Qlaw Z aa bb sx ddd ee md ct h0 n0) room_1.cells room_1.slots) s₁ (entryFrame m #[(.int aa), (.int bb), (.int sx), (.int ddd), (.int ee), (.int md)] maxLocals)
  refine own_S (mkF m 0 #[iv aa, iv bb, iv sx, iv ddd, iv ee, iv md, .unset, .unset, .unset, .unset, .unset, .unset, .unset, .unset, .unset, .unset, .unset, .unset, .unset, .unset] []) (fun _ k => castTop (own_ef_law m (aa) (bb) (sx) (ddd) (ee) (md)) k) ?_
  refine own_S (mkF m 1 #[iv aa, iv bb, iv sx, iv ddd, iv ee, iv md, .unset, .unset, .unset, .unset, .unset, .unset, .unset, .unset, .unset, .unset, .unset, .unset, .unset, .unset] [(.int aa)]) (fun _ k => XS.iloadN X0.here hx rfl (hb hby at_0) rfl k) ?_
  refine own_S (mkF m 3 #[iv aa, iv bb, iv sx, iv ddd, iv ee, iv md, .unset, .unset, .unset, .unset, .unset, .unset, .unset, .unset, .unset, .unset, .unset, .unset, .unset, .unset] [(.int 2147483647), (.int aa)]) (fun _ k => X0.ldcInt hx hown (mvT hZ (own_g hw (i := 0) rfl)) (g := (mkF m 1 #[iv aa, iv bb, iv sx, iv ddd, iv ee, iv md, .unset, .unset, .unset, .unset, .unset, .unset, .unset, .unset, .unset, .unset, .unset, .unset, .unset, .unset] [(.int aa)])) rfl (hb hby at_1) _ k) ?_
  refine own_S (mkF m 4 #[iv aa, iv bb, iv sx, iv ddd, iv ee, iv md, .unset, .unset, .unset, .unset, .unset, .unset, .unset, .unset, .unset, .unset, .unset, .unset, .unset, .unset] [(.int (aa &&& (2147483647 : Int32)))]) (fun _ k => XS.iand X0.here hx rfl (hb hby at_3) rfl k) ?_
  refine own_S (mkF m 6 #[iv aa, iv bb, iv sx, iv ddd, iv ee, iv md, iv (aa &&& (2147483647 : Int32)), .unset, .unset, .unset, .unset, .unset, .unset, .unset, .unset, .unset, .unset, .unset, .unset, .unset] []) (fun _ k => XS.istore X0.here hx rfl (hb hby at_4) rfl (l' := #[iv aa, iv bb, iv sx, iv ddd, iv ee, iv md, iv (aa &&& (2147483647 : Int32)), .unset, .unset, .unset, .unset, .unset, .unset, .unset, .unset, .unset, .unset, .unset, .unset, .unset]) rfl k) ?_
  obtain ⟨c1, h_c1⟩ : ∃ z : Int32, z = (aa &&& (2147483647 : Int32)) := ⟨_, rfl⟩
  refine own_S (T' := s₁) (mkF m 6 #[iv aa, iv bb, iv sx, iv ddd, iv ee, iv md, iv c1, .unset, .unset, .unset, .unset, .unset, .unset, .unset, .unset, .unset, .unset, .unset, .unset, .unset] []) (fun _ k => by subst h_c1; exact k) ?_
  have n_c1 : ¬ (c1 < (0 : Int32)) := by rw [h_c1]; exact own_nn aa
  refine own_S (mkF m 7 #[iv aa, iv bb, iv sx, iv ddd, iv ee, iv md, iv c1, .unset, .unset, .unset, .unset, .unset, .unset, .unset, .unset, .unset, .unset, .unset, .unset, .unset] [(.int bb)]) (fun _ k => XS.iloadN X0.here hx rfl (hb hby at_6) rfl k) ?_
  refine own_S (mkF m 9 #[iv aa, iv bb, iv sx, iv ddd, iv ee, iv md, iv c1, .unset, .unset, .unset, .unset, .unset, .unset, .unset, .unset, .unset, .unset, .unset, .unset, .unset] [(.int 2147483647), (.int bb)]) (fun _ k => X0.ldcInt hx hown (mvT hZ (own_g hw (i := 0) rfl)) (g := (mkF m 7 #[iv aa, iv bb, iv sx, iv ddd, iv ee, iv md, iv c1, .unset, .unset, .unset, .unset, .unset, .unset, .unset, .unset, .unset, .unset, .unset, .unset, .unset] [(.int bb)])) rfl (hb hby at_7) _ k) ?_
  refine own_S (mkF m 10 #[iv aa, iv bb, iv sx, iv ddd, iv ee, iv md, iv c1, .unset, .unset, .unset, .unset, .unset, .unset, .unset, .unset, .unset, .unset, .unset, .unset, .unset] [(.int (bb &&& (2147483647 : Int32)))]) (fun _ k => XS.iand X0.here hx rfl (hb hby at_9) rfl k) ?_
  refine own_S (mkF m 12 #[iv aa, iv bb, iv sx, iv ddd, iv ee, iv md, iv c1, iv (bb &&& (2147483647 : Int32)), .unset, .unset, .unset, .unset, .unset, .unset, .unset, .unset, .unset, .unset, .unset, .unset] []) (fun _ k => XS.istore X0.here hx rfl (hb hby at_10) rfl (l' := #[iv aa, iv bb, iv sx, iv ddd, iv ee, iv md, iv c1, iv (bb &&& (2147483647 : Int32)), .unset, .unset, .unset, .unset, .unset, .unset, .unset, .unset, .unset, .unset, .unset, .unset]) rfl k) ?_
  obtain ⟨k1, h_k1⟩ : ∃ z : Int32, z = (bb &&& (2147483647 : Int32)) := ⟨_, rfl⟩
  refine own_S (T' := s₁) (mkF m 12 #[iv aa, iv bb, iv sx, iv ddd, iv ee, iv md, iv c1, iv k1, .unset, .unset, .unset, .unset, .unset, .unset, .unset, .unset, .unset, .unset, .unset, .unset] []) (fun _ k => by subst h_k1; exact k) ?_
  have n_k1 : ¬ (k1 < (0 : Int32)) := by rw [h_k1]; exact own_nn bb
  refine own_S (mkF m 14 #[iv aa, iv bb, iv sx, iv ddd, iv ee, iv md, iv c1, iv k1, .unset, .unset, .unset, .unset, .unset, .unset, .unset, .unset, .unset, .unset, .unset, .unset] [(.int md)]) (fun _ k => XS.iload X0.here hx rfl (hb hby at_12) rfl k) ?_
  refine own_S (mkF m 15 #[iv aa, iv bb, iv sx, iv ddd, iv ee, iv md, iv c1, iv k1, .unset, .unset, .unset, .unset, .unset, .unset, .unset, .unset, .unset, .unset, .unset, .unset] [(.int 1), (.int md)]) (fun _ k => XS.iconst X0.here hx rfl (hb hby at_14) k) ?_
  refine own_S (mkF m 16 #[iv aa, iv bb, iv sx, iv ddd, iv ee, iv md, iv c1, iv k1, .unset, .unset, .unset, .unset, .unset, .unset, .unset, .unset, .unset, .unset, .unset, .unset] [(.int (md &&& (1 : Int32)))]) (fun _ k => XS.iand X0.here hx rfl (hb hby at_15) rfl k) ?_
  obtain ⟨b1, h_b1⟩ : ∃ z : Int32, z = (if (md &&& (1 : Int32)) = (0 : Int32) then (0 : Int32) else (1 : Int32)) := ⟨_, rfl⟩
  refine own_S (T' := s₁) (mkF m 24 #[iv aa, iv bb, iv sx, iv ddd, iv ee, iv md, iv c1, iv k1, .unset, .unset, .unset, .unset, .unset, .unset, .unset, .unset, .unset, .unset, .unset, .unset] [(.int b1)]) (fun _ k => ?_) ?_
  ·
    by_cases hj1 : (md &&& (1 : Int32)) = (0 : Int32)
    ·
      refine own_s (mkF m 23 #[iv aa, iv bb, iv sx, iv ddd, iv ee, iv md, iv c1, iv k1, .unset, .unset, .unset, .unset, .unset, .unset, .unset, .unset, .unset, .unset, .unset, .unset] []) (fun _ k => XS.ifYes X0.here hx rfl (pc0 := 16) (pc' := 23) rfl (hb hby at_16) rfl ((if0 _ _).trans (teq hj1).1) (by decide) (by decide) k) ?_
      refine own_s (mkF m 24 #[iv aa, iv bb, iv sx, iv ddd, iv ee, iv md, iv c1, iv k1, .unset, .unset, .unset, .unset, .unset, .unset, .unset, .unset, .unset, .unset, .unset, .unset] [(.int 0)]) (fun _ k => XS.iconst X0.here hx rfl (hb hby at_23) k) ?_
      rw [show b1 = (0 : Int32) from by rw [h_b1, if_pos hj1]] at k
      exact k
    ·
      refine own_s (mkF m 19 #[iv aa, iv bb, iv sx, iv ddd, iv ee, iv md, iv c1, iv k1, .unset, .unset, .unset, .unset, .unset, .unset, .unset, .unset, .unset, .unset, .unset, .unset] []) (fun _ k => XS.ifNo X0.here hx rfl (hb hby at_16) rfl ((if0 _ _).trans (feq hj1).1) k) ?_
      refine own_s (mkF m 20 #[iv aa, iv bb, iv sx, iv ddd, iv ee, iv md, iv c1, iv k1, .unset, .unset, .unset, .unset, .unset, .unset, .unset, .unset, .unset, .unset, .unset, .unset] [(.int 1)]) (fun _ k => XS.iconst X0.here hx rfl (hb hby at_19) k) ?_
      refine own_s (mkF m 24 #[iv aa, iv bb, iv sx, iv ddd, iv ee, iv md, iv c1, iv k1, .unset, .unset, .unset, .unset, .unset, .unset, .unset, .unset, .unset, .unset, .unset, .unset] [(.int 1)]) (fun _ k => XS.goto X0.here hx rfl (pc0 := 20) (pc' := 24) rfl (hb hby at_20) (by decide) (by decide) k) ?_
      rw [show b1 = (1 : Int32) from by rw [h_b1, if_neg hj1]] at k
      exact k
  refine own_S (mkF m 26 #[iv aa, iv bb, iv sx, iv ddd, iv ee, iv md, iv c1, iv k1, iv b1, .unset, .unset, .unset, .unset, .unset, .unset, .unset, .unset, .unset, .unset, .unset] []) (fun _ k => XS.istore X0.here hx rfl (hb hby at_24) rfl (l' := #[iv aa, iv bb, iv sx, iv ddd, iv ee, iv md, iv c1, iv k1, iv b1, .unset, .unset, .unset, .unset, .unset, .unset, .unset, .unset, .unset, .unset, .unset]) rfl k) ?_
  refine own_S (mkF m 27 #[iv aa, iv bb, iv sx, iv ddd, iv ee, iv md, iv c1, iv k1, iv b1, .unset, .unset, .unset, .unset, .unset, .unset, .unset, .unset, .unset, .unset, .unset] [(.int sx)]) (fun _ k => XS.iloadN X0.here hx rfl (hb hby at_26) rfl k) ?_
  refine own_S (mkF m 29 #[iv aa, iv bb, iv sx, iv ddd, iv ee, iv md, iv c1, iv k1, iv b1, .unset, .unset, .unset, .unset, .unset, .unset, .unset, .unset, .unset, .unset, .unset] [(.int 2147483647), (.int sx)]) (fun _ k => X0.ldcInt hx hown (mvT hZ (own_g hw (i := 0) rfl)) (g := (mkF m 27 #[iv aa, iv bb, iv sx, iv ddd, iv ee, iv md, iv c1, iv k1, iv b1, .unset, .unset, .unset, .unset, .unset, .unset, .unset, .unset, .unset, .unset, .unset] [(.int sx)])) rfl (hb hby at_27) _ k) ?_
  refine own_S (mkF m 30 #[iv aa, iv bb, iv sx, iv ddd, iv ee, iv md, iv c1, iv k1, iv b1, .unset, .unset, .unset, .unset, .unset, .unset, .unset, .unset, .unset, .unset, .unset] [(.int (sx &&& (2147483647 : Int32)))]) (fun _ k => XS.iand X0.here hx rfl (hb hby at_29) rfl k) ?_
  refine own_S (mkF m 32 #[iv aa, iv bb, iv sx, iv ddd, iv ee, iv md, iv c1, iv k1, iv b1, iv (sx &&& (2147483647 : Int32)), .unset, .unset, .unset, .unset, .unset, .unset, .unset, .unset, .unset, .unset] []) (fun _ k => XS.istore X0.here hx rfl (hb hby at_30) rfl (l' := #[iv aa, iv bb, iv sx, iv ddd, iv ee, iv md, iv c1, iv k1, iv b1, iv (sx &&& (2147483647 : Int32)), .unset, .unset, .unset, .unset, .unset, .unset, .unset, .unset, .unset, .unset]) rfl k) ?_
  obtain ⟨t1, h_t1⟩ : ∃ z : Int32, z = (sx &&& (2147483647 : Int32)) := ⟨_, rfl⟩
  refine own_S (T' := s₁) (mkF m 32 #[iv aa, iv bb, iv sx, iv ddd, iv ee, iv md, iv c1, iv k1, iv b1, iv t1, .unset, .unset, .unset, .unset, .unset, .unset, .unset, .unset, .unset, .unset] []) (fun _ k => by subst h_t1; exact k) ?_
  have n_t1 : ¬ (t1 < (0 : Int32)) := by rw [h_t1]; exact own_nn sx
  refine own_S (mkF m 34 #[iv aa, iv bb, iv sx, iv ddd, iv ee, iv md, iv c1, iv k1, iv b1, iv t1, .unset, .unset, .unset, .unset, .unset, .unset, .unset, .unset, .unset, .unset] [(.int md)]) (fun _ k => XS.iload X0.here hx rfl (hb hby at_32) rfl k) ?_
  refine own_S (mkF m 35 #[iv aa, iv bb, iv sx, iv ddd, iv ee, iv md, iv c1, iv k1, iv b1, iv t1, .unset, .unset, .unset, .unset, .unset, .unset, .unset, .unset, .unset, .unset] [(.int 2), (.int md)]) (fun _ k => XS.iconst X0.here hx rfl (hb hby at_34) k) ?_
  refine own_S (mkF m 36 #[iv aa, iv bb, iv sx, iv ddd, iv ee, iv md, iv c1, iv k1, iv b1, iv t1, .unset, .unset, .unset, .unset, .unset, .unset, .unset, .unset, .unset, .unset] [(.int (md &&& (2 : Int32)))]) (fun _ k => XS.iand X0.here hx rfl (hb hby at_35) rfl k) ?_
  obtain ⟨c2, h_c2⟩ : ∃ z : Int32, z = (if (md &&& (2 : Int32)) = (0 : Int32) then (ddd &&& (2147483647 : Int32)) else c1) := ⟨_, rfl⟩
  refine own_S (T' := s₁) (mkF m 48 #[iv aa, iv bb, iv sx, iv ddd, iv ee, iv md, iv c1, iv k1, iv b1, iv t1, .unset, .unset, .unset, .unset, .unset, .unset, .unset, .unset, .unset, .unset] [(.int c2)]) (fun _ k => ?_) ?_
  ·
    by_cases hj2 : (md &&& (2 : Int32)) = (0 : Int32)
    ·
      refine own_s (mkF m 44 #[iv aa, iv bb, iv sx, iv ddd, iv ee, iv md, iv c1, iv k1, iv b1, iv t1, .unset, .unset, .unset, .unset, .unset, .unset, .unset, .unset, .unset, .unset] []) (fun _ k => XS.ifYes X0.here hx rfl (pc0 := 36) (pc' := 44) rfl (hb hby at_36) rfl ((if0 _ _).trans (teq hj2).1) (by decide) (by decide) k) ?_
      refine own_s (mkF m 45 #[iv aa, iv bb, iv sx, iv ddd, iv ee, iv md, iv c1, iv k1, iv b1, iv t1, .unset, .unset, .unset, .unset, .unset, .unset, .unset, .unset, .unset, .unset] [(.int ddd)]) (fun _ k => XS.iloadN X0.here hx rfl (hb hby at_44) rfl k) ?_
      refine own_s (mkF m 47 #[iv aa, iv bb, iv sx, iv ddd, iv ee, iv md, iv c1, iv k1, iv b1, iv t1, .unset, .unset, .unset, .unset, .unset, .unset, .unset, .unset, .unset, .unset] [(.int 2147483647), (.int ddd)]) (fun _ k => X0.ldcInt hx hown (mvT hZ (own_g hw (i := 0) rfl)) (g := (mkF m 45 #[iv aa, iv bb, iv sx, iv ddd, iv ee, iv md, iv c1, iv k1, iv b1, iv t1, .unset, .unset, .unset, .unset, .unset, .unset, .unset, .unset, .unset, .unset] [(.int ddd)])) rfl (hb hby at_45) _ k) ?_
      refine own_s (mkF m 48 #[iv aa, iv bb, iv sx, iv ddd, iv ee, iv md, iv c1, iv k1, iv b1, iv t1, .unset, .unset, .unset, .unset, .unset, .unset, .unset, .unset, .unset, .unset] [(.int (ddd &&& (2147483647 : Int32)))]) (fun _ k => XS.iand X0.here hx rfl (hb hby at_47) rfl k) ?_
      rw [show c2 = (ddd &&& (2147483647 : Int32)) from by rw [h_c2, if_pos hj2]] at k
      exact k
    ·
      refine own_s (mkF m 39 #[iv aa, iv bb, iv sx, iv ddd, iv ee, iv md, iv c1, iv k1, iv b1, iv t1, .unset, .unset, .unset, .unset, .unset, .unset, .unset, .unset, .unset, .unset] []) (fun _ k => XS.ifNo X0.here hx rfl (hb hby at_36) rfl ((if0 _ _).trans (feq hj2).1) k) ?_
      refine own_s (mkF m 41 #[iv aa, iv bb, iv sx, iv ddd, iv ee, iv md, iv c1, iv k1, iv b1, iv t1, .unset, .unset, .unset, .unset, .unset, .unset, .unset, .unset, .unset, .unset] [(.int c1)]) (fun _ k => XS.iload X0.here hx rfl (hb hby at_39) rfl k) ?_
      refine own_s (mkF m 48 #[iv aa, iv bb, iv sx, iv ddd, iv ee, iv md, iv c1, iv k1, iv b1, iv t1, .unset, .unset, .unset, .unset, .unset, .unset, .unset, .unset, .unset, .unset] [(.int c1)]) (fun _ k => XS.goto X0.here hx rfl (pc0 := 41) (pc' := 48) rfl (hb hby at_41) (by decide) (by decide) k) ?_
      rw [show c2 = c1 from by rw [h_c2, if_neg hj2]] at k
      exact k
  have n_c2 : ¬ (c2 < (0 : Int32)) := by rw [h_c2]; split; exact own_nn ddd; exact n_c1
  refine own_S (mkF m 50 #[iv aa, iv bb, iv sx, iv ddd, iv ee, iv md, iv c1, iv k1, iv b1, iv t1, iv c2, .unset, .unset, .unset, .unset, .unset, .unset, .unset, .unset, .unset] []) (fun _ k => XS.istore X0.here hx rfl (hb hby at_48) rfl (l' := #[iv aa, iv bb, iv sx, iv ddd, iv ee, iv md, iv c1, iv k1, iv b1, iv t1, iv c2, .unset, .unset, .unset, .unset, .unset, .unset, .unset, .unset, .unset]) rfl k) ?_
  refine own_S (mkF m 52 #[iv aa, iv bb, iv sx, iv ddd, iv ee, iv md, iv c1, iv k1, iv b1, iv t1, iv c2, .unset, .unset, .unset, .unset, .unset, .unset, .unset, .unset, .unset] [(.int md)]) (fun _ k => XS.iload X0.here hx rfl (hb hby at_50) rfl k) ?_
  refine own_S (mkF m 53 #[iv aa, iv bb, iv sx, iv ddd, iv ee, iv md, iv c1, iv k1, iv b1, iv t1, iv c2, .unset, .unset, .unset, .unset, .unset, .unset, .unset, .unset, .unset] [(.int 4), (.int md)]) (fun _ k => XS.iconst X0.here hx rfl (hb hby at_52) k) ?_
  refine own_S (mkF m 54 #[iv aa, iv bb, iv sx, iv ddd, iv ee, iv md, iv c1, iv k1, iv b1, iv t1, iv c2, .unset, .unset, .unset, .unset, .unset, .unset, .unset, .unset, .unset] [(.int (md &&& (4 : Int32)))]) (fun _ k => XS.iand X0.here hx rfl (hb hby at_53) rfl k) ?_
  obtain ⟨k2, h_k2⟩ : ∃ z : Int32, z = (if (md &&& (4 : Int32)) = (0 : Int32) then (ee &&& (2147483647 : Int32)) else k1) := ⟨_, rfl⟩
  refine own_S (T' := s₁) (mkF m 67 #[iv aa, iv bb, iv sx, iv ddd, iv ee, iv md, iv c1, iv k1, iv b1, iv t1, iv c2, .unset, .unset, .unset, .unset, .unset, .unset, .unset, .unset, .unset] [(.int k2)]) (fun _ k => ?_) ?_
  ·
    by_cases hj3 : (md &&& (4 : Int32)) = (0 : Int32)
    ·
      refine own_s (mkF m 62 #[iv aa, iv bb, iv sx, iv ddd, iv ee, iv md, iv c1, iv k1, iv b1, iv t1, iv c2, .unset, .unset, .unset, .unset, .unset, .unset, .unset, .unset, .unset] []) (fun _ k => XS.ifYes X0.here hx rfl (pc0 := 54) (pc' := 62) rfl (hb hby at_54) rfl ((if0 _ _).trans (teq hj3).1) (by decide) (by decide) k) ?_
      refine own_s (mkF m 64 #[iv aa, iv bb, iv sx, iv ddd, iv ee, iv md, iv c1, iv k1, iv b1, iv t1, iv c2, .unset, .unset, .unset, .unset, .unset, .unset, .unset, .unset, .unset] [(.int ee)]) (fun _ k => XS.iload X0.here hx rfl (hb hby at_62) rfl k) ?_
      refine own_s (mkF m 66 #[iv aa, iv bb, iv sx, iv ddd, iv ee, iv md, iv c1, iv k1, iv b1, iv t1, iv c2, .unset, .unset, .unset, .unset, .unset, .unset, .unset, .unset, .unset] [(.int 2147483647), (.int ee)]) (fun _ k => X0.ldcInt hx hown (mvT hZ (own_g hw (i := 0) rfl)) (g := (mkF m 64 #[iv aa, iv bb, iv sx, iv ddd, iv ee, iv md, iv c1, iv k1, iv b1, iv t1, iv c2, .unset, .unset, .unset, .unset, .unset, .unset, .unset, .unset, .unset] [(.int ee)])) rfl (hb hby at_64) _ k) ?_
      refine own_s (mkF m 67 #[iv aa, iv bb, iv sx, iv ddd, iv ee, iv md, iv c1, iv k1, iv b1, iv t1, iv c2, .unset, .unset, .unset, .unset, .unset, .unset, .unset, .unset, .unset] [(.int (ee &&& (2147483647 : Int32)))]) (fun _ k => XS.iand X0.here hx rfl (hb hby at_66) rfl k) ?_
      rw [show k2 = (ee &&& (2147483647 : Int32)) from by rw [h_k2, if_pos hj3]] at k
      exact k
    ·
      refine own_s (mkF m 57 #[iv aa, iv bb, iv sx, iv ddd, iv ee, iv md, iv c1, iv k1, iv b1, iv t1, iv c2, .unset, .unset, .unset, .unset, .unset, .unset, .unset, .unset, .unset] []) (fun _ k => XS.ifNo X0.here hx rfl (hb hby at_54) rfl ((if0 _ _).trans (feq hj3).1) k) ?_
      refine own_s (mkF m 59 #[iv aa, iv bb, iv sx, iv ddd, iv ee, iv md, iv c1, iv k1, iv b1, iv t1, iv c2, .unset, .unset, .unset, .unset, .unset, .unset, .unset, .unset, .unset] [(.int k1)]) (fun _ k => XS.iload X0.here hx rfl (hb hby at_57) rfl k) ?_
      refine own_s (mkF m 67 #[iv aa, iv bb, iv sx, iv ddd, iv ee, iv md, iv c1, iv k1, iv b1, iv t1, iv c2, .unset, .unset, .unset, .unset, .unset, .unset, .unset, .unset, .unset] [(.int k1)]) (fun _ k => XS.goto X0.here hx rfl (pc0 := 59) (pc' := 67) rfl (hb hby at_59) (by decide) (by decide) k) ?_
      rw [show k2 = k1 from by rw [h_k2, if_neg hj3]] at k
      exact k
  have n_k2 : ¬ (k2 < (0 : Int32)) := by rw [h_k2]; split; exact own_nn ee; exact n_k1
  refine own_S (mkF m 69 #[iv aa, iv bb, iv sx, iv ddd, iv ee, iv md, iv c1, iv k1, iv b1, iv t1, iv c2, iv k2, .unset, .unset, .unset, .unset, .unset, .unset, .unset, .unset] []) (fun _ k => XS.istore X0.here hx rfl (hb hby at_67) rfl (l' := #[iv aa, iv bb, iv sx, iv ddd, iv ee, iv md, iv c1, iv k1, iv b1, iv t1, iv c2, iv k2, .unset, .unset, .unset, .unset, .unset, .unset, .unset, .unset]) rfl k) ?_
  refine own_S (mkF m 71 #[iv aa, iv bb, iv sx, iv ddd, iv ee, iv md, iv c1, iv k1, iv b1, iv t1, iv c2, iv k2, .unset, .unset, .unset, .unset, .unset, .unset, .unset, .unset] [(.int md)]) (fun _ k => XS.iload X0.here hx rfl (hb hby at_69) rfl k) ?_
  refine own_S (mkF m 73 #[iv aa, iv bb, iv sx, iv ddd, iv ee, iv md, iv c1, iv k1, iv b1, iv t1, iv c2, iv k2, .unset, .unset, .unset, .unset, .unset, .unset, .unset, .unset] [(.int 8), (.int md)]) (fun _ k => XS.bipush X0.here hx rfl (hb hby at_71) k) ?_
  refine own_S (mkF m 74 #[iv aa, iv bb, iv sx, iv ddd, iv ee, iv md, iv c1, iv k1, iv b1, iv t1, iv c2, iv k2, .unset, .unset, .unset, .unset, .unset, .unset, .unset, .unset] [(.int (md &&& (8 : Int32)))]) (fun _ k => XS.iand X0.here hx rfl (hb hby at_73) rfl k) ?_
  obtain ⟨b2, h_b2⟩ : ∃ z : Int32, z = (if (md &&& (8 : Int32)) = (0 : Int32) then (0 : Int32) else (1 : Int32)) := ⟨_, rfl⟩
  refine own_S (T' := s₁) (mkF m 82 #[iv aa, iv bb, iv sx, iv ddd, iv ee, iv md, iv c1, iv k1, iv b1, iv t1, iv c2, iv k2, .unset, .unset, .unset, .unset, .unset, .unset, .unset, .unset] [(.int b2)]) (fun _ k => ?_) ?_
  ·
    by_cases hj4 : (md &&& (8 : Int32)) = (0 : Int32)
    ·
      refine own_s (mkF m 81 #[iv aa, iv bb, iv sx, iv ddd, iv ee, iv md, iv c1, iv k1, iv b1, iv t1, iv c2, iv k2, .unset, .unset, .unset, .unset, .unset, .unset, .unset, .unset] []) (fun _ k => XS.ifYes X0.here hx rfl (pc0 := 74) (pc' := 81) rfl (hb hby at_74) rfl ((if0 _ _).trans (teq hj4).1) (by decide) (by decide) k) ?_
      refine own_s (mkF m 82 #[iv aa, iv bb, iv sx, iv ddd, iv ee, iv md, iv c1, iv k1, iv b1, iv t1, iv c2, iv k2, .unset, .unset, .unset, .unset, .unset, .unset, .unset, .unset] [(.int 0)]) (fun _ k => XS.iconst X0.here hx rfl (hb hby at_81) k) ?_
      rw [show b2 = (0 : Int32) from by rw [h_b2, if_pos hj4]] at k
      exact k
    ·
      refine own_s (mkF m 77 #[iv aa, iv bb, iv sx, iv ddd, iv ee, iv md, iv c1, iv k1, iv b1, iv t1, iv c2, iv k2, .unset, .unset, .unset, .unset, .unset, .unset, .unset, .unset] []) (fun _ k => XS.ifNo X0.here hx rfl (hb hby at_74) rfl ((if0 _ _).trans (feq hj4).1) k) ?_
      refine own_s (mkF m 78 #[iv aa, iv bb, iv sx, iv ddd, iv ee, iv md, iv c1, iv k1, iv b1, iv t1, iv c2, iv k2, .unset, .unset, .unset, .unset, .unset, .unset, .unset, .unset] [(.int 1)]) (fun _ k => XS.iconst X0.here hx rfl (hb hby at_77) k) ?_
      refine own_s (mkF m 82 #[iv aa, iv bb, iv sx, iv ddd, iv ee, iv md, iv c1, iv k1, iv b1, iv t1, iv c2, iv k2, .unset, .unset, .unset, .unset, .unset, .unset, .unset, .unset] [(.int 1)]) (fun _ k => XS.goto X0.here hx rfl (pc0 := 78) (pc' := 82) rfl (hb hby at_78) (by decide) (by decide) k) ?_
      rw [show b2 = (1 : Int32) from by rw [h_b2, if_neg hj4]] at k
      exact k
  refine own_S (mkF m 84 #[iv aa, iv bb, iv sx, iv ddd, iv ee, iv md, iv c1, iv k1, iv b1, iv t1, iv c2, iv k2, iv b2, .unset, .unset, .unset, .unset, .unset, .unset, .unset] []) (fun _ k => XS.istore X0.here hx rfl (hb hby at_82) rfl (l' := #[iv aa, iv bb, iv sx, iv ddd, iv ee, iv md, iv c1, iv k1, iv b1, iv t1, iv c2, iv k2, iv b2, .unset, .unset, .unset, .unset, .unset, .unset, .unset]) rfl k) ?_
  refine own_S (mkF m 85 #[iv aa, iv bb, iv sx, iv ddd, iv ee, iv md, iv c1, iv k1, iv b1, iv t1, iv c2, iv k2, iv b2, .unset, .unset, .unset, .unset, .unset, .unset, .unset] [(.int sx)]) (fun _ k => XS.iloadN X0.here hx rfl (hb hby at_84) rfl k) ?_
  refine own_S (mkF m 87 #[iv aa, iv bb, iv sx, iv ddd, iv ee, iv md, iv c1, iv k1, iv b1, iv t1, iv c2, iv k2, iv b2, .unset, .unset, .unset, .unset, .unset, .unset, .unset] [(.int md), (.int sx)]) (fun _ k => XS.iload X0.here hx rfl (hb hby at_85) rfl k) ?_
  refine own_S (mkF m 89 #[iv aa, iv bb, iv sx, iv ddd, iv ee, iv md, iv c1, iv k1, iv b1, iv t1, iv c2, iv k2, iv b2, .unset, .unset, .unset, .unset, .unset, .unset, .unset] [(.int 7), (.int md), (.int sx)]) (fun _ k => XS.bipush X0.here hx rfl (hb hby at_87) k) ?_
  refine own_S (mkF m 90 #[iv aa, iv bb, iv sx, iv ddd, iv ee, iv md, iv c1, iv k1, iv b1, iv t1, iv c2, iv k2, iv b2, .unset, .unset, .unset, .unset, .unset, .unset, .unset] [(.int (md >>> ((7 : Int32) &&& 31))), (.int sx)]) (fun _ k => XS.ishr X0.here hx rfl (hb hby at_89) rfl k) ?_
  refine own_S (mkF m 91 #[iv aa, iv bb, iv sx, iv ddd, iv ee, iv md, iv c1, iv k1, iv b1, iv t1, iv c2, iv k2, iv b2, .unset, .unset, .unset, .unset, .unset, .unset, .unset] [(.int (sx + (md >>> ((7 : Int32) &&& 31))))]) (fun _ k => XS.iadd X0.here hx rfl (hb hby at_90) rfl k) ?_
  refine own_S (mkF m 93 #[iv aa, iv bb, iv sx, iv ddd, iv ee, iv md, iv c1, iv k1, iv b1, iv t1, iv c2, iv k2, iv b2, .unset, .unset, .unset, .unset, .unset, .unset, .unset] [(.int 2147483647), (.int (sx + (md >>> ((7 : Int32) &&& 31))))]) (fun _ k => X0.ldcInt hx hown (mvT hZ (own_g hw (i := 0) rfl)) (g := (mkF m 91 #[iv aa, iv bb, iv sx, iv ddd, iv ee, iv md, iv c1, iv k1, iv b1, iv t1, iv c2, iv k2, iv b2, .unset, .unset, .unset, .unset, .unset, .unset, .unset] [(.int (sx + (md >>> ((7 : Int32) &&& 31))))])) rfl (hb hby at_91) _ k) ?_
  refine own_S (mkF m 94 #[iv aa, iv bb, iv sx, iv ddd, iv ee, iv md, iv c1, iv k1, iv b1, iv t1, iv c2, iv k2, iv b2, .unset, .unset, .unset, .unset, .unset, .unset, .unset] [(.int ((sx + (md >>> ((7 : Int32) &&& 31))) &&& (2147483647 : Int32)))]) (fun _ k => XS.iand X0.here hx rfl (hb hby at_93) rfl k) ?_
  refine own_S (mkF m 96 #[iv aa, iv bb, iv sx, iv ddd, iv ee, iv md, iv c1, iv k1, iv b1, iv t1, iv c2, iv k2, iv b2, iv ((sx + (md >>> ((7 : Int32) &&& 31))) &&& (2147483647 : Int32)), .unset, .unset, .unset, .unset, .unset, .unset] []) (fun _ k => XS.istore X0.here hx rfl (hb hby at_94) rfl (l' := #[iv aa, iv bb, iv sx, iv ddd, iv ee, iv md, iv c1, iv k1, iv b1, iv t1, iv c2, iv k2, iv b2, iv ((sx + (md >>> ((7 : Int32) &&& 31))) &&& (2147483647 : Int32)), .unset, .unset, .unset, .unset, .unset, .unset]) rfl k) ?_
  obtain ⟨t2, h_t2⟩ : ∃ z : Int32, z = ((sx + (md >>> ((7 : Int32) &&& 31))) &&& (2147483647 : Int32)) := ⟨_, rfl⟩
  refine own_S (T' := s₁) (mkF m 96 #[iv aa, iv bb, iv sx, iv ddd, iv ee, iv md, iv c1, iv k1, iv b1, iv t1, iv c2, iv k2, iv b2, iv t2, .unset, .unset, .unset, .unset, .unset, .unset] []) (fun _ k => by subst h_t2; exact k) ?_
  have n_t2 : ¬ (t2 < (0 : Int32)) := by rw [h_t2]; exact own_nn _
  refine own_S (mkF m 98 #[iv aa, iv bb, iv sx, iv ddd, iv ee, iv md, iv c1, iv k1, iv b1, iv t1, iv c2, iv k2, iv b2, iv t2, .unset, .unset, .unset, .unset, .unset, .unset] [(.int md)]) (fun _ k => XS.iload X0.here hx rfl (hb hby at_96) rfl k) ?_
  refine own_S (mkF m 99 #[iv aa, iv bb, iv sx, iv ddd, iv ee, iv md, iv c1, iv k1, iv b1, iv t1, iv c2, iv k2, iv b2, iv t2, .unset, .unset, .unset, .unset, .unset, .unset] [(.int 5), (.int md)]) (fun _ k => XS.iconst X0.here hx rfl (hb hby at_98) k) ?_
  refine own_S (mkF m 100 #[iv aa, iv bb, iv sx, iv ddd, iv ee, iv md, iv c1, iv k1, iv b1, iv t1, iv c2, iv k2, iv b2, iv t2, .unset, .unset, .unset, .unset, .unset, .unset] [(.int (md >>> ((5 : Int32) &&& 31)))]) (fun _ k => XS.ishr X0.here hx rfl (hb hby at_99) rfl k) ?_
  refine own_S (mkF m 101 #[iv aa, iv bb, iv sx, iv ddd, iv ee, iv md, iv c1, iv k1, iv b1, iv t1, iv c2, iv k2, iv b2, iv t2, .unset, .unset, .unset, .unset, .unset, .unset] [(.int 3), (.int (md >>> ((5 : Int32) &&& 31)))]) (fun _ k => XS.iconst X0.here hx rfl (hb hby at_100) k) ?_
  refine own_S (mkF m 102 #[iv aa, iv bb, iv sx, iv ddd, iv ee, iv md, iv c1, iv k1, iv b1, iv t1, iv c2, iv k2, iv b2, iv t2, .unset, .unset, .unset, .unset, .unset, .unset] [(.int ((md >>> ((5 : Int32) &&& 31)) &&& (3 : Int32)))]) (fun _ k => XS.iand X0.here hx rfl (hb hby at_101) rfl k) ?_
  refine own_S (mkF m 104 #[iv aa, iv bb, iv sx, iv ddd, iv ee, iv md, iv c1, iv k1, iv b1, iv t1, iv c2, iv k2, iv b2, iv t2, iv ((md >>> ((5 : Int32) &&& 31)) &&& (3 : Int32)), .unset, .unset, .unset, .unset, .unset] []) (fun _ k => XS.istore X0.here hx rfl (hb hby at_102) rfl (l' := #[iv aa, iv bb, iv sx, iv ddd, iv ee, iv md, iv c1, iv k1, iv b1, iv t1, iv c2, iv k2, iv b2, iv t2, iv ((md >>> ((5 : Int32) &&& 31)) &&& (3 : Int32)), .unset, .unset, .unset, .unset, .unset]) rfl k) ?_
  obtain ⟨kd, h_kd⟩ : ∃ z : Int32, z = ((md >>> ((5 : Int32) &&& 31)) &&& (3 : Int32)) := ⟨_, rfl⟩
  refine own_S (T' := s₁) (mkF m 104 #[iv aa, iv bb, iv sx, iv ddd, iv ee, iv md, iv c1, iv k1, iv b1, iv t1, iv c2, iv k2, iv b2, iv t2, iv kd, .unset, .unset, .unset, .unset, .unset] []) (fun _ k => by subst h_kd; exact k) ?_
  have o_b1 : b1 = 0 ∨ b1 = 1 := by rw [h_b1]; split <;> simp
  have o_b2 : b2 = 0 ∨ b2 = 1 := by rw [h_b2]; split <;> simp
  have o_kd : kd = 0 ∨ kd = 1 ∨ kd = 2 ∨ kd = 3 := by rw [h_kd]; exact own_and3 _
  obtain ⟨T5, h5, X5, e5, E5, A5, D5, -, st5⟩ := newO X0 hx hZ hown (own_g hw (i := 1) rfl) (own_g hw (i := 2) rfl) (own_g hw (i := 3) rfl) e0 (g := (mkF m 104 #[iv aa, iv bb, iv sx, iv ddd, iv ee, iv md, iv c1, iv k1, iv b1, iv t1, iv c2, iv k2, iv b2, iv t2, iv kd, .unset, .unset, .unset, .unset, .unset] [])) rfl (hb hby at_104) (by decide) (by decide)
  obtain ⟨p1, g5⟩ : ∃ z, z = h0.size := ⟨_, rfl⟩
  rw [← g5] at A5 D5 st5
  have n6 : ct ≠ p1 := Nat.ne_of_lt (Nat.lt_of_lt_of_eq P1.lt g5.symm)
  have ge_p1 : n0 ≤ p1 := Nat.le_trans Z0 (Nat.le_of_eq g5.symm)
  have F7 := P0.ext E5
  have F8 := P1.ext E5
  have Z5 : n0 ≤ h5.size := Nat.le_trans Z0 E5.1
  have F9 : Fld Z h5 p1 "com/example/referee/referee/logic/ltl/Formula" "height" "I" (.int (0 : Int32)) := D5 (Or.inr (own_g hw (i := 19) rfl)) (ty := .int) (by decide)
  have F10 : Fld Z h5 p1 "com/example/referee/referee/logic/ltl/Formula" "size" "I" (.int (0 : Int32)) := D5 (Or.inr (own_g hw (i := 21) rfl)) (ty := .int) (by decide)
  have F11 : Fld Z h5 p1 "com/example/referee/referee/logic/ltl/Pointer" "component" "I" (.int (0 : Int32)) := D5 (Or.inr (own_g hw (i := 23) rfl)) (ty := .int) (by decide)
  have F12 : Fld Z h5 p1 "com/example/referee/referee/logic/ltl/Pointer" "cell" "I" (.int (0 : Int32)) := D5 (Or.inr (own_g hw (i := 25) rfl)) (ty := .int) (by decide)
  have F13 : Fld Z h5 p1 "com/example/referee/referee/logic/ltl/Pointer" "instance" "I" (.int (0 : Int32)) := D5 (Or.inr (own_g hw (i := 27) rfl)) (ty := .int) (by decide)
  refine own_S (mkF m 107 #[iv aa, iv bb, iv sx, iv ddd, iv ee, iv md, iv c1, iv k1, iv b1, iv t1, iv c2, iv k2, iv b2, iv t2, iv kd, .unset, .unset, .unset, .unset, .unset] [(.ref p1)]) st5 ?_
  refine own_S (mkF m 108 #[iv aa, iv bb, iv sx, iv ddd, iv ee, iv md, iv c1, iv k1, iv b1, iv t1, iv c2, iv k2, iv b2, iv t2, iv kd, .unset, .unset, .unset, .unset, .unset] [(.ref p1), (.ref p1)]) (fun _ k => XS.dup X5.here hx rfl (hb hby at_107) rfl rfl k) ?_
  refine own_S (mkF m 110 #[iv aa, iv bb, iv sx, iv ddd, iv ee, iv md, iv c1, iv k1, iv b1, iv t1, iv c2, iv k2, iv b2, iv t2, iv kd, .unset, .unset, .unset, .unset, .unset] [(.int c1), (.ref p1), (.ref p1)]) (fun _ k => XS.iload X5.here hx rfl (hb hby at_108) rfl k) ?_
  refine own_S (mkF m 112 #[iv aa, iv bb, iv sx, iv ddd, iv ee, iv md, iv c1, iv k1, iv b1, iv t1, iv c2, iv k2, iv b2, iv t2, iv kd, .unset, .unset, .unset, .unset, .unset] [(.int k1), (.int c1), (.ref p1), (.ref p1)]) (fun _ k => XS.iload X5.here hx rfl (hb hby at_110) rfl k) ?_
  obtain ⟨_, _, ⟨T14, L14, k14, n14⟩, -, X14, ⟨Lc14, hQ14, l14, y14, z14⟩, st14⟩ := X5.specialBack hx (y := own_y2) rfl hown (mvT hZ (own_g hw (i := 4) rfl)) (mvT hZ (own_g hw (i := 5) rfl)) (mvT hZ (own_g hw (i := 6) rfl)) (by decide) (backOf (W := 1) (own_rmp2 l Z a0 hw [] (p1) (c1) (k1) ((.int (0 : Int32))) ((.int (0 : Int32))) ((.int (0 : Int32))) ((.int (0 : Int32))) ((.int (0 : Int32))) h5 n0 Z5 A5 F9 F10 F11 F12 F13 ge_p1 n_c1 n_k1) hZ (own_g hw (i := 6) rfl) (own_g hw (i := 3) rfl) (by decide) (by decide)) (g := (mkF m 112 #[iv aa, iv bb, iv sx, iv ddd, iv ee, iv md, iv c1, iv k1, iv b1, iv t1, iv c2, iv k2, iv b2, iv t2, iv kd, .unset, .unset, .unset, .unset, .unset] [(.int k1), (.int c1), (.ref p1), (.ref p1)])) rfl (by rw [hml]; rfl) (Steps.refl _) (a := p1) (argsL := [(.int c1), (.int k1)]) (rest := [(.ref p1)]) (lenOf own_pd__II_V rfl) rfl (by show 2 * 0 + _ ≤ _; exact Nat.le_of_eq rfl) (hb hby at_112) (fun _ _ => ⟨rfl, e5, (by decide : 1 + 0 ≤ _), (by decide : 5 + 0 ≤ _)⟩)
  dsimp only [Pt.U, Pt.locs, Pt.cells, Pt.slots] at X14 l14 y14 z14 st14 hQ14
  subst l14 y14 z14
  obtain ⟨rfl, N14q, K14q, F15, F16, F17, F18, F19, F20⟩ := hQ14
  have N14 := Fr.app N0 N14q
  refine own_S (mkF m 115 #[iv aa, iv bb, iv sx, iv ddd, iv ee, iv md, iv c1, iv k1, iv b1, iv t1, iv c2, iv k2, iv b2, iv t2, iv kd, .unset, .unset, .unset, .unset, .unset] [(.ref p1)]) (fun _ k => st14.trans k) ?_
  have F21 := Sta_keep (n0 := 0) F7 K14q ((own_allS (old_plain F13) (fun _ q => nomatch q)))
  have F22 := F8.keep K14q
  have Z14 : n0 ≤ T14.heap.size := Nat.le_trans Z5 K14q.1
  refine own_S (mkF m 117 #[iv aa, iv bb, iv sx, iv ddd, iv ee, iv md, iv c1, iv k1, iv b1, iv t1, iv c2, iv k2, iv b2, iv t2, iv kd, rv p1, .unset, .unset, .unset, .unset] []) (fun _ k => XS.astore X14.here hx rfl (hb hby at_115) rfl rfl (l' := #[iv aa, iv bb, iv sx, iv ddd, iv ee, iv md, iv c1, iv k1, iv b1, iv t1, iv c2, iv k2, iv b2, iv t2, iv kd, rv p1, .unset, .unset, .unset, .unset]) rfl k) ?_
  refine own_S (mkF m 119 #[iv aa, iv bb, iv sx, iv ddd, iv ee, iv md, iv c1, iv k1, iv b1, iv t1, iv c2, iv k2, iv b2, iv t2, iv kd, rv p1, .unset, .unset, .unset, .unset] [(.int b1)]) (fun _ k => XS.iload X14.here hx rfl (hb hby at_117) rfl k) ?_
  by_cases hb1 : b1 = (0 : Int32)
  · -- b1 = (0 : Int32)
    refine own_S (mkF m 131 #[iv aa, iv bb, iv sx, iv ddd, iv ee, iv md, iv c1, iv k1, iv b1, iv t1, iv c2, iv k2, iv b2, iv t2, iv kd, rv p1, .unset, .unset, .unset, .unset] []) (fun _ k => XS.ifYes X14.here hx rfl (pc0 := 119) (pc' := 131) rfl (hb hby at_119) rfl ((if0 _ _).trans (teq hb1).1) (by decide) (by decide) k) ?_
    obtain ⟨T23, h23, X23, e23, E23, A23, D23, -, st23⟩ := newO X14 hx hZ hown (own_g hw (i := 1) rfl) (own_g hw (i := 2) rfl) (own_g hw (i := 3) rfl) rfl (g := (mkF m 131 #[iv aa, iv bb, iv sx, iv ddd, iv ee, iv md, iv c1, iv k1, iv b1, iv t1, iv c2, iv k2, iv b2, iv t2, iv kd, rv p1, .unset, .unset, .unset, .unset] [])) rfl (hb hby at_131) (by decide) (by decide)
    obtain ⟨q1, g23⟩ : ∃ z, z = T14.heap.size := ⟨_, rfl⟩
    rw [← g23] at A23 D23 st23
    have n24 : ct ≠ q1 := Nat.ne_of_lt (Nat.lt_of_lt_of_eq F22.lt g23.symm)
    have n25 : p1 ≠ q1 := Nat.ne_of_lt (Nat.lt_of_lt_of_eq F15.lt g23.symm)
    have ge_q1 : n0 ≤ q1 := Nat.le_trans Z14 (Nat.le_of_eq g23.symm)
    have F26 := F21.ext E23
    have F27 := F22.ext E23
    have F28 := F15.ext E23
    have F29 := F16.ext E23
    have F30 := F17.ext E23
    have F31 := F18.ext E23
    have F32 := F19.ext E23
    have F33 := F20.ext E23
    have Z23 : n0 ≤ h23.size := Nat.le_trans Z14 E23.1
    have F34 : Fld Z h23 q1 "com/example/referee/referee/logic/ltl/Formula" "height" "I" (.int (0 : Int32)) := D23 (Or.inr (own_g hw (i := 19) rfl)) (ty := .int) (by decide)
    have F35 : Fld Z h23 q1 "com/example/referee/referee/logic/ltl/Formula" "size" "I" (.int (0 : Int32)) := D23 (Or.inr (own_g hw (i := 21) rfl)) (ty := .int) (by decide)
    have F36 : Fld Z h23 q1 "com/example/referee/referee/logic/ltl/Pointer" "component" "I" (.int (0 : Int32)) := D23 (Or.inr (own_g hw (i := 23) rfl)) (ty := .int) (by decide)
    have F37 : Fld Z h23 q1 "com/example/referee/referee/logic/ltl/Pointer" "cell" "I" (.int (0 : Int32)) := D23 (Or.inr (own_g hw (i := 25) rfl)) (ty := .int) (by decide)
    have F38 : Fld Z h23 q1 "com/example/referee/referee/logic/ltl/Pointer" "instance" "I" (.int (0 : Int32)) := D23 (Or.inr (own_g hw (i := 27) rfl)) (ty := .int) (by decide)
    refine own_S (mkF m 134 #[iv aa, iv bb, iv sx, iv ddd, iv ee, iv md, iv c1, iv k1, iv b1, iv t1, iv c2, iv k2, iv b2, iv t2, iv kd, rv p1, .unset, .unset, .unset, .unset] [(.ref q1)]) st23 ?_
    refine own_S (mkF m 135 #[iv aa, iv bb, iv sx, iv ddd, iv ee, iv md, iv c1, iv k1, iv b1, iv t1, iv c2, iv k2, iv b2, iv t2, iv kd, rv p1, .unset, .unset, .unset, .unset] [(.ref q1), (.ref q1)]) (fun _ k => XS.dup X23.here hx rfl (hb hby at_134) rfl rfl k) ?_
    refine own_S (mkF m 137 #[iv aa, iv bb, iv sx, iv ddd, iv ee, iv md, iv c1, iv k1, iv b1, iv t1, iv c2, iv k2, iv b2, iv t2, iv kd, rv p1, .unset, .unset, .unset, .unset] [(.int c2), (.ref q1), (.ref q1)]) (fun _ k => XS.iload X23.here hx rfl (hb hby at_135) rfl k) ?_
    refine own_S (mkF m 139 #[iv aa, iv bb, iv sx, iv ddd, iv ee, iv md, iv c1, iv k1, iv b1, iv t1, iv c2, iv k2, iv b2, iv t2, iv kd, rv p1, .unset, .unset, .unset, .unset] [(.int k2), (.int c2), (.ref q1), (.ref q1)]) (fun _ k => XS.iload X23.here hx rfl (hb hby at_137) rfl k) ?_
    obtain ⟨_, _, ⟨T39, L39, k39, n39⟩, -, X39, ⟨Lc39, hQ39, l39, y39, z39⟩, st39⟩ := X23.specialBack hx (y := own_y2) rfl hown (mvT hZ (own_g hw (i := 4) rfl)) (mvT hZ (own_g hw (i := 5) rfl)) (mvT hZ (own_g hw (i := 6) rfl)) (by decide) (backOf (W := 1) (own_rmp2 l Z a0 hw [] (q1) (c2) (k2) ((.int (0 : Int32))) ((.int (0 : Int32))) ((.int (0 : Int32))) ((.int (0 : Int32))) ((.int (0 : Int32))) h23 n0 Z23 A23 F34 F35 F36 F37 F38 ge_q1 n_c2 n_k2) hZ (own_g hw (i := 6) rfl) (own_g hw (i := 3) rfl) (by decide) (by decide)) (g := (mkF m 139 #[iv aa, iv bb, iv sx, iv ddd, iv ee, iv md, iv c1, iv k1, iv b1, iv t1, iv c2, iv k2, iv b2, iv t2, iv kd, rv p1, .unset, .unset, .unset, .unset] [(.int k2), (.int c2), (.ref q1), (.ref q1)])) rfl (by rw [hml]; rfl) (Steps.refl _) (a := q1) (argsL := [(.int c2), (.int k2)]) (rest := [(.ref q1)]) (lenOf own_pd__II_V rfl) rfl (by show 2 * 0 + _ ≤ _; exact Nat.le_of_eq rfl) (hb hby at_139) (fun _ _ => ⟨rfl, e23, (by decide : 2 + 0 ≤ _), (by decide : 10 + 0 ≤ _)⟩)
    dsimp only [Pt.U, Pt.locs, Pt.cells, Pt.slots] at X39 l39 y39 z39 st39 hQ39
    subst l39 y39 z39
    obtain ⟨rfl, N39q, K39q, F40, F41, F42, F43, F44, F45⟩ := hQ39
    have N39 := Fr.app N14 N39q
    refine own_S (mkF m 142 #[iv aa, iv bb, iv sx, iv ddd, iv ee, iv md, iv c1, iv k1, iv b1, iv t1, iv c2, iv k2, iv b2, iv t2, iv kd, rv p1, .unset, .unset, .unset, .unset] [(.ref q1)]) (fun _ k => st39.trans k) ?_
    have F46 := Sta_keep (n0 := 0) F26 K39q ((own_allS (old_plain F38) (fun _ q => nomatch q)))
    have F47 := F27.keep K39q
    have F48 := F28.keep K39q
    have F49 := F29.keep K39q (ninS n25 nin0)
    have F50 := F30.keep K39q (ninS n25 nin0)
    have F51 := F31.keep K39q (ninS n25 nin0)
    have F52 := F32.keep K39q (ninS n25 nin0)
    have F53 := F33.keep K39q (ninS n25 nin0)
    have Z39 : n0 ≤ T39.heap.size := Nat.le_trans Z23 K39q.1
    refine own_S (mkF m 144 #[iv aa, iv bb, iv sx, iv ddd, iv ee, iv md, iv c1, iv k1, iv b1, iv t1, iv c2, iv k2, iv b2, iv t2, iv kd, rv p1, rv q1, .unset, .unset, .unset] []) (fun _ k => XS.astore X39.here hx rfl (hb hby at_142) rfl rfl (l' := #[iv aa, iv bb, iv sx, iv ddd, iv ee, iv md, iv c1, iv k1, iv b1, iv t1, iv c2, iv k2, iv b2, iv t2, iv kd, rv p1, rv q1, .unset, .unset, .unset]) rfl k) ?_
    refine own_S (mkF m 146 #[iv aa, iv bb, iv sx, iv ddd, iv ee, iv md, iv c1, iv k1, iv b1, iv t1, iv c2, iv k2, iv b2, iv t2, iv kd, rv p1, rv q1, .unset, .unset, .unset] [(.int b2)]) (fun _ k => XS.iload X39.here hx rfl (hb hby at_144) rfl k) ?_
    by_cases hb2 : b2 = (0 : Int32)
    · -- b2 = (0 : Int32)
      refine own_S (mkF m 158 #[iv aa, iv bb, iv sx, iv ddd, iv ee, iv md, iv c1, iv k1, iv b1, iv t1, iv c2, iv k2, iv b2, iv t2, iv kd, rv p1, rv q1, .unset, .unset, .unset] []) (fun _ k => XS.ifYes X39.here hx rfl (pc0 := 146) (pc' := 158) rfl (hb hby at_146) rfl ((if0 _ _).trans (teq hb2).1) (by decide) (by decide) k) ?_
      refine own_S (mkF m 160 #[iv aa, iv bb, iv sx, iv ddd, iv ee, iv md, iv c1, iv k1, iv b1, iv t1, iv c2, iv k2, iv b2, iv t2, iv kd, rv p1, rv q1, .unset, .unset, .unset] [(.int kd)]) (fun _ k => XS.iload X39.here hx rfl (hb hby at_158) rfl k) ?_
      refine own_S (mkF m 161 #[iv aa, iv bb, iv sx, iv ddd, iv ee, iv md, iv c1, iv k1, iv b1, iv t1, iv c2, iv k2, iv b2, iv t2, iv kd, rv p1, rv q1, .unset, .unset, .unset] [(.int 2), (.int kd)]) (fun _ k => XS.iconst X39.here hx rfl (hb hby at_160) k) ?_
      by_cases hk2 : kd = (2 : Int32)
      · -- kd = (2 : Int32)
        refine own_S (mkF m 164 #[iv aa, iv bb, iv sx, iv ddd, iv ee, iv md, iv c1, iv k1, iv b1, iv t1, iv c2, iv k2, iv b2, iv t2, iv kd, rv p1, rv q1, .unset, .unset, .unset] []) (fun _ k => XS.icmpNo X39.here hx rfl (hb hby at_161) rfl (teq hk2).2 k) ?_
        refine own_S (mkF m 165 #[iv aa, iv bb, iv sx, iv ddd, iv ee, iv md, iv c1, iv k1, iv b1, iv t1, iv c2, iv k2, iv b2, iv t2, iv kd, rv p1, rv q1, .unset, .unset, .unset] [.null]) (fun _ k => XS.aconstNull X39.here hx rfl (hb hby at_164) k) ?_
        refine own_S (mkF m 167 #[iv aa, iv bb, iv sx, iv ddd, iv ee, iv md, iv c1, iv k1, iv b1, iv t1, iv c2, iv k2, iv b2, iv t2, iv kd, rv p1, rv q1, .val .null, .unset, .unset] []) (fun _ k => XS.astore X39.here hx rfl (hb hby at_165) rfl rfl (l' := #[iv aa, iv bb, iv sx, iv ddd, iv ee, iv md, iv c1, iv k1, iv b1, iv t1, iv c2, iv k2, iv b2, iv t2, iv kd, rv p1, rv q1, .val .null, .unset, .unset]) rfl k) ?_
        refine own_S (mkF m 188 #[iv aa, iv bb, iv sx, iv ddd, iv ee, iv md, iv c1, iv k1, iv b1, iv t1, iv c2, iv k2, iv b2, iv t2, iv kd, rv p1, rv q1, .val .null, .unset, .unset] []) (fun _ k => XS.goto X39.here hx rfl (pc0 := 167) (pc' := 188) rfl (hb hby at_167) (by decide) (by decide) k) ?_
        refine own_S (mkF m 190 #[iv aa, iv bb, iv sx, iv ddd, iv ee, iv md, iv c1, iv k1, iv b1, iv t1, iv c2, iv k2, iv b2, iv t2, iv kd, rv p1, rv q1, .val .null, .unset, .unset] [(.int kd)]) (fun _ k => XS.iload X39.here hx rfl (hb hby at_188) rfl k) ?_
        refine own_S (mkF m 191 #[iv aa, iv bb, iv sx, iv ddd, iv ee, iv md, iv c1, iv k1, iv b1, iv t1, iv c2, iv k2, iv b2, iv t2, iv kd, rv p1, rv q1, .val .null, .unset, .unset] [(.int 2), (.int kd)]) (fun _ k => XS.iconst X39.here hx rfl (hb hby at_190) k) ?_
        obtain ⟨xx, h_xx⟩ : ∃ z : Int32, z = (if kd < (2 : Int32) then (if c1 = c2 then (if k1 = k2 then (if b1 = b2 then (if b1 = (0 : Int32) then (1 : Int32) else (if t1 = t2 then (1 : Int32) else (0 : Int32))) else (0 : Int32)) else (0 : Int32)) else (0 : Int32)) else (0 : Int32)) := ⟨_, rfl⟩
        refine own_S (T' := T39) (mkF m 232 #[iv aa, iv bb, iv sx, iv ddd, iv ee, iv md, iv c1, iv k1, iv b1, iv t1, iv c2, iv k2, iv b2, iv t2, iv kd, rv p1, rv q1, .val .null, .unset, .unset] [(.int xx)]) (fun _ k => ?_) ?_
        ·
          by_cases hj54 : kd < (2 : Int32)
          ·
            refine own_s (mkF m 194 #[iv aa, iv bb, iv sx, iv ddd, iv ee, iv md, iv c1, iv k1, iv b1, iv t1, iv c2, iv k2, iv b2, iv t2, iv kd, rv p1, rv q1, .val .null, .unset, .unset] []) (fun _ k => XS.icmpNo X39.here hx rfl (hb hby at_191) rfl (tlt hj54).2.1 k) ?_
            refine own_s (mkF m 196 #[iv aa, iv bb, iv sx, iv ddd, iv ee, iv md, iv c1, iv k1, iv b1, iv t1, iv c2, iv k2, iv b2, iv t2, iv kd, rv p1, rv q1, .val .null, .unset, .unset] [(.int c1)]) (fun _ k => XS.iload X39.here hx rfl (hb hby at_194) rfl k) ?_
            refine own_s (mkF m 198 #[iv aa, iv bb, iv sx, iv ddd, iv ee, iv md, iv c1, iv k1, iv b1, iv t1, iv c2, iv k2, iv b2, iv t2, iv kd, rv p1, rv q1, .val .null, .unset, .unset] [(.int c2), (.int c1)]) (fun _ k => XS.iload X39.here hx rfl (hb hby at_196) rfl k) ?_
            by_cases hj55 : c1 = c2
            ·
              refine own_s (mkF m 201 #[iv aa, iv bb, iv sx, iv ddd, iv ee, iv md, iv c1, iv k1, iv b1, iv t1, iv c2, iv k2, iv b2, iv t2, iv kd, rv p1, rv q1, .val .null, .unset, .unset] []) (fun _ k => XS.icmpNo X39.here hx rfl (hb hby at_198) rfl (teq hj55).2 k) ?_
              refine own_s (mkF m 203 #[iv aa, iv bb, iv sx, iv ddd, iv ee, iv md, iv c1, iv k1, iv b1, iv t1, iv c2, iv k2, iv b2, iv t2, iv kd, rv p1, rv q1, .val .null, .unset, .unset] [(.int k1)]) (fun _ k => XS.iload X39.here hx rfl (hb hby at_201) rfl k) ?_
              refine own_s (mkF m 205 #[iv aa, iv bb, iv sx, iv ddd, iv ee, iv md, iv c1, iv k1, iv b1, iv t1, iv c2, iv k2, iv b2, iv t2, iv kd, rv p1, rv q1, .val .null, .unset, .unset] [(.int k2), (.int k1)]) (fun _ k => XS.iload X39.here hx rfl (hb hby at_203) rfl k) ?_
              by_cases hj56 : k1 = k2
              ·
                refine own_s (mkF m 208 #[iv aa, iv bb, iv sx, iv ddd, iv ee, iv md, iv c1, iv k1, iv b1, iv t1, iv c2, iv k2, iv b2, iv t2, iv kd, rv p1, rv q1, .val .null, .unset, .unset] []) (fun _ k => XS.icmpNo X39.here hx rfl (hb hby at_205) rfl (teq hj56).2 k) ?_
                refine own_s (mkF m 210 #[iv aa, iv bb, iv sx, iv ddd, iv ee, iv md, iv c1, iv k1, iv b1, iv t1, iv c2, iv k2, iv b2, iv t2, iv kd, rv p1, rv q1, .val .null, .unset, .unset] [(.int b1)]) (fun _ k => XS.iload X39.here hx rfl (hb hby at_208) rfl k) ?_
                refine own_s (mkF m 212 #[iv aa, iv bb, iv sx, iv ddd, iv ee, iv md, iv c1, iv k1, iv b1, iv t1, iv c2, iv k2, iv b2, iv t2, iv kd, rv p1, rv q1, .val .null, .unset, .unset] [(.int b2), (.int b1)]) (fun _ k => XS.iload X39.here hx rfl (hb hby at_210) rfl k) ?_
                by_cases hj57 : b1 = b2
                ·
                  refine own_s (mkF m 215 #[iv aa, iv bb, iv sx, iv ddd, iv ee, iv md, iv c1, iv k1, iv b1, iv t1, iv c2, iv k2, iv b2, iv t2, iv kd, rv p1, rv q1, .val .null, .unset, .unset] []) (fun _ k => XS.icmpNo X39.here hx rfl (hb hby at_212) rfl (teq hj57).2 k) ?_
                  refine own_s (mkF m 217 #[iv aa, iv bb, iv sx, iv ddd, iv ee, iv md, iv c1, iv k1, iv b1, iv t1, iv c2, iv k2, iv b2, iv t2, iv kd, rv p1, rv q1, .val .null, .unset, .unset] [(.int b1)]) (fun _ k => XS.iload X39.here hx rfl (hb hby at_215) rfl k) ?_
                  by_cases hj58 : b1 = (0 : Int32)
                  ·
                    refine own_s (mkF m 227 #[iv aa, iv bb, iv sx, iv ddd, iv ee, iv md, iv c1, iv k1, iv b1, iv t1, iv c2, iv k2, iv b2, iv t2, iv kd, rv p1, rv q1, .val .null, .unset, .unset] []) (fun _ k => XS.ifYes X39.here hx rfl (pc0 := 217) (pc' := 227) rfl (hb hby at_217) rfl ((if0 _ _).trans (teq hj58).1) (by decide) (by decide) k) ?_
                    refine own_s (mkF m 228 #[iv aa, iv bb, iv sx, iv ddd, iv ee, iv md, iv c1, iv k1, iv b1, iv t1, iv c2, iv k2, iv b2, iv t2, iv kd, rv p1, rv q1, .val .null, .unset, .unset] [(.int 1)]) (fun _ k => XS.iconst X39.here hx rfl (hb hby at_227) k) ?_
                    refine own_s (mkF m 232 #[iv aa, iv bb, iv sx, iv ddd, iv ee, iv md, iv c1, iv k1, iv b1, iv t1, iv c2, iv k2, iv b2, iv t2, iv kd, rv p1, rv q1, .val .null, .unset, .unset] [(.int 1)]) (fun _ k => XS.goto X39.here hx rfl (pc0 := 228) (pc' := 232) rfl (hb hby at_228) (by decide) (by decide) k) ?_
                    rw [show xx = (1 : Int32) from by rw [h_xx, if_pos hj54, if_pos hj55, if_pos hj56, if_pos hj57, if_pos hj58]] at k
                    exact k
                  ·
                    refine own_s (mkF m 220 #[iv aa, iv bb, iv sx, iv ddd, iv ee, iv md, iv c1, iv k1, iv b1, iv t1, iv c2, iv k2, iv b2, iv t2, iv kd, rv p1, rv q1, .val .null, .unset, .unset] []) (fun _ k => XS.ifNo X39.here hx rfl (hb hby at_217) rfl ((if0 _ _).trans (feq hj58).1) k) ?_
                    refine own_s (mkF m 222 #[iv aa, iv bb, iv sx, iv ddd, iv ee, iv md, iv c1, iv k1, iv b1, iv t1, iv c2, iv k2, iv b2, iv t2, iv kd, rv p1, rv q1, .val .null, .unset, .unset] [(.int t1)]) (fun _ k => XS.iload X39.here hx rfl (hb hby at_220) rfl k) ?_
                    refine own_s (mkF m 224 #[iv aa, iv bb, iv sx, iv ddd, iv ee, iv md, iv c1, iv k1, iv b1, iv t1, iv c2, iv k2, iv b2, iv t2, iv kd, rv p1, rv q1, .val .null, .unset, .unset] [(.int t2), (.int t1)]) (fun _ k => XS.iload X39.here hx rfl (hb hby at_222) rfl k) ?_
                    by_cases hj59 : t1 = t2
                    ·
                      refine own_s (mkF m 227 #[iv aa, iv bb, iv sx, iv ddd, iv ee, iv md, iv c1, iv k1, iv b1, iv t1, iv c2, iv k2, iv b2, iv t2, iv kd, rv p1, rv q1, .val .null, .unset, .unset] []) (fun _ k => XS.icmpNo X39.here hx rfl (hb hby at_224) rfl (teq hj59).2 k) ?_
                      refine own_s (mkF m 228 #[iv aa, iv bb, iv sx, iv ddd, iv ee, iv md, iv c1, iv k1, iv b1, iv t1, iv c2, iv k2, iv b2, iv t2, iv kd, rv p1, rv q1, .val .null, .unset, .unset] [(.int 1)]) (fun _ k => XS.iconst X39.here hx rfl (hb hby at_227) k) ?_
                      refine own_s (mkF m 232 #[iv aa, iv bb, iv sx, iv ddd, iv ee, iv md, iv c1, iv k1, iv b1, iv t1, iv c2, iv k2, iv b2, iv t2, iv kd, rv p1, rv q1, .val .null, .unset, .unset] [(.int 1)]) (fun _ k => XS.goto X39.here hx rfl (pc0 := 228) (pc' := 232) rfl (hb hby at_228) (by decide) (by decide) k) ?_
                      rw [show xx = (1 : Int32) from by rw [h_xx, if_pos hj54, if_pos hj55, if_pos hj56, if_pos hj57, if_neg hj58, if_pos hj59]] at k
                      exact k
                    ·
                      refine own_s (mkF m 231 #[iv aa, iv bb, iv sx, iv ddd, iv ee, iv md, iv c1, iv k1, iv b1, iv t1, iv c2, iv k2, iv b2, iv t2, iv kd, rv p1, rv q1, .val .null, .unset, .unset] []) (fun _ k => XS.icmpYes X39.here hx rfl (pc0 := 224) (pc' := 231) rfl (hb hby at_224) rfl (feq hj59).2 (by decide) (by decide) k) ?_
                      refine own_s (mkF m 232 #[iv aa, iv bb, iv sx, iv ddd, iv ee, iv md, iv c1, iv k1, iv b1, iv t1, iv c2, iv k2, iv b2, iv t2, iv kd, rv p1, rv q1, .val .null, .unset, .unset] [(.int 0)]) (fun _ k => XS.iconst X39.here hx rfl (hb hby at_231) k) ?_
                      rw [show xx = (0 : Int32) from by rw [h_xx, if_pos hj54, if_pos hj55, if_pos hj56, if_pos hj57, if_neg hj58, if_neg hj59]] at k
                      exact k
                ·
                  refine own_s (mkF m 231 #[iv aa, iv bb, iv sx, iv ddd, iv ee, iv md, iv c1, iv k1, iv b1, iv t1, iv c2, iv k2, iv b2, iv t2, iv kd, rv p1, rv q1, .val .null, .unset, .unset] []) (fun _ k => XS.icmpYes X39.here hx rfl (pc0 := 212) (pc' := 231) rfl (hb hby at_212) rfl (feq hj57).2 (by decide) (by decide) k) ?_
                  refine own_s (mkF m 232 #[iv aa, iv bb, iv sx, iv ddd, iv ee, iv md, iv c1, iv k1, iv b1, iv t1, iv c2, iv k2, iv b2, iv t2, iv kd, rv p1, rv q1, .val .null, .unset, .unset] [(.int 0)]) (fun _ k => XS.iconst X39.here hx rfl (hb hby at_231) k) ?_
                  rw [show xx = (0 : Int32) from by rw [h_xx, if_pos hj54, if_pos hj55, if_pos hj56, if_neg hj57]] at k
                  exact k
              ·
                refine own_s (mkF m 231 #[iv aa, iv bb, iv sx, iv ddd, iv ee, iv md, iv c1, iv k1, iv b1, iv t1, iv c2, iv k2, iv b2, iv t2, iv kd, rv p1, rv q1, .val .null, .unset, .unset] []) (fun _ k => XS.icmpYes X39.here hx rfl (pc0 := 205) (pc' := 231) rfl (hb hby at_205) rfl (feq hj56).2 (by decide) (by decide) k) ?_
                refine own_s (mkF m 232 #[iv aa, iv bb, iv sx, iv ddd, iv ee, iv md, iv c1, iv k1, iv b1, iv t1, iv c2, iv k2, iv b2, iv t2, iv kd, rv p1, rv q1, .val .null, .unset, .unset] [(.int 0)]) (fun _ k => XS.iconst X39.here hx rfl (hb hby at_231) k) ?_
                rw [show xx = (0 : Int32) from by rw [h_xx, if_pos hj54, if_pos hj55, if_neg hj56]] at k
                exact k
            ·
              refine own_s (mkF m 231 #[iv aa, iv bb, iv sx, iv ddd, iv ee, iv md, iv c1, iv k1, iv b1, iv t1, iv c2, iv k2, iv b2, iv t2, iv kd, rv p1, rv q1, .val .null, .unset, .unset] []) (fun _ k => XS.icmpYes X39.here hx rfl (pc0 := 198) (pc' := 231) rfl (hb hby at_198) rfl (feq hj55).2 (by decide) (by decide) k) ?_
              refine own_s (mkF m 232 #[iv aa, iv bb, iv sx, iv ddd, iv ee, iv md, iv c1, iv k1, iv b1, iv t1, iv c2, iv k2, iv b2, iv t2, iv kd, rv p1, rv q1, .val .null, .unset, .unset] [(.int 0)]) (fun _ k => XS.iconst X39.here hx rfl (hb hby at_231) k) ?_
              rw [show xx = (0 : Int32) from by rw [h_xx, if_pos hj54, if_neg hj55]] at k
              exact k
          ·
            refine own_s (mkF m 231 #[iv aa, iv bb, iv sx, iv ddd, iv ee, iv md, iv c1, iv k1, iv b1, iv t1, iv c2, iv k2, iv b2, iv t2, iv kd, rv p1, rv q1, .val .null, .unset, .unset] []) (fun _ k => XS.icmpYes X39.here hx rfl (pc0 := 191) (pc' := 231) rfl (hb hby at_191) rfl (flt hj54).2.1 (by decide) (by decide) k) ?_
            refine own_s (mkF m 232 #[iv aa, iv bb, iv sx, iv ddd, iv ee, iv md, iv c1, iv k1, iv b1, iv t1, iv c2, iv k2, iv b2, iv t2, iv kd, rv p1, rv q1, .val .null, .unset, .unset] [(.int 0)]) (fun _ k => XS.iconst X39.here hx rfl (hb hby at_231) k) ?_
            rw [show xx = (0 : Int32) from by rw [h_xx, if_neg hj54]] at k
            exact k
        refine own_S (mkF m 234 #[iv aa, iv bb, iv sx, iv ddd, iv ee, iv md, iv c1, iv k1, iv b1, iv t1, iv c2, iv k2, iv b2, iv t2, iv kd, rv p1, rv q1, .val .null, iv xx, .unset] []) (fun _ k => XS.istore X39.here hx rfl (hb hby at_232) rfl (l' := #[iv aa, iv bb, iv sx, iv ddd, iv ee, iv md, iv c1, iv k1, iv b1, iv t1, iv c2, iv k2, iv b2, iv t2, iv kd, rv p1, rv q1, .val .null, iv xx, .unset]) rfl k) ?_
        refine own_S (mkF m 236 #[iv aa, iv bb, iv sx, iv ddd, iv ee, iv md, iv c1, iv k1, iv b1, iv t1, iv c2, iv k2, iv b2, iv t2, iv kd, rv p1, rv q1, .val .null, iv xx, .unset] [(.ref p1)]) (fun _ k => XS.aload X39.here hx rfl (hb hby at_234) rfl rfl k) ?_
        refine own_S (mkF m 238 #[iv aa, iv bb, iv sx, iv ddd, iv ee, iv md, iv c1, iv k1, iv b1, iv t1, iv c2, iv k2, iv b2, iv t2, iv kd, rv p1, rv q1, .val .null, iv xx, .unset] [.null, (.ref p1)]) (fun _ k => XS.aload X39.here hx rfl (hb hby at_236) rfl rfl k) ?_
        obtain ⟨cq60, kq60, q60a, q60b, q60c⟩ := isOf hZ rfl F48
        obtain ⟨_, _, ⟨T60, L60, k60, n60⟩, -, X60, ⟨Lc60, hQ60, l60, y60, z60⟩, st60⟩ := X39.virtualBack hx (y := own_y4) (z := own_y4) hown (mvT hZ (own_g hw (i := 34) rfl)) (mvT hZ (own_g hw (i := 35) rfl)) (notFace_of_selects (args := #[]) (mvT hZ (own_g hw (i := 37) rfl))) (mvT hZ (own_g hw (i := 37) rfl)) (mvT hZ (own_g hw (i := 36) rfl)) (by decide) (backOf (W := 0) (own_rmen l Z a0 hw [] (p1) T39.heap n0 Z39 ) hZ (own_g hw (i := 38) rfl) (own_g hw (i := 3) rfl) (by decide) (by decide)) q60a q60c (g := (mkF m 238 #[iv aa, iv bb, iv sx, iv ddd, iv ee, iv md, iv c1, iv k1, iv b1, iv t1, iv c2, iv k2, iv b2, iv t2, iv kd, rv p1, rv q1, .val .null, iv xx, .unset] [.null, (.ref p1)])) rfl (by rw [hml]; rfl) (Steps.refl _) (argsL := [.null]) (rest := []) (lenOf own_pd__Ljava_lang_Object__Z rfl) rfl (by show 2 * 0 + _ ≤ _; exact Nat.le_of_eq rfl) (hb hby at_238) (fun _ _ => ⟨rfl, rfl, (by decide : 2 + 0 ≤ _), (by decide : 10 + 0 ≤ _)⟩)
        dsimp only [Pt.U, Pt.locs, Pt.cells, Pt.slots] at X60 l60 y60 z60 st60 hQ60
        subst l60 y60 z60
        obtain ⟨rfl, N60q, e60⟩ := hQ60
        have N60 := Fr.app N39 N60q
        refine own_S (mkF m 241 #[iv aa, iv bb, iv sx, iv ddd, iv ee, iv md, iv c1, iv k1, iv b1, iv t1, iv c2, iv k2, iv b2, iv t2, iv kd, rv p1, rv q1, .val .null, iv xx, .unset] [(.int 0)]) (fun _ k => st60.trans k) ?_
        refine own_S (mkF m 243 #[iv aa, iv bb, iv sx, iv ddd, iv ee, iv md, iv c1, iv k1, iv b1, iv t1, iv c2, iv k2, iv b2, iv t2, iv kd, rv p1, rv q1, .val .null, iv xx, .unset] [(.int xx), (.int 0)]) (fun _ k => XS.iload X60.here hx rfl (hb hby at_241) rfl k) ?_
        obtain ⟨ok, h_ok⟩ : ∃ z : Int32, z = (if (0 : Int32) = xx then (1 : Int32) else (0 : Int32)) := ⟨_, rfl⟩
        refine own_S (T' := T60) (mkF m 251 #[iv aa, iv bb, iv sx, iv ddd, iv ee, iv md, iv c1, iv k1, iv b1, iv t1, iv c2, iv k2, iv b2, iv t2, iv kd, rv p1, rv q1, .val .null, iv xx, .unset] [(.int ok)]) (fun _ k => ?_) ?_
        ·
          by_cases hj61 : (0 : Int32) = xx
          ·
            refine own_s (mkF m 246 #[iv aa, iv bb, iv sx, iv ddd, iv ee, iv md, iv c1, iv k1, iv b1, iv t1, iv c2, iv k2, iv b2, iv t2, iv kd, rv p1, rv q1, .val .null, iv xx, .unset] []) (fun _ k => XS.icmpNo X60.here hx rfl (hb hby at_243) rfl (teq hj61).2 k) ?_
            refine own_s (mkF m 247 #[iv aa, iv bb, iv sx, iv ddd, iv ee, iv md, iv c1, iv k1, iv b1, iv t1, iv c2, iv k2, iv b2, iv t2, iv kd, rv p1, rv q1, .val .null, iv xx, .unset] [(.int 1)]) (fun _ k => XS.iconst X60.here hx rfl (hb hby at_246) k) ?_
            refine own_s (mkF m 251 #[iv aa, iv bb, iv sx, iv ddd, iv ee, iv md, iv c1, iv k1, iv b1, iv t1, iv c2, iv k2, iv b2, iv t2, iv kd, rv p1, rv q1, .val .null, iv xx, .unset] [(.int 1)]) (fun _ k => XS.goto X60.here hx rfl (pc0 := 247) (pc' := 251) rfl (hb hby at_247) (by decide) (by decide) k) ?_
            rw [show ok = (1 : Int32) from by rw [h_ok, if_pos hj61]] at k
            exact k
          ·
            refine own_s (mkF m 250 #[iv aa, iv bb, iv sx, iv ddd, iv ee, iv md, iv c1, iv k1, iv b1, iv t1, iv c2, iv k2, iv b2, iv t2, iv kd, rv p1, rv q1, .val .null, iv xx, .unset] []) (fun _ k => XS.icmpYes X60.here hx rfl (pc0 := 243) (pc' := 250) rfl (hb hby at_243) rfl (feq hj61).2 (by decide) (by decide) k) ?_
            refine own_s (mkF m 251 #[iv aa, iv bb, iv sx, iv ddd, iv ee, iv md, iv c1, iv k1, iv b1, iv t1, iv c2, iv k2, iv b2, iv t2, iv kd, rv p1, rv q1, .val .null, iv xx, .unset] [(.int 0)]) (fun _ k => XS.iconst X60.here hx rfl (hb hby at_250) k) ?_
            rw [show ok = (0 : Int32) from by rw [h_ok, if_neg hj61]] at k
            exact k
        refine own_S (mkF m 253 #[iv aa, iv bb, iv sx, iv ddd, iv ee, iv md, iv c1, iv k1, iv b1, iv t1, iv c2, iv k2, iv b2, iv t2, iv kd, rv p1, rv q1, .val .null, iv xx, iv ok] []) (fun _ k => XS.istore X60.here hx rfl (hb hby at_251) rfl (l' := #[iv aa, iv bb, iv sx, iv ddd, iv ee, iv md, iv c1, iv k1, iv b1, iv t1, iv c2, iv k2, iv b2, iv t2, iv kd, rv p1, rv q1, .val .null, iv xx, iv ok]) rfl k) ?_
        refine own_S (mkF m 255 #[iv aa, iv bb, iv sx, iv ddd, iv ee, iv md, iv c1, iv k1, iv b1, iv t1, iv c2, iv k2, iv b2, iv t2, iv kd, rv p1, rv q1, .val .null, iv xx, iv ok] [(.int kd)]) (fun _ k => XS.iload X60.here hx rfl (hb hby at_253) rfl k) ?_
        refine own_S (mkF m 256 #[iv aa, iv bb, iv sx, iv ddd, iv ee, iv md, iv c1, iv k1, iv b1, iv t1, iv c2, iv k2, iv b2, iv t2, iv kd, rv p1, rv q1, .val .null, iv xx, iv ok] [(.int 2), (.int kd)]) (fun _ k => XS.iconst X60.here hx rfl (hb hby at_255) k) ?_
        have hc62 : ¬ (kd < (2 : Int32)) := (by rw [hk2]; decide)
        refine own_S (mkF m 283 #[iv aa, iv bb, iv sx, iv ddd, iv ee, iv md, iv c1, iv k1, iv b1, iv t1, iv c2, iv k2, iv b2, iv t2, iv kd, rv p1, rv q1, .val .null, iv xx, iv ok] []) (fun _ k => XS.icmpYes X60.here hx rfl (pc0 := 256) (pc' := 283) rfl (hb hby at_256) rfl (flt hc62).2.1 (by decide) (by decide) k) ?_
        refine own_S (mkF m 285 #[iv aa, iv bb, iv sx, iv ddd, iv ee, iv md, iv c1, iv k1, iv b1, iv t1, iv c2, iv k2, iv b2, iv t2, iv kd, rv p1, rv q1, .val .null, iv xx, iv ok] [(.int ok)]) (fun _ k => XS.iload X60.here hx rfl (hb hby at_283) rfl k) ?_
        exact own_retN X60 hx hlk (t := .boolean) hret (by simp) (hb hby at_285) (by rw [e60]; exact ⟨(by rw [h_ok, h_xx, if_neg (show ¬ kd < (2 : Int32) by rw [hk2]; decide), if_pos rfl]; rfl), N60, trivial⟩) (by decide) (by decide)
      · -- not kd = (2 : Int32)
        refine own_S (mkF m 170 #[iv aa, iv bb, iv sx, iv ddd, iv ee, iv md, iv c1, iv k1, iv b1, iv t1, iv c2, iv k2, iv b2, iv t2, iv kd, rv p1, rv q1, .unset, .unset, .unset] []) (fun _ k => XS.icmpYes X39.here hx rfl (pc0 := 161) (pc' := 170) rfl (hb hby at_161) rfl (feq hk2).2 (by decide) (by decide) k) ?_
        refine own_S (mkF m 172 #[iv aa, iv bb, iv sx, iv ddd, iv ee, iv md, iv c1, iv k1, iv b1, iv t1, iv c2, iv k2, iv b2, iv t2, iv kd, rv p1, rv q1, .unset, .unset, .unset] [(.int kd)]) (fun _ k => XS.iload X39.here hx rfl (hb hby at_170) rfl k) ?_
        refine own_S (mkF m 173 #[iv aa, iv bb, iv sx, iv ddd, iv ee, iv md, iv c1, iv k1, iv b1, iv t1, iv c2, iv k2, iv b2, iv t2, iv kd, rv p1, rv q1, .unset, .unset, .unset] [(.int 3), (.int kd)]) (fun _ k => XS.iconst X39.here hx rfl (hb hby at_172) k) ?_
        by_cases hk3 : kd = (3 : Int32)
        · -- kd = (3 : Int32)
          refine own_S (mkF m 176 #[iv aa, iv bb, iv sx, iv ddd, iv ee, iv md, iv c1, iv k1, iv b1, iv t1, iv c2, iv k2, iv b2, iv t2, iv kd, rv p1, rv q1, .unset, .unset, .unset] []) (fun _ k => XS.icmpNo X39.here hx rfl (hb hby at_173) rfl (teq hk3).2 k) ?_
          obtain ⟨T63, X63, e63, st63⟩ := getS (host := "") X39 hx hZ hown (own_g hw (i := 40) rfl) Via.refl rfl F46 (g := (mkF m 176 #[iv aa, iv bb, iv sx, iv ddd, iv ee, iv md, iv c1, iv k1, iv b1, iv t1, iv c2, iv k2, iv b2, iv t2, iv kd, rv p1, rv q1, .unset, .unset, .unset] [])) rfl (hb hby at_176)
          refine own_S (mkF m 179 #[iv aa, iv bb, iv sx, iv ddd, iv ee, iv md, iv c1, iv k1, iv b1, iv t1, iv c2, iv k2, iv b2, iv t2, iv kd, rv p1, rv q1, .unset, .unset, .unset] [(.ref ct)]) st63 ?_
          refine own_S (mkF m 181 #[iv aa, iv bb, iv sx, iv ddd, iv ee, iv md, iv c1, iv k1, iv b1, iv t1, iv c2, iv k2, iv b2, iv t2, iv kd, rv p1, rv q1, rv ct, .unset, .unset] []) (fun _ k => XS.astore X63.here hx rfl (hb hby at_179) rfl rfl (l' := #[iv aa, iv bb, iv sx, iv ddd, iv ee, iv md, iv c1, iv k1, iv b1, iv t1, iv c2, iv k2, iv b2, iv t2, iv kd, rv p1, rv q1, rv ct, .unset, .unset]) rfl k) ?_
          refine own_S (mkF m 188 #[iv aa, iv bb, iv sx, iv ddd, iv ee, iv md, iv c1, iv k1, iv b1, iv t1, iv c2, iv k2, iv b2, iv t2, iv kd, rv p1, rv q1, rv ct, .unset, .unset] []) (fun _ k => XS.goto X63.here hx rfl (pc0 := 181) (pc' := 188) rfl (hb hby at_181) (by decide) (by decide) k) ?_
          refine own_S (mkF m 190 #[iv aa, iv bb, iv sx, iv ddd, iv ee, iv md, iv c1, iv k1, iv b1, iv t1, iv c2, iv k2, iv b2, iv t2, iv kd, rv p1, rv q1, rv ct, .unset, .unset] [(.int kd)]) (fun _ k => XS.iload X63.here hx rfl (hb hby at_188) rfl k) ?_
          refine own_S (mkF m 191 #[iv aa, iv bb, iv sx, iv ddd, iv ee, iv md, iv c1, iv k1, iv b1, iv t1, iv c2, iv k2, iv b2, iv t2, iv kd, rv p1, rv q1, rv ct, .unset, .unset] [(.int 2), (.int kd)]) (fun _ k => XS.iconst X63.here hx rfl (hb hby at_190) k) ?_
          obtain ⟨xx, h_xx⟩ : ∃ z : Int32, z = (if kd < (2 : Int32) then (if c1 = c2 then (if k1 = k2 then (if b1 = b2 then (if b1 = (0 : Int32) then (1 : Int32) else (if t1 = t2 then (1 : Int32) else (0 : Int32))) else (0 : Int32)) else (0 : Int32)) else (0 : Int32)) else (0 : Int32)) := ⟨_, rfl⟩
          refine own_S (T' := T63) (mkF m 232 #[iv aa, iv bb, iv sx, iv ddd, iv ee, iv md, iv c1, iv k1, iv b1, iv t1, iv c2, iv k2, iv b2, iv t2, iv kd, rv p1, rv q1, rv ct, .unset, .unset] [(.int xx)]) (fun _ k => ?_) ?_
          ·
            by_cases hj64 : kd < (2 : Int32)
            ·
              refine own_s (mkF m 194 #[iv aa, iv bb, iv sx, iv ddd, iv ee, iv md, iv c1, iv k1, iv b1, iv t1, iv c2, iv k2, iv b2, iv t2, iv kd, rv p1, rv q1, rv ct, .unset, .unset] []) (fun _ k => XS.icmpNo X63.here hx rfl (hb hby at_191) rfl (tlt hj64).2.1 k) ?_
              refine own_s (mkF m 196 #[iv aa, iv bb, iv sx, iv ddd, iv ee, iv md, iv c1, iv k1, iv b1, iv t1, iv c2, iv k2, iv b2, iv t2, iv kd, rv p1, rv q1, rv ct, .unset, .unset] [(.int c1)]) (fun _ k => XS.iload X63.here hx rfl (hb hby at_194) rfl k) ?_
              refine own_s (mkF m 198 #[iv aa, iv bb, iv sx, iv ddd, iv ee, iv md, iv c1, iv k1, iv b1, iv t1, iv c2, iv k2, iv b2, iv t2, iv kd, rv p1, rv q1, rv ct, .unset, .unset] [(.int c2), (.int c1)]) (fun _ k => XS.iload X63.here hx rfl (hb hby at_196) rfl k) ?_
              by_cases hj65 : c1 = c2
              ·
                refine own_s (mkF m 201 #[iv aa, iv bb, iv sx, iv ddd, iv ee, iv md, iv c1, iv k1, iv b1, iv t1, iv c2, iv k2, iv b2, iv t2, iv kd, rv p1, rv q1, rv ct, .unset, .unset] []) (fun _ k => XS.icmpNo X63.here hx rfl (hb hby at_198) rfl (teq hj65).2 k) ?_
                refine own_s (mkF m 203 #[iv aa, iv bb, iv sx, iv ddd, iv ee, iv md, iv c1, iv k1, iv b1, iv t1, iv c2, iv k2, iv b2, iv t2, iv kd, rv p1, rv q1, rv ct, .unset, .unset] [(.int k1)]) (fun _ k => XS.iload X63.here hx rfl (hb hby at_201) rfl k) ?_
                refine own_s (mkF m 205 #[iv aa, iv bb, iv sx, iv ddd, iv ee, iv md, iv c1, iv k1, iv b1, iv t1, iv c2, iv k2, iv b2, iv t2, iv kd, rv p1, rv q1, rv ct, .unset, .unset] [(.int k2), (.int k1)]) (fun _ k => XS.iload X63.here hx rfl (hb hby at_203) rfl k) ?_
                by_cases hj66 : k1 = k2
                ·
                  refine own_s (mkF m 208 #[iv aa, iv bb, iv sx, iv ddd, iv ee, iv md, iv c1, iv k1, iv b1, iv t1, iv c2, iv k2, iv b2, iv t2, iv kd, rv p1, rv q1, rv ct, .unset, .unset] []) (fun _ k => XS.icmpNo X63.here hx rfl (hb hby at_205) rfl (teq hj66).2 k) ?_
                  refine own_s (mkF m 210 #[iv aa, iv bb, iv sx, iv ddd, iv ee, iv md, iv c1, iv k1, iv b1, iv t1, iv c2, iv k2, iv b2, iv t2, iv kd, rv p1, rv q1, rv ct, .unset, .unset] [(.int b1)]) (fun _ k => XS.iload X63.here hx rfl (hb hby at_208) rfl k) ?_
                  refine own_s (mkF m 212 #[iv aa, iv bb, iv sx, iv ddd, iv ee, iv md, iv c1, iv k1, iv b1, iv t1, iv c2, iv k2, iv b2, iv t2, iv kd, rv p1, rv q1, rv ct, .unset, .unset] [(.int b2), (.int b1)]) (fun _ k => XS.iload X63.here hx rfl (hb hby at_210) rfl k) ?_
                  by_cases hj67 : b1 = b2
                  ·
                    refine own_s (mkF m 215 #[iv aa, iv bb, iv sx, iv ddd, iv ee, iv md, iv c1, iv k1, iv b1, iv t1, iv c2, iv k2, iv b2, iv t2, iv kd, rv p1, rv q1, rv ct, .unset, .unset] []) (fun _ k => XS.icmpNo X63.here hx rfl (hb hby at_212) rfl (teq hj67).2 k) ?_
                    refine own_s (mkF m 217 #[iv aa, iv bb, iv sx, iv ddd, iv ee, iv md, iv c1, iv k1, iv b1, iv t1, iv c2, iv k2, iv b2, iv t2, iv kd, rv p1, rv q1, rv ct, .unset, .unset] [(.int b1)]) (fun _ k => XS.iload X63.here hx rfl (hb hby at_215) rfl k) ?_
                    by_cases hj68 : b1 = (0 : Int32)
                    ·
                      refine own_s (mkF m 227 #[iv aa, iv bb, iv sx, iv ddd, iv ee, iv md, iv c1, iv k1, iv b1, iv t1, iv c2, iv k2, iv b2, iv t2, iv kd, rv p1, rv q1, rv ct, .unset, .unset] []) (fun _ k => XS.ifYes X63.here hx rfl (pc0 := 217) (pc' := 227) rfl (hb hby at_217) rfl ((if0 _ _).trans (teq hj68).1) (by decide) (by decide) k) ?_
                      refine own_s (mkF m 228 #[iv aa, iv bb, iv sx, iv ddd, iv ee, iv md, iv c1, iv k1, iv b1, iv t1, iv c2, iv k2, iv b2, iv t2, iv kd, rv p1, rv q1, rv ct, .unset, .unset] [(.int 1)]) (fun _ k => XS.iconst X63.here hx rfl (hb hby at_227) k) ?_
                      refine own_s (mkF m 232 #[iv aa, iv bb, iv sx, iv ddd, iv ee, iv md, iv c1, iv k1, iv b1, iv t1, iv c2, iv k2, iv b2, iv t2, iv kd, rv p1, rv q1, rv ct, .unset, .unset] [(.int 1)]) (fun _ k => XS.goto X63.here hx rfl (pc0 := 228) (pc' := 232) rfl (hb hby at_228) (by decide) (by decide) k) ?_
                      rw [show xx = (1 : Int32) from by rw [h_xx, if_pos hj64, if_pos hj65, if_pos hj66, if_pos hj67, if_pos hj68]] at k
                      exact k
                    ·
                      refine own_s (mkF m 220 #[iv aa, iv bb, iv sx, iv ddd, iv ee, iv md, iv c1, iv k1, iv b1, iv t1, iv c2, iv k2, iv b2, iv t2, iv kd, rv p1, rv q1, rv ct, .unset, .unset] []) (fun _ k => XS.ifNo X63.here hx rfl (hb hby at_217) rfl ((if0 _ _).trans (feq hj68).1) k) ?_
                      refine own_s (mkF m 222 #[iv aa, iv bb, iv sx, iv ddd, iv ee, iv md, iv c1, iv k1, iv b1, iv t1, iv c2, iv k2, iv b2, iv t2, iv kd, rv p1, rv q1, rv ct, .unset, .unset] [(.int t1)]) (fun _ k => XS.iload X63.here hx rfl (hb hby at_220) rfl k) ?_
                      refine own_s (mkF m 224 #[iv aa, iv bb, iv sx, iv ddd, iv ee, iv md, iv c1, iv k1, iv b1, iv t1, iv c2, iv k2, iv b2, iv t2, iv kd, rv p1, rv q1, rv ct, .unset, .unset] [(.int t2), (.int t1)]) (fun _ k => XS.iload X63.here hx rfl (hb hby at_222) rfl k) ?_
                      by_cases hj69 : t1 = t2
                      ·
                        refine own_s (mkF m 227 #[iv aa, iv bb, iv sx, iv ddd, iv ee, iv md, iv c1, iv k1, iv b1, iv t1, iv c2, iv k2, iv b2, iv t2, iv kd, rv p1, rv q1, rv ct, .unset, .unset] []) (fun _ k => XS.icmpNo X63.here hx rfl (hb hby at_224) rfl (teq hj69).2 k) ?_
                        refine own_s (mkF m 228 #[iv aa, iv bb, iv sx, iv ddd, iv ee, iv md, iv c1, iv k1, iv b1, iv t1, iv c2, iv k2, iv b2, iv t2, iv kd, rv p1, rv q1, rv ct, .unset, .unset] [(.int 1)]) (fun _ k => XS.iconst X63.here hx rfl (hb hby at_227) k) ?_
                        refine own_s (mkF m 232 #[iv aa, iv bb, iv sx, iv ddd, iv ee, iv md, iv c1, iv k1, iv b1, iv t1, iv c2, iv k2, iv b2, iv t2, iv kd, rv p1, rv q1, rv ct, .unset, .unset] [(.int 1)]) (fun _ k => XS.goto X63.here hx rfl (pc0 := 228) (pc' := 232) rfl (hb hby at_228) (by decide) (by decide) k) ?_
                        rw [show xx = (1 : Int32) from by rw [h_xx, if_pos hj64, if_pos hj65, if_pos hj66, if_pos hj67, if_neg hj68, if_pos hj69]] at k
                        exact k
                      ·
                        refine own_s (mkF m 231 #[iv aa, iv bb, iv sx, iv ddd, iv ee, iv md, iv c1, iv k1, iv b1, iv t1, iv c2, iv k2, iv b2, iv t2, iv kd, rv p1, rv q1, rv ct, .unset, .unset] []) (fun _ k => XS.icmpYes X63.here hx rfl (pc0 := 224) (pc' := 231) rfl (hb hby at_224) rfl (feq hj69).2 (by decide) (by decide) k) ?_
                        refine own_s (mkF m 232 #[iv aa, iv bb, iv sx, iv ddd, iv ee, iv md, iv c1, iv k1, iv b1, iv t1, iv c2, iv k2, iv b2, iv t2, iv kd, rv p1, rv q1, rv ct, .unset, .unset] [(.int 0)]) (fun _ k => XS.iconst X63.here hx rfl (hb hby at_231) k) ?_
                        rw [show xx = (0 : Int32) from by rw [h_xx, if_pos hj64, if_pos hj65, if_pos hj66, if_pos hj67, if_neg hj68, if_neg hj69]] at k
                        exact k
                  ·
                    refine own_s (mkF m 231 #[iv aa, iv bb, iv sx, iv ddd, iv ee, iv md, iv c1, iv k1, iv b1, iv t1, iv c2, iv k2, iv b2, iv t2, iv kd, rv p1, rv q1, rv ct, .unset, .unset] []) (fun _ k => XS.icmpYes X63.here hx rfl (pc0 := 212) (pc' := 231) rfl (hb hby at_212) rfl (feq hj67).2 (by decide) (by decide) k) ?_
                    refine own_s (mkF m 232 #[iv aa, iv bb, iv sx, iv ddd, iv ee, iv md, iv c1, iv k1, iv b1, iv t1, iv c2, iv k2, iv b2, iv t2, iv kd, rv p1, rv q1, rv ct, .unset, .unset] [(.int 0)]) (fun _ k => XS.iconst X63.here hx rfl (hb hby at_231) k) ?_
                    rw [show xx = (0 : Int32) from by rw [h_xx, if_pos hj64, if_pos hj65, if_pos hj66, if_neg hj67]] at k
                    exact k
                ·
                  refine own_s (mkF m 231 #[iv aa, iv bb, iv sx, iv ddd, iv ee, iv md, iv c1, iv k1, iv b1, iv t1, iv c2, iv k2, iv b2, iv t2, iv kd, rv p1, rv q1, rv ct, .unset, .unset] []) (fun _ k => XS.icmpYes X63.here hx rfl (pc0 := 205) (pc' := 231) rfl (hb hby at_205) rfl (feq hj66).2 (by decide) (by decide) k) ?_
                  refine own_s (mkF m 232 #[iv aa, iv bb, iv sx, iv ddd, iv ee, iv md, iv c1, iv k1, iv b1, iv t1, iv c2, iv k2, iv b2, iv t2, iv kd, rv p1, rv q1, rv ct, .unset, .unset] [(.int 0)]) (fun _ k => XS.iconst X63.here hx rfl (hb hby at_231) k) ?_
                  rw [show xx = (0 : Int32) from by rw [h_xx, if_pos hj64, if_pos hj65, if_neg hj66]] at k
                  exact k
              ·
                refine own_s (mkF m 231 #[iv aa, iv bb, iv sx, iv ddd, iv ee, iv md, iv c1, iv k1, iv b1, iv t1, iv c2, iv k2, iv b2, iv t2, iv kd, rv p1, rv q1, rv ct, .unset, .unset] []) (fun _ k => XS.icmpYes X63.here hx rfl (pc0 := 198) (pc' := 231) rfl (hb hby at_198) rfl (feq hj65).2 (by decide) (by decide) k) ?_
                refine own_s (mkF m 232 #[iv aa, iv bb, iv sx, iv ddd, iv ee, iv md, iv c1, iv k1, iv b1, iv t1, iv c2, iv k2, iv b2, iv t2, iv kd, rv p1, rv q1, rv ct, .unset, .unset] [(.int 0)]) (fun _ k => XS.iconst X63.here hx rfl (hb hby at_231) k) ?_
                rw [show xx = (0 : Int32) from by rw [h_xx, if_pos hj64, if_neg hj65]] at k
                exact k
            ·
              refine own_s (mkF m 231 #[iv aa, iv bb, iv sx, iv ddd, iv ee, iv md, iv c1, iv k1, iv b1, iv t1, iv c2, iv k2, iv b2, iv t2, iv kd, rv p1, rv q1, rv ct, .unset, .unset] []) (fun _ k => XS.icmpYes X63.here hx rfl (pc0 := 191) (pc' := 231) rfl (hb hby at_191) rfl (flt hj64).2.1 (by decide) (by decide) k) ?_
              refine own_s (mkF m 232 #[iv aa, iv bb, iv sx, iv ddd, iv ee, iv md, iv c1, iv k1, iv b1, iv t1, iv c2, iv k2, iv b2, iv t2, iv kd, rv p1, rv q1, rv ct, .unset, .unset] [(.int 0)]) (fun _ k => XS.iconst X63.here hx rfl (hb hby at_231) k) ?_
              rw [show xx = (0 : Int32) from by rw [h_xx, if_neg hj64]] at k
              exact k
          refine own_S (mkF m 234 #[iv aa, iv bb, iv sx, iv ddd, iv ee, iv md, iv c1, iv k1, iv b1, iv t1, iv c2, iv k2, iv b2, iv t2, iv kd, rv p1, rv q1, rv ct, iv xx, .unset] []) (fun _ k => XS.istore X63.here hx rfl (hb hby at_232) rfl (l' := #[iv aa, iv bb, iv sx, iv ddd, iv ee, iv md, iv c1, iv k1, iv b1, iv t1, iv c2, iv k2, iv b2, iv t2, iv kd, rv p1, rv q1, rv ct, iv xx, .unset]) rfl k) ?_
          refine own_S (mkF m 236 #[iv aa, iv bb, iv sx, iv ddd, iv ee, iv md, iv c1, iv k1, iv b1, iv t1, iv c2, iv k2, iv b2, iv t2, iv kd, rv p1, rv q1, rv ct, iv xx, .unset] [(.ref p1)]) (fun _ k => XS.aload X63.here hx rfl (hb hby at_234) rfl rfl k) ?_
          refine own_S (mkF m 238 #[iv aa, iv bb, iv sx, iv ddd, iv ee, iv md, iv c1, iv k1, iv b1, iv t1, iv c2, iv k2, iv b2, iv t2, iv kd, rv p1, rv q1, rv ct, iv xx, .unset] [(.ref ct), (.ref p1)]) (fun _ k => XS.aload X63.here hx rfl (hb hby at_236) rfl rfl k) ?_
          obtain ⟨cq70, kq70, q70a, q70b, q70c⟩ := isOf hZ e63 F48
          obtain ⟨_, _, ⟨T70, L70, k70, n70⟩, -, X70, ⟨Lc70, hQ70, l70, y70, z70⟩, st70⟩ := X63.virtualBack hx (y := own_y4) (z := own_y4) hown (mvT hZ (own_g hw (i := 34) rfl)) (mvT hZ (own_g hw (i := 35) rfl)) (notFace_of_selects (args := #[]) (mvT hZ (own_g hw (i := 37) rfl))) (mvT hZ (own_g hw (i := 37) rfl)) (mvT hZ (own_g hw (i := 36) rfl)) (by decide) (backOf (W := 0) (own_rmec l Z a0 hw [] (p1) (ct) T39.heap n0 Z39 F47) hZ (own_g hw (i := 38) rfl) (own_g hw (i := 3) rfl) (by decide) (by decide)) q70a q70c (g := (mkF m 238 #[iv aa, iv bb, iv sx, iv ddd, iv ee, iv md, iv c1, iv k1, iv b1, iv t1, iv c2, iv k2, iv b2, iv t2, iv kd, rv p1, rv q1, rv ct, iv xx, .unset] [(.ref ct), (.ref p1)])) rfl (by rw [hml]; rfl) (Steps.refl _) (argsL := [(.ref ct)]) (rest := []) (lenOf own_pd__Ljava_lang_Object__Z rfl) rfl (by show 2 * 0 + _ ≤ _; exact Nat.le_of_eq rfl) (hb hby at_238) (fun _ _ => ⟨rfl, e63, (by decide : 2 + 0 ≤ _), (by decide : 10 + 0 ≤ _)⟩)
          dsimp only [Pt.U, Pt.locs, Pt.cells, Pt.slots] at X70 l70 y70 z70 st70 hQ70
          subst l70 y70 z70
          obtain ⟨rfl, N70q, e70⟩ := hQ70
          have N70 := Fr.app N39 N70q
          refine own_S (mkF m 241 #[iv aa, iv bb, iv sx, iv ddd, iv ee, iv md, iv c1, iv k1, iv b1, iv t1, iv c2, iv k2, iv b2, iv t2, iv kd, rv p1, rv q1, rv ct, iv xx, .unset] [(.int 0)]) (fun _ k => st70.trans k) ?_
          refine own_S (mkF m 243 #[iv aa, iv bb, iv sx, iv ddd, iv ee, iv md, iv c1, iv k1, iv b1, iv t1, iv c2, iv k2, iv b2, iv t2, iv kd, rv p1, rv q1, rv ct, iv xx, .unset] [(.int xx), (.int 0)]) (fun _ k => XS.iload X70.here hx rfl (hb hby at_241) rfl k) ?_
          obtain ⟨ok, h_ok⟩ : ∃ z : Int32, z = (if (0 : Int32) = xx then (1 : Int32) else (0 : Int32)) := ⟨_, rfl⟩
          refine own_S (T' := T70) (mkF m 251 #[iv aa, iv bb, iv sx, iv ddd, iv ee, iv md, iv c1, iv k1, iv b1, iv t1, iv c2, iv k2, iv b2, iv t2, iv kd, rv p1, rv q1, rv ct, iv xx, .unset] [(.int ok)]) (fun _ k => ?_) ?_
          ·
            by_cases hj71 : (0 : Int32) = xx
            ·
              refine own_s (mkF m 246 #[iv aa, iv bb, iv sx, iv ddd, iv ee, iv md, iv c1, iv k1, iv b1, iv t1, iv c2, iv k2, iv b2, iv t2, iv kd, rv p1, rv q1, rv ct, iv xx, .unset] []) (fun _ k => XS.icmpNo X70.here hx rfl (hb hby at_243) rfl (teq hj71).2 k) ?_
              refine own_s (mkF m 247 #[iv aa, iv bb, iv sx, iv ddd, iv ee, iv md, iv c1, iv k1, iv b1, iv t1, iv c2, iv k2, iv b2, iv t2, iv kd, rv p1, rv q1, rv ct, iv xx, .unset] [(.int 1)]) (fun _ k => XS.iconst X70.here hx rfl (hb hby at_246) k) ?_
              refine own_s (mkF m 251 #[iv aa, iv bb, iv sx, iv ddd, iv ee, iv md, iv c1, iv k1, iv b1, iv t1, iv c2, iv k2, iv b2, iv t2, iv kd, rv p1, rv q1, rv ct, iv xx, .unset] [(.int 1)]) (fun _ k => XS.goto X70.here hx rfl (pc0 := 247) (pc' := 251) rfl (hb hby at_247) (by decide) (by decide) k) ?_
              rw [show ok = (1 : Int32) from by rw [h_ok, if_pos hj71]] at k
              exact k
            ·
              refine own_s (mkF m 250 #[iv aa, iv bb, iv sx, iv ddd, iv ee, iv md, iv c1, iv k1, iv b1, iv t1, iv c2, iv k2, iv b2, iv t2, iv kd, rv p1, rv q1, rv ct, iv xx, .unset] []) (fun _ k => XS.icmpYes X70.here hx rfl (pc0 := 243) (pc' := 250) rfl (hb hby at_243) rfl (feq hj71).2 (by decide) (by decide) k) ?_
              refine own_s (mkF m 251 #[iv aa, iv bb, iv sx, iv ddd, iv ee, iv md, iv c1, iv k1, iv b1, iv t1, iv c2, iv k2, iv b2, iv t2, iv kd, rv p1, rv q1, rv ct, iv xx, .unset] [(.int 0)]) (fun _ k => XS.iconst X70.here hx rfl (hb hby at_250) k) ?_
              rw [show ok = (0 : Int32) from by rw [h_ok, if_neg hj71]] at k
              exact k
          refine own_S (mkF m 253 #[iv aa, iv bb, iv sx, iv ddd, iv ee, iv md, iv c1, iv k1, iv b1, iv t1, iv c2, iv k2, iv b2, iv t2, iv kd, rv p1, rv q1, rv ct, iv xx, iv ok] []) (fun _ k => XS.istore X70.here hx rfl (hb hby at_251) rfl (l' := #[iv aa, iv bb, iv sx, iv ddd, iv ee, iv md, iv c1, iv k1, iv b1, iv t1, iv c2, iv k2, iv b2, iv t2, iv kd, rv p1, rv q1, rv ct, iv xx, iv ok]) rfl k) ?_
          refine own_S (mkF m 255 #[iv aa, iv bb, iv sx, iv ddd, iv ee, iv md, iv c1, iv k1, iv b1, iv t1, iv c2, iv k2, iv b2, iv t2, iv kd, rv p1, rv q1, rv ct, iv xx, iv ok] [(.int kd)]) (fun _ k => XS.iload X70.here hx rfl (hb hby at_253) rfl k) ?_
          refine own_S (mkF m 256 #[iv aa, iv bb, iv sx, iv ddd, iv ee, iv md, iv c1, iv k1, iv b1, iv t1, iv c2, iv k2, iv b2, iv t2, iv kd, rv p1, rv q1, rv ct, iv xx, iv ok] [(.int 2), (.int kd)]) (fun _ k => XS.iconst X70.here hx rfl (hb hby at_255) k) ?_
          have hc72 : ¬ (kd < (2 : Int32)) := (by rw [hk3]; decide)
          refine own_S (mkF m 283 #[iv aa, iv bb, iv sx, iv ddd, iv ee, iv md, iv c1, iv k1, iv b1, iv t1, iv c2, iv k2, iv b2, iv t2, iv kd, rv p1, rv q1, rv ct, iv xx, iv ok] []) (fun _ k => XS.icmpYes X70.here hx rfl (pc0 := 256) (pc' := 283) rfl (hb hby at_256) rfl (flt hc72).2.1 (by decide) (by decide) k) ?_
          refine own_S (mkF m 285 #[iv aa, iv bb, iv sx, iv ddd, iv ee, iv md, iv c1, iv k1, iv b1, iv t1, iv c2, iv k2, iv b2, iv t2, iv kd, rv p1, rv q1, rv ct, iv xx, iv ok] [(.int ok)]) (fun _ k => XS.iload X70.here hx rfl (hb hby at_283) rfl k) ?_
          exact own_retN X70 hx hlk (t := .boolean) hret (by simp) (hb hby at_285) (by rw [e70]; exact ⟨(by rw [h_ok, h_xx, if_neg (show ¬ kd < (2 : Int32) by rw [hk3]; decide), if_pos rfl]; rfl), N70, trivial⟩) (by decide) (by decide)
        · -- not kd = (3 : Int32)
          refine own_S (mkF m 184 #[iv aa, iv bb, iv sx, iv ddd, iv ee, iv md, iv c1, iv k1, iv b1, iv t1, iv c2, iv k2, iv b2, iv t2, iv kd, rv p1, rv q1, .unset, .unset, .unset] []) (fun _ k => XS.icmpYes X39.here hx rfl (pc0 := 173) (pc' := 184) rfl (hb hby at_173) rfl (feq hk3).2 (by decide) (by decide) k) ?_
          refine own_S (mkF m 186 #[iv aa, iv bb, iv sx, iv ddd, iv ee, iv md, iv c1, iv k1, iv b1, iv t1, iv c2, iv k2, iv b2, iv t2, iv kd, rv p1, rv q1, .unset, .unset, .unset] [(.ref q1)]) (fun _ k => XS.aload X39.here hx rfl (hb hby at_184) rfl rfl k) ?_
          refine own_S (mkF m 188 #[iv aa, iv bb, iv sx, iv ddd, iv ee, iv md, iv c1, iv k1, iv b1, iv t1, iv c2, iv k2, iv b2, iv t2, iv kd, rv p1, rv q1, rv q1, .unset, .unset] []) (fun _ k => XS.astore X39.here hx rfl (hb hby at_186) rfl rfl (l' := #[iv aa, iv bb, iv sx, iv ddd, iv ee, iv md, iv c1, iv k1, iv b1, iv t1, iv c2, iv k2, iv b2, iv t2, iv kd, rv p1, rv q1, rv q1, .unset, .unset]) rfl k) ?_
          refine own_S (mkF m 190 #[iv aa, iv bb, iv sx, iv ddd, iv ee, iv md, iv c1, iv k1, iv b1, iv t1, iv c2, iv k2, iv b2, iv t2, iv kd, rv p1, rv q1, rv q1, .unset, .unset] [(.int kd)]) (fun _ k => XS.iload X39.here hx rfl (hb hby at_188) rfl k) ?_
          refine own_S (mkF m 191 #[iv aa, iv bb, iv sx, iv ddd, iv ee, iv md, iv c1, iv k1, iv b1, iv t1, iv c2, iv k2, iv b2, iv t2, iv kd, rv p1, rv q1, rv q1, .unset, .unset] [(.int 2), (.int kd)]) (fun _ k => XS.iconst X39.here hx rfl (hb hby at_190) k) ?_
          obtain ⟨xx, h_xx⟩ : ∃ z : Int32, z = (if kd < (2 : Int32) then (if c1 = c2 then (if k1 = k2 then (if b1 = b2 then (if b1 = (0 : Int32) then (1 : Int32) else (if t1 = t2 then (1 : Int32) else (0 : Int32))) else (0 : Int32)) else (0 : Int32)) else (0 : Int32)) else (0 : Int32)) := ⟨_, rfl⟩
          refine own_S (T' := T39) (mkF m 232 #[iv aa, iv bb, iv sx, iv ddd, iv ee, iv md, iv c1, iv k1, iv b1, iv t1, iv c2, iv k2, iv b2, iv t2, iv kd, rv p1, rv q1, rv q1, .unset, .unset] [(.int xx)]) (fun _ k => ?_) ?_
          ·
            by_cases hj73 : kd < (2 : Int32)
            ·
              refine own_s (mkF m 194 #[iv aa, iv bb, iv sx, iv ddd, iv ee, iv md, iv c1, iv k1, iv b1, iv t1, iv c2, iv k2, iv b2, iv t2, iv kd, rv p1, rv q1, rv q1, .unset, .unset] []) (fun _ k => XS.icmpNo X39.here hx rfl (hb hby at_191) rfl (tlt hj73).2.1 k) ?_
              refine own_s (mkF m 196 #[iv aa, iv bb, iv sx, iv ddd, iv ee, iv md, iv c1, iv k1, iv b1, iv t1, iv c2, iv k2, iv b2, iv t2, iv kd, rv p1, rv q1, rv q1, .unset, .unset] [(.int c1)]) (fun _ k => XS.iload X39.here hx rfl (hb hby at_194) rfl k) ?_
              refine own_s (mkF m 198 #[iv aa, iv bb, iv sx, iv ddd, iv ee, iv md, iv c1, iv k1, iv b1, iv t1, iv c2, iv k2, iv b2, iv t2, iv kd, rv p1, rv q1, rv q1, .unset, .unset] [(.int c2), (.int c1)]) (fun _ k => XS.iload X39.here hx rfl (hb hby at_196) rfl k) ?_
              by_cases hj74 : c1 = c2
              ·
                refine own_s (mkF m 201 #[iv aa, iv bb, iv sx, iv ddd, iv ee, iv md, iv c1, iv k1, iv b1, iv t1, iv c2, iv k2, iv b2, iv t2, iv kd, rv p1, rv q1, rv q1, .unset, .unset] []) (fun _ k => XS.icmpNo X39.here hx rfl (hb hby at_198) rfl (teq hj74).2 k) ?_
                refine own_s (mkF m 203 #[iv aa, iv bb, iv sx, iv ddd, iv ee, iv md, iv c1, iv k1, iv b1, iv t1, iv c2, iv k2, iv b2, iv t2, iv kd, rv p1, rv q1, rv q1, .unset, .unset] [(.int k1)]) (fun _ k => XS.iload X39.here hx rfl (hb hby at_201) rfl k) ?_
                refine own_s (mkF m 205 #[iv aa, iv bb, iv sx, iv ddd, iv ee, iv md, iv c1, iv k1, iv b1, iv t1, iv c2, iv k2, iv b2, iv t2, iv kd, rv p1, rv q1, rv q1, .unset, .unset] [(.int k2), (.int k1)]) (fun _ k => XS.iload X39.here hx rfl (hb hby at_203) rfl k) ?_
                by_cases hj75 : k1 = k2
                ·
                  refine own_s (mkF m 208 #[iv aa, iv bb, iv sx, iv ddd, iv ee, iv md, iv c1, iv k1, iv b1, iv t1, iv c2, iv k2, iv b2, iv t2, iv kd, rv p1, rv q1, rv q1, .unset, .unset] []) (fun _ k => XS.icmpNo X39.here hx rfl (hb hby at_205) rfl (teq hj75).2 k) ?_
                  refine own_s (mkF m 210 #[iv aa, iv bb, iv sx, iv ddd, iv ee, iv md, iv c1, iv k1, iv b1, iv t1, iv c2, iv k2, iv b2, iv t2, iv kd, rv p1, rv q1, rv q1, .unset, .unset] [(.int b1)]) (fun _ k => XS.iload X39.here hx rfl (hb hby at_208) rfl k) ?_
                  refine own_s (mkF m 212 #[iv aa, iv bb, iv sx, iv ddd, iv ee, iv md, iv c1, iv k1, iv b1, iv t1, iv c2, iv k2, iv b2, iv t2, iv kd, rv p1, rv q1, rv q1, .unset, .unset] [(.int b2), (.int b1)]) (fun _ k => XS.iload X39.here hx rfl (hb hby at_210) rfl k) ?_
                  by_cases hj76 : b1 = b2
                  ·
                    refine own_s (mkF m 215 #[iv aa, iv bb, iv sx, iv ddd, iv ee, iv md, iv c1, iv k1, iv b1, iv t1, iv c2, iv k2, iv b2, iv t2, iv kd, rv p1, rv q1, rv q1, .unset, .unset] []) (fun _ k => XS.icmpNo X39.here hx rfl (hb hby at_212) rfl (teq hj76).2 k) ?_
                    refine own_s (mkF m 217 #[iv aa, iv bb, iv sx, iv ddd, iv ee, iv md, iv c1, iv k1, iv b1, iv t1, iv c2, iv k2, iv b2, iv t2, iv kd, rv p1, rv q1, rv q1, .unset, .unset] [(.int b1)]) (fun _ k => XS.iload X39.here hx rfl (hb hby at_215) rfl k) ?_
                    by_cases hj77 : b1 = (0 : Int32)
                    ·
                      refine own_s (mkF m 227 #[iv aa, iv bb, iv sx, iv ddd, iv ee, iv md, iv c1, iv k1, iv b1, iv t1, iv c2, iv k2, iv b2, iv t2, iv kd, rv p1, rv q1, rv q1, .unset, .unset] []) (fun _ k => XS.ifYes X39.here hx rfl (pc0 := 217) (pc' := 227) rfl (hb hby at_217) rfl ((if0 _ _).trans (teq hj77).1) (by decide) (by decide) k) ?_
                      refine own_s (mkF m 228 #[iv aa, iv bb, iv sx, iv ddd, iv ee, iv md, iv c1, iv k1, iv b1, iv t1, iv c2, iv k2, iv b2, iv t2, iv kd, rv p1, rv q1, rv q1, .unset, .unset] [(.int 1)]) (fun _ k => XS.iconst X39.here hx rfl (hb hby at_227) k) ?_
                      refine own_s (mkF m 232 #[iv aa, iv bb, iv sx, iv ddd, iv ee, iv md, iv c1, iv k1, iv b1, iv t1, iv c2, iv k2, iv b2, iv t2, iv kd, rv p1, rv q1, rv q1, .unset, .unset] [(.int 1)]) (fun _ k => XS.goto X39.here hx rfl (pc0 := 228) (pc' := 232) rfl (hb hby at_228) (by decide) (by decide) k) ?_
                      rw [show xx = (1 : Int32) from by rw [h_xx, if_pos hj73, if_pos hj74, if_pos hj75, if_pos hj76, if_pos hj77]] at k
                      exact k
                    ·
                      refine own_s (mkF m 220 #[iv aa, iv bb, iv sx, iv ddd, iv ee, iv md, iv c1, iv k1, iv b1, iv t1, iv c2, iv k2, iv b2, iv t2, iv kd, rv p1, rv q1, rv q1, .unset, .unset] []) (fun _ k => XS.ifNo X39.here hx rfl (hb hby at_217) rfl ((if0 _ _).trans (feq hj77).1) k) ?_
                      refine own_s (mkF m 222 #[iv aa, iv bb, iv sx, iv ddd, iv ee, iv md, iv c1, iv k1, iv b1, iv t1, iv c2, iv k2, iv b2, iv t2, iv kd, rv p1, rv q1, rv q1, .unset, .unset] [(.int t1)]) (fun _ k => XS.iload X39.here hx rfl (hb hby at_220) rfl k) ?_
                      refine own_s (mkF m 224 #[iv aa, iv bb, iv sx, iv ddd, iv ee, iv md, iv c1, iv k1, iv b1, iv t1, iv c2, iv k2, iv b2, iv t2, iv kd, rv p1, rv q1, rv q1, .unset, .unset] [(.int t2), (.int t1)]) (fun _ k => XS.iload X39.here hx rfl (hb hby at_222) rfl k) ?_
                      by_cases hj78 : t1 = t2
                      ·
                        refine own_s (mkF m 227 #[iv aa, iv bb, iv sx, iv ddd, iv ee, iv md, iv c1, iv k1, iv b1, iv t1, iv c2, iv k2, iv b2, iv t2, iv kd, rv p1, rv q1, rv q1, .unset, .unset] []) (fun _ k => XS.icmpNo X39.here hx rfl (hb hby at_224) rfl (teq hj78).2 k) ?_
                        refine own_s (mkF m 228 #[iv aa, iv bb, iv sx, iv ddd, iv ee, iv md, iv c1, iv k1, iv b1, iv t1, iv c2, iv k2, iv b2, iv t2, iv kd, rv p1, rv q1, rv q1, .unset, .unset] [(.int 1)]) (fun _ k => XS.iconst X39.here hx rfl (hb hby at_227) k) ?_
                        refine own_s (mkF m 232 #[iv aa, iv bb, iv sx, iv ddd, iv ee, iv md, iv c1, iv k1, iv b1, iv t1, iv c2, iv k2, iv b2, iv t2, iv kd, rv p1, rv q1, rv q1, .unset, .unset] [(.int 1)]) (fun _ k => XS.goto X39.here hx rfl (pc0 := 228) (pc' := 232) rfl (hb hby at_228) (by decide) (by decide) k) ?_
                        rw [show xx = (1 : Int32) from by rw [h_xx, if_pos hj73, if_pos hj74, if_pos hj75, if_pos hj76, if_neg hj77, if_pos hj78]] at k
                        exact k
                      ·
                        refine own_s (mkF m 231 #[iv aa, iv bb, iv sx, iv ddd, iv ee, iv md, iv c1, iv k1, iv b1, iv t1, iv c2, iv k2, iv b2, iv t2, iv kd, rv p1, rv q1, rv q1, .unset, .unset] []) (fun _ k => XS.icmpYes X39.here hx rfl (pc0 := 224) (pc' := 231) rfl (hb hby at_224) rfl (feq hj78).2 (by decide) (by decide) k) ?_
                        refine own_s (mkF m 232 #[iv aa, iv bb, iv sx, iv ddd, iv ee, iv md, iv c1, iv k1, iv b1, iv t1, iv c2, iv k2, iv b2, iv t2, iv kd, rv p1, rv q1, rv q1, .unset, .unset] [(.int 0)]) (fun _ k => XS.iconst X39.here hx rfl (hb hby at_231) k) ?_
                        rw [show xx = (0 : Int32) from by rw [h_xx, if_pos hj73, if_pos hj74, if_pos hj75, if_pos hj76, if_neg hj77, if_neg hj78]] at k
                        exact k
                  ·
                    refine own_s (mkF m 231 #[iv aa, iv bb, iv sx, iv ddd, iv ee, iv md, iv c1, iv k1, iv b1, iv t1, iv c2, iv k2, iv b2, iv t2, iv kd, rv p1, rv q1, rv q1, .unset, .unset] []) (fun _ k => XS.icmpYes X39.here hx rfl (pc0 := 212) (pc' := 231) rfl (hb hby at_212) rfl (feq hj76).2 (by decide) (by decide) k) ?_
                    refine own_s (mkF m 232 #[iv aa, iv bb, iv sx, iv ddd, iv ee, iv md, iv c1, iv k1, iv b1, iv t1, iv c2, iv k2, iv b2, iv t2, iv kd, rv p1, rv q1, rv q1, .unset, .unset] [(.int 0)]) (fun _ k => XS.iconst X39.here hx rfl (hb hby at_231) k) ?_
                    rw [show xx = (0 : Int32) from by rw [h_xx, if_pos hj73, if_pos hj74, if_pos hj75, if_neg hj76]] at k
                    exact k
                ·
                  refine own_s (mkF m 231 #[iv aa, iv bb, iv sx, iv ddd, iv ee, iv md, iv c1, iv k1, iv b1, iv t1, iv c2, iv k2, iv b2, iv t2, iv kd, rv p1, rv q1, rv q1, .unset, .unset] []) (fun _ k => XS.icmpYes X39.here hx rfl (pc0 := 205) (pc' := 231) rfl (hb hby at_205) rfl (feq hj75).2 (by decide) (by decide) k) ?_
                  refine own_s (mkF m 232 #[iv aa, iv bb, iv sx, iv ddd, iv ee, iv md, iv c1, iv k1, iv b1, iv t1, iv c2, iv k2, iv b2, iv t2, iv kd, rv p1, rv q1, rv q1, .unset, .unset] [(.int 0)]) (fun _ k => XS.iconst X39.here hx rfl (hb hby at_231) k) ?_
                  rw [show xx = (0 : Int32) from by rw [h_xx, if_pos hj73, if_pos hj74, if_neg hj75]] at k
                  exact k
              ·
                refine own_s (mkF m 231 #[iv aa, iv bb, iv sx, iv ddd, iv ee, iv md, iv c1, iv k1, iv b1, iv t1, iv c2, iv k2, iv b2, iv t2, iv kd, rv p1, rv q1, rv q1, .unset, .unset] []) (fun _ k => XS.icmpYes X39.here hx rfl (pc0 := 198) (pc' := 231) rfl (hb hby at_198) rfl (feq hj74).2 (by decide) (by decide) k) ?_
                refine own_s (mkF m 232 #[iv aa, iv bb, iv sx, iv ddd, iv ee, iv md, iv c1, iv k1, iv b1, iv t1, iv c2, iv k2, iv b2, iv t2, iv kd, rv p1, rv q1, rv q1, .unset, .unset] [(.int 0)]) (fun _ k => XS.iconst X39.here hx rfl (hb hby at_231) k) ?_
                rw [show xx = (0 : Int32) from by rw [h_xx, if_pos hj73, if_neg hj74]] at k
                exact k
            ·
              refine own_s (mkF m 231 #[iv aa, iv bb, iv sx, iv ddd, iv ee, iv md, iv c1, iv k1, iv b1, iv t1, iv c2, iv k2, iv b2, iv t2, iv kd, rv p1, rv q1, rv q1, .unset, .unset] []) (fun _ k => XS.icmpYes X39.here hx rfl (pc0 := 191) (pc' := 231) rfl (hb hby at_191) rfl (flt hj73).2.1 (by decide) (by decide) k) ?_
              refine own_s (mkF m 232 #[iv aa, iv bb, iv sx, iv ddd, iv ee, iv md, iv c1, iv k1, iv b1, iv t1, iv c2, iv k2, iv b2, iv t2, iv kd, rv p1, rv q1, rv q1, .unset, .unset] [(.int 0)]) (fun _ k => XS.iconst X39.here hx rfl (hb hby at_231) k) ?_
              rw [show xx = (0 : Int32) from by rw [h_xx, if_neg hj73]] at k
              exact k
          refine own_S (mkF m 234 #[iv aa, iv bb, iv sx, iv ddd, iv ee, iv md, iv c1, iv k1, iv b1, iv t1, iv c2, iv k2, iv b2, iv t2, iv kd, rv p1, rv q1, rv q1, iv xx, .unset] []) (fun _ k => XS.istore X39.here hx rfl (hb hby at_232) rfl (l' := #[iv aa, iv bb, iv sx, iv ddd, iv ee, iv md, iv c1, iv k1, iv b1, iv t1, iv c2, iv k2, iv b2, iv t2, iv kd, rv p1, rv q1, rv q1, iv xx, .unset]) rfl k) ?_
          refine own_S (mkF m 236 #[iv aa, iv bb, iv sx, iv ddd, iv ee, iv md, iv c1, iv k1, iv b1, iv t1, iv c2, iv k2, iv b2, iv t2, iv kd, rv p1, rv q1, rv q1, iv xx, .unset] [(.ref p1)]) (fun _ k => XS.aload X39.here hx rfl (hb hby at_234) rfl rfl k) ?_
          refine own_S (mkF m 238 #[iv aa, iv bb, iv sx, iv ddd, iv ee, iv md, iv c1, iv k1, iv b1, iv t1, iv c2, iv k2, iv b2, iv t2, iv kd, rv p1, rv q1, rv q1, iv xx, .unset] [(.ref q1), (.ref p1)]) (fun _ k => XS.aload X39.here hx rfl (hb hby at_236) rfl rfl k) ?_
          have hlt : kd < (2 : Int32) := by rcases o_kd with q | q | q | q; rw [q]; decide; rw [q]; decide; exact absurd q hk2; exact absurd q hk3
          obtain ⟨cq79, kq79, q79a, q79b, q79c⟩ := isOf hZ rfl F48
          obtain ⟨_, _, ⟨T79, L79, k79, n79⟩, -, X79, ⟨Lc79, hQ79, l79, y79, z79⟩, st79⟩ := X39.virtualBack hx (y := own_y4) (z := own_y4) hown (mvT hZ (own_g hw (i := 34) rfl)) (mvT hZ (own_g hw (i := 35) rfl)) (notFace_of_selects (args := #[]) (mvT hZ (own_g hw (i := 37) rfl))) (mvT hZ (own_g hw (i := 37) rfl)) (mvT hZ (own_g hw (i := 36) rfl)) (by decide) (backOf (W := 0) (own_rmeq l Z a0 hw [] (p1) (q1) (c1) (k1) ((-1 : Int32)) (c2) (k2) ((-1 : Int32)) T39.heap n0 Z39 F40 F51 F52 F53 F43 F44 F45) hZ (own_g hw (i := 38) rfl) (own_g hw (i := 3) rfl) (by decide) (by decide)) q79a q79c (g := (mkF m 238 #[iv aa, iv bb, iv sx, iv ddd, iv ee, iv md, iv c1, iv k1, iv b1, iv t1, iv c2, iv k2, iv b2, iv t2, iv kd, rv p1, rv q1, rv q1, iv xx, .unset] [(.ref q1), (.ref p1)])) rfl (by rw [hml]; rfl) (Steps.refl _) (argsL := [(.ref q1)]) (rest := []) (lenOf own_pd__Ljava_lang_Object__Z rfl) rfl (by show 2 * 0 + _ ≤ _; exact Nat.le_of_eq rfl) (hb hby at_238) (fun _ _ => ⟨rfl, rfl, (by decide : 2 + 0 ≤ _), (by decide : 10 + 0 ≤ _)⟩)
          dsimp only [Pt.U, Pt.locs, Pt.cells, Pt.slots] at X79 l79 y79 z79 st79 hQ79
          subst l79 y79 z79
          obtain ⟨rfl, N79q, e79⟩ := hQ79
          have N79 := Fr.app N39 N79q
          refine own_S (mkF m 241 #[iv aa, iv bb, iv sx, iv ddd, iv ee, iv md, iv c1, iv k1, iv b1, iv t1, iv c2, iv k2, iv b2, iv t2, iv kd, rv p1, rv q1, rv q1, iv xx, .unset] [(.int (if c1 = c2 ∧ k1 = k2 ∧ (-1 : Int32) = (-1 : Int32) then (1 : Int32) else (0 : Int32)))]) (fun _ k => st79.trans k) ?_
          have hE : (if c1 = c2 ∧ k1 = k2 ∧ (-1 : Int32) = (-1 : Int32) then (1 : Int32) else (0 : Int32)) = xx := by rw [h_xx]; exact own_law _ _ _ _ _ _ _ _ _ _ _ hlt o_b1 o_b2 (by rw [if_pos hb1]) (by rw [if_pos hb2]) n_t1 n_t2
          have hE2 : (if c2 = c1 ∧ k2 = k1 ∧ (-1 : Int32) = (-1 : Int32) then (1 : Int32) else (0 : Int32)) = xx := by rw [← hE]; exact own_sym _ _ _ _ _ _
          refine own_S (mkF m 243 #[iv aa, iv bb, iv sx, iv ddd, iv ee, iv md, iv c1, iv k1, iv b1, iv t1, iv c2, iv k2, iv b2, iv t2, iv kd, rv p1, rv q1, rv q1, iv xx, .unset] [(.int xx), (.int (if c1 = c2 ∧ k1 = k2 ∧ (-1 : Int32) = (-1 : Int32) then (1 : Int32) else (0 : Int32)))]) (fun _ k => XS.iload X79.here hx rfl (hb hby at_241) rfl k) ?_
          obtain ⟨ok, h_ok⟩ : ∃ z : Int32, z = (if (if c1 = c2 ∧ k1 = k2 ∧ (-1 : Int32) = (-1 : Int32) then (1 : Int32) else (0 : Int32)) = xx then (1 : Int32) else (0 : Int32)) := ⟨_, rfl⟩
          refine own_S (T' := T79) (mkF m 251 #[iv aa, iv bb, iv sx, iv ddd, iv ee, iv md, iv c1, iv k1, iv b1, iv t1, iv c2, iv k2, iv b2, iv t2, iv kd, rv p1, rv q1, rv q1, iv xx, .unset] [(.int ok)]) (fun _ k => ?_) ?_
          ·
            by_cases hj80 : (if c1 = c2 ∧ k1 = k2 ∧ (-1 : Int32) = (-1 : Int32) then (1 : Int32) else (0 : Int32)) = xx
            ·
              refine own_s (mkF m 246 #[iv aa, iv bb, iv sx, iv ddd, iv ee, iv md, iv c1, iv k1, iv b1, iv t1, iv c2, iv k2, iv b2, iv t2, iv kd, rv p1, rv q1, rv q1, iv xx, .unset] []) (fun _ k => XS.icmpNo X79.here hx rfl (hb hby at_243) rfl (teq hj80).2 k) ?_
              refine own_s (mkF m 247 #[iv aa, iv bb, iv sx, iv ddd, iv ee, iv md, iv c1, iv k1, iv b1, iv t1, iv c2, iv k2, iv b2, iv t2, iv kd, rv p1, rv q1, rv q1, iv xx, .unset] [(.int 1)]) (fun _ k => XS.iconst X79.here hx rfl (hb hby at_246) k) ?_
              refine own_s (mkF m 251 #[iv aa, iv bb, iv sx, iv ddd, iv ee, iv md, iv c1, iv k1, iv b1, iv t1, iv c2, iv k2, iv b2, iv t2, iv kd, rv p1, rv q1, rv q1, iv xx, .unset] [(.int 1)]) (fun _ k => XS.goto X79.here hx rfl (pc0 := 247) (pc' := 251) rfl (hb hby at_247) (by decide) (by decide) k) ?_
              rw [show ok = (1 : Int32) from by rw [h_ok, if_pos hj80]] at k
              exact k
            ·
              refine own_s (mkF m 250 #[iv aa, iv bb, iv sx, iv ddd, iv ee, iv md, iv c1, iv k1, iv b1, iv t1, iv c2, iv k2, iv b2, iv t2, iv kd, rv p1, rv q1, rv q1, iv xx, .unset] []) (fun _ k => XS.icmpYes X79.here hx rfl (pc0 := 243) (pc' := 250) rfl (hb hby at_243) rfl (feq hj80).2 (by decide) (by decide) k) ?_
              refine own_s (mkF m 251 #[iv aa, iv bb, iv sx, iv ddd, iv ee, iv md, iv c1, iv k1, iv b1, iv t1, iv c2, iv k2, iv b2, iv t2, iv kd, rv p1, rv q1, rv q1, iv xx, .unset] [(.int 0)]) (fun _ k => XS.iconst X79.here hx rfl (hb hby at_250) k) ?_
              rw [show ok = (0 : Int32) from by rw [h_ok, if_neg hj80]] at k
              exact k
          refine own_S (mkF m 253 #[iv aa, iv bb, iv sx, iv ddd, iv ee, iv md, iv c1, iv k1, iv b1, iv t1, iv c2, iv k2, iv b2, iv t2, iv kd, rv p1, rv q1, rv q1, iv xx, iv ok] []) (fun _ k => XS.istore X79.here hx rfl (hb hby at_251) rfl (l' := #[iv aa, iv bb, iv sx, iv ddd, iv ee, iv md, iv c1, iv k1, iv b1, iv t1, iv c2, iv k2, iv b2, iv t2, iv kd, rv p1, rv q1, rv q1, iv xx, iv ok]) rfl k) ?_
          refine own_S (mkF m 255 #[iv aa, iv bb, iv sx, iv ddd, iv ee, iv md, iv c1, iv k1, iv b1, iv t1, iv c2, iv k2, iv b2, iv t2, iv kd, rv p1, rv q1, rv q1, iv xx, iv ok] [(.int kd)]) (fun _ k => XS.iload X79.here hx rfl (hb hby at_253) rfl k) ?_
          refine own_S (mkF m 256 #[iv aa, iv bb, iv sx, iv ddd, iv ee, iv md, iv c1, iv k1, iv b1, iv t1, iv c2, iv k2, iv b2, iv t2, iv kd, rv p1, rv q1, rv q1, iv xx, iv ok] [(.int 2), (.int kd)]) (fun _ k => XS.iconst X79.here hx rfl (hb hby at_255) k) ?_
          have hok : ok = (1 : Int32) := by rw [h_ok, if_pos hE]
          have hc81 : kd < (2 : Int32) := hlt
          refine own_S (mkF m 259 #[iv aa, iv bb, iv sx, iv ddd, iv ee, iv md, iv c1, iv k1, iv b1, iv t1, iv c2, iv k2, iv b2, iv t2, iv kd, rv p1, rv q1, rv q1, iv xx, iv ok] []) (fun _ k => XS.icmpNo X79.here hx rfl (hb hby at_256) rfl (tlt hc81).2.1 k) ?_
          refine own_S (mkF m 261 #[iv aa, iv bb, iv sx, iv ddd, iv ee, iv md, iv c1, iv k1, iv b1, iv t1, iv c2, iv k2, iv b2, iv t2, iv kd, rv p1, rv q1, rv q1, iv xx, iv ok] [(.int ok)]) (fun _ k => XS.iload X79.here hx rfl (hb hby at_259) rfl k) ?_
          have hc82 : ¬ (ok = (0 : Int32)) := (by rw [hok]; decide)
          refine own_S (mkF m 264 #[iv aa, iv bb, iv sx, iv ddd, iv ee, iv md, iv c1, iv k1, iv b1, iv t1, iv c2, iv k2, iv b2, iv t2, iv kd, rv p1, rv q1, rv q1, iv xx, iv ok] []) (fun _ k => XS.ifNo X79.here hx rfl (hb hby at_261) rfl ((if0 _ _).trans (feq hc82).1) k) ?_
          refine own_S (mkF m 266 #[iv aa, iv bb, iv sx, iv ddd, iv ee, iv md, iv c1, iv k1, iv b1, iv t1, iv c2, iv k2, iv b2, iv t2, iv kd, rv p1, rv q1, rv q1, iv xx, iv ok] [(.ref q1)]) (fun _ k => XS.aload X79.here hx rfl (hb hby at_264) rfl rfl k) ?_
          refine own_S (mkF m 268 #[iv aa, iv bb, iv sx, iv ddd, iv ee, iv md, iv c1, iv k1, iv b1, iv t1, iv c2, iv k2, iv b2, iv t2, iv kd, rv p1, rv q1, rv q1, iv xx, iv ok] [(.ref p1), (.ref q1)]) (fun _ k => XS.aload X79.here hx rfl (hb hby at_266) rfl rfl k) ?_
          obtain ⟨cq83, kq83, q83a, q83b, q83c⟩ := isOf hZ e79 F40
          obtain ⟨_, _, ⟨T83, L83, k83, n83⟩, -, X83, ⟨Lc83, hQ83, l83, y83, z83⟩, st83⟩ := X79.virtualBack hx (y := own_y4) (z := own_y4) hown (mvT hZ (own_g hw (i := 34) rfl)) (mvT hZ (own_g hw (i := 35) rfl)) (notFace_of_selects (args := #[]) (mvT hZ (own_g hw (i := 37) rfl))) (mvT hZ (own_g hw (i := 37) rfl)) (mvT hZ (own_g hw (i := 36) rfl)) (by decide) (backOf (W := 0) (own_rmeq l Z a0 hw [] (q1) (p1) (c2) (k2) ((-1 : Int32)) (c1) (k1) ((-1 : Int32)) T39.heap n0 Z39 F48 F43 F44 F45 F51 F52 F53) hZ (own_g hw (i := 38) rfl) (own_g hw (i := 3) rfl) (by decide) (by decide)) q83a q83c (g := (mkF m 268 #[iv aa, iv bb, iv sx, iv ddd, iv ee, iv md, iv c1, iv k1, iv b1, iv t1, iv c2, iv k2, iv b2, iv t2, iv kd, rv p1, rv q1, rv q1, iv xx, iv ok] [(.ref p1), (.ref q1)])) rfl (by rw [hml]; rfl) (Steps.refl _) (argsL := [(.ref p1)]) (rest := []) (lenOf own_pd__Ljava_lang_Object__Z rfl) rfl (by show 2 * 0 + _ ≤ _; exact Nat.le_of_eq rfl) (hb hby at_268) (fun _ _ => ⟨rfl, e79, (by decide : 2 + 0 ≤ _), (by decide : 10 + 0 ≤ _)⟩)
          dsimp only [Pt.U, Pt.locs, Pt.cells, Pt.slots] at X83 l83 y83 z83 st83 hQ83
          subst l83 y83 z83
          obtain ⟨rfl, N83q, e83⟩ := hQ83
          have N83 := Fr.app N79 N83q
          refine own_S (mkF m 271 #[iv aa, iv bb, iv sx, iv ddd, iv ee, iv md, iv c1, iv k1, iv b1, iv t1, iv c2, iv k2, iv b2, iv t2, iv kd, rv p1, rv q1, rv q1, iv xx, iv ok] [(.int (if c2 = c1 ∧ k2 = k1 ∧ (-1 : Int32) = (-1 : Int32) then (1 : Int32) else (0 : Int32)))]) (fun _ k => st83.trans k) ?_
          refine own_S (mkF m 273 #[iv aa, iv bb, iv sx, iv ddd, iv ee, iv md, iv c1, iv k1, iv b1, iv t1, iv c2, iv k2, iv b2, iv t2, iv kd, rv p1, rv q1, rv q1, iv xx, iv ok] [(.int xx), (.int (if c2 = c1 ∧ k2 = k1 ∧ (-1 : Int32) = (-1 : Int32) then (1 : Int32) else (0 : Int32)))]) (fun _ k => XS.iload X83.here hx rfl (hb hby at_271) rfl k) ?_
          obtain ⟨ok2, h_ok2⟩ : ∃ z : Int32, z = (if (if c2 = c1 ∧ k2 = k1 ∧ (-1 : Int32) = (-1 : Int32) then (1 : Int32) else (0 : Int32)) = xx then (1 : Int32) else (0 : Int32)) := ⟨_, rfl⟩
          refine own_S (T' := T83) (mkF m 281 #[iv aa, iv bb, iv sx, iv ddd, iv ee, iv md, iv c1, iv k1, iv b1, iv t1, iv c2, iv k2, iv b2, iv t2, iv kd, rv p1, rv q1, rv q1, iv xx, iv ok] [(.int ok2)]) (fun _ k => ?_) ?_
          ·
            by_cases hj84 : (if c2 = c1 ∧ k2 = k1 ∧ (-1 : Int32) = (-1 : Int32) then (1 : Int32) else (0 : Int32)) = xx
            ·
              refine own_s (mkF m 276 #[iv aa, iv bb, iv sx, iv ddd, iv ee, iv md, iv c1, iv k1, iv b1, iv t1, iv c2, iv k2, iv b2, iv t2, iv kd, rv p1, rv q1, rv q1, iv xx, iv ok] []) (fun _ k => XS.icmpNo X83.here hx rfl (hb hby at_273) rfl (teq hj84).2 k) ?_
              refine own_s (mkF m 277 #[iv aa, iv bb, iv sx, iv ddd, iv ee, iv md, iv c1, iv k1, iv b1, iv t1, iv c2, iv k2, iv b2, iv t2, iv kd, rv p1, rv q1, rv q1, iv xx, iv ok] [(.int 1)]) (fun _ k => XS.iconst X83.here hx rfl (hb hby at_276) k) ?_
              refine own_s (mkF m 281 #[iv aa, iv bb, iv sx, iv ddd, iv ee, iv md, iv c1, iv k1, iv b1, iv t1, iv c2, iv k2, iv b2, iv t2, iv kd, rv p1, rv q1, rv q1, iv xx, iv ok] [(.int 1)]) (fun _ k => XS.goto X83.here hx rfl (pc0 := 277) (pc' := 281) rfl (hb hby at_277) (by decide) (by decide) k) ?_
              rw [show ok2 = (1 : Int32) from by rw [h_ok2, if_pos hj84]] at k
              exact k
            ·
              refine own_s (mkF m 280 #[iv aa, iv bb, iv sx, iv ddd, iv ee, iv md, iv c1, iv k1, iv b1, iv t1, iv c2, iv k2, iv b2, iv t2, iv kd, rv p1, rv q1, rv q1, iv xx, iv ok] []) (fun _ k => XS.icmpYes X83.here hx rfl (pc0 := 273) (pc' := 280) rfl (hb hby at_273) rfl (feq hj84).2 (by decide) (by decide) k) ?_
              refine own_s (mkF m 281 #[iv aa, iv bb, iv sx, iv ddd, iv ee, iv md, iv c1, iv k1, iv b1, iv t1, iv c2, iv k2, iv b2, iv t2, iv kd, rv p1, rv q1, rv q1, iv xx, iv ok] [(.int 0)]) (fun _ k => XS.iconst X83.here hx rfl (hb hby at_280) k) ?_
              rw [show ok2 = (0 : Int32) from by rw [h_ok2, if_neg hj84]] at k
              exact k
          refine own_S (mkF m 283 #[iv aa, iv bb, iv sx, iv ddd, iv ee, iv md, iv c1, iv k1, iv b1, iv t1, iv c2, iv k2, iv b2, iv t2, iv kd, rv p1, rv q1, rv q1, iv xx, iv ok2] []) (fun _ k => XS.istore X83.here hx rfl (hb hby at_281) rfl (l' := #[iv aa, iv bb, iv sx, iv ddd, iv ee, iv md, iv c1, iv k1, iv b1, iv t1, iv c2, iv k2, iv b2, iv t2, iv kd, rv p1, rv q1, rv q1, iv xx, iv ok2]) rfl k) ?_
          refine own_S (mkF m 285 #[iv aa, iv bb, iv sx, iv ddd, iv ee, iv md, iv c1, iv k1, iv b1, iv t1, iv c2, iv k2, iv b2, iv t2, iv kd, rv p1, rv q1, rv q1, iv xx, iv ok2] [(.int ok2)]) (fun _ k => XS.iload X83.here hx rfl (hb hby at_283) rfl k) ?_
          exact own_retN X83 hx hlk (t := .boolean) hret (by simp) (hb hby at_285) (by rw [e83]; exact ⟨(by rw [h_ok2, if_pos hE2]; rfl), N83, trivial⟩) (by decide) (by decide)
    · -- not b2 = (0 : Int32)
      refine own_S (mkF m 149 #[iv aa, iv bb, iv sx, iv ddd, iv ee, iv md, iv c1, iv k1, iv b1, iv t1, iv c2, iv k2, iv b2, iv t2, iv kd, rv p1, rv q1, .unset, .unset, .unset] []) (fun _ k => XS.ifNo X39.here hx rfl (hb hby at_146) rfl ((if0 _ _).trans (feq hb2).1) k) ?_
      refine own_S (mkF m 151 #[iv aa, iv bb, iv sx, iv ddd, iv ee, iv md, iv c1, iv k1, iv b1, iv t1, iv c2, iv k2, iv b2, iv t2, iv kd, rv p1, rv q1, .unset, .unset, .unset] [(.ref q1)]) (fun _ k => XS.aload X39.here hx rfl (hb hby at_149) rfl rfl k) ?_
      refine own_S (mkF m 153 #[iv aa, iv bb, iv sx, iv ddd, iv ee, iv md, iv c1, iv k1, iv b1, iv t1, iv c2, iv k2, iv b2, iv t2, iv kd, rv p1, rv q1, .unset, .unset, .unset] [(.int t2), (.ref q1)]) (fun _ k => XS.iload X39.here hx rfl (hb hby at_151) rfl k) ?_
      obtain ⟨cq85, kq85, q85a, q85b, q85c⟩ := isOf hZ rfl F40
      obtain ⟨_, _, ⟨T85, L85, k85, n85⟩, -, X85, ⟨Lc85, hQ85, l85, y85, z85⟩, st85⟩ := X39.virtualBack hx (y := own_y3) (z := own_y3) hown (mvT hZ (own_g hw (i := 28) rfl)) (mvT hZ (own_g hw (i := 29) rfl)) (notFace_of_selects (args := #[]) (mvT hZ (own_g hw (i := 31) rfl))) (mvT hZ (own_g hw (i := 31) rfl)) (mvT hZ (own_g hw (i := 30) rfl)) (by decide) (backOf (W := 0) (own_rmat l Z a0 hw [] (q1) (t2) (c2) (k2) T39.heap n0 Z39 F43 F44 n_t2 n_c2 n_k2) hZ (own_g hw (i := 32) rfl) (own_g hw (i := 3) rfl) (by decide) (by decide)) q85a q85c (g := (mkF m 153 #[iv aa, iv bb, iv sx, iv ddd, iv ee, iv md, iv c1, iv k1, iv b1, iv t1, iv c2, iv k2, iv b2, iv t2, iv kd, rv p1, rv q1, .unset, .unset, .unset] [(.int t2), (.ref q1)])) rfl (by rw [hml]; rfl) (Steps.refl _) (argsL := [(.int t2)]) (rest := []) (lenOf own_pd__I_Lcom_example_referee_referee_logic_ltl_Pointer_ rfl) rfl (by show 2 * 0 + _ ≤ _; exact Nat.le_of_eq rfl) (hb hby at_153) (fun _ _ => ⟨rfl, rfl, (by decide : 2 + 1 ≤ _), (by decide : 10 + 5 ≤ _)⟩)
      dsimp only [Pt.U, Pt.locs, Pt.cells, Pt.slots] at X85 l85 y85 z85 st85 hQ85
      subst l85 y85 z85
      obtain ⟨q2, rfl, N85q, K85q, F86, F87, F88, F89, F90, F91, pp92⟩ := hQ85
      have N85 := Fr.app N39 N85q
      refine own_S (mkF m 156 #[iv aa, iv bb, iv sx, iv ddd, iv ee, iv md, iv c1, iv k1, iv b1, iv t1, iv c2, iv k2, iv b2, iv t2, iv kd, rv p1, rv q1, .unset, .unset, .unset] [(.ref q2)]) (fun _ k => st85.trans k) ?_
      have n93 : ct ≠ q2 := Nat.ne_of_lt (Nat.lt_of_lt_of_le F47.lt pp92)
      have n94 : p1 ≠ q2 := Nat.ne_of_lt (Nat.lt_of_lt_of_le F48.lt pp92)
      have n95 : q1 ≠ q2 := Nat.ne_of_lt (Nat.lt_of_lt_of_le F40.lt pp92)
      have ge_q2 : n0 ≤ q2 := Nat.le_trans Z39 pp92
      have F96 := F46.ext ⟨K85q.1, fun a c q => K85q.2.1 a c q nin0⟩
      have F97 := F47.keep K85q
      have F98 := F48.keep K85q
      have F99 := F49.keep K85q nin0
      have F100 := F50.keep K85q nin0
      have F101 := F51.keep K85q nin0
      have F102 := F52.keep K85q nin0
      have F103 := F53.keep K85q nin0
      have F104 := F40.keep K85q
      have F105 := F41.keep K85q nin0
      have F106 := F42.keep K85q nin0
      have F107 := F43.keep K85q nin0
      have F108 := F44.keep K85q nin0
      have F109 := F45.keep K85q nin0
      have Z85 : n0 ≤ T85.heap.size := Nat.le_trans Z39 K85q.1
      refine own_S (mkF m 158 #[iv aa, iv bb, iv sx, iv ddd, iv ee, iv md, iv c1, iv k1, iv b1, iv t1, iv c2, iv k2, iv b2, iv t2, iv kd, rv p1, rv q2, .unset, .unset, .unset] []) (fun _ k => XS.astore X85.here hx rfl (hb hby at_156) rfl rfl (l' := #[iv aa, iv bb, iv sx, iv ddd, iv ee, iv md, iv c1, iv k1, iv b1, iv t1, iv c2, iv k2, iv b2, iv t2, iv kd, rv p1, rv q2, .unset, .unset, .unset]) rfl k) ?_
      refine own_S (mkF m 160 #[iv aa, iv bb, iv sx, iv ddd, iv ee, iv md, iv c1, iv k1, iv b1, iv t1, iv c2, iv k2, iv b2, iv t2, iv kd, rv p1, rv q2, .unset, .unset, .unset] [(.int kd)]) (fun _ k => XS.iload X85.here hx rfl (hb hby at_158) rfl k) ?_
      refine own_S (mkF m 161 #[iv aa, iv bb, iv sx, iv ddd, iv ee, iv md, iv c1, iv k1, iv b1, iv t1, iv c2, iv k2, iv b2, iv t2, iv kd, rv p1, rv q2, .unset, .unset, .unset] [(.int 2), (.int kd)]) (fun _ k => XS.iconst X85.here hx rfl (hb hby at_160) k) ?_
      by_cases hk2 : kd = (2 : Int32)
      · -- kd = (2 : Int32)
        refine own_S (mkF m 164 #[iv aa, iv bb, iv sx, iv ddd, iv ee, iv md, iv c1, iv k1, iv b1, iv t1, iv c2, iv k2, iv b2, iv t2, iv kd, rv p1, rv q2, .unset, .unset, .unset] []) (fun _ k => XS.icmpNo X85.here hx rfl (hb hby at_161) rfl (teq hk2).2 k) ?_
        refine own_S (mkF m 165 #[iv aa, iv bb, iv sx, iv ddd, iv ee, iv md, iv c1, iv k1, iv b1, iv t1, iv c2, iv k2, iv b2, iv t2, iv kd, rv p1, rv q2, .unset, .unset, .unset] [.null]) (fun _ k => XS.aconstNull X85.here hx rfl (hb hby at_164) k) ?_
        refine own_S (mkF m 167 #[iv aa, iv bb, iv sx, iv ddd, iv ee, iv md, iv c1, iv k1, iv b1, iv t1, iv c2, iv k2, iv b2, iv t2, iv kd, rv p1, rv q2, .val .null, .unset, .unset] []) (fun _ k => XS.astore X85.here hx rfl (hb hby at_165) rfl rfl (l' := #[iv aa, iv bb, iv sx, iv ddd, iv ee, iv md, iv c1, iv k1, iv b1, iv t1, iv c2, iv k2, iv b2, iv t2, iv kd, rv p1, rv q2, .val .null, .unset, .unset]) rfl k) ?_
        refine own_S (mkF m 188 #[iv aa, iv bb, iv sx, iv ddd, iv ee, iv md, iv c1, iv k1, iv b1, iv t1, iv c2, iv k2, iv b2, iv t2, iv kd, rv p1, rv q2, .val .null, .unset, .unset] []) (fun _ k => XS.goto X85.here hx rfl (pc0 := 167) (pc' := 188) rfl (hb hby at_167) (by decide) (by decide) k) ?_
        refine own_S (mkF m 190 #[iv aa, iv bb, iv sx, iv ddd, iv ee, iv md, iv c1, iv k1, iv b1, iv t1, iv c2, iv k2, iv b2, iv t2, iv kd, rv p1, rv q2, .val .null, .unset, .unset] [(.int kd)]) (fun _ k => XS.iload X85.here hx rfl (hb hby at_188) rfl k) ?_
        refine own_S (mkF m 191 #[iv aa, iv bb, iv sx, iv ddd, iv ee, iv md, iv c1, iv k1, iv b1, iv t1, iv c2, iv k2, iv b2, iv t2, iv kd, rv p1, rv q2, .val .null, .unset, .unset] [(.int 2), (.int kd)]) (fun _ k => XS.iconst X85.here hx rfl (hb hby at_190) k) ?_
        obtain ⟨xx, h_xx⟩ : ∃ z : Int32, z = (if kd < (2 : Int32) then (if c1 = c2 then (if k1 = k2 then (if b1 = b2 then (if b1 = (0 : Int32) then (1 : Int32) else (if t1 = t2 then (1 : Int32) else (0 : Int32))) else (0 : Int32)) else (0 : Int32)) else (0 : Int32)) else (0 : Int32)) := ⟨_, rfl⟩
        refine own_S (T' := T85) (mkF m 232 #[iv aa, iv bb, iv sx, iv ddd, iv ee, iv md, iv c1, iv k1, iv b1, iv t1, iv c2, iv k2, iv b2, iv t2, iv kd, rv p1, rv q2, .val .null, .unset, .unset] [(.int xx)]) (fun _ k => ?_) ?_
        ·
          by_cases hj110 : kd < (2 : Int32)
          ·
            refine own_s (mkF m 194 #[iv aa, iv bb, iv sx, iv ddd, iv ee, iv md, iv c1, iv k1, iv b1, iv t1, iv c2, iv k2, iv b2, iv t2, iv kd, rv p1, rv q2, .val .null, .unset, .unset] []) (fun _ k => XS.icmpNo X85.here hx rfl (hb hby at_191) rfl (tlt hj110).2.1 k) ?_
            refine own_s (mkF m 196 #[iv aa, iv bb, iv sx, iv ddd, iv ee, iv md, iv c1, iv k1, iv b1, iv t1, iv c2, iv k2, iv b2, iv t2, iv kd, rv p1, rv q2, .val .null, .unset, .unset] [(.int c1)]) (fun _ k => XS.iload X85.here hx rfl (hb hby at_194) rfl k) ?_
            refine own_s (mkF m 198 #[iv aa, iv bb, iv sx, iv ddd, iv ee, iv md, iv c1, iv k1, iv b1, iv t1, iv c2, iv k2, iv b2, iv t2, iv kd, rv p1, rv q2, .val .null, .unset, .unset] [(.int c2), (.int c1)]) (fun _ k => XS.iload X85.here hx rfl (hb hby at_196) rfl k) ?_
            by_cases hj111 : c1 = c2
            ·
              refine own_s (mkF m 201 #[iv aa, iv bb, iv sx, iv ddd, iv ee, iv md, iv c1, iv k1, iv b1, iv t1, iv c2, iv k2, iv b2, iv t2, iv kd, rv p1, rv q2, .val .null, .unset, .unset] []) (fun _ k => XS.icmpNo X85.here hx rfl (hb hby at_198) rfl (teq hj111).2 k) ?_
              refine own_s (mkF m 203 #[iv aa, iv bb, iv sx, iv ddd, iv ee, iv md, iv c1, iv k1, iv b1, iv t1, iv c2, iv k2, iv b2, iv t2, iv kd, rv p1, rv q2, .val .null, .unset, .unset] [(.int k1)]) (fun _ k => XS.iload X85.here hx rfl (hb hby at_201) rfl k) ?_
              refine own_s (mkF m 205 #[iv aa, iv bb, iv sx, iv ddd, iv ee, iv md, iv c1, iv k1, iv b1, iv t1, iv c2, iv k2, iv b2, iv t2, iv kd, rv p1, rv q2, .val .null, .unset, .unset] [(.int k2), (.int k1)]) (fun _ k => XS.iload X85.here hx rfl (hb hby at_203) rfl k) ?_
              by_cases hj112 : k1 = k2
              ·
                refine own_s (mkF m 208 #[iv aa, iv bb, iv sx, iv ddd, iv ee, iv md, iv c1, iv k1, iv b1, iv t1, iv c2, iv k2, iv b2, iv t2, iv kd, rv p1, rv q2, .val .null, .unset, .unset] []) (fun _ k => XS.icmpNo X85.here hx rfl (hb hby at_205) rfl (teq hj112).2 k) ?_
                refine own_s (mkF m 210 #[iv aa, iv bb, iv sx, iv ddd, iv ee, iv md, iv c1, iv k1, iv b1, iv t1, iv c2, iv k2, iv b2, iv t2, iv kd, rv p1, rv q2, .val .null, .unset, .unset] [(.int b1)]) (fun _ k => XS.iload X85.here hx rfl (hb hby at_208) rfl k) ?_
                refine own_s (mkF m 212 #[iv aa, iv bb, iv sx, iv ddd, iv ee, iv md, iv c1, iv k1, iv b1, iv t1, iv c2, iv k2, iv b2, iv t2, iv kd, rv p1, rv q2, .val .null, .unset, .unset] [(.int b2), (.int b1)]) (fun _ k => XS.iload X85.here hx rfl (hb hby at_210) rfl k) ?_
                by_cases hj113 : b1 = b2
                ·
                  refine own_s (mkF m 215 #[iv aa, iv bb, iv sx, iv ddd, iv ee, iv md, iv c1, iv k1, iv b1, iv t1, iv c2, iv k2, iv b2, iv t2, iv kd, rv p1, rv q2, .val .null, .unset, .unset] []) (fun _ k => XS.icmpNo X85.here hx rfl (hb hby at_212) rfl (teq hj113).2 k) ?_
                  refine own_s (mkF m 217 #[iv aa, iv bb, iv sx, iv ddd, iv ee, iv md, iv c1, iv k1, iv b1, iv t1, iv c2, iv k2, iv b2, iv t2, iv kd, rv p1, rv q2, .val .null, .unset, .unset] [(.int b1)]) (fun _ k => XS.iload X85.here hx rfl (hb hby at_215) rfl k) ?_
                  by_cases hj114 : b1 = (0 : Int32)
                  ·
                    refine own_s (mkF m 227 #[iv aa, iv bb, iv sx, iv ddd, iv ee, iv md, iv c1, iv k1, iv b1, iv t1, iv c2, iv k2, iv b2, iv t2, iv kd, rv p1, rv q2, .val .null, .unset, .unset] []) (fun _ k => XS.ifYes X85.here hx rfl (pc0 := 217) (pc' := 227) rfl (hb hby at_217) rfl ((if0 _ _).trans (teq hj114).1) (by decide) (by decide) k) ?_
                    refine own_s (mkF m 228 #[iv aa, iv bb, iv sx, iv ddd, iv ee, iv md, iv c1, iv k1, iv b1, iv t1, iv c2, iv k2, iv b2, iv t2, iv kd, rv p1, rv q2, .val .null, .unset, .unset] [(.int 1)]) (fun _ k => XS.iconst X85.here hx rfl (hb hby at_227) k) ?_
                    refine own_s (mkF m 232 #[iv aa, iv bb, iv sx, iv ddd, iv ee, iv md, iv c1, iv k1, iv b1, iv t1, iv c2, iv k2, iv b2, iv t2, iv kd, rv p1, rv q2, .val .null, .unset, .unset] [(.int 1)]) (fun _ k => XS.goto X85.here hx rfl (pc0 := 228) (pc' := 232) rfl (hb hby at_228) (by decide) (by decide) k) ?_
                    rw [show xx = (1 : Int32) from by rw [h_xx, if_pos hj110, if_pos hj111, if_pos hj112, if_pos hj113, if_pos hj114]] at k
                    exact k
                  ·
                    refine own_s (mkF m 220 #[iv aa, iv bb, iv sx, iv ddd, iv ee, iv md, iv c1, iv k1, iv b1, iv t1, iv c2, iv k2, iv b2, iv t2, iv kd, rv p1, rv q2, .val .null, .unset, .unset] []) (fun _ k => XS.ifNo X85.here hx rfl (hb hby at_217) rfl ((if0 _ _).trans (feq hj114).1) k) ?_
                    refine own_s (mkF m 222 #[iv aa, iv bb, iv sx, iv ddd, iv ee, iv md, iv c1, iv k1, iv b1, iv t1, iv c2, iv k2, iv b2, iv t2, iv kd, rv p1, rv q2, .val .null, .unset, .unset] [(.int t1)]) (fun _ k => XS.iload X85.here hx rfl (hb hby at_220) rfl k) ?_
                    refine own_s (mkF m 224 #[iv aa, iv bb, iv sx, iv ddd, iv ee, iv md, iv c1, iv k1, iv b1, iv t1, iv c2, iv k2, iv b2, iv t2, iv kd, rv p1, rv q2, .val .null, .unset, .unset] [(.int t2), (.int t1)]) (fun _ k => XS.iload X85.here hx rfl (hb hby at_222) rfl k) ?_
                    by_cases hj115 : t1 = t2
                    ·
                      refine own_s (mkF m 227 #[iv aa, iv bb, iv sx, iv ddd, iv ee, iv md, iv c1, iv k1, iv b1, iv t1, iv c2, iv k2, iv b2, iv t2, iv kd, rv p1, rv q2, .val .null, .unset, .unset] []) (fun _ k => XS.icmpNo X85.here hx rfl (hb hby at_224) rfl (teq hj115).2 k) ?_
                      refine own_s (mkF m 228 #[iv aa, iv bb, iv sx, iv ddd, iv ee, iv md, iv c1, iv k1, iv b1, iv t1, iv c2, iv k2, iv b2, iv t2, iv kd, rv p1, rv q2, .val .null, .unset, .unset] [(.int 1)]) (fun _ k => XS.iconst X85.here hx rfl (hb hby at_227) k) ?_
                      refine own_s (mkF m 232 #[iv aa, iv bb, iv sx, iv ddd, iv ee, iv md, iv c1, iv k1, iv b1, iv t1, iv c2, iv k2, iv b2, iv t2, iv kd, rv p1, rv q2, .val .null, .unset, .unset] [(.int 1)]) (fun _ k => XS.goto X85.here hx rfl (pc0 := 228) (pc' := 232) rfl (hb hby at_228) (by decide) (by decide) k) ?_
                      rw [show xx = (1 : Int32) from by rw [h_xx, if_pos hj110, if_pos hj111, if_pos hj112, if_pos hj113, if_neg hj114, if_pos hj115]] at k
                      exact k
                    ·
                      refine own_s (mkF m 231 #[iv aa, iv bb, iv sx, iv ddd, iv ee, iv md, iv c1, iv k1, iv b1, iv t1, iv c2, iv k2, iv b2, iv t2, iv kd, rv p1, rv q2, .val .null, .unset, .unset] []) (fun _ k => XS.icmpYes X85.here hx rfl (pc0 := 224) (pc' := 231) rfl (hb hby at_224) rfl (feq hj115).2 (by decide) (by decide) k) ?_
                      refine own_s (mkF m 232 #[iv aa, iv bb, iv sx, iv ddd, iv ee, iv md, iv c1, iv k1, iv b1, iv t1, iv c2, iv k2, iv b2, iv t2, iv kd, rv p1, rv q2, .val .null, .unset, .unset] [(.int 0)]) (fun _ k => XS.iconst X85.here hx rfl (hb hby at_231) k) ?_
                      rw [show xx = (0 : Int32) from by rw [h_xx, if_pos hj110, if_pos hj111, if_pos hj112, if_pos hj113, if_neg hj114, if_neg hj115]] at k
                      exact k
                ·
                  refine own_s (mkF m 231 #[iv aa, iv bb, iv sx, iv ddd, iv ee, iv md, iv c1, iv k1, iv b1, iv t1, iv c2, iv k2, iv b2, iv t2, iv kd, rv p1, rv q2, .val .null, .unset, .unset] []) (fun _ k => XS.icmpYes X85.here hx rfl (pc0 := 212) (pc' := 231) rfl (hb hby at_212) rfl (feq hj113).2 (by decide) (by decide) k) ?_
                  refine own_s (mkF m 232 #[iv aa, iv bb, iv sx, iv ddd, iv ee, iv md, iv c1, iv k1, iv b1, iv t1, iv c2, iv k2, iv b2, iv t2, iv kd, rv p1, rv q2, .val .null, .unset, .unset] [(.int 0)]) (fun _ k => XS.iconst X85.here hx rfl (hb hby at_231) k) ?_
                  rw [show xx = (0 : Int32) from by rw [h_xx, if_pos hj110, if_pos hj111, if_pos hj112, if_neg hj113]] at k
                  exact k
              ·
                refine own_s (mkF m 231 #[iv aa, iv bb, iv sx, iv ddd, iv ee, iv md, iv c1, iv k1, iv b1, iv t1, iv c2, iv k2, iv b2, iv t2, iv kd, rv p1, rv q2, .val .null, .unset, .unset] []) (fun _ k => XS.icmpYes X85.here hx rfl (pc0 := 205) (pc' := 231) rfl (hb hby at_205) rfl (feq hj112).2 (by decide) (by decide) k) ?_
                refine own_s (mkF m 232 #[iv aa, iv bb, iv sx, iv ddd, iv ee, iv md, iv c1, iv k1, iv b1, iv t1, iv c2, iv k2, iv b2, iv t2, iv kd, rv p1, rv q2, .val .null, .unset, .unset] [(.int 0)]) (fun _ k => XS.iconst X85.here hx rfl (hb hby at_231) k) ?_
                rw [show xx = (0 : Int32) from by rw [h_xx, if_pos hj110, if_pos hj111, if_neg hj112]] at k
                exact k
            ·
              refine own_s (mkF m 231 #[iv aa, iv bb, iv sx, iv ddd, iv ee, iv md, iv c1, iv k1, iv b1, iv t1, iv c2, iv k2, iv b2, iv t2, iv kd, rv p1, rv q2, .val .null, .unset, .unset] []) (fun _ k => XS.icmpYes X85.here hx rfl (pc0 := 198) (pc' := 231) rfl (hb hby at_198) rfl (feq hj111).2 (by decide) (by decide) k) ?_
              refine own_s (mkF m 232 #[iv aa, iv bb, iv sx, iv ddd, iv ee, iv md, iv c1, iv k1, iv b1, iv t1, iv c2, iv k2, iv b2, iv t2, iv kd, rv p1, rv q2, .val .null, .unset, .unset] [(.int 0)]) (fun _ k => XS.iconst X85.here hx rfl (hb hby at_231) k) ?_
              rw [show xx = (0 : Int32) from by rw [h_xx, if_pos hj110, if_neg hj111]] at k
              exact k
          ·
            refine own_s (mkF m 231 #[iv aa, iv bb, iv sx, iv ddd, iv ee, iv md, iv c1, iv k1, iv b1, iv t1, iv c2, iv k2, iv b2, iv t2, iv kd, rv p1, rv q2, .val .null, .unset, .unset] []) (fun _ k => XS.icmpYes X85.here hx rfl (pc0 := 191) (pc' := 231) rfl (hb hby at_191) rfl (flt hj110).2.1 (by decide) (by decide) k) ?_
            refine own_s (mkF m 232 #[iv aa, iv bb, iv sx, iv ddd, iv ee, iv md, iv c1, iv k1, iv b1, iv t1, iv c2, iv k2, iv b2, iv t2, iv kd, rv p1, rv q2, .val .null, .unset, .unset] [(.int 0)]) (fun _ k => XS.iconst X85.here hx rfl (hb hby at_231) k) ?_
            rw [show xx = (0 : Int32) from by rw [h_xx, if_neg hj110]] at k
            exact k
        refine own_S (mkF m 234 #[iv aa, iv bb, iv sx, iv ddd, iv ee, iv md, iv c1, iv k1, iv b1, iv t1, iv c2, iv k2, iv b2, iv t2, iv kd, rv p1, rv q2, .val .null, iv xx, .unset] []) (fun _ k => XS.istore X85.here hx rfl (hb hby at_232) rfl (l' := #[iv aa, iv bb, iv sx, iv ddd, iv ee, iv md, iv c1, iv k1, iv b1, iv t1, iv c2, iv k2, iv b2, iv t2, iv kd, rv p1, rv q2, .val .null, iv xx, .unset]) rfl k) ?_
        refine own_S (mkF m 236 #[iv aa, iv bb, iv sx, iv ddd, iv ee, iv md, iv c1, iv k1, iv b1, iv t1, iv c2, iv k2, iv b2, iv t2, iv kd, rv p1, rv q2, .val .null, iv xx, .unset] [(.ref p1)]) (fun _ k => XS.aload X85.here hx rfl (hb hby at_234) rfl rfl k) ?_
        refine own_S (mkF m 238 #[iv aa, iv bb, iv sx, iv ddd, iv ee, iv md, iv c1, iv k1, iv b1, iv t1, iv c2, iv k2, iv b2, iv t2, iv kd, rv p1, rv q2, .val .null, iv xx, .unset] [.null, (.ref p1)]) (fun _ k => XS.aload X85.here hx rfl (hb hby at_236) rfl rfl k) ?_
        obtain ⟨cq116, kq116, q116a, q116b, q116c⟩ := isOf hZ rfl F98
        obtain ⟨_, _, ⟨T116, L116, k116, n116⟩, -, X116, ⟨Lc116, hQ116, l116, y116, z116⟩, st116⟩ := X85.virtualBack hx (y := own_y4) (z := own_y4) hown (mvT hZ (own_g hw (i := 34) rfl)) (mvT hZ (own_g hw (i := 35) rfl)) (notFace_of_selects (args := #[]) (mvT hZ (own_g hw (i := 37) rfl))) (mvT hZ (own_g hw (i := 37) rfl)) (mvT hZ (own_g hw (i := 36) rfl)) (by decide) (backOf (W := 0) (own_rmen l Z a0 hw [] (p1) T85.heap n0 Z85 ) hZ (own_g hw (i := 38) rfl) (own_g hw (i := 3) rfl) (by decide) (by decide)) q116a q116c (g := (mkF m 238 #[iv aa, iv bb, iv sx, iv ddd, iv ee, iv md, iv c1, iv k1, iv b1, iv t1, iv c2, iv k2, iv b2, iv t2, iv kd, rv p1, rv q2, .val .null, iv xx, .unset] [.null, (.ref p1)])) rfl (by rw [hml]; rfl) (Steps.refl _) (argsL := [.null]) (rest := []) (lenOf own_pd__Ljava_lang_Object__Z rfl) rfl (by show 2 * 0 + _ ≤ _; exact Nat.le_of_eq rfl) (hb hby at_238) (fun _ _ => ⟨rfl, rfl, (by decide : 3 + 0 ≤ _), (by decide : 15 + 0 ≤ _)⟩)
        dsimp only [Pt.U, Pt.locs, Pt.cells, Pt.slots] at X116 l116 y116 z116 st116 hQ116
        subst l116 y116 z116
        obtain ⟨rfl, N116q, e116⟩ := hQ116
        have N116 := Fr.app N85 N116q
        refine own_S (mkF m 241 #[iv aa, iv bb, iv sx, iv ddd, iv ee, iv md, iv c1, iv k1, iv b1, iv t1, iv c2, iv k2, iv b2, iv t2, iv kd, rv p1, rv q2, .val .null, iv xx, .unset] [(.int 0)]) (fun _ k => st116.trans k) ?_
        refine own_S (mkF m 243 #[iv aa, iv bb, iv sx, iv ddd, iv ee, iv md, iv c1, iv k1, iv b1, iv t1, iv c2, iv k2, iv b2, iv t2, iv kd, rv p1, rv q2, .val .null, iv xx, .unset] [(.int xx), (.int 0)]) (fun _ k => XS.iload X116.here hx rfl (hb hby at_241) rfl k) ?_
        obtain ⟨ok, h_ok⟩ : ∃ z : Int32, z = (if (0 : Int32) = xx then (1 : Int32) else (0 : Int32)) := ⟨_, rfl⟩
        refine own_S (T' := T116) (mkF m 251 #[iv aa, iv bb, iv sx, iv ddd, iv ee, iv md, iv c1, iv k1, iv b1, iv t1, iv c2, iv k2, iv b2, iv t2, iv kd, rv p1, rv q2, .val .null, iv xx, .unset] [(.int ok)]) (fun _ k => ?_) ?_
        ·
          by_cases hj117 : (0 : Int32) = xx
          ·
            refine own_s (mkF m 246 #[iv aa, iv bb, iv sx, iv ddd, iv ee, iv md, iv c1, iv k1, iv b1, iv t1, iv c2, iv k2, iv b2, iv t2, iv kd, rv p1, rv q2, .val .null, iv xx, .unset] []) (fun _ k => XS.icmpNo X116.here hx rfl (hb hby at_243) rfl (teq hj117).2 k) ?_
            refine own_s (mkF m 247 #[iv aa, iv bb, iv sx, iv ddd, iv ee, iv md, iv c1, iv k1, iv b1, iv t1, iv c2, iv k2, iv b2, iv t2, iv kd, rv p1, rv q2, .val .null, iv xx, .unset] [(.int 1)]) (fun _ k => XS.iconst X116.here hx rfl (hb hby at_246) k) ?_
            refine own_s (mkF m 251 #[iv aa, iv bb, iv sx, iv ddd, iv ee, iv md, iv c1, iv k1, iv b1, iv t1, iv c2, iv k2, iv b2, iv t2, iv kd, rv p1, rv q2, .val .null, iv xx, .unset] [(.int 1)]) (fun _ k => XS.goto X116.here hx rfl (pc0 := 247) (pc' := 251) rfl (hb hby at_247) (by decide) (by decide) k) ?_
            rw [show ok = (1 : Int32) from by rw [h_ok, if_pos hj117]] at k
            exact k
          ·
            refine own_s (mkF m 250 #[iv aa, iv bb, iv sx, iv ddd, iv ee, iv md, iv c1, iv k1, iv b1, iv t1, iv c2, iv k2, iv b2, iv t2, iv kd, rv p1, rv q2, .val .null, iv xx, .unset] []) (fun _ k => XS.icmpYes X116.here hx rfl (pc0 := 243) (pc' := 250) rfl (hb hby at_243) rfl (feq hj117).2 (by decide) (by decide) k) ?_
            refine own_s (mkF m 251 #[iv aa, iv bb, iv sx, iv ddd, iv ee, iv md, iv c1, iv k1, iv b1, iv t1, iv c2, iv k2, iv b2, iv t2, iv kd, rv p1, rv q2, .val .null, iv xx, .unset] [(.int 0)]) (fun _ k => XS.iconst X116.here hx rfl (hb hby at_250) k) ?_
            rw [show ok = (0 : Int32) from by rw [h_ok, if_neg hj117]] at k
            exact k
        refine own_S (mkF m 253 #[iv aa, iv bb, iv sx, iv ddd, iv ee, iv md, iv c1, iv k1, iv b1, iv t1, iv c2, iv k2, iv b2, iv t2, iv kd, rv p1, rv q2, .val .null, iv xx, iv ok] []) (fun _ k => XS.istore X116.here hx rfl (hb hby at_251) rfl (l' := #[iv aa, iv bb, iv sx, iv ddd, iv ee, iv md, iv c1, iv k1, iv b1, iv t1, iv c2, iv k2, iv b2, iv t2, iv kd, rv p1, rv q2, .val .null, iv xx, iv ok]) rfl k) ?_
        refine own_S (mkF m 255 #[iv aa, iv bb, iv sx, iv ddd, iv ee, iv md, iv c1, iv k1, iv b1, iv t1, iv c2, iv k2, iv b2, iv t2, iv kd, rv p1, rv q2, .val .null, iv xx, iv ok] [(.int kd)]) (fun _ k => XS.iload X116.here hx rfl (hb hby at_253) rfl k) ?_
        refine own_S (mkF m 256 #[iv aa, iv bb, iv sx, iv ddd, iv ee, iv md, iv c1, iv k1, iv b1, iv t1, iv c2, iv k2, iv b2, iv t2, iv kd, rv p1, rv q2, .val .null, iv xx, iv ok] [(.int 2), (.int kd)]) (fun _ k => XS.iconst X116.here hx rfl (hb hby at_255) k) ?_
        have hc118 : ¬ (kd < (2 : Int32)) := (by rw [hk2]; decide)
        refine own_S (mkF m 283 #[iv aa, iv bb, iv sx, iv ddd, iv ee, iv md, iv c1, iv k1, iv b1, iv t1, iv c2, iv k2, iv b2, iv t2, iv kd, rv p1, rv q2, .val .null, iv xx, iv ok] []) (fun _ k => XS.icmpYes X116.here hx rfl (pc0 := 256) (pc' := 283) rfl (hb hby at_256) rfl (flt hc118).2.1 (by decide) (by decide) k) ?_
        refine own_S (mkF m 285 #[iv aa, iv bb, iv sx, iv ddd, iv ee, iv md, iv c1, iv k1, iv b1, iv t1, iv c2, iv k2, iv b2, iv t2, iv kd, rv p1, rv q2, .val .null, iv xx, iv ok] [(.int ok)]) (fun _ k => XS.iload X116.here hx rfl (hb hby at_283) rfl k) ?_
        exact own_retN X116 hx hlk (t := .boolean) hret (by simp) (hb hby at_285) (by rw [e116]; exact ⟨(by rw [h_ok, h_xx, if_neg (show ¬ kd < (2 : Int32) by rw [hk2]; decide), if_pos rfl]; rfl), N116, trivial⟩) (by decide) (by decide)
      · -- not kd = (2 : Int32)
        refine own_S (mkF m 170 #[iv aa, iv bb, iv sx, iv ddd, iv ee, iv md, iv c1, iv k1, iv b1, iv t1, iv c2, iv k2, iv b2, iv t2, iv kd, rv p1, rv q2, .unset, .unset, .unset] []) (fun _ k => XS.icmpYes X85.here hx rfl (pc0 := 161) (pc' := 170) rfl (hb hby at_161) rfl (feq hk2).2 (by decide) (by decide) k) ?_
        refine own_S (mkF m 172 #[iv aa, iv bb, iv sx, iv ddd, iv ee, iv md, iv c1, iv k1, iv b1, iv t1, iv c2, iv k2, iv b2, iv t2, iv kd, rv p1, rv q2, .unset, .unset, .unset] [(.int kd)]) (fun _ k => XS.iload X85.here hx rfl (hb hby at_170) rfl k) ?_
        refine own_S (mkF m 173 #[iv aa, iv bb, iv sx, iv ddd, iv ee, iv md, iv c1, iv k1, iv b1, iv t1, iv c2, iv k2, iv b2, iv t2, iv kd, rv p1, rv q2, .unset, .unset, .unset] [(.int 3), (.int kd)]) (fun _ k => XS.iconst X85.here hx rfl (hb hby at_172) k) ?_
        by_cases hk3 : kd = (3 : Int32)
        · -- kd = (3 : Int32)
          refine own_S (mkF m 176 #[iv aa, iv bb, iv sx, iv ddd, iv ee, iv md, iv c1, iv k1, iv b1, iv t1, iv c2, iv k2, iv b2, iv t2, iv kd, rv p1, rv q2, .unset, .unset, .unset] []) (fun _ k => XS.icmpNo X85.here hx rfl (hb hby at_173) rfl (teq hk3).2 k) ?_
          obtain ⟨T119, X119, e119, st119⟩ := getS (host := "") X85 hx hZ hown (own_g hw (i := 40) rfl) Via.refl rfl F96 (g := (mkF m 176 #[iv aa, iv bb, iv sx, iv ddd, iv ee, iv md, iv c1, iv k1, iv b1, iv t1, iv c2, iv k2, iv b2, iv t2, iv kd, rv p1, rv q2, .unset, .unset, .unset] [])) rfl (hb hby at_176)
          refine own_S (mkF m 179 #[iv aa, iv bb, iv sx, iv ddd, iv ee, iv md, iv c1, iv k1, iv b1, iv t1, iv c2, iv k2, iv b2, iv t2, iv kd, rv p1, rv q2, .unset, .unset, .unset] [(.ref ct)]) st119 ?_
          refine own_S (mkF m 181 #[iv aa, iv bb, iv sx, iv ddd, iv ee, iv md, iv c1, iv k1, iv b1, iv t1, iv c2, iv k2, iv b2, iv t2, iv kd, rv p1, rv q2, rv ct, .unset, .unset] []) (fun _ k => XS.astore X119.here hx rfl (hb hby at_179) rfl rfl (l' := #[iv aa, iv bb, iv sx, iv ddd, iv ee, iv md, iv c1, iv k1, iv b1, iv t1, iv c2, iv k2, iv b2, iv t2, iv kd, rv p1, rv q2, rv ct, .unset, .unset]) rfl k) ?_
          refine own_S (mkF m 188 #[iv aa, iv bb, iv sx, iv ddd, iv ee, iv md, iv c1, iv k1, iv b1, iv t1, iv c2, iv k2, iv b2, iv t2, iv kd, rv p1, rv q2, rv ct, .unset, .unset] []) (fun _ k => XS.goto X119.here hx rfl (pc0 := 181) (pc' := 188) rfl (hb hby at_181) (by decide) (by decide) k) ?_
          refine own_S (mkF m 190 #[iv aa, iv bb, iv sx, iv ddd, iv ee, iv md, iv c1, iv k1, iv b1, iv t1, iv c2, iv k2, iv b2, iv t2, iv kd, rv p1, rv q2, rv ct, .unset, .unset] [(.int kd)]) (fun _ k => XS.iload X119.here hx rfl (hb hby at_188) rfl k) ?_
          refine own_S (mkF m 191 #[iv aa, iv bb, iv sx, iv ddd, iv ee, iv md, iv c1, iv k1, iv b1, iv t1, iv c2, iv k2, iv b2, iv t2, iv kd, rv p1, rv q2, rv ct, .unset, .unset] [(.int 2), (.int kd)]) (fun _ k => XS.iconst X119.here hx rfl (hb hby at_190) k) ?_
          obtain ⟨xx, h_xx⟩ : ∃ z : Int32, z = (if kd < (2 : Int32) then (if c1 = c2 then (if k1 = k2 then (if b1 = b2 then (if b1 = (0 : Int32) then (1 : Int32) else (if t1 = t2 then (1 : Int32) else (0 : Int32))) else (0 : Int32)) else (0 : Int32)) else (0 : Int32)) else (0 : Int32)) := ⟨_, rfl⟩
          refine own_S (T' := T119) (mkF m 232 #[iv aa, iv bb, iv sx, iv ddd, iv ee, iv md, iv c1, iv k1, iv b1, iv t1, iv c2, iv k2, iv b2, iv t2, iv kd, rv p1, rv q2, rv ct, .unset, .unset] [(.int xx)]) (fun _ k => ?_) ?_
          ·
            by_cases hj120 : kd < (2 : Int32)
            ·
              refine own_s (mkF m 194 #[iv aa, iv bb, iv sx, iv ddd, iv ee, iv md, iv c1, iv k1, iv b1, iv t1, iv c2, iv k2, iv b2, iv t2, iv kd, rv p1, rv q2, rv ct, .unset, .unset] []) (fun _ k => XS.icmpNo X119.here hx rfl (hb hby at_191) rfl (tlt hj120).2.1 k) ?_
              refine own_s (mkF m 196 #[iv aa, iv bb, iv sx, iv ddd, iv ee, iv md, iv c1, iv k1, iv b1, iv t1, iv c2, iv k2, iv b2, iv t2, iv kd, rv p1, rv q2, rv ct, .unset, .unset] [(.int c1)]) (fun _ k => XS.iload X119.here hx rfl (hb hby at_194) rfl k) ?_
              refine own_s (mkF m 198 #[iv aa, iv bb, iv sx, iv ddd, iv ee, iv md, iv c1, iv k1, iv b1, iv t1, iv c2, iv k2, iv b2, iv t2, iv kd, rv p1, rv q2, rv ct, .unset, .unset] [(.int c2), (.int c1)]) (fun _ k => XS.iload X119.here hx rfl (hb hby at_196) rfl k) ?_
              by_cases hj121 : c1 = c2
              ·
                refine own_s (mkF m 201 #[iv aa, iv bb, iv sx, iv ddd, iv ee, iv md, iv c1, iv k1, iv b1, iv t1, iv c2, iv k2, iv b2, iv t2, iv kd, rv p1, rv q2, rv ct, .unset, .unset] []) (fun _ k => XS.icmpNo X119.here hx rfl (hb hby at_198) rfl (teq hj121).2 k) ?_
                refine own_s (mkF m 203 #[iv aa, iv bb, iv sx, iv ddd, iv ee, iv md, iv c1, iv k1, iv b1, iv t1, iv c2, iv k2, iv b2, iv t2, iv kd, rv p1, rv q2, rv ct, .unset, .unset] [(.int k1)]) (fun _ k => XS.iload X119.here hx rfl (hb hby at_201) rfl k) ?_
                refine own_s (mkF m 205 #[iv aa, iv bb, iv sx, iv ddd, iv ee, iv md, iv c1, iv k1, iv b1, iv t1, iv c2, iv k2, iv b2, iv t2, iv kd, rv p1, rv q2, rv ct, .unset, .unset] [(.int k2), (.int k1)]) (fun _ k => XS.iload X119.here hx rfl (hb hby at_203) rfl k) ?_
                by_cases hj122 : k1 = k2
                ·
                  refine own_s (mkF m 208 #[iv aa, iv bb, iv sx, iv ddd, iv ee, iv md, iv c1, iv k1, iv b1, iv t1, iv c2, iv k2, iv b2, iv t2, iv kd, rv p1, rv q2, rv ct, .unset, .unset] []) (fun _ k => XS.icmpNo X119.here hx rfl (hb hby at_205) rfl (teq hj122).2 k) ?_
                  refine own_s (mkF m 210 #[iv aa, iv bb, iv sx, iv ddd, iv ee, iv md, iv c1, iv k1, iv b1, iv t1, iv c2, iv k2, iv b2, iv t2, iv kd, rv p1, rv q2, rv ct, .unset, .unset] [(.int b1)]) (fun _ k => XS.iload X119.here hx rfl (hb hby at_208) rfl k) ?_
                  refine own_s (mkF m 212 #[iv aa, iv bb, iv sx, iv ddd, iv ee, iv md, iv c1, iv k1, iv b1, iv t1, iv c2, iv k2, iv b2, iv t2, iv kd, rv p1, rv q2, rv ct, .unset, .unset] [(.int b2), (.int b1)]) (fun _ k => XS.iload X119.here hx rfl (hb hby at_210) rfl k) ?_
                  by_cases hj123 : b1 = b2
                  ·
                    refine own_s (mkF m 215 #[iv aa, iv bb, iv sx, iv ddd, iv ee, iv md, iv c1, iv k1, iv b1, iv t1, iv c2, iv k2, iv b2, iv t2, iv kd, rv p1, rv q2, rv ct, .unset, .unset] []) (fun _ k => XS.icmpNo X119.here hx rfl (hb hby at_212) rfl (teq hj123).2 k) ?_
                    refine own_s (mkF m 217 #[iv aa, iv bb, iv sx, iv ddd, iv ee, iv md, iv c1, iv k1, iv b1, iv t1, iv c2, iv k2, iv b2, iv t2, iv kd, rv p1, rv q2, rv ct, .unset, .unset] [(.int b1)]) (fun _ k => XS.iload X119.here hx rfl (hb hby at_215) rfl k) ?_
                    by_cases hj124 : b1 = (0 : Int32)
                    ·
                      refine own_s (mkF m 227 #[iv aa, iv bb, iv sx, iv ddd, iv ee, iv md, iv c1, iv k1, iv b1, iv t1, iv c2, iv k2, iv b2, iv t2, iv kd, rv p1, rv q2, rv ct, .unset, .unset] []) (fun _ k => XS.ifYes X119.here hx rfl (pc0 := 217) (pc' := 227) rfl (hb hby at_217) rfl ((if0 _ _).trans (teq hj124).1) (by decide) (by decide) k) ?_
                      refine own_s (mkF m 228 #[iv aa, iv bb, iv sx, iv ddd, iv ee, iv md, iv c1, iv k1, iv b1, iv t1, iv c2, iv k2, iv b2, iv t2, iv kd, rv p1, rv q2, rv ct, .unset, .unset] [(.int 1)]) (fun _ k => XS.iconst X119.here hx rfl (hb hby at_227) k) ?_
                      refine own_s (mkF m 232 #[iv aa, iv bb, iv sx, iv ddd, iv ee, iv md, iv c1, iv k1, iv b1, iv t1, iv c2, iv k2, iv b2, iv t2, iv kd, rv p1, rv q2, rv ct, .unset, .unset] [(.int 1)]) (fun _ k => XS.goto X119.here hx rfl (pc0 := 228) (pc' := 232) rfl (hb hby at_228) (by decide) (by decide) k) ?_
                      rw [show xx = (1 : Int32) from by rw [h_xx, if_pos hj120, if_pos hj121, if_pos hj122, if_pos hj123, if_pos hj124]] at k
                      exact k
                    ·
                      refine own_s (mkF m 220 #[iv aa, iv bb, iv sx, iv ddd, iv ee, iv md, iv c1, iv k1, iv b1, iv t1, iv c2, iv k2, iv b2, iv t2, iv kd, rv p1, rv q2, rv ct, .unset, .unset] []) (fun _ k => XS.ifNo X119.here hx rfl (hb hby at_217) rfl ((if0 _ _).trans (feq hj124).1) k) ?_
                      refine own_s (mkF m 222 #[iv aa, iv bb, iv sx, iv ddd, iv ee, iv md, iv c1, iv k1, iv b1, iv t1, iv c2, iv k2, iv b2, iv t2, iv kd, rv p1, rv q2, rv ct, .unset, .unset] [(.int t1)]) (fun _ k => XS.iload X119.here hx rfl (hb hby at_220) rfl k) ?_
                      refine own_s (mkF m 224 #[iv aa, iv bb, iv sx, iv ddd, iv ee, iv md, iv c1, iv k1, iv b1, iv t1, iv c2, iv k2, iv b2, iv t2, iv kd, rv p1, rv q2, rv ct, .unset, .unset] [(.int t2), (.int t1)]) (fun _ k => XS.iload X119.here hx rfl (hb hby at_222) rfl k) ?_
                      by_cases hj125 : t1 = t2
                      ·
                        refine own_s (mkF m 227 #[iv aa, iv bb, iv sx, iv ddd, iv ee, iv md, iv c1, iv k1, iv b1, iv t1, iv c2, iv k2, iv b2, iv t2, iv kd, rv p1, rv q2, rv ct, .unset, .unset] []) (fun _ k => XS.icmpNo X119.here hx rfl (hb hby at_224) rfl (teq hj125).2 k) ?_
                        refine own_s (mkF m 228 #[iv aa, iv bb, iv sx, iv ddd, iv ee, iv md, iv c1, iv k1, iv b1, iv t1, iv c2, iv k2, iv b2, iv t2, iv kd, rv p1, rv q2, rv ct, .unset, .unset] [(.int 1)]) (fun _ k => XS.iconst X119.here hx rfl (hb hby at_227) k) ?_
                        refine own_s (mkF m 232 #[iv aa, iv bb, iv sx, iv ddd, iv ee, iv md, iv c1, iv k1, iv b1, iv t1, iv c2, iv k2, iv b2, iv t2, iv kd, rv p1, rv q2, rv ct, .unset, .unset] [(.int 1)]) (fun _ k => XS.goto X119.here hx rfl (pc0 := 228) (pc' := 232) rfl (hb hby at_228) (by decide) (by decide) k) ?_
                        rw [show xx = (1 : Int32) from by rw [h_xx, if_pos hj120, if_pos hj121, if_pos hj122, if_pos hj123, if_neg hj124, if_pos hj125]] at k
                        exact k
                      ·
                        refine own_s (mkF m 231 #[iv aa, iv bb, iv sx, iv ddd, iv ee, iv md, iv c1, iv k1, iv b1, iv t1, iv c2, iv k2, iv b2, iv t2, iv kd, rv p1, rv q2, rv ct, .unset, .unset] []) (fun _ k => XS.icmpYes X119.here hx rfl (pc0 := 224) (pc' := 231) rfl (hb hby at_224) rfl (feq hj125).2 (by decide) (by decide) k) ?_
                        refine own_s (mkF m 232 #[iv aa, iv bb, iv sx, iv ddd, iv ee, iv md, iv c1, iv k1, iv b1, iv t1, iv c2, iv k2, iv b2, iv t2, iv kd, rv p1, rv q2, rv ct, .unset, .unset] [(.int 0)]) (fun _ k => XS.iconst X119.here hx rfl (hb hby at_231) k) ?_
                        rw [show xx = (0 : Int32) from by rw [h_xx, if_pos hj120, if_pos hj121, if_pos hj122, if_pos hj123, if_neg hj124, if_neg hj125]] at k
                        exact k
                  ·
                    refine own_s (mkF m 231 #[iv aa, iv bb, iv sx, iv ddd, iv ee, iv md, iv c1, iv k1, iv b1, iv t1, iv c2, iv k2, iv b2, iv t2, iv kd, rv p1, rv q2, rv ct, .unset, .unset] []) (fun _ k => XS.icmpYes X119.here hx rfl (pc0 := 212) (pc' := 231) rfl (hb hby at_212) rfl (feq hj123).2 (by decide) (by decide) k) ?_
                    refine own_s (mkF m 232 #[iv aa, iv bb, iv sx, iv ddd, iv ee, iv md, iv c1, iv k1, iv b1, iv t1, iv c2, iv k2, iv b2, iv t2, iv kd, rv p1, rv q2, rv ct, .unset, .unset] [(.int 0)]) (fun _ k => XS.iconst X119.here hx rfl (hb hby at_231) k) ?_
                    rw [show xx = (0 : Int32) from by rw [h_xx, if_pos hj120, if_pos hj121, if_pos hj122, if_neg hj123]] at k
                    exact k
                ·
                  refine own_s (mkF m 231 #[iv aa, iv bb, iv sx, iv ddd, iv ee, iv md, iv c1, iv k1, iv b1, iv t1, iv c2, iv k2, iv b2, iv t2, iv kd, rv p1, rv q2, rv ct, .unset, .unset] []) (fun _ k => XS.icmpYes X119.here hx rfl (pc0 := 205) (pc' := 231) rfl (hb hby at_205) rfl (feq hj122).2 (by decide) (by decide) k) ?_
                  refine own_s (mkF m 232 #[iv aa, iv bb, iv sx, iv ddd, iv ee, iv md, iv c1, iv k1, iv b1, iv t1, iv c2, iv k2, iv b2, iv t2, iv kd, rv p1, rv q2, rv ct, .unset, .unset] [(.int 0)]) (fun _ k => XS.iconst X119.here hx rfl (hb hby at_231) k) ?_
                  rw [show xx = (0 : Int32) from by rw [h_xx, if_pos hj120, if_pos hj121, if_neg hj122]] at k
                  exact k
              ·
                refine own_s (mkF m 231 #[iv aa, iv bb, iv sx, iv ddd, iv ee, iv md, iv c1, iv k1, iv b1, iv t1, iv c2, iv k2, iv b2, iv t2, iv kd, rv p1, rv q2, rv ct, .unset, .unset] []) (fun _ k => XS.icmpYes X119.here hx rfl (pc0 := 198) (pc' := 231) rfl (hb hby at_198) rfl (feq hj121).2 (by decide) (by decide) k) ?_
                refine own_s (mkF m 232 #[iv aa, iv bb, iv sx, iv ddd, iv ee, iv md, iv c1, iv k1, iv b1, iv t1, iv c2, iv k2, iv b2, iv t2, iv kd, rv p1, rv q2, rv ct, .unset, .unset] [(.int 0)]) (fun _ k => XS.iconst X119.here hx rfl (hb hby at_231) k) ?_
                rw [show xx = (0 : Int32) from by rw [h_xx, if_pos hj120, if_neg hj121]] at k
                exact k
            ·
              refine own_s (mkF m 231 #[iv aa, iv bb, iv sx, iv ddd, iv ee, iv md, iv c1, iv k1, iv b1, iv t1, iv c2, iv k2, iv b2, iv t2, iv kd, rv p1, rv q2, rv ct, .unset, .unset] []) (fun _ k => XS.icmpYes X119.here hx rfl (pc0 := 191) (pc' := 231) rfl (hb hby at_191) rfl (flt hj120).2.1 (by decide) (by decide) k) ?_
              refine own_s (mkF m 232 #[iv aa, iv bb, iv sx, iv ddd, iv ee, iv md, iv c1, iv k1, iv b1, iv t1, iv c2, iv k2, iv b2, iv t2, iv kd, rv p1, rv q2, rv ct, .unset, .unset] [(.int 0)]) (fun _ k => XS.iconst X119.here hx rfl (hb hby at_231) k) ?_
              rw [show xx = (0 : Int32) from by rw [h_xx, if_neg hj120]] at k
              exact k
          refine own_S (mkF m 234 #[iv aa, iv bb, iv sx, iv ddd, iv ee, iv md, iv c1, iv k1, iv b1, iv t1, iv c2, iv k2, iv b2, iv t2, iv kd, rv p1, rv q2, rv ct, iv xx, .unset] []) (fun _ k => XS.istore X119.here hx rfl (hb hby at_232) rfl (l' := #[iv aa, iv bb, iv sx, iv ddd, iv ee, iv md, iv c1, iv k1, iv b1, iv t1, iv c2, iv k2, iv b2, iv t2, iv kd, rv p1, rv q2, rv ct, iv xx, .unset]) rfl k) ?_
          refine own_S (mkF m 236 #[iv aa, iv bb, iv sx, iv ddd, iv ee, iv md, iv c1, iv k1, iv b1, iv t1, iv c2, iv k2, iv b2, iv t2, iv kd, rv p1, rv q2, rv ct, iv xx, .unset] [(.ref p1)]) (fun _ k => XS.aload X119.here hx rfl (hb hby at_234) rfl rfl k) ?_
          refine own_S (mkF m 238 #[iv aa, iv bb, iv sx, iv ddd, iv ee, iv md, iv c1, iv k1, iv b1, iv t1, iv c2, iv k2, iv b2, iv t2, iv kd, rv p1, rv q2, rv ct, iv xx, .unset] [(.ref ct), (.ref p1)]) (fun _ k => XS.aload X119.here hx rfl (hb hby at_236) rfl rfl k) ?_
          obtain ⟨cq126, kq126, q126a, q126b, q126c⟩ := isOf hZ e119 F98
          obtain ⟨_, _, ⟨T126, L126, k126, n126⟩, -, X126, ⟨Lc126, hQ126, l126, y126, z126⟩, st126⟩ := X119.virtualBack hx (y := own_y4) (z := own_y4) hown (mvT hZ (own_g hw (i := 34) rfl)) (mvT hZ (own_g hw (i := 35) rfl)) (notFace_of_selects (args := #[]) (mvT hZ (own_g hw (i := 37) rfl))) (mvT hZ (own_g hw (i := 37) rfl)) (mvT hZ (own_g hw (i := 36) rfl)) (by decide) (backOf (W := 0) (own_rmec l Z a0 hw [] (p1) (ct) T85.heap n0 Z85 F97) hZ (own_g hw (i := 38) rfl) (own_g hw (i := 3) rfl) (by decide) (by decide)) q126a q126c (g := (mkF m 238 #[iv aa, iv bb, iv sx, iv ddd, iv ee, iv md, iv c1, iv k1, iv b1, iv t1, iv c2, iv k2, iv b2, iv t2, iv kd, rv p1, rv q2, rv ct, iv xx, .unset] [(.ref ct), (.ref p1)])) rfl (by rw [hml]; rfl) (Steps.refl _) (argsL := [(.ref ct)]) (rest := []) (lenOf own_pd__Ljava_lang_Object__Z rfl) rfl (by show 2 * 0 + _ ≤ _; exact Nat.le_of_eq rfl) (hb hby at_238) (fun _ _ => ⟨rfl, e119, (by decide : 3 + 0 ≤ _), (by decide : 15 + 0 ≤ _)⟩)
          dsimp only [Pt.U, Pt.locs, Pt.cells, Pt.slots] at X126 l126 y126 z126 st126 hQ126
          subst l126 y126 z126
          obtain ⟨rfl, N126q, e126⟩ := hQ126
          have N126 := Fr.app N85 N126q
          refine own_S (mkF m 241 #[iv aa, iv bb, iv sx, iv ddd, iv ee, iv md, iv c1, iv k1, iv b1, iv t1, iv c2, iv k2, iv b2, iv t2, iv kd, rv p1, rv q2, rv ct, iv xx, .unset] [(.int 0)]) (fun _ k => st126.trans k) ?_
          refine own_S (mkF m 243 #[iv aa, iv bb, iv sx, iv ddd, iv ee, iv md, iv c1, iv k1, iv b1, iv t1, iv c2, iv k2, iv b2, iv t2, iv kd, rv p1, rv q2, rv ct, iv xx, .unset] [(.int xx), (.int 0)]) (fun _ k => XS.iload X126.here hx rfl (hb hby at_241) rfl k) ?_
          obtain ⟨ok, h_ok⟩ : ∃ z : Int32, z = (if (0 : Int32) = xx then (1 : Int32) else (0 : Int32)) := ⟨_, rfl⟩
          refine own_S (T' := T126) (mkF m 251 #[iv aa, iv bb, iv sx, iv ddd, iv ee, iv md, iv c1, iv k1, iv b1, iv t1, iv c2, iv k2, iv b2, iv t2, iv kd, rv p1, rv q2, rv ct, iv xx, .unset] [(.int ok)]) (fun _ k => ?_) ?_
          ·
            by_cases hj127 : (0 : Int32) = xx
            ·
              refine own_s (mkF m 246 #[iv aa, iv bb, iv sx, iv ddd, iv ee, iv md, iv c1, iv k1, iv b1, iv t1, iv c2, iv k2, iv b2, iv t2, iv kd, rv p1, rv q2, rv ct, iv xx, .unset] []) (fun _ k => XS.icmpNo X126.here hx rfl (hb hby at_243) rfl (teq hj127).2 k) ?_
              refine own_s (mkF m 247 #[iv aa, iv bb, iv sx, iv ddd, iv ee, iv md, iv c1, iv k1, iv b1, iv t1, iv c2, iv k2, iv b2, iv t2, iv kd, rv p1, rv q2, rv ct, iv xx, .unset] [(.int 1)]) (fun _ k => XS.iconst X126.here hx rfl (hb hby at_246) k) ?_
              refine own_s (mkF m 251 #[iv aa, iv bb, iv sx, iv ddd, iv ee, iv md, iv c1, iv k1, iv b1, iv t1, iv c2, iv k2, iv b2, iv t2, iv kd, rv p1, rv q2, rv ct, iv xx, .unset] [(.int 1)]) (fun _ k => XS.goto X126.here hx rfl (pc0 := 247) (pc' := 251) rfl (hb hby at_247) (by decide) (by decide) k) ?_
              rw [show ok = (1 : Int32) from by rw [h_ok, if_pos hj127]] at k
              exact k
            ·
              refine own_s (mkF m 250 #[iv aa, iv bb, iv sx, iv ddd, iv ee, iv md, iv c1, iv k1, iv b1, iv t1, iv c2, iv k2, iv b2, iv t2, iv kd, rv p1, rv q2, rv ct, iv xx, .unset] []) (fun _ k => XS.icmpYes X126.here hx rfl (pc0 := 243) (pc' := 250) rfl (hb hby at_243) rfl (feq hj127).2 (by decide) (by decide) k) ?_
              refine own_s (mkF m 251 #[iv aa, iv bb, iv sx, iv ddd, iv ee, iv md, iv c1, iv k1, iv b1, iv t1, iv c2, iv k2, iv b2, iv t2, iv kd, rv p1, rv q2, rv ct, iv xx, .unset] [(.int 0)]) (fun _ k => XS.iconst X126.here hx rfl (hb hby at_250) k) ?_
              rw [show ok = (0 : Int32) from by rw [h_ok, if_neg hj127]] at k
              exact k
          refine own_S (mkF m 253 #[iv aa, iv bb, iv sx, iv ddd, iv ee, iv md, iv c1, iv k1, iv b1, iv t1, iv c2, iv k2, iv b2, iv t2, iv kd, rv p1, rv q2, rv ct, iv xx, iv ok] []) (fun _ k => XS.istore X126.here hx rfl (hb hby at_251) rfl (l' := #[iv aa, iv bb, iv sx, iv ddd, iv ee, iv md, iv c1, iv k1, iv b1, iv t1, iv c2, iv k2, iv b2, iv t2, iv kd, rv p1, rv q2, rv ct, iv xx, iv ok]) rfl k) ?_
          refine own_S (mkF m 255 #[iv aa, iv bb, iv sx, iv ddd, iv ee, iv md, iv c1, iv k1, iv b1, iv t1, iv c2, iv k2, iv b2, iv t2, iv kd, rv p1, rv q2, rv ct, iv xx, iv ok] [(.int kd)]) (fun _ k => XS.iload X126.here hx rfl (hb hby at_253) rfl k) ?_
          refine own_S (mkF m 256 #[iv aa, iv bb, iv sx, iv ddd, iv ee, iv md, iv c1, iv k1, iv b1, iv t1, iv c2, iv k2, iv b2, iv t2, iv kd, rv p1, rv q2, rv ct, iv xx, iv ok] [(.int 2), (.int kd)]) (fun _ k => XS.iconst X126.here hx rfl (hb hby at_255) k) ?_
          have hc128 : ¬ (kd < (2 : Int32)) := (by rw [hk3]; decide)
          refine own_S (mkF m 283 #[iv aa, iv bb, iv sx, iv ddd, iv ee, iv md, iv c1, iv k1, iv b1, iv t1, iv c2, iv k2, iv b2, iv t2, iv kd, rv p1, rv q2, rv ct, iv xx, iv ok] []) (fun _ k => XS.icmpYes X126.here hx rfl (pc0 := 256) (pc' := 283) rfl (hb hby at_256) rfl (flt hc128).2.1 (by decide) (by decide) k) ?_
          refine own_S (mkF m 285 #[iv aa, iv bb, iv sx, iv ddd, iv ee, iv md, iv c1, iv k1, iv b1, iv t1, iv c2, iv k2, iv b2, iv t2, iv kd, rv p1, rv q2, rv ct, iv xx, iv ok] [(.int ok)]) (fun _ k => XS.iload X126.here hx rfl (hb hby at_283) rfl k) ?_
          exact own_retN X126 hx hlk (t := .boolean) hret (by simp) (hb hby at_285) (by rw [e126]; exact ⟨(by rw [h_ok, h_xx, if_neg (show ¬ kd < (2 : Int32) by rw [hk3]; decide), if_pos rfl]; rfl), N126, trivial⟩) (by decide) (by decide)
        · -- not kd = (3 : Int32)
          refine own_S (mkF m 184 #[iv aa, iv bb, iv sx, iv ddd, iv ee, iv md, iv c1, iv k1, iv b1, iv t1, iv c2, iv k2, iv b2, iv t2, iv kd, rv p1, rv q2, .unset, .unset, .unset] []) (fun _ k => XS.icmpYes X85.here hx rfl (pc0 := 173) (pc' := 184) rfl (hb hby at_173) rfl (feq hk3).2 (by decide) (by decide) k) ?_
          refine own_S (mkF m 186 #[iv aa, iv bb, iv sx, iv ddd, iv ee, iv md, iv c1, iv k1, iv b1, iv t1, iv c2, iv k2, iv b2, iv t2, iv kd, rv p1, rv q2, .unset, .unset, .unset] [(.ref q2)]) (fun _ k => XS.aload X85.here hx rfl (hb hby at_184) rfl rfl k) ?_
          refine own_S (mkF m 188 #[iv aa, iv bb, iv sx, iv ddd, iv ee, iv md, iv c1, iv k1, iv b1, iv t1, iv c2, iv k2, iv b2, iv t2, iv kd, rv p1, rv q2, rv q2, .unset, .unset] []) (fun _ k => XS.astore X85.here hx rfl (hb hby at_186) rfl rfl (l' := #[iv aa, iv bb, iv sx, iv ddd, iv ee, iv md, iv c1, iv k1, iv b1, iv t1, iv c2, iv k2, iv b2, iv t2, iv kd, rv p1, rv q2, rv q2, .unset, .unset]) rfl k) ?_
          refine own_S (mkF m 190 #[iv aa, iv bb, iv sx, iv ddd, iv ee, iv md, iv c1, iv k1, iv b1, iv t1, iv c2, iv k2, iv b2, iv t2, iv kd, rv p1, rv q2, rv q2, .unset, .unset] [(.int kd)]) (fun _ k => XS.iload X85.here hx rfl (hb hby at_188) rfl k) ?_
          refine own_S (mkF m 191 #[iv aa, iv bb, iv sx, iv ddd, iv ee, iv md, iv c1, iv k1, iv b1, iv t1, iv c2, iv k2, iv b2, iv t2, iv kd, rv p1, rv q2, rv q2, .unset, .unset] [(.int 2), (.int kd)]) (fun _ k => XS.iconst X85.here hx rfl (hb hby at_190) k) ?_
          obtain ⟨xx, h_xx⟩ : ∃ z : Int32, z = (if kd < (2 : Int32) then (if c1 = c2 then (if k1 = k2 then (if b1 = b2 then (if b1 = (0 : Int32) then (1 : Int32) else (if t1 = t2 then (1 : Int32) else (0 : Int32))) else (0 : Int32)) else (0 : Int32)) else (0 : Int32)) else (0 : Int32)) := ⟨_, rfl⟩
          refine own_S (T' := T85) (mkF m 232 #[iv aa, iv bb, iv sx, iv ddd, iv ee, iv md, iv c1, iv k1, iv b1, iv t1, iv c2, iv k2, iv b2, iv t2, iv kd, rv p1, rv q2, rv q2, .unset, .unset] [(.int xx)]) (fun _ k => ?_) ?_
          ·
            by_cases hj129 : kd < (2 : Int32)
            ·
              refine own_s (mkF m 194 #[iv aa, iv bb, iv sx, iv ddd, iv ee, iv md, iv c1, iv k1, iv b1, iv t1, iv c2, iv k2, iv b2, iv t2, iv kd, rv p1, rv q2, rv q2, .unset, .unset] []) (fun _ k => XS.icmpNo X85.here hx rfl (hb hby at_191) rfl (tlt hj129).2.1 k) ?_
              refine own_s (mkF m 196 #[iv aa, iv bb, iv sx, iv ddd, iv ee, iv md, iv c1, iv k1, iv b1, iv t1, iv c2, iv k2, iv b2, iv t2, iv kd, rv p1, rv q2, rv q2, .unset, .unset] [(.int c1)]) (fun _ k => XS.iload X85.here hx rfl (hb hby at_194) rfl k) ?_
              refine own_s (mkF m 198 #[iv aa, iv bb, iv sx, iv ddd, iv ee, iv md, iv c1, iv k1, iv b1, iv t1, iv c2, iv k2, iv b2, iv t2, iv kd, rv p1, rv q2, rv q2, .unset, .unset] [(.int c2), (.int c1)]) (fun _ k => XS.iload X85.here hx rfl (hb hby at_196) rfl k) ?_
              by_cases hj130 : c1 = c2
              ·
                refine own_s (mkF m 201 #[iv aa, iv bb, iv sx, iv ddd, iv ee, iv md, iv c1, iv k1, iv b1, iv t1, iv c2, iv k2, iv b2, iv t2, iv kd, rv p1, rv q2, rv q2, .unset, .unset] []) (fun _ k => XS.icmpNo X85.here hx rfl (hb hby at_198) rfl (teq hj130).2 k) ?_
                refine own_s (mkF m 203 #[iv aa, iv bb, iv sx, iv ddd, iv ee, iv md, iv c1, iv k1, iv b1, iv t1, iv c2, iv k2, iv b2, iv t2, iv kd, rv p1, rv q2, rv q2, .unset, .unset] [(.int k1)]) (fun _ k => XS.iload X85.here hx rfl (hb hby at_201) rfl k) ?_
                refine own_s (mkF m 205 #[iv aa, iv bb, iv sx, iv ddd, iv ee, iv md, iv c1, iv k1, iv b1, iv t1, iv c2, iv k2, iv b2, iv t2, iv kd, rv p1, rv q2, rv q2, .unset, .unset] [(.int k2), (.int k1)]) (fun _ k => XS.iload X85.here hx rfl (hb hby at_203) rfl k) ?_
                by_cases hj131 : k1 = k2
                ·
                  refine own_s (mkF m 208 #[iv aa, iv bb, iv sx, iv ddd, iv ee, iv md, iv c1, iv k1, iv b1, iv t1, iv c2, iv k2, iv b2, iv t2, iv kd, rv p1, rv q2, rv q2, .unset, .unset] []) (fun _ k => XS.icmpNo X85.here hx rfl (hb hby at_205) rfl (teq hj131).2 k) ?_
                  refine own_s (mkF m 210 #[iv aa, iv bb, iv sx, iv ddd, iv ee, iv md, iv c1, iv k1, iv b1, iv t1, iv c2, iv k2, iv b2, iv t2, iv kd, rv p1, rv q2, rv q2, .unset, .unset] [(.int b1)]) (fun _ k => XS.iload X85.here hx rfl (hb hby at_208) rfl k) ?_
                  refine own_s (mkF m 212 #[iv aa, iv bb, iv sx, iv ddd, iv ee, iv md, iv c1, iv k1, iv b1, iv t1, iv c2, iv k2, iv b2, iv t2, iv kd, rv p1, rv q2, rv q2, .unset, .unset] [(.int b2), (.int b1)]) (fun _ k => XS.iload X85.here hx rfl (hb hby at_210) rfl k) ?_
                  by_cases hj132 : b1 = b2
                  ·
                    refine own_s (mkF m 215 #[iv aa, iv bb, iv sx, iv ddd, iv ee, iv md, iv c1, iv k1, iv b1, iv t1, iv c2, iv k2, iv b2, iv t2, iv kd, rv p1, rv q2, rv q2, .unset, .unset] []) (fun _ k => XS.icmpNo X85.here hx rfl (hb hby at_212) rfl (teq hj132).2 k) ?_
                    refine own_s (mkF m 217 #[iv aa, iv bb, iv sx, iv ddd, iv ee, iv md, iv c1, iv k1, iv b1, iv t1, iv c2, iv k2, iv b2, iv t2, iv kd, rv p1, rv q2, rv q2, .unset, .unset] [(.int b1)]) (fun _ k => XS.iload X85.here hx rfl (hb hby at_215) rfl k) ?_
                    by_cases hj133 : b1 = (0 : Int32)
                    ·
                      refine own_s (mkF m 227 #[iv aa, iv bb, iv sx, iv ddd, iv ee, iv md, iv c1, iv k1, iv b1, iv t1, iv c2, iv k2, iv b2, iv t2, iv kd, rv p1, rv q2, rv q2, .unset, .unset] []) (fun _ k => XS.ifYes X85.here hx rfl (pc0 := 217) (pc' := 227) rfl (hb hby at_217) rfl ((if0 _ _).trans (teq hj133).1) (by decide) (by decide) k) ?_
                      refine own_s (mkF m 228 #[iv aa, iv bb, iv sx, iv ddd, iv ee, iv md, iv c1, iv k1, iv b1, iv t1, iv c2, iv k2, iv b2, iv t2, iv kd, rv p1, rv q2, rv q2, .unset, .unset] [(.int 1)]) (fun _ k => XS.iconst X85.here hx rfl (hb hby at_227) k) ?_
                      refine own_s (mkF m 232 #[iv aa, iv bb, iv sx, iv ddd, iv ee, iv md, iv c1, iv k1, iv b1, iv t1, iv c2, iv k2, iv b2, iv t2, iv kd, rv p1, rv q2, rv q2, .unset, .unset] [(.int 1)]) (fun _ k => XS.goto X85.here hx rfl (pc0 := 228) (pc' := 232) rfl (hb hby at_228) (by decide) (by decide) k) ?_
                      rw [show xx = (1 : Int32) from by rw [h_xx, if_pos hj129, if_pos hj130, if_pos hj131, if_pos hj132, if_pos hj133]] at k
                      exact k
                    ·
                      refine own_s (mkF m 220 #[iv aa, iv bb, iv sx, iv ddd, iv ee, iv md, iv c1, iv k1, iv b1, iv t1, iv c2, iv k2, iv b2, iv t2, iv kd, rv p1, rv q2, rv q2, .unset, .unset] []) (fun _ k => XS.ifNo X85.here hx rfl (hb hby at_217) rfl ((if0 _ _).trans (feq hj133).1) k) ?_
                      refine own_s (mkF m 222 #[iv aa, iv bb, iv sx, iv ddd, iv ee, iv md, iv c1, iv k1, iv b1, iv t1, iv c2, iv k2, iv b2, iv t2, iv kd, rv p1, rv q2, rv q2, .unset, .unset] [(.int t1)]) (fun _ k => XS.iload X85.here hx rfl (hb hby at_220) rfl k) ?_
                      refine own_s (mkF m 224 #[iv aa, iv bb, iv sx, iv ddd, iv ee, iv md, iv c1, iv k1, iv b1, iv t1, iv c2, iv k2, iv b2, iv t2, iv kd, rv p1, rv q2, rv q2, .unset, .unset] [(.int t2), (.int t1)]) (fun _ k => XS.iload X85.here hx rfl (hb hby at_222) rfl k) ?_
                      by_cases hj134 : t1 = t2
                      ·
                        refine own_s (mkF m 227 #[iv aa, iv bb, iv sx, iv ddd, iv ee, iv md, iv c1, iv k1, iv b1, iv t1, iv c2, iv k2, iv b2, iv t2, iv kd, rv p1, rv q2, rv q2, .unset, .unset] []) (fun _ k => XS.icmpNo X85.here hx rfl (hb hby at_224) rfl (teq hj134).2 k) ?_
                        refine own_s (mkF m 228 #[iv aa, iv bb, iv sx, iv ddd, iv ee, iv md, iv c1, iv k1, iv b1, iv t1, iv c2, iv k2, iv b2, iv t2, iv kd, rv p1, rv q2, rv q2, .unset, .unset] [(.int 1)]) (fun _ k => XS.iconst X85.here hx rfl (hb hby at_227) k) ?_
                        refine own_s (mkF m 232 #[iv aa, iv bb, iv sx, iv ddd, iv ee, iv md, iv c1, iv k1, iv b1, iv t1, iv c2, iv k2, iv b2, iv t2, iv kd, rv p1, rv q2, rv q2, .unset, .unset] [(.int 1)]) (fun _ k => XS.goto X85.here hx rfl (pc0 := 228) (pc' := 232) rfl (hb hby at_228) (by decide) (by decide) k) ?_
                        rw [show xx = (1 : Int32) from by rw [h_xx, if_pos hj129, if_pos hj130, if_pos hj131, if_pos hj132, if_neg hj133, if_pos hj134]] at k
                        exact k
                      ·
                        refine own_s (mkF m 231 #[iv aa, iv bb, iv sx, iv ddd, iv ee, iv md, iv c1, iv k1, iv b1, iv t1, iv c2, iv k2, iv b2, iv t2, iv kd, rv p1, rv q2, rv q2, .unset, .unset] []) (fun _ k => XS.icmpYes X85.here hx rfl (pc0 := 224) (pc' := 231) rfl (hb hby at_224) rfl (feq hj134).2 (by decide) (by decide) k) ?_
                        refine own_s (mkF m 232 #[iv aa, iv bb, iv sx, iv ddd, iv ee, iv md, iv c1, iv k1, iv b1, iv t1, iv c2, iv k2, iv b2, iv t2, iv kd, rv p1, rv q2, rv q2, .unset, .unset] [(.int 0)]) (fun _ k => XS.iconst X85.here hx rfl (hb hby at_231) k) ?_
                        rw [show xx = (0 : Int32) from by rw [h_xx, if_pos hj129, if_pos hj130, if_pos hj131, if_pos hj132, if_neg hj133, if_neg hj134]] at k
                        exact k
                  ·
                    refine own_s (mkF m 231 #[iv aa, iv bb, iv sx, iv ddd, iv ee, iv md, iv c1, iv k1, iv b1, iv t1, iv c2, iv k2, iv b2, iv t2, iv kd, rv p1, rv q2, rv q2, .unset, .unset] []) (fun _ k => XS.icmpYes X85.here hx rfl (pc0 := 212) (pc' := 231) rfl (hb hby at_212) rfl (feq hj132).2 (by decide) (by decide) k) ?_
                    refine own_s (mkF m 232 #[iv aa, iv bb, iv sx, iv ddd, iv ee, iv md, iv c1, iv k1, iv b1, iv t1, iv c2, iv k2, iv b2, iv t2, iv kd, rv p1, rv q2, rv q2, .unset, .unset] [(.int 0)]) (fun _ k => XS.iconst X85.here hx rfl (hb hby at_231) k) ?_
                    rw [show xx = (0 : Int32) from by rw [h_xx, if_pos hj129, if_pos hj130, if_pos hj131, if_neg hj132]] at k
                    exact k
                ·
                  refine own_s (mkF m 231 #[iv aa, iv bb, iv sx, iv ddd, iv ee, iv md, iv c1, iv k1, iv b1, iv t1, iv c2, iv k2, iv b2, iv t2, iv kd, rv p1, rv q2, rv q2, .unset, .unset] []) (fun _ k => XS.icmpYes X85.here hx rfl (pc0 := 205) (pc' := 231) rfl (hb hby at_205) rfl (feq hj131).2 (by decide) (by decide) k) ?_
                  refine own_s (mkF m 232 #[iv aa, iv bb, iv sx, iv ddd, iv ee, iv md, iv c1, iv k1, iv b1, iv t1, iv c2, iv k2, iv b2, iv t2, iv kd, rv p1, rv q2, rv q2, .unset, .unset] [(.int 0)]) (fun _ k => XS.iconst X85.here hx rfl (hb hby at_231) k) ?_
                  rw [show xx = (0 : Int32) from by rw [h_xx, if_pos hj129, if_pos hj130, if_neg hj131]] at k
                  exact k
              ·
                refine own_s (mkF m 231 #[iv aa, iv bb, iv sx, iv ddd, iv ee, iv md, iv c1, iv k1, iv b1, iv t1, iv c2, iv k2, iv b2, iv t2, iv kd, rv p1, rv q2, rv q2, .unset, .unset] []) (fun _ k => XS.icmpYes X85.here hx rfl (pc0 := 198) (pc' := 231) rfl (hb hby at_198) rfl (feq hj130).2 (by decide) (by decide) k) ?_
                refine own_s (mkF m 232 #[iv aa, iv bb, iv sx, iv ddd, iv ee, iv md, iv c1, iv k1, iv b1, iv t1, iv c2, iv k2, iv b2, iv t2, iv kd, rv p1, rv q2, rv q2, .unset, .unset] [(.int 0)]) (fun _ k => XS.iconst X85.here hx rfl (hb hby at_231) k) ?_
                rw [show xx = (0 : Int32) from by rw [h_xx, if_pos hj129, if_neg hj130]] at k
                exact k
            ·
              refine own_s (mkF m 231 #[iv aa, iv bb, iv sx, iv ddd, iv ee, iv md, iv c1, iv k1, iv b1, iv t1, iv c2, iv k2, iv b2, iv t2, iv kd, rv p1, rv q2, rv q2, .unset, .unset] []) (fun _ k => XS.icmpYes X85.here hx rfl (pc0 := 191) (pc' := 231) rfl (hb hby at_191) rfl (flt hj129).2.1 (by decide) (by decide) k) ?_
              refine own_s (mkF m 232 #[iv aa, iv bb, iv sx, iv ddd, iv ee, iv md, iv c1, iv k1, iv b1, iv t1, iv c2, iv k2, iv b2, iv t2, iv kd, rv p1, rv q2, rv q2, .unset, .unset] [(.int 0)]) (fun _ k => XS.iconst X85.here hx rfl (hb hby at_231) k) ?_
              rw [show xx = (0 : Int32) from by rw [h_xx, if_neg hj129]] at k
              exact k
          refine own_S (mkF m 234 #[iv aa, iv bb, iv sx, iv ddd, iv ee, iv md, iv c1, iv k1, iv b1, iv t1, iv c2, iv k2, iv b2, iv t2, iv kd, rv p1, rv q2, rv q2, iv xx, .unset] []) (fun _ k => XS.istore X85.here hx rfl (hb hby at_232) rfl (l' := #[iv aa, iv bb, iv sx, iv ddd, iv ee, iv md, iv c1, iv k1, iv b1, iv t1, iv c2, iv k2, iv b2, iv t2, iv kd, rv p1, rv q2, rv q2, iv xx, .unset]) rfl k) ?_
          refine own_S (mkF m 236 #[iv aa, iv bb, iv sx, iv ddd, iv ee, iv md, iv c1, iv k1, iv b1, iv t1, iv c2, iv k2, iv b2, iv t2, iv kd, rv p1, rv q2, rv q2, iv xx, .unset] [(.ref p1)]) (fun _ k => XS.aload X85.here hx rfl (hb hby at_234) rfl rfl k) ?_
          refine own_S (mkF m 238 #[iv aa, iv bb, iv sx, iv ddd, iv ee, iv md, iv c1, iv k1, iv b1, iv t1, iv c2, iv k2, iv b2, iv t2, iv kd, rv p1, rv q2, rv q2, iv xx, .unset] [(.ref q2), (.ref p1)]) (fun _ k => XS.aload X85.here hx rfl (hb hby at_236) rfl rfl k) ?_
          have hlt : kd < (2 : Int32) := by rcases o_kd with q | q | q | q; rw [q]; decide; rw [q]; decide; exact absurd q hk2; exact absurd q hk3
          obtain ⟨cq135, kq135, q135a, q135b, q135c⟩ := isOf hZ rfl F98
          obtain ⟨_, _, ⟨T135, L135, k135, n135⟩, -, X135, ⟨Lc135, hQ135, l135, y135, z135⟩, st135⟩ := X85.virtualBack hx (y := own_y4) (z := own_y4) hown (mvT hZ (own_g hw (i := 34) rfl)) (mvT hZ (own_g hw (i := 35) rfl)) (notFace_of_selects (args := #[]) (mvT hZ (own_g hw (i := 37) rfl))) (mvT hZ (own_g hw (i := 37) rfl)) (mvT hZ (own_g hw (i := 36) rfl)) (by decide) (backOf (W := 0) (own_rmeq l Z a0 hw [] (p1) (q2) (c1) (k1) ((-1 : Int32)) (c2) (k2) (t2) T85.heap n0 Z85 F86 F101 F102 F103 F89 F90 F91) hZ (own_g hw (i := 38) rfl) (own_g hw (i := 3) rfl) (by decide) (by decide)) q135a q135c (g := (mkF m 238 #[iv aa, iv bb, iv sx, iv ddd, iv ee, iv md, iv c1, iv k1, iv b1, iv t1, iv c2, iv k2, iv b2, iv t2, iv kd, rv p1, rv q2, rv q2, iv xx, .unset] [(.ref q2), (.ref p1)])) rfl (by rw [hml]; rfl) (Steps.refl _) (argsL := [(.ref q2)]) (rest := []) (lenOf own_pd__Ljava_lang_Object__Z rfl) rfl (by show 2 * 0 + _ ≤ _; exact Nat.le_of_eq rfl) (hb hby at_238) (fun _ _ => ⟨rfl, rfl, (by decide : 3 + 0 ≤ _), (by decide : 15 + 0 ≤ _)⟩)
          dsimp only [Pt.U, Pt.locs, Pt.cells, Pt.slots] at X135 l135 y135 z135 st135 hQ135
          subst l135 y135 z135
          obtain ⟨rfl, N135q, e135⟩ := hQ135
          have N135 := Fr.app N85 N135q
          refine own_S (mkF m 241 #[iv aa, iv bb, iv sx, iv ddd, iv ee, iv md, iv c1, iv k1, iv b1, iv t1, iv c2, iv k2, iv b2, iv t2, iv kd, rv p1, rv q2, rv q2, iv xx, .unset] [(.int (if c1 = c2 ∧ k1 = k2 ∧ (-1 : Int32) = t2 then (1 : Int32) else (0 : Int32)))]) (fun _ k => st135.trans k) ?_
          have hE : (if c1 = c2 ∧ k1 = k2 ∧ (-1 : Int32) = t2 then (1 : Int32) else (0 : Int32)) = xx := by rw [h_xx]; exact own_law _ _ _ _ _ _ _ _ _ _ _ hlt o_b1 o_b2 (by rw [if_pos hb1]) (by rw [if_neg hb2]) n_t1 n_t2
          have hE2 : (if c2 = c1 ∧ k2 = k1 ∧ t2 = (-1 : Int32) then (1 : Int32) else (0 : Int32)) = xx := by rw [← hE]; exact own_sym _ _ _ _ _ _
          refine own_S (mkF m 243 #[iv aa, iv bb, iv sx, iv ddd, iv ee, iv md, iv c1, iv k1, iv b1, iv t1, iv c2, iv k2, iv b2, iv t2, iv kd, rv p1, rv q2, rv q2, iv xx, .unset] [(.int xx), (.int (if c1 = c2 ∧ k1 = k2 ∧ (-1 : Int32) = t2 then (1 : Int32) else (0 : Int32)))]) (fun _ k => XS.iload X135.here hx rfl (hb hby at_241) rfl k) ?_
          obtain ⟨ok, h_ok⟩ : ∃ z : Int32, z = (if (if c1 = c2 ∧ k1 = k2 ∧ (-1 : Int32) = t2 then (1 : Int32) else (0 : Int32)) = xx then (1 : Int32) else (0 : Int32)) := ⟨_, rfl⟩
          refine own_S (T' := T135) (mkF m 251 #[iv aa, iv bb, iv sx, iv ddd, iv ee, iv md, iv c1, iv k1, iv b1, iv t1, iv c2, iv k2, iv b2, iv t2, iv kd, rv p1, rv q2, rv q2, iv xx, .unset] [(.int ok)]) (fun _ k => ?_) ?_
          ·
            by_cases hj136 : (if c1 = c2 ∧ k1 = k2 ∧ (-1 : Int32) = t2 then (1 : Int32) else (0 : Int32)) = xx
            ·
              refine own_s (mkF m 246 #[iv aa, iv bb, iv sx, iv ddd, iv ee, iv md, iv c1, iv k1, iv b1, iv t1, iv c2, iv k2, iv b2, iv t2, iv kd, rv p1, rv q2, rv q2, iv xx, .unset] []) (fun _ k => XS.icmpNo X135.here hx rfl (hb hby at_243) rfl (teq hj136).2 k) ?_
              refine own_s (mkF m 247 #[iv aa, iv bb, iv sx, iv ddd, iv ee, iv md, iv c1, iv k1, iv b1, iv t1, iv c2, iv k2, iv b2, iv t2, iv kd, rv p1, rv q2, rv q2, iv xx, .unset] [(.int 1)]) (fun _ k => XS.iconst X135.here hx rfl (hb hby at_246) k) ?_
              refine own_s (mkF m 251 #[iv aa, iv bb, iv sx, iv ddd, iv ee, iv md, iv c1, iv k1, iv b1, iv t1, iv c2, iv k2, iv b2, iv t2, iv kd, rv p1, rv q2, rv q2, iv xx, .unset] [(.int 1)]) (fun _ k => XS.goto X135.here hx rfl (pc0 := 247) (pc' := 251) rfl (hb hby at_247) (by decide) (by decide) k) ?_
              rw [show ok = (1 : Int32) from by rw [h_ok, if_pos hj136]] at k
              exact k
            ·
              refine own_s (mkF m 250 #[iv aa, iv bb, iv sx, iv ddd, iv ee, iv md, iv c1, iv k1, iv b1, iv t1, iv c2, iv k2, iv b2, iv t2, iv kd, rv p1, rv q2, rv q2, iv xx, .unset] []) (fun _ k => XS.icmpYes X135.here hx rfl (pc0 := 243) (pc' := 250) rfl (hb hby at_243) rfl (feq hj136).2 (by decide) (by decide) k) ?_
              refine own_s (mkF m 251 #[iv aa, iv bb, iv sx, iv ddd, iv ee, iv md, iv c1, iv k1, iv b1, iv t1, iv c2, iv k2, iv b2, iv t2, iv kd, rv p1, rv q2, rv q2, iv xx, .unset] [(.int 0)]) (fun _ k => XS.iconst X135.here hx rfl (hb hby at_250) k) ?_
              rw [show ok = (0 : Int32) from by rw [h_ok, if_neg hj136]] at k
              exact k
          refine own_S (mkF m 253 #[iv aa, iv bb, iv sx, iv ddd, iv ee, iv md, iv c1, iv k1, iv b1, iv t1, iv c2, iv k2, iv b2, iv t2, iv kd, rv p1, rv q2, rv q2, iv xx, iv ok] []) (fun _ k => XS.istore X135.here hx rfl (hb hby at_251) rfl (l' := #[iv aa, iv bb, iv sx, iv ddd, iv ee, iv md, iv c1, iv k1, iv b1, iv t1, iv c2, iv k2, iv b2, iv t2, iv kd, rv p1, rv q2, rv q2, iv xx, iv ok]) rfl k) ?_
          refine own_S (mkF m 255 #[iv aa, iv bb, iv sx, iv ddd, iv ee, iv md, iv c1, iv k1, iv b1, iv t1, iv c2, iv k2, iv b2, iv t2, iv kd, rv p1, rv q2, rv q2, iv xx, iv ok] [(.int kd)]) (fun _ k => XS.iload X135.here hx rfl (hb hby at_253) rfl k) ?_
          refine own_S (mkF m 256 #[iv aa, iv bb, iv sx, iv ddd, iv ee, iv md, iv c1, iv k1, iv b1, iv t1, iv c2, iv k2, iv b2, iv t2, iv kd, rv p1, rv q2, rv q2, iv xx, iv ok] [(.int 2), (.int kd)]) (fun _ k => XS.iconst X135.here hx rfl (hb hby at_255) k) ?_
          have hok : ok = (1 : Int32) := by rw [h_ok, if_pos hE]
          have hc137 : kd < (2 : Int32) := hlt
          refine own_S (mkF m 259 #[iv aa, iv bb, iv sx, iv ddd, iv ee, iv md, iv c1, iv k1, iv b1, iv t1, iv c2, iv k2, iv b2, iv t2, iv kd, rv p1, rv q2, rv q2, iv xx, iv ok] []) (fun _ k => XS.icmpNo X135.here hx rfl (hb hby at_256) rfl (tlt hc137).2.1 k) ?_
          refine own_S (mkF m 261 #[iv aa, iv bb, iv sx, iv ddd, iv ee, iv md, iv c1, iv k1, iv b1, iv t1, iv c2, iv k2, iv b2, iv t2, iv kd, rv p1, rv q2, rv q2, iv xx, iv ok] [(.int ok)]) (fun _ k => XS.iload X135.here hx rfl (hb hby at_259) rfl k) ?_
          have hc138 : ¬ (ok = (0 : Int32)) := (by rw [hok]; decide)
          refine own_S (mkF m 264 #[iv aa, iv bb, iv sx, iv ddd, iv ee, iv md, iv c1, iv k1, iv b1, iv t1, iv c2, iv k2, iv b2, iv t2, iv kd, rv p1, rv q2, rv q2, iv xx, iv ok] []) (fun _ k => XS.ifNo X135.here hx rfl (hb hby at_261) rfl ((if0 _ _).trans (feq hc138).1) k) ?_
          refine own_S (mkF m 266 #[iv aa, iv bb, iv sx, iv ddd, iv ee, iv md, iv c1, iv k1, iv b1, iv t1, iv c2, iv k2, iv b2, iv t2, iv kd, rv p1, rv q2, rv q2, iv xx, iv ok] [(.ref q2)]) (fun _ k => XS.aload X135.here hx rfl (hb hby at_264) rfl rfl k) ?_
          refine own_S (mkF m 268 #[iv aa, iv bb, iv sx, iv ddd, iv ee, iv md, iv c1, iv k1, iv b1, iv t1, iv c2, iv k2, iv b2, iv t2, iv kd, rv p1, rv q2, rv q2, iv xx, iv ok] [(.ref p1), (.ref q2)]) (fun _ k => XS.aload X135.here hx rfl (hb hby at_266) rfl rfl k) ?_
          obtain ⟨cq139, kq139, q139a, q139b, q139c⟩ := isOf hZ e135 F86
          obtain ⟨_, _, ⟨T139, L139, k139, n139⟩, -, X139, ⟨Lc139, hQ139, l139, y139, z139⟩, st139⟩ := X135.virtualBack hx (y := own_y4) (z := own_y4) hown (mvT hZ (own_g hw (i := 34) rfl)) (mvT hZ (own_g hw (i := 35) rfl)) (notFace_of_selects (args := #[]) (mvT hZ (own_g hw (i := 37) rfl))) (mvT hZ (own_g hw (i := 37) rfl)) (mvT hZ (own_g hw (i := 36) rfl)) (by decide) (backOf (W := 0) (own_rmeq l Z a0 hw [] (q2) (p1) (c2) (k2) (t2) (c1) (k1) ((-1 : Int32)) T85.heap n0 Z85 F98 F89 F90 F91 F101 F102 F103) hZ (own_g hw (i := 38) rfl) (own_g hw (i := 3) rfl) (by decide) (by decide)) q139a q139c (g := (mkF m 268 #[iv aa, iv bb, iv sx, iv ddd, iv ee, iv md, iv c1, iv k1, iv b1, iv t1, iv c2, iv k2, iv b2, iv t2, iv kd, rv p1, rv q2, rv q2, iv xx, iv ok] [(.ref p1), (.ref q2)])) rfl (by rw [hml]; rfl) (Steps.refl _) (argsL := [(.ref p1)]) (rest := []) (lenOf own_pd__Ljava_lang_Object__Z rfl) rfl (by show 2 * 0 + _ ≤ _; exact Nat.le_of_eq rfl) (hb hby at_268) (fun _ _ => ⟨rfl, e135, (by decide : 3 + 0 ≤ _), (by decide : 15 + 0 ≤ _)⟩)
          dsimp only [Pt.U, Pt.locs, Pt.cells, Pt.slots] at X139 l139 y139 z139 st139 hQ139
          subst l139 y139 z139
          obtain ⟨rfl, N139q, e139⟩ := hQ139
          have N139 := Fr.app N135 N139q
          refine own_S (mkF m 271 #[iv aa, iv bb, iv sx, iv ddd, iv ee, iv md, iv c1, iv k1, iv b1, iv t1, iv c2, iv k2, iv b2, iv t2, iv kd, rv p1, rv q2, rv q2, iv xx, iv ok] [(.int (if c2 = c1 ∧ k2 = k1 ∧ t2 = (-1 : Int32) then (1 : Int32) else (0 : Int32)))]) (fun _ k => st139.trans k) ?_
          refine own_S (mkF m 273 #[iv aa, iv bb, iv sx, iv ddd, iv ee, iv md, iv c1, iv k1, iv b1, iv t1, iv c2, iv k2, iv b2, iv t2, iv kd, rv p1, rv q2, rv q2, iv xx, iv ok] [(.int xx), (.int (if c2 = c1 ∧ k2 = k1 ∧ t2 = (-1 : Int32) then (1 : Int32) else (0 : Int32)))]) (fun _ k => XS.iload X139.here hx rfl (hb hby at_271) rfl k) ?_
          obtain ⟨ok2, h_ok2⟩ : ∃ z : Int32, z = (if (if c2 = c1 ∧ k2 = k1 ∧ t2 = (-1 : Int32) then (1 : Int32) else (0 : Int32)) = xx then (1 : Int32) else (0 : Int32)) := ⟨_, rfl⟩
          refine own_S (T' := T139) (mkF m 281 #[iv aa, iv bb, iv sx, iv ddd, iv ee, iv md, iv c1, iv k1, iv b1, iv t1, iv c2, iv k2, iv b2, iv t2, iv kd, rv p1, rv q2, rv q2, iv xx, iv ok] [(.int ok2)]) (fun _ k => ?_) ?_
          ·
            by_cases hj140 : (if c2 = c1 ∧ k2 = k1 ∧ t2 = (-1 : Int32) then (1 : Int32) else (0 : Int32)) = xx
            ·
              refine own_s (mkF m 276 #[iv aa, iv bb, iv sx, iv ddd, iv ee, iv md, iv c1, iv k1, iv b1, iv t1, iv c2, iv k2, iv b2, iv t2, iv kd, rv p1, rv q2, rv q2, iv xx, iv ok] []) (fun _ k => XS.icmpNo X139.here hx rfl (hb hby at_273) rfl (teq hj140).2 k) ?_
              refine own_s (mkF m 277 #[iv aa, iv bb, iv sx, iv ddd, iv ee, iv md, iv c1, iv k1, iv b1, iv t1, iv c2, iv k2, iv b2, iv t2, iv kd, rv p1, rv q2, rv q2, iv xx, iv ok] [(.int 1)]) (fun _ k => XS.iconst X139.here hx rfl (hb hby at_276) k) ?_
              refine own_s (mkF m 281 #[iv aa, iv bb, iv sx, iv ddd, iv ee, iv md, iv c1, iv k1, iv b1, iv t1, iv c2, iv k2, iv b2, iv t2, iv kd, rv p1, rv q2, rv q2, iv xx, iv ok] [(.int 1)]) (fun _ k => XS.goto X139.here hx rfl (pc0 := 277) (pc' := 281) rfl (hb hby at_277) (by decide) (by decide) k) ?_
              rw [show ok2 = (1 : Int32) from by rw [h_ok2, if_pos hj140]] at k
              exact k
            ·
              refine own_s (mkF m 280 #[iv aa, iv bb, iv sx, iv ddd, iv ee, iv md, iv c1, iv k1, iv b1, iv t1, iv c2, iv k2, iv b2, iv t2, iv kd, rv p1, rv q2, rv q2, iv xx, iv ok] []) (fun _ k => XS.icmpYes X139.here hx rfl (pc0 := 273) (pc' := 280) rfl (hb hby at_273) rfl (feq hj140).2 (by decide) (by decide) k) ?_
              refine own_s (mkF m 281 #[iv aa, iv bb, iv sx, iv ddd, iv ee, iv md, iv c1, iv k1, iv b1, iv t1, iv c2, iv k2, iv b2, iv t2, iv kd, rv p1, rv q2, rv q2, iv xx, iv ok] [(.int 0)]) (fun _ k => XS.iconst X139.here hx rfl (hb hby at_280) k) ?_
              rw [show ok2 = (0 : Int32) from by rw [h_ok2, if_neg hj140]] at k
              exact k
          refine own_S (mkF m 283 #[iv aa, iv bb, iv sx, iv ddd, iv ee, iv md, iv c1, iv k1, iv b1, iv t1, iv c2, iv k2, iv b2, iv t2, iv kd, rv p1, rv q2, rv q2, iv xx, iv ok2] []) (fun _ k => XS.istore X139.here hx rfl (hb hby at_281) rfl (l' := #[iv aa, iv bb, iv sx, iv ddd, iv ee, iv md, iv c1, iv k1, iv b1, iv t1, iv c2, iv k2, iv b2, iv t2, iv kd, rv p1, rv q2, rv q2, iv xx, iv ok2]) rfl k) ?_
          refine own_S (mkF m 285 #[iv aa, iv bb, iv sx, iv ddd, iv ee, iv md, iv c1, iv k1, iv b1, iv t1, iv c2, iv k2, iv b2, iv t2, iv kd, rv p1, rv q2, rv q2, iv xx, iv ok2] [(.int ok2)]) (fun _ k => XS.iload X139.here hx rfl (hb hby at_283) rfl k) ?_
          exact own_retN X139 hx hlk (t := .boolean) hret (by simp) (hb hby at_285) (by rw [e139]; exact ⟨(by rw [h_ok2, if_pos hE2]; rfl), N139, trivial⟩) (by decide) (by decide)
  · -- not b1 = (0 : Int32)
    refine own_S (mkF m 122 #[iv aa, iv bb, iv sx, iv ddd, iv ee, iv md, iv c1, iv k1, iv b1, iv t1, iv c2, iv k2, iv b2, iv t2, iv kd, rv p1, .unset, .unset, .unset, .unset] []) (fun _ k => XS.ifNo X14.here hx rfl (hb hby at_119) rfl ((if0 _ _).trans (feq hb1).1) k) ?_
    refine own_S (mkF m 124 #[iv aa, iv bb, iv sx, iv ddd, iv ee, iv md, iv c1, iv k1, iv b1, iv t1, iv c2, iv k2, iv b2, iv t2, iv kd, rv p1, .unset, .unset, .unset, .unset] [(.ref p1)]) (fun _ k => XS.aload X14.here hx rfl (hb hby at_122) rfl rfl k) ?_
    refine own_S (mkF m 126 #[iv aa, iv bb, iv sx, iv ddd, iv ee, iv md, iv c1, iv k1, iv b1, iv t1, iv c2, iv k2, iv b2, iv t2, iv kd, rv p1, .unset, .unset, .unset, .unset] [(.int t1), (.ref p1)]) (fun _ k => XS.iload X14.here hx rfl (hb hby at_124) rfl k) ?_
    obtain ⟨cq141, kq141, q141a, q141b, q141c⟩ := isOf hZ rfl F15
    obtain ⟨_, _, ⟨T141, L141, k141, n141⟩, -, X141, ⟨Lc141, hQ141, l141, y141, z141⟩, st141⟩ := X14.virtualBack hx (y := own_y3) (z := own_y3) hown (mvT hZ (own_g hw (i := 28) rfl)) (mvT hZ (own_g hw (i := 29) rfl)) (notFace_of_selects (args := #[]) (mvT hZ (own_g hw (i := 31) rfl))) (mvT hZ (own_g hw (i := 31) rfl)) (mvT hZ (own_g hw (i := 30) rfl)) (by decide) (backOf (W := 0) (own_rmat l Z a0 hw [] (p1) (t1) (c1) (k1) T14.heap n0 Z14 F18 F19 n_t1 n_c1 n_k1) hZ (own_g hw (i := 32) rfl) (own_g hw (i := 3) rfl) (by decide) (by decide)) q141a q141c (g := (mkF m 126 #[iv aa, iv bb, iv sx, iv ddd, iv ee, iv md, iv c1, iv k1, iv b1, iv t1, iv c2, iv k2, iv b2, iv t2, iv kd, rv p1, .unset, .unset, .unset, .unset] [(.int t1), (.ref p1)])) rfl (by rw [hml]; rfl) (Steps.refl _) (argsL := [(.int t1)]) (rest := []) (lenOf own_pd__I_Lcom_example_referee_referee_logic_ltl_Pointer_ rfl) rfl (by show 2 * 0 + _ ≤ _; exact Nat.le_of_eq rfl) (hb hby at_126) (fun _ _ => ⟨rfl, rfl, (by decide : 1 + 1 ≤ _), (by decide : 5 + 5 ≤ _)⟩)
    dsimp only [Pt.U, Pt.locs, Pt.cells, Pt.slots] at X141 l141 y141 z141 st141 hQ141
    subst l141 y141 z141
    obtain ⟨p2, rfl, N141q, K141q, F142, F143, F144, F145, F146, F147, pp148⟩ := hQ141
    have N141 := Fr.app N14 N141q
    refine own_S (mkF m 129 #[iv aa, iv bb, iv sx, iv ddd, iv ee, iv md, iv c1, iv k1, iv b1, iv t1, iv c2, iv k2, iv b2, iv t2, iv kd, rv p1, .unset, .unset, .unset, .unset] [(.ref p2)]) (fun _ k => st141.trans k) ?_
    have n149 : ct ≠ p2 := Nat.ne_of_lt (Nat.lt_of_lt_of_le F22.lt pp148)
    have n150 : p1 ≠ p2 := Nat.ne_of_lt (Nat.lt_of_lt_of_le F15.lt pp148)
    have ge_p2 : n0 ≤ p2 := Nat.le_trans Z14 pp148
    have F151 := F21.ext ⟨K141q.1, fun a c q => K141q.2.1 a c q nin0⟩
    have F152 := F22.keep K141q
    have F153 := F15.keep K141q
    have F154 := F16.keep K141q nin0
    have F155 := F17.keep K141q nin0
    have F156 := F18.keep K141q nin0
    have F157 := F19.keep K141q nin0
    have F158 := F20.keep K141q nin0
    have Z141 : n0 ≤ T141.heap.size := Nat.le_trans Z14 K141q.1
    refine own_S (mkF m 131 #[iv aa, iv bb, iv sx, iv ddd, iv ee, iv md, iv c1, iv k1, iv b1, iv t1, iv c2, iv k2, iv b2, iv t2, iv kd, rv p2, .unset, .unset, .unset, .unset] []) (fun _ k => XS.astore X141.here hx rfl (hb hby at_129) rfl rfl (l' := #[iv aa, iv bb, iv sx, iv ddd, iv ee, iv md, iv c1, iv k1, iv b1, iv t1, iv c2, iv k2, iv b2, iv t2, iv kd, rv p2, .unset, .unset, .unset, .unset]) rfl k) ?_
    obtain ⟨T159, h159, X159, e159, E159, A159, D159, -, st159⟩ := newO X141 hx hZ hown (own_g hw (i := 1) rfl) (own_g hw (i := 2) rfl) (own_g hw (i := 3) rfl) rfl (g := (mkF m 131 #[iv aa, iv bb, iv sx, iv ddd, iv ee, iv md, iv c1, iv k1, iv b1, iv t1, iv c2, iv k2, iv b2, iv t2, iv kd, rv p2, .unset, .unset, .unset, .unset] [])) rfl (hb hby at_131) (by decide) (by decide)
    obtain ⟨q1, g159⟩ : ∃ z, z = T141.heap.size := ⟨_, rfl⟩
    rw [← g159] at A159 D159 st159
    have n160 : ct ≠ q1 := Nat.ne_of_lt (Nat.lt_of_lt_of_eq F152.lt g159.symm)
    have n161 : p1 ≠ q1 := Nat.ne_of_lt (Nat.lt_of_lt_of_eq F153.lt g159.symm)
    have n162 : p2 ≠ q1 := Nat.ne_of_lt (Nat.lt_of_lt_of_eq F142.lt g159.symm)
    have ge_q1 : n0 ≤ q1 := Nat.le_trans Z141 (Nat.le_of_eq g159.symm)
    have F163 := F151.ext E159
    have F164 := F152.ext E159
    have F165 := F153.ext E159
    have F166 := F154.ext E159
    have F167 := F155.ext E159
    have F168 := F156.ext E159
    have F169 := F157.ext E159
    have F170 := F158.ext E159
    have F171 := F142.ext E159
    have F172 := F143.ext E159
    have F173 := F144.ext E159
    have F174 := F145.ext E159
    have F175 := F146.ext E159
    have F176 := F147.ext E159
    have Z159 : n0 ≤ h159.size := Nat.le_trans Z141 E159.1
    have F177 : Fld Z h159 q1 "com/example/referee/referee/logic/ltl/Formula" "height" "I" (.int (0 : Int32)) := D159 (Or.inr (own_g hw (i := 19) rfl)) (ty := .int) (by decide)
    have F178 : Fld Z h159 q1 "com/example/referee/referee/logic/ltl/Formula" "size" "I" (.int (0 : Int32)) := D159 (Or.inr (own_g hw (i := 21) rfl)) (ty := .int) (by decide)
    have F179 : Fld Z h159 q1 "com/example/referee/referee/logic/ltl/Pointer" "component" "I" (.int (0 : Int32)) := D159 (Or.inr (own_g hw (i := 23) rfl)) (ty := .int) (by decide)
    have F180 : Fld Z h159 q1 "com/example/referee/referee/logic/ltl/Pointer" "cell" "I" (.int (0 : Int32)) := D159 (Or.inr (own_g hw (i := 25) rfl)) (ty := .int) (by decide)
    have F181 : Fld Z h159 q1 "com/example/referee/referee/logic/ltl/Pointer" "instance" "I" (.int (0 : Int32)) := D159 (Or.inr (own_g hw (i := 27) rfl)) (ty := .int) (by decide)
    refine own_S (mkF m 134 #[iv aa, iv bb, iv sx, iv ddd, iv ee, iv md, iv c1, iv k1, iv b1, iv t1, iv c2, iv k2, iv b2, iv t2, iv kd, rv p2, .unset, .unset, .unset, .unset] [(.ref q1)]) st159 ?_
    refine own_S (mkF m 135 #[iv aa, iv bb, iv sx, iv ddd, iv ee, iv md, iv c1, iv k1, iv b1, iv t1, iv c2, iv k2, iv b2, iv t2, iv kd, rv p2, .unset, .unset, .unset, .unset] [(.ref q1), (.ref q1)]) (fun _ k => XS.dup X159.here hx rfl (hb hby at_134) rfl rfl k) ?_
    refine own_S (mkF m 137 #[iv aa, iv bb, iv sx, iv ddd, iv ee, iv md, iv c1, iv k1, iv b1, iv t1, iv c2, iv k2, iv b2, iv t2, iv kd, rv p2, .unset, .unset, .unset, .unset] [(.int c2), (.ref q1), (.ref q1)]) (fun _ k => XS.iload X159.here hx rfl (hb hby at_135) rfl k) ?_
    refine own_S (mkF m 139 #[iv aa, iv bb, iv sx, iv ddd, iv ee, iv md, iv c1, iv k1, iv b1, iv t1, iv c2, iv k2, iv b2, iv t2, iv kd, rv p2, .unset, .unset, .unset, .unset] [(.int k2), (.int c2), (.ref q1), (.ref q1)]) (fun _ k => XS.iload X159.here hx rfl (hb hby at_137) rfl k) ?_
    obtain ⟨_, _, ⟨T182, L182, k182, n182⟩, -, X182, ⟨Lc182, hQ182, l182, y182, z182⟩, st182⟩ := X159.specialBack hx (y := own_y2) rfl hown (mvT hZ (own_g hw (i := 4) rfl)) (mvT hZ (own_g hw (i := 5) rfl)) (mvT hZ (own_g hw (i := 6) rfl)) (by decide) (backOf (W := 1) (own_rmp2 l Z a0 hw [] (q1) (c2) (k2) ((.int (0 : Int32))) ((.int (0 : Int32))) ((.int (0 : Int32))) ((.int (0 : Int32))) ((.int (0 : Int32))) h159 n0 Z159 A159 F177 F178 F179 F180 F181 ge_q1 n_c2 n_k2) hZ (own_g hw (i := 6) rfl) (own_g hw (i := 3) rfl) (by decide) (by decide)) (g := (mkF m 139 #[iv aa, iv bb, iv sx, iv ddd, iv ee, iv md, iv c1, iv k1, iv b1, iv t1, iv c2, iv k2, iv b2, iv t2, iv kd, rv p2, .unset, .unset, .unset, .unset] [(.int k2), (.int c2), (.ref q1), (.ref q1)])) rfl (by rw [hml]; rfl) (Steps.refl _) (a := q1) (argsL := [(.int c2), (.int k2)]) (rest := [(.ref q1)]) (lenOf own_pd__II_V rfl) rfl (by show 2 * 0 + _ ≤ _; exact Nat.le_of_eq rfl) (hb hby at_139) (fun _ _ => ⟨rfl, e159, (by decide : 3 + 0 ≤ _), (by decide : 15 + 0 ≤ _)⟩)
    dsimp only [Pt.U, Pt.locs, Pt.cells, Pt.slots] at X182 l182 y182 z182 st182 hQ182
    subst l182 y182 z182
    obtain ⟨rfl, N182q, K182q, F183, F184, F185, F186, F187, F188⟩ := hQ182
    have N182 := Fr.app N141 N182q
    refine own_S (mkF m 142 #[iv aa, iv bb, iv sx, iv ddd, iv ee, iv md, iv c1, iv k1, iv b1, iv t1, iv c2, iv k2, iv b2, iv t2, iv kd, rv p2, .unset, .unset, .unset, .unset] [(.ref q1)]) (fun _ k => st182.trans k) ?_
    have F189 := Sta_keep (n0 := 0) F163 K182q ((own_allS (old_plain F181) (fun _ q => nomatch q)))
    have F190 := F164.keep K182q
    have F191 := F165.keep K182q
    have F192 := F166.keep K182q (ninS n161 nin0)
    have F193 := F167.keep K182q (ninS n161 nin0)
    have F194 := F168.keep K182q (ninS n161 nin0)
    have F195 := F169.keep K182q (ninS n161 nin0)
    have F196 := F170.keep K182q (ninS n161 nin0)
    have F197 := F171.keep K182q
    have F198 := F172.keep K182q (ninS n162 nin0)
    have F199 := F173.keep K182q (ninS n162 nin0)
    have F200 := F174.keep K182q (ninS n162 nin0)
    have F201 := F175.keep K182q (ninS n162 nin0)
    have F202 := F176.keep K182q (ninS n162 nin0)
    have Z182 : n0 ≤ T182.heap.size := Nat.le_trans Z159 K182q.1
    refine own_S (mkF m 144 #[iv aa, iv bb, iv sx, iv ddd, iv ee, iv md, iv c1, iv k1, iv b1, iv t1, iv c2, iv k2, iv b2, iv t2, iv kd, rv p2, rv q1, .unset, .unset, .unset] []) (fun _ k => XS.astore X182.here hx rfl (hb hby at_142) rfl rfl (l' := #[iv aa, iv bb, iv sx, iv ddd, iv ee, iv md, iv c1, iv k1, iv b1, iv t1, iv c2, iv k2, iv b2, iv t2, iv kd, rv p2, rv q1, .unset, .unset, .unset]) rfl k) ?_
    refine own_S (mkF m 146 #[iv aa, iv bb, iv sx, iv ddd, iv ee, iv md, iv c1, iv k1, iv b1, iv t1, iv c2, iv k2, iv b2, iv t2, iv kd, rv p2, rv q1, .unset, .unset, .unset] [(.int b2)]) (fun _ k => XS.iload X182.here hx rfl (hb hby at_144) rfl k) ?_
    by_cases hb2 : b2 = (0 : Int32)
    · -- b2 = (0 : Int32)
      refine own_S (mkF m 158 #[iv aa, iv bb, iv sx, iv ddd, iv ee, iv md, iv c1, iv k1, iv b1, iv t1, iv c2, iv k2, iv b2, iv t2, iv kd, rv p2, rv q1, .unset, .unset, .unset] []) (fun _ k => XS.ifYes X182.here hx rfl (pc0 := 146) (pc' := 158) rfl (hb hby at_146) rfl ((if0 _ _).trans (teq hb2).1) (by decide) (by decide) k) ?_
      refine own_S (mkF m 160 #[iv aa, iv bb, iv sx, iv ddd, iv ee, iv md, iv c1, iv k1, iv b1, iv t1, iv c2, iv k2, iv b2, iv t2, iv kd, rv p2, rv q1, .unset, .unset, .unset] [(.int kd)]) (fun _ k => XS.iload X182.here hx rfl (hb hby at_158) rfl k) ?_
      refine own_S (mkF m 161 #[iv aa, iv bb, iv sx, iv ddd, iv ee, iv md, iv c1, iv k1, iv b1, iv t1, iv c2, iv k2, iv b2, iv t2, iv kd, rv p2, rv q1, .unset, .unset, .unset] [(.int 2), (.int kd)]) (fun _ k => XS.iconst X182.here hx rfl (hb hby at_160) k) ?_
      by_cases hk2 : kd = (2 : Int32)
      · -- kd = (2 : Int32)
        refine own_S (mkF m 164 #[iv aa, iv bb, iv sx, iv ddd, iv ee, iv md, iv c1, iv k1, iv b1, iv t1, iv c2, iv k2, iv b2, iv t2, iv kd, rv p2, rv q1, .unset, .unset, .unset] []) (fun _ k => XS.icmpNo X182.here hx rfl (hb hby at_161) rfl (teq hk2).2 k) ?_
        refine own_S (mkF m 165 #[iv aa, iv bb, iv sx, iv ddd, iv ee, iv md, iv c1, iv k1, iv b1, iv t1, iv c2, iv k2, iv b2, iv t2, iv kd, rv p2, rv q1, .unset, .unset, .unset] [.null]) (fun _ k => XS.aconstNull X182.here hx rfl (hb hby at_164) k) ?_
        refine own_S (mkF m 167 #[iv aa, iv bb, iv sx, iv ddd, iv ee, iv md, iv c1, iv k1, iv b1, iv t1, iv c2, iv k2, iv b2, iv t2, iv kd, rv p2, rv q1, .val .null, .unset, .unset] []) (fun _ k => XS.astore X182.here hx rfl (hb hby at_165) rfl rfl (l' := #[iv aa, iv bb, iv sx, iv ddd, iv ee, iv md, iv c1, iv k1, iv b1, iv t1, iv c2, iv k2, iv b2, iv t2, iv kd, rv p2, rv q1, .val .null, .unset, .unset]) rfl k) ?_
        refine own_S (mkF m 188 #[iv aa, iv bb, iv sx, iv ddd, iv ee, iv md, iv c1, iv k1, iv b1, iv t1, iv c2, iv k2, iv b2, iv t2, iv kd, rv p2, rv q1, .val .null, .unset, .unset] []) (fun _ k => XS.goto X182.here hx rfl (pc0 := 167) (pc' := 188) rfl (hb hby at_167) (by decide) (by decide) k) ?_
        refine own_S (mkF m 190 #[iv aa, iv bb, iv sx, iv ddd, iv ee, iv md, iv c1, iv k1, iv b1, iv t1, iv c2, iv k2, iv b2, iv t2, iv kd, rv p2, rv q1, .val .null, .unset, .unset] [(.int kd)]) (fun _ k => XS.iload X182.here hx rfl (hb hby at_188) rfl k) ?_
        refine own_S (mkF m 191 #[iv aa, iv bb, iv sx, iv ddd, iv ee, iv md, iv c1, iv k1, iv b1, iv t1, iv c2, iv k2, iv b2, iv t2, iv kd, rv p2, rv q1, .val .null, .unset, .unset] [(.int 2), (.int kd)]) (fun _ k => XS.iconst X182.here hx rfl (hb hby at_190) k) ?_
        obtain ⟨xx, h_xx⟩ : ∃ z : Int32, z = (if kd < (2 : Int32) then (if c1 = c2 then (if k1 = k2 then (if b1 = b2 then (if b1 = (0 : Int32) then (1 : Int32) else (if t1 = t2 then (1 : Int32) else (0 : Int32))) else (0 : Int32)) else (0 : Int32)) else (0 : Int32)) else (0 : Int32)) := ⟨_, rfl⟩
        refine own_S (T' := T182) (mkF m 232 #[iv aa, iv bb, iv sx, iv ddd, iv ee, iv md, iv c1, iv k1, iv b1, iv t1, iv c2, iv k2, iv b2, iv t2, iv kd, rv p2, rv q1, .val .null, .unset, .unset] [(.int xx)]) (fun _ k => ?_) ?_
        ·
          by_cases hj203 : kd < (2 : Int32)
          ·
            refine own_s (mkF m 194 #[iv aa, iv bb, iv sx, iv ddd, iv ee, iv md, iv c1, iv k1, iv b1, iv t1, iv c2, iv k2, iv b2, iv t2, iv kd, rv p2, rv q1, .val .null, .unset, .unset] []) (fun _ k => XS.icmpNo X182.here hx rfl (hb hby at_191) rfl (tlt hj203).2.1 k) ?_
            refine own_s (mkF m 196 #[iv aa, iv bb, iv sx, iv ddd, iv ee, iv md, iv c1, iv k1, iv b1, iv t1, iv c2, iv k2, iv b2, iv t2, iv kd, rv p2, rv q1, .val .null, .unset, .unset] [(.int c1)]) (fun _ k => XS.iload X182.here hx rfl (hb hby at_194) rfl k) ?_
            refine own_s (mkF m 198 #[iv aa, iv bb, iv sx, iv ddd, iv ee, iv md, iv c1, iv k1, iv b1, iv t1, iv c2, iv k2, iv b2, iv t2, iv kd, rv p2, rv q1, .val .null, .unset, .unset] [(.int c2), (.int c1)]) (fun _ k => XS.iload X182.here hx rfl (hb hby at_196) rfl k) ?_
            by_cases hj204 : c1 = c2
            ·
              refine own_s (mkF m 201 #[iv aa, iv bb, iv sx, iv ddd, iv ee, iv md, iv c1, iv k1, iv b1, iv t1, iv c2, iv k2, iv b2, iv t2, iv kd, rv p2, rv q1, .val .null, .unset, .unset] []) (fun _ k => XS.icmpNo X182.here hx rfl (hb hby at_198) rfl (teq hj204).2 k) ?_
              refine own_s (mkF m 203 #[iv aa, iv bb, iv sx, iv ddd, iv ee, iv md, iv c1, iv k1, iv b1, iv t1, iv c2, iv k2, iv b2, iv t2, iv kd, rv p2, rv q1, .val .null, .unset, .unset] [(.int k1)]) (fun _ k => XS.iload X182.here hx rfl (hb hby at_201) rfl k) ?_
              refine own_s (mkF m 205 #[iv aa, iv bb, iv sx, iv ddd, iv ee, iv md, iv c1, iv k1, iv b1, iv t1, iv c2, iv k2, iv b2, iv t2, iv kd, rv p2, rv q1, .val .null, .unset, .unset] [(.int k2), (.int k1)]) (fun _ k => XS.iload X182.here hx rfl (hb hby at_203) rfl k) ?_
              by_cases hj205 : k1 = k2
              ·
                refine own_s (mkF m 208 #[iv aa, iv bb, iv sx, iv ddd, iv ee, iv md, iv c1, iv k1, iv b1, iv t1, iv c2, iv k2, iv b2, iv t2, iv kd, rv p2, rv q1, .val .null, .unset, .unset] []) (fun _ k => XS.icmpNo X182.here hx rfl (hb hby at_205) rfl (teq hj205).2 k) ?_
                refine own_s (mkF m 210 #[iv aa, iv bb, iv sx, iv ddd, iv ee, iv md, iv c1, iv k1, iv b1, iv t1, iv c2, iv k2, iv b2, iv t2, iv kd, rv p2, rv q1, .val .null, .unset, .unset] [(.int b1)]) (fun _ k => XS.iload X182.here hx rfl (hb hby at_208) rfl k) ?_
                refine own_s (mkF m 212 #[iv aa, iv bb, iv sx, iv ddd, iv ee, iv md, iv c1, iv k1, iv b1, iv t1, iv c2, iv k2, iv b2, iv t2, iv kd, rv p2, rv q1, .val .null, .unset, .unset] [(.int b2), (.int b1)]) (fun _ k => XS.iload X182.here hx rfl (hb hby at_210) rfl k) ?_
                by_cases hj206 : b1 = b2
                ·
                  refine own_s (mkF m 215 #[iv aa, iv bb, iv sx, iv ddd, iv ee, iv md, iv c1, iv k1, iv b1, iv t1, iv c2, iv k2, iv b2, iv t2, iv kd, rv p2, rv q1, .val .null, .unset, .unset] []) (fun _ k => XS.icmpNo X182.here hx rfl (hb hby at_212) rfl (teq hj206).2 k) ?_
                  refine own_s (mkF m 217 #[iv aa, iv bb, iv sx, iv ddd, iv ee, iv md, iv c1, iv k1, iv b1, iv t1, iv c2, iv k2, iv b2, iv t2, iv kd, rv p2, rv q1, .val .null, .unset, .unset] [(.int b1)]) (fun _ k => XS.iload X182.here hx rfl (hb hby at_215) rfl k) ?_
                  by_cases hj207 : b1 = (0 : Int32)
                  ·
                    refine own_s (mkF m 227 #[iv aa, iv bb, iv sx, iv ddd, iv ee, iv md, iv c1, iv k1, iv b1, iv t1, iv c2, iv k2, iv b2, iv t2, iv kd, rv p2, rv q1, .val .null, .unset, .unset] []) (fun _ k => XS.ifYes X182.here hx rfl (pc0 := 217) (pc' := 227) rfl (hb hby at_217) rfl ((if0 _ _).trans (teq hj207).1) (by decide) (by decide) k) ?_
                    refine own_s (mkF m 228 #[iv aa, iv bb, iv sx, iv ddd, iv ee, iv md, iv c1, iv k1, iv b1, iv t1, iv c2, iv k2, iv b2, iv t2, iv kd, rv p2, rv q1, .val .null, .unset, .unset] [(.int 1)]) (fun _ k => XS.iconst X182.here hx rfl (hb hby at_227) k) ?_
                    refine own_s (mkF m 232 #[iv aa, iv bb, iv sx, iv ddd, iv ee, iv md, iv c1, iv k1, iv b1, iv t1, iv c2, iv k2, iv b2, iv t2, iv kd, rv p2, rv q1, .val .null, .unset, .unset] [(.int 1)]) (fun _ k => XS.goto X182.here hx rfl (pc0 := 228) (pc' := 232) rfl (hb hby at_228) (by decide) (by decide) k) ?_
                    rw [show xx = (1 : Int32) from by rw [h_xx, if_pos hj203, if_pos hj204, if_pos hj205, if_pos hj206, if_pos hj207]] at k
                    exact k
                  ·
                    refine own_s (mkF m 220 #[iv aa, iv bb, iv sx, iv ddd, iv ee, iv md, iv c1, iv k1, iv b1, iv t1, iv c2, iv k2, iv b2, iv t2, iv kd, rv p2, rv q1, .val .null, .unset, .unset] []) (fun _ k => XS.ifNo X182.here hx rfl (hb hby at_217) rfl ((if0 _ _).trans (feq hj207).1) k) ?_
                    refine own_s (mkF m 222 #[iv aa, iv bb, iv sx, iv ddd, iv ee, iv md, iv c1, iv k1, iv b1, iv t1, iv c2, iv k2, iv b2, iv t2, iv kd, rv p2, rv q1, .val .null, .unset, .unset] [(.int t1)]) (fun _ k => XS.iload X182.here hx rfl (hb hby at_220) rfl k) ?_
                    refine own_s (mkF m 224 #[iv aa, iv bb, iv sx, iv ddd, iv ee, iv md, iv c1, iv k1, iv b1, iv t1, iv c2, iv k2, iv b2, iv t2, iv kd, rv p2, rv q1, .val .null, .unset, .unset] [(.int t2), (.int t1)]) (fun _ k => XS.iload X182.here hx rfl (hb hby at_222) rfl k) ?_
                    by_cases hj208 : t1 = t2
                    ·
                      refine own_s (mkF m 227 #[iv aa, iv bb, iv sx, iv ddd, iv ee, iv md, iv c1, iv k1, iv b1, iv t1, iv c2, iv k2, iv b2, iv t2, iv kd, rv p2, rv q1, .val .null, .unset, .unset] []) (fun _ k => XS.icmpNo X182.here hx rfl (hb hby at_224) rfl (teq hj208).2 k) ?_
                      refine own_s (mkF m 228 #[iv aa, iv bb, iv sx, iv ddd, iv ee, iv md, iv c1, iv k1, iv b1, iv t1, iv c2, iv k2, iv b2, iv t2, iv kd, rv p2, rv q1, .val .null, .unset, .unset] [(.int 1)]) (fun _ k => XS.iconst X182.here hx rfl (hb hby at_227) k) ?_
                      refine own_s (mkF m 232 #[iv aa, iv bb, iv sx, iv ddd, iv ee, iv md, iv c1, iv k1, iv b1, iv t1, iv c2, iv k2, iv b2, iv t2, iv kd, rv p2, rv q1, .val .null, .unset, .unset] [(.int 1)]) (fun _ k => XS.goto X182.here hx rfl (pc0 := 228) (pc' := 232) rfl (hb hby at_228) (by decide) (by decide) k) ?_
                      rw [show xx = (1 : Int32) from by rw [h_xx, if_pos hj203, if_pos hj204, if_pos hj205, if_pos hj206, if_neg hj207, if_pos hj208]] at k
                      exact k
                    ·
                      refine own_s (mkF m 231 #[iv aa, iv bb, iv sx, iv ddd, iv ee, iv md, iv c1, iv k1, iv b1, iv t1, iv c2, iv k2, iv b2, iv t2, iv kd, rv p2, rv q1, .val .null, .unset, .unset] []) (fun _ k => XS.icmpYes X182.here hx rfl (pc0 := 224) (pc' := 231) rfl (hb hby at_224) rfl (feq hj208).2 (by decide) (by decide) k) ?_
                      refine own_s (mkF m 232 #[iv aa, iv bb, iv sx, iv ddd, iv ee, iv md, iv c1, iv k1, iv b1, iv t1, iv c2, iv k2, iv b2, iv t2, iv kd, rv p2, rv q1, .val .null, .unset, .unset] [(.int 0)]) (fun _ k => XS.iconst X182.here hx rfl (hb hby at_231) k) ?_
                      rw [show xx = (0 : Int32) from by rw [h_xx, if_pos hj203, if_pos hj204, if_pos hj205, if_pos hj206, if_neg hj207, if_neg hj208]] at k
                      exact k
                ·
                  refine own_s (mkF m 231 #[iv aa, iv bb, iv sx, iv ddd, iv ee, iv md, iv c1, iv k1, iv b1, iv t1, iv c2, iv k2, iv b2, iv t2, iv kd, rv p2, rv q1, .val .null, .unset, .unset] []) (fun _ k => XS.icmpYes X182.here hx rfl (pc0 := 212) (pc' := 231) rfl (hb hby at_212) rfl (feq hj206).2 (by decide) (by decide) k) ?_
                  refine own_s (mkF m 232 #[iv aa, iv bb, iv sx, iv ddd, iv ee, iv md, iv c1, iv k1, iv b1, iv t1, iv c2, iv k2, iv b2, iv t2, iv kd, rv p2, rv q1, .val .null, .unset, .unset] [(.int 0)]) (fun _ k => XS.iconst X182.here hx rfl (hb hby at_231) k) ?_
                  rw [show xx = (0 : Int32) from by rw [h_xx, if_pos hj203, if_pos hj204, if_pos hj205, if_neg hj206]] at k
                  exact k
              ·
                refine own_s (mkF m 231 #[iv aa, iv bb, iv sx, iv ddd, iv ee, iv md, iv c1, iv k1, iv b1, iv t1, iv c2, iv k2, iv b2, iv t2, iv kd, rv p2, rv q1, .val .null, .unset, .unset] []) (fun _ k => XS.icmpYes X182.here hx rfl (pc0 := 205) (pc' := 231) rfl (hb hby at_205) rfl (feq hj205).2 (by decide) (by decide) k) ?_
                refine own_s (mkF m 232 #[iv aa, iv bb, iv sx, iv ddd, iv ee, iv md, iv c1, iv k1, iv b1, iv t1, iv c2, iv k2, iv b2, iv t2, iv kd, rv p2, rv q1, .val .null, .unset, .unset] [(.int 0)]) (fun _ k => XS.iconst X182.here hx rfl (hb hby at_231) k) ?_
                rw [show xx = (0 : Int32) from by rw [h_xx, if_pos hj203, if_pos hj204, if_neg hj205]] at k
                exact k
            ·
              refine own_s (mkF m 231 #[iv aa, iv bb, iv sx, iv ddd, iv ee, iv md, iv c1, iv k1, iv b1, iv t1, iv c2, iv k2, iv b2, iv t2, iv kd, rv p2, rv q1, .val .null, .unset, .unset] []) (fun _ k => XS.icmpYes X182.here hx rfl (pc0 := 198) (pc' := 231) rfl (hb hby at_198) rfl (feq hj204).2 (by decide) (by decide) k) ?_
              refine own_s (mkF m 232 #[iv aa, iv bb, iv sx, iv ddd, iv ee, iv md, iv c1, iv k1, iv b1, iv t1, iv c2, iv k2, iv b2, iv t2, iv kd, rv p2, rv q1, .val .null, .unset, .unset] [(.int 0)]) (fun _ k => XS.iconst X182.here hx rfl (hb hby at_231) k) ?_
              rw [show xx = (0 : Int32) from by rw [h_xx, if_pos hj203, if_neg hj204]] at k
              exact k
          ·
            refine own_s (mkF m 231 #[iv aa, iv bb, iv sx, iv ddd, iv ee, iv md, iv c1, iv k1, iv b1, iv t1, iv c2, iv k2, iv b2, iv t2, iv kd, rv p2, rv q1, .val .null, .unset, .unset] []) (fun _ k => XS.icmpYes X182.here hx rfl (pc0 := 191) (pc' := 231) rfl (hb hby at_191) rfl (flt hj203).2.1 (by decide) (by decide) k) ?_
            refine own_s (mkF m 232 #[iv aa, iv bb, iv sx, iv ddd, iv ee, iv md, iv c1, iv k1, iv b1, iv t1, iv c2, iv k2, iv b2, iv t2, iv kd, rv p2, rv q1, .val .null, .unset, .unset] [(.int 0)]) (fun _ k => XS.iconst X182.here hx rfl (hb hby at_231) k) ?_
            rw [show xx = (0 : Int32) from by rw [h_xx, if_neg hj203]] at k
            exact k
        refine own_S (mkF m 234 #[iv aa, iv bb, iv sx, iv ddd, iv ee, iv md, iv c1, iv k1, iv b1, iv t1, iv c2, iv k2, iv b2, iv t2, iv kd, rv p2, rv q1, .val .null, iv xx, .unset] []) (fun _ k => XS.istore X182.here hx rfl (hb hby at_232) rfl (l' := #[iv aa, iv bb, iv sx, iv ddd, iv ee, iv md, iv c1, iv k1, iv b1, iv t1, iv c2, iv k2, iv b2, iv t2, iv kd, rv p2, rv q1, .val .null, iv xx, .unset]) rfl k) ?_
        refine own_S (mkF m 236 #[iv aa, iv bb, iv sx, iv ddd, iv ee, iv md, iv c1, iv k1, iv b1, iv t1, iv c2, iv k2, iv b2, iv t2, iv kd, rv p2, rv q1, .val .null, iv xx, .unset] [(.ref p2)]) (fun _ k => XS.aload X182.here hx rfl (hb hby at_234) rfl rfl k) ?_
        refine own_S (mkF m 238 #[iv aa, iv bb, iv sx, iv ddd, iv ee, iv md, iv c1, iv k1, iv b1, iv t1, iv c2, iv k2, iv b2, iv t2, iv kd, rv p2, rv q1, .val .null, iv xx, .unset] [.null, (.ref p2)]) (fun _ k => XS.aload X182.here hx rfl (hb hby at_236) rfl rfl k) ?_
        obtain ⟨cq209, kq209, q209a, q209b, q209c⟩ := isOf hZ rfl F197
        obtain ⟨_, _, ⟨T209, L209, k209, n209⟩, -, X209, ⟨Lc209, hQ209, l209, y209, z209⟩, st209⟩ := X182.virtualBack hx (y := own_y4) (z := own_y4) hown (mvT hZ (own_g hw (i := 34) rfl)) (mvT hZ (own_g hw (i := 35) rfl)) (notFace_of_selects (args := #[]) (mvT hZ (own_g hw (i := 37) rfl))) (mvT hZ (own_g hw (i := 37) rfl)) (mvT hZ (own_g hw (i := 36) rfl)) (by decide) (backOf (W := 0) (own_rmen l Z a0 hw [] (p2) T182.heap n0 Z182 ) hZ (own_g hw (i := 38) rfl) (own_g hw (i := 3) rfl) (by decide) (by decide)) q209a q209c (g := (mkF m 238 #[iv aa, iv bb, iv sx, iv ddd, iv ee, iv md, iv c1, iv k1, iv b1, iv t1, iv c2, iv k2, iv b2, iv t2, iv kd, rv p2, rv q1, .val .null, iv xx, .unset] [.null, (.ref p2)])) rfl (by rw [hml]; rfl) (Steps.refl _) (argsL := [.null]) (rest := []) (lenOf own_pd__Ljava_lang_Object__Z rfl) rfl (by show 2 * 0 + _ ≤ _; exact Nat.le_of_eq rfl) (hb hby at_238) (fun _ _ => ⟨rfl, rfl, (by decide : 3 + 0 ≤ _), (by decide : 15 + 0 ≤ _)⟩)
        dsimp only [Pt.U, Pt.locs, Pt.cells, Pt.slots] at X209 l209 y209 z209 st209 hQ209
        subst l209 y209 z209
        obtain ⟨rfl, N209q, e209⟩ := hQ209
        have N209 := Fr.app N182 N209q
        refine own_S (mkF m 241 #[iv aa, iv bb, iv sx, iv ddd, iv ee, iv md, iv c1, iv k1, iv b1, iv t1, iv c2, iv k2, iv b2, iv t2, iv kd, rv p2, rv q1, .val .null, iv xx, .unset] [(.int 0)]) (fun _ k => st209.trans k) ?_
        refine own_S (mkF m 243 #[iv aa, iv bb, iv sx, iv ddd, iv ee, iv md, iv c1, iv k1, iv b1, iv t1, iv c2, iv k2, iv b2, iv t2, iv kd, rv p2, rv q1, .val .null, iv xx, .unset] [(.int xx), (.int 0)]) (fun _ k => XS.iload X209.here hx rfl (hb hby at_241) rfl k) ?_
        obtain ⟨ok, h_ok⟩ : ∃ z : Int32, z = (if (0 : Int32) = xx then (1 : Int32) else (0 : Int32)) := ⟨_, rfl⟩
        refine own_S (T' := T209) (mkF m 251 #[iv aa, iv bb, iv sx, iv ddd, iv ee, iv md, iv c1, iv k1, iv b1, iv t1, iv c2, iv k2, iv b2, iv t2, iv kd, rv p2, rv q1, .val .null, iv xx, .unset] [(.int ok)]) (fun _ k => ?_) ?_
        ·
          by_cases hj210 : (0 : Int32) = xx
          ·
            refine own_s (mkF m 246 #[iv aa, iv bb, iv sx, iv ddd, iv ee, iv md, iv c1, iv k1, iv b1, iv t1, iv c2, iv k2, iv b2, iv t2, iv kd, rv p2, rv q1, .val .null, iv xx, .unset] []) (fun _ k => XS.icmpNo X209.here hx rfl (hb hby at_243) rfl (teq hj210).2 k) ?_
            refine own_s (mkF m 247 #[iv aa, iv bb, iv sx, iv ddd, iv ee, iv md, iv c1, iv k1, iv b1, iv t1, iv c2, iv k2, iv b2, iv t2, iv kd, rv p2, rv q1, .val .null, iv xx, .unset] [(.int 1)]) (fun _ k => XS.iconst X209.here hx rfl (hb hby at_246) k) ?_
            refine own_s (mkF m 251 #[iv aa, iv bb, iv sx, iv ddd, iv ee, iv md, iv c1, iv k1, iv b1, iv t1, iv c2, iv k2, iv b2, iv t2, iv kd, rv p2, rv q1, .val .null, iv xx, .unset] [(.int 1)]) (fun _ k => XS.goto X209.here hx rfl (pc0 := 247) (pc' := 251) rfl (hb hby at_247) (by decide) (by decide) k) ?_
            rw [show ok = (1 : Int32) from by rw [h_ok, if_pos hj210]] at k
            exact k
          ·
            refine own_s (mkF m 250 #[iv aa, iv bb, iv sx, iv ddd, iv ee, iv md, iv c1, iv k1, iv b1, iv t1, iv c2, iv k2, iv b2, iv t2, iv kd, rv p2, rv q1, .val .null, iv xx, .unset] []) (fun _ k => XS.icmpYes X209.here hx rfl (pc0 := 243) (pc' := 250) rfl (hb hby at_243) rfl (feq hj210).2 (by decide) (by decide) k) ?_
            refine own_s (mkF m 251 #[iv aa, iv bb, iv sx, iv ddd, iv ee, iv md, iv c1, iv k1, iv b1, iv t1, iv c2, iv k2, iv b2, iv t2, iv kd, rv p2, rv q1, .val .null, iv xx, .unset] [(.int 0)]) (fun _ k => XS.iconst X209.here hx rfl (hb hby at_250) k) ?_
            rw [show ok = (0 : Int32) from by rw [h_ok, if_neg hj210]] at k
            exact k
        refine own_S (mkF m 253 #[iv aa, iv bb, iv sx, iv ddd, iv ee, iv md, iv c1, iv k1, iv b1, iv t1, iv c2, iv k2, iv b2, iv t2, iv kd, rv p2, rv q1, .val .null, iv xx, iv ok] []) (fun _ k => XS.istore X209.here hx rfl (hb hby at_251) rfl (l' := #[iv aa, iv bb, iv sx, iv ddd, iv ee, iv md, iv c1, iv k1, iv b1, iv t1, iv c2, iv k2, iv b2, iv t2, iv kd, rv p2, rv q1, .val .null, iv xx, iv ok]) rfl k) ?_
        refine own_S (mkF m 255 #[iv aa, iv bb, iv sx, iv ddd, iv ee, iv md, iv c1, iv k1, iv b1, iv t1, iv c2, iv k2, iv b2, iv t2, iv kd, rv p2, rv q1, .val .null, iv xx, iv ok] [(.int kd)]) (fun _ k => XS.iload X209.here hx rfl (hb hby at_253) rfl k) ?_
        refine own_S (mkF m 256 #[iv aa, iv bb, iv sx, iv ddd, iv ee, iv md, iv c1, iv k1, iv b1, iv t1, iv c2, iv k2, iv b2, iv t2, iv kd, rv p2, rv q1, .val .null, iv xx, iv ok] [(.int 2), (.int kd)]) (fun _ k => XS.iconst X209.here hx rfl (hb hby at_255) k) ?_
        have hc211 : ¬ (kd < (2 : Int32)) := (by rw [hk2]; decide)
        refine own_S (mkF m 283 #[iv aa, iv bb, iv sx, iv ddd, iv ee, iv md, iv c1, iv k1, iv b1, iv t1, iv c2, iv k2, iv b2, iv t2, iv kd, rv p2, rv q1, .val .null, iv xx, iv ok] []) (fun _ k => XS.icmpYes X209.here hx rfl (pc0 := 256) (pc' := 283) rfl (hb hby at_256) rfl (flt hc211).2.1 (by decide) (by decide) k) ?_
        refine own_S (mkF m 285 #[iv aa, iv bb, iv sx, iv ddd, iv ee, iv md, iv c1, iv k1, iv b1, iv t1, iv c2, iv k2, iv b2, iv t2, iv kd, rv p2, rv q1, .val .null, iv xx, iv ok] [(.int ok)]) (fun _ k => XS.iload X209.here hx rfl (hb hby at_283) rfl k) ?_
        exact own_retN X209 hx hlk (t := .boolean) hret (by simp) (hb hby at_285) (by rw [e209]; exact ⟨(by rw [h_ok, h_xx, if_neg (show ¬ kd < (2 : Int32) by rw [hk2]; decide), if_pos rfl]; rfl), N209, trivial⟩) (by decide) (by decide)
      · -- not kd = (2 : Int32)
        refine own_S (mkF m 170 #[iv aa, iv bb, iv sx, iv ddd, iv ee, iv md, iv c1, iv k1, iv b1, iv t1, iv c2, iv k2, iv b2, iv t2, iv kd, rv p2, rv q1, .unset, .unset, .unset] []) (fun _ k => XS.icmpYes X182.here hx rfl (pc0 := 161) (pc' := 170) rfl (hb hby at_161) rfl (feq hk2).2 (by decide) (by decide) k) ?_
        refine own_S (mkF m 172 #[iv aa, iv bb, iv sx, iv ddd, iv ee, iv md, iv c1, iv k1, iv b1, iv t1, iv c2, iv k2, iv b2, iv t2, iv kd, rv p2, rv q1, .unset, .unset, .unset] [(.int kd)]) (fun _ k => XS.iload X182.here hx rfl (hb hby at_170) rfl k) ?_
        refine own_S (mkF m 173 #[iv aa, iv bb, iv sx, iv ddd, iv ee, iv md, iv c1, iv k1, iv b1, iv t1, iv c2, iv k2, iv b2, iv t2, iv kd, rv p2, rv q1, .unset, .unset, .unset] [(.int 3), (.int kd)]) (fun _ k => XS.iconst X182.here hx rfl (hb hby at_172) k) ?_
        by_cases hk3 : kd = (3 : Int32)
        · -- kd = (3 : Int32)
          refine own_S (mkF m 176 #[iv aa, iv bb, iv sx, iv ddd, iv ee, iv md, iv c1, iv k1, iv b1, iv t1, iv c2, iv k2, iv b2, iv t2, iv kd, rv p2, rv q1, .unset, .unset, .unset] []) (fun _ k => XS.icmpNo X182.here hx rfl (hb hby at_173) rfl (teq hk3).2 k) ?_
          obtain ⟨T212, X212, e212, st212⟩ := getS (host := "") X182 hx hZ hown (own_g hw (i := 40) rfl) Via.refl rfl F189 (g := (mkF m 176 #[iv aa, iv bb, iv sx, iv ddd, iv ee, iv md, iv c1, iv k1, iv b1, iv t1, iv c2, iv k2, iv b2, iv t2, iv kd, rv p2, rv q1, .unset, .unset, .unset] [])) rfl (hb hby at_176)
          refine own_S (mkF m 179 #[iv aa, iv bb, iv sx, iv ddd, iv ee, iv md, iv c1, iv k1, iv b1, iv t1, iv c2, iv k2, iv b2, iv t2, iv kd, rv p2, rv q1, .unset, .unset, .unset] [(.ref ct)]) st212 ?_
          refine own_S (mkF m 181 #[iv aa, iv bb, iv sx, iv ddd, iv ee, iv md, iv c1, iv k1, iv b1, iv t1, iv c2, iv k2, iv b2, iv t2, iv kd, rv p2, rv q1, rv ct, .unset, .unset] []) (fun _ k => XS.astore X212.here hx rfl (hb hby at_179) rfl rfl (l' := #[iv aa, iv bb, iv sx, iv ddd, iv ee, iv md, iv c1, iv k1, iv b1, iv t1, iv c2, iv k2, iv b2, iv t2, iv kd, rv p2, rv q1, rv ct, .unset, .unset]) rfl k) ?_
          refine own_S (mkF m 188 #[iv aa, iv bb, iv sx, iv ddd, iv ee, iv md, iv c1, iv k1, iv b1, iv t1, iv c2, iv k2, iv b2, iv t2, iv kd, rv p2, rv q1, rv ct, .unset, .unset] []) (fun _ k => XS.goto X212.here hx rfl (pc0 := 181) (pc' := 188) rfl (hb hby at_181) (by decide) (by decide) k) ?_
          refine own_S (mkF m 190 #[iv aa, iv bb, iv sx, iv ddd, iv ee, iv md, iv c1, iv k1, iv b1, iv t1, iv c2, iv k2, iv b2, iv t2, iv kd, rv p2, rv q1, rv ct, .unset, .unset] [(.int kd)]) (fun _ k => XS.iload X212.here hx rfl (hb hby at_188) rfl k) ?_
          refine own_S (mkF m 191 #[iv aa, iv bb, iv sx, iv ddd, iv ee, iv md, iv c1, iv k1, iv b1, iv t1, iv c2, iv k2, iv b2, iv t2, iv kd, rv p2, rv q1, rv ct, .unset, .unset] [(.int 2), (.int kd)]) (fun _ k => XS.iconst X212.here hx rfl (hb hby at_190) k) ?_
          obtain ⟨xx, h_xx⟩ : ∃ z : Int32, z = (if kd < (2 : Int32) then (if c1 = c2 then (if k1 = k2 then (if b1 = b2 then (if b1 = (0 : Int32) then (1 : Int32) else (if t1 = t2 then (1 : Int32) else (0 : Int32))) else (0 : Int32)) else (0 : Int32)) else (0 : Int32)) else (0 : Int32)) := ⟨_, rfl⟩
          refine own_S (T' := T212) (mkF m 232 #[iv aa, iv bb, iv sx, iv ddd, iv ee, iv md, iv c1, iv k1, iv b1, iv t1, iv c2, iv k2, iv b2, iv t2, iv kd, rv p2, rv q1, rv ct, .unset, .unset] [(.int xx)]) (fun _ k => ?_) ?_
          ·
            by_cases hj213 : kd < (2 : Int32)
            ·
              refine own_s (mkF m 194 #[iv aa, iv bb, iv sx, iv ddd, iv ee, iv md, iv c1, iv k1, iv b1, iv t1, iv c2, iv k2, iv b2, iv t2, iv kd, rv p2, rv q1, rv ct, .unset, .unset] []) (fun _ k => XS.icmpNo X212.here hx rfl (hb hby at_191) rfl (tlt hj213).2.1 k) ?_
              refine own_s (mkF m 196 #[iv aa, iv bb, iv sx, iv ddd, iv ee, iv md, iv c1, iv k1, iv b1, iv t1, iv c2, iv k2, iv b2, iv t2, iv kd, rv p2, rv q1, rv ct, .unset, .unset] [(.int c1)]) (fun _ k => XS.iload X212.here hx rfl (hb hby at_194) rfl k) ?_
              refine own_s (mkF m 198 #[iv aa, iv bb, iv sx, iv ddd, iv ee, iv md, iv c1, iv k1, iv b1, iv t1, iv c2, iv k2, iv b2, iv t2, iv kd, rv p2, rv q1, rv ct, .unset, .unset] [(.int c2), (.int c1)]) (fun _ k => XS.iload X212.here hx rfl (hb hby at_196) rfl k) ?_
              by_cases hj214 : c1 = c2
              ·
                refine own_s (mkF m 201 #[iv aa, iv bb, iv sx, iv ddd, iv ee, iv md, iv c1, iv k1, iv b1, iv t1, iv c2, iv k2, iv b2, iv t2, iv kd, rv p2, rv q1, rv ct, .unset, .unset] []) (fun _ k => XS.icmpNo X212.here hx rfl (hb hby at_198) rfl (teq hj214).2 k) ?_
                refine own_s (mkF m 203 #[iv aa, iv bb, iv sx, iv ddd, iv ee, iv md, iv c1, iv k1, iv b1, iv t1, iv c2, iv k2, iv b2, iv t2, iv kd, rv p2, rv q1, rv ct, .unset, .unset] [(.int k1)]) (fun _ k => XS.iload X212.here hx rfl (hb hby at_201) rfl k) ?_
                refine own_s (mkF m 205 #[iv aa, iv bb, iv sx, iv ddd, iv ee, iv md, iv c1, iv k1, iv b1, iv t1, iv c2, iv k2, iv b2, iv t2, iv kd, rv p2, rv q1, rv ct, .unset, .unset] [(.int k2), (.int k1)]) (fun _ k => XS.iload X212.here hx rfl (hb hby at_203) rfl k) ?_
                by_cases hj215 : k1 = k2
                ·
                  refine own_s (mkF m 208 #[iv aa, iv bb, iv sx, iv ddd, iv ee, iv md, iv c1, iv k1, iv b1, iv t1, iv c2, iv k2, iv b2, iv t2, iv kd, rv p2, rv q1, rv ct, .unset, .unset] []) (fun _ k => XS.icmpNo X212.here hx rfl (hb hby at_205) rfl (teq hj215).2 k) ?_
                  refine own_s (mkF m 210 #[iv aa, iv bb, iv sx, iv ddd, iv ee, iv md, iv c1, iv k1, iv b1, iv t1, iv c2, iv k2, iv b2, iv t2, iv kd, rv p2, rv q1, rv ct, .unset, .unset] [(.int b1)]) (fun _ k => XS.iload X212.here hx rfl (hb hby at_208) rfl k) ?_
                  refine own_s (mkF m 212 #[iv aa, iv bb, iv sx, iv ddd, iv ee, iv md, iv c1, iv k1, iv b1, iv t1, iv c2, iv k2, iv b2, iv t2, iv kd, rv p2, rv q1, rv ct, .unset, .unset] [(.int b2), (.int b1)]) (fun _ k => XS.iload X212.here hx rfl (hb hby at_210) rfl k) ?_
                  by_cases hj216 : b1 = b2
                  ·
                    refine own_s (mkF m 215 #[iv aa, iv bb, iv sx, iv ddd, iv ee, iv md, iv c1, iv k1, iv b1, iv t1, iv c2, iv k2, iv b2, iv t2, iv kd, rv p2, rv q1, rv ct, .unset, .unset] []) (fun _ k => XS.icmpNo X212.here hx rfl (hb hby at_212) rfl (teq hj216).2 k) ?_
                    refine own_s (mkF m 217 #[iv aa, iv bb, iv sx, iv ddd, iv ee, iv md, iv c1, iv k1, iv b1, iv t1, iv c2, iv k2, iv b2, iv t2, iv kd, rv p2, rv q1, rv ct, .unset, .unset] [(.int b1)]) (fun _ k => XS.iload X212.here hx rfl (hb hby at_215) rfl k) ?_
                    by_cases hj217 : b1 = (0 : Int32)
                    ·
                      refine own_s (mkF m 227 #[iv aa, iv bb, iv sx, iv ddd, iv ee, iv md, iv c1, iv k1, iv b1, iv t1, iv c2, iv k2, iv b2, iv t2, iv kd, rv p2, rv q1, rv ct, .unset, .unset] []) (fun _ k => XS.ifYes X212.here hx rfl (pc0 := 217) (pc' := 227) rfl (hb hby at_217) rfl ((if0 _ _).trans (teq hj217).1) (by decide) (by decide) k) ?_
                      refine own_s (mkF m 228 #[iv aa, iv bb, iv sx, iv ddd, iv ee, iv md, iv c1, iv k1, iv b1, iv t1, iv c2, iv k2, iv b2, iv t2, iv kd, rv p2, rv q1, rv ct, .unset, .unset] [(.int 1)]) (fun _ k => XS.iconst X212.here hx rfl (hb hby at_227) k) ?_
                      refine own_s (mkF m 232 #[iv aa, iv bb, iv sx, iv ddd, iv ee, iv md, iv c1, iv k1, iv b1, iv t1, iv c2, iv k2, iv b2, iv t2, iv kd, rv p2, rv q1, rv ct, .unset, .unset] [(.int 1)]) (fun _ k => XS.goto X212.here hx rfl (pc0 := 228) (pc' := 232) rfl (hb hby at_228) (by decide) (by decide) k) ?_
                      rw [show xx = (1 : Int32) from by rw [h_xx, if_pos hj213, if_pos hj214, if_pos hj215, if_pos hj216, if_pos hj217]] at k
                      exact k
                    ·
                      refine own_s (mkF m 220 #[iv aa, iv bb, iv sx, iv ddd, iv ee, iv md, iv c1, iv k1, iv b1, iv t1, iv c2, iv k2, iv b2, iv t2, iv kd, rv p2, rv q1, rv ct, .unset, .unset] []) (fun _ k => XS.ifNo X212.here hx rfl (hb hby at_217) rfl ((if0 _ _).trans (feq hj217).1) k) ?_
                      refine own_s (mkF m 222 #[iv aa, iv bb, iv sx, iv ddd, iv ee, iv md, iv c1, iv k1, iv b1, iv t1, iv c2, iv k2, iv b2, iv t2, iv kd, rv p2, rv q1, rv ct, .unset, .unset] [(.int t1)]) (fun _ k => XS.iload X212.here hx rfl (hb hby at_220) rfl k) ?_
                      refine own_s (mkF m 224 #[iv aa, iv bb, iv sx, iv ddd, iv ee, iv md, iv c1, iv k1, iv b1, iv t1, iv c2, iv k2, iv b2, iv t2, iv kd, rv p2, rv q1, rv ct, .unset, .unset] [(.int t2), (.int t1)]) (fun _ k => XS.iload X212.here hx rfl (hb hby at_222) rfl k) ?_
                      by_cases hj218 : t1 = t2
                      ·
                        refine own_s (mkF m 227 #[iv aa, iv bb, iv sx, iv ddd, iv ee, iv md, iv c1, iv k1, iv b1, iv t1, iv c2, iv k2, iv b2, iv t2, iv kd, rv p2, rv q1, rv ct, .unset, .unset] []) (fun _ k => XS.icmpNo X212.here hx rfl (hb hby at_224) rfl (teq hj218).2 k) ?_
                        refine own_s (mkF m 228 #[iv aa, iv bb, iv sx, iv ddd, iv ee, iv md, iv c1, iv k1, iv b1, iv t1, iv c2, iv k2, iv b2, iv t2, iv kd, rv p2, rv q1, rv ct, .unset, .unset] [(.int 1)]) (fun _ k => XS.iconst X212.here hx rfl (hb hby at_227) k) ?_
                        refine own_s (mkF m 232 #[iv aa, iv bb, iv sx, iv ddd, iv ee, iv md, iv c1, iv k1, iv b1, iv t1, iv c2, iv k2, iv b2, iv t2, iv kd, rv p2, rv q1, rv ct, .unset, .unset] [(.int 1)]) (fun _ k => XS.goto X212.here hx rfl (pc0 := 228) (pc' := 232) rfl (hb hby at_228) (by decide) (by decide) k) ?_
                        rw [show xx = (1 : Int32) from by rw [h_xx, if_pos hj213, if_pos hj214, if_pos hj215, if_pos hj216, if_neg hj217, if_pos hj218]] at k
                        exact k
                      ·
                        refine own_s (mkF m 231 #[iv aa, iv bb, iv sx, iv ddd, iv ee, iv md, iv c1, iv k1, iv b1, iv t1, iv c2, iv k2, iv b2, iv t2, iv kd, rv p2, rv q1, rv ct, .unset, .unset] []) (fun _ k => XS.icmpYes X212.here hx rfl (pc0 := 224) (pc' := 231) rfl (hb hby at_224) rfl (feq hj218).2 (by decide) (by decide) k) ?_
                        refine own_s (mkF m 232 #[iv aa, iv bb, iv sx, iv ddd, iv ee, iv md, iv c1, iv k1, iv b1, iv t1, iv c2, iv k2, iv b2, iv t2, iv kd, rv p2, rv q1, rv ct, .unset, .unset] [(.int 0)]) (fun _ k => XS.iconst X212.here hx rfl (hb hby at_231) k) ?_
                        rw [show xx = (0 : Int32) from by rw [h_xx, if_pos hj213, if_pos hj214, if_pos hj215, if_pos hj216, if_neg hj217, if_neg hj218]] at k
                        exact k
                  ·
                    refine own_s (mkF m 231 #[iv aa, iv bb, iv sx, iv ddd, iv ee, iv md, iv c1, iv k1, iv b1, iv t1, iv c2, iv k2, iv b2, iv t2, iv kd, rv p2, rv q1, rv ct, .unset, .unset] []) (fun _ k => XS.icmpYes X212.here hx rfl (pc0 := 212) (pc' := 231) rfl (hb hby at_212) rfl (feq hj216).2 (by decide) (by decide) k) ?_
                    refine own_s (mkF m 232 #[iv aa, iv bb, iv sx, iv ddd, iv ee, iv md, iv c1, iv k1, iv b1, iv t1, iv c2, iv k2, iv b2, iv t2, iv kd, rv p2, rv q1, rv ct, .unset, .unset] [(.int 0)]) (fun _ k => XS.iconst X212.here hx rfl (hb hby at_231) k) ?_
                    rw [show xx = (0 : Int32) from by rw [h_xx, if_pos hj213, if_pos hj214, if_pos hj215, if_neg hj216]] at k
                    exact k
                ·
                  refine own_s (mkF m 231 #[iv aa, iv bb, iv sx, iv ddd, iv ee, iv md, iv c1, iv k1, iv b1, iv t1, iv c2, iv k2, iv b2, iv t2, iv kd, rv p2, rv q1, rv ct, .unset, .unset] []) (fun _ k => XS.icmpYes X212.here hx rfl (pc0 := 205) (pc' := 231) rfl (hb hby at_205) rfl (feq hj215).2 (by decide) (by decide) k) ?_
                  refine own_s (mkF m 232 #[iv aa, iv bb, iv sx, iv ddd, iv ee, iv md, iv c1, iv k1, iv b1, iv t1, iv c2, iv k2, iv b2, iv t2, iv kd, rv p2, rv q1, rv ct, .unset, .unset] [(.int 0)]) (fun _ k => XS.iconst X212.here hx rfl (hb hby at_231) k) ?_
                  rw [show xx = (0 : Int32) from by rw [h_xx, if_pos hj213, if_pos hj214, if_neg hj215]] at k
                  exact k
              ·
                refine own_s (mkF m 231 #[iv aa, iv bb, iv sx, iv ddd, iv ee, iv md, iv c1, iv k1, iv b1, iv t1, iv c2, iv k2, iv b2, iv t2, iv kd, rv p2, rv q1, rv ct, .unset, .unset] []) (fun _ k => XS.icmpYes X212.here hx rfl (pc0 := 198) (pc' := 231) rfl (hb hby at_198) rfl (feq hj214).2 (by decide) (by decide) k) ?_
                refine own_s (mkF m 232 #[iv aa, iv bb, iv sx, iv ddd, iv ee, iv md, iv c1, iv k1, iv b1, iv t1, iv c2, iv k2, iv b2, iv t2, iv kd, rv p2, rv q1, rv ct, .unset, .unset] [(.int 0)]) (fun _ k => XS.iconst X212.here hx rfl (hb hby at_231) k) ?_
                rw [show xx = (0 : Int32) from by rw [h_xx, if_pos hj213, if_neg hj214]] at k
                exact k
            ·
              refine own_s (mkF m 231 #[iv aa, iv bb, iv sx, iv ddd, iv ee, iv md, iv c1, iv k1, iv b1, iv t1, iv c2, iv k2, iv b2, iv t2, iv kd, rv p2, rv q1, rv ct, .unset, .unset] []) (fun _ k => XS.icmpYes X212.here hx rfl (pc0 := 191) (pc' := 231) rfl (hb hby at_191) rfl (flt hj213).2.1 (by decide) (by decide) k) ?_
              refine own_s (mkF m 232 #[iv aa, iv bb, iv sx, iv ddd, iv ee, iv md, iv c1, iv k1, iv b1, iv t1, iv c2, iv k2, iv b2, iv t2, iv kd, rv p2, rv q1, rv ct, .unset, .unset] [(.int 0)]) (fun _ k => XS.iconst X212.here hx rfl (hb hby at_231) k) ?_
              rw [show xx = (0 : Int32) from by rw [h_xx, if_neg hj213]] at k
              exact k
          refine own_S (mkF m 234 #[iv aa, iv bb, iv sx, iv ddd, iv ee, iv md, iv c1, iv k1, iv b1, iv t1, iv c2, iv k2, iv b2, iv t2, iv kd, rv p2, rv q1, rv ct, iv xx, .unset] []) (fun _ k => XS.istore X212.here hx rfl (hb hby at_232) rfl (l' := #[iv aa, iv bb, iv sx, iv ddd, iv ee, iv md, iv c1, iv k1, iv b1, iv t1, iv c2, iv k2, iv b2, iv t2, iv kd, rv p2, rv q1, rv ct, iv xx, .unset]) rfl k) ?_
          refine own_S (mkF m 236 #[iv aa, iv bb, iv sx, iv ddd, iv ee, iv md, iv c1, iv k1, iv b1, iv t1, iv c2, iv k2, iv b2, iv t2, iv kd, rv p2, rv q1, rv ct, iv xx, .unset] [(.ref p2)]) (fun _ k => XS.aload X212.here hx rfl (hb hby at_234) rfl rfl k) ?_
          refine own_S (mkF m 238 #[iv aa, iv bb, iv sx, iv ddd, iv ee, iv md, iv c1, iv k1, iv b1, iv t1, iv c2, iv k2, iv b2, iv t2, iv kd, rv p2, rv q1, rv ct, iv xx, .unset] [(.ref ct), (.ref p2)]) (fun _ k => XS.aload X212.here hx rfl (hb hby at_236) rfl rfl k) ?_
          obtain ⟨cq219, kq219, q219a, q219b, q219c⟩ := isOf hZ e212 F197
          obtain ⟨_, _, ⟨T219, L219, k219, n219⟩, -, X219, ⟨Lc219, hQ219, l219, y219, z219⟩, st219⟩ := X212.virtualBack hx (y := own_y4) (z := own_y4) hown (mvT hZ (own_g hw (i := 34) rfl)) (mvT hZ (own_g hw (i := 35) rfl)) (notFace_of_selects (args := #[]) (mvT hZ (own_g hw (i := 37) rfl))) (mvT hZ (own_g hw (i := 37) rfl)) (mvT hZ (own_g hw (i := 36) rfl)) (by decide) (backOf (W := 0) (own_rmec l Z a0 hw [] (p2) (ct) T182.heap n0 Z182 F190) hZ (own_g hw (i := 38) rfl) (own_g hw (i := 3) rfl) (by decide) (by decide)) q219a q219c (g := (mkF m 238 #[iv aa, iv bb, iv sx, iv ddd, iv ee, iv md, iv c1, iv k1, iv b1, iv t1, iv c2, iv k2, iv b2, iv t2, iv kd, rv p2, rv q1, rv ct, iv xx, .unset] [(.ref ct), (.ref p2)])) rfl (by rw [hml]; rfl) (Steps.refl _) (argsL := [(.ref ct)]) (rest := []) (lenOf own_pd__Ljava_lang_Object__Z rfl) rfl (by show 2 * 0 + _ ≤ _; exact Nat.le_of_eq rfl) (hb hby at_238) (fun _ _ => ⟨rfl, e212, (by decide : 3 + 0 ≤ _), (by decide : 15 + 0 ≤ _)⟩)
          dsimp only [Pt.U, Pt.locs, Pt.cells, Pt.slots] at X219 l219 y219 z219 st219 hQ219
          subst l219 y219 z219
          obtain ⟨rfl, N219q, e219⟩ := hQ219
          have N219 := Fr.app N182 N219q
          refine own_S (mkF m 241 #[iv aa, iv bb, iv sx, iv ddd, iv ee, iv md, iv c1, iv k1, iv b1, iv t1, iv c2, iv k2, iv b2, iv t2, iv kd, rv p2, rv q1, rv ct, iv xx, .unset] [(.int 0)]) (fun _ k => st219.trans k) ?_
          refine own_S (mkF m 243 #[iv aa, iv bb, iv sx, iv ddd, iv ee, iv md, iv c1, iv k1, iv b1, iv t1, iv c2, iv k2, iv b2, iv t2, iv kd, rv p2, rv q1, rv ct, iv xx, .unset] [(.int xx), (.int 0)]) (fun _ k => XS.iload X219.here hx rfl (hb hby at_241) rfl k) ?_
          obtain ⟨ok, h_ok⟩ : ∃ z : Int32, z = (if (0 : Int32) = xx then (1 : Int32) else (0 : Int32)) := ⟨_, rfl⟩
          refine own_S (T' := T219) (mkF m 251 #[iv aa, iv bb, iv sx, iv ddd, iv ee, iv md, iv c1, iv k1, iv b1, iv t1, iv c2, iv k2, iv b2, iv t2, iv kd, rv p2, rv q1, rv ct, iv xx, .unset] [(.int ok)]) (fun _ k => ?_) ?_
          ·
            by_cases hj220 : (0 : Int32) = xx
            ·
              refine own_s (mkF m 246 #[iv aa, iv bb, iv sx, iv ddd, iv ee, iv md, iv c1, iv k1, iv b1, iv t1, iv c2, iv k2, iv b2, iv t2, iv kd, rv p2, rv q1, rv ct, iv xx, .unset] []) (fun _ k => XS.icmpNo X219.here hx rfl (hb hby at_243) rfl (teq hj220).2 k) ?_
              refine own_s (mkF m 247 #[iv aa, iv bb, iv sx, iv ddd, iv ee, iv md, iv c1, iv k1, iv b1, iv t1, iv c2, iv k2, iv b2, iv t2, iv kd, rv p2, rv q1, rv ct, iv xx, .unset] [(.int 1)]) (fun _ k => XS.iconst X219.here hx rfl (hb hby at_246) k) ?_
              refine own_s (mkF m 251 #[iv aa, iv bb, iv sx, iv ddd, iv ee, iv md, iv c1, iv k1, iv b1, iv t1, iv c2, iv k2, iv b2, iv t2, iv kd, rv p2, rv q1, rv ct, iv xx, .unset] [(.int 1)]) (fun _ k => XS.goto X219.here hx rfl (pc0 := 247) (pc' := 251) rfl (hb hby at_247) (by decide) (by decide) k) ?_
              rw [show ok = (1 : Int32) from by rw [h_ok, if_pos hj220]] at k
              exact k
            ·
              refine own_s (mkF m 250 #[iv aa, iv bb, iv sx, iv ddd, iv ee, iv md, iv c1, iv k1, iv b1, iv t1, iv c2, iv k2, iv b2, iv t2, iv kd, rv p2, rv q1, rv ct, iv xx, .unset] []) (fun _ k => XS.icmpYes X219.here hx rfl (pc0 := 243) (pc' := 250) rfl (hb hby at_243) rfl (feq hj220).2 (by decide) (by decide) k) ?_
              refine own_s (mkF m 251 #[iv aa, iv bb, iv sx, iv ddd, iv ee, iv md, iv c1, iv k1, iv b1, iv t1, iv c2, iv k2, iv b2, iv t2, iv kd, rv p2, rv q1, rv ct, iv xx, .unset] [(.int 0)]) (fun _ k => XS.iconst X219.here hx rfl (hb hby at_250) k) ?_
              rw [show ok = (0 : Int32) from by rw [h_ok, if_neg hj220]] at k
              exact k
          refine own_S (mkF m 253 #[iv aa, iv bb, iv sx, iv ddd, iv ee, iv md, iv c1, iv k1, iv b1, iv t1, iv c2, iv k2, iv b2, iv t2, iv kd, rv p2, rv q1, rv ct, iv xx, iv ok] []) (fun _ k => XS.istore X219.here hx rfl (hb hby at_251) rfl (l' := #[iv aa, iv bb, iv sx, iv ddd, iv ee, iv md, iv c1, iv k1, iv b1, iv t1, iv c2, iv k2, iv b2, iv t2, iv kd, rv p2, rv q1, rv ct, iv xx, iv ok]) rfl k) ?_
          refine own_S (mkF m 255 #[iv aa, iv bb, iv sx, iv ddd, iv ee, iv md, iv c1, iv k1, iv b1, iv t1, iv c2, iv k2, iv b2, iv t2, iv kd, rv p2, rv q1, rv ct, iv xx, iv ok] [(.int kd)]) (fun _ k => XS.iload X219.here hx rfl (hb hby at_253) rfl k) ?_
          refine own_S (mkF m 256 #[iv aa, iv bb, iv sx, iv ddd, iv ee, iv md, iv c1, iv k1, iv b1, iv t1, iv c2, iv k2, iv b2, iv t2, iv kd, rv p2, rv q1, rv ct, iv xx, iv ok] [(.int 2), (.int kd)]) (fun _ k => XS.iconst X219.here hx rfl (hb hby at_255) k) ?_
          have hc221 : ¬ (kd < (2 : Int32)) := (by rw [hk3]; decide)
          refine own_S (mkF m 283 #[iv aa, iv bb, iv sx, iv ddd, iv ee, iv md, iv c1, iv k1, iv b1, iv t1, iv c2, iv k2, iv b2, iv t2, iv kd, rv p2, rv q1, rv ct, iv xx, iv ok] []) (fun _ k => XS.icmpYes X219.here hx rfl (pc0 := 256) (pc' := 283) rfl (hb hby at_256) rfl (flt hc221).2.1 (by decide) (by decide) k) ?_
          refine own_S (mkF m 285 #[iv aa, iv bb, iv sx, iv ddd, iv ee, iv md, iv c1, iv k1, iv b1, iv t1, iv c2, iv k2, iv b2, iv t2, iv kd, rv p2, rv q1, rv ct, iv xx, iv ok] [(.int ok)]) (fun _ k => XS.iload X219.here hx rfl (hb hby at_283) rfl k) ?_
          exact own_retN X219 hx hlk (t := .boolean) hret (by simp) (hb hby at_285) (by rw [e219]; exact ⟨(by rw [h_ok, h_xx, if_neg (show ¬ kd < (2 : Int32) by rw [hk3]; decide), if_pos rfl]; rfl), N219, trivial⟩) (by decide) (by decide)
        · -- not kd = (3 : Int32)
          refine own_S (mkF m 184 #[iv aa, iv bb, iv sx, iv ddd, iv ee, iv md, iv c1, iv k1, iv b1, iv t1, iv c2, iv k2, iv b2, iv t2, iv kd, rv p2, rv q1, .unset, .unset, .unset] []) (fun _ k => XS.icmpYes X182.here hx rfl (pc0 := 173) (pc' := 184) rfl (hb hby at_173) rfl (feq hk3).2 (by decide) (by decide) k) ?_
          refine own_S (mkF m 186 #[iv aa, iv bb, iv sx, iv ddd, iv ee, iv md, iv c1, iv k1, iv b1, iv t1, iv c2, iv k2, iv b2, iv t2, iv kd, rv p2, rv q1, .unset, .unset, .unset] [(.ref q1)]) (fun _ k => XS.aload X182.here hx rfl (hb hby at_184) rfl rfl k) ?_
          refine own_S (mkF m 188 #[iv aa, iv bb, iv sx, iv ddd, iv ee, iv md, iv c1, iv k1, iv b1, iv t1, iv c2, iv k2, iv b2, iv t2, iv kd, rv p2, rv q1, rv q1, .unset, .unset] []) (fun _ k => XS.astore X182.here hx rfl (hb hby at_186) rfl rfl (l' := #[iv aa, iv bb, iv sx, iv ddd, iv ee, iv md, iv c1, iv k1, iv b1, iv t1, iv c2, iv k2, iv b2, iv t2, iv kd, rv p2, rv q1, rv q1, .unset, .unset]) rfl k) ?_
          refine own_S (mkF m 190 #[iv aa, iv bb, iv sx, iv ddd, iv ee, iv md, iv c1, iv k1, iv b1, iv t1, iv c2, iv k2, iv b2, iv t2, iv kd, rv p2, rv q1, rv q1, .unset, .unset] [(.int kd)]) (fun _ k => XS.iload X182.here hx rfl (hb hby at_188) rfl k) ?_
          refine own_S (mkF m 191 #[iv aa, iv bb, iv sx, iv ddd, iv ee, iv md, iv c1, iv k1, iv b1, iv t1, iv c2, iv k2, iv b2, iv t2, iv kd, rv p2, rv q1, rv q1, .unset, .unset] [(.int 2), (.int kd)]) (fun _ k => XS.iconst X182.here hx rfl (hb hby at_190) k) ?_
          obtain ⟨xx, h_xx⟩ : ∃ z : Int32, z = (if kd < (2 : Int32) then (if c1 = c2 then (if k1 = k2 then (if b1 = b2 then (if b1 = (0 : Int32) then (1 : Int32) else (if t1 = t2 then (1 : Int32) else (0 : Int32))) else (0 : Int32)) else (0 : Int32)) else (0 : Int32)) else (0 : Int32)) := ⟨_, rfl⟩
          refine own_S (T' := T182) (mkF m 232 #[iv aa, iv bb, iv sx, iv ddd, iv ee, iv md, iv c1, iv k1, iv b1, iv t1, iv c2, iv k2, iv b2, iv t2, iv kd, rv p2, rv q1, rv q1, .unset, .unset] [(.int xx)]) (fun _ k => ?_) ?_
          ·
            by_cases hj222 : kd < (2 : Int32)
            ·
              refine own_s (mkF m 194 #[iv aa, iv bb, iv sx, iv ddd, iv ee, iv md, iv c1, iv k1, iv b1, iv t1, iv c2, iv k2, iv b2, iv t2, iv kd, rv p2, rv q1, rv q1, .unset, .unset] []) (fun _ k => XS.icmpNo X182.here hx rfl (hb hby at_191) rfl (tlt hj222).2.1 k) ?_
              refine own_s (mkF m 196 #[iv aa, iv bb, iv sx, iv ddd, iv ee, iv md, iv c1, iv k1, iv b1, iv t1, iv c2, iv k2, iv b2, iv t2, iv kd, rv p2, rv q1, rv q1, .unset, .unset] [(.int c1)]) (fun _ k => XS.iload X182.here hx rfl (hb hby at_194) rfl k) ?_
              refine own_s (mkF m 198 #[iv aa, iv bb, iv sx, iv ddd, iv ee, iv md, iv c1, iv k1, iv b1, iv t1, iv c2, iv k2, iv b2, iv t2, iv kd, rv p2, rv q1, rv q1, .unset, .unset] [(.int c2), (.int c1)]) (fun _ k => XS.iload X182.here hx rfl (hb hby at_196) rfl k) ?_
              by_cases hj223 : c1 = c2
              ·
                refine own_s (mkF m 201 #[iv aa, iv bb, iv sx, iv ddd, iv ee, iv md, iv c1, iv k1, iv b1, iv t1, iv c2, iv k2, iv b2, iv t2, iv kd, rv p2, rv q1, rv q1, .unset, .unset] []) (fun _ k => XS.icmpNo X182.here hx rfl (hb hby at_198) rfl (teq hj223).2 k) ?_
                refine own_s (mkF m 203 #[iv aa, iv bb, iv sx, iv ddd, iv ee, iv md, iv c1, iv k1, iv b1, iv t1, iv c2, iv k2, iv b2, iv t2, iv kd, rv p2, rv q1, rv q1, .unset, .unset] [(.int k1)]) (fun _ k => XS.iload X182.here hx rfl (hb hby at_201) rfl k) ?_
                refine own_s (mkF m 205 #[iv aa, iv bb, iv sx, iv ddd, iv ee, iv md, iv c1, iv k1, iv b1, iv t1, iv c2, iv k2, iv b2, iv t2, iv kd, rv p2, rv q1, rv q1, .unset, .unset] [(.int k2), (.int k1)]) (fun _ k => XS.iload X182.here hx rfl (hb hby at_203) rfl k) ?_
                by_cases hj224 : k1 = k2
                ·
                  refine own_s (mkF m 208 #[iv aa, iv bb, iv sx, iv ddd, iv ee, iv md, iv c1, iv k1, iv b1, iv t1, iv c2, iv k2, iv b2, iv t2, iv kd, rv p2, rv q1, rv q1, .unset, .unset] []) (fun _ k => XS.icmpNo X182.here hx rfl (hb hby at_205) rfl (teq hj224).2 k) ?_
                  refine own_s (mkF m 210 #[iv aa, iv bb, iv sx, iv ddd, iv ee, iv md, iv c1, iv k1, iv b1, iv t1, iv c2, iv k2, iv b2, iv t2, iv kd, rv p2, rv q1, rv q1, .unset, .unset] [(.int b1)]) (fun _ k => XS.iload X182.here hx rfl (hb hby at_208) rfl k) ?_
                  refine own_s (mkF m 212 #[iv aa, iv bb, iv sx, iv ddd, iv ee, iv md, iv c1, iv k1, iv b1, iv t1, iv c2, iv k2, iv b2, iv t2, iv kd, rv p2, rv q1, rv q1, .unset, .unset] [(.int b2), (.int b1)]) (fun _ k => XS.iload X182.here hx rfl (hb hby at_210) rfl k) ?_
                  by_cases hj225 : b1 = b2
                  ·
                    refine own_s (mkF m 215 #[iv aa, iv bb, iv sx, iv ddd, iv ee, iv md, iv c1, iv k1, iv b1, iv t1, iv c2, iv k2, iv b2, iv t2, iv kd, rv p2, rv q1, rv q1, .unset, .unset] []) (fun _ k => XS.icmpNo X182.here hx rfl (hb hby at_212) rfl (teq hj225).2 k) ?_
                    refine own_s (mkF m 217 #[iv aa, iv bb, iv sx, iv ddd, iv ee, iv md, iv c1, iv k1, iv b1, iv t1, iv c2, iv k2, iv b2, iv t2, iv kd, rv p2, rv q1, rv q1, .unset, .unset] [(.int b1)]) (fun _ k => XS.iload X182.here hx rfl (hb hby at_215) rfl k) ?_
                    by_cases hj226 : b1 = (0 : Int32)
                    ·
                      refine own_s (mkF m 227 #[iv aa, iv bb, iv sx, iv ddd, iv ee, iv md, iv c1, iv k1, iv b1, iv t1, iv c2, iv k2, iv b2, iv t2, iv kd, rv p2, rv q1, rv q1, .unset, .unset] []) (fun _ k => XS.ifYes X182.here hx rfl (pc0 := 217) (pc' := 227) rfl (hb hby at_217) rfl ((if0 _ _).trans (teq hj226).1) (by decide) (by decide) k) ?_
                      refine own_s (mkF m 228 #[iv aa, iv bb, iv sx, iv ddd, iv ee, iv md, iv c1, iv k1, iv b1, iv t1, iv c2, iv k2, iv b2, iv t2, iv kd, rv p2, rv q1, rv q1, .unset, .unset] [(.int 1)]) (fun _ k => XS.iconst X182.here hx rfl (hb hby at_227) k) ?_
                      refine own_s (mkF m 232 #[iv aa, iv bb, iv sx, iv ddd, iv ee, iv md, iv c1, iv k1, iv b1, iv t1, iv c2, iv k2, iv b2, iv t2, iv kd, rv p2, rv q1, rv q1, .unset, .unset] [(.int 1)]) (fun _ k => XS.goto X182.here hx rfl (pc0 := 228) (pc' := 232) rfl (hb hby at_228) (by decide) (by decide) k) ?_
                      rw [show xx = (1 : Int32) from by rw [h_xx, if_pos hj222, if_pos hj223, if_pos hj224, if_pos hj225, if_pos hj226]] at k
                      exact k
                    ·
                      refine own_s (mkF m 220 #[iv aa, iv bb, iv sx, iv ddd, iv ee, iv md, iv c1, iv k1, iv b1, iv t1, iv c2, iv k2, iv b2, iv t2, iv kd, rv p2, rv q1, rv q1, .unset, .unset] []) (fun _ k => XS.ifNo X182.here hx rfl (hb hby at_217) rfl ((if0 _ _).trans (feq hj226).1) k) ?_
                      refine own_s (mkF m 222 #[iv aa, iv bb, iv sx, iv ddd, iv ee, iv md, iv c1, iv k1, iv b1, iv t1, iv c2, iv k2, iv b2, iv t2, iv kd, rv p2, rv q1, rv q1, .unset, .unset] [(.int t1)]) (fun _ k => XS.iload X182.here hx rfl (hb hby at_220) rfl k) ?_
                      refine own_s (mkF m 224 #[iv aa, iv bb, iv sx, iv ddd, iv ee, iv md, iv c1, iv k1, iv b1, iv t1, iv c2, iv k2, iv b2, iv t2, iv kd, rv p2, rv q1, rv q1, .unset, .unset] [(.int t2), (.int t1)]) (fun _ k => XS.iload X182.here hx rfl (hb hby at_222) rfl k) ?_
                      by_cases hj227 : t1 = t2
                      ·
                        refine own_s (mkF m 227 #[iv aa, iv bb, iv sx, iv ddd, iv ee, iv md, iv c1, iv k1, iv b1, iv t1, iv c2, iv k2, iv b2, iv t2, iv kd, rv p2, rv q1, rv q1, .unset, .unset] []) (fun _ k => XS.icmpNo X182.here hx rfl (hb hby at_224) rfl (teq hj227).2 k) ?_
                        refine own_s (mkF m 228 #[iv aa, iv bb, iv sx, iv ddd, iv ee, iv md, iv c1, iv k1, iv b1, iv t1, iv c2, iv k2, iv b2, iv t2, iv kd, rv p2, rv q1, rv q1, .unset, .unset] [(.int 1)]) (fun _ k => XS.iconst X182.here hx rfl (hb hby at_227) k) ?_
                        refine own_s (mkF m 232 #[iv aa, iv bb, iv sx, iv ddd, iv ee, iv md, iv c1, iv k1, iv b1, iv t1, iv c2, iv k2, iv b2, iv t2, iv kd, rv p2, rv q1, rv q1, .unset, .unset] [(.int 1)]) (fun _ k => XS.goto X182.here hx rfl (pc0 := 228) (pc' := 232) rfl (hb hby at_228) (by decide) (by decide) k) ?_
                        rw [show xx = (1 : Int32) from by rw [h_xx, if_pos hj222, if_pos hj223, if_pos hj224, if_pos hj225, if_neg hj226, if_pos hj227]] at k
                        exact k
                      ·
                        refine own_s (mkF m 231 #[iv aa, iv bb, iv sx, iv ddd, iv ee, iv md, iv c1, iv k1, iv b1, iv t1, iv c2, iv k2, iv b2, iv t2, iv kd, rv p2, rv q1, rv q1, .unset, .unset] []) (fun _ k => XS.icmpYes X182.here hx rfl (pc0 := 224) (pc' := 231) rfl (hb hby at_224) rfl (feq hj227).2 (by decide) (by decide) k) ?_
                        refine own_s (mkF m 232 #[iv aa, iv bb, iv sx, iv ddd, iv ee, iv md, iv c1, iv k1, iv b1, iv t1, iv c2, iv k2, iv b2, iv t2, iv kd, rv p2, rv q1, rv q1, .unset, .unset] [(.int 0)]) (fun _ k => XS.iconst X182.here hx rfl (hb hby at_231) k) ?_
                        rw [show xx = (0 : Int32) from by rw [h_xx, if_pos hj222, if_pos hj223, if_pos hj224, if_pos hj225, if_neg hj226, if_neg hj227]] at k
                        exact k
                  ·
                    refine own_s (mkF m 231 #[iv aa, iv bb, iv sx, iv ddd, iv ee, iv md, iv c1, iv k1, iv b1, iv t1, iv c2, iv k2, iv b2, iv t2, iv kd, rv p2, rv q1, rv q1, .unset, .unset] []) (fun _ k => XS.icmpYes X182.here hx rfl (pc0 := 212) (pc' := 231) rfl (hb hby at_212) rfl (feq hj225).2 (by decide) (by decide) k) ?_
                    refine own_s (mkF m 232 #[iv aa, iv bb, iv sx, iv ddd, iv ee, iv md, iv c1, iv k1, iv b1, iv t1, iv c2, iv k2, iv b2, iv t2, iv kd, rv p2, rv q1, rv q1, .unset, .unset] [(.int 0)]) (fun _ k => XS.iconst X182.here hx rfl (hb hby at_231) k) ?_
                    rw [show xx = (0 : Int32) from by rw [h_xx, if_pos hj222, if_pos hj223, if_pos hj224, if_neg hj225]] at k
                    exact k
                ·
                  refine own_s (mkF m 231 #[iv aa, iv bb, iv sx, iv ddd, iv ee, iv md, iv c1, iv k1, iv b1, iv t1, iv c2, iv k2, iv b2, iv t2, iv kd, rv p2, rv q1, rv q1, .unset, .unset] []) (fun _ k => XS.icmpYes X182.here hx rfl (pc0 := 205) (pc' := 231) rfl (hb hby at_205) rfl (feq hj224).2 (by decide) (by decide) k) ?_
                  refine own_s (mkF m 232 #[iv aa, iv bb, iv sx, iv ddd, iv ee, iv md, iv c1, iv k1, iv b1, iv t1, iv c2, iv k2, iv b2, iv t2, iv kd, rv p2, rv q1, rv q1, .unset, .unset] [(.int 0)]) (fun _ k => XS.iconst X182.here hx rfl (hb hby at_231) k) ?_
                  rw [show xx = (0 : Int32) from by rw [h_xx, if_pos hj222, if_pos hj223, if_neg hj224]] at k
                  exact k
              ·
                refine own_s (mkF m 231 #[iv aa, iv bb, iv sx, iv ddd, iv ee, iv md, iv c1, iv k1, iv b1, iv t1, iv c2, iv k2, iv b2, iv t2, iv kd, rv p2, rv q1, rv q1, .unset, .unset] []) (fun _ k => XS.icmpYes X182.here hx rfl (pc0 := 198) (pc' := 231) rfl (hb hby at_198) rfl (feq hj223).2 (by decide) (by decide) k) ?_
                refine own_s (mkF m 232 #[iv aa, iv bb, iv sx, iv ddd, iv ee, iv md, iv c1, iv k1, iv b1, iv t1, iv c2, iv k2, iv b2, iv t2, iv kd, rv p2, rv q1, rv q1, .unset, .unset] [(.int 0)]) (fun _ k => XS.iconst X182.here hx rfl (hb hby at_231) k) ?_
                rw [show xx = (0 : Int32) from by rw [h_xx, if_pos hj222, if_neg hj223]] at k
                exact k
            ·
              refine own_s (mkF m 231 #[iv aa, iv bb, iv sx, iv ddd, iv ee, iv md, iv c1, iv k1, iv b1, iv t1, iv c2, iv k2, iv b2, iv t2, iv kd, rv p2, rv q1, rv q1, .unset, .unset] []) (fun _ k => XS.icmpYes X182.here hx rfl (pc0 := 191) (pc' := 231) rfl (hb hby at_191) rfl (flt hj222).2.1 (by decide) (by decide) k) ?_
              refine own_s (mkF m 232 #[iv aa, iv bb, iv sx, iv ddd, iv ee, iv md, iv c1, iv k1, iv b1, iv t1, iv c2, iv k2, iv b2, iv t2, iv kd, rv p2, rv q1, rv q1, .unset, .unset] [(.int 0)]) (fun _ k => XS.iconst X182.here hx rfl (hb hby at_231) k) ?_
              rw [show xx = (0 : Int32) from by rw [h_xx, if_neg hj222]] at k
              exact k
          refine own_S (mkF m 234 #[iv aa, iv bb, iv sx, iv ddd, iv ee, iv md, iv c1, iv k1, iv b1, iv t1, iv c2, iv k2, iv b2, iv t2, iv kd, rv p2, rv q1, rv q1, iv xx, .unset] []) (fun _ k => XS.istore X182.here hx rfl (hb hby at_232) rfl (l' := #[iv aa, iv bb, iv sx, iv ddd, iv ee, iv md, iv c1, iv k1, iv b1, iv t1, iv c2, iv k2, iv b2, iv t2, iv kd, rv p2, rv q1, rv q1, iv xx, .unset]) rfl k) ?_
          refine own_S (mkF m 236 #[iv aa, iv bb, iv sx, iv ddd, iv ee, iv md, iv c1, iv k1, iv b1, iv t1, iv c2, iv k2, iv b2, iv t2, iv kd, rv p2, rv q1, rv q1, iv xx, .unset] [(.ref p2)]) (fun _ k => XS.aload X182.here hx rfl (hb hby at_234) rfl rfl k) ?_
          refine own_S (mkF m 238 #[iv aa, iv bb, iv sx, iv ddd, iv ee, iv md, iv c1, iv k1, iv b1, iv t1, iv c2, iv k2, iv b2, iv t2, iv kd, rv p2, rv q1, rv q1, iv xx, .unset] [(.ref q1), (.ref p2)]) (fun _ k => XS.aload X182.here hx rfl (hb hby at_236) rfl rfl k) ?_
          have hlt : kd < (2 : Int32) := by rcases o_kd with q | q | q | q; rw [q]; decide; rw [q]; decide; exact absurd q hk2; exact absurd q hk3
          obtain ⟨cq228, kq228, q228a, q228b, q228c⟩ := isOf hZ rfl F197
          obtain ⟨_, _, ⟨T228, L228, k228, n228⟩, -, X228, ⟨Lc228, hQ228, l228, y228, z228⟩, st228⟩ := X182.virtualBack hx (y := own_y4) (z := own_y4) hown (mvT hZ (own_g hw (i := 34) rfl)) (mvT hZ (own_g hw (i := 35) rfl)) (notFace_of_selects (args := #[]) (mvT hZ (own_g hw (i := 37) rfl))) (mvT hZ (own_g hw (i := 37) rfl)) (mvT hZ (own_g hw (i := 36) rfl)) (by decide) (backOf (W := 0) (own_rmeq l Z a0 hw [] (p2) (q1) (c1) (k1) (t1) (c2) (k2) ((-1 : Int32)) T182.heap n0 Z182 F183 F200 F201 F202 F186 F187 F188) hZ (own_g hw (i := 38) rfl) (own_g hw (i := 3) rfl) (by decide) (by decide)) q228a q228c (g := (mkF m 238 #[iv aa, iv bb, iv sx, iv ddd, iv ee, iv md, iv c1, iv k1, iv b1, iv t1, iv c2, iv k2, iv b2, iv t2, iv kd, rv p2, rv q1, rv q1, iv xx, .unset] [(.ref q1), (.ref p2)])) rfl (by rw [hml]; rfl) (Steps.refl _) (argsL := [(.ref q1)]) (rest := []) (lenOf own_pd__Ljava_lang_Object__Z rfl) rfl (by show 2 * 0 + _ ≤ _; exact Nat.le_of_eq rfl) (hb hby at_238) (fun _ _ => ⟨rfl, rfl, (by decide : 3 + 0 ≤ _), (by decide : 15 + 0 ≤ _)⟩)
          dsimp only [Pt.U, Pt.locs, Pt.cells, Pt.slots] at X228 l228 y228 z228 st228 hQ228
          subst l228 y228 z228
          obtain ⟨rfl, N228q, e228⟩ := hQ228
          have N228 := Fr.app N182 N228q
          refine own_S (mkF m 241 #[iv aa, iv bb, iv sx, iv ddd, iv ee, iv md, iv c1, iv k1, iv b1, iv t1, iv c2, iv k2, iv b2, iv t2, iv kd, rv p2, rv q1, rv q1, iv xx, .unset] [(.int (if c1 = c2 ∧ k1 = k2 ∧ t1 = (-1 : Int32) then (1 : Int32) else (0 : Int32)))]) (fun _ k => st228.trans k) ?_
          have hE : (if c1 = c2 ∧ k1 = k2 ∧ t1 = (-1 : Int32) then (1 : Int32) else (0 : Int32)) = xx := by rw [h_xx]; exact own_law _ _ _ _ _ _ _ _ _ _ _ hlt o_b1 o_b2 (by rw [if_neg hb1]) (by rw [if_pos hb2]) n_t1 n_t2
          have hE2 : (if c2 = c1 ∧ k2 = k1 ∧ (-1 : Int32) = t1 then (1 : Int32) else (0 : Int32)) = xx := by rw [← hE]; exact own_sym _ _ _ _ _ _
          refine own_S (mkF m 243 #[iv aa, iv bb, iv sx, iv ddd, iv ee, iv md, iv c1, iv k1, iv b1, iv t1, iv c2, iv k2, iv b2, iv t2, iv kd, rv p2, rv q1, rv q1, iv xx, .unset] [(.int xx), (.int (if c1 = c2 ∧ k1 = k2 ∧ t1 = (-1 : Int32) then (1 : Int32) else (0 : Int32)))]) (fun _ k => XS.iload X228.here hx rfl (hb hby at_241) rfl k) ?_
          obtain ⟨ok, h_ok⟩ : ∃ z : Int32, z = (if (if c1 = c2 ∧ k1 = k2 ∧ t1 = (-1 : Int32) then (1 : Int32) else (0 : Int32)) = xx then (1 : Int32) else (0 : Int32)) := ⟨_, rfl⟩
          refine own_S (T' := T228) (mkF m 251 #[iv aa, iv bb, iv sx, iv ddd, iv ee, iv md, iv c1, iv k1, iv b1, iv t1, iv c2, iv k2, iv b2, iv t2, iv kd, rv p2, rv q1, rv q1, iv xx, .unset] [(.int ok)]) (fun _ k => ?_) ?_
          ·
            by_cases hj229 : (if c1 = c2 ∧ k1 = k2 ∧ t1 = (-1 : Int32) then (1 : Int32) else (0 : Int32)) = xx
            ·
              refine own_s (mkF m 246 #[iv aa, iv bb, iv sx, iv ddd, iv ee, iv md, iv c1, iv k1, iv b1, iv t1, iv c2, iv k2, iv b2, iv t2, iv kd, rv p2, rv q1, rv q1, iv xx, .unset] []) (fun _ k => XS.icmpNo X228.here hx rfl (hb hby at_243) rfl (teq hj229).2 k) ?_
              refine own_s (mkF m 247 #[iv aa, iv bb, iv sx, iv ddd, iv ee, iv md, iv c1, iv k1, iv b1, iv t1, iv c2, iv k2, iv b2, iv t2, iv kd, rv p2, rv q1, rv q1, iv xx, .unset] [(.int 1)]) (fun _ k => XS.iconst X228.here hx rfl (hb hby at_246) k) ?_
              refine own_s (mkF m 251 #[iv aa, iv bb, iv sx, iv ddd, iv ee, iv md, iv c1, iv k1, iv b1, iv t1, iv c2, iv k2, iv b2, iv t2, iv kd, rv p2, rv q1, rv q1, iv xx, .unset] [(.int 1)]) (fun _ k => XS.goto X228.here hx rfl (pc0 := 247) (pc' := 251) rfl (hb hby at_247) (by decide) (by decide) k) ?_
              rw [show ok = (1 : Int32) from by rw [h_ok, if_pos hj229]] at k
              exact k
            ·
              refine own_s (mkF m 250 #[iv aa, iv bb, iv sx, iv ddd, iv ee, iv md, iv c1, iv k1, iv b1, iv t1, iv c2, iv k2, iv b2, iv t2, iv kd, rv p2, rv q1, rv q1, iv xx, .unset] []) (fun _ k => XS.icmpYes X228.here hx rfl (pc0 := 243) (pc' := 250) rfl (hb hby at_243) rfl (feq hj229).2 (by decide) (by decide) k) ?_
              refine own_s (mkF m 251 #[iv aa, iv bb, iv sx, iv ddd, iv ee, iv md, iv c1, iv k1, iv b1, iv t1, iv c2, iv k2, iv b2, iv t2, iv kd, rv p2, rv q1, rv q1, iv xx, .unset] [(.int 0)]) (fun _ k => XS.iconst X228.here hx rfl (hb hby at_250) k) ?_
              rw [show ok = (0 : Int32) from by rw [h_ok, if_neg hj229]] at k
              exact k
          refine own_S (mkF m 253 #[iv aa, iv bb, iv sx, iv ddd, iv ee, iv md, iv c1, iv k1, iv b1, iv t1, iv c2, iv k2, iv b2, iv t2, iv kd, rv p2, rv q1, rv q1, iv xx, iv ok] []) (fun _ k => XS.istore X228.here hx rfl (hb hby at_251) rfl (l' := #[iv aa, iv bb, iv sx, iv ddd, iv ee, iv md, iv c1, iv k1, iv b1, iv t1, iv c2, iv k2, iv b2, iv t2, iv kd, rv p2, rv q1, rv q1, iv xx, iv ok]) rfl k) ?_
          refine own_S (mkF m 255 #[iv aa, iv bb, iv sx, iv ddd, iv ee, iv md, iv c1, iv k1, iv b1, iv t1, iv c2, iv k2, iv b2, iv t2, iv kd, rv p2, rv q1, rv q1, iv xx, iv ok] [(.int kd)]) (fun _ k => XS.iload X228.here hx rfl (hb hby at_253) rfl k) ?_
          refine own_S (mkF m 256 #[iv aa, iv bb, iv sx, iv ddd, iv ee, iv md, iv c1, iv k1, iv b1, iv t1, iv c2, iv k2, iv b2, iv t2, iv kd, rv p2, rv q1, rv q1, iv xx, iv ok] [(.int 2), (.int kd)]) (fun _ k => XS.iconst X228.here hx rfl (hb hby at_255) k) ?_
          have hok : ok = (1 : Int32) := by rw [h_ok, if_pos hE]
          have hc230 : kd < (2 : Int32) := hlt
          refine own_S (mkF m 259 #[iv aa, iv bb, iv sx, iv ddd, iv ee, iv md, iv c1, iv k1, iv b1, iv t1, iv c2, iv k2, iv b2, iv t2, iv kd, rv p2, rv q1, rv q1, iv xx, iv ok] []) (fun _ k => XS.icmpNo X228.here hx rfl (hb hby at_256) rfl (tlt hc230).2.1 k) ?_
          refine own_S (mkF m 261 #[iv aa, iv bb, iv sx, iv ddd, iv ee, iv md, iv c1, iv k1, iv b1, iv t1, iv c2, iv k2, iv b2, iv t2, iv kd, rv p2, rv q1, rv q1, iv xx, iv ok] [(.int ok)]) (fun _ k => XS.iload X228.here hx rfl (hb hby at_259) rfl k) ?_
          have hc231 : ¬ (ok = (0 : Int32)) := (by rw [hok]; decide)
          refine own_S (mkF m 264 #[iv aa, iv bb, iv sx, iv ddd, iv ee, iv md, iv c1, iv k1, iv b1, iv t1, iv c2, iv k2, iv b2, iv t2, iv kd, rv p2, rv q1, rv q1, iv xx, iv ok] []) (fun _ k => XS.ifNo X228.here hx rfl (hb hby at_261) rfl ((if0 _ _).trans (feq hc231).1) k) ?_
          refine own_S (mkF m 266 #[iv aa, iv bb, iv sx, iv ddd, iv ee, iv md, iv c1, iv k1, iv b1, iv t1, iv c2, iv k2, iv b2, iv t2, iv kd, rv p2, rv q1, rv q1, iv xx, iv ok] [(.ref q1)]) (fun _ k => XS.aload X228.here hx rfl (hb hby at_264) rfl rfl k) ?_
          refine own_S (mkF m 268 #[iv aa, iv bb, iv sx, iv ddd, iv ee, iv md, iv c1, iv k1, iv b1, iv t1, iv c2, iv k2, iv b2, iv t2, iv kd, rv p2, rv q1, rv q1, iv xx, iv ok] [(.ref p2), (.ref q1)]) (fun _ k => XS.aload X228.here hx rfl (hb hby at_266) rfl rfl k) ?_
          obtain ⟨cq232, kq232, q232a, q232b, q232c⟩ := isOf hZ e228 F183
          obtain ⟨_, _, ⟨T232, L232, k232, n232⟩, -, X232, ⟨Lc232, hQ232, l232, y232, z232⟩, st232⟩ := X228.virtualBack hx (y := own_y4) (z := own_y4) hown (mvT hZ (own_g hw (i := 34) rfl)) (mvT hZ (own_g hw (i := 35) rfl)) (notFace_of_selects (args := #[]) (mvT hZ (own_g hw (i := 37) rfl))) (mvT hZ (own_g hw (i := 37) rfl)) (mvT hZ (own_g hw (i := 36) rfl)) (by decide) (backOf (W := 0) (own_rmeq l Z a0 hw [] (q1) (p2) (c2) (k2) ((-1 : Int32)) (c1) (k1) (t1) T182.heap n0 Z182 F197 F186 F187 F188 F200 F201 F202) hZ (own_g hw (i := 38) rfl) (own_g hw (i := 3) rfl) (by decide) (by decide)) q232a q232c (g := (mkF m 268 #[iv aa, iv bb, iv sx, iv ddd, iv ee, iv md, iv c1, iv k1, iv b1, iv t1, iv c2, iv k2, iv b2, iv t2, iv kd, rv p2, rv q1, rv q1, iv xx, iv ok] [(.ref p2), (.ref q1)])) rfl (by rw [hml]; rfl) (Steps.refl _) (argsL := [(.ref p2)]) (rest := []) (lenOf own_pd__Ljava_lang_Object__Z rfl) rfl (by show 2 * 0 + _ ≤ _; exact Nat.le_of_eq rfl) (hb hby at_268) (fun _ _ => ⟨rfl, e228, (by decide : 3 + 0 ≤ _), (by decide : 15 + 0 ≤ _)⟩)
          dsimp only [Pt.U, Pt.locs, Pt.cells, Pt.slots] at X232 l232 y232 z232 st232 hQ232
          subst l232 y232 z232
          obtain ⟨rfl, N232q, e232⟩ := hQ232
          have N232 := Fr.app N228 N232q
          refine own_S (mkF m 271 #[iv aa, iv bb, iv sx, iv ddd, iv ee, iv md, iv c1, iv k1, iv b1, iv t1, iv c2, iv k2, iv b2, iv t2, iv kd, rv p2, rv q1, rv q1, iv xx, iv ok] [(.int (if c2 = c1 ∧ k2 = k1 ∧ (-1 : Int32) = t1 then (1 : Int32) else (0 : Int32)))]) (fun _ k => st232.trans k) ?_
          refine own_S (mkF m 273 #[iv aa, iv bb, iv sx, iv ddd, iv ee, iv md, iv c1, iv k1, iv b1, iv t1, iv c2, iv k2, iv b2, iv t2, iv kd, rv p2, rv q1, rv q1, iv xx, iv ok] [(.int xx), (.int (if c2 = c1 ∧ k2 = k1 ∧ (-1 : Int32) = t1 then (1 : Int32) else (0 : Int32)))]) (fun _ k => XS.iload X232.here hx rfl (hb hby at_271) rfl k) ?_
          obtain ⟨ok2, h_ok2⟩ : ∃ z : Int32, z = (if (if c2 = c1 ∧ k2 = k1 ∧ (-1 : Int32) = t1 then (1 : Int32) else (0 : Int32)) = xx then (1 : Int32) else (0 : Int32)) := ⟨_, rfl⟩
          refine own_S (T' := T232) (mkF m 281 #[iv aa, iv bb, iv sx, iv ddd, iv ee, iv md, iv c1, iv k1, iv b1, iv t1, iv c2, iv k2, iv b2, iv t2, iv kd, rv p2, rv q1, rv q1, iv xx, iv ok] [(.int ok2)]) (fun _ k => ?_) ?_
          ·
            by_cases hj233 : (if c2 = c1 ∧ k2 = k1 ∧ (-1 : Int32) = t1 then (1 : Int32) else (0 : Int32)) = xx
            ·
              refine own_s (mkF m 276 #[iv aa, iv bb, iv sx, iv ddd, iv ee, iv md, iv c1, iv k1, iv b1, iv t1, iv c2, iv k2, iv b2, iv t2, iv kd, rv p2, rv q1, rv q1, iv xx, iv ok] []) (fun _ k => XS.icmpNo X232.here hx rfl (hb hby at_273) rfl (teq hj233).2 k) ?_
              refine own_s (mkF m 277 #[iv aa, iv bb, iv sx, iv ddd, iv ee, iv md, iv c1, iv k1, iv b1, iv t1, iv c2, iv k2, iv b2, iv t2, iv kd, rv p2, rv q1, rv q1, iv xx, iv ok] [(.int 1)]) (fun _ k => XS.iconst X232.here hx rfl (hb hby at_276) k) ?_
              refine own_s (mkF m 281 #[iv aa, iv bb, iv sx, iv ddd, iv ee, iv md, iv c1, iv k1, iv b1, iv t1, iv c2, iv k2, iv b2, iv t2, iv kd, rv p2, rv q1, rv q1, iv xx, iv ok] [(.int 1)]) (fun _ k => XS.goto X232.here hx rfl (pc0 := 277) (pc' := 281) rfl (hb hby at_277) (by decide) (by decide) k) ?_
              rw [show ok2 = (1 : Int32) from by rw [h_ok2, if_pos hj233]] at k
              exact k
            ·
              refine own_s (mkF m 280 #[iv aa, iv bb, iv sx, iv ddd, iv ee, iv md, iv c1, iv k1, iv b1, iv t1, iv c2, iv k2, iv b2, iv t2, iv kd, rv p2, rv q1, rv q1, iv xx, iv ok] []) (fun _ k => XS.icmpYes X232.here hx rfl (pc0 := 273) (pc' := 280) rfl (hb hby at_273) rfl (feq hj233).2 (by decide) (by decide) k) ?_
              refine own_s (mkF m 281 #[iv aa, iv bb, iv sx, iv ddd, iv ee, iv md, iv c1, iv k1, iv b1, iv t1, iv c2, iv k2, iv b2, iv t2, iv kd, rv p2, rv q1, rv q1, iv xx, iv ok] [(.int 0)]) (fun _ k => XS.iconst X232.here hx rfl (hb hby at_280) k) ?_
              rw [show ok2 = (0 : Int32) from by rw [h_ok2, if_neg hj233]] at k
              exact k
          refine own_S (mkF m 283 #[iv aa, iv bb, iv sx, iv ddd, iv ee, iv md, iv c1, iv k1, iv b1, iv t1, iv c2, iv k2, iv b2, iv t2, iv kd, rv p2, rv q1, rv q1, iv xx, iv ok2] []) (fun _ k => XS.istore X232.here hx rfl (hb hby at_281) rfl (l' := #[iv aa, iv bb, iv sx, iv ddd, iv ee, iv md, iv c1, iv k1, iv b1, iv t1, iv c2, iv k2, iv b2, iv t2, iv kd, rv p2, rv q1, rv q1, iv xx, iv ok2]) rfl k) ?_
          refine own_S (mkF m 285 #[iv aa, iv bb, iv sx, iv ddd, iv ee, iv md, iv c1, iv k1, iv b1, iv t1, iv c2, iv k2, iv b2, iv t2, iv kd, rv p2, rv q1, rv q1, iv xx, iv ok2] [(.int ok2)]) (fun _ k => XS.iload X232.here hx rfl (hb hby at_283) rfl k) ?_
          exact own_retN X232 hx hlk (t := .boolean) hret (by simp) (hb hby at_285) (by rw [e232]; exact ⟨(by rw [h_ok2, if_pos hE2]; rfl), N232, trivial⟩) (by decide) (by decide)
    · -- not b2 = (0 : Int32)
      refine own_S (mkF m 149 #[iv aa, iv bb, iv sx, iv ddd, iv ee, iv md, iv c1, iv k1, iv b1, iv t1, iv c2, iv k2, iv b2, iv t2, iv kd, rv p2, rv q1, .unset, .unset, .unset] []) (fun _ k => XS.ifNo X182.here hx rfl (hb hby at_146) rfl ((if0 _ _).trans (feq hb2).1) k) ?_
      refine own_S (mkF m 151 #[iv aa, iv bb, iv sx, iv ddd, iv ee, iv md, iv c1, iv k1, iv b1, iv t1, iv c2, iv k2, iv b2, iv t2, iv kd, rv p2, rv q1, .unset, .unset, .unset] [(.ref q1)]) (fun _ k => XS.aload X182.here hx rfl (hb hby at_149) rfl rfl k) ?_
      refine own_S (mkF m 153 #[iv aa, iv bb, iv sx, iv ddd, iv ee, iv md, iv c1, iv k1, iv b1, iv t1, iv c2, iv k2, iv b2, iv t2, iv kd, rv p2, rv q1, .unset, .unset, .unset] [(.int t2), (.ref q1)]) (fun _ k => XS.iload X182.here hx rfl (hb hby at_151) rfl k) ?_
      obtain ⟨cq234, kq234, q234a, q234b, q234c⟩ := isOf hZ rfl F183
      obtain ⟨_, _, ⟨T234, L234, k234, n234⟩, -, X234, ⟨Lc234, hQ234, l234, y234, z234⟩, st234⟩ := X182.virtualBack hx (y := own_y3) (z := own_y3) hown (mvT hZ (own_g hw (i := 28) rfl)) (mvT hZ (own_g hw (i := 29) rfl)) (notFace_of_selects (args := #[]) (mvT hZ (own_g hw (i := 31) rfl))) (mvT hZ (own_g hw (i := 31) rfl)) (mvT hZ (own_g hw (i := 30) rfl)) (by decide) (backOf (W := 0) (own_rmat l Z a0 hw [] (q1) (t2) (c2) (k2) T182.heap n0 Z182 F186 F187 n_t2 n_c2 n_k2) hZ (own_g hw (i := 32) rfl) (own_g hw (i := 3) rfl) (by decide) (by decide)) q234a q234c (g := (mkF m 153 #[iv aa, iv bb, iv sx, iv ddd, iv ee, iv md, iv c1, iv k1, iv b1, iv t1, iv c2, iv k2, iv b2, iv t2, iv kd, rv p2, rv q1, .unset, .unset, .unset] [(.int t2), (.ref q1)])) rfl (by rw [hml]; rfl) (Steps.refl _) (argsL := [(.int t2)]) (rest := []) (lenOf own_pd__I_Lcom_example_referee_referee_logic_ltl_Pointer_ rfl) rfl (by show 2 * 0 + _ ≤ _; exact Nat.le_of_eq rfl) (hb hby at_153) (fun _ _ => ⟨rfl, rfl, (by decide : 3 + 1 ≤ _), (by decide : 15 + 5 ≤ _)⟩)
      dsimp only [Pt.U, Pt.locs, Pt.cells, Pt.slots] at X234 l234 y234 z234 st234 hQ234
      subst l234 y234 z234
      obtain ⟨q2, rfl, N234q, K234q, F235, F236, F237, F238, F239, F240, pp241⟩ := hQ234
      have N234 := Fr.app N182 N234q
      refine own_S (mkF m 156 #[iv aa, iv bb, iv sx, iv ddd, iv ee, iv md, iv c1, iv k1, iv b1, iv t1, iv c2, iv k2, iv b2, iv t2, iv kd, rv p2, rv q1, .unset, .unset, .unset] [(.ref q2)]) (fun _ k => st234.trans k) ?_
      have n242 : ct ≠ q2 := Nat.ne_of_lt (Nat.lt_of_lt_of_le F190.lt pp241)
      have n243 : p1 ≠ q2 := Nat.ne_of_lt (Nat.lt_of_lt_of_le F191.lt pp241)
      have n244 : p2 ≠ q2 := Nat.ne_of_lt (Nat.lt_of_lt_of_le F197.lt pp241)
      have n245 : q1 ≠ q2 := Nat.ne_of_lt (Nat.lt_of_lt_of_le F183.lt pp241)
      have ge_q2 : n0 ≤ q2 := Nat.le_trans Z182 pp241
      have F246 := F189.ext ⟨K234q.1, fun a c q => K234q.2.1 a c q nin0⟩
      have F247 := F190.keep K234q
      have F248 := F191.keep K234q
      have F249 := F192.keep K234q nin0
      have F250 := F193.keep K234q nin0
      have F251 := F194.keep K234q nin0
      have F252 := F195.keep K234q nin0
      have F253 := F196.keep K234q nin0
      have F254 := F197.keep K234q
      have F255 := F198.keep K234q nin0
      have F256 := F199.keep K234q nin0
      have F257 := F200.keep K234q nin0
      have F258 := F201.keep K234q nin0
      have F259 := F202.keep K234q nin0
      have F260 := F183.keep K234q
      have F261 := F184.keep K234q nin0
      have F262 := F185.keep K234q nin0
      have F263 := F186.keep K234q nin0
      have F264 := F187.keep K234q nin0
      have F265 := F188.keep K234q nin0
      have Z234 : n0 ≤ T234.heap.size := Nat.le_trans Z182 K234q.1
      refine own_S (mkF m 158 #[iv aa, iv bb, iv sx, iv ddd, iv ee, iv md, iv c1, iv k1, iv b1, iv t1, iv c2, iv k2, iv b2, iv t2, iv kd, rv p2, rv q2, .unset, .unset, .unset] []) (fun _ k => XS.astore X234.here hx rfl (hb hby at_156) rfl rfl (l' := #[iv aa, iv bb, iv sx, iv ddd, iv ee, iv md, iv c1, iv k1, iv b1, iv t1, iv c2, iv k2, iv b2, iv t2, iv kd, rv p2, rv q2, .unset, .unset, .unset]) rfl k) ?_
      refine own_S (mkF m 160 #[iv aa, iv bb, iv sx, iv ddd, iv ee, iv md, iv c1, iv k1, iv b1, iv t1, iv c2, iv k2, iv b2, iv t2, iv kd, rv p2, rv q2, .unset, .unset, .unset] [(.int kd)]) (fun _ k => XS.iload X234.here hx rfl (hb hby at_158) rfl k) ?_
      refine own_S (mkF m 161 #[iv aa, iv bb, iv sx, iv ddd, iv ee, iv md, iv c1, iv k1, iv b1, iv t1, iv c2, iv k2, iv b2, iv t2, iv kd, rv p2, rv q2, .unset, .unset, .unset] [(.int 2), (.int kd)]) (fun _ k => XS.iconst X234.here hx rfl (hb hby at_160) k) ?_
      by_cases hk2 : kd = (2 : Int32)
      · -- kd = (2 : Int32)
        refine own_S (mkF m 164 #[iv aa, iv bb, iv sx, iv ddd, iv ee, iv md, iv c1, iv k1, iv b1, iv t1, iv c2, iv k2, iv b2, iv t2, iv kd, rv p2, rv q2, .unset, .unset, .unset] []) (fun _ k => XS.icmpNo X234.here hx rfl (hb hby at_161) rfl (teq hk2).2 k) ?_
        refine own_S (mkF m 165 #[iv aa, iv bb, iv sx, iv ddd, iv ee, iv md, iv c1, iv k1, iv b1, iv t1, iv c2, iv k2, iv b2, iv t2, iv kd, rv p2, rv q2, .unset, .unset, .unset] [.null]) (fun _ k => XS.aconstNull X234.here hx rfl (hb hby at_164) k) ?_
        refine own_S (mkF m 167 #[iv aa, iv bb, iv sx, iv ddd, iv ee, iv md, iv c1, iv k1, iv b1, iv t1, iv c2, iv k2, iv b2, iv t2, iv kd, rv p2, rv q2, .val .null, .unset, .unset] []) (fun _ k => XS.astore X234.here hx rfl (hb hby at_165) rfl rfl (l' := #[iv aa, iv bb, iv sx, iv ddd, iv ee, iv md, iv c1, iv k1, iv b1, iv t1, iv c2, iv k2, iv b2, iv t2, iv kd, rv p2, rv q2, .val .null, .unset, .unset]) rfl k) ?_
        refine own_S (mkF m 188 #[iv aa, iv bb, iv sx, iv ddd, iv ee, iv md, iv c1, iv k1, iv b1, iv t1, iv c2, iv k2, iv b2, iv t2, iv kd, rv p2, rv q2, .val .null, .unset, .unset] []) (fun _ k => XS.goto X234.here hx rfl (pc0 := 167) (pc' := 188) rfl (hb hby at_167) (by decide) (by decide) k) ?_
        refine own_S (mkF m 190 #[iv aa, iv bb, iv sx, iv ddd, iv ee, iv md, iv c1, iv k1, iv b1, iv t1, iv c2, iv k2, iv b2, iv t2, iv kd, rv p2, rv q2, .val .null, .unset, .unset] [(.int kd)]) (fun _ k => XS.iload X234.here hx rfl (hb hby at_188) rfl k) ?_
        refine own_S (mkF m 191 #[iv aa, iv bb, iv sx, iv ddd, iv ee, iv md, iv c1, iv k1, iv b1, iv t1, iv c2, iv k2, iv b2, iv t2, iv kd, rv p2, rv q2, .val .null, .unset, .unset] [(.int 2), (.int kd)]) (fun _ k => XS.iconst X234.here hx rfl (hb hby at_190) k) ?_
        obtain ⟨xx, h_xx⟩ : ∃ z : Int32, z = (if kd < (2 : Int32) then (if c1 = c2 then (if k1 = k2 then (if b1 = b2 then (if b1 = (0 : Int32) then (1 : Int32) else (if t1 = t2 then (1 : Int32) else (0 : Int32))) else (0 : Int32)) else (0 : Int32)) else (0 : Int32)) else (0 : Int32)) := ⟨_, rfl⟩
        refine own_S (T' := T234) (mkF m 232 #[iv aa, iv bb, iv sx, iv ddd, iv ee, iv md, iv c1, iv k1, iv b1, iv t1, iv c2, iv k2, iv b2, iv t2, iv kd, rv p2, rv q2, .val .null, .unset, .unset] [(.int xx)]) (fun _ k => ?_) ?_
        ·
          by_cases hj266 : kd < (2 : Int32)
          ·
            refine own_s (mkF m 194 #[iv aa, iv bb, iv sx, iv ddd, iv ee, iv md, iv c1, iv k1, iv b1, iv t1, iv c2, iv k2, iv b2, iv t2, iv kd, rv p2, rv q2, .val .null, .unset, .unset] []) (fun _ k => XS.icmpNo X234.here hx rfl (hb hby at_191) rfl (tlt hj266).2.1 k) ?_
            refine own_s (mkF m 196 #[iv aa, iv bb, iv sx, iv ddd, iv ee, iv md, iv c1, iv k1, iv b1, iv t1, iv c2, iv k2, iv b2, iv t2, iv kd, rv p2, rv q2, .val .null, .unset, .unset] [(.int c1)]) (fun _ k => XS.iload X234.here hx rfl (hb hby at_194) rfl k) ?_
            refine own_s (mkF m 198 #[iv aa, iv bb, iv sx, iv ddd, iv ee, iv md, iv c1, iv k1, iv b1, iv t1, iv c2, iv k2, iv b2, iv t2, iv kd, rv p2, rv q2, .val .null, .unset, .unset] [(.int c2), (.int c1)]) (fun _ k => XS.iload X234.here hx rfl (hb hby at_196) rfl k) ?_
            by_cases hj267 : c1 = c2
            ·
              refine own_s (mkF m 201 #[iv aa, iv bb, iv sx, iv ddd, iv ee, iv md, iv c1, iv k1, iv b1, iv t1, iv c2, iv k2, iv b2, iv t2, iv kd, rv p2, rv q2, .val .null, .unset, .unset] []) (fun _ k => XS.icmpNo X234.here hx rfl (hb hby at_198) rfl (teq hj267).2 k) ?_
              refine own_s (mkF m 203 #[iv aa, iv bb, iv sx, iv ddd, iv ee, iv md, iv c1, iv k1, iv b1, iv t1, iv c2, iv k2, iv b2, iv t2, iv kd, rv p2, rv q2, .val .null, .unset, .unset] [(.int k1)]) (fun _ k => XS.iload X234.here hx rfl (hb hby at_201) rfl k) ?_
              refine own_s (mkF m 205 #[iv aa, iv bb, iv sx, iv ddd, iv ee, iv md, iv c1, iv k1, iv b1, iv t1, iv c2, iv k2, iv b2, iv t2, iv kd, rv p2, rv q2, .val .null, .unset, .unset] [(.int k2), (.int k1)]) (fun _ k => XS.iload X234.here hx rfl (hb hby at_203) rfl k) ?_
              by_cases hj268 : k1 = k2
              ·
                refine own_s (mkF m 208 #[iv aa, iv bb, iv sx, iv ddd, iv ee, iv md, iv c1, iv k1, iv b1, iv t1, iv c2, iv k2, iv b2, iv t2, iv kd, rv p2, rv q2, .val .null, .unset, .unset] []) (fun _ k => XS.icmpNo X234.here hx rfl (hb hby at_205) rfl (teq hj268).2 k) ?_
                refine own_s (mkF m 210 #[iv aa, iv bb, iv sx, iv ddd, iv ee, iv md, iv c1, iv k1, iv b1, iv t1, iv c2, iv k2, iv b2, iv t2, iv kd, rv p2, rv q2, .val .null, .unset, .unset] [(.int b1)]) (fun _ k => XS.iload X234.here hx rfl (hb hby at_208) rfl k) ?_
                refine own_s (mkF m 212 #[iv aa, iv bb, iv sx, iv ddd, iv ee, iv md, iv c1, iv k1, iv b1, iv t1, iv c2, iv k2, iv b2, iv t2, iv kd, rv p2, rv q2, .val .null, .unset, .unset] [(.int b2), (.int b1)]) (fun _ k => XS.iload X234.here hx rfl (hb hby at_210) rfl k) ?_
                by_cases hj269 : b1 = b2
                ·
                  refine own_s (mkF m 215 #[iv aa, iv bb, iv sx, iv ddd, iv ee, iv md, iv c1, iv k1, iv b1, iv t1, iv c2, iv k2, iv b2, iv t2, iv kd, rv p2, rv q2, .val .null, .unset, .unset] []) (fun _ k => XS.icmpNo X234.here hx rfl (hb hby at_212) rfl (teq hj269).2 k) ?_
                  refine own_s (mkF m 217 #[iv aa, iv bb, iv sx, iv ddd, iv ee, iv md, iv c1, iv k1, iv b1, iv t1, iv c2, iv k2, iv b2, iv t2, iv kd, rv p2, rv q2, .val .null, .unset, .unset] [(.int b1)]) (fun _ k => XS.iload X234.here hx rfl (hb hby at_215) rfl k) ?_
                  by_cases hj270 : b1 = (0 : Int32)
                  ·
                    refine own_s (mkF m 227 #[iv aa, iv bb, iv sx, iv ddd, iv ee, iv md, iv c1, iv k1, iv b1, iv t1, iv c2, iv k2, iv b2, iv t2, iv kd, rv p2, rv q2, .val .null, .unset, .unset] []) (fun _ k => XS.ifYes X234.here hx rfl (pc0 := 217) (pc' := 227) rfl (hb hby at_217) rfl ((if0 _ _).trans (teq hj270).1) (by decide) (by decide) k) ?_
                    refine own_s (mkF m 228 #[iv aa, iv bb, iv sx, iv ddd, iv ee, iv md, iv c1, iv k1, iv b1, iv t1, iv c2, iv k2, iv b2, iv t2, iv kd, rv p2, rv q2, .val .null, .unset, .unset] [(.int 1)]) (fun _ k => XS.iconst X234.here hx rfl (hb hby at_227) k) ?_
                    refine own_s (mkF m 232 #[iv aa, iv bb, iv sx, iv ddd, iv ee, iv md, iv c1, iv k1, iv b1, iv t1, iv c2, iv k2, iv b2, iv t2, iv kd, rv p2, rv q2, .val .null, .unset, .unset] [(.int 1)]) (fun _ k => XS.goto X234.here hx rfl (pc0 := 228) (pc' := 232) rfl (hb hby at_228) (by decide) (by decide) k) ?_
                    rw [show xx = (1 : Int32) from by rw [h_xx, if_pos hj266, if_pos hj267, if_pos hj268, if_pos hj269, if_pos hj270]] at k
                    exact k
                  ·
                    refine own_s (mkF m 220 #[iv aa, iv bb, iv sx, iv ddd, iv ee, iv md, iv c1, iv k1, iv b1, iv t1, iv c2, iv k2, iv b2, iv t2, iv kd, rv p2, rv q2, .val .null, .unset, .unset] []) (fun _ k => XS.ifNo X234.here hx rfl (hb hby at_217) rfl ((if0 _ _).trans (feq hj270).1) k) ?_
                    refine own_s (mkF m 222 #[iv aa, iv bb, iv sx, iv ddd, iv ee, iv md, iv c1, iv k1, iv b1, iv t1, iv c2, iv k2, iv b2, iv t2, iv kd, rv p2, rv q2, .val .null, .unset, .unset] [(.int t1)]) (fun _ k => XS.iload X234.here hx rfl (hb hby at_220) rfl k) ?_
                    refine own_s (mkF m 224 #[iv aa, iv bb, iv sx, iv ddd, iv ee, iv md, iv c1, iv k1, iv b1, iv t1, iv c2, iv k2, iv b2, iv t2, iv kd, rv p2, rv q2, .val .null, .unset, .unset] [(.int t2), (.int t1)]) (fun _ k => XS.iload X234.here hx rfl (hb hby at_222) rfl k) ?_
                    by_cases hj271 : t1 = t2
                    ·
                      refine own_s (mkF m 227 #[iv aa, iv bb, iv sx, iv ddd, iv ee, iv md, iv c1, iv k1, iv b1, iv t1, iv c2, iv k2, iv b2, iv t2, iv kd, rv p2, rv q2, .val .null, .unset, .unset] []) (fun _ k => XS.icmpNo X234.here hx rfl (hb hby at_224) rfl (teq hj271).2 k) ?_
                      refine own_s (mkF m 228 #[iv aa, iv bb, iv sx, iv ddd, iv ee, iv md, iv c1, iv k1, iv b1, iv t1, iv c2, iv k2, iv b2, iv t2, iv kd, rv p2, rv q2, .val .null, .unset, .unset] [(.int 1)]) (fun _ k => XS.iconst X234.here hx rfl (hb hby at_227) k) ?_
                      refine own_s (mkF m 232 #[iv aa, iv bb, iv sx, iv ddd, iv ee, iv md, iv c1, iv k1, iv b1, iv t1, iv c2, iv k2, iv b2, iv t2, iv kd, rv p2, rv q2, .val .null, .unset, .unset] [(.int 1)]) (fun _ k => XS.goto X234.here hx rfl (pc0 := 228) (pc' := 232) rfl (hb hby at_228) (by decide) (by decide) k) ?_
                      rw [show xx = (1 : Int32) from by rw [h_xx, if_pos hj266, if_pos hj267, if_pos hj268, if_pos hj269, if_neg hj270, if_pos hj271]] at k
                      exact k
                    ·
                      refine own_s (mkF m 231 #[iv aa, iv bb, iv sx, iv ddd, iv ee, iv md, iv c1, iv k1, iv b1, iv t1, iv c2, iv k2, iv b2, iv t2, iv kd, rv p2, rv q2, .val .null, .unset, .unset] []) (fun _ k => XS.icmpYes X234.here hx rfl (pc0 := 224) (pc' := 231) rfl (hb hby at_224) rfl (feq hj271).2 (by decide) (by decide) k) ?_
                      refine own_s (mkF m 232 #[iv aa, iv bb, iv sx, iv ddd, iv ee, iv md, iv c1, iv k1, iv b1, iv t1, iv c2, iv k2, iv b2, iv t2, iv kd, rv p2, rv q2, .val .null, .unset, .unset] [(.int 0)]) (fun _ k => XS.iconst X234.here hx rfl (hb hby at_231) k) ?_
                      rw [show xx = (0 : Int32) from by rw [h_xx, if_pos hj266, if_pos hj267, if_pos hj268, if_pos hj269, if_neg hj270, if_neg hj271]] at k
                      exact k
                ·
                  refine own_s (mkF m 231 #[iv aa, iv bb, iv sx, iv ddd, iv ee, iv md, iv c1, iv k1, iv b1, iv t1, iv c2, iv k2, iv b2, iv t2, iv kd, rv p2, rv q2, .val .null, .unset, .unset] []) (fun _ k => XS.icmpYes X234.here hx rfl (pc0 := 212) (pc' := 231) rfl (hb hby at_212) rfl (feq hj269).2 (by decide) (by decide) k) ?_
                  refine own_s (mkF m 232 #[iv aa, iv bb, iv sx, iv ddd, iv ee, iv md, iv c1, iv k1, iv b1, iv t1, iv c2, iv k2, iv b2, iv t2, iv kd, rv p2, rv q2, .val .null, .unset, .unset] [(.int 0)]) (fun _ k => XS.iconst X234.here hx rfl (hb hby at_231) k) ?_
                  rw [show xx = (0 : Int32) from by rw [h_xx, if_pos hj266, if_pos hj267, if_pos hj268, if_neg hj269]] at k
                  exact k
              ·
                refine own_s (mkF m 231 #[iv aa, iv bb, iv sx, iv ddd, iv ee, iv md, iv c1, iv k1, iv b1, iv t1, iv c2, iv k2, iv b2, iv t2, iv kd, rv p2, rv q2, .val .null, .unset, .unset] []) (fun _ k => XS.icmpYes X234.here hx rfl (pc0 := 205) (pc' := 231) rfl (hb hby at_205) rfl (feq hj268).2 (by decide) (by decide) k) ?_
                refine own_s (mkF m 232 #[iv aa, iv bb, iv sx, iv ddd, iv ee, iv md, iv c1, iv k1, iv b1, iv t1, iv c2, iv k2, iv b2, iv t2, iv kd, rv p2, rv q2, .val .null, .unset, .unset] [(.int 0)]) (fun _ k => XS.iconst X234.here hx rfl (hb hby at_231) k) ?_
                rw [show xx = (0 : Int32) from by rw [h_xx, if_pos hj266, if_pos hj267, if_neg hj268]] at k
                exact k
            ·
              refine own_s (mkF m 231 #[iv aa, iv bb, iv sx, iv ddd, iv ee, iv md, iv c1, iv k1, iv b1, iv t1, iv c2, iv k2, iv b2, iv t2, iv kd, rv p2, rv q2, .val .null, .unset, .unset] []) (fun _ k => XS.icmpYes X234.here hx rfl (pc0 := 198) (pc' := 231) rfl (hb hby at_198) rfl (feq hj267).2 (by decide) (by decide) k) ?_
              refine own_s (mkF m 232 #[iv aa, iv bb, iv sx, iv ddd, iv ee, iv md, iv c1, iv k1, iv b1, iv t1, iv c2, iv k2, iv b2, iv t2, iv kd, rv p2, rv q2, .val .null, .unset, .unset] [(.int 0)]) (fun _ k => XS.iconst X234.here hx rfl (hb hby at_231) k) ?_
              rw [show xx = (0 : Int32) from by rw [h_xx, if_pos hj266, if_neg hj267]] at k
              exact k
          ·
            refine own_s (mkF m 231 #[iv aa, iv bb, iv sx, iv ddd, iv ee, iv md, iv c1, iv k1, iv b1, iv t1, iv c2, iv k2, iv b2, iv t2, iv kd, rv p2, rv q2, .val .null, .unset, .unset] []) (fun _ k => XS.icmpYes X234.here hx rfl (pc0 := 191) (pc' := 231) rfl (hb hby at_191) rfl (flt hj266).2.1 (by decide) (by decide) k) ?_
            refine own_s (mkF m 232 #[iv aa, iv bb, iv sx, iv ddd, iv ee, iv md, iv c1, iv k1, iv b1, iv t1, iv c2, iv k2, iv b2, iv t2, iv kd, rv p2, rv q2, .val .null, .unset, .unset] [(.int 0)]) (fun _ k => XS.iconst X234.here hx rfl (hb hby at_231) k) ?_
            rw [show xx = (0 : Int32) from by rw [h_xx, if_neg hj266]] at k
            exact k
        refine own_S (mkF m 234 #[iv aa, iv bb, iv sx, iv ddd, iv ee, iv md, iv c1, iv k1, iv b1, iv t1, iv c2, iv k2, iv b2, iv t2, iv kd, rv p2, rv q2, .val .null, iv xx, .unset] []) (fun _ k => XS.istore X234.here hx rfl (hb hby at_232) rfl (l' := #[iv aa, iv bb, iv sx, iv ddd, iv ee, iv md, iv c1, iv k1, iv b1, iv t1, iv c2, iv k2, iv b2, iv t2, iv kd, rv p2, rv q2, .val .null, iv xx, .unset]) rfl k) ?_
        refine own_S (mkF m 236 #[iv aa, iv bb, iv sx, iv ddd, iv ee, iv md, iv c1, iv k1, iv b1, iv t1, iv c2, iv k2, iv b2, iv t2, iv kd, rv p2, rv q2, .val .null, iv xx, .unset] [(.ref p2)]) (fun _ k => XS.aload X234.here hx rfl (hb hby at_234) rfl rfl k) ?_
        refine own_S (mkF m 238 #[iv aa, iv bb, iv sx, iv ddd, iv ee, iv md, iv c1, iv k1, iv b1, iv t1, iv c2, iv k2, iv b2, iv t2, iv kd, rv p2, rv q2, .val .null, iv xx, .unset] [.null, (.ref p2)]) (fun _ k => XS.aload X234.here hx rfl (hb hby at_236) rfl rfl k) ?_
        obtain ⟨cq272, kq272, q272a, q272b, q272c⟩ := isOf hZ rfl F254
        obtain ⟨_, _, ⟨T272, L272, k272, n272⟩, -, X272, ⟨Lc272, hQ272, l272, y272, z272⟩, st272⟩ := X234.virtualBack hx (y := own_y4) (z := own_y4) hown (mvT hZ (own_g hw (i := 34) rfl)) (mvT hZ (own_g hw (i := 35) rfl)) (notFace_of_selects (args := #[]) (mvT hZ (own_g hw (i := 37) rfl))) (mvT hZ (own_g hw (i := 37) rfl)) (mvT hZ (own_g hw (i := 36) rfl)) (by decide) (backOf (W := 0) (own_rmen l Z a0 hw [] (p2) T234.heap n0 Z234 ) hZ (own_g hw (i := 38) rfl) (own_g hw (i := 3) rfl) (by decide) (by decide)) q272a q272c (g := (mkF m 238 #[iv aa, iv bb, iv sx, iv ddd, iv ee, iv md, iv c1, iv k1, iv b1, iv t1, iv c2, iv k2, iv b2, iv t2, iv kd, rv p2, rv q2, .val .null, iv xx, .unset] [.null, (.ref p2)])) rfl (by rw [hml]; rfl) (Steps.refl _) (argsL := [.null]) (rest := []) (lenOf own_pd__Ljava_lang_Object__Z rfl) rfl (by show 2 * 0 + _ ≤ _; exact Nat.le_of_eq rfl) (hb hby at_238) (fun _ _ => ⟨rfl, rfl, (by decide : 4 + 0 ≤ _), (by decide : 20 + 0 ≤ _)⟩)
        dsimp only [Pt.U, Pt.locs, Pt.cells, Pt.slots] at X272 l272 y272 z272 st272 hQ272
        subst l272 y272 z272
        obtain ⟨rfl, N272q, e272⟩ := hQ272
        have N272 := Fr.app N234 N272q
        refine own_S (mkF m 241 #[iv aa, iv bb, iv sx, iv ddd, iv ee, iv md, iv c1, iv k1, iv b1, iv t1, iv c2, iv k2, iv b2, iv t2, iv kd, rv p2, rv q2, .val .null, iv xx, .unset] [(.int 0)]) (fun _ k => st272.trans k) ?_
        refine own_S (mkF m 243 #[iv aa, iv bb, iv sx, iv ddd, iv ee, iv md, iv c1, iv k1, iv b1, iv t1, iv c2, iv k2, iv b2, iv t2, iv kd, rv p2, rv q2, .val .null, iv xx, .unset] [(.int xx), (.int 0)]) (fun _ k => XS.iload X272.here hx rfl (hb hby at_241) rfl k) ?_
        obtain ⟨ok, h_ok⟩ : ∃ z : Int32, z = (if (0 : Int32) = xx then (1 : Int32) else (0 : Int32)) := ⟨_, rfl⟩
        refine own_S (T' := T272) (mkF m 251 #[iv aa, iv bb, iv sx, iv ddd, iv ee, iv md, iv c1, iv k1, iv b1, iv t1, iv c2, iv k2, iv b2, iv t2, iv kd, rv p2, rv q2, .val .null, iv xx, .unset] [(.int ok)]) (fun _ k => ?_) ?_
        ·
          by_cases hj273 : (0 : Int32) = xx
          ·
            refine own_s (mkF m 246 #[iv aa, iv bb, iv sx, iv ddd, iv ee, iv md, iv c1, iv k1, iv b1, iv t1, iv c2, iv k2, iv b2, iv t2, iv kd, rv p2, rv q2, .val .null, iv xx, .unset] []) (fun _ k => XS.icmpNo X272.here hx rfl (hb hby at_243) rfl (teq hj273).2 k) ?_
            refine own_s (mkF m 247 #[iv aa, iv bb, iv sx, iv ddd, iv ee, iv md, iv c1, iv k1, iv b1, iv t1, iv c2, iv k2, iv b2, iv t2, iv kd, rv p2, rv q2, .val .null, iv xx, .unset] [(.int 1)]) (fun _ k => XS.iconst X272.here hx rfl (hb hby at_246) k) ?_
            refine own_s (mkF m 251 #[iv aa, iv bb, iv sx, iv ddd, iv ee, iv md, iv c1, iv k1, iv b1, iv t1, iv c2, iv k2, iv b2, iv t2, iv kd, rv p2, rv q2, .val .null, iv xx, .unset] [(.int 1)]) (fun _ k => XS.goto X272.here hx rfl (pc0 := 247) (pc' := 251) rfl (hb hby at_247) (by decide) (by decide) k) ?_
            rw [show ok = (1 : Int32) from by rw [h_ok, if_pos hj273]] at k
            exact k
          ·
            refine own_s (mkF m 250 #[iv aa, iv bb, iv sx, iv ddd, iv ee, iv md, iv c1, iv k1, iv b1, iv t1, iv c2, iv k2, iv b2, iv t2, iv kd, rv p2, rv q2, .val .null, iv xx, .unset] []) (fun _ k => XS.icmpYes X272.here hx rfl (pc0 := 243) (pc' := 250) rfl (hb hby at_243) rfl (feq hj273).2 (by decide) (by decide) k) ?_
            refine own_s (mkF m 251 #[iv aa, iv bb, iv sx, iv ddd, iv ee, iv md, iv c1, iv k1, iv b1, iv t1, iv c2, iv k2, iv b2, iv t2, iv kd, rv p2, rv q2, .val .null, iv xx, .unset] [(.int 0)]) (fun _ k => XS.iconst X272.here hx rfl (hb hby at_250) k) ?_
            rw [show ok = (0 : Int32) from by rw [h_ok, if_neg hj273]] at k
            exact k
        refine own_S (mkF m 253 #[iv aa, iv bb, iv sx, iv ddd, iv ee, iv md, iv c1, iv k1, iv b1, iv t1, iv c2, iv k2, iv b2, iv t2, iv kd, rv p2, rv q2, .val .null, iv xx, iv ok] []) (fun _ k => XS.istore X272.here hx rfl (hb hby at_251) rfl (l' := #[iv aa, iv bb, iv sx, iv ddd, iv ee, iv md, iv c1, iv k1, iv b1, iv t1, iv c2, iv k2, iv b2, iv t2, iv kd, rv p2, rv q2, .val .null, iv xx, iv ok]) rfl k) ?_
        refine own_S (mkF m 255 #[iv aa, iv bb, iv sx, iv ddd, iv ee, iv md, iv c1, iv k1, iv b1, iv t1, iv c2, iv k2, iv b2, iv t2, iv kd, rv p2, rv q2, .val .null, iv xx, iv ok] [(.int kd)]) (fun _ k => XS.iload X272.here hx rfl (hb hby at_253) rfl k) ?_
        refine own_S (mkF m 256 #[iv aa, iv bb, iv sx, iv ddd, iv ee, iv md, iv c1, iv k1, iv b1, iv t1, iv c2, iv k2, iv b2, iv t2, iv kd, rv p2, rv q2, .val .null, iv xx, iv ok] [(.int 2), (.int kd)]) (fun _ k => XS.iconst X272.here hx rfl (hb hby at_255) k) ?_
        have hc274 : ¬ (kd < (2 : Int32)) := (by rw [hk2]; decide)
        refine own_S (mkF m 283 #[iv aa, iv bb, iv sx, iv ddd, iv ee, iv md, iv c1, iv k1, iv b1, iv t1, iv c2, iv k2, iv b2, iv t2, iv kd, rv p2, rv q2, .val .null, iv xx, iv ok] []) (fun _ k => XS.icmpYes X272.here hx rfl (pc0 := 256) (pc' := 283) rfl (hb hby at_256) rfl (flt hc274).2.1 (by decide) (by decide) k) ?_
        refine own_S (mkF m 285 #[iv aa, iv bb, iv sx, iv ddd, iv ee, iv md, iv c1, iv k1, iv b1, iv t1, iv c2, iv k2, iv b2, iv t2, iv kd, rv p2, rv q2, .val .null, iv xx, iv ok] [(.int ok)]) (fun _ k => XS.iload X272.here hx rfl (hb hby at_283) rfl k) ?_
        exact own_retN X272 hx hlk (t := .boolean) hret (by simp) (hb hby at_285) (by rw [e272]; exact ⟨(by rw [h_ok, h_xx, if_neg (show ¬ kd < (2 : Int32) by rw [hk2]; decide), if_pos rfl]; rfl), N272, trivial⟩) (by decide) (by decide)
      · -- not kd = (2 : Int32)
        refine own_S (mkF m 170 #[iv aa, iv bb, iv sx, iv ddd, iv ee, iv md, iv c1, iv k1, iv b1, iv t1, iv c2, iv k2, iv b2, iv t2, iv kd, rv p2, rv q2, .unset, .unset, .unset] []) (fun _ k => XS.icmpYes X234.here hx rfl (pc0 := 161) (pc' := 170) rfl (hb hby at_161) rfl (feq hk2).2 (by decide) (by decide) k) ?_
        refine own_S (mkF m 172 #[iv aa, iv bb, iv sx, iv ddd, iv ee, iv md, iv c1, iv k1, iv b1, iv t1, iv c2, iv k2, iv b2, iv t2, iv kd, rv p2, rv q2, .unset, .unset, .unset] [(.int kd)]) (fun _ k => XS.iload X234.here hx rfl (hb hby at_170) rfl k) ?_
        refine own_S (mkF m 173 #[iv aa, iv bb, iv sx, iv ddd, iv ee, iv md, iv c1, iv k1, iv b1, iv t1, iv c2, iv k2, iv b2, iv t2, iv kd, rv p2, rv q2, .unset, .unset, .unset] [(.int 3), (.int kd)]) (fun _ k => XS.iconst X234.here hx rfl (hb hby at_172) k) ?_
        by_cases hk3 : kd = (3 : Int32)
        · -- kd = (3 : Int32)
          refine own_S (mkF m 176 #[iv aa, iv bb, iv sx, iv ddd, iv ee, iv md, iv c1, iv k1, iv b1, iv t1, iv c2, iv k2, iv b2, iv t2, iv kd, rv p2, rv q2, .unset, .unset, .unset] []) (fun _ k => XS.icmpNo X234.here hx rfl (hb hby at_173) rfl (teq hk3).2 k) ?_
          obtain ⟨T275, X275, e275, st275⟩ := getS (host := "") X234 hx hZ hown (own_g hw (i := 40) rfl) Via.refl rfl F246 (g := (mkF m 176 #[iv aa, iv bb, iv sx, iv ddd, iv ee, iv md, iv c1, iv k1, iv b1, iv t1, iv c2, iv k2, iv b2, iv t2, iv kd, rv p2, rv q2, .unset, .unset, .unset] [])) rfl (hb hby at_176)
          refine own_S (mkF m 179 #[iv aa, iv bb, iv sx, iv ddd, iv ee, iv md, iv c1, iv k1, iv b1, iv t1, iv c2, iv k2, iv b2, iv t2, iv kd, rv p2, rv q2, .unset, .unset, .unset] [(.ref ct)]) st275 ?_
          refine own_S (mkF m 181 #[iv aa, iv bb, iv sx, iv ddd, iv ee, iv md, iv c1, iv k1, iv b1, iv t1, iv c2, iv k2, iv b2, iv t2, iv kd, rv p2, rv q2, rv ct, .unset, .unset] []) (fun _ k => XS.astore X275.here hx rfl (hb hby at_179) rfl rfl (l' := #[iv aa, iv bb, iv sx, iv ddd, iv ee, iv md, iv c1, iv k1, iv b1, iv t1, iv c2, iv k2, iv b2, iv t2, iv kd, rv p2, rv q2, rv ct, .unset, .unset]) rfl k) ?_
          refine own_S (mkF m 188 #[iv aa, iv bb, iv sx, iv ddd, iv ee, iv md, iv c1, iv k1, iv b1, iv t1, iv c2, iv k2, iv b2, iv t2, iv kd, rv p2, rv q2, rv ct, .unset, .unset] []) (fun _ k => XS.goto X275.here hx rfl (pc0 := 181) (pc' := 188) rfl (hb hby at_181) (by decide) (by decide) k) ?_
          refine own_S (mkF m 190 #[iv aa, iv bb, iv sx, iv ddd, iv ee, iv md, iv c1, iv k1, iv b1, iv t1, iv c2, iv k2, iv b2, iv t2, iv kd, rv p2, rv q2, rv ct, .unset, .unset] [(.int kd)]) (fun _ k => XS.iload X275.here hx rfl (hb hby at_188) rfl k) ?_
          refine own_S (mkF m 191 #[iv aa, iv bb, iv sx, iv ddd, iv ee, iv md, iv c1, iv k1, iv b1, iv t1, iv c2, iv k2, iv b2, iv t2, iv kd, rv p2, rv q2, rv ct, .unset, .unset] [(.int 2), (.int kd)]) (fun _ k => XS.iconst X275.here hx rfl (hb hby at_190) k) ?_
          obtain ⟨xx, h_xx⟩ : ∃ z : Int32, z = (if kd < (2 : Int32) then (if c1 = c2 then (if k1 = k2 then (if b1 = b2 then (if b1 = (0 : Int32) then (1 : Int32) else (if t1 = t2 then (1 : Int32) else (0 : Int32))) else (0 : Int32)) else (0 : Int32)) else (0 : Int32)) else (0 : Int32)) := ⟨_, rfl⟩
          refine own_S (T' := T275) (mkF m 232 #[iv aa, iv bb, iv sx, iv ddd, iv ee, iv md, iv c1, iv k1, iv b1, iv t1, iv c2, iv k2, iv b2, iv t2, iv kd, rv p2, rv q2, rv ct, .unset, .unset] [(.int xx)]) (fun _ k => ?_) ?_
          ·
            by_cases hj276 : kd < (2 : Int32)
            ·
              refine own_s (mkF m 194 #[iv aa, iv bb, iv sx, iv ddd, iv ee, iv md, iv c1, iv k1, iv b1, iv t1, iv c2, iv k2, iv b2, iv t2, iv kd, rv p2, rv q2, rv ct, .unset, .unset] []) (fun _ k => XS.icmpNo X275.here hx rfl (hb hby at_191) rfl (tlt hj276).2.1 k) ?_
              refine own_s (mkF m 196 #[iv aa, iv bb, iv sx, iv ddd, iv ee, iv md, iv c1, iv k1, iv b1, iv t1, iv c2, iv k2, iv b2, iv t2, iv kd, rv p2, rv q2, rv ct, .unset, .unset] [(.int c1)]) (fun _ k => XS.iload X275.here hx rfl (hb hby at_194) rfl k) ?_
              refine own_s (mkF m 198 #[iv aa, iv bb, iv sx, iv ddd, iv ee, iv md, iv c1, iv k1, iv b1, iv t1, iv c2, iv k2, iv b2, iv t2, iv kd, rv p2, rv q2, rv ct, .unset, .unset] [(.int c2), (.int c1)]) (fun _ k => XS.iload X275.here hx rfl (hb hby at_196) rfl k) ?_
              by_cases hj277 : c1 = c2
              ·
                refine own_s (mkF m 201 #[iv aa, iv bb, iv sx, iv ddd, iv ee, iv md, iv c1, iv k1, iv b1, iv t1, iv c2, iv k2, iv b2, iv t2, iv kd, rv p2, rv q2, rv ct, .unset, .unset] []) (fun _ k => XS.icmpNo X275.here hx rfl (hb hby at_198) rfl (teq hj277).2 k) ?_
                refine own_s (mkF m 203 #[iv aa, iv bb, iv sx, iv ddd, iv ee, iv md, iv c1, iv k1, iv b1, iv t1, iv c2, iv k2, iv b2, iv t2, iv kd, rv p2, rv q2, rv ct, .unset, .unset] [(.int k1)]) (fun _ k => XS.iload X275.here hx rfl (hb hby at_201) rfl k) ?_
                refine own_s (mkF m 205 #[iv aa, iv bb, iv sx, iv ddd, iv ee, iv md, iv c1, iv k1, iv b1, iv t1, iv c2, iv k2, iv b2, iv t2, iv kd, rv p2, rv q2, rv ct, .unset, .unset] [(.int k2), (.int k1)]) (fun _ k => XS.iload X275.here hx rfl (hb hby at_203) rfl k) ?_
                by_cases hj278 : k1 = k2
                ·
                  refine own_s (mkF m 208 #[iv aa, iv bb, iv sx, iv ddd, iv ee, iv md, iv c1, iv k1, iv b1, iv t1, iv c2, iv k2, iv b2, iv t2, iv kd, rv p2, rv q2, rv ct, .unset, .unset] []) (fun _ k => XS.icmpNo X275.here hx rfl (hb hby at_205) rfl (teq hj278).2 k) ?_
                  refine own_s (mkF m 210 #[iv aa, iv bb, iv sx, iv ddd, iv ee, iv md, iv c1, iv k1, iv b1, iv t1, iv c2, iv k2, iv b2, iv t2, iv kd, rv p2, rv q2, rv ct, .unset, .unset] [(.int b1)]) (fun _ k => XS.iload X275.here hx rfl (hb hby at_208) rfl k) ?_
                  refine own_s (mkF m 212 #[iv aa, iv bb, iv sx, iv ddd, iv ee, iv md, iv c1, iv k1, iv b1, iv t1, iv c2, iv k2, iv b2, iv t2, iv kd, rv p2, rv q2, rv ct, .unset, .unset] [(.int b2), (.int b1)]) (fun _ k => XS.iload X275.here hx rfl (hb hby at_210) rfl k) ?_
                  by_cases hj279 : b1 = b2
                  ·
                    refine own_s (mkF m 215 #[iv aa, iv bb, iv sx, iv ddd, iv ee, iv md, iv c1, iv k1, iv b1, iv t1, iv c2, iv k2, iv b2, iv t2, iv kd, rv p2, rv q2, rv ct, .unset, .unset] []) (fun _ k => XS.icmpNo X275.here hx rfl (hb hby at_212) rfl (teq hj279).2 k) ?_
                    refine own_s (mkF m 217 #[iv aa, iv bb, iv sx, iv ddd, iv ee, iv md, iv c1, iv k1, iv b1, iv t1, iv c2, iv k2, iv b2, iv t2, iv kd, rv p2, rv q2, rv ct, .unset, .unset] [(.int b1)]) (fun _ k => XS.iload X275.here hx rfl (hb hby at_215) rfl k) ?_
                    by_cases hj280 : b1 = (0 : Int32)
                    ·
                      refine own_s (mkF m 227 #[iv aa, iv bb, iv sx, iv ddd, iv ee, iv md, iv c1, iv k1, iv b1, iv t1, iv c2, iv k2, iv b2, iv t2, iv kd, rv p2, rv q2, rv ct, .unset, .unset] []) (fun _ k => XS.ifYes X275.here hx rfl (pc0 := 217) (pc' := 227) rfl (hb hby at_217) rfl ((if0 _ _).trans (teq hj280).1) (by decide) (by decide) k) ?_
                      refine own_s (mkF m 228 #[iv aa, iv bb, iv sx, iv ddd, iv ee, iv md, iv c1, iv k1, iv b1, iv t1, iv c2, iv k2, iv b2, iv t2, iv kd, rv p2, rv q2, rv ct, .unset, .unset] [(.int 1)]) (fun _ k => XS.iconst X275.here hx rfl (hb hby at_227) k) ?_
                      refine own_s (mkF m 232 #[iv aa, iv bb, iv sx, iv ddd, iv ee, iv md, iv c1, iv k1, iv b1, iv t1, iv c2, iv k2, iv b2, iv t2, iv kd, rv p2, rv q2, rv ct, .unset, .unset] [(.int 1)]) (fun _ k => XS.goto X275.here hx rfl (pc0 := 228) (pc' := 232) rfl (hb hby at_228) (by decide) (by decide) k) ?_
                      rw [show xx = (1 : Int32) from by rw [h_xx, if_pos hj276, if_pos hj277, if_pos hj278, if_pos hj279, if_pos hj280]] at k
                      exact k
                    ·
                      refine own_s (mkF m 220 #[iv aa, iv bb, iv sx, iv ddd, iv ee, iv md, iv c1, iv k1, iv b1, iv t1, iv c2, iv k2, iv b2, iv t2, iv kd, rv p2, rv q2, rv ct, .unset, .unset] []) (fun _ k => XS.ifNo X275.here hx rfl (hb hby at_217) rfl ((if0 _ _).trans (feq hj280).1) k) ?_
                      refine own_s (mkF m 222 #[iv aa, iv bb, iv sx, iv ddd, iv ee, iv md, iv c1, iv k1, iv b1, iv t1, iv c2, iv k2, iv b2, iv t2, iv kd, rv p2, rv q2, rv ct, .unset, .unset] [(.int t1)]) (fun _ k => XS.iload X275.here hx rfl (hb hby at_220) rfl k) ?_
                      refine own_s (mkF m 224 #[iv aa, iv bb, iv sx, iv ddd, iv ee, iv md, iv c1, iv k1, iv b1, iv t1, iv c2, iv k2, iv b2, iv t2, iv kd, rv p2, rv q2, rv ct, .unset, .unset] [(.int t2), (.int t1)]) (fun _ k => XS.iload X275.here hx rfl (hb hby at_222) rfl k) ?_
                      by_cases hj281 : t1 = t2
                      ·
                        refine own_s (mkF m 227 #[iv aa, iv bb, iv sx, iv ddd, iv ee, iv md, iv c1, iv k1, iv b1, iv t1, iv c2, iv k2, iv b2, iv t2, iv kd, rv p2, rv q2, rv ct, .unset, .unset] []) (fun _ k => XS.icmpNo X275.here hx rfl (hb hby at_224) rfl (teq hj281).2 k) ?_
                        refine own_s (mkF m 228 #[iv aa, iv bb, iv sx, iv ddd, iv ee, iv md, iv c1, iv k1, iv b1, iv t1, iv c2, iv k2, iv b2, iv t2, iv kd, rv p2, rv q2, rv ct, .unset, .unset] [(.int 1)]) (fun _ k => XS.iconst X275.here hx rfl (hb hby at_227) k) ?_
                        refine own_s (mkF m 232 #[iv aa, iv bb, iv sx, iv ddd, iv ee, iv md, iv c1, iv k1, iv b1, iv t1, iv c2, iv k2, iv b2, iv t2, iv kd, rv p2, rv q2, rv ct, .unset, .unset] [(.int 1)]) (fun _ k => XS.goto X275.here hx rfl (pc0 := 228) (pc' := 232) rfl (hb hby at_228) (by decide) (by decide) k) ?_
                        rw [show xx = (1 : Int32) from by rw [h_xx, if_pos hj276, if_pos hj277, if_pos hj278, if_pos hj279, if_neg hj280, if_pos hj281]] at k
                        exact k
                      ·
                        refine own_s (mkF m 231 #[iv aa, iv bb, iv sx, iv ddd, iv ee, iv md, iv c1, iv k1, iv b1, iv t1, iv c2, iv k2, iv b2, iv t2, iv kd, rv p2, rv q2, rv ct, .unset, .unset] []) (fun _ k => XS.icmpYes X275.here hx rfl (pc0 := 224) (pc' := 231) rfl (hb hby at_224) rfl (feq hj281).2 (by decide) (by decide) k) ?_
                        refine own_s (mkF m 232 #[iv aa, iv bb, iv sx, iv ddd, iv ee, iv md, iv c1, iv k1, iv b1, iv t1, iv c2, iv k2, iv b2, iv t2, iv kd, rv p2, rv q2, rv ct, .unset, .unset] [(.int 0)]) (fun _ k => XS.iconst X275.here hx rfl (hb hby at_231) k) ?_
                        rw [show xx = (0 : Int32) from by rw [h_xx, if_pos hj276, if_pos hj277, if_pos hj278, if_pos hj279, if_neg hj280, if_neg hj281]] at k
                        exact k
                  ·
                    refine own_s (mkF m 231 #[iv aa, iv bb, iv sx, iv ddd, iv ee, iv md, iv c1, iv k1, iv b1, iv t1, iv c2, iv k2, iv b2, iv t2, iv kd, rv p2, rv q2, rv ct, .unset, .unset] []) (fun _ k => XS.icmpYes X275.here hx rfl (pc0 := 212) (pc' := 231) rfl (hb hby at_212) rfl (feq hj279).2 (by decide) (by decide) k) ?_
                    refine own_s (mkF m 232 #[iv aa, iv bb, iv sx, iv ddd, iv ee, iv md, iv c1, iv k1, iv b1, iv t1, iv c2, iv k2, iv b2, iv t2, iv kd, rv p2, rv q2, rv ct, .unset, .unset] [(.int 0)]) (fun _ k => XS.iconst X275.here hx rfl (hb hby at_231) k) ?_
                    rw [show xx = (0 : Int32) from by rw [h_xx, if_pos hj276, if_pos hj277, if_pos hj278, if_neg hj279]] at k
                    exact k
                ·
                  refine own_s (mkF m 231 #[iv aa, iv bb, iv sx, iv ddd, iv ee, iv md, iv c1, iv k1, iv b1, iv t1, iv c2, iv k2, iv b2, iv t2, iv kd, rv p2, rv q2, rv ct, .unset, .unset] []) (fun _ k => XS.icmpYes X275.here hx rfl (pc0 := 205) (pc' := 231) rfl (hb hby at_205) rfl (feq hj278).2 (by decide) (by decide) k) ?_
                  refine own_s (mkF m 232 #[iv aa, iv bb, iv sx, iv ddd, iv ee, iv md, iv c1, iv k1, iv b1, iv t1, iv c2, iv k2, iv b2, iv t2, iv kd, rv p2, rv q2, rv ct, .unset, .unset] [(.int 0)]) (fun _ k => XS.iconst X275.here hx rfl (hb hby at_231) k) ?_
                  rw [show xx = (0 : Int32) from by rw [h_xx, if_pos hj276, if_pos hj277, if_neg hj278]] at k
                  exact k
              ·
                refine own_s (mkF m 231 #[iv aa, iv bb, iv sx, iv ddd, iv ee, iv md, iv c1, iv k1, iv b1, iv t1, iv c2, iv k2, iv b2, iv t2, iv kd, rv p2, rv q2, rv ct, .unset, .unset] []) (fun _ k => XS.icmpYes X275.here hx rfl (pc0 := 198) (pc' := 231) rfl (hb hby at_198) rfl (feq hj277).2 (by decide) (by decide) k) ?_
                refine own_s (mkF m 232 #[iv aa, iv bb, iv sx, iv ddd, iv ee, iv md, iv c1, iv k1, iv b1, iv t1, iv c2, iv k2, iv b2, iv t2, iv kd, rv p2, rv q2, rv ct, .unset, .unset] [(.int 0)]) (fun _ k => XS.iconst X275.here hx rfl (hb hby at_231) k) ?_
                rw [show xx = (0 : Int32) from by rw [h_xx, if_pos hj276, if_neg hj277]] at k
                exact k
            ·
              refine own_s (mkF m 231 #[iv aa, iv bb, iv sx, iv ddd, iv ee, iv md, iv c1, iv k1, iv b1, iv t1, iv c2, iv k2, iv b2, iv t2, iv kd, rv p2, rv q2, rv ct, .unset, .unset] []) (fun _ k => XS.icmpYes X275.here hx rfl (pc0 := 191) (pc' := 231) rfl (hb hby at_191) rfl (flt hj276).2.1 (by decide) (by decide) k) ?_
              refine own_s (mkF m 232 #[iv aa, iv bb, iv sx, iv ddd, iv ee, iv md, iv c1, iv k1, iv b1, iv t1, iv c2, iv k2, iv b2, iv t2, iv kd, rv p2, rv q2, rv ct, .unset, .unset] [(.int 0)]) (fun _ k => XS.iconst X275.here hx rfl (hb hby at_231) k) ?_
              rw [show xx = (0 : Int32) from by rw [h_xx, if_neg hj276]] at k
              exact k
          refine own_S (mkF m 234 #[iv aa, iv bb, iv sx, iv ddd, iv ee, iv md, iv c1, iv k1, iv b1, iv t1, iv c2, iv k2, iv b2, iv t2, iv kd, rv p2, rv q2, rv ct, iv xx, .unset] []) (fun _ k => XS.istore X275.here hx rfl (hb hby at_232) rfl (l' := #[iv aa, iv bb, iv sx, iv ddd, iv ee, iv md, iv c1, iv k1, iv b1, iv t1, iv c2, iv k2, iv b2, iv t2, iv kd, rv p2, rv q2, rv ct, iv xx, .unset]) rfl k) ?_
          refine own_S (mkF m 236 #[iv aa, iv bb, iv sx, iv ddd, iv ee, iv md, iv c1, iv k1, iv b1, iv t1, iv c2, iv k2, iv b2, iv t2, iv kd, rv p2, rv q2, rv ct, iv xx, .unset] [(.ref p2)]) (fun _ k => XS.aload X275.here hx rfl (hb hby at_234) rfl rfl k) ?_
          refine own_S (mkF m 238 #[iv aa, iv bb, iv sx, iv ddd, iv ee, iv md, iv c1, iv k1, iv b1, iv t1, iv c2, iv k2, iv b2, iv t2, iv kd, rv p2, rv q2, rv ct, iv xx, .unset] [(.ref ct), (.ref p2)]) (fun _ k => XS.aload X275.here hx rfl (hb hby at_236) rfl rfl k) ?_
          obtain ⟨cq282, kq282, q282a, q282b, q282c⟩ := isOf hZ e275 F254
          obtain ⟨_, _, ⟨T282, L282, k282, n282⟩, -, X282, ⟨Lc282, hQ282, l282, y282, z282⟩, st282⟩ := X275.virtualBack hx (y := own_y4) (z := own_y4) hown (mvT hZ (own_g hw (i := 34) rfl)) (mvT hZ (own_g hw (i := 35) rfl)) (notFace_of_selects (args := #[]) (mvT hZ (own_g hw (i := 37) rfl))) (mvT hZ (own_g hw (i := 37) rfl)) (mvT hZ (own_g hw (i := 36) rfl)) (by decide) (backOf (W := 0) (own_rmec l Z a0 hw [] (p2) (ct) T234.heap n0 Z234 F247) hZ (own_g hw (i := 38) rfl) (own_g hw (i := 3) rfl) (by decide) (by decide)) q282a q282c (g := (mkF m 238 #[iv aa, iv bb, iv sx, iv ddd, iv ee, iv md, iv c1, iv k1, iv b1, iv t1, iv c2, iv k2, iv b2, iv t2, iv kd, rv p2, rv q2, rv ct, iv xx, .unset] [(.ref ct), (.ref p2)])) rfl (by rw [hml]; rfl) (Steps.refl _) (argsL := [(.ref ct)]) (rest := []) (lenOf own_pd__Ljava_lang_Object__Z rfl) rfl (by show 2 * 0 + _ ≤ _; exact Nat.le_of_eq rfl) (hb hby at_238) (fun _ _ => ⟨rfl, e275, (by decide : 4 + 0 ≤ _), (by decide : 20 + 0 ≤ _)⟩)
          dsimp only [Pt.U, Pt.locs, Pt.cells, Pt.slots] at X282 l282 y282 z282 st282 hQ282
          subst l282 y282 z282
          obtain ⟨rfl, N282q, e282⟩ := hQ282
          have N282 := Fr.app N234 N282q
          refine own_S (mkF m 241 #[iv aa, iv bb, iv sx, iv ddd, iv ee, iv md, iv c1, iv k1, iv b1, iv t1, iv c2, iv k2, iv b2, iv t2, iv kd, rv p2, rv q2, rv ct, iv xx, .unset] [(.int 0)]) (fun _ k => st282.trans k) ?_
          refine own_S (mkF m 243 #[iv aa, iv bb, iv sx, iv ddd, iv ee, iv md, iv c1, iv k1, iv b1, iv t1, iv c2, iv k2, iv b2, iv t2, iv kd, rv p2, rv q2, rv ct, iv xx, .unset] [(.int xx), (.int 0)]) (fun _ k => XS.iload X282.here hx rfl (hb hby at_241) rfl k) ?_
          obtain ⟨ok, h_ok⟩ : ∃ z : Int32, z = (if (0 : Int32) = xx then (1 : Int32) else (0 : Int32)) := ⟨_, rfl⟩
          refine own_S (T' := T282) (mkF m 251 #[iv aa, iv bb, iv sx, iv ddd, iv ee, iv md, iv c1, iv k1, iv b1, iv t1, iv c2, iv k2, iv b2, iv t2, iv kd, rv p2, rv q2, rv ct, iv xx, .unset] [(.int ok)]) (fun _ k => ?_) ?_
          ·
            by_cases hj283 : (0 : Int32) = xx
            ·
              refine own_s (mkF m 246 #[iv aa, iv bb, iv sx, iv ddd, iv ee, iv md, iv c1, iv k1, iv b1, iv t1, iv c2, iv k2, iv b2, iv t2, iv kd, rv p2, rv q2, rv ct, iv xx, .unset] []) (fun _ k => XS.icmpNo X282.here hx rfl (hb hby at_243) rfl (teq hj283).2 k) ?_
              refine own_s (mkF m 247 #[iv aa, iv bb, iv sx, iv ddd, iv ee, iv md, iv c1, iv k1, iv b1, iv t1, iv c2, iv k2, iv b2, iv t2, iv kd, rv p2, rv q2, rv ct, iv xx, .unset] [(.int 1)]) (fun _ k => XS.iconst X282.here hx rfl (hb hby at_246) k) ?_
              refine own_s (mkF m 251 #[iv aa, iv bb, iv sx, iv ddd, iv ee, iv md, iv c1, iv k1, iv b1, iv t1, iv c2, iv k2, iv b2, iv t2, iv kd, rv p2, rv q2, rv ct, iv xx, .unset] [(.int 1)]) (fun _ k => XS.goto X282.here hx rfl (pc0 := 247) (pc' := 251) rfl (hb hby at_247) (by decide) (by decide) k) ?_
              rw [show ok = (1 : Int32) from by rw [h_ok, if_pos hj283]] at k
              exact k
            ·
              refine own_s (mkF m 250 #[iv aa, iv bb, iv sx, iv ddd, iv ee, iv md, iv c1, iv k1, iv b1, iv t1, iv c2, iv k2, iv b2, iv t2, iv kd, rv p2, rv q2, rv ct, iv xx, .unset] []) (fun _ k => XS.icmpYes X282.here hx rfl (pc0 := 243) (pc' := 250) rfl (hb hby at_243) rfl (feq hj283).2 (by decide) (by decide) k) ?_
              refine own_s (mkF m 251 #[iv aa, iv bb, iv sx, iv ddd, iv ee, iv md, iv c1, iv k1, iv b1, iv t1, iv c2, iv k2, iv b2, iv t2, iv kd, rv p2, rv q2, rv ct, iv xx, .unset] [(.int 0)]) (fun _ k => XS.iconst X282.here hx rfl (hb hby at_250) k) ?_
              rw [show ok = (0 : Int32) from by rw [h_ok, if_neg hj283]] at k
              exact k
          refine own_S (mkF m 253 #[iv aa, iv bb, iv sx, iv ddd, iv ee, iv md, iv c1, iv k1, iv b1, iv t1, iv c2, iv k2, iv b2, iv t2, iv kd, rv p2, rv q2, rv ct, iv xx, iv ok] []) (fun _ k => XS.istore X282.here hx rfl (hb hby at_251) rfl (l' := #[iv aa, iv bb, iv sx, iv ddd, iv ee, iv md, iv c1, iv k1, iv b1, iv t1, iv c2, iv k2, iv b2, iv t2, iv kd, rv p2, rv q2, rv ct, iv xx, iv ok]) rfl k) ?_
          refine own_S (mkF m 255 #[iv aa, iv bb, iv sx, iv ddd, iv ee, iv md, iv c1, iv k1, iv b1, iv t1, iv c2, iv k2, iv b2, iv t2, iv kd, rv p2, rv q2, rv ct, iv xx, iv ok] [(.int kd)]) (fun _ k => XS.iload X282.here hx rfl (hb hby at_253) rfl k) ?_
          refine own_S (mkF m 256 #[iv aa, iv bb, iv sx, iv ddd, iv ee, iv md, iv c1, iv k1, iv b1, iv t1, iv c2, iv k2, iv b2, iv t2, iv kd, rv p2, rv q2, rv ct, iv xx, iv ok] [(.int 2), (.int kd)]) (fun _ k => XS.iconst X282.here hx rfl (hb hby at_255) k) ?_
          have hc284 : ¬ (kd < (2 : Int32)) := (by rw [hk3]; decide)
          refine own_S (mkF m 283 #[iv aa, iv bb, iv sx, iv ddd, iv ee, iv md, iv c1, iv k1, iv b1, iv t1, iv c2, iv k2, iv b2, iv t2, iv kd, rv p2, rv q2, rv ct, iv xx, iv ok] []) (fun _ k => XS.icmpYes X282.here hx rfl (pc0 := 256) (pc' := 283) rfl (hb hby at_256) rfl (flt hc284).2.1 (by decide) (by decide) k) ?_
          refine own_S (mkF m 285 #[iv aa, iv bb, iv sx, iv ddd, iv ee, iv md, iv c1, iv k1, iv b1, iv t1, iv c2, iv k2, iv b2, iv t2, iv kd, rv p2, rv q2, rv ct, iv xx, iv ok] [(.int ok)]) (fun _ k => XS.iload X282.here hx rfl (hb hby at_283) rfl k) ?_
          exact own_retN X282 hx hlk (t := .boolean) hret (by simp) (hb hby at_285) (by rw [e282]; exact ⟨(by rw [h_ok, h_xx, if_neg (show ¬ kd < (2 : Int32) by rw [hk3]; decide), if_pos rfl]; rfl), N282, trivial⟩) (by decide) (by decide)
        · -- not kd = (3 : Int32)
          refine own_S (mkF m 184 #[iv aa, iv bb, iv sx, iv ddd, iv ee, iv md, iv c1, iv k1, iv b1, iv t1, iv c2, iv k2, iv b2, iv t2, iv kd, rv p2, rv q2, .unset, .unset, .unset] []) (fun _ k => XS.icmpYes X234.here hx rfl (pc0 := 173) (pc' := 184) rfl (hb hby at_173) rfl (feq hk3).2 (by decide) (by decide) k) ?_
          refine own_S (mkF m 186 #[iv aa, iv bb, iv sx, iv ddd, iv ee, iv md, iv c1, iv k1, iv b1, iv t1, iv c2, iv k2, iv b2, iv t2, iv kd, rv p2, rv q2, .unset, .unset, .unset] [(.ref q2)]) (fun _ k => XS.aload X234.here hx rfl (hb hby at_184) rfl rfl k) ?_
          refine own_S (mkF m 188 #[iv aa, iv bb, iv sx, iv ddd, iv ee, iv md, iv c1, iv k1, iv b1, iv t1, iv c2, iv k2, iv b2, iv t2, iv kd, rv p2, rv q2, rv q2, .unset, .unset] []) (fun _ k => XS.astore X234.here hx rfl (hb hby at_186) rfl rfl (l' := #[iv aa, iv bb, iv sx, iv ddd, iv ee, iv md, iv c1, iv k1, iv b1, iv t1, iv c2, iv k2, iv b2, iv t2, iv kd, rv p2, rv q2, rv q2, .unset, .unset]) rfl k) ?_
          refine own_S (mkF m 190 #[iv aa, iv bb, iv sx, iv ddd, iv ee, iv md, iv c1, iv k1, iv b1, iv t1, iv c2, iv k2, iv b2, iv t2, iv kd, rv p2, rv q2, rv q2, .unset, .unset] [(.int kd)]) (fun _ k => XS.iload X234.here hx rfl (hb hby at_188) rfl k) ?_
          refine own_S (mkF m 191 #[iv aa, iv bb, iv sx, iv ddd, iv ee, iv md, iv c1, iv k1, iv b1, iv t1, iv c2, iv k2, iv b2, iv t2, iv kd, rv p2, rv q2, rv q2, .unset, .unset] [(.int 2), (.int kd)]) (fun _ k => XS.iconst X234.here hx rfl (hb hby at_190) k) ?_
          obtain ⟨xx, h_xx⟩ : ∃ z : Int32, z = (if kd < (2 : Int32) then (if c1 = c2 then (if k1 = k2 then (if b1 = b2 then (if b1 = (0 : Int32) then (1 : Int32) else (if t1 = t2 then (1 : Int32) else (0 : Int32))) else (0 : Int32)) else (0 : Int32)) else (0 : Int32)) else (0 : Int32)) := ⟨_, rfl⟩
          refine own_S (T' := T234) (mkF m 232 #[iv aa, iv bb, iv sx, iv ddd, iv ee, iv md, iv c1, iv k1, iv b1, iv t1, iv c2, iv k2, iv b2, iv t2, iv kd, rv p2, rv q2, rv q2, .unset, .unset] [(.int xx)]) (fun _ k => ?_) ?_
          ·
            by_cases hj285 : kd < (2 : Int32)
            ·
              refine own_s (mkF m 194 #[iv aa, iv bb, iv sx, iv ddd, iv ee, iv md, iv c1, iv k1, iv b1, iv t1, iv c2, iv k2, iv b2, iv t2, iv kd, rv p2, rv q2, rv q2, .unset, .unset] []) (fun _ k => XS.icmpNo X234.here hx rfl (hb hby at_191) rfl (tlt hj285).2.1 k) ?_
              refine own_s (mkF m 196 #[iv aa, iv bb, iv sx, iv ddd, iv ee, iv md, iv c1, iv k1, iv b1, iv t1, iv c2, iv k2, iv b2, iv t2, iv kd, rv p2, rv q2, rv q2, .unset, .unset] [(.int c1)]) (fun _ k => XS.iload X234.here hx rfl (hb hby at_194) rfl k) ?_
              refine own_s (mkF m 198 #[iv aa, iv bb, iv sx, iv ddd, iv ee, iv md, iv c1, iv k1, iv b1, iv t1, iv c2, iv k2, iv b2, iv t2, iv kd, rv p2, rv q2, rv q2, .unset, .unset] [(.int c2), (.int c1)]) (fun _ k => XS.iload X234.here hx rfl (hb hby at_196) rfl k) ?_
              by_cases hj286 : c1 = c2
              ·
                refine own_s (mkF m 201 #[iv aa, iv bb, iv sx, iv ddd, iv ee, iv md, iv c1, iv k1, iv b1, iv t1, iv c2, iv k2, iv b2, iv t2, iv kd, rv p2, rv q2, rv q2, .unset, .unset] []) (fun _ k => XS.icmpNo X234.here hx rfl (hb hby at_198) rfl (teq hj286).2 k) ?_
                refine own_s (mkF m 203 #[iv aa, iv bb, iv sx, iv ddd, iv ee, iv md, iv c1, iv k1, iv b1, iv t1, iv c2, iv k2, iv b2, iv t2, iv kd, rv p2, rv q2, rv q2, .unset, .unset] [(.int k1)]) (fun _ k => XS.iload X234.here hx rfl (hb hby at_201) rfl k) ?_
                refine own_s (mkF m 205 #[iv aa, iv bb, iv sx, iv ddd, iv ee, iv md, iv c1, iv k1, iv b1, iv t1, iv c2, iv k2, iv b2, iv t2, iv kd, rv p2, rv q2, rv q2, .unset, .unset] [(.int k2), (.int k1)]) (fun _ k => XS.iload X234.here hx rfl (hb hby at_203) rfl k) ?_
                by_cases hj287 : k1 = k2
                ·
                  refine own_s (mkF m 208 #[iv aa, iv bb, iv sx, iv ddd, iv ee, iv md, iv c1, iv k1, iv b1, iv t1, iv c2, iv k2, iv b2, iv t2, iv kd, rv p2, rv q2, rv q2, .unset, .unset] []) (fun _ k => XS.icmpNo X234.here hx rfl (hb hby at_205) rfl (teq hj287).2 k) ?_
                  refine own_s (mkF m 210 #[iv aa, iv bb, iv sx, iv ddd, iv ee, iv md, iv c1, iv k1, iv b1, iv t1, iv c2, iv k2, iv b2, iv t2, iv kd, rv p2, rv q2, rv q2, .unset, .unset] [(.int b1)]) (fun _ k => XS.iload X234.here hx rfl (hb hby at_208) rfl k) ?_
                  refine own_s (mkF m 212 #[iv aa, iv bb, iv sx, iv ddd, iv ee, iv md, iv c1, iv k1, iv b1, iv t1, iv c2, iv k2, iv b2, iv t2, iv kd, rv p2, rv q2, rv q2, .unset, .unset] [(.int b2), (.int b1)]) (fun _ k => XS.iload X234.here hx rfl (hb hby at_210) rfl k) ?_
                  by_cases hj288 : b1 = b2
                  ·
                    refine own_s (mkF m 215 #[iv aa, iv bb, iv sx, iv ddd, iv ee, iv md, iv c1, iv k1, iv b1, iv t1, iv c2, iv k2, iv b2, iv t2, iv kd, rv p2, rv q2, rv q2, .unset, .unset] []) (fun _ k => XS.icmpNo X234.here hx rfl (hb hby at_212) rfl (teq hj288).2 k) ?_
                    refine own_s (mkF m 217 #[iv aa, iv bb, iv sx, iv ddd, iv ee, iv md, iv c1, iv k1, iv b1, iv t1, iv c2, iv k2, iv b2, iv t2, iv kd, rv p2, rv q2, rv q2, .unset, .unset] [(.int b1)]) (fun _ k => XS.iload X234.here hx rfl (hb hby at_215) rfl k) ?_
                    by_cases hj289 : b1 = (0 : Int32)
                    ·
                      refine own_s (mkF m 227 #[iv aa, iv bb, iv sx, iv ddd, iv ee, iv md, iv c1, iv k1, iv b1, iv t1, iv c2, iv k2, iv b2, iv t2, iv kd, rv p2, rv q2, rv q2, .unset, .unset] []) (fun _ k => XS.ifYes X234.here hx rfl (pc0 := 217) (pc' := 227) rfl (hb hby at_217) rfl ((if0 _ _).trans (teq hj289).1) (by decide) (by decide) k) ?_
                      refine own_s (mkF m 228 #[iv aa, iv bb, iv sx, iv ddd, iv ee, iv md, iv c1, iv k1, iv b1, iv t1, iv c2, iv k2, iv b2, iv t2, iv kd, rv p2, rv q2, rv q2, .unset, .unset] [(.int 1)]) (fun _ k => XS.iconst X234.here hx rfl (hb hby at_227) k) ?_
                      refine own_s (mkF m 232 #[iv aa, iv bb, iv sx, iv ddd, iv ee, iv md, iv c1, iv k1, iv b1, iv t1, iv c2, iv k2, iv b2, iv t2, iv kd, rv p2, rv q2, rv q2, .unset, .unset] [(.int 1)]) (fun _ k => XS.goto X234.here hx rfl (pc0 := 228) (pc' := 232) rfl (hb hby at_228) (by decide) (by decide) k) ?_
                      rw [show xx = (1 : Int32) from by rw [h_xx, if_pos hj285, if_pos hj286, if_pos hj287, if_pos hj288, if_pos hj289]] at k
                      exact k
                    ·
                      refine own_s (mkF m 220 #[iv aa, iv bb, iv sx, iv ddd, iv ee, iv md, iv c1, iv k1, iv b1, iv t1, iv c2, iv k2, iv b2, iv t2, iv kd, rv p2, rv q2, rv q2, .unset, .unset] []) (fun _ k => XS.ifNo X234.here hx rfl (hb hby at_217) rfl ((if0 _ _).trans (feq hj289).1) k) ?_
                      refine own_s (mkF m 222 #[iv aa, iv bb, iv sx, iv ddd, iv ee, iv md, iv c1, iv k1, iv b1, iv t1, iv c2, iv k2, iv b2, iv t2, iv kd, rv p2, rv q2, rv q2, .unset, .unset] [(.int t1)]) (fun _ k => XS.iload X234.here hx rfl (hb hby at_220) rfl k) ?_
                      refine own_s (mkF m 224 #[iv aa, iv bb, iv sx, iv ddd, iv ee, iv md, iv c1, iv k1, iv b1, iv t1, iv c2, iv k2, iv b2, iv t2, iv kd, rv p2, rv q2, rv q2, .unset, .unset] [(.int t2), (.int t1)]) (fun _ k => XS.iload X234.here hx rfl (hb hby at_222) rfl k) ?_
                      by_cases hj290 : t1 = t2
                      ·
                        refine own_s (mkF m 227 #[iv aa, iv bb, iv sx, iv ddd, iv ee, iv md, iv c1, iv k1, iv b1, iv t1, iv c2, iv k2, iv b2, iv t2, iv kd, rv p2, rv q2, rv q2, .unset, .unset] []) (fun _ k => XS.icmpNo X234.here hx rfl (hb hby at_224) rfl (teq hj290).2 k) ?_
                        refine own_s (mkF m 228 #[iv aa, iv bb, iv sx, iv ddd, iv ee, iv md, iv c1, iv k1, iv b1, iv t1, iv c2, iv k2, iv b2, iv t2, iv kd, rv p2, rv q2, rv q2, .unset, .unset] [(.int 1)]) (fun _ k => XS.iconst X234.here hx rfl (hb hby at_227) k) ?_
                        refine own_s (mkF m 232 #[iv aa, iv bb, iv sx, iv ddd, iv ee, iv md, iv c1, iv k1, iv b1, iv t1, iv c2, iv k2, iv b2, iv t2, iv kd, rv p2, rv q2, rv q2, .unset, .unset] [(.int 1)]) (fun _ k => XS.goto X234.here hx rfl (pc0 := 228) (pc' := 232) rfl (hb hby at_228) (by decide) (by decide) k) ?_
                        rw [show xx = (1 : Int32) from by rw [h_xx, if_pos hj285, if_pos hj286, if_pos hj287, if_pos hj288, if_neg hj289, if_pos hj290]] at k
                        exact k
                      ·
                        refine own_s (mkF m 231 #[iv aa, iv bb, iv sx, iv ddd, iv ee, iv md, iv c1, iv k1, iv b1, iv t1, iv c2, iv k2, iv b2, iv t2, iv kd, rv p2, rv q2, rv q2, .unset, .unset] []) (fun _ k => XS.icmpYes X234.here hx rfl (pc0 := 224) (pc' := 231) rfl (hb hby at_224) rfl (feq hj290).2 (by decide) (by decide) k) ?_
                        refine own_s (mkF m 232 #[iv aa, iv bb, iv sx, iv ddd, iv ee, iv md, iv c1, iv k1, iv b1, iv t1, iv c2, iv k2, iv b2, iv t2, iv kd, rv p2, rv q2, rv q2, .unset, .unset] [(.int 0)]) (fun _ k => XS.iconst X234.here hx rfl (hb hby at_231) k) ?_
                        rw [show xx = (0 : Int32) from by rw [h_xx, if_pos hj285, if_pos hj286, if_pos hj287, if_pos hj288, if_neg hj289, if_neg hj290]] at k
                        exact k
                  ·
                    refine own_s (mkF m 231 #[iv aa, iv bb, iv sx, iv ddd, iv ee, iv md, iv c1, iv k1, iv b1, iv t1, iv c2, iv k2, iv b2, iv t2, iv kd, rv p2, rv q2, rv q2, .unset, .unset] []) (fun _ k => XS.icmpYes X234.here hx rfl (pc0 := 212) (pc' := 231) rfl (hb hby at_212) rfl (feq hj288).2 (by decide) (by decide) k) ?_
                    refine own_s (mkF m 232 #[iv aa, iv bb, iv sx, iv ddd, iv ee, iv md, iv c1, iv k1, iv b1, iv t1, iv c2, iv k2, iv b2, iv t2, iv kd, rv p2, rv q2, rv q2, .unset, .unset] [(.int 0)]) (fun _ k => XS.iconst X234.here hx rfl (hb hby at_231) k) ?_
                    rw [show xx = (0 : Int32) from by rw [h_xx, if_pos hj285, if_pos hj286, if_pos hj287, if_neg hj288]] at k
                    exact k
                ·
                  refine own_s (mkF m 231 #[iv aa, iv bb, iv sx, iv ddd, iv ee, iv md, iv c1, iv k1, iv b1, iv t1, iv c2, iv k2, iv b2, iv t2, iv kd, rv p2, rv q2, rv q2, .unset, .unset] []) (fun _ k => XS.icmpYes X234.here hx rfl (pc0 := 205) (pc' := 231) rfl (hb hby at_205) rfl (feq hj287).2 (by decide) (by decide) k) ?_
                  refine own_s (mkF m 232 #[iv aa, iv bb, iv sx, iv ddd, iv ee, iv md, iv c1, iv k1, iv b1, iv t1, iv c2, iv k2, iv b2, iv t2, iv kd, rv p2, rv q2, rv q2, .unset, .unset] [(.int 0)]) (fun _ k => XS.iconst X234.here hx rfl (hb hby at_231) k) ?_
                  rw [show xx = (0 : Int32) from by rw [h_xx, if_pos hj285, if_pos hj286, if_neg hj287]] at k
                  exact k
              ·
                refine own_s (mkF m 231 #[iv aa, iv bb, iv sx, iv ddd, iv ee, iv md, iv c1, iv k1, iv b1, iv t1, iv c2, iv k2, iv b2, iv t2, iv kd, rv p2, rv q2, rv q2, .unset, .unset] []) (fun _ k => XS.icmpYes X234.here hx rfl (pc0 := 198) (pc' := 231) rfl (hb hby at_198) rfl (feq hj286).2 (by decide) (by decide) k) ?_
                refine own_s (mkF m 232 #[iv aa, iv bb, iv sx, iv ddd, iv ee, iv md, iv c1, iv k1, iv b1, iv t1, iv c2, iv k2, iv b2, iv t2, iv kd, rv p2, rv q2, rv q2, .unset, .unset] [(.int 0)]) (fun _ k => XS.iconst X234.here hx rfl (hb hby at_231) k) ?_
                rw [show xx = (0 : Int32) from by rw [h_xx, if_pos hj285, if_neg hj286]] at k
                exact k
            ·
              refine own_s (mkF m 231 #[iv aa, iv bb, iv sx, iv ddd, iv ee, iv md, iv c1, iv k1, iv b1, iv t1, iv c2, iv k2, iv b2, iv t2, iv kd, rv p2, rv q2, rv q2, .unset, .unset] []) (fun _ k => XS.icmpYes X234.here hx rfl (pc0 := 191) (pc' := 231) rfl (hb hby at_191) rfl (flt hj285).2.1 (by decide) (by decide) k) ?_
              refine own_s (mkF m 232 #[iv aa, iv bb, iv sx, iv ddd, iv ee, iv md, iv c1, iv k1, iv b1, iv t1, iv c2, iv k2, iv b2, iv t2, iv kd, rv p2, rv q2, rv q2, .unset, .unset] [(.int 0)]) (fun _ k => XS.iconst X234.here hx rfl (hb hby at_231) k) ?_
              rw [show xx = (0 : Int32) from by rw [h_xx, if_neg hj285]] at k
              exact k
          refine own_S (mkF m 234 #[iv aa, iv bb, iv sx, iv ddd, iv ee, iv md, iv c1, iv k1, iv b1, iv t1, iv c2, iv k2, iv b2, iv t2, iv kd, rv p2, rv q2, rv q2, iv xx, .unset] []) (fun _ k => XS.istore X234.here hx rfl (hb hby at_232) rfl (l' := #[iv aa, iv bb, iv sx, iv ddd, iv ee, iv md, iv c1, iv k1, iv b1, iv t1, iv c2, iv k2, iv b2, iv t2, iv kd, rv p2, rv q2, rv q2, iv xx, .unset]) rfl k) ?_
          refine own_S (mkF m 236 #[iv aa, iv bb, iv sx, iv ddd, iv ee, iv md, iv c1, iv k1, iv b1, iv t1, iv c2, iv k2, iv b2, iv t2, iv kd, rv p2, rv q2, rv q2, iv xx, .unset] [(.ref p2)]) (fun _ k => XS.aload X234.here hx rfl (hb hby at_234) rfl rfl k) ?_
          refine own_S (mkF m 238 #[iv aa, iv bb, iv sx, iv ddd, iv ee, iv md, iv c1, iv k1, iv b1, iv t1, iv c2, iv k2, iv b2, iv t2, iv kd, rv p2, rv q2, rv q2, iv xx, .unset] [(.ref q2), (.ref p2)]) (fun _ k => XS.aload X234.here hx rfl (hb hby at_236) rfl rfl k) ?_
          have hlt : kd < (2 : Int32) := by rcases o_kd with q | q | q | q; rw [q]; decide; rw [q]; decide; exact absurd q hk2; exact absurd q hk3
          obtain ⟨cq291, kq291, q291a, q291b, q291c⟩ := isOf hZ rfl F254
          obtain ⟨_, _, ⟨T291, L291, k291, n291⟩, -, X291, ⟨Lc291, hQ291, l291, y291, z291⟩, st291⟩ := X234.virtualBack hx (y := own_y4) (z := own_y4) hown (mvT hZ (own_g hw (i := 34) rfl)) (mvT hZ (own_g hw (i := 35) rfl)) (notFace_of_selects (args := #[]) (mvT hZ (own_g hw (i := 37) rfl))) (mvT hZ (own_g hw (i := 37) rfl)) (mvT hZ (own_g hw (i := 36) rfl)) (by decide) (backOf (W := 0) (own_rmeq l Z a0 hw [] (p2) (q2) (c1) (k1) (t1) (c2) (k2) (t2) T234.heap n0 Z234 F235 F257 F258 F259 F238 F239 F240) hZ (own_g hw (i := 38) rfl) (own_g hw (i := 3) rfl) (by decide) (by decide)) q291a q291c (g := (mkF m 238 #[iv aa, iv bb, iv sx, iv ddd, iv ee, iv md, iv c1, iv k1, iv b1, iv t1, iv c2, iv k2, iv b2, iv t2, iv kd, rv p2, rv q2, rv q2, iv xx, .unset] [(.ref q2), (.ref p2)])) rfl (by rw [hml]; rfl) (Steps.refl _) (argsL := [(.ref q2)]) (rest := []) (lenOf own_pd__Ljava_lang_Object__Z rfl) rfl (by show 2 * 0 + _ ≤ _; exact Nat.le_of_eq rfl) (hb hby at_238) (fun _ _ => ⟨rfl, rfl, (by decide : 4 + 0 ≤ _), (by decide : 20 + 0 ≤ _)⟩)
          dsimp only [Pt.U, Pt.locs, Pt.cells, Pt.slots] at X291 l291 y291 z291 st291 hQ291
          subst l291 y291 z291
          obtain ⟨rfl, N291q, e291⟩ := hQ291
          have N291 := Fr.app N234 N291q
          refine own_S (mkF m 241 #[iv aa, iv bb, iv sx, iv ddd, iv ee, iv md, iv c1, iv k1, iv b1, iv t1, iv c2, iv k2, iv b2, iv t2, iv kd, rv p2, rv q2, rv q2, iv xx, .unset] [(.int (if c1 = c2 ∧ k1 = k2 ∧ t1 = t2 then (1 : Int32) else (0 : Int32)))]) (fun _ k => st291.trans k) ?_
          have hE : (if c1 = c2 ∧ k1 = k2 ∧ t1 = t2 then (1 : Int32) else (0 : Int32)) = xx := by rw [h_xx]; exact own_law _ _ _ _ _ _ _ _ _ _ _ hlt o_b1 o_b2 (by rw [if_neg hb1]) (by rw [if_neg hb2]) n_t1 n_t2
          have hE2 : (if c2 = c1 ∧ k2 = k1 ∧ t2 = t1 then (1 : Int32) else (0 : Int32)) = xx := by rw [← hE]; exact own_sym _ _ _ _ _ _
          refine own_S (mkF m 243 #[iv aa, iv bb, iv sx, iv ddd, iv ee, iv md, iv c1, iv k1, iv b1, iv t1, iv c2, iv k2, iv b2, iv t2, iv kd, rv p2, rv q2, rv q2, iv xx, .unset] [(.int xx), (.int (if c1 = c2 ∧ k1 = k2 ∧ t1 = t2 then (1 : Int32) else (0 : Int32)))]) (fun _ k => XS.iload X291.here hx rfl (hb hby at_241) rfl k) ?_
          obtain ⟨ok, h_ok⟩ : ∃ z : Int32, z = (if (if c1 = c2 ∧ k1 = k2 ∧ t1 = t2 then (1 : Int32) else (0 : Int32)) = xx then (1 : Int32) else (0 : Int32)) := ⟨_, rfl⟩
          refine own_S (T' := T291) (mkF m 251 #[iv aa, iv bb, iv sx, iv ddd, iv ee, iv md, iv c1, iv k1, iv b1, iv t1, iv c2, iv k2, iv b2, iv t2, iv kd, rv p2, rv q2, rv q2, iv xx, .unset] [(.int ok)]) (fun _ k => ?_) ?_
          ·
            by_cases hj292 : (if c1 = c2 ∧ k1 = k2 ∧ t1 = t2 then (1 : Int32) else (0 : Int32)) = xx
            ·
              refine own_s (mkF m 246 #[iv aa, iv bb, iv sx, iv ddd, iv ee, iv md, iv c1, iv k1, iv b1, iv t1, iv c2, iv k2, iv b2, iv t2, iv kd, rv p2, rv q2, rv q2, iv xx, .unset] []) (fun _ k => XS.icmpNo X291.here hx rfl (hb hby at_243) rfl (teq hj292).2 k) ?_
              refine own_s (mkF m 247 #[iv aa, iv bb, iv sx, iv ddd, iv ee, iv md, iv c1, iv k1, iv b1, iv t1, iv c2, iv k2, iv b2, iv t2, iv kd, rv p2, rv q2, rv q2, iv xx, .unset] [(.int 1)]) (fun _ k => XS.iconst X291.here hx rfl (hb hby at_246) k) ?_
              refine own_s (mkF m 251 #[iv aa, iv bb, iv sx, iv ddd, iv ee, iv md, iv c1, iv k1, iv b1, iv t1, iv c2, iv k2, iv b2, iv t2, iv kd, rv p2, rv q2, rv q2, iv xx, .unset] [(.int 1)]) (fun _ k => XS.goto X291.here hx rfl (pc0 := 247) (pc' := 251) rfl (hb hby at_247) (by decide) (by decide) k) ?_
              rw [show ok = (1 : Int32) from by rw [h_ok, if_pos hj292]] at k
              exact k
            ·
              refine own_s (mkF m 250 #[iv aa, iv bb, iv sx, iv ddd, iv ee, iv md, iv c1, iv k1, iv b1, iv t1, iv c2, iv k2, iv b2, iv t2, iv kd, rv p2, rv q2, rv q2, iv xx, .unset] []) (fun _ k => XS.icmpYes X291.here hx rfl (pc0 := 243) (pc' := 250) rfl (hb hby at_243) rfl (feq hj292).2 (by decide) (by decide) k) ?_
              refine own_s (mkF m 251 #[iv aa, iv bb, iv sx, iv ddd, iv ee, iv md, iv c1, iv k1, iv b1, iv t1, iv c2, iv k2, iv b2, iv t2, iv kd, rv p2, rv q2, rv q2, iv xx, .unset] [(.int 0)]) (fun _ k => XS.iconst X291.here hx rfl (hb hby at_250) k) ?_
              rw [show ok = (0 : Int32) from by rw [h_ok, if_neg hj292]] at k
              exact k
          refine own_S (mkF m 253 #[iv aa, iv bb, iv sx, iv ddd, iv ee, iv md, iv c1, iv k1, iv b1, iv t1, iv c2, iv k2, iv b2, iv t2, iv kd, rv p2, rv q2, rv q2, iv xx, iv ok] []) (fun _ k => XS.istore X291.here hx rfl (hb hby at_251) rfl (l' := #[iv aa, iv bb, iv sx, iv ddd, iv ee, iv md, iv c1, iv k1, iv b1, iv t1, iv c2, iv k2, iv b2, iv t2, iv kd, rv p2, rv q2, rv q2, iv xx, iv ok]) rfl k) ?_
          refine own_S (mkF m 255 #[iv aa, iv bb, iv sx, iv ddd, iv ee, iv md, iv c1, iv k1, iv b1, iv t1, iv c2, iv k2, iv b2, iv t2, iv kd, rv p2, rv q2, rv q2, iv xx, iv ok] [(.int kd)]) (fun _ k => XS.iload X291.here hx rfl (hb hby at_253) rfl k) ?_
          refine own_S (mkF m 256 #[iv aa, iv bb, iv sx, iv ddd, iv ee, iv md, iv c1, iv k1, iv b1, iv t1, iv c2, iv k2, iv b2, iv t2, iv kd, rv p2, rv q2, rv q2, iv xx, iv ok] [(.int 2), (.int kd)]) (fun _ k => XS.iconst X291.here hx rfl (hb hby at_255) k) ?_
          have hok : ok = (1 : Int32) := by rw [h_ok, if_pos hE]
          have hc293 : kd < (2 : Int32) := hlt
          refine own_S (mkF m 259 #[iv aa, iv bb, iv sx, iv ddd, iv ee, iv md, iv c1, iv k1, iv b1, iv t1, iv c2, iv k2, iv b2, iv t2, iv kd, rv p2, rv q2, rv q2, iv xx, iv ok] []) (fun _ k => XS.icmpNo X291.here hx rfl (hb hby at_256) rfl (tlt hc293).2.1 k) ?_
          refine own_S (mkF m 261 #[iv aa, iv bb, iv sx, iv ddd, iv ee, iv md, iv c1, iv k1, iv b1, iv t1, iv c2, iv k2, iv b2, iv t2, iv kd, rv p2, rv q2, rv q2, iv xx, iv ok] [(.int ok)]) (fun _ k => XS.iload X291.here hx rfl (hb hby at_259) rfl k) ?_
          have hc294 : ¬ (ok = (0 : Int32)) := (by rw [hok]; decide)
          refine own_S (mkF m 264 #[iv aa, iv bb, iv sx, iv ddd, iv ee, iv md, iv c1, iv k1, iv b1, iv t1, iv c2, iv k2, iv b2, iv t2, iv kd, rv p2, rv q2, rv q2, iv xx, iv ok] []) (fun _ k => XS.ifNo X291.here hx rfl (hb hby at_261) rfl ((if0 _ _).trans (feq hc294).1) k) ?_
          refine own_S (mkF m 266 #[iv aa, iv bb, iv sx, iv ddd, iv ee, iv md, iv c1, iv k1, iv b1, iv t1, iv c2, iv k2, iv b2, iv t2, iv kd, rv p2, rv q2, rv q2, iv xx, iv ok] [(.ref q2)]) (fun _ k => XS.aload X291.here hx rfl (hb hby at_264) rfl rfl k) ?_
          refine own_S (mkF m 268 #[iv aa, iv bb, iv sx, iv ddd, iv ee, iv md, iv c1, iv k1, iv b1, iv t1, iv c2, iv k2, iv b2, iv t2, iv kd, rv p2, rv q2, rv q2, iv xx, iv ok] [(.ref p2), (.ref q2)]) (fun _ k => XS.aload X291.here hx rfl (hb hby at_266) rfl rfl k) ?_
          obtain ⟨cq295, kq295, q295a, q295b, q295c⟩ := isOf hZ e291 F235
          obtain ⟨_, _, ⟨T295, L295, k295, n295⟩, -, X295, ⟨Lc295, hQ295, l295, y295, z295⟩, st295⟩ := X291.virtualBack hx (y := own_y4) (z := own_y4) hown (mvT hZ (own_g hw (i := 34) rfl)) (mvT hZ (own_g hw (i := 35) rfl)) (notFace_of_selects (args := #[]) (mvT hZ (own_g hw (i := 37) rfl))) (mvT hZ (own_g hw (i := 37) rfl)) (mvT hZ (own_g hw (i := 36) rfl)) (by decide) (backOf (W := 0) (own_rmeq l Z a0 hw [] (q2) (p2) (c2) (k2) (t2) (c1) (k1) (t1) T234.heap n0 Z234 F254 F238 F239 F240 F257 F258 F259) hZ (own_g hw (i := 38) rfl) (own_g hw (i := 3) rfl) (by decide) (by decide)) q295a q295c (g := (mkF m 268 #[iv aa, iv bb, iv sx, iv ddd, iv ee, iv md, iv c1, iv k1, iv b1, iv t1, iv c2, iv k2, iv b2, iv t2, iv kd, rv p2, rv q2, rv q2, iv xx, iv ok] [(.ref p2), (.ref q2)])) rfl (by rw [hml]; rfl) (Steps.refl _) (argsL := [(.ref p2)]) (rest := []) (lenOf own_pd__Ljava_lang_Object__Z rfl) rfl (by show 2 * 0 + _ ≤ _; exact Nat.le_of_eq rfl) (hb hby at_268) (fun _ _ => ⟨rfl, e291, (by decide : 4 + 0 ≤ _), (by decide : 20 + 0 ≤ _)⟩)
          dsimp only [Pt.U, Pt.locs, Pt.cells, Pt.slots] at X295 l295 y295 z295 st295 hQ295
          subst l295 y295 z295
          obtain ⟨rfl, N295q, e295⟩ := hQ295
          have N295 := Fr.app N291 N295q
          refine own_S (mkF m 271 #[iv aa, iv bb, iv sx, iv ddd, iv ee, iv md, iv c1, iv k1, iv b1, iv t1, iv c2, iv k2, iv b2, iv t2, iv kd, rv p2, rv q2, rv q2, iv xx, iv ok] [(.int (if c2 = c1 ∧ k2 = k1 ∧ t2 = t1 then (1 : Int32) else (0 : Int32)))]) (fun _ k => st295.trans k) ?_
          refine own_S (mkF m 273 #[iv aa, iv bb, iv sx, iv ddd, iv ee, iv md, iv c1, iv k1, iv b1, iv t1, iv c2, iv k2, iv b2, iv t2, iv kd, rv p2, rv q2, rv q2, iv xx, iv ok] [(.int xx), (.int (if c2 = c1 ∧ k2 = k1 ∧ t2 = t1 then (1 : Int32) else (0 : Int32)))]) (fun _ k => XS.iload X295.here hx rfl (hb hby at_271) rfl k) ?_
          obtain ⟨ok2, h_ok2⟩ : ∃ z : Int32, z = (if (if c2 = c1 ∧ k2 = k1 ∧ t2 = t1 then (1 : Int32) else (0 : Int32)) = xx then (1 : Int32) else (0 : Int32)) := ⟨_, rfl⟩
          refine own_S (T' := T295) (mkF m 281 #[iv aa, iv bb, iv sx, iv ddd, iv ee, iv md, iv c1, iv k1, iv b1, iv t1, iv c2, iv k2, iv b2, iv t2, iv kd, rv p2, rv q2, rv q2, iv xx, iv ok] [(.int ok2)]) (fun _ k => ?_) ?_
          ·
            by_cases hj296 : (if c2 = c1 ∧ k2 = k1 ∧ t2 = t1 then (1 : Int32) else (0 : Int32)) = xx
            ·
              refine own_s (mkF m 276 #[iv aa, iv bb, iv sx, iv ddd, iv ee, iv md, iv c1, iv k1, iv b1, iv t1, iv c2, iv k2, iv b2, iv t2, iv kd, rv p2, rv q2, rv q2, iv xx, iv ok] []) (fun _ k => XS.icmpNo X295.here hx rfl (hb hby at_273) rfl (teq hj296).2 k) ?_
              refine own_s (mkF m 277 #[iv aa, iv bb, iv sx, iv ddd, iv ee, iv md, iv c1, iv k1, iv b1, iv t1, iv c2, iv k2, iv b2, iv t2, iv kd, rv p2, rv q2, rv q2, iv xx, iv ok] [(.int 1)]) (fun _ k => XS.iconst X295.here hx rfl (hb hby at_276) k) ?_
              refine own_s (mkF m 281 #[iv aa, iv bb, iv sx, iv ddd, iv ee, iv md, iv c1, iv k1, iv b1, iv t1, iv c2, iv k2, iv b2, iv t2, iv kd, rv p2, rv q2, rv q2, iv xx, iv ok] [(.int 1)]) (fun _ k => XS.goto X295.here hx rfl (pc0 := 277) (pc' := 281) rfl (hb hby at_277) (by decide) (by decide) k) ?_
              rw [show ok2 = (1 : Int32) from by rw [h_ok2, if_pos hj296]] at k
              exact k
            ·
              refine own_s (mkF m 280 #[iv aa, iv bb, iv sx, iv ddd, iv ee, iv md, iv c1, iv k1, iv b1, iv t1, iv c2, iv k2, iv b2, iv t2, iv kd, rv p2, rv q2, rv q2, iv xx, iv ok] []) (fun _ k => XS.icmpYes X295.here hx rfl (pc0 := 273) (pc' := 280) rfl (hb hby at_273) rfl (feq hj296).2 (by decide) (by decide) k) ?_
              refine own_s (mkF m 281 #[iv aa, iv bb, iv sx, iv ddd, iv ee, iv md, iv c1, iv k1, iv b1, iv t1, iv c2, iv k2, iv b2, iv t2, iv kd, rv p2, rv q2, rv q2, iv xx, iv ok] [(.int 0)]) (fun _ k => XS.iconst X295.here hx rfl (hb hby at_280) k) ?_
              rw [show ok2 = (0 : Int32) from by rw [h_ok2, if_neg hj296]] at k
              exact k
          refine own_S (mkF m 283 #[iv aa, iv bb, iv sx, iv ddd, iv ee, iv md, iv c1, iv k1, iv b1, iv t1, iv c2, iv k2, iv b2, iv t2, iv kd, rv p2, rv q2, rv q2, iv xx, iv ok2] []) (fun _ k => XS.istore X295.here hx rfl (hb hby at_281) rfl (l' := #[iv aa, iv bb, iv sx, iv ddd, iv ee, iv md, iv c1, iv k1, iv b1, iv t1, iv c2, iv k2, iv b2, iv t2, iv kd, rv p2, rv q2, rv q2, iv xx, iv ok2]) rfl k) ?_
          refine own_S (mkF m 285 #[iv aa, iv bb, iv sx, iv ddd, iv ee, iv md, iv c1, iv k1, iv b1, iv t1, iv c2, iv k2, iv b2, iv t2, iv kd, rv p2, rv q2, rv q2, iv xx, iv ok2] [(.int ok2)]) (fun _ k => XS.iload X295.here hx rfl (hb hby at_283) rfl k) ?_
          exact own_retN X295 hx hlk (t := .boolean) hret (by simp) (hb hby at_285) (by rw [e295]; exact ⟨(by rw [h_ok2, if_pos hE2]; rfl), N295, trivial⟩) (by decide) (by decide)
set_option maxRecDepth 65536 in
set_option maxHeartbeats 40000000 in
theorem comes_1 {Post : Tables → Env → Array Value → State → Outcome → State → Prop} (hpost : ∀ tb e args s v u, (limb_1_1.after args s (.returned v) u = true ∧ limb_1_2.after args s (.returned v) u = true ∧ True) → FrameEnd s (.returned v) u (Jvm.fieldLocs frame_1_writes args s ++ Jvm.arrayLocs frame_1_arrays args s ++ Jvm.staticLocs frame_1_statics s) 16 128 → Post tb e args s (.returned v) u) :
    ArmFor flags0 classFile x code maxLocals ret World_1 tables_1 room_1 Calls_1 rest_1 Pre_1 Post := by
  intro l hfl _ _ p e ha hc hk s m args below hf hA hF happ hP
  obtain ⟨hcalls, hrest, hpre⟩ := hP
  obtain ⟨-, -, -, hnamed, -, -, -, hat⟩ := (Spec.applies_iff hf).mp happ
  obtain ⟨hg, hn⟩ := and_e (Cond.before_iff.mp (show (Jvm.Cond.and given_1 narrow_1).before args s = true from hpre))
  obtain ⟨h1, g0⟩ := and_e hg
  obtain ⟨k0, g1⟩ := and_e g0
  obtain ⟨k1, g2⟩ := and_e g1
  obtain ⟨k2, g3⟩ := and_e g2
  obtain ⟨k3, g4⟩ := and_e g3
  obtain ⟨k4, g5⟩ := and_e g4
  have k5 := g5
  obtain ⟨w0, w1, w2, w3, w4, w5, rfl⟩ : ∃ w0 w1 w2 w3 w4 w5 : Value, args = #[w0, w1, w2, w3, w4, w5] := by
    have hs : args.size = 6 := by simpa [Cond.value, given_1] using h1
    obtain ⟨L⟩ := args
    match L, hs with
    | [w0, w1, w2, w3, w4, w5], _ => exact ⟨w0, w1, w2, w3, w4, w5, rfl⟩
  have hw := fun d (hd : d ∈ tables_1) => atoms_spec (ws := Jvm.Cond.code x code maxLocals ret :: tables_1) hat d (List.mem_cons_of_mem _ hd)
  have hfit : Fit s := fun {y c} hc i hi => by
    obtain ⟨ha, rfl⟩ := Array.getElem?_eq_some_iff.mp hc
    have q := List.all_eq_true.mp ((Array.all_eq_true_iff_forall_mem.mp hF) _ (Array.getElem_mem ha)) i (List.mem_range.mpr hi)
    simpa [Array.getElem?_eq_getElem hi] using q
  obtain ⟨i0, q0⟩ := is_v k0
  obtain rfl : w0 = (.int i0) := Option.some.inj q0
  obtain ⟨i1, q1⟩ := is_v k1
  obtain rfl : w1 = (.int i1) := Option.some.inj q1
  obtain ⟨i2, q2⟩ := is_v k2
  obtain rfl : w2 = (.int i2) := Option.some.inj q2
  obtain ⟨i3, q3⟩ := is_v k3
  obtain rfl : w3 = (.int i3) := Option.some.inj q3
  obtain ⟨i4, q4⟩ := is_v k4
  obtain rfl : w4 = (.int i4) := Option.some.inj q4
  obtain ⟨i5, q5⟩ := is_v k5
  obtain rfl : w5 = (.int i5) := Option.some.inj q5
  obtain ⟨ct, evC⟩ := exa_v hn
  have SC := Sta.start evC (Or.inr ⟨(own_g hw (i := 41) rfl), (own_g hw (i := 42) rfl)⟩)
  have EC := Exa.start evC hn
  obtain ⟨n, o, h1, h2, h3, _, L, rfl, ⟨rfl, N, -⟩, hq⟩ := own_rmlaw l s _ hw tables_1 i0 i1 i2 i3 i4 i5 ct s.heap s.heap.size (Nat.le_refl _) SC EC p e ha hc hk s m _ below hf ((Spec.applies_iff_loose hf).mp happ).1 ⟨rfl, State.Warmed39.refl s, rfl⟩ trivial
  refine ⟨n, _, h1, h2, h3, hpost _ _ _ _ _ _ ⟨Cond.after_iff.mpr rfl, Cond.after_iff.mpr (eq_i res_at (Term.int_eval (1)) rfl), trivial⟩ ⟨hq.1, hq.2.1, (hq.2.2.sift fun y hy => Or.inr (N y hy)).mono (by decide) (by decide)⟩⟩
theorem main_1_1 : Claimed_1_1 := comes_1 fun _ _ _ _ _ _ h hF => ⟨h.1, hF⟩
theorem main_1_2 : Claimed_1_2 := comes_1 fun _ _ _ _ _ _ h hF => ⟨h.2.1, hF⟩
end Jvm.Pilot.@@N@@
namespace Jvm.Pilot.@@N@@
open Jvm Jvm.ClassFile Sem Op Lib Jvm.Free Jvm.Stand Jvm.Pilot.@@N@@.Jvm.D
/-! MADE BY PROGRAM (witnessworld.py) out of the Statement's table words and the real class files: 12 classes; the members and pool entries that the words name. The judged class is class 1, her method 1. -/
namespace start1
open Jvm.ClassFile
def u (s : String) : CpInfo := .utf8 (stringToUtf16 s)
/-- a pool by its gaps: so many unusable entries, then the entry; so many at the end -/
def gap : Nat → List CpInfo → List CpInfo
  | 0, r => r
  | n + 1, r => .unusable :: gap n r
def poolList (es : List (Nat × CpInfo)) (last : Nat) : List CpInfo := es.foldr (fun e r => gap e.1 (e.2 :: r)) (gap last [])
def pool (es : List (Nat × CpInfo)) (last : Nat) : Array CpInfo := ⟨poolList es last⟩
def fileOf (pool : Array CpInfo) (this : Nat) (attrs : Array Attribute := #[]) (ms : Array MethodInfo := #[]) (fl : Nat := 33) (sup : Nat := 0) (ifs : Array Nat := #[]) (fds : Array FieldInfo := #[]) : ClassFile where
  minorVersion := 0
  majorVersion := 65
  constantPool := pool
  accessFlags := fl
  thisClass := this
  superClass := sup
  interfaces := ifs
  fields := fds
  methods := ms
  attributes := attrs
def plain (name : String) (sup : Option ClassId) : Class where
  name := name
  kind := .ordinary
  loader := none
  accessFlags := 33
  super := sup
  interfaces := #[]
  cf := none
  fields := #[]
  methods := #[]
  instanceTypes := #[]
  staticTypes := #[]
  resolved := #[]
  callSites := []
  init := .initialized
  statics := none
  mirror := none

def pool0 : Array CpInfo := pool [(5, u "<init>"), (0, u "()V"), (1, .class_ 10), (1, u "java/lang/Object")] 113

def k0c0 : Code := { maxStack := 0, maxLocals := 1, code := object_method_1_code, exceptionTable := #[], attributes := #[] }
def k0m0 : Method := { name := "<init>", desc := "()V", sig := { parameters := [], returnType := none }, accessFlags := 1, code := some k0c0 }
/-- java/lang/Object -/
def k0 : Class := { plain "java/lang/Object" none with
  accessFlags := 33
  interfaces := #[]
  cf := some (fileOf pool0 8 #[] #[{ accessFlags := 1, nameIndex := 5, descriptorIndex := 6, attributes := #[] }] 33 0 #[] #[])
  fields := #[]
  methods := #[k0m0]
  instanceTypes := #[]
  staticTypes := #[]
  resolved := Array.replicate 124 none
  statics := none }

def pool1 : Array CpInfo := pool [(2, .class_ 4), (1, u "java/lang/Object"), (0, u "<init>"), (0, u "()V"), (0, .integer 2147483647), (0, .class_ 9), (0, u "com/example/referee/referee/logic/ltl/Pointer"), (0, .methodref 8 11), (0, .nameAndType 5 12), (0, u "(II)V"), (0, .methodref 8 14), (0, .nameAndType 15 16), (0, u "at"), (0, u "(I)Lcom/example/referee/referee/logic/ltl/Pointer;"), (0, .fieldref 18 19), (0, .class_ 20), (0, .nameAndType 21 22), (0, u "com/example/referee/referee/logic/ltl/Constant"), (0, u "TRUE"), (0, u "Lcom/example/referee/referee/logic/ltl/Constant;"), (0, .methodref 8 24), (0, .nameAndType 25 26), (0, u "equals"), (0, u "(Ljava/lang/Object;)Z"), (0, .class_ 28), (0, u "com/example/referee/referee/logic/ltl/PointerEqualsPinLaw"), (2, u "law"), (0, u "(IIIIII)Z")] 3

def k1m0 : Method := { name := "<init>", desc := "()V", sig := { parameters := [], returnType := none }, accessFlags := 1, code := none }
def k1c1 : Code := { maxStack := 4, maxLocals := 20, code := code, exceptionTable := #[], attributes := #[] }
def k1m1 : Method := { name := "law", desc := "(IIIIII)Z", sig := { parameters := [.int, .int, .int, .int, .int, .int], returnType := some .boolean }, accessFlags := 9, code := some k1c1 }
/-- com/example/referee/referee/logic/ltl/PointerEqualsPinLaw -/
def k1 : Class := { plain "com/example/referee/referee/logic/ltl/PointerEqualsPinLaw" (some 0) with
  accessFlags := 49
  interfaces := #[]
  cf := some (fileOf pool1 27 #[] #[{ accessFlags := 1, nameIndex := 5, descriptorIndex := 6, attributes := #[] }, { accessFlags := 9, nameIndex := 31, descriptorIndex := 32, attributes := #[] }] 49 2 #[] #[])
  fields := #[]
  methods := #[k1m0, k1m1]
  instanceTypes := #[]
  staticTypes := #[]
  resolved := Array.replicate 36 none
  statics := none }

def pool2 : Array CpInfo := pool [(1, .methodref 2 3), (0, .class_ 4), (0, .nameAndType 5 6), (0, u "java/lang/Object"), (0, u "<init>"), (0, u "()V"), (0, .fieldref 8 9), (0, .class_ 10), (0, .nameAndType 11 12), (0, u "com/example/referee/referee/logic/ltl/Formula"), (0, u "height"), (0, u "I"), (0, .fieldref 8 14), (0, .nameAndType 15 12), (0, u "size"), (213, u "(II)V")] 56

def k2c0 : Code := { maxStack := 2, maxLocals := 3, code := prog_75_method_1_code, exceptionTable := #[], attributes := #[] }
def k2m0 : Method := { name := "<init>", desc := "(II)V", sig := { parameters := [.int, .int], returnType := none }, accessFlags := 0, code := some k2c0 }
/-- com/example/referee/referee/logic/ltl/Formula -/
def k2 : Class := { plain "com/example/referee/referee/logic/ltl/Formula" (some 0) with
  accessFlags := 1057
  interfaces := #[]
  cf := some (fileOf pool2 8 #[] #[{ accessFlags := 0, nameIndex := 5, descriptorIndex := 229, attributes := #[] }] 1057 2 #[] #[{ accessFlags := 18, nameIndex := 11, descriptorIndex := 12, attributes := #[] }, { accessFlags := 18, nameIndex := 15, descriptorIndex := 12, attributes := #[] }])
  fields := #[{ name := "height", type := .int, accessFlags := 18, slot := 0, constantValue := 0 }, { name := "size", type := .int, accessFlags := 18, slot := 1, constantValue := 0 }]
  methods := #[k2m0]
  instanceTypes := #[.int, .int]
  staticTypes := #[]
  resolved := Array.replicate 286 none
  statics := none }

def pool3 : Array CpInfo := pool [(1, .class_ 2), (0, u "java/lang/Comparable"), (0, .class_ 4), (0, u "java/lang/Object")] 7

/-- java/lang/Comparable -/
def k3 : Class := { plain "java/lang/Comparable" (some 0) with
  accessFlags := 1537
  interfaces := #[]
  cf := some (fileOf pool3 1 #[] #[] 1537 3 #[] #[])
  fields := #[]
  methods := #[]
  instanceTypes := #[]
  staticTypes := #[]
  resolved := Array.replicate 12 none
  statics := none }

def pool4 : Array CpInfo := pool [(1, .class_ 2), (0, u "com/example/referee/referee/logic/ltl/Pointer"), (0, .methodref 1 4), (0, .nameAndType 5 6), (0, u "<init>"), (0, u "(III)V"), (0, .methodref 8 9), (0, .class_ 10), (0, .nameAndType 5 11), (0, u "com/example/referee/referee/logic/ltl/Formula"), (0, u "(II)V"), (9, .fieldref 1 22), (0, .nameAndType 23 24), (0, u "component"), (0, u "I"), (0, .fieldref 1 26), (0, .nameAndType 27 24), (0, u "cell"), (0, .fieldref 1 29), (0, .nameAndType 30 24), (0, u "instance"), (42, .class_ 74), (0, u "java/lang/Comparable"), (0, u "UNTIMED"), (5, u "at"), (0, u "(I)Lcom/example/referee/referee/logic/ltl/Pointer;"), (4, u "equals"), (0, u "(Ljava/lang/Object;)Z")] 28

def k4c0 : Code := { maxStack := 4, maxLocals := 3, code := prog_88_method_1_code, exceptionTable := #[], attributes := #[] }
def k4m0 : Method := { name := "<init>", desc := "(II)V", sig := { parameters := [.int, .int], returnType := none }, accessFlags := 1, code := some k4c0 }
def k4c1 : Code := { maxStack := 4, maxLocals := 4, code := prog_88_method_2_code, exceptionTable := #[], attributes := #[] }
def k4m1 : Method := { name := "<init>", desc := "(III)V", sig := { parameters := [.int, .int, .int], returnType := none }, accessFlags := 2, code := some k4c1 }
def k4c2 : Code := { maxStack := 5, maxLocals := 2, code := prog_88_method_3_code, exceptionTable := #[], attributes := #[] }
def k4m2 : Method := { name := "at", desc := "(I)Lcom/example/referee/referee/logic/ltl/Pointer;", sig := { parameters := [.int], returnType := some (.object "com/example/referee/referee/logic/ltl/Pointer") }, accessFlags := 1, code := some k4c2 }
def k4c3 : Code := { maxStack := 2, maxLocals := 3, code := prog_88_method_10_code, exceptionTable := #[], attributes := #[] }
def k4m3 : Method := { name := "equals", desc := "(Ljava/lang/Object;)Z", sig := { parameters := [(.object "java/lang/Object")], returnType := some .boolean }, accessFlags := 1, code := some k4c3 }
/-- com/example/referee/referee/logic/ltl/Pointer -/
def k4 : Class := { plain "com/example/referee/referee/logic/ltl/Pointer" (some 2) with
  accessFlags := 49
  interfaces := #[3]
  cf := some (fileOf pool4 1 #[] #[{ accessFlags := 1, nameIndex := 5, descriptorIndex := 11, attributes := #[] }, { accessFlags := 2, nameIndex := 5, descriptorIndex := 6, attributes := #[] }, { accessFlags := 1, nameIndex := 81, descriptorIndex := 82, attributes := #[] }, { accessFlags := 1, nameIndex := 87, descriptorIndex := 88, attributes := #[] }] 49 8 #[73] #[{ accessFlags := 26, nameIndex := 75, descriptorIndex := 24, attributes := #[] }, { accessFlags := 18, nameIndex := 23, descriptorIndex := 24, attributes := #[] }, { accessFlags := 18, nameIndex := 27, descriptorIndex := 24, attributes := #[] }, { accessFlags := 18, nameIndex := 30, descriptorIndex := 24, attributes := #[] }])
  fields := #[{ name := "UNTIMED", type := .int, accessFlags := 26, slot := 0, constantValue := 0 }, { name := "component", type := .int, accessFlags := 18, slot := 2, constantValue := 0 }, { name := "cell", type := .int, accessFlags := 18, slot := 3, constantValue := 0 }, { name := "instance", type := .int, accessFlags := 18, slot := 4, constantValue := 0 }]
  methods := #[k4m0, k4m1, k4m2, k4m3]
  instanceTypes := #[.int, .int, .int, .int, .int]
  staticTypes := #[.int]
  resolved := Array.replicate 117 none
  statics := none }

def pool5 : Array CpInfo := pool [(2, .class_ 4), (1, u "com/example/referee/referee/logic/ltl/Formula"), (3, .class_ 10), (1, u "com/example/referee/referee/logic/ltl/Constant"), (0, u "value"), (0, u "Z"), (2, u "TRUE"), (0, u "Lcom/example/referee/referee/logic/ltl/Constant;"), (2, u "FALSE")] 39

/-- com/example/referee/referee/logic/ltl/Constant -/
def k5 : Class := { plain "com/example/referee/referee/logic/ltl/Constant" (some 2) with
  accessFlags := 49
  interfaces := #[]
  cf := some (fileOf pool5 8 #[] #[] 49 2 #[] #[{ accessFlags := 25, nameIndex := 15, descriptorIndex := 16, attributes := #[] }, { accessFlags := 25, nameIndex := 19, descriptorIndex := 16, attributes := #[] }, { accessFlags := 18, nameIndex := 11, descriptorIndex := 12, attributes := #[] }])
  fields := #[{ name := "TRUE", type := (.object "com/example/referee/referee/logic/ltl/Constant"), accessFlags := 25, slot := 0, constantValue := 0 }, { name := "FALSE", type := (.object "com/example/referee/referee/logic/ltl/Constant"), accessFlags := 25, slot := 1, constantValue := 0 }, { name := "value", type := .boolean, accessFlags := 18, slot := 2, constantValue := 0 }]
  methods := #[]
  instanceTypes := #[.int, .int, .boolean]
  staticTypes := #[(.object "com/example/referee/referee/logic/ltl/Constant"), (.object "com/example/referee/referee/logic/ltl/Constant")]
  resolved := Array.replicate 59 none
  statics := some 0 }

def pool6 : Array CpInfo := pool [(1, u "java/lang/Cloneable"), (0, .class_ 1), (0, u "java/lang/Object"), (0, .class_ 3)] 3

/-- java/lang/Cloneable -/
def k6 : Class := { plain "java/lang/Cloneable" (some 0) with
  accessFlags := 1537
  interfaces := #[]
  cf := some (fileOf pool6 2 #[] #[] 1537 4 #[] #[])
  fields := #[]
  methods := #[]
  instanceTypes := #[]
  staticTypes := #[]
  resolved := Array.replicate 8 none
  statics := none }

def pool7 : Array CpInfo := pool [(1, u "java/io/Serializable"), (0, .class_ 1), (0, u "java/lang/Object"), (0, .class_ 3)] 3

/-- java/io/Serializable -/
def k7 : Class := { plain "java/io/Serializable" (some 0) with
  accessFlags := 1537
  interfaces := #[]
  cf := some (fileOf pool7 2 #[] #[] 1537 4 #[] #[])
  fields := #[]
  methods := #[]
  instanceTypes := #[]
  staticTypes := #[]
  resolved := Array.replicate 8 none
  statics := none }

/-- the primitive byte -/
def k8 : Class := { plain "byte" none with kind := .primitive 'B', accessFlags := 0x411 }
/-- [B -/
def k9 : Class := { plain "[B" (some 0) with kind := .array 8 .byte, interfaces := #[6, 7], accessFlags := 1041 }

/-- the primitive int -/
def k10 : Class := { plain "int" none with kind := .primitive 'I', accessFlags := 0x411 }
/-- [I -/
def k11 : Class := { plain "[I" (some 0) with kind := .array 10 .int, interfaces := #[6, 7], accessFlags := 1041 }

def heap : Heap := #[{ cls := 5, slots := #[.ref 1, .null], vm := .statics 5 },
  { cls := 5, slots := #[.int 1, .int 1, .int 1], vm := .none }]
def classes : Array Class := #[k0, k1, k2, k3, k4, k5, k6, k7, k8, k9, k10, k11]
def interned : List (Array UInt16 × Addr) := []
def slotsUsed : Nat := 5
def theMethod : MethodId := ⟨1, 1⟩
def args0 : Array Value := #[.int 5, .int 1, .int 2, .int 3, .int 4, .int 0]
def aboutOver (below : List Frame) : State where
  vm := { classes := classes, interned := interned.toArray }
  heap := heap
  slotsUsed := slotsUsed
  threads := #[{ frames := .invoking theMethod args0 :: below }]
def below0 : List Frame := [.native { method := ⟨0, 0⟩, args := #[] }]
def about1 : State := aboutOver below0
def p0 : Program := .bare "" "" ""
def e0 : Env := launch0.env 0 0 0
theorem w_frames : about1.frames = Frame.invoking theMethod args0 :: below0 := rfl
set_option maxRecDepth 65536 in
theorem w_args : argsFit about1.vm theMethod args0 = true := by decide +kernel
set_option maxRecDepth 65536 in
theorem w_heap : heapFits about1 = true := by decide +kernel
set_option maxRecDepth 65536 in
theorem w_runnable : about1.curStatus? = some .runnable := by decide +kernel
set_option maxRecDepth 65536 in
theorem w_alone : about1.alone = true := by decide +kernel
set_option maxRecDepth 65536 in
theorem w_named : about1.methodNamed? x = some theMethod := by decide +kernel
set_option maxRecDepth 65536 in
theorem w_hears : about1.hears theMethod below0 = true := by decide +kernel
set_option maxRecDepth 65536 in
theorem w_ripe : about1.ripe theMethod args0 below0 = true := by decide +kernel
theorem w_running : about1.status = .running := rfl
set_option maxRecDepth 65536 in
theorem w_room : about1.hasRoom e0.platform room_1 = true :=
  launch0.hasRoom_least _ room_1 (by decide +kernel) (by decide +kernel) (by decide +kernel) (by decide +kernel) (by decide +kernel) (by decide +kernel)
theorem allAtoms_all (ts : List Jvm.Cond) (a : Array Jvm.Value) (st : Jvm.State) : (allAtoms ts).before a st = ts.all (fun c => c.before a st) := by
  induction ts with
  | nil => rfl
  | cons c t ih =>
    show (Jvm.Cond.and c (allAtoms t)).before a st = _
    rw [Jvm.Cond.before_and, ih, List.all_cons]
def words1 : List Jvm.Cond := Jvm.Cond.code x code maxLocals ret :: tables_1
/-- a 'code' word, met by the world's own term for the bytes: nothing is compared byte by byte -/
theorem code_word {y : MethodName} {bytes : ByteArray} {mx : Nat} {rt : Option FieldType} {a : Array Value} {s : State} {m : MethodId} {meth : Method} {c : Code} (h1 : s.methodNamed? y = some m) (h2 : s.vm.method? m = some meth) (h3 : meth.code = some c) (h4 : c.code = bytes)
    (h5 : (c.maxLocals == mx && c.exceptionTable.isEmpty && decide (c.maxStack ≤ mostOperands) && decide (meth.sig.returnType = rt) && !meth.locks && decide (parseMethodDescriptor y.desc = some meth.sig)) = true) : (Jvm.Cond.code y bytes mx rt).before a s = true := by
  simp only [Bool.and_eq_true, beq_iff_eq, Bool.not_eq_true', decide_eq_true_eq] at h5
  obtain ⟨⟨⟨⟨⟨g1, g2⟩, g3⟩, g4⟩, g5⟩, g6⟩ := h5
  simp [Cond.before, Cond.holds, Cond.value, h1, h2, h3, h4, g1, g2, g3, g4, g5, g6]
def isCode : Jvm.Cond → Bool
  | .code _ _ _ _ => true
  | _ => false
theorem all_split {L : List Jvm.Cond} {P : Jvm.Cond → Bool} (h1 : L.all (fun c => isCode c || P c) = true) (h2 : ∀ c ∈ L.filter isCode, P c = true) : L.all P = true := by
  refine List.all_eq_true.mpr fun c hc => ?_
  have h := List.all_eq_true.mp h1 c hc
  rcases Bool.eq_false_or_eq_true (isCode c) with hi | hi
  · exact h2 c (List.mem_filter.mpr ⟨hc, hi⟩)
  · simpa [hi] using h
set_option maxRecDepth 65536 in
theorem w_c0 : (Jvm.Cond.code x code maxLocals ret).before args0 about1 = true := code_word (m := ⟨1, 1⟩) (meth := k1m1) (c := k1c1) (by decide +kernel) rfl rfl rfl (by decide +kernel)
set_option maxRecDepth 65536 in
theorem w_c1 : (Jvm.Cond.code ({ cls := "com/example/referee/referee/logic/ltl/Pointer", name := "<init>", desc := "(II)V" } : Jvm.MethodName) prog_88_method_1_code (3 : Nat) (Option.none : Option Jvm.ClassFile.FieldType)).before args0 about1 = true := code_word (m := ⟨4, 0⟩) (meth := k4m0) (c := k4c0) (by decide +kernel) rfl rfl rfl (by decide +kernel)
set_option maxRecDepth 65536 in
theorem w_c2 : (Jvm.Cond.code ({ cls := "com/example/referee/referee/logic/ltl/Pointer", name := "<init>", desc := "(III)V" } : Jvm.MethodName) prog_88_method_2_code (4 : Nat) (Option.none : Option Jvm.ClassFile.FieldType)).before args0 about1 = true := code_word (m := ⟨4, 1⟩) (meth := k4m1) (c := k4c1) (by decide +kernel) rfl rfl rfl (by decide +kernel)
set_option maxRecDepth 65536 in
theorem w_c3 : (Jvm.Cond.code ({ cls := "com/example/referee/referee/logic/ltl/Formula", name := "<init>", desc := "(II)V" } : Jvm.MethodName) prog_75_method_1_code (3 : Nat) (Option.none : Option Jvm.ClassFile.FieldType)).before args0 about1 = true := code_word (m := ⟨2, 0⟩) (meth := k2m0) (c := k2c0) (by decide +kernel) rfl rfl rfl (by decide +kernel)
set_option maxRecDepth 65536 in
theorem w_c4 : (Jvm.Cond.code ({ cls := "java/lang/Object", name := "<init>", desc := "()V" } : Jvm.MethodName) object_method_1_code (1 : Nat) (Option.none : Option Jvm.ClassFile.FieldType)).before args0 about1 = true := code_word (m := ⟨0, 0⟩) (meth := k0m0) (c := k0c0) (by decide +kernel) rfl rfl rfl (by decide +kernel)
set_option maxRecDepth 65536 in
theorem w_c5 : (Jvm.Cond.code ({ cls := "com/example/referee/referee/logic/ltl/Pointer", name := "at", desc := "(I)Lcom/example/referee/referee/logic/ltl/Pointer;" } : Jvm.MethodName) prog_88_method_3_code (2 : Nat) (Option.some (Jvm.ClassFile.FieldType.object "com/example/referee/referee/logic/ltl/Pointer"))).before args0 about1 = true := code_word (m := ⟨4, 2⟩) (meth := k4m2) (c := k4c2) (by decide +kernel) rfl rfl rfl (by decide +kernel)
set_option maxRecDepth 65536 in
theorem w_c6 : (Jvm.Cond.code ({ cls := "com/example/referee/referee/logic/ltl/Pointer", name := "equals", desc := "(Ljava/lang/Object;)Z" } : Jvm.MethodName) prog_88_method_10_code (3 : Nat) (Option.some Jvm.ClassFile.FieldType.boolean)).before args0 about1 = true := code_word (m := ⟨4, 3⟩) (meth := k4m3) (c := k4c3) (by decide +kernel) rfl rfl rfl (by decide +kernel)
def codes1 : List Jvm.Cond := [Jvm.Cond.code x code maxLocals ret, Jvm.Cond.code ({ cls := "com/example/referee/referee/logic/ltl/Pointer", name := "<init>", desc := "(II)V" } : Jvm.MethodName) prog_88_method_1_code (3 : Nat) (Option.none : Option Jvm.ClassFile.FieldType), Jvm.Cond.code ({ cls := "com/example/referee/referee/logic/ltl/Pointer", name := "<init>", desc := "(III)V" } : Jvm.MethodName) prog_88_method_2_code (4 : Nat) (Option.none : Option Jvm.ClassFile.FieldType), Jvm.Cond.code ({ cls := "com/example/referee/referee/logic/ltl/Formula", name := "<init>", desc := "(II)V" } : Jvm.MethodName) prog_75_method_1_code (3 : Nat) (Option.none : Option Jvm.ClassFile.FieldType), Jvm.Cond.code ({ cls := "java/lang/Object", name := "<init>", desc := "()V" } : Jvm.MethodName) object_method_1_code (1 : Nat) (Option.none : Option Jvm.ClassFile.FieldType), Jvm.Cond.code ({ cls := "com/example/referee/referee/logic/ltl/Pointer", name := "at", desc := "(I)Lcom/example/referee/referee/logic/ltl/Pointer;" } : Jvm.MethodName) prog_88_method_3_code (2 : Nat) (Option.some (Jvm.ClassFile.FieldType.object "com/example/referee/referee/logic/ltl/Pointer")), Jvm.Cond.code ({ cls := "com/example/referee/referee/logic/ltl/Pointer", name := "equals", desc := "(Ljava/lang/Object;)Z" } : Jvm.MethodName) prog_88_method_10_code (3 : Nat) (Option.some Jvm.ClassFile.FieldType.boolean)]
set_option maxRecDepth 65536 in
theorem codes_eq : words1.filter isCode = codes1 := rfl
theorem w_codes : ∀ c ∈ words1.filter isCode, c.before args0 about1 = true := by
  rw [codes_eq]
  intro c hc
  simp only [codes1, List.mem_cons, List.not_mem_nil, or_false] at hc
  rcases hc with rfl | rfl | rfl | rfl | rfl | rfl | rfl
  · exact w_c0
  · exact w_c1
  · exact w_c2
  · exact w_c3
  · exact w_c4
  · exact w_c5
  · exact w_c6
set_option maxRecDepth 65536 in
theorem w_t1 : (words1.take 24).all (fun c => isCode c || c.before args0 about1) = true := by decide +kernel
set_option maxRecDepth 65536 in
theorem w_t2 : (words1.drop 24).all (fun c => isCode c || c.before args0 about1) = true := by decide +kernel
theorem w_tables : (allAtoms (Jvm.Cond.code x code maxLocals ret :: tables_1)).before args0 about1 = true := by
  rw [allAtoms_all]
  show words1.all (fun c => c.before args0 about1) = true
  refine all_split ?_ w_codes
  rw [← List.take_append_drop 24 words1, List.all_append, w_t1, w_t2]
  rfl
set_option maxRecDepth 65536 in
theorem w_case : (Jvm.Cond.and given_1 narrow_1).before args0 about1 = true := by decide +kernel
theorem w_applies : (headSpec (Jvm.Cond.code x code maxLocals ret :: tables_1) room_1).applies x e0.platform about1 = true :=
  (Spec.applies_iff w_frames).mpr ⟨w_running, w_runnable, w_alone, w_named, w_hears, w_ripe, w_room, w_tables⟩
theorem atStart : AtStart classFile x code maxLocals ret World_1 tables_1 room_1 Calls_1 rest_1 Pre_1 launch0 p0 e0 about1 theMethod args0 below0 :=
  ⟨lists_1, trivial, launch0.admits_env _ _ _, launch0.least_env, fairChoices_fair.cas, fairChoices_fair.clock, w_frames, w_args, w_heap, w_applies, trivial, trivial, w_case⟩
end start1
theorem witness_1 : WitnessClaimed_1 := ⟨start1.p0, start1.e0, start1.about1, start1.theMethod, start1.args0, start1.below0, start1.atStart⟩
end Jvm.Pilot.@@N@@
