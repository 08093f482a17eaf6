import JvmDerived
import JvmDerived.Pilot.@@N@@Statement
import JvmDerived.Pilot.@@N@@Code
set_option linter.unusedVariables false
set_option linter.unusedSimpArgs false
namespace Jvm.Pilot.@@N@@
open Jvm Jvm.ClassFile Sem Op Lib Jvm.Free Jvm.Stand Jvm.LawKit Jvm.RoadKit Bundle Jvm.Pilot.@@N@@.Jvm.D
theorem own_g {Z : State} {a0 : Array Value} (hw : ∀ d ∈ tables_1, d.before a0 Z = true) {i : Nat} {d : Jvm.Cond} (h : tables_1[i]? = some d) : d.before a0 Z = true := hw _ (List.mem_of_getElem? h)
/-- the walk from the frame g in the state T comes to an end of which K holds -/
def own_E (p : Program) (e : Env) (below : List Frame) (K : Outcome → State → Prop) (T : State) (g : JFrame) : Prop := ∃ s₂ o, Steps p.tables e below (T.setTop g) s₂ ∧ s₂.status = .running ∧ Ended s₂ below o ∧ K o s₂
def own_K (s : State) (Q : Option Value → Heap → List Loc → Prop) (kc ks : Nat) (o : Outcome) (U : State) : Prop := ∃ v L, o = .returned v ∧ Q v U.heap L ∧ FrameEnd s o U L kc ks
section OwnKit
variable {p : Program} {l : Launch} {e : Env} {R : Room} {s : State} {m : MethodId} {args : Array Value} {below : List Frame} {meth : Method} {c : Code} {T T' : State} {locs : List Loc} {cells slots : Nat} {K : Outcome → State → Prop} {Z : State} {h h' : Heap}
theorem own_S {g : JFrame} (g' : JFrame) (st : ∀ t, Steps p.tables e below (T'.setTop g') t → Steps p.tables e below (T.setTop g) t) (k : own_E p e below K T' g') : own_E p e below K T g := by
  obtain ⟨s₂, o, h1, h2⟩ := k
  exact ⟨s₂, o, st _ h1, h2⟩
theorem own_s {g : JFrame} {t : State} (g' : JFrame) (st : ∀ t, Steps p.tables e below (T'.setTop g') t → Steps p.tables e below (T.setTop g) t) (k : Steps p.tables e below (T'.setTop g') t) : Steps p.tables e below (T.setTop g) t := st t k
theorem own_ret {Q : Option Value → Heap → List Loc → Prop} {kc ks : Nat} (X : Stand p l e R s m args below meth c T locs cells slots) (hx : p.tables.exec = Jvm.exec) (hlk : meth.locks = false) {pc : Nat} {Ls : Array Slot} {w : Value} {t : FieldType} {i : Instr} {rest : List Value} (hret : meth.sig.returnType = some t) (hn : narrow t w = w)
    (hi : (i = .ireturn ∧ (t = .int ∨ t = .boolean ∨ t = .byte ∨ t = .char ∨ t = .short) ∧ ∃ z, w = .int z) ∨ (i = .lreturn ∧ t = .long ∧ ∃ z, w = .long z) ∨ (i = .dreturn ∧ t = .double ∧ ∃ z, w = .double z) ∨ (i = .freturn ∧ t = .float ∧ ∃ z, w = .float z) ∨ (i = .areturn ∧ t.isReference = true ∧ w.isRef = true))
    (hd : decode c.code pc = .ok (i, 1)) (hQ : Q (some w) T.heap locs) (h1 : cells ≤ kc) (h2 : slots ≤ ks) : own_E p e below (own_K s Q kc ks) T (mkF m pc Ls (w :: rest)) := by
  obtain ⟨fs, hr, hrun, hended, hW, hsame⟩ := X.leave (v := some w) (fun h => by rw [hret] at h; cases h) hlk
  exact ⟨_, _, retOut X hx hret hn hi hd hr, hrun, hended, _, _, rfl, hQ, ⟨_, rfl⟩, hW, hsame.mono h1 h2⟩
theorem own_retN {Q : Option Value → Heap → List Loc → Prop} {kc ks : Nat} (X : Stand p l e R s m args below meth c T locs cells slots) (hx : p.tables.exec = Jvm.exec) (hlk : meth.locks = false) {pc : Nat} {Ls : Array Slot} {z : Int32} {t : FieldType} {rest : List Value} (hret : meth.sig.returnType = some t) (ht : t = .boolean ∨ t = .byte ∨ t = .char ∨ t = .short)
    (hd : decode c.code pc = .ok (.ireturn, 1)) (hQ : Q (some (.int (nar t z))) T.heap locs) (h1 : cells ≤ kc) (h2 : slots ≤ ks) : own_E p e below (own_K s Q kc ks) T (mkF m pc Ls (.int z :: rest)) := by
  obtain ⟨fs, hr, hrun, hended, hW, hsame⟩ := X.leave (v := some (.int (nar t z))) (fun h => by rw [hret] at h; cases h) hlk
  exact ⟨_, _, retN X hx hret ht hd hr, hrun, hended, _, _, rfl, hQ, ⟨_, rfl⟩, hW, hsame.mono h1 h2⟩
theorem own_ret0 {Q : Option Value → Heap → List Loc → Prop} {kc ks : Nat} (X : Stand p l e R s m args below meth c T locs cells slots) (hx : p.tables.exec = Jvm.exec) (hlk : meth.locks = false) {pc : Nat} {Ls : Array Slot} (hret : meth.sig.returnType = none)
    (hd : decode c.code pc = .ok (.return_, 1)) (hQ : Q none T.heap locs) (h1 : cells ≤ kc) (h2 : slots ≤ ks) : own_E p e below (own_K s Q kc ks) T (mkF m pc Ls []) := by
  obtain ⟨fs, hr, hrun, hended, hW, hsame⟩ := X.leave (v := none) (fun _ => rfl) hlk
  exact ⟨_, _, X.returnOut hx hret hd hr, hrun, hended, _, _, rfl, hQ, ⟨_, rfl⟩, hW, hsame.mono h1 h2⟩
theorem own_weak (X : Stand p l e R s m args below meth c T locs cells slots) {locs' : List Loc} {kc ks : Nat} (hl : ∀ y ∈ locs, y ∈ locs' ∨ s.heap.size ≤ y.base) (h1 : cells ≤ kc) (h2 : slots ≤ ks) : Stand p l e R s m args below meth c T locs' kc ks :=
  { X with same := (X.same.sift hl).mono h1 h2 }
theorem Sta_keep {C n d : String} {w : Value} {ws : List Addr} {n0 : Nat} (F : Sta Z h C n d w) (K : Keep h h' ws) (hn : ∀ a ∈ ws, ∀ cell : Cell, h[a]? = some cell → cell.vm.isStatics = false) : Sta Z h' C n d w := by
  obtain ⟨cf, i, k, f, st, cell, h1, h2, h3, h4, h5, h6, h7⟩ := F
  exact ⟨cf, i, k, f, st, cell, h1, h2, h3, h4, K.2.1 st cell h5 (fun q => by have := hn st q cell h5; rw [h6] at this; cases this), h6, h7⟩
theorem Ins_keep {a : Addr} {C : String} {b : Bool} {ws : List Addr} (F : Ins Z h a C b) (K : Keep h h' ws) : Ins Z h' a C b := by
  obtain ⟨cell, cT, h1, h2, h3⟩ := F
  obtain ⟨c', q1, q2, q3, -⟩ := K.2.2 a cell h1
  exact ⟨c', cT, q1, h2, by rw [q2, q3]; exact h3⟩
end OwnKit
theorem own_nn (x : Int32) : ¬ ((x &&& (2147483647 : Int32)) < (0 : Int32)) := by
  have := c_mask x 2147483647 31 (by decide) (by decide)
  rw [Int32.lt_iff_toInt_lt, this]
  have h0 : (0 : Int32).toInt = 0 := rfl
  omega
theorem own_law1 (c j : Int32) : (((((31 : Int32) * c) + j) * (31 : Int32)) + (-1 : Int32)) = ((((961 : Int64) * (c).toInt64) + ((31 : Int64) * (j).toInt64)) - (1 : Int64)).toInt32 := by
  rw [Int64.toInt32_sub, Int64.toInt32_add, Int64.toInt32_mul, Int64.toInt32_mul, Int32.toInt32_toInt64, Int32.toInt32_toInt64]
  show _ = (961 : Int32) * c + (31 : Int32) * j - (1 : Int32)
  grind
theorem own_law2 (c j t : Int32) : (((((31 : Int32) * c) + j) * (31 : Int32)) + t) = ((((961 : Int64) * (c).toInt64) + ((31 : Int64) * (j).toInt64)) + (t).toInt64).toInt32 := by
  rw [Int64.toInt32_add, Int64.toInt32_add, Int64.toInt32_mul, Int64.toInt32_mul, Int32.toInt32_toInt64, Int32.toInt32_toInt64, Int32.toInt32_toInt64]
  show _ = (961 : Int32) * c + (31 : Int32) * j + t
  grind
abbrev own_y0 : MethodName := ⟨"com/example/referee/referee/logic/ltl/Formula", "<init>", "(II)V"⟩
abbrev own_y1 : MethodName := ⟨"com/example/referee/referee/logic/ltl/Pointer", "<init>", "(III)V"⟩
abbrev own_y2 : MethodName := ⟨"com/example/referee/referee/logic/ltl/Pointer", "<init>", "(II)V"⟩
abbrev own_y3 : MethodName := ⟨"com/example/referee/referee/logic/ltl/Pointer", "at", "(I)Lcom/example/referee/referee/logic/ltl/Pointer;"⟩
abbrev own_y4 : MethodName := ⟨"com/example/referee/referee/logic/ltl/Pointer", "hashCode", "()I"⟩
abbrev own_y5 : MethodName := ⟨"com/example/referee/referee/logic/ltl/Pointer", "address", "()Lcom/example/referee/referee/logic/ltl/Pointer;"⟩
theorem d3_0 : decode prog_75_method_1_code 0 = .ok (.aload_n 0, 1) := by decide +kernel
theorem d3_1 : decode prog_75_method_1_code 1 = .ok (.invokespecial 1, 3) := by decide +kernel
theorem d3_4 : decode prog_75_method_1_code 4 = .ok (.aload_n 0, 1) := by decide +kernel
theorem d3_5 : decode prog_75_method_1_code 5 = .ok (.iload_n 1, 1) := by decide +kernel
theorem d3_6 : decode prog_75_method_1_code 6 = .ok (.putfield 7, 3) := by decide +kernel
theorem d3_9 : decode prog_75_method_1_code 9 = .ok (.aload_n 0, 1) := by decide +kernel
theorem d3_10 : decode prog_75_method_1_code 10 = .ok (.iload_n 2, 1) := by decide +kernel
theorem d3_11 : decode prog_75_method_1_code 11 = .ok (.putfield 13, 3) := by decide +kernel
theorem d3_14 : decode prog_75_method_1_code 14 = .ok (.return_, 1) := by decide +kernel
theorem own_pn_com_example_referee_referee_logic_ltl_Formula : plainName "com/example/referee/referee/logic/ltl/Formula" = true := by first | (simp [plainName, overriddenIn]; done) | decide +kernel
theorem own_ef_fi (m : MethodId) (y0 : Addr) (y1 : Int32) (y2 : Int32) : entryFrame m #[(.ref y0), (.int y1), (.int y2)] 3 = mkF m 0 #[rv y0, iv y1, iv y2] [] := by first | (simp [entryFrame, mkF, argsToLocals, Value.category]; done) | rfl
def own_Qfi (Z : State) (a : Addr) (x : Int32) (y : Int32) (u1 : Value) (u2 : Value) (u3 : Value) (u4 : Value) (u5 : Value) (h0 : Heap) (n0 : Nat) (v : Option Value) (h : Heap) (L : List Loc) : Prop := v = none ∧ Fr n0 L ∧ Keep h0 h [a] ∧ Exa Z h a "com/example/referee/referee/logic/ltl/Pointer" ∧ Fld Z h a "com/example/referee/referee/logic/ltl/Formula" "height" "I" (.int x) ∧ Fld Z h a "com/example/referee/referee/logic/ltl/Formula" "size" "I" (.int y) ∧ Fld Z h a "com/example/referee/referee/logic/ltl/Pointer" "component" "I" u3 ∧ Fld Z h a "com/example/referee/referee/logic/ltl/Pointer" "cell" "I" u4 ∧ Fld Z h a "com/example/referee/referee/logic/ltl/Pointer" "instance" "I" u5
set_option maxRecDepth 65536 in
set_option maxHeartbeats 40000000 in
theorem own_rmfi (l : Launch) (Z : State) (a0 : Array Value) (hw : ∀ d ∈ tables_1, d.before a0 Z = true) (ws : List Jvm.Cond) (a : Addr) (x : Int32) (y : Int32) (u1 : Value) (u2 : Value) (u3 : Value) (u4 : Value) (u5 : Value) (h0 : Heap) (n0 : Nat) (Z0 : n0 ≤ h0.size) (P0 : Exa Z h0 a "com/example/referee/referee/logic/ltl/Pointer") (P1 : Fld Z h0 a "com/example/referee/referee/logic/ltl/Formula" "height" "I" u1) (P2 : Fld Z h0 a "com/example/referee/referee/logic/ltl/Formula" "size" "I" u2) (P3 : Fld Z h0 a "com/example/referee/referee/logic/ltl/Pointer" "component" "I" u3) (P4 : Fld Z h0 a "com/example/referee/referee/logic/ltl/Pointer" "cell" "I" u4) (P5 : Fld Z h0 a "com/example/referee/referee/logic/ltl/Pointer" "instance" "I" u5) (G_a : n0 ≤ a) :
    MetFree l own_y0 (head1 (Jvm.Cond.code own_y0 prog_75_method_1_code 3 none :: ws) ({ frames := 1, cells := 0, slots := 0, locals := 12 } : Room)) (fun az Uz => az = #[(.ref a), (.int x), (.int y)] ∧ Z.Warmed39 Uz.vm ∧ Uz.heap = h0) (fun _ _ _ _ _ => True) (fun _ U o U' => ∃ v L, o = .returned v ∧ own_Qfi Z a x y u1 u2 u3 u4 u5 h0 n0 v U'.heap L ∧ FrameEnd U o U' L ({ frames := 1, cells := 0, slots := 0, locals := 12 } : Room).cells ({ frames := 1, cells := 0, slots := 0, locals := 12 } : Room).slots) := by
  refine MetFree.of_bodySF (plainFor_of_name own_pn_com_example_referee_referee_logic_ltl_Formula) hisR ?_
  intro p e s m args below meth c s₁ Bd hml0 hP hK
  obtain ⟨rfl, hZ, hh⟩ := hP
  have hx := Bd.exec
  have hby := Bd.bytes
  have hml : c.maxLocals = 3 := hml0
  have hown : s.vm.findClass "com/example/referee/referee/logic/ltl/Formula" = some m.cls := findClass_of_methodNamed Bd.named
  have hnm := (name_of_methodNamed Bd.named Bd.method).1
  have hlk : meth.locks = false := BodyLoose.notSynchronized Bd
  have hret := Bd.returns
  have X0 : Stand p l e ({ frames := 1, cells := 0, slots := 0, locals := 12 } : Room) s m #[(.ref a), (.int x), (.int y)] below meth c s₁ [] 0 0 := Stand.of_body Bd
  have e0 : s₁.heap = h0 := by rw [← hh, Bd.state]; rfl
  have N0 := Fr.nil n0
  show own_E p e below (own_K s (own_Qfi Z a x y u1 u2 u3 u4 u5 h0 n0) ({ frames := 1, cells := 0, slots := 0, locals := 12 } : Room).cells ({ frames := 1, cells := 0, slots := 0, locals := 12 } : Room).slots) s₁ (entryFrame m #[(.ref a), (.int x), (.int y)] 3)
  refine own_S (mkF m 0 #[rv a, iv x, iv y] []) (fun _ k => castTop (own_ef_fi m (a) (x) (y)) k) ?_
  refine own_S (mkF m 1 #[rv a, iv x, iv y] [(.ref a)]) (fun _ k => XS.aloadN X0.here hx rfl (hb hby d3_0) rfl rfl k) ?_
  obtain ⟨T1, X1, e1, st1⟩ := initO X0 hx hZ hown (own_g hw (i := 15) rfl) (own_g hw (i := 16) rfl) (own_g hw (i := 17) rfl) e0 (g := (mkF m 1 #[rv a, iv x, iv y] [(.ref a)])) rfl (by rw [hml]; rfl) rfl (hb hby d3_1) (by decide) (W := 0) (by show 2 * 0 + _ ≤ _; exact Nat.le_of_eq rfl) (by decide)
  refine own_S (mkF m 4 #[rv a, iv x, iv y] []) st1 ?_
  refine own_S (mkF m 5 #[rv a, iv x, iv y] [(.ref a)]) (fun _ k => XS.aloadN X1.here hx rfl (hb hby d3_4) rfl rfl k) ?_
  refine own_S (mkF m 6 #[rv a, iv x, iv y] [(.int x), (.ref a)]) (fun _ k => XS.iloadN X1.here hx rfl (hb hby d3_5) rfl k) ?_
  obtain ⟨T2, h2, X2, e2, W2, st2⟩ := putF X1 hx hZ hown (host := "") (Or.inl (own_g hw (i := 18) rfl)) Via.refl e1 P1 P0 (Or.inr ⟨(own_g hw (i := 19) rfl), rfl, hnm⟩) (own_g hw (i := 2) rfl) (ty := .int) (by decide) rfl rfl (g := (mkF m 6 #[rv a, iv x, iv y] [(.int x), (.ref a)])) rfl rfl (hb hby d3_6)
  refine own_S (mkF m 9 #[rv a, iv x, iv y] []) st2 ?_
  have F3 := P0.wr W2
  have F4 := P1.same W2
  have F5 := P2.other W2 (Or.inr (slot_ne (Or.inr (own_g hw (i := 21) rfl)) (Or.inr (own_g hw (i := 19) rfl)) (by decide) (t := .int) (t' := .int) (by decide) (by decide)))
  have F6 := P3.other W2 (Or.inr (slot_ne (Or.inr (own_g hw (i := 23) rfl)) (Or.inr (own_g hw (i := 19) rfl)) (by decide) (t := .int) (t' := .int) (by decide) (by decide)))
  have F7 := P4.other W2 (Or.inr (slot_ne (Or.inr (own_g hw (i := 25) rfl)) (Or.inr (own_g hw (i := 19) rfl)) (by decide) (t := .int) (t' := .int) (by decide) (by decide)))
  have F8 := P5.other W2 (Or.inr (slot_ne (Or.inr (own_g hw (i := 27) rfl)) (Or.inr (own_g hw (i := 19) rfl)) (by decide) (t := .int) (t' := .int) (by decide) (by decide)))
  have N2 := Fr.snoc X2 N0 G_a
  have Z2 : n0 ≤ h2.size := by rw [Wr.size W2]; exact Z0
  have K2 : Keep h0 h2 [a] := (Keep.refl _ _).wr W2 (Or.inl (List.mem_of_getElem? (i := 0) rfl))
  refine own_S (mkF m 10 #[rv a, iv x, iv y] [(.ref a)]) (fun _ k => XS.aloadN X2.here hx rfl (hb hby d3_9) rfl rfl k) ?_
  refine own_S (mkF m 11 #[rv a, iv x, iv y] [(.int y), (.ref a)]) (fun _ k => XS.iloadN X2.here hx rfl (hb hby d3_10) rfl k) ?_
  obtain ⟨T9, h9, X9, e9, W9, st9⟩ := putF X2 hx hZ hown (host := "") (Or.inl (own_g hw (i := 20) rfl)) Via.refl e2 F5 F3 (Or.inr ⟨(own_g hw (i := 21) rfl), rfl, hnm⟩) (own_g hw (i := 2) rfl) (ty := .int) (by decide) rfl rfl (g := (mkF m 11 #[rv a, iv x, iv y] [(.int y), (.ref a)])) rfl rfl (hb hby d3_11)
  refine own_S (mkF m 14 #[rv a, iv x, iv y] []) st9 ?_
  have F10 := F3.wr W9
  have F11 := F4.other W9 (Or.inr (slot_ne (Or.inr (own_g hw (i := 19) rfl)) (Or.inr (own_g hw (i := 21) rfl)) (by decide) (t := .int) (t' := .int) (by decide) (by decide)))
  have F12 := F5.same W9
  have F13 := F6.other W9 (Or.inr (slot_ne (Or.inr (own_g hw (i := 23) rfl)) (Or.inr (own_g hw (i := 21) rfl)) (by decide) (t := .int) (t' := .int) (by decide) (by decide)))
  have F14 := F7.other W9 (Or.inr (slot_ne (Or.inr (own_g hw (i := 25) rfl)) (Or.inr (own_g hw (i := 21) rfl)) (by decide) (t := .int) (t' := .int) (by decide) (by decide)))
  have F15 := F8.other W9 (Or.inr (slot_ne (Or.inr (own_g hw (i := 27) rfl)) (Or.inr (own_g hw (i := 21) rfl)) (by decide) (t := .int) (t' := .int) (by decide) (by decide)))
  have N9 := Fr.snoc X9 N2 G_a
  have Z9 : n0 ≤ h9.size := by rw [Wr.size W9]; exact Z2
  have K9 : Keep h0 h9 [a] := K2.wr W9 (Or.inl (List.mem_of_getElem? (i := 0) rfl))
  exact own_ret0 X9 hx hlk hret (hb hby d3_14) (by rw [e9]; exact ⟨rfl, N9, K9, F10, F11, F12, F13, F14, F15⟩) (by decide) (by decide)
theorem d2_0 : decode prog_88_method_2_code 0 = .ok (.aload_n 0, 1) := by decide +kernel
theorem d2_1 : decode prog_88_method_2_code 1 = .ok (.iconst 1, 1) := by decide +kernel
theorem d2_2 : decode prog_88_method_2_code 2 = .ok (.iconst 1, 1) := by decide +kernel
theorem d2_3 : decode prog_88_method_2_code 3 = .ok (.invokespecial 7, 3) := by decide +kernel
theorem d2_6 : decode prog_88_method_2_code 6 = .ok (.iload_n 1, 1) := by decide +kernel
theorem d2_7 : decode prog_88_method_2_code 7 = .ok (.ifCond .lt 7, 3) := by decide +kernel
theorem d2_10 : decode prog_88_method_2_code 10 = .ok (.iload_n 2, 1) := by decide +kernel
theorem d2_11 : decode prog_88_method_2_code 11 = .ok (.ifCond .ge 18, 3) := by decide +kernel
theorem d2_29 : decode prog_88_method_2_code 29 = .ok (.aload_n 0, 1) := by decide +kernel
theorem d2_30 : decode prog_88_method_2_code 30 = .ok (.iload_n 1, 1) := by decide +kernel
theorem d2_31 : decode prog_88_method_2_code 31 = .ok (.putfield 21, 3) := by decide +kernel
theorem d2_34 : decode prog_88_method_2_code 34 = .ok (.aload_n 0, 1) := by decide +kernel
theorem d2_35 : decode prog_88_method_2_code 35 = .ok (.iload_n 2, 1) := by decide +kernel
theorem d2_36 : decode prog_88_method_2_code 36 = .ok (.putfield 25, 3) := by decide +kernel
theorem d2_39 : decode prog_88_method_2_code 39 = .ok (.aload_n 0, 1) := by decide +kernel
theorem d2_40 : decode prog_88_method_2_code 40 = .ok (.iload_n 3, 1) := by decide +kernel
theorem d2_41 : decode prog_88_method_2_code 41 = .ok (.putfield 28, 3) := by decide +kernel
theorem d2_44 : decode prog_88_method_2_code 44 = .ok (.return_, 1) := by decide +kernel
theorem own_pd__II_V : parseMethodDescriptor "(II)V" = some ⟨[.int, .int], none⟩ := by decide +kernel
theorem own_pn_com_example_referee_referee_logic_ltl_Pointer : plainName "com/example/referee/referee/logic/ltl/Pointer" = true := by first | (simp [plainName, overriddenIn]; done) | decide +kernel
theorem own_ef_p3 (m : MethodId) (y0 : Addr) (y1 : Int32) (y2 : Int32) (y3 : Int32) : entryFrame m #[(.ref y0), (.int y1), (.int y2), (.int y3)] 4 = mkF m 0 #[rv y0, iv y1, iv y2, iv y3] [] := by first | (simp [entryFrame, mkF, argsToLocals, Value.category]; done) | rfl
def own_Qp3 (Z : State) (a : Addr) (x : Int32) (y : Int32) (z : Int32) (u1 : Value) (u2 : Value) (u3 : Value) (u4 : Value) (u5 : Value) (h0 : Heap) (n0 : Nat) (v : Option Value) (h : Heap) (L : List Loc) : Prop := v = none ∧ Fr n0 L ∧ Keep h0 h [a] ∧ Exa Z h a "com/example/referee/referee/logic/ltl/Pointer" ∧ Fld Z h a "com/example/referee/referee/logic/ltl/Formula" "height" "I" (.int (1 : Int32)) ∧ Fld Z h a "com/example/referee/referee/logic/ltl/Formula" "size" "I" (.int (1 : Int32)) ∧ Fld Z h a "com/example/referee/referee/logic/ltl/Pointer" "component" "I" (.int x) ∧ Fld Z h a "com/example/referee/referee/logic/ltl/Pointer" "cell" "I" (.int y) ∧ Fld Z h a "com/example/referee/referee/logic/ltl/Pointer" "instance" "I" (.int z)
set_option maxRecDepth 65536 in
set_option maxHeartbeats 40000000 in
theorem own_rmp3 (l : Launch) (Z : State) (a0 : Array Value) (hw : ∀ d ∈ tables_1, d.before a0 Z = true) (ws : List Jvm.Cond) (a : Addr) (x : Int32) (y : Int32) (z : Int32) (u1 : Value) (u2 : Value) (u3 : Value) (u4 : Value) (u5 : Value) (h0 : Heap) (n0 : Nat) (Z0 : n0 ≤ h0.size) (P0 : Exa Z h0 a "com/example/referee/referee/logic/ltl/Pointer") (P1 : Fld Z h0 a "com/example/referee/referee/logic/ltl/Formula" "height" "I" u1) (P2 : Fld Z h0 a "com/example/referee/referee/logic/ltl/Formula" "size" "I" u2) (P3 : Fld Z h0 a "com/example/referee/referee/logic/ltl/Pointer" "component" "I" u3) (P4 : Fld Z h0 a "com/example/referee/referee/logic/ltl/Pointer" "cell" "I" u4) (P5 : Fld Z h0 a "com/example/referee/referee/logic/ltl/Pointer" "instance" "I" u5) (G_a : n0 ≤ a) (hx0 : ¬ (x < (0 : Int32))) (hy0 : ¬ (y < (0 : Int32))) :
    MetFree l own_y1 (head1 (Jvm.Cond.code own_y1 prog_88_method_2_code 4 none :: ws) ({ frames := 2, cells := 0, slots := 0, locals := 26 } : Room)) (fun az Uz => az = #[(.ref a), (.int x), (.int y), (.int z)] ∧ Z.Warmed39 Uz.vm ∧ Uz.heap = h0) (fun _ _ _ _ _ => True) (fun _ U o U' => ∃ v L, o = .returned v ∧ own_Qp3 Z a x y z u1 u2 u3 u4 u5 h0 n0 v U'.heap L ∧ FrameEnd U o U' L ({ frames := 2, cells := 0, slots := 0, locals := 26 } : Room).cells ({ frames := 2, cells := 0, slots := 0, locals := 26 } : Room).slots) := by
  refine MetFree.of_bodySF (plainFor_of_name own_pn_com_example_referee_referee_logic_ltl_Pointer) hisR ?_
  intro p e s m args below meth c s₁ Bd hml0 hP hK
  obtain ⟨rfl, hZ, hh⟩ := hP
  have hx := Bd.exec
  have hby := Bd.bytes
  have hml : c.maxLocals = 4 := hml0
  have hown : s.vm.findClass "com/example/referee/referee/logic/ltl/Pointer" = some m.cls := findClass_of_methodNamed Bd.named
  have hnm := (name_of_methodNamed Bd.named Bd.method).1
  have hlk : meth.locks = false := BodyLoose.notSynchronized Bd
  have hret := Bd.returns
  have X0 : Stand p l e ({ frames := 2, cells := 0, slots := 0, locals := 26 } : Room) s m #[(.ref a), (.int x), (.int y), (.int z)] below meth c s₁ [] 0 0 := Stand.of_body Bd
  have e0 : s₁.heap = h0 := by rw [← hh, Bd.state]; rfl
  have N0 := Fr.nil n0
  show own_E p e below (own_K s (own_Qp3 Z a x y z u1 u2 u3 u4 u5 h0 n0) ({ frames := 2, cells := 0, slots := 0, locals := 26 } : Room).cells ({ frames := 2, cells := 0, slots := 0, locals := 26 } : Room).slots) s₁ (entryFrame m #[(.ref a), (.int x), (.int y), (.int z)] 4)
  refine own_S (mkF m 0 #[rv a, iv x, iv y, iv z] []) (fun _ k => castTop (own_ef_p3 m (a) (x) (y) (z)) k) ?_
  refine own_S (mkF m 1 #[rv a, iv x, iv y, iv z] [(.ref a)]) (fun _ k => XS.aloadN X0.here hx rfl (hb hby d2_0) rfl rfl k) ?_
  refine own_S (mkF m 2 #[rv a, iv x, iv y, iv z] [(.int 1), (.ref a)]) (fun _ k => XS.iconst X0.here hx rfl (hb hby d2_1) k) ?_
  refine own_S (mkF m 3 #[rv a, iv x, iv y, iv z] [(.int 1), (.int 1), (.ref a)]) (fun _ k => XS.iconst X0.here hx rfl (hb hby d2_2) k) ?_
  obtain ⟨_, _, ⟨T1, L1, k1, n1⟩, -, X1, ⟨Lc1, hQ1, l1, y1, z1⟩, st1⟩ := X0.specialBack hx (y := own_y0) rfl hown (mvT hZ (own_g hw (i := 10) rfl)) (mvT hZ (own_g hw (i := 11) rfl)) (mvT hZ (own_g hw (i := 14) rfl)) (by decide) (backOf (W := 0) (own_rmfi l Z a0 hw [] (a) ((1 : Int32)) ((1 : Int32)) (u1) (u2) (u3) (u4) (u5) h0 n0 Z0 P0 P1 P2 P3 P4 P5 G_a) hZ (own_g hw (i := 14) rfl) (own_g hw (i := 13) rfl) (by decide) (by decide)) (g := (mkF m 3 #[rv a, iv x, iv y, iv z] [(.int 1), (.int 1), (.ref a)])) rfl (by rw [hml]; rfl) (Steps.refl _) (a := a) (argsL := [(.int 1), (.int 1)]) (rest := []) (lenOf own_pd__II_V rfl) rfl (by show 2 * 0 + _ ≤ _; exact Nat.le_of_eq rfl) (hb hby d2_3) (fun _ _ => ⟨rfl, e0, (by decide : 0 + 0 ≤ _), (by decide : 0 + 0 ≤ _)⟩)
  dsimp only [Pt.U, Pt.locs, Pt.cells, Pt.slots] at X1 l1 y1 z1 st1 hQ1
  subst l1 y1 z1
  obtain ⟨rfl, N1q, K1q, F2, F3, F4, F5, F6, F7⟩ := hQ1
  have N1 := Fr.app N0 N1q
  refine own_S (mkF m 6 #[rv a, iv x, iv y, iv z] []) (fun _ k => st1.trans k) ?_
  have K1 : Keep h0 T1.heap [a] := (Keep.refl h0 [a]).trans K1q (allS (Or.inl (List.mem_of_getElem? (i := 0) rfl)) all0)
  have Z1 : n0 ≤ T1.heap.size := Nat.le_trans Z0 K1q.1
  refine own_S (mkF m 7 #[rv a, iv x, iv y, iv z] [(.int x)]) (fun _ k => XS.iloadN X1.here hx rfl (hb hby d2_6) rfl k) ?_
  have hc8 : ¬ (x < (0 : Int32)) := hx0
  refine own_S (mkF m 10 #[rv a, iv x, iv y, iv z] []) (fun _ k => XS.ifNo X1.here hx rfl (hb hby d2_7) rfl ((if0 _ _).trans (flt hc8).1) k) ?_
  refine own_S (mkF m 11 #[rv a, iv x, iv y, iv z] [(.int y)]) (fun _ k => XS.iloadN X1.here hx rfl (hb hby d2_10) rfl k) ?_
  have hc9 : ¬ (y < (0 : Int32)) := hy0
  refine own_S (mkF m 29 #[rv a, iv x, iv y, iv z] []) (fun _ k => XS.ifYes X1.here hx rfl (pc0 := 11) (pc' := 29) rfl (hb hby d2_11) rfl ((if0 _ _).trans (flt hc9).2.1) (by decide) (by decide) k) ?_
  refine own_S (mkF m 30 #[rv a, iv x, iv y, iv z] [(.ref a)]) (fun _ k => XS.aloadN X1.here hx rfl (hb hby d2_29) rfl rfl k) ?_
  refine own_S (mkF m 31 #[rv a, iv x, iv y, iv z] [(.int x), (.ref a)]) (fun _ k => XS.iloadN X1.here hx rfl (hb hby d2_30) rfl k) ?_
  obtain ⟨T10, h10, X10, e10, W10, st10⟩ := putF X1 hx hZ hown (host := "") (Or.inl (own_g hw (i := 22) rfl)) Via.refl rfl F5 F2 (Or.inr ⟨(own_g hw (i := 23) rfl), rfl, hnm⟩) (own_g hw (i := 2) rfl) (ty := .int) (by decide) rfl rfl (g := (mkF m 31 #[rv a, iv x, iv y, iv z] [(.int x), (.ref a)])) rfl rfl (hb hby d2_31)
  refine own_S (mkF m 34 #[rv a, iv x, iv y, iv z] []) st10 ?_
  have F11 := F2.wr W10
  have F12 := F3.other W10 (Or.inr (slot_ne (Or.inr (own_g hw (i := 19) rfl)) (Or.inr (own_g hw (i := 23) rfl)) (by decide) (t := .int) (t' := .int) (by decide) (by decide)))
  have F13 := F4.other W10 (Or.inr (slot_ne (Or.inr (own_g hw (i := 21) rfl)) (Or.inr (own_g hw (i := 23) rfl)) (by decide) (t := .int) (t' := .int) (by decide) (by decide)))
  have F14 := F5.same W10
  have F15 := F6.other W10 (Or.inr (slot_ne (Or.inr (own_g hw (i := 25) rfl)) (Or.inr (own_g hw (i := 23) rfl)) (by decide) (t := .int) (t' := .int) (by decide) (by decide)))
  have F16 := F7.other W10 (Or.inr (slot_ne (Or.inr (own_g hw (i := 27) rfl)) (Or.inr (own_g hw (i := 23) rfl)) (by decide) (t := .int) (t' := .int) (by decide) (by decide)))
  have N10 := Fr.snoc X10 N1 G_a
  have Z10 : n0 ≤ h10.size := by rw [Wr.size W10]; exact Z1
  have K10 : Keep h0 h10 [a] := K1.wr W10 (Or.inl (List.mem_of_getElem? (i := 0) rfl))
  refine own_S (mkF m 35 #[rv a, iv x, iv y, iv z] [(.ref a)]) (fun _ k => XS.aloadN X10.here hx rfl (hb hby d2_34) rfl rfl k) ?_
  refine own_S (mkF m 36 #[rv a, iv x, iv y, iv z] [(.int y), (.ref a)]) (fun _ k => XS.iloadN X10.here hx rfl (hb hby d2_35) rfl k) ?_
  obtain ⟨T17, h17, X17, e17, W17, st17⟩ := putF X10 hx hZ hown (host := "") (Or.inl (own_g hw (i := 24) rfl)) Via.refl e10 F15 F11 (Or.inr ⟨(own_g hw (i := 25) rfl), rfl, hnm⟩) (own_g hw (i := 2) rfl) (ty := .int) (by decide) rfl rfl (g := (mkF m 36 #[rv a, iv x, iv y, iv z] [(.int y), (.ref a)])) rfl rfl (hb hby d2_36)
  refine own_S (mkF m 39 #[rv a, iv x, iv y, iv z] []) st17 ?_
  have F18 := F11.wr W17
  have F19 := F12.other W17 (Or.inr (slot_ne (Or.inr (own_g hw (i := 19) rfl)) (Or.inr (own_g hw (i := 25) rfl)) (by decide) (t := .int) (t' := .int) (by decide) (by decide)))
  have F20 := F13.other W17 (Or.inr (slot_ne (Or.inr (own_g hw (i := 21) rfl)) (Or.inr (own_g hw (i := 25) rfl)) (by decide) (t := .int) (t' := .int) (by decide) (by decide)))
  have F21 := F14.other W17 (Or.inr (slot_ne (Or.inr (own_g hw (i := 23) rfl)) (Or.inr (own_g hw (i := 25) rfl)) (by decide) (t := .int) (t' := .int) (by decide) (by decide)))
  have F22 := F15.same W17
  have F23 := F16.other W17 (Or.inr (slot_ne (Or.inr (own_g hw (i := 27) rfl)) (Or.inr (own_g hw (i := 25) rfl)) (by decide) (t := .int) (t' := .int) (by decide) (by decide)))
  have N17 := Fr.snoc X17 N10 G_a
  have Z17 : n0 ≤ h17.size := by rw [Wr.size W17]; exact Z10
  have K17 : Keep h0 h17 [a] := K10.wr W17 (Or.inl (List.mem_of_getElem? (i := 0) rfl))
  refine own_S (mkF m 40 #[rv a, iv x, iv y, iv z] [(.ref a)]) (fun _ k => XS.aloadN X17.here hx rfl (hb hby d2_39) rfl rfl k) ?_
  refine own_S (mkF m 41 #[rv a, iv x, iv y, iv z] [(.int z), (.ref a)]) (fun _ k => XS.iloadN X17.here hx rfl (hb hby d2_40) rfl k) ?_
  obtain ⟨T24, h24, X24, e24, W24, st24⟩ := putF X17 hx hZ hown (host := "") (Or.inl (own_g hw (i := 26) rfl)) Via.refl e17 F23 F18 (Or.inr ⟨(own_g hw (i := 27) rfl), rfl, hnm⟩) (own_g hw (i := 2) rfl) (ty := .int) (by decide) rfl rfl (g := (mkF m 41 #[rv a, iv x, iv y, iv z] [(.int z), (.ref a)])) rfl rfl (hb hby d2_41)
  refine own_S (mkF m 44 #[rv a, iv x, iv y, iv z] []) st24 ?_
  have F25 := F18.wr W24
  have F26 := F19.other W24 (Or.inr (slot_ne (Or.inr (own_g hw (i := 19) rfl)) (Or.inr (own_g hw (i := 27) rfl)) (by decide) (t := .int) (t' := .int) (by decide) (by decide)))
  have F27 := F20.other W24 (Or.inr (slot_ne (Or.inr (own_g hw (i := 21) rfl)) (Or.inr (own_g hw (i := 27) rfl)) (by decide) (t := .int) (t' := .int) (by decide) (by decide)))
  have F28 := F21.other W24 (Or.inr (slot_ne (Or.inr (own_g hw (i := 23) rfl)) (Or.inr (own_g hw (i := 27) rfl)) (by decide) (t := .int) (t' := .int) (by decide) (by decide)))
  have F29 := F22.other W24 (Or.inr (slot_ne (Or.inr (own_g hw (i := 25) rfl)) (Or.inr (own_g hw (i := 27) rfl)) (by decide) (t := .int) (t' := .int) (by decide) (by decide)))
  have F30 := F23.same W24
  have N24 := Fr.snoc X24 N17 G_a
  have Z24 : n0 ≤ h24.size := by rw [Wr.size W24]; exact Z17
  have K24 : Keep h0 h24 [a] := K17.wr W24 (Or.inl (List.mem_of_getElem? (i := 0) rfl))
  exact own_ret0 X24 hx hlk hret (hb hby d2_44) (by rw [e24]; exact ⟨rfl, N24, K24, F25, F26, F27, F28, F29, F30⟩) (by decide) (by decide)
theorem d1_0 : decode prog_88_method_1_code 0 = .ok (.aload_n 0, 1) := by decide +kernel
theorem d1_1 : decode prog_88_method_1_code 1 = .ok (.iload_n 1, 1) := by decide +kernel
theorem d1_2 : decode prog_88_method_1_code 2 = .ok (.iload_n 2, 1) := by decide +kernel
theorem d1_3 : decode prog_88_method_1_code 3 = .ok (.iconst (-1), 1) := by decide +kernel
theorem d1_4 : decode prog_88_method_1_code 4 = .ok (.invokespecial 3, 3) := by decide +kernel
theorem d1_7 : decode prog_88_method_1_code 7 = .ok (.return_, 1) := by decide +kernel
theorem own_pd__III_V : parseMethodDescriptor "(III)V" = some ⟨[.int, .int, .int], none⟩ := by decide +kernel
theorem own_ef_p2 (m : MethodId) (y0 : Addr) (y1 : Int32) (y2 : Int32) : entryFrame m #[(.ref y0), (.int y1), (.int y2)] 3 = mkF m 0 #[rv y0, iv y1, iv y2] [] := by first | (simp [entryFrame, mkF, argsToLocals, Value.category]; done) | rfl
def own_Qp2 (Z : State) (a : Addr) (x : Int32) (y : Int32) (u1 : Value) (u2 : Value) (u3 : Value) (u4 : Value) (u5 : Value) (h0 : Heap) (n0 : Nat) (v : Option Value) (h : Heap) (L : List Loc) : Prop := v = none ∧ Fr n0 L ∧ Keep h0 h [a] ∧ Exa Z h a "com/example/referee/referee/logic/ltl/Pointer" ∧ Fld Z h a "com/example/referee/referee/logic/ltl/Formula" "height" "I" (.int (1 : Int32)) ∧ Fld Z h a "com/example/referee/referee/logic/ltl/Formula" "size" "I" (.int (1 : Int32)) ∧ Fld Z h a "com/example/referee/referee/logic/ltl/Pointer" "component" "I" (.int x) ∧ Fld Z h a "com/example/referee/referee/logic/ltl/Pointer" "cell" "I" (.int y) ∧ Fld Z h a "com/example/referee/referee/logic/ltl/Pointer" "instance" "I" (.int (-1 : Int32))
set_option maxRecDepth 65536 in
set_option maxHeartbeats 40000000 in
theorem own_rmp2 (l : Launch) (Z : State) (a0 : Array Value) (hw : ∀ d ∈ tables_1, d.before a0 Z = true) (ws : List Jvm.Cond) (a : Addr) (x : Int32) (y : Int32) (u1 : Value) (u2 : Value) (u3 : Value) (u4 : Value) (u5 : Value) (h0 : Heap) (n0 : Nat) (Z0 : n0 ≤ h0.size) (P0 : Exa Z h0 a "com/example/referee/referee/logic/ltl/Pointer") (P1 : Fld Z h0 a "com/example/referee/referee/logic/ltl/Formula" "height" "I" u1) (P2 : Fld Z h0 a "com/example/referee/referee/logic/ltl/Formula" "size" "I" u2) (P3 : Fld Z h0 a "com/example/referee/referee/logic/ltl/Pointer" "component" "I" u3) (P4 : Fld Z h0 a "com/example/referee/referee/logic/ltl/Pointer" "cell" "I" u4) (P5 : Fld Z h0 a "com/example/referee/referee/logic/ltl/Pointer" "instance" "I" u5) (G_a : n0 ≤ a) (hx0 : ¬ (x < (0 : Int32))) (hy0 : ¬ (y < (0 : Int32))) :
    MetFree l own_y2 (head1 (Jvm.Cond.code own_y2 prog_88_method_1_code 3 none :: ws) ({ frames := 3, cells := 0, slots := 0, locals := 41 } : Room)) (fun az Uz => az = #[(.ref a), (.int x), (.int y)] ∧ Z.Warmed39 Uz.vm ∧ Uz.heap = h0) (fun _ _ _ _ _ => True) (fun _ U o U' => ∃ v L, o = .returned v ∧ own_Qp2 Z a x y u1 u2 u3 u4 u5 h0 n0 v U'.heap L ∧ FrameEnd U o U' L ({ frames := 3, cells := 0, slots := 0, locals := 41 } : Room).cells ({ frames := 3, cells := 0, slots := 0, locals := 41 } : Room).slots) := by
  refine MetFree.of_bodySF (plainFor_of_name own_pn_com_example_referee_referee_logic_ltl_Pointer) hisR ?_
  intro p e s m args below meth c s₁ Bd hml0 hP hK
  obtain ⟨rfl, hZ, hh⟩ := hP
  have hx := Bd.exec
  have hby := Bd.bytes
  have hml : c.maxLocals = 3 := hml0
  have hown : s.vm.findClass "com/example/referee/referee/logic/ltl/Pointer" = some m.cls := findClass_of_methodNamed Bd.named
  have hnm := (name_of_methodNamed Bd.named Bd.method).1
  have hlk : meth.locks = false := BodyLoose.notSynchronized Bd
  have hret := Bd.returns
  have X0 : Stand p l e ({ frames := 3, cells := 0, slots := 0, locals := 41 } : Room) s m #[(.ref a), (.int x), (.int y)] below meth c s₁ [] 0 0 := Stand.of_body Bd
  have e0 : s₁.heap = h0 := by rw [← hh, Bd.state]; rfl
  have N0 := Fr.nil n0
  show own_E p e below (own_K s (own_Qp2 Z a x y u1 u2 u3 u4 u5 h0 n0) ({ frames := 3, cells := 0, slots := 0, locals := 41 } : Room).cells ({ frames := 3, cells := 0, slots := 0, locals := 41 } : Room).slots) s₁ (entryFrame m #[(.ref a), (.int x), (.int y)] 3)
  refine own_S (mkF m 0 #[rv a, iv x, iv y] []) (fun _ k => castTop (own_ef_p2 m (a) (x) (y)) k) ?_
  refine own_S (mkF m 1 #[rv a, iv x, iv y] [(.ref a)]) (fun _ k => XS.aloadN X0.here hx rfl (hb hby d1_0) rfl rfl k) ?_
  refine own_S (mkF m 2 #[rv a, iv x, iv y] [(.int x), (.ref a)]) (fun _ k => XS.iloadN X0.here hx rfl (hb hby d1_1) rfl k) ?_
  refine own_S (mkF m 3 #[rv a, iv x, iv y] [(.int y), (.int x), (.ref a)]) (fun _ k => XS.iloadN X0.here hx rfl (hb hby d1_2) rfl k) ?_
  refine own_S (mkF m 4 #[rv a, iv x, iv y] [(.int (-1)), (.int y), (.int x), (.ref a)]) (fun _ k => XS.iconst X0.here hx rfl (hb hby d1_3) k) ?_
  obtain ⟨_, _, ⟨T1, L1, k1, n1⟩, -, X1, ⟨Lc1, hQ1, l1, y1, z1⟩, st1⟩ := X0.specialBack hx (y := own_y1) rfl hown (mvT hZ (own_g hw (i := 7) rfl)) (mvT hZ (own_g hw (i := 8) rfl)) (mvT hZ (own_g hw (i := 9) rfl)) (by decide) (backOf (W := 0) (own_rmp3 l Z a0 hw [] (a) (x) (y) ((-1 : Int32)) (u1) (u2) (u3) (u4) (u5) h0 n0 Z0 P0 P1 P2 P3 P4 P5 G_a hx0 hy0) hZ (own_g hw (i := 9) rfl) (own_g hw (i := 3) rfl) (by decide) (by decide)) (g := (mkF m 4 #[rv a, iv x, iv y] [(.int (-1)), (.int y), (.int x), (.ref a)])) rfl (by rw [hml]; rfl) (Steps.refl _) (a := a) (argsL := [(.int x), (.int y), (.int (-1))]) (rest := []) (lenOf own_pd__III_V rfl) rfl (by show 2 * 0 + _ ≤ _; exact Nat.le_of_eq rfl) (hb hby d1_4) (fun _ _ => ⟨rfl, e0, (by decide : 0 + 0 ≤ _), (by decide : 0 + 0 ≤ _)⟩)
  dsimp only [Pt.U, Pt.locs, Pt.cells, Pt.slots] at X1 l1 y1 z1 st1 hQ1
  subst l1 y1 z1
  obtain ⟨rfl, N1q, K1q, F2, F3, F4, F5, F6, F7⟩ := hQ1
  have N1 := Fr.app N0 N1q
  refine own_S (mkF m 7 #[rv a, iv x, iv y] []) (fun _ k => st1.trans k) ?_
  have K1 : Keep h0 T1.heap [a] := (Keep.refl h0 [a]).trans K1q (allS (Or.inl (List.mem_of_getElem? (i := 0) rfl)) all0)
  have Z1 : n0 ≤ T1.heap.size := Nat.le_trans Z0 K1q.1
  exact own_ret0 X1 hx hlk hret (hb hby d1_7) ⟨rfl, N1, K1, F2, F3, F4, F5, F6, F7⟩ (by decide) (by decide)
theorem d6_0 : decode prog_88_method_3_code 0 = .ok (.iload_n 1, 1) := by decide +kernel
theorem d6_1 : decode prog_88_method_3_code 1 = .ok (.ifCond .ge 17, 3) := by decide +kernel
theorem d6_18 : decode prog_88_method_3_code 18 = .ok (.new 1, 3) := by decide +kernel
theorem d6_21 : decode prog_88_method_3_code 21 = .ok (.dup, 1) := by decide +kernel
theorem d6_22 : decode prog_88_method_3_code 22 = .ok (.aload_n 0, 1) := by decide +kernel
theorem d6_23 : decode prog_88_method_3_code 23 = .ok (.getfield 21, 3) := by decide +kernel
theorem d6_26 : decode prog_88_method_3_code 26 = .ok (.aload_n 0, 1) := by decide +kernel
theorem d6_27 : decode prog_88_method_3_code 27 = .ok (.getfield 25, 3) := by decide +kernel
theorem d6_30 : decode prog_88_method_3_code 30 = .ok (.iload_n 1, 1) := by decide +kernel
theorem d6_31 : decode prog_88_method_3_code 31 = .ok (.invokespecial 3, 3) := by decide +kernel
theorem d6_34 : decode prog_88_method_3_code 34 = .ok (.areturn, 1) := by decide +kernel
theorem own_ef_at (m : MethodId) (y0 : Addr) (y1 : Int32) : entryFrame m #[(.ref y0), (.int y1)] 2 = mkF m 0 #[rv y0, iv y1] [] := by first | (simp [entryFrame, mkF, argsToLocals, Value.category]; done) | rfl
def own_Qat (Z : State) (a : Addr) (t : Int32) (x : Int32) (y : Int32) (h0 : Heap) (n0 : Nat) (v : Option Value) (h : Heap) (L : List Loc) : Prop := ∃ (r : Addr), v = some (.ref r) ∧ Fr n0 L ∧ Keep h0 h [] ∧ Exa Z h r "com/example/referee/referee/logic/ltl/Pointer" ∧ Fld Z h r "com/example/referee/referee/logic/ltl/Formula" "height" "I" (.int (1 : Int32)) ∧ Fld Z h r "com/example/referee/referee/logic/ltl/Formula" "size" "I" (.int (1 : Int32)) ∧ Fld Z h r "com/example/referee/referee/logic/ltl/Pointer" "component" "I" (.int x) ∧ Fld Z h r "com/example/referee/referee/logic/ltl/Pointer" "cell" "I" (.int y) ∧ Fld Z h r "com/example/referee/referee/logic/ltl/Pointer" "instance" "I" (.int t) ∧ h0.size ≤ r
set_option maxRecDepth 65536 in
set_option maxHeartbeats 40000000 in
theorem own_rmat (l : Launch) (Z : State) (a0 : Array Value) (hw : ∀ d ∈ tables_1, d.before a0 Z = true) (ws : List Jvm.Cond) (a : Addr) (t : Int32) (x : Int32) (y : Int32) (h0 : Heap) (n0 : Nat) (Z0 : n0 ≤ h0.size) (P0 : Fld Z h0 a "com/example/referee/referee/logic/ltl/Pointer" "component" "I" (.int x)) (P1 : Fld Z h0 a "com/example/referee/referee/logic/ltl/Pointer" "cell" "I" (.int y)) (ht0 : ¬ (t < (0 : Int32))) (hx0 : ¬ (x < (0 : Int32))) (hy0 : ¬ (y < (0 : Int32))) :
    MetFree l own_y3 (head1 (Jvm.Cond.code own_y3 prog_88_method_3_code 2 (some (.object "com/example/referee/referee/logic/ltl/Pointer")) :: ws) ({ frames := 3, cells := 1, slots := 5, locals := 42 } : Room)) (fun az Uz => az = #[(.ref a), (.int t)] ∧ Z.Warmed39 Uz.vm ∧ Uz.heap = h0) (fun _ _ _ _ _ => True) (fun _ U o U' => ∃ v L, o = .returned v ∧ own_Qat Z a t x y h0 n0 v U'.heap L ∧ FrameEnd U o U' L ({ frames := 3, cells := 1, slots := 5, locals := 42 } : Room).cells ({ frames := 3, cells := 1, slots := 5, locals := 42 } : Room).slots) := by
  refine MetFree.of_bodySF (plainFor_of_name own_pn_com_example_referee_referee_logic_ltl_Pointer) hisR ?_
  intro p e s m args below meth c s₁ Bd hml0 hP hK
  obtain ⟨rfl, hZ, hh⟩ := hP
  have hx := Bd.exec
  have hby := Bd.bytes
  have hml : c.maxLocals = 2 := hml0
  have hown : s.vm.findClass "com/example/referee/referee/logic/ltl/Pointer" = some m.cls := findClass_of_methodNamed Bd.named
  have hnm := (name_of_methodNamed Bd.named Bd.method).1
  have hlk : meth.locks = false := BodyLoose.notSynchronized Bd
  have hret := Bd.returns
  have X0 : Stand p l e ({ frames := 3, cells := 1, slots := 5, locals := 42 } : Room) s m #[(.ref a), (.int t)] below meth c s₁ [] 0 0 := Stand.of_body Bd
  have e0 : s₁.heap = h0 := by rw [← hh, Bd.state]; rfl
  have N0 := Fr.nil n0
  show own_E p e below (own_K s (own_Qat Z a t x y h0 n0) ({ frames := 3, cells := 1, slots := 5, locals := 42 } : Room).cells ({ frames := 3, cells := 1, slots := 5, locals := 42 } : Room).slots) s₁ (entryFrame m #[(.ref a), (.int t)] 2)
  refine own_S (mkF m 0 #[rv a, iv t] []) (fun _ k => castTop (own_ef_at m (a) (t)) k) ?_
  refine own_S (mkF m 1 #[rv a, iv t] [(.int t)]) (fun _ k => XS.iloadN X0.here hx rfl (hb hby d6_0) rfl k) ?_
  have hc1 : ¬ (t < (0 : Int32)) := ht0
  refine own_S (mkF m 18 #[rv a, iv t] []) (fun _ k => XS.ifYes X0.here hx rfl (pc0 := 1) (pc' := 18) rfl (hb hby d6_1) rfl ((if0 _ _).trans (flt hc1).2.1) (by decide) (by decide) k) ?_
  obtain ⟨T2, h2, X2, e2, E2, A2, D2, -, st2⟩ := newO X0 hx hZ hown (own_g hw (i := 38) rfl) (own_g hw (i := 2) rfl) (own_g hw (i := 3) rfl) e0 (g := (mkF m 18 #[rv a, iv t] [])) rfl (hb hby d6_18) (by decide) (by decide)
  obtain ⟨r, g2⟩ : ∃ z, z = h0.size := ⟨_, rfl⟩
  rw [← g2] at A2 D2 st2
  have n3 : a ≠ r := Nat.ne_of_lt (Nat.lt_of_lt_of_eq P0.lt g2.symm)
  have ge_r : n0 ≤ r := Nat.le_trans Z0 (Nat.le_of_eq g2.symm)
  have fr_r : h0.size ≤ r := Nat.le_trans (Keep.refl h0 []).1 (Nat.le_of_eq g2.symm)
  have K2 : Keep h0 h2 [] := (Keep.refl _ _).ext E2
  have F4 := P0.ext E2
  have F5 := P1.ext E2
  have Z2 : n0 ≤ h2.size := Nat.le_trans Z0 E2.1
  have F6 : Fld Z h2 r "com/example/referee/referee/logic/ltl/Formula" "height" "I" (.int (0 : Int32)) := D2 (Or.inr (own_g hw (i := 19) rfl)) (ty := .int) (by decide)
  have F7 : Fld Z h2 r "com/example/referee/referee/logic/ltl/Formula" "size" "I" (.int (0 : Int32)) := D2 (Or.inr (own_g hw (i := 21) rfl)) (ty := .int) (by decide)
  have F8 : Fld Z h2 r "com/example/referee/referee/logic/ltl/Pointer" "component" "I" (.int (0 : Int32)) := D2 (Or.inr (own_g hw (i := 23) rfl)) (ty := .int) (by decide)
  have F9 : Fld Z h2 r "com/example/referee/referee/logic/ltl/Pointer" "cell" "I" (.int (0 : Int32)) := D2 (Or.inr (own_g hw (i := 25) rfl)) (ty := .int) (by decide)
  have F10 : Fld Z h2 r "com/example/referee/referee/logic/ltl/Pointer" "instance" "I" (.int (0 : Int32)) := D2 (Or.inr (own_g hw (i := 27) rfl)) (ty := .int) (by decide)
  refine own_S (mkF m 21 #[rv a, iv t] [(.ref r)]) st2 ?_
  refine own_S (mkF m 22 #[rv a, iv t] [(.ref r), (.ref r)]) (fun _ k => XS.dup X2.here hx rfl (hb hby d6_21) rfl rfl k) ?_
  refine own_S (mkF m 23 #[rv a, iv t] [(.ref a), (.ref r), (.ref r)]) (fun _ k => XS.aloadN X2.here hx rfl (hb hby d6_22) rfl rfl k) ?_
  obtain ⟨T11, X11, e11, st11⟩ := getF X2 hx hZ hown (host := "") (Or.inl (own_g hw (i := 22) rfl)) Via.refl e2 F4 (g := (mkF m 23 #[rv a, iv t] [(.ref a), (.ref r), (.ref r)])) rfl rfl (hb hby d6_23)
  refine own_S (mkF m 26 #[rv a, iv t] [(.int x), (.ref r), (.ref r)]) st11 ?_
  refine own_S (mkF m 27 #[rv a, iv t] [(.ref a), (.int x), (.ref r), (.ref r)]) (fun _ k => XS.aloadN X11.here hx rfl (hb hby d6_26) rfl rfl k) ?_
  obtain ⟨T12, X12, e12, st12⟩ := getF X11 hx hZ hown (host := "") (Or.inl (own_g hw (i := 24) rfl)) Via.refl e11 F5 (g := (mkF m 27 #[rv a, iv t] [(.ref a), (.int x), (.ref r), (.ref r)])) rfl rfl (hb hby d6_27)
  refine own_S (mkF m 30 #[rv a, iv t] [(.int y), (.int x), (.ref r), (.ref r)]) st12 ?_
  refine own_S (mkF m 31 #[rv a, iv t] [(.int t), (.int y), (.int x), (.ref r), (.ref r)]) (fun _ k => XS.iloadN X12.here hx rfl (hb hby d6_30) rfl k) ?_
  obtain ⟨_, _, ⟨T13, L13, k13, n13⟩, -, X13, ⟨Lc13, hQ13, l13, y13, z13⟩, st13⟩ := X12.specialBack hx (y := own_y1) rfl hown (mvT hZ (own_g hw (i := 7) rfl)) (mvT hZ (own_g hw (i := 8) rfl)) (mvT hZ (own_g hw (i := 9) rfl)) (by decide) (backOf (W := 1) (own_rmp3 l Z a0 hw [] (r) (x) (y) (t) ((.int (0 : Int32))) ((.int (0 : Int32))) ((.int (0 : Int32))) ((.int (0 : Int32))) ((.int (0 : Int32))) h2 n0 Z2 A2 F6 F7 F8 F9 F10 ge_r hx0 hy0) hZ (own_g hw (i := 9) rfl) (own_g hw (i := 3) rfl) (by decide) (by decide)) (g := (mkF m 31 #[rv a, iv t] [(.int t), (.int y), (.int x), (.ref r), (.ref r)])) rfl (by rw [hml]; rfl) (Steps.refl _) (a := r) (argsL := [(.int x), (.int y), (.int t)]) (rest := [(.ref r)]) (lenOf own_pd__III_V rfl) rfl (by show 2 * 0 + _ ≤ _; exact Nat.le_of_eq rfl) (hb hby d6_31) (fun _ _ => ⟨rfl, e12, (by decide : 1 + 0 ≤ _), (by decide : 5 + 0 ≤ _)⟩)
  dsimp only [Pt.U, Pt.locs, Pt.cells, Pt.slots] at X13 l13 y13 z13 st13 hQ13
  subst l13 y13 z13
  obtain ⟨rfl, N13q, K13q, F14, F15, F16, F17, F18, F19⟩ := hQ13
  have N13 := Fr.app N0 N13q
  refine own_S (mkF m 34 #[rv a, iv t] [(.ref r)]) (fun _ k => st13.trans k) ?_
  have K13 : Keep h0 T13.heap [] := K2.trans K13q (allS (Or.inr fr_r) all0)
  have F20 := F4.keep K13q (ninS n3 nin0)
  have F21 := F5.keep K13q (ninS n3 nin0)
  have Z13 : n0 ≤ T13.heap.size := Nat.le_trans Z2 K13q.1
  exact own_ret X13 hx hlk (t := (.object "com/example/referee/referee/logic/ltl/Pointer")) hret rfl (Or.inr (Or.inr (Or.inr (Or.inr ⟨rfl, rfl, rfl⟩)))) (hb hby d6_34) ⟨r, rfl, N13, K13, F14, F15, F16, F17, F18, F19, fr_r⟩ (by decide) (by decide)
theorem d5_0 : decode prog_88_method_11_code 0 = .ok (.bipush 31, 2) := by decide +kernel
theorem d5_2 : decode prog_88_method_11_code 2 = .ok (.aload_n 0, 1) := by decide +kernel
theorem d5_3 : decode prog_88_method_11_code 3 = .ok (.getfield 21, 3) := by decide +kernel
theorem d5_6 : decode prog_88_method_11_code 6 = .ok (.imul, 1) := by decide +kernel
theorem d5_7 : decode prog_88_method_11_code 7 = .ok (.aload_n 0, 1) := by decide +kernel
theorem d5_8 : decode prog_88_method_11_code 8 = .ok (.getfield 25, 3) := by decide +kernel
theorem d5_11 : decode prog_88_method_11_code 11 = .ok (.iadd, 1) := by decide +kernel
theorem d5_12 : decode prog_88_method_11_code 12 = .ok (.bipush 31, 2) := by decide +kernel
theorem d5_14 : decode prog_88_method_11_code 14 = .ok (.imul, 1) := by decide +kernel
theorem d5_15 : decode prog_88_method_11_code 15 = .ok (.aload_n 0, 1) := by decide +kernel
theorem d5_16 : decode prog_88_method_11_code 16 = .ok (.getfield 28, 3) := by decide +kernel
theorem d5_19 : decode prog_88_method_11_code 19 = .ok (.iadd, 1) := by decide +kernel
theorem d5_20 : decode prog_88_method_11_code 20 = .ok (.ireturn, 1) := by decide +kernel
theorem own_ef_hc (m : MethodId) (y0 : Addr) : entryFrame m #[(.ref y0)] 1 = mkF m 0 #[rv y0] [] := by first | (simp [entryFrame, mkF, argsToLocals, Value.category]; done) | rfl
def own_Qhc (Z : State) (a : Addr) (x : Int32) (y : Int32) (z : Int32) (h0 : Heap) (n0 : Nat) (v : Option Value) (h : Heap) (L : List Loc) : Prop := v = some (.int (((((31 : Int32) * x) + y) * (31 : Int32)) + z)) ∧ Fr n0 L ∧ h = h0
set_option maxRecDepth 65536 in
set_option maxHeartbeats 40000000 in
theorem own_rmhc (l : Launch) (Z : State) (a0 : Array Value) (hw : ∀ d ∈ tables_1, d.before a0 Z = true) (ws : List Jvm.Cond) (a : Addr) (x : Int32) (y : Int32) (z : Int32) (h0 : Heap) (n0 : Nat) (Z0 : n0 ≤ h0.size) (P0 : Fld Z h0 a "com/example/referee/referee/logic/ltl/Pointer" "component" "I" (.int x)) (P1 : Fld Z h0 a "com/example/referee/referee/logic/ltl/Pointer" "cell" "I" (.int y)) (P2 : Fld Z h0 a "com/example/referee/referee/logic/ltl/Pointer" "instance" "I" (.int z)) :
    MetFree l own_y4 (head1 (Jvm.Cond.code own_y4 prog_88_method_11_code 1 (some .int) :: ws) ({ frames := 0, cells := 0, slots := 0, locals := 0 } : Room)) (fun az Uz => az = #[(.ref a)] ∧ Z.Warmed39 Uz.vm ∧ Uz.heap = h0) (fun _ _ _ _ _ => True) (fun _ U o U' => ∃ v L, o = .returned v ∧ own_Qhc Z a x y z h0 n0 v U'.heap L ∧ FrameEnd U o U' L ({ frames := 0, cells := 0, slots := 0, locals := 0 } : Room).cells ({ frames := 0, cells := 0, slots := 0, locals := 0 } : Room).slots) := by
  refine MetFree.of_bodySF (plainFor_of_name own_pn_com_example_referee_referee_logic_ltl_Pointer) hisR ?_
  intro p e s m args below meth c s₁ Bd hml0 hP hK
  obtain ⟨rfl, hZ, hh⟩ := hP
  have hx := Bd.exec
  have hby := Bd.bytes
  have hml : c.maxLocals = 1 := hml0
  have hown : s.vm.findClass "com/example/referee/referee/logic/ltl/Pointer" = some m.cls := findClass_of_methodNamed Bd.named
  have hnm := (name_of_methodNamed Bd.named Bd.method).1
  have hlk : meth.locks = false := BodyLoose.notSynchronized Bd
  have hret := Bd.returns
  have X0 : Stand p l e ({ frames := 0, cells := 0, slots := 0, locals := 0 } : Room) s m #[(.ref a)] below meth c s₁ [] 0 0 := Stand.of_body Bd
  have e0 : s₁.heap = h0 := by rw [← hh, Bd.state]; rfl
  have N0 := Fr.nil n0
  show own_E p e below (own_K s (own_Qhc Z a x y z h0 n0) ({ frames := 0, cells := 0, slots := 0, locals := 0 } : Room).cells ({ frames := 0, cells := 0, slots := 0, locals := 0 } : Room).slots) s₁ (entryFrame m #[(.ref a)] 1)
  refine own_S (mkF m 0 #[rv a] []) (fun _ k => castTop (own_ef_hc m (a)) k) ?_
  refine own_S (mkF m 2 #[rv a] [(.int 31)]) (fun _ k => XS.bipush X0.here hx rfl (hb hby d5_0) k) ?_
  refine own_S (mkF m 3 #[rv a] [(.ref a), (.int 31)]) (fun _ k => XS.aloadN X0.here hx rfl (hb hby d5_2) rfl rfl k) ?_
  obtain ⟨T1, X1, e1, st1⟩ := getF X0 hx hZ hown (host := "") (Or.inl (own_g hw (i := 22) rfl)) Via.refl e0 P0 (g := (mkF m 3 #[rv a] [(.ref a), (.int 31)])) rfl rfl (hb hby d5_3)
  refine own_S (mkF m 6 #[rv a] [(.int x), (.int 31)]) st1 ?_
  refine own_S (mkF m 7 #[rv a] [(.int ((31 : Int32) * x))]) (fun _ k => XS.imul X1.here hx rfl (hb hby d5_6) rfl k) ?_
  refine own_S (mkF m 8 #[rv a] [(.ref a), (.int ((31 : Int32) * x))]) (fun _ k => XS.aloadN X1.here hx rfl (hb hby d5_7) rfl rfl k) ?_
  obtain ⟨T2, X2, e2, st2⟩ := getF X1 hx hZ hown (host := "") (Or.inl (own_g hw (i := 24) rfl)) Via.refl e1 P1 (g := (mkF m 8 #[rv a] [(.ref a), (.int ((31 : Int32) * x))])) rfl rfl (hb hby d5_8)
  refine own_S (mkF m 11 #[rv a] [(.int y), (.int ((31 : Int32) * x))]) st2 ?_
  refine own_S (mkF m 12 #[rv a] [(.int (((31 : Int32) * x) + y))]) (fun _ k => XS.iadd X2.here hx rfl (hb hby d5_11) rfl k) ?_
  refine own_S (mkF m 14 #[rv a] [(.int 31), (.int (((31 : Int32) * x) + y))]) (fun _ k => XS.bipush X2.here hx rfl (hb hby d5_12) k) ?_
  refine own_S (mkF m 15 #[rv a] [(.int ((((31 : Int32) * x) + y) * (31 : Int32)))]) (fun _ k => XS.imul X2.here hx rfl (hb hby d5_14) rfl k) ?_
  refine own_S (mkF m 16 #[rv a] [(.ref a), (.int ((((31 : Int32) * x) + y) * (31 : Int32)))]) (fun _ k => XS.aloadN X2.here hx rfl (hb hby d5_15) rfl rfl k) ?_
  obtain ⟨T3, X3, e3, st3⟩ := getF X2 hx hZ hown (host := "") (Or.inl (own_g hw (i := 26) rfl)) Via.refl e2 P2 (g := (mkF m 16 #[rv a] [(.ref a), (.int ((((31 : Int32) * x) + y) * (31 : Int32)))])) rfl rfl (hb hby d5_16)
  refine own_S (mkF m 19 #[rv a] [(.int z), (.int ((((31 : Int32) * x) + y) * (31 : Int32)))]) st3 ?_
  refine own_S (mkF m 20 #[rv a] [(.int (((((31 : Int32) * x) + y) * (31 : Int32)) + z))]) (fun _ k => XS.iadd X3.here hx rfl (hb hby d5_19) rfl k) ?_
  exact own_ret X3 hx hlk (t := .int) hret rfl (Or.inl ⟨rfl, Or.inl rfl, _, rfl⟩) (hb hby d5_20) (by rw [e3]; exact ⟨rfl, N0, rfl⟩) (by decide) (by decide)
theorem d7_0 : decode prog_88_method_5_code 0 = .ok (.aload_n 0, 1) := by decide +kernel
theorem d7_1 : decode prog_88_method_5_code 1 = .ok (.getfield 28, 3) := by decide +kernel
theorem d7_4 : decode prog_88_method_5_code 4 = .ok (.iconst (-1), 1) := by decide +kernel
theorem d7_5 : decode prog_88_method_5_code 5 = .ok (.if_icmp .ne 7, 3) := by decide +kernel
theorem d7_12 : decode prog_88_method_5_code 12 = .ok (.new 1, 3) := by decide +kernel
theorem d7_15 : decode prog_88_method_5_code 15 = .ok (.dup, 1) := by decide +kernel
theorem d7_16 : decode prog_88_method_5_code 16 = .ok (.aload_n 0, 1) := by decide +kernel
theorem d7_17 : decode prog_88_method_5_code 17 = .ok (.getfield 21, 3) := by decide +kernel
theorem d7_20 : decode prog_88_method_5_code 20 = .ok (.aload_n 0, 1) := by decide +kernel
theorem d7_21 : decode prog_88_method_5_code 21 = .ok (.getfield 25, 3) := by decide +kernel
theorem d7_24 : decode prog_88_method_5_code 24 = .ok (.invokespecial 43, 3) := by decide +kernel
theorem d7_27 : decode prog_88_method_5_code 27 = .ok (.areturn, 1) := by decide +kernel
theorem own_ef_ad (m : MethodId) (y0 : Addr) : entryFrame m #[(.ref y0)] 1 = mkF m 0 #[rv y0] [] := by first | (simp [entryFrame, mkF, argsToLocals, Value.category]; done) | rfl
def own_Qad (Z : State) (a : Addr) (x : Int32) (y : Int32) (z : Int32) (h0 : Heap) (n0 : Nat) (v : Option Value) (h : Heap) (L : List Loc) : Prop := ∃ (r : Addr), v = some (.ref r) ∧ Fr n0 L ∧ Keep h0 h [] ∧ Exa Z h r "com/example/referee/referee/logic/ltl/Pointer" ∧ Fld Z h r "com/example/referee/referee/logic/ltl/Formula" "height" "I" (.int (1 : Int32)) ∧ Fld Z h r "com/example/referee/referee/logic/ltl/Formula" "size" "I" (.int (1 : Int32)) ∧ Fld Z h r "com/example/referee/referee/logic/ltl/Pointer" "component" "I" (.int x) ∧ Fld Z h r "com/example/referee/referee/logic/ltl/Pointer" "cell" "I" (.int y) ∧ Fld Z h r "com/example/referee/referee/logic/ltl/Pointer" "instance" "I" (.int (-1 : Int32)) ∧ h0.size ≤ r
set_option maxRecDepth 65536 in
set_option maxHeartbeats 40000000 in
theorem own_rmad (l : Launch) (Z : State) (a0 : Array Value) (hw : ∀ d ∈ tables_1, d.before a0 Z = true) (ws : List Jvm.Cond) (a : Addr) (x : Int32) (y : Int32) (z : Int32) (h0 : Heap) (n0 : Nat) (Z0 : n0 ≤ h0.size) (P0 : Fld Z h0 a "com/example/referee/referee/logic/ltl/Pointer" "component" "I" (.int x)) (P1 : Fld Z h0 a "com/example/referee/referee/logic/ltl/Pointer" "cell" "I" (.int y)) (P2 : Fld Z h0 a "com/example/referee/referee/logic/ltl/Pointer" "instance" "I" (.int z)) (hz : ¬ (z = (-1 : Int32))) (hx0 : ¬ (x < (0 : Int32))) (hy0 : ¬ (y < (0 : Int32))) :
    MetFree l own_y5 (head1 (Jvm.Cond.code own_y5 prog_88_method_5_code 1 (some (.object "com/example/referee/referee/logic/ltl/Pointer")) :: ws) ({ frames := 4, cells := 1, slots := 5, locals := 56 } : Room)) (fun az Uz => az = #[(.ref a)] ∧ Z.Warmed39 Uz.vm ∧ Uz.heap = h0) (fun _ _ _ _ _ => True) (fun _ U o U' => ∃ v L, o = .returned v ∧ own_Qad Z a x y z h0 n0 v U'.heap L ∧ FrameEnd U o U' L ({ frames := 4, cells := 1, slots := 5, locals := 56 } : Room).cells ({ frames := 4, cells := 1, slots := 5, locals := 56 } : Room).slots) := by
  refine MetFree.of_bodySF (plainFor_of_name own_pn_com_example_referee_referee_logic_ltl_Pointer) hisR ?_
  intro p e s m args below meth c s₁ Bd hml0 hP hK
  obtain ⟨rfl, hZ, hh⟩ := hP
  have hx := Bd.exec
  have hby := Bd.bytes
  have hml : c.maxLocals = 1 := hml0
  have hown : s.vm.findClass "com/example/referee/referee/logic/ltl/Pointer" = some m.cls := findClass_of_methodNamed Bd.named
  have hnm := (name_of_methodNamed Bd.named Bd.method).1
  have hlk : meth.locks = false := BodyLoose.notSynchronized Bd
  have hret := Bd.returns
  have X0 : Stand p l e ({ frames := 4, cells := 1, slots := 5, locals := 56 } : Room) s m #[(.ref a)] below meth c s₁ [] 0 0 := Stand.of_body Bd
  have e0 : s₁.heap = h0 := by rw [← hh, Bd.state]; rfl
  have N0 := Fr.nil n0
  show own_E p e below (own_K s (own_Qad Z a x y z h0 n0) ({ frames := 4, cells := 1, slots := 5, locals := 56 } : Room).cells ({ frames := 4, cells := 1, slots := 5, locals := 56 } : Room).slots) s₁ (entryFrame m #[(.ref a)] 1)
  refine own_S (mkF m 0 #[rv a] []) (fun _ k => castTop (own_ef_ad m (a)) k) ?_
  refine own_S (mkF m 1 #[rv a] [(.ref a)]) (fun _ k => XS.aloadN X0.here hx rfl (hb hby d7_0) rfl rfl k) ?_
  obtain ⟨T1, X1, e1, st1⟩ := getF X0 hx hZ hown (host := "") (Or.inl (own_g hw (i := 26) rfl)) Via.refl e0 P2 (g := (mkF m 1 #[rv a] [(.ref a)])) rfl rfl (hb hby d7_1)
  refine own_S (mkF m 4 #[rv a] [(.int z)]) st1 ?_
  refine own_S (mkF m 5 #[rv a] [(.int (-1)), (.int z)]) (fun _ k => XS.iconst X1.here hx rfl (hb hby d7_4) k) ?_
  have hc2 : ¬ (z = (-1 : Int32)) := hz
  refine own_S (mkF m 12 #[rv a] []) (fun _ k => XS.icmpYes X1.here hx rfl (pc0 := 5) (pc' := 12) rfl (hb hby d7_5) rfl (feq hc2).2 (by decide) (by decide) k) ?_
  obtain ⟨T3, h3, X3, e3, E3, A3, D3, -, st3⟩ := newO X1 hx hZ hown (own_g hw (i := 38) rfl) (own_g hw (i := 2) rfl) (own_g hw (i := 3) rfl) e1 (g := (mkF m 12 #[rv a] [])) rfl (hb hby d7_12) (by decide) (by decide)
  obtain ⟨r, g3⟩ : ∃ z, z = h0.size := ⟨_, rfl⟩
  rw [← g3] at A3 D3 st3
  have n4 : a ≠ r := Nat.ne_of_lt (Nat.lt_of_lt_of_eq P0.lt g3.symm)
  have ge_r : n0 ≤ r := Nat.le_trans Z0 (Nat.le_of_eq g3.symm)
  have fr_r : h0.size ≤ r := Nat.le_trans (Keep.refl h0 []).1 (Nat.le_of_eq g3.symm)
  have K3 : Keep h0 h3 [] := (Keep.refl _ _).ext E3
  have F5 := P0.ext E3
  have F6 := P1.ext E3
  have F7 := P2.ext E3
  have Z3 : n0 ≤ h3.size := Nat.le_trans Z0 E3.1
  have F8 : Fld Z h3 r "com/example/referee/referee/logic/ltl/Formula" "height" "I" (.int (0 : Int32)) := D3 (Or.inr (own_g hw (i := 19) rfl)) (ty := .int) (by decide)
  have F9 : Fld Z h3 r "com/example/referee/referee/logic/ltl/Formula" "size" "I" (.int (0 : Int32)) := D3 (Or.inr (own_g hw (i := 21) rfl)) (ty := .int) (by decide)
  have F10 : Fld Z h3 r "com/example/referee/referee/logic/ltl/Pointer" "component" "I" (.int (0 : Int32)) := D3 (Or.inr (own_g hw (i := 23) rfl)) (ty := .int) (by decide)
  have F11 : Fld Z h3 r "com/example/referee/referee/logic/ltl/Pointer" "cell" "I" (.int (0 : Int32)) := D3 (Or.inr (own_g hw (i := 25) rfl)) (ty := .int) (by decide)
  have F12 : Fld Z h3 r "com/example/referee/referee/logic/ltl/Pointer" "instance" "I" (.int (0 : Int32)) := D3 (Or.inr (own_g hw (i := 27) rfl)) (ty := .int) (by decide)
  refine own_S (mkF m 15 #[rv a] [(.ref r)]) st3 ?_
  refine own_S (mkF m 16 #[rv a] [(.ref r), (.ref r)]) (fun _ k => XS.dup X3.here hx rfl (hb hby d7_15) rfl rfl k) ?_
  refine own_S (mkF m 17 #[rv a] [(.ref a), (.ref r), (.ref r)]) (fun _ k => XS.aloadN X3.here hx rfl (hb hby d7_16) rfl rfl k) ?_
  obtain ⟨T13, X13, e13, st13⟩ := getF X3 hx hZ hown (host := "") (Or.inl (own_g hw (i := 22) rfl)) Via.refl e3 F5 (g := (mkF m 17 #[rv a] [(.ref a), (.ref r), (.ref r)])) rfl rfl (hb hby d7_17)
  refine own_S (mkF m 20 #[rv a] [(.int x), (.ref r), (.ref r)]) st13 ?_
  refine own_S (mkF m 21 #[rv a] [(.ref a), (.int x), (.ref r), (.ref r)]) (fun _ k => XS.aloadN X13.here hx rfl (hb hby d7_20) rfl rfl k) ?_
  obtain ⟨T14, X14, e14, st14⟩ := getF X13 hx hZ hown (host := "") (Or.inl (own_g hw (i := 24) rfl)) Via.refl e13 F6 (g := (mkF m 21 #[rv a] [(.ref a), (.int x), (.ref r), (.ref r)])) rfl rfl (hb hby d7_21)
  refine own_S (mkF m 24 #[rv a] [(.int y), (.int x), (.ref r), (.ref r)]) st14 ?_
  obtain ⟨_, _, ⟨T15, L15, k15, n15⟩, -, X15, ⟨Lc15, hQ15, l15, y15, z15⟩, st15⟩ := X14.specialBack hx (y := own_y2) rfl hown (mvT hZ (own_g hw (i := 44) rfl)) (mvT hZ (own_g hw (i := 5) rfl)) (mvT hZ (own_g hw (i := 6) rfl)) (by decide) (backOf (W := 1) (own_rmp2 l Z a0 hw [] (r) (x) (y) ((.int (0 : Int32))) ((.int (0 : Int32))) ((.int (0 : Int32))) ((.int (0 : Int32))) ((.int (0 : Int32))) h3 n0 Z3 A3 F8 F9 F10 F11 F12 ge_r hx0 hy0) hZ (own_g hw (i := 6) rfl) (own_g hw (i := 3) rfl) (by decide) (by decide)) (g := (mkF m 24 #[rv a] [(.int y), (.int x), (.ref r), (.ref r)])) rfl (by rw [hml]; rfl) (Steps.refl _) (a := r) (argsL := [(.int x), (.int y)]) (rest := [(.ref r)]) (lenOf own_pd__II_V rfl) rfl (by show 2 * 0 + _ ≤ _; exact Nat.le_of_eq rfl) (hb hby d7_24) (fun _ _ => ⟨rfl, e14, (by decide : 1 + 0 ≤ _), (by decide : 5 + 0 ≤ _)⟩)
  dsimp only [Pt.U, Pt.locs, Pt.cells, Pt.slots] at X15 l15 y15 z15 st15 hQ15
  subst l15 y15 z15
  obtain ⟨rfl, N15q, K15q, F16, F17, F18, F19, F20, F21⟩ := hQ15
  have N15 := Fr.app N0 N15q
  refine own_S (mkF m 27 #[rv a] [(.ref r)]) (fun _ k => st15.trans k) ?_
  have K15 : Keep h0 T15.heap [] := K3.trans K15q (allS (Or.inr fr_r) all0)
  have F22 := F5.keep K15q (ninS n4 nin0)
  have F23 := F6.keep K15q (ninS n4 nin0)
  have F24 := F7.keep K15q (ninS n4 nin0)
  have Z15 : n0 ≤ T15.heap.size := Nat.le_trans Z3 K15q.1
  exact own_ret X15 hx hlk (t := (.object "com/example/referee/referee/logic/ltl/Pointer")) hret rfl (Or.inr (Or.inr (Or.inr (Or.inr ⟨rfl, rfl, rfl⟩)))) (hb hby d7_27) ⟨r, rfl, N15, K15, F16, F17, F18, F19, F20, F21, fr_r⟩ (by decide) (by decide)
theorem own_pd___I : parseMethodDescriptor "()I" = some ⟨[], (some .int)⟩ := by decide +kernel
theorem own_pd__I_Lcom_example_referee_referee_logic_ltl_Pointer_ : parseMethodDescriptor "(I)Lcom/example/referee/referee/logic/ltl/Pointer;" = some ⟨[.int], (some (.object "com/example/referee/referee/logic/ltl/Pointer"))⟩ := by decide +kernel
theorem own_pd___Lcom_example_referee_referee_logic_ltl_Pointer_ : parseMethodDescriptor "()Lcom/example/referee/referee/logic/ltl/Pointer;" = some ⟨[], (some (.object "com/example/referee/referee/logic/ltl/Pointer"))⟩ := by decide +kernel
theorem own_pn_com_example_referee_referee_logic_ltl_PointerHashCodePinLaw : plainName "com/example/referee/referee/logic/ltl/PointerHashCodePinLaw" = true := by first | (simp [plainName, overriddenIn]; done) | decide +kernel
theorem own_ef_law (m : MethodId) (y0 : Int32) (y1 : Int32) (y2 : Int32) : entryFrame m #[(.int y0), (.int y1), (.int y2)] maxLocals = mkF m 0 #[iv y0, iv y1, iv y2, .unset, .unset, .unset, .unset, .unset, .unset, .unset, .unset, .unset, .unset] [] := by first | (simp [entryFrame, mkF, argsToLocals, Value.category, maxLocals]; done) | rfl
def own_Qlaw (Z : State) (a1 : Int32) (b1 : Int32) (t1 : Int32) (h0 : Heap) (n0 : Nat) (v : Option Value) (h : Heap) (L : List Loc) : Prop := v = some (.int 1) ∧ Fr n0 L ∧ True
set_option maxRecDepth 65536 in
set_option maxHeartbeats 40000000 in
theorem own_rmlaw (l : Launch) (Z : State) (a0 : Array Value) (hw : ∀ d ∈ tables_1, d.before a0 Z = true) (ws : List Jvm.Cond) (a1 : Int32) (b1 : Int32) (t1 : Int32) (h0 : Heap) (n0 : Nat) (Z0 : n0 ≤ h0.size)  :
    MetFree l x (head1 (Jvm.Cond.code x code maxLocals ret :: ws) room_1) (fun az Uz => az = #[(.int a1), (.int b1), (.int t1)] ∧ Z.Warmed39 Uz.vm ∧ Uz.heap = h0) (fun _ _ _ _ _ => True) (fun _ U o U' => ∃ v L, o = .returned v ∧ own_Qlaw Z a1 b1 t1 h0 n0 v U'.heap L ∧ FrameEnd U o U' L room_1.cells room_1.slots) := by
  refine MetFree.of_bodySF (plainFor_of_name own_pn_com_example_referee_referee_logic_ltl_PointerHashCodePinLaw) hisR ?_
  intro p e s m args below meth c s₁ Bd hml0 hP hK
  obtain ⟨rfl, hZ, hh⟩ := hP
  have hx := Bd.exec
  have hby := Bd.bytes
  have hml : c.maxLocals = 13 := hml0
  have hown : s.vm.findClass "com/example/referee/referee/logic/ltl/PointerHashCodePinLaw" = some m.cls := findClass_of_methodNamed Bd.named
  have hnm := (name_of_methodNamed Bd.named Bd.method).1
  have hlk : meth.locks = false := BodyLoose.notSynchronized Bd
  have hret := Bd.returns
  have X0 : Stand p l e room_1 s m #[(.int a1), (.int b1), (.int t1)] below meth c s₁ [] 0 0 := Stand.of_body Bd
  have e0 : s₁.heap = h0 := by rw [← hh, Bd.state]; rfl
  have N0 := Fr.nil n0
  show own_E p e below (own_K s (own_Qlaw Z a1 b1 t1 h0 n0) room_1.cells room_1.slots) s₁ (entryFrame m #[(.int a1), (.int b1), (.int t1)] maxLocals)
  refine own_S (mkF m 0 #[iv a1, iv b1, iv t1, .unset, .unset, .unset, .unset, .unset, .unset, .unset, .unset, .unset, .unset] []) (fun _ k => castTop (own_ef_law m (a1) (b1) (t1)) k) ?_
  refine own_S (mkF m 1 #[iv a1, iv b1, iv t1, .unset, .unset, .unset, .unset, .unset, .unset, .unset, .unset, .unset, .unset] [(.int a1)]) (fun _ k => XS.iloadN X0.here hx rfl (hb hby at_0) rfl k) ?_
  refine own_S (mkF m 3 #[iv a1, iv b1, iv t1, .unset, .unset, .unset, .unset, .unset, .unset, .unset, .unset, .unset, .unset] [(.int 2147483647), (.int a1)]) (fun _ k => X0.ldcInt hx hown (mvT hZ (own_g hw (i := 0) rfl)) (g := (mkF m 1 #[iv a1, iv b1, iv t1, .unset, .unset, .unset, .unset, .unset, .unset, .unset, .unset, .unset, .unset] [(.int a1)])) rfl (hb hby at_1) _ k) ?_
  refine own_S (mkF m 4 #[iv a1, iv b1, iv t1, .unset, .unset, .unset, .unset, .unset, .unset, .unset, .unset, .unset, .unset] [(.int (a1 &&& (2147483647 : Int32)))]) (fun _ k => XS.iand X0.here hx rfl (hb hby at_3) rfl k) ?_
  refine own_S (mkF m 5 #[iv a1, iv b1, iv t1, iv (a1 &&& (2147483647 : Int32)), .unset, .unset, .unset, .unset, .unset, .unset, .unset, .unset, .unset] []) (fun _ k => XS.istoreN X0.here hx rfl (hb hby at_4) rfl (l' := #[iv a1, iv b1, iv t1, iv (a1 &&& (2147483647 : Int32)), .unset, .unset, .unset, .unset, .unset, .unset, .unset, .unset, .unset]) rfl k) ?_
  obtain ⟨cc, h_cc⟩ : ∃ z : Int32, z = (a1 &&& (2147483647 : Int32)) := ⟨_, rfl⟩
  refine own_S (T' := s₁) (mkF m 5 #[iv a1, iv b1, iv t1, iv cc, .unset, .unset, .unset, .unset, .unset, .unset, .unset, .unset, .unset] []) (fun _ k => by subst h_cc; exact k) ?_
  refine own_S (mkF m 6 #[iv a1, iv b1, iv t1, iv cc, .unset, .unset, .unset, .unset, .unset, .unset, .unset, .unset, .unset] [(.int b1)]) (fun _ k => XS.iloadN X0.here hx rfl (hb hby at_5) rfl k) ?_
  refine own_S (mkF m 8 #[iv a1, iv b1, iv t1, iv cc, .unset, .unset, .unset, .unset, .unset, .unset, .unset, .unset, .unset] [(.int 2147483647), (.int b1)]) (fun _ k => X0.ldcInt hx hown (mvT hZ (own_g hw (i := 0) rfl)) (g := (mkF m 6 #[iv a1, iv b1, iv t1, iv cc, .unset, .unset, .unset, .unset, .unset, .unset, .unset, .unset, .unset] [(.int b1)])) rfl (hb hby at_6) _ k) ?_
  refine own_S (mkF m 9 #[iv a1, iv b1, iv t1, iv cc, .unset, .unset, .unset, .unset, .unset, .unset, .unset, .unset, .unset] [(.int (b1 &&& (2147483647 : Int32)))]) (fun _ k => XS.iand X0.here hx rfl (hb hby at_8) rfl k) ?_
  refine own_S (mkF m 11 #[iv a1, iv b1, iv t1, iv cc, iv (b1 &&& (2147483647 : Int32)), .unset, .unset, .unset, .unset, .unset, .unset, .unset, .unset] []) (fun _ k => XS.istore X0.here hx rfl (hb hby at_9) rfl (l' := #[iv a1, iv b1, iv t1, iv cc, iv (b1 &&& (2147483647 : Int32)), .unset, .unset, .unset, .unset, .unset, .unset, .unset, .unset]) rfl k) ?_
  obtain ⟨jj, h_jj⟩ : ∃ z : Int32, z = (b1 &&& (2147483647 : Int32)) := ⟨_, rfl⟩
  refine own_S (T' := s₁) (mkF m 11 #[iv a1, iv b1, iv t1, iv cc, iv jj, .unset, .unset, .unset, .unset, .unset, .unset, .unset, .unset] []) (fun _ k => by subst h_jj; exact k) ?_
  refine own_S (mkF m 12 #[iv a1, iv b1, iv t1, iv cc, iv jj, .unset, .unset, .unset, .unset, .unset, .unset, .unset, .unset] [(.int t1)]) (fun _ k => XS.iloadN X0.here hx rfl (hb hby at_11) rfl k) ?_
  refine own_S (mkF m 14 #[iv a1, iv b1, iv t1, iv cc, iv jj, .unset, .unset, .unset, .unset, .unset, .unset, .unset, .unset] [(.int 2147483647), (.int t1)]) (fun _ k => X0.ldcInt hx hown (mvT hZ (own_g hw (i := 0) rfl)) (g := (mkF m 12 #[iv a1, iv b1, iv t1, iv cc, iv jj, .unset, .unset, .unset, .unset, .unset, .unset, .unset, .unset] [(.int t1)])) rfl (hb hby at_12) _ k) ?_
  refine own_S (mkF m 15 #[iv a1, iv b1, iv t1, iv cc, iv jj, .unset, .unset, .unset, .unset, .unset, .unset, .unset, .unset] [(.int (t1 &&& (2147483647 : Int32)))]) (fun _ k => XS.iand X0.here hx rfl (hb hby at_14) rfl k) ?_
  refine own_S (mkF m 17 #[iv a1, iv b1, iv t1, iv cc, iv jj, iv (t1 &&& (2147483647 : Int32)), .unset, .unset, .unset, .unset, .unset, .unset, .unset] []) (fun _ k => XS.istore X0.here hx rfl (hb hby at_15) rfl (l' := #[iv a1, iv b1, iv t1, iv cc, iv jj, iv (t1 &&& (2147483647 : Int32)), .unset, .unset, .unset, .unset, .unset, .unset, .unset]) rfl k) ?_
  obtain ⟨ss, h_ss⟩ : ∃ z : Int32, z = (t1 &&& (2147483647 : Int32)) := ⟨_, rfl⟩
  refine own_S (T' := s₁) (mkF m 17 #[iv a1, iv b1, iv t1, iv cc, iv jj, iv ss, .unset, .unset, .unset, .unset, .unset, .unset, .unset] []) (fun _ k => by subst h_ss; exact k) ?_
  have n_cc : ¬ (cc < (0 : Int32)) := by rw [h_cc]; exact own_nn a1
  have n_jj : ¬ (jj < (0 : Int32)) := by rw [h_jj]; exact own_nn b1
  have n_ss : ¬ (ss < (0 : Int32)) := by rw [h_ss]; exact own_nn t1
  obtain ⟨T1, h1, X1, e1, E1, A1, D1, -, st1⟩ := newO X0 hx hZ hown (own_g hw (i := 1) rfl) (own_g hw (i := 2) rfl) (own_g hw (i := 3) rfl) e0 (g := (mkF m 17 #[iv a1, iv b1, iv t1, iv cc, iv jj, iv ss, .unset, .unset, .unset, .unset, .unset, .unset, .unset] [])) rfl (hb hby at_17) (by decide) (by decide)
  obtain ⟨p1, g1⟩ : ∃ z, z = h0.size := ⟨_, rfl⟩
  rw [← g1] at A1 D1 st1
  have ge_p1 : n0 ≤ p1 := Nat.le_trans Z0 (Nat.le_of_eq g1.symm)
  have Z1 : n0 ≤ h1.size := Nat.le_trans Z0 E1.1
  have F2 : Fld Z h1 p1 "com/example/referee/referee/logic/ltl/Formula" "height" "I" (.int (0 : Int32)) := D1 (Or.inr (own_g hw (i := 19) rfl)) (ty := .int) (by decide)
  have F3 : Fld Z h1 p1 "com/example/referee/referee/logic/ltl/Formula" "size" "I" (.int (0 : Int32)) := D1 (Or.inr (own_g hw (i := 21) rfl)) (ty := .int) (by decide)
  have F4 : Fld Z h1 p1 "com/example/referee/referee/logic/ltl/Pointer" "component" "I" (.int (0 : Int32)) := D1 (Or.inr (own_g hw (i := 23) rfl)) (ty := .int) (by decide)
  have F5 : Fld Z h1 p1 "com/example/referee/referee/logic/ltl/Pointer" "cell" "I" (.int (0 : Int32)) := D1 (Or.inr (own_g hw (i := 25) rfl)) (ty := .int) (by decide)
  have F6 : Fld Z h1 p1 "com/example/referee/referee/logic/ltl/Pointer" "instance" "I" (.int (0 : Int32)) := D1 (Or.inr (own_g hw (i := 27) rfl)) (ty := .int) (by decide)
  refine own_S (mkF m 20 #[iv a1, iv b1, iv t1, iv cc, iv jj, iv ss, .unset, .unset, .unset, .unset, .unset, .unset, .unset] [(.ref p1)]) st1 ?_
  refine own_S (mkF m 21 #[iv a1, iv b1, iv t1, iv cc, iv jj, iv ss, .unset, .unset, .unset, .unset, .unset, .unset, .unset] [(.ref p1), (.ref p1)]) (fun _ k => XS.dup X1.here hx rfl (hb hby at_20) rfl rfl k) ?_
  refine own_S (mkF m 22 #[iv a1, iv b1, iv t1, iv cc, iv jj, iv ss, .unset, .unset, .unset, .unset, .unset, .unset, .unset] [(.int cc), (.ref p1), (.ref p1)]) (fun _ k => XS.iloadN X1.here hx rfl (hb hby at_21) rfl k) ?_
  refine own_S (mkF m 24 #[iv a1, iv b1, iv t1, iv cc, iv jj, iv ss, .unset, .unset, .unset, .unset, .unset, .unset, .unset] [(.int jj), (.int cc), (.ref p1), (.ref p1)]) (fun _ k => XS.iload X1.here hx rfl (hb hby at_22) rfl k) ?_
  obtain ⟨_, _, ⟨T7, L7, k7, n7⟩, -, X7, ⟨Lc7, hQ7, l7, y7, z7⟩, st7⟩ := X1.specialBack hx (y := own_y2) rfl hown (mvT hZ (own_g hw (i := 4) rfl)) (mvT hZ (own_g hw (i := 5) rfl)) (mvT hZ (own_g hw (i := 6) rfl)) (by decide) (backOf (W := 1) (own_rmp2 l Z a0 hw [] (p1) (cc) (jj) ((.int (0 : Int32))) ((.int (0 : Int32))) ((.int (0 : Int32))) ((.int (0 : Int32))) ((.int (0 : Int32))) h1 n0 Z1 A1 F2 F3 F4 F5 F6 ge_p1 n_cc n_jj) hZ (own_g hw (i := 6) rfl) (own_g hw (i := 3) rfl) (by decide) (by decide)) (g := (mkF m 24 #[iv a1, iv b1, iv t1, iv cc, iv jj, iv ss, .unset, .unset, .unset, .unset, .unset, .unset, .unset] [(.int jj), (.int cc), (.ref p1), (.ref p1)])) rfl (by rw [hml]; rfl) (Steps.refl _) (a := p1) (argsL := [(.int cc), (.int jj)]) (rest := [(.ref p1)]) (lenOf own_pd__II_V rfl) rfl (by show 2 * 0 + _ ≤ _; exact Nat.le_of_eq rfl) (hb hby at_24) (fun _ _ => ⟨rfl, e1, (by decide : 1 + 0 ≤ _), (by decide : 5 + 0 ≤ _)⟩)
  dsimp only [Pt.U, Pt.locs, Pt.cells, Pt.slots] at X7 l7 y7 z7 st7 hQ7
  subst l7 y7 z7
  obtain ⟨rfl, N7q, K7q, F8, F9, F10, F11, F12, F13⟩ := hQ7
  have N7 := Fr.app N0 N7q
  refine own_S (mkF m 27 #[iv a1, iv b1, iv t1, iv cc, iv jj, iv ss, .unset, .unset, .unset, .unset, .unset, .unset, .unset] [(.ref p1)]) (fun _ k => st7.trans k) ?_
  have Z7 : n0 ≤ T7.heap.size := Nat.le_trans Z1 K7q.1
  refine own_S (mkF m 29 #[iv a1, iv b1, iv t1, iv cc, iv jj, iv ss, rv p1, .unset, .unset, .unset, .unset, .unset, .unset] []) (fun _ k => XS.astore X7.here hx rfl (hb hby at_27) rfl rfl (l' := #[iv a1, iv b1, iv t1, iv cc, iv jj, iv ss, rv p1, .unset, .unset, .unset, .unset, .unset, .unset]) rfl k) ?_
  refine own_S (mkF m 31 #[iv a1, iv b1, iv t1, iv cc, iv jj, iv ss, rv p1, .unset, .unset, .unset, .unset, .unset, .unset] [(.ref p1)]) (fun _ k => XS.aload X7.here hx rfl (hb hby at_29) rfl rfl k) ?_
  obtain ⟨cq14, kq14, q14a, q14b, q14c⟩ := isOf hZ rfl F8
  obtain ⟨_, _, ⟨T14, L14, k14, n14⟩, -, X14, ⟨Lc14, hQ14, l14, y14, z14⟩, st14⟩ := X7.virtualBack hx (y := own_y4) (z := own_y4) hown (mvT hZ (own_g hw (i := 28) rfl)) (mvT hZ (own_g hw (i := 29) rfl)) (notFace_of_selects (args := #[]) (mvT hZ (own_g hw (i := 31) rfl))) (mvT hZ (own_g hw (i := 31) rfl)) (mvT hZ (own_g hw (i := 30) rfl)) (by decide) (backOf (W := 0) (own_rmhc l Z a0 hw [] (p1) (cc) (jj) ((-1 : Int32)) T7.heap n0 Z7 F11 F12 F13) hZ (own_g hw (i := 32) rfl) (own_g hw (i := 3) rfl) (by decide) (by decide)) q14a q14c (g := (mkF m 31 #[iv a1, iv b1, iv t1, iv cc, iv jj, iv ss, rv p1, .unset, .unset, .unset, .unset, .unset, .unset] [(.ref p1)])) rfl (by rw [hml]; rfl) (Steps.refl _) (argsL := []) (rest := []) (lenOf own_pd___I rfl) rfl (by show 2 * 0 + _ ≤ _; exact Nat.le_of_eq rfl) (hb hby at_31) (fun _ _ => ⟨rfl, rfl, (by decide : 1 + 0 ≤ _), (by decide : 5 + 0 ≤ _)⟩)
  dsimp only [Pt.U, Pt.locs, Pt.cells, Pt.slots] at X14 l14 y14 z14 st14 hQ14
  subst l14 y14 z14
  obtain ⟨rfl, N14q, e14⟩ := hQ14
  have N14 := Fr.app N7 N14q
  refine own_S (mkF m 34 #[iv a1, iv b1, iv t1, iv cc, iv jj, iv ss, rv p1, .unset, .unset, .unset, .unset, .unset, .unset] [(.int (((((31 : Int32) * cc) + jj) * (31 : Int32)) + (-1 : Int32)))]) (fun _ k => st14.trans k) ?_
  obtain ⟨hh, h_hh⟩ : ∃ z : Int32, z = (((((31 : Int32) * cc) + jj) * (31 : Int32)) + (-1 : Int32)) := ⟨_, rfl⟩
  refine own_S (T' := T14) (mkF m 34 #[iv a1, iv b1, iv t1, iv cc, iv jj, iv ss, rv p1, .unset, .unset, .unset, .unset, .unset, .unset] [(.int hh)]) (fun _ k => by subst h_hh; exact k) ?_
  refine own_S (mkF m 36 #[iv a1, iv b1, iv t1, iv cc, iv jj, iv ss, rv p1, iv hh, .unset, .unset, .unset, .unset, .unset] []) (fun _ k => XS.istore X14.here hx rfl (hb hby at_34) rfl (l' := #[iv a1, iv b1, iv t1, iv cc, iv jj, iv ss, rv p1, iv hh, .unset, .unset, .unset, .unset, .unset]) rfl k) ?_
  refine own_S (mkF m 38 #[iv a1, iv b1, iv t1, iv cc, iv jj, iv ss, rv p1, iv hh, .unset, .unset, .unset, .unset, .unset] [(.ref p1)]) (fun _ k => XS.aload X14.here hx rfl (hb hby at_36) rfl rfl k) ?_
  refine own_S (mkF m 40 #[iv a1, iv b1, iv t1, iv cc, iv jj, iv ss, rv p1, iv hh, .unset, .unset, .unset, .unset, .unset] [(.int ss), (.ref p1)]) (fun _ k => XS.iload X14.here hx rfl (hb hby at_38) rfl k) ?_
  obtain ⟨cq15, kq15, q15a, q15b, q15c⟩ := isOf hZ e14 F8
  obtain ⟨_, _, ⟨T15, L15, k15, n15⟩, -, X15, ⟨Lc15, hQ15, l15, y15, z15⟩, st15⟩ := X14.virtualBack hx (y := own_y3) (z := own_y3) hown (mvT hZ (own_g hw (i := 33) rfl)) (mvT hZ (own_g hw (i := 34) rfl)) (notFace_of_selects (args := #[]) (mvT hZ (own_g hw (i := 36) rfl))) (mvT hZ (own_g hw (i := 36) rfl)) (mvT hZ (own_g hw (i := 35) rfl)) (by decide) (backOf (W := 0) (own_rmat l Z a0 hw [] (p1) (ss) (cc) (jj) T7.heap n0 Z7 F11 F12 n_ss n_cc n_jj) hZ (own_g hw (i := 37) rfl) (own_g hw (i := 3) rfl) (by decide) (by decide)) q15a q15c (g := (mkF m 40 #[iv a1, iv b1, iv t1, iv cc, iv jj, iv ss, rv p1, iv hh, .unset, .unset, .unset, .unset, .unset] [(.int ss), (.ref p1)])) rfl (by rw [hml]; rfl) (Steps.refl _) (argsL := [(.int ss)]) (rest := []) (lenOf own_pd__I_Lcom_example_referee_referee_logic_ltl_Pointer_ rfl) rfl (by show 2 * 0 + _ ≤ _; exact Nat.le_of_eq rfl) (hb hby at_40) (fun _ _ => ⟨rfl, e14, (by decide : 1 + 1 ≤ _), (by decide : 5 + 5 ≤ _)⟩)
  dsimp only [Pt.U, Pt.locs, Pt.cells, Pt.slots] at X15 l15 y15 z15 st15 hQ15
  subst l15 y15 z15
  obtain ⟨q1, rfl, N15q, K15q, F16, F17, F18, F19, F20, F21, pp22⟩ := hQ15
  have N15 := Fr.app N14 N15q
  refine own_S (mkF m 43 #[iv a1, iv b1, iv t1, iv cc, iv jj, iv ss, rv p1, iv hh, .unset, .unset, .unset, .unset, .unset] [(.ref q1)]) (fun _ k => st15.trans k) ?_
  have n23 : p1 ≠ q1 := Nat.ne_of_lt (Nat.lt_of_lt_of_le F8.lt pp22)
  have ge_q1 : n0 ≤ q1 := Nat.le_trans Z7 pp22
  have F24 := F8.keep K15q
  have F25 := F9.keep K15q nin0
  have F26 := F10.keep K15q nin0
  have F27 := F11.keep K15q nin0
  have F28 := F12.keep K15q nin0
  have F29 := F13.keep K15q nin0
  have Z15 : n0 ≤ T15.heap.size := Nat.le_trans Z7 K15q.1
  refine own_S (mkF m 45 #[iv a1, iv b1, iv t1, iv cc, iv jj, iv ss, rv p1, iv hh, rv q1, .unset, .unset, .unset, .unset] []) (fun _ k => XS.astore X15.here hx rfl (hb hby at_43) rfl rfl (l' := #[iv a1, iv b1, iv t1, iv cc, iv jj, iv ss, rv p1, iv hh, rv q1, .unset, .unset, .unset, .unset]) rfl k) ?_
  refine own_S (mkF m 47 #[iv a1, iv b1, iv t1, iv cc, iv jj, iv ss, rv p1, iv hh, rv q1, .unset, .unset, .unset, .unset] [(.ref q1)]) (fun _ k => XS.aload X15.here hx rfl (hb hby at_45) rfl rfl k) ?_
  obtain ⟨cq30, kq30, q30a, q30b, q30c⟩ := isOf hZ rfl F16
  obtain ⟨_, _, ⟨T30, L30, k30, n30⟩, -, X30, ⟨Lc30, hQ30, l30, y30, z30⟩, st30⟩ := X15.virtualBack hx (y := own_y4) (z := own_y4) hown (mvT hZ (own_g hw (i := 28) rfl)) (mvT hZ (own_g hw (i := 29) rfl)) (notFace_of_selects (args := #[]) (mvT hZ (own_g hw (i := 31) rfl))) (mvT hZ (own_g hw (i := 31) rfl)) (mvT hZ (own_g hw (i := 30) rfl)) (by decide) (backOf (W := 0) (own_rmhc l Z a0 hw [] (q1) (cc) (jj) (ss) T15.heap n0 Z15 F19 F20 F21) hZ (own_g hw (i := 32) rfl) (own_g hw (i := 3) rfl) (by decide) (by decide)) q30a q30c (g := (mkF m 47 #[iv a1, iv b1, iv t1, iv cc, iv jj, iv ss, rv p1, iv hh, rv q1, .unset, .unset, .unset, .unset] [(.ref q1)])) rfl (by rw [hml]; rfl) (Steps.refl _) (argsL := []) (rest := []) (lenOf own_pd___I rfl) rfl (by show 2 * 0 + _ ≤ _; exact Nat.le_of_eq rfl) (hb hby at_47) (fun _ _ => ⟨rfl, rfl, (by decide : 2 + 0 ≤ _), (by decide : 10 + 0 ≤ _)⟩)
  dsimp only [Pt.U, Pt.locs, Pt.cells, Pt.slots] at X30 l30 y30 z30 st30 hQ30
  subst l30 y30 z30
  obtain ⟨rfl, N30q, e30⟩ := hQ30
  have N30 := Fr.app N15 N30q
  refine own_S (mkF m 50 #[iv a1, iv b1, iv t1, iv cc, iv jj, iv ss, rv p1, iv hh, rv q1, .unset, .unset, .unset, .unset] [(.int (((((31 : Int32) * cc) + jj) * (31 : Int32)) + ss))]) (fun _ k => st30.trans k) ?_
  obtain ⟨hq, h_hq⟩ : ∃ z : Int32, z = (((((31 : Int32) * cc) + jj) * (31 : Int32)) + ss) := ⟨_, rfl⟩
  refine own_S (T' := T30) (mkF m 50 #[iv a1, iv b1, iv t1, iv cc, iv jj, iv ss, rv p1, iv hh, rv q1, .unset, .unset, .unset, .unset] [(.int hq)]) (fun _ k => by subst h_hq; exact k) ?_
  refine own_S (mkF m 52 #[iv a1, iv b1, iv t1, iv cc, iv jj, iv ss, rv p1, iv hh, rv q1, iv hq, .unset, .unset, .unset] []) (fun _ k => XS.istore X30.here hx rfl (hb hby at_50) rfl (l' := #[iv a1, iv b1, iv t1, iv cc, iv jj, iv ss, rv p1, iv hh, rv q1, iv hq, .unset, .unset, .unset]) rfl k) ?_
  refine own_S (mkF m 54 #[iv a1, iv b1, iv t1, iv cc, iv jj, iv ss, rv p1, iv hh, rv q1, iv hq, .unset, .unset, .unset] [(.ref q1)]) (fun _ k => XS.aload X30.here hx rfl (hb hby at_52) rfl rfl k) ?_
  obtain ⟨cq31, kq31, q31a, q31b, q31c⟩ := isOf hZ e30 F16
  obtain ⟨_, _, ⟨T31, L31, k31, n31⟩, -, X31, ⟨Lc31, hQ31, l31, y31, z31⟩, st31⟩ := X30.virtualBack hx (y := own_y5) (z := own_y5) hown (mvT hZ (own_g hw (i := 39) rfl)) (mvT hZ (own_g hw (i := 40) rfl)) (notFace_of_selects (args := #[]) (mvT hZ (own_g hw (i := 42) rfl))) (mvT hZ (own_g hw (i := 42) rfl)) (mvT hZ (own_g hw (i := 41) rfl)) (by decide) (backOf (W := 0) (own_rmad l Z a0 hw [] (q1) (cc) (jj) (ss) T15.heap n0 Z15 F19 F20 F21 (fun q => n_ss (by rw [q]; decide)) n_cc n_jj) hZ (own_g hw (i := 43) rfl) (own_g hw (i := 3) rfl) (by decide) (by decide)) q31a q31c (g := (mkF m 54 #[iv a1, iv b1, iv t1, iv cc, iv jj, iv ss, rv p1, iv hh, rv q1, iv hq, .unset, .unset, .unset] [(.ref q1)])) rfl (by rw [hml]; rfl) (Steps.refl _) (argsL := []) (rest := []) (lenOf own_pd___Lcom_example_referee_referee_logic_ltl_Pointer_ rfl) rfl (by show 2 * 0 + _ ≤ _; exact Nat.le_of_eq rfl) (hb hby at_54) (fun _ _ => ⟨rfl, e30, (by decide : 2 + 1 ≤ _), (by decide : 10 + 5 ≤ _)⟩)
  dsimp only [Pt.U, Pt.locs, Pt.cells, Pt.slots] at X31 l31 y31 z31 st31 hQ31
  subst l31 y31 z31
  obtain ⟨q2, rfl, N31q, K31q, F32, F33, F34, F35, F36, F37, pp38⟩ := hQ31
  have N31 := Fr.app N30 N31q
  refine own_S (mkF m 57 #[iv a1, iv b1, iv t1, iv cc, iv jj, iv ss, rv p1, iv hh, rv q1, iv hq, .unset, .unset, .unset] [(.ref q2)]) (fun _ k => st31.trans k) ?_
  have n39 : p1 ≠ q2 := Nat.ne_of_lt (Nat.lt_of_lt_of_le F24.lt pp38)
  have n40 : q1 ≠ q2 := Nat.ne_of_lt (Nat.lt_of_lt_of_le F16.lt pp38)
  have ge_q2 : n0 ≤ q2 := Nat.le_trans Z15 pp38
  have F41 := F24.keep K31q
  have F42 := F25.keep K31q nin0
  have F43 := F26.keep K31q nin0
  have F44 := F27.keep K31q nin0
  have F45 := F28.keep K31q nin0
  have F46 := F29.keep K31q nin0
  have F47 := F16.keep K31q
  have F48 := F17.keep K31q nin0
  have F49 := F18.keep K31q nin0
  have F50 := F19.keep K31q nin0
  have F51 := F20.keep K31q nin0
  have F52 := F21.keep K31q nin0
  have Z31 : n0 ≤ T31.heap.size := Nat.le_trans Z15 K31q.1
  obtain ⟨cq53, kq53, q53a, q53b, q53c⟩ := isOf hZ rfl F32
  obtain ⟨_, _, ⟨T53, L53, k53, n53⟩, -, X53, ⟨Lc53, hQ53, l53, y53, z53⟩, st53⟩ := X31.virtualBack hx (y := own_y4) (z := own_y4) hown (mvT hZ (own_g hw (i := 28) rfl)) (mvT hZ (own_g hw (i := 29) rfl)) (notFace_of_selects (args := #[]) (mvT hZ (own_g hw (i := 31) rfl))) (mvT hZ (own_g hw (i := 31) rfl)) (mvT hZ (own_g hw (i := 30) rfl)) (by decide) (backOf (W := 0) (own_rmhc l Z a0 hw [] (q2) (cc) (jj) ((-1 : Int32)) T31.heap n0 Z31 F35 F36 F37) hZ (own_g hw (i := 32) rfl) (own_g hw (i := 3) rfl) (by decide) (by decide)) q53a q53c (g := (mkF m 57 #[iv a1, iv b1, iv t1, iv cc, iv jj, iv ss, rv p1, iv hh, rv q1, iv hq, .unset, .unset, .unset] [(.ref q2)])) rfl (by rw [hml]; rfl) (Steps.refl _) (argsL := []) (rest := []) (lenOf own_pd___I rfl) rfl (by show 2 * 0 + _ ≤ _; exact Nat.le_of_eq rfl) (hb hby at_57) (fun _ _ => ⟨rfl, rfl, (by decide : 3 + 0 ≤ _), (by decide : 15 + 0 ≤ _)⟩)
  dsimp only [Pt.U, Pt.locs, Pt.cells, Pt.slots] at X53 l53 y53 z53 st53 hQ53
  subst l53 y53 z53
  obtain ⟨rfl, N53q, e53⟩ := hQ53
  have N53 := Fr.app N31 N53q
  refine own_S (mkF m 60 #[iv a1, iv b1, iv t1, iv cc, iv jj, iv ss, rv p1, iv hh, rv q1, iv hq, .unset, .unset, .unset] [(.int (((((31 : Int32) * cc) + jj) * (31 : Int32)) + (-1 : Int32)))]) (fun _ k => st53.trans k) ?_
  obtain ⟨ha, h_ha⟩ : ∃ z : Int32, z = (((((31 : Int32) * cc) + jj) * (31 : Int32)) + (-1 : Int32)) := ⟨_, rfl⟩
  refine own_S (T' := T53) (mkF m 60 #[iv a1, iv b1, iv t1, iv cc, iv jj, iv ss, rv p1, iv hh, rv q1, iv hq, .unset, .unset, .unset] [(.int ha)]) (fun _ k => by subst h_ha; exact k) ?_
  refine own_S (mkF m 62 #[iv a1, iv b1, iv t1, iv cc, iv jj, iv ss, rv p1, iv hh, rv q1, iv hq, iv ha, .unset, .unset] []) (fun _ k => XS.istore X53.here hx rfl (hb hby at_60) rfl (l' := #[iv a1, iv b1, iv t1, iv cc, iv jj, iv ss, rv p1, iv hh, rv q1, iv hq, iv ha, .unset, .unset]) rfl k) ?_
  refine own_S (mkF m 65 #[iv a1, iv b1, iv t1, iv cc, iv jj, iv ss, rv p1, iv hh, rv q1, iv hq, iv ha, .unset, .unset] [(.long 961)]) (fun _ k => X53.ldc2Long hx hown (mvT hZ (own_g hw (i := 45) rfl)) (g := (mkF m 62 #[iv a1, iv b1, iv t1, iv cc, iv jj, iv ss, rv p1, iv hh, rv q1, iv hq, iv ha, .unset, .unset] [])) rfl (hb hby at_62) _ k) ?_
  refine own_S (mkF m 66 #[iv a1, iv b1, iv t1, iv cc, iv jj, iv ss, rv p1, iv hh, rv q1, iv hq, iv ha, .unset, .unset] [(.int cc), (.long 961)]) (fun _ k => XS.iloadN X53.here hx rfl (hb hby at_65) rfl k) ?_
  refine own_S (mkF m 67 #[iv a1, iv b1, iv t1, iv cc, iv jj, iv ss, rv p1, iv hh, rv q1, iv hq, iv ha, .unset, .unset] [(.long ((cc).toInt64)), (.long 961)]) (fun _ k => XS.i2l X53.here hx rfl (hb hby at_66) rfl k) ?_
  refine own_S (mkF m 68 #[iv a1, iv b1, iv t1, iv cc, iv jj, iv ss, rv p1, iv hh, rv q1, iv hq, iv ha, .unset, .unset] [(.long ((961 : Int64) * ((cc).toInt64)))]) (fun _ k => XS.lmul X53.here hx rfl (hb hby at_67) rfl k) ?_
  refine own_S (mkF m 71 #[iv a1, iv b1, iv t1, iv cc, iv jj, iv ss, rv p1, iv hh, rv q1, iv hq, iv ha, .unset, .unset] [(.long 31), (.long ((961 : Int64) * ((cc).toInt64)))]) (fun _ k => X53.ldc2Long hx hown (mvT hZ (own_g hw (i := 46) rfl)) (g := (mkF m 68 #[iv a1, iv b1, iv t1, iv cc, iv jj, iv ss, rv p1, iv hh, rv q1, iv hq, iv ha, .unset, .unset] [(.long ((961 : Int64) * ((cc).toInt64)))])) rfl (hb hby at_68) _ k) ?_
  refine own_S (mkF m 73 #[iv a1, iv b1, iv t1, iv cc, iv jj, iv ss, rv p1, iv hh, rv q1, iv hq, iv ha, .unset, .unset] [(.int jj), (.long 31), (.long ((961 : Int64) * ((cc).toInt64)))]) (fun _ k => XS.iload X53.here hx rfl (hb hby at_71) rfl k) ?_
  refine own_S (mkF m 74 #[iv a1, iv b1, iv t1, iv cc, iv jj, iv ss, rv p1, iv hh, rv q1, iv hq, iv ha, .unset, .unset] [(.long ((jj).toInt64)), (.long 31), (.long ((961 : Int64) * ((cc).toInt64)))]) (fun _ k => XS.i2l X53.here hx rfl (hb hby at_73) rfl k) ?_
  refine own_S (mkF m 75 #[iv a1, iv b1, iv t1, iv cc, iv jj, iv ss, rv p1, iv hh, rv q1, iv hq, iv ha, .unset, .unset] [(.long ((31 : Int64) * ((jj).toInt64))), (.long ((961 : Int64) * ((cc).toInt64)))]) (fun _ k => XS.lmul X53.here hx rfl (hb hby at_74) rfl k) ?_
  refine own_S (mkF m 76 #[iv a1, iv b1, iv t1, iv cc, iv jj, iv ss, rv p1, iv hh, rv q1, iv hq, iv ha, .unset, .unset] [(.long (((961 : Int64) * ((cc).toInt64)) + ((31 : Int64) * ((jj).toInt64))))]) (fun _ k => XS.ladd X53.here hx rfl (hb hby at_75) rfl k) ?_
  refine own_S (mkF m 78 #[iv a1, iv b1, iv t1, iv cc, iv jj, iv ss, rv p1, iv hh, rv q1, iv hq, iv ha, .val (.long (((961 : Int64) * ((cc).toInt64)) + ((31 : Int64) * ((jj).toInt64)))), .second] []) (fun _ k => XS.lstore X53.here hx rfl (hb hby at_76) rfl (l' := #[iv a1, iv b1, iv t1, iv cc, iv jj, iv ss, rv p1, iv hh, rv q1, iv hq, iv ha, .val (.long (((961 : Int64) * ((cc).toInt64)) + ((31 : Int64) * ((jj).toInt64)))), .second]) rfl k) ?_
  refine own_S (mkF m 80 #[iv a1, iv b1, iv t1, iv cc, iv jj, iv ss, rv p1, iv hh, rv q1, iv hq, iv ha, .val (.long (((961 : Int64) * ((cc).toInt64)) + ((31 : Int64) * ((jj).toInt64)))), .second] [(.int hh)]) (fun _ k => XS.iload X53.here hx rfl (hb hby at_78) rfl k) ?_
  refine own_S (mkF m 82 #[iv a1, iv b1, iv t1, iv cc, iv jj, iv ss, rv p1, iv hh, rv q1, iv hq, iv ha, .val (.long (((961 : Int64) * ((cc).toInt64)) + ((31 : Int64) * ((jj).toInt64)))), .second] [(.long (((961 : Int64) * ((cc).toInt64)) + ((31 : Int64) * ((jj).toInt64)))), (.int hh)]) (fun _ k => XS.lload X53.here hx rfl (hb hby at_80) rfl k) ?_
  refine own_S (mkF m 83 #[iv a1, iv b1, iv t1, iv cc, iv jj, iv ss, rv p1, iv hh, rv q1, iv hq, iv ha, .val (.long (((961 : Int64) * ((cc).toInt64)) + ((31 : Int64) * ((jj).toInt64)))), .second] [(.long 1), (.long (((961 : Int64) * ((cc).toInt64)) + ((31 : Int64) * ((jj).toInt64)))), (.int hh)]) (fun _ k => XS.lconst X53.here hx rfl (hb hby at_82) k) ?_
  refine own_S (mkF m 84 #[iv a1, iv b1, iv t1, iv cc, iv jj, iv ss, rv p1, iv hh, rv q1, iv hq, iv ha, .val (.long (((961 : Int64) * ((cc).toInt64)) + ((31 : Int64) * ((jj).toInt64)))), .second] [(.long ((((961 : Int64) * ((cc).toInt64)) + ((31 : Int64) * ((jj).toInt64))) - (1 : Int64))), (.int hh)]) (fun _ k => XS.lsub X53.here hx rfl (hb hby at_83) rfl k) ?_
  refine own_S (mkF m 85 #[iv a1, iv b1, iv t1, iv cc, iv jj, iv ss, rv p1, iv hh, rv q1, iv hq, iv ha, .val (.long (((961 : Int64) * ((cc).toInt64)) + ((31 : Int64) * ((jj).toInt64)))), .second] [(.int ((((((961 : Int64) * ((cc).toInt64)) + ((31 : Int64) * ((jj).toInt64))) - (1 : Int64))).toInt32)), (.int hh)]) (fun _ k => XS.l2i X53.here hx rfl (hb hby at_84) rfl k) ?_
  have hc54 : hh = ((((((961 : Int64) * ((cc).toInt64)) + ((31 : Int64) * ((jj).toInt64))) - (1 : Int64))).toInt32) := (by rw [h_hh]; exact own_law1 cc jj)
  refine own_S (mkF m 88 #[iv a1, iv b1, iv t1, iv cc, iv jj, iv ss, rv p1, iv hh, rv q1, iv hq, iv ha, .val (.long (((961 : Int64) * ((cc).toInt64)) + ((31 : Int64) * ((jj).toInt64)))), .second] []) (fun _ k => XS.icmpNo X53.here hx rfl (hb hby at_85) rfl (teq hc54).2 k) ?_
  refine own_S (mkF m 90 #[iv a1, iv b1, iv t1, iv cc, iv jj, iv ss, rv p1, iv hh, rv q1, iv hq, iv ha, .val (.long (((961 : Int64) * ((cc).toInt64)) + ((31 : Int64) * ((jj).toInt64)))), .second] [(.int hq)]) (fun _ k => XS.iload X53.here hx rfl (hb hby at_88) rfl k) ?_
  refine own_S (mkF m 92 #[iv a1, iv b1, iv t1, iv cc, iv jj, iv ss, rv p1, iv hh, rv q1, iv hq, iv ha, .val (.long (((961 : Int64) * ((cc).toInt64)) + ((31 : Int64) * ((jj).toInt64)))), .second] [(.long (((961 : Int64) * ((cc).toInt64)) + ((31 : Int64) * ((jj).toInt64)))), (.int hq)]) (fun _ k => XS.lload X53.here hx rfl (hb hby at_90) rfl k) ?_
  refine own_S (mkF m 94 #[iv a1, iv b1, iv t1, iv cc, iv jj, iv ss, rv p1, iv hh, rv q1, iv hq, iv ha, .val (.long (((961 : Int64) * ((cc).toInt64)) + ((31 : Int64) * ((jj).toInt64)))), .second] [(.int ss), (.long (((961 : Int64) * ((cc).toInt64)) + ((31 : Int64) * ((jj).toInt64)))), (.int hq)]) (fun _ k => XS.iload X53.here hx rfl (hb hby at_92) rfl k) ?_
  refine own_S (mkF m 95 #[iv a1, iv b1, iv t1, iv cc, iv jj, iv ss, rv p1, iv hh, rv q1, iv hq, iv ha, .val (.long (((961 : Int64) * ((cc).toInt64)) + ((31 : Int64) * ((jj).toInt64)))), .second] [(.long ((ss).toInt64)), (.long (((961 : Int64) * ((cc).toInt64)) + ((31 : Int64) * ((jj).toInt64)))), (.int hq)]) (fun _ k => XS.i2l X53.here hx rfl (hb hby at_94) rfl k) ?_
  refine own_S (mkF m 96 #[iv a1, iv b1, iv t1, iv cc, iv jj, iv ss, rv p1, iv hh, rv q1, iv hq, iv ha, .val (.long (((961 : Int64) * ((cc).toInt64)) + ((31 : Int64) * ((jj).toInt64)))), .second] [(.long ((((961 : Int64) * ((cc).toInt64)) + ((31 : Int64) * ((jj).toInt64))) + ((ss).toInt64))), (.int hq)]) (fun _ k => XS.ladd X53.here hx rfl (hb hby at_95) rfl k) ?_
  refine own_S (mkF m 97 #[iv a1, iv b1, iv t1, iv cc, iv jj, iv ss, rv p1, iv hh, rv q1, iv hq, iv ha, .val (.long (((961 : Int64) * ((cc).toInt64)) + ((31 : Int64) * ((jj).toInt64)))), .second] [(.int ((((((961 : Int64) * ((cc).toInt64)) + ((31 : Int64) * ((jj).toInt64))) + ((ss).toInt64))).toInt32)), (.int hq)]) (fun _ k => XS.l2i X53.here hx rfl (hb hby at_96) rfl k) ?_
  have hc55 : hq = ((((((961 : Int64) * ((cc).toInt64)) + ((31 : Int64) * ((jj).toInt64))) + ((ss).toInt64))).toInt32) := (by rw [h_hq]; exact own_law2 cc jj ss)
  refine own_S (mkF m 100 #[iv a1, iv b1, iv t1, iv cc, iv jj, iv ss, rv p1, iv hh, rv q1, iv hq, iv ha, .val (.long (((961 : Int64) * ((cc).toInt64)) + ((31 : Int64) * ((jj).toInt64)))), .second] []) (fun _ k => XS.icmpNo X53.here hx rfl (hb hby at_97) rfl (teq hc55).2 k) ?_
  refine own_S (mkF m 102 #[iv a1, iv b1, iv t1, iv cc, iv jj, iv ss, rv p1, iv hh, rv q1, iv hq, iv ha, .val (.long (((961 : Int64) * ((cc).toInt64)) + ((31 : Int64) * ((jj).toInt64)))), .second] [(.int ha)]) (fun _ k => XS.iload X53.here hx rfl (hb hby at_100) rfl k) ?_
  refine own_S (mkF m 104 #[iv a1, iv b1, iv t1, iv cc, iv jj, iv ss, rv p1, iv hh, rv q1, iv hq, iv ha, .val (.long (((961 : Int64) * ((cc).toInt64)) + ((31 : Int64) * ((jj).toInt64)))), .second] [(.int hh), (.int ha)]) (fun _ k => XS.iload X53.here hx rfl (hb hby at_102) rfl k) ?_
  have hc56 : ha = hh := (by rw [h_ha, h_hh])
  refine own_S (mkF m 107 #[iv a1, iv b1, iv t1, iv cc, iv jj, iv ss, rv p1, iv hh, rv q1, iv hq, iv ha, .val (.long (((961 : Int64) * ((cc).toInt64)) + ((31 : Int64) * ((jj).toInt64)))), .second] []) (fun _ k => XS.icmpNo X53.here hx rfl (hb hby at_104) rfl (teq hc56).2 k) ?_
  refine own_S (mkF m 108 #[iv a1, iv b1, iv t1, iv cc, iv jj, iv ss, rv p1, iv hh, rv q1, iv hq, iv ha, .val (.long (((961 : Int64) * ((cc).toInt64)) + ((31 : Int64) * ((jj).toInt64)))), .second] [(.int 1)]) (fun _ k => XS.iconst X53.here hx rfl (hb hby at_107) k) ?_
  refine own_S (mkF m 112 #[iv a1, iv b1, iv t1, iv cc, iv jj, iv ss, rv p1, iv hh, rv q1, iv hq, iv ha, .val (.long (((961 : Int64) * ((cc).toInt64)) + ((31 : Int64) * ((jj).toInt64)))), .second] [(.int 1)]) (fun _ k => XS.goto X53.here hx rfl (pc0 := 108) (pc' := 112) rfl (hb hby at_108) (by decide) (by decide) k) ?_
  exact own_retN X53 hx hlk (t := .boolean) hret (by simp) (hb hby at_112) (by rw [e53]; exact ⟨rfl, N53, trivial⟩) (by decide) (by decide)
set_option maxRecDepth 65536 in
set_option maxHeartbeats 40000000 in
theorem comes_1 {Post : Tables → Env → Array Value → State → Outcome → State → Prop} (hpost : ∀ tb e args s v u, (limb_1_1.after args s (.returned v) u = true ∧ limb_1_2.after args s (.returned v) u = true ∧ True) → FrameEnd s (.returned v) u (Jvm.fieldLocs frame_1_writes args s ++ Jvm.arrayLocs frame_1_arrays args s ++ Jvm.staticLocs frame_1_statics s) 16 128 → Post tb e args s (.returned v) u) :
    ArmFor flags0 classFile x code maxLocals ret World_1 tables_1 room_1 Calls_1 rest_1 Pre_1 Post := by
  intro l hfl _ _ p e ha hc hk s m args below hf hA hF happ hP
  obtain ⟨hcalls, hrest, hpre⟩ := hP
  obtain ⟨-, -, -, hnamed, -, -, -, hat⟩ := (Spec.applies_iff hf).mp happ
  obtain ⟨hg, hn⟩ := and_e (Cond.before_iff.mp (show (Jvm.Cond.and given_1 narrow_1).before args s = true from hpre))
  obtain ⟨h1, g0⟩ := and_e hg
  obtain ⟨k0, g1⟩ := and_e g0
  obtain ⟨k1, g2⟩ := and_e g1
  have k2 := g2
  obtain ⟨w0, w1, w2, rfl⟩ : ∃ w0 w1 w2 : Value, args = #[w0, w1, w2] := by
    have hs : args.size = 3 := by simpa [Cond.value, given_1] using h1
    obtain ⟨L⟩ := args
    match L, hs with
    | [w0, w1, w2], _ => exact ⟨w0, w1, w2, rfl⟩
  have hw := fun d (hd : d ∈ tables_1) => atoms_spec (ws := Jvm.Cond.code x code maxLocals ret :: tables_1) hat d (List.mem_cons_of_mem _ hd)
  have hfit : Fit s := fun {y c} hc i hi => by
    obtain ⟨ha, rfl⟩ := Array.getElem?_eq_some_iff.mp hc
    have q := List.all_eq_true.mp ((Array.all_eq_true_iff_forall_mem.mp hF) _ (Array.getElem_mem ha)) i (List.mem_range.mpr hi)
    simpa [Array.getElem?_eq_getElem hi] using q
  obtain ⟨i0, q0⟩ := is_v k0
  obtain rfl : w0 = (.int i0) := Option.some.inj q0
  obtain ⟨i1, q1⟩ := is_v k1
  obtain rfl : w1 = (.int i1) := Option.some.inj q1
  obtain ⟨i2, q2⟩ := is_v k2
  obtain rfl : w2 = (.int i2) := Option.some.inj q2
  obtain ⟨n, o, h1, h2, h3, _, L, rfl, ⟨rfl, N, -⟩, hq⟩ := own_rmlaw l s _ hw tables_1 i0 i1 i2  s.heap s.heap.size (Nat.le_refl _)  p e ha hc hk s m _ below hf ((Spec.applies_iff_loose hf).mp happ).1 ⟨rfl, State.Warmed39.refl s, rfl⟩ trivial
  refine ⟨n, _, h1, h2, h3, hpost _ _ _ _ _ _ ⟨Cond.after_iff.mpr rfl, Cond.after_iff.mpr (eq_i res_at (Term.int_eval (1)) rfl), trivial⟩ ⟨hq.1, hq.2.1, (hq.2.2.sift fun y hy => Or.inr (N y hy)).mono (by decide) (by decide)⟩⟩
theorem main_1_1 : Claimed_1_1 := comes_1 fun _ _ _ _ _ _ h hF => ⟨h.1, hF⟩
theorem main_1_2 : Claimed_1_2 := comes_1 fun _ _ _ _ _ _ h hF => ⟨h.2.1, hF⟩
end Jvm.Pilot.@@N@@
namespace Jvm.Pilot.@@N@@
open Jvm Jvm.ClassFile Sem Op Lib Jvm.Free Jvm.Stand Jvm.Pilot.@@N@@.Jvm.D
/-! MADE BY PROGRAM (witnessworld.py) out of the Statement's table words and the real class files: 11 classes; the members and pool entries that the words name. The judged class is class 1, her method 1. -/
namespace start1
open Jvm.ClassFile
def u (s : String) : CpInfo := .utf8 (stringToUtf16 s)
/-- a pool by its gaps: so many unusable entries, then the entry; so many at the end -/
def gap : Nat → List CpInfo → List CpInfo
  | 0, r => r
  | n + 1, r => .unusable :: gap n r
def poolList (es : List (Nat × CpInfo)) (last : Nat) : List CpInfo := es.foldr (fun e r => gap e.1 (e.2 :: r)) (gap last [])
def pool (es : List (Nat × CpInfo)) (last : Nat) : Array CpInfo := ⟨poolList es last⟩
def fileOf (pool : Array CpInfo) (this : Nat) (attrs : Array Attribute := #[]) (ms : Array MethodInfo := #[]) (fl : Nat := 33) (sup : Nat := 0) (ifs : Array Nat := #[]) (fds : Array FieldInfo := #[]) : ClassFile where
  minorVersion := 0
  majorVersion := 65
  constantPool := pool
  accessFlags := fl
  thisClass := this
  superClass := sup
  interfaces := ifs
  fields := fds
  methods := ms
  attributes := attrs
def plain (name : String) (sup : Option ClassId) : Class where
  name := name
  kind := .ordinary
  loader := none
  accessFlags := 33
  super := sup
  interfaces := #[]
  cf := none
  fields := #[]
  methods := #[]
  instanceTypes := #[]
  staticTypes := #[]
  resolved := #[]
  callSites := []
  init := .initialized
  statics := none
  mirror := none

def pool0 : Array CpInfo := pool [(5, u "<init>"), (0, u "()V"), (1, .class_ 10), (1, u "java/lang/Object")] 113

def k0c0 : Code := { maxStack := 0, maxLocals := 1, code := object_method_1_code, exceptionTable := #[], attributes := #[] }
def k0m0 : Method := { name := "<init>", desc := "()V", sig := { parameters := [], returnType := none }, accessFlags := 1, code := some k0c0 }
/-- java/lang/Object -/
def k0 : Class := { plain "java/lang/Object" none with
  accessFlags := 33
  interfaces := #[]
  cf := some (fileOf pool0 8 #[] #[{ accessFlags := 1, nameIndex := 5, descriptorIndex := 6, attributes := #[] }] 33 0 #[] #[])
  fields := #[]
  methods := #[k0m0]
  instanceTypes := #[]
  staticTypes := #[]
  resolved := Array.replicate 124 none
  statics := none }

def pool1 : Array CpInfo := pool [(2, .class_ 4), (1, u "java/lang/Object"), (0, u "<init>"), (0, u "()V"), (0, .integer 2147483647), (0, .class_ 9), (0, u "com/example/referee/referee/logic/ltl/Pointer"), (0, .methodref 8 11), (0, .nameAndType 5 12), (0, u "(II)V"), (0, .methodref 8 14), (0, .nameAndType 15 16), (0, u "hashCode"), (0, u "()I"), (0, .methodref 8 18), (0, .nameAndType 19 20), (0, u "at"), (0, u "(I)Lcom/example/referee/referee/logic/ltl/Pointer;"), (0, .methodref 8 22), (0, .nameAndType 23 24), (0, u "address"), (0, u "()Lcom/example/referee/referee/logic/ltl/Pointer;"), (0, .long 961), (1, .long 31), (1, .class_ 30), (0, u "com/example/referee/referee/logic/ltl/PointerHashCodePinLaw"), (2, u "law"), (0, u "(III)Z")] 3

def k1m0 : Method := { name := "<init>", desc := "()V", sig := { parameters := [], returnType := none }, accessFlags := 1, code := none }
def k1c1 : Code := { maxStack := 6, maxLocals := 13, code := code, exceptionTable := #[], attributes := #[] }
def k1m1 : Method := { name := "law", desc := "(III)Z", sig := { parameters := [.int, .int, .int], returnType := some .boolean }, accessFlags := 9, code := some k1c1 }
/-- com/example/referee/referee/logic/ltl/PointerHashCodePinLaw -/
def k1 : Class := { plain "com/example/referee/referee/logic/ltl/PointerHashCodePinLaw" (some 0) with
  accessFlags := 49
  interfaces := #[]
  cf := some (fileOf pool1 29 #[] #[{ accessFlags := 1, nameIndex := 5, descriptorIndex := 6, attributes := #[] }, { accessFlags := 9, nameIndex := 33, descriptorIndex := 34, attributes := #[] }] 49 2 #[] #[])
  fields := #[]
  methods := #[k1m0, k1m1]
  instanceTypes := #[]
  staticTypes := #[]
  resolved := Array.replicate 38 none
  statics := none }

def pool2 : Array CpInfo := pool [(1, .methodref 2 3), (0, .class_ 4), (0, .nameAndType 5 6), (0, u "java/lang/Object"), (0, u "<init>"), (0, u "()V"), (0, .fieldref 8 9), (0, .class_ 10), (0, .nameAndType 11 12), (0, u "com/example/referee/referee/logic/ltl/Formula"), (0, u "height"), (0, u "I"), (0, .fieldref 8 14), (0, .nameAndType 15 12), (0, u "size"), (213, u "(II)V")] 56

def k2c0 : Code := { maxStack := 2, maxLocals := 3, code := prog_75_method_1_code, exceptionTable := #[], attributes := #[] }
def k2m0 : Method := { name := "<init>", desc := "(II)V", sig := { parameters := [.int, .int], returnType := none }, accessFlags := 0, code := some k2c0 }
/-- com/example/referee/referee/logic/ltl/Formula -/
def k2 : Class := { plain "com/example/referee/referee/logic/ltl/Formula" (some 0) with
  accessFlags := 1057
  interfaces := #[]
  cf := some (fileOf pool2 8 #[] #[{ accessFlags := 0, nameIndex := 5, descriptorIndex := 229, attributes := #[] }] 1057 2 #[] #[{ accessFlags := 18, nameIndex := 11, descriptorIndex := 12, attributes := #[] }, { accessFlags := 18, nameIndex := 15, descriptorIndex := 12, attributes := #[] }])
  fields := #[{ name := "height", type := .int, accessFlags := 18, slot := 0, constantValue := 0 }, { name := "size", type := .int, accessFlags := 18, slot := 1, constantValue := 0 }]
  methods := #[k2m0]
  instanceTypes := #[.int, .int]
  staticTypes := #[]
  resolved := Array.replicate 286 none
  statics := none }

def pool3 : Array CpInfo := pool [(1, .class_ 2), (0, u "java/lang/Comparable"), (0, .class_ 4), (0, u "java/lang/Object")] 7

/-- java/lang/Comparable -/
def k3 : Class := { plain "java/lang/Comparable" (some 0) with
  accessFlags := 1537
  interfaces := #[]
  cf := some (fileOf pool3 1 #[] #[] 1537 3 #[] #[])
  fields := #[]
  methods := #[]
  instanceTypes := #[]
  staticTypes := #[]
  resolved := Array.replicate 12 none
  statics := none }

def pool4 : Array CpInfo := pool [(1, .class_ 2), (0, u "com/example/referee/referee/logic/ltl/Pointer"), (0, .methodref 1 4), (0, .nameAndType 5 6), (0, u "<init>"), (0, u "(III)V"), (0, .methodref 8 9), (0, .class_ 10), (0, .nameAndType 5 11), (0, u "com/example/referee/referee/logic/ltl/Formula"), (0, u "(II)V"), (9, .fieldref 1 22), (0, .nameAndType 23 24), (0, u "component"), (0, u "I"), (0, .fieldref 1 26), (0, .nameAndType 27 24), (0, u "cell"), (0, .fieldref 1 29), (0, .nameAndType 30 24), (0, u "instance"), (12, .methodref 1 9), (29, .class_ 74), (0, u "java/lang/Comparable"), (0, u "UNTIMED"), (5, u "at"), (0, u "(I)Lcom/example/referee/referee/logic/ltl/Pointer;"), (1, u "()Lcom/example/referee/referee/logic/ltl/Pointer;"), (0, u "address"), (0, u "()I"), (2, u "hashCode")] 27

def k4c0 : Code := { maxStack := 4, maxLocals := 3, code := prog_88_method_1_code, exceptionTable := #[], attributes := #[] }
def k4m0 : Method := { name := "<init>", desc := "(II)V", sig := { parameters := [.int, .int], returnType := none }, accessFlags := 1, code := some k4c0 }
def k4c1 : Code := { maxStack := 4, maxLocals := 4, code := prog_88_method_2_code, exceptionTable := #[], attributes := #[] }
def k4m1 : Method := { name := "<init>", desc := "(III)V", sig := { parameters := [.int, .int, .int], returnType := none }, accessFlags := 2, code := some k4c1 }
def k4c2 : Code := { maxStack := 5, maxLocals := 2, code := prog_88_method_3_code, exceptionTable := #[], attributes := #[] }
def k4m2 : Method := { name := "at", desc := "(I)Lcom/example/referee/referee/logic/ltl/Pointer;", sig := { parameters := [.int], returnType := some (.object "com/example/referee/referee/logic/ltl/Pointer") }, accessFlags := 1, code := some k4c2 }
def k4c3 : Code := { maxStack := 4, maxLocals := 1, code := prog_88_method_5_code, exceptionTable := #[], attributes := #[] }
def k4m3 : Method := { name := "address", desc := "()Lcom/example/referee/referee/logic/ltl/Pointer;", sig := { parameters := [], returnType := some (.object "com/example/referee/referee/logic/ltl/Pointer") }, accessFlags := 1, code := some k4c3 }
def k4c4 : Code := { maxStack := 2, maxLocals := 1, code := prog_88_method_11_code, exceptionTable := #[], attributes := #[] }
def k4m4 : Method := { name := "hashCode", desc := "()I", sig := { parameters := [], returnType := some .int }, accessFlags := 1, code := some k4c4 }
/-- com/example/referee/referee/logic/ltl/Pointer -/
def k4 : Class := { plain "com/example/referee/referee/logic/ltl/Pointer" (some 2) with
  accessFlags := 49
  interfaces := #[3]
  cf := some (fileOf pool4 1 #[] #[{ accessFlags := 1, nameIndex := 5, descriptorIndex := 11, attributes := #[] }, { accessFlags := 2, nameIndex := 5, descriptorIndex := 6, attributes := #[] }, { accessFlags := 1, nameIndex := 81, descriptorIndex := 82, attributes := #[] }, { accessFlags := 1, nameIndex := 85, descriptorIndex := 84, attributes := #[] }, { accessFlags := 1, nameIndex := 89, descriptorIndex := 86, attributes := #[] }] 49 8 #[73] #[{ accessFlags := 26, nameIndex := 75, descriptorIndex := 24, attributes := #[] }, { accessFlags := 18, nameIndex := 23, descriptorIndex := 24, attributes := #[] }, { accessFlags := 18, nameIndex := 27, descriptorIndex := 24, attributes := #[] }, { accessFlags := 18, nameIndex := 30, descriptorIndex := 24, attributes := #[] }])
  fields := #[{ name := "UNTIMED", type := .int, accessFlags := 26, slot := 0, constantValue := 0 }, { name := "component", type := .int, accessFlags := 18, slot := 2, constantValue := 0 }, { name := "cell", type := .int, accessFlags := 18, slot := 3, constantValue := 0 }, { name := "instance", type := .int, accessFlags := 18, slot := 4, constantValue := 0 }]
  methods := #[k4m0, k4m1, k4m2, k4m3, k4m4]
  instanceTypes := #[.int, .int, .int, .int, .int]
  staticTypes := #[.int]
  resolved := Array.replicate 117 none
  statics := none }

def pool5 : Array CpInfo := pool [(1, u "java/lang/Cloneable"), (0, .class_ 1), (0, u "java/lang/Object"), (0, .class_ 3)] 3

/-- java/lang/Cloneable -/
def k5 : Class := { plain "java/lang/Cloneable" (some 0) with
  accessFlags := 1537
  interfaces := #[]
  cf := some (fileOf pool5 2 #[] #[] 1537 4 #[] #[])
  fields := #[]
  methods := #[]
  instanceTypes := #[]
  staticTypes := #[]
  resolved := Array.replicate 8 none
  statics := none }

def pool6 : Array CpInfo := pool [(1, u "java/io/Serializable"), (0, .class_ 1), (0, u "java/lang/Object"), (0, .class_ 3)] 3

/-- java/io/Serializable -/
def k6 : Class := { plain "java/io/Serializable" (some 0) with
  accessFlags := 1537
  interfaces := #[]
  cf := some (fileOf pool6 2 #[] #[] 1537 4 #[] #[])
  fields := #[]
  methods := #[]
  instanceTypes := #[]
  staticTypes := #[]
  resolved := Array.replicate 8 none
  statics := none }

/-- the primitive byte -/
def k7 : Class := { plain "byte" none with kind := .primitive 'B', accessFlags := 0x411 }
/-- [B -/
def k8 : Class := { plain "[B" (some 0) with kind := .array 7 .byte, interfaces := #[5, 6], accessFlags := 1041 }

/-- the primitive int -/
def k9 : Class := { plain "int" none with kind := .primitive 'I', accessFlags := 0x411 }
/-- [I -/
def k10 : Class := { plain "[I" (some 0) with kind := .array 9 .int, interfaces := #[5, 6], accessFlags := 1041 }

def heap : Heap := #[]
def classes : Array Class := #[k0, k1, k2, k3, k4, k5, k6, k7, k8, k9, k10]
def interned : List (Array UInt16 × Addr) := []
def slotsUsed : Nat := 0
def theMethod : MethodId := ⟨1, 1⟩
def args0 : Array Value := #[.int 5, .int 7, .int 9]
def aboutOver (below : List Frame) : State where
  vm := { classes := classes, interned := interned.toArray }
  heap := heap
  slotsUsed := slotsUsed
  threads := #[{ frames := .invoking theMethod args0 :: below }]
def below0 : List Frame := [.native { method := ⟨0, 0⟩, args := #[] }]
def about1 : State := aboutOver below0
def p0 : Program := .bare "" "" ""
def e0 : Env := launch0.env 0 0 0
theorem w_frames : about1.frames = Frame.invoking theMethod args0 :: below0 := rfl
set_option maxRecDepth 65536 in
theorem w_args : argsFit about1.vm theMethod args0 = true := by decide +kernel
set_option maxRecDepth 65536 in
theorem w_heap : heapFits about1 = true := by decide +kernel
set_option maxRecDepth 65536 in
theorem w_runnable : about1.curStatus? = some .runnable := by decide +kernel
set_option maxRecDepth 65536 in
theorem w_alone : about1.alone = true := by decide +kernel
set_option maxRecDepth 65536 in
theorem w_named : about1.methodNamed? x = some theMethod := by decide +kernel
set_option maxRecDepth 65536 in
theorem w_hears : about1.hears theMethod below0 = true := by decide +kernel
set_option maxRecDepth 65536 in
theorem w_ripe : about1.ripe theMethod args0 below0 = true := by decide +kernel
theorem w_running : about1.status = .running := rfl
set_option maxRecDepth 65536 in
theorem w_room : about1.hasRoom e0.platform room_1 = true :=
  launch0.hasRoom_least _ room_1 (by decide +kernel) (by decide +kernel) (by decide +kernel) (by decide +kernel) (by decide +kernel) (by decide +kernel)
theorem allAtoms_all (ts : List Jvm.Cond) (a : Array Jvm.Value) (st : Jvm.State) : (allAtoms ts).before a st = ts.all (fun c => c.before a st) := by
  induction ts with
  | nil => rfl
  | cons c t ih =>
    show (Jvm.Cond.and c (allAtoms t)).before a st = _
    rw [Jvm.Cond.before_and, ih, List.all_cons]
def words1 : List Jvm.Cond := Jvm.Cond.code x code maxLocals ret :: tables_1
/-- a 'code' word, met by the world's own term for the bytes: nothing is compared byte by byte -/
theorem code_word {y : MethodName} {bytes : ByteArray} {mx : Nat} {rt : Option FieldType} {a : Array Value} {s : State} {m : MethodId} {meth : Method} {c : Code} (h1 : s.methodNamed? y = some m) (h2 : s.vm.method? m = some meth) (h3 : meth.code = some c) (h4 : c.code = bytes)
    (h5 : (c.maxLocals == mx && c.exceptionTable.isEmpty && decide (c.maxStack ≤ mostOperands) && decide (meth.sig.returnType = rt) && !meth.locks && decide (parseMethodDescriptor y.desc = some meth.sig)) = true) : (Jvm.Cond.code y bytes mx rt).before a s = true := by
  simp only [Bool.and_eq_true, beq_iff_eq, Bool.not_eq_true', decide_eq_true_eq] at h5
  obtain ⟨⟨⟨⟨⟨g1, g2⟩, g3⟩, g4⟩, g5⟩, g6⟩ := h5
  simp [Cond.before, Cond.holds, Cond.value, h1, h2, h3, h4, g1, g2, g3, g4, g5, g6]
def isCode : Jvm.Cond → Bool
  | .code _ _ _ _ => true
  | _ => false
theorem all_split {L : List Jvm.Cond} {P : Jvm.Cond → Bool} (h1 : L.all (fun c => isCode c || P c) = true) (h2 : ∀ c ∈ L.filter isCode, P c = true) : L.all P = true := by
  refine List.all_eq_true.mpr fun c hc => ?_
  have h := List.all_eq_true.mp h1 c hc
  rcases Bool.eq_false_or_eq_true (isCode c) with hi | hi
  · exact h2 c (List.mem_filter.mpr ⟨hc, hi⟩)
  · simpa [hi] using h
set_option maxRecDepth 65536 in
theorem w_c0 : (Jvm.Cond.code x code maxLocals ret).before args0 about1 = true := code_word (m := ⟨1, 1⟩) (meth := k1m1) (c := k1c1) (by decide +kernel) rfl rfl rfl (by decide +kernel)
set_option maxRecDepth 65536 in
theorem w_c1 : (Jvm.Cond.code ({ cls := "com/example/referee/referee/logic/ltl/Pointer", name := "<init>", desc := "(II)V" } : Jvm.MethodName) prog_88_method_1_code (3 : Nat) (Option.none : Option Jvm.ClassFile.FieldType)).before args0 about1 = true := code_word (m := ⟨4, 0⟩) (meth := k4m0) (c := k4c0) (by decide +kernel) rfl rfl rfl (by decide +kernel)
set_option maxRecDepth 65536 in
theorem w_c2 : (Jvm.Cond.code ({ cls := "com/example/referee/referee/logic/ltl/Pointer", name := "<init>", desc := "(III)V" } : Jvm.MethodName) prog_88_method_2_code (4 : Nat) (Option.none : Option Jvm.ClassFile.FieldType)).before args0 about1 = true := code_word (m := ⟨4, 1⟩) (meth := k4m1) (c := k4c1) (by decide +kernel) rfl rfl rfl (by decide +kernel)
set_option maxRecDepth 65536 in
theorem w_c3 : (Jvm.Cond.code ({ cls := "com/example/referee/referee/logic/ltl/Formula", name := "<init>", desc := "(II)V" } : Jvm.MethodName) prog_75_method_1_code (3 : Nat) (Option.none : Option Jvm.ClassFile.FieldType)).before args0 about1 = true := code_word (m := ⟨2, 0⟩) (meth := k2m0) (c := k2c0) (by decide +kernel) rfl rfl rfl (by decide +kernel)
set_option maxRecDepth 65536 in
theorem w_c4 : (Jvm.Cond.code ({ cls := "java/lang/Object", name := "<init>", desc := "()V" } : Jvm.MethodName) object_method_1_code (1 : Nat) (Option.none : Option Jvm.ClassFile.FieldType)).before args0 about1 = true := code_word (m := ⟨0, 0⟩) (meth := k0m0) (c := k0c0) (by decide +kernel) rfl rfl rfl (by decide +kernel)
set_option maxRecDepth 65536 in
theorem w_c5 : (Jvm.Cond.code ({ cls := "com/example/referee/referee/logic/ltl/Pointer", name := "hashCode", desc := "()I" } : Jvm.MethodName) prog_88_method_11_code (1 : Nat) (Option.some Jvm.ClassFile.FieldType.int)).before args0 about1 = true := code_word (m := ⟨4, 4⟩) (meth := k4m4) (c := k4c4) (by decide +kernel) rfl rfl rfl (by decide +kernel)
set_option maxRecDepth 65536 in
theorem w_c6 : (Jvm.Cond.code ({ cls := "com/example/referee/referee/logic/ltl/Pointer", name := "at", desc := "(I)Lcom/example/referee/referee/logic/ltl/Pointer;" } : Jvm.MethodName) prog_88_method_3_code (2 : Nat) (Option.some (Jvm.ClassFile.FieldType.object "com/example/referee/referee/logic/ltl/Pointer"))).before args0 about1 = true := code_word (m := ⟨4, 2⟩) (meth := k4m2) (c := k4c2) (by decide +kernel) rfl rfl rfl (by decide +kernel)
set_option maxRecDepth 65536 in
theorem w_c7 : (Jvm.Cond.code ({ cls := "com/example/referee/referee/logic/ltl/Pointer", name := "address", desc := "()Lcom/example/referee/referee/logic/ltl/Pointer;" } : Jvm.MethodName) prog_88_method_5_code (1 : Nat) (Option.some (Jvm.ClassFile.FieldType.object "com/example/referee/referee/logic/ltl/Pointer"))).before args0 about1 = true := code_word (m := ⟨4, 3⟩) (meth := k4m3) (c := k4c3) (by decide +kernel) rfl rfl rfl (by decide +kernel)
def codes1 : List Jvm.Cond := [Jvm.Cond.code x code maxLocals ret, Jvm.Cond.code ({ cls := "com/example/referee/referee/logic/ltl/Pointer", name := "<init>", desc := "(II)V" } : Jvm.MethodName) prog_88_method_1_code (3 : Nat) (Option.none : Option Jvm.ClassFile.FieldType), Jvm.Cond.code ({ cls := "com/example/referee/referee/logic/ltl/Pointer", name := "<init>", desc := "(III)V" } : Jvm.MethodName) prog_88_method_2_code (4 : Nat) (Option.none : Option Jvm.ClassFile.FieldType), Jvm.Cond.code ({ cls := "com/example/referee/referee/logic/ltl/Formula", name := "<init>", desc := "(II)V" } : Jvm.MethodName) prog_75_method_1_code (3 : Nat) (Option.none : Option Jvm.ClassFile.FieldType), Jvm.Cond.code ({ cls := "java/lang/Object", name := "<init>", desc := "()V" } : Jvm.MethodName) object_method_1_code (1 : Nat) (Option.none : Option Jvm.ClassFile.FieldType), Jvm.Cond.code ({ cls := "com/example/referee/referee/logic/ltl/Pointer", name := "hashCode", desc := "()I" } : Jvm.MethodName) prog_88_method_11_code (1 : Nat) (Option.some Jvm.ClassFile.FieldType.int), Jvm.Cond.code ({ cls := "com/example/referee/referee/logic/ltl/Pointer", name := "at", desc := "(I)Lcom/example/referee/referee/logic/ltl/Pointer;" } : Jvm.MethodName) prog_88_method_3_code (2 : Nat) (Option.some (Jvm.ClassFile.FieldType.object "com/example/referee/referee/logic/ltl/Pointer")), Jvm.Cond.code ({ cls := "com/example/referee/referee/logic/ltl/Pointer", name := "address", desc := "()Lcom/example/referee/referee/logic/ltl/Pointer;" } : Jvm.MethodName) prog_88_method_5_code (1 : Nat) (Option.some (Jvm.ClassFile.FieldType.object "com/example/referee/referee/logic/ltl/Pointer"))]
set_option maxRecDepth 65536 in
theorem codes_eq : words1.filter isCode = codes1 := rfl
theorem w_codes : ∀ c ∈ words1.filter isCode, c.before args0 about1 = true := by
  rw [codes_eq]
  intro c hc
  simp only [codes1, List.mem_cons, List.not_mem_nil, or_false] at hc
  rcases hc with rfl | rfl | rfl | rfl | rfl | rfl | rfl | rfl
  · exact w_c0
  · exact w_c1
  · exact w_c2
  · exact w_c3
  · exact w_c4
  · exact w_c5
  · exact w_c6
  · exact w_c7
set_option maxRecDepth 65536 in
theorem w_t1 : (words1.take 24).all (fun c => isCode c || c.before args0 about1) = true := by decide +kernel
set_option maxRecDepth 65536 in
theorem w_t2 : (words1.drop 24).all (fun c => isCode c || c.before args0 about1) = true := by decide +kernel
theorem w_tables : (allAtoms (Jvm.Cond.code x code maxLocals ret :: tables_1)).before args0 about1 = true := by
  rw [allAtoms_all]
  show words1.all (fun c => c.before args0 about1) = true
  refine all_split ?_ w_codes
  rw [← List.take_append_drop 24 words1, List.all_append, w_t1, w_t2]
  rfl
set_option maxRecDepth 65536 in
theorem w_case : (Jvm.Cond.and given_1 narrow_1).before args0 about1 = true := by decide +kernel
theorem w_applies : (headSpec (Jvm.Cond.code x code maxLocals ret :: tables_1) room_1).applies x e0.platform about1 = true :=
  (Spec.applies_iff w_frames).mpr ⟨w_running, w_runnable, w_alone, w_named, w_hears, w_ripe, w_room, w_tables⟩
theorem atStart : AtStart classFile x code maxLocals ret World_1 tables_1 room_1 Calls_1 rest_1 Pre_1 launch0 p0 e0 about1 theMethod args0 below0 :=
  ⟨lists_1, trivial, launch0.admits_env _ _ _, launch0.least_env, fairChoices_fair.cas, fairChoices_fair.clock, w_frames, w_args, w_heap, w_applies, trivial, trivial, w_case⟩
end start1
theorem witness_1 : WitnessClaimed_1 := ⟨start1.p0, start1.e0, start1.about1, start1.theMethod, start1.args0, start1.below0, start1.atStart⟩
end Jvm.Pilot.@@N@@
