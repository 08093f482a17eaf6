import JvmDerived
import JvmDerived.Pilot.@@N@@Statement
import JvmDerived.Pilot.@@N@@Code
set_option linter.unusedVariables false
set_option linter.unusedSimpArgs false
namespace Jvm.Pilot.@@N@@
open Jvm Jvm.ClassFile Sem Op Lib Jvm.Free Jvm.Stand Jvm.LawKit Jvm.RoadKit Bundle Jvm.Pilot.@@N@@.Jvm.D
theorem own_g {Z : State} {a0 : Array Value} (hw : ∀ d ∈ tables_1, d.before a0 Z = true) {i : Nat} {d : Jvm.Cond} (h : tables_1[i]? = some d) : d.before a0 Z = true := hw _ (List.mem_of_getElem? h)
/-- the walk from the frame g in the state T comes to an end of which K holds -/
def own_E (p : Program) (e : Env) (below : List Frame) (K : Outcome → State → Prop) (T : State) (g : JFrame) : Prop := ∃ s₂ o, Steps p.tables e below (T.setTop g) s₂ ∧ s₂.status = .running ∧ Ended s₂ below o ∧ K o s₂
def own_K (s : State) (Q : Option Value → Heap → List Loc → Prop) (kc ks : Nat) (o : Outcome) (U : State) : Prop := ∃ v L, o = .returned v ∧ Q v U.heap L ∧ FrameEnd s o U L kc ks
section OwnKit
variable {p : Program} {l : Launch} {e : Env} {R : Room} {s : State} {m : MethodId} {args : Array Value} {below : List Frame} {meth : Method} {c : Code} {T T' : State} {locs : List Loc} {cells slots : Nat} {K : Outcome → State → Prop} {Z : State} {h h' : Heap}
theorem own_S {g : JFrame} (g' : JFrame) (st : ∀ t, Steps p.tables e below (T'.setTop g') t → Steps p.tables e below (T.setTop g) t) (k : own_E p e below K T' g') : own_E p e below K T g := by
  obtain ⟨s₂, o, h1, h2⟩ := k
  exact ⟨s₂, o, st _ h1, h2⟩
theorem own_s {g : JFrame} {t : State} (g' : JFrame) (st : ∀ t, Steps p.tables e below (T'.setTop g') t → Steps p.tables e below (T.setTop g) t) (k : Steps p.tables e below (T'.setTop g') t) : Steps p.tables e below (T.setTop g) t := st t k
theorem own_ret {Q : Option Value → Heap → List Loc → Prop} {kc ks : Nat} (X : Stand p l e R s m args below meth c T locs cells slots) (hx : p.tables.exec = Jvm.exec) (hlk : meth.locks = false) {pc : Nat} {Ls : Array Slot} {w : Value} {t : FieldType} {i : Instr} {rest : List Value} (hret : meth.sig.returnType = some t) (hn : narrow t w = w)
    (hi : (i = .ireturn ∧ (t = .int ∨ t = .boolean ∨ t = .byte ∨ t = .char ∨ t = .short) ∧ ∃ z, w = .int z) ∨ (i = .lreturn ∧ t = .long ∧ ∃ z, w = .long z) ∨ (i = .dreturn ∧ t = .double ∧ ∃ z, w = .double z) ∨ (i = .freturn ∧ t = .float ∧ ∃ z, w = .float z) ∨ (i = .areturn ∧ t.isReference = true ∧ w.isRef = true))
    (hd : decode c.code pc = .ok (i, 1)) (hQ : Q (some w) T.heap locs) (h1 : cells ≤ kc) (h2 : slots ≤ ks) : own_E p e below (own_K s Q kc ks) T (mkF m pc Ls (w :: rest)) := by
  obtain ⟨fs, hr, hrun, hended, hW, hsame⟩ := X.leave (v := some w) (fun h => by rw [hret] at h; cases h) hlk
  exact ⟨_, _, retOut X hx hret hn hi hd hr, hrun, hended, _, _, rfl, hQ, ⟨_, rfl⟩, hW, hsame.mono h1 h2⟩
theorem own_retN {Q : Option Value → Heap → List Loc → Prop} {kc ks : Nat} (X : Stand p l e R s m args below meth c T locs cells slots) (hx : p.tables.exec = Jvm.exec) (hlk : meth.locks = false) {pc : Nat} {Ls : Array Slot} {z : Int32} {t : FieldType} {rest : List Value} (hret : meth.sig.returnType = some t) (ht : t = .boolean ∨ t = .byte ∨ t = .char ∨ t = .short)
    (hd : decode c.code pc = .ok (.ireturn, 1)) (hQ : Q (some (.int (nar t z))) T.heap locs) (h1 : cells ≤ kc) (h2 : slots ≤ ks) : own_E p e below (own_K s Q kc ks) T (mkF m pc Ls (.int z :: rest)) := by
  obtain ⟨fs, hr, hrun, hended, hW, hsame⟩ := X.leave (v := some (.int (nar t z))) (fun h => by rw [hret] at h; cases h) hlk
  exact ⟨_, _, retN X hx hret ht hd hr, hrun, hended, _, _, rfl, hQ, ⟨_, rfl⟩, hW, hsame.mono h1 h2⟩
theorem own_ret0 {Q : Option Value → Heap → List Loc → Prop} {kc ks : Nat} (X : Stand p l e R s m args below meth c T locs cells slots) (hx : p.tables.exec = Jvm.exec) (hlk : meth.locks = false) {pc : Nat} {Ls : Array Slot} (hret : meth.sig.returnType = none)
    (hd : decode c.code pc = .ok (.return_, 1)) (hQ : Q none T.heap locs) (h1 : cells ≤ kc) (h2 : slots ≤ ks) : own_E p e below (own_K s Q kc ks) T (mkF m pc Ls []) := by
  obtain ⟨fs, hr, hrun, hended, hW, hsame⟩ := X.leave (v := none) (fun _ => rfl) hlk
  exact ⟨_, _, X.returnOut hx hret hd hr, hrun, hended, _, _, rfl, hQ, ⟨_, rfl⟩, hW, hsame.mono h1 h2⟩
theorem own_weak (X : Stand p l e R s m args below meth c T locs cells slots) {locs' : List Loc} {kc ks : Nat} (hl : ∀ y ∈ locs, y ∈ locs' ∨ s.heap.size ≤ y.base) (h1 : cells ≤ kc) (h2 : slots ≤ ks) : Stand p l e R s m args below meth c T locs' kc ks :=
  { X with same := (X.same.sift hl).mono h1 h2 }
theorem Sta_keep {C n d : String} {w : Value} {ws : List Addr} {n0 : Nat} (F : Sta Z h C n d w) (K : Keep h h' ws) (hn : ∀ a ∈ ws, ∀ cell : Cell, h[a]? = some cell → cell.vm.isStatics = false) : Sta Z h' C n d w := by
  obtain ⟨cf, i, k, f, st, cell, h1, h2, h3, h4, h5, h6, h7⟩ := F
  exact ⟨cf, i, k, f, st, cell, h1, h2, h3, h4, K.2.1 st cell h5 (fun q => by have := hn st q cell h5; rw [h6] at this; cases this), h6, h7⟩
theorem Ins_keep {a : Addr} {C : String} {b : Bool} {ws : List Addr} (F : Ins Z h a C b) (K : Keep h h' ws) : Ins Z h' a C b := by
  obtain ⟨cell, cT, h1, h2, h3⟩ := F
  obtain ⟨c', q1, q2, q3, -⟩ := K.2.2 a cell h1
  exact ⟨c', cT, q1, h2, by rw [q2, q3]; exact h3⟩
end OwnKit
theorem own_fieldI {Z : State} {args : Array Value} {t : Term} {C n d : String} {k : Int32} {a : Addr} (ev : t.eval args Z none [] Z = some (.ref a)) (h : (Cond.eq (.field t C n d) (.int k)).value args Z none Z [] = some true) : Fld Z Z.heap a C n d (.int k) := by
  obtain ⟨x, y, h1, h2, k1, k2⟩ := cmp_v (Or.inl h)
  have hy : y = .int k := (Option.some.inj h2).symm
  subst hy
  obtain ⟨z, rfl⟩ : ∃ z, x = .int z := k2
  have hz : z = k := gotT (Cond.eq_ints h1 h2) h
  subst hz
  exact Fld.start ((fld_at ev).symm.trans h1)
theorem own_exa_plain {Z : State} {h : Heap} {a : Addr} {C : String} (F : Exa Z h a C) : ∀ cell : Cell, h[a]? = some cell → cell.vm.isStatics = false := fun cell hc => by
  obtain ⟨c1, k, h1, h2, h3, h4, h5⟩ := F
  cases h1.symm.trans hc
  exact h4
theorem own_allS {P : Addr → Prop} {y : Addr} {L : List Addr} (q : P y) (r : ∀ x ∈ L, P x) : ∀ x ∈ y :: L, P x := fun x z => (List.mem_cons.mp z).elim (fun u => u ▸ q) (r x)
theorem own_law1 (v lo hi : Int32) : (if ¬ (v < lo) ∧ ¬ (hi < v) then (1 : Int32) else (0 : Int32)) = (if v < lo then (0 : Int32) else (if hi < v then (0 : Int32) else (1 : Int32))) := by
  by_cases h1 : v < lo <;> by_cases h2 : hi < v <;> simp [h1, h2]
abbrev own_y0 : MethodName := ⟨"com/example/stickler/stickler/protocol/ApiKey", "serves", "(S)Z"⟩
theorem d1_0 : decode prog_30_method_8_code 0 = .ok (.iload_n 1, 1) := by decide +kernel
theorem d1_1 : decode prog_30_method_8_code 1 = .ok (.aload_n 0, 1) := by decide +kernel
theorem d1_2 : decode prog_30_method_8_code 2 = .ok (.getfield 42, 3) := by decide +kernel
theorem d1_5 : decode prog_30_method_8_code 5 = .ok (.if_icmp .lt 15, 3) := by decide +kernel
theorem d1_8 : decode prog_30_method_8_code 8 = .ok (.iload_n 1, 1) := by decide +kernel
theorem d1_9 : decode prog_30_method_8_code 9 = .ok (.aload_n 0, 1) := by decide +kernel
theorem d1_10 : decode prog_30_method_8_code 10 = .ok (.getfield 45, 3) := by decide +kernel
theorem d1_13 : decode prog_30_method_8_code 13 = .ok (.if_icmp .gt 7, 3) := by decide +kernel
theorem d1_16 : decode prog_30_method_8_code 16 = .ok (.iconst 1, 1) := by decide +kernel
theorem d1_17 : decode prog_30_method_8_code 17 = .ok (.goto 4, 3) := by decide +kernel
theorem d1_20 : decode prog_30_method_8_code 20 = .ok (.iconst 0, 1) := by decide +kernel
theorem d1_21 : decode prog_30_method_8_code 21 = .ok (.ireturn, 1) := by decide +kernel
theorem own_pn_com_example_stickler_stickler_protocol_ApiKey : plainName "com/example/stickler/stickler/protocol/ApiKey" = true := by first | (simp [plainName, overriddenIn]; done) | decide +kernel
theorem own_ef_sv (m : MethodId) (y0 : Addr) (y1 : Int32) : entryFrame m #[(.ref y0), (.int y1)] 2 = mkF m 0 #[rv y0, iv y1] [] := by first | (simp [entryFrame, mkF, argsToLocals, Value.category]; done) | rfl
def own_Qsv (Z : State) (a : Addr) (v1 : Int32) (mn : Int32) (mx : Int32) (h0 : Heap) (n0 : Nat) (v : Option Value) (h : Heap) (L : List Loc) : Prop := v = some (.int (if ¬ (v1 < mn) ∧ ¬ (mx < v1) then (1 : Int32) else (0 : Int32))) ∧ Fr n0 L ∧ h = h0
set_option maxRecDepth 65536 in
set_option maxHeartbeats 40000000 in
theorem own_rmsv (l : Launch) (Z : State) (a0 : Array Value) (hw : ∀ d ∈ tables_1, d.before a0 Z = true) (ws : List Jvm.Cond) (a : Addr) (v1 : Int32) (mn : Int32) (mx : Int32) (h0 : Heap) (n0 : Nat) (Z0 : n0 ≤ h0.size) (P0 : Fld Z h0 a "com/example/stickler/stickler/protocol/ApiKey" "minVersion" "S" (.int mn)) (P1 : Fld Z h0 a "com/example/stickler/stickler/protocol/ApiKey" "maxVersion" "S" (.int mx)) :
    MetFree l own_y0 (head1 (Jvm.Cond.code own_y0 prog_30_method_8_code 2 (some .boolean) :: ws) ({ frames := 0, cells := 0, slots := 0, locals := 0 } : Room)) (fun az Uz => az = #[(.ref a), (.int v1)] ∧ Z.Warmed39 Uz.vm ∧ Uz.heap = h0) (fun _ _ _ _ _ => True) (fun _ U o U' => ∃ v L, o = .returned v ∧ own_Qsv Z a v1 mn mx h0 n0 v U'.heap L ∧ FrameEnd U o U' L ({ frames := 0, cells := 0, slots := 0, locals := 0 } : Room).cells ({ frames := 0, cells := 0, slots := 0, locals := 0 } : Room).slots) := by
  refine MetFree.of_bodySF (plainFor_of_name own_pn_com_example_stickler_stickler_protocol_ApiKey) hisR ?_
  intro p e s m args below meth c s₁ Bd hml0 hP hK
  obtain ⟨rfl, hZ, hh⟩ := hP
  have hx := Bd.exec
  have hby := Bd.bytes
  have hml : c.maxLocals = 2 := hml0
  have hown : s.vm.findClass "com/example/stickler/stickler/protocol/ApiKey" = some m.cls := findClass_of_methodNamed Bd.named
  have hnm := (name_of_methodNamed Bd.named Bd.method).1
  have hlk : meth.locks = false := BodyLoose.notSynchronized Bd
  have hret := Bd.returns
  have X0 : Stand p l e ({ frames := 0, cells := 0, slots := 0, locals := 0 } : Room) s m #[(.ref a), (.int v1)] below meth c s₁ [] 0 0 := Stand.of_body Bd
  have e0 : s₁.heap = h0 := by rw [← hh, Bd.state]; rfl
  have N0 := Fr.nil n0
  show own_E p e below (own_K s (own_Qsv Z a v1 mn mx h0 n0) ({ frames := 0, cells := 0, slots := 0, locals := 0 } : Room).cells ({ frames := 0, cells := 0, slots := 0, locals := 0 } : Room).slots) s₁ (entryFrame m #[(.ref a), (.int v1)] 2)
  refine own_S (mkF m 0 #[rv a, iv v1] []) (fun _ k => castTop (own_ef_sv m (a) (v1)) k) ?_
  refine own_S (mkF m 1 #[rv a, iv v1] [(.int v1)]) (fun _ k => XS.iloadN X0.here hx rfl (hb hby d1_0) rfl k) ?_
  refine own_S (mkF m 2 #[rv a, iv v1] [(.ref a), (.int v1)]) (fun _ k => XS.aloadN X0.here hx rfl (hb hby d1_1) rfl rfl k) ?_
  obtain ⟨T1, X1, e1, st1⟩ := getF X0 hx hZ hown (host := "") (Or.inl (own_g hw (i := 9) rfl)) Via.refl e0 P0 (g := (mkF m 2 #[rv a, iv v1] [(.ref a), (.int v1)])) rfl rfl (hb hby d1_2)
  refine own_S (mkF m 5 #[rv a, iv v1] [(.int mn), (.int v1)]) st1 ?_
  by_cases h1 : v1 < mn
  · -- v1 < mn
    refine own_S (mkF m 20 #[rv a, iv v1] []) (fun _ k => XS.icmpYes X1.here hx rfl (pc0 := 5) (pc' := 20) rfl (hb hby d1_5) rfl (tlt h1).1 (by decide) (by decide) k) ?_
    refine own_S (mkF m 21 #[rv a, iv v1] [(.int 0)]) (fun _ k => XS.iconst X1.here hx rfl (hb hby d1_20) k) ?_
    exact own_retN X1 hx hlk (t := .boolean) hret (by simp) (hb hby d1_21) (by rw [e1]; exact ⟨(by rw [if_neg (fun q => q.1 h1)]; rfl), N0, rfl⟩) (by decide) (by decide)
  · -- not v1 < mn
    refine own_S (mkF m 8 #[rv a, iv v1] []) (fun _ k => XS.icmpNo X1.here hx rfl (hb hby d1_5) rfl (flt h1).1 k) ?_
    refine own_S (mkF m 9 #[rv a, iv v1] [(.int v1)]) (fun _ k => XS.iloadN X1.here hx rfl (hb hby d1_8) rfl k) ?_
    refine own_S (mkF m 10 #[rv a, iv v1] [(.ref a), (.int v1)]) (fun _ k => XS.aloadN X1.here hx rfl (hb hby d1_9) rfl rfl k) ?_
    obtain ⟨T2, X2, e2, st2⟩ := getF X1 hx hZ hown (host := "") (Or.inl (own_g hw (i := 13) rfl)) Via.refl e1 P1 (g := (mkF m 10 #[rv a, iv v1] [(.ref a), (.int v1)])) rfl rfl (hb hby d1_10)
    refine own_S (mkF m 13 #[rv a, iv v1] [(.int mx), (.int v1)]) st2 ?_
    by_cases h2 : mx < v1
    · -- mx < v1
      refine own_S (mkF m 20 #[rv a, iv v1] []) (fun _ k => XS.icmpYes X2.here hx rfl (pc0 := 13) (pc' := 20) rfl (hb hby d1_13) rfl (tlt h2).2.2.1 (by decide) (by decide) k) ?_
      refine own_S (mkF m 21 #[rv a, iv v1] [(.int 0)]) (fun _ k => XS.iconst X2.here hx rfl (hb hby d1_20) k) ?_
      exact own_retN X2 hx hlk (t := .boolean) hret (by simp) (hb hby d1_21) (by rw [e2]; exact ⟨(by rw [if_neg (fun q => q.2 h2)]; rfl), N0, rfl⟩) (by decide) (by decide)
    · -- not mx < v1
      refine own_S (mkF m 16 #[rv a, iv v1] []) (fun _ k => XS.icmpNo X2.here hx rfl (hb hby d1_13) rfl (flt h2).2.2.1 k) ?_
      refine own_S (mkF m 17 #[rv a, iv v1] [(.int 1)]) (fun _ k => XS.iconst X2.here hx rfl (hb hby d1_16) k) ?_
      refine own_S (mkF m 21 #[rv a, iv v1] [(.int 1)]) (fun _ k => XS.goto X2.here hx rfl (pc0 := 17) (pc' := 21) rfl (hb hby d1_17) (by decide) (by decide) k) ?_
      exact own_retN X2 hx hlk (t := .boolean) hret (by simp) (hb hby d1_21) (by rw [e2]; exact ⟨(by rw [if_pos ⟨h1, h2⟩]; rfl), N0, rfl⟩) (by decide) (by decide)
theorem own_pd__S_Z : parseMethodDescriptor "(S)Z" = some ⟨[.short], (some .boolean)⟩ := by decide +kernel
theorem own_pn_com_example_stickler_stickler_protocol_ApiKeyServesPinLaw : plainName "com/example/stickler/stickler/protocol/ApiKeyServesPinLaw" = true := by first | (simp [plainName, overriddenIn]; done) | decide +kernel
theorem own_ef_law (m : MethodId) (y0 : Int32) (y1 : Int32) : entryFrame m #[(.int y0), (.int y1)] maxLocals = mkF m 0 #[iv y0, iv y1, .unset, .unset, .unset, .unset, .unset, .unset] [] := by first | (simp [entryFrame, mkF, argsToLocals, Value.category, maxLocals]; done) | rfl
def own_Qlaw (Z : State) (se : Int32) (vi : Int32) (b0 : Addr) (b1 : Addr) (b2 : Addr) (b3 : Addr) (b4 : Addr) (h0 : Heap) (n0 : Nat) (v : Option Value) (h : Heap) (L : List Loc) : Prop := v = some (.int 1) ∧ Fr n0 L ∧ True
set_option maxRecDepth 65536 in
set_option maxHeartbeats 40000000 in
theorem own_rmlaw (l : Launch) (Z : State) (a0 : Array Value) (hw : ∀ d ∈ tables_1, d.before a0 Z = true) (ws : List Jvm.Cond) (se : Int32) (vi : Int32) (b0 : Addr) (b1 : Addr) (b2 : Addr) (b3 : Addr) (b4 : Addr) (h0 : Heap) (n0 : Nat) (Z0 : n0 ≤ h0.size) (P0 : Sta Z h0 "com/example/stickler/stickler/protocol/ApiKey" "METADATA" "Lcom/example/stickler/stickler/protocol/ApiKey;" (.ref b0)) (P1 : Exa Z h0 b0 "com/example/stickler/stickler/protocol/ApiKey") (P2 : Fld Z h0 b0 "com/example/stickler/stickler/protocol/ApiKey" "minVersion" "S" (.int (12 : Int32))) (P3 : Fld Z h0 b0 "com/example/stickler/stickler/protocol/ApiKey" "maxVersion" "S" (.int (13 : Int32))) (P4 : Sta Z h0 "com/example/stickler/stickler/protocol/ApiKey" "OFFSET_FETCH" "Lcom/example/stickler/stickler/protocol/ApiKey;" (.ref b1)) (P5 : Exa Z h0 b1 "com/example/stickler/stickler/protocol/ApiKey") (P6 : Fld Z h0 b1 "com/example/stickler/stickler/protocol/ApiKey" "minVersion" "S" (.int (9 : Int32))) (P7 : Fld Z h0 b1 "com/example/stickler/stickler/protocol/ApiKey" "maxVersion" "S" (.int (9 : Int32))) (P8 : Sta Z h0 "com/example/stickler/stickler/protocol/ApiKey" "FIND_COORDINATOR" "Lcom/example/stickler/stickler/protocol/ApiKey;" (.ref b2)) (P9 : Exa Z h0 b2 "com/example/stickler/stickler/protocol/ApiKey") (P10 : Fld Z h0 b2 "com/example/stickler/stickler/protocol/ApiKey" "minVersion" "S" (.int (4 : Int32))) (P11 : Fld Z h0 b2 "com/example/stickler/stickler/protocol/ApiKey" "maxVersion" "S" (.int (6 : Int32))) (P12 : Sta Z h0 "com/example/stickler/stickler/protocol/ApiKey" "API_VERSIONS" "Lcom/example/stickler/stickler/protocol/ApiKey;" (.ref b3)) (P13 : Exa Z h0 b3 "com/example/stickler/stickler/protocol/ApiKey") (P14 : Fld Z h0 b3 "com/example/stickler/stickler/protocol/ApiKey" "minVersion" "S" (.int (0 : Int32))) (P15 : Fld Z h0 b3 "com/example/stickler/stickler/protocol/ApiKey" "maxVersion" "S" (.int (4 : Int32))) (P16 : Sta Z h0 "com/example/stickler/stickler/protocol/ApiKey" "CONSUMER_GROUP_HEARTBEAT" "Lcom/example/stickler/stickler/protocol/ApiKey;" (.ref b4)) (P17 : Exa Z h0 b4 "com/example/stickler/stickler/protocol/ApiKey") (P18 : Fld Z h0 b4 "com/example/stickler/stickler/protocol/ApiKey" "minVersion" "S" (.int (0 : Int32))) (P19 : Fld Z h0 b4 "com/example/stickler/stickler/protocol/ApiKey" "maxVersion" "S" (.int (1 : Int32))) :
    MetFree l x (head1 (Jvm.Cond.code x code maxLocals ret :: ws) room_1) (fun az Uz => az = #[(.int se), (.int vi)] ∧ Z.Warmed39 Uz.vm ∧ Uz.heap = h0) (fun _ _ _ _ _ => True) (fun _ U o U' => ∃ v L, o = .returned v ∧ own_Qlaw Z se vi b0 b1 b2 b3 b4 h0 n0 v U'.heap L ∧ FrameEnd U o U' L room_1.cells room_1.slots) := by
  refine MetFree.of_bodySF (plainFor_of_name own_pn_com_example_stickler_stickler_protocol_ApiKeyServesPinLaw) hisR ?_
  intro p e s m args below meth c s₁ Bd hml0 hP hK
  obtain ⟨rfl, hZ, hh⟩ := hP
  have hx := Bd.exec
  have hby := Bd.bytes
  have hml : c.maxLocals = 8 := hml0
  have hown : s.vm.findClass "com/example/stickler/stickler/protocol/ApiKeyServesPinLaw" = some m.cls := findClass_of_methodNamed Bd.named
  have hnm := (name_of_methodNamed Bd.named Bd.method).1
  have hlk : meth.locks = false := BodyLoose.notSynchronized Bd
  have hret := Bd.returns
  have X0 : Stand p l e room_1 s m #[(.int se), (.int vi)] below meth c s₁ [] 0 0 := Stand.of_body Bd
  have e0 : s₁.heap = h0 := by rw [← hh, Bd.state]; rfl
  have N0 := Fr.nil n0
  show own_E p e below (own_K s (own_Qlaw Z se vi b0 b1 b2 b3 b4 h0 n0) room_1.cells room_1.slots) s₁ (entryFrame m #[(.int se), (.int vi)] maxLocals)
  refine own_S (mkF m 0 #[iv se, iv vi, .unset, .unset, .unset, .unset, .unset, .unset] []) (fun _ k => castTop (own_ef_law m (se) (vi)) k) ?_
  refine own_S (mkF m 1 #[iv se, iv vi, .unset, .unset, .unset, .unset, .unset, .unset] [(.int se)]) (fun _ k => XS.iloadN X0.here hx rfl (hb hby at_0) rfl k) ?_
  refine own_S (mkF m 3 #[iv se, iv vi, .unset, .unset, .unset, .unset, .unset, .unset] [(.int 2147483647), (.int se)]) (fun _ k => X0.ldcInt hx hown (mvT hZ (own_g hw (i := 0) rfl)) (g := (mkF m 1 #[iv se, iv vi, .unset, .unset, .unset, .unset, .unset, .unset] [(.int se)])) rfl (hb hby at_1) _ k) ?_
  refine own_S (mkF m 4 #[iv se, iv vi, .unset, .unset, .unset, .unset, .unset, .unset] [(.int (se &&& (2147483647 : Int32)))]) (fun _ k => XS.iand X0.here hx rfl (hb hby at_3) rfl k) ?_
  refine own_S (mkF m 5 #[iv se, iv vi, .unset, .unset, .unset, .unset, .unset, .unset] [(.int 5), (.int (se &&& (2147483647 : Int32)))]) (fun _ k => XS.iconst X0.here hx rfl (hb hby at_4) k) ?_
  refine own_S (mkF m 6 #[iv se, iv vi, .unset, .unset, .unset, .unset, .unset, .unset] [(.int ((se &&& (2147483647 : Int32)) % (5 : Int32)))]) (fun _ k => iremM X0 hx rfl (hb hby at_5) rfl (by decide) k) ?_
  refine own_S (mkF m 7 #[iv se, iv vi, iv ((se &&& (2147483647 : Int32)) % (5 : Int32)), .unset, .unset, .unset, .unset, .unset] []) (fun _ k => XS.istoreN X0.here hx rfl (hb hby at_6) rfl (l' := #[iv se, iv vi, iv ((se &&& (2147483647 : Int32)) % (5 : Int32)), .unset, .unset, .unset, .unset, .unset]) rfl k) ?_
  obtain ⟨kk, h_kk⟩ : ∃ z : Int32, z = ((se &&& (2147483647 : Int32)) % (5 : Int32)) := ⟨_, rfl⟩
  refine own_S (T' := s₁) (mkF m 7 #[iv se, iv vi, iv kk, .unset, .unset, .unset, .unset, .unset] []) (fun _ k => by subst h_kk; exact k) ?_
  refine own_S (mkF m 8 #[iv se, iv vi, iv kk, .unset, .unset, .unset, .unset, .unset] [(.int vi)]) (fun _ k => XS.iloadN X0.here hx rfl (hb hby at_7) rfl k) ?_
  refine own_S (mkF m 9 #[iv se, iv vi, iv kk, .unset, .unset, .unset, .unset, .unset] [(.int ((vi).toInt16.toInt32))]) (fun _ k => XS.i2s X0.here hx rfl (hb hby at_8) rfl k) ?_
  refine own_S (mkF m 10 #[iv se, iv vi, iv kk, iv ((vi).toInt16.toInt32), .unset, .unset, .unset, .unset] []) (fun _ k => XS.istoreN X0.here hx rfl (hb hby at_9) rfl (l' := #[iv se, iv vi, iv kk, iv ((vi).toInt16.toInt32), .unset, .unset, .unset, .unset]) rfl k) ?_
  obtain ⟨vr, h_vr⟩ : ∃ z : Int32, z = ((vi).toInt16.toInt32) := ⟨_, rfl⟩
  refine own_S (T' := s₁) (mkF m 10 #[iv se, iv vi, iv kk, iv vr, .unset, .unset, .unset, .unset] []) (fun _ k => by subst h_vr; exact k) ?_
  refine own_S (mkF m 11 #[iv se, iv vi, iv kk, iv vr, .unset, .unset, .unset, .unset] [(.int kk)]) (fun _ k => XS.iloadN X0.here hx rfl (hb hby at_10) rfl k) ?_
  by_cases hk0 : kk = (0 : Int32)
  · -- kk = (0 : Int32)
    refine own_S (mkF m 14 #[iv se, iv vi, iv kk, iv vr, .unset, .unset, .unset, .unset] []) (fun _ k => XS.ifNo X0.here hx rfl (hb hby at_11) rfl ((if0 _ _).trans (teq hk0).2) k) ?_
    obtain ⟨T1, X1, e1, st1⟩ := getS (host := "") X0 hx hZ hown (own_g hw (i := 1) rfl) Via.refl e0 P0 (g := (mkF m 14 #[iv se, iv vi, iv kk, iv vr, .unset, .unset, .unset, .unset] [])) rfl (hb hby at_14)
    refine own_S (mkF m 17 #[iv se, iv vi, iv kk, iv vr, .unset, .unset, .unset, .unset] [(.ref b0)]) st1 ?_
    refine own_S (mkF m 19 #[iv se, iv vi, iv kk, iv vr, rv b0, .unset, .unset, .unset] []) (fun _ k => XS.astore X1.here hx rfl (hb hby at_17) rfl rfl (l' := #[iv se, iv vi, iv kk, iv vr, rv b0, .unset, .unset, .unset]) rfl k) ?_
    refine own_S (mkF m 21 #[iv se, iv vi, iv kk, iv vr, rv b0, .unset, .unset, .unset] [(.int 12)]) (fun _ k => XS.bipush X1.here hx rfl (hb hby at_19) k) ?_
    refine own_S (mkF m 23 #[iv se, iv vi, iv kk, iv vr, rv b0, .val (.int 12), .unset, .unset] []) (fun _ k => XS.istore X1.here hx rfl (hb hby at_21) rfl (l' := #[iv se, iv vi, iv kk, iv vr, rv b0, .val (.int 12), .unset, .unset]) rfl k) ?_
    refine own_S (mkF m 25 #[iv se, iv vi, iv kk, iv vr, rv b0, .val (.int 12), .unset, .unset] [(.int 13)]) (fun _ k => XS.bipush X1.here hx rfl (hb hby at_23) k) ?_
    refine own_S (mkF m 27 #[iv se, iv vi, iv kk, iv vr, rv b0, .val (.int 12), .val (.int 13), .unset] []) (fun _ k => XS.istore X1.here hx rfl (hb hby at_25) rfl (l' := #[iv se, iv vi, iv kk, iv vr, rv b0, .val (.int 12), .val (.int 13), .unset]) rfl k) ?_
    refine own_S (mkF m 101 #[iv se, iv vi, iv kk, iv vr, rv b0, .val (.int 12), .val (.int 13), .unset] []) (fun _ k => XS.goto X1.here hx rfl (pc0 := 27) (pc' := 101) rfl (hb hby at_27) (by decide) (by decide) k) ?_
    refine own_S (mkF m 102 #[iv se, iv vi, iv kk, iv vr, rv b0, .val (.int 12), .val (.int 13), .unset] [(.int vr)]) (fun _ k => XS.iloadN X1.here hx rfl (hb hby at_101) rfl k) ?_
    refine own_S (mkF m 104 #[iv se, iv vi, iv kk, iv vr, rv b0, .val (.int 12), .val (.int 13), .unset] [(.int 12), (.int vr)]) (fun _ k => XS.iload X1.here hx rfl (hb hby at_102) rfl k) ?_
    obtain ⟨xx, h_xx⟩ : ∃ z : Int32, z = (if vr < (12 : Int32) then (0 : Int32) else (if (13 : Int32) < vr then (0 : Int32) else (1 : Int32))) := ⟨_, rfl⟩
    refine own_S (T' := T1) (mkF m 118 #[iv se, iv vi, iv kk, iv vr, rv b0, .val (.int 12), .val (.int 13), .unset] [(.int xx)]) (fun _ k => ?_) ?_
    ·
      by_cases hj2 : vr < (12 : Int32)
      ·
        refine own_s (mkF m 117 #[iv se, iv vi, iv kk, iv vr, rv b0, .val (.int 12), .val (.int 13), .unset] []) (fun _ k => XS.icmpYes X1.here hx rfl (pc0 := 104) (pc' := 117) rfl (hb hby at_104) rfl (tlt hj2).1 (by decide) (by decide) k) ?_
        refine own_s (mkF m 118 #[iv se, iv vi, iv kk, iv vr, rv b0, .val (.int 12), .val (.int 13), .unset] [(.int 0)]) (fun _ k => XS.iconst X1.here hx rfl (hb hby at_117) k) ?_
        rw [show xx = (0 : Int32) from by rw [h_xx, if_pos hj2]] at k
        exact k
      ·
        refine own_s (mkF m 107 #[iv se, iv vi, iv kk, iv vr, rv b0, .val (.int 12), .val (.int 13), .unset] []) (fun _ k => XS.icmpNo X1.here hx rfl (hb hby at_104) rfl (flt hj2).1 k) ?_
        refine own_s (mkF m 108 #[iv se, iv vi, iv kk, iv vr, rv b0, .val (.int 12), .val (.int 13), .unset] [(.int vr)]) (fun _ k => XS.iloadN X1.here hx rfl (hb hby at_107) rfl k) ?_
        refine own_s (mkF m 110 #[iv se, iv vi, iv kk, iv vr, rv b0, .val (.int 12), .val (.int 13), .unset] [(.int 13), (.int vr)]) (fun _ k => XS.iload X1.here hx rfl (hb hby at_108) rfl k) ?_
        by_cases hj3 : (13 : Int32) < vr
        ·
          refine own_s (mkF m 117 #[iv se, iv vi, iv kk, iv vr, rv b0, .val (.int 12), .val (.int 13), .unset] []) (fun _ k => XS.icmpYes X1.here hx rfl (pc0 := 110) (pc' := 117) rfl (hb hby at_110) rfl (tlt hj3).2.2.1 (by decide) (by decide) k) ?_
          refine own_s (mkF m 118 #[iv se, iv vi, iv kk, iv vr, rv b0, .val (.int 12), .val (.int 13), .unset] [(.int 0)]) (fun _ k => XS.iconst X1.here hx rfl (hb hby at_117) k) ?_
          rw [show xx = (0 : Int32) from by rw [h_xx, if_neg hj2, if_pos hj3]] at k
          exact k
        ·
          refine own_s (mkF m 113 #[iv se, iv vi, iv kk, iv vr, rv b0, .val (.int 12), .val (.int 13), .unset] []) (fun _ k => XS.icmpNo X1.here hx rfl (hb hby at_110) rfl (flt hj3).2.2.1 k) ?_
          refine own_s (mkF m 114 #[iv se, iv vi, iv kk, iv vr, rv b0, .val (.int 12), .val (.int 13), .unset] [(.int 1)]) (fun _ k => XS.iconst X1.here hx rfl (hb hby at_113) k) ?_
          refine own_s (mkF m 118 #[iv se, iv vi, iv kk, iv vr, rv b0, .val (.int 12), .val (.int 13), .unset] [(.int 1)]) (fun _ k => XS.goto X1.here hx rfl (pc0 := 114) (pc' := 118) rfl (hb hby at_114) (by decide) (by decide) k) ?_
          rw [show xx = (1 : Int32) from by rw [h_xx, if_neg hj2, if_neg hj3]] at k
          exact k
    refine own_S (mkF m 120 #[iv se, iv vi, iv kk, iv vr, rv b0, .val (.int 12), .val (.int 13), iv xx] []) (fun _ k => XS.istore X1.here hx rfl (hb hby at_118) rfl (l' := #[iv se, iv vi, iv kk, iv vr, rv b0, .val (.int 12), .val (.int 13), iv xx]) rfl k) ?_
    refine own_S (mkF m 122 #[iv se, iv vi, iv kk, iv vr, rv b0, .val (.int 12), .val (.int 13), iv xx] [(.ref b0)]) (fun _ k => XS.aload X1.here hx rfl (hb hby at_120) rfl rfl k) ?_
    refine own_S (mkF m 123 #[iv se, iv vi, iv kk, iv vr, rv b0, .val (.int 12), .val (.int 13), iv xx] [(.int vr), (.ref b0)]) (fun _ k => XS.iloadN X1.here hx rfl (hb hby at_122) rfl k) ?_
    obtain ⟨cq4, kq4, q4a, q4b, q4c⟩ := isOf hZ e1 P1
    obtain ⟨_, _, ⟨T4, L4, k4, n4⟩, -, X4, ⟨Lc4, hQ4, l4, y4, z4⟩, st4⟩ := X1.virtualBack hx (y := own_y0) (z := own_y0) hown (mvT hZ (own_g hw (i := 4) rfl)) (mvT hZ (own_g hw (i := 5) rfl)) (notFace_of_selects (args := #[]) (mvT hZ (own_g hw (i := 7) rfl))) (mvT hZ (own_g hw (i := 7) rfl)) (mvT hZ (own_g hw (i := 6) rfl)) (by decide) (backOf (W := 0) (own_rmsv l Z a0 hw [] (b0) (vr) ((12 : Int32)) ((13 : Int32)) h0 n0 Z0 P2 P3) hZ (own_g hw (i := 8) rfl) (own_g hw (i := 2) rfl) (by decide) (by decide)) q4a q4c (g := (mkF m 123 #[iv se, iv vi, iv kk, iv vr, rv b0, .val (.int 12), .val (.int 13), iv xx] [(.int vr), (.ref b0)])) rfl (by rw [hml]; rfl) (Steps.refl _) (argsL := [(.int vr)]) (rest := []) (lenOf own_pd__S_Z rfl) rfl (by show 2 * 0 + _ ≤ _; exact Nat.le_of_eq rfl) (hb hby at_123) (fun _ _ => ⟨rfl, e1, (by decide : 0 + 0 ≤ _), (by decide : 0 + 0 ≤ _)⟩)
    dsimp only [Pt.U, Pt.locs, Pt.cells, Pt.slots] at X4 l4 y4 z4 st4 hQ4
    subst l4 y4 z4
    obtain ⟨rfl, N4q, e4⟩ := hQ4
    have N4 := Fr.app N0 N4q
    refine own_S (mkF m 126 #[iv se, iv vi, iv kk, iv vr, rv b0, .val (.int 12), .val (.int 13), iv xx] [(.int (if ¬ (vr < (12 : Int32)) ∧ ¬ ((13 : Int32) < vr) then (1 : Int32) else (0 : Int32)))]) (fun _ k => st4.trans k) ?_
    refine own_S (mkF m 128 #[iv se, iv vi, iv kk, iv vr, rv b0, .val (.int 12), .val (.int 13), iv xx] [(.int xx), (.int (if ¬ (vr < (12 : Int32)) ∧ ¬ ((13 : Int32) < vr) then (1 : Int32) else (0 : Int32)))]) (fun _ k => XS.iload X4.here hx rfl (hb hby at_126) rfl k) ?_
    have hc5 : (if ¬ (vr < (12 : Int32)) ∧ ¬ ((13 : Int32) < vr) then (1 : Int32) else (0 : Int32)) = xx := (by rw [h_xx]; exact own_law1 _ _ _)
    refine own_S (mkF m 131 #[iv se, iv vi, iv kk, iv vr, rv b0, .val (.int 12), .val (.int 13), iv xx] []) (fun _ k => XS.icmpNo X4.here hx rfl (hb hby at_128) rfl (teq hc5).2 k) ?_
    refine own_S (mkF m 132 #[iv se, iv vi, iv kk, iv vr, rv b0, .val (.int 12), .val (.int 13), iv xx] [(.int 1)]) (fun _ k => XS.iconst X4.here hx rfl (hb hby at_131) k) ?_
    refine own_S (mkF m 136 #[iv se, iv vi, iv kk, iv vr, rv b0, .val (.int 12), .val (.int 13), iv xx] [(.int 1)]) (fun _ k => XS.goto X4.here hx rfl (pc0 := 132) (pc' := 136) rfl (hb hby at_132) (by decide) (by decide) k) ?_
    exact own_retN X4 hx hlk (t := .boolean) hret (by simp) (hb hby at_136) (by rw [e4]; exact ⟨rfl, N4, trivial⟩) (by decide) (by decide)
  · -- not kk = (0 : Int32)
    refine own_S (mkF m 30 #[iv se, iv vi, iv kk, iv vr, .unset, .unset, .unset, .unset] []) (fun _ k => XS.ifYes X0.here hx rfl (pc0 := 11) (pc' := 30) rfl (hb hby at_11) rfl ((if0 _ _).trans (feq hk0).2) (by decide) (by decide) k) ?_
    refine own_S (mkF m 31 #[iv se, iv vi, iv kk, iv vr, .unset, .unset, .unset, .unset] [(.int kk)]) (fun _ k => XS.iloadN X0.here hx rfl (hb hby at_30) rfl k) ?_
    refine own_S (mkF m 32 #[iv se, iv vi, iv kk, iv vr, .unset, .unset, .unset, .unset] [(.int 1), (.int kk)]) (fun _ k => XS.iconst X0.here hx rfl (hb hby at_31) k) ?_
    by_cases hk1 : kk = (1 : Int32)
    · -- kk = (1 : Int32)
      refine own_S (mkF m 35 #[iv se, iv vi, iv kk, iv vr, .unset, .unset, .unset, .unset] []) (fun _ k => XS.icmpNo X0.here hx rfl (hb hby at_32) rfl (teq hk1).2 k) ?_
      obtain ⟨T6, X6, e6, st6⟩ := getS (host := "") X0 hx hZ hown (own_g hw (i := 17) rfl) Via.refl e0 P4 (g := (mkF m 35 #[iv se, iv vi, iv kk, iv vr, .unset, .unset, .unset, .unset] [])) rfl (hb hby at_35)
      refine own_S (mkF m 38 #[iv se, iv vi, iv kk, iv vr, .unset, .unset, .unset, .unset] [(.ref b1)]) st6 ?_
      refine own_S (mkF m 40 #[iv se, iv vi, iv kk, iv vr, rv b1, .unset, .unset, .unset] []) (fun _ k => XS.astore X6.here hx rfl (hb hby at_38) rfl rfl (l' := #[iv se, iv vi, iv kk, iv vr, rv b1, .unset, .unset, .unset]) rfl k) ?_
      refine own_S (mkF m 42 #[iv se, iv vi, iv kk, iv vr, rv b1, .unset, .unset, .unset] [(.int 9)]) (fun _ k => XS.bipush X6.here hx rfl (hb hby at_40) k) ?_
      refine own_S (mkF m 44 #[iv se, iv vi, iv kk, iv vr, rv b1, .val (.int 9), .unset, .unset] []) (fun _ k => XS.istore X6.here hx rfl (hb hby at_42) rfl (l' := #[iv se, iv vi, iv kk, iv vr, rv b1, .val (.int 9), .unset, .unset]) rfl k) ?_
      refine own_S (mkF m 46 #[iv se, iv vi, iv kk, iv vr, rv b1, .val (.int 9), .unset, .unset] [(.int 9)]) (fun _ k => XS.bipush X6.here hx rfl (hb hby at_44) k) ?_
      refine own_S (mkF m 48 #[iv se, iv vi, iv kk, iv vr, rv b1, .val (.int 9), .val (.int 9), .unset] []) (fun _ k => XS.istore X6.here hx rfl (hb hby at_46) rfl (l' := #[iv se, iv vi, iv kk, iv vr, rv b1, .val (.int 9), .val (.int 9), .unset]) rfl k) ?_
      refine own_S (mkF m 101 #[iv se, iv vi, iv kk, iv vr, rv b1, .val (.int 9), .val (.int 9), .unset] []) (fun _ k => XS.goto X6.here hx rfl (pc0 := 48) (pc' := 101) rfl (hb hby at_48) (by decide) (by decide) k) ?_
      refine own_S (mkF m 102 #[iv se, iv vi, iv kk, iv vr, rv b1, .val (.int 9), .val (.int 9), .unset] [(.int vr)]) (fun _ k => XS.iloadN X6.here hx rfl (hb hby at_101) rfl k) ?_
      refine own_S (mkF m 104 #[iv se, iv vi, iv kk, iv vr, rv b1, .val (.int 9), .val (.int 9), .unset] [(.int 9), (.int vr)]) (fun _ k => XS.iload X6.here hx rfl (hb hby at_102) rfl k) ?_
      obtain ⟨xx, h_xx⟩ : ∃ z : Int32, z = (if vr < (9 : Int32) then (0 : Int32) else (if (9 : Int32) < vr then (0 : Int32) else (1 : Int32))) := ⟨_, rfl⟩
      refine own_S (T' := T6) (mkF m 118 #[iv se, iv vi, iv kk, iv vr, rv b1, .val (.int 9), .val (.int 9), .unset] [(.int xx)]) (fun _ k => ?_) ?_
      ·
        by_cases hj7 : vr < (9 : Int32)
        ·
          refine own_s (mkF m 117 #[iv se, iv vi, iv kk, iv vr, rv b1, .val (.int 9), .val (.int 9), .unset] []) (fun _ k => XS.icmpYes X6.here hx rfl (pc0 := 104) (pc' := 117) rfl (hb hby at_104) rfl (tlt hj7).1 (by decide) (by decide) k) ?_
          refine own_s (mkF m 118 #[iv se, iv vi, iv kk, iv vr, rv b1, .val (.int 9), .val (.int 9), .unset] [(.int 0)]) (fun _ k => XS.iconst X6.here hx rfl (hb hby at_117) k) ?_
          rw [show xx = (0 : Int32) from by rw [h_xx, if_pos hj7]] at k
          exact k
        ·
          refine own_s (mkF m 107 #[iv se, iv vi, iv kk, iv vr, rv b1, .val (.int 9), .val (.int 9), .unset] []) (fun _ k => XS.icmpNo X6.here hx rfl (hb hby at_104) rfl (flt hj7).1 k) ?_
          refine own_s (mkF m 108 #[iv se, iv vi, iv kk, iv vr, rv b1, .val (.int 9), .val (.int 9), .unset] [(.int vr)]) (fun _ k => XS.iloadN X6.here hx rfl (hb hby at_107) rfl k) ?_
          refine own_s (mkF m 110 #[iv se, iv vi, iv kk, iv vr, rv b1, .val (.int 9), .val (.int 9), .unset] [(.int 9), (.int vr)]) (fun _ k => XS.iload X6.here hx rfl (hb hby at_108) rfl k) ?_
          by_cases hj8 : (9 : Int32) < vr
          ·
            refine own_s (mkF m 117 #[iv se, iv vi, iv kk, iv vr, rv b1, .val (.int 9), .val (.int 9), .unset] []) (fun _ k => XS.icmpYes X6.here hx rfl (pc0 := 110) (pc' := 117) rfl (hb hby at_110) rfl (tlt hj8).2.2.1 (by decide) (by decide) k) ?_
            refine own_s (mkF m 118 #[iv se, iv vi, iv kk, iv vr, rv b1, .val (.int 9), .val (.int 9), .unset] [(.int 0)]) (fun _ k => XS.iconst X6.here hx rfl (hb hby at_117) k) ?_
            rw [show xx = (0 : Int32) from by rw [h_xx, if_neg hj7, if_pos hj8]] at k
            exact k
          ·
            refine own_s (mkF m 113 #[iv se, iv vi, iv kk, iv vr, rv b1, .val (.int 9), .val (.int 9), .unset] []) (fun _ k => XS.icmpNo X6.here hx rfl (hb hby at_110) rfl (flt hj8).2.2.1 k) ?_
            refine own_s (mkF m 114 #[iv se, iv vi, iv kk, iv vr, rv b1, .val (.int 9), .val (.int 9), .unset] [(.int 1)]) (fun _ k => XS.iconst X6.here hx rfl (hb hby at_113) k) ?_
            refine own_s (mkF m 118 #[iv se, iv vi, iv kk, iv vr, rv b1, .val (.int 9), .val (.int 9), .unset] [(.int 1)]) (fun _ k => XS.goto X6.here hx rfl (pc0 := 114) (pc' := 118) rfl (hb hby at_114) (by decide) (by decide) k) ?_
            rw [show xx = (1 : Int32) from by rw [h_xx, if_neg hj7, if_neg hj8]] at k
            exact k
      refine own_S (mkF m 120 #[iv se, iv vi, iv kk, iv vr, rv b1, .val (.int 9), .val (.int 9), iv xx] []) (fun _ k => XS.istore X6.here hx rfl (hb hby at_118) rfl (l' := #[iv se, iv vi, iv kk, iv vr, rv b1, .val (.int 9), .val (.int 9), iv xx]) rfl k) ?_
      refine own_S (mkF m 122 #[iv se, iv vi, iv kk, iv vr, rv b1, .val (.int 9), .val (.int 9), iv xx] [(.ref b1)]) (fun _ k => XS.aload X6.here hx rfl (hb hby at_120) rfl rfl k) ?_
      refine own_S (mkF m 123 #[iv se, iv vi, iv kk, iv vr, rv b1, .val (.int 9), .val (.int 9), iv xx] [(.int vr), (.ref b1)]) (fun _ k => XS.iloadN X6.here hx rfl (hb hby at_122) rfl k) ?_
      obtain ⟨cq9, kq9, q9a, q9b, q9c⟩ := isOf hZ e6 P5
      obtain ⟨_, _, ⟨T9, L9, k9, n9⟩, -, X9, ⟨Lc9, hQ9, l9, y9, z9⟩, st9⟩ := X6.virtualBack hx (y := own_y0) (z := own_y0) hown (mvT hZ (own_g hw (i := 4) rfl)) (mvT hZ (own_g hw (i := 5) rfl)) (notFace_of_selects (args := #[]) (mvT hZ (own_g hw (i := 7) rfl))) (mvT hZ (own_g hw (i := 7) rfl)) (mvT hZ (own_g hw (i := 6) rfl)) (by decide) (backOf (W := 0) (own_rmsv l Z a0 hw [] (b1) (vr) ((9 : Int32)) ((9 : Int32)) h0 n0 Z0 P6 P7) hZ (own_g hw (i := 8) rfl) (own_g hw (i := 2) rfl) (by decide) (by decide)) q9a q9c (g := (mkF m 123 #[iv se, iv vi, iv kk, iv vr, rv b1, .val (.int 9), .val (.int 9), iv xx] [(.int vr), (.ref b1)])) rfl (by rw [hml]; rfl) (Steps.refl _) (argsL := [(.int vr)]) (rest := []) (lenOf own_pd__S_Z rfl) rfl (by show 2 * 0 + _ ≤ _; exact Nat.le_of_eq rfl) (hb hby at_123) (fun _ _ => ⟨rfl, e6, (by decide : 0 + 0 ≤ _), (by decide : 0 + 0 ≤ _)⟩)
      dsimp only [Pt.U, Pt.locs, Pt.cells, Pt.slots] at X9 l9 y9 z9 st9 hQ9
      subst l9 y9 z9
      obtain ⟨rfl, N9q, e9⟩ := hQ9
      have N9 := Fr.app N0 N9q
      refine own_S (mkF m 126 #[iv se, iv vi, iv kk, iv vr, rv b1, .val (.int 9), .val (.int 9), iv xx] [(.int (if ¬ (vr < (9 : Int32)) ∧ ¬ ((9 : Int32) < vr) then (1 : Int32) else (0 : Int32)))]) (fun _ k => st9.trans k) ?_
      refine own_S (mkF m 128 #[iv se, iv vi, iv kk, iv vr, rv b1, .val (.int 9), .val (.int 9), iv xx] [(.int xx), (.int (if ¬ (vr < (9 : Int32)) ∧ ¬ ((9 : Int32) < vr) then (1 : Int32) else (0 : Int32)))]) (fun _ k => XS.iload X9.here hx rfl (hb hby at_126) rfl k) ?_
      have hc10 : (if ¬ (vr < (9 : Int32)) ∧ ¬ ((9 : Int32) < vr) then (1 : Int32) else (0 : Int32)) = xx := (by rw [h_xx]; exact own_law1 _ _ _)
      refine own_S (mkF m 131 #[iv se, iv vi, iv kk, iv vr, rv b1, .val (.int 9), .val (.int 9), iv xx] []) (fun _ k => XS.icmpNo X9.here hx rfl (hb hby at_128) rfl (teq hc10).2 k) ?_
      refine own_S (mkF m 132 #[iv se, iv vi, iv kk, iv vr, rv b1, .val (.int 9), .val (.int 9), iv xx] [(.int 1)]) (fun _ k => XS.iconst X9.here hx rfl (hb hby at_131) k) ?_
      refine own_S (mkF m 136 #[iv se, iv vi, iv kk, iv vr, rv b1, .val (.int 9), .val (.int 9), iv xx] [(.int 1)]) (fun _ k => XS.goto X9.here hx rfl (pc0 := 132) (pc' := 136) rfl (hb hby at_132) (by decide) (by decide) k) ?_
      exact own_retN X9 hx hlk (t := .boolean) hret (by simp) (hb hby at_136) (by rw [e9]; exact ⟨rfl, N9, trivial⟩) (by decide) (by decide)
    · -- not kk = (1 : Int32)
      refine own_S (mkF m 51 #[iv se, iv vi, iv kk, iv vr, .unset, .unset, .unset, .unset] []) (fun _ k => XS.icmpYes X0.here hx rfl (pc0 := 32) (pc' := 51) rfl (hb hby at_32) rfl (feq hk1).2 (by decide) (by decide) k) ?_
      refine own_S (mkF m 52 #[iv se, iv vi, iv kk, iv vr, .unset, .unset, .unset, .unset] [(.int kk)]) (fun _ k => XS.iloadN X0.here hx rfl (hb hby at_51) rfl k) ?_
      refine own_S (mkF m 53 #[iv se, iv vi, iv kk, iv vr, .unset, .unset, .unset, .unset] [(.int 2), (.int kk)]) (fun _ k => XS.iconst X0.here hx rfl (hb hby at_52) k) ?_
      by_cases hk2 : kk = (2 : Int32)
      · -- kk = (2 : Int32)
        refine own_S (mkF m 56 #[iv se, iv vi, iv kk, iv vr, .unset, .unset, .unset, .unset] []) (fun _ k => XS.icmpNo X0.here hx rfl (hb hby at_53) rfl (teq hk2).2 k) ?_
        obtain ⟨T11, X11, e11, st11⟩ := getS (host := "") X0 hx hZ hown (own_g hw (i := 19) rfl) Via.refl e0 P8 (g := (mkF m 56 #[iv se, iv vi, iv kk, iv vr, .unset, .unset, .unset, .unset] [])) rfl (hb hby at_56)
        refine own_S (mkF m 59 #[iv se, iv vi, iv kk, iv vr, .unset, .unset, .unset, .unset] [(.ref b2)]) st11 ?_
        refine own_S (mkF m 61 #[iv se, iv vi, iv kk, iv vr, rv b2, .unset, .unset, .unset] []) (fun _ k => XS.astore X11.here hx rfl (hb hby at_59) rfl rfl (l' := #[iv se, iv vi, iv kk, iv vr, rv b2, .unset, .unset, .unset]) rfl k) ?_
        refine own_S (mkF m 62 #[iv se, iv vi, iv kk, iv vr, rv b2, .unset, .unset, .unset] [(.int 4)]) (fun _ k => XS.iconst X11.here hx rfl (hb hby at_61) k) ?_
        refine own_S (mkF m 64 #[iv se, iv vi, iv kk, iv vr, rv b2, .val (.int 4), .unset, .unset] []) (fun _ k => XS.istore X11.here hx rfl (hb hby at_62) rfl (l' := #[iv se, iv vi, iv kk, iv vr, rv b2, .val (.int 4), .unset, .unset]) rfl k) ?_
        refine own_S (mkF m 66 #[iv se, iv vi, iv kk, iv vr, rv b2, .val (.int 4), .unset, .unset] [(.int 6)]) (fun _ k => XS.bipush X11.here hx rfl (hb hby at_64) k) ?_
        refine own_S (mkF m 68 #[iv se, iv vi, iv kk, iv vr, rv b2, .val (.int 4), .val (.int 6), .unset] []) (fun _ k => XS.istore X11.here hx rfl (hb hby at_66) rfl (l' := #[iv se, iv vi, iv kk, iv vr, rv b2, .val (.int 4), .val (.int 6), .unset]) rfl k) ?_
        refine own_S (mkF m 101 #[iv se, iv vi, iv kk, iv vr, rv b2, .val (.int 4), .val (.int 6), .unset] []) (fun _ k => XS.goto X11.here hx rfl (pc0 := 68) (pc' := 101) rfl (hb hby at_68) (by decide) (by decide) k) ?_
        refine own_S (mkF m 102 #[iv se, iv vi, iv kk, iv vr, rv b2, .val (.int 4), .val (.int 6), .unset] [(.int vr)]) (fun _ k => XS.iloadN X11.here hx rfl (hb hby at_101) rfl k) ?_
        refine own_S (mkF m 104 #[iv se, iv vi, iv kk, iv vr, rv b2, .val (.int 4), .val (.int 6), .unset] [(.int 4), (.int vr)]) (fun _ k => XS.iload X11.here hx rfl (hb hby at_102) rfl k) ?_
        obtain ⟨xx, h_xx⟩ : ∃ z : Int32, z = (if vr < (4 : Int32) then (0 : Int32) else (if (6 : Int32) < vr then (0 : Int32) else (1 : Int32))) := ⟨_, rfl⟩
        refine own_S (T' := T11) (mkF m 118 #[iv se, iv vi, iv kk, iv vr, rv b2, .val (.int 4), .val (.int 6), .unset] [(.int xx)]) (fun _ k => ?_) ?_
        ·
          by_cases hj12 : vr < (4 : Int32)
          ·
            refine own_s (mkF m 117 #[iv se, iv vi, iv kk, iv vr, rv b2, .val (.int 4), .val (.int 6), .unset] []) (fun _ k => XS.icmpYes X11.here hx rfl (pc0 := 104) (pc' := 117) rfl (hb hby at_104) rfl (tlt hj12).1 (by decide) (by decide) k) ?_
            refine own_s (mkF m 118 #[iv se, iv vi, iv kk, iv vr, rv b2, .val (.int 4), .val (.int 6), .unset] [(.int 0)]) (fun _ k => XS.iconst X11.here hx rfl (hb hby at_117) k) ?_
            rw [show xx = (0 : Int32) from by rw [h_xx, if_pos hj12]] at k
            exact k
          ·
            refine own_s (mkF m 107 #[iv se, iv vi, iv kk, iv vr, rv b2, .val (.int 4), .val (.int 6), .unset] []) (fun _ k => XS.icmpNo X11.here hx rfl (hb hby at_104) rfl (flt hj12).1 k) ?_
            refine own_s (mkF m 108 #[iv se, iv vi, iv kk, iv vr, rv b2, .val (.int 4), .val (.int 6), .unset] [(.int vr)]) (fun _ k => XS.iloadN X11.here hx rfl (hb hby at_107) rfl k) ?_
            refine own_s (mkF m 110 #[iv se, iv vi, iv kk, iv vr, rv b2, .val (.int 4), .val (.int 6), .unset] [(.int 6), (.int vr)]) (fun _ k => XS.iload X11.here hx rfl (hb hby at_108) rfl k) ?_
            by_cases hj13 : (6 : Int32) < vr
            ·
              refine own_s (mkF m 117 #[iv se, iv vi, iv kk, iv vr, rv b2, .val (.int 4), .val (.int 6), .unset] []) (fun _ k => XS.icmpYes X11.here hx rfl (pc0 := 110) (pc' := 117) rfl (hb hby at_110) rfl (tlt hj13).2.2.1 (by decide) (by decide) k) ?_
              refine own_s (mkF m 118 #[iv se, iv vi, iv kk, iv vr, rv b2, .val (.int 4), .val (.int 6), .unset] [(.int 0)]) (fun _ k => XS.iconst X11.here hx rfl (hb hby at_117) k) ?_
              rw [show xx = (0 : Int32) from by rw [h_xx, if_neg hj12, if_pos hj13]] at k
              exact k
            ·
              refine own_s (mkF m 113 #[iv se, iv vi, iv kk, iv vr, rv b2, .val (.int 4), .val (.int 6), .unset] []) (fun _ k => XS.icmpNo X11.here hx rfl (hb hby at_110) rfl (flt hj13).2.2.1 k) ?_
              refine own_s (mkF m 114 #[iv se, iv vi, iv kk, iv vr, rv b2, .val (.int 4), .val (.int 6), .unset] [(.int 1)]) (fun _ k => XS.iconst X11.here hx rfl (hb hby at_113) k) ?_
              refine own_s (mkF m 118 #[iv se, iv vi, iv kk, iv vr, rv b2, .val (.int 4), .val (.int 6), .unset] [(.int 1)]) (fun _ k => XS.goto X11.here hx rfl (pc0 := 114) (pc' := 118) rfl (hb hby at_114) (by decide) (by decide) k) ?_
              rw [show xx = (1 : Int32) from by rw [h_xx, if_neg hj12, if_neg hj13]] at k
              exact k
        refine own_S (mkF m 120 #[iv se, iv vi, iv kk, iv vr, rv b2, .val (.int 4), .val (.int 6), iv xx] []) (fun _ k => XS.istore X11.here hx rfl (hb hby at_118) rfl (l' := #[iv se, iv vi, iv kk, iv vr, rv b2, .val (.int 4), .val (.int 6), iv xx]) rfl k) ?_
        refine own_S (mkF m 122 #[iv se, iv vi, iv kk, iv vr, rv b2, .val (.int 4), .val (.int 6), iv xx] [(.ref b2)]) (fun _ k => XS.aload X11.here hx rfl (hb hby at_120) rfl rfl k) ?_
        refine own_S (mkF m 123 #[iv se, iv vi, iv kk, iv vr, rv b2, .val (.int 4), .val (.int 6), iv xx] [(.int vr), (.ref b2)]) (fun _ k => XS.iloadN X11.here hx rfl (hb hby at_122) rfl k) ?_
        obtain ⟨cq14, kq14, q14a, q14b, q14c⟩ := isOf hZ e11 P9
        obtain ⟨_, _, ⟨T14, L14, k14, n14⟩, -, X14, ⟨Lc14, hQ14, l14, y14, z14⟩, st14⟩ := X11.virtualBack hx (y := own_y0) (z := own_y0) hown (mvT hZ (own_g hw (i := 4) rfl)) (mvT hZ (own_g hw (i := 5) rfl)) (notFace_of_selects (args := #[]) (mvT hZ (own_g hw (i := 7) rfl))) (mvT hZ (own_g hw (i := 7) rfl)) (mvT hZ (own_g hw (i := 6) rfl)) (by decide) (backOf (W := 0) (own_rmsv l Z a0 hw [] (b2) (vr) ((4 : Int32)) ((6 : Int32)) h0 n0 Z0 P10 P11) hZ (own_g hw (i := 8) rfl) (own_g hw (i := 2) rfl) (by decide) (by decide)) q14a q14c (g := (mkF m 123 #[iv se, iv vi, iv kk, iv vr, rv b2, .val (.int 4), .val (.int 6), iv xx] [(.int vr), (.ref b2)])) rfl (by rw [hml]; rfl) (Steps.refl _) (argsL := [(.int vr)]) (rest := []) (lenOf own_pd__S_Z rfl) rfl (by show 2 * 0 + _ ≤ _; exact Nat.le_of_eq rfl) (hb hby at_123) (fun _ _ => ⟨rfl, e11, (by decide : 0 + 0 ≤ _), (by decide : 0 + 0 ≤ _)⟩)
        dsimp only [Pt.U, Pt.locs, Pt.cells, Pt.slots] at X14 l14 y14 z14 st14 hQ14
        subst l14 y14 z14
        obtain ⟨rfl, N14q, e14⟩ := hQ14
        have N14 := Fr.app N0 N14q
        refine own_S (mkF m 126 #[iv se, iv vi, iv kk, iv vr, rv b2, .val (.int 4), .val (.int 6), iv xx] [(.int (if ¬ (vr < (4 : Int32)) ∧ ¬ ((6 : Int32) < vr) then (1 : Int32) else (0 : Int32)))]) (fun _ k => st14.trans k) ?_
        refine own_S (mkF m 128 #[iv se, iv vi, iv kk, iv vr, rv b2, .val (.int 4), .val (.int 6), iv xx] [(.int xx), (.int (if ¬ (vr < (4 : Int32)) ∧ ¬ ((6 : Int32) < vr) then (1 : Int32) else (0 : Int32)))]) (fun _ k => XS.iload X14.here hx rfl (hb hby at_126) rfl k) ?_
        have hc15 : (if ¬ (vr < (4 : Int32)) ∧ ¬ ((6 : Int32) < vr) then (1 : Int32) else (0 : Int32)) = xx := (by rw [h_xx]; exact own_law1 _ _ _)
        refine own_S (mkF m 131 #[iv se, iv vi, iv kk, iv vr, rv b2, .val (.int 4), .val (.int 6), iv xx] []) (fun _ k => XS.icmpNo X14.here hx rfl (hb hby at_128) rfl (teq hc15).2 k) ?_
        refine own_S (mkF m 132 #[iv se, iv vi, iv kk, iv vr, rv b2, .val (.int 4), .val (.int 6), iv xx] [(.int 1)]) (fun _ k => XS.iconst X14.here hx rfl (hb hby at_131) k) ?_
        refine own_S (mkF m 136 #[iv se, iv vi, iv kk, iv vr, rv b2, .val (.int 4), .val (.int 6), iv xx] [(.int 1)]) (fun _ k => XS.goto X14.here hx rfl (pc0 := 132) (pc' := 136) rfl (hb hby at_132) (by decide) (by decide) k) ?_
        exact own_retN X14 hx hlk (t := .boolean) hret (by simp) (hb hby at_136) (by rw [e14]; exact ⟨rfl, N14, trivial⟩) (by decide) (by decide)
      · -- not kk = (2 : Int32)
        refine own_S (mkF m 71 #[iv se, iv vi, iv kk, iv vr, .unset, .unset, .unset, .unset] []) (fun _ k => XS.icmpYes X0.here hx rfl (pc0 := 53) (pc' := 71) rfl (hb hby at_53) rfl (feq hk2).2 (by decide) (by decide) k) ?_
        refine own_S (mkF m 72 #[iv se, iv vi, iv kk, iv vr, .unset, .unset, .unset, .unset] [(.int kk)]) (fun _ k => XS.iloadN X0.here hx rfl (hb hby at_71) rfl k) ?_
        refine own_S (mkF m 73 #[iv se, iv vi, iv kk, iv vr, .unset, .unset, .unset, .unset] [(.int 3), (.int kk)]) (fun _ k => XS.iconst X0.here hx rfl (hb hby at_72) k) ?_
        by_cases hk3 : kk = (3 : Int32)
        · -- kk = (3 : Int32)
          refine own_S (mkF m 76 #[iv se, iv vi, iv kk, iv vr, .unset, .unset, .unset, .unset] []) (fun _ k => XS.icmpNo X0.here hx rfl (hb hby at_73) rfl (teq hk3).2 k) ?_
          obtain ⟨T16, X16, e16, st16⟩ := getS (host := "") X0 hx hZ hown (own_g hw (i := 15) rfl) Via.refl e0 P12 (g := (mkF m 76 #[iv se, iv vi, iv kk, iv vr, .unset, .unset, .unset, .unset] [])) rfl (hb hby at_76)
          refine own_S (mkF m 79 #[iv se, iv vi, iv kk, iv vr, .unset, .unset, .unset, .unset] [(.ref b3)]) st16 ?_
          refine own_S (mkF m 81 #[iv se, iv vi, iv kk, iv vr, rv b3, .unset, .unset, .unset] []) (fun _ k => XS.astore X16.here hx rfl (hb hby at_79) rfl rfl (l' := #[iv se, iv vi, iv kk, iv vr, rv b3, .unset, .unset, .unset]) rfl k) ?_
          refine own_S (mkF m 82 #[iv se, iv vi, iv kk, iv vr, rv b3, .unset, .unset, .unset] [(.int 0)]) (fun _ k => XS.iconst X16.here hx rfl (hb hby at_81) k) ?_
          refine own_S (mkF m 84 #[iv se, iv vi, iv kk, iv vr, rv b3, .val (.int 0), .unset, .unset] []) (fun _ k => XS.istore X16.here hx rfl (hb hby at_82) rfl (l' := #[iv se, iv vi, iv kk, iv vr, rv b3, .val (.int 0), .unset, .unset]) rfl k) ?_
          refine own_S (mkF m 85 #[iv se, iv vi, iv kk, iv vr, rv b3, .val (.int 0), .unset, .unset] [(.int 4)]) (fun _ k => XS.iconst X16.here hx rfl (hb hby at_84) k) ?_
          refine own_S (mkF m 87 #[iv se, iv vi, iv kk, iv vr, rv b3, .val (.int 0), .val (.int 4), .unset] []) (fun _ k => XS.istore X16.here hx rfl (hb hby at_85) rfl (l' := #[iv se, iv vi, iv kk, iv vr, rv b3, .val (.int 0), .val (.int 4), .unset]) rfl k) ?_
          refine own_S (mkF m 101 #[iv se, iv vi, iv kk, iv vr, rv b3, .val (.int 0), .val (.int 4), .unset] []) (fun _ k => XS.goto X16.here hx rfl (pc0 := 87) (pc' := 101) rfl (hb hby at_87) (by decide) (by decide) k) ?_
          refine own_S (mkF m 102 #[iv se, iv vi, iv kk, iv vr, rv b3, .val (.int 0), .val (.int 4), .unset] [(.int vr)]) (fun _ k => XS.iloadN X16.here hx rfl (hb hby at_101) rfl k) ?_
          refine own_S (mkF m 104 #[iv se, iv vi, iv kk, iv vr, rv b3, .val (.int 0), .val (.int 4), .unset] [(.int 0), (.int vr)]) (fun _ k => XS.iload X16.here hx rfl (hb hby at_102) rfl k) ?_
          obtain ⟨xx, h_xx⟩ : ∃ z : Int32, z = (if vr < (0 : Int32) then (0 : Int32) else (if (4 : Int32) < vr then (0 : Int32) else (1 : Int32))) := ⟨_, rfl⟩
          refine own_S (T' := T16) (mkF m 118 #[iv se, iv vi, iv kk, iv vr, rv b3, .val (.int 0), .val (.int 4), .unset] [(.int xx)]) (fun _ k => ?_) ?_
          ·
            by_cases hj17 : vr < (0 : Int32)
            ·
              refine own_s (mkF m 117 #[iv se, iv vi, iv kk, iv vr, rv b3, .val (.int 0), .val (.int 4), .unset] []) (fun _ k => XS.icmpYes X16.here hx rfl (pc0 := 104) (pc' := 117) rfl (hb hby at_104) rfl (tlt hj17).1 (by decide) (by decide) k) ?_
              refine own_s (mkF m 118 #[iv se, iv vi, iv kk, iv vr, rv b3, .val (.int 0), .val (.int 4), .unset] [(.int 0)]) (fun _ k => XS.iconst X16.here hx rfl (hb hby at_117) k) ?_
              rw [show xx = (0 : Int32) from by rw [h_xx, if_pos hj17]] at k
              exact k
            ·
              refine own_s (mkF m 107 #[iv se, iv vi, iv kk, iv vr, rv b3, .val (.int 0), .val (.int 4), .unset] []) (fun _ k => XS.icmpNo X16.here hx rfl (hb hby at_104) rfl (flt hj17).1 k) ?_
              refine own_s (mkF m 108 #[iv se, iv vi, iv kk, iv vr, rv b3, .val (.int 0), .val (.int 4), .unset] [(.int vr)]) (fun _ k => XS.iloadN X16.here hx rfl (hb hby at_107) rfl k) ?_
              refine own_s (mkF m 110 #[iv se, iv vi, iv kk, iv vr, rv b3, .val (.int 0), .val (.int 4), .unset] [(.int 4), (.int vr)]) (fun _ k => XS.iload X16.here hx rfl (hb hby at_108) rfl k) ?_
              by_cases hj18 : (4 : Int32) < vr
              ·
                refine own_s (mkF m 117 #[iv se, iv vi, iv kk, iv vr, rv b3, .val (.int 0), .val (.int 4), .unset] []) (fun _ k => XS.icmpYes X16.here hx rfl (pc0 := 110) (pc' := 117) rfl (hb hby at_110) rfl (tlt hj18).2.2.1 (by decide) (by decide) k) ?_
                refine own_s (mkF m 118 #[iv se, iv vi, iv kk, iv vr, rv b3, .val (.int 0), .val (.int 4), .unset] [(.int 0)]) (fun _ k => XS.iconst X16.here hx rfl (hb hby at_117) k) ?_
                rw [show xx = (0 : Int32) from by rw [h_xx, if_neg hj17, if_pos hj18]] at k
                exact k
              ·
                refine own_s (mkF m 113 #[iv se, iv vi, iv kk, iv vr, rv b3, .val (.int 0), .val (.int 4), .unset] []) (fun _ k => XS.icmpNo X16.here hx rfl (hb hby at_110) rfl (flt hj18).2.2.1 k) ?_
                refine own_s (mkF m 114 #[iv se, iv vi, iv kk, iv vr, rv b3, .val (.int 0), .val (.int 4), .unset] [(.int 1)]) (fun _ k => XS.iconst X16.here hx rfl (hb hby at_113) k) ?_
                refine own_s (mkF m 118 #[iv se, iv vi, iv kk, iv vr, rv b3, .val (.int 0), .val (.int 4), .unset] [(.int 1)]) (fun _ k => XS.goto X16.here hx rfl (pc0 := 114) (pc' := 118) rfl (hb hby at_114) (by decide) (by decide) k) ?_
                rw [show xx = (1 : Int32) from by rw [h_xx, if_neg hj17, if_neg hj18]] at k
                exact k
          refine own_S (mkF m 120 #[iv se, iv vi, iv kk, iv vr, rv b3, .val (.int 0), .val (.int 4), iv xx] []) (fun _ k => XS.istore X16.here hx rfl (hb hby at_118) rfl (l' := #[iv se, iv vi, iv kk, iv vr, rv b3, .val (.int 0), .val (.int 4), iv xx]) rfl k) ?_
          refine own_S (mkF m 122 #[iv se, iv vi, iv kk, iv vr, rv b3, .val (.int 0), .val (.int 4), iv xx] [(.ref b3)]) (fun _ k => XS.aload X16.here hx rfl (hb hby at_120) rfl rfl k) ?_
          refine own_S (mkF m 123 #[iv se, iv vi, iv kk, iv vr, rv b3, .val (.int 0), .val (.int 4), iv xx] [(.int vr), (.ref b3)]) (fun _ k => XS.iloadN X16.here hx rfl (hb hby at_122) rfl k) ?_
          obtain ⟨cq19, kq19, q19a, q19b, q19c⟩ := isOf hZ e16 P13
          obtain ⟨_, _, ⟨T19, L19, k19, n19⟩, -, X19, ⟨Lc19, hQ19, l19, y19, z19⟩, st19⟩ := X16.virtualBack hx (y := own_y0) (z := own_y0) hown (mvT hZ (own_g hw (i := 4) rfl)) (mvT hZ (own_g hw (i := 5) rfl)) (notFace_of_selects (args := #[]) (mvT hZ (own_g hw (i := 7) rfl))) (mvT hZ (own_g hw (i := 7) rfl)) (mvT hZ (own_g hw (i := 6) rfl)) (by decide) (backOf (W := 0) (own_rmsv l Z a0 hw [] (b3) (vr) ((0 : Int32)) ((4 : Int32)) h0 n0 Z0 P14 P15) hZ (own_g hw (i := 8) rfl) (own_g hw (i := 2) rfl) (by decide) (by decide)) q19a q19c (g := (mkF m 123 #[iv se, iv vi, iv kk, iv vr, rv b3, .val (.int 0), .val (.int 4), iv xx] [(.int vr), (.ref b3)])) rfl (by rw [hml]; rfl) (Steps.refl _) (argsL := [(.int vr)]) (rest := []) (lenOf own_pd__S_Z rfl) rfl (by show 2 * 0 + _ ≤ _; exact Nat.le_of_eq rfl) (hb hby at_123) (fun _ _ => ⟨rfl, e16, (by decide : 0 + 0 ≤ _), (by decide : 0 + 0 ≤ _)⟩)
          dsimp only [Pt.U, Pt.locs, Pt.cells, Pt.slots] at X19 l19 y19 z19 st19 hQ19
          subst l19 y19 z19
          obtain ⟨rfl, N19q, e19⟩ := hQ19
          have N19 := Fr.app N0 N19q
          refine own_S (mkF m 126 #[iv se, iv vi, iv kk, iv vr, rv b3, .val (.int 0), .val (.int 4), iv xx] [(.int (if ¬ (vr < (0 : Int32)) ∧ ¬ ((4 : Int32) < vr) then (1 : Int32) else (0 : Int32)))]) (fun _ k => st19.trans k) ?_
          refine own_S (mkF m 128 #[iv se, iv vi, iv kk, iv vr, rv b3, .val (.int 0), .val (.int 4), iv xx] [(.int xx), (.int (if ¬ (vr < (0 : Int32)) ∧ ¬ ((4 : Int32) < vr) then (1 : Int32) else (0 : Int32)))]) (fun _ k => XS.iload X19.here hx rfl (hb hby at_126) rfl k) ?_
          have hc20 : (if ¬ (vr < (0 : Int32)) ∧ ¬ ((4 : Int32) < vr) then (1 : Int32) else (0 : Int32)) = xx := (by rw [h_xx]; exact own_law1 _ _ _)
          refine own_S (mkF m 131 #[iv se, iv vi, iv kk, iv vr, rv b3, .val (.int 0), .val (.int 4), iv xx] []) (fun _ k => XS.icmpNo X19.here hx rfl (hb hby at_128) rfl (teq hc20).2 k) ?_
          refine own_S (mkF m 132 #[iv se, iv vi, iv kk, iv vr, rv b3, .val (.int 0), .val (.int 4), iv xx] [(.int 1)]) (fun _ k => XS.iconst X19.here hx rfl (hb hby at_131) k) ?_
          refine own_S (mkF m 136 #[iv se, iv vi, iv kk, iv vr, rv b3, .val (.int 0), .val (.int 4), iv xx] [(.int 1)]) (fun _ k => XS.goto X19.here hx rfl (pc0 := 132) (pc' := 136) rfl (hb hby at_132) (by decide) (by decide) k) ?_
          exact own_retN X19 hx hlk (t := .boolean) hret (by simp) (hb hby at_136) (by rw [e19]; exact ⟨rfl, N19, trivial⟩) (by decide) (by decide)
        · -- not kk = (3 : Int32)
          refine own_S (mkF m 90 #[iv se, iv vi, iv kk, iv vr, .unset, .unset, .unset, .unset] []) (fun _ k => XS.icmpYes X0.here hx rfl (pc0 := 73) (pc' := 90) rfl (hb hby at_73) rfl (feq hk3).2 (by decide) (by decide) k) ?_
          obtain ⟨T21, X21, e21, st21⟩ := getS (host := "") X0 hx hZ hown (own_g hw (i := 11) rfl) Via.refl e0 P16 (g := (mkF m 90 #[iv se, iv vi, iv kk, iv vr, .unset, .unset, .unset, .unset] [])) rfl (hb hby at_90)
          refine own_S (mkF m 93 #[iv se, iv vi, iv kk, iv vr, .unset, .unset, .unset, .unset] [(.ref b4)]) st21 ?_
          refine own_S (mkF m 95 #[iv se, iv vi, iv kk, iv vr, rv b4, .unset, .unset, .unset] []) (fun _ k => XS.astore X21.here hx rfl (hb hby at_93) rfl rfl (l' := #[iv se, iv vi, iv kk, iv vr, rv b4, .unset, .unset, .unset]) rfl k) ?_
          refine own_S (mkF m 96 #[iv se, iv vi, iv kk, iv vr, rv b4, .unset, .unset, .unset] [(.int 0)]) (fun _ k => XS.iconst X21.here hx rfl (hb hby at_95) k) ?_
          refine own_S (mkF m 98 #[iv se, iv vi, iv kk, iv vr, rv b4, .val (.int 0), .unset, .unset] []) (fun _ k => XS.istore X21.here hx rfl (hb hby at_96) rfl (l' := #[iv se, iv vi, iv kk, iv vr, rv b4, .val (.int 0), .unset, .unset]) rfl k) ?_
          refine own_S (mkF m 99 #[iv se, iv vi, iv kk, iv vr, rv b4, .val (.int 0), .unset, .unset] [(.int 1)]) (fun _ k => XS.iconst X21.here hx rfl (hb hby at_98) k) ?_
          refine own_S (mkF m 101 #[iv se, iv vi, iv kk, iv vr, rv b4, .val (.int 0), .val (.int 1), .unset] []) (fun _ k => XS.istore X21.here hx rfl (hb hby at_99) rfl (l' := #[iv se, iv vi, iv kk, iv vr, rv b4, .val (.int 0), .val (.int 1), .unset]) rfl k) ?_
          refine own_S (mkF m 102 #[iv se, iv vi, iv kk, iv vr, rv b4, .val (.int 0), .val (.int 1), .unset] [(.int vr)]) (fun _ k => XS.iloadN X21.here hx rfl (hb hby at_101) rfl k) ?_
          refine own_S (mkF m 104 #[iv se, iv vi, iv kk, iv vr, rv b4, .val (.int 0), .val (.int 1), .unset] [(.int 0), (.int vr)]) (fun _ k => XS.iload X21.here hx rfl (hb hby at_102) rfl k) ?_
          obtain ⟨xx, h_xx⟩ : ∃ z : Int32, z = (if vr < (0 : Int32) then (0 : Int32) else (if (1 : Int32) < vr then (0 : Int32) else (1 : Int32))) := ⟨_, rfl⟩
          refine own_S (T' := T21) (mkF m 118 #[iv se, iv vi, iv kk, iv vr, rv b4, .val (.int 0), .val (.int 1), .unset] [(.int xx)]) (fun _ k => ?_) ?_
          ·
            by_cases hj22 : vr < (0 : Int32)
            ·
              refine own_s (mkF m 117 #[iv se, iv vi, iv kk, iv vr, rv b4, .val (.int 0), .val (.int 1), .unset] []) (fun _ k => XS.icmpYes X21.here hx rfl (pc0 := 104) (pc' := 117) rfl (hb hby at_104) rfl (tlt hj22).1 (by decide) (by decide) k) ?_
              refine own_s (mkF m 118 #[iv se, iv vi, iv kk, iv vr, rv b4, .val (.int 0), .val (.int 1), .unset] [(.int 0)]) (fun _ k => XS.iconst X21.here hx rfl (hb hby at_117) k) ?_
              rw [show xx = (0 : Int32) from by rw [h_xx, if_pos hj22]] at k
              exact k
            ·
              refine own_s (mkF m 107 #[iv se, iv vi, iv kk, iv vr, rv b4, .val (.int 0), .val (.int 1), .unset] []) (fun _ k => XS.icmpNo X21.here hx rfl (hb hby at_104) rfl (flt hj22).1 k) ?_
              refine own_s (mkF m 108 #[iv se, iv vi, iv kk, iv vr, rv b4, .val (.int 0), .val (.int 1), .unset] [(.int vr)]) (fun _ k => XS.iloadN X21.here hx rfl (hb hby at_107) rfl k) ?_
              refine own_s (mkF m 110 #[iv se, iv vi, iv kk, iv vr, rv b4, .val (.int 0), .val (.int 1), .unset] [(.int 1), (.int vr)]) (fun _ k => XS.iload X21.here hx rfl (hb hby at_108) rfl k) ?_
              by_cases hj23 : (1 : Int32) < vr
              ·
                refine own_s (mkF m 117 #[iv se, iv vi, iv kk, iv vr, rv b4, .val (.int 0), .val (.int 1), .unset] []) (fun _ k => XS.icmpYes X21.here hx rfl (pc0 := 110) (pc' := 117) rfl (hb hby at_110) rfl (tlt hj23).2.2.1 (by decide) (by decide) k) ?_
                refine own_s (mkF m 118 #[iv se, iv vi, iv kk, iv vr, rv b4, .val (.int 0), .val (.int 1), .unset] [(.int 0)]) (fun _ k => XS.iconst X21.here hx rfl (hb hby at_117) k) ?_
                rw [show xx = (0 : Int32) from by rw [h_xx, if_neg hj22, if_pos hj23]] at k
                exact k
              ·
                refine own_s (mkF m 113 #[iv se, iv vi, iv kk, iv vr, rv b4, .val (.int 0), .val (.int 1), .unset] []) (fun _ k => XS.icmpNo X21.here hx rfl (hb hby at_110) rfl (flt hj23).2.2.1 k) ?_
                refine own_s (mkF m 114 #[iv se, iv vi, iv kk, iv vr, rv b4, .val (.int 0), .val (.int 1), .unset] [(.int 1)]) (fun _ k => XS.iconst X21.here hx rfl (hb hby at_113) k) ?_
                refine own_s (mkF m 118 #[iv se, iv vi, iv kk, iv vr, rv b4, .val (.int 0), .val (.int 1), .unset] [(.int 1)]) (fun _ k => XS.goto X21.here hx rfl (pc0 := 114) (pc' := 118) rfl (hb hby at_114) (by decide) (by decide) k) ?_
                rw [show xx = (1 : Int32) from by rw [h_xx, if_neg hj22, if_neg hj23]] at k
                exact k
          refine own_S (mkF m 120 #[iv se, iv vi, iv kk, iv vr, rv b4, .val (.int 0), .val (.int 1), iv xx] []) (fun _ k => XS.istore X21.here hx rfl (hb hby at_118) rfl (l' := #[iv se, iv vi, iv kk, iv vr, rv b4, .val (.int 0), .val (.int 1), iv xx]) rfl k) ?_
          refine own_S (mkF m 122 #[iv se, iv vi, iv kk, iv vr, rv b4, .val (.int 0), .val (.int 1), iv xx] [(.ref b4)]) (fun _ k => XS.aload X21.here hx rfl (hb hby at_120) rfl rfl k) ?_
          refine own_S (mkF m 123 #[iv se, iv vi, iv kk, iv vr, rv b4, .val (.int 0), .val (.int 1), iv xx] [(.int vr), (.ref b4)]) (fun _ k => XS.iloadN X21.here hx rfl (hb hby at_122) rfl k) ?_
          obtain ⟨cq24, kq24, q24a, q24b, q24c⟩ := isOf hZ e21 P17
          obtain ⟨_, _, ⟨T24, L24, k24, n24⟩, -, X24, ⟨Lc24, hQ24, l24, y24, z24⟩, st24⟩ := X21.virtualBack hx (y := own_y0) (z := own_y0) hown (mvT hZ (own_g hw (i := 4) rfl)) (mvT hZ (own_g hw (i := 5) rfl)) (notFace_of_selects (args := #[]) (mvT hZ (own_g hw (i := 7) rfl))) (mvT hZ (own_g hw (i := 7) rfl)) (mvT hZ (own_g hw (i := 6) rfl)) (by decide) (backOf (W := 0) (own_rmsv l Z a0 hw [] (b4) (vr) ((0 : Int32)) ((1 : Int32)) h0 n0 Z0 P18 P19) hZ (own_g hw (i := 8) rfl) (own_g hw (i := 2) rfl) (by decide) (by decide)) q24a q24c (g := (mkF m 123 #[iv se, iv vi, iv kk, iv vr, rv b4, .val (.int 0), .val (.int 1), iv xx] [(.int vr), (.ref b4)])) rfl (by rw [hml]; rfl) (Steps.refl _) (argsL := [(.int vr)]) (rest := []) (lenOf own_pd__S_Z rfl) rfl (by show 2 * 0 + _ ≤ _; exact Nat.le_of_eq rfl) (hb hby at_123) (fun _ _ => ⟨rfl, e21, (by decide : 0 + 0 ≤ _), (by decide : 0 + 0 ≤ _)⟩)
          dsimp only [Pt.U, Pt.locs, Pt.cells, Pt.slots] at X24 l24 y24 z24 st24 hQ24
          subst l24 y24 z24
          obtain ⟨rfl, N24q, e24⟩ := hQ24
          have N24 := Fr.app N0 N24q
          refine own_S (mkF m 126 #[iv se, iv vi, iv kk, iv vr, rv b4, .val (.int 0), .val (.int 1), iv xx] [(.int (if ¬ (vr < (0 : Int32)) ∧ ¬ ((1 : Int32) < vr) then (1 : Int32) else (0 : Int32)))]) (fun _ k => st24.trans k) ?_
          refine own_S (mkF m 128 #[iv se, iv vi, iv kk, iv vr, rv b4, .val (.int 0), .val (.int 1), iv xx] [(.int xx), (.int (if ¬ (vr < (0 : Int32)) ∧ ¬ ((1 : Int32) < vr) then (1 : Int32) else (0 : Int32)))]) (fun _ k => XS.iload X24.here hx rfl (hb hby at_126) rfl k) ?_
          have hc25 : (if ¬ (vr < (0 : Int32)) ∧ ¬ ((1 : Int32) < vr) then (1 : Int32) else (0 : Int32)) = xx := (by rw [h_xx]; exact own_law1 _ _ _)
          refine own_S (mkF m 131 #[iv se, iv vi, iv kk, iv vr, rv b4, .val (.int 0), .val (.int 1), iv xx] []) (fun _ k => XS.icmpNo X24.here hx rfl (hb hby at_128) rfl (teq hc25).2 k) ?_
          refine own_S (mkF m 132 #[iv se, iv vi, iv kk, iv vr, rv b4, .val (.int 0), .val (.int 1), iv xx] [(.int 1)]) (fun _ k => XS.iconst X24.here hx rfl (hb hby at_131) k) ?_
          refine own_S (mkF m 136 #[iv se, iv vi, iv kk, iv vr, rv b4, .val (.int 0), .val (.int 1), iv xx] [(.int 1)]) (fun _ k => XS.goto X24.here hx rfl (pc0 := 132) (pc' := 136) rfl (hb hby at_132) (by decide) (by decide) k) ?_
          exact own_retN X24 hx hlk (t := .boolean) hret (by simp) (hb hby at_136) (by rw [e24]; exact ⟨rfl, N24, trivial⟩) (by decide) (by decide)
set_option maxRecDepth 65536 in
set_option maxHeartbeats 40000000 in
theorem comes_1 {Post : Tables → Env → Array Value → State → Outcome → State → Prop} (hpost : ∀ tb e args s v u, (limb_1_1.after args s (.returned v) u = true ∧ limb_1_2.after args s (.returned v) u = true ∧ True) → FrameEnd s (.returned v) u (Jvm.fieldLocs frame_1_writes args s ++ Jvm.arrayLocs frame_1_arrays args s ++ Jvm.staticLocs frame_1_statics s) 0 0 → Post tb e args s (.returned v) u) :
    ArmFor flags0 classFile x code maxLocals ret World_1 tables_1 room_1 Calls_1 rest_1 Pre_1 Post := by
  intro l hfl _ _ p e ha hc hk s m args below hf hA hF happ hP
  obtain ⟨hcalls, hrest, hpre⟩ := hP
  obtain ⟨-, -, -, hnamed, -, -, -, hat⟩ := (Spec.applies_iff hf).mp happ
  obtain ⟨hg, hn⟩ := and_e (Cond.before_iff.mp (show (Jvm.Cond.and given_1 narrow_1).before args s = true from hpre))
  obtain ⟨h1, g0⟩ := and_e hg
  obtain ⟨k0, g1⟩ := and_e g0
  have k1 := g1
  obtain ⟨w0, w1, rfl⟩ : ∃ w0 w1 : Value, args = #[w0, w1] := by
    have hs : args.size = 2 := by simpa [Cond.value, given_1] using h1
    obtain ⟨L⟩ := args
    match L, hs with
    | [w0, w1], _ => exact ⟨w0, w1, rfl⟩
  have hw := fun d (hd : d ∈ tables_1) => atoms_spec (ws := Jvm.Cond.code x code maxLocals ret :: tables_1) hat d (List.mem_cons_of_mem _ hd)
  have hfit : Fit s := fun {y c} hc i hi => by
    obtain ⟨ha, rfl⟩ := Array.getElem?_eq_some_iff.mp hc
    have q := List.all_eq_true.mp ((Array.all_eq_true_iff_forall_mem.mp hF) _ (Array.getElem_mem ha)) i (List.mem_range.mpr hi)
    simpa [Array.getElem?_eq_getElem hi] using q
  obtain ⟨i0, q0⟩ := is_v k0
  obtain rfl : w0 = (.int i0) := Option.some.inj q0
  obtain ⟨i1, q1⟩ := is_v k1
  obtain rfl : w1 = (.int i1) := Option.some.inj q1
  obtain ⟨x0, hn_0⟩ := and_e hn
  obtain ⟨m0, hn_1⟩ := and_e hn_0
  obtain ⟨x4, hn_2⟩ := and_e hn_1
  obtain ⟨m4, hn_3⟩ := and_e hn_2
  obtain ⟨M4, hn_4⟩ := and_e hn_3
  obtain ⟨x3, hn_5⟩ := and_e hn_4
  obtain ⟨m3, hn_6⟩ := and_e hn_5
  obtain ⟨M3, hn_7⟩ := and_e hn_6
  obtain ⟨x1, hn_8⟩ := and_e hn_7
  obtain ⟨m1, hn_9⟩ := and_e hn_8
  obtain ⟨M1, hn_10⟩ := and_e hn_9
  obtain ⟨x2, hn_11⟩ := and_e hn_10
  obtain ⟨m2, hn_12⟩ := and_e hn_11
  obtain ⟨M2, hn_13⟩ := and_e hn_12
  have M0 := hn_13
  obtain ⟨b0, ev0⟩ := exa_v x0
  have S0 := Sta.start ev0 (Or.inr ⟨(own_g hw (i := 2) rfl), (own_g hw (i := 3) rfl)⟩)
  have E0 := Exa.start ev0 x0
  have Fm0 := own_fieldI ev0 m0
  have FM0 := own_fieldI ev0 M0
  obtain ⟨b1, ev1⟩ := exa_v x1
  have S1 := Sta.start ev1 (Or.inr ⟨(own_g hw (i := 2) rfl), (own_g hw (i := 18) rfl)⟩)
  have E1 := Exa.start ev1 x1
  have Fm1 := own_fieldI ev1 m1
  have FM1 := own_fieldI ev1 M1
  obtain ⟨b2, ev2⟩ := exa_v x2
  have S2 := Sta.start ev2 (Or.inr ⟨(own_g hw (i := 2) rfl), (own_g hw (i := 20) rfl)⟩)
  have E2 := Exa.start ev2 x2
  have Fm2 := own_fieldI ev2 m2
  have FM2 := own_fieldI ev2 M2
  obtain ⟨b3, ev3⟩ := exa_v x3
  have S3 := Sta.start ev3 (Or.inr ⟨(own_g hw (i := 2) rfl), (own_g hw (i := 16) rfl)⟩)
  have E3 := Exa.start ev3 x3
  have Fm3 := own_fieldI ev3 m3
  have FM3 := own_fieldI ev3 M3
  obtain ⟨b4, ev4⟩ := exa_v x4
  have S4 := Sta.start ev4 (Or.inr ⟨(own_g hw (i := 2) rfl), (own_g hw (i := 12) rfl)⟩)
  have E4 := Exa.start ev4 x4
  have Fm4 := own_fieldI ev4 m4
  have FM4 := own_fieldI ev4 M4
  obtain ⟨n, o, h1, h2, h3, _, L, rfl, ⟨rfl, N, -⟩, hq⟩ := own_rmlaw l s _ hw tables_1 i0 i1 b0 b1 b2 b3 b4 s.heap s.heap.size (Nat.le_refl _) S0 E0 Fm0 FM0 S1 E1 Fm1 FM1 S2 E2 Fm2 FM2 S3 E3 Fm3 FM3 S4 E4 Fm4 FM4 p e ha hc hk s m _ below hf ((Spec.applies_iff_loose hf).mp happ).1 ⟨rfl, State.Warmed39.refl s, rfl⟩ trivial
  refine ⟨n, _, h1, h2, h3, hpost _ _ _ _ _ _ ⟨Cond.after_iff.mpr rfl, Cond.after_iff.mpr (eq_i res_at (Term.int_eval (1)) rfl), trivial⟩ ⟨hq.1, hq.2.1, (hq.2.2.sift fun y hy => Or.inr (N y hy)).mono (by decide) (by decide)⟩⟩
theorem main_1_1 : Claimed_1_1 := comes_1 fun _ _ _ _ _ _ h hF => ⟨h.1, hF⟩
theorem main_1_2 : Claimed_1_2 := comes_1 fun _ _ _ _ _ _ h hF => ⟨h.2.1, hF⟩
end Jvm.Pilot.@@N@@
namespace Jvm.Pilot.@@N@@
open Jvm Jvm.ClassFile Sem Op Lib Jvm.Free Jvm.Stand Jvm.Pilot.@@N@@.Jvm.D
/-! MADE BY PROGRAM (witnessworld.py) out of the Statement's table words and the real class files: 12 classes; the members and pool entries that the words name. The judged class is class 1, her method 1. -/
namespace start1
open Jvm.ClassFile
def u (s : String) : CpInfo := .utf8 (stringToUtf16 s)
/-- a pool by its gaps: so many unusable entries, then the entry; so many at the end -/
def gap : Nat → List CpInfo → List CpInfo
  | 0, r => r
  | n + 1, r => .unusable :: gap n r
def poolList (es : List (Nat × CpInfo)) (last : Nat) : List CpInfo := es.foldr (fun e r => gap e.1 (e.2 :: r)) (gap last [])
def pool (es : List (Nat × CpInfo)) (last : Nat) : Array CpInfo := ⟨poolList es last⟩
def fileOf (pool : Array CpInfo) (this : Nat) (attrs : Array Attribute := #[]) (ms : Array MethodInfo := #[]) (fl : Nat := 33) (sup : Nat := 0) (ifs : Array Nat := #[]) (fds : Array FieldInfo := #[]) : ClassFile where
  minorVersion := 0
  majorVersion := 65
  constantPool := pool
  accessFlags := fl
  thisClass := this
  superClass := sup
  interfaces := ifs
  fields := fds
  methods := ms
  attributes := attrs
def plain (name : String) (sup : Option ClassId) : Class where
  name := name
  kind := .ordinary
  loader := none
  accessFlags := 33
  super := sup
  interfaces := #[]
  cf := none
  fields := #[]
  methods := #[]
  instanceTypes := #[]
  staticTypes := #[]
  resolved := #[]
  callSites := []
  init := .initialized
  statics := none
  mirror := none

def pool0 : Array CpInfo := pool [(5, u "<init>"), (0, u "()V"), (1, .class_ 10), (1, u "java/lang/Object")] 113

def k0m0 : Method := { name := "<init>", desc := "()V", sig := { parameters := [], returnType := none }, accessFlags := 1, code := none }
/-- java/lang/Object -/
def k0 : Class := { plain "java/lang/Object" none with
  accessFlags := 33
  interfaces := #[]
  cf := some (fileOf pool0 8 #[] #[{ accessFlags := 1, nameIndex := 5, descriptorIndex := 6, attributes := #[] }] 33 0 #[] #[])
  fields := #[]
  methods := #[k0m0]
  instanceTypes := #[]
  staticTypes := #[]
  resolved := Array.replicate 124 none
  statics := none }

def pool1 : Array CpInfo := pool [(2, .class_ 4), (1, u "java/lang/Object"), (0, u "<init>"), (0, u "()V"), (0, .integer 2147483647), (0, .fieldref 9 10), (0, .class_ 11), (0, .nameAndType 12 13), (0, u "com/example/stickler/stickler/protocol/ApiKey"), (0, u "METADATA"), (0, u "Lcom/example/stickler/stickler/protocol/ApiKey;"), (0, .fieldref 9 15), (0, .nameAndType 16 13), (0, u "OFFSET_FETCH"), (0, .fieldref 9 18), (0, .nameAndType 19 13), (0, u "FIND_COORDINATOR"), (0, .fieldref 9 21), (0, .nameAndType 22 13), (0, u "API_VERSIONS"), (0, .fieldref 9 24), (0, .nameAndType 25 13), (0, u "CONSUMER_GROUP_HEARTBEAT"), (0, .methodref 9 27), (0, .nameAndType 28 29), (0, u "serves"), (0, u "(S)Z"), (0, .class_ 31), (0, u "com/example/stickler/stickler/protocol/ApiKeyServesPinLaw"), (2, u "law"), (0, u "(II)Z")] 3

def k1m0 : Method := { name := "<init>", desc := "()V", sig := { parameters := [], returnType := none }, accessFlags := 1, code := none }
def k1c1 : Code := { maxStack := 2, maxLocals := 8, code := code, exceptionTable := #[], attributes := #[] }
def k1m1 : Method := { name := "law", desc := "(II)Z", sig := { parameters := [.int, .int], returnType := some .boolean }, accessFlags := 9, code := some k1c1 }
/-- com/example/stickler/stickler/protocol/ApiKeyServesPinLaw -/
def k1 : Class := { plain "com/example/stickler/stickler/protocol/ApiKeyServesPinLaw" (some 0) with
  accessFlags := 49
  interfaces := #[]
  cf := some (fileOf pool1 30 #[] #[{ accessFlags := 1, nameIndex := 5, descriptorIndex := 6, attributes := #[] }, { accessFlags := 9, nameIndex := 34, descriptorIndex := 35, attributes := #[] }] 49 2 #[] #[])
  fields := #[]
  methods := #[k1m0, k1m1]
  instanceTypes := #[]
  staticTypes := #[]
  resolved := Array.replicate 39 none
  statics := none }

def pool2 : Array CpInfo := pool [(1, .class_ 2), (0, u "java/lang/constant/Constable"), (0, .class_ 4), (0, u "java/lang/Object")] 6

/-- java/lang/constant/Constable -/
def k2 : Class := { plain "java/lang/constant/Constable" (some 0) with
  accessFlags := 1537
  interfaces := #[]
  cf := some (fileOf pool2 1 #[] #[] 1537 3 #[] #[])
  fields := #[]
  methods := #[]
  instanceTypes := #[]
  staticTypes := #[]
  resolved := Array.replicate 11 none
  statics := none }

def pool3 : Array CpInfo := pool [(1, .class_ 2), (0, u "java/lang/Comparable"), (0, .class_ 4), (0, u "java/lang/Object")] 7

/-- java/lang/Comparable -/
def k3 : Class := { plain "java/lang/Comparable" (some 0) with
  accessFlags := 1537
  interfaces := #[]
  cf := some (fileOf pool3 1 #[] #[] 1537 3 #[] #[])
  fields := #[]
  methods := #[]
  instanceTypes := #[]
  staticTypes := #[]
  resolved := Array.replicate 12 none
  statics := none }

def pool4 : Array CpInfo := pool [(1, .class_ 2), (0, u "java/io/Serializable"), (0, .class_ 4), (0, u "java/lang/Object")] 2

/-- java/io/Serializable -/
def k4 : Class := { plain "java/io/Serializable" (some 0) with
  accessFlags := 1537
  interfaces := #[]
  cf := some (fileOf pool4 1 #[] #[] 1537 3 #[] #[])
  fields := #[]
  methods := #[]
  instanceTypes := #[]
  staticTypes := #[]
  resolved := Array.replicate 7 none
  statics := none }

def pool5 : Array CpInfo := pool [(2, .class_ 4), (1, u "java/lang/Enum"), (0, u "name"), (0, u "Ljava/lang/String;"), (2, u "ordinal"), (0, u "I"), (1, .class_ 14), (1, u "java/lang/Object"), (4, u "hash"), (86, .class_ 108), (1, u "java/lang/Enum$EnumDesc"), (2, .class_ 112), (0, u "java/lang/constant/Constable"), (0, .class_ 114), (0, u "java/lang/Comparable"), (0, .class_ 116), (0, u "java/io/Serializable")] 87

/-- java/lang/Enum -/
def k5 : Class := { plain "java/lang/Enum" (some 0) with
  accessFlags := 1057
  interfaces := #[2, 3, 4]
  cf := some (fileOf pool5 2 #[.nestMembers #[106]] #[] 1057 12 #[111, 113, 115] #[{ accessFlags := 18, nameIndex := 5, descriptorIndex := 6, attributes := #[] }, { accessFlags := 18, nameIndex := 9, descriptorIndex := 10, attributes := #[] }, { accessFlags := 2, nameIndex := 19, descriptorIndex := 10, attributes := #[] }])
  fields := #[{ name := "name", type := (.object "java/lang/String"), accessFlags := 18, slot := 0, constantValue := 0 }, { name := "ordinal", type := .int, accessFlags := 18, slot := 1, constantValue := 0 }, { name := "hash", type := .int, accessFlags := 2, slot := 2, constantValue := 0 }]
  methods := #[]
  instanceTypes := #[(.object "java/lang/String"), .int, .int]
  staticTypes := #[]
  resolved := Array.replicate 204 none
  statics := none }

def pool6 : Array CpInfo := pool [(1, .class_ 2), (0, u "com/example/stickler/stickler/protocol/ApiKey"), (2, u "METADATA"), (0, u "Lcom/example/stickler/stickler/protocol/ApiKey;"), (2, u "OFFSET_FETCH"), (2, u "FIND_COORDINATOR"), (2, u "API_VERSIONS"), (2, u "CONSUMER_GROUP_HEARTBEAT"), (2, u "$VALUES"), (0, u "[Lcom/example/stickler/stickler/protocol/ApiKey;"), (6, .class_ 31), (1, u "java/lang/Enum"), (8, u "code"), (0, u "S"), (0, .fieldref 1 43), (0, .nameAndType 44 41), (0, u "minVersion"), (0, .fieldref 1 46), (0, .nameAndType 47 41), (0, u "maxVersion"), (2, u "firstFlexibleVersion"), (7, u "(S)Z"), (21, u "serves")] 6

def k6c0 : Code := { maxStack := 2, maxLocals := 2, code := prog_30_method_8_code, exceptionTable := #[], attributes := #[] }
def k6m0 : Method := { name := "serves", desc := "(S)Z", sig := { parameters := [.short], returnType := some .boolean }, accessFlags := 0, code := some k6c0 }
/-- com/example/stickler/stickler/protocol/ApiKey -/
def k6 : Class := { plain "com/example/stickler/stickler/protocol/ApiKey" (some 5) with
  accessFlags := 16432
  interfaces := #[]
  cf := some (fileOf pool6 1 #[] #[{ accessFlags := 0, nameIndex := 80, descriptorIndex := 58, attributes := #[] }] 16432 29 #[] #[{ accessFlags := 16409, nameIndex := 5, descriptorIndex := 6, attributes := #[] }, { accessFlags := 16409, nameIndex := 9, descriptorIndex := 6, attributes := #[] }, { accessFlags := 16409, nameIndex := 12, descriptorIndex := 6, attributes := #[] }, { accessFlags := 16409, nameIndex := 15, descriptorIndex := 6, attributes := #[] }, { accessFlags := 16409, nameIndex := 18, descriptorIndex := 6, attributes := #[] }, { accessFlags := 18, nameIndex := 40, descriptorIndex := 41, attributes := #[] }, { accessFlags := 18, nameIndex := 44, descriptorIndex := 41, attributes := #[] }, { accessFlags := 18, nameIndex := 47, descriptorIndex := 41, attributes := #[] }, { accessFlags := 18, nameIndex := 50, descriptorIndex := 41, attributes := #[] }, { accessFlags := 4122, nameIndex := 21, descriptorIndex := 22, attributes := #[] }])
  fields := #[{ name := "METADATA", type := (.object "com/example/stickler/stickler/protocol/ApiKey"), accessFlags := 16409, slot := 0, constantValue := 0 }, { name := "OFFSET_FETCH", type := (.object "com/example/stickler/stickler/protocol/ApiKey"), accessFlags := 16409, slot := 1, constantValue := 0 }, { name := "FIND_COORDINATOR", type := (.object "com/example/stickler/stickler/protocol/ApiKey"), accessFlags := 16409, slot := 2, constantValue := 0 }, { name := "API_VERSIONS", type := (.object "com/example/stickler/stickler/protocol/ApiKey"), accessFlags := 16409, slot := 3, constantValue := 0 }, { name := "CONSUMER_GROUP_HEARTBEAT", type := (.object "com/example/stickler/stickler/protocol/ApiKey"), accessFlags := 16409, slot := 4, constantValue := 0 }, { name := "code", type := .short, accessFlags := 18, slot := 3, constantValue := 0 }, { name := "minVersion", type := .short, accessFlags := 18, slot := 4, constantValue := 0 }, { name := "maxVersion", type := .short, accessFlags := 18, slot := 5, constantValue := 0 }, { name := "firstFlexibleVersion", type := .short, accessFlags := 18, slot := 6, constantValue := 0 }, { name := "$VALUES", type := (.array (.object "com/example/stickler/stickler/protocol/ApiKey")), accessFlags := 4122, slot := 5, constantValue := 0 }]
  methods := #[k6m0]
  instanceTypes := #[(.object "java/lang/String"), .int, .int, .short, .short, .short, .short]
  staticTypes := #[(.object "com/example/stickler/stickler/protocol/ApiKey"), (.object "com/example/stickler/stickler/protocol/ApiKey"), (.object "com/example/stickler/stickler/protocol/ApiKey"), (.object "com/example/stickler/stickler/protocol/ApiKey"), (.object "com/example/stickler/stickler/protocol/ApiKey"), (.array (.object "com/example/stickler/stickler/protocol/ApiKey"))]
  resolved := Array.replicate 87 none
  statics := some 0 }

def pool7 : Array CpInfo := pool [(1, u "java/lang/Cloneable"), (0, .class_ 1), (0, u "java/lang/Object"), (0, .class_ 3)] 3

/-- java/lang/Cloneable -/
def k7 : Class := { plain "java/lang/Cloneable" (some 0) with
  accessFlags := 1537
  interfaces := #[]
  cf := some (fileOf pool7 2 #[] #[] 1537 4 #[] #[])
  fields := #[]
  methods := #[]
  instanceTypes := #[]
  staticTypes := #[]
  resolved := Array.replicate 8 none
  statics := none }

/-- the primitive byte -/
def k8 : Class := { plain "byte" none with kind := .primitive 'B', accessFlags := 0x411 }
/-- [B -/
def k9 : Class := { plain "[B" (some 0) with kind := .array 8 .byte, interfaces := #[7, 4], accessFlags := 1041 }

/-- the primitive int -/
def k10 : Class := { plain "int" none with kind := .primitive 'I', accessFlags := 0x411 }
/-- [I -/
def k11 : Class := { plain "[I" (some 0) with kind := .array 10 .int, interfaces := #[7, 4], accessFlags := 1041 }

def heap : Heap := #[{ cls := 6, slots := #[.ref 1, .ref 2, .ref 3, .ref 4, .ref 5, .null], vm := .statics 6 },
  { cls := 6, slots := #[.null, .int 0, .int 0, .int 0, .int 12, .int 13, .int 0], vm := .none },
  { cls := 6, slots := #[.null, .int 1, .int 0, .int 1, .int 9, .int 9, .int 0], vm := .none },
  { cls := 6, slots := #[.null, .int 2, .int 0, .int 2, .int 4, .int 6, .int 0], vm := .none },
  { cls := 6, slots := #[.null, .int 3, .int 0, .int 3, .int 0, .int 4, .int 0], vm := .none },
  { cls := 6, slots := #[.null, .int 4, .int 0, .int 4, .int 0, .int 1, .int 0], vm := .none }]
def classes : Array Class := #[k0, k1, k2, k3, k4, k5, k6, k7, k8, k9, k10, k11]
def interned : List (Array UInt16 × Addr) := []
def slotsUsed : Nat := 41
def theMethod : MethodId := ⟨1, 1⟩
def args0 : Array Value := #[.int 5, .int 1]
def aboutOver (below : List Frame) : State where
  vm := { classes := classes, interned := interned.toArray }
  heap := heap
  slotsUsed := slotsUsed
  threads := #[{ frames := .invoking theMethod args0 :: below }]
def below0 : List Frame := [.native { method := ⟨0, 0⟩, args := #[] }]
def about1 : State := aboutOver below0
def p0 : Program := .bare "" "" ""
def e0 : Env := launch0.env 0 0 0
theorem w_frames : about1.frames = Frame.invoking theMethod args0 :: below0 := rfl
set_option maxRecDepth 65536 in
theorem w_args : argsFit about1.vm theMethod args0 = true := by decide +kernel
set_option maxRecDepth 65536 in
theorem w_heap : heapFits about1 = true := by decide +kernel
set_option maxRecDepth 65536 in
theorem w_runnable : about1.curStatus? = some .runnable := by decide +kernel
set_option maxRecDepth 65536 in
theorem w_alone : about1.alone = true := by decide +kernel
set_option maxRecDepth 65536 in
theorem w_named : about1.methodNamed? x = some theMethod := by decide +kernel
set_option maxRecDepth 65536 in
theorem w_hears : about1.hears theMethod below0 = true := by decide +kernel
set_option maxRecDepth 65536 in
theorem w_ripe : about1.ripe theMethod args0 below0 = true := by decide +kernel
theorem w_running : about1.status = .running := rfl
set_option maxRecDepth 65536 in
theorem w_room : about1.hasRoom e0.platform room_1 = true :=
  launch0.hasRoom_least _ room_1 (by decide +kernel) (by decide +kernel) (by decide +kernel) (by decide +kernel) (by decide +kernel) (by decide +kernel)
theorem allAtoms_all (ts : List Jvm.Cond) (a : Array Jvm.Value) (st : Jvm.State) : (allAtoms ts).before a st = ts.all (fun c => c.before a st) := by
  induction ts with
  | nil => rfl
  | cons c t ih =>
    show (Jvm.Cond.and c (allAtoms t)).before a st = _
    rw [Jvm.Cond.before_and, ih, List.all_cons]
def words1 : List Jvm.Cond := Jvm.Cond.code x code maxLocals ret :: tables_1
/-- a 'code' word, met by the world's own term for the bytes: nothing is compared byte by byte -/
theorem code_word {y : MethodName} {bytes : ByteArray} {mx : Nat} {rt : Option FieldType} {a : Array Value} {s : State} {m : MethodId} {meth : Method} {c : Code} (h1 : s.methodNamed? y = some m) (h2 : s.vm.method? m = some meth) (h3 : meth.code = some c) (h4 : c.code = bytes)
    (h5 : (c.maxLocals == mx && c.exceptionTable.isEmpty && decide (c.maxStack ≤ mostOperands) && decide (meth.sig.returnType = rt) && !meth.locks && decide (parseMethodDescriptor y.desc = some meth.sig)) = true) : (Jvm.Cond.code y bytes mx rt).before a s = true := by
  simp only [Bool.and_eq_true, beq_iff_eq, Bool.not_eq_true', decide_eq_true_eq] at h5
  obtain ⟨⟨⟨⟨⟨g1, g2⟩, g3⟩, g4⟩, g5⟩, g6⟩ := h5
  simp [Cond.before, Cond.holds, Cond.value, h1, h2, h3, h4, g1, g2, g3, g4, g5, g6]
def isCode : Jvm.Cond → Bool
  | .code _ _ _ _ => true
  | _ => false
theorem all_split {L : List Jvm.Cond} {P : Jvm.Cond → Bool} (h1 : L.all (fun c => isCode c || P c) = true) (h2 : ∀ c ∈ L.filter isCode, P c = true) : L.all P = true := by
  refine List.all_eq_true.mpr fun c hc => ?_
  have h := List.all_eq_true.mp h1 c hc
  rcases Bool.eq_false_or_eq_true (isCode c) with hi | hi
  · exact h2 c (List.mem_filter.mpr ⟨hc, hi⟩)
  · simpa [hi] using h
set_option maxRecDepth 65536 in
theorem w_c0 : (Jvm.Cond.code x code maxLocals ret).before args0 about1 = true := code_word (m := ⟨1, 1⟩) (meth := k1m1) (c := k1c1) (by decide +kernel) rfl rfl rfl (by decide +kernel)
set_option maxRecDepth 65536 in
theorem w_c1 : (Jvm.Cond.code ({ cls := "com/example/stickler/stickler/protocol/ApiKey", name := "serves", desc := "(S)Z" } : Jvm.MethodName) prog_30_method_8_code (2 : Nat) (Option.some Jvm.ClassFile.FieldType.boolean)).before args0 about1 = true := code_word (m := ⟨6, 0⟩) (meth := k6m0) (c := k6c0) (by decide +kernel) rfl rfl rfl (by decide +kernel)
def codes1 : List Jvm.Cond := [Jvm.Cond.code x code maxLocals ret, Jvm.Cond.code ({ cls := "com/example/stickler/stickler/protocol/ApiKey", name := "serves", desc := "(S)Z" } : Jvm.MethodName) prog_30_method_8_code (2 : Nat) (Option.some Jvm.ClassFile.FieldType.boolean)]
set_option maxRecDepth 65536 in
theorem codes_eq : words1.filter isCode = codes1 := rfl
theorem w_codes : ∀ c ∈ words1.filter isCode, c.before args0 about1 = true := by
  rw [codes_eq]
  intro c hc
  simp only [codes1, List.mem_cons, List.not_mem_nil, or_false] at hc
  rcases hc with rfl | rfl
  · exact w_c0
  · exact w_c1
set_option maxRecDepth 65536 in
theorem w_t1 : words1.all (fun c => isCode c || c.before args0 about1) = true := by decide +kernel
theorem w_tables : (allAtoms (Jvm.Cond.code x code maxLocals ret :: tables_1)).before args0 about1 = true := by
  rw [allAtoms_all]
  show words1.all (fun c => c.before args0 about1) = true
  refine all_split ?_ w_codes
  rw [w_t1]
set_option maxRecDepth 65536 in
theorem w_case : (Jvm.Cond.and given_1 narrow_1).before args0 about1 = true := by decide +kernel
theorem w_applies : (headSpec (Jvm.Cond.code x code maxLocals ret :: tables_1) room_1).applies x e0.platform about1 = true :=
  (Spec.applies_iff w_frames).mpr ⟨w_running, w_runnable, w_alone, w_named, w_hears, w_ripe, w_room, w_tables⟩
theorem atStart : AtStart classFile x code maxLocals ret World_1 tables_1 room_1 Calls_1 rest_1 Pre_1 launch0 p0 e0 about1 theMethod args0 below0 :=
  ⟨lists_1, trivial, launch0.admits_env _ _ _, launch0.least_env, fairChoices_fair.cas, fairChoices_fair.clock, w_frames, w_args, w_heap, w_applies, trivial, trivial, w_case⟩
end start1
theorem witness_1 : WitnessClaimed_1 := ⟨start1.p0, start1.e0, start1.about1, start1.theMethod, start1.args0, start1.below0, start1.atStart⟩
end Jvm.Pilot.@@N@@
