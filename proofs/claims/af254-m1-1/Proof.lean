import JvmDerived
import JvmDerived.Pilot.@@N@@Statement
import JvmDerived.Pilot.@@N@@Code
set_option linter.unusedVariables false
set_option linter.unusedSimpArgs false
namespace Jvm.Pilot.@@N@@
open Jvm Jvm.ClassFile Sem Op Lib Jvm.Free Jvm.Stand Jvm.LawKit Jvm.RoadKit Bundle Jvm.Pilot.@@N@@.Jvm.D
theorem own_g {Z : State} {a0 : Array Value} (hw : ∀ d ∈ tables_1, d.before a0 Z = true) {i : Nat} {d : Jvm.Cond} (h : tables_1[i]? = some d) : d.before a0 Z = true := hw _ (List.mem_of_getElem? h)
/-- the walk from the frame g in the state T comes to an end of which K holds -/
def own_E (p : Program) (e : Env) (below : List Frame) (K : Outcome → State → Prop) (T : State) (g : JFrame) : Prop := ∃ s₂ o, Steps p.tables e below (T.setTop g) s₂ ∧ s₂.status = .running ∧ Ended s₂ below o ∧ K o s₂
def own_K (s : State) (Q : Option Value → Heap → List Loc → Prop) (kc ks : Nat) (o : Outcome) (U : State) : Prop := ∃ v L, o = .returned v ∧ Q v U.heap L ∧ FrameEnd s o U L kc ks
section OwnKit
variable {p : Program} {l : Launch} {e : Env} {R : Room} {s : State} {m : MethodId} {args : Array Value} {below : List Frame} {meth : Method} {c : Code} {T T' : State} {locs : List Loc} {cells slots : Nat} {K : Outcome → State → Prop} {Z : State} {h h' : Heap}
theorem own_S {g : JFrame} (g' : JFrame) (st : ∀ t, Steps p.tables e below (T'.setTop g') t → Steps p.tables e below (T.setTop g) t) (k : own_E p e below K T' g') : own_E p e below K T g := by
  obtain ⟨s₂, o, h1, h2⟩ := k
  exact ⟨s₂, o, st _ h1, h2⟩
theorem own_s {g : JFrame} {t : State} (g' : JFrame) (st : ∀ t, Steps p.tables e below (T'.setTop g') t → Steps p.tables e below (T.setTop g) t) (k : Steps p.tables e below (T'.setTop g') t) : Steps p.tables e below (T.setTop g) t := st t k
theorem own_ret {Q : Option Value → Heap → List Loc → Prop} {kc ks : Nat} (X : Stand p l e R s m args below meth c T locs cells slots) (hx : p.tables.exec = Jvm.exec) (hlk : meth.locks = false) {pc : Nat} {Ls : Array Slot} {w : Value} {t : FieldType} {i : Instr} {rest : List Value} (hret : meth.sig.returnType = some t) (hn : narrow t w = w)
    (hi : (i = .ireturn ∧ (t = .int ∨ t = .boolean ∨ t = .byte ∨ t = .char ∨ t = .short) ∧ ∃ z, w = .int z) ∨ (i = .lreturn ∧ t = .long ∧ ∃ z, w = .long z) ∨ (i = .dreturn ∧ t = .double ∧ ∃ z, w = .double z) ∨ (i = .freturn ∧ t = .float ∧ ∃ z, w = .float z) ∨ (i = .areturn ∧ t.isReference = true ∧ w.isRef = true))
    (hd : decode c.code pc = .ok (i, 1)) (hQ : Q (some w) T.heap locs) (h1 : cells ≤ kc) (h2 : slots ≤ ks) : own_E p e below (own_K s Q kc ks) T (mkF m pc Ls (w :: rest)) := by
  obtain ⟨fs, hr, hrun, hended, hW, hsame⟩ := X.leave (v := some w) (fun h => by rw [hret] at h; cases h) hlk
  exact ⟨_, _, retOut X hx hret hn hi hd hr, hrun, hended, _, _, rfl, hQ, ⟨_, rfl⟩, hW, hsame.mono h1 h2⟩
theorem own_retN {Q : Option Value → Heap → List Loc → Prop} {kc ks : Nat} (X : Stand p l e R s m args below meth c T locs cells slots) (hx : p.tables.exec = Jvm.exec) (hlk : meth.locks = false) {pc : Nat} {Ls : Array Slot} {z : Int32} {t : FieldType} {rest : List Value} (hret : meth.sig.returnType = some t) (ht : t = .boolean ∨ t = .byte ∨ t = .char ∨ t = .short)
    (hd : decode c.code pc = .ok (.ireturn, 1)) (hQ : Q (some (.int (nar t z))) T.heap locs) (h1 : cells ≤ kc) (h2 : slots ≤ ks) : own_E p e below (own_K s Q kc ks) T (mkF m pc Ls (.int z :: rest)) := by
  obtain ⟨fs, hr, hrun, hended, hW, hsame⟩ := X.leave (v := some (.int (nar t z))) (fun h => by rw [hret] at h; cases h) hlk
  exact ⟨_, _, retN X hx hret ht hd hr, hrun, hended, _, _, rfl, hQ, ⟨_, rfl⟩, hW, hsame.mono h1 h2⟩
theorem own_ret0 {Q : Option Value → Heap → List Loc → Prop} {kc ks : Nat} (X : Stand p l e R s m args below meth c T locs cells slots) (hx : p.tables.exec = Jvm.exec) (hlk : meth.locks = false) {pc : Nat} {Ls : Array Slot} (hret : meth.sig.returnType = none)
    (hd : decode c.code pc = .ok (.return_, 1)) (hQ : Q none T.heap locs) (h1 : cells ≤ kc) (h2 : slots ≤ ks) : own_E p e below (own_K s Q kc ks) T (mkF m pc Ls []) := by
  obtain ⟨fs, hr, hrun, hended, hW, hsame⟩ := X.leave (v := none) (fun _ => rfl) hlk
  exact ⟨_, _, X.returnOut hx hret hd hr, hrun, hended, _, _, rfl, hQ, ⟨_, rfl⟩, hW, hsame.mono h1 h2⟩
theorem own_weak (X : Stand p l e R s m args below meth c T locs cells slots) {locs' : List Loc} {kc ks : Nat} (hl : ∀ y ∈ locs, y ∈ locs' ∨ s.heap.size ≤ y.base) (h1 : cells ≤ kc) (h2 : slots ≤ ks) : Stand p l e R s m args below meth c T locs' kc ks :=
  { X with same := (X.same.sift hl).mono h1 h2 }
theorem Sta_keep {C n d : String} {w : Value} {ws : List Addr} {n0 : Nat} (F : Sta Z h C n d w) (K : Keep h h' ws) (hn : ∀ a ∈ ws, ∀ cell : Cell, h[a]? = some cell → cell.vm.isStatics = false) : Sta Z h' C n d w := by
  obtain ⟨cf, i, k, f, st, cell, h1, h2, h3, h4, h5, h6, h7⟩ := F
  exact ⟨cf, i, k, f, st, cell, h1, h2, h3, h4, K.2.1 st cell h5 (fun q => by have := hn st q cell h5; rw [h6] at this; cases this), h6, h7⟩
theorem Ins_keep {a : Addr} {C : String} {b : Bool} {ws : List Addr} (F : Ins Z h a C b) (K : Keep h h' ws) : Ins Z h' a C b := by
  obtain ⟨cell, cT, h1, h2, h3⟩ := F
  obtain ⟨c', q1, q2, q3, -⟩ := K.2.2 a cell h1
  exact ⟨c', cT, q1, h2, by rw [q2, q3]; exact h3⟩
end OwnKit
theorem own_law1 (to sf : Int32) (t0 el dd : Int64) : (if ¬ (to = sf) ∧ ¬ (((t0 + el) - t0) < dd) then (1 : Int32) else (0 : Int32)) = (if to = sf then (0 : Int32) else (if el < dd then (0 : Int32) else (1 : Int32))) := by
  have h : (t0 + el) - t0 = el := by rw [Int64.add_comm, Int64.add_sub_cancel]
  rw [h]
  by_cases h1 : to = sf <;> by_cases h2 : el < dd <;> simp [h1, h2]
theorem own_law2 (sf : Int32) (el dd : Int64) : (if ¬ ((0 : Int32) = sf) ∧ ¬ ((el - (0 : Int64)) < dd) then (1 : Int32) else (0 : Int32)) = (if sf = (0 : Int32) then (0 : Int32) else (if el < dd then (0 : Int32) else (1 : Int32))) := by
  have h : el - (0 : Int64) = el := Int64.sub_zero el
  rw [h]
  by_cases h1 : sf = 0 <;> by_cases h2 : el < dd <;> simp [h1, h2, eq_comm]
abbrev own_y0 : MethodName := ⟨"com/example/lockstep/lockstep/Resend", "<init>", "()V"⟩
abbrev own_y1 : MethodName := ⟨"com/example/lockstep/lockstep/Resend", "overdue", "(IJJ)Z"⟩
abbrev own_y2 : MethodName := ⟨"com/example/lockstep/lockstep/Resend", "sent", "(IJ)V"⟩
theorem d1_0 : decode prog_20_method_1_code 0 = .ok (.aload_n 0, 1) := by decide +kernel
theorem d1_1 : decode prog_20_method_1_code 1 = .ok (.invokespecial 1, 3) := by decide +kernel
theorem d1_4 : decode prog_20_method_1_code 4 = .ok (.return_, 1) := by decide +kernel
theorem own_pn_com_example_lockstep_lockstep_Resend : plainName "com/example/lockstep/lockstep/Resend" = true := by first | (simp [plainName, overriddenIn]; done) | decide +kernel
theorem own_ef_ini (m : MethodId) (y0 : Addr) : entryFrame m #[(.ref y0)] 1 = mkF m 0 #[rv y0] [] := by first | (simp [entryFrame, mkF, argsToLocals, Value.category]; done) | rfl
def own_Qini (Z : State) (a : Addr) (h0 : Heap) (n0 : Nat) (v : Option Value) (h : Heap) (L : List Loc) : Prop := v = none ∧ Fr n0 L ∧ h = h0
set_option maxRecDepth 65536 in
set_option maxHeartbeats 40000000 in
theorem own_rmini (l : Launch) (Z : State) (a0 : Array Value) (hw : ∀ d ∈ tables_1, d.before a0 Z = true) (ws : List Jvm.Cond) (a : Addr) (h0 : Heap) (n0 : Nat) (Z0 : n0 ≤ h0.size)  :
    MetFree l own_y0 (head1 (Jvm.Cond.code own_y0 prog_20_method_1_code 1 none :: ws) ({ frames := 1, cells := 0, slots := 0, locals := 12 } : Room)) (fun az Uz => az = #[(.ref a)] ∧ Z.Warmed39 Uz.vm ∧ Uz.heap = h0) (fun _ _ _ _ _ => True) (fun _ U o U' => ∃ v L, o = .returned v ∧ own_Qini Z a h0 n0 v U'.heap L ∧ FrameEnd U o U' L ({ frames := 1, cells := 0, slots := 0, locals := 12 } : Room).cells ({ frames := 1, cells := 0, slots := 0, locals := 12 } : Room).slots) := by
  refine MetFree.of_bodySF (plainFor_of_name own_pn_com_example_lockstep_lockstep_Resend) hisR ?_
  intro p e s m args below meth c s₁ Bd hml0 hP hK
  obtain ⟨rfl, hZ, hh⟩ := hP
  have hx := Bd.exec
  have hby := Bd.bytes
  have hml : c.maxLocals = 1 := hml0
  have hown : s.vm.findClass "com/example/lockstep/lockstep/Resend" = some m.cls := findClass_of_methodNamed Bd.named
  have hnm := (name_of_methodNamed Bd.named Bd.method).1
  have hlk : meth.locks = false := BodyLoose.notSynchronized Bd
  have hret := Bd.returns
  have X0 : Stand p l e ({ frames := 1, cells := 0, slots := 0, locals := 12 } : Room) s m #[(.ref a)] below meth c s₁ [] 0 0 := Stand.of_body Bd
  have e0 : s₁.heap = h0 := by rw [← hh, Bd.state]; rfl
  have N0 := Fr.nil n0
  show own_E p e below (own_K s (own_Qini Z a h0 n0) ({ frames := 1, cells := 0, slots := 0, locals := 12 } : Room).cells ({ frames := 1, cells := 0, slots := 0, locals := 12 } : Room).slots) s₁ (entryFrame m #[(.ref a)] 1)
  refine own_S (mkF m 0 #[rv a] []) (fun _ k => castTop (own_ef_ini m (a)) k) ?_
  refine own_S (mkF m 1 #[rv a] [(.ref a)]) (fun _ k => XS.aloadN X0.here hx rfl (hb hby d1_0) rfl rfl k) ?_
  obtain ⟨T1, X1, e1, st1⟩ := initO X0 hx hZ hown (own_g hw (i := 6) rfl) (own_g hw (i := 7) rfl) (own_g hw (i := 8) rfl) e0 (g := (mkF m 1 #[rv a] [(.ref a)])) rfl (by rw [hml]; rfl) rfl (hb hby d1_1) (by decide) (W := 0) (by show 2 * 0 + _ ≤ _; exact Nat.le_of_eq rfl) (by decide)
  refine own_S (mkF m 4 #[rv a] []) st1 ?_
  exact own_ret0 X1 hx hlk hret (hb hby d1_4) (by rw [e1]; exact ⟨rfl, N0, rfl⟩) (by decide) (by decide)
theorem d3_0 : decode prog_20_method_3_code 0 = .ok (.aload_n 0, 1) := by decide +kernel
theorem d3_1 : decode prog_20_method_3_code 1 = .ok (.getfield 7, 3) := by decide +kernel
theorem d3_4 : decode prog_20_method_3_code 4 = .ok (.iload_n 1, 1) := by decide +kernel
theorem d3_5 : decode prog_20_method_3_code 5 = .ok (.if_icmp .eq 19, 3) := by decide +kernel
theorem d3_8 : decode prog_20_method_3_code 8 = .ok (.lload_n 2, 1) := by decide +kernel
theorem d3_9 : decode prog_20_method_3_code 9 = .ok (.aload_n 0, 1) := by decide +kernel
theorem d3_10 : decode prog_20_method_3_code 10 = .ok (.getfield 13, 3) := by decide +kernel
theorem d3_13 : decode prog_20_method_3_code 13 = .ok (.lsub, 1) := by decide +kernel
theorem d3_14 : decode prog_20_method_3_code 14 = .ok (.lload 4, 2) := by decide +kernel
theorem d3_16 : decode prog_20_method_3_code 16 = .ok (.lcmp, 1) := by decide +kernel
theorem d3_17 : decode prog_20_method_3_code 17 = .ok (.ifCond .lt 7, 3) := by decide +kernel
theorem d3_20 : decode prog_20_method_3_code 20 = .ok (.iconst 1, 1) := by decide +kernel
theorem d3_21 : decode prog_20_method_3_code 21 = .ok (.goto 4, 3) := by decide +kernel
theorem d3_24 : decode prog_20_method_3_code 24 = .ok (.iconst 0, 1) := by decide +kernel
theorem d3_25 : decode prog_20_method_3_code 25 = .ok (.ireturn, 1) := by decide +kernel
theorem own_ef_ov (m : MethodId) (y0 : Addr) (y1 : Int32) (y2 : Int64) (y3 : Int64) : entryFrame m #[(.ref y0), (.int y1), (.long y2), (.long y3)] 6 = mkF m 0 #[rv y0, iv y1, .val (.long y2), .second, .val (.long y3), .second] [] := by first | (simp [entryFrame, mkF, argsToLocals, Value.category]; done) | rfl
def own_Qov (Z : State) (a : Addr) (x : Int32) (n : Int64) (d : Int64) (u : Int32) (t : Int64) (h0 : Heap) (n0 : Nat) (v : Option Value) (h : Heap) (L : List Loc) : Prop := v = some (.int (if ¬ (u = x) ∧ ¬ ((n - t) < d) then (1 : Int32) else (0 : Int32))) ∧ Fr n0 L ∧ h = h0
set_option maxRecDepth 65536 in
set_option maxHeartbeats 40000000 in
theorem own_rmov (l : Launch) (Z : State) (a0 : Array Value) (hw : ∀ d ∈ tables_1, d.before a0 Z = true) (ws : List Jvm.Cond) (a : Addr) (x : Int32) (n : Int64) (d : Int64) (u : Int32) (t : Int64) (h0 : Heap) (n0 : Nat) (Z0 : n0 ≤ h0.size) (P0 : Fld Z h0 a "com/example/lockstep/lockstep/Resend" "sentTo" "I" (.int u)) (P1 : Fld Z h0 a "com/example/lockstep/lockstep/Resend" "sentAt" "J" (.long t)) :
    MetFree l own_y1 (head1 (Jvm.Cond.code own_y1 prog_20_method_3_code 6 (some .boolean) :: ws) ({ frames := 0, cells := 0, slots := 0, locals := 0 } : Room)) (fun az Uz => az = #[(.ref a), (.int x), (.long n), (.long d)] ∧ Z.Warmed39 Uz.vm ∧ Uz.heap = h0) (fun _ _ _ _ _ => True) (fun _ U o U' => ∃ v L, o = .returned v ∧ own_Qov Z a x n d u t h0 n0 v U'.heap L ∧ FrameEnd U o U' L ({ frames := 0, cells := 0, slots := 0, locals := 0 } : Room).cells ({ frames := 0, cells := 0, slots := 0, locals := 0 } : Room).slots) := by
  refine MetFree.of_bodySF (plainFor_of_name own_pn_com_example_lockstep_lockstep_Resend) hisR ?_
  intro p e s m args below meth c s₁ Bd hml0 hP hK
  obtain ⟨rfl, hZ, hh⟩ := hP
  have hx := Bd.exec
  have hby := Bd.bytes
  have hml : c.maxLocals = 6 := hml0
  have hown : s.vm.findClass "com/example/lockstep/lockstep/Resend" = some m.cls := findClass_of_methodNamed Bd.named
  have hnm := (name_of_methodNamed Bd.named Bd.method).1
  have hlk : meth.locks = false := BodyLoose.notSynchronized Bd
  have hret := Bd.returns
  have X0 : Stand p l e ({ frames := 0, cells := 0, slots := 0, locals := 0 } : Room) s m #[(.ref a), (.int x), (.long n), (.long d)] below meth c s₁ [] 0 0 := Stand.of_body Bd
  have e0 : s₁.heap = h0 := by rw [← hh, Bd.state]; rfl
  have N0 := Fr.nil n0
  show own_E p e below (own_K s (own_Qov Z a x n d u t h0 n0) ({ frames := 0, cells := 0, slots := 0, locals := 0 } : Room).cells ({ frames := 0, cells := 0, slots := 0, locals := 0 } : Room).slots) s₁ (entryFrame m #[(.ref a), (.int x), (.long n), (.long d)] 6)
  refine own_S (mkF m 0 #[rv a, iv x, .val (.long n), .second, .val (.long d), .second] []) (fun _ k => castTop (own_ef_ov m (a) (x) (n) (d)) k) ?_
  refine own_S (mkF m 1 #[rv a, iv x, .val (.long n), .second, .val (.long d), .second] [(.ref a)]) (fun _ k => XS.aloadN X0.here hx rfl (hb hby d3_0) rfl rfl k) ?_
  obtain ⟨T1, X1, e1, st1⟩ := getF X0 hx hZ hown (host := "") (Or.inl (own_g hw (i := 14) rfl)) Via.refl e0 P0 (g := (mkF m 1 #[rv a, iv x, .val (.long n), .second, .val (.long d), .second] [(.ref a)])) rfl rfl (hb hby d3_1)
  refine own_S (mkF m 4 #[rv a, iv x, .val (.long n), .second, .val (.long d), .second] [(.int u)]) st1 ?_
  refine own_S (mkF m 5 #[rv a, iv x, .val (.long n), .second, .val (.long d), .second] [(.int x), (.int u)]) (fun _ k => XS.iloadN X1.here hx rfl (hb hby d3_4) rfl k) ?_
  by_cases h1 : u = x
  · -- u = x
    refine own_S (mkF m 24 #[rv a, iv x, .val (.long n), .second, .val (.long d), .second] []) (fun _ k => XS.icmpYes X1.here hx rfl (pc0 := 5) (pc' := 24) rfl (hb hby d3_5) rfl (teq h1).1 (by decide) (by decide) k) ?_
    refine own_S (mkF m 25 #[rv a, iv x, .val (.long n), .second, .val (.long d), .second] [(.int 0)]) (fun _ k => XS.iconst X1.here hx rfl (hb hby d3_24) k) ?_
    exact own_retN X1 hx hlk (t := .boolean) hret (by simp) (hb hby d3_25) (by rw [e1]; exact ⟨(by rw [if_neg (fun q => q.1 h1)]; rfl), N0, rfl⟩) (by decide) (by decide)
  · -- not u = x
    refine own_S (mkF m 8 #[rv a, iv x, .val (.long n), .second, .val (.long d), .second] []) (fun _ k => XS.icmpNo X1.here hx rfl (hb hby d3_5) rfl (feq h1).1 k) ?_
    refine own_S (mkF m 9 #[rv a, iv x, .val (.long n), .second, .val (.long d), .second] [(.long n)]) (fun _ k => XS.lloadN X1.here hx rfl (hb hby d3_8) rfl k) ?_
    refine own_S (mkF m 10 #[rv a, iv x, .val (.long n), .second, .val (.long d), .second] [(.ref a), (.long n)]) (fun _ k => XS.aloadN X1.here hx rfl (hb hby d3_9) rfl rfl k) ?_
    obtain ⟨T2, X2, e2, st2⟩ := getF X1 hx hZ hown (host := "") (Or.inl (own_g hw (i := 22) rfl)) Via.refl e1 P1 (g := (mkF m 10 #[rv a, iv x, .val (.long n), .second, .val (.long d), .second] [(.ref a), (.long n)])) rfl rfl (hb hby d3_10)
    refine own_S (mkF m 13 #[rv a, iv x, .val (.long n), .second, .val (.long d), .second] [(.long t), (.long n)]) st2 ?_
    refine own_S (mkF m 14 #[rv a, iv x, .val (.long n), .second, .val (.long d), .second] [(.long (n - t))]) (fun _ k => XS.lsub X2.here hx rfl (hb hby d3_13) rfl k) ?_
    refine own_S (mkF m 16 #[rv a, iv x, .val (.long n), .second, .val (.long d), .second] [(.long d), (.long (n - t))]) (fun _ k => XS.lload X2.here hx rfl (hb hby d3_14) rfl k) ?_
    refine own_S (mkF m 17 #[rv a, iv x, .val (.long n), .second, .val (.long d), .second] [(.int (lcmpW (n - t) d))]) (fun _ k => XS.lcmp X2.here hx rfl (hb hby d3_16) rfl k) ?_
    by_cases h2 : (n - t) < d
    · -- (n - t) < d
      refine own_S (mkF m 24 #[rv a, iv x, .val (.long n), .second, .val (.long d), .second] []) (fun _ k => XS.ifYes X2.here hx rfl (pc0 := 17) (pc' := 24) rfl (hb hby d3_17) rfl ((if0 _ _).trans (tlt ((lw_lt (n - t) d).mpr h2)).1) (by decide) (by decide) k) ?_
      refine own_S (mkF m 25 #[rv a, iv x, .val (.long n), .second, .val (.long d), .second] [(.int 0)]) (fun _ k => XS.iconst X2.here hx rfl (hb hby d3_24) k) ?_
      exact own_retN X2 hx hlk (t := .boolean) hret (by simp) (hb hby d3_25) (by rw [e2]; exact ⟨(by rw [if_neg (fun q => q.2 h2)]; rfl), N0, rfl⟩) (by decide) (by decide)
    · -- not (n - t) < d
      refine own_S (mkF m 20 #[rv a, iv x, .val (.long n), .second, .val (.long d), .second] []) (fun _ k => XS.ifNo X2.here hx rfl (hb hby d3_17) rfl ((if0 _ _).trans (flt (fun q => h2 ((lw_lt (n - t) d).mp q))).1) k) ?_
      refine own_S (mkF m 21 #[rv a, iv x, .val (.long n), .second, .val (.long d), .second] [(.int 1)]) (fun _ k => XS.iconst X2.here hx rfl (hb hby d3_20) k) ?_
      refine own_S (mkF m 25 #[rv a, iv x, .val (.long n), .second, .val (.long d), .second] [(.int 1)]) (fun _ k => XS.goto X2.here hx rfl (pc0 := 21) (pc' := 25) rfl (hb hby d3_21) (by decide) (by decide) k) ?_
      exact own_retN X2 hx hlk (t := .boolean) hret (by simp) (hb hby d3_25) (by rw [e2]; exact ⟨(by rw [if_pos ⟨h1, h2⟩]; rfl), N0, rfl⟩) (by decide) (by decide)
theorem d4_0 : decode prog_20_method_2_code 0 = .ok (.aload_n 0, 1) := by decide +kernel
theorem d4_1 : decode prog_20_method_2_code 1 = .ok (.iload_n 1, 1) := by decide +kernel
theorem d4_2 : decode prog_20_method_2_code 2 = .ok (.putfield 7, 3) := by decide +kernel
theorem d4_5 : decode prog_20_method_2_code 5 = .ok (.aload_n 0, 1) := by decide +kernel
theorem d4_6 : decode prog_20_method_2_code 6 = .ok (.lload_n 2, 1) := by decide +kernel
theorem d4_7 : decode prog_20_method_2_code 7 = .ok (.putfield 13, 3) := by decide +kernel
theorem d4_10 : decode prog_20_method_2_code 10 = .ok (.return_, 1) := by decide +kernel
theorem own_ef_se (m : MethodId) (y0 : Addr) (y1 : Int32) (y2 : Int64) : entryFrame m #[(.ref y0), (.int y1), (.long y2)] 4 = mkF m 0 #[rv y0, iv y1, .val (.long y2), .second] [] := by first | (simp [entryFrame, mkF, argsToLocals, Value.category]; done) | rfl
def own_Qse (Z : State) (a : Addr) (x : Int32) (t : Int64) (u1 : Value) (u2 : Value) (h0 : Heap) (n0 : Nat) (v : Option Value) (h : Heap) (L : List Loc) : Prop := v = none ∧ Fr n0 L ∧ Keep h0 h [a] ∧ Exa Z h a "com/example/lockstep/lockstep/Resend" ∧ Fld Z h a "com/example/lockstep/lockstep/Resend" "sentTo" "I" (.int x) ∧ Fld Z h a "com/example/lockstep/lockstep/Resend" "sentAt" "J" (.long t)
set_option maxRecDepth 65536 in
set_option maxHeartbeats 40000000 in
theorem own_rmse (l : Launch) (Z : State) (a0 : Array Value) (hw : ∀ d ∈ tables_1, d.before a0 Z = true) (ws : List Jvm.Cond) (a : Addr) (x : Int32) (t : Int64) (u1 : Value) (u2 : Value) (h0 : Heap) (n0 : Nat) (Z0 : n0 ≤ h0.size) (P0 : Exa Z h0 a "com/example/lockstep/lockstep/Resend") (P1 : Fld Z h0 a "com/example/lockstep/lockstep/Resend" "sentTo" "I" u1) (P2 : Fld Z h0 a "com/example/lockstep/lockstep/Resend" "sentAt" "J" u2) (G_a : n0 ≤ a) :
    MetFree l own_y2 (head1 (Jvm.Cond.code own_y2 prog_20_method_2_code 4 none :: ws) ({ frames := 0, cells := 0, slots := 0, locals := 0 } : Room)) (fun az Uz => az = #[(.ref a), (.int x), (.long t)] ∧ Z.Warmed39 Uz.vm ∧ Uz.heap = h0) (fun _ _ _ _ _ => True) (fun _ U o U' => ∃ v L, o = .returned v ∧ own_Qse Z a x t u1 u2 h0 n0 v U'.heap L ∧ FrameEnd U o U' L ({ frames := 0, cells := 0, slots := 0, locals := 0 } : Room).cells ({ frames := 0, cells := 0, slots := 0, locals := 0 } : Room).slots) := by
  refine MetFree.of_bodySF (plainFor_of_name own_pn_com_example_lockstep_lockstep_Resend) hisR ?_
  intro p e s m args below meth c s₁ Bd hml0 hP hK
  obtain ⟨rfl, hZ, hh⟩ := hP
  have hx := Bd.exec
  have hby := Bd.bytes
  have hml : c.maxLocals = 4 := hml0
  have hown : s.vm.findClass "com/example/lockstep/lockstep/Resend" = some m.cls := findClass_of_methodNamed Bd.named
  have hnm := (name_of_methodNamed Bd.named Bd.method).1
  have hlk : meth.locks = false := BodyLoose.notSynchronized Bd
  have hret := Bd.returns
  have X0 : Stand p l e ({ frames := 0, cells := 0, slots := 0, locals := 0 } : Room) s m #[(.ref a), (.int x), (.long t)] below meth c s₁ [] 0 0 := Stand.of_body Bd
  have e0 : s₁.heap = h0 := by rw [← hh, Bd.state]; rfl
  have N0 := Fr.nil n0
  show own_E p e below (own_K s (own_Qse Z a x t u1 u2 h0 n0) ({ frames := 0, cells := 0, slots := 0, locals := 0 } : Room).cells ({ frames := 0, cells := 0, slots := 0, locals := 0 } : Room).slots) s₁ (entryFrame m #[(.ref a), (.int x), (.long t)] 4)
  refine own_S (mkF m 0 #[rv a, iv x, .val (.long t), .second] []) (fun _ k => castTop (own_ef_se m (a) (x) (t)) k) ?_
  refine own_S (mkF m 1 #[rv a, iv x, .val (.long t), .second] [(.ref a)]) (fun _ k => XS.aloadN X0.here hx rfl (hb hby d4_0) rfl rfl k) ?_
  refine own_S (mkF m 2 #[rv a, iv x, .val (.long t), .second] [(.int x), (.ref a)]) (fun _ k => XS.iloadN X0.here hx rfl (hb hby d4_1) rfl k) ?_
  obtain ⟨T1, h1, X1, e1, W1, st1⟩ := putF X0 hx hZ hown (host := "") (Or.inl (own_g hw (i := 14) rfl)) Via.refl e0 P1 P0 (Or.inl (own_g hw (i := 15) rfl)) (own_g hw (i := 1) rfl) (ty := .int) (by decide) rfl rfl (g := (mkF m 2 #[rv a, iv x, .val (.long t), .second] [(.int x), (.ref a)])) rfl rfl (hb hby d4_2)
  refine own_S (mkF m 5 #[rv a, iv x, .val (.long t), .second] []) st1 ?_
  have F2 := P0.wr W1
  have F3 := P1.same W1
  have F4 := P2.other W1 (Or.inr (slot_ne (Or.inl (own_g hw (i := 23) rfl)) (Or.inl (own_g hw (i := 15) rfl)) (by decide) (t := .long) (t' := .int) (by decide) (by decide)))
  have N1 := Fr.snoc X1 N0 G_a
  have Z1 : n0 ≤ h1.size := by rw [Wr.size W1]; exact Z0
  have K1 : Keep h0 h1 [a] := (Keep.refl _ _).wr W1 (Or.inl (List.mem_of_getElem? (i := 0) rfl))
  refine own_S (mkF m 6 #[rv a, iv x, .val (.long t), .second] [(.ref a)]) (fun _ k => XS.aloadN X1.here hx rfl (hb hby d4_5) rfl rfl k) ?_
  refine own_S (mkF m 7 #[rv a, iv x, .val (.long t), .second] [(.long t), (.ref a)]) (fun _ k => XS.lloadN X1.here hx rfl (hb hby d4_6) rfl k) ?_
  obtain ⟨T5, h5, X5, e5, W5, st5⟩ := putF X1 hx hZ hown (host := "") (Or.inl (own_g hw (i := 22) rfl)) Via.refl e1 F4 F2 (Or.inl (own_g hw (i := 23) rfl)) (own_g hw (i := 1) rfl) (ty := .long) (by decide) rfl rfl (g := (mkF m 7 #[rv a, iv x, .val (.long t), .second] [(.long t), (.ref a)])) rfl rfl (hb hby d4_7)
  refine own_S (mkF m 10 #[rv a, iv x, .val (.long t), .second] []) st5 ?_
  have F6 := F2.wr W5
  have F7 := F3.other W5 (Or.inr (slot_ne (Or.inl (own_g hw (i := 15) rfl)) (Or.inl (own_g hw (i := 23) rfl)) (by decide) (t := .int) (t' := .long) (by decide) (by decide)))
  have F8 := F4.same W5
  have N5 := Fr.snoc X5 N1 G_a
  have Z5 : n0 ≤ h5.size := by rw [Wr.size W5]; exact Z1
  have K5 : Keep h0 h5 [a] := K1.wr W5 (Or.inl (List.mem_of_getElem? (i := 0) rfl))
  exact own_ret0 X5 hx hlk hret (hb hby d4_10) (by rw [e5]; exact ⟨rfl, N5, K5, F6, F7, F8⟩) (by decide) (by decide)
theorem own_pd___V : parseMethodDescriptor "()V" = some ⟨[], none⟩ := by decide +kernel
theorem own_pd__IJJ_Z : parseMethodDescriptor "(IJJ)Z" = some ⟨[.int, .long, .long], (some .boolean)⟩ := by decide +kernel
theorem own_pd__IJ_V : parseMethodDescriptor "(IJ)V" = some ⟨[.int, .long], none⟩ := by decide +kernel
theorem own_pn_com_example_lockstep_lockstep_ResendOverduePinLaw : plainName "com/example/lockstep/lockstep/ResendOverduePinLaw" = true := by first | (simp [plainName, overriddenIn]; done) | decide +kernel
theorem own_ef_law (m : MethodId) (y0 : Int32) (y1 : Int32) (y2 : Int64) (y3 : Int64) (y4 : Int64) (y5 : Int32) : entryFrame m #[(.int y0), (.int y1), (.long y2), (.long y3), (.long y4), (.int y5)] maxLocals = mkF m 0 #[iv y0, iv y1, .val (.long y2), .second, .val (.long y3), .second, .val (.long y4), .second, iv y5, .unset, .unset, .unset, .unset, .unset, .unset, .unset, .unset, .unset, .unset, .unset] [] := by first | (simp [entryFrame, mkF, argsToLocals, Value.category, maxLocals]; done) | rfl
def own_Qlaw (Z : State) (to : Int32) (si : Int32) (t0 : Int64) (el : Int64) (di : Int64) (fg : Int32) (h0 : Heap) (n0 : Nat) (v : Option Value) (h : Heap) (L : List Loc) : Prop := v = some (.int 1) ∧ Fr n0 L ∧ True
set_option maxRecDepth 65536 in
set_option maxHeartbeats 40000000 in
theorem own_rmlaw (l : Launch) (Z : State) (a0 : Array Value) (hw : ∀ d ∈ tables_1, d.before a0 Z = true) (ws : List Jvm.Cond) (to : Int32) (si : Int32) (t0 : Int64) (el : Int64) (di : Int64) (fg : Int32) (h0 : Heap) (n0 : Nat) (Z0 : n0 ≤ h0.size)  :
    MetFree l x (head1 (Jvm.Cond.code x code maxLocals ret :: ws) room_1) (fun az Uz => az = #[(.int to), (.int si), (.long t0), (.long el), (.long di), (.int fg)] ∧ Z.Warmed39 Uz.vm ∧ Uz.heap = h0) (fun _ _ _ _ _ => True) (fun _ U o U' => ∃ v L, o = .returned v ∧ own_Qlaw Z to si t0 el di fg h0 n0 v U'.heap L ∧ FrameEnd U o U' L room_1.cells room_1.slots) := by
  refine MetFree.of_bodySF (plainFor_of_name own_pn_com_example_lockstep_lockstep_ResendOverduePinLaw) hisR ?_
  intro p e s m args below meth c s₁ Bd hml0 hP hK
  obtain ⟨rfl, hZ, hh⟩ := hP
  have hx := Bd.exec
  have hby := Bd.bytes
  have hml : c.maxLocals = 20 := hml0
  have hown : s.vm.findClass "com/example/lockstep/lockstep/ResendOverduePinLaw" = some m.cls := findClass_of_methodNamed Bd.named
  have hnm := (name_of_methodNamed Bd.named Bd.method).1
  have hlk : meth.locks = false := BodyLoose.notSynchronized Bd
  have hret := Bd.returns
  have X0 : Stand p l e room_1 s m #[(.int to), (.int si), (.long t0), (.long el), (.long di), (.int fg)] below meth c s₁ [] 0 0 := Stand.of_body Bd
  have e0 : s₁.heap = h0 := by rw [← hh, Bd.state]; rfl
  have N0 := Fr.nil n0
  show own_E p e below (own_K s (own_Qlaw Z to si t0 el di fg h0 n0) room_1.cells room_1.slots) s₁ (entryFrame m #[(.int to), (.int si), (.long t0), (.long el), (.long di), (.int fg)] maxLocals)
  refine own_S (mkF m 0 #[iv to, iv si, .val (.long t0), .second, .val (.long el), .second, .val (.long di), .second, iv fg, .unset, .unset, .unset, .unset, .unset, .unset, .unset, .unset, .unset, .unset, .unset] []) (fun _ k => castTop (own_ef_law m (to) (si) (t0) (el) (di) (fg)) k) ?_
  refine own_S (mkF m 2 #[iv to, iv si, .val (.long t0), .second, .val (.long el), .second, .val (.long di), .second, iv fg, .unset, .unset, .unset, .unset, .unset, .unset, .unset, .unset, .unset, .unset, .unset] [(.int fg)]) (fun _ k => XS.iload X0.here hx rfl (hb hby at_0) rfl k) ?_
  refine own_S (mkF m 3 #[iv to, iv si, .val (.long t0), .second, .val (.long el), .second, .val (.long di), .second, iv fg, .unset, .unset, .unset, .unset, .unset, .unset, .unset, .unset, .unset, .unset, .unset] [(.int 1), (.int fg)]) (fun _ k => XS.iconst X0.here hx rfl (hb hby at_2) k) ?_
  refine own_S (mkF m 4 #[iv to, iv si, .val (.long t0), .second, .val (.long el), .second, .val (.long di), .second, iv fg, .unset, .unset, .unset, .unset, .unset, .unset, .unset, .unset, .unset, .unset, .unset] [(.int (fg &&& (1 : Int32)))]) (fun _ k => XS.iand X0.here hx rfl (hb hby at_3) rfl k) ?_
  obtain ⟨sf, h_sf⟩ : ∃ z : Int32, z = (if (fg &&& (1 : Int32)) = (0 : Int32) then si else to) := ⟨_, rfl⟩
  refine own_S (T' := s₁) (mkF m 12 #[iv to, iv si, .val (.long t0), .second, .val (.long el), .second, .val (.long di), .second, iv fg, .unset, .unset, .unset, .unset, .unset, .unset, .unset, .unset, .unset, .unset, .unset] [(.int sf)]) (fun _ k => ?_) ?_
  ·
    by_cases hj1 : (fg &&& (1 : Int32)) = (0 : Int32)
    ·
      refine own_s (mkF m 11 #[iv to, iv si, .val (.long t0), .second, .val (.long el), .second, .val (.long di), .second, iv fg, .unset, .unset, .unset, .unset, .unset, .unset, .unset, .unset, .unset, .unset, .unset] []) (fun _ k => XS.ifYes X0.here hx rfl (pc0 := 4) (pc' := 11) rfl (hb hby at_4) rfl ((if0 _ _).trans (teq hj1).1) (by decide) (by decide) k) ?_
      refine own_s (mkF m 12 #[iv to, iv si, .val (.long t0), .second, .val (.long el), .second, .val (.long di), .second, iv fg, .unset, .unset, .unset, .unset, .unset, .unset, .unset, .unset, .unset, .unset, .unset] [(.int si)]) (fun _ k => XS.iloadN X0.here hx rfl (hb hby at_11) rfl k) ?_
      rw [show sf = si from by rw [h_sf, if_pos hj1]] at k
      exact k
    ·
      refine own_s (mkF m 7 #[iv to, iv si, .val (.long t0), .second, .val (.long el), .second, .val (.long di), .second, iv fg, .unset, .unset, .unset, .unset, .unset, .unset, .unset, .unset, .unset, .unset, .unset] []) (fun _ k => XS.ifNo X0.here hx rfl (hb hby at_4) rfl ((if0 _ _).trans (feq hj1).1) k) ?_
      refine own_s (mkF m 8 #[iv to, iv si, .val (.long t0), .second, .val (.long el), .second, .val (.long di), .second, iv fg, .unset, .unset, .unset, .unset, .unset, .unset, .unset, .unset, .unset, .unset, .unset] [(.int to)]) (fun _ k => XS.iloadN X0.here hx rfl (hb hby at_7) rfl k) ?_
      refine own_s (mkF m 12 #[iv to, iv si, .val (.long t0), .second, .val (.long el), .second, .val (.long di), .second, iv fg, .unset, .unset, .unset, .unset, .unset, .unset, .unset, .unset, .unset, .unset, .unset] [(.int to)]) (fun _ k => XS.goto X0.here hx rfl (pc0 := 8) (pc' := 12) rfl (hb hby at_8) (by decide) (by decide) k) ?_
      rw [show sf = to from by rw [h_sf, if_neg hj1]] at k
      exact k
  refine own_S (mkF m 14 #[iv to, iv si, .val (.long t0), .second, .val (.long el), .second, .val (.long di), .second, iv fg, iv sf, .unset, .unset, .unset, .unset, .unset, .unset, .unset, .unset, .unset, .unset] []) (fun _ k => XS.istore X0.here hx rfl (hb hby at_12) rfl (l' := #[iv to, iv si, .val (.long t0), .second, .val (.long el), .second, .val (.long di), .second, iv fg, iv sf, .unset, .unset, .unset, .unset, .unset, .unset, .unset, .unset, .unset, .unset]) rfl k) ?_
  refine own_S (mkF m 16 #[iv to, iv si, .val (.long t0), .second, .val (.long el), .second, .val (.long di), .second, iv fg, iv sf, .unset, .unset, .unset, .unset, .unset, .unset, .unset, .unset, .unset, .unset] [(.int fg)]) (fun _ k => XS.iload X0.here hx rfl (hb hby at_14) rfl k) ?_
  refine own_S (mkF m 17 #[iv to, iv si, .val (.long t0), .second, .val (.long el), .second, .val (.long di), .second, iv fg, iv sf, .unset, .unset, .unset, .unset, .unset, .unset, .unset, .unset, .unset, .unset] [(.int 2), (.int fg)]) (fun _ k => XS.iconst X0.here hx rfl (hb hby at_16) k) ?_
  refine own_S (mkF m 18 #[iv to, iv si, .val (.long t0), .second, .val (.long el), .second, .val (.long di), .second, iv fg, iv sf, .unset, .unset, .unset, .unset, .unset, .unset, .unset, .unset, .unset, .unset] [(.int (fg &&& (2 : Int32)))]) (fun _ k => XS.iand X0.here hx rfl (hb hby at_17) rfl k) ?_
  obtain ⟨dd, h_dd⟩ : ∃ z : Int64, z = (if (fg &&& (2 : Int32)) = (0 : Int32) then di else (el - (((((fg).toUInt32 >>> ((2 : Int32) &&& 31).toUInt32).toInt32 &&& (1 : Int32))).toInt64))) := ⟨_, rfl⟩
  refine own_S (T' := s₁) (mkF m 36 #[iv to, iv si, .val (.long t0), .second, .val (.long el), .second, .val (.long di), .second, iv fg, iv sf, .unset, .unset, .unset, .unset, .unset, .unset, .unset, .unset, .unset, .unset] [(.long dd)]) (fun _ k => ?_) ?_
  ·
    by_cases hj2 : (fg &&& (2 : Int32)) = (0 : Int32)
    ·
      refine own_s (mkF m 34 #[iv to, iv si, .val (.long t0), .second, .val (.long el), .second, .val (.long di), .second, iv fg, iv sf, .unset, .unset, .unset, .unset, .unset, .unset, .unset, .unset, .unset, .unset] []) (fun _ k => XS.ifYes X0.here hx rfl (pc0 := 18) (pc' := 34) rfl (hb hby at_18) rfl ((if0 _ _).trans (teq hj2).1) (by decide) (by decide) k) ?_
      refine own_s (mkF m 36 #[iv to, iv si, .val (.long t0), .second, .val (.long el), .second, .val (.long di), .second, iv fg, iv sf, .unset, .unset, .unset, .unset, .unset, .unset, .unset, .unset, .unset, .unset] [(.long di)]) (fun _ k => XS.lload X0.here hx rfl (hb hby at_34) rfl k) ?_
      rw [show dd = di from by rw [h_dd, if_pos hj2]] at k
      exact k
    ·
      refine own_s (mkF m 21 #[iv to, iv si, .val (.long t0), .second, .val (.long el), .second, .val (.long di), .second, iv fg, iv sf, .unset, .unset, .unset, .unset, .unset, .unset, .unset, .unset, .unset, .unset] []) (fun _ k => XS.ifNo X0.here hx rfl (hb hby at_18) rfl ((if0 _ _).trans (feq hj2).1) k) ?_
      refine own_s (mkF m 23 #[iv to, iv si, .val (.long t0), .second, .val (.long el), .second, .val (.long di), .second, iv fg, iv sf, .unset, .unset, .unset, .unset, .unset, .unset, .unset, .unset, .unset, .unset] [(.long el)]) (fun _ k => XS.lload X0.here hx rfl (hb hby at_21) rfl k) ?_
      refine own_s (mkF m 25 #[iv to, iv si, .val (.long t0), .second, .val (.long el), .second, .val (.long di), .second, iv fg, iv sf, .unset, .unset, .unset, .unset, .unset, .unset, .unset, .unset, .unset, .unset] [(.int fg), (.long el)]) (fun _ k => XS.iload X0.here hx rfl (hb hby at_23) rfl k) ?_
      refine own_s (mkF m 26 #[iv to, iv si, .val (.long t0), .second, .val (.long el), .second, .val (.long di), .second, iv fg, iv sf, .unset, .unset, .unset, .unset, .unset, .unset, .unset, .unset, .unset, .unset] [(.int 2), (.int fg), (.long el)]) (fun _ k => XS.iconst X0.here hx rfl (hb hby at_25) k) ?_
      refine own_s (mkF m 27 #[iv to, iv si, .val (.long t0), .second, .val (.long el), .second, .val (.long di), .second, iv fg, iv sf, .unset, .unset, .unset, .unset, .unset, .unset, .unset, .unset, .unset, .unset] [(.int ((fg).toUInt32 >>> ((2 : Int32) &&& 31).toUInt32).toInt32), (.long el)]) (fun _ k => XS.iushr X0.here hx rfl (hb hby at_26) rfl k) ?_
      refine own_s (mkF m 28 #[iv to, iv si, .val (.long t0), .second, .val (.long el), .second, .val (.long di), .second, iv fg, iv sf, .unset, .unset, .unset, .unset, .unset, .unset, .unset, .unset, .unset, .unset] [(.int 1), (.int ((fg).toUInt32 >>> ((2 : Int32) &&& 31).toUInt32).toInt32), (.long el)]) (fun _ k => XS.iconst X0.here hx rfl (hb hby at_27) k) ?_
      refine own_s (mkF m 29 #[iv to, iv si, .val (.long t0), .second, .val (.long el), .second, .val (.long di), .second, iv fg, iv sf, .unset, .unset, .unset, .unset, .unset, .unset, .unset, .unset, .unset, .unset] [(.int (((fg).toUInt32 >>> ((2 : Int32) &&& 31).toUInt32).toInt32 &&& (1 : Int32))), (.long el)]) (fun _ k => XS.iand X0.here hx rfl (hb hby at_28) rfl k) ?_
      refine own_s (mkF m 30 #[iv to, iv si, .val (.long t0), .second, .val (.long el), .second, .val (.long di), .second, iv fg, iv sf, .unset, .unset, .unset, .unset, .unset, .unset, .unset, .unset, .unset, .unset] [(.long (((((fg).toUInt32 >>> ((2 : Int32) &&& 31).toUInt32).toInt32 &&& (1 : Int32))).toInt64)), (.long el)]) (fun _ k => XS.i2l X0.here hx rfl (hb hby at_29) rfl k) ?_
      refine own_s (mkF m 31 #[iv to, iv si, .val (.long t0), .second, .val (.long el), .second, .val (.long di), .second, iv fg, iv sf, .unset, .unset, .unset, .unset, .unset, .unset, .unset, .unset, .unset, .unset] [(.long (el - (((((fg).toUInt32 >>> ((2 : Int32) &&& 31).toUInt32).toInt32 &&& (1 : Int32))).toInt64)))]) (fun _ k => XS.lsub X0.here hx rfl (hb hby at_30) rfl k) ?_
      refine own_s (mkF m 36 #[iv to, iv si, .val (.long t0), .second, .val (.long el), .second, .val (.long di), .second, iv fg, iv sf, .unset, .unset, .unset, .unset, .unset, .unset, .unset, .unset, .unset, .unset] [(.long (el - (((((fg).toUInt32 >>> ((2 : Int32) &&& 31).toUInt32).toInt32 &&& (1 : Int32))).toInt64)))]) (fun _ k => XS.goto X0.here hx rfl (pc0 := 31) (pc' := 36) rfl (hb hby at_31) (by decide) (by decide) k) ?_
      rw [show dd = (el - (((((fg).toUInt32 >>> ((2 : Int32) &&& 31).toUInt32).toInt32 &&& (1 : Int32))).toInt64)) from by rw [h_dd, if_neg hj2]] at k
      exact k
  refine own_S (mkF m 38 #[iv to, iv si, .val (.long t0), .second, .val (.long el), .second, .val (.long di), .second, iv fg, iv sf, .val (.long dd), .second, .unset, .unset, .unset, .unset, .unset, .unset, .unset, .unset] []) (fun _ k => XS.lstore X0.here hx rfl (hb hby at_36) rfl (l' := #[iv to, iv si, .val (.long t0), .second, .val (.long el), .second, .val (.long di), .second, iv fg, iv sf, .val (.long dd), .second, .unset, .unset, .unset, .unset, .unset, .unset, .unset, .unset]) rfl k) ?_
  obtain ⟨T3, h3, X3, e3, E3, A3, D3, -, st3⟩ := newO X0 hx hZ hown (own_g hw (i := 0) rfl) (own_g hw (i := 1) rfl) (own_g hw (i := 2) rfl) e0 (g := (mkF m 38 #[iv to, iv si, .val (.long t0), .second, .val (.long el), .second, .val (.long di), .second, iv fg, iv sf, .val (.long dd), .second, .unset, .unset, .unset, .unset, .unset, .unset, .unset, .unset] [])) rfl (hb hby at_38) (by decide) (by decide)
  obtain ⟨a1, g3⟩ : ∃ z, z = h0.size := ⟨_, rfl⟩
  rw [← g3] at A3 D3 st3
  have ge_a1 : n0 ≤ a1 := Nat.le_trans Z0 (Nat.le_of_eq g3.symm)
  have Z3 : n0 ≤ h3.size := Nat.le_trans Z0 E3.1
  have F4 : Fld Z h3 a1 "com/example/lockstep/lockstep/Resend" "sentTo" "I" (.int (0 : Int32)) := D3 (Or.inl (own_g hw (i := 15) rfl)) (ty := .int) (by decide)
  have F5 : Fld Z h3 a1 "com/example/lockstep/lockstep/Resend" "sentAt" "J" (.long (0 : Int64)) := D3 (Or.inl (own_g hw (i := 23) rfl)) (ty := .long) (by decide)
  refine own_S (mkF m 41 #[iv to, iv si, .val (.long t0), .second, .val (.long el), .second, .val (.long di), .second, iv fg, iv sf, .val (.long dd), .second, .unset, .unset, .unset, .unset, .unset, .unset, .unset, .unset] [(.ref a1)]) st3 ?_
  refine own_S (mkF m 42 #[iv to, iv si, .val (.long t0), .second, .val (.long el), .second, .val (.long di), .second, iv fg, iv sf, .val (.long dd), .second, .unset, .unset, .unset, .unset, .unset, .unset, .unset, .unset] [(.ref a1), (.ref a1)]) (fun _ k => XS.dup X3.here hx rfl (hb hby at_41) rfl rfl k) ?_
  obtain ⟨_, _, ⟨T6, L6, k6, n6⟩, -, X6, ⟨Lc6, hQ6, l6, y6, z6⟩, st6⟩ := X3.specialBack hx (y := own_y0) rfl hown (mvT hZ (own_g hw (i := 3) rfl)) (mvT hZ (own_g hw (i := 4) rfl)) (mvT hZ (own_g hw (i := 5) rfl)) (by decide) (backOf (W := 1) (own_rmini l Z a0 hw [] (a1) h3 n0 Z3 ) hZ (own_g hw (i := 5) rfl) (own_g hw (i := 2) rfl) (by decide) (by decide)) (g := (mkF m 42 #[iv to, iv si, .val (.long t0), .second, .val (.long el), .second, .val (.long di), .second, iv fg, iv sf, .val (.long dd), .second, .unset, .unset, .unset, .unset, .unset, .unset, .unset, .unset] [(.ref a1), (.ref a1)])) rfl (by rw [hml]; rfl) (Steps.refl _) (a := a1) (argsL := []) (rest := [(.ref a1)]) (lenOf own_pd___V rfl) rfl (by show 2 * 0 + _ ≤ _; exact Nat.le_of_eq rfl) (hb hby at_42) (fun _ _ => ⟨rfl, e3, (by decide : 1 + 0 ≤ _), (by decide : 2 + 0 ≤ _)⟩)
  dsimp only [Pt.U, Pt.locs, Pt.cells, Pt.slots] at X6 l6 y6 z6 st6 hQ6
  subst l6 y6 z6
  obtain ⟨rfl, N6q, e6⟩ := hQ6
  have N6 := Fr.app N0 N6q
  refine own_S (mkF m 45 #[iv to, iv si, .val (.long t0), .second, .val (.long el), .second, .val (.long di), .second, iv fg, iv sf, .val (.long dd), .second, .unset, .unset, .unset, .unset, .unset, .unset, .unset, .unset] [(.ref a1)]) (fun _ k => st6.trans k) ?_
  refine own_S (mkF m 47 #[iv to, iv si, .val (.long t0), .second, .val (.long el), .second, .val (.long di), .second, iv fg, iv sf, .val (.long dd), .second, rv a1, .unset, .unset, .unset, .unset, .unset, .unset, .unset] []) (fun _ k => XS.astore X6.here hx rfl (hb hby at_45) rfl rfl (l' := #[iv to, iv si, .val (.long t0), .second, .val (.long el), .second, .val (.long di), .second, iv fg, iv sf, .val (.long dd), .second, rv a1, .unset, .unset, .unset, .unset, .unset, .unset, .unset]) rfl k) ?_
  refine own_S (mkF m 49 #[iv to, iv si, .val (.long t0), .second, .val (.long el), .second, .val (.long di), .second, iv fg, iv sf, .val (.long dd), .second, rv a1, .unset, .unset, .unset, .unset, .unset, .unset, .unset] [(.ref a1)]) (fun _ k => XS.aload X6.here hx rfl (hb hby at_47) rfl rfl k) ?_
  refine own_S (mkF m 51 #[iv to, iv si, .val (.long t0), .second, .val (.long el), .second, .val (.long di), .second, iv fg, iv sf, .val (.long dd), .second, rv a1, .unset, .unset, .unset, .unset, .unset, .unset, .unset] [(.int sf), (.ref a1)]) (fun _ k => XS.iload X6.here hx rfl (hb hby at_49) rfl k) ?_
  refine own_S (mkF m 53 #[iv to, iv si, .val (.long t0), .second, .val (.long el), .second, .val (.long di), .second, iv fg, iv sf, .val (.long dd), .second, rv a1, .unset, .unset, .unset, .unset, .unset, .unset, .unset] [(.long el), (.int sf), (.ref a1)]) (fun _ k => XS.lload X6.here hx rfl (hb hby at_51) rfl k) ?_
  refine own_S (mkF m 55 #[iv to, iv si, .val (.long t0), .second, .val (.long el), .second, .val (.long di), .second, iv fg, iv sf, .val (.long dd), .second, rv a1, .unset, .unset, .unset, .unset, .unset, .unset, .unset] [(.long dd), (.long el), (.int sf), (.ref a1)]) (fun _ k => XS.lload X6.here hx rfl (hb hby at_53) rfl k) ?_
  obtain ⟨cq7, kq7, q7a, q7b, q7c⟩ := isOf hZ e6 A3
  obtain ⟨_, _, ⟨T7, L7, k7, n7⟩, -, X7, ⟨Lc7, hQ7, l7, y7, z7⟩, st7⟩ := X6.virtualBack hx (y := own_y1) (z := own_y1) hown (mvT hZ (own_g hw (i := 9) rfl)) (mvT hZ (own_g hw (i := 10) rfl)) (notFace_of_selects (args := #[]) (mvT hZ (own_g hw (i := 12) rfl))) (mvT hZ (own_g hw (i := 12) rfl)) (mvT hZ (own_g hw (i := 11) rfl)) (by decide) (backOf (W := 0) (own_rmov l Z a0 hw [] (a1) (sf) (el) (dd) ((0 : Int32)) ((0 : Int64)) h3 n0 Z3 F4 F5) hZ (own_g hw (i := 13) rfl) (own_g hw (i := 2) rfl) (by decide) (by decide)) q7a q7c (g := (mkF m 55 #[iv to, iv si, .val (.long t0), .second, .val (.long el), .second, .val (.long di), .second, iv fg, iv sf, .val (.long dd), .second, rv a1, .unset, .unset, .unset, .unset, .unset, .unset, .unset] [(.long dd), (.long el), (.int sf), (.ref a1)])) rfl (by rw [hml]; rfl) (Steps.refl _) (argsL := [(.int sf), (.long el), (.long dd)]) (rest := []) (lenOf own_pd__IJJ_Z rfl) rfl (by show 2 * 0 + _ ≤ _; exact Nat.le_of_eq rfl) (hb hby at_55) (fun _ _ => ⟨rfl, e6, (by decide : 1 + 0 ≤ _), (by decide : 2 + 0 ≤ _)⟩)
  dsimp only [Pt.U, Pt.locs, Pt.cells, Pt.slots] at X7 l7 y7 z7 st7 hQ7
  subst l7 y7 z7
  obtain ⟨rfl, N7q, e7⟩ := hQ7
  have N7 := Fr.app N6 N7q
  refine own_S (mkF m 58 #[iv to, iv si, .val (.long t0), .second, .val (.long el), .second, .val (.long di), .second, iv fg, iv sf, .val (.long dd), .second, rv a1, .unset, .unset, .unset, .unset, .unset, .unset, .unset] [(.int (if ¬ ((0 : Int32) = sf) ∧ ¬ ((el - (0 : Int64)) < dd) then (1 : Int32) else (0 : Int32)))]) (fun _ k => st7.trans k) ?_
  obtain ⟨gf, h_gf⟩ : ∃ z : Int32, z = (if ¬ ((0 : Int32) = sf) ∧ ¬ ((el - (0 : Int64)) < dd) then (1 : Int32) else (0 : Int32)) := ⟨_, rfl⟩
  refine own_S (T' := T7) (mkF m 58 #[iv to, iv si, .val (.long t0), .second, .val (.long el), .second, .val (.long di), .second, iv fg, iv sf, .val (.long dd), .second, rv a1, .unset, .unset, .unset, .unset, .unset, .unset, .unset] [(.int gf)]) (fun _ k => by subst h_gf; exact k) ?_
  refine own_S (mkF m 60 #[iv to, iv si, .val (.long t0), .second, .val (.long el), .second, .val (.long di), .second, iv fg, iv sf, .val (.long dd), .second, rv a1, iv gf, .unset, .unset, .unset, .unset, .unset, .unset] []) (fun _ k => XS.istore X7.here hx rfl (hb hby at_58) rfl (l' := #[iv to, iv si, .val (.long t0), .second, .val (.long el), .second, .val (.long di), .second, iv fg, iv sf, .val (.long dd), .second, rv a1, iv gf, .unset, .unset, .unset, .unset, .unset, .unset]) rfl k) ?_
  refine own_S (mkF m 62 #[iv to, iv si, .val (.long t0), .second, .val (.long el), .second, .val (.long di), .second, iv fg, iv sf, .val (.long dd), .second, rv a1, iv gf, .unset, .unset, .unset, .unset, .unset, .unset] [(.int sf)]) (fun _ k => XS.iload X7.here hx rfl (hb hby at_60) rfl k) ?_
  obtain ⟨wf, h_wf⟩ : ∃ z : Int32, z = (if sf = (0 : Int32) then (0 : Int32) else (if el < dd then (0 : Int32) else (1 : Int32))) := ⟨_, rfl⟩
  refine own_S (T' := T7) (mkF m 78 #[iv to, iv si, .val (.long t0), .second, .val (.long el), .second, .val (.long di), .second, iv fg, iv sf, .val (.long dd), .second, rv a1, iv gf, .unset, .unset, .unset, .unset, .unset, .unset] [(.int wf)]) (fun _ k => ?_) ?_
  ·
    by_cases hj8 : sf = (0 : Int32)
    ·
      refine own_s (mkF m 77 #[iv to, iv si, .val (.long t0), .second, .val (.long el), .second, .val (.long di), .second, iv fg, iv sf, .val (.long dd), .second, rv a1, iv gf, .unset, .unset, .unset, .unset, .unset, .unset] []) (fun _ k => XS.ifYes X7.here hx rfl (pc0 := 62) (pc' := 77) rfl (hb hby at_62) rfl ((if0 _ _).trans (teq hj8).1) (by decide) (by decide) k) ?_
      refine own_s (mkF m 78 #[iv to, iv si, .val (.long t0), .second, .val (.long el), .second, .val (.long di), .second, iv fg, iv sf, .val (.long dd), .second, rv a1, iv gf, .unset, .unset, .unset, .unset, .unset, .unset] [(.int 0)]) (fun _ k => XS.iconst X7.here hx rfl (hb hby at_77) k) ?_
      rw [show wf = (0 : Int32) from by rw [h_wf, if_pos hj8]] at k
      exact k
    ·
      refine own_s (mkF m 65 #[iv to, iv si, .val (.long t0), .second, .val (.long el), .second, .val (.long di), .second, iv fg, iv sf, .val (.long dd), .second, rv a1, iv gf, .unset, .unset, .unset, .unset, .unset, .unset] []) (fun _ k => XS.ifNo X7.here hx rfl (hb hby at_62) rfl ((if0 _ _).trans (feq hj8).1) k) ?_
      refine own_s (mkF m 67 #[iv to, iv si, .val (.long t0), .second, .val (.long el), .second, .val (.long di), .second, iv fg, iv sf, .val (.long dd), .second, rv a1, iv gf, .unset, .unset, .unset, .unset, .unset, .unset] [(.long el)]) (fun _ k => XS.lload X7.here hx rfl (hb hby at_65) rfl k) ?_
      refine own_s (mkF m 69 #[iv to, iv si, .val (.long t0), .second, .val (.long el), .second, .val (.long di), .second, iv fg, iv sf, .val (.long dd), .second, rv a1, iv gf, .unset, .unset, .unset, .unset, .unset, .unset] [(.long dd), (.long el)]) (fun _ k => XS.lload X7.here hx rfl (hb hby at_67) rfl k) ?_
      refine own_s (mkF m 70 #[iv to, iv si, .val (.long t0), .second, .val (.long el), .second, .val (.long di), .second, iv fg, iv sf, .val (.long dd), .second, rv a1, iv gf, .unset, .unset, .unset, .unset, .unset, .unset] [(.int (lcmpW el dd))]) (fun _ k => XS.lcmp X7.here hx rfl (hb hby at_69) rfl k) ?_
      by_cases hj9 : el < dd
      ·
        refine own_s (mkF m 77 #[iv to, iv si, .val (.long t0), .second, .val (.long el), .second, .val (.long di), .second, iv fg, iv sf, .val (.long dd), .second, rv a1, iv gf, .unset, .unset, .unset, .unset, .unset, .unset] []) (fun _ k => XS.ifYes X7.here hx rfl (pc0 := 70) (pc' := 77) rfl (hb hby at_70) rfl ((if0 _ _).trans (tlt ((lw_lt el dd).mpr hj9)).1) (by decide) (by decide) k) ?_
        refine own_s (mkF m 78 #[iv to, iv si, .val (.long t0), .second, .val (.long el), .second, .val (.long di), .second, iv fg, iv sf, .val (.long dd), .second, rv a1, iv gf, .unset, .unset, .unset, .unset, .unset, .unset] [(.int 0)]) (fun _ k => XS.iconst X7.here hx rfl (hb hby at_77) k) ?_
        rw [show wf = (0 : Int32) from by rw [h_wf, if_neg hj8, if_pos hj9]] at k
        exact k
      ·
        refine own_s (mkF m 73 #[iv to, iv si, .val (.long t0), .second, .val (.long el), .second, .val (.long di), .second, iv fg, iv sf, .val (.long dd), .second, rv a1, iv gf, .unset, .unset, .unset, .unset, .unset, .unset] []) (fun _ k => XS.ifNo X7.here hx rfl (hb hby at_70) rfl ((if0 _ _).trans (flt (fun q => hj9 ((lw_lt el dd).mp q))).1) k) ?_
        refine own_s (mkF m 74 #[iv to, iv si, .val (.long t0), .second, .val (.long el), .second, .val (.long di), .second, iv fg, iv sf, .val (.long dd), .second, rv a1, iv gf, .unset, .unset, .unset, .unset, .unset, .unset] [(.int 1)]) (fun _ k => XS.iconst X7.here hx rfl (hb hby at_73) k) ?_
        refine own_s (mkF m 78 #[iv to, iv si, .val (.long t0), .second, .val (.long el), .second, .val (.long di), .second, iv fg, iv sf, .val (.long dd), .second, rv a1, iv gf, .unset, .unset, .unset, .unset, .unset, .unset] [(.int 1)]) (fun _ k => XS.goto X7.here hx rfl (pc0 := 74) (pc' := 78) rfl (hb hby at_74) (by decide) (by decide) k) ?_
        rw [show wf = (1 : Int32) from by rw [h_wf, if_neg hj8, if_neg hj9]] at k
        exact k
  refine own_S (mkF m 80 #[iv to, iv si, .val (.long t0), .second, .val (.long el), .second, .val (.long di), .second, iv fg, iv sf, .val (.long dd), .second, rv a1, iv gf, iv wf, .unset, .unset, .unset, .unset, .unset] []) (fun _ k => XS.istore X7.here hx rfl (hb hby at_78) rfl (l' := #[iv to, iv si, .val (.long t0), .second, .val (.long el), .second, .val (.long di), .second, iv fg, iv sf, .val (.long dd), .second, rv a1, iv gf, iv wf, .unset, .unset, .unset, .unset, .unset]) rfl k) ?_
  obtain ⟨T10, h10, X10, e10, E10, A10, D10, -, st10⟩ := newO X7 hx hZ hown (own_g hw (i := 0) rfl) (own_g hw (i := 1) rfl) (own_g hw (i := 2) rfl) e7 (g := (mkF m 80 #[iv to, iv si, .val (.long t0), .second, .val (.long el), .second, .val (.long di), .second, iv fg, iv sf, .val (.long dd), .second, rv a1, iv gf, iv wf, .unset, .unset, .unset, .unset, .unset] [])) rfl (hb hby at_80) (by decide) (by decide)
  obtain ⟨a2, g10⟩ : ∃ z, z = h3.size := ⟨_, rfl⟩
  rw [← g10] at A10 D10 st10
  have n11 : a1 ≠ a2 := Nat.ne_of_lt (Nat.lt_of_lt_of_eq A3.lt g10.symm)
  have ge_a2 : n0 ≤ a2 := Nat.le_trans Z3 (Nat.le_of_eq g10.symm)
  have F12 := A3.ext E10
  have F13 := F4.ext E10
  have F14 := F5.ext E10
  have Z10 : n0 ≤ h10.size := Nat.le_trans Z3 E10.1
  have F15 : Fld Z h10 a2 "com/example/lockstep/lockstep/Resend" "sentTo" "I" (.int (0 : Int32)) := D10 (Or.inl (own_g hw (i := 15) rfl)) (ty := .int) (by decide)
  have F16 : Fld Z h10 a2 "com/example/lockstep/lockstep/Resend" "sentAt" "J" (.long (0 : Int64)) := D10 (Or.inl (own_g hw (i := 23) rfl)) (ty := .long) (by decide)
  refine own_S (mkF m 83 #[iv to, iv si, .val (.long t0), .second, .val (.long el), .second, .val (.long di), .second, iv fg, iv sf, .val (.long dd), .second, rv a1, iv gf, iv wf, .unset, .unset, .unset, .unset, .unset] [(.ref a2)]) st10 ?_
  refine own_S (mkF m 84 #[iv to, iv si, .val (.long t0), .second, .val (.long el), .second, .val (.long di), .second, iv fg, iv sf, .val (.long dd), .second, rv a1, iv gf, iv wf, .unset, .unset, .unset, .unset, .unset] [(.ref a2), (.ref a2)]) (fun _ k => XS.dup X10.here hx rfl (hb hby at_83) rfl rfl k) ?_
  obtain ⟨_, _, ⟨T17, L17, k17, n17⟩, -, X17, ⟨Lc17, hQ17, l17, y17, z17⟩, st17⟩ := X10.specialBack hx (y := own_y0) rfl hown (mvT hZ (own_g hw (i := 3) rfl)) (mvT hZ (own_g hw (i := 4) rfl)) (mvT hZ (own_g hw (i := 5) rfl)) (by decide) (backOf (W := 1) (own_rmini l Z a0 hw [] (a2) h10 n0 Z10 ) hZ (own_g hw (i := 5) rfl) (own_g hw (i := 2) rfl) (by decide) (by decide)) (g := (mkF m 84 #[iv to, iv si, .val (.long t0), .second, .val (.long el), .second, .val (.long di), .second, iv fg, iv sf, .val (.long dd), .second, rv a1, iv gf, iv wf, .unset, .unset, .unset, .unset, .unset] [(.ref a2), (.ref a2)])) rfl (by rw [hml]; rfl) (Steps.refl _) (a := a2) (argsL := []) (rest := [(.ref a2)]) (lenOf own_pd___V rfl) rfl (by show 2 * 0 + _ ≤ _; exact Nat.le_of_eq rfl) (hb hby at_84) (fun _ _ => ⟨rfl, e10, (by decide : 2 + 0 ≤ _), (by decide : 4 + 0 ≤ _)⟩)
  dsimp only [Pt.U, Pt.locs, Pt.cells, Pt.slots] at X17 l17 y17 z17 st17 hQ17
  subst l17 y17 z17
  obtain ⟨rfl, N17q, e17⟩ := hQ17
  have N17 := Fr.app N7 N17q
  refine own_S (mkF m 87 #[iv to, iv si, .val (.long t0), .second, .val (.long el), .second, .val (.long di), .second, iv fg, iv sf, .val (.long dd), .second, rv a1, iv gf, iv wf, .unset, .unset, .unset, .unset, .unset] [(.ref a2)]) (fun _ k => st17.trans k) ?_
  refine own_S (mkF m 89 #[iv to, iv si, .val (.long t0), .second, .val (.long el), .second, .val (.long di), .second, iv fg, iv sf, .val (.long dd), .second, rv a1, iv gf, iv wf, rv a2, .unset, .unset, .unset, .unset] []) (fun _ k => XS.astore X17.here hx rfl (hb hby at_87) rfl rfl (l' := #[iv to, iv si, .val (.long t0), .second, .val (.long el), .second, .val (.long di), .second, iv fg, iv sf, .val (.long dd), .second, rv a1, iv gf, iv wf, rv a2, .unset, .unset, .unset, .unset]) rfl k) ?_
  refine own_S (mkF m 91 #[iv to, iv si, .val (.long t0), .second, .val (.long el), .second, .val (.long di), .second, iv fg, iv sf, .val (.long dd), .second, rv a1, iv gf, iv wf, rv a2, .unset, .unset, .unset, .unset] [(.ref a2)]) (fun _ k => XS.aload X17.here hx rfl (hb hby at_89) rfl rfl k) ?_
  refine own_S (mkF m 93 #[iv to, iv si, .val (.long t0), .second, .val (.long el), .second, .val (.long di), .second, iv fg, iv sf, .val (.long dd), .second, rv a1, iv gf, iv wf, rv a2, .unset, .unset, .unset, .unset] [(.int sf), (.ref a2)]) (fun _ k => XS.iload X17.here hx rfl (hb hby at_91) rfl k) ?_
  refine own_S (mkF m 94 #[iv to, iv si, .val (.long t0), .second, .val (.long el), .second, .val (.long di), .second, iv fg, iv sf, .val (.long dd), .second, rv a1, iv gf, iv wf, rv a2, .unset, .unset, .unset, .unset] [(.long t0), (.int sf), (.ref a2)]) (fun _ k => XS.lloadN X17.here hx rfl (hb hby at_93) rfl k) ?_
  refine own_S (mkF m 97 #[iv to, iv si, .val (.long t0), .second, .val (.long el), .second, .val (.long di), .second, iv fg, iv sf, .val (.long dd), .second, rv a1, iv gf, iv wf, rv a2, .unset, .unset, .unset, .unset] [(.long (-1)), (.long t0), (.int sf), (.ref a2)]) (fun _ k => X17.ldc2Long hx hown (mvT hZ (own_g hw (i := 16) rfl)) (g := (mkF m 94 #[iv to, iv si, .val (.long t0), .second, .val (.long el), .second, .val (.long di), .second, iv fg, iv sf, .val (.long dd), .second, rv a1, iv gf, iv wf, rv a2, .unset, .unset, .unset, .unset] [(.long t0), (.int sf), (.ref a2)])) rfl (hb hby at_94) _ k) ?_
  refine own_S (mkF m 98 #[iv to, iv si, .val (.long t0), .second, .val (.long el), .second, .val (.long di), .second, iv fg, iv sf, .val (.long dd), .second, rv a1, iv gf, iv wf, rv a2, .unset, .unset, .unset, .unset] [(.long (t0 ^^^ (-1 : Int64))), (.int sf), (.ref a2)]) (fun _ k => XS.lxor X17.here hx rfl (hb hby at_97) rfl k) ?_
  obtain ⟨cq18, kq18, q18a, q18b, q18c⟩ := isOf hZ e17 A10
  obtain ⟨_, _, ⟨T18, L18, k18, n18⟩, -, X18, ⟨Lc18, hQ18, l18, y18, z18⟩, st18⟩ := X17.virtualBack hx (y := own_y2) (z := own_y2) hown (mvT hZ (own_g hw (i := 17) rfl)) (mvT hZ (own_g hw (i := 18) rfl)) (notFace_of_selects (args := #[]) (mvT hZ (own_g hw (i := 20) rfl))) (mvT hZ (own_g hw (i := 20) rfl)) (mvT hZ (own_g hw (i := 19) rfl)) (by decide) (backOf (W := 0) (own_rmse l Z a0 hw [] (a2) (sf) ((t0 ^^^ (-1 : Int64))) ((.int (0 : Int32))) ((.long (0 : Int64))) h10 n0 Z10 A10 F15 F16 ge_a2) hZ (own_g hw (i := 21) rfl) (own_g hw (i := 2) rfl) (by decide) (by decide)) q18a q18c (g := (mkF m 98 #[iv to, iv si, .val (.long t0), .second, .val (.long el), .second, .val (.long di), .second, iv fg, iv sf, .val (.long dd), .second, rv a1, iv gf, iv wf, rv a2, .unset, .unset, .unset, .unset] [(.long (t0 ^^^ (-1 : Int64))), (.int sf), (.ref a2)])) rfl (by rw [hml]; rfl) (Steps.refl _) (argsL := [(.int sf), (.long (t0 ^^^ (-1 : Int64)))]) (rest := []) (lenOf own_pd__IJ_V rfl) rfl (by show 2 * 0 + _ ≤ _; exact Nat.le_of_eq rfl) (hb hby at_98) (fun _ _ => ⟨rfl, e17, (by decide : 2 + 0 ≤ _), (by decide : 4 + 0 ≤ _)⟩)
  dsimp only [Pt.U, Pt.locs, Pt.cells, Pt.slots] at X18 l18 y18 z18 st18 hQ18
  subst l18 y18 z18
  obtain ⟨rfl, N18q, K18q, F19, F20, F21⟩ := hQ18
  have N18 := Fr.app N17 N18q
  refine own_S (mkF m 101 #[iv to, iv si, .val (.long t0), .second, .val (.long el), .second, .val (.long di), .second, iv fg, iv sf, .val (.long dd), .second, rv a1, iv gf, iv wf, rv a2, .unset, .unset, .unset, .unset] []) (fun _ k => st18.trans k) ?_
  have F22 := F12.keep K18q
  have F23 := F13.keep K18q (ninS n11 nin0)
  have F24 := F14.keep K18q (ninS n11 nin0)
  have Z18 : n0 ≤ T18.heap.size := Nat.le_trans Z10 K18q.1
  refine own_S (mkF m 103 #[iv to, iv si, .val (.long t0), .second, .val (.long el), .second, .val (.long di), .second, iv fg, iv sf, .val (.long dd), .second, rv a1, iv gf, iv wf, rv a2, .unset, .unset, .unset, .unset] [(.ref a2)]) (fun _ k => XS.aload X18.here hx rfl (hb hby at_101) rfl rfl k) ?_
  refine own_S (mkF m 104 #[iv to, iv si, .val (.long t0), .second, .val (.long el), .second, .val (.long di), .second, iv fg, iv sf, .val (.long dd), .second, rv a1, iv gf, iv wf, rv a2, .unset, .unset, .unset, .unset] [(.int to), (.ref a2)]) (fun _ k => XS.iloadN X18.here hx rfl (hb hby at_103) rfl k) ?_
  refine own_S (mkF m 105 #[iv to, iv si, .val (.long t0), .second, .val (.long el), .second, .val (.long di), .second, iv fg, iv sf, .val (.long dd), .second, rv a1, iv gf, iv wf, rv a2, .unset, .unset, .unset, .unset] [(.long t0), (.int to), (.ref a2)]) (fun _ k => XS.lloadN X18.here hx rfl (hb hby at_104) rfl k) ?_
  obtain ⟨cq25, kq25, q25a, q25b, q25c⟩ := isOf hZ rfl F19
  obtain ⟨_, _, ⟨T25, L25, k25, n25⟩, -, X25, ⟨Lc25, hQ25, l25, y25, z25⟩, st25⟩ := X18.virtualBack hx (y := own_y2) (z := own_y2) hown (mvT hZ (own_g hw (i := 17) rfl)) (mvT hZ (own_g hw (i := 18) rfl)) (notFace_of_selects (args := #[]) (mvT hZ (own_g hw (i := 20) rfl))) (mvT hZ (own_g hw (i := 20) rfl)) (mvT hZ (own_g hw (i := 19) rfl)) (by decide) (backOf (W := 0) (own_rmse l Z a0 hw [] (a2) (to) (t0) ((.int sf)) ((.long (t0 ^^^ (-1 : Int64)))) T18.heap n0 Z18 F19 F20 F21 ge_a2) hZ (own_g hw (i := 21) rfl) (own_g hw (i := 2) rfl) (by decide) (by decide)) q25a q25c (g := (mkF m 105 #[iv to, iv si, .val (.long t0), .second, .val (.long el), .second, .val (.long di), .second, iv fg, iv sf, .val (.long dd), .second, rv a1, iv gf, iv wf, rv a2, .unset, .unset, .unset, .unset] [(.long t0), (.int to), (.ref a2)])) rfl (by rw [hml]; rfl) (Steps.refl _) (argsL := [(.int to), (.long t0)]) (rest := []) (lenOf own_pd__IJ_V rfl) rfl (by show 2 * 0 + _ ≤ _; exact Nat.le_of_eq rfl) (hb hby at_105) (fun _ _ => ⟨rfl, rfl, (by decide : 2 + 0 ≤ _), (by decide : 4 + 0 ≤ _)⟩)
  dsimp only [Pt.U, Pt.locs, Pt.cells, Pt.slots] at X25 l25 y25 z25 st25 hQ25
  subst l25 y25 z25
  obtain ⟨rfl, N25q, K25q, F26, F27, F28⟩ := hQ25
  have N25 := Fr.app N18 N25q
  refine own_S (mkF m 108 #[iv to, iv si, .val (.long t0), .second, .val (.long el), .second, .val (.long di), .second, iv fg, iv sf, .val (.long dd), .second, rv a1, iv gf, iv wf, rv a2, .unset, .unset, .unset, .unset] []) (fun _ k => st25.trans k) ?_
  have F29 := F22.keep K25q
  have F30 := F23.keep K25q (ninS n11 nin0)
  have F31 := F24.keep K25q (ninS n11 nin0)
  have Z25 : n0 ≤ T25.heap.size := Nat.le_trans Z18 K25q.1
  refine own_S (mkF m 109 #[iv to, iv si, .val (.long t0), .second, .val (.long el), .second, .val (.long di), .second, iv fg, iv sf, .val (.long dd), .second, rv a1, iv gf, iv wf, rv a2, .unset, .unset, .unset, .unset] [(.long t0)]) (fun _ k => XS.lloadN X25.here hx rfl (hb hby at_108) rfl k) ?_
  refine own_S (mkF m 111 #[iv to, iv si, .val (.long t0), .second, .val (.long el), .second, .val (.long di), .second, iv fg, iv sf, .val (.long dd), .second, rv a1, iv gf, iv wf, rv a2, .unset, .unset, .unset, .unset] [(.long el), (.long t0)]) (fun _ k => XS.lload X25.here hx rfl (hb hby at_109) rfl k) ?_
  refine own_S (mkF m 112 #[iv to, iv si, .val (.long t0), .second, .val (.long el), .second, .val (.long di), .second, iv fg, iv sf, .val (.long dd), .second, rv a1, iv gf, iv wf, rv a2, .unset, .unset, .unset, .unset] [(.long (t0 + el))]) (fun _ k => XS.ladd X25.here hx rfl (hb hby at_111) rfl k) ?_
  refine own_S (mkF m 114 #[iv to, iv si, .val (.long t0), .second, .val (.long el), .second, .val (.long di), .second, iv fg, iv sf, .val (.long dd), .second, rv a1, iv gf, iv wf, rv a2, .val (.long (t0 + el)), .second, .unset, .unset] []) (fun _ k => XS.lstore X25.here hx rfl (hb hby at_112) rfl (l' := #[iv to, iv si, .val (.long t0), .second, .val (.long el), .second, .val (.long di), .second, iv fg, iv sf, .val (.long dd), .second, rv a1, iv gf, iv wf, rv a2, .val (.long (t0 + el)), .second, .unset, .unset]) rfl k) ?_
  refine own_S (mkF m 116 #[iv to, iv si, .val (.long t0), .second, .val (.long el), .second, .val (.long di), .second, iv fg, iv sf, .val (.long dd), .second, rv a1, iv gf, iv wf, rv a2, .val (.long (t0 + el)), .second, .unset, .unset] [(.ref a2)]) (fun _ k => XS.aload X25.here hx rfl (hb hby at_114) rfl rfl k) ?_
  refine own_S (mkF m 118 #[iv to, iv si, .val (.long t0), .second, .val (.long el), .second, .val (.long di), .second, iv fg, iv sf, .val (.long dd), .second, rv a1, iv gf, iv wf, rv a2, .val (.long (t0 + el)), .second, .unset, .unset] [(.int sf), (.ref a2)]) (fun _ k => XS.iload X25.here hx rfl (hb hby at_116) rfl k) ?_
  refine own_S (mkF m 120 #[iv to, iv si, .val (.long t0), .second, .val (.long el), .second, .val (.long di), .second, iv fg, iv sf, .val (.long dd), .second, rv a1, iv gf, iv wf, rv a2, .val (.long (t0 + el)), .second, .unset, .unset] [(.long (t0 + el)), (.int sf), (.ref a2)]) (fun _ k => XS.lload X25.here hx rfl (hb hby at_118) rfl k) ?_
  refine own_S (mkF m 122 #[iv to, iv si, .val (.long t0), .second, .val (.long el), .second, .val (.long di), .second, iv fg, iv sf, .val (.long dd), .second, rv a1, iv gf, iv wf, rv a2, .val (.long (t0 + el)), .second, .unset, .unset] [(.long dd), (.long (t0 + el)), (.int sf), (.ref a2)]) (fun _ k => XS.lload X25.here hx rfl (hb hby at_120) rfl k) ?_
  obtain ⟨cq32, kq32, q32a, q32b, q32c⟩ := isOf hZ rfl F26
  obtain ⟨_, _, ⟨T32, L32, k32, n32⟩, -, X32, ⟨Lc32, hQ32, l32, y32, z32⟩, st32⟩ := X25.virtualBack hx (y := own_y1) (z := own_y1) hown (mvT hZ (own_g hw (i := 9) rfl)) (mvT hZ (own_g hw (i := 10) rfl)) (notFace_of_selects (args := #[]) (mvT hZ (own_g hw (i := 12) rfl))) (mvT hZ (own_g hw (i := 12) rfl)) (mvT hZ (own_g hw (i := 11) rfl)) (by decide) (backOf (W := 0) (own_rmov l Z a0 hw [] (a2) (sf) ((t0 + el)) (dd) (to) (t0) T25.heap n0 Z25 F27 F28) hZ (own_g hw (i := 13) rfl) (own_g hw (i := 2) rfl) (by decide) (by decide)) q32a q32c (g := (mkF m 122 #[iv to, iv si, .val (.long t0), .second, .val (.long el), .second, .val (.long di), .second, iv fg, iv sf, .val (.long dd), .second, rv a1, iv gf, iv wf, rv a2, .val (.long (t0 + el)), .second, .unset, .unset] [(.long dd), (.long (t0 + el)), (.int sf), (.ref a2)])) rfl (by rw [hml]; rfl) (Steps.refl _) (argsL := [(.int sf), (.long (t0 + el)), (.long dd)]) (rest := []) (lenOf own_pd__IJJ_Z rfl) rfl (by show 2 * 0 + _ ≤ _; exact Nat.le_of_eq rfl) (hb hby at_122) (fun _ _ => ⟨rfl, rfl, (by decide : 2 + 0 ≤ _), (by decide : 4 + 0 ≤ _)⟩)
  dsimp only [Pt.U, Pt.locs, Pt.cells, Pt.slots] at X32 l32 y32 z32 st32 hQ32
  subst l32 y32 z32
  obtain ⟨rfl, N32q, e32⟩ := hQ32
  have N32 := Fr.app N25 N32q
  refine own_S (mkF m 125 #[iv to, iv si, .val (.long t0), .second, .val (.long el), .second, .val (.long di), .second, iv fg, iv sf, .val (.long dd), .second, rv a1, iv gf, iv wf, rv a2, .val (.long (t0 + el)), .second, .unset, .unset] [(.int (if ¬ (to = sf) ∧ ¬ (((t0 + el) - t0) < dd) then (1 : Int32) else (0 : Int32)))]) (fun _ k => st32.trans k) ?_
  obtain ⟨gt, h_gt⟩ : ∃ z : Int32, z = (if ¬ (to = sf) ∧ ¬ (((t0 + el) - t0) < dd) then (1 : Int32) else (0 : Int32)) := ⟨_, rfl⟩
  refine own_S (T' := T32) (mkF m 125 #[iv to, iv si, .val (.long t0), .second, .val (.long el), .second, .val (.long di), .second, iv fg, iv sf, .val (.long dd), .second, rv a1, iv gf, iv wf, rv a2, .val (.long (t0 + el)), .second, .unset, .unset] [(.int gt)]) (fun _ k => by subst h_gt; exact k) ?_
  refine own_S (mkF m 127 #[iv to, iv si, .val (.long t0), .second, .val (.long el), .second, .val (.long di), .second, iv fg, iv sf, .val (.long dd), .second, rv a1, iv gf, iv wf, rv a2, .val (.long (t0 + el)), .second, iv gt, .unset] []) (fun _ k => XS.istore X32.here hx rfl (hb hby at_125) rfl (l' := #[iv to, iv si, .val (.long t0), .second, .val (.long el), .second, .val (.long di), .second, iv fg, iv sf, .val (.long dd), .second, rv a1, iv gf, iv wf, rv a2, .val (.long (t0 + el)), .second, iv gt, .unset]) rfl k) ?_
  refine own_S (mkF m 128 #[iv to, iv si, .val (.long t0), .second, .val (.long el), .second, .val (.long di), .second, iv fg, iv sf, .val (.long dd), .second, rv a1, iv gf, iv wf, rv a2, .val (.long (t0 + el)), .second, iv gt, .unset] [(.int to)]) (fun _ k => XS.iloadN X32.here hx rfl (hb hby at_127) rfl k) ?_
  refine own_S (mkF m 130 #[iv to, iv si, .val (.long t0), .second, .val (.long el), .second, .val (.long di), .second, iv fg, iv sf, .val (.long dd), .second, rv a1, iv gf, iv wf, rv a2, .val (.long (t0 + el)), .second, iv gt, .unset] [(.int sf), (.int to)]) (fun _ k => XS.iload X32.here hx rfl (hb hby at_128) rfl k) ?_
  obtain ⟨wt, h_wt⟩ : ∃ z : Int32, z = (if to = sf then (0 : Int32) else (if el < dd then (0 : Int32) else (1 : Int32))) := ⟨_, rfl⟩
  refine own_S (T' := T32) (mkF m 146 #[iv to, iv si, .val (.long t0), .second, .val (.long el), .second, .val (.long di), .second, iv fg, iv sf, .val (.long dd), .second, rv a1, iv gf, iv wf, rv a2, .val (.long (t0 + el)), .second, iv gt, .unset] [(.int wt)]) (fun _ k => ?_) ?_
  ·
    by_cases hj33 : to = sf
    ·
      refine own_s (mkF m 145 #[iv to, iv si, .val (.long t0), .second, .val (.long el), .second, .val (.long di), .second, iv fg, iv sf, .val (.long dd), .second, rv a1, iv gf, iv wf, rv a2, .val (.long (t0 + el)), .second, iv gt, .unset] []) (fun _ k => XS.icmpYes X32.here hx rfl (pc0 := 130) (pc' := 145) rfl (hb hby at_130) rfl (teq hj33).1 (by decide) (by decide) k) ?_
      refine own_s (mkF m 146 #[iv to, iv si, .val (.long t0), .second, .val (.long el), .second, .val (.long di), .second, iv fg, iv sf, .val (.long dd), .second, rv a1, iv gf, iv wf, rv a2, .val (.long (t0 + el)), .second, iv gt, .unset] [(.int 0)]) (fun _ k => XS.iconst X32.here hx rfl (hb hby at_145) k) ?_
      rw [show wt = (0 : Int32) from by rw [h_wt, if_pos hj33]] at k
      exact k
    ·
      refine own_s (mkF m 133 #[iv to, iv si, .val (.long t0), .second, .val (.long el), .second, .val (.long di), .second, iv fg, iv sf, .val (.long dd), .second, rv a1, iv gf, iv wf, rv a2, .val (.long (t0 + el)), .second, iv gt, .unset] []) (fun _ k => XS.icmpNo X32.here hx rfl (hb hby at_130) rfl (feq hj33).1 k) ?_
      refine own_s (mkF m 135 #[iv to, iv si, .val (.long t0), .second, .val (.long el), .second, .val (.long di), .second, iv fg, iv sf, .val (.long dd), .second, rv a1, iv gf, iv wf, rv a2, .val (.long (t0 + el)), .second, iv gt, .unset] [(.long el)]) (fun _ k => XS.lload X32.here hx rfl (hb hby at_133) rfl k) ?_
      refine own_s (mkF m 137 #[iv to, iv si, .val (.long t0), .second, .val (.long el), .second, .val (.long di), .second, iv fg, iv sf, .val (.long dd), .second, rv a1, iv gf, iv wf, rv a2, .val (.long (t0 + el)), .second, iv gt, .unset] [(.long dd), (.long el)]) (fun _ k => XS.lload X32.here hx rfl (hb hby at_135) rfl k) ?_
      refine own_s (mkF m 138 #[iv to, iv si, .val (.long t0), .second, .val (.long el), .second, .val (.long di), .second, iv fg, iv sf, .val (.long dd), .second, rv a1, iv gf, iv wf, rv a2, .val (.long (t0 + el)), .second, iv gt, .unset] [(.int (lcmpW el dd))]) (fun _ k => XS.lcmp X32.here hx rfl (hb hby at_137) rfl k) ?_
      by_cases hj34 : el < dd
      ·
        refine own_s (mkF m 145 #[iv to, iv si, .val (.long t0), .second, .val (.long el), .second, .val (.long di), .second, iv fg, iv sf, .val (.long dd), .second, rv a1, iv gf, iv wf, rv a2, .val (.long (t0 + el)), .second, iv gt, .unset] []) (fun _ k => XS.ifYes X32.here hx rfl (pc0 := 138) (pc' := 145) rfl (hb hby at_138) rfl ((if0 _ _).trans (tlt ((lw_lt el dd).mpr hj34)).1) (by decide) (by decide) k) ?_
        refine own_s (mkF m 146 #[iv to, iv si, .val (.long t0), .second, .val (.long el), .second, .val (.long di), .second, iv fg, iv sf, .val (.long dd), .second, rv a1, iv gf, iv wf, rv a2, .val (.long (t0 + el)), .second, iv gt, .unset] [(.int 0)]) (fun _ k => XS.iconst X32.here hx rfl (hb hby at_145) k) ?_
        rw [show wt = (0 : Int32) from by rw [h_wt, if_neg hj33, if_pos hj34]] at k
        exact k
      ·
        refine own_s (mkF m 141 #[iv to, iv si, .val (.long t0), .second, .val (.long el), .second, .val (.long di), .second, iv fg, iv sf, .val (.long dd), .second, rv a1, iv gf, iv wf, rv a2, .val (.long (t0 + el)), .second, iv gt, .unset] []) (fun _ k => XS.ifNo X32.here hx rfl (hb hby at_138) rfl ((if0 _ _).trans (flt (fun q => hj34 ((lw_lt el dd).mp q))).1) k) ?_
        refine own_s (mkF m 142 #[iv to, iv si, .val (.long t0), .second, .val (.long el), .second, .val (.long di), .second, iv fg, iv sf, .val (.long dd), .second, rv a1, iv gf, iv wf, rv a2, .val (.long (t0 + el)), .second, iv gt, .unset] [(.int 1)]) (fun _ k => XS.iconst X32.here hx rfl (hb hby at_141) k) ?_
        refine own_s (mkF m 146 #[iv to, iv si, .val (.long t0), .second, .val (.long el), .second, .val (.long di), .second, iv fg, iv sf, .val (.long dd), .second, rv a1, iv gf, iv wf, rv a2, .val (.long (t0 + el)), .second, iv gt, .unset] [(.int 1)]) (fun _ k => XS.goto X32.here hx rfl (pc0 := 142) (pc' := 146) rfl (hb hby at_142) (by decide) (by decide) k) ?_
        rw [show wt = (1 : Int32) from by rw [h_wt, if_neg hj33, if_neg hj34]] at k
        exact k
  refine own_S (mkF m 148 #[iv to, iv si, .val (.long t0), .second, .val (.long el), .second, .val (.long di), .second, iv fg, iv sf, .val (.long dd), .second, rv a1, iv gf, iv wf, rv a2, .val (.long (t0 + el)), .second, iv gt, iv wt] []) (fun _ k => XS.istore X32.here hx rfl (hb hby at_146) rfl (l' := #[iv to, iv si, .val (.long t0), .second, .val (.long el), .second, .val (.long di), .second, iv fg, iv sf, .val (.long dd), .second, rv a1, iv gf, iv wf, rv a2, .val (.long (t0 + el)), .second, iv gt, iv wt]) rfl k) ?_
  refine own_S (mkF m 150 #[iv to, iv si, .val (.long t0), .second, .val (.long el), .second, .val (.long di), .second, iv fg, iv sf, .val (.long dd), .second, rv a1, iv gf, iv wf, rv a2, .val (.long (t0 + el)), .second, iv gt, iv wt] [(.int gt)]) (fun _ k => XS.iload X32.here hx rfl (hb hby at_148) rfl k) ?_
  refine own_S (mkF m 152 #[iv to, iv si, .val (.long t0), .second, .val (.long el), .second, .val (.long di), .second, iv fg, iv sf, .val (.long dd), .second, rv a1, iv gf, iv wf, rv a2, .val (.long (t0 + el)), .second, iv gt, iv wt] [(.int wt), (.int gt)]) (fun _ k => XS.iload X32.here hx rfl (hb hby at_150) rfl k) ?_
  have hc35 : gt = wt := (by rw [h_gt, h_wt]; exact own_law1 to sf t0 el dd)
  refine own_S (mkF m 155 #[iv to, iv si, .val (.long t0), .second, .val (.long el), .second, .val (.long di), .second, iv fg, iv sf, .val (.long dd), .second, rv a1, iv gf, iv wf, rv a2, .val (.long (t0 + el)), .second, iv gt, iv wt] []) (fun _ k => XS.icmpNo X32.here hx rfl (hb hby at_152) rfl (teq hc35).2 k) ?_
  refine own_S (mkF m 157 #[iv to, iv si, .val (.long t0), .second, .val (.long el), .second, .val (.long di), .second, iv fg, iv sf, .val (.long dd), .second, rv a1, iv gf, iv wf, rv a2, .val (.long (t0 + el)), .second, iv gt, iv wt] [(.int gf)]) (fun _ k => XS.iload X32.here hx rfl (hb hby at_155) rfl k) ?_
  refine own_S (mkF m 159 #[iv to, iv si, .val (.long t0), .second, .val (.long el), .second, .val (.long di), .second, iv fg, iv sf, .val (.long dd), .second, rv a1, iv gf, iv wf, rv a2, .val (.long (t0 + el)), .second, iv gt, iv wt] [(.int wf), (.int gf)]) (fun _ k => XS.iload X32.here hx rfl (hb hby at_157) rfl k) ?_
  have hc36 : gf = wf := (by rw [h_gf, h_wf]; exact own_law2 sf el dd)
  refine own_S (mkF m 162 #[iv to, iv si, .val (.long t0), .second, .val (.long el), .second, .val (.long di), .second, iv fg, iv sf, .val (.long dd), .second, rv a1, iv gf, iv wf, rv a2, .val (.long (t0 + el)), .second, iv gt, iv wt] []) (fun _ k => XS.icmpNo X32.here hx rfl (hb hby at_159) rfl (teq hc36).2 k) ?_
  refine own_S (mkF m 163 #[iv to, iv si, .val (.long t0), .second, .val (.long el), .second, .val (.long di), .second, iv fg, iv sf, .val (.long dd), .second, rv a1, iv gf, iv wf, rv a2, .val (.long (t0 + el)), .second, iv gt, iv wt] [(.int 1)]) (fun _ k => XS.iconst X32.here hx rfl (hb hby at_162) k) ?_
  refine own_S (mkF m 167 #[iv to, iv si, .val (.long t0), .second, .val (.long el), .second, .val (.long di), .second, iv fg, iv sf, .val (.long dd), .second, rv a1, iv gf, iv wf, rv a2, .val (.long (t0 + el)), .second, iv gt, iv wt] [(.int 1)]) (fun _ k => XS.goto X32.here hx rfl (pc0 := 163) (pc' := 167) rfl (hb hby at_163) (by decide) (by decide) k) ?_
  exact own_retN X32 hx hlk (t := .boolean) hret (by simp) (hb hby at_167) (by rw [e32]; exact ⟨rfl, N32, trivial⟩) (by decide) (by decide)
set_option maxRecDepth 65536 in
set_option maxHeartbeats 40000000 in
theorem comes_1 {Post : Tables → Env → Array Value → State → Outcome → State → Prop} (hpost : ∀ tb e args s v u, (limb_1_1.after args s (.returned v) u = true ∧ limb_1_2.after args s (.returned v) u = true ∧ True) → FrameEnd s (.returned v) u (Jvm.fieldLocs frame_1_writes args s ++ Jvm.arrayLocs frame_1_arrays args s ++ Jvm.staticLocs frame_1_statics s) 16 128 → Post tb e args s (.returned v) u) :
    ArmFor flags0 classFile x code maxLocals ret World_1 tables_1 room_1 Calls_1 rest_1 Pre_1 Post := by
  intro l hfl _ _ p e ha hc hk s m args below hf hA hF happ hP
  obtain ⟨hcalls, hrest, hpre⟩ := hP
  obtain ⟨-, -, -, hnamed, -, -, -, hat⟩ := (Spec.applies_iff hf).mp happ
  obtain ⟨hg, hn⟩ := and_e (Cond.before_iff.mp (show (Jvm.Cond.and given_1 narrow_1).before args s = true from hpre))
  obtain ⟨h1, g0⟩ := and_e hg
  obtain ⟨k0, g1⟩ := and_e g0
  obtain ⟨k1, g2⟩ := and_e g1
  obtain ⟨k2, g3⟩ := and_e g2
  obtain ⟨k3, g4⟩ := and_e g3
  obtain ⟨k4, g5⟩ := and_e g4
  have k5 := g5
  obtain ⟨w0, w1, w2, w3, w4, w5, rfl⟩ : ∃ w0 w1 w2 w3 w4 w5 : Value, args = #[w0, w1, w2, w3, w4, w5] := by
    have hs : args.size = 6 := by simpa [Cond.value, given_1] using h1
    obtain ⟨L⟩ := args
    match L, hs with
    | [w0, w1, w2, w3, w4, w5], _ => exact ⟨w0, w1, w2, w3, w4, w5, rfl⟩
  have hw := fun d (hd : d ∈ tables_1) => atoms_spec (ws := Jvm.Cond.code x code maxLocals ret :: tables_1) hat d (List.mem_cons_of_mem _ hd)
  have hfit : Fit s := fun {y c} hc i hi => by
    obtain ⟨ha, rfl⟩ := Array.getElem?_eq_some_iff.mp hc
    have q := List.all_eq_true.mp ((Array.all_eq_true_iff_forall_mem.mp hF) _ (Array.getElem_mem ha)) i (List.mem_range.mpr hi)
    simpa [Array.getElem?_eq_getElem hi] using q
  obtain ⟨i0, q0⟩ := is_v k0
  obtain rfl : w0 = (.int i0) := Option.some.inj q0
  obtain ⟨i1, q1⟩ := is_v k1
  obtain rfl : w1 = (.int i1) := Option.some.inj q1
  obtain ⟨i2, q2⟩ := isL_v k2
  obtain rfl : w2 = (.long i2) := Option.some.inj q2
  obtain ⟨i3, q3⟩ := isL_v k3
  obtain rfl : w3 = (.long i3) := Option.some.inj q3
  obtain ⟨i4, q4⟩ := isL_v k4
  obtain rfl : w4 = (.long i4) := Option.some.inj q4
  obtain ⟨i5, q5⟩ := is_v k5
  obtain rfl : w5 = (.int i5) := Option.some.inj q5
  obtain ⟨n, o, h1, h2, h3, _, L, rfl, ⟨rfl, N, -⟩, hq⟩ := own_rmlaw l s _ hw tables_1 i0 i1 i2 i3 i4 i5  s.heap s.heap.size (Nat.le_refl _)  p e ha hc hk s m _ below hf ((Spec.applies_iff_loose hf).mp happ).1 ⟨rfl, State.Warmed39.refl s, rfl⟩ trivial
  refine ⟨n, _, h1, h2, h3, hpost _ _ _ _ _ _ ⟨Cond.after_iff.mpr rfl, Cond.after_iff.mpr (eq_i res_at (Term.int_eval (1)) rfl), trivial⟩ ⟨hq.1, hq.2.1, (hq.2.2.sift fun y hy => Or.inr (N y hy)).mono (by decide) (by decide)⟩⟩
theorem main_1_1 : Claimed_1_1 := comes_1 fun _ _ _ _ _ _ h hF => ⟨h.1, hF⟩
theorem main_1_2 : Claimed_1_2 := comes_1 fun _ _ _ _ _ _ h hF => ⟨h.2.1, hF⟩
end Jvm.Pilot.@@N@@
namespace Jvm.Pilot.@@N@@
open Jvm Jvm.ClassFile Sem Op Lib Jvm.Free Jvm.Stand Jvm.Pilot.@@N@@.Jvm.D
/-! MADE BY PROGRAM (witnessworld.py) out of the Statement's table words and the real class files: 9 classes; the members and pool entries that the words name. The judged class is class 1, her method 1. -/
namespace start1
open Jvm.ClassFile
def u (s : String) : CpInfo := .utf8 (stringToUtf16 s)
/-- a pool by its gaps: so many unusable entries, then the entry; so many at the end -/
def gap : Nat → List CpInfo → List CpInfo
  | 0, r => r
  | n + 1, r => .unusable :: gap n r
def poolList (es : List (Nat × CpInfo)) (last : Nat) : List CpInfo := es.foldr (fun e r => gap e.1 (e.2 :: r)) (gap last [])
def pool (es : List (Nat × CpInfo)) (last : Nat) : Array CpInfo := ⟨poolList es last⟩
def fileOf (pool : Array CpInfo) (this : Nat) (attrs : Array Attribute := #[]) (ms : Array MethodInfo := #[]) (fl : Nat := 33) (sup : Nat := 0) (ifs : Array Nat := #[]) (fds : Array FieldInfo := #[]) : ClassFile where
  minorVersion := 0
  majorVersion := 65
  constantPool := pool
  accessFlags := fl
  thisClass := this
  superClass := sup
  interfaces := ifs
  fields := fds
  methods := ms
  attributes := attrs
def plain (name : String) (sup : Option ClassId) : Class where
  name := name
  kind := .ordinary
  loader := none
  accessFlags := 33
  super := sup
  interfaces := #[]
  cf := none
  fields := #[]
  methods := #[]
  instanceTypes := #[]
  staticTypes := #[]
  resolved := #[]
  callSites := []
  init := .initialized
  statics := none
  mirror := none

def pool0 : Array CpInfo := pool [(5, u "<init>"), (0, u "()V"), (1, .class_ 10), (1, u "java/lang/Object")] 113

def k0c0 : Code := { maxStack := 0, maxLocals := 1, code := object_method_1_code, exceptionTable := #[], attributes := #[] }
def k0m0 : Method := { name := "<init>", desc := "()V", sig := { parameters := [], returnType := none }, accessFlags := 1, code := some k0c0 }
/-- java/lang/Object -/
def k0 : Class := { plain "java/lang/Object" none with
  accessFlags := 33
  interfaces := #[]
  cf := some (fileOf pool0 8 #[] #[{ accessFlags := 1, nameIndex := 5, descriptorIndex := 6, attributes := #[] }] 33 0 #[] #[])
  fields := #[]
  methods := #[k0m0]
  instanceTypes := #[]
  staticTypes := #[]
  resolved := Array.replicate 124 none
  statics := none }

def pool1 : Array CpInfo := pool [(2, .class_ 4), (0, .nameAndType 5 6), (0, u "java/lang/Object"), (0, u "<init>"), (0, u "()V"), (0, .class_ 8), (0, u "com/example/lockstep/lockstep/Resend"), (0, .methodref 7 3), (0, .methodref 7 11), (0, .nameAndType 12 13), (0, u "overdue"), (0, u "(IJJ)Z"), (0, .long 18446744073709551615), (1, .methodref 7 17), (0, .nameAndType 18 19), (0, u "sent"), (0, u "(IJ)V"), (0, .class_ 21), (0, u "com/example/lockstep/lockstep/ResendOverduePinLaw"), (2, u "law"), (0, u "(IIJJJI)Z")] 3

def k1m0 : Method := { name := "<init>", desc := "()V", sig := { parameters := [], returnType := none }, accessFlags := 1, code := none }
def k1c1 : Code := { maxStack := 6, maxLocals := 20, code := code, exceptionTable := #[], attributes := #[] }
def k1m1 : Method := { name := "law", desc := "(IIJJJI)Z", sig := { parameters := [.int, .int, .long, .long, .long, .int], returnType := some .boolean }, accessFlags := 9, code := some k1c1 }
/-- com/example/lockstep/lockstep/ResendOverduePinLaw -/
def k1 : Class := { plain "com/example/lockstep/lockstep/ResendOverduePinLaw" (some 0) with
  accessFlags := 49
  interfaces := #[]
  cf := some (fileOf pool1 20 #[] #[{ accessFlags := 1, nameIndex := 5, descriptorIndex := 6, attributes := #[] }, { accessFlags := 9, nameIndex := 24, descriptorIndex := 25, attributes := #[] }] 49 2 #[] #[])
  fields := #[]
  methods := #[k1m0, k1m1]
  instanceTypes := #[]
  staticTypes := #[]
  resolved := Array.replicate 29 none
  statics := none }

def pool2 : Array CpInfo := pool [(1, .methodref 2 3), (0, .class_ 4), (0, .nameAndType 5 6), (0, u "java/lang/Object"), (0, u "<init>"), (0, u "()V"), (0, .fieldref 8 9), (0, .class_ 10), (0, .nameAndType 11 12), (0, u "com/example/lockstep/lockstep/Resend"), (0, u "sentTo"), (0, u "I"), (0, .fieldref 8 14), (0, .nameAndType 15 16), (0, u "sentAt"), (0, u "J"), (2, u "sent"), (0, u "(IJ)V"), (0, u "overdue"), (0, u "(IJJ)Z")] 3

def k2c0 : Code := { maxStack := 1, maxLocals := 1, code := prog_20_method_1_code, exceptionTable := #[], attributes := #[] }
def k2m0 : Method := { name := "<init>", desc := "()V", sig := { parameters := [], returnType := none }, accessFlags := 0, code := some k2c0 }
def k2c1 : Code := { maxStack := 3, maxLocals := 4, code := prog_20_method_2_code, exceptionTable := #[], attributes := #[] }
def k2m1 : Method := { name := "sent", desc := "(IJ)V", sig := { parameters := [.int, .long], returnType := none }, accessFlags := 0, code := some k2c1 }
def k2c2 : Code := { maxStack := 4, maxLocals := 6, code := prog_20_method_3_code, exceptionTable := #[], attributes := #[] }
def k2m2 : Method := { name := "overdue", desc := "(IJJ)Z", sig := { parameters := [.int, .long, .long], returnType := some .boolean }, accessFlags := 0, code := some k2c2 }
/-- com/example/lockstep/lockstep/Resend -/
def k2 : Class := { plain "com/example/lockstep/lockstep/Resend" (some 0) with
  accessFlags := 48
  interfaces := #[]
  cf := some (fileOf pool2 8 #[] #[{ accessFlags := 0, nameIndex := 5, descriptorIndex := 6, attributes := #[] }, { accessFlags := 0, nameIndex := 19, descriptorIndex := 20, attributes := #[] }, { accessFlags := 0, nameIndex := 21, descriptorIndex := 22, attributes := #[] }] 48 2 #[] #[{ accessFlags := 2, nameIndex := 15, descriptorIndex := 16, attributes := #[] }, { accessFlags := 2, nameIndex := 11, descriptorIndex := 12, attributes := #[] }])
  fields := #[{ name := "sentAt", type := .long, accessFlags := 2, slot := 0, constantValue := 0 }, { name := "sentTo", type := .int, accessFlags := 2, slot := 1, constantValue := 0 }]
  methods := #[k2m0, k2m1, k2m2]
  instanceTypes := #[.long, .int]
  staticTypes := #[]
  resolved := Array.replicate 26 none
  statics := none }

def pool3 : Array CpInfo := pool [(1, u "java/lang/Cloneable"), (0, .class_ 1), (0, u "java/lang/Object"), (0, .class_ 3)] 3

/-- java/lang/Cloneable -/
def k3 : Class := { plain "java/lang/Cloneable" (some 0) with
  accessFlags := 1537
  interfaces := #[]
  cf := some (fileOf pool3 2 #[] #[] 1537 4 #[] #[])
  fields := #[]
  methods := #[]
  instanceTypes := #[]
  staticTypes := #[]
  resolved := Array.replicate 8 none
  statics := none }

def pool4 : Array CpInfo := pool [(1, u "java/io/Serializable"), (0, .class_ 1), (0, u "java/lang/Object"), (0, .class_ 3)] 3

/-- java/io/Serializable -/
def k4 : Class := { plain "java/io/Serializable" (some 0) with
  accessFlags := 1537
  interfaces := #[]
  cf := some (fileOf pool4 2 #[] #[] 1537 4 #[] #[])
  fields := #[]
  methods := #[]
  instanceTypes := #[]
  staticTypes := #[]
  resolved := Array.replicate 8 none
  statics := none }

/-- the primitive byte -/
def k5 : Class := { plain "byte" none with kind := .primitive 'B', accessFlags := 0x411 }
/-- [B -/
def k6 : Class := { plain "[B" (some 0) with kind := .array 5 .byte, interfaces := #[3, 4], accessFlags := 1041 }

/-- the primitive int -/
def k7 : Class := { plain "int" none with kind := .primitive 'I', accessFlags := 0x411 }
/-- [I -/
def k8 : Class := { plain "[I" (some 0) with kind := .array 7 .int, interfaces := #[3, 4], accessFlags := 1041 }

def heap : Heap := #[]
def classes : Array Class := #[k0, k1, k2, k3, k4, k5, k6, k7, k8]
def interned : List (Array UInt16 × Addr) := []
def slotsUsed : Nat := 0
def theMethod : MethodId := ⟨1, 1⟩
def args0 : Array Value := #[.int 5, .int 7, .long 100, .long 20, .long 10, .int 0]
def aboutOver (below : List Frame) : State where
  vm := { classes := classes, interned := interned.toArray }
  heap := heap
  slotsUsed := slotsUsed
  threads := #[{ frames := .invoking theMethod args0 :: below }]
def below0 : List Frame := [.native { method := ⟨0, 0⟩, args := #[] }]
def about1 : State := aboutOver below0
def p0 : Program := .bare "" "" ""
def e0 : Env := launch0.env 0 0 0
theorem w_frames : about1.frames = Frame.invoking theMethod args0 :: below0 := rfl
set_option maxRecDepth 65536 in
theorem w_args : argsFit about1.vm theMethod args0 = true := by decide +kernel
set_option maxRecDepth 65536 in
theorem w_heap : heapFits about1 = true := by decide +kernel
set_option maxRecDepth 65536 in
theorem w_runnable : about1.curStatus? = some .runnable := by decide +kernel
set_option maxRecDepth 65536 in
theorem w_alone : about1.alone = true := by decide +kernel
set_option maxRecDepth 65536 in
theorem w_named : about1.methodNamed? x = some theMethod := by decide +kernel
set_option maxRecDepth 65536 in
theorem w_hears : about1.hears theMethod below0 = true := by decide +kernel
set_option maxRecDepth 65536 in
theorem w_ripe : about1.ripe theMethod args0 below0 = true := by decide +kernel
theorem w_running : about1.status = .running := rfl
set_option maxRecDepth 65536 in
theorem w_room : about1.hasRoom e0.platform room_1 = true :=
  launch0.hasRoom_least _ room_1 (by decide +kernel) (by decide +kernel) (by decide +kernel) (by decide +kernel) (by decide +kernel) (by decide +kernel)
theorem allAtoms_all (ts : List Jvm.Cond) (a : Array Jvm.Value) (st : Jvm.State) : (allAtoms ts).before a st = ts.all (fun c => c.before a st) := by
  induction ts with
  | nil => rfl
  | cons c t ih =>
    show (Jvm.Cond.and c (allAtoms t)).before a st = _
    rw [Jvm.Cond.before_and, ih, List.all_cons]
def words1 : List Jvm.Cond := Jvm.Cond.code x code maxLocals ret :: tables_1
/-- a 'code' word, met by the world's own term for the bytes: nothing is compared byte by byte -/
theorem code_word {y : MethodName} {bytes : ByteArray} {mx : Nat} {rt : Option FieldType} {a : Array Value} {s : State} {m : MethodId} {meth : Method} {c : Code} (h1 : s.methodNamed? y = some m) (h2 : s.vm.method? m = some meth) (h3 : meth.code = some c) (h4 : c.code = bytes)
    (h5 : (c.maxLocals == mx && c.exceptionTable.isEmpty && decide (c.maxStack ≤ mostOperands) && decide (meth.sig.returnType = rt) && !meth.locks && decide (parseMethodDescriptor y.desc = some meth.sig)) = true) : (Jvm.Cond.code y bytes mx rt).before a s = true := by
  simp only [Bool.and_eq_true, beq_iff_eq, Bool.not_eq_true', decide_eq_true_eq] at h5
  obtain ⟨⟨⟨⟨⟨g1, g2⟩, g3⟩, g4⟩, g5⟩, g6⟩ := h5
  simp [Cond.before, Cond.holds, Cond.value, h1, h2, h3, h4, g1, g2, g3, g4, g5, g6]
def isCode : Jvm.Cond → Bool
  | .code _ _ _ _ => true
  | _ => false
theorem all_split {L : List Jvm.Cond} {P : Jvm.Cond → Bool} (h1 : L.all (fun c => isCode c || P c) = true) (h2 : ∀ c ∈ L.filter isCode, P c = true) : L.all P = true := by
  refine List.all_eq_true.mpr fun c hc => ?_
  have h := List.all_eq_true.mp h1 c hc
  rcases Bool.eq_false_or_eq_true (isCode c) with hi | hi
  · exact h2 c (List.mem_filter.mpr ⟨hc, hi⟩)
  · simpa [hi] using h
set_option maxRecDepth 65536 in
theorem w_c0 : (Jvm.Cond.code x code maxLocals ret).before args0 about1 = true := code_word (m := ⟨1, 1⟩) (meth := k1m1) (c := k1c1) (by decide +kernel) rfl rfl rfl (by decide +kernel)
set_option maxRecDepth 65536 in
theorem w_c1 : (Jvm.Cond.code ({ cls := "com/example/lockstep/lockstep/Resend", name := "<init>", desc := "()V" } : Jvm.MethodName) prog_20_method_1_code (1 : Nat) (Option.none : Option Jvm.ClassFile.FieldType)).before args0 about1 = true := code_word (m := ⟨2, 0⟩) (meth := k2m0) (c := k2c0) (by decide +kernel) rfl rfl rfl (by decide +kernel)
set_option maxRecDepth 65536 in
theorem w_c2 : (Jvm.Cond.code ({ cls := "java/lang/Object", name := "<init>", desc := "()V" } : Jvm.MethodName) object_method_1_code (1 : Nat) (Option.none : Option Jvm.ClassFile.FieldType)).before args0 about1 = true := code_word (m := ⟨0, 0⟩) (meth := k0m0) (c := k0c0) (by decide +kernel) rfl rfl rfl (by decide +kernel)
set_option maxRecDepth 65536 in
theorem w_c3 : (Jvm.Cond.code ({ cls := "com/example/lockstep/lockstep/Resend", name := "overdue", desc := "(IJJ)Z" } : Jvm.MethodName) prog_20_method_3_code (6 : Nat) (Option.some Jvm.ClassFile.FieldType.boolean)).before args0 about1 = true := code_word (m := ⟨2, 2⟩) (meth := k2m2) (c := k2c2) (by decide +kernel) rfl rfl rfl (by decide +kernel)
set_option maxRecDepth 65536 in
theorem w_c4 : (Jvm.Cond.code ({ cls := "com/example/lockstep/lockstep/Resend", name := "sent", desc := "(IJ)V" } : Jvm.MethodName) prog_20_method_2_code (4 : Nat) (Option.none : Option Jvm.ClassFile.FieldType)).before args0 about1 = true := code_word (m := ⟨2, 1⟩) (meth := k2m1) (c := k2c1) (by decide +kernel) rfl rfl rfl (by decide +kernel)
def codes1 : List Jvm.Cond := [Jvm.Cond.code x code maxLocals ret, Jvm.Cond.code ({ cls := "com/example/lockstep/lockstep/Resend", name := "<init>", desc := "()V" } : Jvm.MethodName) prog_20_method_1_code (1 : Nat) (Option.none : Option Jvm.ClassFile.FieldType), Jvm.Cond.code ({ cls := "java/lang/Object", name := "<init>", desc := "()V" } : Jvm.MethodName) object_method_1_code (1 : Nat) (Option.none : Option Jvm.ClassFile.FieldType), Jvm.Cond.code ({ cls := "com/example/lockstep/lockstep/Resend", name := "overdue", desc := "(IJJ)Z" } : Jvm.MethodName) prog_20_method_3_code (6 : Nat) (Option.some Jvm.ClassFile.FieldType.boolean), Jvm.Cond.code ({ cls := "com/example/lockstep/lockstep/Resend", name := "sent", desc := "(IJ)V" } : Jvm.MethodName) prog_20_method_2_code (4 : Nat) (Option.none : Option Jvm.ClassFile.FieldType)]
set_option maxRecDepth 65536 in
theorem codes_eq : words1.filter isCode = codes1 := rfl
theorem w_codes : ∀ c ∈ words1.filter isCode, c.before args0 about1 = true := by
  rw [codes_eq]
  intro c hc
  simp only [codes1, List.mem_cons, List.not_mem_nil, or_false] at hc
  rcases hc with rfl | rfl | rfl | rfl | rfl
  · exact w_c0
  · exact w_c1
  · exact w_c2
  · exact w_c3
  · exact w_c4
set_option maxRecDepth 65536 in
theorem w_t1 : (words1.take 24).all (fun c => isCode c || c.before args0 about1) = true := by decide +kernel
set_option maxRecDepth 65536 in
theorem w_t2 : (words1.drop 24).all (fun c => isCode c || c.before args0 about1) = true := by decide +kernel
theorem w_tables : (allAtoms (Jvm.Cond.code x code maxLocals ret :: tables_1)).before args0 about1 = true := by
  rw [allAtoms_all]
  show words1.all (fun c => c.before args0 about1) = true
  refine all_split ?_ w_codes
  rw [← List.take_append_drop 24 words1, List.all_append, w_t1, w_t2]
  rfl
set_option maxRecDepth 65536 in
theorem w_case : (Jvm.Cond.and given_1 narrow_1).before args0 about1 = true := by decide +kernel
theorem w_applies : (headSpec (Jvm.Cond.code x code maxLocals ret :: tables_1) room_1).applies x e0.platform about1 = true :=
  (Spec.applies_iff w_frames).mpr ⟨w_running, w_runnable, w_alone, w_named, w_hears, w_ripe, w_room, w_tables⟩
theorem atStart : AtStart classFile x code maxLocals ret World_1 tables_1 room_1 Calls_1 rest_1 Pre_1 launch0 p0 e0 about1 theMethod args0 below0 :=
  ⟨lists_1, trivial, launch0.admits_env _ _ _, launch0.least_env, fairChoices_fair.cas, fairChoices_fair.clock, w_frames, w_args, w_heap, w_applies, trivial, trivial, w_case⟩
end start1
theorem witness_1 : WitnessClaimed_1 := ⟨start1.p0, start1.e0, start1.about1, start1.theMethod, start1.args0, start1.below0, start1.atStart⟩
end Jvm.Pilot.@@N@@
