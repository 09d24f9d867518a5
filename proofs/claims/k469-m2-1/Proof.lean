import JvmDerived
import JvmDerived.Pilot.@@N@@Statement
import JvmDerived.Pilot.@@N@@Code
set_option linter.unusedVariables false
set_option linter.unusedSimpArgs false
namespace Jvm.RoadKit
open Sem ClassFile Op Lib Jvm.Stand Jvm.Free Jvm.LawKit
section New
variable {p : Program} {l : Launch} {e : Env} {R : Room} {s : State} {m : MethodId} {args : Array Value} {below : List Frame} {meth : Method} {c : Code} {T : State} {locs : List Loc} {cells slots : Nat}
theorem retI (X : Stand p l e R s m args below meth c T locs cells slots) (hx : p.tables.exec = Jvm.exec) {pc : Nat} {Ls : Array Slot} {z : Int32} {rest : List Value} (hret : meth.sig.returnType = some .int) (hd : decode c.code pc = .ok (.ireturn, 1)) {fs : List Frame}
    (hl : ∀ (f : JFrame) (acts : List Action), f.method = m → f.locked = none → f.entered = [] → (doReturn e (T.setTop f) acts (some (.int z))).1 = T.setFrames fs) : Steps p.tables e below (T.setTop (mkF m pc Ls (.int z :: rest))) (T.setFrames fs) := by
  have hm' : T.vm.method? m = some meth := X.method'
  have hn : narrow .int (.int z) = .int z := rfl
  show Steps p.tables e below (T.setTop { method := m, pc := pc, locals := Ls, stack := _ :: rest, locked := none }) _
  jvm_step X.here [X.here.top, hx, hd, hm', hret, hn]
  first | (intro acts; rw [hl _ acts rfl rfl rfl]) | rw [hl _ _ rfl rfl rfl]
  exact Steps.refl _
end New
end Jvm.RoadKit
namespace Jvm.Pilot.@@N@@
open Jvm Jvm.ClassFile Sem Op Lib Jvm.Free Jvm.Stand Jvm.LawKit Jvm.RoadKit Bundle Jvm.Pilot.@@N@@.Jvm.D
abbrev vi (x : Int32) : Slot := .val (.int x)
abbrev vj (x : Int64) : Slot := .val (.long x)
abbrev vr (x : Addr) : Slot := .val (.ref x)
abbrev vN : Slot := .val .null
abbrev un : Slot := .unset
abbrev SS (p : Program) (e : Env) (below : List Frame) (m : MethodId) (T : State) (pc : Nat) (L : Array Slot) (S : List Value) (t : State) : Prop := Steps p.tables e below (T.setTop (mkF m pc L S)) t
theorem ww {a0 : Array Value} {Z : State} (hw : ∀ d ∈ tables_1, d.before a0 Z = true) (i : Nat) {d : Jvm.Cond} (h : tables_1[i]? = some d) : d.before a0 Z = true := hw _ (List.mem_of_getElem? h)
abbrev y_0 : MethodName := ⟨"java/lang/Record", "<init>", "()V"⟩
abbrev y_1 : MethodName := ⟨"com/example/tranchebook/tranchebook/PaymentSchedule$Cut$EveryMonths", "<init>", "(I)V"⟩
abbrev y_2 : MethodName := ⟨"com/example/tranchebook/tranchebook/PaymentSchedule", "<init>", "(Lcom/example/tranchebook/tranchebook/PaymentSchedule$Cut;Lcom/example/tranchebook/tranchebook/PaymentSchedule$DueDay;)V"⟩
abbrev y_3 : MethodName := ⟨"com/example/tranchebook/tranchebook/PaymentSchedule", "everyMonths", "(I)Lcom/example/tranchebook/tranchebook/PaymentSchedule;"⟩
abbrev y_4 : MethodName := ⟨"com/example/tranchebook/tranchebook/PaymentSchedule", "dueDay", "()Lcom/example/tranchebook/tranchebook/PaymentSchedule$DueDay;"⟩
abbrev y_5 : MethodName := ⟨"com/example/tranchebook/tranchebook/PaymentSchedule", "cut", "()Lcom/example/tranchebook/tranchebook/PaymentSchedule$Cut;"⟩
abbrev y_6 : MethodName := ⟨"com/example/tranchebook/tranchebook/PaymentSchedule$Cut$EveryMonths", "months", "()I"⟩
theorem own_fld {args : Array Value} {s : State} {t : Term} {C f d : String} {k : Int32} {w : Addr} (ev : t.eval args s none [] s = some (.ref w)) (h : (Jvm.Cond.eq (Term.field t C f d) (Term.int k)).value args s none s [] = some true) : Fld s s.heap w C f d (.int k) := Fld.start ((fld_at ev).symm.trans (eqv_i (Term.int_eval k) h))
theorem own_pos {p : Int32} (h : ¬ (p &&& (2147483647 : Int32)) = (0 : Int32)) : ¬ (p &&& (2147483647 : Int32)) < (1 : Int32) := by
  have q := (c_and p 2147483647 (by decide)).1
  rw [← Int32.toInt_inj] at h
  rw [Int32.lt_iff_toInt_lt]
  have e0 : (0 : Int32).toInt = 0 := by decide
  have e1 : (1 : Int32).toInt = 1 := by decide
  omega
theorem d3_0 : decode jdk_30_method_1_code 0 = .ok (.aload_n 0, 1) := by decide +kernel
theorem d3_1 : decode jdk_30_method_1_code 1 = .ok (.invokespecial 1, 3) := by decide +kernel
theorem d3_4 : decode jdk_30_method_1_code 4 = .ok (.return_, 1) := by decide +kernel
theorem pn_0 : plainName "java/lang/Record" = true := by first | (simp [plainName, overriddenIn]; done) | decide +kernel
theorem ef_rm3 (m : MethodId) (x0 : Addr) : entryFrame m #[(.ref x0)] 1 = mkF m 0 #[vr x0] [] := by first | (simp [entryFrame, mkF, argsToLocals, Value.category]; done) | rfl
def Q_rm3 (Z : State) (a1 : Addr) (h0 : Heap) (n0 : Nat) (v : Option Value) (h : Heap) (L : List Loc) : Prop := (v = none) ∧ (Fr n0 L) ∧ (h = h0)
set_option maxRecDepth 65536 in
set_option maxHeartbeats 40000000 in
theorem rm3 (l : Launch) (Z : State) (a0 : Array Value) (hw : ∀ d ∈ tables_1, d.before a0 Z = true) (ws : List Jvm.Cond) (a1 : Addr) (h0 : Heap) (n0 : Nat) (Z0 : n0 ≤ h0.size) (O0 : Old Z n0 h0) :
    MetFree l y_0 (head1 (Jvm.Cond.code y_0 jdk_30_method_1_code 1 none :: ws) ({ frames := 1, cells := 0, slots := 0, locals := 12 } : Room)) (fun a U => a = #[(.ref a1)] ∧ Z.Warmed39 U.vm ∧ U.heap = h0) (fun _ _ _ _ _ => True) (fun _ U o U' => ∃ v L, o = .returned v ∧ Q_rm3 Z a1 h0 n0 v U'.heap L ∧ FrameEnd U o U' L ({ frames := 1, cells := 0, slots := 0, locals := 12 } : Room).cells ({ frames := 1, cells := 0, slots := 0, locals := 12 } : Room).slots) := by
  refine MetFree.of_bodySF (plainFor_of_name pn_0) hisR ?_
  intro p e s m args below meth c s₁ Bd hml0 hP hK
  obtain ⟨rfl, hZ, hh⟩ := hP
  have hx := Bd.exec
  have hby := Bd.bytes
  have hml : c.maxLocals = 1 := hml0
  have hown : s.vm.findClass "java/lang/Record" = some m.cls := findClass_of_methodNamed Bd.named
  have hnm := (name_of_methodNamed Bd.named Bd.method).1
  have X0 : Stand p l e ({ frames := 1, cells := 0, slots := 0, locals := 12 } : Room) s m #[(.ref a1)] below meth c s₁ [] 0 0 := Stand.of_body Bd
  have e0 : s₁.heap = h0 := by rw [← hh, Bd.state]; rfl
  have N0 := Fr.nil n0
  have KC : Keep h0 h0 [] := Keep.refl h0 _
  have pre0 : ∀ t, Steps p.tables e below (s₁.setTop (mkF m 0 #[vr a1] [])) t → Steps p.tables e below (s₁.setTop (entryFrame m #[(.ref a1)] 1)) t := fun t k => castTop (ef_rm3 m a1) k
  obtain ⟨T1, X1, e1, st1⟩ := initO X0 hx hZ hown (ww hw 18 rfl) (ww hw 19 rfl) (ww hw 20 rfl) e0 (g := (mkF m 1 #[vr a1] [(.ref a1)])) rfl (by rw [hml]; rfl) rfl (hb hby d3_1) (by decide) (W := 0) (by show 2 * 0 + _ ≤ _; exact Nat.le_of_eq rfl) (by decide)
  obtain ⟨fs, hr, hrun, hended, hW, hsame⟩ := X1.leave (v := none) (fun _ => rfl)
  refine ⟨_, _, pre0 _ ?_, hrun, hended, _, _, rfl, ?_, ⟨_, rfl⟩, hW, hsame.mono (by decide) (by decide)⟩
  · show SS p e below m s₁ 0 #[vr a1] [] _
    refine XS.aloadN X0.here hx rfl (hb hby d3_0) rfl rfl ?_
    show SS p e below m s₁ 1 #[vr a1] [(.ref a1)] _
    refine st1 _ ?_
    show SS p e below m T1 4 #[vr a1] [] _
    exact X1.returnOut hx Bd.returns (hb hby d3_4) hr
  · show Q_rm3 Z a1 h0 n0 _ T1.heap _
    rw [e1]
    exact ⟨rfl, N0, rfl⟩
theorem pd_0 : parseMethodDescriptor "()V" = some ⟨[], none⟩ := by decide +kernel
theorem d2_0 : decode prog_48_method_1_code 0 = .ok (.aload_n 0, 1) := by decide +kernel
theorem d2_1 : decode prog_48_method_1_code 1 = .ok (.invokespecial 1, 3) := by decide +kernel
theorem d2_4 : decode prog_48_method_1_code 4 = .ok (.iload_n 1, 1) := by decide +kernel
theorem d2_5 : decode prog_48_method_1_code 5 = .ok (.iconst 1, 1) := by decide +kernel
theorem d2_6 : decode prog_48_method_1_code 6 = .ok (.if_icmp .ge 17, 3) := by decide +kernel
theorem d2_23 : decode prog_48_method_1_code 23 = .ok (.aload_n 0, 1) := by decide +kernel
theorem d2_24 : decode prog_48_method_1_code 24 = .ok (.iload_n 1, 1) := by decide +kernel
theorem d2_25 : decode prog_48_method_1_code 25 = .ok (.putfield 16, 3) := by decide +kernel
theorem d2_28 : decode prog_48_method_1_code 28 = .ok (.return_, 1) := by decide +kernel
theorem pn_1 : plainName "com/example/tranchebook/tranchebook/PaymentSchedule$Cut$EveryMonths" = true := by first | (simp [plainName, overriddenIn]; done) | decide +kernel
theorem ef_rm2 (m : MethodId) (x0 : Addr) (x1 : Int32) : entryFrame m #[(.ref x0), (.int x1)] 2 = mkF m 0 #[vr x0, vi x1] [] := by first | (simp [entryFrame, mkF, argsToLocals, Value.category]; done) | rfl
def Q_rm2 (Z : State) (a1 : Addr) (p2 : Int32) (h0 : Heap) (n0 : Nat) (v : Option Value) (h : Heap) (L : List Loc) : Prop := (v = none) ∧ (Fr n0 L) ∧ (Keep h0 h [a1]) ∧ (Fld Z h a1 "com/example/tranchebook/tranchebook/PaymentSchedule$Cut$EveryMonths" "months" "I" (.int p2))
set_option maxRecDepth 65536 in
set_option maxHeartbeats 40000000 in
theorem rm2 (l : Launch) (Z : State) (a0 : Array Value) (hw : ∀ d ∈ tables_1, d.before a0 Z = true) (ws : List Jvm.Cond) (a1 : Addr) (p2 : Int32) (h0 : Heap) (n0 : Nat) (Z0 : n0 ≤ h0.size) (O0 : Old Z n0 h0) (F_months_a1 : Fld Z h0 a1 "com/example/tranchebook/tranchebook/PaymentSchedule$Cut$EveryMonths" "months" "I" (.int (0 : Int32))) (E_a1 : Exa Z h0 a1 "com/example/tranchebook/tranchebook/PaymentSchedule$Cut$EveryMonths") (g_a1 : n0 ≤ a1) (hp : ¬ p2 < (1 : Int32)) :
    MetFree l y_1 (head1 (Jvm.Cond.code y_1 prog_48_method_1_code 2 none :: ws) ({ frames := 2, cells := 0, slots := 0, locals := 24 } : Room)) (fun a U => a = #[(.ref a1), (.int p2)] ∧ Z.Warmed39 U.vm ∧ U.heap = h0) (fun _ _ _ _ _ => True) (fun _ U o U' => ∃ v L, o = .returned v ∧ Q_rm2 Z a1 p2 h0 n0 v U'.heap L ∧ FrameEnd U o U' L ({ frames := 2, cells := 0, slots := 0, locals := 24 } : Room).cells ({ frames := 2, cells := 0, slots := 0, locals := 24 } : Room).slots) := by
  refine MetFree.of_bodySF (plainFor_of_name pn_1) hisR ?_
  intro p e s m args below meth c s₁ Bd hml0 hP hK
  obtain ⟨rfl, hZ, hh⟩ := hP
  have hx := Bd.exec
  have hby := Bd.bytes
  have hml : c.maxLocals = 2 := hml0
  have hown : s.vm.findClass "com/example/tranchebook/tranchebook/PaymentSchedule$Cut$EveryMonths" = some m.cls := findClass_of_methodNamed Bd.named
  have hnm := (name_of_methodNamed Bd.named Bd.method).1
  have X0 : Stand p l e ({ frames := 2, cells := 0, slots := 0, locals := 24 } : Room) s m #[(.ref a1), (.int p2)] below meth c s₁ [] 0 0 := Stand.of_body Bd
  have e0 : s₁.heap = h0 := by rw [← hh, Bd.state]; rfl
  have N0 := Fr.nil n0
  have KC : Keep h0 h0 [a1] := Keep.refl h0 _
  have pre0 : ∀ t, Steps p.tables e below (s₁.setTop (mkF m 0 #[vr a1, vi p2] [])) t → Steps p.tables e below (s₁.setTop (entryFrame m #[(.ref a1), (.int p2)] 2)) t := fun t k => castTop (ef_rm2 m a1 p2) k
  obtain ⟨_, _, ⟨T1, L1, k1, n1⟩, -, X1, ⟨Lc1, hQ1, l1, y1, z1⟩, st1⟩ := X0.specialBack hx (y := y_0) rfl hown (mvT hZ (ww hw 13 rfl)) (mvT hZ (ww hw 14 rfl)) (mvT hZ (ww hw 17 rfl)) (by decide) (backOf (W := 0) (rm3 l Z a0 hw [] a1 h0 n0 (Nat.le_trans Z0 KC.1) O0 ) hZ (ww hw 17 rfl) (ww hw 16 rfl) (by decide) (by decide)) (g := (mkF m 1 #[vr a1, vi p2] [(.ref a1)])) rfl (by rw [hml]; rfl) (Steps.refl _) (a := a1) (argsL := []) (rest := []) (lenOf pd_0 rfl) rfl (by show 2 * 0 + _ ≤ _; exact Nat.le_of_eq rfl) (hb hby d2_1) (fun _ _ => ⟨rfl, e0, (by decide : 0 + 0 ≤ _), (by decide : 0 + 0 ≤ _)⟩)
  dsimp only [Pt.U, Pt.locs, Pt.cells, Pt.slots] at X1 l1 y1 z1 st1 hQ1
  subst l1 y1 z1
  obtain ⟨rfl, N1q, e1⟩ := hQ1
  have N1 := Fr.app N0 N1q
  obtain ⟨T2, h2, X2, e2, W2, st2⟩ := putF X1 hx hZ hown (host := "") (Or.inl (ww hw 21 rfl)) Via.refl e1 F_months_a1 E_a1 (Or.inr ⟨(ww hw 22 rfl), rfl, hnm⟩) (ww hw 8 rfl) (ty := .int) (by decide) rfl rfl (g := (mkF m 25 #[vr a1, vi p2] [(.int p2), (.ref a1)])) rfl rfl (hb hby d2_25)
  have N2 := Fr.snoc X2 N1 g_a1
  replace F_months_a1 := F_months_a1.same W2
  replace E_a1 := E_a1.wr W2
  replace O0 := O0.wr W2 g_a1
  replace KC := KC.wr W2 (Or.inl (List.mem_of_getElem? (i := 0) rfl))
  obtain ⟨fs, hr, hrun, hended, hW, hsame⟩ := X2.leave (v := none) (fun _ => rfl)
  refine ⟨_, _, pre0 _ ?_, hrun, hended, _, _, rfl, ?_, ⟨_, rfl⟩, hW, hsame.mono (by decide) (by decide)⟩
  · show SS p e below m s₁ 0 #[vr a1, vi p2] [] _
    refine XS.aloadN X0.here hx rfl (hb hby d2_0) rfl rfl ?_
    show SS p e below m s₁ 1 #[vr a1, vi p2] [(.ref a1)] _
    refine st1.trans ?_
    show SS p e below m T1 4 #[vr a1, vi p2] [] _
    refine XS.iloadN X1.here hx rfl (hb hby d2_4) rfl ?_
    show SS p e below m T1 5 #[vr a1, vi p2] [(.int p2)] _
    refine XS.iconst X1.here hx rfl (hb hby d2_5) ?_
    show SS p e below m T1 6 #[vr a1, vi p2] [(.int (1 : Int32)), (.int p2)] _
    refine XS.icmpYes X1.here hx rfl (pc0 := 6) (pc' := 23) rfl (hb hby d2_6) rfl (flt hp).2.1 (by decide) (by decide) ?_
    show SS p e below m T1 23 #[vr a1, vi p2] [] _
    refine XS.aloadN X1.here hx rfl (hb hby d2_23) rfl rfl ?_
    show SS p e below m T1 24 #[vr a1, vi p2] [(.ref a1)] _
    refine XS.iloadN X1.here hx rfl (hb hby d2_24) rfl ?_
    show SS p e below m T1 25 #[vr a1, vi p2] [(.int p2), (.ref a1)] _
    refine st2 _ ?_
    show SS p e below m T2 28 #[vr a1, vi p2] [] _
    exact X2.returnOut hx Bd.returns (hb hby d2_28) hr
  · show Q_rm2 Z a1 p2 h0 n0 _ T2.heap _
    rw [e2]
    exact ⟨rfl, N2, KC, F_months_a1⟩
theorem d5_0 : decode prog_46_method_1_code 0 = .ok (.aload_n 0, 1) := by decide +kernel
theorem d5_1 : decode prog_46_method_1_code 1 = .ok (.invokespecial 1, 3) := by decide +kernel
theorem d5_4 : decode prog_46_method_1_code 4 = .ok (.aload_n 0, 1) := by decide +kernel
theorem d5_5 : decode prog_46_method_1_code 5 = .ok (.aload_n 1, 1) := by decide +kernel
theorem d5_6 : decode prog_46_method_1_code 6 = .ok (.putfield 7, 3) := by decide +kernel
theorem d5_9 : decode prog_46_method_1_code 9 = .ok (.aload_n 0, 1) := by decide +kernel
theorem d5_10 : decode prog_46_method_1_code 10 = .ok (.aload_n 2, 1) := by decide +kernel
theorem d5_11 : decode prog_46_method_1_code 11 = .ok (.putfield 13, 3) := by decide +kernel
theorem d5_14 : decode prog_46_method_1_code 14 = .ok (.return_, 1) := by decide +kernel
theorem pn_2 : plainName "com/example/tranchebook/tranchebook/PaymentSchedule" = true := by first | (simp [plainName, overriddenIn]; done) | decide +kernel
theorem ef_rm5 (m : MethodId) (x0 : Addr) (x1 : Addr) (x2 : Addr) : entryFrame m #[(.ref x0), (.ref x1), (.ref x2)] 3 = mkF m 0 #[vr x0, vr x1, vr x2] [] := by first | (simp [entryFrame, mkF, argsToLocals, Value.category]; done) | rfl
def Q_rm5 (Z : State) (a1 : Addr) (a2 : Addr) (a3 : Addr) (h0 : Heap) (n0 : Nat) (v : Option Value) (h : Heap) (L : List Loc) : Prop := (v = none) ∧ (Fr n0 L) ∧ (Keep h0 h [a1]) ∧ (Fld Z h a1 "com/example/tranchebook/tranchebook/PaymentSchedule" "cut" "Lcom/example/tranchebook/tranchebook/PaymentSchedule$Cut;" (.ref a2)) ∧ (Fld Z h a1 "com/example/tranchebook/tranchebook/PaymentSchedule" "dueDay" "Lcom/example/tranchebook/tranchebook/PaymentSchedule$DueDay;" (.ref a3))
set_option maxRecDepth 65536 in
set_option maxHeartbeats 40000000 in
theorem rm5 (l : Launch) (Z : State) (a0 : Array Value) (hw : ∀ d ∈ tables_1, d.before a0 Z = true) (ws : List Jvm.Cond) (a1 : Addr) (a2 : Addr) (a3 : Addr) (h0 : Heap) (n0 : Nat) (Z0 : n0 ≤ h0.size) (O0 : Old Z n0 h0) (F_cut_a1 : Fld Z h0 a1 "com/example/tranchebook/tranchebook/PaymentSchedule" "cut" "Lcom/example/tranchebook/tranchebook/PaymentSchedule$Cut;" .null) (F_dueDay_a1 : Fld Z h0 a1 "com/example/tranchebook/tranchebook/PaymentSchedule" "dueDay" "Lcom/example/tranchebook/tranchebook/PaymentSchedule$DueDay;" .null) (E_a1 : Exa Z h0 a1 "com/example/tranchebook/tranchebook/PaymentSchedule") (g_a1 : n0 ≤ a1) :
    MetFree l y_2 (head1 (Jvm.Cond.code y_2 prog_46_method_1_code 3 none :: ws) ({ frames := 2, cells := 0, slots := 0, locals := 24 } : Room)) (fun a U => a = #[(.ref a1), (.ref a2), (.ref a3)] ∧ Z.Warmed39 U.vm ∧ U.heap = h0) (fun _ _ _ _ _ => True) (fun _ U o U' => ∃ v L, o = .returned v ∧ Q_rm5 Z a1 a2 a3 h0 n0 v U'.heap L ∧ FrameEnd U o U' L ({ frames := 2, cells := 0, slots := 0, locals := 24 } : Room).cells ({ frames := 2, cells := 0, slots := 0, locals := 24 } : Room).slots) := by
  refine MetFree.of_bodySF (plainFor_of_name pn_2) hisR ?_
  intro p e s m args below meth c s₁ Bd hml0 hP hK
  obtain ⟨rfl, hZ, hh⟩ := hP
  have hx := Bd.exec
  have hby := Bd.bytes
  have hml : c.maxLocals = 3 := hml0
  have hown : s.vm.findClass "com/example/tranchebook/tranchebook/PaymentSchedule" = some m.cls := findClass_of_methodNamed Bd.named
  have hnm := (name_of_methodNamed Bd.named Bd.method).1
  have X0 : Stand p l e ({ frames := 2, cells := 0, slots := 0, locals := 24 } : Room) s m #[(.ref a1), (.ref a2), (.ref a3)] below meth c s₁ [] 0 0 := Stand.of_body Bd
  have e0 : s₁.heap = h0 := by rw [← hh, Bd.state]; rfl
  have N0 := Fr.nil n0
  have KC : Keep h0 h0 [a1] := Keep.refl h0 _
  have pre0 : ∀ t, Steps p.tables e below (s₁.setTop (mkF m 0 #[vr a1, vr a2, vr a3] [])) t → Steps p.tables e below (s₁.setTop (entryFrame m #[(.ref a1), (.ref a2), (.ref a3)] 3)) t := fun t k => castTop (ef_rm5 m a1 a2 a3) k
  obtain ⟨_, _, ⟨T1, L1, k1, n1⟩, -, X1, ⟨Lc1, hQ1, l1, y1, z1⟩, st1⟩ := X0.specialBack hx (y := y_0) rfl hown (mvT hZ (ww hw 29 rfl)) (mvT hZ (ww hw 14 rfl)) (mvT hZ (ww hw 17 rfl)) (by decide) (backOf (W := 0) (rm3 l Z a0 hw [] a1 h0 n0 (Nat.le_trans Z0 KC.1) O0 ) hZ (ww hw 17 rfl) (ww hw 16 rfl) (by decide) (by decide)) (g := (mkF m 1 #[vr a1, vr a2, vr a3] [(.ref a1)])) rfl (by rw [hml]; rfl) (Steps.refl _) (a := a1) (argsL := []) (rest := []) (lenOf pd_0 rfl) rfl (by show 2 * 0 + _ ≤ _; exact Nat.le_of_eq rfl) (hb hby d5_1) (fun _ _ => ⟨rfl, e0, (by decide : 0 + 0 ≤ _), (by decide : 0 + 0 ≤ _)⟩)
  dsimp only [Pt.U, Pt.locs, Pt.cells, Pt.slots] at X1 l1 y1 z1 st1 hQ1
  subst l1 y1 z1
  obtain ⟨rfl, N1q, e1⟩ := hQ1
  have N1 := Fr.app N0 N1q
  obtain ⟨T2, h2, X2, e2, W2, st2⟩ := putF X1 hx hZ hown (host := "") (Or.inl (ww hw 30 rfl)) Via.refl e1 F_cut_a1 E_a1 (Or.inr ⟨(ww hw 31 rfl), rfl, hnm⟩) (ww hw 6 rfl) (ty := (.object "com/example/tranchebook/tranchebook/PaymentSchedule$Cut")) (by decide) rfl rfl (g := (mkF m 6 #[vr a1, vr a2, vr a3] [(.ref a2), (.ref a1)])) rfl rfl (hb hby d5_6)
  have N2 := Fr.snoc X2 N1 g_a1
  replace F_cut_a1 := F_cut_a1.same W2
  replace F_dueDay_a1 := F_dueDay_a1.other W2 (Or.inr (slot_ne (Or.inr (ww hw 33 rfl)) (Or.inr (ww hw 31 rfl)) (by decide) (t := (.object "com/example/tranchebook/tranchebook/PaymentSchedule$DueDay")) (t' := (.object "com/example/tranchebook/tranchebook/PaymentSchedule$Cut")) (by decide) (by decide)))
  replace E_a1 := E_a1.wr W2
  replace O0 := O0.wr W2 g_a1
  replace KC := KC.wr W2 (Or.inl (List.mem_of_getElem? (i := 0) rfl))
  obtain ⟨T3, h3, X3, e3, W3, st3⟩ := putF X2 hx hZ hown (host := "") (Or.inl (ww hw 32 rfl)) Via.refl e2 F_dueDay_a1 E_a1 (Or.inr ⟨(ww hw 33 rfl), rfl, hnm⟩) (ww hw 6 rfl) (ty := (.object "com/example/tranchebook/tranchebook/PaymentSchedule$DueDay")) (by decide) rfl rfl (g := (mkF m 11 #[vr a1, vr a2, vr a3] [(.ref a3), (.ref a1)])) rfl rfl (hb hby d5_11)
  have N3 := Fr.snoc X3 N2 g_a1
  replace F_dueDay_a1 := F_dueDay_a1.same W3
  replace F_cut_a1 := F_cut_a1.other W3 (Or.inr (slot_ne (Or.inr (ww hw 31 rfl)) (Or.inr (ww hw 33 rfl)) (by decide) (t := (.object "com/example/tranchebook/tranchebook/PaymentSchedule$Cut")) (t' := (.object "com/example/tranchebook/tranchebook/PaymentSchedule$DueDay")) (by decide) (by decide)))
  replace E_a1 := E_a1.wr W3
  replace O0 := O0.wr W3 g_a1
  replace KC := KC.wr W3 (Or.inl (List.mem_of_getElem? (i := 0) rfl))
  obtain ⟨fs, hr, hrun, hended, hW, hsame⟩ := X3.leave (v := none) (fun _ => rfl)
  refine ⟨_, _, pre0 _ ?_, hrun, hended, _, _, rfl, ?_, ⟨_, rfl⟩, hW, hsame.mono (by decide) (by decide)⟩
  · show SS p e below m s₁ 0 #[vr a1, vr a2, vr a3] [] _
    refine XS.aloadN X0.here hx rfl (hb hby d5_0) rfl rfl ?_
    show SS p e below m s₁ 1 #[vr a1, vr a2, vr a3] [(.ref a1)] _
    refine st1.trans ?_
    show SS p e below m T1 4 #[vr a1, vr a2, vr a3] [] _
    refine XS.aloadN X1.here hx rfl (hb hby d5_4) rfl rfl ?_
    show SS p e below m T1 5 #[vr a1, vr a2, vr a3] [(.ref a1)] _
    refine XS.aloadN X1.here hx rfl (hb hby d5_5) rfl rfl ?_
    show SS p e below m T1 6 #[vr a1, vr a2, vr a3] [(.ref a2), (.ref a1)] _
    refine st2 _ ?_
    show SS p e below m T2 9 #[vr a1, vr a2, vr a3] [] _
    refine XS.aloadN X2.here hx rfl (hb hby d5_9) rfl rfl ?_
    show SS p e below m T2 10 #[vr a1, vr a2, vr a3] [(.ref a1)] _
    refine XS.aloadN X2.here hx rfl (hb hby d5_10) rfl rfl ?_
    show SS p e below m T2 11 #[vr a1, vr a2, vr a3] [(.ref a3), (.ref a1)] _
    refine st3 _ ?_
    show SS p e below m T3 14 #[vr a1, vr a2, vr a3] [] _
    exact X3.returnOut hx Bd.returns (hb hby d5_14) hr
  · show Q_rm5 Z a1 a2 a3 h0 n0 _ T3.heap _
    rw [e3]
    exact ⟨rfl, N3, KC, F_cut_a1, F_dueDay_a1⟩
theorem pd_1 : parseMethodDescriptor "(I)V" = some ⟨[.int], none⟩ := by decide +kernel
theorem pd_2 : parseMethodDescriptor "(Lcom/example/tranchebook/tranchebook/PaymentSchedule$Cut;Lcom/example/tranchebook/tranchebook/PaymentSchedule$DueDay;)V" = some ⟨[(.object "com/example/tranchebook/tranchebook/PaymentSchedule$Cut"), (.object "com/example/tranchebook/tranchebook/PaymentSchedule$DueDay")], none⟩ := by decide +kernel
theorem d1_0 : decode prog_46_method_2_code 0 = .ok (.new 8, 3) := by decide +kernel
theorem d1_3 : decode prog_46_method_2_code 3 = .ok (.dup, 1) := by decide +kernel
theorem d1_4 : decode prog_46_method_2_code 4 = .ok (.new 17, 3) := by decide +kernel
theorem d1_7 : decode prog_46_method_2_code 7 = .ok (.dup, 1) := by decide +kernel
theorem d1_8 : decode prog_46_method_2_code 8 = .ok (.iload_n 0, 1) := by decide +kernel
theorem d1_9 : decode prog_46_method_2_code 9 = .ok (.invokespecial 19, 3) := by decide +kernel
theorem d1_12 : decode prog_46_method_2_code 12 = .ok (.getstatic 22, 3) := by decide +kernel
theorem d1_15 : decode prog_46_method_2_code 15 = .ok (.invokespecial 28, 3) := by decide +kernel
theorem d1_18 : decode prog_46_method_2_code 18 = .ok (.areturn, 1) := by decide +kernel
theorem ef_rm1 (m : MethodId) (x0 : Int32) : entryFrame m #[(.int x0)] 1 = mkF m 0 #[vi x0] [] := by first | (simp [entryFrame, mkF, argsToLocals, Value.category]; done) | rfl
def Q_rm1 (Z : State) (p1 : Int32) (wE : Addr) (h0 : Heap) (n0 : Nat) (v : Option Value) (h : Heap) (L : List Loc) : Prop := ∃ b : Addr, ∃ c : Addr, (v = some (.ref b)) ∧ (Fr n0 L) ∧ (Keep h0 h []) ∧ (h0.size ≤ b) ∧ (h0.size ≤ c) ∧ (Exa Z h b "com/example/tranchebook/tranchebook/PaymentSchedule") ∧ (Fld Z h b "com/example/tranchebook/tranchebook/PaymentSchedule" "cut" "Lcom/example/tranchebook/tranchebook/PaymentSchedule$Cut;" (.ref c)) ∧ (Fld Z h b "com/example/tranchebook/tranchebook/PaymentSchedule" "dueDay" "Lcom/example/tranchebook/tranchebook/PaymentSchedule$DueDay;" (.ref wE)) ∧ (Exa Z h c "com/example/tranchebook/tranchebook/PaymentSchedule$Cut$EveryMonths") ∧ (Fld Z h c "com/example/tranchebook/tranchebook/PaymentSchedule$Cut$EveryMonths" "months" "I" (.int p1))
set_option maxRecDepth 65536 in
set_option maxHeartbeats 40000000 in
theorem rm1 (l : Launch) (Z : State) (a0 : Array Value) (hw : ∀ d ∈ tables_1, d.before a0 Z = true) (ws : List Jvm.Cond) (p1 : Int32) (wE : Addr) (h0 : Heap) (n0 : Nat) (Z0 : n0 ≤ h0.size) (O0 : Old Z n0 h0) (S_END : Sta Z Z.heap "com/example/tranchebook/tranchebook/PaymentSchedule$DueDay$Fixed" "END" "Lcom/example/tranchebook/tranchebook/PaymentSchedule$DueDay$Fixed;" (.ref wE)) (hp : ¬ p1 < (1 : Int32)) :
    MetFree l y_3 (head1 (Jvm.Cond.code y_3 prog_46_method_2_code 1 (some (.object "com/example/tranchebook/tranchebook/PaymentSchedule")) :: ws) ({ frames := 3, cells := 2, slots := 3, locals := 40 } : Room)) (fun a U => a = #[(.int p1)] ∧ Z.Warmed39 U.vm ∧ U.heap = h0) (fun _ _ _ _ _ => True) (fun _ U o U' => ∃ v L, o = .returned v ∧ Q_rm1 Z p1 wE h0 n0 v U'.heap L ∧ FrameEnd U o U' L ({ frames := 3, cells := 2, slots := 3, locals := 40 } : Room).cells ({ frames := 3, cells := 2, slots := 3, locals := 40 } : Room).slots) := by
  refine MetFree.of_bodySF (plainFor_of_name pn_2) hisR ?_
  intro p e s m args below meth c s₁ Bd hml0 hP hK
  obtain ⟨rfl, hZ, hh⟩ := hP
  have hx := Bd.exec
  have hby := Bd.bytes
  have hml : c.maxLocals = 1 := hml0
  have hown : s.vm.findClass "com/example/tranchebook/tranchebook/PaymentSchedule" = some m.cls := findClass_of_methodNamed Bd.named
  have hnm := (name_of_methodNamed Bd.named Bd.method).1
  have X0 : Stand p l e ({ frames := 3, cells := 2, slots := 3, locals := 40 } : Room) s m #[(.int p1)] below meth c s₁ [] 0 0 := Stand.of_body Bd
  have e0 : s₁.heap = h0 := by rw [← hh, Bd.state]; rfl
  have N0 := Fr.nil n0
  have KC : Keep h0 h0 [] := Keep.refl h0 _
  have pre0 : ∀ t, Steps p.tables e below (s₁.setTop (mkF m 0 #[vi p1] [])) t → Steps p.tables e below (s₁.setTop (entryFrame m #[(.int p1)] 1)) t := fun t k => castTop (ef_rm1 m p1) k
  obtain ⟨T1, h1, X1, e1, E1, A1, D1, -, st1⟩ := newO X0 hx hZ hown (ww hw 5 rfl) (ww hw 6 rfl) (ww hw 3 rfl) e0 (g := (mkF m 0 #[vi p1] [])) rfl (hb hby d1_0) (by decide) (by decide)
  obtain ⟨b1, g1⟩ : ∃ z, z = h0.size := ⟨_, rfl⟩
  rw [← g1] at A1 D1 st1
  have g_b1 : n0 ≤ b1 := Nat.le_trans (Nat.le_trans Z0 KC.1) (Nat.le_of_eq g1.symm)
  have sz_b1 : h0.size ≤ b1 := Nat.le_trans KC.1 (Nat.le_of_eq g1.symm)
  replace O0 := O0.ext E1
  replace KC := KC.ext E1
  have F_cut_b1 : Fld Z h1 b1 "com/example/tranchebook/tranchebook/PaymentSchedule" "cut" "Lcom/example/tranchebook/tranchebook/PaymentSchedule$Cut;" .null := D1 (Or.inr (ww hw 31 rfl)) (ty := (.object "com/example/tranchebook/tranchebook/PaymentSchedule$Cut")) (by decide)
  have F_dueDay_b1 : Fld Z h1 b1 "com/example/tranchebook/tranchebook/PaymentSchedule" "dueDay" "Lcom/example/tranchebook/tranchebook/PaymentSchedule$DueDay;" .null := D1 (Or.inr (ww hw 33 rfl)) (ty := (.object "com/example/tranchebook/tranchebook/PaymentSchedule$DueDay")) (by decide)
  obtain ⟨T2, h2, X2, e2, E2, A2, D2, -, st2⟩ := newO X1 hx hZ hown (ww hw 7 rfl) (ww hw 8 rfl) (ww hw 9 rfl) e1 (g := (mkF m 4 #[vi p1] [(.ref b1), (.ref b1)])) rfl (hb hby d1_4) (by decide) (by decide)
  obtain ⟨b2, g2⟩ : ∃ z, z = h1.size := ⟨_, rfl⟩
  rw [← g2] at A2 D2 st2
  have ne_b1_b2 : b1 ≠ b2 := Nat.ne_of_lt (Nat.lt_of_lt_of_le A1.lt (Nat.le_of_eq g2.symm))
  have g_b2 : n0 ≤ b2 := Nat.le_trans (Nat.le_trans Z0 KC.1) (Nat.le_of_eq g2.symm)
  have sz_b2 : h0.size ≤ b2 := Nat.le_trans KC.1 (Nat.le_of_eq g2.symm)
  replace A1 := A1.ext E2
  replace F_cut_b1 := F_cut_b1.ext E2
  replace F_dueDay_b1 := F_dueDay_b1.ext E2
  replace O0 := O0.ext E2
  replace KC := KC.ext E2
  have F_months_b2 : Fld Z h2 b2 "com/example/tranchebook/tranchebook/PaymentSchedule$Cut$EveryMonths" "months" "I" (.int (0 : Int32)) := D2 (Or.inr (ww hw 22 rfl)) (ty := .int) (by decide)
  obtain ⟨_, _, ⟨T3, L3, k3, n3⟩, -, X3, ⟨Lc3, hQ3, l3, y3, z3⟩, st3⟩ := X2.specialBack hx (y := y_1) rfl hown (mvT hZ (ww hw 10 rfl)) (mvT hZ (ww hw 11 rfl)) (mvT hZ (ww hw 12 rfl)) (by decide) (backOf (W := 3) (rm2 l Z a0 hw [] b2 p1 h2 n0 (Nat.le_trans Z0 KC.1) O0 F_months_b2 A2 g_b2 hp) hZ (ww hw 12 rfl) (ww hw 9 rfl) (by decide) (by decide)) (g := (mkF m 9 #[vi p1] [(.int p1), (.ref b2), (.ref b2), (.ref b1), (.ref b1)])) rfl (by rw [hml]; rfl) (Steps.refl _) (a := b2) (argsL := [(.int p1)]) (rest := [(.ref b2), (.ref b1), (.ref b1)]) (lenOf pd_1 rfl) rfl (by show 2 * 0 + _ ≤ _; exact Nat.le_of_eq rfl) (hb hby d1_9) (fun _ _ => ⟨rfl, e2, (by decide : 2 + 0 ≤ _), (by decide : 3 + 0 ≤ _)⟩)
  dsimp only [Pt.U, Pt.locs, Pt.cells, Pt.slots] at X3 l3 y3 z3 st3 hQ3
  subst l3 y3 z3
  obtain ⟨rfl, N3q, K3, F_months_a1_3⟩ := hQ3
  have N3 := Fr.app N0 N3q
  replace A1 := A1.keep K3
  replace F_cut_b1 := F_cut_b1.keep K3 (ninS ne_b1_b2 nin0)
  replace F_dueDay_b1 := F_dueDay_b1.keep K3 (ninS ne_b1_b2 nin0)
  replace A2 := A2.keep K3
  replace O0 := O0.keep K3 (allS g_b2 all0)
  replace KC := KC.trans K3 (allS (Or.inr sz_b2) all0)
  obtain ⟨T4, X4, e4, st4⟩ := getS2 X3 hx hZ hown (host := "") (Or.inl (ww hw 23 rfl)) Via.refl rfl (S_END.ext O0.2) (g := (mkF m 12 #[vi p1] [(.ref b2), (.ref b1), (.ref b1)])) rfl (hb hby d1_12)
  obtain ⟨_, _, ⟨T5, L5, k5, n5⟩, -, X5, ⟨Lc5, hQ5, l5, y5, z5⟩, st5⟩ := X4.specialBack hx (y := y_2) rfl hown (mvT hZ (ww hw 26 rfl)) (mvT hZ (ww hw 27 rfl)) (mvT hZ (ww hw 28 rfl)) (by decide) (backOf (W := 1) (rm5 l Z a0 hw [] b1 b2 wE T3.heap n0 (Nat.le_trans Z0 KC.1) O0 F_cut_b1 F_dueDay_b1 A1 g_b1) hZ (ww hw 28 rfl) (ww hw 3 rfl) (by decide) (by decide)) (g := (mkF m 15 #[vi p1] [(.ref wE), (.ref b2), (.ref b1), (.ref b1)])) rfl (by rw [hml]; rfl) (Steps.refl _) (a := b1) (argsL := [(.ref b2), (.ref wE)]) (rest := [(.ref b1)]) (lenOf pd_2 rfl) rfl (by show 2 * 0 + _ ≤ _; exact Nat.le_of_eq rfl) (hb hby d1_15) (fun _ _ => ⟨rfl, e4, (by decide : 2 + 0 ≤ _), (by decide : 3 + 0 ≤ _)⟩)
  dsimp only [Pt.U, Pt.locs, Pt.cells, Pt.slots] at X5 l5 y5 z5 st5 hQ5
  subst l5 y5 z5
  obtain ⟨rfl, N5q, K5, F_cut_a1_5, F_dueDay_a1_5⟩ := hQ5
  have N5 := Fr.app N3 N5q
  replace A1 := A1.keep K5
  replace A2 := A2.keep K5
  replace F_months_a1_3 := F_months_a1_3.keep K5 (ninS (Ne.symm ne_b1_b2) nin0)
  replace O0 := O0.keep K5 (allS g_b1 all0)
  replace KC := KC.trans K5 (allS (Or.inr sz_b1) all0)
  obtain ⟨fs, hr, hrun, hended, hW, hsame⟩ := X5.leave (v := some (.ref b1)) (fun h => by rw [Bd.returns] at h; cases h)
  refine ⟨_, _, pre0 _ ?_, hrun, hended, _, _, rfl, ?_, ⟨_, rfl⟩, hW, hsame.mono (by decide) (by decide)⟩
  · show SS p e below m s₁ 0 #[vi p1] [] _
    refine st1 _ ?_
    show SS p e below m T1 3 #[vi p1] [(.ref b1)] _
    refine XS.dup X1.here hx rfl (hb hby d1_3) rfl rfl ?_
    show SS p e below m T1 4 #[vi p1] [(.ref b1), (.ref b1)] _
    refine st2 _ ?_
    show SS p e below m T2 7 #[vi p1] [(.ref b2), (.ref b1), (.ref b1)] _
    refine XS.dup X2.here hx rfl (hb hby d1_7) rfl rfl ?_
    show SS p e below m T2 8 #[vi p1] [(.ref b2), (.ref b2), (.ref b1), (.ref b1)] _
    refine XS.iloadN X2.here hx rfl (hb hby d1_8) rfl ?_
    show SS p e below m T2 9 #[vi p1] [(.int p1), (.ref b2), (.ref b2), (.ref b1), (.ref b1)] _
    refine st3.trans ?_
    show SS p e below m T3 12 #[vi p1] [(.ref b2), (.ref b1), (.ref b1)] _
    refine st4 _ ?_
    show SS p e below m T4 15 #[vi p1] [(.ref wE), (.ref b2), (.ref b1), (.ref b1)] _
    refine st5.trans ?_
    show SS p e below m T5 18 #[vi p1] [(.ref b1)] _
    jvm_step X5.here [X5.here.top, hx, (hb hby d1_18), X5.method', Bd.returns, Value.isRef, FieldType.isReference]
    first | (intro acts; rw [hr _ acts rfl rfl rfl]) | rw [hr _ _ rfl rfl rfl]
    exact Steps.refl _
  · show Q_rm1 Z p1 wE h0 n0 _ T5.heap _
    exact ⟨b1, b2, rfl, N5, KC, sz_b1, sz_b2, A1, F_cut_a1_5, F_dueDay_a1_5, A2, F_months_a1_3⟩
theorem d6_0 : decode prog_46_method_10_code 0 = .ok (.aload_n 0, 1) := by decide +kernel
theorem d6_1 : decode prog_46_method_10_code 1 = .ok (.getfield 13, 3) := by decide +kernel
theorem d6_4 : decode prog_46_method_10_code 4 = .ok (.areturn, 1) := by decide +kernel
theorem ef_rm6 (m : MethodId) (x0 : Addr) : entryFrame m #[(.ref x0)] 1 = mkF m 0 #[vr x0] [] := by first | (simp [entryFrame, mkF, argsToLocals, Value.category]; done) | rfl
def Q_rm6 (Z : State) (a1 : Addr) (w : Addr) (h0 : Heap) (n0 : Nat) (v : Option Value) (h : Heap) (L : List Loc) : Prop := (v = some (.ref w)) ∧ (Fr n0 L) ∧ (h = h0)
set_option maxRecDepth 65536 in
set_option maxHeartbeats 40000000 in
theorem rm6 (l : Launch) (Z : State) (a0 : Array Value) (hw : ∀ d ∈ tables_1, d.before a0 Z = true) (ws : List Jvm.Cond) (a1 : Addr) (w : Addr) (h0 : Heap) (n0 : Nat) (Z0 : n0 ≤ h0.size) (O0 : Old Z n0 h0) (F_dueDay_a1 : Fld Z h0 a1 "com/example/tranchebook/tranchebook/PaymentSchedule" "dueDay" "Lcom/example/tranchebook/tranchebook/PaymentSchedule$DueDay;" (.ref w)) :
    MetFree l y_4 (head1 (Jvm.Cond.code y_4 prog_46_method_10_code 1 (some (.object "com/example/tranchebook/tranchebook/PaymentSchedule$DueDay")) :: ws) ({ frames := 0, cells := 0, slots := 0, locals := 0 } : Room)) (fun a U => a = #[(.ref a1)] ∧ Z.Warmed39 U.vm ∧ U.heap = h0) (fun _ _ _ _ _ => True) (fun _ U o U' => ∃ v L, o = .returned v ∧ Q_rm6 Z a1 w h0 n0 v U'.heap L ∧ FrameEnd U o U' L ({ frames := 0, cells := 0, slots := 0, locals := 0 } : Room).cells ({ frames := 0, cells := 0, slots := 0, locals := 0 } : Room).slots) := by
  refine MetFree.of_bodySF (plainFor_of_name pn_2) hisR ?_
  intro p e s m args below meth c s₁ Bd hml0 hP hK
  obtain ⟨rfl, hZ, hh⟩ := hP
  have hx := Bd.exec
  have hby := Bd.bytes
  have hml : c.maxLocals = 1 := hml0
  have hown : s.vm.findClass "com/example/tranchebook/tranchebook/PaymentSchedule" = some m.cls := findClass_of_methodNamed Bd.named
  have hnm := (name_of_methodNamed Bd.named Bd.method).1
  have X0 : Stand p l e ({ frames := 0, cells := 0, slots := 0, locals := 0 } : Room) s m #[(.ref a1)] below meth c s₁ [] 0 0 := Stand.of_body Bd
  have e0 : s₁.heap = h0 := by rw [← hh, Bd.state]; rfl
  have N0 := Fr.nil n0
  have KC : Keep h0 h0 [] := Keep.refl h0 _
  have pre0 : ∀ t, Steps p.tables e below (s₁.setTop (mkF m 0 #[vr a1] [])) t → Steps p.tables e below (s₁.setTop (entryFrame m #[(.ref a1)] 1)) t := fun t k => castTop (ef_rm6 m a1) k
  obtain ⟨T1, X1, e1, st1⟩ := getF X0 hx hZ hown (host := "") (Or.inl (ww hw 32 rfl)) Via.refl e0 F_dueDay_a1 (g := (mkF m 1 #[vr a1] [(.ref a1)])) rfl rfl (hb hby d6_1)
  obtain ⟨fs, hr, hrun, hended, hW, hsame⟩ := X1.leave (v := some (.ref w)) (fun h => by rw [Bd.returns] at h; cases h)
  refine ⟨_, _, pre0 _ ?_, hrun, hended, _, _, rfl, ?_, ⟨_, rfl⟩, hW, hsame.mono (by decide) (by decide)⟩
  · show SS p e below m s₁ 0 #[vr a1] [] _
    refine XS.aloadN X0.here hx rfl (hb hby d6_0) rfl rfl ?_
    show SS p e below m s₁ 1 #[vr a1] [(.ref a1)] _
    refine st1 _ ?_
    show SS p e below m T1 4 #[vr a1] [(.ref w)] _
    jvm_step X1.here [X1.here.top, hx, (hb hby d6_4), X1.method', Bd.returns, Value.isRef, FieldType.isReference]
    first | (intro acts; rw [hr _ acts rfl rfl rfl]) | rw [hr _ _ rfl rfl rfl]
    exact Steps.refl _
  · show Q_rm6 Z a1 w h0 n0 _ T1.heap _
    rw [e1]
    exact ⟨rfl, N0, rfl⟩
theorem d7_0 : decode prog_46_method_9_code 0 = .ok (.aload_n 0, 1) := by decide +kernel
theorem d7_1 : decode prog_46_method_9_code 1 = .ok (.getfield 7, 3) := by decide +kernel
theorem d7_4 : decode prog_46_method_9_code 4 = .ok (.areturn, 1) := by decide +kernel
theorem ef_rm7 (m : MethodId) (x0 : Addr) : entryFrame m #[(.ref x0)] 1 = mkF m 0 #[vr x0] [] := by first | (simp [entryFrame, mkF, argsToLocals, Value.category]; done) | rfl
def Q_rm7 (Z : State) (a1 : Addr) (w : Addr) (h0 : Heap) (n0 : Nat) (v : Option Value) (h : Heap) (L : List Loc) : Prop := (v = some (.ref w)) ∧ (Fr n0 L) ∧ (h = h0)
set_option maxRecDepth 65536 in
set_option maxHeartbeats 40000000 in
theorem rm7 (l : Launch) (Z : State) (a0 : Array Value) (hw : ∀ d ∈ tables_1, d.before a0 Z = true) (ws : List Jvm.Cond) (a1 : Addr) (w : Addr) (h0 : Heap) (n0 : Nat) (Z0 : n0 ≤ h0.size) (O0 : Old Z n0 h0) (F_cut_a1 : Fld Z h0 a1 "com/example/tranchebook/tranchebook/PaymentSchedule" "cut" "Lcom/example/tranchebook/tranchebook/PaymentSchedule$Cut;" (.ref w)) :
    MetFree l y_5 (head1 (Jvm.Cond.code y_5 prog_46_method_9_code 1 (some (.object "com/example/tranchebook/tranchebook/PaymentSchedule$Cut")) :: ws) ({ frames := 0, cells := 0, slots := 0, locals := 0 } : Room)) (fun a U => a = #[(.ref a1)] ∧ Z.Warmed39 U.vm ∧ U.heap = h0) (fun _ _ _ _ _ => True) (fun _ U o U' => ∃ v L, o = .returned v ∧ Q_rm7 Z a1 w h0 n0 v U'.heap L ∧ FrameEnd U o U' L ({ frames := 0, cells := 0, slots := 0, locals := 0 } : Room).cells ({ frames := 0, cells := 0, slots := 0, locals := 0 } : Room).slots) := by
  refine MetFree.of_bodySF (plainFor_of_name pn_2) hisR ?_
  intro p e s m args below meth c s₁ Bd hml0 hP hK
  obtain ⟨rfl, hZ, hh⟩ := hP
  have hx := Bd.exec
  have hby := Bd.bytes
  have hml : c.maxLocals = 1 := hml0
  have hown : s.vm.findClass "com/example/tranchebook/tranchebook/PaymentSchedule" = some m.cls := findClass_of_methodNamed Bd.named
  have hnm := (name_of_methodNamed Bd.named Bd.method).1
  have X0 : Stand p l e ({ frames := 0, cells := 0, slots := 0, locals := 0 } : Room) s m #[(.ref a1)] below meth c s₁ [] 0 0 := Stand.of_body Bd
  have e0 : s₁.heap = h0 := by rw [← hh, Bd.state]; rfl
  have N0 := Fr.nil n0
  have KC : Keep h0 h0 [] := Keep.refl h0 _
  have pre0 : ∀ t, Steps p.tables e below (s₁.setTop (mkF m 0 #[vr a1] [])) t → Steps p.tables e below (s₁.setTop (entryFrame m #[(.ref a1)] 1)) t := fun t k => castTop (ef_rm7 m a1) k
  obtain ⟨T1, X1, e1, st1⟩ := getF X0 hx hZ hown (host := "") (Or.inl (ww hw 30 rfl)) Via.refl e0 F_cut_a1 (g := (mkF m 1 #[vr a1] [(.ref a1)])) rfl rfl (hb hby d7_1)
  obtain ⟨fs, hr, hrun, hended, hW, hsame⟩ := X1.leave (v := some (.ref w)) (fun h => by rw [Bd.returns] at h; cases h)
  refine ⟨_, _, pre0 _ ?_, hrun, hended, _, _, rfl, ?_, ⟨_, rfl⟩, hW, hsame.mono (by decide) (by decide)⟩
  · show SS p e below m s₁ 0 #[vr a1] [] _
    refine XS.aloadN X0.here hx rfl (hb hby d7_0) rfl rfl ?_
    show SS p e below m s₁ 1 #[vr a1] [(.ref a1)] _
    refine st1 _ ?_
    show SS p e below m T1 4 #[vr a1] [(.ref w)] _
    jvm_step X1.here [X1.here.top, hx, (hb hby d7_4), X1.method', Bd.returns, Value.isRef, FieldType.isReference]
    first | (intro acts; rw [hr _ acts rfl rfl rfl]) | rw [hr _ _ rfl rfl rfl]
    exact Steps.refl _
  · show Q_rm7 Z a1 w h0 n0 _ T1.heap _
    rw [e1]
    exact ⟨rfl, N0, rfl⟩
theorem d8_0 : decode prog_48_method_9_code 0 = .ok (.aload_n 0, 1) := by decide +kernel
theorem d8_1 : decode prog_48_method_9_code 1 = .ok (.getfield 16, 3) := by decide +kernel
theorem d8_4 : decode prog_48_method_9_code 4 = .ok (.ireturn, 1) := by decide +kernel
theorem ef_rm8 (m : MethodId) (x0 : Addr) : entryFrame m #[(.ref x0)] 1 = mkF m 0 #[vr x0] [] := by first | (simp [entryFrame, mkF, argsToLocals, Value.category]; done) | rfl
def Q_rm8 (Z : State) (a1 : Addr) (w : Int32) (h0 : Heap) (n0 : Nat) (v : Option Value) (h : Heap) (L : List Loc) : Prop := (v = some (.int w)) ∧ (Fr n0 L) ∧ (h = h0)
set_option maxRecDepth 65536 in
set_option maxHeartbeats 40000000 in
theorem rm8 (l : Launch) (Z : State) (a0 : Array Value) (hw : ∀ d ∈ tables_1, d.before a0 Z = true) (ws : List Jvm.Cond) (a1 : Addr) (w : Int32) (h0 : Heap) (n0 : Nat) (Z0 : n0 ≤ h0.size) (O0 : Old Z n0 h0) (F_months_a1 : Fld Z h0 a1 "com/example/tranchebook/tranchebook/PaymentSchedule$Cut$EveryMonths" "months" "I" (.int w)) :
    MetFree l y_6 (head1 (Jvm.Cond.code y_6 prog_48_method_9_code 1 (some .int) :: ws) ({ frames := 0, cells := 0, slots := 0, locals := 0 } : Room)) (fun a U => a = #[(.ref a1)] ∧ Z.Warmed39 U.vm ∧ U.heap = h0) (fun _ _ _ _ _ => True) (fun _ U o U' => ∃ v L, o = .returned v ∧ Q_rm8 Z a1 w h0 n0 v U'.heap L ∧ FrameEnd U o U' L ({ frames := 0, cells := 0, slots := 0, locals := 0 } : Room).cells ({ frames := 0, cells := 0, slots := 0, locals := 0 } : Room).slots) := by
  refine MetFree.of_bodySF (plainFor_of_name pn_1) hisR ?_
  intro p e s m args below meth c s₁ Bd hml0 hP hK
  obtain ⟨rfl, hZ, hh⟩ := hP
  have hx := Bd.exec
  have hby := Bd.bytes
  have hml : c.maxLocals = 1 := hml0
  have hown : s.vm.findClass "com/example/tranchebook/tranchebook/PaymentSchedule$Cut$EveryMonths" = some m.cls := findClass_of_methodNamed Bd.named
  have hnm := (name_of_methodNamed Bd.named Bd.method).1
  have X0 : Stand p l e ({ frames := 0, cells := 0, slots := 0, locals := 0 } : Room) s m #[(.ref a1)] below meth c s₁ [] 0 0 := Stand.of_body Bd
  have e0 : s₁.heap = h0 := by rw [← hh, Bd.state]; rfl
  have N0 := Fr.nil n0
  have KC : Keep h0 h0 [] := Keep.refl h0 _
  have pre0 : ∀ t, Steps p.tables e below (s₁.setTop (mkF m 0 #[vr a1] [])) t → Steps p.tables e below (s₁.setTop (entryFrame m #[(.ref a1)] 1)) t := fun t k => castTop (ef_rm8 m a1) k
  obtain ⟨T1, X1, e1, st1⟩ := getF X0 hx hZ hown (host := "") (Or.inl (ww hw 21 rfl)) Via.refl e0 F_months_a1 (g := (mkF m 1 #[vr a1] [(.ref a1)])) rfl rfl (hb hby d8_1)
  obtain ⟨fs, hr, hrun, hended, hW, hsame⟩ := X1.leave (v := some (.int w)) (fun h => by rw [Bd.returns] at h; cases h)
  refine ⟨_, _, pre0 _ ?_, hrun, hended, _, _, rfl, ?_, ⟨_, rfl⟩, hW, hsame.mono (by decide) (by decide)⟩
  · show SS p e below m s₁ 0 #[vr a1] [] _
    refine XS.aloadN X0.here hx rfl (hb hby d8_0) rfl rfl ?_
    show SS p e below m s₁ 1 #[vr a1] [(.ref a1)] _
    refine st1 _ ?_
    show SS p e below m T1 4 #[vr a1] [(.int w)] _
    exact retI X1 hx Bd.returns (hb hby d8_4) hr
  · show Q_rm8 Z a1 w h0 n0 _ T1.heap _
    rw [e1]
    exact ⟨rfl, N0, rfl⟩
theorem pd_3 : parseMethodDescriptor "(I)Lcom/example/tranchebook/tranchebook/PaymentSchedule;" = some ⟨[.int], some (.object "com/example/tranchebook/tranchebook/PaymentSchedule")⟩ := by decide +kernel
theorem pd_4 : parseMethodDescriptor "()Lcom/example/tranchebook/tranchebook/PaymentSchedule$DueDay;" = some ⟨[], some (.object "com/example/tranchebook/tranchebook/PaymentSchedule$DueDay")⟩ := by decide +kernel
theorem pd_5 : parseMethodDescriptor "()Lcom/example/tranchebook/tranchebook/PaymentSchedule$Cut;" = some ⟨[], some (.object "com/example/tranchebook/tranchebook/PaymentSchedule$Cut")⟩ := by decide +kernel
theorem pd_6 : parseMethodDescriptor "()I" = some ⟨[], some .int⟩ := by decide +kernel
theorem pn_3 : plainName "com/example/tranchebook/tranchebook/PaymentScheduleEveryMonthsPinLaw" = true := by first | (simp [plainName, overriddenIn]; done) | decide +kernel
theorem ef_rm0 (m : MethodId) (x0 : Int32) : entryFrame m #[(.int x0)] maxLocals = mkF m 0 #[vi x0, .unset, .unset, .unset, .unset] [] := by first | (simp [entryFrame, mkF, argsToLocals, Value.category, maxLocals]; done) | rfl
def Q_rm0 (Z : State) (p1 : Int32) (wE : Addr) (h0 : Heap) (n0 : Nat) (v : Option Value) (h : Heap) (L : List Loc) : Prop := (v = some (.int (1 : Int32))) ∧ (Fr n0 L) ∧ (Keep h0 h [])
set_option maxRecDepth 65536 in
set_option maxHeartbeats 40000000 in
theorem rm0 (l : Launch) (Z : State) (a0 : Array Value) (hw : ∀ d ∈ tables_1, d.before a0 Z = true) (ws : List Jvm.Cond) (p1 : Int32) (wE : Addr) (h0 : Heap) (n0 : Nat) (Z0 : n0 ≤ h0.size) (O0 : Old Z n0 h0) (S_END : Sta Z Z.heap "com/example/tranchebook/tranchebook/PaymentSchedule$DueDay$Fixed" "END" "Lcom/example/tranchebook/tranchebook/PaymentSchedule$DueDay$Fixed;" (.ref wE)) (E_wE : Exa Z Z.heap wE "com/example/tranchebook/tranchebook/PaymentSchedule$DueDay$Fixed") :
    MetFree l x (head1 (Jvm.Cond.code x code maxLocals ret :: ws) room_1) (fun a U => a = #[(.int p1)] ∧ Z.Warmed39 U.vm ∧ U.heap = h0) (fun _ _ _ _ _ => True) (fun _ U o U' => ∃ v L, o = .returned v ∧ Q_rm0 Z p1 wE h0 n0 v U'.heap L ∧ FrameEnd U o U' L room_1.cells room_1.slots) := by
  refine MetFree.of_bodySF (plainFor_of_name pn_3) hisR ?_
  intro p e s m args below meth c s₁ Bd hml0 hP hK
  obtain ⟨rfl, hZ, hh⟩ := hP
  have hx := Bd.exec
  have hby := Bd.bytes
  have hml : c.maxLocals = 5 := hml0
  have hown : s.vm.findClass "com/example/tranchebook/tranchebook/PaymentScheduleEveryMonthsPinLaw" = some m.cls := findClass_of_methodNamed Bd.named
  have hnm := (name_of_methodNamed Bd.named Bd.method).1
  have X0 : Stand p l e room_1 s m #[(.int p1)] below meth c s₁ [] 0 0 := Stand.of_body Bd
  have e0 : s₁.heap = h0 := by rw [← hh, Bd.state]; rfl
  have N0 := Fr.nil n0
  have KC : Keep h0 h0 [] := Keep.refl h0 _
  have pre0 : ∀ t, Steps p.tables e below (s₁.setTop (mkF m 0 #[vi p1, un, un, un, un] [])) t → Steps p.tables e below (s₁.setTop (entryFrame m #[(.int p1)] maxLocals)) t := fun t k => castTop (ef_rm0 m p1) k
  have pre1 : ∀ t, Steps p.tables e below (s₁.setTop (mkF m 6 #[vi p1, vi (p1 &&& (2147483647 : Int32)), un, un, un] [(.int (p1 &&& (2147483647 : Int32)))])) t → Steps p.tables e below (s₁.setTop (entryFrame m #[(.int p1)] maxLocals)) t := by
    intro t kt
    refine pre0 t ?_
    show SS p e below m s₁ 0 #[vi p1, un, un, un, un] [] _
    refine XS.iloadN X0.here hx rfl (hb hby at_0) rfl ?_
    show SS p e below m s₁ 1 #[vi p1, un, un, un, un] [(.int p1)] _
    refine X0.ldcInt hx hown (mvT hZ (ww hw 0 rfl)) (g := (mkF m 1 #[vi p1, un, un, un, un] [(.int p1)])) rfl (hb hby at_1) _ ?_
    show SS p e below m s₁ 3 #[vi p1, un, un, un, un] [(.int (2147483647 : Int32)), (.int p1)] _
    refine XS.iand X0.here hx rfl (hb hby at_3) rfl ?_
    show SS p e below m s₁ 4 #[vi p1, un, un, un, un] [(.int (p1 &&& (2147483647 : Int32)))] _
    refine XS.istoreN X0.here hx rfl (hb hby at_4) rfl (l' := #[vi p1, vi (p1 &&& (2147483647 : Int32)), un, un, un]) rfl ?_
    show SS p e below m s₁ 5 #[vi p1, vi (p1 &&& (2147483647 : Int32)), un, un, un] [] _
    refine XS.iloadN X0.here hx rfl (hb hby at_5) rfl ?_
    exact kt
  by_cases hc6_2 : (p1 &&& (2147483647 : Int32)) = (0 : Int32)
  · obtain ⟨_, _, ⟨T3, L3, k3, n3⟩, -, X3, ⟨Lc3, hQ3, l3, y3, z3⟩, st3⟩ := Jvm.LawKit.callS X0 hx (y := y_3) hown (mvT hZ (ww hw 1 rfl)) (mvT hZ (ww hw 2 rfl)) (mvT hZ (ww hw 3 rfl)) (mvT hZ (ww hw 4 rfl)) (by decide) (backOf (W := 0) (rm1 l Z a0 hw [] (2147483647 : Int32) wE h0 n0 (Nat.le_trans Z0 KC.1) O0 S_END (by decide)) hZ (ww hw 4 rfl) (ww hw 3 rfl) (by decide) (by decide)) (g := (mkF m 13 #[vi p1, vi (2147483647 : Int32), un, un, un] [(.int (2147483647 : Int32))])) rfl (by rw [hml]; rfl) (argsL := [(.int (2147483647 : Int32))]) (rest := []) (lenOf pd_3 rfl) rfl (by show 2 * 0 + _ ≤ _; exact Nat.le_of_eq rfl) (hb hby at_13) (fun _ _ => ⟨rfl, e0, (by decide : 0 + 2 ≤ _), (by decide : 0 + 3 ≤ _)⟩)
    dsimp only [Pt.U, Pt.locs, Pt.cells, Pt.slots] at X3 l3 y3 z3 st3 hQ3
    subst l3 y3 z3
    obtain ⟨b3_b, b3_c, rfl, N3q, K3, sz_b3_b, sz_b3_c, E_b_3, F_cut_b_3, F_dueDay_b_3, E_c_3, F_months_c_3⟩ := hQ3
    have N3 := Fr.app N0 N3q
    have ne_wE_b3_b : wE ≠ b3_b := Nat.ne_of_lt (Nat.lt_of_lt_of_le (E_wE.ext O0.2).lt sz_b3_b)
    have g_b3_b : n0 ≤ b3_b := Nat.le_trans (Nat.le_trans Z0 KC.1) sz_b3_b
    replace sz_b3_b : h0.size ≤ b3_b := Nat.le_trans KC.1 sz_b3_b
    have ne_wE_b3_c : wE ≠ b3_c := Nat.ne_of_lt (Nat.lt_of_lt_of_le (E_wE.ext O0.2).lt sz_b3_c)
    have g_b3_c : n0 ≤ b3_c := Nat.le_trans (Nat.le_trans Z0 KC.1) sz_b3_c
    replace sz_b3_c : h0.size ≤ b3_c := Nat.le_trans KC.1 sz_b3_c
    replace O0 := O0.keep K3 all0
    replace KC := KC.trans K3 all0
    obtain ⟨cq4, kq4, q4a, q4b, q4c⟩ := isOf hZ rfl E_b_3
    obtain ⟨_, _, ⟨T4, L4, k4, n4⟩, -, X4, ⟨Lc4, hQ4, l4, y4, z4⟩, st4⟩ := X3.virtualBack hx (y := y_4) (z := y_4) hown (mvT hZ (ww hw 34 rfl)) (mvT hZ (ww hw 35 rfl)) (notFace_of_selects (args := #[]) (mvT hZ (ww hw 37 rfl))) (mvT hZ (ww hw 37 rfl)) (mvT hZ (ww hw 36 rfl)) (by decide) (backOf (W := 0) (rm6 l Z a0 hw [] b3_b wE T3.heap n0 (Nat.le_trans Z0 KC.1) O0 F_dueDay_b_3) hZ (ww hw 38 rfl) (ww hw 3 rfl) (by decide) (by decide)) q4a q4c (g := (mkF m 18 #[vi p1, vi (2147483647 : Int32), vr b3_b, un, un] [(.ref b3_b)])) rfl (by rw [hml]; rfl) (Steps.refl _) (argsL := []) (rest := []) (lenOf pd_4 rfl) rfl (by show 2 * 0 + _ ≤ _; exact Nat.le_of_eq rfl) (hb hby at_18) (fun _ _ => ⟨rfl, rfl, (by decide : 2 + 0 ≤ _), (by decide : 3 + 0 ≤ _)⟩)
    dsimp only [Pt.U, Pt.locs, Pt.cells, Pt.slots] at X4 l4 y4 z4 st4 hQ4
    subst l4 y4 z4
    obtain ⟨rfl, N4q, e4⟩ := hQ4
    have N4 := Fr.app N3 N4q
    obtain ⟨T5, X5, e5, st5⟩ := getS2 X4 hx hZ hown (host := "") (Or.inl (ww hw 39 rfl)) Via.refl e4 (S_END.ext O0.2) (g := (mkF m 21 #[vi p1, vi (2147483647 : Int32), vr b3_b, un, un] [(.ref wE)])) rfl (hb hby at_21)
    obtain ⟨cq6, kq6, q6a, q6b, q6c⟩ := isOf hZ e5 E_b_3
    obtain ⟨_, _, ⟨T6, L6, k6, n6⟩, -, X6, ⟨Lc6, hQ6, l6, y6, z6⟩, st6⟩ := X5.virtualBack hx (y := y_5) (z := y_5) hown (mvT hZ (ww hw 40 rfl)) (mvT hZ (ww hw 41 rfl)) (notFace_of_selects (args := #[]) (mvT hZ (ww hw 43 rfl))) (mvT hZ (ww hw 43 rfl)) (mvT hZ (ww hw 42 rfl)) (by decide) (backOf (W := 0) (rm7 l Z a0 hw [] b3_b b3_c T3.heap n0 (Nat.le_trans Z0 KC.1) O0 F_cut_b_3) hZ (ww hw 44 rfl) (ww hw 3 rfl) (by decide) (by decide)) q6a q6c (g := (mkF m 30 #[vi p1, vi (2147483647 : Int32), vr b3_b, un, un] [(.ref b3_b)])) rfl (by rw [hml]; rfl) (Steps.refl _) (argsL := []) (rest := []) (lenOf pd_5 rfl) rfl (by show 2 * 0 + _ ≤ _; exact Nat.le_of_eq rfl) (hb hby at_30) (fun _ _ => ⟨rfl, e5, (by decide : 2 + 0 ≤ _), (by decide : 3 + 0 ≤ _)⟩)
    dsimp only [Pt.U, Pt.locs, Pt.cells, Pt.slots] at X6 l6 y6 z6 st6 hQ6
    subst l6 y6 z6
    obtain ⟨rfl, N6q, e6⟩ := hQ6
    have N6 := Fr.app N4 N6q
    obtain ⟨T7, X7, e7, st7⟩ := instY X6 hx hZ hown (ww hw 45 rfl) e6 (Ins.self E_c_3) (g := (mkF m 35 #[vi p1, vi (2147483647 : Int32), vr b3_b, vr b3_c, un] [(.ref b3_c)])) rfl rfl (hb hby at_35)
    obtain ⟨T8, X8, e8, st8⟩ := castY X7 hx hZ hown (ww hw 45 rfl) e7 (Ins.self E_c_3) (g := (mkF m 44 #[vi p1, vi (2147483647 : Int32), vr b3_b, vr b3_c, un] [(.ref b3_c)])) rfl rfl (hb hby at_44)
    obtain ⟨cq9, kq9, q9a, q9b, q9c⟩ := isOf hZ e8 E_c_3
    obtain ⟨_, _, ⟨T9, L9, k9, n9⟩, -, X9, ⟨Lc9, hQ9, l9, y9, z9⟩, st9⟩ := X8.virtualBack hx (y := y_6) (z := y_6) hown (mvT hZ (ww hw 47 rfl)) (mvT hZ (ww hw 48 rfl)) (notFace_of_selects (args := #[]) (mvT hZ (ww hw 50 rfl))) (mvT hZ (ww hw 50 rfl)) (mvT hZ (ww hw 49 rfl)) (by decide) (backOf (W := 0) (rm8 l Z a0 hw [] b3_c (2147483647 : Int32) T3.heap n0 (Nat.le_trans Z0 KC.1) O0 F_months_c_3) hZ (ww hw 51 rfl) (ww hw 9 rfl) (by decide) (by decide)) q9a q9c (g := (mkF m 51 #[vi p1, vi (2147483647 : Int32), vr b3_b, vr b3_c, vr b3_c] [(.ref b3_c)])) rfl (by rw [hml]; rfl) (Steps.refl _) (argsL := []) (rest := []) (lenOf pd_6 rfl) rfl (by show 2 * 0 + _ ≤ _; exact Nat.le_of_eq rfl) (hb hby at_51) (fun _ _ => ⟨rfl, e8, (by decide : 2 + 0 ≤ _), (by decide : 3 + 0 ≤ _)⟩)
    dsimp only [Pt.U, Pt.locs, Pt.cells, Pt.slots] at X9 l9 y9 z9 st9 hQ9
    subst l9 y9 z9
    obtain ⟨rfl, N9q, e9⟩ := hQ9
    have N9 := Fr.app N6 N9q
    obtain ⟨fs, hr, hrun, hended, hW, hsame⟩ := X9.leave (v := some (.int (1 : Int32))) (fun h => by rw [Bd.returns] at h; cases h)
    refine ⟨_, _, pre1 _ ?_, hrun, hended, _, _, rfl, ?_, ⟨_, rfl⟩, hW, hsame.mono (by decide) (by decide)⟩
    · show SS p e below m s₁ 6 #[vi p1, vi (p1 &&& (2147483647 : Int32)), un, un, un] [(.int (p1 &&& (2147483647 : Int32)))] _
      refine XS.ifNo X0.here hx rfl (hb hby at_6) rfl ((if0 _ _).trans (teq hc6_2).2) ?_
      show SS p e below m s₁ 9 #[vi p1, vi (p1 &&& (2147483647 : Int32)), un, un, un] [] _
      refine X0.ldcInt hx hown (mvT hZ (ww hw 0 rfl)) (g := (mkF m 9 #[vi p1, vi (p1 &&& (2147483647 : Int32)), un, un, un] [])) rfl (hb hby at_9) _ ?_
      show SS p e below m s₁ 11 #[vi p1, vi (p1 &&& (2147483647 : Int32)), un, un, un] [(.int (2147483647 : Int32))] _
      refine XS.istoreN X0.here hx rfl (hb hby at_11) rfl (l' := #[vi p1, vi (2147483647 : Int32), un, un, un]) rfl ?_
      show SS p e below m s₁ 12 #[vi p1, vi (2147483647 : Int32), un, un, un] [] _
      refine XS.iloadN X0.here hx rfl (hb hby at_12) rfl ?_
      show SS p e below m s₁ 13 #[vi p1, vi (2147483647 : Int32), un, un, un] [(.int (2147483647 : Int32))] _
      refine st3 _ ?_
      show SS p e below m T3 16 #[vi p1, vi (2147483647 : Int32), un, un, un] [(.ref b3_b)] _
      refine XS.astoreN X3.here hx rfl (hb hby at_16) rfl rfl (l' := #[vi p1, vi (2147483647 : Int32), vr b3_b, un, un]) rfl ?_
      show SS p e below m T3 17 #[vi p1, vi (2147483647 : Int32), vr b3_b, un, un] [] _
      refine XS.aloadN X3.here hx rfl (hb hby at_17) rfl rfl ?_
      show SS p e below m T3 18 #[vi p1, vi (2147483647 : Int32), vr b3_b, un, un] [(.ref b3_b)] _
      refine st4.trans ?_
      show SS p e below m T4 21 #[vi p1, vi (2147483647 : Int32), vr b3_b, un, un] [(.ref wE)] _
      refine st5 _ ?_
      show SS p e below m T5 24 #[vi p1, vi (2147483647 : Int32), vr b3_b, un, un] [(.ref wE), (.ref wE)] _
      refine Jvm.RoadKit.acmp (g := (mkF m 24 #[vi p1, vi (2147483647 : Int32), vr b3_b, un, un] [(.ref wE), (.ref wE)])) X5 hx rfl rfl rfl (pc0 := 24) (pc' := 29) (same := true) rfl (hb hby at_24) rfl (decide_eq_true rfl) (by decide) (by decide) ?_
      show SS p e below m T5 29 #[vi p1, vi (2147483647 : Int32), vr b3_b, un, un] [] _
      refine XS.aloadN X5.here hx rfl (hb hby at_29) rfl rfl ?_
      show SS p e below m T5 30 #[vi p1, vi (2147483647 : Int32), vr b3_b, un, un] [(.ref b3_b)] _
      refine st6.trans ?_
      show SS p e below m T6 33 #[vi p1, vi (2147483647 : Int32), vr b3_b, un, un] [(.ref b3_c)] _
      refine XS.astoreN X6.here hx rfl (hb hby at_33) rfl rfl (l' := #[vi p1, vi (2147483647 : Int32), vr b3_b, vr b3_c, un]) rfl ?_
      show SS p e below m T6 34 #[vi p1, vi (2147483647 : Int32), vr b3_b, vr b3_c, un] [] _
      refine XS.aloadN X6.here hx rfl (hb hby at_34) rfl rfl ?_
      show SS p e below m T6 35 #[vi p1, vi (2147483647 : Int32), vr b3_b, vr b3_c, un] [(.ref b3_c)] _
      refine st7 _ ?_
      show SS p e below m T7 38 #[vi p1, vi (2147483647 : Int32), vr b3_b, vr b3_c, un] [(.int (1 : Int32))] _
      refine XS.ifYes X7.here hx rfl (pc0 := 38) (pc' := 43) rfl (hb hby at_38) rfl ((if0 _ _).trans (feq (by decide)).2) (by decide) (by decide) ?_
      show SS p e below m T7 43 #[vi p1, vi (2147483647 : Int32), vr b3_b, vr b3_c, un] [] _
      refine XS.aloadN X7.here hx rfl (hb hby at_43) rfl rfl ?_
      show SS p e below m T7 44 #[vi p1, vi (2147483647 : Int32), vr b3_b, vr b3_c, un] [(.ref b3_c)] _
      refine st8 _ ?_
      show SS p e below m T8 47 #[vi p1, vi (2147483647 : Int32), vr b3_b, vr b3_c, un] [(.ref b3_c)] _
      refine XS.astore X8.here hx rfl (hb hby at_47) rfl rfl (l' := #[vi p1, vi (2147483647 : Int32), vr b3_b, vr b3_c, vr b3_c]) rfl ?_
      show SS p e below m T8 49 #[vi p1, vi (2147483647 : Int32), vr b3_b, vr b3_c, vr b3_c] [] _
      refine XS.aload X8.here hx rfl (hb hby at_49) rfl rfl ?_
      show SS p e below m T8 51 #[vi p1, vi (2147483647 : Int32), vr b3_b, vr b3_c, vr b3_c] [(.ref b3_c)] _
      refine st9.trans ?_
      show SS p e below m T9 54 #[vi p1, vi (2147483647 : Int32), vr b3_b, vr b3_c, vr b3_c] [(.int (2147483647 : Int32))] _
      refine XS.iloadN X9.here hx rfl (hb hby at_54) rfl ?_
      show SS p e below m T9 55 #[vi p1, vi (2147483647 : Int32), vr b3_b, vr b3_c, vr b3_c] [(.int (2147483647 : Int32)), (.int (2147483647 : Int32))] _
      refine XS.icmpNo X9.here hx rfl (hb hby at_55) rfl (teq (by decide)).2 ?_
      show SS p e below m T9 58 #[vi p1, vi (2147483647 : Int32), vr b3_b, vr b3_c, vr b3_c] [] _
      refine XS.iconst X9.here hx rfl (hb hby at_58) ?_
      show SS p e below m T9 59 #[vi p1, vi (2147483647 : Int32), vr b3_b, vr b3_c, vr b3_c] [(.int (1 : Int32))] _
      refine XS.goto X9.here hx rfl (pc0 := 59) (pc' := 63) rfl (hb hby at_59) (by decide) (by decide) ?_
      show SS p e below m T9 63 #[vi p1, vi (2147483647 : Int32), vr b3_b, vr b3_c, vr b3_c] [(.int (1 : Int32))] _
      exact retN X9 hx (t := .boolean) Bd.returns (by simp) (hb hby at_63) hr
    · show Q_rm0 Z p1 wE h0 n0 _ T9.heap _
      rw [e9]
      exact ⟨rfl, N9, KC⟩
  · obtain ⟨_, _, ⟨T10, L10, k10, n10⟩, -, X10, ⟨Lc10, hQ10, l10, y10, z10⟩, st10⟩ := Jvm.LawKit.callS X0 hx (y := y_3) hown (mvT hZ (ww hw 1 rfl)) (mvT hZ (ww hw 2 rfl)) (mvT hZ (ww hw 3 rfl)) (mvT hZ (ww hw 4 rfl)) (by decide) (backOf (W := 0) (rm1 l Z a0 hw [] (p1 &&& (2147483647 : Int32)) wE h0 n0 (Nat.le_trans Z0 KC.1) O0 S_END (own_pos hc6_2)) hZ (ww hw 4 rfl) (ww hw 3 rfl) (by decide) (by decide)) (g := (mkF m 13 #[vi p1, vi (p1 &&& (2147483647 : Int32)), un, un, un] [(.int (p1 &&& (2147483647 : Int32)))])) rfl (by rw [hml]; rfl) (argsL := [(.int (p1 &&& (2147483647 : Int32)))]) (rest := []) (lenOf pd_3 rfl) rfl (by show 2 * 0 + _ ≤ _; exact Nat.le_of_eq rfl) (hb hby at_13) (fun _ _ => ⟨rfl, e0, (by decide : 0 + 2 ≤ _), (by decide : 0 + 3 ≤ _)⟩)
    dsimp only [Pt.U, Pt.locs, Pt.cells, Pt.slots] at X10 l10 y10 z10 st10 hQ10
    subst l10 y10 z10
    obtain ⟨b10_b, b10_c, rfl, N10q, K10, sz_b10_b, sz_b10_c, E_b_10, F_cut_b_10, F_dueDay_b_10, E_c_10, F_months_c_10⟩ := hQ10
    have N10 := Fr.app N0 N10q
    have ne_wE_b10_b : wE ≠ b10_b := Nat.ne_of_lt (Nat.lt_of_lt_of_le (E_wE.ext O0.2).lt sz_b10_b)
    have g_b10_b : n0 ≤ b10_b := Nat.le_trans (Nat.le_trans Z0 KC.1) sz_b10_b
    replace sz_b10_b : h0.size ≤ b10_b := Nat.le_trans KC.1 sz_b10_b
    have ne_wE_b10_c : wE ≠ b10_c := Nat.ne_of_lt (Nat.lt_of_lt_of_le (E_wE.ext O0.2).lt sz_b10_c)
    have g_b10_c : n0 ≤ b10_c := Nat.le_trans (Nat.le_trans Z0 KC.1) sz_b10_c
    replace sz_b10_c : h0.size ≤ b10_c := Nat.le_trans KC.1 sz_b10_c
    replace O0 := O0.keep K10 all0
    replace KC := KC.trans K10 all0
    obtain ⟨cq11, kq11, q11a, q11b, q11c⟩ := isOf hZ rfl E_b_10
    obtain ⟨_, _, ⟨T11, L11, k11, n11⟩, -, X11, ⟨Lc11, hQ11, l11, y11, z11⟩, st11⟩ := X10.virtualBack hx (y := y_4) (z := y_4) hown (mvT hZ (ww hw 34 rfl)) (mvT hZ (ww hw 35 rfl)) (notFace_of_selects (args := #[]) (mvT hZ (ww hw 37 rfl))) (mvT hZ (ww hw 37 rfl)) (mvT hZ (ww hw 36 rfl)) (by decide) (backOf (W := 0) (rm6 l Z a0 hw [] b10_b wE T10.heap n0 (Nat.le_trans Z0 KC.1) O0 F_dueDay_b_10) hZ (ww hw 38 rfl) (ww hw 3 rfl) (by decide) (by decide)) q11a q11c (g := (mkF m 18 #[vi p1, vi (p1 &&& (2147483647 : Int32)), vr b10_b, un, un] [(.ref b10_b)])) rfl (by rw [hml]; rfl) (Steps.refl _) (argsL := []) (rest := []) (lenOf pd_4 rfl) rfl (by show 2 * 0 + _ ≤ _; exact Nat.le_of_eq rfl) (hb hby at_18) (fun _ _ => ⟨rfl, rfl, (by decide : 2 + 0 ≤ _), (by decide : 3 + 0 ≤ _)⟩)
    dsimp only [Pt.U, Pt.locs, Pt.cells, Pt.slots] at X11 l11 y11 z11 st11 hQ11
    subst l11 y11 z11
    obtain ⟨rfl, N11q, e11⟩ := hQ11
    have N11 := Fr.app N10 N11q
    obtain ⟨T12, X12, e12, st12⟩ := getS2 X11 hx hZ hown (host := "") (Or.inl (ww hw 39 rfl)) Via.refl e11 (S_END.ext O0.2) (g := (mkF m 21 #[vi p1, vi (p1 &&& (2147483647 : Int32)), vr b10_b, un, un] [(.ref wE)])) rfl (hb hby at_21)
    obtain ⟨cq13, kq13, q13a, q13b, q13c⟩ := isOf hZ e12 E_b_10
    obtain ⟨_, _, ⟨T13, L13, k13, n13⟩, -, X13, ⟨Lc13, hQ13, l13, y13, z13⟩, st13⟩ := X12.virtualBack hx (y := y_5) (z := y_5) hown (mvT hZ (ww hw 40 rfl)) (mvT hZ (ww hw 41 rfl)) (notFace_of_selects (args := #[]) (mvT hZ (ww hw 43 rfl))) (mvT hZ (ww hw 43 rfl)) (mvT hZ (ww hw 42 rfl)) (by decide) (backOf (W := 0) (rm7 l Z a0 hw [] b10_b b10_c T10.heap n0 (Nat.le_trans Z0 KC.1) O0 F_cut_b_10) hZ (ww hw 44 rfl) (ww hw 3 rfl) (by decide) (by decide)) q13a q13c (g := (mkF m 30 #[vi p1, vi (p1 &&& (2147483647 : Int32)), vr b10_b, un, un] [(.ref b10_b)])) rfl (by rw [hml]; rfl) (Steps.refl _) (argsL := []) (rest := []) (lenOf pd_5 rfl) rfl (by show 2 * 0 + _ ≤ _; exact Nat.le_of_eq rfl) (hb hby at_30) (fun _ _ => ⟨rfl, e12, (by decide : 2 + 0 ≤ _), (by decide : 3 + 0 ≤ _)⟩)
    dsimp only [Pt.U, Pt.locs, Pt.cells, Pt.slots] at X13 l13 y13 z13 st13 hQ13
    subst l13 y13 z13
    obtain ⟨rfl, N13q, e13⟩ := hQ13
    have N13 := Fr.app N11 N13q
    obtain ⟨T14, X14, e14, st14⟩ := instY X13 hx hZ hown (ww hw 45 rfl) e13 (Ins.self E_c_10) (g := (mkF m 35 #[vi p1, vi (p1 &&& (2147483647 : Int32)), vr b10_b, vr b10_c, un] [(.ref b10_c)])) rfl rfl (hb hby at_35)
    obtain ⟨T15, X15, e15, st15⟩ := castY X14 hx hZ hown (ww hw 45 rfl) e14 (Ins.self E_c_10) (g := (mkF m 44 #[vi p1, vi (p1 &&& (2147483647 : Int32)), vr b10_b, vr b10_c, un] [(.ref b10_c)])) rfl rfl (hb hby at_44)
    obtain ⟨cq16, kq16, q16a, q16b, q16c⟩ := isOf hZ e15 E_c_10
    obtain ⟨_, _, ⟨T16, L16, k16, n16⟩, -, X16, ⟨Lc16, hQ16, l16, y16, z16⟩, st16⟩ := X15.virtualBack hx (y := y_6) (z := y_6) hown (mvT hZ (ww hw 47 rfl)) (mvT hZ (ww hw 48 rfl)) (notFace_of_selects (args := #[]) (mvT hZ (ww hw 50 rfl))) (mvT hZ (ww hw 50 rfl)) (mvT hZ (ww hw 49 rfl)) (by decide) (backOf (W := 0) (rm8 l Z a0 hw [] b10_c (p1 &&& (2147483647 : Int32)) T10.heap n0 (Nat.le_trans Z0 KC.1) O0 F_months_c_10) hZ (ww hw 51 rfl) (ww hw 9 rfl) (by decide) (by decide)) q16a q16c (g := (mkF m 51 #[vi p1, vi (p1 &&& (2147483647 : Int32)), vr b10_b, vr b10_c, vr b10_c] [(.ref b10_c)])) rfl (by rw [hml]; rfl) (Steps.refl _) (argsL := []) (rest := []) (lenOf pd_6 rfl) rfl (by show 2 * 0 + _ ≤ _; exact Nat.le_of_eq rfl) (hb hby at_51) (fun _ _ => ⟨rfl, e15, (by decide : 2 + 0 ≤ _), (by decide : 3 + 0 ≤ _)⟩)
    dsimp only [Pt.U, Pt.locs, Pt.cells, Pt.slots] at X16 l16 y16 z16 st16 hQ16
    subst l16 y16 z16
    obtain ⟨rfl, N16q, e16⟩ := hQ16
    have N16 := Fr.app N13 N16q
    obtain ⟨fs, hr, hrun, hended, hW, hsame⟩ := X16.leave (v := some (.int (1 : Int32))) (fun h => by rw [Bd.returns] at h; cases h)
    refine ⟨_, _, pre1 _ ?_, hrun, hended, _, _, rfl, ?_, ⟨_, rfl⟩, hW, hsame.mono (by decide) (by decide)⟩
    · show SS p e below m s₁ 6 #[vi p1, vi (p1 &&& (2147483647 : Int32)), un, un, un] [(.int (p1 &&& (2147483647 : Int32)))] _
      refine XS.ifYes X0.here hx rfl (pc0 := 6) (pc' := 12) rfl (hb hby at_6) rfl ((if0 _ _).trans (feq hc6_2).2) (by decide) (by decide) ?_
      show SS p e below m s₁ 12 #[vi p1, vi (p1 &&& (2147483647 : Int32)), un, un, un] [] _
      refine XS.iloadN X0.here hx rfl (hb hby at_12) rfl ?_
      show SS p e below m s₁ 13 #[vi p1, vi (p1 &&& (2147483647 : Int32)), un, un, un] [(.int (p1 &&& (2147483647 : Int32)))] _
      refine st10 _ ?_
      show SS p e below m T10 16 #[vi p1, vi (p1 &&& (2147483647 : Int32)), un, un, un] [(.ref b10_b)] _
      refine XS.astoreN X10.here hx rfl (hb hby at_16) rfl rfl (l' := #[vi p1, vi (p1 &&& (2147483647 : Int32)), vr b10_b, un, un]) rfl ?_
      show SS p e below m T10 17 #[vi p1, vi (p1 &&& (2147483647 : Int32)), vr b10_b, un, un] [] _
      refine XS.aloadN X10.here hx rfl (hb hby at_17) rfl rfl ?_
      show SS p e below m T10 18 #[vi p1, vi (p1 &&& (2147483647 : Int32)), vr b10_b, un, un] [(.ref b10_b)] _
      refine st11.trans ?_
      show SS p e below m T11 21 #[vi p1, vi (p1 &&& (2147483647 : Int32)), vr b10_b, un, un] [(.ref wE)] _
      refine st12 _ ?_
      show SS p e below m T12 24 #[vi p1, vi (p1 &&& (2147483647 : Int32)), vr b10_b, un, un] [(.ref wE), (.ref wE)] _
      refine Jvm.RoadKit.acmp (g := (mkF m 24 #[vi p1, vi (p1 &&& (2147483647 : Int32)), vr b10_b, un, un] [(.ref wE), (.ref wE)])) X12 hx rfl rfl rfl (pc0 := 24) (pc' := 29) (same := true) rfl (hb hby at_24) rfl (decide_eq_true rfl) (by decide) (by decide) ?_
      show SS p e below m T12 29 #[vi p1, vi (p1 &&& (2147483647 : Int32)), vr b10_b, un, un] [] _
      refine XS.aloadN X12.here hx rfl (hb hby at_29) rfl rfl ?_
      show SS p e below m T12 30 #[vi p1, vi (p1 &&& (2147483647 : Int32)), vr b10_b, un, un] [(.ref b10_b)] _
      refine st13.trans ?_
      show SS p e below m T13 33 #[vi p1, vi (p1 &&& (2147483647 : Int32)), vr b10_b, un, un] [(.ref b10_c)] _
      refine XS.astoreN X13.here hx rfl (hb hby at_33) rfl rfl (l' := #[vi p1, vi (p1 &&& (2147483647 : Int32)), vr b10_b, vr b10_c, un]) rfl ?_
      show SS p e below m T13 34 #[vi p1, vi (p1 &&& (2147483647 : Int32)), vr b10_b, vr b10_c, un] [] _
      refine XS.aloadN X13.here hx rfl (hb hby at_34) rfl rfl ?_
      show SS p e below m T13 35 #[vi p1, vi (p1 &&& (2147483647 : Int32)), vr b10_b, vr b10_c, un] [(.ref b10_c)] _
      refine st14 _ ?_
      show SS p e below m T14 38 #[vi p1, vi (p1 &&& (2147483647 : Int32)), vr b10_b, vr b10_c, un] [(.int (1 : Int32))] _
      refine XS.ifYes X14.here hx rfl (pc0 := 38) (pc' := 43) rfl (hb hby at_38) rfl ((if0 _ _).trans (feq (by decide)).2) (by decide) (by decide) ?_
      show SS p e below m T14 43 #[vi p1, vi (p1 &&& (2147483647 : Int32)), vr b10_b, vr b10_c, un] [] _
      refine XS.aloadN X14.here hx rfl (hb hby at_43) rfl rfl ?_
      show SS p e below m T14 44 #[vi p1, vi (p1 &&& (2147483647 : Int32)), vr b10_b, vr b10_c, un] [(.ref b10_c)] _
      refine st15 _ ?_
      show SS p e below m T15 47 #[vi p1, vi (p1 &&& (2147483647 : Int32)), vr b10_b, vr b10_c, un] [(.ref b10_c)] _
      refine XS.astore X15.here hx rfl (hb hby at_47) rfl rfl (l' := #[vi p1, vi (p1 &&& (2147483647 : Int32)), vr b10_b, vr b10_c, vr b10_c]) rfl ?_
      show SS p e below m T15 49 #[vi p1, vi (p1 &&& (2147483647 : Int32)), vr b10_b, vr b10_c, vr b10_c] [] _
      refine XS.aload X15.here hx rfl (hb hby at_49) rfl rfl ?_
      show SS p e below m T15 51 #[vi p1, vi (p1 &&& (2147483647 : Int32)), vr b10_b, vr b10_c, vr b10_c] [(.ref b10_c)] _
      refine st16.trans ?_
      show SS p e below m T16 54 #[vi p1, vi (p1 &&& (2147483647 : Int32)), vr b10_b, vr b10_c, vr b10_c] [(.int (p1 &&& (2147483647 : Int32)))] _
      refine XS.iloadN X16.here hx rfl (hb hby at_54) rfl ?_
      show SS p e below m T16 55 #[vi p1, vi (p1 &&& (2147483647 : Int32)), vr b10_b, vr b10_c, vr b10_c] [(.int (p1 &&& (2147483647 : Int32))), (.int (p1 &&& (2147483647 : Int32)))] _
      refine XS.icmpNo X16.here hx rfl (hb hby at_55) rfl (teq rfl).2 ?_
      show SS p e below m T16 58 #[vi p1, vi (p1 &&& (2147483647 : Int32)), vr b10_b, vr b10_c, vr b10_c] [] _
      refine XS.iconst X16.here hx rfl (hb hby at_58) ?_
      show SS p e below m T16 59 #[vi p1, vi (p1 &&& (2147483647 : Int32)), vr b10_b, vr b10_c, vr b10_c] [(.int (1 : Int32))] _
      refine XS.goto X16.here hx rfl (pc0 := 59) (pc' := 63) rfl (hb hby at_59) (by decide) (by decide) ?_
      show SS p e below m T16 63 #[vi p1, vi (p1 &&& (2147483647 : Int32)), vr b10_b, vr b10_c, vr b10_c] [(.int (1 : Int32))] _
      exact retN X16 hx (t := .boolean) Bd.returns (by simp) (hb hby at_63) hr
    · show Q_rm0 Z p1 wE h0 n0 _ T16.heap _
      rw [e16]
      exact ⟨rfl, N16, KC⟩
set_option maxRecDepth 65536 in
set_option maxHeartbeats 40000000 in
theorem comes_1 {Post : Tables → Env → Array Value → State → Outcome → State → Prop} (hpost : ∀ tb e args s v u, (limb_1_1.after args s (.returned v) u = true ∧ limb_1_2.after args s (.returned v) u = true ∧ True) → FrameEnd s (.returned v) u (Jvm.fieldLocs frame_1_writes args s ++ Jvm.arrayLocs frame_1_arrays args s ++ Jvm.staticLocs frame_1_statics s) 16 128 → Post tb e args s (.returned v) u) :
    ArmFor flags0 classFile x code maxLocals ret World_1 tables_1 room_1 Calls_1 rest_1 Pre_1 Post := by
  intro l hfl _ _ p e ha hc hk s m args below hf hA hF happ hP
  obtain ⟨hcalls, hrest, hpre⟩ := hP
  obtain ⟨-, -, -, hnamed, -, -, -, hat⟩ := (Spec.applies_iff hf).mp happ
  obtain ⟨hg, hn⟩ := and_e (Cond.before_iff.mp (show (Jvm.Cond.and given_1 narrow_1).before args s = true from hpre))
  obtain ⟨nw1, nv1⟩ := and_e hg
  obtain ⟨w0, rfl⟩ : ∃ w0 : Value, args = #[w0] := by
    have hs : args.size = 1 := by simpa [Cond.value, given_1] using nw1
    obtain ⟨L⟩ := args
    match L, hs with
    | [w0], _ => exact ⟨w0, rfl⟩
  have hw := fun d (hd : d ∈ tables_1) => atoms_spec (ws := Jvm.Cond.code x code maxLocals ret :: tables_1) hat d (List.mem_cons_of_mem _ hd)
  have hfit : Fit s := fun {y c} hc i hi => by
    obtain ⟨ha, rfl⟩ := Array.getElem?_eq_some_iff.mp hc
    have q := List.all_eq_true.mp ((Array.all_eq_true_iff_forall_mem.mp hF) _ (Array.getElem_mem ha)) i (List.mem_range.mpr hi)
    simpa [Array.getElem?_eq_getElem hi] using q
  obtain ⟨i0, ei0⟩ := is_v nv1
  obtain rfl : w0 = (.int i0) := Option.some.inj ei0
  obtain ⟨u_END, ev_END⟩ := exa_v hn
  have E_u_END := Exa.start ev_END hn
  have S_END := Sta.start ev_END (Or.inr ⟨(ww hw 24 rfl), (ww hw 25 rfl)⟩)
  obtain ⟨n, o, h1, h2, h3, _, L, rfl, ⟨rfl, N, -⟩, hq⟩ := rm0 l s _ hw tables_1 i0 u_END s.heap s.heap.size (Nat.le_refl _) (Old.start s) S_END E_u_END p e ha hc hk s m _ below hf ((Spec.applies_iff_loose hf).mp happ).1 ⟨rfl, State.Warmed39.refl s, rfl⟩ trivial
  refine ⟨n, _, h1, h2, h3, hpost _ _ _ _ _ _ ⟨Cond.after_iff.mpr rfl, Cond.after_iff.mpr (eq_i res_at (Term.int_eval (1)) rfl), trivial⟩ ⟨hq.1, hq.2.1, (hq.2.2.sift fun y hy => Or.inr (N y hy)).mono (by decide) (by decide)⟩⟩
theorem main_1_1 : Claimed_1_1 := comes_1 fun _ _ _ _ _ _ h hF => ⟨h.1, hF⟩
theorem main_1_2 : Claimed_1_2 := comes_1 fun _ _ _ _ _ _ h hF => ⟨h.2.1, hF⟩
end Jvm.Pilot.@@N@@
namespace Jvm.Pilot.@@N@@
open Jvm Jvm.ClassFile Sem Op Lib Jvm.Free Jvm.Stand Jvm.Pilot.@@N@@.Jvm.D
/-! MADE BY PROGRAM (witnessworld.py) out of the Statement's table words and the real class files: 17 classes; the members and pool entries that the words name. The judged class is class 1, her method 1. -/
namespace start1
open Jvm.ClassFile
def u (s : String) : CpInfo := .utf8 (stringToUtf16 s)
/-- a pool by its gaps: so many unusable entries, then the entry; so many at the end -/
def gap : Nat → List CpInfo → List CpInfo
  | 0, r => r
  | n + 1, r => .unusable :: gap n r
def poolList (es : List (Nat × CpInfo)) (last : Nat) : List CpInfo := es.foldr (fun e r => gap e.1 (e.2 :: r)) (gap last [])
def pool (es : List (Nat × CpInfo)) (last : Nat) : Array CpInfo := ⟨poolList es last⟩
def fileOf (pool : Array CpInfo) (this : Nat) (attrs : Array Attribute := #[]) (ms : Array MethodInfo := #[]) (fl : Nat := 33) (sup : Nat := 0) (ifs : Array Nat := #[]) (fds : Array FieldInfo := #[]) : ClassFile where
  minorVersion := 0
  majorVersion := 65
  constantPool := pool
  accessFlags := fl
  thisClass := this
  superClass := sup
  interfaces := ifs
  fields := fds
  methods := ms
  attributes := attrs
def plain (name : String) (sup : Option ClassId) : Class where
  name := name
  kind := .ordinary
  loader := none
  accessFlags := 33
  super := sup
  interfaces := #[]
  cf := none
  fields := #[]
  methods := #[]
  instanceTypes := #[]
  staticTypes := #[]
  resolved := #[]
  callSites := []
  init := .initialized
  statics := none
  mirror := none

def pool0 : Array CpInfo := pool [(5, u "<init>"), (0, u "()V"), (1, .class_ 10), (1, u "java/lang/Object")] 113

def k0c0 : Code := { maxStack := 0, maxLocals := 1, code := object_method_1_code, exceptionTable := #[], attributes := #[] }
def k0m0 : Method := { name := "<init>", desc := "()V", sig := { parameters := [], returnType := none }, accessFlags := 1, code := some k0c0 }
/-- java/lang/Object -/
def k0 : Class := { plain "java/lang/Object" none with
  accessFlags := 33
  interfaces := #[]
  cf := some (fileOf pool0 8 #[] #[{ accessFlags := 1, nameIndex := 5, descriptorIndex := 6, attributes := #[] }] 33 0 #[] #[])
  fields := #[]
  methods := #[k0m0]
  instanceTypes := #[]
  staticTypes := #[]
  resolved := Array.replicate 124 none
  statics := none }

def pool1 : Array CpInfo := pool [(2, .class_ 4), (1, u "java/lang/Object"), (0, u "<init>"), (0, u "()V"), (0, .integer 2147483647), (2, .methodref 11 12), (0, .class_ 13), (0, .nameAndType 14 15), (0, u "com/example/tranchebook/tranchebook/PaymentSchedule"), (0, u "everyMonths"), (0, u "(I)Lcom/example/tranchebook/tranchebook/PaymentSchedule;"), (0, .methodref 11 17), (0, .nameAndType 18 19), (0, u "dueDay"), (0, u "()Lcom/example/tranchebook/tranchebook/PaymentSchedule$DueDay;"), (0, .fieldref 21 22), (0, .class_ 23), (0, .nameAndType 24 25), (0, u "com/example/tranchebook/tranchebook/PaymentSchedule$DueDay$Fixed"), (0, u "END"), (0, u "Lcom/example/tranchebook/tranchebook/PaymentSchedule$DueDay$Fixed;"), (0, .methodref 11 27), (0, .nameAndType 28 29), (0, u "cut"), (0, u "()Lcom/example/tranchebook/tranchebook/PaymentSchedule$Cut;"), (0, .class_ 31), (0, u "com/example/tranchebook/tranchebook/PaymentSchedule$Cut$EveryMonths"), (0, .methodref 30 33), (0, .nameAndType 34 35), (0, u "months"), (0, u "()I"), (0, .class_ 37), (0, u "com/example/tranchebook/tranchebook/PaymentScheduleEveryMonthsPinLaw"), (2, u "law"), (0, u "(I)Z")] 12

def k1m0 : Method := { name := "<init>", desc := "()V", sig := { parameters := [], returnType := none }, accessFlags := 1, code := none }
def k1c1 : Code := { maxStack := 2, maxLocals := 5, code := code, exceptionTable := #[], attributes := #[] }
def k1m1 : Method := { name := "law", desc := "(I)Z", sig := { parameters := [.int], returnType := some .boolean }, accessFlags := 9, code := some k1c1 }
/-- com/example/tranchebook/tranchebook/PaymentScheduleEveryMonthsPinLaw -/
def k1 : Class := { plain "com/example/tranchebook/tranchebook/PaymentScheduleEveryMonthsPinLaw" (some 0) with
  accessFlags := 49
  interfaces := #[]
  cf := some (fileOf pool1 36 #[] #[{ accessFlags := 1, nameIndex := 5, descriptorIndex := 6, attributes := #[] }, { accessFlags := 9, nameIndex := 40, descriptorIndex := 41, attributes := #[] }] 49 2 #[] #[])
  fields := #[]
  methods := #[k1m0, k1m1]
  instanceTypes := #[]
  staticTypes := #[]
  resolved := Array.replicate 54 none
  statics := none }

def pool2 : Array CpInfo := pool [(1, .methodref 2 3), (0, .class_ 4), (0, .nameAndType 5 6), (0, u "java/lang/Object"), (0, u "<init>"), (0, u "()V"), (0, .class_ 8), (0, u "java/lang/Record")] 13

def k2c0 : Code := { maxStack := 1, maxLocals := 1, code := jdk_30_method_1_code, exceptionTable := #[], attributes := #[] }
def k2m0 : Method := { name := "<init>", desc := "()V", sig := { parameters := [], returnType := none }, accessFlags := 4, code := some k2c0 }
/-- java/lang/Record -/
def k2 : Class := { plain "java/lang/Record" (some 0) with
  accessFlags := 1057
  interfaces := #[]
  cf := some (fileOf pool2 7 #[] #[{ accessFlags := 4, nameIndex := 5, descriptorIndex := 6, attributes := #[] }] 1057 2 #[] #[])
  fields := #[]
  methods := #[k2m0]
  instanceTypes := #[]
  staticTypes := #[]
  resolved := Array.replicate 22 none
  statics := none }

def pool3 : Array CpInfo := pool [(1, .methodref 2 3), (0, .class_ 4), (0, .nameAndType 5 6), (0, u "java/lang/Record"), (0, u "<init>"), (0, u "()V"), (0, .fieldref 8 9), (0, .class_ 10), (0, .nameAndType 11 12), (0, u "com/example/tranchebook/tranchebook/PaymentSchedule"), (0, u "cut"), (0, u "Lcom/example/tranchebook/tranchebook/PaymentSchedule$Cut;"), (0, .fieldref 8 14), (0, .nameAndType 15 16), (0, u "dueDay"), (0, u "Lcom/example/tranchebook/tranchebook/PaymentSchedule$DueDay;"), (0, .class_ 18), (0, u "com/example/tranchebook/tranchebook/PaymentSchedule$Cut$EveryMonths"), (0, .methodref 17 20), (0, .nameAndType 5 21), (0, u "(I)V"), (0, .fieldref 23 24), (0, .class_ 25), (0, .nameAndType 26 27), (0, u "com/example/tranchebook/tranchebook/PaymentSchedule$DueDay$Fixed"), (0, u "END"), (0, u "Lcom/example/tranchebook/tranchebook/PaymentSchedule$DueDay$Fixed;"), (0, .methodref 8 29), (0, .nameAndType 5 30), (0, u "(Lcom/example/tranchebook/tranchebook/PaymentSchedule$Cut;Lcom/example/tranchebook/tranchebook/PaymentSchedule$DueDay;)V"), (0, .class_ 32), (0, u "com/example/tranchebook/tranchebook/PaymentSchedule$DueDay$BusinessDaysAfter"), (2, .class_ 37), (1, u "com/example/tranchebook/tranchebook/PaymentSchedule$Cut$Fixed"), (6, .class_ 46), (1, u "com/example/tranchebook/tranchebook/PaymentSchedule$Cut"), (26, .class_ 74), (0, u "com/example/tranchebook/tranchebook/PaymentSchedule$Payment"), (1, .class_ 78), (1, u "com/example/tranchebook/tranchebook/PaymentSchedule$DueDay"), (51, u "PERIOD_END"), (0, u "Lcom/example/tranchebook/tranchebook/PaymentSchedule;"), (8, u "LAST_DAY_OF_QUARTER"), (5, u "LAST_BUSINESS_DAY_OF_QUARTER"), (3, u "everyMonths"), (0, u "(I)Lcom/example/tranchebook/tranchebook/PaymentSchedule;"), (11, u "()Lcom/example/tranchebook/tranchebook/PaymentSchedule$Cut;"), (0, u "()Lcom/example/tranchebook/tranchebook/PaymentSchedule$DueDay;")] 53

def k3c0 : Code := { maxStack := 2, maxLocals := 3, code := prog_46_method_1_code, exceptionTable := #[], attributes := #[] }
def k3m0 : Method := { name := "<init>", desc := "(Lcom/example/tranchebook/tranchebook/PaymentSchedule$Cut;Lcom/example/tranchebook/tranchebook/PaymentSchedule$DueDay;)V", sig := { parameters := [(.object "com/example/tranchebook/tranchebook/PaymentSchedule$Cut"), (.object "com/example/tranchebook/tranchebook/PaymentSchedule$DueDay")], returnType := none }, accessFlags := 1, code := some k3c0 }
def k3c1 : Code := { maxStack := 5, maxLocals := 1, code := prog_46_method_2_code, exceptionTable := #[], attributes := #[] }
def k3m1 : Method := { name := "everyMonths", desc := "(I)Lcom/example/tranchebook/tranchebook/PaymentSchedule;", sig := { parameters := [.int], returnType := some (.object "com/example/tranchebook/tranchebook/PaymentSchedule") }, accessFlags := 9, code := some k3c1 }
def k3c2 : Code := { maxStack := 1, maxLocals := 1, code := prog_46_method_9_code, exceptionTable := #[], attributes := #[] }
def k3m2 : Method := { name := "cut", desc := "()Lcom/example/tranchebook/tranchebook/PaymentSchedule$Cut;", sig := { parameters := [], returnType := some (.object "com/example/tranchebook/tranchebook/PaymentSchedule$Cut") }, accessFlags := 1, code := some k3c2 }
def k3c3 : Code := { maxStack := 1, maxLocals := 1, code := prog_46_method_10_code, exceptionTable := #[], attributes := #[] }
def k3m3 : Method := { name := "dueDay", desc := "()Lcom/example/tranchebook/tranchebook/PaymentSchedule$DueDay;", sig := { parameters := [], returnType := some (.object "com/example/tranchebook/tranchebook/PaymentSchedule$DueDay") }, accessFlags := 1, code := some k3c3 }
/-- com/example/tranchebook/tranchebook/PaymentSchedule -/
def k3 : Class := { plain "com/example/tranchebook/tranchebook/PaymentSchedule" (some 2) with
  accessFlags := 49
  interfaces := #[]
  cf := some (fileOf pool3 8 #[.nestMembers #[76, 31, 23, 44, 17, 35, 73]] #[{ accessFlags := 1, nameIndex := 5, descriptorIndex := 30, attributes := #[] }, { accessFlags := 9, nameIndex := 150, descriptorIndex := 151, attributes := #[] }, { accessFlags := 1, nameIndex := 11, descriptorIndex := 163, attributes := #[] }, { accessFlags := 1, nameIndex := 15, descriptorIndex := 164, attributes := #[] }] 49 2 #[] #[{ accessFlags := 18, nameIndex := 11, descriptorIndex := 12, attributes := #[] }, { accessFlags := 18, nameIndex := 15, descriptorIndex := 16, attributes := #[] }, { accessFlags := 25, nameIndex := 130, descriptorIndex := 131, attributes := #[] }, { accessFlags := 25, nameIndex := 140, descriptorIndex := 131, attributes := #[] }, { accessFlags := 25, nameIndex := 146, descriptorIndex := 131, attributes := #[] }])
  fields := #[{ name := "cut", type := (.object "com/example/tranchebook/tranchebook/PaymentSchedule$Cut"), accessFlags := 18, slot := 0, constantValue := 0 }, { name := "dueDay", type := (.object "com/example/tranchebook/tranchebook/PaymentSchedule$DueDay"), accessFlags := 18, slot := 1, constantValue := 0 }, { name := "PERIOD_END", type := (.object "com/example/tranchebook/tranchebook/PaymentSchedule"), accessFlags := 25, slot := 0, constantValue := 0 }, { name := "LAST_DAY_OF_QUARTER", type := (.object "com/example/tranchebook/tranchebook/PaymentSchedule"), accessFlags := 25, slot := 1, constantValue := 0 }, { name := "LAST_BUSINESS_DAY_OF_QUARTER", type := (.object "com/example/tranchebook/tranchebook/PaymentSchedule"), accessFlags := 25, slot := 2, constantValue := 0 }]
  methods := #[k3m0, k3m1, k3m2, k3m3]
  instanceTypes := #[(.object "com/example/tranchebook/tranchebook/PaymentSchedule$Cut"), (.object "com/example/tranchebook/tranchebook/PaymentSchedule$DueDay")]
  staticTypes := #[(.object "com/example/tranchebook/tranchebook/PaymentSchedule"), (.object "com/example/tranchebook/tranchebook/PaymentSchedule"), (.object "com/example/tranchebook/tranchebook/PaymentSchedule")]
  resolved := Array.replicate 218 none
  statics := none }

def pool4 : Array CpInfo := pool [(1, .class_ 2), (0, u "com/example/tranchebook/tranchebook/PaymentSchedule$Cut"), (0, .class_ 4), (0, u "java/lang/Object"), (10, .class_ 16), (0, u "com/example/tranchebook/tranchebook/PaymentSchedule")] 9

/-- com/example/tranchebook/tranchebook/PaymentSchedule$Cut -/
def k4 : Class := { plain "com/example/tranchebook/tranchebook/PaymentSchedule$Cut" (some 0) with
  accessFlags := 1537
  interfaces := #[]
  cf := some (fileOf pool4 1 #[.nestHost 15] #[] 1537 3 #[] #[])
  fields := #[]
  methods := #[]
  instanceTypes := #[]
  staticTypes := #[]
  resolved := Array.replicate 26 none
  statics := none }

def pool5 : Array CpInfo := pool [(1, .methodref 2 3), (0, .class_ 4), (0, .nameAndType 5 6), (0, u "java/lang/Record"), (0, u "<init>"), (0, u "()V"), (9, .fieldref 17 18), (0, .class_ 19), (0, .nameAndType 20 21), (0, u "com/example/tranchebook/tranchebook/PaymentSchedule$Cut$EveryMonths"), (0, u "months"), (0, u "I"), (82, .class_ 105), (0, u "com/example/tranchebook/tranchebook/PaymentSchedule$Cut"), (0, u "(I)V"), (12, u "()I"), (4, .class_ 125), (0, u "com/example/tranchebook/tranchebook/PaymentSchedule")] 41

def k5c0 : Code := { maxStack := 3, maxLocals := 2, code := prog_48_method_1_code, exceptionTable := #[], attributes := #[] }
def k5m0 : Method := { name := "<init>", desc := "(I)V", sig := { parameters := [.int], returnType := none }, accessFlags := 1, code := some k5c0 }
def k5c1 : Code := { maxStack := 1, maxLocals := 1, code := prog_48_method_9_code, exceptionTable := #[], attributes := #[] }
def k5m1 : Method := { name := "months", desc := "()I", sig := { parameters := [], returnType := some .int }, accessFlags := 1, code := some k5c1 }
/-- com/example/tranchebook/tranchebook/PaymentSchedule$Cut$EveryMonths -/
def k5 : Class := { plain "com/example/tranchebook/tranchebook/PaymentSchedule$Cut$EveryMonths" (some 2) with
  accessFlags := 49
  interfaces := #[4]
  cf := some (fileOf pool5 17 #[.nestHost 124] #[{ accessFlags := 1, nameIndex := 5, descriptorIndex := 106, attributes := #[] }, { accessFlags := 1, nameIndex := 20, descriptorIndex := 119, attributes := #[] }] 49 2 #[104] #[{ accessFlags := 18, nameIndex := 20, descriptorIndex := 21, attributes := #[] }])
  fields := #[{ name := "months", type := .int, accessFlags := 18, slot := 0, constantValue := 0 }]
  methods := #[k5m0, k5m1]
  instanceTypes := #[.int]
  staticTypes := #[]
  resolved := Array.replicate 167 none
  statics := none }

def pool6 : Array CpInfo := pool [(1, .class_ 2), (0, u "java/lang/constant/Constable"), (0, .class_ 4), (0, u "java/lang/Object")] 6

/-- java/lang/constant/Constable -/
def k6 : Class := { plain "java/lang/constant/Constable" (some 0) with
  accessFlags := 1537
  interfaces := #[]
  cf := some (fileOf pool6 1 #[] #[] 1537 3 #[] #[])
  fields := #[]
  methods := #[]
  instanceTypes := #[]
  staticTypes := #[]
  resolved := Array.replicate 11 none
  statics := none }

def pool7 : Array CpInfo := pool [(1, .class_ 2), (0, u "java/lang/Comparable"), (0, .class_ 4), (0, u "java/lang/Object")] 7

/-- java/lang/Comparable -/
def k7 : Class := { plain "java/lang/Comparable" (some 0) with
  accessFlags := 1537
  interfaces := #[]
  cf := some (fileOf pool7 1 #[] #[] 1537 3 #[] #[])
  fields := #[]
  methods := #[]
  instanceTypes := #[]
  staticTypes := #[]
  resolved := Array.replicate 12 none
  statics := none }

def pool8 : Array CpInfo := pool [(1, .class_ 2), (0, u "java/io/Serializable"), (0, .class_ 4), (0, u "java/lang/Object")] 2

/-- java/io/Serializable -/
def k8 : Class := { plain "java/io/Serializable" (some 0) with
  accessFlags := 1537
  interfaces := #[]
  cf := some (fileOf pool8 1 #[] #[] 1537 3 #[] #[])
  fields := #[]
  methods := #[]
  instanceTypes := #[]
  staticTypes := #[]
  resolved := Array.replicate 7 none
  statics := none }

def pool9 : Array CpInfo := pool [(2, .class_ 4), (1, u "java/lang/Enum"), (0, u "name"), (0, u "Ljava/lang/String;"), (2, u "ordinal"), (0, u "I"), (1, .class_ 14), (1, u "java/lang/Object"), (4, u "hash"), (86, .class_ 108), (1, u "java/lang/Enum$EnumDesc"), (2, .class_ 112), (0, u "java/lang/constant/Constable"), (0, .class_ 114), (0, u "java/lang/Comparable"), (0, .class_ 116), (0, u "java/io/Serializable")] 87

/-- java/lang/Enum -/
def k9 : Class := { plain "java/lang/Enum" (some 0) with
  accessFlags := 1057
  interfaces := #[6, 7, 8]
  cf := some (fileOf pool9 2 #[.nestMembers #[106]] #[] 1057 12 #[111, 113, 115] #[{ accessFlags := 18, nameIndex := 5, descriptorIndex := 6, attributes := #[] }, { accessFlags := 18, nameIndex := 9, descriptorIndex := 10, attributes := #[] }, { accessFlags := 2, nameIndex := 19, descriptorIndex := 10, attributes := #[] }])
  fields := #[{ name := "name", type := (.object "java/lang/String"), accessFlags := 18, slot := 0, constantValue := 0 }, { name := "ordinal", type := .int, accessFlags := 18, slot := 1, constantValue := 0 }, { name := "hash", type := .int, accessFlags := 2, slot := 2, constantValue := 0 }]
  methods := #[]
  instanceTypes := #[(.object "java/lang/String"), .int, .int]
  staticTypes := #[]
  resolved := Array.replicate 204 none
  statics := none }

def pool10 : Array CpInfo := pool [(1, .class_ 2), (0, u "com/example/tranchebook/tranchebook/PaymentSchedule$DueDay"), (0, .class_ 4), (0, u "java/lang/Object"), (5, .class_ 11), (0, u "com/example/tranchebook/tranchebook/PaymentSchedule")] 9

/-- com/example/tranchebook/tranchebook/PaymentSchedule$DueDay -/
def k10 : Class := { plain "com/example/tranchebook/tranchebook/PaymentSchedule$DueDay" (some 0) with
  accessFlags := 1537
  interfaces := #[]
  cf := some (fileOf pool10 1 #[.nestHost 10] #[] 1537 3 #[] #[])
  fields := #[]
  methods := #[]
  instanceTypes := #[]
  staticTypes := #[]
  resolved := Array.replicate 21 none
  statics := none }

def pool11 : Array CpInfo := pool [(1, .class_ 2), (0, u "com/example/tranchebook/tranchebook/PaymentSchedule$DueDay$Fixed"), (2, u "END"), (0, u "Lcom/example/tranchebook/tranchebook/PaymentSchedule$DueDay$Fixed;"), (2, u "END_OR_NEXT_BUSINESS_DAY"), (2, u "$VALUES"), (0, u "[Lcom/example/tranchebook/tranchebook/PaymentSchedule$DueDay$Fixed;"), (6, .class_ 22), (1, u "java/lang/Enum"), (28, .class_ 52), (0, u "com/example/tranchebook/tranchebook/PaymentSchedule$DueDay"), (17, .class_ 71), (0, u "com/example/tranchebook/tranchebook/PaymentSchedule")] 3

/-- com/example/tranchebook/tranchebook/PaymentSchedule$DueDay$Fixed -/
def k11 : Class := { plain "com/example/tranchebook/tranchebook/PaymentSchedule$DueDay$Fixed" (some 9) with
  accessFlags := 16433
  interfaces := #[10]
  cf := some (fileOf pool11 1 #[.nestHost 70] #[] 16433 20 #[51] #[{ accessFlags := 16409, nameIndex := 5, descriptorIndex := 6, attributes := #[] }, { accessFlags := 16409, nameIndex := 9, descriptorIndex := 6, attributes := #[] }, { accessFlags := 4122, nameIndex := 12, descriptorIndex := 13, attributes := #[] }])
  fields := #[{ name := "END", type := (.object "com/example/tranchebook/tranchebook/PaymentSchedule$DueDay$Fixed"), accessFlags := 16409, slot := 0, constantValue := 0 }, { name := "END_OR_NEXT_BUSINESS_DAY", type := (.object "com/example/tranchebook/tranchebook/PaymentSchedule$DueDay$Fixed"), accessFlags := 16409, slot := 1, constantValue := 0 }, { name := "$VALUES", type := (.array (.object "com/example/tranchebook/tranchebook/PaymentSchedule$DueDay$Fixed")), accessFlags := 4122, slot := 2, constantValue := 0 }]
  methods := #[]
  instanceTypes := #[(.object "java/lang/String"), .int, .int]
  staticTypes := #[(.object "com/example/tranchebook/tranchebook/PaymentSchedule$DueDay$Fixed"), (.object "com/example/tranchebook/tranchebook/PaymentSchedule$DueDay$Fixed"), (.array (.object "com/example/tranchebook/tranchebook/PaymentSchedule$DueDay$Fixed"))]
  resolved := Array.replicate 75 none
  statics := some 0 }

def pool12 : Array CpInfo := pool [(1, u "java/lang/Cloneable"), (0, .class_ 1), (0, u "java/lang/Object"), (0, .class_ 3)] 3

/-- java/lang/Cloneable -/
def k12 : Class := { plain "java/lang/Cloneable" (some 0) with
  accessFlags := 1537
  interfaces := #[]
  cf := some (fileOf pool12 2 #[] #[] 1537 4 #[] #[])
  fields := #[]
  methods := #[]
  instanceTypes := #[]
  staticTypes := #[]
  resolved := Array.replicate 8 none
  statics := none }

/-- the primitive byte -/
def k13 : Class := { plain "byte" none with kind := .primitive 'B', accessFlags := 0x411 }
/-- [B -/
def k14 : Class := { plain "[B" (some 0) with kind := .array 13 .byte, interfaces := #[12, 8], accessFlags := 1041 }

/-- the primitive int -/
def k15 : Class := { plain "int" none with kind := .primitive 'I', accessFlags := 0x411 }
/-- [I -/
def k16 : Class := { plain "[I" (some 0) with kind := .array 15 .int, interfaces := #[12, 8], accessFlags := 1041 }

def heap : Heap := #[{ cls := 11, slots := #[.ref 1, .null, .null], vm := .statics 11 },
  { cls := 11, slots := #[.null, .int 0, .int 0], vm := .none }]
def classes : Array Class := #[k0, k1, k2, k3, k4, k5, k6, k7, k8, k9, k10, k11, k12, k13, k14, k15, k16]
def interned : List (Array UInt16 × Addr) := []
def slotsUsed : Nat := 6
def theMethod : MethodId := ⟨1, 1⟩
def args0 : Array Value := #[.int 5]
def aboutOver (below : List Frame) : State where
  vm := { classes := classes, interned := interned.toArray }
  heap := heap
  slotsUsed := slotsUsed
  threads := #[{ frames := .invoking theMethod args0 :: below }]
def below0 : List Frame := [.native { method := ⟨0, 0⟩, args := #[] }]
def about1 : State := aboutOver below0
def p0 : Program := .bare "" "" ""
def e0 : Env := launch0.env 0 0 0
theorem w_frames : about1.frames = Frame.invoking theMethod args0 :: below0 := rfl
set_option maxRecDepth 65536 in
theorem w_args : argsFit about1.vm theMethod args0 = true := by decide +kernel
set_option maxRecDepth 65536 in
theorem w_heap : heapFits about1 = true := by decide +kernel
set_option maxRecDepth 65536 in
theorem w_runnable : about1.curStatus? = some .runnable := by decide +kernel
set_option maxRecDepth 65536 in
theorem w_alone : about1.alone = true := by decide +kernel
set_option maxRecDepth 65536 in
theorem w_named : about1.methodNamed? x = some theMethod := by decide +kernel
set_option maxRecDepth 65536 in
theorem w_hears : about1.hears theMethod below0 = true := by decide +kernel
set_option maxRecDepth 65536 in
theorem w_ripe : about1.ripe theMethod args0 below0 = true := by decide +kernel
theorem w_running : about1.status = .running := rfl
set_option maxRecDepth 65536 in
theorem w_room : about1.hasRoom e0.platform room_1 = true :=
  launch0.hasRoom_least _ room_1 (by decide +kernel) (by decide +kernel) (by decide +kernel) (by decide +kernel) (by decide +kernel) (by decide +kernel)
theorem allAtoms_all (ts : List Jvm.Cond) (a : Array Jvm.Value) (st : Jvm.State) : (allAtoms ts).before a st = ts.all (fun c => c.before a st) := by
  induction ts with
  | nil => rfl
  | cons c t ih =>
    show (Jvm.Cond.and c (allAtoms t)).before a st = _
    rw [Jvm.Cond.before_and, ih, List.all_cons]
def words1 : List Jvm.Cond := Jvm.Cond.code x code maxLocals ret :: tables_1
/-- a 'code' word, met by the world's own term for the bytes: nothing is compared byte by byte -/
theorem code_word {y : MethodName} {bytes : ByteArray} {mx : Nat} {rt : Option FieldType} {a : Array Value} {s : State} {m : MethodId} {meth : Method} {c : Code} (h1 : s.methodNamed? y = some m) (h2 : s.vm.method? m = some meth) (h3 : meth.code = some c) (h4 : c.code = bytes)
    (h5 : (c.maxLocals == mx && c.exceptionTable.isEmpty && decide (c.maxStack ≤ mostOperands) && decide (meth.sig.returnType = rt) && !meth.locks && decide (parseMethodDescriptor y.desc = some meth.sig)) = true) : (Jvm.Cond.code y bytes mx rt).before a s = true := by
  simp only [Bool.and_eq_true, beq_iff_eq, Bool.not_eq_true', decide_eq_true_eq] at h5
  obtain ⟨⟨⟨⟨⟨g1, g2⟩, g3⟩, g4⟩, g5⟩, g6⟩ := h5
  simp [Cond.before, Cond.holds, Cond.value, h1, h2, h3, h4, g1, g2, g3, g4, g5, g6]
def isCode : Jvm.Cond → Bool
  | .code _ _ _ _ => true
  | _ => false
theorem all_split {L : List Jvm.Cond} {P : Jvm.Cond → Bool} (h1 : L.all (fun c => isCode c || P c) = true) (h2 : ∀ c ∈ L.filter isCode, P c = true) : L.all P = true := by
  refine List.all_eq_true.mpr fun c hc => ?_
  have h := List.all_eq_true.mp h1 c hc
  rcases Bool.eq_false_or_eq_true (isCode c) with hi | hi
  · exact h2 c (List.mem_filter.mpr ⟨hc, hi⟩)
  · simpa [hi] using h
set_option maxRecDepth 65536 in
theorem w_c0 : (Jvm.Cond.code x code maxLocals ret).before args0 about1 = true := code_word (m := ⟨1, 1⟩) (meth := k1m1) (c := k1c1) (by decide +kernel) rfl rfl rfl (by decide +kernel)
set_option maxRecDepth 65536 in
theorem w_c1 : (Jvm.Cond.code ({ cls := "com/example/tranchebook/tranchebook/PaymentSchedule", name := "everyMonths", desc := "(I)Lcom/example/tranchebook/tranchebook/PaymentSchedule;" } : Jvm.MethodName) prog_46_method_2_code (1 : Nat) (Option.some (Jvm.ClassFile.FieldType.object "com/example/tranchebook/tranchebook/PaymentSchedule"))).before args0 about1 = true := code_word (m := ⟨3, 1⟩) (meth := k3m1) (c := k3c1) (by decide +kernel) rfl rfl rfl (by decide +kernel)
set_option maxRecDepth 65536 in
theorem w_c2 : (Jvm.Cond.code ({ cls := "com/example/tranchebook/tranchebook/PaymentSchedule$Cut$EveryMonths", name := "<init>", desc := "(I)V" } : Jvm.MethodName) prog_48_method_1_code (2 : Nat) (Option.none : Option Jvm.ClassFile.FieldType)).before args0 about1 = true := code_word (m := ⟨5, 0⟩) (meth := k5m0) (c := k5c0) (by decide +kernel) rfl rfl rfl (by decide +kernel)
set_option maxRecDepth 65536 in
theorem w_c3 : (Jvm.Cond.code ({ cls := "java/lang/Record", name := "<init>", desc := "()V" } : Jvm.MethodName) jdk_30_method_1_code (1 : Nat) (Option.none : Option Jvm.ClassFile.FieldType)).before args0 about1 = true := code_word (m := ⟨2, 0⟩) (meth := k2m0) (c := k2c0) (by decide +kernel) rfl rfl rfl (by decide +kernel)
set_option maxRecDepth 65536 in
theorem w_c4 : (Jvm.Cond.code ({ cls := "java/lang/Object", name := "<init>", desc := "()V" } : Jvm.MethodName) object_method_1_code (1 : Nat) (Option.none : Option Jvm.ClassFile.FieldType)).before args0 about1 = true := code_word (m := ⟨0, 0⟩) (meth := k0m0) (c := k0c0) (by decide +kernel) rfl rfl rfl (by decide +kernel)
set_option maxRecDepth 65536 in
theorem w_c5 : (Jvm.Cond.code ({ cls := "com/example/tranchebook/tranchebook/PaymentSchedule", name := "<init>", desc := "(Lcom/example/tranchebook/tranchebook/PaymentSchedule$Cut;Lcom/example/tranchebook/tranchebook/PaymentSchedule$DueDay;)V" } : Jvm.MethodName) prog_46_method_1_code (3 : Nat) (Option.none : Option Jvm.ClassFile.FieldType)).before args0 about1 = true := code_word (m := ⟨3, 0⟩) (meth := k3m0) (c := k3c0) (by decide +kernel) rfl rfl rfl (by decide +kernel)
set_option maxRecDepth 65536 in
theorem w_c6 : (Jvm.Cond.code ({ cls := "com/example/tranchebook/tranchebook/PaymentSchedule", name := "dueDay", desc := "()Lcom/example/tranchebook/tranchebook/PaymentSchedule$DueDay;" } : Jvm.MethodName) prog_46_method_10_code (1 : Nat) (Option.some (Jvm.ClassFile.FieldType.object "com/example/tranchebook/tranchebook/PaymentSchedule$DueDay"))).before args0 about1 = true := code_word (m := ⟨3, 3⟩) (meth := k3m3) (c := k3c3) (by decide +kernel) rfl rfl rfl (by decide +kernel)
set_option maxRecDepth 65536 in
theorem w_c7 : (Jvm.Cond.code ({ cls := "com/example/tranchebook/tranchebook/PaymentSchedule", name := "cut", desc := "()Lcom/example/tranchebook/tranchebook/PaymentSchedule$Cut;" } : Jvm.MethodName) prog_46_method_9_code (1 : Nat) (Option.some (Jvm.ClassFile.FieldType.object "com/example/tranchebook/tranchebook/PaymentSchedule$Cut"))).before args0 about1 = true := code_word (m := ⟨3, 2⟩) (meth := k3m2) (c := k3c2) (by decide +kernel) rfl rfl rfl (by decide +kernel)
set_option maxRecDepth 65536 in
theorem w_c8 : (Jvm.Cond.code ({ cls := "com/example/tranchebook/tranchebook/PaymentSchedule$Cut$EveryMonths", name := "months", desc := "()I" } : Jvm.MethodName) prog_48_method_9_code (1 : Nat) (Option.some Jvm.ClassFile.FieldType.int)).before args0 about1 = true := code_word (m := ⟨5, 1⟩) (meth := k5m1) (c := k5c1) (by decide +kernel) rfl rfl rfl (by decide +kernel)
def codes1 : List Jvm.Cond := [Jvm.Cond.code x code maxLocals ret, Jvm.Cond.code ({ cls := "com/example/tranchebook/tranchebook/PaymentSchedule", name := "everyMonths", desc := "(I)Lcom/example/tranchebook/tranchebook/PaymentSchedule;" } : Jvm.MethodName) prog_46_method_2_code (1 : Nat) (Option.some (Jvm.ClassFile.FieldType.object "com/example/tranchebook/tranchebook/PaymentSchedule")), Jvm.Cond.code ({ cls := "com/example/tranchebook/tranchebook/PaymentSchedule$Cut$EveryMonths", name := "<init>", desc := "(I)V" } : Jvm.MethodName) prog_48_method_1_code (2 : Nat) (Option.none : Option Jvm.ClassFile.FieldType), Jvm.Cond.code ({ cls := "java/lang/Record", name := "<init>", desc := "()V" } : Jvm.MethodName) jdk_30_method_1_code (1 : Nat) (Option.none : Option Jvm.ClassFile.FieldType), Jvm.Cond.code ({ cls := "java/lang/Object", name := "<init>", desc := "()V" } : Jvm.MethodName) object_method_1_code (1 : Nat) (Option.none : Option Jvm.ClassFile.FieldType), Jvm.Cond.code ({ cls := "com/example/tranchebook/tranchebook/PaymentSchedule", name := "<init>", desc := "(Lcom/example/tranchebook/tranchebook/PaymentSchedule$Cut;Lcom/example/tranchebook/tranchebook/PaymentSchedule$DueDay;)V" } : Jvm.MethodName) prog_46_method_1_code (3 : Nat) (Option.none : Option Jvm.ClassFile.FieldType), Jvm.Cond.code ({ cls := "com/example/tranchebook/tranchebook/PaymentSchedule", name := "dueDay", desc := "()Lcom/example/tranchebook/tranchebook/PaymentSchedule$DueDay;" } : Jvm.MethodName) prog_46_method_10_code (1 : Nat) (Option.some (Jvm.ClassFile.FieldType.object "com/example/tranchebook/tranchebook/PaymentSchedule$DueDay")), Jvm.Cond.code ({ cls := "com/example/tranchebook/tranchebook/PaymentSchedule", name := "cut", desc := "()Lcom/example/tranchebook/tranchebook/PaymentSchedule$Cut;" } : Jvm.MethodName) prog_46_method_9_code (1 : Nat) (Option.some (Jvm.ClassFile.FieldType.object "com/example/tranchebook/tranchebook/PaymentSchedule$Cut")), Jvm.Cond.code ({ cls := "com/example/tranchebook/tranchebook/PaymentSchedule$Cut$EveryMonths", name := "months", desc := "()I" } : Jvm.MethodName) prog_48_method_9_code (1 : Nat) (Option.some Jvm.ClassFile.FieldType.int)]
set_option maxRecDepth 65536 in
theorem codes_eq : words1.filter isCode = codes1 := rfl
theorem w_codes : ∀ c ∈ words1.filter isCode, c.before args0 about1 = true := by
  rw [codes_eq]
  intro c hc
  simp only [codes1, List.mem_cons, List.not_mem_nil, or_false] at hc
  rcases hc with rfl | rfl | rfl | rfl | rfl | rfl | rfl | rfl | rfl
  · exact w_c0
  · exact w_c1
  · exact w_c2
  · exact w_c3
  · exact w_c4
  · exact w_c5
  · exact w_c6
  · exact w_c7
  · exact w_c8
set_option maxRecDepth 65536 in
theorem w_t1 : (words1.take 24).all (fun c => isCode c || c.before args0 about1) = true := by decide +kernel
set_option maxRecDepth 65536 in
theorem w_t2 : ((words1.drop 24).take 24).all (fun c => isCode c || c.before args0 about1) = true := by decide +kernel
set_option maxRecDepth 65536 in
theorem w_t3 : ((words1.drop 24).drop 24).all (fun c => isCode c || c.before args0 about1) = true := by decide +kernel
theorem w_tables : (allAtoms (Jvm.Cond.code x code maxLocals ret :: tables_1)).before args0 about1 = true := by
  rw [allAtoms_all]
  show words1.all (fun c => c.before args0 about1) = true
  refine all_split ?_ w_codes
  rw [← List.take_append_drop 24 words1, List.all_append, w_t1, ← List.take_append_drop 24 (words1.drop 24), List.all_append, w_t2, w_t3]
  rfl
set_option maxRecDepth 65536 in
theorem w_case : (Jvm.Cond.and given_1 narrow_1).before args0 about1 = true := by decide +kernel
theorem w_applies : (headSpec (Jvm.Cond.code x code maxLocals ret :: tables_1) room_1).applies x e0.platform about1 = true :=
  (Spec.applies_iff w_frames).mpr ⟨w_running, w_runnable, w_alone, w_named, w_hears, w_ripe, w_room, w_tables⟩
theorem atStart : AtStart classFile x code maxLocals ret World_1 tables_1 room_1 Calls_1 rest_1 Pre_1 launch0 p0 e0 about1 theMethod args0 below0 :=
  ⟨lists_1, trivial, launch0.admits_env _ _ _, launch0.least_env, fairChoices_fair.cas, fairChoices_fair.clock, w_frames, w_args, w_heap, w_applies, trivial, trivial, w_case⟩
end start1
theorem witness_1 : WitnessClaimed_1 := ⟨start1.p0, start1.e0, start1.about1, start1.theMethod, start1.args0, start1.below0, start1.atStart⟩
end Jvm.Pilot.@@N@@
