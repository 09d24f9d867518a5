import JvmDerived
import JvmDerived.Pilot.@@N@@Statement
import JvmDerived.Pilot.@@N@@Code
set_option linter.unusedVariables false
set_option linter.unusedSimpArgs false
namespace Jvm.RoadKit
open Sem ClassFile Op Lib Jvm.Stand Jvm.Free Jvm.LawKit
section New
variable {p : Program} {l : Launch} {e : Env} {R : Room} {s : State} {m : MethodId} {args : Array Value} {below : List Frame} {meth : Method} {c : Code} {T : State} {locs : List Loc} {cells slots : Nat}
theorem retI (X : Stand p l e R s m args below meth c T locs cells slots) (hx : p.tables.exec = Jvm.exec) {pc : Nat} {Ls : Array Slot} {z : Int32} {rest : List Value} (hret : meth.sig.returnType = some .int) (hd : decode c.code pc = .ok (.ireturn, 1)) {fs : List Frame}
    (hl : ∀ (f : JFrame) (acts : List Action), f.method = m → f.locked = none → f.entered = [] → (doReturn e (T.setTop f) acts (some (.int z))).1 = T.setFrames fs) : Steps p.tables e below (T.setTop (mkF m pc Ls (.int z :: rest))) (T.setFrames fs) := by
  have hm' : T.vm.method? m = some meth := X.method'
  have hn : narrow .int (.int z) = .int z := rfl
  show Steps p.tables e below (T.setTop { method := m, pc := pc, locals := Ls, stack := _ :: rest, locked := none }) _
  jvm_step X.here [X.here.top, hx, hd, hm', hret, hn]
  first | (intro acts; rw [hl _ acts rfl rfl rfl]) | rw [hl _ _ rfl rfl rfl]
  exact Steps.refl _
end New
end Jvm.RoadKit
namespace Jvm.Pilot.@@N@@
open Jvm Jvm.ClassFile Sem Op Lib Jvm.Free Jvm.Stand Jvm.LawKit Jvm.RoadKit Bundle Jvm.Pilot.@@N@@.Jvm.D
abbrev vi (x : Int32) : Slot := .val (.int x)
abbrev vj (x : Int64) : Slot := .val (.long x)
abbrev vr (x : Addr) : Slot := .val (.ref x)
abbrev vN : Slot := .val .null
abbrev un : Slot := .unset
abbrev SS (p : Program) (e : Env) (below : List Frame) (m : MethodId) (T : State) (pc : Nat) (L : Array Slot) (S : List Value) (t : State) : Prop := Steps p.tables e below (T.setTop (mkF m pc L S)) t
theorem ww {a0 : Array Value} {Z : State} (hw : ∀ d ∈ tables_1, d.before a0 Z = true) (i : Nat) {d : Jvm.Cond} (h : tables_1[i]? = some d) : d.before a0 Z = true := hw _ (List.mem_of_getElem? h)
abbrev y_0 : MethodName := ⟨"com/example/sundew/sundew/TransactionContextJoinPinLaw", "pick", "(I)Lcom/example/sundew/sundew/TransactionContext;"⟩
abbrev y_1 : MethodName := ⟨"com/example/sundew/sundew/TransactionContext", "join", "(Lcom/example/sundew/sundew/TransactionContext;)Lcom/example/sundew/sundew/TransactionContext;"⟩
theorem own_fld {args : Array Value} {s : State} {t : Term} {C f d : String} {k : Int32} {w : Addr} (ev : t.eval args s none [] s = some (.ref w)) (h : (Jvm.Cond.eq (Term.field t C f d) (Term.int k)).value args s none s [] = some true) : Fld s s.heap w C f d (.int k) := Fld.start ((fld_at ev).symm.trans (eqv_i (Term.int_eval k) h))
def own_pick (wN wM wT wU : Addr) (k : Int32) : Addr := if k = (0 : Int32) then wN else if k = (1 : Int32) then wM else if k = (2 : Int32) then wT else wU
def own_join (wM wU a b : Addr) : Addr := if a = b then a else if a = wU ∨ b = wU then wU else wM
def own_tab (i j : Int32) : Int32 := if i = 3 ∨ j = 3 then 3 else if i = j then i else 1
theorem own_and3 (a : Int32) : a &&& (3 : Int32) = 0 ∨ a &&& (3 : Int32) = 1 ∨ a &&& (3 : Int32) = 2 ∨ a &&& (3 : Int32) = 3 := by
  have h := c_mask a 3 2 (by decide) (by decide)
  have e0 : (0 : Int32).toInt = 0 := by decide
  have e1 : (1 : Int32).toInt = 1 := by decide
  have e2 : (2 : Int32).toInt = 2 := by decide
  have e3 : (3 : Int32).toInt = 3 := by decide
  simp only [← Int32.toInt_inj, e0, e1, e2, e3]
  omega
def own_vs : List Value := [(.int (0 : Int32)), (.int (1 : Int32)), (.int (1 : Int32)), (.int (3 : Int32)), (.int (1 : Int32)), (.int (1 : Int32)), (.int (1 : Int32)), (.int (3 : Int32)), (.int (1 : Int32)), (.int (1 : Int32)), (.int (2 : Int32)), (.int (3 : Int32)), (.int (3 : Int32)), (.int (3 : Int32)), (.int (3 : Int32)), (.int (3 : Int32))]
theorem own_in (a b : Int32) : ¬ ((a &&& (3 : Int32)) * (4 : Int32) + (b &&& (3 : Int32))) < 0 ∧ ((a &&& (3 : Int32)) * (4 : Int32) + (b &&& (3 : Int32))) < (16 : Int32) := by
  rcases own_and3 a with h | h | h | h <;> rcases own_and3 b with g | g | g | g <;> rw [h, g] <;> decide
theorem own_at (a b : Int32) : own_vs.getD ((a &&& (3 : Int32)) * (4 : Int32) + (b &&& (3 : Int32))).toNatClampNeg (.int (0 : Int32)) = .int (own_tab (a &&& (3 : Int32)) (b &&& (3 : Int32))) := by
  rcases own_and3 a with h | h | h | h <;> rcases own_and3 b with g | g | g | g <;> rw [h, g] <;> rfl
theorem own_end {wN wM wT wU : Addr} (n1 : wN ≠ wM) (n2 : wN ≠ wT) (n3 : wN ≠ wU) (n4 : wM ≠ wT) (n5 : wM ≠ wU) (n6 : wT ≠ wU) (a b : Int32) :
    own_join wM wU (own_pick wN wM wT wU (a &&& (3 : Int32))) (own_pick wN wM wT wU (b &&& (3 : Int32))) = own_pick wN wM wT wU (own_tab (a &&& (3 : Int32)) (b &&& (3 : Int32))) := by
  have s1 := n1.symm; have s2 := n2.symm; have s3 := n3.symm; have s4 := n4.symm; have s5 := n5.symm; have s6 := n6.symm
  rcases own_and3 a with h | h | h | h <;> rcases own_and3 b with g | g | g | g <;> rw [h, g] <;> simp [own_join, own_pick, own_tab, n1, n2, n3, n4, n5, n6, s1, s2, s3, s4, s5, s6]
theorem own_exa {Z : State} {h : Heap} {C : String} {wN wM wT wU : Addr} (k : Int32) (e1 : Exa Z h wN C) (e2 : Exa Z h wM C) (e3 : Exa Z h wT C) (e4 : Exa Z h wU C) : Exa Z h (own_pick wN wM wT wU k) C := by
  unfold own_pick; split; · exact e1
  split; · exact e2
  split; · exact e3
  exact e4
theorem d1_0 : decode method_2_code 0 = .ok (.iload_n 0, 1) := by decide +kernel
theorem d1_1 : decode method_2_code 1 = .ok (.ifCond .ne 7, 3) := by decide +kernel
theorem d1_4 : decode method_2_code 4 = .ok (.getstatic 7, 3) := by decide +kernel
theorem d1_7 : decode method_2_code 7 = .ok (.areturn, 1) := by decide +kernel
theorem d1_8 : decode method_2_code 8 = .ok (.iload_n 0, 1) := by decide +kernel
theorem d1_9 : decode method_2_code 9 = .ok (.iconst 1, 1) := by decide +kernel
theorem d1_10 : decode method_2_code 10 = .ok (.if_icmp .ne 7, 3) := by decide +kernel
theorem d1_13 : decode method_2_code 13 = .ok (.getstatic 13, 3) := by decide +kernel
theorem d1_16 : decode method_2_code 16 = .ok (.areturn, 1) := by decide +kernel
theorem d1_17 : decode method_2_code 17 = .ok (.iload_n 0, 1) := by decide +kernel
theorem d1_18 : decode method_2_code 18 = .ok (.iconst 2, 1) := by decide +kernel
theorem d1_19 : decode method_2_code 19 = .ok (.if_icmp .ne 7, 3) := by decide +kernel
theorem d1_22 : decode method_2_code 22 = .ok (.getstatic 16, 3) := by decide +kernel
theorem d1_25 : decode method_2_code 25 = .ok (.areturn, 1) := by decide +kernel
theorem d1_26 : decode method_2_code 26 = .ok (.getstatic 19, 3) := by decide +kernel
theorem d1_29 : decode method_2_code 29 = .ok (.areturn, 1) := by decide +kernel
theorem pn_0 : plainName "com/example/sundew/sundew/TransactionContextJoinPinLaw" = true := by first | (simp [plainName, overriddenIn]; done) | decide +kernel
theorem ef_rm1 (m : MethodId) (x0 : Int32) : entryFrame m #[(.int x0)] 1 = mkF m 0 #[vi x0] [] := by first | (simp [entryFrame, mkF, argsToLocals, Value.category]; done) | rfl
def Q_rm1 (Z : State) (p1 : Int32) (wN : Addr) (wM : Addr) (wT : Addr) (wU : Addr) (h0 : Heap) (n0 : Nat) (v : Option Value) (h : Heap) (L : List Loc) : Prop := (v = some (.ref (own_pick wN wM wT wU p1))) ∧ (Fr n0 L) ∧ (h = h0)
set_option maxRecDepth 65536 in
set_option maxHeartbeats 40000000 in
theorem rm1 (l : Launch) (Z : State) (a0 : Array Value) (hw : ∀ d ∈ tables_1, d.before a0 Z = true) (ws : List Jvm.Cond) (p1 : Int32) (wN : Addr) (wM : Addr) (wT : Addr) (wU : Addr) (h0 : Heap) (n0 : Nat) (Z0 : n0 ≤ h0.size) (O0 : Old Z n0 h0) (S_NONE : Sta Z Z.heap "com/example/sundew/sundew/TransactionContext" "NONE" "Lcom/example/sundew/sundew/TransactionContext;" (.ref wN)) (S_MAYBE : Sta Z Z.heap "com/example/sundew/sundew/TransactionContext" "MAYBE" "Lcom/example/sundew/sundew/TransactionContext;" (.ref wM)) (S_TRANSACTION : Sta Z Z.heap "com/example/sundew/sundew/TransactionContext" "TRANSACTION" "Lcom/example/sundew/sundew/TransactionContext;" (.ref wT)) (S_UNKNOWN : Sta Z Z.heap "com/example/sundew/sundew/TransactionContext" "UNKNOWN" "Lcom/example/sundew/sundew/TransactionContext;" (.ref wU)) :
    MetFree l y_0 (head1 (Jvm.Cond.code y_0 method_2_code 1 (some (.object "com/example/sundew/sundew/TransactionContext")) :: ws) ({ frames := 0, cells := 0, slots := 0, locals := 0 } : Room)) (fun a U => a = #[(.int p1)] ∧ Z.Warmed39 U.vm ∧ U.heap = h0) (fun _ _ _ _ _ => True) (fun _ U o U' => ∃ v L, o = .returned v ∧ Q_rm1 Z p1 wN wM wT wU h0 n0 v U'.heap L ∧ FrameEnd U o U' L ({ frames := 0, cells := 0, slots := 0, locals := 0 } : Room).cells ({ frames := 0, cells := 0, slots := 0, locals := 0 } : Room).slots) := by
  refine MetFree.of_bodySF (plainFor_of_name pn_0) hisR ?_
  intro p e s m args below meth c s₁ Bd hml0 hP hK
  obtain ⟨rfl, hZ, hh⟩ := hP
  have hx := Bd.exec
  have hby := Bd.bytes
  have hml : c.maxLocals = 1 := hml0
  have hown : s.vm.findClass "com/example/sundew/sundew/TransactionContextJoinPinLaw" = some m.cls := findClass_of_methodNamed Bd.named
  have hnm := (name_of_methodNamed Bd.named Bd.method).1
  have X0 : Stand p l e ({ frames := 0, cells := 0, slots := 0, locals := 0 } : Room) s m #[(.int p1)] below meth c s₁ [] 0 0 := Stand.of_body Bd
  have e0 : s₁.heap = h0 := by rw [← hh, Bd.state]; rfl
  have N0 := Fr.nil n0
  have KC : Keep h0 h0 [] := Keep.refl h0 _
  have pre0 : ∀ t, Steps p.tables e below (s₁.setTop (mkF m 0 #[vi p1] [])) t → Steps p.tables e below (s₁.setTop (entryFrame m #[(.int p1)] 1)) t := fun t k => castTop (ef_rm1 m p1) k
  have pre1 : ∀ t, Steps p.tables e below (s₁.setTop (mkF m 1 #[vi p1] [(.int p1)])) t → Steps p.tables e below (s₁.setTop (entryFrame m #[(.int p1)] 1)) t := by
    intro t kt
    refine pre0 t ?_
    show SS p e below m s₁ 0 #[vi p1] [] _
    refine XS.iloadN X0.here hx rfl (hb hby d1_0) rfl ?_
    exact kt
  by_cases hc1_2 : p1 = (0 : Int32)
  · obtain ⟨T3, X3, e3, st3⟩ := getS2 X0 hx hZ hown (host := "") (Or.inl (ww hw 5 rfl)) Via.refl e0 (S_NONE.ext O0.2) (g := (mkF m 4 #[vi p1] [])) rfl (hb hby d1_4)
    obtain ⟨fs, hr, hrun, hended, hW, hsame⟩ := X3.leave (v := some (.ref wN)) (fun h => by rw [Bd.returns] at h; cases h)
    refine ⟨_, _, pre1 _ ?_, hrun, hended, _, _, rfl, ?_, ⟨_, rfl⟩, hW, hsame.mono (by decide) (by decide)⟩
    · show SS p e below m s₁ 1 #[vi p1] [(.int p1)] _
      refine XS.ifNo X0.here hx rfl (hb hby d1_1) rfl ((if0 _ _).trans (teq hc1_2).2) ?_
      show SS p e below m s₁ 4 #[vi p1] [] _
      refine st3 _ ?_
      show SS p e below m T3 7 #[vi p1] [(.ref wN)] _
      jvm_step X3.here [X3.here.top, hx, (hb hby d1_7), X3.method', Bd.returns, Value.isRef, FieldType.isReference]
      first | (intro acts; rw [hr _ acts rfl rfl rfl]) | rw [hr _ _ rfl rfl rfl]
      exact Steps.refl _
    · show Q_rm1 Z p1 wN wM wT wU h0 n0 _ T3.heap _
      rw [e3]
      exact ⟨(by simp [own_pick, hc1_2]), N0, rfl⟩
  · have pre4 : ∀ t, Steps p.tables e below (s₁.setTop (mkF m 10 #[vi p1] [(.int (1 : Int32)), (.int p1)])) t → Steps p.tables e below (s₁.setTop (entryFrame m #[(.int p1)] 1)) t := by
      intro t kt
      refine pre1 t ?_
      show SS p e below m s₁ 1 #[vi p1] [(.int p1)] _
      refine XS.ifYes X0.here hx rfl (pc0 := 1) (pc' := 8) rfl (hb hby d1_1) rfl ((if0 _ _).trans (feq hc1_2).2) (by decide) (by decide) ?_
      show SS p e below m s₁ 8 #[vi p1] [] _
      refine XS.iloadN X0.here hx rfl (hb hby d1_8) rfl ?_
      show SS p e below m s₁ 9 #[vi p1] [(.int p1)] _
      refine XS.iconst X0.here hx rfl (hb hby d1_9) ?_
      exact kt
    by_cases hc10_5 : p1 = (1 : Int32)
    · obtain ⟨T6, X6, e6, st6⟩ := getS2 X0 hx hZ hown (host := "") (Or.inl (ww hw 18 rfl)) Via.refl e0 (S_MAYBE.ext O0.2) (g := (mkF m 13 #[vi p1] [])) rfl (hb hby d1_13)
      obtain ⟨fs, hr, hrun, hended, hW, hsame⟩ := X6.leave (v := some (.ref wM)) (fun h => by rw [Bd.returns] at h; cases h)
      refine ⟨_, _, pre4 _ ?_, hrun, hended, _, _, rfl, ?_, ⟨_, rfl⟩, hW, hsame.mono (by decide) (by decide)⟩
      · show SS p e below m s₁ 10 #[vi p1] [(.int (1 : Int32)), (.int p1)] _
        refine XS.icmpNo X0.here hx rfl (hb hby d1_10) rfl (teq hc10_5).2 ?_
        show SS p e below m s₁ 13 #[vi p1] [] _
        refine st6 _ ?_
        show SS p e below m T6 16 #[vi p1] [(.ref wM)] _
        jvm_step X6.here [X6.here.top, hx, (hb hby d1_16), X6.method', Bd.returns, Value.isRef, FieldType.isReference]
        first | (intro acts; rw [hr _ acts rfl rfl rfl]) | rw [hr _ _ rfl rfl rfl]
        exact Steps.refl _
      · show Q_rm1 Z p1 wN wM wT wU h0 n0 _ T6.heap _
        rw [e6]
        exact ⟨(by simp [own_pick, hc1_2, hc10_5]), N0, rfl⟩
    · have pre7 : ∀ t, Steps p.tables e below (s₁.setTop (mkF m 19 #[vi p1] [(.int (2 : Int32)), (.int p1)])) t → Steps p.tables e below (s₁.setTop (entryFrame m #[(.int p1)] 1)) t := by
        intro t kt
        refine pre4 t ?_
        show SS p e below m s₁ 10 #[vi p1] [(.int (1 : Int32)), (.int p1)] _
        refine XS.icmpYes X0.here hx rfl (pc0 := 10) (pc' := 17) rfl (hb hby d1_10) rfl (feq hc10_5).2 (by decide) (by decide) ?_
        show SS p e below m s₁ 17 #[vi p1] [] _
        refine XS.iloadN X0.here hx rfl (hb hby d1_17) rfl ?_
        show SS p e below m s₁ 18 #[vi p1] [(.int p1)] _
        refine XS.iconst X0.here hx rfl (hb hby d1_18) ?_
        exact kt
      by_cases hc19_8 : p1 = (2 : Int32)
      · obtain ⟨T9, X9, e9, st9⟩ := getS2 X0 hx hZ hown (host := "") (Or.inl (ww hw 16 rfl)) Via.refl e0 (S_TRANSACTION.ext O0.2) (g := (mkF m 22 #[vi p1] [])) rfl (hb hby d1_22)
        obtain ⟨fs, hr, hrun, hended, hW, hsame⟩ := X9.leave (v := some (.ref wT)) (fun h => by rw [Bd.returns] at h; cases h)
        refine ⟨_, _, pre7 _ ?_, hrun, hended, _, _, rfl, ?_, ⟨_, rfl⟩, hW, hsame.mono (by decide) (by decide)⟩
        · show SS p e below m s₁ 19 #[vi p1] [(.int (2 : Int32)), (.int p1)] _
          refine XS.icmpNo X0.here hx rfl (hb hby d1_19) rfl (teq hc19_8).2 ?_
          show SS p e below m s₁ 22 #[vi p1] [] _
          refine st9 _ ?_
          show SS p e below m T9 25 #[vi p1] [(.ref wT)] _
          jvm_step X9.here [X9.here.top, hx, (hb hby d1_25), X9.method', Bd.returns, Value.isRef, FieldType.isReference]
          first | (intro acts; rw [hr _ acts rfl rfl rfl]) | rw [hr _ _ rfl rfl rfl]
          exact Steps.refl _
        · show Q_rm1 Z p1 wN wM wT wU h0 n0 _ T9.heap _
          rw [e9]
          exact ⟨(by simp [own_pick, hc1_2, hc10_5, hc19_8]), N0, rfl⟩
      · obtain ⟨T10, X10, e10, st10⟩ := getS2 X0 hx hZ hown (host := "") (Or.inl (ww hw 8 rfl)) Via.refl e0 (S_UNKNOWN.ext O0.2) (g := (mkF m 26 #[vi p1] [])) rfl (hb hby d1_26)
        obtain ⟨fs, hr, hrun, hended, hW, hsame⟩ := X10.leave (v := some (.ref wU)) (fun h => by rw [Bd.returns] at h; cases h)
        refine ⟨_, _, pre7 _ ?_, hrun, hended, _, _, rfl, ?_, ⟨_, rfl⟩, hW, hsame.mono (by decide) (by decide)⟩
        · show SS p e below m s₁ 19 #[vi p1] [(.int (2 : Int32)), (.int p1)] _
          refine XS.icmpYes X0.here hx rfl (pc0 := 19) (pc' := 26) rfl (hb hby d1_19) rfl (feq hc19_8).2 (by decide) (by decide) ?_
          show SS p e below m s₁ 26 #[vi p1] [] _
          refine st10 _ ?_
          show SS p e below m T10 29 #[vi p1] [(.ref wU)] _
          jvm_step X10.here [X10.here.top, hx, (hb hby d1_29), X10.method', Bd.returns, Value.isRef, FieldType.isReference]
          first | (intro acts; rw [hr _ acts rfl rfl rfl]) | rw [hr _ _ rfl rfl rfl]
          exact Steps.refl _
        · show Q_rm1 Z p1 wN wM wT wU h0 n0 _ T10.heap _
          rw [e10]
          exact ⟨(by simp [own_pick, hc1_2, hc10_5, hc19_8]), N0, rfl⟩
theorem d2_0 : decode prog_11_method_4_code 0 = .ok (.aload_n 0, 1) := by decide +kernel
theorem d2_1 : decode prog_11_method_4_code 1 = .ok (.aload_n 1, 1) := by decide +kernel
theorem d2_2 : decode prog_11_method_4_code 2 = .ok (.if_acmp .ne 8, 3) := by decide +kernel
theorem d2_5 : decode prog_11_method_4_code 5 = .ok (.aload_n 0, 1) := by decide +kernel
theorem d2_6 : decode prog_11_method_4_code 6 = .ok (.astore_n 2, 1) := by decide +kernel
theorem d2_7 : decode prog_11_method_4_code 7 = .ok (.goto 28, 3) := by decide +kernel
theorem d2_10 : decode prog_11_method_4_code 10 = .ok (.aload_n 0, 1) := by decide +kernel
theorem d2_11 : decode prog_11_method_4_code 11 = .ok (.getstatic 13, 3) := by decide +kernel
theorem d2_14 : decode prog_11_method_4_code 14 = .ok (.if_acmp .eq 10, 3) := by decide +kernel
theorem d2_17 : decode prog_11_method_4_code 17 = .ok (.aload_n 1, 1) := by decide +kernel
theorem d2_18 : decode prog_11_method_4_code 18 = .ok (.getstatic 13, 3) := by decide +kernel
theorem d2_21 : decode prog_11_method_4_code 21 = .ok (.if_acmp .ne 10, 3) := by decide +kernel
theorem d2_24 : decode prog_11_method_4_code 24 = .ok (.getstatic 13, 3) := by decide +kernel
theorem d2_27 : decode prog_11_method_4_code 27 = .ok (.astore_n 2, 1) := by decide +kernel
theorem d2_28 : decode prog_11_method_4_code 28 = .ok (.goto 7, 3) := by decide +kernel
theorem d2_31 : decode prog_11_method_4_code 31 = .ok (.getstatic 7, 3) := by decide +kernel
theorem d2_34 : decode prog_11_method_4_code 34 = .ok (.astore_n 2, 1) := by decide +kernel
theorem d2_35 : decode prog_11_method_4_code 35 = .ok (.aload_n 2, 1) := by decide +kernel
theorem d2_36 : decode prog_11_method_4_code 36 = .ok (.areturn, 1) := by decide +kernel
theorem pn_1 : plainName "com/example/sundew/sundew/TransactionContext" = true := by first | (simp [plainName, overriddenIn]; done) | decide +kernel
theorem ef_rm2 (m : MethodId) (x0 : Addr) (x1 : Addr) : entryFrame m #[(.ref x0), (.ref x1)] 3 = mkF m 0 #[vr x0, vr x1, .unset] [] := by first | (simp [entryFrame, mkF, argsToLocals, Value.category]; done) | rfl
def Q_rm2 (Z : State) (a1 : Addr) (a2 : Addr) (wM : Addr) (wU : Addr) (h0 : Heap) (n0 : Nat) (v : Option Value) (h : Heap) (L : List Loc) : Prop := (v = some (.ref (own_join wM wU a1 a2))) ∧ (Fr n0 L) ∧ (h = h0)
set_option maxRecDepth 65536 in
set_option maxHeartbeats 40000000 in
theorem rm2 (l : Launch) (Z : State) (a0 : Array Value) (hw : ∀ d ∈ tables_1, d.before a0 Z = true) (ws : List Jvm.Cond) (a1 : Addr) (a2 : Addr) (wM : Addr) (wU : Addr) (h0 : Heap) (n0 : Nat) (Z0 : n0 ≤ h0.size) (O0 : Old Z n0 h0) (S_MAYBE : Sta Z Z.heap "com/example/sundew/sundew/TransactionContext" "MAYBE" "Lcom/example/sundew/sundew/TransactionContext;" (.ref wM)) (S_UNKNOWN : Sta Z Z.heap "com/example/sundew/sundew/TransactionContext" "UNKNOWN" "Lcom/example/sundew/sundew/TransactionContext;" (.ref wU)) :
    MetFree l y_1 (head1 (Jvm.Cond.code y_1 prog_11_method_4_code 3 (some (.object "com/example/sundew/sundew/TransactionContext")) :: ws) ({ frames := 0, cells := 0, slots := 0, locals := 0 } : Room)) (fun a U => a = #[(.ref a1), (.ref a2)] ∧ Z.Warmed39 U.vm ∧ U.heap = h0) (fun _ _ _ _ _ => True) (fun _ U o U' => ∃ v L, o = .returned v ∧ Q_rm2 Z a1 a2 wM wU h0 n0 v U'.heap L ∧ FrameEnd U o U' L ({ frames := 0, cells := 0, slots := 0, locals := 0 } : Room).cells ({ frames := 0, cells := 0, slots := 0, locals := 0 } : Room).slots) := by
  refine MetFree.of_bodySF (plainFor_of_name pn_1) hisR ?_
  intro p e s m args below meth c s₁ Bd hml0 hP hK
  obtain ⟨rfl, hZ, hh⟩ := hP
  have hx := Bd.exec
  have hby := Bd.bytes
  have hml : c.maxLocals = 3 := hml0
  have hown : s.vm.findClass "com/example/sundew/sundew/TransactionContext" = some m.cls := findClass_of_methodNamed Bd.named
  have hnm := (name_of_methodNamed Bd.named Bd.method).1
  have X0 : Stand p l e ({ frames := 0, cells := 0, slots := 0, locals := 0 } : Room) s m #[(.ref a1), (.ref a2)] below meth c s₁ [] 0 0 := Stand.of_body Bd
  have e0 : s₁.heap = h0 := by rw [← hh, Bd.state]; rfl
  have N0 := Fr.nil n0
  have KC : Keep h0 h0 [] := Keep.refl h0 _
  have pre0 : ∀ t, Steps p.tables e below (s₁.setTop (mkF m 0 #[vr a1, vr a2, un] [])) t → Steps p.tables e below (s₁.setTop (entryFrame m #[(.ref a1), (.ref a2)] 3)) t := fun t k => castTop (ef_rm2 m a1 a2) k
  have pre1 : ∀ t, Steps p.tables e below (s₁.setTop (mkF m 2 #[vr a1, vr a2, un] [(.ref a2), (.ref a1)])) t → Steps p.tables e below (s₁.setTop (entryFrame m #[(.ref a1), (.ref a2)] 3)) t := by
    intro t kt
    refine pre0 t ?_
    show SS p e below m s₁ 0 #[vr a1, vr a2, un] [] _
    refine XS.aloadN X0.here hx rfl (hb hby d2_0) rfl rfl ?_
    show SS p e below m s₁ 1 #[vr a1, vr a2, un] [(.ref a1)] _
    refine XS.aloadN X0.here hx rfl (hb hby d2_1) rfl rfl ?_
    exact kt
  by_cases ha2_2 : a1 = a2
  · obtain ⟨fs, hr, hrun, hended, hW, hsame⟩ := X0.leave (v := some (.ref a1)) (fun h => by rw [Bd.returns] at h; cases h)
    refine ⟨_, _, pre1 _ ?_, hrun, hended, _, _, rfl, ?_, ⟨_, rfl⟩, hW, hsame.mono (by decide) (by decide)⟩
    · show SS p e below m s₁ 2 #[vr a1, vr a2, un] [(.ref a2), (.ref a1)] _
      refine Jvm.RoadKit.acmp (g := (mkF m 2 #[vr a1, vr a2, un] [(.ref a2), (.ref a1)])) X0 hx rfl rfl rfl (pc0 := 2) (pc' := 5) (same := true) rfl (hb hby d2_2) rfl (decide_eq_true (congrArg Value.ref ha2_2)) (by decide) (by decide) ?_
      show SS p e below m s₁ 5 #[vr a1, vr a2, un] [] _
      refine XS.aloadN X0.here hx rfl (hb hby d2_5) rfl rfl ?_
      show SS p e below m s₁ 6 #[vr a1, vr a2, un] [(.ref a1)] _
      refine XS.astoreN X0.here hx rfl (hb hby d2_6) rfl rfl (l' := #[vr a1, vr a2, vr a1]) rfl ?_
      show SS p e below m s₁ 7 #[vr a1, vr a2, vr a1] [] _
      refine XS.goto X0.here hx rfl (pc0 := 7) (pc' := 35) rfl (hb hby d2_7) (by decide) (by decide) ?_
      show SS p e below m s₁ 35 #[vr a1, vr a2, vr a1] [] _
      refine XS.aloadN X0.here hx rfl (hb hby d2_35) rfl rfl ?_
      show SS p e below m s₁ 36 #[vr a1, vr a2, vr a1] [(.ref a1)] _
      jvm_step X0.here [X0.here.top, hx, (hb hby d2_36), X0.method', Bd.returns, Value.isRef, FieldType.isReference]
      first | (intro acts; rw [hr _ acts rfl rfl rfl]) | rw [hr _ _ rfl rfl rfl]
      exact Steps.refl _
    · show Q_rm2 Z a1 a2 wM wU h0 n0 _ s₁.heap _
      rw [e0]
      exact ⟨(by simp [own_join, ha2_2]), N0, rfl⟩
  · obtain ⟨T3, X3, e3, st3⟩ := getS2 X0 hx hZ hown (host := "") (Or.inl (ww hw 15 rfl)) Via.refl e0 (S_UNKNOWN.ext O0.2) (g := (mkF m 11 #[vr a1, vr a2, un] [(.ref a1)])) rfl (hb hby d2_11)
    have pre4 : ∀ t, Steps p.tables e below (T3.setTop (mkF m 14 #[vr a1, vr a2, un] [(.ref wU), (.ref a1)])) t → Steps p.tables e below (s₁.setTop (entryFrame m #[(.ref a1), (.ref a2)] 3)) t := by
      intro t kt
      refine pre1 t ?_
      show SS p e below m s₁ 2 #[vr a1, vr a2, un] [(.ref a2), (.ref a1)] _
      refine Jvm.RoadKit.acmp (g := (mkF m 2 #[vr a1, vr a2, un] [(.ref a2), (.ref a1)])) X0 hx rfl rfl rfl (pc0 := 2) (pc' := 10) (same := false) rfl (hb hby d2_2) rfl (decide_eq_false fun q => ha2_2 (Value.ref.inj q)) (by decide) (by decide) ?_
      show SS p e below m s₁ 10 #[vr a1, vr a2, un] [] _
      refine XS.aloadN X0.here hx rfl (hb hby d2_10) rfl rfl ?_
      show SS p e below m s₁ 11 #[vr a1, vr a2, un] [(.ref a1)] _
      refine st3 _ ?_
      exact kt
    by_cases ha14_5 : a1 = wU
    · obtain ⟨T6, X6, e6, st6⟩ := getS2 X3 hx hZ hown (host := "") (Or.inl (ww hw 15 rfl)) Via.refl e3 (S_UNKNOWN.ext O0.2) (g := (mkF m 24 #[vr a1, vr a2, un] [])) rfl (hb hby d2_24)
      obtain ⟨fs, hr, hrun, hended, hW, hsame⟩ := X6.leave (v := some (.ref wU)) (fun h => by rw [Bd.returns] at h; cases h)
      refine ⟨_, _, pre4 _ ?_, hrun, hended, _, _, rfl, ?_, ⟨_, rfl⟩, hW, hsame.mono (by decide) (by decide)⟩
      · show SS p e below m T3 14 #[vr a1, vr a2, un] [(.ref wU), (.ref a1)] _
        refine Jvm.RoadKit.acmp (g := (mkF m 14 #[vr a1, vr a2, un] [(.ref wU), (.ref a1)])) X3 hx rfl rfl rfl (pc0 := 14) (pc' := 24) (same := true) rfl (hb hby d2_14) rfl (decide_eq_true (congrArg Value.ref ha14_5)) (by decide) (by decide) ?_
        show SS p e below m T3 24 #[vr a1, vr a2, un] [] _
        refine st6 _ ?_
        show SS p e below m T6 27 #[vr a1, vr a2, un] [(.ref wU)] _
        refine XS.astoreN X6.here hx rfl (hb hby d2_27) rfl rfl (l' := #[vr a1, vr a2, vr wU]) rfl ?_
        show SS p e below m T6 28 #[vr a1, vr a2, vr wU] [] _
        refine XS.goto X6.here hx rfl (pc0 := 28) (pc' := 35) rfl (hb hby d2_28) (by decide) (by decide) ?_
        show SS p e below m T6 35 #[vr a1, vr a2, vr wU] [] _
        refine XS.aloadN X6.here hx rfl (hb hby d2_35) rfl rfl ?_
        show SS p e below m T6 36 #[vr a1, vr a2, vr wU] [(.ref wU)] _
        jvm_step X6.here [X6.here.top, hx, (hb hby d2_36), X6.method', Bd.returns, Value.isRef, FieldType.isReference]
        first | (intro acts; rw [hr _ acts rfl rfl rfl]) | rw [hr _ _ rfl rfl rfl]
        exact Steps.refl _
      · show Q_rm2 Z a1 a2 wM wU h0 n0 _ T6.heap _
        rw [e6]
        exact ⟨(by simp [own_join, ha2_2, ha14_5]), N0, rfl⟩
    · obtain ⟨T7, X7, e7, st7⟩ := getS2 X3 hx hZ hown (host := "") (Or.inl (ww hw 15 rfl)) Via.refl e3 (S_UNKNOWN.ext O0.2) (g := (mkF m 18 #[vr a1, vr a2, un] [(.ref a2)])) rfl (hb hby d2_18)
      have pre8 : ∀ t, Steps p.tables e below (T7.setTop (mkF m 21 #[vr a1, vr a2, un] [(.ref wU), (.ref a2)])) t → Steps p.tables e below (s₁.setTop (entryFrame m #[(.ref a1), (.ref a2)] 3)) t := by
        intro t kt
        refine pre4 t ?_
        show SS p e below m T3 14 #[vr a1, vr a2, un] [(.ref wU), (.ref a1)] _
        refine Jvm.RoadKit.acmp (g := (mkF m 14 #[vr a1, vr a2, un] [(.ref wU), (.ref a1)])) X3 hx rfl rfl rfl (pc0 := 14) (pc' := 17) (same := false) rfl (hb hby d2_14) rfl (decide_eq_false fun q => ha14_5 (Value.ref.inj q)) (by decide) (by decide) ?_
        show SS p e below m T3 17 #[vr a1, vr a2, un] [] _
        refine XS.aloadN X3.here hx rfl (hb hby d2_17) rfl rfl ?_
        show SS p e below m T3 18 #[vr a1, vr a2, un] [(.ref a2)] _
        refine st7 _ ?_
        exact kt
      by_cases ha21_9 : a2 = wU
      · obtain ⟨T10, X10, e10, st10⟩ := getS2 X7 hx hZ hown (host := "") (Or.inl (ww hw 15 rfl)) Via.refl e7 (S_UNKNOWN.ext O0.2) (g := (mkF m 24 #[vr a1, vr a2, un] [])) rfl (hb hby d2_24)
        obtain ⟨fs, hr, hrun, hended, hW, hsame⟩ := X10.leave (v := some (.ref wU)) (fun h => by rw [Bd.returns] at h; cases h)
        refine ⟨_, _, pre8 _ ?_, hrun, hended, _, _, rfl, ?_, ⟨_, rfl⟩, hW, hsame.mono (by decide) (by decide)⟩
        · show SS p e below m T7 21 #[vr a1, vr a2, un] [(.ref wU), (.ref a2)] _
          refine Jvm.RoadKit.acmp (g := (mkF m 21 #[vr a1, vr a2, un] [(.ref wU), (.ref a2)])) X7 hx rfl rfl rfl (pc0 := 21) (pc' := 24) (same := true) rfl (hb hby d2_21) rfl (decide_eq_true (congrArg Value.ref ha21_9)) (by decide) (by decide) ?_
          show SS p e below m T7 24 #[vr a1, vr a2, un] [] _
          refine st10 _ ?_
          show SS p e below m T10 27 #[vr a1, vr a2, un] [(.ref wU)] _
          refine XS.astoreN X10.here hx rfl (hb hby d2_27) rfl rfl (l' := #[vr a1, vr a2, vr wU]) rfl ?_
          show SS p e below m T10 28 #[vr a1, vr a2, vr wU] [] _
          refine XS.goto X10.here hx rfl (pc0 := 28) (pc' := 35) rfl (hb hby d2_28) (by decide) (by decide) ?_
          show SS p e below m T10 35 #[vr a1, vr a2, vr wU] [] _
          refine XS.aloadN X10.here hx rfl (hb hby d2_35) rfl rfl ?_
          show SS p e below m T10 36 #[vr a1, vr a2, vr wU] [(.ref wU)] _
          jvm_step X10.here [X10.here.top, hx, (hb hby d2_36), X10.method', Bd.returns, Value.isRef, FieldType.isReference]
          first | (intro acts; rw [hr _ acts rfl rfl rfl]) | rw [hr _ _ rfl rfl rfl]
          exact Steps.refl _
        · show Q_rm2 Z a1 a2 wM wU h0 n0 _ T10.heap _
          rw [e10]
          exact ⟨(by simp [own_join, ha2_2, ha14_5, ha21_9]), N0, rfl⟩
      · obtain ⟨T11, X11, e11, st11⟩ := getS2 X7 hx hZ hown (host := "") (Or.inl (ww hw 20 rfl)) Via.refl e7 (S_MAYBE.ext O0.2) (g := (mkF m 31 #[vr a1, vr a2, un] [])) rfl (hb hby d2_31)
        obtain ⟨fs, hr, hrun, hended, hW, hsame⟩ := X11.leave (v := some (.ref wM)) (fun h => by rw [Bd.returns] at h; cases h)
        refine ⟨_, _, pre8 _ ?_, hrun, hended, _, _, rfl, ?_, ⟨_, rfl⟩, hW, hsame.mono (by decide) (by decide)⟩
        · show SS p e below m T7 21 #[vr a1, vr a2, un] [(.ref wU), (.ref a2)] _
          refine Jvm.RoadKit.acmp (g := (mkF m 21 #[vr a1, vr a2, un] [(.ref wU), (.ref a2)])) X7 hx rfl rfl rfl (pc0 := 21) (pc' := 31) (same := false) rfl (hb hby d2_21) rfl (decide_eq_false fun q => ha21_9 (Value.ref.inj q)) (by decide) (by decide) ?_
          show SS p e below m T7 31 #[vr a1, vr a2, un] [] _
          refine st11 _ ?_
          show SS p e below m T11 34 #[vr a1, vr a2, un] [(.ref wM)] _
          refine XS.astoreN X11.here hx rfl (hb hby d2_34) rfl rfl (l' := #[vr a1, vr a2, vr wM]) rfl ?_
          show SS p e below m T11 35 #[vr a1, vr a2, vr wM] [] _
          refine XS.aloadN X11.here hx rfl (hb hby d2_35) rfl rfl ?_
          show SS p e below m T11 36 #[vr a1, vr a2, vr wM] [(.ref wM)] _
          jvm_step X11.here [X11.here.top, hx, (hb hby d2_36), X11.method', Bd.returns, Value.isRef, FieldType.isReference]
          first | (intro acts; rw [hr _ acts rfl rfl rfl]) | rw [hr _ _ rfl rfl rfl]
          exact Steps.refl _
        · show Q_rm2 Z a1 a2 wM wU h0 n0 _ T11.heap _
          rw [e11]
          exact ⟨(by simp [own_join, ha2_2, ha14_5, ha21_9]), N0, rfl⟩
theorem pd_0 : parseMethodDescriptor "(I)Lcom/example/sundew/sundew/TransactionContext;" = some ⟨[.int], some (.object "com/example/sundew/sundew/TransactionContext")⟩ := by decide +kernel
theorem pd_1 : parseMethodDescriptor "(Lcom/example/sundew/sundew/TransactionContext;)Lcom/example/sundew/sundew/TransactionContext;" = some ⟨[(.object "com/example/sundew/sundew/TransactionContext")], some (.object "com/example/sundew/sundew/TransactionContext")⟩ := by decide +kernel
theorem ef_rm0 (m : MethodId) (x0 : Int32) (x1 : Int32) : entryFrame m #[(.int x0), (.int x1)] maxLocals = mkF m 0 #[vi x0, vi x1, .unset, .unset, .unset, .unset, .unset, .unset, .unset] [] := by first | (simp [entryFrame, mkF, argsToLocals, Value.category, maxLocals]; done) | rfl
def Q_rm0 (Z : State) (p1 : Int32) (p2 : Int32) (wN : Addr) (wM : Addr) (wT : Addr) (wU : Addr) (h0 : Heap) (n0 : Nat) (v : Option Value) (h : Heap) (L : List Loc) : Prop := (v = some (.int (1 : Int32))) ∧ (Fr n0 L) ∧ (Keep h0 h [])
set_option maxRecDepth 65536 in
set_option maxHeartbeats 40000000 in
theorem rm0 (l : Launch) (Z : State) (a0 : Array Value) (hw : ∀ d ∈ tables_1, d.before a0 Z = true) (ws : List Jvm.Cond) (p1 : Int32) (p2 : Int32) (wN : Addr) (wM : Addr) (wT : Addr) (wU : Addr) (h0 : Heap) (n0 : Nat) (Z0 : n0 ≤ h0.size) (O0 : Old Z n0 h0) (S_NONE : Sta Z Z.heap "com/example/sundew/sundew/TransactionContext" "NONE" "Lcom/example/sundew/sundew/TransactionContext;" (.ref wN)) (S_MAYBE : Sta Z Z.heap "com/example/sundew/sundew/TransactionContext" "MAYBE" "Lcom/example/sundew/sundew/TransactionContext;" (.ref wM)) (S_TRANSACTION : Sta Z Z.heap "com/example/sundew/sundew/TransactionContext" "TRANSACTION" "Lcom/example/sundew/sundew/TransactionContext;" (.ref wT)) (S_UNKNOWN : Sta Z Z.heap "com/example/sundew/sundew/TransactionContext" "UNKNOWN" "Lcom/example/sundew/sundew/TransactionContext;" (.ref wU)) (E_wN : Exa Z Z.heap wN "com/example/sundew/sundew/TransactionContext") (E_wM : Exa Z Z.heap wM "com/example/sundew/sundew/TransactionContext") (E_wT : Exa Z Z.heap wT "com/example/sundew/sundew/TransactionContext") (E_wU : Exa Z Z.heap wU "com/example/sundew/sundew/TransactionContext") (n1 : wN ≠ wM) (n2 : wN ≠ wT) (n3 : wN ≠ wU) (n4 : wM ≠ wT) (n5 : wM ≠ wU) (n6 : wT ≠ wU) :
    MetFree l x (head1 (Jvm.Cond.code x code maxLocals ret :: ws) room_1) (fun a U => a = #[(.int p1), (.int p2)] ∧ Z.Warmed39 U.vm ∧ U.heap = h0) (fun _ _ _ _ _ => True) (fun _ U o U' => ∃ v L, o = .returned v ∧ Q_rm0 Z p1 p2 wN wM wT wU h0 n0 v U'.heap L ∧ FrameEnd U o U' L room_1.cells room_1.slots) := by
  refine MetFree.of_bodySF (plainFor_of_name pn_0) hisR ?_
  intro p e s m args below meth c s₁ Bd hml0 hP hK
  obtain ⟨rfl, hZ, hh⟩ := hP
  have hx := Bd.exec
  have hby := Bd.bytes
  have hml : c.maxLocals = 9 := hml0
  have hown : s.vm.findClass "com/example/sundew/sundew/TransactionContextJoinPinLaw" = some m.cls := findClass_of_methodNamed Bd.named
  have hnm := (name_of_methodNamed Bd.named Bd.method).1
  have X0 : Stand p l e room_1 s m #[(.int p1), (.int p2)] below meth c s₁ [] 0 0 := Stand.of_body Bd
  have e0 : s₁.heap = h0 := by rw [← hh, Bd.state]; rfl
  have N0 := Fr.nil n0
  have KC : Keep h0 h0 [] := Keep.refl h0 _
  have pre0 : ∀ t, Steps p.tables e below (s₁.setTop (mkF m 0 #[vi p1, vi p2, un, un, un, un, un, un, un] [])) t → Steps p.tables e below (s₁.setTop (entryFrame m #[(.int p1), (.int p2)] maxLocals)) t := fun t k => castTop (ef_rm0 m p1 p2) k
  obtain ⟨T1, h1, k1, X1, e1, E1, A1, st1⟩ := newP X0 hx hZ (ww hw 0 rfl) e0 (g := (mkF m 10 #[vi p1, vi p2, vi (p1 &&& (3 : Int32)), vi (p2 &&& (3 : Int32)), un, un, un, un, un] [(.int (16 : Int32))])) rfl (hb hby at_10) rfl (by decide) (cap := 16) (by decide) (by decide) (by decide) (by decide)
  obtain ⟨b1, g1⟩ : ∃ z, z = h0.size := ⟨_, rfl⟩
  rw [← g1] at A1 st1
  have ne_wN_b1 : wN ≠ b1 := Nat.ne_of_lt (Nat.lt_of_lt_of_le (E_wN.ext O0.2).lt (Nat.le_of_eq g1.symm))
  have ne_wM_b1 : wM ≠ b1 := Nat.ne_of_lt (Nat.lt_of_lt_of_le (E_wM.ext O0.2).lt (Nat.le_of_eq g1.symm))
  have ne_wT_b1 : wT ≠ b1 := Nat.ne_of_lt (Nat.lt_of_lt_of_le (E_wT.ext O0.2).lt (Nat.le_of_eq g1.symm))
  have ne_wU_b1 : wU ≠ b1 := Nat.ne_of_lt (Nat.lt_of_lt_of_le (E_wU.ext O0.2).lt (Nat.le_of_eq g1.symm))
  have g_b1 : n0 ≤ b1 := Nat.le_trans (Nat.le_trans Z0 KC.1) (Nat.le_of_eq g1.symm)
  have sz_b1 : h0.size ≤ b1 := Nat.le_trans KC.1 (Nat.le_of_eq g1.symm)
  replace O0 := O0.ext E1
  replace KC := KC.ext E1
  have V_b1 : Arv Z h1 b1 k1 .int (16 : Int32) [(.int (0 : Int32)), (.int (0 : Int32)), (.int (0 : Int32)), (.int (0 : Int32)), (.int (0 : Int32)), (.int (0 : Int32)), (.int (0 : Int32)), (.int (0 : Int32)), (.int (0 : Int32)), (.int (0 : Int32)), (.int (0 : Int32)), (.int (0 : Int32)), (.int (0 : Int32)), (.int (0 : Int32)), (.int (0 : Int32)), (.int (0 : Int32))] (.int (0 : Int32)) := (Arv.new A1 (by decide)).pad (pad_rep [] (.int (0 : Int32)) 16)
  obtain ⟨cl2, Ar2, q2, Sz2, Nn2, Hh2, Gg2⟩ := V_b1
  have hin2 : ¬ ((0 : Int32) < 0 ∨ cl2.slots.size ≤ ((0 : Int32)).toNatClampNeg) := inb_of Sz2 ⟨by decide, by decide⟩
  obtain ⟨T3, h3, X3, e3, W3, st3⟩ := stI X1 hx hZ e1 Ar2 (j := (0 : Int32)) hin2 (g := (mkF m 15 #[vi p1, vi p2, vi (p1 &&& (3 : Int32)), vi (p2 &&& (3 : Int32)), un, un, un, un, un] [(.int (0 : Int32)), (.int (0 : Int32)), (.ref b1), (.ref b1)])) rfl rfl (hb hby at_15)
  have Vn3 := Arv.set Ar2 q2 Sz2 Nn2 Hh2 Gg2 rfl W3 (0) rfl (Nat.le_of_ble_eq_true rfl)
  have N3 := Fr.snoc X3 N0 g_b1
  have Vm3 : Arv Z h3 b1 k1 .int (16 : Int32) [(.int (0 : Int32)), (.int (0 : Int32)), (.int (0 : Int32)), (.int (0 : Int32)), (.int (0 : Int32)), (.int (0 : Int32)), (.int (0 : Int32)), (.int (0 : Int32)), (.int (0 : Int32)), (.int (0 : Int32)), (.int (0 : Int32)), (.int (0 : Int32)), (.int (0 : Int32)), (.int (0 : Int32)), (.int (0 : Int32)), (.int (0 : Int32))] (.int (0 : Int32)) := Vn3
  replace O0 := O0.wr W3 g_b1
  replace KC := KC.wr W3 (Or.inr sz_b1)
  obtain ⟨cl4, Ar4, q4, Sz4, Nn4, Hh4, Gg4⟩ := Vm3
  have hin4 : ¬ ((1 : Int32) < 0 ∨ cl4.slots.size ≤ ((1 : Int32)).toNatClampNeg) := inb_of Sz4 ⟨by decide, by decide⟩
  obtain ⟨T5, h5, X5, e5, W5, st5⟩ := stI X3 hx hZ e3 Ar4 (j := (1 : Int32)) hin4 (g := (mkF m 19 #[vi p1, vi p2, vi (p1 &&& (3 : Int32)), vi (p2 &&& (3 : Int32)), un, un, un, un, un] [(.int (1 : Int32)), (.int (1 : Int32)), (.ref b1), (.ref b1)])) rfl rfl (hb hby at_19)
  have Vn5 := Arv.set Ar4 q4 Sz4 Nn4 Hh4 Gg4 rfl W5 (1) rfl (Nat.le_of_ble_eq_true rfl)
  have N5 := Fr.snoc X5 N3 g_b1
  have Vm5 : Arv Z h5 b1 k1 .int (16 : Int32) [(.int (0 : Int32)), (.int (1 : Int32)), (.int (0 : Int32)), (.int (0 : Int32)), (.int (0 : Int32)), (.int (0 : Int32)), (.int (0 : Int32)), (.int (0 : Int32)), (.int (0 : Int32)), (.int (0 : Int32)), (.int (0 : Int32)), (.int (0 : Int32)), (.int (0 : Int32)), (.int (0 : Int32)), (.int (0 : Int32)), (.int (0 : Int32))] (.int (0 : Int32)) := Vn5
  replace O0 := O0.wr W5 g_b1
  replace KC := KC.wr W5 (Or.inr sz_b1)
  obtain ⟨cl6, Ar6, q6, Sz6, Nn6, Hh6, Gg6⟩ := Vm5
  have hin6 : ¬ ((2 : Int32) < 0 ∨ cl6.slots.size ≤ ((2 : Int32)).toNatClampNeg) := inb_of Sz6 ⟨by decide, by decide⟩
  obtain ⟨T7, h7, X7, e7, W7, st7⟩ := stI X5 hx hZ e5 Ar6 (j := (2 : Int32)) hin6 (g := (mkF m 23 #[vi p1, vi p2, vi (p1 &&& (3 : Int32)), vi (p2 &&& (3 : Int32)), un, un, un, un, un] [(.int (1 : Int32)), (.int (2 : Int32)), (.ref b1), (.ref b1)])) rfl rfl (hb hby at_23)
  have Vn7 := Arv.set Ar6 q6 Sz6 Nn6 Hh6 Gg6 rfl W7 (2) rfl (Nat.le_of_ble_eq_true rfl)
  have N7 := Fr.snoc X7 N5 g_b1
  have Vm7 : Arv Z h7 b1 k1 .int (16 : Int32) [(.int (0 : Int32)), (.int (1 : Int32)), (.int (1 : Int32)), (.int (0 : Int32)), (.int (0 : Int32)), (.int (0 : Int32)), (.int (0 : Int32)), (.int (0 : Int32)), (.int (0 : Int32)), (.int (0 : Int32)), (.int (0 : Int32)), (.int (0 : Int32)), (.int (0 : Int32)), (.int (0 : Int32)), (.int (0 : Int32)), (.int (0 : Int32))] (.int (0 : Int32)) := Vn7
  replace O0 := O0.wr W7 g_b1
  replace KC := KC.wr W7 (Or.inr sz_b1)
  obtain ⟨cl8, Ar8, q8, Sz8, Nn8, Hh8, Gg8⟩ := Vm7
  have hin8 : ¬ ((3 : Int32) < 0 ∨ cl8.slots.size ≤ ((3 : Int32)).toNatClampNeg) := inb_of Sz8 ⟨by decide, by decide⟩
  obtain ⟨T9, h9, X9, e9, W9, st9⟩ := stI X7 hx hZ e7 Ar8 (j := (3 : Int32)) hin8 (g := (mkF m 27 #[vi p1, vi p2, vi (p1 &&& (3 : Int32)), vi (p2 &&& (3 : Int32)), un, un, un, un, un] [(.int (3 : Int32)), (.int (3 : Int32)), (.ref b1), (.ref b1)])) rfl rfl (hb hby at_27)
  have Vn9 := Arv.set Ar8 q8 Sz8 Nn8 Hh8 Gg8 rfl W9 (3) rfl (Nat.le_of_ble_eq_true rfl)
  have N9 := Fr.snoc X9 N7 g_b1
  have Vm9 : Arv Z h9 b1 k1 .int (16 : Int32) [(.int (0 : Int32)), (.int (1 : Int32)), (.int (1 : Int32)), (.int (3 : Int32)), (.int (0 : Int32)), (.int (0 : Int32)), (.int (0 : Int32)), (.int (0 : Int32)), (.int (0 : Int32)), (.int (0 : Int32)), (.int (0 : Int32)), (.int (0 : Int32)), (.int (0 : Int32)), (.int (0 : Int32)), (.int (0 : Int32)), (.int (0 : Int32))] (.int (0 : Int32)) := Vn9
  replace O0 := O0.wr W9 g_b1
  replace KC := KC.wr W9 (Or.inr sz_b1)
  obtain ⟨cl10, Ar10, q10, Sz10, Nn10, Hh10, Gg10⟩ := Vm9
  have hin10 : ¬ ((4 : Int32) < 0 ∨ cl10.slots.size ≤ ((4 : Int32)).toNatClampNeg) := inb_of Sz10 ⟨by decide, by decide⟩
  obtain ⟨T11, h11, X11, e11, W11, st11⟩ := stI X9 hx hZ e9 Ar10 (j := (4 : Int32)) hin10 (g := (mkF m 31 #[vi p1, vi p2, vi (p1 &&& (3 : Int32)), vi (p2 &&& (3 : Int32)), un, un, un, un, un] [(.int (1 : Int32)), (.int (4 : Int32)), (.ref b1), (.ref b1)])) rfl rfl (hb hby at_31)
  have Vn11 := Arv.set Ar10 q10 Sz10 Nn10 Hh10 Gg10 rfl W11 (4) rfl (Nat.le_of_ble_eq_true rfl)
  have N11 := Fr.snoc X11 N9 g_b1
  have Vm11 : Arv Z h11 b1 k1 .int (16 : Int32) [(.int (0 : Int32)), (.int (1 : Int32)), (.int (1 : Int32)), (.int (3 : Int32)), (.int (1 : Int32)), (.int (0 : Int32)), (.int (0 : Int32)), (.int (0 : Int32)), (.int (0 : Int32)), (.int (0 : Int32)), (.int (0 : Int32)), (.int (0 : Int32)), (.int (0 : Int32)), (.int (0 : Int32)), (.int (0 : Int32)), (.int (0 : Int32))] (.int (0 : Int32)) := Vn11
  replace O0 := O0.wr W11 g_b1
  replace KC := KC.wr W11 (Or.inr sz_b1)
  obtain ⟨cl12, Ar12, q12, Sz12, Nn12, Hh12, Gg12⟩ := Vm11
  have hin12 : ¬ ((5 : Int32) < 0 ∨ cl12.slots.size ≤ ((5 : Int32)).toNatClampNeg) := inb_of Sz12 ⟨by decide, by decide⟩
  obtain ⟨T13, h13, X13, e13, W13, st13⟩ := stI X11 hx hZ e11 Ar12 (j := (5 : Int32)) hin12 (g := (mkF m 35 #[vi p1, vi p2, vi (p1 &&& (3 : Int32)), vi (p2 &&& (3 : Int32)), un, un, un, un, un] [(.int (1 : Int32)), (.int (5 : Int32)), (.ref b1), (.ref b1)])) rfl rfl (hb hby at_35)
  have Vn13 := Arv.set Ar12 q12 Sz12 Nn12 Hh12 Gg12 rfl W13 (5) rfl (Nat.le_of_ble_eq_true rfl)
  have N13 := Fr.snoc X13 N11 g_b1
  have Vm13 : Arv Z h13 b1 k1 .int (16 : Int32) [(.int (0 : Int32)), (.int (1 : Int32)), (.int (1 : Int32)), (.int (3 : Int32)), (.int (1 : Int32)), (.int (1 : Int32)), (.int (0 : Int32)), (.int (0 : Int32)), (.int (0 : Int32)), (.int (0 : Int32)), (.int (0 : Int32)), (.int (0 : Int32)), (.int (0 : Int32)), (.int (0 : Int32)), (.int (0 : Int32)), (.int (0 : Int32))] (.int (0 : Int32)) := Vn13
  replace O0 := O0.wr W13 g_b1
  replace KC := KC.wr W13 (Or.inr sz_b1)
  obtain ⟨cl14, Ar14, q14, Sz14, Nn14, Hh14, Gg14⟩ := Vm13
  have hin14 : ¬ ((6 : Int32) < 0 ∨ cl14.slots.size ≤ ((6 : Int32)).toNatClampNeg) := inb_of Sz14 ⟨by decide, by decide⟩
  obtain ⟨T15, h15, X15, e15, W15, st15⟩ := stI X13 hx hZ e13 Ar14 (j := (6 : Int32)) hin14 (g := (mkF m 40 #[vi p1, vi p2, vi (p1 &&& (3 : Int32)), vi (p2 &&& (3 : Int32)), un, un, un, un, un] [(.int (1 : Int32)), (.int (6 : Int32)), (.ref b1), (.ref b1)])) rfl rfl (hb hby at_40)
  have Vn15 := Arv.set Ar14 q14 Sz14 Nn14 Hh14 Gg14 rfl W15 (6) rfl (Nat.le_of_ble_eq_true rfl)
  have N15 := Fr.snoc X15 N13 g_b1
  have Vm15 : Arv Z h15 b1 k1 .int (16 : Int32) [(.int (0 : Int32)), (.int (1 : Int32)), (.int (1 : Int32)), (.int (3 : Int32)), (.int (1 : Int32)), (.int (1 : Int32)), (.int (1 : Int32)), (.int (0 : Int32)), (.int (0 : Int32)), (.int (0 : Int32)), (.int (0 : Int32)), (.int (0 : Int32)), (.int (0 : Int32)), (.int (0 : Int32)), (.int (0 : Int32)), (.int (0 : Int32))] (.int (0 : Int32)) := Vn15
  replace O0 := O0.wr W15 g_b1
  replace KC := KC.wr W15 (Or.inr sz_b1)
  obtain ⟨cl16, Ar16, q16, Sz16, Nn16, Hh16, Gg16⟩ := Vm15
  have hin16 : ¬ ((7 : Int32) < 0 ∨ cl16.slots.size ≤ ((7 : Int32)).toNatClampNeg) := inb_of Sz16 ⟨by decide, by decide⟩
  obtain ⟨T17, h17, X17, e17, W17, st17⟩ := stI X15 hx hZ e15 Ar16 (j := (7 : Int32)) hin16 (g := (mkF m 45 #[vi p1, vi p2, vi (p1 &&& (3 : Int32)), vi (p2 &&& (3 : Int32)), un, un, un, un, un] [(.int (3 : Int32)), (.int (7 : Int32)), (.ref b1), (.ref b1)])) rfl rfl (hb hby at_45)
  have Vn17 := Arv.set Ar16 q16 Sz16 Nn16 Hh16 Gg16 rfl W17 (7) rfl (Nat.le_of_ble_eq_true rfl)
  have N17 := Fr.snoc X17 N15 g_b1
  have Vm17 : Arv Z h17 b1 k1 .int (16 : Int32) [(.int (0 : Int32)), (.int (1 : Int32)), (.int (1 : Int32)), (.int (3 : Int32)), (.int (1 : Int32)), (.int (1 : Int32)), (.int (1 : Int32)), (.int (3 : Int32)), (.int (0 : Int32)), (.int (0 : Int32)), (.int (0 : Int32)), (.int (0 : Int32)), (.int (0 : Int32)), (.int (0 : Int32)), (.int (0 : Int32)), (.int (0 : Int32))] (.int (0 : Int32)) := Vn17
  replace O0 := O0.wr W17 g_b1
  replace KC := KC.wr W17 (Or.inr sz_b1)
  obtain ⟨cl18, Ar18, q18, Sz18, Nn18, Hh18, Gg18⟩ := Vm17
  have hin18 : ¬ ((8 : Int32) < 0 ∨ cl18.slots.size ≤ ((8 : Int32)).toNatClampNeg) := inb_of Sz18 ⟨by decide, by decide⟩
  obtain ⟨T19, h19, X19, e19, W19, st19⟩ := stI X17 hx hZ e17 Ar18 (j := (8 : Int32)) hin18 (g := (mkF m 50 #[vi p1, vi p2, vi (p1 &&& (3 : Int32)), vi (p2 &&& (3 : Int32)), un, un, un, un, un] [(.int (1 : Int32)), (.int (8 : Int32)), (.ref b1), (.ref b1)])) rfl rfl (hb hby at_50)
  have Vn19 := Arv.set Ar18 q18 Sz18 Nn18 Hh18 Gg18 rfl W19 (8) rfl (Nat.le_of_ble_eq_true rfl)
  have N19 := Fr.snoc X19 N17 g_b1
  have Vm19 : Arv Z h19 b1 k1 .int (16 : Int32) [(.int (0 : Int32)), (.int (1 : Int32)), (.int (1 : Int32)), (.int (3 : Int32)), (.int (1 : Int32)), (.int (1 : Int32)), (.int (1 : Int32)), (.int (3 : Int32)), (.int (1 : Int32)), (.int (0 : Int32)), (.int (0 : Int32)), (.int (0 : Int32)), (.int (0 : Int32)), (.int (0 : Int32)), (.int (0 : Int32)), (.int (0 : Int32))] (.int (0 : Int32)) := Vn19
  replace O0 := O0.wr W19 g_b1
  replace KC := KC.wr W19 (Or.inr sz_b1)
  obtain ⟨cl20, Ar20, q20, Sz20, Nn20, Hh20, Gg20⟩ := Vm19
  have hin20 : ¬ ((9 : Int32) < 0 ∨ cl20.slots.size ≤ ((9 : Int32)).toNatClampNeg) := inb_of Sz20 ⟨by decide, by decide⟩
  obtain ⟨T21, h21, X21, e21, W21, st21⟩ := stI X19 hx hZ e19 Ar20 (j := (9 : Int32)) hin20 (g := (mkF m 55 #[vi p1, vi p2, vi (p1 &&& (3 : Int32)), vi (p2 &&& (3 : Int32)), un, un, un, un, un] [(.int (1 : Int32)), (.int (9 : Int32)), (.ref b1), (.ref b1)])) rfl rfl (hb hby at_55)
  have Vn21 := Arv.set Ar20 q20 Sz20 Nn20 Hh20 Gg20 rfl W21 (9) rfl (Nat.le_of_ble_eq_true rfl)
  have N21 := Fr.snoc X21 N19 g_b1
  have Vm21 : Arv Z h21 b1 k1 .int (16 : Int32) [(.int (0 : Int32)), (.int (1 : Int32)), (.int (1 : Int32)), (.int (3 : Int32)), (.int (1 : Int32)), (.int (1 : Int32)), (.int (1 : Int32)), (.int (3 : Int32)), (.int (1 : Int32)), (.int (1 : Int32)), (.int (0 : Int32)), (.int (0 : Int32)), (.int (0 : Int32)), (.int (0 : Int32)), (.int (0 : Int32)), (.int (0 : Int32))] (.int (0 : Int32)) := Vn21
  replace O0 := O0.wr W21 g_b1
  replace KC := KC.wr W21 (Or.inr sz_b1)
  obtain ⟨cl22, Ar22, q22, Sz22, Nn22, Hh22, Gg22⟩ := Vm21
  have hin22 : ¬ ((10 : Int32) < 0 ∨ cl22.slots.size ≤ ((10 : Int32)).toNatClampNeg) := inb_of Sz22 ⟨by decide, by decide⟩
  obtain ⟨T23, h23, X23, e23, W23, st23⟩ := stI X21 hx hZ e21 Ar22 (j := (10 : Int32)) hin22 (g := (mkF m 60 #[vi p1, vi p2, vi (p1 &&& (3 : Int32)), vi (p2 &&& (3 : Int32)), un, un, un, un, un] [(.int (2 : Int32)), (.int (10 : Int32)), (.ref b1), (.ref b1)])) rfl rfl (hb hby at_60)
  have Vn23 := Arv.set Ar22 q22 Sz22 Nn22 Hh22 Gg22 rfl W23 (10) rfl (Nat.le_of_ble_eq_true rfl)
  have N23 := Fr.snoc X23 N21 g_b1
  have Vm23 : Arv Z h23 b1 k1 .int (16 : Int32) [(.int (0 : Int32)), (.int (1 : Int32)), (.int (1 : Int32)), (.int (3 : Int32)), (.int (1 : Int32)), (.int (1 : Int32)), (.int (1 : Int32)), (.int (3 : Int32)), (.int (1 : Int32)), (.int (1 : Int32)), (.int (2 : Int32)), (.int (0 : Int32)), (.int (0 : Int32)), (.int (0 : Int32)), (.int (0 : Int32)), (.int (0 : Int32))] (.int (0 : Int32)) := Vn23
  replace O0 := O0.wr W23 g_b1
  replace KC := KC.wr W23 (Or.inr sz_b1)
  obtain ⟨cl24, Ar24, q24, Sz24, Nn24, Hh24, Gg24⟩ := Vm23
  have hin24 : ¬ ((11 : Int32) < 0 ∨ cl24.slots.size ≤ ((11 : Int32)).toNatClampNeg) := inb_of Sz24 ⟨by decide, by decide⟩
  obtain ⟨T25, h25, X25, e25, W25, st25⟩ := stI X23 hx hZ e23 Ar24 (j := (11 : Int32)) hin24 (g := (mkF m 65 #[vi p1, vi p2, vi (p1 &&& (3 : Int32)), vi (p2 &&& (3 : Int32)), un, un, un, un, un] [(.int (3 : Int32)), (.int (11 : Int32)), (.ref b1), (.ref b1)])) rfl rfl (hb hby at_65)
  have Vn25 := Arv.set Ar24 q24 Sz24 Nn24 Hh24 Gg24 rfl W25 (11) rfl (Nat.le_of_ble_eq_true rfl)
  have N25 := Fr.snoc X25 N23 g_b1
  have Vm25 : Arv Z h25 b1 k1 .int (16 : Int32) [(.int (0 : Int32)), (.int (1 : Int32)), (.int (1 : Int32)), (.int (3 : Int32)), (.int (1 : Int32)), (.int (1 : Int32)), (.int (1 : Int32)), (.int (3 : Int32)), (.int (1 : Int32)), (.int (1 : Int32)), (.int (2 : Int32)), (.int (3 : Int32)), (.int (0 : Int32)), (.int (0 : Int32)), (.int (0 : Int32)), (.int (0 : Int32))] (.int (0 : Int32)) := Vn25
  replace O0 := O0.wr W25 g_b1
  replace KC := KC.wr W25 (Or.inr sz_b1)
  obtain ⟨cl26, Ar26, q26, Sz26, Nn26, Hh26, Gg26⟩ := Vm25
  have hin26 : ¬ ((12 : Int32) < 0 ∨ cl26.slots.size ≤ ((12 : Int32)).toNatClampNeg) := inb_of Sz26 ⟨by decide, by decide⟩
  obtain ⟨T27, h27, X27, e27, W27, st27⟩ := stI X25 hx hZ e25 Ar26 (j := (12 : Int32)) hin26 (g := (mkF m 70 #[vi p1, vi p2, vi (p1 &&& (3 : Int32)), vi (p2 &&& (3 : Int32)), un, un, un, un, un] [(.int (3 : Int32)), (.int (12 : Int32)), (.ref b1), (.ref b1)])) rfl rfl (hb hby at_70)
  have Vn27 := Arv.set Ar26 q26 Sz26 Nn26 Hh26 Gg26 rfl W27 (12) rfl (Nat.le_of_ble_eq_true rfl)
  have N27 := Fr.snoc X27 N25 g_b1
  have Vm27 : Arv Z h27 b1 k1 .int (16 : Int32) [(.int (0 : Int32)), (.int (1 : Int32)), (.int (1 : Int32)), (.int (3 : Int32)), (.int (1 : Int32)), (.int (1 : Int32)), (.int (1 : Int32)), (.int (3 : Int32)), (.int (1 : Int32)), (.int (1 : Int32)), (.int (2 : Int32)), (.int (3 : Int32)), (.int (3 : Int32)), (.int (0 : Int32)), (.int (0 : Int32)), (.int (0 : Int32))] (.int (0 : Int32)) := Vn27
  replace O0 := O0.wr W27 g_b1
  replace KC := KC.wr W27 (Or.inr sz_b1)
  obtain ⟨cl28, Ar28, q28, Sz28, Nn28, Hh28, Gg28⟩ := Vm27
  have hin28 : ¬ ((13 : Int32) < 0 ∨ cl28.slots.size ≤ ((13 : Int32)).toNatClampNeg) := inb_of Sz28 ⟨by decide, by decide⟩
  obtain ⟨T29, h29, X29, e29, W29, st29⟩ := stI X27 hx hZ e27 Ar28 (j := (13 : Int32)) hin28 (g := (mkF m 75 #[vi p1, vi p2, vi (p1 &&& (3 : Int32)), vi (p2 &&& (3 : Int32)), un, un, un, un, un] [(.int (3 : Int32)), (.int (13 : Int32)), (.ref b1), (.ref b1)])) rfl rfl (hb hby at_75)
  have Vn29 := Arv.set Ar28 q28 Sz28 Nn28 Hh28 Gg28 rfl W29 (13) rfl (Nat.le_of_ble_eq_true rfl)
  have N29 := Fr.snoc X29 N27 g_b1
  have Vm29 : Arv Z h29 b1 k1 .int (16 : Int32) [(.int (0 : Int32)), (.int (1 : Int32)), (.int (1 : Int32)), (.int (3 : Int32)), (.int (1 : Int32)), (.int (1 : Int32)), (.int (1 : Int32)), (.int (3 : Int32)), (.int (1 : Int32)), (.int (1 : Int32)), (.int (2 : Int32)), (.int (3 : Int32)), (.int (3 : Int32)), (.int (3 : Int32)), (.int (0 : Int32)), (.int (0 : Int32))] (.int (0 : Int32)) := Vn29
  replace O0 := O0.wr W29 g_b1
  replace KC := KC.wr W29 (Or.inr sz_b1)
  obtain ⟨cl30, Ar30, q30, Sz30, Nn30, Hh30, Gg30⟩ := Vm29
  have hin30 : ¬ ((14 : Int32) < 0 ∨ cl30.slots.size ≤ ((14 : Int32)).toNatClampNeg) := inb_of Sz30 ⟨by decide, by decide⟩
  obtain ⟨T31, h31, X31, e31, W31, st31⟩ := stI X29 hx hZ e29 Ar30 (j := (14 : Int32)) hin30 (g := (mkF m 80 #[vi p1, vi p2, vi (p1 &&& (3 : Int32)), vi (p2 &&& (3 : Int32)), un, un, un, un, un] [(.int (3 : Int32)), (.int (14 : Int32)), (.ref b1), (.ref b1)])) rfl rfl (hb hby at_80)
  have Vn31 := Arv.set Ar30 q30 Sz30 Nn30 Hh30 Gg30 rfl W31 (14) rfl (Nat.le_of_ble_eq_true rfl)
  have N31 := Fr.snoc X31 N29 g_b1
  have Vm31 : Arv Z h31 b1 k1 .int (16 : Int32) [(.int (0 : Int32)), (.int (1 : Int32)), (.int (1 : Int32)), (.int (3 : Int32)), (.int (1 : Int32)), (.int (1 : Int32)), (.int (1 : Int32)), (.int (3 : Int32)), (.int (1 : Int32)), (.int (1 : Int32)), (.int (2 : Int32)), (.int (3 : Int32)), (.int (3 : Int32)), (.int (3 : Int32)), (.int (3 : Int32)), (.int (0 : Int32))] (.int (0 : Int32)) := Vn31
  replace O0 := O0.wr W31 g_b1
  replace KC := KC.wr W31 (Or.inr sz_b1)
  obtain ⟨cl32, Ar32, q32, Sz32, Nn32, Hh32, Gg32⟩ := Vm31
  have hin32 : ¬ ((15 : Int32) < 0 ∨ cl32.slots.size ≤ ((15 : Int32)).toNatClampNeg) := inb_of Sz32 ⟨by decide, by decide⟩
  obtain ⟨T33, h33, X33, e33, W33, st33⟩ := stI X31 hx hZ e31 Ar32 (j := (15 : Int32)) hin32 (g := (mkF m 85 #[vi p1, vi p2, vi (p1 &&& (3 : Int32)), vi (p2 &&& (3 : Int32)), un, un, un, un, un] [(.int (3 : Int32)), (.int (15 : Int32)), (.ref b1), (.ref b1)])) rfl rfl (hb hby at_85)
  have Vn33 := Arv.set Ar32 q32 Sz32 Nn32 Hh32 Gg32 rfl W33 (15) rfl (Nat.le_of_ble_eq_true rfl)
  have N33 := Fr.snoc X33 N31 g_b1
  have Vm33 : Arv Z h33 b1 k1 .int (16 : Int32) [(.int (0 : Int32)), (.int (1 : Int32)), (.int (1 : Int32)), (.int (3 : Int32)), (.int (1 : Int32)), (.int (1 : Int32)), (.int (1 : Int32)), (.int (3 : Int32)), (.int (1 : Int32)), (.int (1 : Int32)), (.int (2 : Int32)), (.int (3 : Int32)), (.int (3 : Int32)), (.int (3 : Int32)), (.int (3 : Int32)), (.int (3 : Int32))] (.int (0 : Int32)) := Vn33
  replace O0 := O0.wr W33 g_b1
  replace KC := KC.wr W33 (Or.inr sz_b1)
  obtain ⟨_, _, ⟨T34, L34, k34, n34⟩, -, X34, ⟨Lc34, hQ34, l34, y34, z34⟩, st34⟩ := Jvm.LawKit.callS X33 hx (y := y_0) hown (mvT hZ (ww hw 1 rfl)) (mvT hZ (ww hw 2 rfl)) (mvT hZ (ww hw 3 rfl)) (mvT hZ (ww hw 4 rfl)) (by decide) (backOf (W := 0) (rm1 l Z a0 hw [] (p1 &&& (3 : Int32)) wN wM wT wU h33 n0 (Nat.le_trans Z0 KC.1) O0 S_NONE S_MAYBE S_TRANSACTION S_UNKNOWN) hZ (ww hw 4 rfl) (ww hw 3 rfl) (by decide) (by decide)) (g := (mkF m 89 #[vi p1, vi p2, vi (p1 &&& (3 : Int32)), vi (p2 &&& (3 : Int32)), vr b1, un, un, un, un] [(.int (p1 &&& (3 : Int32)))])) rfl (by rw [hml]; rfl) (argsL := [(.int (p1 &&& (3 : Int32)))]) (rest := []) (lenOf pd_0 rfl) rfl (by show 2 * 0 + _ ≤ _; exact Nat.le_of_eq rfl) (hb hby at_89) (fun _ _ => ⟨rfl, e33, (by decide : 1 + 0 ≤ _), (by decide : 16 + 0 ≤ _)⟩)
  dsimp only [Pt.U, Pt.locs, Pt.cells, Pt.slots] at X34 l34 y34 z34 st34 hQ34
  subst l34 y34 z34
  obtain ⟨rfl, N34q, e34⟩ := hQ34
  have N34 := Fr.app N33 N34q
  obtain ⟨_, _, ⟨T35, L35, k35, n35⟩, -, X35, ⟨Lc35, hQ35, l35, y35, z35⟩, st35⟩ := Jvm.LawKit.callS X34 hx (y := y_0) hown (mvT hZ (ww hw 1 rfl)) (mvT hZ (ww hw 2 rfl)) (mvT hZ (ww hw 3 rfl)) (mvT hZ (ww hw 4 rfl)) (by decide) (backOf (W := 0) (rm1 l Z a0 hw [] (p2 &&& (3 : Int32)) wN wM wT wU h33 n0 (Nat.le_trans Z0 KC.1) O0 S_NONE S_MAYBE S_TRANSACTION S_UNKNOWN) hZ (ww hw 4 rfl) (ww hw 3 rfl) (by decide) (by decide)) (g := (mkF m 95 #[vi p1, vi p2, vi (p1 &&& (3 : Int32)), vi (p2 &&& (3 : Int32)), vr b1, vr (own_pick wN wM wT wU (p1 &&& (3 : Int32))), un, un, un] [(.int (p2 &&& (3 : Int32)))])) rfl (by rw [hml]; rfl) (argsL := [(.int (p2 &&& (3 : Int32)))]) (rest := []) (lenOf pd_0 rfl) rfl (by show 2 * 0 + _ ≤ _; exact Nat.le_of_eq rfl) (hb hby at_95) (fun _ _ => ⟨rfl, e34, (by decide : 1 + 0 ≤ _), (by decide : 16 + 0 ≤ _)⟩)
  dsimp only [Pt.U, Pt.locs, Pt.cells, Pt.slots] at X35 l35 y35 z35 st35 hQ35
  subst l35 y35 z35
  obtain ⟨rfl, N35q, e35⟩ := hQ35
  have N35 := Fr.app N34 N35q
  obtain ⟨cl36, Ar36, q36, Sz36, Nn36, Hh36, Gg36⟩ := Vm33
  have hin36 : ¬ ((((p1 &&& (3 : Int32)) * (4 : Int32)) + (p2 &&& (3 : Int32))) < 0 ∨ cl36.slots.size ≤ ((((p1 &&& (3 : Int32)) * (4 : Int32)) + (p2 &&& (3 : Int32)))).toNatClampNeg) := inb_of Sz36 (own_in p1 p2)
  have hat36 : cl36.slots[((((p1 &&& (3 : Int32)) * (4 : Int32)) + (p2 &&& (3 : Int32)))).toNatClampNeg]? = some (.int (own_tab (p1 &&& (3 : Int32)) (p2 &&& (3 : Int32)))) := Has.at Hh36 hin36 (own_at p1 p2)
  obtain ⟨_, _, ⟨T37, L37, k37, n37⟩, -, X37, ⟨Lc37, hQ37, l37, y37, z37⟩, st37⟩ := Jvm.LawKit.callS X35 hx (y := y_0) hown (mvT hZ (ww hw 1 rfl)) (mvT hZ (ww hw 2 rfl)) (mvT hZ (ww hw 3 rfl)) (mvT hZ (ww hw 4 rfl)) (by decide) (backOf (W := 0) (rm1 l Z a0 hw [] (own_tab (p1 &&& (3 : Int32)) (p2 &&& (3 : Int32))) wN wM wT wU h33 n0 (Nat.le_trans Z0 KC.1) O0 S_NONE S_MAYBE S_TRANSACTION S_UNKNOWN) hZ (ww hw 4 rfl) (ww hw 3 rfl) (by decide) (by decide)) (g := (mkF m 108 #[vi p1, vi p2, vi (p1 &&& (3 : Int32)), vi (p2 &&& (3 : Int32)), vr b1, vr (own_pick wN wM wT wU (p1 &&& (3 : Int32))), vr (own_pick wN wM wT wU (p2 &&& (3 : Int32))), un, un] [(.int (own_tab (p1 &&& (3 : Int32)) (p2 &&& (3 : Int32))))])) rfl (by rw [hml]; rfl) (argsL := [(.int (own_tab (p1 &&& (3 : Int32)) (p2 &&& (3 : Int32))))]) (rest := []) (lenOf pd_0 rfl) rfl (by show 2 * 0 + _ ≤ _; exact Nat.le_of_eq rfl) (hb hby at_108) (fun _ _ => ⟨rfl, e35, (by decide : 1 + 0 ≤ _), (by decide : 16 + 0 ≤ _)⟩)
  dsimp only [Pt.U, Pt.locs, Pt.cells, Pt.slots] at X37 l37 y37 z37 st37 hQ37
  subst l37 y37 z37
  obtain ⟨rfl, N37q, e37⟩ := hQ37
  have N37 := Fr.app N35 N37q
  have E_recv : Exa Z Z.heap (own_pick wN wM wT wU (p1 &&& (3 : Int32))) "com/example/sundew/sundew/TransactionContext" := own_exa _ E_wN E_wM E_wT E_wU
  obtain ⟨cq38, kq38, q38a, q38b, q38c⟩ := isOf hZ e37 (E_recv.ext O0.2)
  obtain ⟨_, _, ⟨T38, L38, k38, n38⟩, -, X38, ⟨Lc38, hQ38, l38, y38, z38⟩, st38⟩ := X37.virtualBack hx (y := y_1) (z := y_1) hown (mvT hZ (ww hw 10 rfl)) (mvT hZ (ww hw 11 rfl)) (notFace_of_selects (args := #[]) (mvT hZ (ww hw 13 rfl))) (mvT hZ (ww hw 13 rfl)) (mvT hZ (ww hw 12 rfl)) (by decide) (backOf (W := 0) (rm2 l Z a0 hw [] (own_pick wN wM wT wU (p1 &&& (3 : Int32))) (own_pick wN wM wT wU (p2 &&& (3 : Int32))) wM wU h33 n0 (Nat.le_trans Z0 KC.1) O0 S_MAYBE S_UNKNOWN) hZ (ww hw 14 rfl) (ww hw 6 rfl) (by decide) (by decide)) q38a q38c (g := (mkF m 117 #[vi p1, vi p2, vi (p1 &&& (3 : Int32)), vi (p2 &&& (3 : Int32)), vr b1, vr (own_pick wN wM wT wU (p1 &&& (3 : Int32))), vr (own_pick wN wM wT wU (p2 &&& (3 : Int32))), vr (own_pick wN wM wT wU (own_tab (p1 &&& (3 : Int32)) (p2 &&& (3 : Int32)))), un] [(.ref (own_pick wN wM wT wU (p2 &&& (3 : Int32)))), (.ref (own_pick wN wM wT wU (p1 &&& (3 : Int32))))])) rfl (by rw [hml]; rfl) (Steps.refl _) (argsL := [(.ref (own_pick wN wM wT wU (p2 &&& (3 : Int32))))]) (rest := []) (lenOf pd_1 rfl) rfl (by show 2 * 0 + _ ≤ _; exact Nat.le_of_eq rfl) (hb hby at_117) (fun _ _ => ⟨rfl, e37, (by decide : 1 + 0 ≤ _), (by decide : 16 + 0 ≤ _)⟩)
  dsimp only [Pt.U, Pt.locs, Pt.cells, Pt.slots] at X38 l38 y38 z38 st38 hQ38
  subst l38 y38 z38
  obtain ⟨rfl, N38q, e38⟩ := hQ38
  have N38 := Fr.app N37 N38q
  obtain ⟨fs, hr, hrun, hended, hW, hsame⟩ := X38.leave (v := some (.int (1 : Int32))) (fun h => by rw [Bd.returns] at h; cases h)
  refine ⟨_, _, pre0 _ ?_, hrun, hended, _, _, rfl, ?_, ⟨_, rfl⟩, hW, hsame.mono (by decide) (by decide)⟩
  · show SS p e below m s₁ 0 #[vi p1, vi p2, un, un, un, un, un, un, un] [] _
    refine XS.iloadN X0.here hx rfl (hb hby at_0) rfl ?_
    show SS p e below m s₁ 1 #[vi p1, vi p2, un, un, un, un, un, un, un] [(.int p1)] _
    refine XS.iconst X0.here hx rfl (hb hby at_1) ?_
    show SS p e below m s₁ 2 #[vi p1, vi p2, un, un, un, un, un, un, un] [(.int (3 : Int32)), (.int p1)] _
    refine XS.iand X0.here hx rfl (hb hby at_2) rfl ?_
    show SS p e below m s₁ 3 #[vi p1, vi p2, un, un, un, un, un, un, un] [(.int (p1 &&& (3 : Int32)))] _
    refine XS.istoreN X0.here hx rfl (hb hby at_3) rfl (l' := #[vi p1, vi p2, vi (p1 &&& (3 : Int32)), un, un, un, un, un, un]) rfl ?_
    show SS p e below m s₁ 4 #[vi p1, vi p2, vi (p1 &&& (3 : Int32)), un, un, un, un, un, un] [] _
    refine XS.iloadN X0.here hx rfl (hb hby at_4) rfl ?_
    show SS p e below m s₁ 5 #[vi p1, vi p2, vi (p1 &&& (3 : Int32)), un, un, un, un, un, un] [(.int p2)] _
    refine XS.iconst X0.here hx rfl (hb hby at_5) ?_
    show SS p e below m s₁ 6 #[vi p1, vi p2, vi (p1 &&& (3 : Int32)), un, un, un, un, un, un] [(.int (3 : Int32)), (.int p2)] _
    refine XS.iand X0.here hx rfl (hb hby at_6) rfl ?_
    show SS p e below m s₁ 7 #[vi p1, vi p2, vi (p1 &&& (3 : Int32)), un, un, un, un, un, un] [(.int (p2 &&& (3 : Int32)))] _
    refine XS.istoreN X0.here hx rfl (hb hby at_7) rfl (l' := #[vi p1, vi p2, vi (p1 &&& (3 : Int32)), vi (p2 &&& (3 : Int32)), un, un, un, un, un]) rfl ?_
    show SS p e below m s₁ 8 #[vi p1, vi p2, vi (p1 &&& (3 : Int32)), vi (p2 &&& (3 : Int32)), un, un, un, un, un] [] _
    refine XS.bipush X0.here hx rfl (hb hby at_8) ?_
    show SS p e below m s₁ 10 #[vi p1, vi p2, vi (p1 &&& (3 : Int32)), vi (p2 &&& (3 : Int32)), un, un, un, un, un] [(.int (16 : Int32))] _
    refine st1 _ ?_
    show SS p e below m T1 12 #[vi p1, vi p2, vi (p1 &&& (3 : Int32)), vi (p2 &&& (3 : Int32)), un, un, un, un, un] [(.ref b1)] _
    refine XS.dup X1.here hx rfl (hb hby at_12) rfl rfl ?_
    show SS p e below m T1 13 #[vi p1, vi p2, vi (p1 &&& (3 : Int32)), vi (p2 &&& (3 : Int32)), un, un, un, un, un] [(.ref b1), (.ref b1)] _
    refine XS.iconst X1.here hx rfl (hb hby at_13) ?_
    show SS p e below m T1 14 #[vi p1, vi p2, vi (p1 &&& (3 : Int32)), vi (p2 &&& (3 : Int32)), un, un, un, un, un] [(.int (0 : Int32)), (.ref b1), (.ref b1)] _
    refine XS.iconst X1.here hx rfl (hb hby at_14) ?_
    show SS p e below m T1 15 #[vi p1, vi p2, vi (p1 &&& (3 : Int32)), vi (p2 &&& (3 : Int32)), un, un, un, un, un] [(.int (0 : Int32)), (.int (0 : Int32)), (.ref b1), (.ref b1)] _
    refine st3 _ ?_
    show SS p e below m T3 16 #[vi p1, vi p2, vi (p1 &&& (3 : Int32)), vi (p2 &&& (3 : Int32)), un, un, un, un, un] [(.ref b1)] _
    refine XS.dup X3.here hx rfl (hb hby at_16) rfl rfl ?_
    show SS p e below m T3 17 #[vi p1, vi p2, vi (p1 &&& (3 : Int32)), vi (p2 &&& (3 : Int32)), un, un, un, un, un] [(.ref b1), (.ref b1)] _
    refine XS.iconst X3.here hx rfl (hb hby at_17) ?_
    show SS p e below m T3 18 #[vi p1, vi p2, vi (p1 &&& (3 : Int32)), vi (p2 &&& (3 : Int32)), un, un, un, un, un] [(.int (1 : Int32)), (.ref b1), (.ref b1)] _
    refine XS.iconst X3.here hx rfl (hb hby at_18) ?_
    show SS p e below m T3 19 #[vi p1, vi p2, vi (p1 &&& (3 : Int32)), vi (p2 &&& (3 : Int32)), un, un, un, un, un] [(.int (1 : Int32)), (.int (1 : Int32)), (.ref b1), (.ref b1)] _
    refine st5 _ ?_
    show SS p e below m T5 20 #[vi p1, vi p2, vi (p1 &&& (3 : Int32)), vi (p2 &&& (3 : Int32)), un, un, un, un, un] [(.ref b1)] _
    refine XS.dup X5.here hx rfl (hb hby at_20) rfl rfl ?_
    show SS p e below m T5 21 #[vi p1, vi p2, vi (p1 &&& (3 : Int32)), vi (p2 &&& (3 : Int32)), un, un, un, un, un] [(.ref b1), (.ref b1)] _
    refine XS.iconst X5.here hx rfl (hb hby at_21) ?_
    show SS p e below m T5 22 #[vi p1, vi p2, vi (p1 &&& (3 : Int32)), vi (p2 &&& (3 : Int32)), un, un, un, un, un] [(.int (2 : Int32)), (.ref b1), (.ref b1)] _
    refine XS.iconst X5.here hx rfl (hb hby at_22) ?_
    show SS p e below m T5 23 #[vi p1, vi p2, vi (p1 &&& (3 : Int32)), vi (p2 &&& (3 : Int32)), un, un, un, un, un] [(.int (1 : Int32)), (.int (2 : Int32)), (.ref b1), (.ref b1)] _
    refine st7 _ ?_
    show SS p e below m T7 24 #[vi p1, vi p2, vi (p1 &&& (3 : Int32)), vi (p2 &&& (3 : Int32)), un, un, un, un, un] [(.ref b1)] _
    refine XS.dup X7.here hx rfl (hb hby at_24) rfl rfl ?_
    show SS p e below m T7 25 #[vi p1, vi p2, vi (p1 &&& (3 : Int32)), vi (p2 &&& (3 : Int32)), un, un, un, un, un] [(.ref b1), (.ref b1)] _
    refine XS.iconst X7.here hx rfl (hb hby at_25) ?_
    show SS p e below m T7 26 #[vi p1, vi p2, vi (p1 &&& (3 : Int32)), vi (p2 &&& (3 : Int32)), un, un, un, un, un] [(.int (3 : Int32)), (.ref b1), (.ref b1)] _
    refine XS.iconst X7.here hx rfl (hb hby at_26) ?_
    show SS p e below m T7 27 #[vi p1, vi p2, vi (p1 &&& (3 : Int32)), vi (p2 &&& (3 : Int32)), un, un, un, un, un] [(.int (3 : Int32)), (.int (3 : Int32)), (.ref b1), (.ref b1)] _
    refine st9 _ ?_
    show SS p e below m T9 28 #[vi p1, vi p2, vi (p1 &&& (3 : Int32)), vi (p2 &&& (3 : Int32)), un, un, un, un, un] [(.ref b1)] _
    refine XS.dup X9.here hx rfl (hb hby at_28) rfl rfl ?_
    show SS p e below m T9 29 #[vi p1, vi p2, vi (p1 &&& (3 : Int32)), vi (p2 &&& (3 : Int32)), un, un, un, un, un] [(.ref b1), (.ref b1)] _
    refine XS.iconst X9.here hx rfl (hb hby at_29) ?_
    show SS p e below m T9 30 #[vi p1, vi p2, vi (p1 &&& (3 : Int32)), vi (p2 &&& (3 : Int32)), un, un, un, un, un] [(.int (4 : Int32)), (.ref b1), (.ref b1)] _
    refine XS.iconst X9.here hx rfl (hb hby at_30) ?_
    show SS p e below m T9 31 #[vi p1, vi p2, vi (p1 &&& (3 : Int32)), vi (p2 &&& (3 : Int32)), un, un, un, un, un] [(.int (1 : Int32)), (.int (4 : Int32)), (.ref b1), (.ref b1)] _
    refine st11 _ ?_
    show SS p e below m T11 32 #[vi p1, vi p2, vi (p1 &&& (3 : Int32)), vi (p2 &&& (3 : Int32)), un, un, un, un, un] [(.ref b1)] _
    refine XS.dup X11.here hx rfl (hb hby at_32) rfl rfl ?_
    show SS p e below m T11 33 #[vi p1, vi p2, vi (p1 &&& (3 : Int32)), vi (p2 &&& (3 : Int32)), un, un, un, un, un] [(.ref b1), (.ref b1)] _
    refine XS.iconst X11.here hx rfl (hb hby at_33) ?_
    show SS p e below m T11 34 #[vi p1, vi p2, vi (p1 &&& (3 : Int32)), vi (p2 &&& (3 : Int32)), un, un, un, un, un] [(.int (5 : Int32)), (.ref b1), (.ref b1)] _
    refine XS.iconst X11.here hx rfl (hb hby at_34) ?_
    show SS p e below m T11 35 #[vi p1, vi p2, vi (p1 &&& (3 : Int32)), vi (p2 &&& (3 : Int32)), un, un, un, un, un] [(.int (1 : Int32)), (.int (5 : Int32)), (.ref b1), (.ref b1)] _
    refine st13 _ ?_
    show SS p e below m T13 36 #[vi p1, vi p2, vi (p1 &&& (3 : Int32)), vi (p2 &&& (3 : Int32)), un, un, un, un, un] [(.ref b1)] _
    refine XS.dup X13.here hx rfl (hb hby at_36) rfl rfl ?_
    show SS p e below m T13 37 #[vi p1, vi p2, vi (p1 &&& (3 : Int32)), vi (p2 &&& (3 : Int32)), un, un, un, un, un] [(.ref b1), (.ref b1)] _
    refine XS.bipush X13.here hx rfl (hb hby at_37) ?_
    show SS p e below m T13 39 #[vi p1, vi p2, vi (p1 &&& (3 : Int32)), vi (p2 &&& (3 : Int32)), un, un, un, un, un] [(.int (6 : Int32)), (.ref b1), (.ref b1)] _
    refine XS.iconst X13.here hx rfl (hb hby at_39) ?_
    show SS p e below m T13 40 #[vi p1, vi p2, vi (p1 &&& (3 : Int32)), vi (p2 &&& (3 : Int32)), un, un, un, un, un] [(.int (1 : Int32)), (.int (6 : Int32)), (.ref b1), (.ref b1)] _
    refine st15 _ ?_
    show SS p e below m T15 41 #[vi p1, vi p2, vi (p1 &&& (3 : Int32)), vi (p2 &&& (3 : Int32)), un, un, un, un, un] [(.ref b1)] _
    refine XS.dup X15.here hx rfl (hb hby at_41) rfl rfl ?_
    show SS p e below m T15 42 #[vi p1, vi p2, vi (p1 &&& (3 : Int32)), vi (p2 &&& (3 : Int32)), un, un, un, un, un] [(.ref b1), (.ref b1)] _
    refine XS.bipush X15.here hx rfl (hb hby at_42) ?_
    show SS p e below m T15 44 #[vi p1, vi p2, vi (p1 &&& (3 : Int32)), vi (p2 &&& (3 : Int32)), un, un, un, un, un] [(.int (7 : Int32)), (.ref b1), (.ref b1)] _
    refine XS.iconst X15.here hx rfl (hb hby at_44) ?_
    show SS p e below m T15 45 #[vi p1, vi p2, vi (p1 &&& (3 : Int32)), vi (p2 &&& (3 : Int32)), un, un, un, un, un] [(.int (3 : Int32)), (.int (7 : Int32)), (.ref b1), (.ref b1)] _
    refine st17 _ ?_
    show SS p e below m T17 46 #[vi p1, vi p2, vi (p1 &&& (3 : Int32)), vi (p2 &&& (3 : Int32)), un, un, un, un, un] [(.ref b1)] _
    refine XS.dup X17.here hx rfl (hb hby at_46) rfl rfl ?_
    show SS p e below m T17 47 #[vi p1, vi p2, vi (p1 &&& (3 : Int32)), vi (p2 &&& (3 : Int32)), un, un, un, un, un] [(.ref b1), (.ref b1)] _
    refine XS.bipush X17.here hx rfl (hb hby at_47) ?_
    show SS p e below m T17 49 #[vi p1, vi p2, vi (p1 &&& (3 : Int32)), vi (p2 &&& (3 : Int32)), un, un, un, un, un] [(.int (8 : Int32)), (.ref b1), (.ref b1)] _
    refine XS.iconst X17.here hx rfl (hb hby at_49) ?_
    show SS p e below m T17 50 #[vi p1, vi p2, vi (p1 &&& (3 : Int32)), vi (p2 &&& (3 : Int32)), un, un, un, un, un] [(.int (1 : Int32)), (.int (8 : Int32)), (.ref b1), (.ref b1)] _
    refine st19 _ ?_
    show SS p e below m T19 51 #[vi p1, vi p2, vi (p1 &&& (3 : Int32)), vi (p2 &&& (3 : Int32)), un, un, un, un, un] [(.ref b1)] _
    refine XS.dup X19.here hx rfl (hb hby at_51) rfl rfl ?_
    show SS p e below m T19 52 #[vi p1, vi p2, vi (p1 &&& (3 : Int32)), vi (p2 &&& (3 : Int32)), un, un, un, un, un] [(.ref b1), (.ref b1)] _
    refine XS.bipush X19.here hx rfl (hb hby at_52) ?_
    show SS p e below m T19 54 #[vi p1, vi p2, vi (p1 &&& (3 : Int32)), vi (p2 &&& (3 : Int32)), un, un, un, un, un] [(.int (9 : Int32)), (.ref b1), (.ref b1)] _
    refine XS.iconst X19.here hx rfl (hb hby at_54) ?_
    show SS p e below m T19 55 #[vi p1, vi p2, vi (p1 &&& (3 : Int32)), vi (p2 &&& (3 : Int32)), un, un, un, un, un] [(.int (1 : Int32)), (.int (9 : Int32)), (.ref b1), (.ref b1)] _
    refine st21 _ ?_
    show SS p e below m T21 56 #[vi p1, vi p2, vi (p1 &&& (3 : Int32)), vi (p2 &&& (3 : Int32)), un, un, un, un, un] [(.ref b1)] _
    refine XS.dup X21.here hx rfl (hb hby at_56) rfl rfl ?_
    show SS p e below m T21 57 #[vi p1, vi p2, vi (p1 &&& (3 : Int32)), vi (p2 &&& (3 : Int32)), un, un, un, un, un] [(.ref b1), (.ref b1)] _
    refine XS.bipush X21.here hx rfl (hb hby at_57) ?_
    show SS p e below m T21 59 #[vi p1, vi p2, vi (p1 &&& (3 : Int32)), vi (p2 &&& (3 : Int32)), un, un, un, un, un] [(.int (10 : Int32)), (.ref b1), (.ref b1)] _
    refine XS.iconst X21.here hx rfl (hb hby at_59) ?_
    show SS p e below m T21 60 #[vi p1, vi p2, vi (p1 &&& (3 : Int32)), vi (p2 &&& (3 : Int32)), un, un, un, un, un] [(.int (2 : Int32)), (.int (10 : Int32)), (.ref b1), (.ref b1)] _
    refine st23 _ ?_
    show SS p e below m T23 61 #[vi p1, vi p2, vi (p1 &&& (3 : Int32)), vi (p2 &&& (3 : Int32)), un, un, un, un, un] [(.ref b1)] _
    refine XS.dup X23.here hx rfl (hb hby at_61) rfl rfl ?_
    show SS p e below m T23 62 #[vi p1, vi p2, vi (p1 &&& (3 : Int32)), vi (p2 &&& (3 : Int32)), un, un, un, un, un] [(.ref b1), (.ref b1)] _
    refine XS.bipush X23.here hx rfl (hb hby at_62) ?_
    show SS p e below m T23 64 #[vi p1, vi p2, vi (p1 &&& (3 : Int32)), vi (p2 &&& (3 : Int32)), un, un, un, un, un] [(.int (11 : Int32)), (.ref b1), (.ref b1)] _
    refine XS.iconst X23.here hx rfl (hb hby at_64) ?_
    show SS p e below m T23 65 #[vi p1, vi p2, vi (p1 &&& (3 : Int32)), vi (p2 &&& (3 : Int32)), un, un, un, un, un] [(.int (3 : Int32)), (.int (11 : Int32)), (.ref b1), (.ref b1)] _
    refine st25 _ ?_
    show SS p e below m T25 66 #[vi p1, vi p2, vi (p1 &&& (3 : Int32)), vi (p2 &&& (3 : Int32)), un, un, un, un, un] [(.ref b1)] _
    refine XS.dup X25.here hx rfl (hb hby at_66) rfl rfl ?_
    show SS p e below m T25 67 #[vi p1, vi p2, vi (p1 &&& (3 : Int32)), vi (p2 &&& (3 : Int32)), un, un, un, un, un] [(.ref b1), (.ref b1)] _
    refine XS.bipush X25.here hx rfl (hb hby at_67) ?_
    show SS p e below m T25 69 #[vi p1, vi p2, vi (p1 &&& (3 : Int32)), vi (p2 &&& (3 : Int32)), un, un, un, un, un] [(.int (12 : Int32)), (.ref b1), (.ref b1)] _
    refine XS.iconst X25.here hx rfl (hb hby at_69) ?_
    show SS p e below m T25 70 #[vi p1, vi p2, vi (p1 &&& (3 : Int32)), vi (p2 &&& (3 : Int32)), un, un, un, un, un] [(.int (3 : Int32)), (.int (12 : Int32)), (.ref b1), (.ref b1)] _
    refine st27 _ ?_
    show SS p e below m T27 71 #[vi p1, vi p2, vi (p1 &&& (3 : Int32)), vi (p2 &&& (3 : Int32)), un, un, un, un, un] [(.ref b1)] _
    refine XS.dup X27.here hx rfl (hb hby at_71) rfl rfl ?_
    show SS p e below m T27 72 #[vi p1, vi p2, vi (p1 &&& (3 : Int32)), vi (p2 &&& (3 : Int32)), un, un, un, un, un] [(.ref b1), (.ref b1)] _
    refine XS.bipush X27.here hx rfl (hb hby at_72) ?_
    show SS p e below m T27 74 #[vi p1, vi p2, vi (p1 &&& (3 : Int32)), vi (p2 &&& (3 : Int32)), un, un, un, un, un] [(.int (13 : Int32)), (.ref b1), (.ref b1)] _
    refine XS.iconst X27.here hx rfl (hb hby at_74) ?_
    show SS p e below m T27 75 #[vi p1, vi p2, vi (p1 &&& (3 : Int32)), vi (p2 &&& (3 : Int32)), un, un, un, un, un] [(.int (3 : Int32)), (.int (13 : Int32)), (.ref b1), (.ref b1)] _
    refine st29 _ ?_
    show SS p e below m T29 76 #[vi p1, vi p2, vi (p1 &&& (3 : Int32)), vi (p2 &&& (3 : Int32)), un, un, un, un, un] [(.ref b1)] _
    refine XS.dup X29.here hx rfl (hb hby at_76) rfl rfl ?_
    show SS p e below m T29 77 #[vi p1, vi p2, vi (p1 &&& (3 : Int32)), vi (p2 &&& (3 : Int32)), un, un, un, un, un] [(.ref b1), (.ref b1)] _
    refine XS.bipush X29.here hx rfl (hb hby at_77) ?_
    show SS p e below m T29 79 #[vi p1, vi p2, vi (p1 &&& (3 : Int32)), vi (p2 &&& (3 : Int32)), un, un, un, un, un] [(.int (14 : Int32)), (.ref b1), (.ref b1)] _
    refine XS.iconst X29.here hx rfl (hb hby at_79) ?_
    show SS p e below m T29 80 #[vi p1, vi p2, vi (p1 &&& (3 : Int32)), vi (p2 &&& (3 : Int32)), un, un, un, un, un] [(.int (3 : Int32)), (.int (14 : Int32)), (.ref b1), (.ref b1)] _
    refine st31 _ ?_
    show SS p e below m T31 81 #[vi p1, vi p2, vi (p1 &&& (3 : Int32)), vi (p2 &&& (3 : Int32)), un, un, un, un, un] [(.ref b1)] _
    refine XS.dup X31.here hx rfl (hb hby at_81) rfl rfl ?_
    show SS p e below m T31 82 #[vi p1, vi p2, vi (p1 &&& (3 : Int32)), vi (p2 &&& (3 : Int32)), un, un, un, un, un] [(.ref b1), (.ref b1)] _
    refine XS.bipush X31.here hx rfl (hb hby at_82) ?_
    show SS p e below m T31 84 #[vi p1, vi p2, vi (p1 &&& (3 : Int32)), vi (p2 &&& (3 : Int32)), un, un, un, un, un] [(.int (15 : Int32)), (.ref b1), (.ref b1)] _
    refine XS.iconst X31.here hx rfl (hb hby at_84) ?_
    show SS p e below m T31 85 #[vi p1, vi p2, vi (p1 &&& (3 : Int32)), vi (p2 &&& (3 : Int32)), un, un, un, un, un] [(.int (3 : Int32)), (.int (15 : Int32)), (.ref b1), (.ref b1)] _
    refine st33 _ ?_
    show SS p e below m T33 86 #[vi p1, vi p2, vi (p1 &&& (3 : Int32)), vi (p2 &&& (3 : Int32)), un, un, un, un, un] [(.ref b1)] _
    refine XS.astore X33.here hx rfl (hb hby at_86) rfl rfl (l' := #[vi p1, vi p2, vi (p1 &&& (3 : Int32)), vi (p2 &&& (3 : Int32)), vr b1, un, un, un, un]) rfl ?_
    show SS p e below m T33 88 #[vi p1, vi p2, vi (p1 &&& (3 : Int32)), vi (p2 &&& (3 : Int32)), vr b1, un, un, un, un] [] _
    refine XS.iloadN X33.here hx rfl (hb hby at_88) rfl ?_
    show SS p e below m T33 89 #[vi p1, vi p2, vi (p1 &&& (3 : Int32)), vi (p2 &&& (3 : Int32)), vr b1, un, un, un, un] [(.int (p1 &&& (3 : Int32)))] _
    refine st34 _ ?_
    show SS p e below m T34 92 #[vi p1, vi p2, vi (p1 &&& (3 : Int32)), vi (p2 &&& (3 : Int32)), vr b1, un, un, un, un] [(.ref (own_pick wN wM wT wU (p1 &&& (3 : Int32))))] _
    refine XS.astore X34.here hx rfl (hb hby at_92) rfl rfl (l' := #[vi p1, vi p2, vi (p1 &&& (3 : Int32)), vi (p2 &&& (3 : Int32)), vr b1, vr (own_pick wN wM wT wU (p1 &&& (3 : Int32))), un, un, un]) rfl ?_
    show SS p e below m T34 94 #[vi p1, vi p2, vi (p1 &&& (3 : Int32)), vi (p2 &&& (3 : Int32)), vr b1, vr (own_pick wN wM wT wU (p1 &&& (3 : Int32))), un, un, un] [] _
    refine XS.iloadN X34.here hx rfl (hb hby at_94) rfl ?_
    show SS p e below m T34 95 #[vi p1, vi p2, vi (p1 &&& (3 : Int32)), vi (p2 &&& (3 : Int32)), vr b1, vr (own_pick wN wM wT wU (p1 &&& (3 : Int32))), un, un, un] [(.int (p2 &&& (3 : Int32)))] _
    refine st35 _ ?_
    show SS p e below m T35 98 #[vi p1, vi p2, vi (p1 &&& (3 : Int32)), vi (p2 &&& (3 : Int32)), vr b1, vr (own_pick wN wM wT wU (p1 &&& (3 : Int32))), un, un, un] [(.ref (own_pick wN wM wT wU (p2 &&& (3 : Int32))))] _
    refine XS.astore X35.here hx rfl (hb hby at_98) rfl rfl (l' := #[vi p1, vi p2, vi (p1 &&& (3 : Int32)), vi (p2 &&& (3 : Int32)), vr b1, vr (own_pick wN wM wT wU (p1 &&& (3 : Int32))), vr (own_pick wN wM wT wU (p2 &&& (3 : Int32))), un, un]) rfl ?_
    show SS p e below m T35 100 #[vi p1, vi p2, vi (p1 &&& (3 : Int32)), vi (p2 &&& (3 : Int32)), vr b1, vr (own_pick wN wM wT wU (p1 &&& (3 : Int32))), vr (own_pick wN wM wT wU (p2 &&& (3 : Int32))), un, un] [] _
    refine XS.aload X35.here hx rfl (hb hby at_100) rfl rfl ?_
    show SS p e below m T35 102 #[vi p1, vi p2, vi (p1 &&& (3 : Int32)), vi (p2 &&& (3 : Int32)), vr b1, vr (own_pick wN wM wT wU (p1 &&& (3 : Int32))), vr (own_pick wN wM wT wU (p2 &&& (3 : Int32))), un, un] [(.ref b1)] _
    refine XS.iloadN X35.here hx rfl (hb hby at_102) rfl ?_
    show SS p e below m T35 103 #[vi p1, vi p2, vi (p1 &&& (3 : Int32)), vi (p2 &&& (3 : Int32)), vr b1, vr (own_pick wN wM wT wU (p1 &&& (3 : Int32))), vr (own_pick wN wM wT wU (p2 &&& (3 : Int32))), un, un] [(.int (p1 &&& (3 : Int32))), (.ref b1)] _
    refine XS.iconst X35.here hx rfl (hb hby at_103) ?_
    show SS p e below m T35 104 #[vi p1, vi p2, vi (p1 &&& (3 : Int32)), vi (p2 &&& (3 : Int32)), vr b1, vr (own_pick wN wM wT wU (p1 &&& (3 : Int32))), vr (own_pick wN wM wT wU (p2 &&& (3 : Int32))), un, un] [(.int (4 : Int32)), (.int (p1 &&& (3 : Int32))), (.ref b1)] _
    refine XS.imul X35.here hx rfl (hb hby at_104) rfl ?_
    show SS p e below m T35 105 #[vi p1, vi p2, vi (p1 &&& (3 : Int32)), vi (p2 &&& (3 : Int32)), vr b1, vr (own_pick wN wM wT wU (p1 &&& (3 : Int32))), vr (own_pick wN wM wT wU (p2 &&& (3 : Int32))), un, un] [(.int ((p1 &&& (3 : Int32)) * (4 : Int32))), (.ref b1)] _
    refine XS.iloadN X35.here hx rfl (hb hby at_105) rfl ?_
    show SS p e below m T35 106 #[vi p1, vi p2, vi (p1 &&& (3 : Int32)), vi (p2 &&& (3 : Int32)), vr b1, vr (own_pick wN wM wT wU (p1 &&& (3 : Int32))), vr (own_pick wN wM wT wU (p2 &&& (3 : Int32))), un, un] [(.int (p2 &&& (3 : Int32))), (.int ((p1 &&& (3 : Int32)) * (4 : Int32))), (.ref b1)] _
    refine XS.iadd X35.here hx rfl (hb hby at_106) rfl ?_
    show SS p e below m T35 107 #[vi p1, vi p2, vi (p1 &&& (3 : Int32)), vi (p2 &&& (3 : Int32)), vr b1, vr (own_pick wN wM wT wU (p1 &&& (3 : Int32))), vr (own_pick wN wM wT wU (p2 &&& (3 : Int32))), un, un] [(.int (((p1 &&& (3 : Int32)) * (4 : Int32)) + (p2 &&& (3 : Int32)))), (.ref b1)] _
    refine X35.iaload hx (j := (((p1 &&& (3 : Int32)) * (4 : Int32)) + (p2 &&& (3 : Int32)))) (v := (.int (own_tab (p1 &&& (3 : Int32)) (p2 &&& (3 : Int32))))) (by rw [e35]; exact Ar36.1) (State.isArrayOf_alike hZ.alike Ar36.2.1) Ar36.2.2 hin36 hat36 (g := (mkF m 107 #[vi p1, vi p2, vi (p1 &&& (3 : Int32)), vi (p2 &&& (3 : Int32)), vr b1, vr (own_pick wN wM wT wU (p1 &&& (3 : Int32))), vr (own_pick wN wM wT wU (p2 &&& (3 : Int32))), un, un] [(.int (((p1 &&& (3 : Int32)) * (4 : Int32)) + (p2 &&& (3 : Int32)))), (.ref b1)])) rfl rfl (hb hby at_107) _ ?_
    show SS p e below m T35 108 #[vi p1, vi p2, vi (p1 &&& (3 : Int32)), vi (p2 &&& (3 : Int32)), vr b1, vr (own_pick wN wM wT wU (p1 &&& (3 : Int32))), vr (own_pick wN wM wT wU (p2 &&& (3 : Int32))), un, un] [(.int (own_tab (p1 &&& (3 : Int32)) (p2 &&& (3 : Int32))))] _
    refine st37 _ ?_
    show SS p e below m T37 111 #[vi p1, vi p2, vi (p1 &&& (3 : Int32)), vi (p2 &&& (3 : Int32)), vr b1, vr (own_pick wN wM wT wU (p1 &&& (3 : Int32))), vr (own_pick wN wM wT wU (p2 &&& (3 : Int32))), un, un] [(.ref (own_pick wN wM wT wU (own_tab (p1 &&& (3 : Int32)) (p2 &&& (3 : Int32)))))] _
    refine XS.astore X37.here hx rfl (hb hby at_111) rfl rfl (l' := #[vi p1, vi p2, vi (p1 &&& (3 : Int32)), vi (p2 &&& (3 : Int32)), vr b1, vr (own_pick wN wM wT wU (p1 &&& (3 : Int32))), vr (own_pick wN wM wT wU (p2 &&& (3 : Int32))), vr (own_pick wN wM wT wU (own_tab (p1 &&& (3 : Int32)) (p2 &&& (3 : Int32)))), un]) rfl ?_
    show SS p e below m T37 113 #[vi p1, vi p2, vi (p1 &&& (3 : Int32)), vi (p2 &&& (3 : Int32)), vr b1, vr (own_pick wN wM wT wU (p1 &&& (3 : Int32))), vr (own_pick wN wM wT wU (p2 &&& (3 : Int32))), vr (own_pick wN wM wT wU (own_tab (p1 &&& (3 : Int32)) (p2 &&& (3 : Int32)))), un] [] _
    refine XS.aload X37.here hx rfl (hb hby at_113) rfl rfl ?_
    show SS p e below m T37 115 #[vi p1, vi p2, vi (p1 &&& (3 : Int32)), vi (p2 &&& (3 : Int32)), vr b1, vr (own_pick wN wM wT wU (p1 &&& (3 : Int32))), vr (own_pick wN wM wT wU (p2 &&& (3 : Int32))), vr (own_pick wN wM wT wU (own_tab (p1 &&& (3 : Int32)) (p2 &&& (3 : Int32)))), un] [(.ref (own_pick wN wM wT wU (p1 &&& (3 : Int32))))] _
    refine XS.aload X37.here hx rfl (hb hby at_115) rfl rfl ?_
    show SS p e below m T37 117 #[vi p1, vi p2, vi (p1 &&& (3 : Int32)), vi (p2 &&& (3 : Int32)), vr b1, vr (own_pick wN wM wT wU (p1 &&& (3 : Int32))), vr (own_pick wN wM wT wU (p2 &&& (3 : Int32))), vr (own_pick wN wM wT wU (own_tab (p1 &&& (3 : Int32)) (p2 &&& (3 : Int32)))), un] [(.ref (own_pick wN wM wT wU (p2 &&& (3 : Int32)))), (.ref (own_pick wN wM wT wU (p1 &&& (3 : Int32))))] _
    refine st38.trans ?_
    show SS p e below m T38 120 #[vi p1, vi p2, vi (p1 &&& (3 : Int32)), vi (p2 &&& (3 : Int32)), vr b1, vr (own_pick wN wM wT wU (p1 &&& (3 : Int32))), vr (own_pick wN wM wT wU (p2 &&& (3 : Int32))), vr (own_pick wN wM wT wU (own_tab (p1 &&& (3 : Int32)) (p2 &&& (3 : Int32)))), un] [(.ref (own_join wM wU (own_pick wN wM wT wU (p1 &&& (3 : Int32))) (own_pick wN wM wT wU (p2 &&& (3 : Int32)))))] _
    refine XS.astore X38.here hx rfl (hb hby at_120) rfl rfl (l' := #[vi p1, vi p2, vi (p1 &&& (3 : Int32)), vi (p2 &&& (3 : Int32)), vr b1, vr (own_pick wN wM wT wU (p1 &&& (3 : Int32))), vr (own_pick wN wM wT wU (p2 &&& (3 : Int32))), vr (own_pick wN wM wT wU (own_tab (p1 &&& (3 : Int32)) (p2 &&& (3 : Int32)))), vr (own_join wM wU (own_pick wN wM wT wU (p1 &&& (3 : Int32))) (own_pick wN wM wT wU (p2 &&& (3 : Int32))))]) rfl ?_
    show SS p e below m T38 122 #[vi p1, vi p2, vi (p1 &&& (3 : Int32)), vi (p2 &&& (3 : Int32)), vr b1, vr (own_pick wN wM wT wU (p1 &&& (3 : Int32))), vr (own_pick wN wM wT wU (p2 &&& (3 : Int32))), vr (own_pick wN wM wT wU (own_tab (p1 &&& (3 : Int32)) (p2 &&& (3 : Int32)))), vr (own_join wM wU (own_pick wN wM wT wU (p1 &&& (3 : Int32))) (own_pick wN wM wT wU (p2 &&& (3 : Int32))))] [] _
    refine XS.aload X38.here hx rfl (hb hby at_122) rfl rfl ?_
    show SS p e below m T38 124 #[vi p1, vi p2, vi (p1 &&& (3 : Int32)), vi (p2 &&& (3 : Int32)), vr b1, vr (own_pick wN wM wT wU (p1 &&& (3 : Int32))), vr (own_pick wN wM wT wU (p2 &&& (3 : Int32))), vr (own_pick wN wM wT wU (own_tab (p1 &&& (3 : Int32)) (p2 &&& (3 : Int32)))), vr (own_join wM wU (own_pick wN wM wT wU (p1 &&& (3 : Int32))) (own_pick wN wM wT wU (p2 &&& (3 : Int32))))] [(.ref (own_join wM wU (own_pick wN wM wT wU (p1 &&& (3 : Int32))) (own_pick wN wM wT wU (p2 &&& (3 : Int32)))))] _
    refine XS.aload X38.here hx rfl (hb hby at_124) rfl rfl ?_
    show SS p e below m T38 126 #[vi p1, vi p2, vi (p1 &&& (3 : Int32)), vi (p2 &&& (3 : Int32)), vr b1, vr (own_pick wN wM wT wU (p1 &&& (3 : Int32))), vr (own_pick wN wM wT wU (p2 &&& (3 : Int32))), vr (own_pick wN wM wT wU (own_tab (p1 &&& (3 : Int32)) (p2 &&& (3 : Int32)))), vr (own_join wM wU (own_pick wN wM wT wU (p1 &&& (3 : Int32))) (own_pick wN wM wT wU (p2 &&& (3 : Int32))))] [(.ref (own_pick wN wM wT wU (own_tab (p1 &&& (3 : Int32)) (p2 &&& (3 : Int32))))), (.ref (own_join wM wU (own_pick wN wM wT wU (p1 &&& (3 : Int32))) (own_pick wN wM wT wU (p2 &&& (3 : Int32)))))] _
    refine Jvm.RoadKit.acmp (g := (mkF m 126 #[vi p1, vi p2, vi (p1 &&& (3 : Int32)), vi (p2 &&& (3 : Int32)), vr b1, vr (own_pick wN wM wT wU (p1 &&& (3 : Int32))), vr (own_pick wN wM wT wU (p2 &&& (3 : Int32))), vr (own_pick wN wM wT wU (own_tab (p1 &&& (3 : Int32)) (p2 &&& (3 : Int32)))), vr (own_join wM wU (own_pick wN wM wT wU (p1 &&& (3 : Int32))) (own_pick wN wM wT wU (p2 &&& (3 : Int32))))] [(.ref (own_pick wN wM wT wU (own_tab (p1 &&& (3 : Int32)) (p2 &&& (3 : Int32))))), (.ref (own_join wM wU (own_pick wN wM wT wU (p1 &&& (3 : Int32))) (own_pick wN wM wT wU (p2 &&& (3 : Int32)))))])) X38 hx rfl rfl rfl (pc0 := 126) (pc' := 129) (same := true) rfl (hb hby at_126) rfl (decide_eq_true (congrArg Value.ref (own_end n1 n2 n3 n4 n5 n6 p1 p2))) (by decide) (by decide) ?_
    show SS p e below m T38 129 #[vi p1, vi p2, vi (p1 &&& (3 : Int32)), vi (p2 &&& (3 : Int32)), vr b1, vr (own_pick wN wM wT wU (p1 &&& (3 : Int32))), vr (own_pick wN wM wT wU (p2 &&& (3 : Int32))), vr (own_pick wN wM wT wU (own_tab (p1 &&& (3 : Int32)) (p2 &&& (3 : Int32)))), vr (own_join wM wU (own_pick wN wM wT wU (p1 &&& (3 : Int32))) (own_pick wN wM wT wU (p2 &&& (3 : Int32))))] [] _
    refine XS.iconst X38.here hx rfl (hb hby at_129) ?_
    show SS p e below m T38 130 #[vi p1, vi p2, vi (p1 &&& (3 : Int32)), vi (p2 &&& (3 : Int32)), vr b1, vr (own_pick wN wM wT wU (p1 &&& (3 : Int32))), vr (own_pick wN wM wT wU (p2 &&& (3 : Int32))), vr (own_pick wN wM wT wU (own_tab (p1 &&& (3 : Int32)) (p2 &&& (3 : Int32)))), vr (own_join wM wU (own_pick wN wM wT wU (p1 &&& (3 : Int32))) (own_pick wN wM wT wU (p2 &&& (3 : Int32))))] [(.int (1 : Int32))] _
    refine XS.goto X38.here hx rfl (pc0 := 130) (pc' := 134) rfl (hb hby at_130) (by decide) (by decide) ?_
    show SS p e below m T38 134 #[vi p1, vi p2, vi (p1 &&& (3 : Int32)), vi (p2 &&& (3 : Int32)), vr b1, vr (own_pick wN wM wT wU (p1 &&& (3 : Int32))), vr (own_pick wN wM wT wU (p2 &&& (3 : Int32))), vr (own_pick wN wM wT wU (own_tab (p1 &&& (3 : Int32)) (p2 &&& (3 : Int32)))), vr (own_join wM wU (own_pick wN wM wT wU (p1 &&& (3 : Int32))) (own_pick wN wM wT wU (p2 &&& (3 : Int32))))] [(.int (1 : Int32))] _
    exact retN X38 hx (t := .boolean) Bd.returns (by simp) (hb hby at_134) hr
  · show Q_rm0 Z p1 p2 wN wM wT wU h0 n0 _ T38.heap _
    rw [e38]
    exact ⟨rfl, N38, KC⟩
set_option maxRecDepth 65536 in
set_option maxHeartbeats 40000000 in
theorem comes_1 {Post : Tables → Env → Array Value → State → Outcome → State → Prop} (hpost : ∀ tb e args s v u, (limb_1_1.after args s (.returned v) u = true ∧ limb_1_2.after args s (.returned v) u = true ∧ True) → FrameEnd s (.returned v) u (Jvm.fieldLocs frame_1_writes args s ++ Jvm.arrayLocs frame_1_arrays args s ++ Jvm.staticLocs frame_1_statics s) 16 128 → Post tb e args s (.returned v) u) :
    ArmFor flags0 classFile x code maxLocals ret World_1 tables_1 room_1 Calls_1 rest_1 Pre_1 Post := by
  intro l hfl _ _ p e ha hc hk s m args below hf hA hF happ hP
  obtain ⟨hcalls, hrest, hpre⟩ := hP
  obtain ⟨-, -, -, hnamed, -, -, -, hat⟩ := (Spec.applies_iff hf).mp happ
  obtain ⟨hg, hn⟩ := and_e (Cond.before_iff.mp (show (Jvm.Cond.and given_1 narrow_1).before args s = true from hpre))
  obtain ⟨nw1, nv1⟩ := and_e hg
  obtain ⟨nw2, nv2⟩ := and_e nv1
  obtain ⟨w0, w1, rfl⟩ : ∃ w0 w1 : Value, args = #[w0, w1] := by
    have hs : args.size = 2 := by simpa [Cond.value, given_1] using nw1
    obtain ⟨L⟩ := args
    match L, hs with
    | [w0, w1], _ => exact ⟨w0, w1, rfl⟩
  have hw := fun d (hd : d ∈ tables_1) => atoms_spec (ws := Jvm.Cond.code x code maxLocals ret :: tables_1) hat d (List.mem_cons_of_mem _ hd)
  have hfit : Fit s := fun {y c} hc i hi => by
    obtain ⟨ha, rfl⟩ := Array.getElem?_eq_some_iff.mp hc
    have q := List.all_eq_true.mp ((Array.all_eq_true_iff_forall_mem.mp hF) _ (Array.getElem_mem ha)) i (List.mem_range.mpr hi)
    simpa [Array.getElem?_eq_getElem hi] using q
  obtain ⟨i0, ei0⟩ := is_v nw2
  obtain rfl : w0 = (.int i0) := Option.some.inj ei0
  obtain ⟨i1, ei1⟩ := is_v nv2
  obtain rfl : w1 = (.int i1) := Option.some.inj ei1
  obtain ⟨nw3, nv3⟩ := and_e hn
  obtain ⟨nw4, nv4⟩ := and_e nv3
  obtain ⟨nw5, nv5⟩ := and_e nv4
  obtain ⟨nw6, nv6⟩ := and_e nv5
  obtain ⟨nw7, nv7⟩ := and_e nv6
  obtain ⟨nw8, nv8⟩ := and_e nv7
  obtain ⟨nw9, nv9⟩ := and_e nv8
  obtain ⟨u_NONE, ev_NONE⟩ := exa_v nw3
  have E_u_NONE := Exa.start ev_NONE nw3
  have S_NONE := Sta.start ev_NONE (Or.inr ⟨(ww hw 6 rfl), (ww hw 7 rfl)⟩)
  obtain ⟨u_UNKNOWN, ev_UNKNOWN⟩ := exa_v nw4
  have E_u_UNKNOWN := Exa.start ev_UNKNOWN nw4
  have S_UNKNOWN := Sta.start ev_UNKNOWN (Or.inr ⟨(ww hw 6 rfl), (ww hw 9 rfl)⟩)
  obtain ⟨u_TRANSACTION, ev_TRANSACTION⟩ := exa_v nw7
  have E_u_TRANSACTION := Exa.start ev_TRANSACTION nw7
  have S_TRANSACTION := Sta.start ev_TRANSACTION (Or.inr ⟨(ww hw 6 rfl), (ww hw 17 rfl)⟩)
  obtain ⟨u_MAYBE, ev_MAYBE⟩ := exa_v nw8
  have E_u_MAYBE := Exa.start ev_MAYBE nw8
  have S_MAYBE := Sta.start ev_MAYBE (Or.inr ⟨(ww hw 6 rfl), (ww hw 19 rfl)⟩)
  have F_ordinal_NONE := own_fld ev_NONE nw5
  have F_ordinal_UNKNOWN := own_fld ev_UNKNOWN nw6
  have F_ordinal_TRANSACTION := own_fld ev_TRANSACTION nw9
  have F_ordinal_MAYBE := own_fld ev_MAYBE nv9
  obtain ⟨n, o, h1, h2, h3, _, L, rfl, ⟨rfl, N, -⟩, hq⟩ := rm0 l s _ hw tables_1 i0 i1 u_NONE u_MAYBE u_TRANSACTION u_UNKNOWN s.heap s.heap.size (Nat.le_refl _) (Old.start s) S_NONE S_MAYBE S_TRANSACTION S_UNKNOWN E_u_NONE E_u_MAYBE E_u_TRANSACTION E_u_UNKNOWN (Fld.ne F_ordinal_NONE F_ordinal_MAYBE (by simp)) (Fld.ne F_ordinal_NONE F_ordinal_TRANSACTION (by simp)) (Fld.ne F_ordinal_NONE F_ordinal_UNKNOWN (by simp)) (Fld.ne F_ordinal_MAYBE F_ordinal_TRANSACTION (by simp)) (Fld.ne F_ordinal_MAYBE F_ordinal_UNKNOWN (by simp)) (Fld.ne F_ordinal_TRANSACTION F_ordinal_UNKNOWN (by simp)) p e ha hc hk s m _ below hf ((Spec.applies_iff_loose hf).mp happ).1 ⟨rfl, State.Warmed39.refl s, rfl⟩ trivial
  refine ⟨n, _, h1, h2, h3, hpost _ _ _ _ _ _ ⟨Cond.after_iff.mpr rfl, Cond.after_iff.mpr (eq_i res_at (Term.int_eval (1)) rfl), trivial⟩ ⟨hq.1, hq.2.1, (hq.2.2.sift fun y hy => Or.inr (N y hy)).mono (by decide) (by decide)⟩⟩
theorem main_1_1 : Claimed_1_1 := comes_1 fun _ _ _ _ _ _ h hF => ⟨h.1, hF⟩
theorem main_1_2 : Claimed_1_2 := comes_1 fun _ _ _ _ _ _ h hF => ⟨h.2.1, hF⟩
end Jvm.Pilot.@@N@@
namespace Jvm.Pilot.@@N@@
open Jvm Jvm.ClassFile Sem Op Lib Jvm.Free Jvm.Stand Jvm.Pilot.@@N@@.Jvm.D
/-! MADE BY PROGRAM (witnessworld.py) out of the Statement's table words and the real class files: 12 classes; the members and pool entries that the words name. The judged class is class 1, her method 2. -/
namespace start1
open Jvm.ClassFile
def u (s : String) : CpInfo := .utf8 (stringToUtf16 s)
/-- a pool by its gaps: so many unusable entries, then the entry; so many at the end -/
def gap : Nat → List CpInfo → List CpInfo
  | 0, r => r
  | n + 1, r => .unusable :: gap n r
def poolList (es : List (Nat × CpInfo)) (last : Nat) : List CpInfo := es.foldr (fun e r => gap e.1 (e.2 :: r)) (gap last [])
def pool (es : List (Nat × CpInfo)) (last : Nat) : Array CpInfo := ⟨poolList es last⟩
def fileOf (pool : Array CpInfo) (this : Nat) (attrs : Array Attribute := #[]) (ms : Array MethodInfo := #[]) (fl : Nat := 33) (sup : Nat := 0) (ifs : Array Nat := #[]) (fds : Array FieldInfo := #[]) : ClassFile where
  minorVersion := 0
  majorVersion := 65
  constantPool := pool
  accessFlags := fl
  thisClass := this
  superClass := sup
  interfaces := ifs
  fields := fds
  methods := ms
  attributes := attrs
def plain (name : String) (sup : Option ClassId) : Class where
  name := name
  kind := .ordinary
  loader := none
  accessFlags := 33
  super := sup
  interfaces := #[]
  cf := none
  fields := #[]
  methods := #[]
  instanceTypes := #[]
  staticTypes := #[]
  resolved := #[]
  callSites := []
  init := .initialized
  statics := none
  mirror := none

def pool0 : Array CpInfo := pool [(5, u "<init>"), (0, u "()V"), (1, .class_ 10), (1, u "java/lang/Object")] 113

def k0m0 : Method := { name := "<init>", desc := "()V", sig := { parameters := [], returnType := none }, accessFlags := 1, code := none }
/-- java/lang/Object -/
def k0 : Class := { plain "java/lang/Object" none with
  accessFlags := 33
  interfaces := #[]
  cf := some (fileOf pool0 8 #[] #[{ accessFlags := 1, nameIndex := 5, descriptorIndex := 6, attributes := #[] }] 33 0 #[] #[])
  fields := #[]
  methods := #[k0m0]
  instanceTypes := #[]
  staticTypes := #[]
  resolved := Array.replicate 124 none
  statics := none }

def pool1 : Array CpInfo := pool [(2, .class_ 4), (1, u "java/lang/Object"), (0, u "<init>"), (0, u "()V"), (0, .fieldref 8 9), (0, .class_ 10), (0, .nameAndType 11 12), (0, u "com/example/sundew/sundew/TransactionContext"), (0, u "NONE"), (0, u "Lcom/example/sundew/sundew/TransactionContext;"), (0, .fieldref 8 14), (0, .nameAndType 15 12), (0, u "MAYBE"), (0, .fieldref 8 17), (0, .nameAndType 18 12), (0, u "TRANSACTION"), (0, .fieldref 8 20), (0, .nameAndType 21 12), (0, u "UNKNOWN"), (0, .methodref 23 24), (0, .class_ 25), (0, .nameAndType 26 27), (0, u "com/example/sundew/sundew/TransactionContextJoinPinLaw"), (0, u "pick"), (0, u "(I)Lcom/example/sundew/sundew/TransactionContext;"), (0, .methodref 8 29), (0, .nameAndType 30 31), (0, u "join"), (0, u "(Lcom/example/sundew/sundew/TransactionContext;)Lcom/example/sundew/sundew/TransactionContext;"), (3, u "law"), (0, u "(II)Z")] 4

def k1m0 : Method := { name := "<init>", desc := "()V", sig := { parameters := [], returnType := none }, accessFlags := 2, code := none }
def k1c1 : Code := { maxStack := 2, maxLocals := 1, code := method_2_code, exceptionTable := #[], attributes := #[] }
def k1m1 : Method := { name := "pick", desc := "(I)Lcom/example/sundew/sundew/TransactionContext;", sig := { parameters := [.int], returnType := some (.object "com/example/sundew/sundew/TransactionContext") }, accessFlags := 10, code := some k1c1 }
def k1c2 : Code := { maxStack := 4, maxLocals := 9, code := code, exceptionTable := #[], attributes := #[] }
def k1m2 : Method := { name := "law", desc := "(II)Z", sig := { parameters := [.int, .int], returnType := some .boolean }, accessFlags := 9, code := some k1c2 }
/-- com/example/sundew/sundew/TransactionContextJoinPinLaw -/
def k1 : Class := { plain "com/example/sundew/sundew/TransactionContextJoinPinLaw" (some 0) with
  accessFlags := 49
  interfaces := #[]
  cf := some (fileOf pool1 23 #[] #[{ accessFlags := 2, nameIndex := 5, descriptorIndex := 6, attributes := #[] }, { accessFlags := 10, nameIndex := 26, descriptorIndex := 27, attributes := #[] }, { accessFlags := 9, nameIndex := 35, descriptorIndex := 36, attributes := #[] }] 49 2 #[] #[])
  fields := #[]
  methods := #[k1m0, k1m1, k1m2]
  instanceTypes := #[]
  staticTypes := #[]
  resolved := Array.replicate 41 none
  statics := none }

def pool2 : Array CpInfo := pool [(1, .class_ 2), (0, u "java/lang/constant/Constable"), (0, .class_ 4), (0, u "java/lang/Object")] 6

/-- java/lang/constant/Constable -/
def k2 : Class := { plain "java/lang/constant/Constable" (some 0) with
  accessFlags := 1537
  interfaces := #[]
  cf := some (fileOf pool2 1 #[] #[] 1537 3 #[] #[])
  fields := #[]
  methods := #[]
  instanceTypes := #[]
  staticTypes := #[]
  resolved := Array.replicate 11 none
  statics := none }

def pool3 : Array CpInfo := pool [(1, .class_ 2), (0, u "java/lang/Comparable"), (0, .class_ 4), (0, u "java/lang/Object")] 7

/-- java/lang/Comparable -/
def k3 : Class := { plain "java/lang/Comparable" (some 0) with
  accessFlags := 1537
  interfaces := #[]
  cf := some (fileOf pool3 1 #[] #[] 1537 3 #[] #[])
  fields := #[]
  methods := #[]
  instanceTypes := #[]
  staticTypes := #[]
  resolved := Array.replicate 12 none
  statics := none }

def pool4 : Array CpInfo := pool [(1, .class_ 2), (0, u "java/io/Serializable"), (0, .class_ 4), (0, u "java/lang/Object")] 2

/-- java/io/Serializable -/
def k4 : Class := { plain "java/io/Serializable" (some 0) with
  accessFlags := 1537
  interfaces := #[]
  cf := some (fileOf pool4 1 #[] #[] 1537 3 #[] #[])
  fields := #[]
  methods := #[]
  instanceTypes := #[]
  staticTypes := #[]
  resolved := Array.replicate 7 none
  statics := none }

def pool5 : Array CpInfo := pool [(2, .class_ 4), (1, u "java/lang/Enum"), (0, u "name"), (0, u "Ljava/lang/String;"), (2, u "ordinal"), (0, u "I"), (1, .class_ 14), (1, u "java/lang/Object"), (4, u "hash"), (86, .class_ 108), (1, u "java/lang/Enum$EnumDesc"), (2, .class_ 112), (0, u "java/lang/constant/Constable"), (0, .class_ 114), (0, u "java/lang/Comparable"), (0, .class_ 116), (0, u "java/io/Serializable")] 87

/-- java/lang/Enum -/
def k5 : Class := { plain "java/lang/Enum" (some 0) with
  accessFlags := 1057
  interfaces := #[2, 3, 4]
  cf := some (fileOf pool5 2 #[.nestMembers #[106]] #[] 1057 12 #[111, 113, 115] #[{ accessFlags := 18, nameIndex := 5, descriptorIndex := 6, attributes := #[] }, { accessFlags := 18, nameIndex := 9, descriptorIndex := 10, attributes := #[] }, { accessFlags := 2, nameIndex := 19, descriptorIndex := 10, attributes := #[] }])
  fields := #[{ name := "name", type := (.object "java/lang/String"), accessFlags := 18, slot := 0, constantValue := 0 }, { name := "ordinal", type := .int, accessFlags := 18, slot := 1, constantValue := 0 }, { name := "hash", type := .int, accessFlags := 2, slot := 2, constantValue := 0 }]
  methods := #[]
  instanceTypes := #[(.object "java/lang/String"), .int, .int]
  staticTypes := #[]
  resolved := Array.replicate 204 none
  statics := none }

def pool6 : Array CpInfo := pool [(1, .class_ 2), (0, u "com/example/sundew/sundew/TransactionContext"), (2, u "NONE"), (0, u "Lcom/example/sundew/sundew/TransactionContext;"), (0, .fieldref 1 8), (0, .nameAndType 9 6), (0, u "MAYBE"), (2, u "TRANSACTION"), (0, .fieldref 1 14), (0, .nameAndType 15 6), (0, u "UNKNOWN"), (2, u "$VALUES"), (0, u "[Lcom/example/sundew/sundew/TransactionContext;"), (6, .class_ 28), (1, u "java/lang/Enum"), (22, u "join"), (0, u "(Lcom/example/sundew/sundew/TransactionContext;)Lcom/example/sundew/sundew/TransactionContext;")] 5

def k6c0 : Code := { maxStack := 2, maxLocals := 3, code := prog_11_method_4_code, exceptionTable := #[], attributes := #[] }
def k6m0 : Method := { name := "join", desc := "(Lcom/example/sundew/sundew/TransactionContext;)Lcom/example/sundew/sundew/TransactionContext;", sig := { parameters := [(.object "com/example/sundew/sundew/TransactionContext")], returnType := some (.object "com/example/sundew/sundew/TransactionContext") }, accessFlags := 0, code := some k6c0 }
/-- com/example/sundew/sundew/TransactionContext -/
def k6 : Class := { plain "com/example/sundew/sundew/TransactionContext" (some 5) with
  accessFlags := 16432
  interfaces := #[]
  cf := some (fileOf pool6 1 #[] #[{ accessFlags := 0, nameIndex := 51, descriptorIndex := 52, attributes := #[] }] 16432 26 #[] #[{ accessFlags := 16409, nameIndex := 5, descriptorIndex := 6, attributes := #[] }, { accessFlags := 16409, nameIndex := 9, descriptorIndex := 6, attributes := #[] }, { accessFlags := 16409, nameIndex := 12, descriptorIndex := 6, attributes := #[] }, { accessFlags := 16409, nameIndex := 15, descriptorIndex := 6, attributes := #[] }, { accessFlags := 4122, nameIndex := 18, descriptorIndex := 19, attributes := #[] }])
  fields := #[{ name := "NONE", type := (.object "com/example/sundew/sundew/TransactionContext"), accessFlags := 16409, slot := 0, constantValue := 0 }, { name := "MAYBE", type := (.object "com/example/sundew/sundew/TransactionContext"), accessFlags := 16409, slot := 1, constantValue := 0 }, { name := "TRANSACTION", type := (.object "com/example/sundew/sundew/TransactionContext"), accessFlags := 16409, slot := 2, constantValue := 0 }, { name := "UNKNOWN", type := (.object "com/example/sundew/sundew/TransactionContext"), accessFlags := 16409, slot := 3, constantValue := 0 }, { name := "$VALUES", type := (.array (.object "com/example/sundew/sundew/TransactionContext")), accessFlags := 4122, slot := 4, constantValue := 0 }]
  methods := #[k6m0]
  instanceTypes := #[(.object "java/lang/String"), .int, .int]
  staticTypes := #[(.object "com/example/sundew/sundew/TransactionContext"), (.object "com/example/sundew/sundew/TransactionContext"), (.object "com/example/sundew/sundew/TransactionContext"), (.object "com/example/sundew/sundew/TransactionContext"), (.array (.object "com/example/sundew/sundew/TransactionContext"))]
  resolved := Array.replicate 58 none
  statics := some 0 }

def pool7 : Array CpInfo := pool [(1, u "java/lang/Cloneable"), (0, .class_ 1), (0, u "java/lang/Object"), (0, .class_ 3)] 3

/-- java/lang/Cloneable -/
def k7 : Class := { plain "java/lang/Cloneable" (some 0) with
  accessFlags := 1537
  interfaces := #[]
  cf := some (fileOf pool7 2 #[] #[] 1537 4 #[] #[])
  fields := #[]
  methods := #[]
  instanceTypes := #[]
  staticTypes := #[]
  resolved := Array.replicate 8 none
  statics := none }

/-- the primitive byte -/
def k8 : Class := { plain "byte" none with kind := .primitive 'B', accessFlags := 0x411 }
/-- [B -/
def k9 : Class := { plain "[B" (some 0) with kind := .array 8 .byte, interfaces := #[7, 4], accessFlags := 1041 }

/-- the primitive int -/
def k10 : Class := { plain "int" none with kind := .primitive 'I', accessFlags := 0x411 }
/-- [I -/
def k11 : Class := { plain "[I" (some 0) with kind := .array 10 .int, interfaces := #[7, 4], accessFlags := 1041 }

def heap : Heap := #[{ cls := 6, slots := #[.ref 1, .ref 2, .ref 3, .ref 4, .null], vm := .statics 6 },
  { cls := 6, slots := #[.null, .int 0, .int 0], vm := .none },
  { cls := 6, slots := #[.null, .int 1, .int 0], vm := .none },
  { cls := 6, slots := #[.null, .int 2, .int 0], vm := .none },
  { cls := 6, slots := #[.null, .int 3, .int 0], vm := .none }]
def classes : Array Class := #[k0, k1, k2, k3, k4, k5, k6, k7, k8, k9, k10, k11]
def interned : List (Array UInt16 × Addr) := []
def slotsUsed : Nat := 17
def theMethod : MethodId := ⟨1, 2⟩
def args0 : Array Value := #[.int 5, .int 6]
def aboutOver (below : List Frame) : State where
  vm := { classes := classes, interned := interned.toArray }
  heap := heap
  slotsUsed := slotsUsed
  threads := #[{ frames := .invoking theMethod args0 :: below }]
def below0 : List Frame := [.native { method := ⟨0, 0⟩, args := #[] }]
def about1 : State := aboutOver below0
def p0 : Program := .bare "" "" ""
def e0 : Env := launch0.env 0 0 0
theorem w_frames : about1.frames = Frame.invoking theMethod args0 :: below0 := rfl
set_option maxRecDepth 65536 in
theorem w_args : argsFit about1.vm theMethod args0 = true := by decide +kernel
set_option maxRecDepth 65536 in
theorem w_heap : heapFits about1 = true := by decide +kernel
set_option maxRecDepth 65536 in
theorem w_runnable : about1.curStatus? = some .runnable := by decide +kernel
set_option maxRecDepth 65536 in
theorem w_alone : about1.alone = true := by decide +kernel
set_option maxRecDepth 65536 in
theorem w_named : about1.methodNamed? x = some theMethod := by decide +kernel
set_option maxRecDepth 65536 in
theorem w_hears : about1.hears theMethod below0 = true := by decide +kernel
set_option maxRecDepth 65536 in
theorem w_ripe : about1.ripe theMethod args0 below0 = true := by decide +kernel
theorem w_running : about1.status = .running := rfl
set_option maxRecDepth 65536 in
theorem w_room : about1.hasRoom e0.platform room_1 = true :=
  launch0.hasRoom_least _ room_1 (by decide +kernel) (by decide +kernel) (by decide +kernel) (by decide +kernel) (by decide +kernel) (by decide +kernel)
theorem allAtoms_all (ts : List Jvm.Cond) (a : Array Jvm.Value) (st : Jvm.State) : (allAtoms ts).before a st = ts.all (fun c => c.before a st) := by
  induction ts with
  | nil => rfl
  | cons c t ih =>
    show (Jvm.Cond.and c (allAtoms t)).before a st = _
    rw [Jvm.Cond.before_and, ih, List.all_cons]
def words1 : List Jvm.Cond := Jvm.Cond.code x code maxLocals ret :: tables_1
/-- a 'code' word, met by the world's own term for the bytes: nothing is compared byte by byte -/
theorem code_word {y : MethodName} {bytes : ByteArray} {mx : Nat} {rt : Option FieldType} {a : Array Value} {s : State} {m : MethodId} {meth : Method} {c : Code} (h1 : s.methodNamed? y = some m) (h2 : s.vm.method? m = some meth) (h3 : meth.code = some c) (h4 : c.code = bytes)
    (h5 : (c.maxLocals == mx && c.exceptionTable.isEmpty && decide (c.maxStack ≤ mostOperands) && decide (meth.sig.returnType = rt) && !meth.locks && decide (parseMethodDescriptor y.desc = some meth.sig)) = true) : (Jvm.Cond.code y bytes mx rt).before a s = true := by
  simp only [Bool.and_eq_true, beq_iff_eq, Bool.not_eq_true', decide_eq_true_eq] at h5
  obtain ⟨⟨⟨⟨⟨g1, g2⟩, g3⟩, g4⟩, g5⟩, g6⟩ := h5
  simp [Cond.before, Cond.holds, Cond.value, h1, h2, h3, h4, g1, g2, g3, g4, g5, g6]
def isCode : Jvm.Cond → Bool
  | .code _ _ _ _ => true
  | _ => false
theorem all_split {L : List Jvm.Cond} {P : Jvm.Cond → Bool} (h1 : L.all (fun c => isCode c || P c) = true) (h2 : ∀ c ∈ L.filter isCode, P c = true) : L.all P = true := by
  refine List.all_eq_true.mpr fun c hc => ?_
  have h := List.all_eq_true.mp h1 c hc
  rcases Bool.eq_false_or_eq_true (isCode c) with hi | hi
  · exact h2 c (List.mem_filter.mpr ⟨hc, hi⟩)
  · simpa [hi] using h
set_option maxRecDepth 65536 in
theorem w_c0 : (Jvm.Cond.code x code maxLocals ret).before args0 about1 = true := code_word (m := ⟨1, 2⟩) (meth := k1m2) (c := k1c2) (by decide +kernel) rfl rfl rfl (by decide +kernel)
set_option maxRecDepth 65536 in
theorem w_c1 : (Jvm.Cond.code ({ cls := "com/example/sundew/sundew/TransactionContextJoinPinLaw", name := "pick", desc := "(I)Lcom/example/sundew/sundew/TransactionContext;" } : Jvm.MethodName) method_2_code (1 : Nat) (Option.some (Jvm.ClassFile.FieldType.object "com/example/sundew/sundew/TransactionContext"))).before args0 about1 = true := code_word (m := ⟨1, 1⟩) (meth := k1m1) (c := k1c1) (by decide +kernel) rfl rfl rfl (by decide +kernel)
set_option maxRecDepth 65536 in
theorem w_c2 : (Jvm.Cond.code ({ cls := "com/example/sundew/sundew/TransactionContext", name := "join", desc := "(Lcom/example/sundew/sundew/TransactionContext;)Lcom/example/sundew/sundew/TransactionContext;" } : Jvm.MethodName) prog_11_method_4_code (3 : Nat) (Option.some (Jvm.ClassFile.FieldType.object "com/example/sundew/sundew/TransactionContext"))).before args0 about1 = true := code_word (m := ⟨6, 0⟩) (meth := k6m0) (c := k6c0) (by decide +kernel) rfl rfl rfl (by decide +kernel)
def codes1 : List Jvm.Cond := [Jvm.Cond.code x code maxLocals ret, Jvm.Cond.code ({ cls := "com/example/sundew/sundew/TransactionContextJoinPinLaw", name := "pick", desc := "(I)Lcom/example/sundew/sundew/TransactionContext;" } : Jvm.MethodName) method_2_code (1 : Nat) (Option.some (Jvm.ClassFile.FieldType.object "com/example/sundew/sundew/TransactionContext")), Jvm.Cond.code ({ cls := "com/example/sundew/sundew/TransactionContext", name := "join", desc := "(Lcom/example/sundew/sundew/TransactionContext;)Lcom/example/sundew/sundew/TransactionContext;" } : Jvm.MethodName) prog_11_method_4_code (3 : Nat) (Option.some (Jvm.ClassFile.FieldType.object "com/example/sundew/sundew/TransactionContext"))]
set_option maxRecDepth 65536 in
theorem codes_eq : words1.filter isCode = codes1 := rfl
theorem w_codes : ∀ c ∈ words1.filter isCode, c.before args0 about1 = true := by
  rw [codes_eq]
  intro c hc
  simp only [codes1, List.mem_cons, List.not_mem_nil, or_false] at hc
  rcases hc with rfl | rfl | rfl
  · exact w_c0
  · exact w_c1
  · exact w_c2
set_option maxRecDepth 65536 in
theorem w_t1 : words1.all (fun c => isCode c || c.before args0 about1) = true := by decide +kernel
theorem w_tables : (allAtoms (Jvm.Cond.code x code maxLocals ret :: tables_1)).before args0 about1 = true := by
  rw [allAtoms_all]
  show words1.all (fun c => c.before args0 about1) = true
  refine all_split ?_ w_codes
  rw [w_t1]
set_option maxRecDepth 65536 in
theorem w_case : (Jvm.Cond.and given_1 narrow_1).before args0 about1 = true := by decide +kernel
theorem w_applies : (headSpec (Jvm.Cond.code x code maxLocals ret :: tables_1) room_1).applies x e0.platform about1 = true :=
  (Spec.applies_iff w_frames).mpr ⟨w_running, w_runnable, w_alone, w_named, w_hears, w_ripe, w_room, w_tables⟩
theorem atStart : AtStart classFile x code maxLocals ret World_1 tables_1 room_1 Calls_1 rest_1 Pre_1 launch0 p0 e0 about1 theMethod args0 below0 :=
  ⟨lists_1, trivial, launch0.admits_env _ _ _, launch0.least_env, fairChoices_fair.cas, fairChoices_fair.clock, w_frames, w_args, w_heap, w_applies, trivial, trivial, w_case⟩
end start1
theorem witness_1 : WitnessClaimed_1 := ⟨start1.p0, start1.e0, start1.about1, start1.theMethod, start1.args0, start1.below0, start1.atStart⟩
end Jvm.Pilot.@@N@@
