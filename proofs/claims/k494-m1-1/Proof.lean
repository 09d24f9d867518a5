import JvmDerived
import JvmDerived.Pilot.@@N@@Statement
import JvmDerived.Pilot.@@N@@Code
set_option linter.unusedVariables false
set_option linter.unusedSimpArgs false
namespace Jvm.RoadKit
open Sem ClassFile Op Lib Jvm.Stand Jvm.Free Jvm.LawKit
section New
variable {p : Program} {l : Launch} {e : Env} {R : Room} {s : State} {m : MethodId} {args : Array Value} {below : List Frame} {meth : Method} {c : Code} {T : State} {locs : List Loc} {cells slots : Nat}
theorem retI (X : Stand p l e R s m args below meth c T locs cells slots) (hx : p.tables.exec = Jvm.exec) {pc : Nat} {Ls : Array Slot} {z : Int32} {rest : List Value} (hret : meth.sig.returnType = some .int) (hd : decode c.code pc = .ok (.ireturn, 1)) {fs : List Frame}
    (hl : ∀ (f : JFrame) (acts : List Action), f.method = m → f.locked = none → f.entered = [] → (doReturn e (T.setTop f) acts (some (.int z))).1 = T.setFrames fs) : Steps p.tables e below (T.setTop (mkF m pc Ls (.int z :: rest))) (T.setFrames fs) := by
  have hm' : T.vm.method? m = some meth := X.method'
  have hn : narrow .int (.int z) = .int z := rfl
  show Steps p.tables e below (T.setTop { method := m, pc := pc, locals := Ls, stack := _ :: rest, locked := none }) _
  jvm_step X.here [X.here.top, hx, hd, hm', hret, hn]
  first | (intro acts; rw [hl _ acts rfl rfl rfl]) | rw [hl _ _ rfl rfl rfl]
  exact Steps.refl _
end New
end Jvm.RoadKit
namespace Jvm.Pilot.@@N@@
open Jvm Jvm.ClassFile Sem Op Lib Jvm.Free Jvm.Stand Jvm.LawKit Jvm.RoadKit Bundle Jvm.Pilot.@@N@@.Jvm.D
abbrev vi (x : Int32) : Slot := .val (.int x)
abbrev vj (x : Int64) : Slot := .val (.long x)
abbrev vr (x : Addr) : Slot := .val (.ref x)
abbrev vN : Slot := .val .null
abbrev un : Slot := .unset
abbrev SS (p : Program) (e : Env) (below : List Frame) (m : MethodId) (T : State) (pc : Nat) (L : Array Slot) (S : List Value) (t : State) : Prop := Steps p.tables e below (T.setTop (mkF m pc L S)) t
theorem ww {a0 : Array Value} {Z : State} (hw : ∀ d ∈ tables_1, d.before a0 Z = true) (i : Nat) {d : Jvm.Cond} (h : tables_1[i]? = some d) : d.before a0 Z = true := hw _ (List.mem_of_getElem? h)
abbrev y_0 : MethodName := ⟨"com/example/soundings/soundings/query/EmptyBuckets", "hasRow", "()Z"⟩
theorem own_fld {args : Array Value} {s : State} {t : Term} {C f d : String} {k : Int32} {w : Addr} (ev : t.eval args s none [] s = some (.ref w)) (h : (Jvm.Cond.eq (Term.field t C f d) (Term.int k)).value args s none s [] = some true) : Fld s s.heap w C f d (.int k) := Fld.start ((fld_at ev).symm.trans (eqv_i (Term.int_eval k) h))
theorem d1_0 : decode prog_9_method_6_code 0 = .ok (.aload_n 0, 1) := by decide +kernel
theorem d1_1 : decode prog_9_method_6_code 1 = .ok (.getstatic 3, 3) := by decide +kernel
theorem d1_4 : decode prog_9_method_6_code 4 = .ok (.if_acmp .eq 7, 3) := by decide +kernel
theorem d1_7 : decode prog_9_method_6_code 7 = .ok (.iconst 1, 1) := by decide +kernel
theorem d1_8 : decode prog_9_method_6_code 8 = .ok (.goto 4, 3) := by decide +kernel
theorem d1_11 : decode prog_9_method_6_code 11 = .ok (.iconst 0, 1) := by decide +kernel
theorem d1_12 : decode prog_9_method_6_code 12 = .ok (.ireturn, 1) := by decide +kernel
theorem pn_0 : plainName "com/example/soundings/soundings/query/EmptyBuckets" = true := by first | (simp [plainName, overriddenIn]; done) | decide +kernel
theorem ef_rm1 (m : MethodId) (x0 : Addr) : entryFrame m #[(.ref x0)] 1 = mkF m 0 #[vr x0] [] := by first | (simp [entryFrame, mkF, argsToLocals, Value.category]; done) | rfl
def Q_rm1 (Z : State) (a1 : Addr) (wO : Addr) (h0 : Heap) (n0 : Nat) (v : Option Value) (h : Heap) (L : List Loc) : Prop := (v = some (.int (if a1 = wO then (0 : Int32) else 1))) ∧ (Fr n0 L) ∧ (h = h0)
set_option maxRecDepth 65536 in
set_option maxHeartbeats 40000000 in
theorem rm1 (l : Launch) (Z : State) (a0 : Array Value) (hw : ∀ d ∈ tables_1, d.before a0 Z = true) (ws : List Jvm.Cond) (a1 : Addr) (wO : Addr) (h0 : Heap) (n0 : Nat) (Z0 : n0 ≤ h0.size) (O0 : Old Z n0 h0) (S_OMIT : Sta Z Z.heap "com/example/soundings/soundings/query/EmptyBuckets" "OMIT" "Lcom/example/soundings/soundings/query/EmptyBuckets;" (.ref wO)) :
    MetFree l y_0 (head1 (Jvm.Cond.code y_0 prog_9_method_6_code 1 (some .boolean) :: ws) ({ frames := 0, cells := 0, slots := 0, locals := 0 } : Room)) (fun a U => a = #[(.ref a1)] ∧ Z.Warmed39 U.vm ∧ U.heap = h0) (fun _ _ _ _ _ => True) (fun _ U o U' => ∃ v L, o = .returned v ∧ Q_rm1 Z a1 wO h0 n0 v U'.heap L ∧ FrameEnd U o U' L ({ frames := 0, cells := 0, slots := 0, locals := 0 } : Room).cells ({ frames := 0, cells := 0, slots := 0, locals := 0 } : Room).slots) := by
  refine MetFree.of_bodySF (plainFor_of_name pn_0) hisR ?_
  intro p e s m args below meth c s₁ Bd hml0 hP hK
  obtain ⟨rfl, hZ, hh⟩ := hP
  have hx := Bd.exec
  have hby := Bd.bytes
  have hml : c.maxLocals = 1 := hml0
  have hown : s.vm.findClass "com/example/soundings/soundings/query/EmptyBuckets" = some m.cls := findClass_of_methodNamed Bd.named
  have hnm := (name_of_methodNamed Bd.named Bd.method).1
  have X0 : Stand p l e ({ frames := 0, cells := 0, slots := 0, locals := 0 } : Room) s m #[(.ref a1)] below meth c s₁ [] 0 0 := Stand.of_body Bd
  have e0 : s₁.heap = h0 := by rw [← hh, Bd.state]; rfl
  have N0 := Fr.nil n0
  have KC : Keep h0 h0 [] := Keep.refl h0 _
  have pre0 : ∀ t, Steps p.tables e below (s₁.setTop (mkF m 0 #[vr a1] [])) t → Steps p.tables e below (s₁.setTop (entryFrame m #[(.ref a1)] 1)) t := fun t k => castTop (ef_rm1 m a1) k
  obtain ⟨T1, X1, e1, st1⟩ := getS2 X0 hx hZ hown (host := "") (Or.inl (ww hw 9 rfl)) Via.refl e0 (S_OMIT.ext O0.2) (g := (mkF m 1 #[vr a1] [(.ref a1)])) rfl (hb hby d1_1)
  have pre2 : ∀ t, Steps p.tables e below (T1.setTop (mkF m 4 #[vr a1] [(.ref wO), (.ref a1)])) t → Steps p.tables e below (s₁.setTop (entryFrame m #[(.ref a1)] 1)) t := by
    intro t kt
    refine pre0 t ?_
    show SS p e below m s₁ 0 #[vr a1] [] _
    refine XS.aloadN X0.here hx rfl (hb hby d1_0) rfl rfl ?_
    show SS p e below m s₁ 1 #[vr a1] [(.ref a1)] _
    refine st1 _ ?_
    exact kt
  by_cases ha4_3 : a1 = wO
  · obtain ⟨fs, hr, hrun, hended, hW, hsame⟩ := X1.leave (v := some (.int (0 : Int32))) (fun h => by rw [Bd.returns] at h; cases h)
    refine ⟨_, _, pre2 _ ?_, hrun, hended, _, _, rfl, ?_, ⟨_, rfl⟩, hW, hsame.mono (by decide) (by decide)⟩
    · show SS p e below m T1 4 #[vr a1] [(.ref wO), (.ref a1)] _
      refine Jvm.RoadKit.acmp (g := (mkF m 4 #[vr a1] [(.ref wO), (.ref a1)])) X1 hx rfl rfl rfl (pc0 := 4) (pc' := 11) (same := true) rfl (hb hby d1_4) rfl (decide_eq_true (congrArg Value.ref ha4_3)) (by decide) (by decide) ?_
      show SS p e below m T1 11 #[vr a1] [] _
      refine XS.iconst X1.here hx rfl (hb hby d1_11) ?_
      show SS p e below m T1 12 #[vr a1] [(.int (0 : Int32))] _
      exact retN X1 hx (t := .boolean) Bd.returns (by simp) (hb hby d1_12) hr
    · show Q_rm1 Z a1 wO h0 n0 _ T1.heap _
      rw [e1]
      exact ⟨(by simp [ha4_3]), N0, rfl⟩
  · obtain ⟨fs, hr, hrun, hended, hW, hsame⟩ := X1.leave (v := some (.int (1 : Int32))) (fun h => by rw [Bd.returns] at h; cases h)
    refine ⟨_, _, pre2 _ ?_, hrun, hended, _, _, rfl, ?_, ⟨_, rfl⟩, hW, hsame.mono (by decide) (by decide)⟩
    · show SS p e below m T1 4 #[vr a1] [(.ref wO), (.ref a1)] _
      refine Jvm.RoadKit.acmp (g := (mkF m 4 #[vr a1] [(.ref wO), (.ref a1)])) X1 hx rfl rfl rfl (pc0 := 4) (pc' := 7) (same := false) rfl (hb hby d1_4) rfl (decide_eq_false fun q => ha4_3 (Value.ref.inj q)) (by decide) (by decide) ?_
      show SS p e below m T1 7 #[vr a1] [] _
      refine XS.iconst X1.here hx rfl (hb hby d1_7) ?_
      show SS p e below m T1 8 #[vr a1] [(.int (1 : Int32))] _
      refine XS.goto X1.here hx rfl (pc0 := 8) (pc' := 12) rfl (hb hby d1_8) (by decide) (by decide) ?_
      show SS p e below m T1 12 #[vr a1] [(.int (1 : Int32))] _
      exact retN X1 hx (t := .boolean) Bd.returns (by simp) (hb hby d1_12) hr
    · show Q_rm1 Z a1 wO h0 n0 _ T1.heap _
      rw [e1]
      exact ⟨(by simp [ha4_3]), N0, rfl⟩
theorem pd_0 : parseMethodDescriptor "()Z" = some ⟨[], some .boolean⟩ := by decide +kernel
theorem pn_1 : plainName "com/example/soundings/soundings/query/EmptyBucketsHasRowPinLaw" = true := by first | (simp [plainName, overriddenIn]; done) | decide +kernel
theorem ef_rm0 (m : MethodId) (x0 : Int32) : entryFrame m #[(.int x0)] maxLocals = mkF m 0 #[vi x0, .unset, .unset, .unset] [] := by first | (simp [entryFrame, mkF, argsToLocals, Value.category, maxLocals]; done) | rfl
def Q_rm0 (Z : State) (p1 : Int32) (wO : Addr) (wK : Addr) (wZ : Addr) (h0 : Heap) (n0 : Nat) (v : Option Value) (h : Heap) (L : List Loc) : Prop := (v = some (.int (1 : Int32))) ∧ (Fr n0 L) ∧ (h = h0)
set_option maxRecDepth 65536 in
set_option maxHeartbeats 40000000 in
theorem rm0 (l : Launch) (Z : State) (a0 : Array Value) (hw : ∀ d ∈ tables_1, d.before a0 Z = true) (ws : List Jvm.Cond) (p1 : Int32) (wO : Addr) (wK : Addr) (wZ : Addr) (h0 : Heap) (n0 : Nat) (Z0 : n0 ≤ h0.size) (O0 : Old Z n0 h0) (S_OMIT : Sta Z Z.heap "com/example/soundings/soundings/query/EmptyBuckets" "OMIT" "Lcom/example/soundings/soundings/query/EmptyBuckets;" (.ref wO)) (S_KEEP : Sta Z Z.heap "com/example/soundings/soundings/query/EmptyBuckets" "KEEP" "Lcom/example/soundings/soundings/query/EmptyBuckets;" (.ref wK)) (S_ZERO : Sta Z Z.heap "com/example/soundings/soundings/query/EmptyBuckets" "ZERO" "Lcom/example/soundings/soundings/query/EmptyBuckets;" (.ref wZ)) (E_wO : Exa Z Z.heap wO "com/example/soundings/soundings/query/EmptyBuckets") (E_wK : Exa Z Z.heap wK "com/example/soundings/soundings/query/EmptyBuckets") (E_wZ : Exa Z Z.heap wZ "com/example/soundings/soundings/query/EmptyBuckets") (ne_K : wK ≠ wO) (ne_Z : wZ ≠ wO) :
    MetFree l x (head1 (Jvm.Cond.code x code maxLocals ret :: ws) room_1) (fun a U => a = #[(.int p1)] ∧ Z.Warmed39 U.vm ∧ U.heap = h0) (fun _ _ _ _ _ => True) (fun _ U o U' => ∃ v L, o = .returned v ∧ Q_rm0 Z p1 wO wK wZ h0 n0 v U'.heap L ∧ FrameEnd U o U' L room_1.cells room_1.slots) := by
  refine MetFree.of_bodySF (plainFor_of_name pn_1) hisR ?_
  intro p e s m args below meth c s₁ Bd hml0 hP hK
  obtain ⟨rfl, hZ, hh⟩ := hP
  have hx := Bd.exec
  have hby := Bd.bytes
  have hml : c.maxLocals = 4 := hml0
  have hown : s.vm.findClass "com/example/soundings/soundings/query/EmptyBucketsHasRowPinLaw" = some m.cls := findClass_of_methodNamed Bd.named
  have hnm := (name_of_methodNamed Bd.named Bd.method).1
  have X0 : Stand p l e room_1 s m #[(.int p1)] below meth c s₁ [] 0 0 := Stand.of_body Bd
  have e0 : s₁.heap = h0 := by rw [← hh, Bd.state]; rfl
  have N0 := Fr.nil n0
  have KC : Keep h0 h0 [] := Keep.refl h0 _
  have pre0 : ∀ t, Steps p.tables e below (s₁.setTop (mkF m 0 #[vi p1, un, un, un] [])) t → Steps p.tables e below (s₁.setTop (entryFrame m #[(.int p1)] maxLocals)) t := fun t k => castTop (ef_rm0 m p1) k
  have pre1 : ∀ t, Steps p.tables e below (s₁.setTop (mkF m 8 #[vi p1, vi ((p1 &&& (2147483647 : Int32)) % (3 : Int32)), un, un] [(.int ((p1 &&& (2147483647 : Int32)) % (3 : Int32)))])) t → Steps p.tables e below (s₁.setTop (entryFrame m #[(.int p1)] maxLocals)) t := by
    intro t kt
    refine pre0 t ?_
    show SS p e below m s₁ 0 #[vi p1, un, un, un] [] _
    refine XS.iloadN X0.here hx rfl (hb hby at_0) rfl ?_
    show SS p e below m s₁ 1 #[vi p1, un, un, un] [(.int p1)] _
    refine X0.ldcInt hx hown (mvT hZ (ww hw 0 rfl)) (g := (mkF m 1 #[vi p1, un, un, un] [(.int p1)])) rfl (hb hby at_1) _ ?_
    show SS p e below m s₁ 3 #[vi p1, un, un, un] [(.int (2147483647 : Int32)), (.int p1)] _
    refine XS.iand X0.here hx rfl (hb hby at_3) rfl ?_
    show SS p e below m s₁ 4 #[vi p1, un, un, un] [(.int (p1 &&& (2147483647 : Int32)))] _
    refine XS.iconst X0.here hx rfl (hb hby at_4) ?_
    show SS p e below m s₁ 5 #[vi p1, un, un, un] [(.int (3 : Int32)), (.int (p1 &&& (2147483647 : Int32)))] _
    refine iremM X0 hx rfl (hb hby at_5) rfl (by decide) ?_
    show SS p e below m s₁ 6 #[vi p1, un, un, un] [(.int ((p1 &&& (2147483647 : Int32)) % (3 : Int32)))] _
    refine XS.istoreN X0.here hx rfl (hb hby at_6) rfl (l' := #[vi p1, vi ((p1 &&& (2147483647 : Int32)) % (3 : Int32)), un, un]) rfl ?_
    show SS p e below m s₁ 7 #[vi p1, vi ((p1 &&& (2147483647 : Int32)) % (3 : Int32)), un, un] [] _
    refine XS.iloadN X0.here hx rfl (hb hby at_7) rfl ?_
    exact kt
  by_cases hc8_2 : ((p1 &&& (2147483647 : Int32)) % (3 : Int32)) = (0 : Int32)
  · obtain ⟨T3, X3, e3, st3⟩ := getS2 X0 hx hZ hown (host := "") (Or.inl (ww hw 1 rfl)) Via.refl e0 (S_OMIT.ext O0.2) (g := (mkF m 11 #[vi p1, vi ((p1 &&& (2147483647 : Int32)) % (3 : Int32)), un, un] [])) rfl (hb hby at_11)
    obtain ⟨cq4, kq4, q4a, q4b, q4c⟩ := isOf hZ e3 (E_wO.ext O0.2)
    obtain ⟨_, _, ⟨T4, L4, k4, n4⟩, -, X4, ⟨Lc4, hQ4, l4, y4, z4⟩, st4⟩ := X3.virtualBack hx (y := y_0) (z := y_0) hown (mvT hZ (ww hw 4 rfl)) (mvT hZ (ww hw 5 rfl)) (notFace_of_selects (args := #[]) (mvT hZ (ww hw 7 rfl))) (mvT hZ (ww hw 7 rfl)) (mvT hZ (ww hw 6 rfl)) (by decide) (backOf (W := 0) (rm1 l Z a0 hw [] wO wO h0 n0 (Nat.le_trans Z0 KC.1) O0 S_OMIT) hZ (ww hw 8 rfl) (ww hw 2 rfl) (by decide) (by decide)) q4a q4c (g := (mkF m 41 #[vi p1, vi ((p1 &&& (2147483647 : Int32)) % (3 : Int32)), vr wO, vi (0 : Int32)] [(.ref wO)])) rfl (by rw [hml]; rfl) (Steps.refl _) (argsL := []) (rest := []) (lenOf pd_0 rfl) rfl (by show 2 * 0 + _ ≤ _; exact Nat.le_of_eq rfl) (hb hby at_41) (fun _ _ => ⟨rfl, e3, (by decide : 0 + 0 ≤ _), (by decide : 0 + 0 ≤ _)⟩)
    dsimp only [Pt.U, Pt.locs, Pt.cells, Pt.slots] at X4 l4 y4 z4 st4 hQ4
    subst l4 y4 z4
    obtain ⟨rfl, N4q, e4⟩ := hQ4
    have N4 := Fr.app N0 N4q
    obtain ⟨fs, hr, hrun, hended, hW, hsame⟩ := X4.leave (v := some (.int (1 : Int32))) (fun h => by rw [Bd.returns] at h; cases h)
    refine ⟨_, _, pre1 _ ?_, hrun, hended, _, _, rfl, ?_, ⟨_, rfl⟩, hW, hsame.mono (by decide) (by decide)⟩
    · show SS p e below m s₁ 8 #[vi p1, vi ((p1 &&& (2147483647 : Int32)) % (3 : Int32)), un, un] [(.int ((p1 &&& (2147483647 : Int32)) % (3 : Int32)))] _
      refine XS.ifNo X0.here hx rfl (hb hby at_8) rfl ((if0 _ _).trans (teq hc8_2).2) ?_
      show SS p e below m s₁ 11 #[vi p1, vi ((p1 &&& (2147483647 : Int32)) % (3 : Int32)), un, un] [] _
      refine st3 _ ?_
      show SS p e below m T3 14 #[vi p1, vi ((p1 &&& (2147483647 : Int32)) % (3 : Int32)), un, un] [(.ref wO)] _
      refine XS.astoreN X3.here hx rfl (hb hby at_14) rfl rfl (l' := #[vi p1, vi ((p1 &&& (2147483647 : Int32)) % (3 : Int32)), vr wO, un]) rfl ?_
      show SS p e below m T3 15 #[vi p1, vi ((p1 &&& (2147483647 : Int32)) % (3 : Int32)), vr wO, un] [] _
      refine XS.iconst X3.here hx rfl (hb hby at_15) ?_
      show SS p e below m T3 16 #[vi p1, vi ((p1 &&& (2147483647 : Int32)) % (3 : Int32)), vr wO, un] [(.int (0 : Int32))] _
      refine XS.istoreN X3.here hx rfl (hb hby at_16) rfl (l' := #[vi p1, vi ((p1 &&& (2147483647 : Int32)) % (3 : Int32)), vr wO, vi (0 : Int32)]) rfl ?_
      show SS p e below m T3 17 #[vi p1, vi ((p1 &&& (2147483647 : Int32)) % (3 : Int32)), vr wO, vi (0 : Int32)] [] _
      refine XS.goto X3.here hx rfl (pc0 := 17) (pc' := 40) rfl (hb hby at_17) (by decide) (by decide) ?_
      show SS p e below m T3 40 #[vi p1, vi ((p1 &&& (2147483647 : Int32)) % (3 : Int32)), vr wO, vi (0 : Int32)] [] _
      refine XS.aloadN X3.here hx rfl (hb hby at_40) rfl rfl ?_
      show SS p e below m T3 41 #[vi p1, vi ((p1 &&& (2147483647 : Int32)) % (3 : Int32)), vr wO, vi (0 : Int32)] [(.ref wO)] _
      refine st4.trans ?_
      show SS p e below m T4 44 #[vi p1, vi ((p1 &&& (2147483647 : Int32)) % (3 : Int32)), vr wO, vi (0 : Int32)] [(.int (if wO = wO then (0 : Int32) else 1))] _
      refine XS.iloadN X4.here hx rfl (hb hby at_44) rfl ?_
      show SS p e below m T4 45 #[vi p1, vi ((p1 &&& (2147483647 : Int32)) % (3 : Int32)), vr wO, vi (0 : Int32)] [(.int (0 : Int32)), (.int (if wO = wO then (0 : Int32) else 1))] _
      refine XS.icmpNo X4.here hx rfl (hb hby at_45) rfl (teq (by simp [ne_K, ne_Z])).2 ?_
      show SS p e below m T4 48 #[vi p1, vi ((p1 &&& (2147483647 : Int32)) % (3 : Int32)), vr wO, vi (0 : Int32)] [] _
      refine XS.iconst X4.here hx rfl (hb hby at_48) ?_
      show SS p e below m T4 49 #[vi p1, vi ((p1 &&& (2147483647 : Int32)) % (3 : Int32)), vr wO, vi (0 : Int32)] [(.int (1 : Int32))] _
      refine XS.goto X4.here hx rfl (pc0 := 49) (pc' := 53) rfl (hb hby at_49) (by decide) (by decide) ?_
      show SS p e below m T4 53 #[vi p1, vi ((p1 &&& (2147483647 : Int32)) % (3 : Int32)), vr wO, vi (0 : Int32)] [(.int (1 : Int32))] _
      exact retN X4 hx (t := .boolean) Bd.returns (by simp) (hb hby at_53) hr
    · show Q_rm0 Z p1 wO wK wZ h0 n0 _ T4.heap _
      rw [e4]
      exact ⟨rfl, N4, rfl⟩
  · have pre5 : ∀ t, Steps p.tables e below (s₁.setTop (mkF m 22 #[vi p1, vi ((p1 &&& (2147483647 : Int32)) % (3 : Int32)), un, un] [(.int (1 : Int32)), (.int ((p1 &&& (2147483647 : Int32)) % (3 : Int32)))])) t → Steps p.tables e below (s₁.setTop (entryFrame m #[(.int p1)] maxLocals)) t := by
      intro t kt
      refine pre1 t ?_
      show SS p e below m s₁ 8 #[vi p1, vi ((p1 &&& (2147483647 : Int32)) % (3 : Int32)), un, un] [(.int ((p1 &&& (2147483647 : Int32)) % (3 : Int32)))] _
      refine XS.ifYes X0.here hx rfl (pc0 := 8) (pc' := 20) rfl (hb hby at_8) rfl ((if0 _ _).trans (feq hc8_2).2) (by decide) (by decide) ?_
      show SS p e below m s₁ 20 #[vi p1, vi ((p1 &&& (2147483647 : Int32)) % (3 : Int32)), un, un] [] _
      refine XS.iloadN X0.here hx rfl (hb hby at_20) rfl ?_
      show SS p e below m s₁ 21 #[vi p1, vi ((p1 &&& (2147483647 : Int32)) % (3 : Int32)), un, un] [(.int ((p1 &&& (2147483647 : Int32)) % (3 : Int32)))] _
      refine XS.iconst X0.here hx rfl (hb hby at_21) ?_
      exact kt
    by_cases hc22_6 : ((p1 &&& (2147483647 : Int32)) % (3 : Int32)) = (1 : Int32)
    · obtain ⟨T7, X7, e7, st7⟩ := getS2 X0 hx hZ hown (host := "") (Or.inl (ww hw 12 rfl)) Via.refl e0 (S_KEEP.ext O0.2) (g := (mkF m 25 #[vi p1, vi ((p1 &&& (2147483647 : Int32)) % (3 : Int32)), un, un] [])) rfl (hb hby at_25)
      obtain ⟨cq8, kq8, q8a, q8b, q8c⟩ := isOf hZ e7 (E_wK.ext O0.2)
      obtain ⟨_, _, ⟨T8, L8, k8, n8⟩, -, X8, ⟨Lc8, hQ8, l8, y8, z8⟩, st8⟩ := X7.virtualBack hx (y := y_0) (z := y_0) hown (mvT hZ (ww hw 4 rfl)) (mvT hZ (ww hw 5 rfl)) (notFace_of_selects (args := #[]) (mvT hZ (ww hw 7 rfl))) (mvT hZ (ww hw 7 rfl)) (mvT hZ (ww hw 6 rfl)) (by decide) (backOf (W := 0) (rm1 l Z a0 hw [] wK wO h0 n0 (Nat.le_trans Z0 KC.1) O0 S_OMIT) hZ (ww hw 8 rfl) (ww hw 2 rfl) (by decide) (by decide)) q8a q8c (g := (mkF m 41 #[vi p1, vi ((p1 &&& (2147483647 : Int32)) % (3 : Int32)), vr wK, vi (1 : Int32)] [(.ref wK)])) rfl (by rw [hml]; rfl) (Steps.refl _) (argsL := []) (rest := []) (lenOf pd_0 rfl) rfl (by show 2 * 0 + _ ≤ _; exact Nat.le_of_eq rfl) (hb hby at_41) (fun _ _ => ⟨rfl, e7, (by decide : 0 + 0 ≤ _), (by decide : 0 + 0 ≤ _)⟩)
      dsimp only [Pt.U, Pt.locs, Pt.cells, Pt.slots] at X8 l8 y8 z8 st8 hQ8
      subst l8 y8 z8
      obtain ⟨rfl, N8q, e8⟩ := hQ8
      have N8 := Fr.app N0 N8q
      obtain ⟨fs, hr, hrun, hended, hW, hsame⟩ := X8.leave (v := some (.int (1 : Int32))) (fun h => by rw [Bd.returns] at h; cases h)
      refine ⟨_, _, pre5 _ ?_, hrun, hended, _, _, rfl, ?_, ⟨_, rfl⟩, hW, hsame.mono (by decide) (by decide)⟩
      · show SS p e below m s₁ 22 #[vi p1, vi ((p1 &&& (2147483647 : Int32)) % (3 : Int32)), un, un] [(.int (1 : Int32)), (.int ((p1 &&& (2147483647 : Int32)) % (3 : Int32)))] _
        refine XS.icmpNo X0.here hx rfl (hb hby at_22) rfl (teq hc22_6).2 ?_
        show SS p e below m s₁ 25 #[vi p1, vi ((p1 &&& (2147483647 : Int32)) % (3 : Int32)), un, un] [] _
        refine st7 _ ?_
        show SS p e below m T7 28 #[vi p1, vi ((p1 &&& (2147483647 : Int32)) % (3 : Int32)), un, un] [(.ref wK)] _
        refine XS.astoreN X7.here hx rfl (hb hby at_28) rfl rfl (l' := #[vi p1, vi ((p1 &&& (2147483647 : Int32)) % (3 : Int32)), vr wK, un]) rfl ?_
        show SS p e below m T7 29 #[vi p1, vi ((p1 &&& (2147483647 : Int32)) % (3 : Int32)), vr wK, un] [] _
        refine XS.iconst X7.here hx rfl (hb hby at_29) ?_
        show SS p e below m T7 30 #[vi p1, vi ((p1 &&& (2147483647 : Int32)) % (3 : Int32)), vr wK, un] [(.int (1 : Int32))] _
        refine XS.istoreN X7.here hx rfl (hb hby at_30) rfl (l' := #[vi p1, vi ((p1 &&& (2147483647 : Int32)) % (3 : Int32)), vr wK, vi (1 : Int32)]) rfl ?_
        show SS p e below m T7 31 #[vi p1, vi ((p1 &&& (2147483647 : Int32)) % (3 : Int32)), vr wK, vi (1 : Int32)] [] _
        refine XS.goto X7.here hx rfl (pc0 := 31) (pc' := 40) rfl (hb hby at_31) (by decide) (by decide) ?_
        show SS p e below m T7 40 #[vi p1, vi ((p1 &&& (2147483647 : Int32)) % (3 : Int32)), vr wK, vi (1 : Int32)] [] _
        refine XS.aloadN X7.here hx rfl (hb hby at_40) rfl rfl ?_
        show SS p e below m T7 41 #[vi p1, vi ((p1 &&& (2147483647 : Int32)) % (3 : Int32)), vr wK, vi (1 : Int32)] [(.ref wK)] _
        refine st8.trans ?_
        show SS p e below m T8 44 #[vi p1, vi ((p1 &&& (2147483647 : Int32)) % (3 : Int32)), vr wK, vi (1 : Int32)] [(.int (if wK = wO then (0 : Int32) else 1))] _
        refine XS.iloadN X8.here hx rfl (hb hby at_44) rfl ?_
        show SS p e below m T8 45 #[vi p1, vi ((p1 &&& (2147483647 : Int32)) % (3 : Int32)), vr wK, vi (1 : Int32)] [(.int (1 : Int32)), (.int (if wK = wO then (0 : Int32) else 1))] _
        refine XS.icmpNo X8.here hx rfl (hb hby at_45) rfl (teq (by simp [ne_K, ne_Z])).2 ?_
        show SS p e below m T8 48 #[vi p1, vi ((p1 &&& (2147483647 : Int32)) % (3 : Int32)), vr wK, vi (1 : Int32)] [] _
        refine XS.iconst X8.here hx rfl (hb hby at_48) ?_
        show SS p e below m T8 49 #[vi p1, vi ((p1 &&& (2147483647 : Int32)) % (3 : Int32)), vr wK, vi (1 : Int32)] [(.int (1 : Int32))] _
        refine XS.goto X8.here hx rfl (pc0 := 49) (pc' := 53) rfl (hb hby at_49) (by decide) (by decide) ?_
        show SS p e below m T8 53 #[vi p1, vi ((p1 &&& (2147483647 : Int32)) % (3 : Int32)), vr wK, vi (1 : Int32)] [(.int (1 : Int32))] _
        exact retN X8 hx (t := .boolean) Bd.returns (by simp) (hb hby at_53) hr
      · show Q_rm0 Z p1 wO wK wZ h0 n0 _ T8.heap _
        rw [e8]
        exact ⟨rfl, N8, rfl⟩
    · obtain ⟨T9, X9, e9, st9⟩ := getS2 X0 hx hZ hown (host := "") (Or.inl (ww hw 10 rfl)) Via.refl e0 (S_ZERO.ext O0.2) (g := (mkF m 34 #[vi p1, vi ((p1 &&& (2147483647 : Int32)) % (3 : Int32)), un, un] [])) rfl (hb hby at_34)
      obtain ⟨cq10, kq10, q10a, q10b, q10c⟩ := isOf hZ e9 (E_wZ.ext O0.2)
      obtain ⟨_, _, ⟨T10, L10, k10, n10⟩, -, X10, ⟨Lc10, hQ10, l10, y10, z10⟩, st10⟩ := X9.virtualBack hx (y := y_0) (z := y_0) hown (mvT hZ (ww hw 4 rfl)) (mvT hZ (ww hw 5 rfl)) (notFace_of_selects (args := #[]) (mvT hZ (ww hw 7 rfl))) (mvT hZ (ww hw 7 rfl)) (mvT hZ (ww hw 6 rfl)) (by decide) (backOf (W := 0) (rm1 l Z a0 hw [] wZ wO h0 n0 (Nat.le_trans Z0 KC.1) O0 S_OMIT) hZ (ww hw 8 rfl) (ww hw 2 rfl) (by decide) (by decide)) q10a q10c (g := (mkF m 41 #[vi p1, vi ((p1 &&& (2147483647 : Int32)) % (3 : Int32)), vr wZ, vi (1 : Int32)] [(.ref wZ)])) rfl (by rw [hml]; rfl) (Steps.refl _) (argsL := []) (rest := []) (lenOf pd_0 rfl) rfl (by show 2 * 0 + _ ≤ _; exact Nat.le_of_eq rfl) (hb hby at_41) (fun _ _ => ⟨rfl, e9, (by decide : 0 + 0 ≤ _), (by decide : 0 + 0 ≤ _)⟩)
      dsimp only [Pt.U, Pt.locs, Pt.cells, Pt.slots] at X10 l10 y10 z10 st10 hQ10
      subst l10 y10 z10
      obtain ⟨rfl, N10q, e10⟩ := hQ10
      have N10 := Fr.app N0 N10q
      obtain ⟨fs, hr, hrun, hended, hW, hsame⟩ := X10.leave (v := some (.int (1 : Int32))) (fun h => by rw [Bd.returns] at h; cases h)
      refine ⟨_, _, pre5 _ ?_, hrun, hended, _, _, rfl, ?_, ⟨_, rfl⟩, hW, hsame.mono (by decide) (by decide)⟩
      · show SS p e below m s₁ 22 #[vi p1, vi ((p1 &&& (2147483647 : Int32)) % (3 : Int32)), un, un] [(.int (1 : Int32)), (.int ((p1 &&& (2147483647 : Int32)) % (3 : Int32)))] _
        refine XS.icmpYes X0.here hx rfl (pc0 := 22) (pc' := 34) rfl (hb hby at_22) rfl (feq hc22_6).2 (by decide) (by decide) ?_
        show SS p e below m s₁ 34 #[vi p1, vi ((p1 &&& (2147483647 : Int32)) % (3 : Int32)), un, un] [] _
        refine st9 _ ?_
        show SS p e below m T9 37 #[vi p1, vi ((p1 &&& (2147483647 : Int32)) % (3 : Int32)), un, un] [(.ref wZ)] _
        refine XS.astoreN X9.here hx rfl (hb hby at_37) rfl rfl (l' := #[vi p1, vi ((p1 &&& (2147483647 : Int32)) % (3 : Int32)), vr wZ, un]) rfl ?_
        show SS p e below m T9 38 #[vi p1, vi ((p1 &&& (2147483647 : Int32)) % (3 : Int32)), vr wZ, un] [] _
        refine XS.iconst X9.here hx rfl (hb hby at_38) ?_
        show SS p e below m T9 39 #[vi p1, vi ((p1 &&& (2147483647 : Int32)) % (3 : Int32)), vr wZ, un] [(.int (1 : Int32))] _
        refine XS.istoreN X9.here hx rfl (hb hby at_39) rfl (l' := #[vi p1, vi ((p1 &&& (2147483647 : Int32)) % (3 : Int32)), vr wZ, vi (1 : Int32)]) rfl ?_
        show SS p e below m T9 40 #[vi p1, vi ((p1 &&& (2147483647 : Int32)) % (3 : Int32)), vr wZ, vi (1 : Int32)] [] _
        refine XS.aloadN X9.here hx rfl (hb hby at_40) rfl rfl ?_
        show SS p e below m T9 41 #[vi p1, vi ((p1 &&& (2147483647 : Int32)) % (3 : Int32)), vr wZ, vi (1 : Int32)] [(.ref wZ)] _
        refine st10.trans ?_
        show SS p e below m T10 44 #[vi p1, vi ((p1 &&& (2147483647 : Int32)) % (3 : Int32)), vr wZ, vi (1 : Int32)] [(.int (if wZ = wO then (0 : Int32) else 1))] _
        refine XS.iloadN X10.here hx rfl (hb hby at_44) rfl ?_
        show SS p e below m T10 45 #[vi p1, vi ((p1 &&& (2147483647 : Int32)) % (3 : Int32)), vr wZ, vi (1 : Int32)] [(.int (1 : Int32)), (.int (if wZ = wO then (0 : Int32) else 1))] _
        refine XS.icmpNo X10.here hx rfl (hb hby at_45) rfl (teq (by simp [ne_K, ne_Z])).2 ?_
        show SS p e below m T10 48 #[vi p1, vi ((p1 &&& (2147483647 : Int32)) % (3 : Int32)), vr wZ, vi (1 : Int32)] [] _
        refine XS.iconst X10.here hx rfl (hb hby at_48) ?_
        show SS p e below m T10 49 #[vi p1, vi ((p1 &&& (2147483647 : Int32)) % (3 : Int32)), vr wZ, vi (1 : Int32)] [(.int (1 : Int32))] _
        refine XS.goto X10.here hx rfl (pc0 := 49) (pc' := 53) rfl (hb hby at_49) (by decide) (by decide) ?_
        show SS p e below m T10 53 #[vi p1, vi ((p1 &&& (2147483647 : Int32)) % (3 : Int32)), vr wZ, vi (1 : Int32)] [(.int (1 : Int32))] _
        exact retN X10 hx (t := .boolean) Bd.returns (by simp) (hb hby at_53) hr
      · show Q_rm0 Z p1 wO wK wZ h0 n0 _ T10.heap _
        rw [e10]
        exact ⟨rfl, N10, rfl⟩
set_option maxRecDepth 65536 in
set_option maxHeartbeats 40000000 in
theorem comes_1 {Post : Tables → Env → Array Value → State → Outcome → State → Prop} (hpost : ∀ tb e args s v u, (limb_1_1.after args s (.returned v) u = true ∧ limb_1_2.after args s (.returned v) u = true ∧ True) → FrameEnd s (.returned v) u (Jvm.fieldLocs frame_1_writes args s ++ Jvm.arrayLocs frame_1_arrays args s ++ Jvm.staticLocs frame_1_statics s) 0 0 → Post tb e args s (.returned v) u) :
    ArmFor flags0 classFile x code maxLocals ret World_1 tables_1 room_1 Calls_1 rest_1 Pre_1 Post := by
  intro l hfl _ _ p e ha hc hk s m args below hf hA hF happ hP
  obtain ⟨hcalls, hrest, hpre⟩ := hP
  obtain ⟨-, -, -, hnamed, -, -, -, hat⟩ := (Spec.applies_iff hf).mp happ
  obtain ⟨hg, hn⟩ := and_e (Cond.before_iff.mp (show (Jvm.Cond.and given_1 narrow_1).before args s = true from hpre))
  obtain ⟨nw1, nv1⟩ := and_e hg
  obtain ⟨w0, rfl⟩ : ∃ w0 : Value, args = #[w0] := by
    have hs : args.size = 1 := by simpa [Cond.value, given_1] using nw1
    obtain ⟨L⟩ := args
    match L, hs with
    | [w0], _ => exact ⟨w0, rfl⟩
  have hw := fun d (hd : d ∈ tables_1) => atoms_spec (ws := Jvm.Cond.code x code maxLocals ret :: tables_1) hat d (List.mem_cons_of_mem _ hd)
  have hfit : Fit s := fun {y c} hc i hi => by
    obtain ⟨ha, rfl⟩ := Array.getElem?_eq_some_iff.mp hc
    have q := List.all_eq_true.mp ((Array.all_eq_true_iff_forall_mem.mp hF) _ (Array.getElem_mem ha)) i (List.mem_range.mpr hi)
    simpa [Array.getElem?_eq_getElem hi] using q
  obtain ⟨i0, ei0⟩ := is_v nv1
  obtain rfl : w0 = (.int i0) := Option.some.inj ei0
  obtain ⟨nw2, nv2⟩ := and_e hn
  obtain ⟨nw3, nv3⟩ := and_e nv2
  obtain ⟨nw4, nv4⟩ := and_e nv3
  obtain ⟨nw5, nv5⟩ := and_e nv4
  obtain ⟨nw6, nv6⟩ := and_e nv5
  obtain ⟨u_OMIT, ev_OMIT⟩ := exa_v nw2
  have E_u_OMIT := Exa.start ev_OMIT nw2
  have S_OMIT := Sta.start ev_OMIT (Or.inr ⟨(ww hw 2 rfl), (ww hw 3 rfl)⟩)
  obtain ⟨u_ZERO, ev_ZERO⟩ := exa_v nw3
  have E_u_ZERO := Exa.start ev_ZERO nw3
  have S_ZERO := Sta.start ev_ZERO (Or.inr ⟨(ww hw 2 rfl), (ww hw 11 rfl)⟩)
  obtain ⟨u_KEEP, ev_KEEP⟩ := exa_v nw6
  have E_u_KEEP := Exa.start ev_KEEP nw6
  have S_KEEP := Sta.start ev_KEEP (Or.inr ⟨(ww hw 2 rfl), (ww hw 13 rfl)⟩)
  have F_ordinal_ZERO := own_fld ev_ZERO nw4
  have F_ordinal_OMIT := own_fld ev_OMIT nw5
  have F_ordinal_KEEP := own_fld ev_KEEP nv6
  obtain ⟨n, o, h1, h2, h3, _, L, rfl, ⟨rfl, N, -⟩, hq⟩ := rm0 l s _ hw tables_1 i0 u_OMIT u_KEEP u_ZERO s.heap s.heap.size (Nat.le_refl _) (Old.start s) S_OMIT S_KEEP S_ZERO E_u_OMIT E_u_KEEP E_u_ZERO (Fld.ne F_ordinal_KEEP F_ordinal_OMIT (by simp)) (Fld.ne F_ordinal_ZERO F_ordinal_OMIT (by simp)) p e ha hc hk s m _ below hf ((Spec.applies_iff_loose hf).mp happ).1 ⟨rfl, State.Warmed39.refl s, rfl⟩ trivial
  refine ⟨n, _, h1, h2, h3, hpost _ _ _ _ _ _ ⟨Cond.after_iff.mpr rfl, Cond.after_iff.mpr (eq_i res_at (Term.int_eval (1)) rfl), trivial⟩ ⟨hq.1, hq.2.1, (hq.2.2.sift fun y hy => Or.inr (N y hy)).mono (by decide) (by decide)⟩⟩
theorem main_1_1 : Claimed_1_1 := comes_1 fun _ _ _ _ _ _ h hF => ⟨h.1, hF⟩
theorem main_1_2 : Claimed_1_2 := comes_1 fun _ _ _ _ _ _ h hF => ⟨h.2.1, hF⟩
end Jvm.Pilot.@@N@@
namespace Jvm.Pilot.@@N@@
open Jvm Jvm.ClassFile Sem Op Lib Jvm.Free Jvm.Stand Jvm.Pilot.@@N@@.Jvm.D
/-! MADE BY PROGRAM (witnessworld.py) out of the Statement's table words and the real class files: 12 classes; the members and pool entries that the words name. The judged class is class 1, her method 1. -/
namespace start1
open Jvm.ClassFile
def u (s : String) : CpInfo := .utf8 (stringToUtf16 s)
/-- a pool by its gaps: so many unusable entries, then the entry; so many at the end -/
def gap : Nat → List CpInfo → List CpInfo
  | 0, r => r
  | n + 1, r => .unusable :: gap n r
def poolList (es : List (Nat × CpInfo)) (last : Nat) : List CpInfo := es.foldr (fun e r => gap e.1 (e.2 :: r)) (gap last [])
def pool (es : List (Nat × CpInfo)) (last : Nat) : Array CpInfo := ⟨poolList es last⟩
def fileOf (pool : Array CpInfo) (this : Nat) (attrs : Array Attribute := #[]) (ms : Array MethodInfo := #[]) (fl : Nat := 33) (sup : Nat := 0) (ifs : Array Nat := #[]) (fds : Array FieldInfo := #[]) : ClassFile where
  minorVersion := 0
  majorVersion := 65
  constantPool := pool
  accessFlags := fl
  thisClass := this
  superClass := sup
  interfaces := ifs
  fields := fds
  methods := ms
  attributes := attrs
def plain (name : String) (sup : Option ClassId) : Class where
  name := name
  kind := .ordinary
  loader := none
  accessFlags := 33
  super := sup
  interfaces := #[]
  cf := none
  fields := #[]
  methods := #[]
  instanceTypes := #[]
  staticTypes := #[]
  resolved := #[]
  callSites := []
  init := .initialized
  statics := none
  mirror := none

def pool0 : Array CpInfo := pool [(5, u "<init>"), (0, u "()V"), (1, .class_ 10), (1, u "java/lang/Object")] 113

def k0m0 : Method := { name := "<init>", desc := "()V", sig := { parameters := [], returnType := none }, accessFlags := 1, code := none }
/-- java/lang/Object -/
def k0 : Class := { plain "java/lang/Object" none with
  accessFlags := 33
  interfaces := #[]
  cf := some (fileOf pool0 8 #[] #[{ accessFlags := 1, nameIndex := 5, descriptorIndex := 6, attributes := #[] }] 33 0 #[] #[])
  fields := #[]
  methods := #[k0m0]
  instanceTypes := #[]
  staticTypes := #[]
  resolved := Array.replicate 124 none
  statics := none }

def pool1 : Array CpInfo := pool [(2, .class_ 4), (1, u "java/lang/Object"), (0, u "<init>"), (0, u "()V"), (0, .integer 2147483647), (0, .fieldref 9 10), (0, .class_ 11), (0, .nameAndType 12 13), (0, u "com/example/soundings/soundings/query/EmptyBuckets"), (0, u "OMIT"), (0, u "Lcom/example/soundings/soundings/query/EmptyBuckets;"), (0, .fieldref 9 15), (0, .nameAndType 16 13), (0, u "KEEP"), (0, .fieldref 9 18), (0, .nameAndType 19 13), (0, u "ZERO"), (0, .methodref 9 21), (0, .nameAndType 22 23), (0, u "hasRow"), (0, u "()Z"), (0, .class_ 25), (0, u "com/example/soundings/soundings/query/EmptyBucketsHasRowPinLaw"), (2, u "law"), (0, u "(I)Z")] 3

def k1m0 : Method := { name := "<init>", desc := "()V", sig := { parameters := [], returnType := none }, accessFlags := 2, code := none }
def k1c1 : Code := { maxStack := 2, maxLocals := 4, code := code, exceptionTable := #[], attributes := #[] }
def k1m1 : Method := { name := "law", desc := "(I)Z", sig := { parameters := [.int], returnType := some .boolean }, accessFlags := 9, code := some k1c1 }
/-- com/example/soundings/soundings/query/EmptyBucketsHasRowPinLaw -/
def k1 : Class := { plain "com/example/soundings/soundings/query/EmptyBucketsHasRowPinLaw" (some 0) with
  accessFlags := 49
  interfaces := #[]
  cf := some (fileOf pool1 24 #[] #[{ accessFlags := 2, nameIndex := 5, descriptorIndex := 6, attributes := #[] }, { accessFlags := 9, nameIndex := 28, descriptorIndex := 29, attributes := #[] }] 49 2 #[] #[])
  fields := #[]
  methods := #[k1m0, k1m1]
  instanceTypes := #[]
  staticTypes := #[]
  resolved := Array.replicate 33 none
  statics := none }

def pool2 : Array CpInfo := pool [(1, .class_ 2), (0, u "java/lang/constant/Constable"), (0, .class_ 4), (0, u "java/lang/Object")] 6

/-- java/lang/constant/Constable -/
def k2 : Class := { plain "java/lang/constant/Constable" (some 0) with
  accessFlags := 1537
  interfaces := #[]
  cf := some (fileOf pool2 1 #[] #[] 1537 3 #[] #[])
  fields := #[]
  methods := #[]
  instanceTypes := #[]
  staticTypes := #[]
  resolved := Array.replicate 11 none
  statics := none }

def pool3 : Array CpInfo := pool [(1, .class_ 2), (0, u "java/lang/Comparable"), (0, .class_ 4), (0, u "java/lang/Object")] 7

/-- java/lang/Comparable -/
def k3 : Class := { plain "java/lang/Comparable" (some 0) with
  accessFlags := 1537
  interfaces := #[]
  cf := some (fileOf pool3 1 #[] #[] 1537 3 #[] #[])
  fields := #[]
  methods := #[]
  instanceTypes := #[]
  staticTypes := #[]
  resolved := Array.replicate 12 none
  statics := none }

def pool4 : Array CpInfo := pool [(1, .class_ 2), (0, u "java/io/Serializable"), (0, .class_ 4), (0, u "java/lang/Object")] 2

/-- java/io/Serializable -/
def k4 : Class := { plain "java/io/Serializable" (some 0) with
  accessFlags := 1537
  interfaces := #[]
  cf := some (fileOf pool4 1 #[] #[] 1537 3 #[] #[])
  fields := #[]
  methods := #[]
  instanceTypes := #[]
  staticTypes := #[]
  resolved := Array.replicate 7 none
  statics := none }

def pool5 : Array CpInfo := pool [(2, .class_ 4), (1, u "java/lang/Enum"), (0, u "name"), (0, u "Ljava/lang/String;"), (2, u "ordinal"), (0, u "I"), (1, .class_ 14), (1, u "java/lang/Object"), (4, u "hash"), (86, .class_ 108), (1, u "java/lang/Enum$EnumDesc"), (2, .class_ 112), (0, u "java/lang/constant/Constable"), (0, .class_ 114), (0, u "java/lang/Comparable"), (0, .class_ 116), (0, u "java/io/Serializable")] 87

/-- java/lang/Enum -/
def k5 : Class := { plain "java/lang/Enum" (some 0) with
  accessFlags := 1057
  interfaces := #[2, 3, 4]
  cf := some (fileOf pool5 2 #[.nestMembers #[106]] #[] 1057 12 #[111, 113, 115] #[{ accessFlags := 18, nameIndex := 5, descriptorIndex := 6, attributes := #[] }, { accessFlags := 18, nameIndex := 9, descriptorIndex := 10, attributes := #[] }, { accessFlags := 2, nameIndex := 19, descriptorIndex := 10, attributes := #[] }])
  fields := #[{ name := "name", type := (.object "java/lang/String"), accessFlags := 18, slot := 0, constantValue := 0 }, { name := "ordinal", type := .int, accessFlags := 18, slot := 1, constantValue := 0 }, { name := "hash", type := .int, accessFlags := 2, slot := 2, constantValue := 0 }]
  methods := #[]
  instanceTypes := #[(.object "java/lang/String"), .int, .int]
  staticTypes := #[]
  resolved := Array.replicate 204 none
  statics := none }

def pool6 : Array CpInfo := pool [(1, .class_ 2), (0, u "com/example/soundings/soundings/query/EmptyBuckets"), (0, .fieldref 1 4), (0, .nameAndType 5 6), (0, u "OMIT"), (0, u "Lcom/example/soundings/soundings/query/EmptyBuckets;"), (2, u "KEEP"), (2, u "ZERO"), (2, u "$VALUES"), (0, u "[Lcom/example/soundings/soundings/query/EmptyBuckets;"), (6, .class_ 25), (1, u "java/lang/Enum"), (8, u "label"), (0, u "Ljava/lang/String;"), (2, u "noValue"), (0, u "Ljava/lang/Double;"), (2, u "LABELS"), (0, u "Lcom/example/soundings/soundings/query/Labels;"), (47, u "hasRow"), (0, u "()Z")] 31

def k6c0 : Code := { maxStack := 2, maxLocals := 1, code := prog_9_method_6_code, exceptionTable := #[], attributes := #[] }
def k6m0 : Method := { name := "hasRow", desc := "()Z", sig := { parameters := [], returnType := some .boolean }, accessFlags := 0, code := some k6c0 }
/-- com/example/soundings/soundings/query/EmptyBuckets -/
def k6 : Class := { plain "com/example/soundings/soundings/query/EmptyBuckets" (some 5) with
  accessFlags := 16433
  interfaces := #[]
  cf := some (fileOf pool6 1 #[] #[{ accessFlags := 0, nameIndex := 91, descriptorIndex := 92, attributes := #[] }] 16433 23 #[] #[{ accessFlags := 16409, nameIndex := 5, descriptorIndex := 6, attributes := #[] }, { accessFlags := 16409, nameIndex := 9, descriptorIndex := 6, attributes := #[] }, { accessFlags := 16409, nameIndex := 12, descriptorIndex := 6, attributes := #[] }, { accessFlags := 26, nameIndex := 42, descriptorIndex := 43, attributes := #[] }, { accessFlags := 18, nameIndex := 34, descriptorIndex := 35, attributes := #[] }, { accessFlags := 18, nameIndex := 38, descriptorIndex := 39, attributes := #[] }, { accessFlags := 4122, nameIndex := 15, descriptorIndex := 16, attributes := #[] }])
  fields := #[{ name := "OMIT", type := (.object "com/example/soundings/soundings/query/EmptyBuckets"), accessFlags := 16409, slot := 0, constantValue := 0 }, { name := "KEEP", type := (.object "com/example/soundings/soundings/query/EmptyBuckets"), accessFlags := 16409, slot := 1, constantValue := 0 }, { name := "ZERO", type := (.object "com/example/soundings/soundings/query/EmptyBuckets"), accessFlags := 16409, slot := 2, constantValue := 0 }, { name := "LABELS", type := (.object "com/example/soundings/soundings/query/Labels"), accessFlags := 26, slot := 3, constantValue := 0 }, { name := "label", type := (.object "java/lang/String"), accessFlags := 18, slot := 3, constantValue := 0 }, { name := "noValue", type := (.object "java/lang/Double"), accessFlags := 18, slot := 4, constantValue := 0 }, { name := "$VALUES", type := (.array (.object "com/example/soundings/soundings/query/EmptyBuckets")), accessFlags := 4122, slot := 4, constantValue := 0 }]
  methods := #[k6m0]
  instanceTypes := #[(.object "java/lang/String"), .int, .int, (.object "java/lang/String"), (.object "java/lang/Double")]
  staticTypes := #[(.object "com/example/soundings/soundings/query/EmptyBuckets"), (.object "com/example/soundings/soundings/query/EmptyBuckets"), (.object "com/example/soundings/soundings/query/EmptyBuckets"), (.object "com/example/soundings/soundings/query/Labels"), (.array (.object "com/example/soundings/soundings/query/EmptyBuckets"))]
  resolved := Array.replicate 124 none
  statics := some 0 }

def pool7 : Array CpInfo := pool [(1, u "java/lang/Cloneable"), (0, .class_ 1), (0, u "java/lang/Object"), (0, .class_ 3)] 3

/-- java/lang/Cloneable -/
def k7 : Class := { plain "java/lang/Cloneable" (some 0) with
  accessFlags := 1537
  interfaces := #[]
  cf := some (fileOf pool7 2 #[] #[] 1537 4 #[] #[])
  fields := #[]
  methods := #[]
  instanceTypes := #[]
  staticTypes := #[]
  resolved := Array.replicate 8 none
  statics := none }

/-- the primitive byte -/
def k8 : Class := { plain "byte" none with kind := .primitive 'B', accessFlags := 0x411 }
/-- [B -/
def k9 : Class := { plain "[B" (some 0) with kind := .array 8 .byte, interfaces := #[7, 4], accessFlags := 1041 }

/-- the primitive int -/
def k10 : Class := { plain "int" none with kind := .primitive 'I', accessFlags := 0x411 }
/-- [I -/
def k11 : Class := { plain "[I" (some 0) with kind := .array 10 .int, interfaces := #[7, 4], accessFlags := 1041 }

def heap : Heap := #[{ cls := 6, slots := #[.ref 1, .ref 2, .ref 3, .null, .null], vm := .statics 6 },
  { cls := 6, slots := #[.null, .int 0, .int 0, .null, .null], vm := .none },
  { cls := 6, slots := #[.null, .int 1, .int 0, .null, .null], vm := .none },
  { cls := 6, slots := #[.null, .int 2, .int 0, .null, .null], vm := .none }]
def classes : Array Class := #[k0, k1, k2, k3, k4, k5, k6, k7, k8, k9, k10, k11]
def interned : List (Array UInt16 × Addr) := []
def slotsUsed : Nat := 20
def theMethod : MethodId := ⟨1, 1⟩
def args0 : Array Value := #[.int 5]
def aboutOver (below : List Frame) : State where
  vm := { classes := classes, interned := interned.toArray }
  heap := heap
  slotsUsed := slotsUsed
  threads := #[{ frames := .invoking theMethod args0 :: below }]
def below0 : List Frame := [.native { method := ⟨0, 0⟩, args := #[] }]
def about1 : State := aboutOver below0
def p0 : Program := .bare "" "" ""
def e0 : Env := launch0.env 0 0 0
theorem w_frames : about1.frames = Frame.invoking theMethod args0 :: below0 := rfl
set_option maxRecDepth 65536 in
theorem w_args : argsFit about1.vm theMethod args0 = true := by decide +kernel
set_option maxRecDepth 65536 in
theorem w_heap : heapFits about1 = true := by decide +kernel
set_option maxRecDepth 65536 in
theorem w_runnable : about1.curStatus? = some .runnable := by decide +kernel
set_option maxRecDepth 65536 in
theorem w_alone : about1.alone = true := by decide +kernel
set_option maxRecDepth 65536 in
theorem w_named : about1.methodNamed? x = some theMethod := by decide +kernel
set_option maxRecDepth 65536 in
theorem w_hears : about1.hears theMethod below0 = true := by decide +kernel
set_option maxRecDepth 65536 in
theorem w_ripe : about1.ripe theMethod args0 below0 = true := by decide +kernel
theorem w_running : about1.status = .running := rfl
set_option maxRecDepth 65536 in
theorem w_room : about1.hasRoom e0.platform room_1 = true :=
  launch0.hasRoom_least _ room_1 (by decide +kernel) (by decide +kernel) (by decide +kernel) (by decide +kernel) (by decide +kernel) (by decide +kernel)
theorem allAtoms_all (ts : List Jvm.Cond) (a : Array Jvm.Value) (st : Jvm.State) : (allAtoms ts).before a st = ts.all (fun c => c.before a st) := by
  induction ts with
  | nil => rfl
  | cons c t ih =>
    show (Jvm.Cond.and c (allAtoms t)).before a st = _
    rw [Jvm.Cond.before_and, ih, List.all_cons]
def words1 : List Jvm.Cond := Jvm.Cond.code x code maxLocals ret :: tables_1
/-- a 'code' word, met by the world's own term for the bytes: nothing is compared byte by byte -/
theorem code_word {y : MethodName} {bytes : ByteArray} {mx : Nat} {rt : Option FieldType} {a : Array Value} {s : State} {m : MethodId} {meth : Method} {c : Code} (h1 : s.methodNamed? y = some m) (h2 : s.vm.method? m = some meth) (h3 : meth.code = some c) (h4 : c.code = bytes)
    (h5 : (c.maxLocals == mx && c.exceptionTable.isEmpty && decide (c.maxStack ≤ mostOperands) && decide (meth.sig.returnType = rt) && !meth.locks && decide (parseMethodDescriptor y.desc = some meth.sig)) = true) : (Jvm.Cond.code y bytes mx rt).before a s = true := by
  simp only [Bool.and_eq_true, beq_iff_eq, Bool.not_eq_true', decide_eq_true_eq] at h5
  obtain ⟨⟨⟨⟨⟨g1, g2⟩, g3⟩, g4⟩, g5⟩, g6⟩ := h5
  simp [Cond.before, Cond.holds, Cond.value, h1, h2, h3, h4, g1, g2, g3, g4, g5, g6]
def isCode : Jvm.Cond → Bool
  | .code _ _ _ _ => true
  | _ => false
theorem all_split {L : List Jvm.Cond} {P : Jvm.Cond → Bool} (h1 : L.all (fun c => isCode c || P c) = true) (h2 : ∀ c ∈ L.filter isCode, P c = true) : L.all P = true := by
  refine List.all_eq_true.mpr fun c hc => ?_
  have h := List.all_eq_true.mp h1 c hc
  rcases Bool.eq_false_or_eq_true (isCode c) with hi | hi
  · exact h2 c (List.mem_filter.mpr ⟨hc, hi⟩)
  · simpa [hi] using h
set_option maxRecDepth 65536 in
theorem w_c0 : (Jvm.Cond.code x code maxLocals ret).before args0 about1 = true := code_word (m := ⟨1, 1⟩) (meth := k1m1) (c := k1c1) (by decide +kernel) rfl rfl rfl (by decide +kernel)
set_option maxRecDepth 65536 in
theorem w_c1 : (Jvm.Cond.code ({ cls := "com/example/soundings/soundings/query/EmptyBuckets", name := "hasRow", desc := "()Z" } : Jvm.MethodName) prog_9_method_6_code (1 : Nat) (Option.some Jvm.ClassFile.FieldType.boolean)).before args0 about1 = true := code_word (m := ⟨6, 0⟩) (meth := k6m0) (c := k6c0) (by decide +kernel) rfl rfl rfl (by decide +kernel)
def codes1 : List Jvm.Cond := [Jvm.Cond.code x code maxLocals ret, Jvm.Cond.code ({ cls := "com/example/soundings/soundings/query/EmptyBuckets", name := "hasRow", desc := "()Z" } : Jvm.MethodName) prog_9_method_6_code (1 : Nat) (Option.some Jvm.ClassFile.FieldType.boolean)]
set_option maxRecDepth 65536 in
theorem codes_eq : words1.filter isCode = codes1 := rfl
theorem w_codes : ∀ c ∈ words1.filter isCode, c.before args0 about1 = true := by
  rw [codes_eq]
  intro c hc
  simp only [codes1, List.mem_cons, List.not_mem_nil, or_false] at hc
  rcases hc with rfl | rfl
  · exact w_c0
  · exact w_c1
set_option maxRecDepth 65536 in
theorem w_t1 : words1.all (fun c => isCode c || c.before args0 about1) = true := by decide +kernel
theorem w_tables : (allAtoms (Jvm.Cond.code x code maxLocals ret :: tables_1)).before args0 about1 = true := by
  rw [allAtoms_all]
  show words1.all (fun c => c.before args0 about1) = true
  refine all_split ?_ w_codes
  rw [w_t1]
set_option maxRecDepth 65536 in
theorem w_case : (Jvm.Cond.and given_1 narrow_1).before args0 about1 = true := by decide +kernel
theorem w_applies : (headSpec (Jvm.Cond.code x code maxLocals ret :: tables_1) room_1).applies x e0.platform about1 = true :=
  (Spec.applies_iff w_frames).mpr ⟨w_running, w_runnable, w_alone, w_named, w_hears, w_ripe, w_room, w_tables⟩
theorem atStart : AtStart classFile x code maxLocals ret World_1 tables_1 room_1 Calls_1 rest_1 Pre_1 launch0 p0 e0 about1 theMethod args0 below0 :=
  ⟨lists_1, trivial, launch0.admits_env _ _ _, launch0.least_env, fairChoices_fair.cas, fairChoices_fair.clock, w_frames, w_args, w_heap, w_applies, trivial, trivial, w_case⟩
end start1
theorem witness_1 : WitnessClaimed_1 := ⟨start1.p0, start1.e0, start1.about1, start1.theMethod, start1.args0, start1.below0, start1.atStart⟩
end Jvm.Pilot.@@N@@
