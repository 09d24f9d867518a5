import JvmDerived
import JvmDerived.Pilot.@@N@@Statement
import JvmDerived.Pilot.@@N@@Code
set_option linter.unusedVariables false
set_option linter.unusedSimpArgs false
namespace Jvm.RoadKit
open Sem ClassFile Op Lib Jvm.Stand Jvm.Free Jvm.LawKit
section New
variable {p : Program} {l : Launch} {e : Env} {R : Room} {s : State} {m : MethodId} {args : Array Value} {below : List Frame} {meth : Method} {c : Code} {T : State} {locs : List Loc} {cells slots : Nat}
theorem retI (X : Stand p l e R s m args below meth c T locs cells slots) (hx : p.tables.exec = Jvm.exec) {pc : Nat} {Ls : Array Slot} {z : Int32} {rest : List Value} (hret : meth.sig.returnType = some .int) (hd : decode c.code pc = .ok (.ireturn, 1)) {fs : List Frame}
    (hl : ∀ (f : JFrame) (acts : List Action), f.method = m → f.locked = none → f.entered = [] → (doReturn e (T.setTop f) acts (some (.int z))).1 = T.setFrames fs) : Steps p.tables e below (T.setTop (mkF m pc Ls (.int z :: rest))) (T.setFrames fs) := by
  have hm' : T.vm.method? m = some meth := X.method'
  have hn : narrow .int (.int z) = .int z := rfl
  show Steps p.tables e below (T.setTop { method := m, pc := pc, locals := Ls, stack := _ :: rest, locked := none }) _
  jvm_step X.here [X.here.top, hx, hd, hm', hret, hn]
  first | (intro acts; rw [hl _ acts rfl rfl rfl]) | rw [hl _ _ rfl rfl rfl]
  exact Steps.refl _
end New
end Jvm.RoadKit
namespace Jvm.Pilot.@@N@@
open Jvm Jvm.ClassFile Sem Op Lib Jvm.Free Jvm.Stand Jvm.LawKit Jvm.RoadKit Bundle Jvm.Pilot.@@N@@.Jvm.D
abbrev vi (x : Int32) : Slot := .val (.int x)
abbrev vj (x : Int64) : Slot := .val (.long x)
abbrev vr (x : Addr) : Slot := .val (.ref x)
abbrev vN : Slot := .val .null
abbrev un : Slot := .unset
abbrev SS (p : Program) (e : Env) (below : List Frame) (m : MethodId) (T : State) (pc : Nat) (L : Array Slot) (S : List Value) (t : State) : Prop := Steps p.tables e below (T.setTop (mkF m pc L S)) t
theorem ww {a0 : Array Value} {Z : State} (hw : ∀ d ∈ tables_1, d.before a0 Z = true) (i : Nat) {d : Jvm.Cond} (h : tables_1[i]? = some d) : d.before a0 Z = true := hw _ (List.mem_of_getElem? h)
abbrev y_0 : MethodName := ⟨"com/example/brisk_tableau/brisktableau/tableau/SharedList$Store", "<init>", "([Ljava/lang/Object;I)V"⟩
abbrev y_1 : MethodName := ⟨"com/example/brisk_tableau/brisktableau/tableau/SharedList", "<init>", "(Lcom/example/brisk_tableau/brisktableau/tableau/SharedList$Store;I)V"⟩
abbrev y_2 : MethodName := ⟨"com/example/brisk_tableau/brisktableau/tableau/SharedList", "<init>", "()V"⟩
abbrev y_3 : MethodName := ⟨"java/lang/Number", "<init>", "()V"⟩
abbrev y_4 : MethodName := ⟨"java/lang/Integer", "<init>", "(I)V"⟩
abbrev y_5 : MethodName := ⟨"java/lang/Integer", "valueOf", "(I)Ljava/lang/Integer;"⟩
abbrev y_6 : MethodName := ⟨"java/lang/Integer", "intValue", "()I"⟩
abbrev y_7 : MethodName := ⟨"java/util/Objects", "requireNonNull", "(Ljava/lang/Object;)Ljava/lang/Object;"⟩
abbrev y_8 : MethodName := ⟨"java/lang/Math", "max", "(II)I"⟩
abbrev y_9 : MethodName := ⟨"java/lang/Math", "min", "(II)I"⟩
abbrev y_10 : MethodName := ⟨"java/util/Arrays", "copyOf", "([Ljava/lang/Object;ILjava/lang/Class;)[Ljava/lang/Object;"⟩
abbrev y_11 : MethodName := ⟨"java/util/Arrays", "copyOf", "([Ljava/lang/Object;I)[Ljava/lang/Object;"⟩
abbrev y_12 : MethodName := ⟨"com/example/brisk_tableau/brisktableau/tableau/SharedList", "add", "(Ljava/lang/Object;)V"⟩
abbrev y_13 : MethodName := ⟨"com/example/brisk_tableau/brisktableau/tableau/SharedList", "copy", "()Lcom/example/brisk_tableau/brisktableau/tableau/SharedList;"⟩
abbrev y_14 : MethodName := ⟨"com/example/brisk_tableau/brisktableau/tableau/SharedList$1", "<init>", "(Lcom/example/brisk_tableau/brisktableau/tableau/SharedList;I[Ljava/lang/Object;)V"⟩
abbrev y_15 : MethodName := ⟨"com/example/brisk_tableau/brisktableau/tableau/SharedList", "iterator", "()Ljava/util/Iterator;"⟩
abbrev y_16 : MethodName := ⟨"com/example/brisk_tableau/brisktableau/tableau/SharedList$1", "hasNext", "()Z"⟩
abbrev y_17 : MethodName := ⟨"com/example/brisk_tableau/brisktableau/tableau/SharedList$1", "next", "()Ljava/lang/Object;"⟩
abbrev y_18 : MethodName := ⟨"com/example/brisk_tableau/brisktableau/tableau/SharedList", "size", "()I"⟩
abbrev y_19 : MethodName := ⟨"java/util/Iterator", "hasNext", "()Z"⟩
abbrev y_20 : MethodName := ⟨"com/example/brisk_tableau/brisktableau/tableau/SharedListCopyPinLaw", "holds", "(Lcom/example/brisk_tableau/brisktableau/tableau/SharedList;IIIIIZ)Z"⟩
abbrev y_21 : MethodName := ⟨"java/util/Iterator", "next", "()Ljava/lang/Object;"⟩
theorem own_fld {args : Array Value} {s : State} {t : Term} {C f d : String} {k : Int32} {w : Addr} (ev : t.eval args s none [] s = some (.ref w)) (h : (Jvm.Cond.eq (Term.field t C f d) (Term.int k)).value args s none s [] = some true) : Fld s s.heap w C f d (.int k) := Fld.start ((fld_at ev).symm.trans (eqv_i (Term.int_eval k) h))
section OwnLib
variable {p : Program} {l : Launch} {e : Env} {R : Room} {s : State} {m : MethodId} {args : Array Value} {below : List Frame} {meth : Method} {c : Code} {T : State} {locs : List Loc} {cells slots : Nat} {Z : State} {a0 : Array Value} {h : Heap}
theorem own_ready (X : Stand p l e R s m args below meth c T locs cells slots) {index cf : Nat} {f : Field} (h : s.vm.fieldReady m.cls index cf f) : T.vm.fieldReady m.cls index cf f := by
  obtain ⟨k, i, kc, h1, h2, h3, h4⟩ := h
  obtain ⟨k', hk', he⟩ := X.warmed.alike.2.2 _ _ h1
  obtain ⟨kc', hkc', hec⟩ := X.warmed.alike.2.2 _ _ h3
  refine ⟨k', i, kc', hk', ?_, hkc', by rw [hec]; exact h4⟩
  rcases X.warmed.entry h1 hk' index with q | ⟨q, -⟩
  · rw [q]; exact h2
  · rw [h2] at q; cases q
theorem own_ref {own O n d : String} {index : Nat} (hZ : Z.Warmed39 s.vm) (w : (Jvm.Cond.fieldRef own index O n d).before a0 Z = true) : (Jvm.Cond.fieldRef own index O n d).before args s = true := by
  have h1 : (Jvm.Cond.fieldRef own index O n d).before a0 (Z.setVm s.vm) = true := Cond.fieldRef_warmed39 hZ w
  exact h1
theorem getFR (X : Stand p l e R s m args below meth c T locs cells slots) (hx : p.tables.exec = Jvm.exec) (hZ : Z.Warmed39 s.vm) {own O n d : String} {index : Nat} (hown : s.vm.findClass own = some m.cls) (w : (Jvm.Cond.fieldRef own index O n d).before a0 Z = true)
    (eT : T.heap = h) {a : Addr} {v : Value} (F : Fld Z h a O n d v) {g : JFrame} (hg : g.method = m) {rest : List Value} (hs : g.stack = .ref a :: rest) (hd : decode c.code g.pc = .ok (.getfield index, 3)) : ∀ target, Steps p.tables e below (T.setTop { g with pc := g.pc + 3, stack := v :: rest }) target → Steps p.tables e below (T.setTop g) target := by
  obtain ⟨cf, k, i, f, hi, hr⟩ := Cond.fieldRef_spec hown (own_ref (args := args) hZ w)
  obtain ⟨cell, cf', k2, i2, f2, h1, h2, h3, h4, h5, h6, h7⟩ := F
  obtain ⟨k', hi', -⟩ := State.fieldFound?_setVm (s := Z) hZ.alike h2
  have hi2 : s.fieldFound? O n d = some (cf', k', i2, f2) := hi'
  cases hi.symm.trans hi2
  intro target kt
  exact (X.getfieldR hx hg (own_ready X hr) h3 hs (by rw [eT]; exact h1) h4 h7 hd (Steps.refl _)).trans kt
theorem putFR (X : Stand p l e R s m args below meth c T locs cells slots) (hx : p.tables.exec = Jvm.exec) (hZ : Z.Warmed39 s.vm) {own O n d C : String} {index kk : Nat} {ty : FieldType} (hown : s.vm.findClass own = some m.cls) (w : (Jvm.Cond.fieldRef own index O n d).before a0 Z = true)
    (eT : T.heap = h) {a : Addr} {v old : Value} (F : Fld Z h a O n d old) (E : Exa Z h a C) (L : (Jvm.Cond.lays C O n d).before a0 Z = true) (wi : (Jvm.Cond.instantiable C kk).before a0 Z = true)
    (hty : parseFieldDescriptor d = some ty) (hn : narrow ty v = v) (hf : fits ty v = true) {g : JFrame} (hg : g.method = m) {rest : List Value} (hs : g.stack = v :: .ref a :: rest) (hd : decode c.code g.pc = .ok (.putfield index, 3)) :
    ∃ T' h', Stand p l e R s m args below meth c T' (locs ++ [⟨a, Jvm.RoadKit.slotOf Z O n d⟩]) cells slots ∧ T'.heap = h' ∧ Wr h h' a (Jvm.RoadKit.slotOf Z O n d) v ∧ ∀ target, Steps p.tables e below (T'.setTop { g with pc := g.pc + 3, stack := rest }) target → Steps p.tables e below (T.setTop g) target := by
  obtain ⟨cf, k, i, f, hi, hr⟩ := Cond.fieldRef_spec hown (own_ref (args := args) hZ w)
  obtain ⟨cell, cf', k2, i2, f2, h1, h2, h3, h4, h5, h6, h7⟩ := F
  obtain ⟨k', hi', -⟩ := State.fieldFound?_setVm (s := Z) hZ.alike h2
  have hi2 : s.fieldFound? O n d = some (cf', k', i2, f2) := hi'
  cases hi.symm.trans hi2
  obtain ⟨cell', kc, e1, e2, e3, -, e5⟩ := E
  cases h1.symm.trans e1
  obtain ⟨c1, k1, cf1, kf1, i1, f1, u1, u2, u3, -, u5, -, u7, -⟩ := Cond.lays_spec L
  cases h2.symm.trans u3
  cases e2.symm.trans u1
  cases e3.symm.trans u2
  obtain ⟨c2, kI, j1, j2, j3, -⟩ := Cond.instantiable_spec wi
  cases e2.symm.trans j1
  cases e3.symm.trans j2
  have hT := (State.fieldFound?_type h2 hty).2
  have hlt := (Array.getElem?_eq_some_iff.mp h7).1
  have qs : Z.slotType? cell.cls cell.vm f.slot = some ty := by
    cases hv : cell.vm <;> simp [State.slotType?, e3, j3, u7, hT] <;> simp [hv, VmData.isStatics] at h5
  have fZ : Z.fitsSlot cell.cls cell.vm f.slot v = true := by simp [State.fitsSlot, qs, hf]
  have fT : T.fitsSlot cell.cls cell.vm f.slot v = true := by
    have hal : Z.vm.Alike T.vm := (wtrans hZ X.warmed).alike
    rw [← State.fitsSlot_setVm hal] at fZ; exact fZ
  have es : Jvm.RoadKit.slotOf Z O n d = f.slot := by simp [Jvm.RoadKit.slotOf, h2]
  rw [es]
  obtain ⟨X', st⟩ := X.putfieldReady hx (own_ready X hr) h3 (Or.inl u5) (by rw [eT]; exact h1) h4 hlt (by rw [hT]; exact hn) fT hg hs hd
  exact ⟨_, _, X', rfl, ⟨cell, h1, h5, hlt, by rw [← eT]; rfl⟩, st⟩
def own_Mir (Z : State) (C : String) (mr : Addr) : Prop := ∃ (c : ClassId) (k : Class), Z.vm.findClass C = some c ∧ Z.vm.classes[c]? = some k ∧ k.mirror = some mr
theorem own_ldcM (X : Stand p l e R s m args below meth c T locs cells slots) (hx : p.tables.exec = Jvm.exec) (hZ : Z.Warmed39 s.vm) {own C : String} {index : Nat} (hown : s.vm.findClass own = some m.cls) (w : (Jvm.Cond.classLink own index C).before a0 Z = true) (eT : T.heap = h) {mr : Addr} (M : own_Mir Z C mr)
    {g : JFrame} (hg : g.method = m) (hd : decode c.code g.pc = .ok (.ldc index, 2)) :
    ∃ T', Stand p l e R s m args below meth c T' locs cells slots ∧ T'.heap = h ∧ ∀ target, Steps p.tables e below (T'.setTop { g with pc := g.pc + 2, stack := .ref mr :: g.stack }) target → Steps p.tables e below (T.setTop g) target := by
  obtain ⟨cc, kc, m1, m2, m3⟩ := M
  obtain ⟨k', q, ek⟩ := hZ.alike.2.2 _ _ m2
  have f1 : s.vm.findClass C = some cc := by rw [hZ.alike.findClass]; exact m1
  have f2 : k'.mirror = some mr := by rw [ek]; exact m3
  obtain ⟨vm', X', st⟩ := X.ldcMirror hx hown (mvT hZ w) (a := mr) (by simp [Term.eval, f1, q, f2]) hg hd
  exact ⟨_, X', eT, st⟩
theorem own_gcls (X : Stand p l e R s m args below meth c T locs cells slots) (hx : p.tables.exec = Jvm.exec) (hZ : Z.Warmed39 s.vm) {own C : String} {index : Nat} (hown : s.vm.findClass own = some m.cls)
    (w1 : (Jvm.Cond.methodLink own index ⟨"java/lang/Object", "getClass", "()Ljava/lang/Class;"⟩).before a0 Z = true) (w2 : (Jvm.Cond.declares ⟨"java/lang/Object", "getClass", "()Ljava/lang/Class;"⟩).before a0 Z = true) (w4 : (Jvm.Cond.selects C ⟨"java/lang/Object", "getClass", "()Ljava/lang/Class;"⟩ ⟨"java/lang/Object", "getClass", "()Ljava/lang/Class;"⟩).before a0 Z = true)
    (w5 : (Jvm.Cond.instanceMethod ⟨"java/lang/Object", "getClass", "()Ljava/lang/Class;"⟩).before a0 Z = true) (w6 : (Jvm.Cond.native ⟨"java/lang/Object", "getClass", "()Ljava/lang/Class;"⟩).before a0 Z = true) (eT : T.heap = h) {a : Addr} (E : Exa Z h a C) {mr : Addr} (M : own_Mir Z C mr)
    {g : JFrame} (hg : g.method = m) (hsize : g.locals.size = c.maxLocals) {rest : List Value} (hs : g.stack = .ref a :: rest) (hd : decode c.code g.pc = .ok (.invokevirtual index, 3)) (hf : 1 ≤ R.frames) {W : Nat} (hW : 2 * g.monitorRoom + (rest.map fun v => v.category).sum ≤ W) (hl : W + (nativeFrameWords "java/lang/Object" "getClass" 1 + 11) ≤ R.locals) :
    ∃ T', Stand p l e R s m args below meth c T' locs cells slots ∧ T'.heap = h ∧ ∀ target, Steps p.tables e below (T'.setTop { g with pc := g.pc + 3, stack := .ref mr :: rest }) target → Steps p.tables e below (T.setTop g) target := by
  obtain ⟨cB, kB, i1, i2, i3⟩ := isOf hZ eT E
  obtain ⟨cc, kc, m1, m2, m3⟩ := M
  have f1 : s.vm.findClass C = some cc := by rw [hZ.alike.findClass]; exact m1
  cases i1.symm.trans f1
  obtain ⟨k', q, ek⟩ := hZ.alike.2.2 _ _ m2
  obtain ⟨vm', X', st⟩ := X.getClassOf hx hown (mvT hZ w1) (mvT hZ w2) (notFace_of_selects (args := #[]) (mvT hZ w4)) (mvT hZ w4) (mvT hZ w5) (mvT hZ w6) f1 i3 q (by rw [ek]; exact m3) hg hsize hs hd hf (by omega)
  exact ⟨_, X', eT, st⟩
def own_Els (Z : State) (h : Heap) (vs : List Value) : Prop := ∀ v ∈ vs, v = .null ∨ ∃ x, v = .ref x ∧ Exa Z h x "java/lang/Integer"
theorem own_els_nil : own_Els Z h [] := fun _ q => nomatch q
theorem own_els_cons {v : Value} {vs : List Value} (q : v = .null ∨ ∃ x, v = .ref x ∧ Exa Z h x "java/lang/Integer") (r : own_Els Z h vs) : own_Els Z h (v :: vs) := fun u hu => (List.mem_cons.mp hu).elim (fun e => e ▸ q) (r u)
theorem own_els_ext {h' : Heap} {vs : List Value} (H : own_Els Z h vs) (E : Ext h h') : own_Els Z h' vs := fun v hv => (H v hv).imp id fun ⟨x, q, r⟩ => ⟨x, q, r.ext E⟩
theorem own_stoL_of {b : Addr} : ∀ us : List Value, (∀ v ∈ us, Sto Z h b v) → StoL Z h b us
  | [], _ => trivial
  | v :: r, H => ⟨H v (List.mem_cons_self ..), own_stoL_of r fun u hu => H u (List.mem_cons_of_mem _ hu)⟩
theorem own_stoL {b : Addr} {k : ClassId} {z : Int32} {vd vs : List Value} {dd : Value} (A : Arv Z h b k (.object "java/lang/Object") z vd dd) (O : Ovr Z k "java/lang/Object") (w : (Jvm.Cond.castable "java/lang/Integer" "java/lang/Object").before a0 Z = true) (H : own_Els Z h vs) (L : List Nat) (j : Nat) : StoL Z h b (L.map fun i => vs.getD (j + i) .null) := by
  obtain ⟨cl, Ar, q, -⟩ := A
  refine own_stoL_of _ fun v hv => ?_
  obtain ⟨i, -, rfl⟩ := List.mem_map.mp hv
  by_cases hi : j + i < vs.length
  · have e1 : vs.getD (j + i) .null = vs[j + i] := by simp [List.getD, hi]
    rw [e1]
    rcases H _ (List.getElem_mem hi) with e | ⟨x, e, E⟩
    · exact Or.inl e
    · rw [e]; exact Sto.ofV Ar q O (Ins.of_exa E w)
  · have e1 : vs.getD (j + i) .null = .null := by simp [List.getD, hi]
    rw [e1]; exact Or.inl rfl
theorem own_len {t : Term} {a : Addr} {cl : Cell} {ty : FieldType} {z : Int32} {s : State} {args : Array Value} (ev : t.eval args s none [] s = some (.ref a)) (A : Arr s s.heap a cl ty) (h : (Term.length t).eval args s none [] s = some (.int z)) : cl.slots.size < 2 ^ 31 ∧ cl.slots.size.toInt32 = z := by
  have q := A.fin (U := s) (Vm.Alike.refl _)
  simp only [Term.eval, ev, q, Option.bind_eq_bind, Option.bind_some] at h
  split at h
  · rename_i hl
    exact ⟨hl, by simpa using h⟩
  · cases h
theorem own_idx {s : State} {args : Array Value} {j : Int32} (hj : ¬ j < 0) : (Term.sub (Term.index 0) (Term.int (128 : Int32))).eval args s none [j.toNatClampNeg] s = some (.int (j - (128 : Int32))) := by
  have q := idx_at (args := args) (s := s) (first := s) (o := none) hj
  simp only [Term.eval] at q ⊢
  simp [(back32 hj).1]
end OwnLib
theorem own_cin {p : Int32} (h1 : ¬ p < (-128 : Int32)) (h2 : ¬ (127 : Int32) < p) : ¬ (p + (128 : Int32)) < 0 ∧ (p + (128 : Int32)) < (256 : Int32) := by
  rw [Int32.lt_iff_toInt_lt] at *
  have q := c_iadd p 128
  have e0 : (0 : Int32).toInt = 0 := by decide
  have e1 : (-128 : Int32).toInt = -128 := by decide
  have e2 : (127 : Int32).toInt = 127 := by decide
  have e3 : (128 : Int32).toInt = 128 := by decide
  have e4 : (256 : Int32).toInt = 256 := by decide
  have r := rng32 (p + 128)
  have r2 := rng32 p
  rw [Int32.lt_iff_toInt_lt]
  omega
theorem own_cval {p : Int32} : p + (128 : Int32) - (128 : Int32) = p := by simp [Int32.add_sub_cancel]
theorem own_and3 (a : Int32) : a &&& (3 : Int32) = 0 ∨ a &&& (3 : Int32) = 1 ∨ a &&& (3 : Int32) = 2 ∨ a &&& (3 : Int32) = 3 := by
  have h := c_mask a 3 2 (by decide) (by decide)
  have e0 : (0 : Int32).toInt = 0 := by decide
  have e1 : (1 : Int32).toInt = 1 := by decide
  have e2 : (2 : Int32).toInt = 2 := by decide
  have e3 : (3 : Int32).toInt = 3 := by decide
  simp only [← Int32.toInt_inj, e0, e1, e2, e3]
  omega
theorem d2_0 : decode prog_114_method_1_code 0 = .ok (.aload_n 0, 1) := by decide +kernel
theorem d2_1 : decode prog_114_method_1_code 1 = .ok (.invokespecial 1, 3) := by decide +kernel
theorem d2_4 : decode prog_114_method_1_code 4 = .ok (.aload_n 0, 1) := by decide +kernel
theorem d2_5 : decode prog_114_method_1_code 5 = .ok (.aload_n 1, 1) := by decide +kernel
theorem d2_6 : decode prog_114_method_1_code 6 = .ok (.putfield 7, 3) := by decide +kernel
theorem d2_9 : decode prog_114_method_1_code 9 = .ok (.aload_n 0, 1) := by decide +kernel
theorem d2_10 : decode prog_114_method_1_code 10 = .ok (.iload_n 2, 1) := by decide +kernel
theorem d2_11 : decode prog_114_method_1_code 11 = .ok (.putfield 13, 3) := by decide +kernel
theorem d2_14 : decode prog_114_method_1_code 14 = .ok (.return_, 1) := by decide +kernel
theorem pn_0 : plainName "com/example/brisk_tableau/brisktableau/tableau/SharedList$Store" = true := by first | (simp [plainName, overriddenIn]; done) | decide +kernel
theorem ef_rmSt (m : MethodId) (x0 : Addr) (x1 : Addr) (x2 : Int32) : entryFrame m #[(.ref x0), (.ref x1), (.int x2)] 3 = mkF m 0 #[vr x0, vr x1, vi x2] [] := by first | (simp [entryFrame, mkF, argsToLocals, Value.category]; done) | rfl
def Q_rmSt (Z : State) (a1 : Addr) (a2 : Addr) (p3 : Int32) (h0 : Heap) (n0 : Nat) (v : Option Value) (h : Heap) (L : List Loc) : Prop := (v = none) ∧ (Fr n0 L) ∧ (Keep h0 h [a1]) ∧ (Fld Z h a1 "com/example/brisk_tableau/brisktableau/tableau/SharedList$Store" "items" "[Ljava/lang/Object;" (.ref a2)) ∧ (Fld Z h a1 "com/example/brisk_tableau/brisktableau/tableau/SharedList$Store" "filled" "I" (.int p3))
set_option maxRecDepth 65536 in
set_option maxHeartbeats 40000000 in
theorem rmSt (l : Launch) (Z : State) (a0 : Array Value) (hw : ∀ d ∈ tables_1, d.before a0 Z = true) (ws : List Jvm.Cond) (a1 : Addr) (a2 : Addr) (p3 : Int32) (h0 : Heap) (n0 : Nat) (Z0 : n0 ≤ h0.size) (O0 : Old Z n0 h0) (F_items_a1 : Fld Z h0 a1 "com/example/brisk_tableau/brisktableau/tableau/SharedList$Store" "items" "[Ljava/lang/Object;" .null) (F_filled_a1 : Fld Z h0 a1 "com/example/brisk_tableau/brisktableau/tableau/SharedList$Store" "filled" "I" (.int (0 : Int32))) (E_a1 : Exa Z h0 a1 "com/example/brisk_tableau/brisktableau/tableau/SharedList$Store") (g_a1 : n0 ≤ a1) :
    MetFree l y_0 (head1 (Jvm.Cond.code y_0 prog_114_method_1_code 3 none :: ws) ({ frames := 1, cells := 0, slots := 0, locals := 12 } : Room)) (fun a U => a = #[(.ref a1), (.ref a2), (.int p3)] ∧ Z.Warmed39 U.vm ∧ U.heap = h0) (fun _ _ _ _ _ => True) (fun _ U o U' => ∃ v L, o = .returned v ∧ Q_rmSt Z a1 a2 p3 h0 n0 v U'.heap L ∧ FrameEnd U o U' L ({ frames := 1, cells := 0, slots := 0, locals := 12 } : Room).cells ({ frames := 1, cells := 0, slots := 0, locals := 12 } : Room).slots) := by
  refine MetFree.of_bodySF (plainFor_of_name pn_0) hisR ?_
  intro p e s m args below meth c s₁ Bd hml0 hP hK
  obtain ⟨rfl, hZ, hh⟩ := hP
  have hx := Bd.exec
  have hby := Bd.bytes
  have hml : c.maxLocals = 3 := hml0
  have hown : s.vm.findClass "com/example/brisk_tableau/brisktableau/tableau/SharedList$Store" = some m.cls := findClass_of_methodNamed Bd.named
  have hnm := (name_of_methodNamed Bd.named Bd.method).1
  have X0 : Stand p l e ({ frames := 1, cells := 0, slots := 0, locals := 12 } : Room) s m #[(.ref a1), (.ref a2), (.int p3)] below meth c s₁ [] 0 0 := Stand.of_body Bd
  have e0 : s₁.heap = h0 := by rw [← hh, Bd.state]; rfl
  have N0 := Fr.nil n0
  have KC : Keep h0 h0 [a1] := Keep.refl h0 _
  have pre0 : ∀ t, Steps p.tables e below (s₁.setTop (mkF m 0 #[vr a1, vr a2, vi p3] [])) t → Steps p.tables e below (s₁.setTop (entryFrame m #[(.ref a1), (.ref a2), (.int p3)] 3)) t := fun t k => castTop (ef_rmSt m a1 a2 p3) k
  obtain ⟨T1, X1, e1, st1⟩ := initO X0 hx hZ hown (ww hw 14 rfl) (ww hw 15 rfl) (ww hw 16 rfl) e0 (g := (mkF m 1 #[vr a1, vr a2, vi p3] [(.ref a1)])) rfl (by rw [hml]; rfl) rfl (hb hby d2_1) (by decide) (W := 0) (by show 2 * 0 + _ ≤ _; exact Nat.le_of_eq rfl) (by decide)
  obtain ⟨T2, h2, X2, e2, W2, st2⟩ := putF X1 hx hZ hown (host := "") (Or.inl (ww hw 17 rfl)) Via.refl e1 F_items_a1 E_a1 (Or.inr ⟨(ww hw 18 rfl), rfl, hnm⟩) (ww hw 7 rfl) (ty := (.array (.object "java/lang/Object"))) (by decide) rfl rfl (g := (mkF m 6 #[vr a1, vr a2, vi p3] [(.ref a2), (.ref a1)])) rfl rfl (hb hby d2_6)
  have N2 := Fr.snoc X2 N0 g_a1
  replace F_items_a1 := F_items_a1.same W2
  replace F_filled_a1 := F_filled_a1.other W2 (Or.inr (slot_ne (Or.inl (ww hw 20 rfl)) (Or.inr (ww hw 18 rfl)) (by decide) (t := .int) (t' := (.array (.object "java/lang/Object"))) (by decide) (by decide)))
  replace E_a1 := E_a1.wr W2
  replace O0 := O0.wr W2 g_a1
  replace KC := KC.wr W2 (Or.inl (List.mem_of_getElem? (i := 0) rfl))
  obtain ⟨T3, h3, X3, e3, W3, st3⟩ := putF X2 hx hZ hown (host := "") (Or.inl (ww hw 19 rfl)) Via.refl e2 F_filled_a1 E_a1 (Or.inl (ww hw 20 rfl)) (ww hw 7 rfl) (ty := .int) (by decide) rfl rfl (g := (mkF m 11 #[vr a1, vr a2, vi p3] [(.int p3), (.ref a1)])) rfl rfl (hb hby d2_11)
  have N3 := Fr.snoc X3 N2 g_a1
  replace F_filled_a1 := F_filled_a1.same W3
  replace F_items_a1 := F_items_a1.other W3 (Or.inr (slot_ne (Or.inr (ww hw 18 rfl)) (Or.inl (ww hw 20 rfl)) (by decide) (t := (.array (.object "java/lang/Object"))) (t' := .int) (by decide) (by decide)))
  replace E_a1 := E_a1.wr W3
  replace O0 := O0.wr W3 g_a1
  replace KC := KC.wr W3 (Or.inl (List.mem_of_getElem? (i := 0) rfl))
  obtain ⟨fs, hr, hrun, hended, hW, hsame⟩ := X3.leave (v := none) (fun _ => rfl)
  refine ⟨_, _, pre0 _ ?_, hrun, hended, _, _, rfl, ?_, ⟨_, rfl⟩, hW, hsame.mono (by decide) (by decide)⟩
  · show SS p e below m s₁ 0 #[vr a1, vr a2, vi p3] [] _
    refine XS.aloadN X0.here hx rfl (hb hby d2_0) rfl rfl ?_
    show SS p e below m s₁ 1 #[vr a1, vr a2, vi p3] [(.ref a1)] _
    refine st1 _ ?_
    show SS p e below m T1 4 #[vr a1, vr a2, vi p3] [] _
    refine XS.aloadN X1.here hx rfl (hb hby d2_4) rfl rfl ?_
    show SS p e below m T1 5 #[vr a1, vr a2, vi p3] [(.ref a1)] _
    refine XS.aloadN X1.here hx rfl (hb hby d2_5) rfl rfl ?_
    show SS p e below m T1 6 #[vr a1, vr a2, vi p3] [(.ref a2), (.ref a1)] _
    refine st2 _ ?_
    show SS p e below m T2 9 #[vr a1, vr a2, vi p3] [] _
    refine XS.aloadN X2.here hx rfl (hb hby d2_9) rfl rfl ?_
    show SS p e below m T2 10 #[vr a1, vr a2, vi p3] [(.ref a1)] _
    refine XS.iloadN X2.here hx rfl (hb hby d2_10) rfl ?_
    show SS p e below m T2 11 #[vr a1, vr a2, vi p3] [(.int p3), (.ref a1)] _
    refine st3 _ ?_
    show SS p e below m T3 14 #[vr a1, vr a2, vi p3] [] _
    exact X3.returnOut hx Bd.returns (hb hby d2_14) hr
  · show Q_rmSt Z a1 a2 p3 h0 n0 _ T3.heap _
    rw [e3]
    exact ⟨rfl, N3, KC, F_items_a1, F_filled_a1⟩
theorem d4_0 : decode prog_112_method_2_code 0 = .ok (.aload_n 0, 1) := by decide +kernel
theorem d4_1 : decode prog_112_method_2_code 1 = .ok (.invokespecial 14, 3) := by decide +kernel
theorem d4_4 : decode prog_112_method_2_code 4 = .ok (.aload_n 0, 1) := by decide +kernel
theorem d4_5 : decode prog_112_method_2_code 5 = .ok (.aload_n 1, 1) := by decide +kernel
theorem d4_6 : decode prog_112_method_2_code 6 = .ok (.putfield 17, 3) := by decide +kernel
theorem d4_9 : decode prog_112_method_2_code 9 = .ok (.aload_n 0, 1) := by decide +kernel
theorem d4_10 : decode prog_112_method_2_code 10 = .ok (.iload_n 2, 1) := by decide +kernel
theorem d4_11 : decode prog_112_method_2_code 11 = .ok (.putfield 21, 3) := by decide +kernel
theorem d4_14 : decode prog_112_method_2_code 14 = .ok (.return_, 1) := by decide +kernel
theorem pn_1 : plainName "com/example/brisk_tableau/brisktableau/tableau/SharedList" = true := by first | (simp [plainName, overriddenIn]; done) | decide +kernel
theorem ef_rmLi (m : MethodId) (x0 : Addr) (x1 : Addr) (x2 : Int32) : entryFrame m #[(.ref x0), (.ref x1), (.int x2)] 3 = mkF m 0 #[vr x0, vr x1, vi x2] [] := by first | (simp [entryFrame, mkF, argsToLocals, Value.category]; done) | rfl
def Q_rmLi (Z : State) (a1 : Addr) (a2 : Addr) (p3 : Int32) (h0 : Heap) (n0 : Nat) (v : Option Value) (h : Heap) (L : List Loc) : Prop := (v = none) ∧ (Fr n0 L) ∧ (Keep h0 h [a1]) ∧ (Fld Z h a1 "com/example/brisk_tableau/brisktableau/tableau/SharedList" "store" "Lcom/example/brisk_tableau/brisktableau/tableau/SharedList$Store;" (.ref a2)) ∧ (Fld Z h a1 "com/example/brisk_tableau/brisktableau/tableau/SharedList" "size" "I" (.int p3))
set_option maxRecDepth 65536 in
set_option maxHeartbeats 40000000 in
theorem rmLi (l : Launch) (Z : State) (a0 : Array Value) (hw : ∀ d ∈ tables_1, d.before a0 Z = true) (ws : List Jvm.Cond) (a1 : Addr) (a2 : Addr) (p3 : Int32) (h0 : Heap) (n0 : Nat) (Z0 : n0 ≤ h0.size) (O0 : Old Z n0 h0) (F_store_a1 : Fld Z h0 a1 "com/example/brisk_tableau/brisktableau/tableau/SharedList" "store" "Lcom/example/brisk_tableau/brisktableau/tableau/SharedList$Store;" .null) (F_size_a1 : Fld Z h0 a1 "com/example/brisk_tableau/brisktableau/tableau/SharedList" "size" "I" (.int (0 : Int32))) (E_a1 : Exa Z h0 a1 "com/example/brisk_tableau/brisktableau/tableau/SharedList") (g_a1 : n0 ≤ a1) :
    MetFree l y_1 (head1 (Jvm.Cond.code y_1 prog_112_method_2_code 3 none :: ws) ({ frames := 1, cells := 0, slots := 0, locals := 12 } : Room)) (fun a U => a = #[(.ref a1), (.ref a2), (.int p3)] ∧ Z.Warmed39 U.vm ∧ U.heap = h0) (fun _ _ _ _ _ => True) (fun _ U o U' => ∃ v L, o = .returned v ∧ Q_rmLi Z a1 a2 p3 h0 n0 v U'.heap L ∧ FrameEnd U o U' L ({ frames := 1, cells := 0, slots := 0, locals := 12 } : Room).cells ({ frames := 1, cells := 0, slots := 0, locals := 12 } : Room).slots) := by
  refine MetFree.of_bodySF (plainFor_of_name pn_1) hisR ?_
  intro p e s m args below meth c s₁ Bd hml0 hP hK
  obtain ⟨rfl, hZ, hh⟩ := hP
  have hx := Bd.exec
  have hby := Bd.bytes
  have hml : c.maxLocals = 3 := hml0
  have hown : s.vm.findClass "com/example/brisk_tableau/brisktableau/tableau/SharedList" = some m.cls := findClass_of_methodNamed Bd.named
  have hnm := (name_of_methodNamed Bd.named Bd.method).1
  have X0 : Stand p l e ({ frames := 1, cells := 0, slots := 0, locals := 12 } : Room) s m #[(.ref a1), (.ref a2), (.int p3)] below meth c s₁ [] 0 0 := Stand.of_body Bd
  have e0 : s₁.heap = h0 := by rw [← hh, Bd.state]; rfl
  have N0 := Fr.nil n0
  have KC : Keep h0 h0 [a1] := Keep.refl h0 _
  have pre0 : ∀ t, Steps p.tables e below (s₁.setTop (mkF m 0 #[vr a1, vr a2, vi p3] [])) t → Steps p.tables e below (s₁.setTop (entryFrame m #[(.ref a1), (.ref a2), (.int p3)] 3)) t := fun t k => castTop (ef_rmLi m a1 a2 p3) k
  obtain ⟨T1, X1, e1, st1⟩ := initO X0 hx hZ hown (ww hw 24 rfl) (ww hw 15 rfl) (ww hw 16 rfl) e0 (g := (mkF m 1 #[vr a1, vr a2, vi p3] [(.ref a1)])) rfl (by rw [hml]; rfl) rfl (hb hby d4_1) (by decide) (W := 0) (by show 2 * 0 + _ ≤ _; exact Nat.le_of_eq rfl) (by decide)
  obtain ⟨T2, h2, X2, e2, W2, st2⟩ := putF X1 hx hZ hown (host := "") (Or.inl (ww hw 25 rfl)) Via.refl e1 F_store_a1 E_a1 (Or.inl (ww hw 26 rfl)) (ww hw 1 rfl) (ty := (.object "com/example/brisk_tableau/brisktableau/tableau/SharedList$Store")) (by decide) rfl rfl (g := (mkF m 6 #[vr a1, vr a2, vi p3] [(.ref a2), (.ref a1)])) rfl rfl (hb hby d4_6)
  have N2 := Fr.snoc X2 N0 g_a1
  replace F_store_a1 := F_store_a1.same W2
  replace F_size_a1 := F_size_a1.other W2 (Or.inr (slot_ne (Or.inl (ww hw 28 rfl)) (Or.inl (ww hw 26 rfl)) (by decide) (t := .int) (t' := (.object "com/example/brisk_tableau/brisktableau/tableau/SharedList$Store")) (by decide) (by decide)))
  replace E_a1 := E_a1.wr W2
  replace O0 := O0.wr W2 g_a1
  replace KC := KC.wr W2 (Or.inl (List.mem_of_getElem? (i := 0) rfl))
  obtain ⟨T3, h3, X3, e3, W3, st3⟩ := putF X2 hx hZ hown (host := "") (Or.inl (ww hw 27 rfl)) Via.refl e2 F_size_a1 E_a1 (Or.inl (ww hw 28 rfl)) (ww hw 1 rfl) (ty := .int) (by decide) rfl rfl (g := (mkF m 11 #[vr a1, vr a2, vi p3] [(.int p3), (.ref a1)])) rfl rfl (hb hby d4_11)
  have N3 := Fr.snoc X3 N2 g_a1
  replace F_size_a1 := F_size_a1.same W3
  replace F_store_a1 := F_store_a1.other W3 (Or.inr (slot_ne (Or.inl (ww hw 26 rfl)) (Or.inl (ww hw 28 rfl)) (by decide) (t := (.object "com/example/brisk_tableau/brisktableau/tableau/SharedList$Store")) (t' := .int) (by decide) (by decide)))
  replace E_a1 := E_a1.wr W3
  replace O0 := O0.wr W3 g_a1
  replace KC := KC.wr W3 (Or.inl (List.mem_of_getElem? (i := 0) rfl))
  obtain ⟨fs, hr, hrun, hended, hW, hsame⟩ := X3.leave (v := none) (fun _ => rfl)
  refine ⟨_, _, pre0 _ ?_, hrun, hended, _, _, rfl, ?_, ⟨_, rfl⟩, hW, hsame.mono (by decide) (by decide)⟩
  · show SS p e below m s₁ 0 #[vr a1, vr a2, vi p3] [] _
    refine XS.aloadN X0.here hx rfl (hb hby d4_0) rfl rfl ?_
    show SS p e below m s₁ 1 #[vr a1, vr a2, vi p3] [(.ref a1)] _
    refine st1 _ ?_
    show SS p e below m T1 4 #[vr a1, vr a2, vi p3] [] _
    refine XS.aloadN X1.here hx rfl (hb hby d4_4) rfl rfl ?_
    show SS p e below m T1 5 #[vr a1, vr a2, vi p3] [(.ref a1)] _
    refine XS.aloadN X1.here hx rfl (hb hby d4_5) rfl rfl ?_
    show SS p e below m T1 6 #[vr a1, vr a2, vi p3] [(.ref a2), (.ref a1)] _
    refine st2 _ ?_
    show SS p e below m T2 9 #[vr a1, vr a2, vi p3] [] _
    refine XS.aloadN X2.here hx rfl (hb hby d4_9) rfl rfl ?_
    show SS p e below m T2 10 #[vr a1, vr a2, vi p3] [(.ref a1)] _
    refine XS.iloadN X2.here hx rfl (hb hby d4_10) rfl ?_
    show SS p e below m T2 11 #[vr a1, vr a2, vi p3] [(.int p3), (.ref a1)] _
    refine st3 _ ?_
    show SS p e below m T3 14 #[vr a1, vr a2, vi p3] [] _
    exact X3.returnOut hx Bd.returns (hb hby d4_14) hr
  · show Q_rmLi Z a1 a2 p3 h0 n0 _ T3.heap _
    rw [e3]
    exact ⟨rfl, N3, KC, F_store_a1, F_size_a1⟩
theorem pd_0 : parseMethodDescriptor "([Ljava/lang/Object;I)V" = some ⟨[(.array (.object "java/lang/Object")), .int], none⟩ := by decide +kernel
theorem pd_1 : parseMethodDescriptor "(Lcom/example/brisk_tableau/brisktableau/tableau/SharedList$Store;I)V" = some ⟨[(.object "com/example/brisk_tableau/brisktableau/tableau/SharedList$Store"), .int], none⟩ := by decide +kernel
theorem d1_0 : decode prog_112_method_1_code 0 = .ok (.aload_n 0, 1) := by decide +kernel
theorem d1_1 : decode prog_112_method_1_code 1 = .ok (.new 1, 3) := by decide +kernel
theorem d1_4 : decode prog_112_method_1_code 4 = .ok (.dup, 1) := by decide +kernel
theorem d1_5 : decode prog_112_method_1_code 5 = .ok (.iconst 4, 1) := by decide +kernel
theorem d1_6 : decode prog_112_method_1_code 6 = .ok (.anewarray 5, 3) := by decide +kernel
theorem d1_9 : decode prog_112_method_1_code 9 = .ok (.iconst 0, 1) := by decide +kernel
theorem d1_10 : decode prog_112_method_1_code 10 = .ok (.invokespecial 7, 3) := by decide +kernel
theorem d1_13 : decode prog_112_method_1_code 13 = .ok (.iconst 0, 1) := by decide +kernel
theorem d1_14 : decode prog_112_method_1_code 14 = .ok (.invokespecial 11, 3) := by decide +kernel
theorem d1_17 : decode prog_112_method_1_code 17 = .ok (.return_, 1) := by decide +kernel
theorem ef_rmL0 (m : MethodId) (x0 : Addr) : entryFrame m #[(.ref x0)] 1 = mkF m 0 #[vr x0] [] := by first | (simp [entryFrame, mkF, argsToLocals, Value.category]; done) | rfl
def Q_rmL0 (Z : State) (a1 : Addr) (h0 : Heap) (n0 : Nat) (v : Option Value) (h : Heap) (L : List Loc) : Prop := ∃ b : Addr, ∃ c : Addr, ∃ k : ClassId, (v = none) ∧ (Fr n0 L) ∧ (Keep h0 h [a1]) ∧ (h0.size ≤ b) ∧ (h0.size ≤ c) ∧ (Fld Z h a1 "com/example/brisk_tableau/brisktableau/tableau/SharedList" "store" "Lcom/example/brisk_tableau/brisktableau/tableau/SharedList$Store;" (.ref b)) ∧ (Fld Z h a1 "com/example/brisk_tableau/brisktableau/tableau/SharedList" "size" "I" (.int (0 : Int32))) ∧ (Exa Z h b "com/example/brisk_tableau/brisktableau/tableau/SharedList$Store") ∧ (Fld Z h b "com/example/brisk_tableau/brisktableau/tableau/SharedList$Store" "items" "[Ljava/lang/Object;" (.ref c)) ∧ (Fld Z h b "com/example/brisk_tableau/brisktableau/tableau/SharedList$Store" "filled" "I" (.int (0 : Int32))) ∧ (Exa Z h c "[Ljava/lang/Object;") ∧ (Arv Z h c k (.object "java/lang/Object") (4 : Int32) [.null, .null, .null, .null] .null) ∧ (Ovr Z k "java/lang/Object")
set_option maxRecDepth 65536 in
set_option maxHeartbeats 40000000 in
theorem rmL0 (l : Launch) (Z : State) (a0 : Array Value) (hw : ∀ d ∈ tables_1, d.before a0 Z = true) (ws : List Jvm.Cond) (a1 : Addr) (h0 : Heap) (n0 : Nat) (Z0 : n0 ≤ h0.size) (O0 : Old Z n0 h0) (F_store_a1 : Fld Z h0 a1 "com/example/brisk_tableau/brisktableau/tableau/SharedList" "store" "Lcom/example/brisk_tableau/brisktableau/tableau/SharedList$Store;" .null) (F_size_a1 : Fld Z h0 a1 "com/example/brisk_tableau/brisktableau/tableau/SharedList" "size" "I" (.int (0 : Int32))) (E_a1 : Exa Z h0 a1 "com/example/brisk_tableau/brisktableau/tableau/SharedList") (g_a1 : n0 ≤ a1) :
    MetFree l y_2 (head1 (Jvm.Cond.code y_2 prog_112_method_1_code 1 none :: ws) ({ frames := 2, cells := 2, slots := 6, locals := 28 } : Room)) (fun a U => a = #[(.ref a1)] ∧ Z.Warmed39 U.vm ∧ U.heap = h0) (fun _ _ _ _ _ => True) (fun _ U o U' => ∃ v L, o = .returned v ∧ Q_rmL0 Z a1 h0 n0 v U'.heap L ∧ FrameEnd U o U' L ({ frames := 2, cells := 2, slots := 6, locals := 28 } : Room).cells ({ frames := 2, cells := 2, slots := 6, locals := 28 } : Room).slots) := by
  refine MetFree.of_bodySF (plainFor_of_name pn_1) hisR ?_
  intro p e s m args below meth c s₁ Bd hml0 hP hK
  obtain ⟨rfl, hZ, hh⟩ := hP
  have hx := Bd.exec
  have hby := Bd.bytes
  have hml : c.maxLocals = 1 := hml0
  have hown : s.vm.findClass "com/example/brisk_tableau/brisktableau/tableau/SharedList" = some m.cls := findClass_of_methodNamed Bd.named
  have hnm := (name_of_methodNamed Bd.named Bd.method).1
  have X0 : Stand p l e ({ frames := 2, cells := 2, slots := 6, locals := 28 } : Room) s m #[(.ref a1)] below meth c s₁ [] 0 0 := Stand.of_body Bd
  have e0 : s₁.heap = h0 := by rw [← hh, Bd.state]; rfl
  have N0 := Fr.nil n0
  have KC : Keep h0 h0 [a1] := Keep.refl h0 _
  have pre0 : ∀ t, Steps p.tables e below (s₁.setTop (mkF m 0 #[vr a1] [])) t → Steps p.tables e below (s₁.setTop (entryFrame m #[(.ref a1)] 1)) t := fun t k => castTop (ef_rmL0 m a1) k
  obtain ⟨T1, h1, X1, e1, E1, A1, D1, -, st1⟩ := newO X0 hx hZ hown (ww hw 6 rfl) (ww hw 7 rfl) (ww hw 8 rfl) e0 (g := (mkF m 1 #[vr a1] [(.ref a1)])) rfl (hb hby d1_1) (by decide) (by decide)
  obtain ⟨b1, g1⟩ : ∃ z, z = h0.size := ⟨_, rfl⟩
  rw [← g1] at A1 D1 st1
  have ne_a1_b1 : a1 ≠ b1 := Nat.ne_of_lt (Nat.lt_of_lt_of_le F_store_a1.lt (Nat.le_of_eq g1.symm))
  have g_b1 : n0 ≤ b1 := Nat.le_trans (Nat.le_trans Z0 KC.1) (Nat.le_of_eq g1.symm)
  have sz_b1 : h0.size ≤ b1 := Nat.le_trans KC.1 (Nat.le_of_eq g1.symm)
  replace F_store_a1 := F_store_a1.ext E1
  replace F_size_a1 := F_size_a1.ext E1
  replace E_a1 := E_a1.ext E1
  replace O0 := O0.ext E1
  replace KC := KC.ext E1
  have F_items_b1 : Fld Z h1 b1 "com/example/brisk_tableau/brisktableau/tableau/SharedList$Store" "items" "[Ljava/lang/Object;" .null := D1 (Or.inr (ww hw 18 rfl)) (ty := (.array (.object "java/lang/Object"))) (by decide)
  have F_filled_b1 : Fld Z h1 b1 "com/example/brisk_tableau/brisktableau/tableau/SharedList$Store" "filled" "I" (.int (0 : Int32)) := D1 (Or.inl (ww hw 20 rfl)) (ty := .int) (by decide)
  obtain ⟨T2, h2, k2, X2, e2, E2, A2, Ea2, Ov2, st2⟩ := newRE X1 hx hZ hown (ww hw 9 rfl) (ww hw 10 rfl) e1 (g := (mkF m 6 #[vr a1] [(.int (4 : Int32)), (.ref b1), (.ref b1), (.ref a1)])) rfl (hb hby d1_6) rfl (by decide) (cap := 4) (by decide) (by decide) (by decide) (by decide) (ad := "[Ljava/lang/Object;") (by decide)
  obtain ⟨b2, g2⟩ : ∃ z, z = h1.size := ⟨_, rfl⟩
  rw [← g2] at A2 st2 Ea2
  have ne_a1_b2 : a1 ≠ b2 := Nat.ne_of_lt (Nat.lt_of_lt_of_le F_store_a1.lt (Nat.le_of_eq g2.symm))
  have ne_b1_b2 : b1 ≠ b2 := Nat.ne_of_lt (Nat.lt_of_lt_of_le A1.lt (Nat.le_of_eq g2.symm))
  have g_b2 : n0 ≤ b2 := Nat.le_trans (Nat.le_trans Z0 KC.1) (Nat.le_of_eq g2.symm)
  have sz_b2 : h0.size ≤ b2 := Nat.le_trans KC.1 (Nat.le_of_eq g2.symm)
  replace F_store_a1 := F_store_a1.ext E2
  replace F_size_a1 := F_size_a1.ext E2
  replace E_a1 := E_a1.ext E2
  replace A1 := A1.ext E2
  replace F_items_b1 := F_items_b1.ext E2
  replace F_filled_b1 := F_filled_b1.ext E2
  replace O0 := O0.ext E2
  replace KC := KC.ext E2
  have V_b2 : Arv Z h2 b2 k2 (.object "java/lang/Object") (4 : Int32) [.null, .null, .null, .null] .null := (Arv.new A2 (by decide)).pad (pad_rep [] .null 4)
  obtain ⟨_, _, ⟨T3, L3, k3, n3⟩, -, X3, ⟨Lc3, hQ3, l3, y3, z3⟩, st3⟩ := X2.specialBack hx (y := y_0) rfl hown (mvT hZ (ww hw 11 rfl)) (mvT hZ (ww hw 12 rfl)) (mvT hZ (ww hw 13 rfl)) (by decide) (backOf (W := 2) (rmSt l Z a0 hw [] b1 b2 (0 : Int32) h2 n0 (Nat.le_trans Z0 KC.1) O0 F_items_b1 F_filled_b1 A1 g_b1) hZ (ww hw 13 rfl) (ww hw 8 rfl) (by decide) (by decide)) (g := (mkF m 10 #[vr a1] [(.int (0 : Int32)), (.ref b2), (.ref b1), (.ref b1), (.ref a1)])) rfl (by rw [hml]; rfl) (Steps.refl _) (a := b1) (argsL := [(.ref b2), (.int (0 : Int32))]) (rest := [(.ref b1), (.ref a1)]) (lenOf pd_0 rfl) rfl (by show 2 * 0 + _ ≤ _; exact Nat.le_of_eq rfl) (hb hby d1_10) (fun _ _ => ⟨rfl, e2, (by decide : 2 + 0 ≤ _), (by decide : 6 + 0 ≤ _)⟩)
  dsimp only [Pt.U, Pt.locs, Pt.cells, Pt.slots] at X3 l3 y3 z3 st3 hQ3
  subst l3 y3 z3
  obtain ⟨rfl, N3q, K3, F_items_a1_3, F_filled_a1_3⟩ := hQ3
  have N3 := Fr.app N0 N3q
  replace F_store_a1 := F_store_a1.keep K3 (ninS ne_a1_b1 nin0)
  replace F_size_a1 := F_size_a1.keep K3 (ninS ne_a1_b1 nin0)
  replace E_a1 := E_a1.keep K3
  replace A1 := A1.keep K3
  replace Ea2 := Ea2.keep K3
  replace V_b2 := V_b2.keep K3 (ninS (Ne.symm ne_b1_b2) nin0)
  replace O0 := O0.keep K3 (allS g_b1 all0)
  replace KC := KC.trans K3 (allS (Or.inr sz_b1) all0)
  obtain ⟨_, _, ⟨T4, L4, k4, n4⟩, -, X4, ⟨Lc4, hQ4, l4, y4, z4⟩, st4⟩ := X3.specialBack hx (y := y_1) rfl hown (mvT hZ (ww hw 21 rfl)) (mvT hZ (ww hw 22 rfl)) (mvT hZ (ww hw 23 rfl)) (by decide) (backOf (W := 0) (rmLi l Z a0 hw [] a1 b1 (0 : Int32) T3.heap n0 (Nat.le_trans Z0 KC.1) O0 F_store_a1 F_size_a1 E_a1 g_a1) hZ (ww hw 23 rfl) (ww hw 2 rfl) (by decide) (by decide)) (g := (mkF m 14 #[vr a1] [(.int (0 : Int32)), (.ref b1), (.ref a1)])) rfl (by rw [hml]; rfl) (Steps.refl _) (a := a1) (argsL := [(.ref b1), (.int (0 : Int32))]) (rest := []) (lenOf pd_1 rfl) rfl (by show 2 * 0 + _ ≤ _; exact Nat.le_of_eq rfl) (hb hby d1_14) (fun _ _ => ⟨rfl, rfl, (by decide : 2 + 0 ≤ _), (by decide : 6 + 0 ≤ _)⟩)
  dsimp only [Pt.U, Pt.locs, Pt.cells, Pt.slots] at X4 l4 y4 z4 st4 hQ4
  subst l4 y4 z4
  obtain ⟨rfl, N4q, K4, F_store_a1_4, F_size_a1_4⟩ := hQ4
  have N4 := Fr.app N3 N4q
  replace E_a1 := E_a1.keep K4
  replace A1 := A1.keep K4
  replace Ea2 := Ea2.keep K4
  replace V_b2 := V_b2.keep K4 (ninS (Ne.symm ne_a1_b2) nin0)
  replace F_items_a1_3 := F_items_a1_3.keep K4 (ninS (Ne.symm ne_a1_b1) nin0)
  replace F_filled_a1_3 := F_filled_a1_3.keep K4 (ninS (Ne.symm ne_a1_b1) nin0)
  replace O0 := O0.keep K4 (allS g_a1 all0)
  replace KC := KC.trans K4 (allS (Or.inl (List.mem_of_getElem? (i := 0) rfl)) all0)
  obtain ⟨fs, hr, hrun, hended, hW, hsame⟩ := X4.leave (v := none) (fun _ => rfl)
  refine ⟨_, _, pre0 _ ?_, hrun, hended, _, _, rfl, ?_, ⟨_, rfl⟩, hW, hsame.mono (by decide) (by decide)⟩
  · show SS p e below m s₁ 0 #[vr a1] [] _
    refine XS.aloadN X0.here hx rfl (hb hby d1_0) rfl rfl ?_
    show SS p e below m s₁ 1 #[vr a1] [(.ref a1)] _
    refine st1 _ ?_
    show SS p e below m T1 4 #[vr a1] [(.ref b1), (.ref a1)] _
    refine XS.dup X1.here hx rfl (hb hby d1_4) rfl rfl ?_
    show SS p e below m T1 5 #[vr a1] [(.ref b1), (.ref b1), (.ref a1)] _
    refine XS.iconst X1.here hx rfl (hb hby d1_5) ?_
    show SS p e below m T1 6 #[vr a1] [(.int (4 : Int32)), (.ref b1), (.ref b1), (.ref a1)] _
    refine st2 _ ?_
    show SS p e below m T2 9 #[vr a1] [(.ref b2), (.ref b1), (.ref b1), (.ref a1)] _
    refine XS.iconst X2.here hx rfl (hb hby d1_9) ?_
    show SS p e below m T2 10 #[vr a1] [(.int (0 : Int32)), (.ref b2), (.ref b1), (.ref b1), (.ref a1)] _
    refine st3.trans ?_
    show SS p e below m T3 13 #[vr a1] [(.ref b1), (.ref a1)] _
    refine XS.iconst X3.here hx rfl (hb hby d1_13) ?_
    show SS p e below m T3 14 #[vr a1] [(.int (0 : Int32)), (.ref b1), (.ref a1)] _
    refine st4.trans ?_
    show SS p e below m T4 17 #[vr a1] [] _
    exact X4.returnOut hx Bd.returns (hb hby d1_17) hr
  · show Q_rmL0 Z a1 h0 n0 _ T4.heap _
    exact ⟨b1, b2, k2, rfl, N4, KC, sz_b1, sz_b2, F_store_a1_4, F_size_a1_4, A1, F_items_a1_3, F_filled_a1_3, Ea2, V_b2, Ov2⟩
theorem d21_0 : decode jdk_18_method_1_code 0 = .ok (.aload_n 0, 1) := by decide +kernel
theorem d21_1 : decode jdk_18_method_1_code 1 = .ok (.invokespecial 1, 3) := by decide +kernel
theorem d21_4 : decode jdk_18_method_1_code 4 = .ok (.return_, 1) := by decide +kernel
theorem pn_2 : plainName "java/lang/Number" = true := by first | (simp [plainName, overriddenIn]; done) | decide +kernel
theorem ef_rmNu (m : MethodId) (x0 : Addr) : entryFrame m #[(.ref x0)] 1 = mkF m 0 #[vr x0] [] := by first | (simp [entryFrame, mkF, argsToLocals, Value.category]; done) | rfl
def Q_rmNu (Z : State) (a1 : Addr) (h0 : Heap) (n0 : Nat) (v : Option Value) (h : Heap) (L : List Loc) : Prop := (v = none) ∧ (Fr n0 L) ∧ (h = h0)
set_option maxRecDepth 65536 in
set_option maxHeartbeats 40000000 in
theorem rmNu (l : Launch) (Z : State) (a0 : Array Value) (hw : ∀ d ∈ tables_1, d.before a0 Z = true) (ws : List Jvm.Cond) (a1 : Addr) (h0 : Heap) (n0 : Nat) (Z0 : n0 ≤ h0.size) (O0 : Old Z n0 h0) :
    MetFree l y_3 (head1 (Jvm.Cond.code y_3 jdk_18_method_1_code 1 none :: ws) ({ frames := 1, cells := 0, slots := 0, locals := 12 } : Room)) (fun a U => a = #[(.ref a1)] ∧ Z.Warmed39 U.vm ∧ U.heap = h0) (fun _ _ _ _ _ => True) (fun _ U o U' => ∃ v L, o = .returned v ∧ Q_rmNu Z a1 h0 n0 v U'.heap L ∧ FrameEnd U o U' L ({ frames := 1, cells := 0, slots := 0, locals := 12 } : Room).cells ({ frames := 1, cells := 0, slots := 0, locals := 12 } : Room).slots) := by
  refine MetFree.of_bodySF (plainFor_of_name pn_2) hisR ?_
  intro p e s m args below meth c s₁ Bd hml0 hP hK
  obtain ⟨rfl, hZ, hh⟩ := hP
  have hx := Bd.exec
  have hby := Bd.bytes
  have hml : c.maxLocals = 1 := hml0
  have hown : s.vm.findClass "java/lang/Number" = some m.cls := findClass_of_methodNamed Bd.named
  have hnm := (name_of_methodNamed Bd.named Bd.method).1
  have X0 : Stand p l e ({ frames := 1, cells := 0, slots := 0, locals := 12 } : Room) s m #[(.ref a1)] below meth c s₁ [] 0 0 := Stand.of_body Bd
  have e0 : s₁.heap = h0 := by rw [← hh, Bd.state]; rfl
  have N0 := Fr.nil n0
  have KC : Keep h0 h0 [] := Keep.refl h0 _
  have pre0 : ∀ t, Steps p.tables e below (s₁.setTop (mkF m 0 #[vr a1] [])) t → Steps p.tables e below (s₁.setTop (entryFrame m #[(.ref a1)] 1)) t := fun t k => castTop (ef_rmNu m a1) k
  obtain ⟨T1, X1, e1, st1⟩ := initO X0 hx hZ hown (ww hw 144 rfl) (ww hw 15 rfl) (ww hw 16 rfl) e0 (g := (mkF m 1 #[vr a1] [(.ref a1)])) rfl (by rw [hml]; rfl) rfl (hb hby d21_1) (by decide) (W := 0) (by show 2 * 0 + _ ≤ _; exact Nat.le_of_eq rfl) (by decide)
  obtain ⟨fs, hr, hrun, hended, hW, hsame⟩ := X1.leave (v := none) (fun _ => rfl)
  refine ⟨_, _, pre0 _ ?_, hrun, hended, _, _, rfl, ?_, ⟨_, rfl⟩, hW, hsame.mono (by decide) (by decide)⟩
  · show SS p e below m s₁ 0 #[vr a1] [] _
    refine XS.aloadN X0.here hx rfl (hb hby d21_0) rfl rfl ?_
    show SS p e below m s₁ 1 #[vr a1] [(.ref a1)] _
    refine st1 _ ?_
    show SS p e below m T1 4 #[vr a1] [] _
    exact X1.returnOut hx Bd.returns (hb hby d21_4) hr
  · show Q_rmNu Z a1 h0 n0 _ T1.heap _
    rw [e1]
    exact ⟨rfl, N0, rfl⟩
theorem pd_2 : parseMethodDescriptor "()V" = some ⟨[], none⟩ := by decide +kernel
theorem d20_0 : decode jdk_33_method_23_code 0 = .ok (.aload_n 0, 1) := by decide +kernel
theorem d20_1 : decode jdk_33_method_23_code 1 = .ok (.invokespecial 202, 3) := by decide +kernel
theorem d20_4 : decode jdk_33_method_23_code 4 = .ok (.aload_n 0, 1) := by decide +kernel
theorem d20_5 : decode jdk_33_method_23_code 5 = .ok (.iload_n 1, 1) := by decide +kernel
theorem d20_6 : decode jdk_33_method_23_code 6 = .ok (.putfield 205, 3) := by decide +kernel
theorem d20_9 : decode jdk_33_method_23_code 9 = .ok (.return_, 1) := by decide +kernel
theorem pn_3 : plainName "java/lang/Integer" = true := by first | (simp [plainName, overriddenIn]; done) | decide +kernel
theorem ef_rmIn (m : MethodId) (x0 : Addr) (x1 : Int32) : entryFrame m #[(.ref x0), (.int x1)] 2 = mkF m 0 #[vr x0, vi x1] [] := by first | (simp [entryFrame, mkF, argsToLocals, Value.category]; done) | rfl
def Q_rmIn (Z : State) (a1 : Addr) (p2 : Int32) (h0 : Heap) (n0 : Nat) (v : Option Value) (h : Heap) (L : List Loc) : Prop := (v = none) ∧ (Fr n0 L) ∧ (Keep h0 h [a1]) ∧ (Fld Z h a1 "java/lang/Integer" "value" "I" (.int p2))
set_option maxRecDepth 65536 in
set_option maxHeartbeats 40000000 in
theorem rmIn (l : Launch) (Z : State) (a0 : Array Value) (hw : ∀ d ∈ tables_1, d.before a0 Z = true) (ws : List Jvm.Cond) (a1 : Addr) (p2 : Int32) (h0 : Heap) (n0 : Nat) (Z0 : n0 ≤ h0.size) (O0 : Old Z n0 h0) (F_value_a1 : Fld Z h0 a1 "java/lang/Integer" "value" "I" (.int (0 : Int32))) (E_a1 : Exa Z h0 a1 "java/lang/Integer") (g_a1 : n0 ≤ a1) :
    MetFree l y_4 (head1 (Jvm.Cond.code y_4 jdk_33_method_23_code 2 none :: ws) ({ frames := 2, cells := 0, slots := 0, locals := 24 } : Room)) (fun a U => a = #[(.ref a1), (.int p2)] ∧ Z.Warmed39 U.vm ∧ U.heap = h0) (fun _ _ _ _ _ => True) (fun _ U o U' => ∃ v L, o = .returned v ∧ Q_rmIn Z a1 p2 h0 n0 v U'.heap L ∧ FrameEnd U o U' L ({ frames := 2, cells := 0, slots := 0, locals := 24 } : Room).cells ({ frames := 2, cells := 0, slots := 0, locals := 24 } : Room).slots) := by
  refine MetFree.of_bodySF (plainFor_of_name pn_3) hisR ?_
  intro p e s m args below meth c s₁ Bd hml0 hP hK
  obtain ⟨rfl, hZ, hh⟩ := hP
  have hx := Bd.exec
  have hby := Bd.bytes
  have hml : c.maxLocals = 2 := hml0
  have hown : s.vm.findClass "java/lang/Integer" = some m.cls := findClass_of_methodNamed Bd.named
  have hnm := (name_of_methodNamed Bd.named Bd.method).1
  have X0 : Stand p l e ({ frames := 2, cells := 0, slots := 0, locals := 24 } : Room) s m #[(.ref a1), (.int p2)] below meth c s₁ [] 0 0 := Stand.of_body Bd
  have e0 : s₁.heap = h0 := by rw [← hh, Bd.state]; rfl
  have N0 := Fr.nil n0
  have KC : Keep h0 h0 [a1] := Keep.refl h0 _
  have pre0 : ∀ t, Steps p.tables e below (s₁.setTop (mkF m 0 #[vr a1, vi p2] [])) t → Steps p.tables e below (s₁.setTop (entryFrame m #[(.ref a1), (.int p2)] 2)) t := fun t k => castTop (ef_rmIn m a1 p2) k
  obtain ⟨_, _, ⟨T1, L1, k1, n1⟩, -, X1, ⟨Lc1, hQ1, l1, y1, z1⟩, st1⟩ := X0.specialBack hx (y := y_3) rfl hown (mvT hZ (ww hw 138 rfl)) (mvT hZ (ww hw 139 rfl)) (mvT hZ (ww hw 143 rfl)) (by decide) (backOf (W := 0) (rmNu l Z a0 hw [] a1 h0 n0 (Nat.le_trans Z0 KC.1) O0 ) hZ (ww hw 143 rfl) (ww hw 142 rfl) (by decide) (by decide)) (g := (mkF m 1 #[vr a1, vi p2] [(.ref a1)])) rfl (by rw [hml]; rfl) (Steps.refl _) (a := a1) (argsL := []) (rest := []) (lenOf pd_2 rfl) rfl (by show 2 * 0 + _ ≤ _; exact Nat.le_of_eq rfl) (hb hby d20_1) (fun _ _ => ⟨rfl, e0, (by decide : 0 + 0 ≤ _), (by decide : 0 + 0 ≤ _)⟩)
  dsimp only [Pt.U, Pt.locs, Pt.cells, Pt.slots] at X1 l1 y1 z1 st1 hQ1
  subst l1 y1 z1
  obtain ⟨rfl, N1q, e1⟩ := hQ1
  have N1 := Fr.app N0 N1q
  obtain ⟨T2, h2, X2, e2, W2, st2⟩ := putF X1 hx hZ hown (host := "") (Or.inl (ww hw 131 rfl)) Via.refl e1 F_value_a1 E_a1 (Or.inr ⟨(ww hw 132 rfl), rfl, hnm⟩) (ww hw 134 rfl) (ty := .int) (by decide) rfl rfl (g := (mkF m 6 #[vr a1, vi p2] [(.int p2), (.ref a1)])) rfl rfl (hb hby d20_6)
  have N2 := Fr.snoc X2 N1 g_a1
  replace F_value_a1 := F_value_a1.same W2
  replace E_a1 := E_a1.wr W2
  replace O0 := O0.wr W2 g_a1
  replace KC := KC.wr W2 (Or.inl (List.mem_of_getElem? (i := 0) rfl))
  obtain ⟨fs, hr, hrun, hended, hW, hsame⟩ := X2.leave (v := none) (fun _ => rfl)
  refine ⟨_, _, pre0 _ ?_, hrun, hended, _, _, rfl, ?_, ⟨_, rfl⟩, hW, hsame.mono (by decide) (by decide)⟩
  · show SS p e below m s₁ 0 #[vr a1, vi p2] [] _
    refine XS.aloadN X0.here hx rfl (hb hby d20_0) rfl rfl ?_
    show SS p e below m s₁ 1 #[vr a1, vi p2] [(.ref a1)] _
    refine st1.trans ?_
    show SS p e below m T1 4 #[vr a1, vi p2] [] _
    refine XS.aloadN X1.here hx rfl (hb hby d20_4) rfl rfl ?_
    show SS p e below m T1 5 #[vr a1, vi p2] [(.ref a1)] _
    refine XS.iloadN X1.here hx rfl (hb hby d20_5) rfl ?_
    show SS p e below m T1 6 #[vr a1, vi p2] [(.int p2), (.ref a1)] _
    refine st2 _ ?_
    show SS p e below m T2 9 #[vr a1, vi p2] [] _
    exact X2.returnOut hx Bd.returns (hb hby d20_9) hr
  · show Q_rmIn Z a1 p2 h0 n0 _ T2.heap _
    rw [e2]
    exact ⟨rfl, N2, KC, F_value_a1⟩
theorem pd_3 : parseMethodDescriptor "(I)V" = some ⟨[.int], none⟩ := by decide +kernel
theorem d11_0 : decode jdk_33_method_22_code 0 = .ok (.iload_n 0, 1) := by decide +kernel
theorem d11_1 : decode jdk_33_method_22_code 1 = .ok (.bipush (-128), 2) := by decide +kernel
theorem d11_3 : decode jdk_33_method_22_code 3 = .ok (.if_icmp .lt 20, 3) := by decide +kernel
theorem d11_6 : decode jdk_33_method_22_code 6 = .ok (.iload_n 0, 1) := by decide +kernel
theorem d11_7 : decode jdk_33_method_22_code 7 = .ok (.getstatic 191, 3) := by decide +kernel
theorem d11_10 : decode jdk_33_method_22_code 10 = .ok (.if_icmp .gt 13, 3) := by decide +kernel
theorem d11_13 : decode jdk_33_method_22_code 13 = .ok (.getstatic 195, 3) := by decide +kernel
theorem d11_16 : decode jdk_33_method_22_code 16 = .ok (.iload_n 0, 1) := by decide +kernel
theorem d11_17 : decode jdk_33_method_22_code 17 = .ok (.sipush 128, 3) := by decide +kernel
theorem d11_20 : decode jdk_33_method_22_code 20 = .ok (.iadd, 1) := by decide +kernel
theorem d11_21 : decode jdk_33_method_22_code 21 = .ok (.aaload, 1) := by decide +kernel
theorem d11_22 : decode jdk_33_method_22_code 22 = .ok (.areturn, 1) := by decide +kernel
theorem d11_23 : decode jdk_33_method_22_code 23 = .ok (.new 1, 3) := by decide +kernel
theorem d11_26 : decode jdk_33_method_22_code 26 = .ok (.dup, 1) := by decide +kernel
theorem d11_27 : decode jdk_33_method_22_code 27 = .ok (.iload_n 0, 1) := by decide +kernel
theorem d11_28 : decode jdk_33_method_22_code 28 = .ok (.invokespecial 199, 3) := by decide +kernel
theorem d11_31 : decode jdk_33_method_22_code 31 = .ok (.areturn, 1) := by decide +kernel
theorem ef_rmVo (m : MethodId) (x0 : Int32) : entryFrame m #[(.int x0)] 1 = mkF m 0 #[vi x0] [] := by first | (simp [entryFrame, mkF, argsToLocals, Value.category]; done) | rfl
def Q_rmVo (Z : State) (p1 : Int32) (cA : Addr) (cl : Cell) (h0 : Heap) (n0 : Nat) (v : Option Value) (h : Heap) (L : List Loc) : Prop := ∃ b : Addr, (v = some (.ref b)) ∧ (Fr n0 L) ∧ (Keep h0 h []) ∧ (Exa Z h b "java/lang/Integer") ∧ (Fld Z h b "java/lang/Integer" "value" "I" (.int p1))
set_option maxRecDepth 65536 in
set_option maxHeartbeats 40000000 in
theorem rmVo (l : Launch) (Z : State) (a0 : Array Value) (hw : ∀ d ∈ tables_1, d.before a0 Z = true) (ws : List Jvm.Cond) (p1 : Int32) (cA : Addr) (cl : Cell) (h0 : Heap) (n0 : Nat) (Z0 : n0 ≤ h0.size) (O0 : Old Z n0 h0) (S_high : Sta Z Z.heap "java/lang/Integer$IntegerCache" "high" "I" (.int (127 : Int32))) (S_cache : Sta Z Z.heap "java/lang/Integer$IntegerCache" "cache" "[Ljava/lang/Integer;" (.ref cA)) (BX : Bxs Z cA cl "java/lang/Integer" "I" (256 : Int32) (fun j => .int (j - (128 : Int32)))) :
    MetFree l y_5 (head1 (Jvm.Cond.code y_5 jdk_33_method_22_code 1 (some (.object "java/lang/Integer")) :: ws) ({ frames := 3, cells := 1, slots := 1, locals := 38 } : Room)) (fun a U => a = #[(.int p1)] ∧ Z.Warmed39 U.vm ∧ U.heap = h0) (fun _ _ _ _ _ => True) (fun _ U o U' => ∃ v L, o = .returned v ∧ Q_rmVo Z p1 cA cl h0 n0 v U'.heap L ∧ FrameEnd U o U' L ({ frames := 3, cells := 1, slots := 1, locals := 38 } : Room).cells ({ frames := 3, cells := 1, slots := 1, locals := 38 } : Room).slots) := by
  refine MetFree.of_bodySF (plainFor_of_name pn_3) hisR ?_
  intro p e s m args below meth c s₁ Bd hml0 hP hK
  obtain ⟨rfl, hZ, hh⟩ := hP
  have hx := Bd.exec
  have hby := Bd.bytes
  have hml : c.maxLocals = 1 := hml0
  have hown : s.vm.findClass "java/lang/Integer" = some m.cls := findClass_of_methodNamed Bd.named
  have hnm := (name_of_methodNamed Bd.named Bd.method).1
  have X0 : Stand p l e ({ frames := 3, cells := 1, slots := 1, locals := 38 } : Room) s m #[(.int p1)] below meth c s₁ [] 0 0 := Stand.of_body Bd
  have e0 : s₁.heap = h0 := by rw [← hh, Bd.state]; rfl
  have N0 := Fr.nil n0
  have KC : Keep h0 h0 [] := Keep.refl h0 _
  have pre0 : ∀ t, Steps p.tables e below (s₁.setTop (mkF m 0 #[vi p1] [])) t → Steps p.tables e below (s₁.setTop (entryFrame m #[(.int p1)] 1)) t := fun t k => castTop (ef_rmVo m p1) k
  have pre1 : ∀ t, Steps p.tables e below (s₁.setTop (mkF m 3 #[vi p1] [(.int (-128 : Int32)), (.int p1)])) t → Steps p.tables e below (s₁.setTop (entryFrame m #[(.int p1)] 1)) t := by
    intro t kt
    refine pre0 t ?_
    show SS p e below m s₁ 0 #[vi p1] [] _
    refine XS.iloadN X0.here hx rfl (hb hby d11_0) rfl ?_
    show SS p e below m s₁ 1 #[vi p1] [(.int p1)] _
    refine XS.bipush X0.here hx rfl (hb hby d11_1) ?_
    exact kt
  by_cases hc3_2 : p1 < (-128 : Int32)
  · obtain ⟨T3, h3, X3, e3, E3, A3, D3, -, st3⟩ := newO X0 hx hZ hown (ww hw 133 rfl) (ww hw 134 rfl) (ww hw 74 rfl) e0 (g := (mkF m 23 #[vi p1] [])) rfl (hb hby d11_23) (by decide) (by decide)
    obtain ⟨b3, g3⟩ : ∃ z, z = h0.size := ⟨_, rfl⟩
    rw [← g3] at A3 D3 st3
    have g_b3 : n0 ≤ b3 := Nat.le_trans (Nat.le_trans Z0 KC.1) (Nat.le_of_eq g3.symm)
    have sz_b3 : h0.size ≤ b3 := Nat.le_trans KC.1 (Nat.le_of_eq g3.symm)
    replace O0 := O0.ext E3
    replace KC := KC.ext E3
    have F_value_b3 : Fld Z h3 b3 "java/lang/Integer" "value" "I" (.int (0 : Int32)) := D3 (Or.inr (ww hw 132 rfl)) (ty := .int) (by decide)
    obtain ⟨_, _, ⟨T4, L4, k4, n4⟩, -, X4, ⟨Lc4, hQ4, l4, y4, z4⟩, st4⟩ := X3.specialBack hx (y := y_4) rfl hown (mvT hZ (ww hw 135 rfl)) (mvT hZ (ww hw 136 rfl)) (mvT hZ (ww hw 137 rfl)) (by decide) (backOf (W := 1) (rmIn l Z a0 hw [] b3 p1 h3 n0 (Nat.le_trans Z0 KC.1) O0 F_value_b3 A3 g_b3) hZ (ww hw 137 rfl) (ww hw 74 rfl) (by decide) (by decide)) (g := (mkF m 28 #[vi p1] [(.int p1), (.ref b3), (.ref b3)])) rfl (by rw [hml]; rfl) (Steps.refl _) (a := b3) (argsL := [(.int p1)]) (rest := [(.ref b3)]) (lenOf pd_3 rfl) rfl (by show 2 * 0 + _ ≤ _; exact Nat.le_of_eq rfl) (hb hby d11_28) (fun _ _ => ⟨rfl, e3, (by decide : 1 + 0 ≤ _), (by decide : 1 + 0 ≤ _)⟩)
    dsimp only [Pt.U, Pt.locs, Pt.cells, Pt.slots] at X4 l4 y4 z4 st4 hQ4
    subst l4 y4 z4
    obtain ⟨rfl, N4q, K4, F_value_a1_4⟩ := hQ4
    have N4 := Fr.app N0 N4q
    replace A3 := A3.keep K4
    replace O0 := O0.keep K4 (allS g_b3 all0)
    replace KC := KC.trans K4 (allS (Or.inr sz_b3) all0)
    obtain ⟨fs, hr, hrun, hended, hW, hsame⟩ := X4.leave (v := some (.ref b3)) (fun h => by rw [Bd.returns] at h; cases h)
    refine ⟨_, _, pre1 _ ?_, hrun, hended, _, _, rfl, ?_, ⟨_, rfl⟩, hW, hsame.mono (by decide) (by decide)⟩
    · show SS p e below m s₁ 3 #[vi p1] [(.int (-128 : Int32)), (.int p1)] _
      refine XS.icmpYes X0.here hx rfl (pc0 := 3) (pc' := 23) rfl (hb hby d11_3) rfl (tlt hc3_2).1 (by decide) (by decide) ?_
      show SS p e below m s₁ 23 #[vi p1] [] _
      refine st3 _ ?_
      show SS p e below m T3 26 #[vi p1] [(.ref b3)] _
      refine XS.dup X3.here hx rfl (hb hby d11_26) rfl rfl ?_
      show SS p e below m T3 27 #[vi p1] [(.ref b3), (.ref b3)] _
      refine XS.iloadN X3.here hx rfl (hb hby d11_27) rfl ?_
      show SS p e below m T3 28 #[vi p1] [(.int p1), (.ref b3), (.ref b3)] _
      refine st4.trans ?_
      show SS p e below m T4 31 #[vi p1] [(.ref b3)] _
      jvm_step X4.here [X4.here.top, hx, (hb hby d11_31), X4.method', Bd.returns, Value.isRef, FieldType.isReference]
      first | (intro acts; rw [hr _ acts rfl rfl rfl]) | rw [hr _ _ rfl rfl rfl]
      exact Steps.refl _
    · show Q_rmVo Z p1 cA cl h0 n0 _ T4.heap _
      exact ⟨b3, rfl, N4, KC, A3, F_value_a1_4⟩
  · obtain ⟨T5, X5, e5, st5⟩ := getS2 X0 hx hZ hown (host := "") (Or.inl (ww hw 76 rfl)) Via.refl e0 (S_high.ext O0.2) (g := (mkF m 7 #[vi p1] [(.int p1)])) rfl (hb hby d11_7)
    have pre6 : ∀ t, Steps p.tables e below (T5.setTop (mkF m 10 #[vi p1] [(.int (127 : Int32)), (.int p1)])) t → Steps p.tables e below (s₁.setTop (entryFrame m #[(.int p1)] 1)) t := by
      intro t kt
      refine pre1 t ?_
      show SS p e below m s₁ 3 #[vi p1] [(.int (-128 : Int32)), (.int p1)] _
      refine XS.icmpNo X0.here hx rfl (hb hby d11_3) rfl (flt hc3_2).1 ?_
      show SS p e below m s₁ 6 #[vi p1] [] _
      refine XS.iloadN X0.here hx rfl (hb hby d11_6) rfl ?_
      show SS p e below m s₁ 7 #[vi p1] [(.int p1)] _
      refine st5 _ ?_
      exact kt
    by_cases hc10_7 : (127 : Int32) < p1
    · obtain ⟨T8, h8, X8, e8, E8, A8, D8, -, st8⟩ := newO X5 hx hZ hown (ww hw 133 rfl) (ww hw 134 rfl) (ww hw 74 rfl) e5 (g := (mkF m 23 #[vi p1] [])) rfl (hb hby d11_23) (by decide) (by decide)
      obtain ⟨b8, g8⟩ : ∃ z, z = h0.size := ⟨_, rfl⟩
      rw [← g8] at A8 D8 st8
      have g_b8 : n0 ≤ b8 := Nat.le_trans (Nat.le_trans Z0 KC.1) (Nat.le_of_eq g8.symm)
      have sz_b8 : h0.size ≤ b8 := Nat.le_trans KC.1 (Nat.le_of_eq g8.symm)
      replace O0 := O0.ext E8
      replace KC := KC.ext E8
      have F_value_b8 : Fld Z h8 b8 "java/lang/Integer" "value" "I" (.int (0 : Int32)) := D8 (Or.inr (ww hw 132 rfl)) (ty := .int) (by decide)
      obtain ⟨_, _, ⟨T9, L9, k9, n9⟩, -, X9, ⟨Lc9, hQ9, l9, y9, z9⟩, st9⟩ := X8.specialBack hx (y := y_4) rfl hown (mvT hZ (ww hw 135 rfl)) (mvT hZ (ww hw 136 rfl)) (mvT hZ (ww hw 137 rfl)) (by decide) (backOf (W := 1) (rmIn l Z a0 hw [] b8 p1 h8 n0 (Nat.le_trans Z0 KC.1) O0 F_value_b8 A8 g_b8) hZ (ww hw 137 rfl) (ww hw 74 rfl) (by decide) (by decide)) (g := (mkF m 28 #[vi p1] [(.int p1), (.ref b8), (.ref b8)])) rfl (by rw [hml]; rfl) (Steps.refl _) (a := b8) (argsL := [(.int p1)]) (rest := [(.ref b8)]) (lenOf pd_3 rfl) rfl (by show 2 * 0 + _ ≤ _; exact Nat.le_of_eq rfl) (hb hby d11_28) (fun _ _ => ⟨rfl, e8, (by decide : 1 + 0 ≤ _), (by decide : 1 + 0 ≤ _)⟩)
      dsimp only [Pt.U, Pt.locs, Pt.cells, Pt.slots] at X9 l9 y9 z9 st9 hQ9
      subst l9 y9 z9
      obtain ⟨rfl, N9q, K9, F_value_a1_9⟩ := hQ9
      have N9 := Fr.app N0 N9q
      replace A8 := A8.keep K9
      replace O0 := O0.keep K9 (allS g_b8 all0)
      replace KC := KC.trans K9 (allS (Or.inr sz_b8) all0)
      obtain ⟨fs, hr, hrun, hended, hW, hsame⟩ := X9.leave (v := some (.ref b8)) (fun h => by rw [Bd.returns] at h; cases h)
      refine ⟨_, _, pre6 _ ?_, hrun, hended, _, _, rfl, ?_, ⟨_, rfl⟩, hW, hsame.mono (by decide) (by decide)⟩
      · show SS p e below m T5 10 #[vi p1] [(.int (127 : Int32)), (.int p1)] _
        refine XS.icmpYes X5.here hx rfl (pc0 := 10) (pc' := 23) rfl (hb hby d11_10) rfl (tlt hc10_7).2.2.1 (by decide) (by decide) ?_
        show SS p e below m T5 23 #[vi p1] [] _
        refine st8 _ ?_
        show SS p e below m T8 26 #[vi p1] [(.ref b8)] _
        refine XS.dup X8.here hx rfl (hb hby d11_26) rfl rfl ?_
        show SS p e below m T8 27 #[vi p1] [(.ref b8), (.ref b8)] _
        refine XS.iloadN X8.here hx rfl (hb hby d11_27) rfl ?_
        show SS p e below m T8 28 #[vi p1] [(.int p1), (.ref b8), (.ref b8)] _
        refine st9.trans ?_
        show SS p e below m T9 31 #[vi p1] [(.ref b8)] _
        jvm_step X9.here [X9.here.top, hx, (hb hby d11_31), X9.method', Bd.returns, Value.isRef, FieldType.isReference]
        first | (intro acts; rw [hr _ acts rfl rfl rfl]) | rw [hr _ _ rfl rfl rfl]
        exact Steps.refl _
      · show Q_rmVo Z p1 cA cl h0 n0 _ T9.heap _
        exact ⟨b8, rfl, N9, KC, A8, F_value_a1_9⟩
    · obtain ⟨T10, X10, e10, st10⟩ := getS2 X5 hx hZ hown (host := "") (Or.inl (ww hw 78 rfl)) Via.refl e5 (S_cache.ext O0.2) (g := (mkF m 13 #[vi p1] [])) rfl (hb hby d11_13)
      have ArC := BX.1.ext O0.2
      have hinC : ¬ ((p1 + (128 : Int32)) < 0 ∨ cl.slots.size ≤ ((p1 + (128 : Int32))).toNatClampNeg) := inb_of BX.2.1 (own_cin hc3_2 hc10_7)
      obtain ⟨bx, hatC, E_bx, F_bx0⟩ := BX.2.2.2 _ hinC
      have F_bx : Fld Z Z.heap bx "java/lang/Integer" "value" "I" (.int p1) := by have e : Value.int (p1 + (128 : Int32) - (128 : Int32)) = .int p1 := congrArg Value.int own_cval; rw [← e]; exact F_bx0
      obtain ⟨fs, hr, hrun, hended, hW, hsame⟩ := X10.leave (v := some (.ref bx)) (fun h => by rw [Bd.returns] at h; cases h)
      refine ⟨_, _, pre6 _ ?_, hrun, hended, _, _, rfl, ?_, ⟨_, rfl⟩, hW, hsame.mono (by decide) (by decide)⟩
      · show SS p e below m T5 10 #[vi p1] [(.int (127 : Int32)), (.int p1)] _
        refine XS.icmpNo X5.here hx rfl (hb hby d11_10) rfl (flt hc10_7).2.2.1 ?_
        show SS p e below m T5 13 #[vi p1] [] _
        refine st10 _ ?_
        show SS p e below m T10 16 #[vi p1] [(.ref cA)] _
        refine XS.iloadN X10.here hx rfl (hb hby d11_16) rfl ?_
        show SS p e below m T10 17 #[vi p1] [(.int p1), (.ref cA)] _
        refine XS.sipush X10.here hx rfl (hb hby d11_17) ?_
        show SS p e below m T10 20 #[vi p1] [(.int (128 : Int32)), (.int p1), (.ref cA)] _
        refine XS.iadd X10.here hx rfl (hb hby d11_20) rfl ?_
        show SS p e below m T10 21 #[vi p1] [(.int (p1 + (128 : Int32))), (.ref cA)] _
        refine X10.aaload hx (j := (p1 + (128 : Int32))) (v := (.ref bx)) (by rw [e10]; exact ArC.1) (State.isArrayOf_alike hZ.alike ArC.2.1) rfl ArC.2.2 hinC hatC (g := (mkF m 21 #[vi p1] [(.int (p1 + (128 : Int32))), (.ref cA)])) rfl rfl (hb hby d11_21) _ ?_
        show SS p e below m T10 22 #[vi p1] [(.ref bx)] _
        jvm_step X10.here [X10.here.top, hx, (hb hby d11_22), X10.method', Bd.returns, Value.isRef, FieldType.isReference]
        first | (intro acts; rw [hr _ acts rfl rfl rfl]) | rw [hr _ _ rfl rfl rfl]
        exact Steps.refl _
      · show Q_rmVo Z p1 cA cl h0 n0 _ T10.heap _
        rw [e10]
        exact ⟨bx, rfl, N0, KC, (E_bx.ext O0.2), (F_bx.ext O0.2)⟩
theorem d19_0 : decode jdk_33_method_27_code 0 = .ok (.aload_n 0, 1) := by decide +kernel
theorem d19_1 : decode jdk_33_method_27_code 1 = .ok (.getfield 205, 3) := by decide +kernel
theorem d19_4 : decode jdk_33_method_27_code 4 = .ok (.ireturn, 1) := by decide +kernel
theorem ef_rmIv (m : MethodId) (x0 : Addr) : entryFrame m #[(.ref x0)] 1 = mkF m 0 #[vr x0] [] := by first | (simp [entryFrame, mkF, argsToLocals, Value.category]; done) | rfl
def Q_rmIv (Z : State) (a1 : Addr) (w : Int32) (h0 : Heap) (n0 : Nat) (v : Option Value) (h : Heap) (L : List Loc) : Prop := (v = some (.int w)) ∧ (Fr n0 L) ∧ (h = h0)
set_option maxRecDepth 65536 in
set_option maxHeartbeats 40000000 in
theorem rmIv (l : Launch) (Z : State) (a0 : Array Value) (hw : ∀ d ∈ tables_1, d.before a0 Z = true) (ws : List Jvm.Cond) (a1 : Addr) (w : Int32) (h0 : Heap) (n0 : Nat) (Z0 : n0 ≤ h0.size) (O0 : Old Z n0 h0) (F_value_a1 : Fld Z h0 a1 "java/lang/Integer" "value" "I" (.int w)) :
    MetFree l y_6 (head1 (Jvm.Cond.code y_6 jdk_33_method_27_code 1 (some .int) :: ws) ({ frames := 0, cells := 0, slots := 0, locals := 0 } : Room)) (fun a U => a = #[(.ref a1)] ∧ Z.Warmed39 U.vm ∧ U.heap = h0) (fun _ _ _ _ _ => True) (fun _ U o U' => ∃ v L, o = .returned v ∧ Q_rmIv Z a1 w h0 n0 v U'.heap L ∧ FrameEnd U o U' L ({ frames := 0, cells := 0, slots := 0, locals := 0 } : Room).cells ({ frames := 0, cells := 0, slots := 0, locals := 0 } : Room).slots) := by
  refine MetFree.of_bodySF (plainFor_of_name pn_3) hisR ?_
  intro p e s m args below meth c s₁ Bd hml0 hP hK
  obtain ⟨rfl, hZ, hh⟩ := hP
  have hx := Bd.exec
  have hby := Bd.bytes
  have hml : c.maxLocals = 1 := hml0
  have hown : s.vm.findClass "java/lang/Integer" = some m.cls := findClass_of_methodNamed Bd.named
  have hnm := (name_of_methodNamed Bd.named Bd.method).1
  have X0 : Stand p l e ({ frames := 0, cells := 0, slots := 0, locals := 0 } : Room) s m #[(.ref a1)] below meth c s₁ [] 0 0 := Stand.of_body Bd
  have e0 : s₁.heap = h0 := by rw [← hh, Bd.state]; rfl
  have N0 := Fr.nil n0
  have KC : Keep h0 h0 [] := Keep.refl h0 _
  have pre0 : ∀ t, Steps p.tables e below (s₁.setTop (mkF m 0 #[vr a1] [])) t → Steps p.tables e below (s₁.setTop (entryFrame m #[(.ref a1)] 1)) t := fun t k => castTop (ef_rmIv m a1) k
  obtain ⟨T1, X1, e1, st1⟩ := getF X0 hx hZ hown (host := "") (Or.inl (ww hw 131 rfl)) Via.refl e0 F_value_a1 (g := (mkF m 1 #[vr a1] [(.ref a1)])) rfl rfl (hb hby d19_1)
  obtain ⟨fs, hr, hrun, hended, hW, hsame⟩ := X1.leave (v := some (.int w)) (fun h => by rw [Bd.returns] at h; cases h)
  refine ⟨_, _, pre0 _ ?_, hrun, hended, _, _, rfl, ?_, ⟨_, rfl⟩, hW, hsame.mono (by decide) (by decide)⟩
  · show SS p e below m s₁ 0 #[vr a1] [] _
    refine XS.aloadN X0.here hx rfl (hb hby d19_0) rfl rfl ?_
    show SS p e below m s₁ 1 #[vr a1] [(.ref a1)] _
    refine st1 _ ?_
    show SS p e below m T1 4 #[vr a1] [(.int w)] _
    exact retI X1 hx Bd.returns (hb hby d19_4) hr
  · show Q_rmIv Z a1 w h0 n0 _ T1.heap _
    rw [e1]
    exact ⟨rfl, N0, rfl⟩
theorem d13_0 : decode jdk_31_method_10_code 0 = .ok (.aload_n 0, 1) := by decide +kernel
theorem d13_1 : decode jdk_31_method_10_code 1 = .ok (.ifnonnull 11, 3) := by decide +kernel
theorem d13_12 : decode jdk_31_method_10_code 12 = .ok (.aload_n 0, 1) := by decide +kernel
theorem d13_13 : decode jdk_31_method_10_code 13 = .ok (.areturn, 1) := by decide +kernel
theorem pn_4 : plainName "java/util/Objects" = true := by first | (simp [plainName, overriddenIn]; done) | decide +kernel
theorem ef_rmRn (m : MethodId) (x0 : Addr) : entryFrame m #[(.ref x0)] 1 = mkF m 0 #[vr x0] [] := by first | (simp [entryFrame, mkF, argsToLocals, Value.category]; done) | rfl
def Q_rmRn (Z : State) (a1 : Addr) (h0 : Heap) (n0 : Nat) (v : Option Value) (h : Heap) (L : List Loc) : Prop := (v = some (.ref a1)) ∧ (Fr n0 L) ∧ (h = h0)
set_option maxRecDepth 65536 in
set_option maxHeartbeats 40000000 in
theorem rmRn (l : Launch) (Z : State) (a0 : Array Value) (hw : ∀ d ∈ tables_1, d.before a0 Z = true) (ws : List Jvm.Cond) (a1 : Addr) (h0 : Heap) (n0 : Nat) (Z0 : n0 ≤ h0.size) (O0 : Old Z n0 h0) :
    MetFree l y_7 (head1 (Jvm.Cond.code y_7 jdk_31_method_10_code 1 (some (.object "java/lang/Object")) :: ws) ({ frames := 0, cells := 0, slots := 0, locals := 0 } : Room)) (fun a U => a = #[(.ref a1)] ∧ Z.Warmed39 U.vm ∧ U.heap = h0) (fun _ _ _ _ _ => True) (fun _ U o U' => ∃ v L, o = .returned v ∧ Q_rmRn Z a1 h0 n0 v U'.heap L ∧ FrameEnd U o U' L ({ frames := 0, cells := 0, slots := 0, locals := 0 } : Room).cells ({ frames := 0, cells := 0, slots := 0, locals := 0 } : Room).slots) := by
  refine MetFree.of_bodySF (plainFor_of_name pn_4) hisR ?_
  intro p e s m args below meth c s₁ Bd hml0 hP hK
  obtain ⟨rfl, hZ, hh⟩ := hP
  have hx := Bd.exec
  have hby := Bd.bytes
  have hml : c.maxLocals = 1 := hml0
  have hown : s.vm.findClass "java/util/Objects" = some m.cls := findClass_of_methodNamed Bd.named
  have hnm := (name_of_methodNamed Bd.named Bd.method).1
  have X0 : Stand p l e ({ frames := 0, cells := 0, slots := 0, locals := 0 } : Room) s m #[(.ref a1)] below meth c s₁ [] 0 0 := Stand.of_body Bd
  have e0 : s₁.heap = h0 := by rw [← hh, Bd.state]; rfl
  have N0 := Fr.nil n0
  have KC : Keep h0 h0 [] := Keep.refl h0 _
  have pre0 : ∀ t, Steps p.tables e below (s₁.setTop (mkF m 0 #[vr a1] [])) t → Steps p.tables e below (s₁.setTop (entryFrame m #[(.ref a1)] 1)) t := fun t k => castTop (ef_rmRn m a1) k
  obtain ⟨fs, hr, hrun, hended, hW, hsame⟩ := X0.leave (v := some (.ref a1)) (fun h => by rw [Bd.returns] at h; cases h)
  refine ⟨_, _, pre0 _ ?_, hrun, hended, _, _, rfl, ?_, ⟨_, rfl⟩, hW, hsame.mono (by decide) (by decide)⟩
  · show SS p e below m s₁ 0 #[vr a1] [] _
    refine XS.aloadN X0.here hx rfl (hb hby d13_0) rfl rfl ?_
    show SS p e below m s₁ 1 #[vr a1] [(.ref a1)] _
    refine XS.ifnonnullYes X0.here hx rfl (pc0 := 1) (pc' := 12) rfl (hb hby d13_1) rfl (by decide) (by decide) ?_
    show SS p e below m s₁ 12 #[vr a1] [] _
    refine XS.aloadN X0.here hx rfl (hb hby d13_12) rfl rfl ?_
    show SS p e below m s₁ 13 #[vr a1] [(.ref a1)] _
    jvm_step X0.here [X0.here.top, hx, (hb hby d13_13), X0.method', Bd.returns, Value.isRef, FieldType.isReference]
    first | (intro acts; rw [hr _ acts rfl rfl rfl]) | rw [hr _ _ rfl rfl rfl]
    exact Steps.refl _
  · show Q_rmRn Z a1 h0 n0 _ s₁.heap _
    rw [e0]
    exact ⟨rfl, N0, rfl⟩
theorem d14_0 : decode jdk_29_method_65_code 0 = .ok (.iload_n 0, 1) := by decide +kernel
theorem d14_1 : decode jdk_29_method_65_code 1 = .ok (.iload_n 1, 1) := by decide +kernel
theorem d14_2 : decode jdk_29_method_65_code 2 = .ok (.if_icmp .lt 7, 3) := by decide +kernel
theorem d14_5 : decode jdk_29_method_65_code 5 = .ok (.iload_n 0, 1) := by decide +kernel
theorem d14_6 : decode jdk_29_method_65_code 6 = .ok (.goto 4, 3) := by decide +kernel
theorem d14_9 : decode jdk_29_method_65_code 9 = .ok (.iload_n 1, 1) := by decide +kernel
theorem d14_10 : decode jdk_29_method_65_code 10 = .ok (.ireturn, 1) := by decide +kernel
theorem ef_rmMx (m : MethodId) (x0 : Int32) (x1 : Int32) : entryFrame m #[(.int x0), (.int x1)] 2 = mkF m 0 #[vi x0, vi x1] [] := by first | (simp [entryFrame, mkF, argsToLocals, Value.category]; done) | rfl
def Q_rmMx (Z : State) (p1 : Int32) (p2 : Int32) (h0 : Heap) (n0 : Nat) (v : Option Value) (h : Heap) (L : List Loc) : Prop := (v = some (.int (if p1 < p2 then p2 else p1))) ∧ (Fr n0 L) ∧ (h = h0)
set_option maxRecDepth 65536 in
set_option maxHeartbeats 40000000 in
theorem rmMx (l : Launch) (Z : State) (a0 : Array Value) (hw : ∀ d ∈ tables_1, d.before a0 Z = true) (ws : List Jvm.Cond) (p1 : Int32) (p2 : Int32) (h0 : Heap) (n0 : Nat) (Z0 : n0 ≤ h0.size) (O0 : Old Z n0 h0) :
    MetFree l y_8 (head1 (Jvm.Cond.code y_8 jdk_29_method_65_code 2 (some .int) :: ws) ({ frames := 0, cells := 0, slots := 0, locals := 0 } : Room)) (fun a U => a = #[(.int p1), (.int p2)] ∧ Z.Warmed39 U.vm ∧ U.heap = h0) (fun _ _ _ _ _ => True) (fun _ U o U' => ∃ v L, o = .returned v ∧ Q_rmMx Z p1 p2 h0 n0 v U'.heap L ∧ FrameEnd U o U' L ({ frames := 0, cells := 0, slots := 0, locals := 0 } : Room).cells ({ frames := 0, cells := 0, slots := 0, locals := 0 } : Room).slots) := by
  refine MetFree.of_bodySF (Jvm.Free.JP.mathPlain rfl (by decide +kernel)) hisR ?_
  intro p e s m args below meth c s₁ Bd hml0 hP hK
  obtain ⟨rfl, hZ, hh⟩ := hP
  have hx := Bd.exec
  have hby := Bd.bytes
  have hml : c.maxLocals = 2 := hml0
  have hown : s.vm.findClass "java/lang/Math" = some m.cls := findClass_of_methodNamed Bd.named
  have hnm := (name_of_methodNamed Bd.named Bd.method).1
  have X0 : Stand p l e ({ frames := 0, cells := 0, slots := 0, locals := 0 } : Room) s m #[(.int p1), (.int p2)] below meth c s₁ [] 0 0 := Stand.of_body Bd
  have e0 : s₁.heap = h0 := by rw [← hh, Bd.state]; rfl
  have N0 := Fr.nil n0
  have KC : Keep h0 h0 [] := Keep.refl h0 _
  have pre0 : ∀ t, Steps p.tables e below (s₁.setTop (mkF m 0 #[vi p1, vi p2] [])) t → Steps p.tables e below (s₁.setTop (entryFrame m #[(.int p1), (.int p2)] 2)) t := fun t k => castTop (ef_rmMx m p1 p2) k
  have pre1 : ∀ t, Steps p.tables e below (s₁.setTop (mkF m 2 #[vi p1, vi p2] [(.int p2), (.int p1)])) t → Steps p.tables e below (s₁.setTop (entryFrame m #[(.int p1), (.int p2)] 2)) t := by
    intro t kt
    refine pre0 t ?_
    show SS p e below m s₁ 0 #[vi p1, vi p2] [] _
    refine XS.iloadN X0.here hx rfl (hb hby d14_0) rfl ?_
    show SS p e below m s₁ 1 #[vi p1, vi p2] [(.int p1)] _
    refine XS.iloadN X0.here hx rfl (hb hby d14_1) rfl ?_
    exact kt
  by_cases hc2_2 : p1 < p2
  · obtain ⟨fs, hr, hrun, hended, hW, hsame⟩ := X0.leave (v := some (.int p2)) (fun h => by rw [Bd.returns] at h; cases h)
    refine ⟨_, _, pre1 _ ?_, hrun, hended, _, _, rfl, ?_, ⟨_, rfl⟩, hW, hsame.mono (by decide) (by decide)⟩
    · show SS p e below m s₁ 2 #[vi p1, vi p2] [(.int p2), (.int p1)] _
      refine XS.icmpYes X0.here hx rfl (pc0 := 2) (pc' := 9) rfl (hb hby d14_2) rfl (tlt hc2_2).1 (by decide) (by decide) ?_
      show SS p e below m s₁ 9 #[vi p1, vi p2] [] _
      refine XS.iloadN X0.here hx rfl (hb hby d14_9) rfl ?_
      show SS p e below m s₁ 10 #[vi p1, vi p2] [(.int p2)] _
      exact retI X0 hx Bd.returns (hb hby d14_10) hr
    · show Q_rmMx Z p1 p2 h0 n0 _ s₁.heap _
      rw [e0]
      exact ⟨(by simp [hc2_2]), N0, rfl⟩
  · obtain ⟨fs, hr, hrun, hended, hW, hsame⟩ := X0.leave (v := some (.int p1)) (fun h => by rw [Bd.returns] at h; cases h)
    refine ⟨_, _, pre1 _ ?_, hrun, hended, _, _, rfl, ?_, ⟨_, rfl⟩, hW, hsame.mono (by decide) (by decide)⟩
    · show SS p e below m s₁ 2 #[vi p1, vi p2] [(.int p2), (.int p1)] _
      refine XS.icmpNo X0.here hx rfl (hb hby d14_2) rfl (flt hc2_2).1 ?_
      show SS p e below m s₁ 5 #[vi p1, vi p2] [] _
      refine XS.iloadN X0.here hx rfl (hb hby d14_5) rfl ?_
      show SS p e below m s₁ 6 #[vi p1, vi p2] [(.int p1)] _
      refine XS.goto X0.here hx rfl (pc0 := 6) (pc' := 10) rfl (hb hby d14_6) (by decide) (by decide) ?_
      show SS p e below m s₁ 10 #[vi p1, vi p2] [(.int p1)] _
      exact retI X0 hx Bd.returns (hb hby d14_10) hr
    · show Q_rmMx Z p1 p2 h0 n0 _ s₁.heap _
      rw [e0]
      exact ⟨(by simp [hc2_2]), N0, rfl⟩
theorem d17_0 : decode jdk_29_method_69_code 0 = .ok (.iload_n 0, 1) := by decide +kernel
theorem d17_1 : decode jdk_29_method_69_code 1 = .ok (.iload_n 1, 1) := by decide +kernel
theorem d17_2 : decode jdk_29_method_69_code 2 = .ok (.if_icmp .gt 7, 3) := by decide +kernel
theorem d17_5 : decode jdk_29_method_69_code 5 = .ok (.iload_n 0, 1) := by decide +kernel
theorem d17_6 : decode jdk_29_method_69_code 6 = .ok (.goto 4, 3) := by decide +kernel
theorem d17_9 : decode jdk_29_method_69_code 9 = .ok (.iload_n 1, 1) := by decide +kernel
theorem d17_10 : decode jdk_29_method_69_code 10 = .ok (.ireturn, 1) := by decide +kernel
theorem ef_rmMi (m : MethodId) (x0 : Int32) (x1 : Int32) : entryFrame m #[(.int x0), (.int x1)] 2 = mkF m 0 #[vi x0, vi x1] [] := by first | (simp [entryFrame, mkF, argsToLocals, Value.category]; done) | rfl
def Q_rmMi (Z : State) (p1 : Int32) (p2 : Int32) (h0 : Heap) (n0 : Nat) (v : Option Value) (h : Heap) (L : List Loc) : Prop := (v = some (.int (if p2 < p1 then p2 else p1))) ∧ (Fr n0 L) ∧ (h = h0)
set_option maxRecDepth 65536 in
set_option maxHeartbeats 40000000 in
theorem rmMi (l : Launch) (Z : State) (a0 : Array Value) (hw : ∀ d ∈ tables_1, d.before a0 Z = true) (ws : List Jvm.Cond) (p1 : Int32) (p2 : Int32) (h0 : Heap) (n0 : Nat) (Z0 : n0 ≤ h0.size) (O0 : Old Z n0 h0) :
    MetFree l y_9 (head1 (Jvm.Cond.code y_9 jdk_29_method_69_code 2 (some .int) :: ws) ({ frames := 0, cells := 0, slots := 0, locals := 0 } : Room)) (fun a U => a = #[(.int p1), (.int p2)] ∧ Z.Warmed39 U.vm ∧ U.heap = h0) (fun _ _ _ _ _ => True) (fun _ U o U' => ∃ v L, o = .returned v ∧ Q_rmMi Z p1 p2 h0 n0 v U'.heap L ∧ FrameEnd U o U' L ({ frames := 0, cells := 0, slots := 0, locals := 0 } : Room).cells ({ frames := 0, cells := 0, slots := 0, locals := 0 } : Room).slots) := by
  refine MetFree.of_bodySF (Jvm.Free.JP.mathPlain rfl (by decide +kernel)) hisR ?_
  intro p e s m args below meth c s₁ Bd hml0 hP hK
  obtain ⟨rfl, hZ, hh⟩ := hP
  have hx := Bd.exec
  have hby := Bd.bytes
  have hml : c.maxLocals = 2 := hml0
  have hown : s.vm.findClass "java/lang/Math" = some m.cls := findClass_of_methodNamed Bd.named
  have hnm := (name_of_methodNamed Bd.named Bd.method).1
  have X0 : Stand p l e ({ frames := 0, cells := 0, slots := 0, locals := 0 } : Room) s m #[(.int p1), (.int p2)] below meth c s₁ [] 0 0 := Stand.of_body Bd
  have e0 : s₁.heap = h0 := by rw [← hh, Bd.state]; rfl
  have N0 := Fr.nil n0
  have KC : Keep h0 h0 [] := Keep.refl h0 _
  have pre0 : ∀ t, Steps p.tables e below (s₁.setTop (mkF m 0 #[vi p1, vi p2] [])) t → Steps p.tables e below (s₁.setTop (entryFrame m #[(.int p1), (.int p2)] 2)) t := fun t k => castTop (ef_rmMi m p1 p2) k
  have pre1 : ∀ t, Steps p.tables e below (s₁.setTop (mkF m 2 #[vi p1, vi p2] [(.int p2), (.int p1)])) t → Steps p.tables e below (s₁.setTop (entryFrame m #[(.int p1), (.int p2)] 2)) t := by
    intro t kt
    refine pre0 t ?_
    show SS p e below m s₁ 0 #[vi p1, vi p2] [] _
    refine XS.iloadN X0.here hx rfl (hb hby d17_0) rfl ?_
    show SS p e below m s₁ 1 #[vi p1, vi p2] [(.int p1)] _
    refine XS.iloadN X0.here hx rfl (hb hby d17_1) rfl ?_
    exact kt
  by_cases hc2_2 : p2 < p1
  · obtain ⟨fs, hr, hrun, hended, hW, hsame⟩ := X0.leave (v := some (.int p2)) (fun h => by rw [Bd.returns] at h; cases h)
    refine ⟨_, _, pre1 _ ?_, hrun, hended, _, _, rfl, ?_, ⟨_, rfl⟩, hW, hsame.mono (by decide) (by decide)⟩
    · show SS p e below m s₁ 2 #[vi p1, vi p2] [(.int p2), (.int p1)] _
      refine XS.icmpYes X0.here hx rfl (pc0 := 2) (pc' := 9) rfl (hb hby d17_2) rfl (tlt hc2_2).2.2.1 (by decide) (by decide) ?_
      show SS p e below m s₁ 9 #[vi p1, vi p2] [] _
      refine XS.iloadN X0.here hx rfl (hb hby d17_9) rfl ?_
      show SS p e below m s₁ 10 #[vi p1, vi p2] [(.int p2)] _
      exact retI X0 hx Bd.returns (hb hby d17_10) hr
    · show Q_rmMi Z p1 p2 h0 n0 _ s₁.heap _
      rw [e0]
      exact ⟨(by simp [hc2_2]), N0, rfl⟩
  · obtain ⟨fs, hr, hrun, hended, hW, hsame⟩ := X0.leave (v := some (.int p1)) (fun h => by rw [Bd.returns] at h; cases h)
    refine ⟨_, _, pre1 _ ?_, hrun, hended, _, _, rfl, ?_, ⟨_, rfl⟩, hW, hsame.mono (by decide) (by decide)⟩
    · show SS p e below m s₁ 2 #[vi p1, vi p2] [(.int p2), (.int p1)] _
      refine XS.icmpNo X0.here hx rfl (hb hby d17_2) rfl (flt hc2_2).2.2.1 ?_
      show SS p e below m s₁ 5 #[vi p1, vi p2] [] _
      refine XS.iloadN X0.here hx rfl (hb hby d17_5) rfl ?_
      show SS p e below m s₁ 6 #[vi p1, vi p2] [(.int p1)] _
      refine XS.goto X0.here hx rfl (pc0 := 6) (pc' := 10) rfl (hb hby d17_6) (by decide) (by decide) ?_
      show SS p e below m s₁ 10 #[vi p1, vi p2] [(.int p1)] _
      exact retI X0 hx Bd.returns (hb hby d17_10) hr
    · show Q_rmMi Z p1 p2 h0 n0 _ s₁.heap _
      rw [e0]
      exact ⟨(by simp [hc2_2]), N0, rfl⟩
theorem pd_4 : parseMethodDescriptor "(II)I" = some ⟨[.int, .int], some .int⟩ := by decide +kernel
theorem d16_0 : decode jdk_65_method_120_code 0 = .ok (.aload_n 2, 1) := by decide +kernel
theorem d16_1 : decode jdk_65_method_120_code 1 = .ok (.ldc 110, 2) := by decide +kernel
theorem d16_3 : decode jdk_65_method_120_code 3 = .ok (.if_acmp .ne 10, 3) := by decide +kernel
theorem d16_6 : decode jdk_65_method_120_code 6 = .ok (.iload_n 1, 1) := by decide +kernel
theorem d16_7 : decode jdk_65_method_120_code 7 = .ok (.anewarray 2, 3) := by decide +kernel
theorem d16_10 : decode jdk_65_method_120_code 10 = .ok (.goto 14, 3) := by decide +kernel
theorem d16_24 : decode jdk_65_method_120_code 24 = .ok (.astore_n 3, 1) := by decide +kernel
theorem d16_25 : decode jdk_65_method_120_code 25 = .ok (.aload_n 0, 1) := by decide +kernel
theorem d16_26 : decode jdk_65_method_120_code 26 = .ok (.iconst 0, 1) := by decide +kernel
theorem d16_27 : decode jdk_65_method_120_code 27 = .ok (.aload_n 3, 1) := by decide +kernel
theorem d16_28 : decode jdk_65_method_120_code 28 = .ok (.iconst 0, 1) := by decide +kernel
theorem d16_29 : decode jdk_65_method_120_code 29 = .ok (.aload_n 0, 1) := by decide +kernel
theorem d16_30 : decode jdk_65_method_120_code 30 = .ok (.arraylength, 1) := by decide +kernel
theorem d16_31 : decode jdk_65_method_120_code 31 = .ok (.iload_n 1, 1) := by decide +kernel
theorem d16_32 : decode jdk_65_method_120_code 32 = .ok (.invokestatic 304, 3) := by decide +kernel
theorem d16_35 : decode jdk_65_method_120_code 35 = .ok (.invokestatic 150, 3) := by decide +kernel
theorem d16_38 : decode jdk_65_method_120_code 38 = .ok (.aload_n 3, 1) := by decide +kernel
theorem d16_39 : decode jdk_65_method_120_code 39 = .ok (.areturn, 1) := by decide +kernel
theorem pn_5 : plainName "java/util/Arrays" = true := by first | (simp [plainName, overriddenIn]; done) | decide +kernel
theorem ef_rmC3 (m : MethodId) (x0 : Addr) (x1 : Int32) (x2 : Addr) : entryFrame m #[(.ref x0), (.int x1), (.ref x2)] 4 = mkF m 0 #[vr x0, vi x1, vr x2, .unset] [] := by first | (simp [entryFrame, mkF, argsToLocals, Value.category]; done) | rfl
def Q_rmC3 (Z : State) (a1 : Addr) (p2 : Int32) (mr : Addr) (k : ClassId) (z : Int32) (vs : List Value) (nn : Int32) (vs' : List Value) (h0 : Heap) (n0 : Nat) (v : Option Value) (h : Heap) (L : List Loc) : Prop := ∃ b : Addr, ∃ k2 : ClassId, (v = some (.ref b)) ∧ (Fr n0 L) ∧ (Keep h0 h []) ∧ (h0.size ≤ b) ∧ (Exa Z h b "[Ljava/lang/Object;") ∧ (Arv Z h b k2 (.object "java/lang/Object") p2 vs' .null) ∧ (Ovr Z k2 "java/lang/Object")
set_option maxRecDepth 65536 in
set_option maxHeartbeats 40000000 in
theorem rmC3 (l : Launch) (Z : State) (a0 : Array Value) (hw : ∀ d ∈ tables_1, d.before a0 Z = true) (ws : List Jvm.Cond) (a1 : Addr) (p2 : Int32) (mr : Addr) (k : ClassId) (z : Int32) (vs : List Value) (nn : Int32) (vs' : List Value) (h0 : Heap) (n0 : Nat) (Z0 : n0 ≤ h0.size) (O0 : Old Z n0 h0) (E_a1 : Exa Z h0 a1 "[Ljava/lang/Object;") (V_a1 : Arv Z h0 a1 k (.object "java/lang/Object") z vs .null) (MIR : own_Mir Z "[Ljava/lang/Object;" mr) (hp1 : ¬ p2 < 0) (hp2 : p2.toNatClampNeg ≤ 10) (hp3 : (if p2 < z then p2 else z) = nn) (hp4 : ¬ nn < 0) (hp5 : nn.toNatClampNeg ≤ z.toNatClampNeg) (hp6 : nn.toNatClampNeg ≤ p2.toNatClampNeg) (hp7 : ((List.replicate 10 Value.null).take (0 : Int32).toNatClampNeg ++ ((List.range nn.toNatClampNeg).map fun i => vs.getD ((0 : Int32).toNatClampNeg + i) .null) ++ (List.replicate 10 Value.null).drop ((0 : Int32).toNatClampNeg + nn.toNatClampNeg)) = vs') (EL : own_Els Z h0 vs) :
    MetFree l y_10 (head1 (Jvm.Cond.code y_10 jdk_65_method_120_code 4 (some (.array (.object "java/lang/Object"))) :: ws) ({ frames := 1, cells := 1, slots := 10, locals := 18 } : Room)) (fun a U => a = #[(.ref a1), (.int p2), (.ref mr)] ∧ Z.Warmed39 U.vm ∧ U.heap = h0) (fun _ _ _ _ _ => True) (fun _ U o U' => ∃ v L, o = .returned v ∧ Q_rmC3 Z a1 p2 mr k z vs nn vs' h0 n0 v U'.heap L ∧ FrameEnd U o U' L ({ frames := 1, cells := 1, slots := 10, locals := 18 } : Room).cells ({ frames := 1, cells := 1, slots := 10, locals := 18 } : Room).slots) := by
  refine MetFree.of_bodySF (plainFor_of_name pn_5) hisR ?_
  intro p e s m args below meth c s₁ Bd hml0 hP hK
  obtain ⟨rfl, hZ, hh⟩ := hP
  have hx := Bd.exec
  have hby := Bd.bytes
  have hml : c.maxLocals = 4 := hml0
  have hown : s.vm.findClass "java/util/Arrays" = some m.cls := findClass_of_methodNamed Bd.named
  have hnm := (name_of_methodNamed Bd.named Bd.method).1
  have X0 : Stand p l e ({ frames := 1, cells := 1, slots := 10, locals := 18 } : Room) s m #[(.ref a1), (.int p2), (.ref mr)] below meth c s₁ [] 0 0 := Stand.of_body Bd
  have e0 : s₁.heap = h0 := by rw [← hh, Bd.state]; rfl
  have N0 := Fr.nil n0
  have KC : Keep h0 h0 [] := Keep.refl h0 _
  have pre0 : ∀ t, Steps p.tables e below (s₁.setTop (mkF m 0 #[vr a1, vi p2, vr mr, un] [])) t → Steps p.tables e below (s₁.setTop (entryFrame m #[(.ref a1), (.int p2), (.ref mr)] 4)) t := fun t k => castTop (ef_rmC3 m a1 p2 mr) k
  obtain ⟨T1, X1, e1, st1⟩ := own_ldcM X0 hx hZ hown (ww hw 107 rfl) e0 MIR (g := (mkF m 1 #[vr a1, vi p2, vr mr, un] [(.ref mr)])) rfl (hb hby d16_1)
  have EL0 := EL
  obtain ⟨T2, h2, k2, X2, e2, E2, A2, Ea2, Ov2, st2⟩ := newRE X1 hx hZ hown (ww hw 108 rfl) (ww hw 10 rfl) e1 (g := (mkF m 7 #[vr a1, vi p2, vr mr, un] [(.int p2)])) rfl (hb hby d16_7) rfl hp1 (cap := 10) hp2 (by decide) (by decide) (by decide) (ad := "[Ljava/lang/Object;") (by decide)
  obtain ⟨b2, g2⟩ : ∃ z, z = h0.size := ⟨_, rfl⟩
  rw [← g2] at A2 st2 Ea2
  have ne_a1_b2 : a1 ≠ b2 := Nat.ne_of_lt (Nat.lt_of_lt_of_le E_a1.lt (Nat.le_of_eq g2.symm))
  have g_b2 : n0 ≤ b2 := Nat.le_trans (Nat.le_trans Z0 KC.1) (Nat.le_of_eq g2.symm)
  have sz_b2 : h0.size ≤ b2 := Nat.le_trans KC.1 (Nat.le_of_eq g2.symm)
  replace E_a1 := E_a1.ext E2
  replace V_a1 := V_a1.ext E2
  replace O0 := O0.ext E2
  replace KC := KC.ext E2
  have V_b2 : Arv Z h2 b2 k2 (.object "java/lang/Object") p2 [] .null := Arv.new A2 hp1
  have Vo3 := V_a1
  obtain ⟨cl3, Ar3, -, Sz3, Nn3, -, -⟩ := Vo3
  have ia3 := State.isArrayOf_alike hZ.alike Ar3.2.1
  obtain ⟨_, _, ⟨T4, L4, k4, n4⟩, -, X4, ⟨Lc4, hQ4, l4, y4, z4⟩, st4⟩ := Jvm.LawKit.callS X2 hx (y := y_9) hown (mvT hZ (ww hw 109 rfl)) (mvT hZ (ww hw 110 rfl)) (mvT hZ (ww hw 92 rfl)) (mvT hZ (ww hw 111 rfl)) (by decide) (backOf (W := 4) (rmMi l Z a0 hw [] z p2 h2 n0 (Nat.le_trans Z0 KC.1) O0 ) hZ (ww hw 111 rfl) (ww hw 92 rfl) (by decide) (by decide)) (g := (mkF m 32 #[vr a1, vi p2, vr mr, vr b2] [(.int p2), (.int z), (.int (0 : Int32)), (.ref b2), (.int (0 : Int32)), (.ref a1)])) rfl (by rw [hml]; rfl) (argsL := [(.int z), (.int p2)]) (rest := [(.int (0 : Int32)), (.ref b2), (.int (0 : Int32)), (.ref a1)]) (lenOf pd_4 rfl) rfl (by show 2 * 0 + _ ≤ _; exact Nat.le_of_eq rfl) (hb hby d16_32) (fun _ _ => ⟨rfl, e2, (by decide : 1 + 0 ≤ _), (by decide : 10 + 0 ≤ _)⟩)
  dsimp only [Pt.U, Pt.locs, Pt.cells, Pt.slots] at X4 l4 y4 z4 st4 hQ4
  subst l4 y4 z4
  obtain ⟨rfl, N4q, e4⟩ := hQ4
  have N4 := Fr.app N0 N4q
  have pre5 : ∀ t, Steps p.tables e below (T4.setTop (mkF m 35 #[vr a1, vi p2, vr mr, vr b2] [(.int (if p2 < z then p2 else z)), (.int (0 : Int32)), (.ref b2), (.int (0 : Int32)), (.ref a1)])) t → Steps p.tables e below (s₁.setTop (entryFrame m #[(.ref a1), (.int p2), (.ref mr)] 4)) t := by
    intro t kt
    refine pre0 t ?_
    show SS p e below m s₁ 0 #[vr a1, vi p2, vr mr, un] [] _
    refine XS.aloadN X0.here hx rfl (hb hby d16_0) rfl rfl ?_
    show SS p e below m s₁ 1 #[vr a1, vi p2, vr mr, un] [(.ref mr)] _
    refine st1 _ ?_
    show SS p e below m T1 3 #[vr a1, vi p2, vr mr, un] [(.ref mr), (.ref mr)] _
    refine Jvm.RoadKit.acmp (g := (mkF m 3 #[vr a1, vi p2, vr mr, un] [(.ref mr), (.ref mr)])) X1 hx rfl rfl rfl (pc0 := 3) (pc' := 6) (same := true) rfl (hb hby d16_3) rfl (decide_eq_true rfl) (by decide) (by decide) ?_
    show SS p e below m T1 6 #[vr a1, vi p2, vr mr, un] [] _
    refine XS.iloadN X1.here hx rfl (hb hby d16_6) rfl ?_
    show SS p e below m T1 7 #[vr a1, vi p2, vr mr, un] [(.int p2)] _
    refine st2 _ ?_
    show SS p e below m T2 10 #[vr a1, vi p2, vr mr, un] [(.ref b2)] _
    refine XS.goto X2.here hx rfl (pc0 := 10) (pc' := 24) rfl (hb hby d16_10) (by decide) (by decide) ?_
    show SS p e below m T2 24 #[vr a1, vi p2, vr mr, un] [(.ref b2)] _
    refine XS.astoreN X2.here hx rfl (hb hby d16_24) rfl rfl (l' := #[vr a1, vi p2, vr mr, vr b2]) rfl ?_
    show SS p e below m T2 25 #[vr a1, vi p2, vr mr, vr b2] [] _
    refine XS.aloadN X2.here hx rfl (hb hby d16_25) rfl rfl ?_
    show SS p e below m T2 26 #[vr a1, vi p2, vr mr, vr b2] [(.ref a1)] _
    refine XS.iconst X2.here hx rfl (hb hby d16_26) ?_
    show SS p e below m T2 27 #[vr a1, vi p2, vr mr, vr b2] [(.int (0 : Int32)), (.ref a1)] _
    refine XS.aloadN X2.here hx rfl (hb hby d16_27) rfl rfl ?_
    show SS p e below m T2 28 #[vr a1, vi p2, vr mr, vr b2] [(.ref b2), (.int (0 : Int32)), (.ref a1)] _
    refine XS.iconst X2.here hx rfl (hb hby d16_28) ?_
    show SS p e below m T2 29 #[vr a1, vi p2, vr mr, vr b2] [(.int (0 : Int32)), (.ref b2), (.int (0 : Int32)), (.ref a1)] _
    refine XS.aloadN X2.here hx rfl (hb hby d16_29) rfl rfl ?_
    show SS p e below m T2 30 #[vr a1, vi p2, vr mr, vr b2] [(.ref a1), (.int (0 : Int32)), (.ref b2), (.int (0 : Int32)), (.ref a1)] _
    refine X2.arraylength hx (by rw [e2]; exact Ar3.1) ia3 (g := (mkF m 30 #[vr a1, vi p2, vr mr, vr b2] [(.ref a1), (.int (0 : Int32)), (.ref b2), (.int (0 : Int32)), (.ref a1)])) rfl rfl (hb hby d16_30) _ ?_
    rw [len_of Sz3 Nn3]
    show SS p e below m T2 31 #[vr a1, vi p2, vr mr, vr b2] [(.int z), (.int (0 : Int32)), (.ref b2), (.int (0 : Int32)), (.ref a1)] _
    refine XS.iloadN X2.here hx rfl (hb hby d16_31) rfl ?_
    show SS p e below m T2 32 #[vr a1, vi p2, vr mr, vr b2] [(.int p2), (.int z), (.int (0 : Int32)), (.ref b2), (.int (0 : Int32)), (.ref a1)] _
    refine st4 _ ?_
    exact kt
  rw [hp3] at pre5
  replace EL0 := own_els_ext EL0 E2
  have Vp : Arv Z h2 b2 k2 (.object "java/lang/Object") p2 (List.replicate 10 .null) .null := V_b2.pad (pad_rep [] .null 10)
  have SL := own_stoL Vp Ov2 (ww hw 89 rfl) EL0 (List.range nn.toNatClampNeg) (0 : Int32).toNatClampNeg
  obtain ⟨T6, h6, L6, X6, e6, N6, K6, Vq6, st6⟩ := cpA X4 hx hZ hown (ww hw 112 rfl) (ww hw 115 rfl) (ww hw 113 rfl) (ww hw 114 rfl) e4 V_a1 Vp (us := (List.range nn.toNatClampNeg).map fun i => vs.getD ((0 : Int32).toNatClampNeg + i) .null) (Or.inr ⟨rfl, rfl, SL⟩) (by decide) (by decide) hp4 (by show 0 + _ ≤ _; omega) (by show 0 + _ ≤ _; omega) rfl (by simp only [List.length_replicate]; show 0 + _ ≤ _; omega) N4 g_b2 (g := (mkF m 35 #[vr a1, vi p2, vr mr, vr b2] [(.int nn), (.int (0 : Int32)), (.ref b2), (.int (0 : Int32)), (.ref a1)])) rfl (by rw [hml]; rfl) rfl (hb hby d16_35) (by decide) (W := 0) (by show 2 * 0 + _ ≤ _; exact Nat.le_of_eq rfl) (by decide)
  replace E_a1 := E_a1.keep K6
  replace V_a1 := V_a1.keep K6 (ninS ne_a1_b2 nin0)
  replace Ea2 := Ea2.keep K6
  replace O0 := O0.keep K6 (allS g_b2 all0)
  replace KC := KC.trans K6 (allS (Or.inr sz_b2) all0)
  rw [hp7] at Vq6
  obtain ⟨fs, hr, hrun, hended, hW, hsame⟩ := X6.leave (v := some (.ref b2)) (fun h => by rw [Bd.returns] at h; cases h)
  refine ⟨_, _, pre5 _ ?_, hrun, hended, _, _, rfl, ?_, ⟨_, rfl⟩, hW, hsame.mono (by decide) (by decide)⟩
  · show SS p e below m T4 35 #[vr a1, vi p2, vr mr, vr b2] [(.int nn), (.int (0 : Int32)), (.ref b2), (.int (0 : Int32)), (.ref a1)] _
    refine st6 _ ?_
    show SS p e below m T6 38 #[vr a1, vi p2, vr mr, vr b2] [] _
    refine XS.aloadN X6.here hx rfl (hb hby d16_38) rfl rfl ?_
    show SS p e below m T6 39 #[vr a1, vi p2, vr mr, vr b2] [(.ref b2)] _
    jvm_step X6.here [X6.here.top, hx, (hb hby d16_39), X6.method', Bd.returns, Value.isRef, FieldType.isReference]
    first | (intro acts; rw [hr _ acts rfl rfl rfl]) | rw [hr _ _ rfl rfl rfl]
    exact Steps.refl _
  · show Q_rmC3 Z a1 p2 mr k z vs nn vs' h0 n0 _ T6.heap _
    rw [e6]
    exact ⟨b2, k2, rfl, N6, KC, sz_b2, Ea2, Vq6, Ov2⟩
theorem pd_5 : parseMethodDescriptor "([Ljava/lang/Object;ILjava/lang/Class;)[Ljava/lang/Object;" = some ⟨[(.array (.object "java/lang/Object")), .int, (.object "java/lang/Class")], some (.array (.object "java/lang/Object"))⟩ := by decide +kernel
theorem d15_0 : decode jdk_65_method_119_code 0 = .ok (.aload_n 0, 1) := by decide +kernel
theorem d15_1 : decode jdk_65_method_119_code 1 = .ok (.iload_n 1, 1) := by decide +kernel
theorem d15_2 : decode jdk_65_method_119_code 2 = .ok (.aload_n 0, 1) := by decide +kernel
theorem d15_3 : decode jdk_65_method_119_code 3 = .ok (.invokevirtual 86, 3) := by decide +kernel
theorem d15_6 : decode jdk_65_method_119_code 6 = .ok (.invokestatic 300, 3) := by decide +kernel
theorem d15_9 : decode jdk_65_method_119_code 9 = .ok (.areturn, 1) := by decide +kernel
theorem ef_rmC2 (m : MethodId) (x0 : Addr) (x1 : Int32) : entryFrame m #[(.ref x0), (.int x1)] 2 = mkF m 0 #[vr x0, vi x1] [] := by first | (simp [entryFrame, mkF, argsToLocals, Value.category]; done) | rfl
def Q_rmC2 (Z : State) (a1 : Addr) (p2 : Int32) (mr : Addr) (k : ClassId) (z : Int32) (vs : List Value) (nn : Int32) (vs' : List Value) (h0 : Heap) (n0 : Nat) (v : Option Value) (h : Heap) (L : List Loc) : Prop := ∃ b : Addr, ∃ k2 : ClassId, (v = some (.ref b)) ∧ (Fr n0 L) ∧ (Keep h0 h []) ∧ (h0.size ≤ b) ∧ (Exa Z h b "[Ljava/lang/Object;") ∧ (Arv Z h b k2 (.object "java/lang/Object") p2 vs' .null) ∧ (Ovr Z k2 "java/lang/Object")
set_option maxRecDepth 65536 in
set_option maxHeartbeats 40000000 in
theorem rmC2 (l : Launch) (Z : State) (a0 : Array Value) (hw : ∀ d ∈ tables_1, d.before a0 Z = true) (ws : List Jvm.Cond) (a1 : Addr) (p2 : Int32) (mr : Addr) (k : ClassId) (z : Int32) (vs : List Value) (nn : Int32) (vs' : List Value) (h0 : Heap) (n0 : Nat) (Z0 : n0 ≤ h0.size) (O0 : Old Z n0 h0) (E_a1 : Exa Z h0 a1 "[Ljava/lang/Object;") (V_a1 : Arv Z h0 a1 k (.object "java/lang/Object") z vs .null) (MIR : own_Mir Z "[Ljava/lang/Object;" mr) (hp1 : ¬ p2 < 0) (hp2 : p2.toNatClampNeg ≤ 10) (hp3 : (if p2 < z then p2 else z) = nn) (hp4 : ¬ nn < 0) (hp5 : nn.toNatClampNeg ≤ z.toNatClampNeg) (hp6 : nn.toNatClampNeg ≤ p2.toNatClampNeg) (hp7 : ((List.replicate 10 Value.null).take (0 : Int32).toNatClampNeg ++ ((List.range nn.toNatClampNeg).map fun i => vs.getD ((0 : Int32).toNatClampNeg + i) .null) ++ (List.replicate 10 Value.null).drop ((0 : Int32).toNatClampNeg + nn.toNatClampNeg)) = vs') (EL : own_Els Z h0 vs) :
    MetFree l y_11 (head1 (Jvm.Cond.code y_11 jdk_65_method_119_code 2 (some (.array (.object "java/lang/Object"))) :: ws) ({ frames := 2, cells := 1, slots := 10, locals := 33 } : Room)) (fun a U => a = #[(.ref a1), (.int p2)] ∧ Z.Warmed39 U.vm ∧ U.heap = h0) (fun _ _ _ _ _ => True) (fun _ U o U' => ∃ v L, o = .returned v ∧ Q_rmC2 Z a1 p2 mr k z vs nn vs' h0 n0 v U'.heap L ∧ FrameEnd U o U' L ({ frames := 2, cells := 1, slots := 10, locals := 33 } : Room).cells ({ frames := 2, cells := 1, slots := 10, locals := 33 } : Room).slots) := by
  refine MetFree.of_bodySF (plainFor_of_name pn_5) hisR ?_
  intro p e s m args below meth c s₁ Bd hml0 hP hK
  obtain ⟨rfl, hZ, hh⟩ := hP
  have hx := Bd.exec
  have hby := Bd.bytes
  have hml : c.maxLocals = 2 := hml0
  have hown : s.vm.findClass "java/util/Arrays" = some m.cls := findClass_of_methodNamed Bd.named
  have hnm := (name_of_methodNamed Bd.named Bd.method).1
  have X0 : Stand p l e ({ frames := 2, cells := 1, slots := 10, locals := 33 } : Room) s m #[(.ref a1), (.int p2)] below meth c s₁ [] 0 0 := Stand.of_body Bd
  have e0 : s₁.heap = h0 := by rw [← hh, Bd.state]; rfl
  have N0 := Fr.nil n0
  have KC : Keep h0 h0 [] := Keep.refl h0 _
  have pre0 : ∀ t, Steps p.tables e below (s₁.setTop (mkF m 0 #[vr a1, vi p2] [])) t → Steps p.tables e below (s₁.setTop (entryFrame m #[(.ref a1), (.int p2)] 2)) t := fun t k => castTop (ef_rmC2 m a1 p2) k
  obtain ⟨T1, X1, e1, st1⟩ := own_gcls X0 hx hZ hown (ww hw 98 rfl) (ww hw 99 rfl) (ww hw 101 rfl) (ww hw 100 rfl) (ww hw 102 rfl) e0 E_a1 MIR (g := (mkF m 3 #[vr a1, vi p2] [(.ref a1), (.int p2), (.ref a1)])) rfl (by rw [hml]; rfl) rfl (hb hby d15_3) (by decide) (W := 2) (by show 2 * 0 + _ ≤ _; exact Nat.le_of_eq rfl) (by decide)
  obtain ⟨_, _, ⟨T2, L2, k2, n2⟩, -, X2, ⟨Lc2, hQ2, l2, y2, z2⟩, st2⟩ := Jvm.LawKit.callS X1 hx (y := y_10) hown (mvT hZ (ww hw 104 rfl)) (mvT hZ (ww hw 105 rfl)) (mvT hZ (ww hw 96 rfl)) (mvT hZ (ww hw 106 rfl)) (by decide) (backOf (W := 0) (rmC3 l Z a0 hw [] a1 p2 mr k z vs nn vs' h0 n0 (Nat.le_trans Z0 KC.1) O0 E_a1 V_a1 MIR hp1 hp2 hp3 hp4 hp5 hp6 hp7 EL) hZ (ww hw 106 rfl) (ww hw 96 rfl) (by decide) (by decide)) (g := (mkF m 6 #[vr a1, vi p2] [(.ref mr), (.int p2), (.ref a1)])) rfl (by rw [hml]; rfl) (argsL := [(.ref a1), (.int p2), (.ref mr)]) (rest := []) (lenOf pd_5 rfl) rfl (by show 2 * 0 + _ ≤ _; exact Nat.le_of_eq rfl) (hb hby d15_6) (fun _ _ => ⟨rfl, e1, (by decide : 0 + 1 ≤ _), (by decide : 0 + 10 ≤ _)⟩)
  dsimp only [Pt.U, Pt.locs, Pt.cells, Pt.slots] at X2 l2 y2 z2 st2 hQ2
  subst l2 y2 z2
  obtain ⟨b2_b, k2_2, rfl, N2q, K2, sz_b2_b, E_b_2, V_b_2, hq2_0⟩ := hQ2
  have N2 := Fr.app N0 N2q
  have ne_a1_b2_b : a1 ≠ b2_b := Nat.ne_of_lt (Nat.lt_of_lt_of_le E_a1.lt sz_b2_b)
  have g_b2_b : n0 ≤ b2_b := Nat.le_trans (Nat.le_trans Z0 KC.1) sz_b2_b
  replace sz_b2_b : h0.size ≤ b2_b := Nat.le_trans KC.1 sz_b2_b
  replace E_a1 := E_a1.keep K2
  replace V_a1 := V_a1.keep K2 nin0
  replace O0 := O0.keep K2 all0
  replace KC := KC.trans K2 all0
  obtain ⟨fs, hr, hrun, hended, hW, hsame⟩ := X2.leave (v := some (.ref b2_b)) (fun h => by rw [Bd.returns] at h; cases h)
  refine ⟨_, _, pre0 _ ?_, hrun, hended, _, _, rfl, ?_, ⟨_, rfl⟩, hW, hsame.mono (by decide) (by decide)⟩
  · show SS p e below m s₁ 0 #[vr a1, vi p2] [] _
    refine XS.aloadN X0.here hx rfl (hb hby d15_0) rfl rfl ?_
    show SS p e below m s₁ 1 #[vr a1, vi p2] [(.ref a1)] _
    refine XS.iloadN X0.here hx rfl (hb hby d15_1) rfl ?_
    show SS p e below m s₁ 2 #[vr a1, vi p2] [(.int p2), (.ref a1)] _
    refine XS.aloadN X0.here hx rfl (hb hby d15_2) rfl rfl ?_
    show SS p e below m s₁ 3 #[vr a1, vi p2] [(.ref a1), (.int p2), (.ref a1)] _
    refine st1 _ ?_
    show SS p e below m T1 6 #[vr a1, vi p2] [(.ref mr), (.int p2), (.ref a1)] _
    refine st2 _ ?_
    show SS p e below m T2 9 #[vr a1, vi p2] [(.ref b2_b)] _
    jvm_step X2.here [X2.here.top, hx, (hb hby d15_9), X2.method', Bd.returns, Value.isRef, FieldType.isReference]
    first | (intro acts; rw [hr _ acts rfl rfl rfl]) | rw [hr _ _ rfl rfl rfl]
    exact Steps.refl _
  · show Q_rmC2 Z a1 p2 mr k z vs nn vs' h0 n0 _ T2.heap _
    exact ⟨b2_b, k2_2, rfl, N2, KC, sz_b2_b, E_b_2, V_b_2, hq2_0⟩
theorem pd_6 : parseMethodDescriptor "(Ljava/lang/Object;)Ljava/lang/Object;" = some ⟨[(.object "java/lang/Object")], some (.object "java/lang/Object")⟩ := by decide +kernel
theorem d12_0 : decode prog_112_method_5_code 0 = .ok (.aload_n 0, 1) := by decide +kernel
theorem d12_1 : decode prog_112_method_5_code 1 = .ok (.getfield 21, 3) := by decide +kernel
theorem d12_4 : decode prog_112_method_5_code 4 = .ok (.aload_n 0, 1) := by decide +kernel
theorem d12_5 : decode prog_112_method_5_code 5 = .ok (.getfield 17, 3) := by decide +kernel
theorem d12_8 : decode prog_112_method_5_code 8 = .ok (.getfield 25, 3) := by decide +kernel
theorem d12_11 : decode prog_112_method_5_code 11 = .ok (.if_icmp .lt 18, 3) := by decide +kernel
theorem d12_14 : decode prog_112_method_5_code 14 = .ok (.aload_n 0, 1) := by decide +kernel
theorem d12_15 : decode prog_112_method_5_code 15 = .ok (.getfield 21, 3) := by decide +kernel
theorem d12_18 : decode prog_112_method_5_code 18 = .ok (.aload_n 0, 1) := by decide +kernel
theorem d12_19 : decode prog_112_method_5_code 19 = .ok (.getfield 17, 3) := by decide +kernel
theorem d12_22 : decode prog_112_method_5_code 22 = .ok (.getfield 28, 3) := by decide +kernel
theorem d12_25 : decode prog_112_method_5_code 25 = .ok (.arraylength, 1) := by decide +kernel
theorem d12_26 : decode prog_112_method_5_code 26 = .ok (.if_icmp .ne 38, 3) := by decide +kernel
theorem d12_64 : decode prog_112_method_5_code 64 = .ok (.aload_n 0, 1) := by decide +kernel
theorem d12_65 : decode prog_112_method_5_code 65 = .ok (.getfield 17, 3) := by decide +kernel
theorem d12_68 : decode prog_112_method_5_code 68 = .ok (.getfield 28, 3) := by decide +kernel
theorem d12_71 : decode prog_112_method_5_code 71 = .ok (.aload_n 0, 1) := by decide +kernel
theorem d12_72 : decode prog_112_method_5_code 72 = .ok (.getfield 21, 3) := by decide +kernel
theorem d12_75 : decode prog_112_method_5_code 75 = .ok (.aload_n 1, 1) := by decide +kernel
theorem d12_76 : decode prog_112_method_5_code 76 = .ok (.invokestatic 44, 3) := by decide +kernel
theorem d12_79 : decode prog_112_method_5_code 79 = .ok (.aastore, 1) := by decide +kernel
theorem d12_80 : decode prog_112_method_5_code 80 = .ok (.aload_n 0, 1) := by decide +kernel
theorem d12_81 : decode prog_112_method_5_code 81 = .ok (.getfield 17, 3) := by decide +kernel
theorem d12_84 : decode prog_112_method_5_code 84 = .ok (.aload_n 0, 1) := by decide +kernel
theorem d12_85 : decode prog_112_method_5_code 85 = .ok (.getfield 21, 3) := by decide +kernel
theorem d12_88 : decode prog_112_method_5_code 88 = .ok (.iconst 1, 1) := by decide +kernel
theorem d12_89 : decode prog_112_method_5_code 89 = .ok (.iadd, 1) := by decide +kernel
theorem d12_90 : decode prog_112_method_5_code 90 = .ok (.putfield 25, 3) := by decide +kernel
theorem d12_93 : decode prog_112_method_5_code 93 = .ok (.aload_n 0, 1) := by decide +kernel
theorem d12_94 : decode prog_112_method_5_code 94 = .ok (.dup, 1) := by decide +kernel
theorem d12_95 : decode prog_112_method_5_code 95 = .ok (.getfield 21, 3) := by decide +kernel
theorem d12_98 : decode prog_112_method_5_code 98 = .ok (.iconst 1, 1) := by decide +kernel
theorem d12_99 : decode prog_112_method_5_code 99 = .ok (.iadd, 1) := by decide +kernel
theorem d12_100 : decode prog_112_method_5_code 100 = .ok (.putfield 21, 3) := by decide +kernel
theorem d12_103 : decode prog_112_method_5_code 103 = .ok (.return_, 1) := by decide +kernel
theorem ef_rmAddA (m : MethodId) (x0 : Addr) (x1 : Addr) : entryFrame m #[(.ref x0), (.ref x1)] 2 = mkF m 0 #[vr x0, vr x1] [] := by first | (simp [entryFrame, mkF, argsToLocals, Value.category]; done) | rfl
def Q_rmAddA (Z : State) (a1 : Addr) (a2 : Addr) (sto : Addr) (n : Int32) (f : Int32) (arr : Addr) (k : ClassId) (cap : Int32) (vs : List Value) (m' : Int32) (vs' : List Value) (h0 : Heap) (n0 : Nat) (v : Option Value) (h : Heap) (L : List Loc) : Prop := (v = none) ∧ (Fr n0 L) ∧ (Keep h0 h [a1, sto, arr]) ∧ (Fld Z h a1 "com/example/brisk_tableau/brisktableau/tableau/SharedList" "store" "Lcom/example/brisk_tableau/brisktableau/tableau/SharedList$Store;" (.ref sto)) ∧ (Fld Z h a1 "com/example/brisk_tableau/brisktableau/tableau/SharedList" "size" "I" (.int m')) ∧ (Fld Z h sto "com/example/brisk_tableau/brisktableau/tableau/SharedList$Store" "filled" "I" (.int m')) ∧ (Fld Z h sto "com/example/brisk_tableau/brisktableau/tableau/SharedList$Store" "items" "[Ljava/lang/Object;" (.ref arr)) ∧ (Arv Z h arr k (.object "java/lang/Object") cap vs' .null)
set_option maxRecDepth 65536 in
set_option maxHeartbeats 40000000 in
theorem rmAddA (l : Launch) (Z : State) (a0 : Array Value) (hw : ∀ d ∈ tables_1, d.before a0 Z = true) (ws : List Jvm.Cond) (a1 : Addr) (a2 : Addr) (sto : Addr) (n : Int32) (f : Int32) (arr : Addr) (k : ClassId) (cap : Int32) (vs : List Value) (m' : Int32) (vs' : List Value) (h0 : Heap) (n0 : Nat) (Z0 : n0 ≤ h0.size) (O0 : Old Z n0 h0) (F_store_a1 : Fld Z h0 a1 "com/example/brisk_tableau/brisktableau/tableau/SharedList" "store" "Lcom/example/brisk_tableau/brisktableau/tableau/SharedList$Store;" (.ref sto)) (F_size_a1 : Fld Z h0 a1 "com/example/brisk_tableau/brisktableau/tableau/SharedList" "size" "I" (.int n)) (E_a1 : Exa Z h0 a1 "com/example/brisk_tableau/brisktableau/tableau/SharedList") (E_sto : Exa Z h0 sto "com/example/brisk_tableau/brisktableau/tableau/SharedList$Store") (F_filled_sto : Fld Z h0 sto "com/example/brisk_tableau/brisktableau/tableau/SharedList$Store" "filled" "I" (.int f)) (F_items_sto : Fld Z h0 sto "com/example/brisk_tableau/brisktableau/tableau/SharedList$Store" "items" "[Ljava/lang/Object;" (.ref arr)) (E_arr : Exa Z h0 arr "[Ljava/lang/Object;") (V_arr : Arv Z h0 arr k (.object "java/lang/Object") cap vs .null) (E_a2 : Exa Z h0 a2 "java/lang/Integer") (g_a1 : n0 ≤ a1) (g_sto : n0 ≤ sto) (g_arr : n0 ≤ arr) (OV : Ovr Z k "java/lang/Object") (hA : ¬ n < f) (hB : ¬ n = cap) (hC : ¬ n < 0) (hD : n < cap) (hM : n + (1 : Int32) = m') (hV : vs.set n.toNatClampNeg (.ref a2) = vs') (hL : n.toNatClampNeg < vs.length) :
    MetFree l y_12 (head1 (Jvm.Cond.code y_12 prog_112_method_5_code 2 none :: ws) ({ frames := 1, cells := 0, slots := 0, locals := 14 } : Room)) (fun a U => a = #[(.ref a1), (.ref a2)] ∧ Z.Warmed39 U.vm ∧ U.heap = h0) (fun _ _ _ _ _ => True) (fun _ U o U' => ∃ v L, o = .returned v ∧ Q_rmAddA Z a1 a2 sto n f arr k cap vs m' vs' h0 n0 v U'.heap L ∧ FrameEnd U o U' L ({ frames := 1, cells := 0, slots := 0, locals := 14 } : Room).cells ({ frames := 1, cells := 0, slots := 0, locals := 14 } : Room).slots) := by
  refine MetFree.of_bodySF (plainFor_of_name pn_1) hisR ?_
  intro p e s m args below meth c s₁ Bd hml0 hP hK
  obtain ⟨rfl, hZ, hh⟩ := hP
  have hx := Bd.exec
  have hby := Bd.bytes
  have hml : c.maxLocals = 2 := hml0
  have hown : s.vm.findClass "com/example/brisk_tableau/brisktableau/tableau/SharedList" = some m.cls := findClass_of_methodNamed Bd.named
  have hnm := (name_of_methodNamed Bd.named Bd.method).1
  have X0 : Stand p l e ({ frames := 1, cells := 0, slots := 0, locals := 14 } : Room) s m #[(.ref a1), (.ref a2)] below meth c s₁ [] 0 0 := Stand.of_body Bd
  have e0 : s₁.heap = h0 := by rw [← hh, Bd.state]; rfl
  have N0 := Fr.nil n0
  have KC : Keep h0 h0 [a1, sto, arr] := Keep.refl h0 _
  have pre0 : ∀ t, Steps p.tables e below (s₁.setTop (mkF m 0 #[vr a1, vr a2] [])) t → Steps p.tables e below (s₁.setTop (entryFrame m #[(.ref a1), (.ref a2)] 2)) t := fun t k => castTop (ef_rmAddA m a1 a2) k
  obtain ⟨T1, X1, e1, st1⟩ := getF X0 hx hZ hown (host := "") (Or.inl (ww hw 27 rfl)) Via.refl e0 F_size_a1 (g := (mkF m 1 #[vr a1, vr a2] [(.ref a1)])) rfl rfl (hb hby d12_1)
  obtain ⟨T2, X2, e2, st2⟩ := getF X1 hx hZ hown (host := "") (Or.inl (ww hw 25 rfl)) Via.refl e1 F_store_a1 (g := (mkF m 5 #[vr a1, vr a2] [(.ref a1), (.int n)])) rfl rfl (hb hby d12_5)
  have st3 := getFR X2 hx hZ hown (ww hw 84 rfl) e2 F_filled_sto (g := (mkF m 8 #[vr a1, vr a2] [(.ref sto), (.int n)])) rfl rfl (hb hby d12_8)
  obtain ⟨T4, X4, e4, st4⟩ := getF X2 hx hZ hown (host := "") (Or.inl (ww hw 27 rfl)) Via.refl e2 F_size_a1 (g := (mkF m 15 #[vr a1, vr a2] [(.ref a1)])) rfl rfl (hb hby d12_15)
  obtain ⟨T5, X5, e5, st5⟩ := getF X4 hx hZ hown (host := "") (Or.inl (ww hw 25 rfl)) Via.refl e4 F_store_a1 (g := (mkF m 19 #[vr a1, vr a2] [(.ref a1), (.int n)])) rfl rfl (hb hby d12_19)
  have st6 := getFR X5 hx hZ hown (ww hw 49 rfl) e5 F_items_sto (g := (mkF m 22 #[vr a1, vr a2] [(.ref sto), (.int n)])) rfl rfl (hb hby d12_22)
  have Vo7 := V_arr
  obtain ⟨cl7, Ar7, -, Sz7, Nn7, -, -⟩ := Vo7
  have ia7 := State.isArrayOf_alike hZ.alike Ar7.2.1
  obtain ⟨T8, X8, e8, st8⟩ := getF X5 hx hZ hown (host := "") (Or.inl (ww hw 25 rfl)) Via.refl e5 F_store_a1 (g := (mkF m 65 #[vr a1, vr a2] [(.ref a1)])) rfl rfl (hb hby d12_65)
  have st9 := getFR X8 hx hZ hown (ww hw 49 rfl) e8 F_items_sto (g := (mkF m 68 #[vr a1, vr a2] [(.ref sto)])) rfl rfl (hb hby d12_68)
  obtain ⟨T10, X10, e10, st10⟩ := getF X8 hx hZ hown (host := "") (Or.inl (ww hw 27 rfl)) Via.refl e8 F_size_a1 (g := (mkF m 72 #[vr a1, vr a2] [(.ref a1), (.ref arr)])) rfl rfl (hb hby d12_72)
  obtain ⟨_, _, ⟨T11, L11, k11, n11⟩, -, X11, ⟨Lc11, hQ11, l11, y11, z11⟩, st11⟩ := Jvm.LawKit.callS X10 hx (y := y_7) hown (mvT hZ (ww hw 85 rfl)) (mvT hZ (ww hw 86 rfl)) (mvT hZ (ww hw 87 rfl)) (mvT hZ (ww hw 88 rfl)) (by decide) (backOf (W := 2) (rmRn l Z a0 hw [] a2 h0 n0 (Nat.le_trans Z0 KC.1) O0 ) hZ (ww hw 88 rfl) (ww hw 87 rfl) (by decide) (by decide)) (g := (mkF m 76 #[vr a1, vr a2] [(.ref a2), (.int n), (.ref arr)])) rfl (by rw [hml]; rfl) (argsL := [(.ref a2)]) (rest := [(.int n), (.ref arr)]) (lenOf pd_6 rfl) rfl (by show 2 * 0 + _ ≤ _; exact Nat.le_of_eq rfl) (hb hby d12_76) (fun _ _ => ⟨rfl, e10, (by decide : 0 + 0 ≤ _), (by decide : 0 + 0 ≤ _)⟩)
  dsimp only [Pt.U, Pt.locs, Pt.cells, Pt.slots] at X11 l11 y11 z11 st11 hQ11
  subst l11 y11 z11
  obtain ⟨rfl, N11q, e11⟩ := hQ11
  have N11 := Fr.app N0 N11q
  have Vo12 := V_arr
  obtain ⟨cl12, Ar12, q12, Sz12, Nn12, Hh12, Gg12⟩ := Vo12
  have hin12 : ¬ (n < 0 ∨ cl12.slots.size ≤ (n).toNatClampNeg) := inb_of Sz12 ⟨hC, hD⟩
  obtain ⟨T13, h13, X13, e13, W13, st13⟩ := stR X11 hx hZ e11 Ar12 (j := n) hin12 rfl (Sto.ofV Ar12 q12 OV (Ins.of_exa E_a2 (ww hw 89 rfl))) (g := (mkF m 79 #[vr a1, vr a2] [(.ref a2), (.int n), (.ref arr)])) rfl rfl (hb hby d12_79)
  have Vn13 := Arv.set Ar12 q12 Sz12 Nn12 Hh12 Gg12 rfl W13 (n.toNatClampNeg) rfl hL
  have N13 := Fr.snoc X13 N11 g_arr
  have nec_a1_arr : a1 ≠ arr := Exa.ne E_a1 E_arr (by decide)
  have nec_sto_arr : sto ≠ arr := Exa.ne E_sto E_arr (by decide)
  replace F_store_a1 := F_store_a1.other W13 (Or.inl nec_a1_arr)
  replace F_size_a1 := F_size_a1.other W13 (Or.inl nec_a1_arr)
  replace E_a1 := E_a1.wr W13
  replace E_sto := E_sto.wr W13
  replace F_filled_sto := F_filled_sto.other W13 (Or.inl nec_sto_arr)
  replace F_items_sto := F_items_sto.other W13 (Or.inl nec_sto_arr)
  replace E_arr := E_arr.wr W13
  replace E_a2 := E_a2.wr W13
  replace O0 := O0.wr W13 g_arr
  replace KC := KC.wr W13 (Or.inl (List.mem_of_getElem? (i := 2) rfl))
  obtain ⟨T14, X14, e14, st14⟩ := getF X13 hx hZ hown (host := "") (Or.inl (ww hw 25 rfl)) Via.refl e13 F_store_a1 (g := (mkF m 81 #[vr a1, vr a2] [(.ref a1)])) rfl rfl (hb hby d12_81)
  obtain ⟨T15, X15, e15, st15⟩ := getF X14 hx hZ hown (host := "") (Or.inl (ww hw 27 rfl)) Via.refl e14 F_size_a1 (g := (mkF m 85 #[vr a1, vr a2] [(.ref a1), (.ref sto)])) rfl rfl (hb hby d12_85)
  obtain ⟨T16, h16, X16, e16, W16, st16⟩ := putFR X15 hx hZ hown (ww hw 84 rfl) e15 F_filled_sto E_sto (ww hw 20 rfl) (ww hw 7 rfl) (ty := .int) (by decide) rfl rfl (g := (mkF m 90 #[vr a1, vr a2] [(.int (n + (1 : Int32))), (.ref sto)])) rfl rfl (hb hby d12_90)
  have N16 := Fr.snoc X16 N13 g_sto
  replace F_filled_sto := F_filled_sto.same W16
  have nec_a1_sto : a1 ≠ sto := Exa.ne E_a1 E_sto (by decide)
  replace F_store_a1 := F_store_a1.other W16 (Or.inl nec_a1_sto)
  replace F_size_a1 := F_size_a1.other W16 (Or.inl nec_a1_sto)
  replace E_a1 := E_a1.wr W16
  replace E_sto := E_sto.wr W16
  replace F_items_sto := F_items_sto.other W16 (Or.inr (slot_ne (Or.inr (ww hw 18 rfl)) (Or.inl (ww hw 20 rfl)) (by decide) (t := (.array (.object "java/lang/Object"))) (t' := .int) (by decide) (by decide)))
  replace E_arr := E_arr.wr W16
  replace E_a2 := E_a2.wr W16
  replace Vn13 := Vn13.other W16 (Ne.symm nec_sto_arr)
  replace O0 := O0.wr W16 g_sto
  replace KC := KC.wr W16 (Or.inl (List.mem_of_getElem? (i := 1) rfl))
  obtain ⟨T17, X17, e17, st17⟩ := getF X16 hx hZ hown (host := "") (Or.inl (ww hw 27 rfl)) Via.refl e16 F_size_a1 (g := (mkF m 95 #[vr a1, vr a2] [(.ref a1), (.ref a1)])) rfl rfl (hb hby d12_95)
  obtain ⟨T18, h18, X18, e18, W18, st18⟩ := putF X17 hx hZ hown (host := "") (Or.inl (ww hw 27 rfl)) Via.refl e17 F_size_a1 E_a1 (Or.inl (ww hw 28 rfl)) (ww hw 1 rfl) (ty := .int) (by decide) rfl rfl (g := (mkF m 100 #[vr a1, vr a2] [(.int (n + (1 : Int32))), (.ref a1)])) rfl rfl (hb hby d12_100)
  have N18 := Fr.snoc X18 N16 g_a1
  replace F_size_a1 := F_size_a1.same W18
  replace F_store_a1 := F_store_a1.other W18 (Or.inr (slot_ne (Or.inl (ww hw 26 rfl)) (Or.inl (ww hw 28 rfl)) (by decide) (t := (.object "com/example/brisk_tableau/brisktableau/tableau/SharedList$Store")) (t' := .int) (by decide) (by decide)))
  replace E_a1 := E_a1.wr W18
  replace E_sto := E_sto.wr W18
  replace F_filled_sto := F_filled_sto.other W18 (Or.inl (Ne.symm nec_a1_sto))
  replace F_items_sto := F_items_sto.other W18 (Or.inl (Ne.symm nec_a1_sto))
  replace E_arr := E_arr.wr W18
  replace E_a2 := E_a2.wr W18
  replace Vn13 := Vn13.other W18 (Ne.symm nec_a1_arr)
  replace O0 := O0.wr W18 g_a1
  replace KC := KC.wr W18 (Or.inl (List.mem_of_getElem? (i := 0) rfl))
  rw [hM] at F_size_a1
  rw [hM] at F_filled_sto
  rw [hV] at Vn13
  obtain ⟨fs, hr, hrun, hended, hW, hsame⟩ := X18.leave (v := none) (fun _ => rfl)
  refine ⟨_, _, pre0 _ ?_, hrun, hended, _, _, rfl, ?_, ⟨_, rfl⟩, hW, hsame.mono (by decide) (by decide)⟩
  · show SS p e below m s₁ 0 #[vr a1, vr a2] [] _
    refine XS.aloadN X0.here hx rfl (hb hby d12_0) rfl rfl ?_
    show SS p e below m s₁ 1 #[vr a1, vr a2] [(.ref a1)] _
    refine st1 _ ?_
    show SS p e below m T1 4 #[vr a1, vr a2] [(.int n)] _
    refine XS.aloadN X1.here hx rfl (hb hby d12_4) rfl rfl ?_
    show SS p e below m T1 5 #[vr a1, vr a2] [(.ref a1), (.int n)] _
    refine st2 _ ?_
    show SS p e below m T2 8 #[vr a1, vr a2] [(.ref sto), (.int n)] _
    refine st3 _ ?_
    show SS p e below m T2 11 #[vr a1, vr a2] [(.int f), (.int n)] _
    refine XS.icmpNo X2.here hx rfl (hb hby d12_11) rfl (flt hA).1 ?_
    show SS p e below m T2 14 #[vr a1, vr a2] [] _
    refine XS.aloadN X2.here hx rfl (hb hby d12_14) rfl rfl ?_
    show SS p e below m T2 15 #[vr a1, vr a2] [(.ref a1)] _
    refine st4 _ ?_
    show SS p e below m T4 18 #[vr a1, vr a2] [(.int n)] _
    refine XS.aloadN X4.here hx rfl (hb hby d12_18) rfl rfl ?_
    show SS p e below m T4 19 #[vr a1, vr a2] [(.ref a1), (.int n)] _
    refine st5 _ ?_
    show SS p e below m T5 22 #[vr a1, vr a2] [(.ref sto), (.int n)] _
    refine st6 _ ?_
    show SS p e below m T5 25 #[vr a1, vr a2] [(.ref arr), (.int n)] _
    refine X5.arraylength hx (by rw [e5]; exact Ar7.1) ia7 (g := (mkF m 25 #[vr a1, vr a2] [(.ref arr), (.int n)])) rfl rfl (hb hby d12_25) _ ?_
    rw [len_of Sz7 Nn7]
    show SS p e below m T5 26 #[vr a1, vr a2] [(.int cap), (.int n)] _
    refine XS.icmpYes X5.here hx rfl (pc0 := 26) (pc' := 64) rfl (hb hby d12_26) rfl (feq hB).2 (by decide) (by decide) ?_
    show SS p e below m T5 64 #[vr a1, vr a2] [] _
    refine XS.aloadN X5.here hx rfl (hb hby d12_64) rfl rfl ?_
    show SS p e below m T5 65 #[vr a1, vr a2] [(.ref a1)] _
    refine st8 _ ?_
    show SS p e below m T8 68 #[vr a1, vr a2] [(.ref sto)] _
    refine st9 _ ?_
    show SS p e below m T8 71 #[vr a1, vr a2] [(.ref arr)] _
    refine XS.aloadN X8.here hx rfl (hb hby d12_71) rfl rfl ?_
    show SS p e below m T8 72 #[vr a1, vr a2] [(.ref a1), (.ref arr)] _
    refine st10 _ ?_
    show SS p e below m T10 75 #[vr a1, vr a2] [(.int n), (.ref arr)] _
    refine XS.aloadN X10.here hx rfl (hb hby d12_75) rfl rfl ?_
    show SS p e below m T10 76 #[vr a1, vr a2] [(.ref a2), (.int n), (.ref arr)] _
    refine st11 _ ?_
    show SS p e below m T11 79 #[vr a1, vr a2] [(.ref a2), (.int n), (.ref arr)] _
    refine st13 _ ?_
    show SS p e below m T13 80 #[vr a1, vr a2] [] _
    refine XS.aloadN X13.here hx rfl (hb hby d12_80) rfl rfl ?_
    show SS p e below m T13 81 #[vr a1, vr a2] [(.ref a1)] _
    refine st14 _ ?_
    show SS p e below m T14 84 #[vr a1, vr a2] [(.ref sto)] _
    refine XS.aloadN X14.here hx rfl (hb hby d12_84) rfl rfl ?_
    show SS p e below m T14 85 #[vr a1, vr a2] [(.ref a1), (.ref sto)] _
    refine st15 _ ?_
    show SS p e below m T15 88 #[vr a1, vr a2] [(.int n), (.ref sto)] _
    refine XS.iconst X15.here hx rfl (hb hby d12_88) ?_
    show SS p e below m T15 89 #[vr a1, vr a2] [(.int (1 : Int32)), (.int n), (.ref sto)] _
    refine XS.iadd X15.here hx rfl (hb hby d12_89) rfl ?_
    show SS p e below m T15 90 #[vr a1, vr a2] [(.int (n + (1 : Int32))), (.ref sto)] _
    refine st16 _ ?_
    show SS p e below m T16 93 #[vr a1, vr a2] [] _
    refine XS.aloadN X16.here hx rfl (hb hby d12_93) rfl rfl ?_
    show SS p e below m T16 94 #[vr a1, vr a2] [(.ref a1)] _
    refine XS.dup X16.here hx rfl (hb hby d12_94) rfl rfl ?_
    show SS p e below m T16 95 #[vr a1, vr a2] [(.ref a1), (.ref a1)] _
    refine st17 _ ?_
    show SS p e below m T17 98 #[vr a1, vr a2] [(.int n), (.ref a1)] _
    refine XS.iconst X17.here hx rfl (hb hby d12_98) ?_
    show SS p e below m T17 99 #[vr a1, vr a2] [(.int (1 : Int32)), (.int n), (.ref a1)] _
    refine XS.iadd X17.here hx rfl (hb hby d12_99) rfl ?_
    show SS p e below m T17 100 #[vr a1, vr a2] [(.int (n + (1 : Int32))), (.ref a1)] _
    refine st18 _ ?_
    show SS p e below m T18 103 #[vr a1, vr a2] [] _
    exact X18.returnOut hx Bd.returns (hb hby d12_103) hr
  · show Q_rmAddA Z a1 a2 sto n f arr k cap vs m' vs' h0 n0 _ T18.heap _
    rw [e18]
    exact ⟨rfl, N18, KC, F_store_a1, F_size_a1, F_filled_sto, F_items_sto, Vn13⟩
theorem pd_7 : parseMethodDescriptor "([Ljava/lang/Object;I)[Ljava/lang/Object;" = some ⟨[(.array (.object "java/lang/Object")), .int], some (.array (.object "java/lang/Object"))⟩ := by decide +kernel
theorem d12_29 : decode prog_112_method_5_code 29 = .ok (.aload_n 0, 1) := by decide +kernel
theorem d12_30 : decode prog_112_method_5_code 30 = .ok (.new 1, 3) := by decide +kernel
theorem d12_33 : decode prog_112_method_5_code 33 = .ok (.dup, 1) := by decide +kernel
theorem d12_34 : decode prog_112_method_5_code 34 = .ok (.aload_n 0, 1) := by decide +kernel
theorem d12_35 : decode prog_112_method_5_code 35 = .ok (.getfield 17, 3) := by decide +kernel
theorem d12_38 : decode prog_112_method_5_code 38 = .ok (.getfield 28, 3) := by decide +kernel
theorem d12_41 : decode prog_112_method_5_code 41 = .ok (.iconst 4, 1) := by decide +kernel
theorem d12_42 : decode prog_112_method_5_code 42 = .ok (.iconst 2, 1) := by decide +kernel
theorem d12_43 : decode prog_112_method_5_code 43 = .ok (.aload_n 0, 1) := by decide +kernel
theorem d12_44 : decode prog_112_method_5_code 44 = .ok (.getfield 21, 3) := by decide +kernel
theorem d12_47 : decode prog_112_method_5_code 47 = .ok (.imul, 1) := by decide +kernel
theorem d12_48 : decode prog_112_method_5_code 48 = .ok (.invokestatic 32, 3) := by decide +kernel
theorem d12_51 : decode prog_112_method_5_code 51 = .ok (.invokestatic 38, 3) := by decide +kernel
theorem d12_54 : decode prog_112_method_5_code 54 = .ok (.aload_n 0, 1) := by decide +kernel
theorem d12_55 : decode prog_112_method_5_code 55 = .ok (.getfield 21, 3) := by decide +kernel
theorem d12_58 : decode prog_112_method_5_code 58 = .ok (.invokespecial 7, 3) := by decide +kernel
theorem d12_61 : decode prog_112_method_5_code 61 = .ok (.putfield 17, 3) := by decide +kernel
theorem ef_rmAddB (m : MethodId) (x0 : Addr) (x1 : Addr) : entryFrame m #[(.ref x0), (.ref x1)] 2 = mkF m 0 #[vr x0, vr x1] [] := by first | (simp [entryFrame, mkF, argsToLocals, Value.category]; done) | rfl
def Q_rmAddB (Z : State) (a1 : Addr) (a2 : Addr) (sto : Addr) (n : Int32) (f : Int32) (arr : Addr) (k : ClassId) (cap : Int32) (vs : List Value) (mr : Addr) (pl : Int32) (nn : Int32) (vsc : List Value) (m' : Int32) (vs' : List Value) (h0 : Heap) (n0 : Nat) (v : Option Value) (h : Heap) (L : List Loc) : Prop := ∃ b : Addr, ∃ c : Addr, ∃ k2 : ClassId, (v = none) ∧ (Fr n0 L) ∧ (Keep h0 h [a1]) ∧ (h0.size ≤ b) ∧ (h0.size ≤ c) ∧ (Fld Z h a1 "com/example/brisk_tableau/brisktableau/tableau/SharedList" "store" "Lcom/example/brisk_tableau/brisktableau/tableau/SharedList$Store;" (.ref b)) ∧ (Fld Z h a1 "com/example/brisk_tableau/brisktableau/tableau/SharedList" "size" "I" (.int m')) ∧ (Exa Z h b "com/example/brisk_tableau/brisktableau/tableau/SharedList$Store") ∧ (Fld Z h b "com/example/brisk_tableau/brisktableau/tableau/SharedList$Store" "filled" "I" (.int m')) ∧ (Fld Z h b "com/example/brisk_tableau/brisktableau/tableau/SharedList$Store" "items" "[Ljava/lang/Object;" (.ref c)) ∧ (Exa Z h c "[Ljava/lang/Object;") ∧ (Arv Z h c k2 (.object "java/lang/Object") pl vs' .null) ∧ (Ovr Z k2 "java/lang/Object")
set_option maxRecDepth 65536 in
set_option maxHeartbeats 40000000 in
theorem rmAddB (l : Launch) (Z : State) (a0 : Array Value) (hw : ∀ d ∈ tables_1, d.before a0 Z = true) (ws : List Jvm.Cond) (a1 : Addr) (a2 : Addr) (sto : Addr) (n : Int32) (f : Int32) (arr : Addr) (k : ClassId) (cap : Int32) (vs : List Value) (mr : Addr) (pl : Int32) (nn : Int32) (vsc : List Value) (m' : Int32) (vs' : List Value) (h0 : Heap) (n0 : Nat) (Z0 : n0 ≤ h0.size) (O0 : Old Z n0 h0) (F_store_a1 : Fld Z h0 a1 "com/example/brisk_tableau/brisktableau/tableau/SharedList" "store" "Lcom/example/brisk_tableau/brisktableau/tableau/SharedList$Store;" (.ref sto)) (F_size_a1 : Fld Z h0 a1 "com/example/brisk_tableau/brisktableau/tableau/SharedList" "size" "I" (.int n)) (E_a1 : Exa Z h0 a1 "com/example/brisk_tableau/brisktableau/tableau/SharedList") (E_sto : Exa Z h0 sto "com/example/brisk_tableau/brisktableau/tableau/SharedList$Store") (F_filled_sto : Fld Z h0 sto "com/example/brisk_tableau/brisktableau/tableau/SharedList$Store" "filled" "I" (.int f)) (F_items_sto : Fld Z h0 sto "com/example/brisk_tableau/brisktableau/tableau/SharedList$Store" "items" "[Ljava/lang/Object;" (.ref arr)) (E_arr : Exa Z h0 arr "[Ljava/lang/Object;") (V_arr : Arv Z h0 arr k (.object "java/lang/Object") cap vs .null) (E_a2 : Exa Z h0 a2 "java/lang/Integer") (g_a1 : n0 ≤ a1) (MIR : own_Mir Z "[Ljava/lang/Object;" mr) (hcp : n < f ∨ n = cap) (hP : (if (4 : Int32) < ((2 : Int32) * n) then ((2 : Int32) * n) else (4 : Int32)) = pl) (hp1 : ¬ pl < 0) (hp2 : pl.toNatClampNeg ≤ 10) (hp3 : (if pl < cap then pl else cap) = nn) (hp4 : ¬ nn < 0) (hp5 : nn.toNatClampNeg ≤ cap.toNatClampNeg) (hp6 : nn.toNatClampNeg ≤ pl.toNatClampNeg) (hp7 : ((List.replicate 10 Value.null).take (0 : Int32).toNatClampNeg ++ ((List.range nn.toNatClampNeg).map fun i => vs.getD ((0 : Int32).toNatClampNeg + i) .null) ++ (List.replicate 10 Value.null).drop ((0 : Int32).toNatClampNeg + nn.toNatClampNeg)) = vsc) (EL : own_Els Z h0 vs) (hC : ¬ n < 0) (hD : n < pl) (hM : n + (1 : Int32) = m') (hV : vsc.set n.toNatClampNeg (.ref a2) = vs') (hL : n.toNatClampNeg < vsc.length) :
    MetFree l y_12 (head1 (Jvm.Cond.code y_12 prog_112_method_5_code 2 none :: ws) ({ frames := 3, cells := 2, slots := 12, locals := 49 } : Room)) (fun a U => a = #[(.ref a1), (.ref a2)] ∧ Z.Warmed39 U.vm ∧ U.heap = h0) (fun _ _ _ _ _ => True) (fun _ U o U' => ∃ v L, o = .returned v ∧ Q_rmAddB Z a1 a2 sto n f arr k cap vs mr pl nn vsc m' vs' h0 n0 v U'.heap L ∧ FrameEnd U o U' L ({ frames := 3, cells := 2, slots := 12, locals := 49 } : Room).cells ({ frames := 3, cells := 2, slots := 12, locals := 49 } : Room).slots) := by
  refine MetFree.of_bodySF (plainFor_of_name pn_1) hisR ?_
  intro p e s m args below meth c s₁ Bd hml0 hP hK
  obtain ⟨rfl, hZ, hh⟩ := hP
  have hx := Bd.exec
  have hby := Bd.bytes
  have hml : c.maxLocals = 2 := hml0
  have hown : s.vm.findClass "com/example/brisk_tableau/brisktableau/tableau/SharedList" = some m.cls := findClass_of_methodNamed Bd.named
  have hnm := (name_of_methodNamed Bd.named Bd.method).1
  have X0 : Stand p l e ({ frames := 3, cells := 2, slots := 12, locals := 49 } : Room) s m #[(.ref a1), (.ref a2)] below meth c s₁ [] 0 0 := Stand.of_body Bd
  have e0 : s₁.heap = h0 := by rw [← hh, Bd.state]; rfl
  have N0 := Fr.nil n0
  have KC : Keep h0 h0 [a1] := Keep.refl h0 _
  have pre0 : ∀ t, Steps p.tables e below (s₁.setTop (mkF m 0 #[vr a1, vr a2] [])) t → Steps p.tables e below (s₁.setTop (entryFrame m #[(.ref a1), (.ref a2)] 2)) t := fun t k => castTop (ef_rmAddB m a1 a2) k
  obtain ⟨T1, X1, e1, st1⟩ := getF X0 hx hZ hown (host := "") (Or.inl (ww hw 27 rfl)) Via.refl e0 F_size_a1 (g := (mkF m 1 #[vr a1, vr a2] [(.ref a1)])) rfl rfl (hb hby d12_1)
  obtain ⟨T2, X2, e2, st2⟩ := getF X1 hx hZ hown (host := "") (Or.inl (ww hw 25 rfl)) Via.refl e1 F_store_a1 (g := (mkF m 5 #[vr a1, vr a2] [(.ref a1), (.int n)])) rfl rfl (hb hby d12_5)
  have st3 := getFR X2 hx hZ hown (ww hw 84 rfl) e2 F_filled_sto (g := (mkF m 8 #[vr a1, vr a2] [(.ref sto), (.int n)])) rfl rfl (hb hby d12_8)
  have pre4 : ∀ t, Steps p.tables e below (T2.setTop (mkF m 11 #[vr a1, vr a2] [(.int f), (.int n)])) t → Steps p.tables e below (s₁.setTop (entryFrame m #[(.ref a1), (.ref a2)] 2)) t := by
    intro t kt
    refine pre0 t ?_
    show SS p e below m s₁ 0 #[vr a1, vr a2] [] _
    refine XS.aloadN X0.here hx rfl (hb hby d12_0) rfl rfl ?_
    show SS p e below m s₁ 1 #[vr a1, vr a2] [(.ref a1)] _
    refine st1 _ ?_
    show SS p e below m T1 4 #[vr a1, vr a2] [(.int n)] _
    refine XS.aloadN X1.here hx rfl (hb hby d12_4) rfl rfl ?_
    show SS p e below m T1 5 #[vr a1, vr a2] [(.ref a1), (.int n)] _
    refine st2 _ ?_
    show SS p e below m T2 8 #[vr a1, vr a2] [(.ref sto), (.int n)] _
    refine st3 _ ?_
    exact kt
  by_cases hc11_5 : n < f
  · obtain ⟨T6, h6, X6, e6, E6, A6, D6, -, st6⟩ := newO X2 hx hZ hown (ww hw 6 rfl) (ww hw 7 rfl) (ww hw 8 rfl) e2 (g := (mkF m 30 #[vr a1, vr a2] [(.ref a1)])) rfl (hb hby d12_30) (by decide) (by decide)
    obtain ⟨b6, g6⟩ : ∃ z, z = h0.size := ⟨_, rfl⟩
    rw [← g6] at A6 D6 st6
    have ne_a1_b6 : a1 ≠ b6 := Nat.ne_of_lt (Nat.lt_of_lt_of_le F_store_a1.lt (Nat.le_of_eq g6.symm))
    have ne_sto_b6 : sto ≠ b6 := Nat.ne_of_lt (Nat.lt_of_lt_of_le E_sto.lt (Nat.le_of_eq g6.symm))
    have ne_arr_b6 : arr ≠ b6 := Nat.ne_of_lt (Nat.lt_of_lt_of_le E_arr.lt (Nat.le_of_eq g6.symm))
    have ne_a2_b6 : a2 ≠ b6 := Nat.ne_of_lt (Nat.lt_of_lt_of_le E_a2.lt (Nat.le_of_eq g6.symm))
    have g_b6 : n0 ≤ b6 := Nat.le_trans (Nat.le_trans Z0 KC.1) (Nat.le_of_eq g6.symm)
    have sz_b6 : h0.size ≤ b6 := Nat.le_trans KC.1 (Nat.le_of_eq g6.symm)
    replace F_store_a1 := F_store_a1.ext E6
    replace F_size_a1 := F_size_a1.ext E6
    replace E_a1 := E_a1.ext E6
    replace E_sto := E_sto.ext E6
    replace F_filled_sto := F_filled_sto.ext E6
    replace F_items_sto := F_items_sto.ext E6
    replace E_arr := E_arr.ext E6
    replace V_arr := V_arr.ext E6
    replace E_a2 := E_a2.ext E6
    replace O0 := O0.ext E6
    replace KC := KC.ext E6
    have F_items_b6 : Fld Z h6 b6 "com/example/brisk_tableau/brisktableau/tableau/SharedList$Store" "items" "[Ljava/lang/Object;" .null := D6 (Or.inr (ww hw 18 rfl)) (ty := (.array (.object "java/lang/Object"))) (by decide)
    have F_filled_b6 : Fld Z h6 b6 "com/example/brisk_tableau/brisktableau/tableau/SharedList$Store" "filled" "I" (.int (0 : Int32)) := D6 (Or.inl (ww hw 20 rfl)) (ty := .int) (by decide)
    obtain ⟨T7, X7, e7, st7⟩ := getF X6 hx hZ hown (host := "") (Or.inl (ww hw 25 rfl)) Via.refl e6 F_store_a1 (g := (mkF m 35 #[vr a1, vr a2] [(.ref a1), (.ref b6), (.ref b6), (.ref a1)])) rfl rfl (hb hby d12_35)
    have st8 := getFR X7 hx hZ hown (ww hw 49 rfl) e7 F_items_sto (g := (mkF m 38 #[vr a1, vr a2] [(.ref sto), (.ref b6), (.ref b6), (.ref a1)])) rfl rfl (hb hby d12_38)
    obtain ⟨T9, X9, e9, st9⟩ := getF X7 hx hZ hown (host := "") (Or.inl (ww hw 27 rfl)) Via.refl e7 F_size_a1 (g := (mkF m 44 #[vr a1, vr a2] [(.ref a1), (.int (2 : Int32)), (.int (4 : Int32)), (.ref arr), (.ref b6), (.ref b6), (.ref a1)])) rfl rfl (hb hby d12_44)
    obtain ⟨_, _, ⟨T10, L10, k10, n10⟩, -, X10, ⟨Lc10, hQ10, l10, y10, z10⟩, st10⟩ := Jvm.LawKit.callS X9 hx (y := y_8) hown (mvT hZ (ww hw 90 rfl)) (mvT hZ (ww hw 91 rfl)) (mvT hZ (ww hw 92 rfl)) (mvT hZ (ww hw 93 rfl)) (by decide) (backOf (W := 4) (rmMx l Z a0 hw [] (4 : Int32) ((2 : Int32) * n) h6 n0 (Nat.le_trans Z0 KC.1) O0 ) hZ (ww hw 93 rfl) (ww hw 92 rfl) (by decide) (by decide)) (g := (mkF m 48 #[vr a1, vr a2] [(.int ((2 : Int32) * n)), (.int (4 : Int32)), (.ref arr), (.ref b6), (.ref b6), (.ref a1)])) rfl (by rw [hml]; rfl) (argsL := [(.int (4 : Int32)), (.int ((2 : Int32) * n))]) (rest := [(.ref arr), (.ref b6), (.ref b6), (.ref a1)]) (lenOf pd_4 rfl) rfl (by show 2 * 0 + _ ≤ _; exact Nat.le_of_eq rfl) (hb hby d12_48) (fun _ _ => ⟨rfl, e9, (by decide : 1 + 0 ≤ _), (by decide : 2 + 0 ≤ _)⟩)
    dsimp only [Pt.U, Pt.locs, Pt.cells, Pt.slots] at X10 l10 y10 z10 st10 hQ10
    subst l10 y10 z10
    obtain ⟨rfl, N10q, e10⟩ := hQ10
    have N10 := Fr.app N0 N10q
    have pre11 : ∀ t, Steps p.tables e below (T10.setTop (mkF m 51 #[vr a1, vr a2] [(.int (if (4 : Int32) < ((2 : Int32) * n) then ((2 : Int32) * n) else (4 : Int32))), (.ref arr), (.ref b6), (.ref b6), (.ref a1)])) t → Steps p.tables e below (s₁.setTop (entryFrame m #[(.ref a1), (.ref a2)] 2)) t := by
      intro t kt
      refine pre4 t ?_
      show SS p e below m T2 11 #[vr a1, vr a2] [(.int f), (.int n)] _
      refine XS.icmpYes X2.here hx rfl (pc0 := 11) (pc' := 29) rfl (hb hby d12_11) rfl (tlt hc11_5).1 (by decide) (by decide) ?_
      show SS p e below m T2 29 #[vr a1, vr a2] [] _
      refine XS.aloadN X2.here hx rfl (hb hby d12_29) rfl rfl ?_
      show SS p e below m T2 30 #[vr a1, vr a2] [(.ref a1)] _
      refine st6 _ ?_
      show SS p e below m T6 33 #[vr a1, vr a2] [(.ref b6), (.ref a1)] _
      refine XS.dup X6.here hx rfl (hb hby d12_33) rfl rfl ?_
      show SS p e below m T6 34 #[vr a1, vr a2] [(.ref b6), (.ref b6), (.ref a1)] _
      refine XS.aloadN X6.here hx rfl (hb hby d12_34) rfl rfl ?_
      show SS p e below m T6 35 #[vr a1, vr a2] [(.ref a1), (.ref b6), (.ref b6), (.ref a1)] _
      refine st7 _ ?_
      show SS p e below m T7 38 #[vr a1, vr a2] [(.ref sto), (.ref b6), (.ref b6), (.ref a1)] _
      refine st8 _ ?_
      show SS p e below m T7 41 #[vr a1, vr a2] [(.ref arr), (.ref b6), (.ref b6), (.ref a1)] _
      refine XS.iconst X7.here hx rfl (hb hby d12_41) ?_
      show SS p e below m T7 42 #[vr a1, vr a2] [(.int (4 : Int32)), (.ref arr), (.ref b6), (.ref b6), (.ref a1)] _
      refine XS.iconst X7.here hx rfl (hb hby d12_42) ?_
      show SS p e below m T7 43 #[vr a1, vr a2] [(.int (2 : Int32)), (.int (4 : Int32)), (.ref arr), (.ref b6), (.ref b6), (.ref a1)] _
      refine XS.aloadN X7.here hx rfl (hb hby d12_43) rfl rfl ?_
      show SS p e below m T7 44 #[vr a1, vr a2] [(.ref a1), (.int (2 : Int32)), (.int (4 : Int32)), (.ref arr), (.ref b6), (.ref b6), (.ref a1)] _
      refine st9 _ ?_
      show SS p e below m T9 47 #[vr a1, vr a2] [(.int n), (.int (2 : Int32)), (.int (4 : Int32)), (.ref arr), (.ref b6), (.ref b6), (.ref a1)] _
      refine XS.imul X9.here hx rfl (hb hby d12_47) rfl ?_
      show SS p e below m T9 48 #[vr a1, vr a2] [(.int ((2 : Int32) * n)), (.int (4 : Int32)), (.ref arr), (.ref b6), (.ref b6), (.ref a1)] _
      refine st10 _ ?_
      exact kt
    rw [hP] at pre11
    have EL1 := own_els_ext EL E6
    obtain ⟨_, _, ⟨T12, L12, k12, n12⟩, -, X12, ⟨Lc12, hQ12, l12, y12, z12⟩, st12⟩ := Jvm.LawKit.callS X10 hx (y := y_11) hown (mvT hZ (ww hw 94 rfl)) (mvT hZ (ww hw 95 rfl)) (mvT hZ (ww hw 96 rfl)) (mvT hZ (ww hw 97 rfl)) (by decide) (backOf (W := 3) (rmC2 l Z a0 hw [] arr pl mr k cap vs nn vsc h6 n0 (Nat.le_trans Z0 KC.1) O0 E_arr V_arr MIR hp1 hp2 hp3 hp4 hp5 hp6 hp7 EL1) hZ (ww hw 97 rfl) (ww hw 96 rfl) (by decide) (by decide)) (g := (mkF m 51 #[vr a1, vr a2] [(.int pl), (.ref arr), (.ref b6), (.ref b6), (.ref a1)])) rfl (by rw [hml]; rfl) (argsL := [(.ref arr), (.int pl)]) (rest := [(.ref b6), (.ref b6), (.ref a1)]) (lenOf pd_7 rfl) rfl (by show 2 * 0 + _ ≤ _; exact Nat.le_of_eq rfl) (hb hby d12_51) (fun _ _ => ⟨rfl, e10, (by decide : 1 + 1 ≤ _), (by decide : 2 + 10 ≤ _)⟩)
    dsimp only [Pt.U, Pt.locs, Pt.cells, Pt.slots] at X12 l12 y12 z12 st12 hQ12
    subst l12 y12 z12
    obtain ⟨b12_b, k2_12, rfl, N12q, K12, sz_b12_b, E_b_12, V_b_12, hq12_0⟩ := hQ12
    have N12 := Fr.app N10 N12q
    have ne_a1_b12_b : a1 ≠ b12_b := Nat.ne_of_lt (Nat.lt_of_lt_of_le F_store_a1.lt sz_b12_b)
    have ne_sto_b12_b : sto ≠ b12_b := Nat.ne_of_lt (Nat.lt_of_lt_of_le E_sto.lt sz_b12_b)
    have ne_arr_b12_b : arr ≠ b12_b := Nat.ne_of_lt (Nat.lt_of_lt_of_le E_arr.lt sz_b12_b)
    have ne_a2_b12_b : a2 ≠ b12_b := Nat.ne_of_lt (Nat.lt_of_lt_of_le E_a2.lt sz_b12_b)
    have ne_b6_b12_b : b6 ≠ b12_b := Nat.ne_of_lt (Nat.lt_of_lt_of_le A6.lt sz_b12_b)
    have g_b12_b : n0 ≤ b12_b := Nat.le_trans (Nat.le_trans Z0 KC.1) sz_b12_b
    replace sz_b12_b : h0.size ≤ b12_b := Nat.le_trans KC.1 sz_b12_b
    replace F_store_a1 := F_store_a1.keep K12 nin0
    replace F_size_a1 := F_size_a1.keep K12 nin0
    replace E_a1 := E_a1.keep K12
    replace E_sto := E_sto.keep K12
    replace F_filled_sto := F_filled_sto.keep K12 nin0
    replace F_items_sto := F_items_sto.keep K12 nin0
    replace E_arr := E_arr.keep K12
    replace V_arr := V_arr.keep K12 nin0
    replace E_a2 := E_a2.keep K12
    replace A6 := A6.keep K12
    replace F_items_b6 := F_items_b6.keep K12 nin0
    replace F_filled_b6 := F_filled_b6.keep K12 nin0
    replace O0 := O0.keep K12 all0
    replace KC := KC.trans K12 all0
    obtain ⟨T13, X13, e13, st13⟩ := getF X12 hx hZ hown (host := "") (Or.inl (ww hw 27 rfl)) Via.refl rfl F_size_a1 (g := (mkF m 55 #[vr a1, vr a2] [(.ref a1), (.ref b12_b), (.ref b6), (.ref b6), (.ref a1)])) rfl rfl (hb hby d12_55)
    obtain ⟨_, _, ⟨T14, L14, k14, n14⟩, -, X14, ⟨Lc14, hQ14, l14, y14, z14⟩, st14⟩ := X13.specialBack hx (y := y_0) rfl hown (mvT hZ (ww hw 11 rfl)) (mvT hZ (ww hw 12 rfl)) (mvT hZ (ww hw 13 rfl)) (by decide) (backOf (W := 2) (rmSt l Z a0 hw [] b6 b12_b n T12.heap n0 (Nat.le_trans Z0 KC.1) O0 F_items_b6 F_filled_b6 A6 g_b6) hZ (ww hw 13 rfl) (ww hw 8 rfl) (by decide) (by decide)) (g := (mkF m 58 #[vr a1, vr a2] [(.int n), (.ref b12_b), (.ref b6), (.ref b6), (.ref a1)])) rfl (by rw [hml]; rfl) (Steps.refl _) (a := b6) (argsL := [(.ref b12_b), (.int n)]) (rest := [(.ref b6), (.ref a1)]) (lenOf pd_0 rfl) rfl (by show 2 * 0 + _ ≤ _; exact Nat.le_of_eq rfl) (hb hby d12_58) (fun _ _ => ⟨rfl, e13, (by decide : 2 + 0 ≤ _), (by decide : 12 + 0 ≤ _)⟩)
    dsimp only [Pt.U, Pt.locs, Pt.cells, Pt.slots] at X14 l14 y14 z14 st14 hQ14
    subst l14 y14 z14
    obtain ⟨rfl, N14q, K14, F_items_a1_14, F_filled_a1_14⟩ := hQ14
    have N14 := Fr.app N12 N14q
    replace F_store_a1 := F_store_a1.keep K14 (ninS ne_a1_b6 nin0)
    replace F_size_a1 := F_size_a1.keep K14 (ninS ne_a1_b6 nin0)
    replace E_a1 := E_a1.keep K14
    replace E_sto := E_sto.keep K14
    replace F_filled_sto := F_filled_sto.keep K14 (ninS ne_sto_b6 nin0)
    replace F_items_sto := F_items_sto.keep K14 (ninS ne_sto_b6 nin0)
    replace E_arr := E_arr.keep K14
    replace V_arr := V_arr.keep K14 (ninS ne_arr_b6 nin0)
    replace E_a2 := E_a2.keep K14
    replace A6 := A6.keep K14
    replace E_b_12 := E_b_12.keep K14
    replace V_b_12 := V_b_12.keep K14 (ninS (Ne.symm ne_b6_b12_b) nin0)
    replace O0 := O0.keep K14 (allS g_b6 all0)
    replace KC := KC.trans K14 (allS (Or.inr sz_b6) all0)
    obtain ⟨T15, h15, X15, e15, W15, st15⟩ := putF X14 hx hZ hown (host := "") (Or.inl (ww hw 25 rfl)) Via.refl rfl F_store_a1 E_a1 (Or.inl (ww hw 26 rfl)) (ww hw 1 rfl) (ty := (.object "com/example/brisk_tableau/brisktableau/tableau/SharedList$Store")) (by decide) rfl rfl (g := (mkF m 61 #[vr a1, vr a2] [(.ref b6), (.ref a1)])) rfl rfl (hb hby d12_61)
    have N15 := Fr.snoc X15 N14 g_a1
    replace F_store_a1 := F_store_a1.same W15
    have nec_sto_a1 : sto ≠ a1 := Exa.ne E_sto E_a1 (by decide)
    have nec_arr_a1 : arr ≠ a1 := Exa.ne E_arr E_a1 (by decide)
    replace F_size_a1 := F_size_a1.other W15 (Or.inr (slot_ne (Or.inl (ww hw 28 rfl)) (Or.inl (ww hw 26 rfl)) (by decide) (t := .int) (t' := (.object "com/example/brisk_tableau/brisktableau/tableau/SharedList$Store")) (by decide) (by decide)))
    replace E_a1 := E_a1.wr W15
    replace E_sto := E_sto.wr W15
    replace F_filled_sto := F_filled_sto.other W15 (Or.inl nec_sto_a1)
    replace F_items_sto := F_items_sto.other W15 (Or.inl nec_sto_a1)
    replace E_arr := E_arr.wr W15
    replace V_arr := V_arr.other W15 nec_arr_a1
    replace E_a2 := E_a2.wr W15
    replace A6 := A6.wr W15
    replace E_b_12 := E_b_12.wr W15
    replace V_b_12 := V_b_12.other W15 (Ne.symm ne_a1_b12_b)
    replace F_items_a1_14 := F_items_a1_14.other W15 (Or.inl (Ne.symm ne_a1_b6))
    replace F_filled_a1_14 := F_filled_a1_14.other W15 (Or.inl (Ne.symm ne_a1_b6))
    replace O0 := O0.wr W15 g_a1
    replace KC := KC.wr W15 (Or.inl (List.mem_of_getElem? (i := 0) rfl))
    obtain ⟨T16, X16, e16, st16⟩ := getF X15 hx hZ hown (host := "") (Or.inl (ww hw 25 rfl)) Via.refl e15 F_store_a1 (g := (mkF m 65 #[vr a1, vr a2] [(.ref a1)])) rfl rfl (hb hby d12_65)
    have st17 := getFR X16 hx hZ hown (ww hw 49 rfl) e16 F_items_a1_14 (g := (mkF m 68 #[vr a1, vr a2] [(.ref b6)])) rfl rfl (hb hby d12_68)
    obtain ⟨T18, X18, e18, st18⟩ := getF X16 hx hZ hown (host := "") (Or.inl (ww hw 27 rfl)) Via.refl e16 F_size_a1 (g := (mkF m 72 #[vr a1, vr a2] [(.ref a1), (.ref b12_b)])) rfl rfl (hb hby d12_72)
    obtain ⟨_, _, ⟨T19, L19, k19, n19⟩, -, X19, ⟨Lc19, hQ19, l19, y19, z19⟩, st19⟩ := Jvm.LawKit.callS X18 hx (y := y_7) hown (mvT hZ (ww hw 85 rfl)) (mvT hZ (ww hw 86 rfl)) (mvT hZ (ww hw 87 rfl)) (mvT hZ (ww hw 88 rfl)) (by decide) (backOf (W := 2) (rmRn l Z a0 hw [] a2 h15 n0 (Nat.le_trans Z0 KC.1) O0 ) hZ (ww hw 88 rfl) (ww hw 87 rfl) (by decide) (by decide)) (g := (mkF m 76 #[vr a1, vr a2] [(.ref a2), (.int n), (.ref b12_b)])) rfl (by rw [hml]; rfl) (argsL := [(.ref a2)]) (rest := [(.int n), (.ref b12_b)]) (lenOf pd_6 rfl) rfl (by show 2 * 0 + _ ≤ _; exact Nat.le_of_eq rfl) (hb hby d12_76) (fun _ _ => ⟨rfl, e18, (by decide : 2 + 0 ≤ _), (by decide : 12 + 0 ≤ _)⟩)
    dsimp only [Pt.U, Pt.locs, Pt.cells, Pt.slots] at X19 l19 y19 z19 st19 hQ19
    subst l19 y19 z19
    obtain ⟨rfl, N19q, e19⟩ := hQ19
    have N19 := Fr.app N15 N19q
    have Vo20 := V_b_12
    obtain ⟨cl20, Ar20, q20, Sz20, Nn20, Hh20, Gg20⟩ := Vo20
    have hin20 : ¬ (n < 0 ∨ cl20.slots.size ≤ (n).toNatClampNeg) := inb_of Sz20 ⟨hC, hD⟩
    obtain ⟨T21, h21, X21, e21, W21, st21⟩ := stR X19 hx hZ e19 Ar20 (j := n) hin20 rfl (Sto.ofV Ar20 q20 hq12_0 (Ins.of_exa E_a2 (ww hw 89 rfl))) (g := (mkF m 79 #[vr a1, vr a2] [(.ref a2), (.int n), (.ref b12_b)])) rfl rfl (hb hby d12_79)
    have Vn21 := Arv.set Ar20 q20 Sz20 Nn20 Hh20 Gg20 rfl W21 (n.toNatClampNeg) rfl hL
    have N21 := Fr.snoc X21 N19 g_b12_b
    replace F_store_a1 := F_store_a1.other W21 (Or.inl ne_a1_b12_b)
    replace F_size_a1 := F_size_a1.other W21 (Or.inl ne_a1_b12_b)
    replace E_a1 := E_a1.wr W21
    replace E_sto := E_sto.wr W21
    replace F_filled_sto := F_filled_sto.other W21 (Or.inl ne_sto_b12_b)
    replace F_items_sto := F_items_sto.other W21 (Or.inl ne_sto_b12_b)
    replace E_arr := E_arr.wr W21
    replace V_arr := V_arr.other W21 ne_arr_b12_b
    replace E_a2 := E_a2.wr W21
    replace A6 := A6.wr W21
    replace E_b_12 := E_b_12.wr W21
    replace F_items_a1_14 := F_items_a1_14.other W21 (Or.inl ne_b6_b12_b)
    replace F_filled_a1_14 := F_filled_a1_14.other W21 (Or.inl ne_b6_b12_b)
    replace O0 := O0.wr W21 g_b12_b
    replace KC := KC.wr W21 (Or.inr sz_b12_b)
    obtain ⟨T22, X22, e22, st22⟩ := getF X21 hx hZ hown (host := "") (Or.inl (ww hw 25 rfl)) Via.refl e21 F_store_a1 (g := (mkF m 81 #[vr a1, vr a2] [(.ref a1)])) rfl rfl (hb hby d12_81)
    obtain ⟨T23, X23, e23, st23⟩ := getF X22 hx hZ hown (host := "") (Or.inl (ww hw 27 rfl)) Via.refl e22 F_size_a1 (g := (mkF m 85 #[vr a1, vr a2] [(.ref a1), (.ref b6)])) rfl rfl (hb hby d12_85)
    obtain ⟨T24, h24, X24, e24, W24, st24⟩ := putFR X23 hx hZ hown (ww hw 84 rfl) e23 F_filled_a1_14 A6 (ww hw 20 rfl) (ww hw 7 rfl) (ty := .int) (by decide) rfl rfl (g := (mkF m 90 #[vr a1, vr a2] [(.int (n + (1 : Int32))), (.ref b6)])) rfl rfl (hb hby d12_90)
    have N24 := Fr.snoc X24 N21 g_b6
    replace F_filled_a1_14 := F_filled_a1_14.same W24
    replace F_store_a1 := F_store_a1.other W24 (Or.inl ne_a1_b6)
    replace F_size_a1 := F_size_a1.other W24 (Or.inl ne_a1_b6)
    replace E_a1 := E_a1.wr W24
    replace E_sto := E_sto.wr W24
    replace F_filled_sto := F_filled_sto.other W24 (Or.inl ne_sto_b6)
    replace F_items_sto := F_items_sto.other W24 (Or.inl ne_sto_b6)
    replace E_arr := E_arr.wr W24
    replace V_arr := V_arr.other W24 ne_arr_b6
    replace E_a2 := E_a2.wr W24
    replace A6 := A6.wr W24
    replace E_b_12 := E_b_12.wr W24
    replace F_items_a1_14 := F_items_a1_14.other W24 (Or.inr (slot_ne (Or.inr (ww hw 18 rfl)) (Or.inl (ww hw 20 rfl)) (by decide) (t := (.array (.object "java/lang/Object"))) (t' := .int) (by decide) (by decide)))
    replace Vn21 := Vn21.other W24 (Ne.symm ne_b6_b12_b)
    replace O0 := O0.wr W24 g_b6
    replace KC := KC.wr W24 (Or.inr sz_b6)
    obtain ⟨T25, X25, e25, st25⟩ := getF X24 hx hZ hown (host := "") (Or.inl (ww hw 27 rfl)) Via.refl e24 F_size_a1 (g := (mkF m 95 #[vr a1, vr a2] [(.ref a1), (.ref a1)])) rfl rfl (hb hby d12_95)
    obtain ⟨T26, h26, X26, e26, W26, st26⟩ := putF X25 hx hZ hown (host := "") (Or.inl (ww hw 27 rfl)) Via.refl e25 F_size_a1 E_a1 (Or.inl (ww hw 28 rfl)) (ww hw 1 rfl) (ty := .int) (by decide) rfl rfl (g := (mkF m 100 #[vr a1, vr a2] [(.int (n + (1 : Int32))), (.ref a1)])) rfl rfl (hb hby d12_100)
    have N26 := Fr.snoc X26 N24 g_a1
    replace F_size_a1 := F_size_a1.same W26
    replace F_store_a1 := F_store_a1.other W26 (Or.inr (slot_ne (Or.inl (ww hw 26 rfl)) (Or.inl (ww hw 28 rfl)) (by decide) (t := (.object "com/example/brisk_tableau/brisktableau/tableau/SharedList$Store")) (t' := .int) (by decide) (by decide)))
    replace E_a1 := E_a1.wr W26
    replace E_sto := E_sto.wr W26
    replace F_filled_sto := F_filled_sto.other W26 (Or.inl nec_sto_a1)
    replace F_items_sto := F_items_sto.other W26 (Or.inl nec_sto_a1)
    replace E_arr := E_arr.wr W26
    replace V_arr := V_arr.other W26 nec_arr_a1
    replace E_a2 := E_a2.wr W26
    replace A6 := A6.wr W26
    replace E_b_12 := E_b_12.wr W26
    replace F_items_a1_14 := F_items_a1_14.other W26 (Or.inl (Ne.symm ne_a1_b6))
    replace F_filled_a1_14 := F_filled_a1_14.other W26 (Or.inl (Ne.symm ne_a1_b6))
    replace Vn21 := Vn21.other W26 (Ne.symm ne_a1_b12_b)
    replace O0 := O0.wr W26 g_a1
    replace KC := KC.wr W26 (Or.inl (List.mem_of_getElem? (i := 0) rfl))
    rw [hM] at F_size_a1
    rw [hM] at F_filled_a1_14
    rw [hV] at Vn21
    obtain ⟨fs, hr, hrun, hended, hW, hsame⟩ := X26.leave (v := none) (fun _ => rfl)
    refine ⟨_, _, pre11 _ ?_, hrun, hended, _, _, rfl, ?_, ⟨_, rfl⟩, hW, hsame.mono (by decide) (by decide)⟩
    · show SS p e below m T10 51 #[vr a1, vr a2] [(.int pl), (.ref arr), (.ref b6), (.ref b6), (.ref a1)] _
      refine st12 _ ?_
      show SS p e below m T12 54 #[vr a1, vr a2] [(.ref b12_b), (.ref b6), (.ref b6), (.ref a1)] _
      refine XS.aloadN X12.here hx rfl (hb hby d12_54) rfl rfl ?_
      show SS p e below m T12 55 #[vr a1, vr a2] [(.ref a1), (.ref b12_b), (.ref b6), (.ref b6), (.ref a1)] _
      refine st13 _ ?_
      show SS p e below m T13 58 #[vr a1, vr a2] [(.int n), (.ref b12_b), (.ref b6), (.ref b6), (.ref a1)] _
      refine st14.trans ?_
      show SS p e below m T14 61 #[vr a1, vr a2] [(.ref b6), (.ref a1)] _
      refine st15 _ ?_
      show SS p e below m T15 64 #[vr a1, vr a2] [] _
      refine XS.aloadN X15.here hx rfl (hb hby d12_64) rfl rfl ?_
      show SS p e below m T15 65 #[vr a1, vr a2] [(.ref a1)] _
      refine st16 _ ?_
      show SS p e below m T16 68 #[vr a1, vr a2] [(.ref b6)] _
      refine st17 _ ?_
      show SS p e below m T16 71 #[vr a1, vr a2] [(.ref b12_b)] _
      refine XS.aloadN X16.here hx rfl (hb hby d12_71) rfl rfl ?_
      show SS p e below m T16 72 #[vr a1, vr a2] [(.ref a1), (.ref b12_b)] _
      refine st18 _ ?_
      show SS p e below m T18 75 #[vr a1, vr a2] [(.int n), (.ref b12_b)] _
      refine XS.aloadN X18.here hx rfl (hb hby d12_75) rfl rfl ?_
      show SS p e below m T18 76 #[vr a1, vr a2] [(.ref a2), (.int n), (.ref b12_b)] _
      refine st19 _ ?_
      show SS p e below m T19 79 #[vr a1, vr a2] [(.ref a2), (.int n), (.ref b12_b)] _
      refine st21 _ ?_
      show SS p e below m T21 80 #[vr a1, vr a2] [] _
      refine XS.aloadN X21.here hx rfl (hb hby d12_80) rfl rfl ?_
      show SS p e below m T21 81 #[vr a1, vr a2] [(.ref a1)] _
      refine st22 _ ?_
      show SS p e below m T22 84 #[vr a1, vr a2] [(.ref b6)] _
      refine XS.aloadN X22.here hx rfl (hb hby d12_84) rfl rfl ?_
      show SS p e below m T22 85 #[vr a1, vr a2] [(.ref a1), (.ref b6)] _
      refine st23 _ ?_
      show SS p e below m T23 88 #[vr a1, vr a2] [(.int n), (.ref b6)] _
      refine XS.iconst X23.here hx rfl (hb hby d12_88) ?_
      show SS p e below m T23 89 #[vr a1, vr a2] [(.int (1 : Int32)), (.int n), (.ref b6)] _
      refine XS.iadd X23.here hx rfl (hb hby d12_89) rfl ?_
      show SS p e below m T23 90 #[vr a1, vr a2] [(.int (n + (1 : Int32))), (.ref b6)] _
      refine st24 _ ?_
      show SS p e below m T24 93 #[vr a1, vr a2] [] _
      refine XS.aloadN X24.here hx rfl (hb hby d12_93) rfl rfl ?_
      show SS p e below m T24 94 #[vr a1, vr a2] [(.ref a1)] _
      refine XS.dup X24.here hx rfl (hb hby d12_94) rfl rfl ?_
      show SS p e below m T24 95 #[vr a1, vr a2] [(.ref a1), (.ref a1)] _
      refine st25 _ ?_
      show SS p e below m T25 98 #[vr a1, vr a2] [(.int n), (.ref a1)] _
      refine XS.iconst X25.here hx rfl (hb hby d12_98) ?_
      show SS p e below m T25 99 #[vr a1, vr a2] [(.int (1 : Int32)), (.int n), (.ref a1)] _
      refine XS.iadd X25.here hx rfl (hb hby d12_99) rfl ?_
      show SS p e below m T25 100 #[vr a1, vr a2] [(.int (n + (1 : Int32))), (.ref a1)] _
      refine st26 _ ?_
      show SS p e below m T26 103 #[vr a1, vr a2] [] _
      exact X26.returnOut hx Bd.returns (hb hby d12_103) hr
    · show Q_rmAddB Z a1 a2 sto n f arr k cap vs mr pl nn vsc m' vs' h0 n0 _ T26.heap _
      rw [e26]
      exact ⟨b6, b12_b, k2_12, rfl, N26, KC, sz_b6, sz_b12_b, F_store_a1, F_size_a1, A6, F_filled_a1_14, F_items_a1_14, E_b_12, Vn21, hq12_0⟩
  · obtain ⟨T27, X27, e27, st27⟩ := getF X2 hx hZ hown (host := "") (Or.inl (ww hw 27 rfl)) Via.refl e2 F_size_a1 (g := (mkF m 15 #[vr a1, vr a2] [(.ref a1)])) rfl rfl (hb hby d12_15)
    obtain ⟨T28, X28, e28, st28⟩ := getF X27 hx hZ hown (host := "") (Or.inl (ww hw 25 rfl)) Via.refl e27 F_store_a1 (g := (mkF m 19 #[vr a1, vr a2] [(.ref a1), (.int n)])) rfl rfl (hb hby d12_19)
    have st29 := getFR X28 hx hZ hown (ww hw 49 rfl) e28 F_items_sto (g := (mkF m 22 #[vr a1, vr a2] [(.ref sto), (.int n)])) rfl rfl (hb hby d12_22)
    have Vo30 := V_arr
    obtain ⟨cl30, Ar30, -, Sz30, Nn30, -, -⟩ := Vo30
    have ia30 := State.isArrayOf_alike hZ.alike Ar30.2.1
    obtain ⟨T31, h31, X31, e31, E31, A31, D31, -, st31⟩ := newO X28 hx hZ hown (ww hw 6 rfl) (ww hw 7 rfl) (ww hw 8 rfl) e28 (g := (mkF m 30 #[vr a1, vr a2] [(.ref a1)])) rfl (hb hby d12_30) (by decide) (by decide)
    obtain ⟨b31, g31⟩ : ∃ z, z = h0.size := ⟨_, rfl⟩
    rw [← g31] at A31 D31 st31
    have ne_a1_b31 : a1 ≠ b31 := Nat.ne_of_lt (Nat.lt_of_lt_of_le F_store_a1.lt (Nat.le_of_eq g31.symm))
    have ne_sto_b31 : sto ≠ b31 := Nat.ne_of_lt (Nat.lt_of_lt_of_le E_sto.lt (Nat.le_of_eq g31.symm))
    have ne_arr_b31 : arr ≠ b31 := Nat.ne_of_lt (Nat.lt_of_lt_of_le E_arr.lt (Nat.le_of_eq g31.symm))
    have ne_a2_b31 : a2 ≠ b31 := Nat.ne_of_lt (Nat.lt_of_lt_of_le E_a2.lt (Nat.le_of_eq g31.symm))
    have g_b31 : n0 ≤ b31 := Nat.le_trans (Nat.le_trans Z0 KC.1) (Nat.le_of_eq g31.symm)
    have sz_b31 : h0.size ≤ b31 := Nat.le_trans KC.1 (Nat.le_of_eq g31.symm)
    replace F_store_a1 := F_store_a1.ext E31
    replace F_size_a1 := F_size_a1.ext E31
    replace E_a1 := E_a1.ext E31
    replace E_sto := E_sto.ext E31
    replace F_filled_sto := F_filled_sto.ext E31
    replace F_items_sto := F_items_sto.ext E31
    replace E_arr := E_arr.ext E31
    replace V_arr := V_arr.ext E31
    replace E_a2 := E_a2.ext E31
    replace O0 := O0.ext E31
    replace KC := KC.ext E31
    have F_items_b31 : Fld Z h31 b31 "com/example/brisk_tableau/brisktableau/tableau/SharedList$Store" "items" "[Ljava/lang/Object;" .null := D31 (Or.inr (ww hw 18 rfl)) (ty := (.array (.object "java/lang/Object"))) (by decide)
    have F_filled_b31 : Fld Z h31 b31 "com/example/brisk_tableau/brisktableau/tableau/SharedList$Store" "filled" "I" (.int (0 : Int32)) := D31 (Or.inl (ww hw 20 rfl)) (ty := .int) (by decide)
    obtain ⟨T32, X32, e32, st32⟩ := getF X31 hx hZ hown (host := "") (Or.inl (ww hw 25 rfl)) Via.refl e31 F_store_a1 (g := (mkF m 35 #[vr a1, vr a2] [(.ref a1), (.ref b31), (.ref b31), (.ref a1)])) rfl rfl (hb hby d12_35)
    have st33 := getFR X32 hx hZ hown (ww hw 49 rfl) e32 F_items_sto (g := (mkF m 38 #[vr a1, vr a2] [(.ref sto), (.ref b31), (.ref b31), (.ref a1)])) rfl rfl (hb hby d12_38)
    obtain ⟨T34, X34, e34, st34⟩ := getF X32 hx hZ hown (host := "") (Or.inl (ww hw 27 rfl)) Via.refl e32 F_size_a1 (g := (mkF m 44 #[vr a1, vr a2] [(.ref a1), (.int (2 : Int32)), (.int (4 : Int32)), (.ref arr), (.ref b31), (.ref b31), (.ref a1)])) rfl rfl (hb hby d12_44)
    obtain ⟨_, _, ⟨T35, L35, k35, n35⟩, -, X35, ⟨Lc35, hQ35, l35, y35, z35⟩, st35⟩ := Jvm.LawKit.callS X34 hx (y := y_8) hown (mvT hZ (ww hw 90 rfl)) (mvT hZ (ww hw 91 rfl)) (mvT hZ (ww hw 92 rfl)) (mvT hZ (ww hw 93 rfl)) (by decide) (backOf (W := 4) (rmMx l Z a0 hw [] (4 : Int32) ((2 : Int32) * n) h31 n0 (Nat.le_trans Z0 KC.1) O0 ) hZ (ww hw 93 rfl) (ww hw 92 rfl) (by decide) (by decide)) (g := (mkF m 48 #[vr a1, vr a2] [(.int ((2 : Int32) * n)), (.int (4 : Int32)), (.ref arr), (.ref b31), (.ref b31), (.ref a1)])) rfl (by rw [hml]; rfl) (argsL := [(.int (4 : Int32)), (.int ((2 : Int32) * n))]) (rest := [(.ref arr), (.ref b31), (.ref b31), (.ref a1)]) (lenOf pd_4 rfl) rfl (by show 2 * 0 + _ ≤ _; exact Nat.le_of_eq rfl) (hb hby d12_48) (fun _ _ => ⟨rfl, e34, (by decide : 1 + 0 ≤ _), (by decide : 2 + 0 ≤ _)⟩)
    dsimp only [Pt.U, Pt.locs, Pt.cells, Pt.slots] at X35 l35 y35 z35 st35 hQ35
    subst l35 y35 z35
    obtain ⟨rfl, N35q, e35⟩ := hQ35
    have N35 := Fr.app N0 N35q
    have pre36 : ∀ t, Steps p.tables e below (T35.setTop (mkF m 51 #[vr a1, vr a2] [(.int (if (4 : Int32) < ((2 : Int32) * n) then ((2 : Int32) * n) else (4 : Int32))), (.ref arr), (.ref b31), (.ref b31), (.ref a1)])) t → Steps p.tables e below (s₁.setTop (entryFrame m #[(.ref a1), (.ref a2)] 2)) t := by
      intro t kt
      refine pre4 t ?_
      show SS p e below m T2 11 #[vr a1, vr a2] [(.int f), (.int n)] _
      refine XS.icmpNo X2.here hx rfl (hb hby d12_11) rfl (flt hc11_5).1 ?_
      show SS p e below m T2 14 #[vr a1, vr a2] [] _
      refine XS.aloadN X2.here hx rfl (hb hby d12_14) rfl rfl ?_
      show SS p e below m T2 15 #[vr a1, vr a2] [(.ref a1)] _
      refine st27 _ ?_
      show SS p e below m T27 18 #[vr a1, vr a2] [(.int n)] _
      refine XS.aloadN X27.here hx rfl (hb hby d12_18) rfl rfl ?_
      show SS p e below m T27 19 #[vr a1, vr a2] [(.ref a1), (.int n)] _
      refine st28 _ ?_
      show SS p e below m T28 22 #[vr a1, vr a2] [(.ref sto), (.int n)] _
      refine st29 _ ?_
      show SS p e below m T28 25 #[vr a1, vr a2] [(.ref arr), (.int n)] _
      refine X28.arraylength hx (by rw [e28]; exact Ar30.1) ia30 (g := (mkF m 25 #[vr a1, vr a2] [(.ref arr), (.int n)])) rfl rfl (hb hby d12_25) _ ?_
      rw [len_of Sz30 Nn30]
      show SS p e below m T28 26 #[vr a1, vr a2] [(.int cap), (.int n)] _
      refine XS.icmpNo X28.here hx rfl (hb hby d12_26) rfl (teq (hcp.resolve_left hc11_5)).2 ?_
      show SS p e below m T28 29 #[vr a1, vr a2] [] _
      refine XS.aloadN X28.here hx rfl (hb hby d12_29) rfl rfl ?_
      show SS p e below m T28 30 #[vr a1, vr a2] [(.ref a1)] _
      refine st31 _ ?_
      show SS p e below m T31 33 #[vr a1, vr a2] [(.ref b31), (.ref a1)] _
      refine XS.dup X31.here hx rfl (hb hby d12_33) rfl rfl ?_
      show SS p e below m T31 34 #[vr a1, vr a2] [(.ref b31), (.ref b31), (.ref a1)] _
      refine XS.aloadN X31.here hx rfl (hb hby d12_34) rfl rfl ?_
      show SS p e below m T31 35 #[vr a1, vr a2] [(.ref a1), (.ref b31), (.ref b31), (.ref a1)] _
      refine st32 _ ?_
      show SS p e below m T32 38 #[vr a1, vr a2] [(.ref sto), (.ref b31), (.ref b31), (.ref a1)] _
      refine st33 _ ?_
      show SS p e below m T32 41 #[vr a1, vr a2] [(.ref arr), (.ref b31), (.ref b31), (.ref a1)] _
      refine XS.iconst X32.here hx rfl (hb hby d12_41) ?_
      show SS p e below m T32 42 #[vr a1, vr a2] [(.int (4 : Int32)), (.ref arr), (.ref b31), (.ref b31), (.ref a1)] _
      refine XS.iconst X32.here hx rfl (hb hby d12_42) ?_
      show SS p e below m T32 43 #[vr a1, vr a2] [(.int (2 : Int32)), (.int (4 : Int32)), (.ref arr), (.ref b31), (.ref b31), (.ref a1)] _
      refine XS.aloadN X32.here hx rfl (hb hby d12_43) rfl rfl ?_
      show SS p e below m T32 44 #[vr a1, vr a2] [(.ref a1), (.int (2 : Int32)), (.int (4 : Int32)), (.ref arr), (.ref b31), (.ref b31), (.ref a1)] _
      refine st34 _ ?_
      show SS p e below m T34 47 #[vr a1, vr a2] [(.int n), (.int (2 : Int32)), (.int (4 : Int32)), (.ref arr), (.ref b31), (.ref b31), (.ref a1)] _
      refine XS.imul X34.here hx rfl (hb hby d12_47) rfl ?_
      show SS p e below m T34 48 #[vr a1, vr a2] [(.int ((2 : Int32) * n)), (.int (4 : Int32)), (.ref arr), (.ref b31), (.ref b31), (.ref a1)] _
      refine st35 _ ?_
      exact kt
    rw [hP] at pre36
    have EL1 := own_els_ext EL E31
    obtain ⟨_, _, ⟨T37, L37, k37, n37⟩, -, X37, ⟨Lc37, hQ37, l37, y37, z37⟩, st37⟩ := Jvm.LawKit.callS X35 hx (y := y_11) hown (mvT hZ (ww hw 94 rfl)) (mvT hZ (ww hw 95 rfl)) (mvT hZ (ww hw 96 rfl)) (mvT hZ (ww hw 97 rfl)) (by decide) (backOf (W := 3) (rmC2 l Z a0 hw [] arr pl mr k cap vs nn vsc h31 n0 (Nat.le_trans Z0 KC.1) O0 E_arr V_arr MIR hp1 hp2 hp3 hp4 hp5 hp6 hp7 EL1) hZ (ww hw 97 rfl) (ww hw 96 rfl) (by decide) (by decide)) (g := (mkF m 51 #[vr a1, vr a2] [(.int pl), (.ref arr), (.ref b31), (.ref b31), (.ref a1)])) rfl (by rw [hml]; rfl) (argsL := [(.ref arr), (.int pl)]) (rest := [(.ref b31), (.ref b31), (.ref a1)]) (lenOf pd_7 rfl) rfl (by show 2 * 0 + _ ≤ _; exact Nat.le_of_eq rfl) (hb hby d12_51) (fun _ _ => ⟨rfl, e35, (by decide : 1 + 1 ≤ _), (by decide : 2 + 10 ≤ _)⟩)
    dsimp only [Pt.U, Pt.locs, Pt.cells, Pt.slots] at X37 l37 y37 z37 st37 hQ37
    subst l37 y37 z37
    obtain ⟨b37_b, k2_37, rfl, N37q, K37, sz_b37_b, E_b_37, V_b_37, hq37_0⟩ := hQ37
    have N37 := Fr.app N35 N37q
    have ne_a1_b37_b : a1 ≠ b37_b := Nat.ne_of_lt (Nat.lt_of_lt_of_le F_store_a1.lt sz_b37_b)
    have ne_sto_b37_b : sto ≠ b37_b := Nat.ne_of_lt (Nat.lt_of_lt_of_le E_sto.lt sz_b37_b)
    have ne_arr_b37_b : arr ≠ b37_b := Nat.ne_of_lt (Nat.lt_of_lt_of_le E_arr.lt sz_b37_b)
    have ne_a2_b37_b : a2 ≠ b37_b := Nat.ne_of_lt (Nat.lt_of_lt_of_le E_a2.lt sz_b37_b)
    have ne_b31_b37_b : b31 ≠ b37_b := Nat.ne_of_lt (Nat.lt_of_lt_of_le A31.lt sz_b37_b)
    have g_b37_b : n0 ≤ b37_b := Nat.le_trans (Nat.le_trans Z0 KC.1) sz_b37_b
    replace sz_b37_b : h0.size ≤ b37_b := Nat.le_trans KC.1 sz_b37_b
    replace F_store_a1 := F_store_a1.keep K37 nin0
    replace F_size_a1 := F_size_a1.keep K37 nin0
    replace E_a1 := E_a1.keep K37
    replace E_sto := E_sto.keep K37
    replace F_filled_sto := F_filled_sto.keep K37 nin0
    replace F_items_sto := F_items_sto.keep K37 nin0
    replace E_arr := E_arr.keep K37
    replace V_arr := V_arr.keep K37 nin0
    replace E_a2 := E_a2.keep K37
    replace A31 := A31.keep K37
    replace F_items_b31 := F_items_b31.keep K37 nin0
    replace F_filled_b31 := F_filled_b31.keep K37 nin0
    replace O0 := O0.keep K37 all0
    replace KC := KC.trans K37 all0
    obtain ⟨T38, X38, e38, st38⟩ := getF X37 hx hZ hown (host := "") (Or.inl (ww hw 27 rfl)) Via.refl rfl F_size_a1 (g := (mkF m 55 #[vr a1, vr a2] [(.ref a1), (.ref b37_b), (.ref b31), (.ref b31), (.ref a1)])) rfl rfl (hb hby d12_55)
    obtain ⟨_, _, ⟨T39, L39, k39, n39⟩, -, X39, ⟨Lc39, hQ39, l39, y39, z39⟩, st39⟩ := X38.specialBack hx (y := y_0) rfl hown (mvT hZ (ww hw 11 rfl)) (mvT hZ (ww hw 12 rfl)) (mvT hZ (ww hw 13 rfl)) (by decide) (backOf (W := 2) (rmSt l Z a0 hw [] b31 b37_b n T37.heap n0 (Nat.le_trans Z0 KC.1) O0 F_items_b31 F_filled_b31 A31 g_b31) hZ (ww hw 13 rfl) (ww hw 8 rfl) (by decide) (by decide)) (g := (mkF m 58 #[vr a1, vr a2] [(.int n), (.ref b37_b), (.ref b31), (.ref b31), (.ref a1)])) rfl (by rw [hml]; rfl) (Steps.refl _) (a := b31) (argsL := [(.ref b37_b), (.int n)]) (rest := [(.ref b31), (.ref a1)]) (lenOf pd_0 rfl) rfl (by show 2 * 0 + _ ≤ _; exact Nat.le_of_eq rfl) (hb hby d12_58) (fun _ _ => ⟨rfl, e38, (by decide : 2 + 0 ≤ _), (by decide : 12 + 0 ≤ _)⟩)
    dsimp only [Pt.U, Pt.locs, Pt.cells, Pt.slots] at X39 l39 y39 z39 st39 hQ39
    subst l39 y39 z39
    obtain ⟨rfl, N39q, K39, F_items_a1_39, F_filled_a1_39⟩ := hQ39
    have N39 := Fr.app N37 N39q
    replace F_store_a1 := F_store_a1.keep K39 (ninS ne_a1_b31 nin0)
    replace F_size_a1 := F_size_a1.keep K39 (ninS ne_a1_b31 nin0)
    replace E_a1 := E_a1.keep K39
    replace E_sto := E_sto.keep K39
    replace F_filled_sto := F_filled_sto.keep K39 (ninS ne_sto_b31 nin0)
    replace F_items_sto := F_items_sto.keep K39 (ninS ne_sto_b31 nin0)
    replace E_arr := E_arr.keep K39
    replace V_arr := V_arr.keep K39 (ninS ne_arr_b31 nin0)
    replace E_a2 := E_a2.keep K39
    replace A31 := A31.keep K39
    replace E_b_37 := E_b_37.keep K39
    replace V_b_37 := V_b_37.keep K39 (ninS (Ne.symm ne_b31_b37_b) nin0)
    replace O0 := O0.keep K39 (allS g_b31 all0)
    replace KC := KC.trans K39 (allS (Or.inr sz_b31) all0)
    obtain ⟨T40, h40, X40, e40, W40, st40⟩ := putF X39 hx hZ hown (host := "") (Or.inl (ww hw 25 rfl)) Via.refl rfl F_store_a1 E_a1 (Or.inl (ww hw 26 rfl)) (ww hw 1 rfl) (ty := (.object "com/example/brisk_tableau/brisktableau/tableau/SharedList$Store")) (by decide) rfl rfl (g := (mkF m 61 #[vr a1, vr a2] [(.ref b31), (.ref a1)])) rfl rfl (hb hby d12_61)
    have N40 := Fr.snoc X40 N39 g_a1
    replace F_store_a1 := F_store_a1.same W40
    have nec_sto_a1 : sto ≠ a1 := Exa.ne E_sto E_a1 (by decide)
    have nec_arr_a1 : arr ≠ a1 := Exa.ne E_arr E_a1 (by decide)
    replace F_size_a1 := F_size_a1.other W40 (Or.inr (slot_ne (Or.inl (ww hw 28 rfl)) (Or.inl (ww hw 26 rfl)) (by decide) (t := .int) (t' := (.object "com/example/brisk_tableau/brisktableau/tableau/SharedList$Store")) (by decide) (by decide)))
    replace E_a1 := E_a1.wr W40
    replace E_sto := E_sto.wr W40
    replace F_filled_sto := F_filled_sto.other W40 (Or.inl nec_sto_a1)
    replace F_items_sto := F_items_sto.other W40 (Or.inl nec_sto_a1)
    replace E_arr := E_arr.wr W40
    replace V_arr := V_arr.other W40 nec_arr_a1
    replace E_a2 := E_a2.wr W40
    replace A31 := A31.wr W40
    replace E_b_37 := E_b_37.wr W40
    replace V_b_37 := V_b_37.other W40 (Ne.symm ne_a1_b37_b)
    replace F_items_a1_39 := F_items_a1_39.other W40 (Or.inl (Ne.symm ne_a1_b31))
    replace F_filled_a1_39 := F_filled_a1_39.other W40 (Or.inl (Ne.symm ne_a1_b31))
    replace O0 := O0.wr W40 g_a1
    replace KC := KC.wr W40 (Or.inl (List.mem_of_getElem? (i := 0) rfl))
    obtain ⟨T41, X41, e41, st41⟩ := getF X40 hx hZ hown (host := "") (Or.inl (ww hw 25 rfl)) Via.refl e40 F_store_a1 (g := (mkF m 65 #[vr a1, vr a2] [(.ref a1)])) rfl rfl (hb hby d12_65)
    have st42 := getFR X41 hx hZ hown (ww hw 49 rfl) e41 F_items_a1_39 (g := (mkF m 68 #[vr a1, vr a2] [(.ref b31)])) rfl rfl (hb hby d12_68)
    obtain ⟨T43, X43, e43, st43⟩ := getF X41 hx hZ hown (host := "") (Or.inl (ww hw 27 rfl)) Via.refl e41 F_size_a1 (g := (mkF m 72 #[vr a1, vr a2] [(.ref a1), (.ref b37_b)])) rfl rfl (hb hby d12_72)
    obtain ⟨_, _, ⟨T44, L44, k44, n44⟩, -, X44, ⟨Lc44, hQ44, l44, y44, z44⟩, st44⟩ := Jvm.LawKit.callS X43 hx (y := y_7) hown (mvT hZ (ww hw 85 rfl)) (mvT hZ (ww hw 86 rfl)) (mvT hZ (ww hw 87 rfl)) (mvT hZ (ww hw 88 rfl)) (by decide) (backOf (W := 2) (rmRn l Z a0 hw [] a2 h40 n0 (Nat.le_trans Z0 KC.1) O0 ) hZ (ww hw 88 rfl) (ww hw 87 rfl) (by decide) (by decide)) (g := (mkF m 76 #[vr a1, vr a2] [(.ref a2), (.int n), (.ref b37_b)])) rfl (by rw [hml]; rfl) (argsL := [(.ref a2)]) (rest := [(.int n), (.ref b37_b)]) (lenOf pd_6 rfl) rfl (by show 2 * 0 + _ ≤ _; exact Nat.le_of_eq rfl) (hb hby d12_76) (fun _ _ => ⟨rfl, e43, (by decide : 2 + 0 ≤ _), (by decide : 12 + 0 ≤ _)⟩)
    dsimp only [Pt.U, Pt.locs, Pt.cells, Pt.slots] at X44 l44 y44 z44 st44 hQ44
    subst l44 y44 z44
    obtain ⟨rfl, N44q, e44⟩ := hQ44
    have N44 := Fr.app N40 N44q
    have Vo45 := V_b_37
    obtain ⟨cl45, Ar45, q45, Sz45, Nn45, Hh45, Gg45⟩ := Vo45
    have hin45 : ¬ (n < 0 ∨ cl45.slots.size ≤ (n).toNatClampNeg) := inb_of Sz45 ⟨hC, hD⟩
    obtain ⟨T46, h46, X46, e46, W46, st46⟩ := stR X44 hx hZ e44 Ar45 (j := n) hin45 rfl (Sto.ofV Ar45 q45 hq37_0 (Ins.of_exa E_a2 (ww hw 89 rfl))) (g := (mkF m 79 #[vr a1, vr a2] [(.ref a2), (.int n), (.ref b37_b)])) rfl rfl (hb hby d12_79)
    have Vn46 := Arv.set Ar45 q45 Sz45 Nn45 Hh45 Gg45 rfl W46 (n.toNatClampNeg) rfl hL
    have N46 := Fr.snoc X46 N44 g_b37_b
    replace F_store_a1 := F_store_a1.other W46 (Or.inl ne_a1_b37_b)
    replace F_size_a1 := F_size_a1.other W46 (Or.inl ne_a1_b37_b)
    replace E_a1 := E_a1.wr W46
    replace E_sto := E_sto.wr W46
    replace F_filled_sto := F_filled_sto.other W46 (Or.inl ne_sto_b37_b)
    replace F_items_sto := F_items_sto.other W46 (Or.inl ne_sto_b37_b)
    replace E_arr := E_arr.wr W46
    replace V_arr := V_arr.other W46 ne_arr_b37_b
    replace E_a2 := E_a2.wr W46
    replace A31 := A31.wr W46
    replace E_b_37 := E_b_37.wr W46
    replace F_items_a1_39 := F_items_a1_39.other W46 (Or.inl ne_b31_b37_b)
    replace F_filled_a1_39 := F_filled_a1_39.other W46 (Or.inl ne_b31_b37_b)
    replace O0 := O0.wr W46 g_b37_b
    replace KC := KC.wr W46 (Or.inr sz_b37_b)
    obtain ⟨T47, X47, e47, st47⟩ := getF X46 hx hZ hown (host := "") (Or.inl (ww hw 25 rfl)) Via.refl e46 F_store_a1 (g := (mkF m 81 #[vr a1, vr a2] [(.ref a1)])) rfl rfl (hb hby d12_81)
    obtain ⟨T48, X48, e48, st48⟩ := getF X47 hx hZ hown (host := "") (Or.inl (ww hw 27 rfl)) Via.refl e47 F_size_a1 (g := (mkF m 85 #[vr a1, vr a2] [(.ref a1), (.ref b31)])) rfl rfl (hb hby d12_85)
    obtain ⟨T49, h49, X49, e49, W49, st49⟩ := putFR X48 hx hZ hown (ww hw 84 rfl) e48 F_filled_a1_39 A31 (ww hw 20 rfl) (ww hw 7 rfl) (ty := .int) (by decide) rfl rfl (g := (mkF m 90 #[vr a1, vr a2] [(.int (n + (1 : Int32))), (.ref b31)])) rfl rfl (hb hby d12_90)
    have N49 := Fr.snoc X49 N46 g_b31
    replace F_filled_a1_39 := F_filled_a1_39.same W49
    replace F_store_a1 := F_store_a1.other W49 (Or.inl ne_a1_b31)
    replace F_size_a1 := F_size_a1.other W49 (Or.inl ne_a1_b31)
    replace E_a1 := E_a1.wr W49
    replace E_sto := E_sto.wr W49
    replace F_filled_sto := F_filled_sto.other W49 (Or.inl ne_sto_b31)
    replace F_items_sto := F_items_sto.other W49 (Or.inl ne_sto_b31)
    replace E_arr := E_arr.wr W49
    replace V_arr := V_arr.other W49 ne_arr_b31
    replace E_a2 := E_a2.wr W49
    replace A31 := A31.wr W49
    replace E_b_37 := E_b_37.wr W49
    replace F_items_a1_39 := F_items_a1_39.other W49 (Or.inr (slot_ne (Or.inr (ww hw 18 rfl)) (Or.inl (ww hw 20 rfl)) (by decide) (t := (.array (.object "java/lang/Object"))) (t' := .int) (by decide) (by decide)))
    replace Vn46 := Vn46.other W49 (Ne.symm ne_b31_b37_b)
    replace O0 := O0.wr W49 g_b31
    replace KC := KC.wr W49 (Or.inr sz_b31)
    obtain ⟨T50, X50, e50, st50⟩ := getF X49 hx hZ hown (host := "") (Or.inl (ww hw 27 rfl)) Via.refl e49 F_size_a1 (g := (mkF m 95 #[vr a1, vr a2] [(.ref a1), (.ref a1)])) rfl rfl (hb hby d12_95)
    obtain ⟨T51, h51, X51, e51, W51, st51⟩ := putF X50 hx hZ hown (host := "") (Or.inl (ww hw 27 rfl)) Via.refl e50 F_size_a1 E_a1 (Or.inl (ww hw 28 rfl)) (ww hw 1 rfl) (ty := .int) (by decide) rfl rfl (g := (mkF m 100 #[vr a1, vr a2] [(.int (n + (1 : Int32))), (.ref a1)])) rfl rfl (hb hby d12_100)
    have N51 := Fr.snoc X51 N49 g_a1
    replace F_size_a1 := F_size_a1.same W51
    replace F_store_a1 := F_store_a1.other W51 (Or.inr (slot_ne (Or.inl (ww hw 26 rfl)) (Or.inl (ww hw 28 rfl)) (by decide) (t := (.object "com/example/brisk_tableau/brisktableau/tableau/SharedList$Store")) (t' := .int) (by decide) (by decide)))
    replace E_a1 := E_a1.wr W51
    replace E_sto := E_sto.wr W51
    replace F_filled_sto := F_filled_sto.other W51 (Or.inl nec_sto_a1)
    replace F_items_sto := F_items_sto.other W51 (Or.inl nec_sto_a1)
    replace E_arr := E_arr.wr W51
    replace V_arr := V_arr.other W51 nec_arr_a1
    replace E_a2 := E_a2.wr W51
    replace A31 := A31.wr W51
    replace E_b_37 := E_b_37.wr W51
    replace F_items_a1_39 := F_items_a1_39.other W51 (Or.inl (Ne.symm ne_a1_b31))
    replace F_filled_a1_39 := F_filled_a1_39.other W51 (Or.inl (Ne.symm ne_a1_b31))
    replace Vn46 := Vn46.other W51 (Ne.symm ne_a1_b37_b)
    replace O0 := O0.wr W51 g_a1
    replace KC := KC.wr W51 (Or.inl (List.mem_of_getElem? (i := 0) rfl))
    rw [hM] at F_size_a1
    rw [hM] at F_filled_a1_39
    rw [hV] at Vn46
    obtain ⟨fs, hr, hrun, hended, hW, hsame⟩ := X51.leave (v := none) (fun _ => rfl)
    refine ⟨_, _, pre36 _ ?_, hrun, hended, _, _, rfl, ?_, ⟨_, rfl⟩, hW, hsame.mono (by decide) (by decide)⟩
    · show SS p e below m T35 51 #[vr a1, vr a2] [(.int pl), (.ref arr), (.ref b31), (.ref b31), (.ref a1)] _
      refine st37 _ ?_
      show SS p e below m T37 54 #[vr a1, vr a2] [(.ref b37_b), (.ref b31), (.ref b31), (.ref a1)] _
      refine XS.aloadN X37.here hx rfl (hb hby d12_54) rfl rfl ?_
      show SS p e below m T37 55 #[vr a1, vr a2] [(.ref a1), (.ref b37_b), (.ref b31), (.ref b31), (.ref a1)] _
      refine st38 _ ?_
      show SS p e below m T38 58 #[vr a1, vr a2] [(.int n), (.ref b37_b), (.ref b31), (.ref b31), (.ref a1)] _
      refine st39.trans ?_
      show SS p e below m T39 61 #[vr a1, vr a2] [(.ref b31), (.ref a1)] _
      refine st40 _ ?_
      show SS p e below m T40 64 #[vr a1, vr a2] [] _
      refine XS.aloadN X40.here hx rfl (hb hby d12_64) rfl rfl ?_
      show SS p e below m T40 65 #[vr a1, vr a2] [(.ref a1)] _
      refine st41 _ ?_
      show SS p e below m T41 68 #[vr a1, vr a2] [(.ref b31)] _
      refine st42 _ ?_
      show SS p e below m T41 71 #[vr a1, vr a2] [(.ref b37_b)] _
      refine XS.aloadN X41.here hx rfl (hb hby d12_71) rfl rfl ?_
      show SS p e below m T41 72 #[vr a1, vr a2] [(.ref a1), (.ref b37_b)] _
      refine st43 _ ?_
      show SS p e below m T43 75 #[vr a1, vr a2] [(.int n), (.ref b37_b)] _
      refine XS.aloadN X43.here hx rfl (hb hby d12_75) rfl rfl ?_
      show SS p e below m T43 76 #[vr a1, vr a2] [(.ref a2), (.int n), (.ref b37_b)] _
      refine st44 _ ?_
      show SS p e below m T44 79 #[vr a1, vr a2] [(.ref a2), (.int n), (.ref b37_b)] _
      refine st46 _ ?_
      show SS p e below m T46 80 #[vr a1, vr a2] [] _
      refine XS.aloadN X46.here hx rfl (hb hby d12_80) rfl rfl ?_
      show SS p e below m T46 81 #[vr a1, vr a2] [(.ref a1)] _
      refine st47 _ ?_
      show SS p e below m T47 84 #[vr a1, vr a2] [(.ref b31)] _
      refine XS.aloadN X47.here hx rfl (hb hby d12_84) rfl rfl ?_
      show SS p e below m T47 85 #[vr a1, vr a2] [(.ref a1), (.ref b31)] _
      refine st48 _ ?_
      show SS p e below m T48 88 #[vr a1, vr a2] [(.int n), (.ref b31)] _
      refine XS.iconst X48.here hx rfl (hb hby d12_88) ?_
      show SS p e below m T48 89 #[vr a1, vr a2] [(.int (1 : Int32)), (.int n), (.ref b31)] _
      refine XS.iadd X48.here hx rfl (hb hby d12_89) rfl ?_
      show SS p e below m T48 90 #[vr a1, vr a2] [(.int (n + (1 : Int32))), (.ref b31)] _
      refine st49 _ ?_
      show SS p e below m T49 93 #[vr a1, vr a2] [] _
      refine XS.aloadN X49.here hx rfl (hb hby d12_93) rfl rfl ?_
      show SS p e below m T49 94 #[vr a1, vr a2] [(.ref a1)] _
      refine XS.dup X49.here hx rfl (hb hby d12_94) rfl rfl ?_
      show SS p e below m T49 95 #[vr a1, vr a2] [(.ref a1), (.ref a1)] _
      refine st50 _ ?_
      show SS p e below m T50 98 #[vr a1, vr a2] [(.int n), (.ref a1)] _
      refine XS.iconst X50.here hx rfl (hb hby d12_98) ?_
      show SS p e below m T50 99 #[vr a1, vr a2] [(.int (1 : Int32)), (.int n), (.ref a1)] _
      refine XS.iadd X50.here hx rfl (hb hby d12_99) rfl ?_
      show SS p e below m T50 100 #[vr a1, vr a2] [(.int (n + (1 : Int32))), (.ref a1)] _
      refine st51 _ ?_
      show SS p e below m T51 103 #[vr a1, vr a2] [] _
      exact X51.returnOut hx Bd.returns (hb hby d12_103) hr
    · show Q_rmAddB Z a1 a2 sto n f arr k cap vs mr pl nn vsc m' vs' h0 n0 _ T51.heap _
      rw [e51]
      exact ⟨b31, b37_b, k2_37, rfl, N51, KC, sz_b31, sz_b37_b, F_store_a1, F_size_a1, A31, F_filled_a1_39, F_items_a1_39, E_b_37, Vn46, hq37_0⟩
theorem d5_0 : decode prog_112_method_3_code 0 = .ok (.new 3, 3) := by decide +kernel
theorem d5_3 : decode prog_112_method_3_code 3 = .ok (.dup, 1) := by decide +kernel
theorem d5_4 : decode prog_112_method_3_code 4 = .ok (.aload_n 0, 1) := by decide +kernel
theorem d5_5 : decode prog_112_method_3_code 5 = .ok (.getfield 17, 3) := by decide +kernel
theorem d5_8 : decode prog_112_method_3_code 8 = .ok (.aload_n 0, 1) := by decide +kernel
theorem d5_9 : decode prog_112_method_3_code 9 = .ok (.getfield 21, 3) := by decide +kernel
theorem d5_12 : decode prog_112_method_3_code 12 = .ok (.invokespecial 11, 3) := by decide +kernel
theorem d5_15 : decode prog_112_method_3_code 15 = .ok (.areturn, 1) := by decide +kernel
theorem ef_rmCp (m : MethodId) (x0 : Addr) : entryFrame m #[(.ref x0)] 1 = mkF m 0 #[vr x0] [] := by first | (simp [entryFrame, mkF, argsToLocals, Value.category]; done) | rfl
def Q_rmCp (Z : State) (a1 : Addr) (sto : Addr) (n : Int32) (h0 : Heap) (n0 : Nat) (v : Option Value) (h : Heap) (L : List Loc) : Prop := ∃ b : Addr, (v = some (.ref b)) ∧ (Fr n0 L) ∧ (Keep h0 h []) ∧ (h0.size ≤ b) ∧ (Exa Z h b "com/example/brisk_tableau/brisktableau/tableau/SharedList") ∧ (Fld Z h b "com/example/brisk_tableau/brisktableau/tableau/SharedList" "store" "Lcom/example/brisk_tableau/brisktableau/tableau/SharedList$Store;" (.ref sto)) ∧ (Fld Z h b "com/example/brisk_tableau/brisktableau/tableau/SharedList" "size" "I" (.int n))
set_option maxRecDepth 65536 in
set_option maxHeartbeats 40000000 in
theorem rmCp (l : Launch) (Z : State) (a0 : Array Value) (hw : ∀ d ∈ tables_1, d.before a0 Z = true) (ws : List Jvm.Cond) (a1 : Addr) (sto : Addr) (n : Int32) (h0 : Heap) (n0 : Nat) (Z0 : n0 ≤ h0.size) (O0 : Old Z n0 h0) (F_store_a1 : Fld Z h0 a1 "com/example/brisk_tableau/brisktableau/tableau/SharedList" "store" "Lcom/example/brisk_tableau/brisktableau/tableau/SharedList$Store;" (.ref sto)) (F_size_a1 : Fld Z h0 a1 "com/example/brisk_tableau/brisktableau/tableau/SharedList" "size" "I" (.int n)) :
    MetFree l y_13 (head1 (Jvm.Cond.code y_13 prog_112_method_3_code 1 (some (.object "com/example/brisk_tableau/brisktableau/tableau/SharedList")) :: ws) ({ frames := 2, cells := 1, slots := 2, locals := 27 } : Room)) (fun a U => a = #[(.ref a1)] ∧ Z.Warmed39 U.vm ∧ U.heap = h0) (fun _ _ _ _ _ => True) (fun _ U o U' => ∃ v L, o = .returned v ∧ Q_rmCp Z a1 sto n h0 n0 v U'.heap L ∧ FrameEnd U o U' L ({ frames := 2, cells := 1, slots := 2, locals := 27 } : Room).cells ({ frames := 2, cells := 1, slots := 2, locals := 27 } : Room).slots) := by
  refine MetFree.of_bodySF (plainFor_of_name pn_1) hisR ?_
  intro p e s m args below meth c s₁ Bd hml0 hP hK
  obtain ⟨rfl, hZ, hh⟩ := hP
  have hx := Bd.exec
  have hby := Bd.bytes
  have hml : c.maxLocals = 1 := hml0
  have hown : s.vm.findClass "com/example/brisk_tableau/brisktableau/tableau/SharedList" = some m.cls := findClass_of_methodNamed Bd.named
  have hnm := (name_of_methodNamed Bd.named Bd.method).1
  have X0 : Stand p l e ({ frames := 2, cells := 1, slots := 2, locals := 27 } : Room) s m #[(.ref a1)] below meth c s₁ [] 0 0 := Stand.of_body Bd
  have e0 : s₁.heap = h0 := by rw [← hh, Bd.state]; rfl
  have N0 := Fr.nil n0
  have KC : Keep h0 h0 [] := Keep.refl h0 _
  have pre0 : ∀ t, Steps p.tables e below (s₁.setTop (mkF m 0 #[vr a1] [])) t → Steps p.tables e below (s₁.setTop (entryFrame m #[(.ref a1)] 1)) t := fun t k => castTop (ef_rmCp m a1) k
  obtain ⟨T1, h1, X1, e1, E1, A1, D1, -, st1⟩ := newO X0 hx hZ hown (ww hw 34 rfl) (ww hw 1 rfl) (ww hw 2 rfl) e0 (g := (mkF m 0 #[vr a1] [])) rfl (hb hby d5_0) (by decide) (by decide)
  obtain ⟨b1, g1⟩ : ∃ z, z = h0.size := ⟨_, rfl⟩
  rw [← g1] at A1 D1 st1
  have ne_a1_b1 : a1 ≠ b1 := Nat.ne_of_lt (Nat.lt_of_lt_of_le F_store_a1.lt (Nat.le_of_eq g1.symm))
  have g_b1 : n0 ≤ b1 := Nat.le_trans (Nat.le_trans Z0 KC.1) (Nat.le_of_eq g1.symm)
  have sz_b1 : h0.size ≤ b1 := Nat.le_trans KC.1 (Nat.le_of_eq g1.symm)
  replace F_store_a1 := F_store_a1.ext E1
  replace F_size_a1 := F_size_a1.ext E1
  replace O0 := O0.ext E1
  replace KC := KC.ext E1
  have F_store_b1 : Fld Z h1 b1 "com/example/brisk_tableau/brisktableau/tableau/SharedList" "store" "Lcom/example/brisk_tableau/brisktableau/tableau/SharedList$Store;" .null := D1 (Or.inl (ww hw 26 rfl)) (ty := (.object "com/example/brisk_tableau/brisktableau/tableau/SharedList$Store")) (by decide)
  have F_size_b1 : Fld Z h1 b1 "com/example/brisk_tableau/brisktableau/tableau/SharedList" "size" "I" (.int (0 : Int32)) := D1 (Or.inl (ww hw 28 rfl)) (ty := .int) (by decide)
  obtain ⟨T2, X2, e2, st2⟩ := getF X1 hx hZ hown (host := "") (Or.inl (ww hw 25 rfl)) Via.refl e1 F_store_a1 (g := (mkF m 5 #[vr a1] [(.ref a1), (.ref b1), (.ref b1)])) rfl rfl (hb hby d5_5)
  obtain ⟨T3, X3, e3, st3⟩ := getF X2 hx hZ hown (host := "") (Or.inl (ww hw 27 rfl)) Via.refl e2 F_size_a1 (g := (mkF m 9 #[vr a1] [(.ref a1), (.ref sto), (.ref b1), (.ref b1)])) rfl rfl (hb hby d5_9)
  obtain ⟨_, _, ⟨T4, L4, k4, n4⟩, -, X4, ⟨Lc4, hQ4, l4, y4, z4⟩, st4⟩ := X3.specialBack hx (y := y_1) rfl hown (mvT hZ (ww hw 21 rfl)) (mvT hZ (ww hw 22 rfl)) (mvT hZ (ww hw 23 rfl)) (by decide) (backOf (W := 1) (rmLi l Z a0 hw [] b1 sto n h1 n0 (Nat.le_trans Z0 KC.1) O0 F_store_b1 F_size_b1 A1 g_b1) hZ (ww hw 23 rfl) (ww hw 2 rfl) (by decide) (by decide)) (g := (mkF m 12 #[vr a1] [(.int n), (.ref sto), (.ref b1), (.ref b1)])) rfl (by rw [hml]; rfl) (Steps.refl _) (a := b1) (argsL := [(.ref sto), (.int n)]) (rest := [(.ref b1)]) (lenOf pd_1 rfl) rfl (by show 2 * 0 + _ ≤ _; exact Nat.le_of_eq rfl) (hb hby d5_12) (fun _ _ => ⟨rfl, e3, (by decide : 1 + 0 ≤ _), (by decide : 2 + 0 ≤ _)⟩)
  dsimp only [Pt.U, Pt.locs, Pt.cells, Pt.slots] at X4 l4 y4 z4 st4 hQ4
  subst l4 y4 z4
  obtain ⟨rfl, N4q, K4, F_store_a1_4, F_size_a1_4⟩ := hQ4
  have N4 := Fr.app N0 N4q
  replace F_store_a1 := F_store_a1.keep K4 (ninS ne_a1_b1 nin0)
  replace F_size_a1 := F_size_a1.keep K4 (ninS ne_a1_b1 nin0)
  replace A1 := A1.keep K4
  replace O0 := O0.keep K4 (allS g_b1 all0)
  replace KC := KC.trans K4 (allS (Or.inr sz_b1) all0)
  obtain ⟨fs, hr, hrun, hended, hW, hsame⟩ := X4.leave (v := some (.ref b1)) (fun h => by rw [Bd.returns] at h; cases h)
  refine ⟨_, _, pre0 _ ?_, hrun, hended, _, _, rfl, ?_, ⟨_, rfl⟩, hW, hsame.mono (by decide) (by decide)⟩
  · show SS p e below m s₁ 0 #[vr a1] [] _
    refine st1 _ ?_
    show SS p e below m T1 3 #[vr a1] [(.ref b1)] _
    refine XS.dup X1.here hx rfl (hb hby d5_3) rfl rfl ?_
    show SS p e below m T1 4 #[vr a1] [(.ref b1), (.ref b1)] _
    refine XS.aloadN X1.here hx rfl (hb hby d5_4) rfl rfl ?_
    show SS p e below m T1 5 #[vr a1] [(.ref a1), (.ref b1), (.ref b1)] _
    refine st2 _ ?_
    show SS p e below m T2 8 #[vr a1] [(.ref sto), (.ref b1), (.ref b1)] _
    refine XS.aloadN X2.here hx rfl (hb hby d5_8) rfl rfl ?_
    show SS p e below m T2 9 #[vr a1] [(.ref a1), (.ref sto), (.ref b1), (.ref b1)] _
    refine st3 _ ?_
    show SS p e below m T3 12 #[vr a1] [(.int n), (.ref sto), (.ref b1), (.ref b1)] _
    refine st4.trans ?_
    show SS p e below m T4 15 #[vr a1] [(.ref b1)] _
    jvm_step X4.here [X4.here.top, hx, (hb hby d5_15), X4.method', Bd.returns, Value.isRef, FieldType.isReference]
    first | (intro acts; rw [hr _ acts rfl rfl rfl]) | rw [hr _ _ rfl rfl rfl]
    exact Steps.refl _
  · show Q_rmCp Z a1 sto n h0 n0 _ T4.heap _
    exact ⟨b1, rfl, N4, KC, sz_b1, A1, F_store_a1_4, F_size_a1_4⟩
theorem d9_0 : decode prog_113_method_1_code 0 = .ok (.aload_n 0, 1) := by decide +kernel
theorem d9_1 : decode prog_113_method_1_code 1 = .ok (.iload_n 2, 1) := by decide +kernel
theorem d9_2 : decode prog_113_method_1_code 2 = .ok (.putfield 1, 3) := by decide +kernel
theorem d9_5 : decode prog_113_method_1_code 5 = .ok (.aload_n 0, 1) := by decide +kernel
theorem d9_6 : decode prog_113_method_1_code 6 = .ok (.aload_n 3, 1) := by decide +kernel
theorem d9_7 : decode prog_113_method_1_code 7 = .ok (.putfield 7, 3) := by decide +kernel
theorem d9_10 : decode prog_113_method_1_code 10 = .ok (.aload_n 0, 1) := by decide +kernel
theorem d9_11 : decode prog_113_method_1_code 11 = .ok (.invokespecial 11, 3) := by decide +kernel
theorem d9_14 : decode prog_113_method_1_code 14 = .ok (.return_, 1) := by decide +kernel
theorem pn_6 : plainName "com/example/brisk_tableau/brisktableau/tableau/SharedList$1" = true := by first | (simp [plainName, overriddenIn]; done) | decide +kernel
theorem ef_rmIi (m : MethodId) (x0 : Addr) (x1 : Addr) (x2 : Int32) (x3 : Addr) : entryFrame m #[(.ref x0), (.ref x1), (.int x2), (.ref x3)] 4 = mkF m 0 #[vr x0, vr x1, vi x2, vr x3] [] := by first | (simp [entryFrame, mkF, argsToLocals, Value.category]; done) | rfl
def Q_rmIi (Z : State) (a1 : Addr) (a2 : Addr) (p3 : Int32) (a4 : Addr) (h0 : Heap) (n0 : Nat) (v : Option Value) (h : Heap) (L : List Loc) : Prop := (v = none) ∧ (Fr n0 L) ∧ (Keep h0 h [a1]) ∧ (Fld Z h a1 "com/example/brisk_tableau/brisktableau/tableau/SharedList$1" "val$length" "I" (.int p3)) ∧ (Fld Z h a1 "com/example/brisk_tableau/brisktableau/tableau/SharedList$1" "val$items" "[Ljava/lang/Object;" (.ref a4)) ∧ (Fld Z h a1 "com/example/brisk_tableau/brisktableau/tableau/SharedList$1" "next" "I" (.int (0 : Int32)))
set_option maxRecDepth 65536 in
set_option maxHeartbeats 40000000 in
theorem rmIi (l : Launch) (Z : State) (a0 : Array Value) (hw : ∀ d ∈ tables_1, d.before a0 Z = true) (ws : List Jvm.Cond) (a1 : Addr) (a2 : Addr) (p3 : Int32) (a4 : Addr) (h0 : Heap) (n0 : Nat) (Z0 : n0 ≤ h0.size) (O0 : Old Z n0 h0) (F_val_length_a1 : Fld Z h0 a1 "com/example/brisk_tableau/brisktableau/tableau/SharedList$1" "val$length" "I" (.int (0 : Int32))) (F_val_items_a1 : Fld Z h0 a1 "com/example/brisk_tableau/brisktableau/tableau/SharedList$1" "val$items" "[Ljava/lang/Object;" .null) (F_next_a1 : Fld Z h0 a1 "com/example/brisk_tableau/brisktableau/tableau/SharedList$1" "next" "I" (.int (0 : Int32))) (E_a1 : Exa Z h0 a1 "com/example/brisk_tableau/brisktableau/tableau/SharedList$1") (g_a1 : n0 ≤ a1) :
    MetFree l y_14 (head1 (Jvm.Cond.code y_14 prog_113_method_1_code 4 none :: ws) ({ frames := 1, cells := 0, slots := 0, locals := 12 } : Room)) (fun a U => a = #[(.ref a1), (.ref a2), (.int p3), (.ref a4)] ∧ Z.Warmed39 U.vm ∧ U.heap = h0) (fun _ _ _ _ _ => True) (fun _ U o U' => ∃ v L, o = .returned v ∧ Q_rmIi Z a1 a2 p3 a4 h0 n0 v U'.heap L ∧ FrameEnd U o U' L ({ frames := 1, cells := 0, slots := 0, locals := 12 } : Room).cells ({ frames := 1, cells := 0, slots := 0, locals := 12 } : Room).slots) := by
  refine MetFree.of_bodySF (plainFor_of_name pn_6) hisR ?_
  intro p e s m args below meth c s₁ Bd hml0 hP hK
  obtain ⟨rfl, hZ, hh⟩ := hP
  have hx := Bd.exec
  have hby := Bd.bytes
  have hml : c.maxLocals = 4 := hml0
  have hown : s.vm.findClass "com/example/brisk_tableau/brisktableau/tableau/SharedList$1" = some m.cls := findClass_of_methodNamed Bd.named
  have hnm := (name_of_methodNamed Bd.named Bd.method).1
  have X0 : Stand p l e ({ frames := 1, cells := 0, slots := 0, locals := 12 } : Room) s m #[(.ref a1), (.ref a2), (.int p3), (.ref a4)] below meth c s₁ [] 0 0 := Stand.of_body Bd
  have e0 : s₁.heap = h0 := by rw [← hh, Bd.state]; rfl
  have N0 := Fr.nil n0
  have KC : Keep h0 h0 [a1] := Keep.refl h0 _
  have pre0 : ∀ t, Steps p.tables e below (s₁.setTop (mkF m 0 #[vr a1, vr a2, vi p3, vr a4] [])) t → Steps p.tables e below (s₁.setTop (entryFrame m #[(.ref a1), (.ref a2), (.int p3), (.ref a4)] 4)) t := fun t k => castTop (ef_rmIi m a1 a2 p3 a4) k
  obtain ⟨T1, h1, X1, e1, W1, st1⟩ := putF X0 hx hZ hown (host := "") (Or.inl (ww hw 56 rfl)) Via.refl e0 F_val_length_a1 E_a1 (Or.inr ⟨(ww hw 57 rfl), rfl, hnm⟩) (ww hw 51 rfl) (ty := .int) (by decide) rfl rfl (g := (mkF m 2 #[vr a1, vr a2, vi p3, vr a4] [(.int p3), (.ref a1)])) rfl rfl (hb hby d9_2)
  have N1 := Fr.snoc X1 N0 g_a1
  replace F_val_length_a1 := F_val_length_a1.same W1
  replace F_val_items_a1 := F_val_items_a1.other W1 (Or.inr (slot_ne (Or.inr (ww hw 59 rfl)) (Or.inr (ww hw 57 rfl)) (by decide) (t := (.array (.object "java/lang/Object"))) (t' := .int) (by decide) (by decide)))
  replace F_next_a1 := F_next_a1.other W1 (Or.inr (slot_ne (Or.inl (ww hw 71 rfl)) (Or.inr (ww hw 57 rfl)) (by decide) (t := .int) (t' := .int) (by decide) (by decide)))
  replace E_a1 := E_a1.wr W1
  replace O0 := O0.wr W1 g_a1
  replace KC := KC.wr W1 (Or.inl (List.mem_of_getElem? (i := 0) rfl))
  obtain ⟨T2, h2, X2, e2, W2, st2⟩ := putF X1 hx hZ hown (host := "") (Or.inl (ww hw 58 rfl)) Via.refl e1 F_val_items_a1 E_a1 (Or.inr ⟨(ww hw 59 rfl), rfl, hnm⟩) (ww hw 51 rfl) (ty := (.array (.object "java/lang/Object"))) (by decide) rfl rfl (g := (mkF m 7 #[vr a1, vr a2, vi p3, vr a4] [(.ref a4), (.ref a1)])) rfl rfl (hb hby d9_7)
  have N2 := Fr.snoc X2 N1 g_a1
  replace F_val_items_a1 := F_val_items_a1.same W2
  replace F_val_length_a1 := F_val_length_a1.other W2 (Or.inr (slot_ne (Or.inr (ww hw 57 rfl)) (Or.inr (ww hw 59 rfl)) (by decide) (t := .int) (t' := (.array (.object "java/lang/Object"))) (by decide) (by decide)))
  replace F_next_a1 := F_next_a1.other W2 (Or.inr (slot_ne (Or.inl (ww hw 71 rfl)) (Or.inr (ww hw 59 rfl)) (by decide) (t := .int) (t' := (.array (.object "java/lang/Object"))) (by decide) (by decide)))
  replace E_a1 := E_a1.wr W2
  replace O0 := O0.wr W2 g_a1
  replace KC := KC.wr W2 (Or.inl (List.mem_of_getElem? (i := 0) rfl))
  obtain ⟨T3, X3, e3, st3⟩ := initO X2 hx hZ hown (ww hw 60 rfl) (ww hw 15 rfl) (ww hw 16 rfl) e2 (g := (mkF m 11 #[vr a1, vr a2, vi p3, vr a4] [(.ref a1)])) rfl (by rw [hml]; rfl) rfl (hb hby d9_11) (by decide) (W := 0) (by show 2 * 0 + _ ≤ _; exact Nat.le_of_eq rfl) (by decide)
  obtain ⟨fs, hr, hrun, hended, hW, hsame⟩ := X3.leave (v := none) (fun _ => rfl)
  refine ⟨_, _, pre0 _ ?_, hrun, hended, _, _, rfl, ?_, ⟨_, rfl⟩, hW, hsame.mono (by decide) (by decide)⟩
  · show SS p e below m s₁ 0 #[vr a1, vr a2, vi p3, vr a4] [] _
    refine XS.aloadN X0.here hx rfl (hb hby d9_0) rfl rfl ?_
    show SS p e below m s₁ 1 #[vr a1, vr a2, vi p3, vr a4] [(.ref a1)] _
    refine XS.iloadN X0.here hx rfl (hb hby d9_1) rfl ?_
    show SS p e below m s₁ 2 #[vr a1, vr a2, vi p3, vr a4] [(.int p3), (.ref a1)] _
    refine st1 _ ?_
    show SS p e below m T1 5 #[vr a1, vr a2, vi p3, vr a4] [] _
    refine XS.aloadN X1.here hx rfl (hb hby d9_5) rfl rfl ?_
    show SS p e below m T1 6 #[vr a1, vr a2, vi p3, vr a4] [(.ref a1)] _
    refine XS.aloadN X1.here hx rfl (hb hby d9_6) rfl rfl ?_
    show SS p e below m T1 7 #[vr a1, vr a2, vi p3, vr a4] [(.ref a4), (.ref a1)] _
    refine st2 _ ?_
    show SS p e below m T2 10 #[vr a1, vr a2, vi p3, vr a4] [] _
    refine XS.aloadN X2.here hx rfl (hb hby d9_10) rfl rfl ?_
    show SS p e below m T2 11 #[vr a1, vr a2, vi p3, vr a4] [(.ref a1)] _
    refine st3 _ ?_
    show SS p e below m T3 14 #[vr a1, vr a2, vi p3, vr a4] [] _
    exact X3.returnOut hx Bd.returns (hb hby d9_14) hr
  · show Q_rmIi Z a1 a2 p3 a4 h0 n0 _ T3.heap _
    rw [e3]
    exact ⟨rfl, N2, KC, F_val_length_a1, F_val_items_a1, F_next_a1⟩
theorem pd_8 : parseMethodDescriptor "(Lcom/example/brisk_tableau/brisktableau/tableau/SharedList;I[Ljava/lang/Object;)V" = some ⟨[(.object "com/example/brisk_tableau/brisktableau/tableau/SharedList"), .int, (.array (.object "java/lang/Object"))], none⟩ := by decide +kernel
theorem d8_0 : decode prog_112_method_6_code 0 = .ok (.aload_n 0, 1) := by decide +kernel
theorem d8_1 : decode prog_112_method_6_code 1 = .ok (.getfield 17, 3) := by decide +kernel
theorem d8_4 : decode prog_112_method_6_code 4 = .ok (.getfield 28, 3) := by decide +kernel
theorem d8_7 : decode prog_112_method_6_code 7 = .ok (.astore_n 1, 1) := by decide +kernel
theorem d8_8 : decode prog_112_method_6_code 8 = .ok (.aload_n 0, 1) := by decide +kernel
theorem d8_9 : decode prog_112_method_6_code 9 = .ok (.getfield 21, 3) := by decide +kernel
theorem d8_12 : decode prog_112_method_6_code 12 = .ok (.istore_n 2, 1) := by decide +kernel
theorem d8_13 : decode prog_112_method_6_code 13 = .ok (.new 50, 3) := by decide +kernel
theorem d8_16 : decode prog_112_method_6_code 16 = .ok (.dup, 1) := by decide +kernel
theorem d8_17 : decode prog_112_method_6_code 17 = .ok (.aload_n 0, 1) := by decide +kernel
theorem d8_18 : decode prog_112_method_6_code 18 = .ok (.iload_n 2, 1) := by decide +kernel
theorem d8_19 : decode prog_112_method_6_code 19 = .ok (.aload_n 1, 1) := by decide +kernel
theorem d8_20 : decode prog_112_method_6_code 20 = .ok (.invokespecial 52, 3) := by decide +kernel
theorem d8_23 : decode prog_112_method_6_code 23 = .ok (.areturn, 1) := by decide +kernel
theorem ef_rmIt (m : MethodId) (x0 : Addr) : entryFrame m #[(.ref x0)] 3 = mkF m 0 #[vr x0, .unset, .unset] [] := by first | (simp [entryFrame, mkF, argsToLocals, Value.category]; done) | rfl
def Q_rmIt (Z : State) (a1 : Addr) (sto : Addr) (n : Int32) (arr : Addr) (h0 : Heap) (n0 : Nat) (v : Option Value) (h : Heap) (L : List Loc) : Prop := ∃ b : Addr, (v = some (.ref b)) ∧ (Fr n0 L) ∧ (Keep h0 h []) ∧ (h0.size ≤ b) ∧ (Exa Z h b "com/example/brisk_tableau/brisktableau/tableau/SharedList$1") ∧ (Fld Z h b "com/example/brisk_tableau/brisktableau/tableau/SharedList$1" "val$length" "I" (.int n)) ∧ (Fld Z h b "com/example/brisk_tableau/brisktableau/tableau/SharedList$1" "val$items" "[Ljava/lang/Object;" (.ref arr)) ∧ (Fld Z h b "com/example/brisk_tableau/brisktableau/tableau/SharedList$1" "next" "I" (.int (0 : Int32)))
set_option maxRecDepth 65536 in
set_option maxHeartbeats 40000000 in
theorem rmIt (l : Launch) (Z : State) (a0 : Array Value) (hw : ∀ d ∈ tables_1, d.before a0 Z = true) (ws : List Jvm.Cond) (a1 : Addr) (sto : Addr) (n : Int32) (arr : Addr) (h0 : Heap) (n0 : Nat) (Z0 : n0 ≤ h0.size) (O0 : Old Z n0 h0) (F_store_a1 : Fld Z h0 a1 "com/example/brisk_tableau/brisktableau/tableau/SharedList" "store" "Lcom/example/brisk_tableau/brisktableau/tableau/SharedList$Store;" (.ref sto)) (F_size_a1 : Fld Z h0 a1 "com/example/brisk_tableau/brisktableau/tableau/SharedList" "size" "I" (.int n)) (F_items_sto : Fld Z h0 sto "com/example/brisk_tableau/brisktableau/tableau/SharedList$Store" "items" "[Ljava/lang/Object;" (.ref arr)) :
    MetFree l y_15 (head1 (Jvm.Cond.code y_15 prog_112_method_6_code 3 (some (.object "java/util/Iterator")) :: ws) ({ frames := 2, cells := 1, slots := 3, locals := 28 } : Room)) (fun a U => a = #[(.ref a1)] ∧ Z.Warmed39 U.vm ∧ U.heap = h0) (fun _ _ _ _ _ => True) (fun _ U o U' => ∃ v L, o = .returned v ∧ Q_rmIt Z a1 sto n arr h0 n0 v U'.heap L ∧ FrameEnd U o U' L ({ frames := 2, cells := 1, slots := 3, locals := 28 } : Room).cells ({ frames := 2, cells := 1, slots := 3, locals := 28 } : Room).slots) := by
  refine MetFree.of_bodySF (plainFor_of_name pn_1) hisR ?_
  intro p e s m args below meth c s₁ Bd hml0 hP hK
  obtain ⟨rfl, hZ, hh⟩ := hP
  have hx := Bd.exec
  have hby := Bd.bytes
  have hml : c.maxLocals = 3 := hml0
  have hown : s.vm.findClass "com/example/brisk_tableau/brisktableau/tableau/SharedList" = some m.cls := findClass_of_methodNamed Bd.named
  have hnm := (name_of_methodNamed Bd.named Bd.method).1
  have X0 : Stand p l e ({ frames := 2, cells := 1, slots := 3, locals := 28 } : Room) s m #[(.ref a1)] below meth c s₁ [] 0 0 := Stand.of_body Bd
  have e0 : s₁.heap = h0 := by rw [← hh, Bd.state]; rfl
  have N0 := Fr.nil n0
  have KC : Keep h0 h0 [] := Keep.refl h0 _
  have pre0 : ∀ t, Steps p.tables e below (s₁.setTop (mkF m 0 #[vr a1, un, un] [])) t → Steps p.tables e below (s₁.setTop (entryFrame m #[(.ref a1)] 3)) t := fun t k => castTop (ef_rmIt m a1) k
  obtain ⟨T1, X1, e1, st1⟩ := getF X0 hx hZ hown (host := "") (Or.inl (ww hw 25 rfl)) Via.refl e0 F_store_a1 (g := (mkF m 1 #[vr a1, un, un] [(.ref a1)])) rfl rfl (hb hby d8_1)
  have st2 := getFR X1 hx hZ hown (ww hw 49 rfl) e1 F_items_sto (g := (mkF m 4 #[vr a1, un, un] [(.ref sto)])) rfl rfl (hb hby d8_4)
  obtain ⟨T3, X3, e3, st3⟩ := getF X1 hx hZ hown (host := "") (Or.inl (ww hw 27 rfl)) Via.refl e1 F_size_a1 (g := (mkF m 9 #[vr a1, vr arr, un] [(.ref a1)])) rfl rfl (hb hby d8_9)
  obtain ⟨T4, h4, X4, e4, E4, A4, D4, -, st4⟩ := newO X3 hx hZ hown (ww hw 50 rfl) (ww hw 51 rfl) (ww hw 52 rfl) e3 (g := (mkF m 13 #[vr a1, vr arr, vi n] [])) rfl (hb hby d8_13) (by decide) (by decide)
  obtain ⟨b4, g4⟩ : ∃ z, z = h0.size := ⟨_, rfl⟩
  rw [← g4] at A4 D4 st4
  have ne_a1_b4 : a1 ≠ b4 := Nat.ne_of_lt (Nat.lt_of_lt_of_le F_store_a1.lt (Nat.le_of_eq g4.symm))
  have ne_sto_b4 : sto ≠ b4 := Nat.ne_of_lt (Nat.lt_of_lt_of_le F_items_sto.lt (Nat.le_of_eq g4.symm))
  have g_b4 : n0 ≤ b4 := Nat.le_trans (Nat.le_trans Z0 KC.1) (Nat.le_of_eq g4.symm)
  have sz_b4 : h0.size ≤ b4 := Nat.le_trans KC.1 (Nat.le_of_eq g4.symm)
  replace F_store_a1 := F_store_a1.ext E4
  replace F_size_a1 := F_size_a1.ext E4
  replace F_items_sto := F_items_sto.ext E4
  replace O0 := O0.ext E4
  replace KC := KC.ext E4
  have F_val_length_b4 : Fld Z h4 b4 "com/example/brisk_tableau/brisktableau/tableau/SharedList$1" "val$length" "I" (.int (0 : Int32)) := D4 (Or.inr (ww hw 57 rfl)) (ty := .int) (by decide)
  have F_val_items_b4 : Fld Z h4 b4 "com/example/brisk_tableau/brisktableau/tableau/SharedList$1" "val$items" "[Ljava/lang/Object;" .null := D4 (Or.inr (ww hw 59 rfl)) (ty := (.array (.object "java/lang/Object"))) (by decide)
  have F_next_b4 : Fld Z h4 b4 "com/example/brisk_tableau/brisktableau/tableau/SharedList$1" "next" "I" (.int (0 : Int32)) := D4 (Or.inl (ww hw 71 rfl)) (ty := .int) (by decide)
  obtain ⟨_, _, ⟨T5, L5, k5, n5⟩, -, X5, ⟨Lc5, hQ5, l5, y5, z5⟩, st5⟩ := X4.specialBack hx (y := y_14) rfl hown (mvT hZ (ww hw 53 rfl)) (mvT hZ (ww hw 54 rfl)) (mvT hZ (ww hw 55 rfl)) (by decide) (backOf (W := 1) (rmIi l Z a0 hw [] b4 a1 n arr h4 n0 (Nat.le_trans Z0 KC.1) O0 F_val_length_b4 F_val_items_b4 F_next_b4 A4 g_b4) hZ (ww hw 55 rfl) (ww hw 52 rfl) (by decide) (by decide)) (g := (mkF m 20 #[vr a1, vr arr, vi n] [(.ref arr), (.int n), (.ref a1), (.ref b4), (.ref b4)])) rfl (by rw [hml]; rfl) (Steps.refl _) (a := b4) (argsL := [(.ref a1), (.int n), (.ref arr)]) (rest := [(.ref b4)]) (lenOf pd_8 rfl) rfl (by show 2 * 0 + _ ≤ _; exact Nat.le_of_eq rfl) (hb hby d8_20) (fun _ _ => ⟨rfl, e4, (by decide : 1 + 0 ≤ _), (by decide : 3 + 0 ≤ _)⟩)
  dsimp only [Pt.U, Pt.locs, Pt.cells, Pt.slots] at X5 l5 y5 z5 st5 hQ5
  subst l5 y5 z5
  obtain ⟨rfl, N5q, K5, F_val_length_a1_5, F_val_items_a1_5, F_next_a1_5⟩ := hQ5
  have N5 := Fr.app N0 N5q
  replace F_store_a1 := F_store_a1.keep K5 (ninS ne_a1_b4 nin0)
  replace F_size_a1 := F_size_a1.keep K5 (ninS ne_a1_b4 nin0)
  replace F_items_sto := F_items_sto.keep K5 (ninS ne_sto_b4 nin0)
  replace A4 := A4.keep K5
  replace O0 := O0.keep K5 (allS g_b4 all0)
  replace KC := KC.trans K5 (allS (Or.inr sz_b4) all0)
  obtain ⟨fs, hr, hrun, hended, hW, hsame⟩ := X5.leave (v := some (.ref b4)) (fun h => by rw [Bd.returns] at h; cases h)
  refine ⟨_, _, pre0 _ ?_, hrun, hended, _, _, rfl, ?_, ⟨_, rfl⟩, hW, hsame.mono (by decide) (by decide)⟩
  · show SS p e below m s₁ 0 #[vr a1, un, un] [] _
    refine XS.aloadN X0.here hx rfl (hb hby d8_0) rfl rfl ?_
    show SS p e below m s₁ 1 #[vr a1, un, un] [(.ref a1)] _
    refine st1 _ ?_
    show SS p e below m T1 4 #[vr a1, un, un] [(.ref sto)] _
    refine st2 _ ?_
    show SS p e below m T1 7 #[vr a1, un, un] [(.ref arr)] _
    refine XS.astoreN X1.here hx rfl (hb hby d8_7) rfl rfl (l' := #[vr a1, vr arr, un]) rfl ?_
    show SS p e below m T1 8 #[vr a1, vr arr, un] [] _
    refine XS.aloadN X1.here hx rfl (hb hby d8_8) rfl rfl ?_
    show SS p e below m T1 9 #[vr a1, vr arr, un] [(.ref a1)] _
    refine st3 _ ?_
    show SS p e below m T3 12 #[vr a1, vr arr, un] [(.int n)] _
    refine XS.istoreN X3.here hx rfl (hb hby d8_12) rfl (l' := #[vr a1, vr arr, vi n]) rfl ?_
    show SS p e below m T3 13 #[vr a1, vr arr, vi n] [] _
    refine st4 _ ?_
    show SS p e below m T4 16 #[vr a1, vr arr, vi n] [(.ref b4)] _
    refine XS.dup X4.here hx rfl (hb hby d8_16) rfl rfl ?_
    show SS p e below m T4 17 #[vr a1, vr arr, vi n] [(.ref b4), (.ref b4)] _
    refine XS.aloadN X4.here hx rfl (hb hby d8_17) rfl rfl ?_
    show SS p e below m T4 18 #[vr a1, vr arr, vi n] [(.ref a1), (.ref b4), (.ref b4)] _
    refine XS.iloadN X4.here hx rfl (hb hby d8_18) rfl ?_
    show SS p e below m T4 19 #[vr a1, vr arr, vi n] [(.int n), (.ref a1), (.ref b4), (.ref b4)] _
    refine XS.aloadN X4.here hx rfl (hb hby d8_19) rfl rfl ?_
    show SS p e below m T4 20 #[vr a1, vr arr, vi n] [(.ref arr), (.int n), (.ref a1), (.ref b4), (.ref b4)] _
    refine st5.trans ?_
    show SS p e below m T5 23 #[vr a1, vr arr, vi n] [(.ref b4)] _
    jvm_step X5.here [X5.here.top, hx, (hb hby d8_23), X5.method', Bd.returns, Value.isRef, FieldType.isReference]
    first | (intro acts; rw [hr _ acts rfl rfl rfl]) | rw [hr _ _ rfl rfl rfl]
    exact Steps.refl _
  · show Q_rmIt Z a1 sto n arr h0 n0 _ T5.heap _
    exact ⟨b4, rfl, N5, KC, sz_b4, A4, F_val_length_a1_5, F_val_items_a1_5, F_next_a1_5⟩
theorem d10_0 : decode prog_113_method_2_code 0 = .ok (.aload_n 0, 1) := by decide +kernel
theorem d10_1 : decode prog_113_method_2_code 1 = .ok (.getfield 17, 3) := by decide +kernel
theorem d10_4 : decode prog_113_method_2_code 4 = .ok (.aload_n 0, 1) := by decide +kernel
theorem d10_5 : decode prog_113_method_2_code 5 = .ok (.getfield 1, 3) := by decide +kernel
theorem d10_8 : decode prog_113_method_2_code 8 = .ok (.if_icmp .ge 7, 3) := by decide +kernel
theorem d10_11 : decode prog_113_method_2_code 11 = .ok (.iconst 1, 1) := by decide +kernel
theorem d10_12 : decode prog_113_method_2_code 12 = .ok (.goto 4, 3) := by decide +kernel
theorem d10_15 : decode prog_113_method_2_code 15 = .ok (.iconst 0, 1) := by decide +kernel
theorem d10_16 : decode prog_113_method_2_code 16 = .ok (.ireturn, 1) := by decide +kernel
theorem ef_rmHn (m : MethodId) (x0 : Addr) : entryFrame m #[(.ref x0)] 1 = mkF m 0 #[vr x0] [] := by first | (simp [entryFrame, mkF, argsToLocals, Value.category]; done) | rfl
def Q_rmHn (Z : State) (a1 : Addr) (i : Int32) (n : Int32) (r : Int32) (h0 : Heap) (n0 : Nat) (v : Option Value) (h : Heap) (L : List Loc) : Prop := (v = some (.int r)) ∧ (Fr n0 L) ∧ (h = h0)
set_option maxRecDepth 65536 in
set_option maxHeartbeats 40000000 in
theorem rmHn (l : Launch) (Z : State) (a0 : Array Value) (hw : ∀ d ∈ tables_1, d.before a0 Z = true) (ws : List Jvm.Cond) (a1 : Addr) (i : Int32) (n : Int32) (r : Int32) (h0 : Heap) (n0 : Nat) (Z0 : n0 ≤ h0.size) (O0 : Old Z n0 h0) (F_next_a1 : Fld Z h0 a1 "com/example/brisk_tableau/brisktableau/tableau/SharedList$1" "next" "I" (.int i)) (F_val_length_a1 : Fld Z h0 a1 "com/example/brisk_tableau/brisktableau/tableau/SharedList$1" "val$length" "I" (.int n)) (hR0 : (if i < n then (1 : Int32) else 0) = r) :
    MetFree l y_16 (head1 (Jvm.Cond.code y_16 prog_113_method_2_code 1 (some .boolean) :: ws) ({ frames := 0, cells := 0, slots := 0, locals := 0 } : Room)) (fun a U => a = #[(.ref a1)] ∧ Z.Warmed39 U.vm ∧ U.heap = h0) (fun _ _ _ _ _ => True) (fun _ U o U' => ∃ v L, o = .returned v ∧ Q_rmHn Z a1 i n r h0 n0 v U'.heap L ∧ FrameEnd U o U' L ({ frames := 0, cells := 0, slots := 0, locals := 0 } : Room).cells ({ frames := 0, cells := 0, slots := 0, locals := 0 } : Room).slots) := by
  refine MetFree.of_bodySF (plainFor_of_name pn_6) hisR ?_
  intro p e s m args below meth c s₁ Bd hml0 hP hK
  obtain ⟨rfl, hZ, hh⟩ := hP
  have hx := Bd.exec
  have hby := Bd.bytes
  have hml : c.maxLocals = 1 := hml0
  have hown : s.vm.findClass "com/example/brisk_tableau/brisktableau/tableau/SharedList$1" = some m.cls := findClass_of_methodNamed Bd.named
  have hnm := (name_of_methodNamed Bd.named Bd.method).1
  have X0 : Stand p l e ({ frames := 0, cells := 0, slots := 0, locals := 0 } : Room) s m #[(.ref a1)] below meth c s₁ [] 0 0 := Stand.of_body Bd
  have e0 : s₁.heap = h0 := by rw [← hh, Bd.state]; rfl
  have N0 := Fr.nil n0
  have KC : Keep h0 h0 [] := Keep.refl h0 _
  have pre0 : ∀ t, Steps p.tables e below (s₁.setTop (mkF m 0 #[vr a1] [])) t → Steps p.tables e below (s₁.setTop (entryFrame m #[(.ref a1)] 1)) t := fun t k => castTop (ef_rmHn m a1) k
  obtain ⟨T1, X1, e1, st1⟩ := getF X0 hx hZ hown (host := "") (Or.inl (ww hw 70 rfl)) Via.refl e0 F_next_a1 (g := (mkF m 1 #[vr a1] [(.ref a1)])) rfl rfl (hb hby d10_1)
  obtain ⟨T2, X2, e2, st2⟩ := getF X1 hx hZ hown (host := "") (Or.inl (ww hw 56 rfl)) Via.refl e1 F_val_length_a1 (g := (mkF m 5 #[vr a1] [(.ref a1), (.int i)])) rfl rfl (hb hby d10_5)
  have pre3 : ∀ t, Steps p.tables e below (T2.setTop (mkF m 8 #[vr a1] [(.int n), (.int i)])) t → Steps p.tables e below (s₁.setTop (entryFrame m #[(.ref a1)] 1)) t := by
    intro t kt
    refine pre0 t ?_
    show SS p e below m s₁ 0 #[vr a1] [] _
    refine XS.aloadN X0.here hx rfl (hb hby d10_0) rfl rfl ?_
    show SS p e below m s₁ 1 #[vr a1] [(.ref a1)] _
    refine st1 _ ?_
    show SS p e below m T1 4 #[vr a1] [(.int i)] _
    refine XS.aloadN X1.here hx rfl (hb hby d10_4) rfl rfl ?_
    show SS p e below m T1 5 #[vr a1] [(.ref a1), (.int i)] _
    refine st2 _ ?_
    exact kt
  by_cases hc8_4 : i < n
  · obtain ⟨fs, hr, hrun, hended, hW, hsame⟩ := X2.leave (v := some (.int (1 : Int32))) (fun h => by rw [Bd.returns] at h; cases h)
    refine ⟨_, _, pre3 _ ?_, hrun, hended, _, _, rfl, ?_, ⟨_, rfl⟩, hW, hsame.mono (by decide) (by decide)⟩
    · show SS p e below m T2 8 #[vr a1] [(.int n), (.int i)] _
      refine XS.icmpNo X2.here hx rfl (hb hby d10_8) rfl (tlt hc8_4).2.1 ?_
      show SS p e below m T2 11 #[vr a1] [] _
      refine XS.iconst X2.here hx rfl (hb hby d10_11) ?_
      show SS p e below m T2 12 #[vr a1] [(.int (1 : Int32))] _
      refine XS.goto X2.here hx rfl (pc0 := 12) (pc' := 16) rfl (hb hby d10_12) (by decide) (by decide) ?_
      show SS p e below m T2 16 #[vr a1] [(.int (1 : Int32))] _
      exact retN X2 hx (t := .boolean) Bd.returns (by simp) (hb hby d10_16) hr
    · show Q_rmHn Z a1 i n r h0 n0 _ T2.heap _
      rw [e2]
      exact ⟨(by rw [← hR0]; simp [hc8_4]), N0, rfl⟩
  · obtain ⟨fs, hr, hrun, hended, hW, hsame⟩ := X2.leave (v := some (.int (0 : Int32))) (fun h => by rw [Bd.returns] at h; cases h)
    refine ⟨_, _, pre3 _ ?_, hrun, hended, _, _, rfl, ?_, ⟨_, rfl⟩, hW, hsame.mono (by decide) (by decide)⟩
    · show SS p e below m T2 8 #[vr a1] [(.int n), (.int i)] _
      refine XS.icmpYes X2.here hx rfl (pc0 := 8) (pc' := 15) rfl (hb hby d10_8) rfl (flt hc8_4).2.1 (by decide) (by decide) ?_
      show SS p e below m T2 15 #[vr a1] [] _
      refine XS.iconst X2.here hx rfl (hb hby d10_15) ?_
      show SS p e below m T2 16 #[vr a1] [(.int (0 : Int32))] _
      exact retN X2 hx (t := .boolean) Bd.returns (by simp) (hb hby d10_16) hr
    · show Q_rmHn Z a1 i n r h0 n0 _ T2.heap _
      rw [e2]
      exact ⟨(by rw [← hR0]; simp [hc8_4]), N0, rfl⟩
theorem d18_0 : decode prog_113_method_3_code 0 = .ok (.aload_n 0, 1) := by decide +kernel
theorem d18_1 : decode prog_113_method_3_code 1 = .ok (.getfield 17, 3) := by decide +kernel
theorem d18_4 : decode prog_113_method_3_code 4 = .ok (.aload_n 0, 1) := by decide +kernel
theorem d18_5 : decode prog_113_method_3_code 5 = .ok (.getfield 1, 3) := by decide +kernel
theorem d18_8 : decode prog_113_method_3_code 8 = .ok (.if_icmp .ne 11, 3) := by decide +kernel
theorem d18_19 : decode prog_113_method_3_code 19 = .ok (.aload_n 0, 1) := by decide +kernel
theorem d18_20 : decode prog_113_method_3_code 20 = .ok (.getfield 7, 3) := by decide +kernel
theorem d18_23 : decode prog_113_method_3_code 23 = .ok (.aload_n 0, 1) := by decide +kernel
theorem d18_24 : decode prog_113_method_3_code 24 = .ok (.dup, 1) := by decide +kernel
theorem d18_25 : decode prog_113_method_3_code 25 = .ok (.getfield 17, 3) := by decide +kernel
theorem d18_28 : decode prog_113_method_3_code 28 = .ok (.dup_x1, 1) := by decide +kernel
theorem d18_29 : decode prog_113_method_3_code 29 = .ok (.iconst 1, 1) := by decide +kernel
theorem d18_30 : decode prog_113_method_3_code 30 = .ok (.iadd, 1) := by decide +kernel
theorem d18_31 : decode prog_113_method_3_code 31 = .ok (.putfield 17, 3) := by decide +kernel
theorem d18_34 : decode prog_113_method_3_code 34 = .ok (.aaload, 1) := by decide +kernel
theorem d18_35 : decode prog_113_method_3_code 35 = .ok (.areturn, 1) := by decide +kernel
theorem ef_rmNx (m : MethodId) (x0 : Addr) : entryFrame m #[(.ref x0)] 1 = mkF m 0 #[vr x0] [] := by first | (simp [entryFrame, mkF, argsToLocals, Value.category]; done) | rfl
def Q_rmNx (Z : State) (a1 : Addr) (i : Int32) (n : Int32) (arr : Addr) (k : ClassId) (cap : Int32) (vs : List Value) (x : Addr) (j : Int32) (h0 : Heap) (n0 : Nat) (v : Option Value) (h : Heap) (L : List Loc) : Prop := (v = some (.ref x)) ∧ (Fr n0 L) ∧ (Keep h0 h [a1]) ∧ (Fld Z h a1 "com/example/brisk_tableau/brisktableau/tableau/SharedList$1" "next" "I" (.int j)) ∧ (Fld Z h a1 "com/example/brisk_tableau/brisktableau/tableau/SharedList$1" "val$length" "I" (.int n)) ∧ (Fld Z h a1 "com/example/brisk_tableau/brisktableau/tableau/SharedList$1" "val$items" "[Ljava/lang/Object;" (.ref arr))
set_option maxRecDepth 65536 in
set_option maxHeartbeats 40000000 in
theorem rmNx (l : Launch) (Z : State) (a0 : Array Value) (hw : ∀ d ∈ tables_1, d.before a0 Z = true) (ws : List Jvm.Cond) (a1 : Addr) (i : Int32) (n : Int32) (arr : Addr) (k : ClassId) (cap : Int32) (vs : List Value) (x : Addr) (j : Int32) (h0 : Heap) (n0 : Nat) (Z0 : n0 ≤ h0.size) (O0 : Old Z n0 h0) (F_next_a1 : Fld Z h0 a1 "com/example/brisk_tableau/brisktableau/tableau/SharedList$1" "next" "I" (.int i)) (F_val_length_a1 : Fld Z h0 a1 "com/example/brisk_tableau/brisktableau/tableau/SharedList$1" "val$length" "I" (.int n)) (F_val_items_a1 : Fld Z h0 a1 "com/example/brisk_tableau/brisktableau/tableau/SharedList$1" "val$items" "[Ljava/lang/Object;" (.ref arr)) (E_a1 : Exa Z h0 a1 "com/example/brisk_tableau/brisktableau/tableau/SharedList$1") (E_arr : Exa Z h0 arr "[Ljava/lang/Object;") (V_arr : Arv Z h0 arr k (.object "java/lang/Object") cap vs .null) (g_a1 : n0 ≤ a1) (hN : ¬ i = n) (hC : ¬ i < 0) (hD : i < cap) (hX : vs.getD i.toNatClampNeg .null = .ref x) (hJ : i + (1 : Int32) = j) :
    MetFree l y_17 (head1 (Jvm.Cond.code y_17 prog_113_method_3_code 1 (some (.object "java/lang/Object")) :: ws) ({ frames := 0, cells := 0, slots := 0, locals := 0 } : Room)) (fun a U => a = #[(.ref a1)] ∧ Z.Warmed39 U.vm ∧ U.heap = h0) (fun _ _ _ _ _ => True) (fun _ U o U' => ∃ v L, o = .returned v ∧ Q_rmNx Z a1 i n arr k cap vs x j h0 n0 v U'.heap L ∧ FrameEnd U o U' L ({ frames := 0, cells := 0, slots := 0, locals := 0 } : Room).cells ({ frames := 0, cells := 0, slots := 0, locals := 0 } : Room).slots) := by
  refine MetFree.of_bodySF (plainFor_of_name pn_6) hisR ?_
  intro p e s m args below meth c s₁ Bd hml0 hP hK
  obtain ⟨rfl, hZ, hh⟩ := hP
  have hx := Bd.exec
  have hby := Bd.bytes
  have hml : c.maxLocals = 1 := hml0
  have hown : s.vm.findClass "com/example/brisk_tableau/brisktableau/tableau/SharedList$1" = some m.cls := findClass_of_methodNamed Bd.named
  have hnm := (name_of_methodNamed Bd.named Bd.method).1
  have X0 : Stand p l e ({ frames := 0, cells := 0, slots := 0, locals := 0 } : Room) s m #[(.ref a1)] below meth c s₁ [] 0 0 := Stand.of_body Bd
  have e0 : s₁.heap = h0 := by rw [← hh, Bd.state]; rfl
  have N0 := Fr.nil n0
  have KC : Keep h0 h0 [a1] := Keep.refl h0 _
  have pre0 : ∀ t, Steps p.tables e below (s₁.setTop (mkF m 0 #[vr a1] [])) t → Steps p.tables e below (s₁.setTop (entryFrame m #[(.ref a1)] 1)) t := fun t k => castTop (ef_rmNx m a1) k
  obtain ⟨T1, X1, e1, st1⟩ := getF X0 hx hZ hown (host := "") (Or.inl (ww hw 70 rfl)) Via.refl e0 F_next_a1 (g := (mkF m 1 #[vr a1] [(.ref a1)])) rfl rfl (hb hby d18_1)
  obtain ⟨T2, X2, e2, st2⟩ := getF X1 hx hZ hown (host := "") (Or.inl (ww hw 56 rfl)) Via.refl e1 F_val_length_a1 (g := (mkF m 5 #[vr a1] [(.ref a1), (.int i)])) rfl rfl (hb hby d18_5)
  obtain ⟨T3, X3, e3, st3⟩ := getF X2 hx hZ hown (host := "") (Or.inl (ww hw 58 rfl)) Via.refl e2 F_val_items_a1 (g := (mkF m 20 #[vr a1] [(.ref a1)])) rfl rfl (hb hby d18_20)
  obtain ⟨T4, X4, e4, st4⟩ := getF X3 hx hZ hown (host := "") (Or.inl (ww hw 70 rfl)) Via.refl e3 F_next_a1 (g := (mkF m 25 #[vr a1] [(.ref a1), (.ref a1), (.ref arr)])) rfl rfl (hb hby d18_25)
  obtain ⟨T5, h5, X5, e5, W5, st5⟩ := putF X4 hx hZ hown (host := "") (Or.inl (ww hw 70 rfl)) Via.refl e4 F_next_a1 E_a1 (Or.inl (ww hw 71 rfl)) (ww hw 51 rfl) (ty := .int) (by decide) rfl rfl (g := (mkF m 31 #[vr a1] [(.int (i + (1 : Int32))), (.ref a1), (.int i), (.ref arr)])) rfl rfl (hb hby d18_31)
  have N5 := Fr.snoc X5 N0 g_a1
  replace F_next_a1 := F_next_a1.same W5
  have nec_arr_a1 : arr ≠ a1 := Exa.ne E_arr E_a1 (by decide)
  replace F_val_length_a1 := F_val_length_a1.other W5 (Or.inr (slot_ne (Or.inr (ww hw 57 rfl)) (Or.inl (ww hw 71 rfl)) (by decide) (t := .int) (t' := .int) (by decide) (by decide)))
  replace F_val_items_a1 := F_val_items_a1.other W5 (Or.inr (slot_ne (Or.inr (ww hw 59 rfl)) (Or.inl (ww hw 71 rfl)) (by decide) (t := (.array (.object "java/lang/Object"))) (t' := .int) (by decide) (by decide)))
  replace E_a1 := E_a1.wr W5
  replace E_arr := E_arr.wr W5
  replace V_arr := V_arr.other W5 nec_arr_a1
  replace O0 := O0.wr W5 g_a1
  replace KC := KC.wr W5 (Or.inl (List.mem_of_getElem? (i := 0) rfl))
  have Vo6 := V_arr
  obtain ⟨cl6, Ar6, q6, Sz6, Nn6, Hh6, Gg6⟩ := Vo6
  have hin6 : ¬ (i < 0 ∨ cl6.slots.size ≤ (i).toNatClampNeg) := inb_of Sz6 ⟨hC, hD⟩
  have hat6 : cl6.slots[(i).toNatClampNeg]? = some (.ref x) := Has.at Hh6 hin6 hX
  have ia6 := State.isArrayOf_alike hZ.alike Ar6.2.1
  rw [hJ] at F_next_a1
  obtain ⟨fs, hr, hrun, hended, hW, hsame⟩ := X5.leave (v := some (.ref x)) (fun h => by rw [Bd.returns] at h; cases h)
  refine ⟨_, _, pre0 _ ?_, hrun, hended, _, _, rfl, ?_, ⟨_, rfl⟩, hW, hsame.mono (by decide) (by decide)⟩
  · show SS p e below m s₁ 0 #[vr a1] [] _
    refine XS.aloadN X0.here hx rfl (hb hby d18_0) rfl rfl ?_
    show SS p e below m s₁ 1 #[vr a1] [(.ref a1)] _
    refine st1 _ ?_
    show SS p e below m T1 4 #[vr a1] [(.int i)] _
    refine XS.aloadN X1.here hx rfl (hb hby d18_4) rfl rfl ?_
    show SS p e below m T1 5 #[vr a1] [(.ref a1), (.int i)] _
    refine st2 _ ?_
    show SS p e below m T2 8 #[vr a1] [(.int n), (.int i)] _
    refine XS.icmpYes X2.here hx rfl (pc0 := 8) (pc' := 19) rfl (hb hby d18_8) rfl (feq hN).2 (by decide) (by decide) ?_
    show SS p e below m T2 19 #[vr a1] [] _
    refine XS.aloadN X2.here hx rfl (hb hby d18_19) rfl rfl ?_
    show SS p e below m T2 20 #[vr a1] [(.ref a1)] _
    refine st3 _ ?_
    show SS p e below m T3 23 #[vr a1] [(.ref arr)] _
    refine XS.aloadN X3.here hx rfl (hb hby d18_23) rfl rfl ?_
    show SS p e below m T3 24 #[vr a1] [(.ref a1), (.ref arr)] _
    refine XS.dup X3.here hx rfl (hb hby d18_24) rfl rfl ?_
    show SS p e below m T3 25 #[vr a1] [(.ref a1), (.ref a1), (.ref arr)] _
    refine st4 _ ?_
    show SS p e below m T4 28 #[vr a1] [(.int i), (.ref a1), (.ref arr)] _
    refine XS.dupX1 X4.here hx rfl (hb hby d18_28) rfl rfl rfl ?_
    show SS p e below m T4 29 #[vr a1] [(.int i), (.ref a1), (.int i), (.ref arr)] _
    refine XS.iconst X4.here hx rfl (hb hby d18_29) ?_
    show SS p e below m T4 30 #[vr a1] [(.int (1 : Int32)), (.int i), (.ref a1), (.int i), (.ref arr)] _
    refine XS.iadd X4.here hx rfl (hb hby d18_30) rfl ?_
    show SS p e below m T4 31 #[vr a1] [(.int (i + (1 : Int32))), (.ref a1), (.int i), (.ref arr)] _
    refine st5 _ ?_
    show SS p e below m T5 34 #[vr a1] [(.int i), (.ref arr)] _
    refine X5.aaload hx (j := i) (v := (.ref x)) (by rw [e5]; exact Ar6.1) ia6 rfl Ar6.2.2 hin6 hat6 (g := (mkF m 34 #[vr a1] [(.int i), (.ref arr)])) rfl rfl (hb hby d18_34) _ ?_
    show SS p e below m T5 35 #[vr a1] [(.ref x)] _
    jvm_step X5.here [X5.here.top, hx, (hb hby d18_35), X5.method', Bd.returns, Value.isRef, FieldType.isReference]
    first | (intro acts; rw [hr _ acts rfl rfl rfl]) | rw [hr _ _ rfl rfl rfl]
    exact Steps.refl _
  · show Q_rmNx Z a1 i n arr k cap vs x j h0 n0 _ T5.heap _
    rw [e5]
    exact ⟨rfl, N5, KC, F_next_a1, F_val_length_a1, F_val_items_a1⟩
theorem d7_0 : decode prog_112_method_4_code 0 = .ok (.aload_n 0, 1) := by decide +kernel
theorem d7_1 : decode prog_112_method_4_code 1 = .ok (.getfield 21, 3) := by decide +kernel
theorem d7_4 : decode prog_112_method_4_code 4 = .ok (.ireturn, 1) := by decide +kernel
theorem ef_rmSz (m : MethodId) (x0 : Addr) : entryFrame m #[(.ref x0)] 1 = mkF m 0 #[vr x0] [] := by first | (simp [entryFrame, mkF, argsToLocals, Value.category]; done) | rfl
def Q_rmSz (Z : State) (a1 : Addr) (n : Int32) (h0 : Heap) (n0 : Nat) (v : Option Value) (h : Heap) (L : List Loc) : Prop := (v = some (.int n)) ∧ (Fr n0 L) ∧ (h = h0)
set_option maxRecDepth 65536 in
set_option maxHeartbeats 40000000 in
theorem rmSz (l : Launch) (Z : State) (a0 : Array Value) (hw : ∀ d ∈ tables_1, d.before a0 Z = true) (ws : List Jvm.Cond) (a1 : Addr) (n : Int32) (h0 : Heap) (n0 : Nat) (Z0 : n0 ≤ h0.size) (O0 : Old Z n0 h0) (F_size_a1 : Fld Z h0 a1 "com/example/brisk_tableau/brisktableau/tableau/SharedList" "size" "I" (.int n)) :
    MetFree l y_18 (head1 (Jvm.Cond.code y_18 prog_112_method_4_code 1 (some .int) :: ws) ({ frames := 0, cells := 0, slots := 0, locals := 0 } : Room)) (fun a U => a = #[(.ref a1)] ∧ Z.Warmed39 U.vm ∧ U.heap = h0) (fun _ _ _ _ _ => True) (fun _ U o U' => ∃ v L, o = .returned v ∧ Q_rmSz Z a1 n h0 n0 v U'.heap L ∧ FrameEnd U o U' L ({ frames := 0, cells := 0, slots := 0, locals := 0 } : Room).cells ({ frames := 0, cells := 0, slots := 0, locals := 0 } : Room).slots) := by
  refine MetFree.of_bodySF (plainFor_of_name pn_1) hisR ?_
  intro p e s m args below meth c s₁ Bd hml0 hP hK
  obtain ⟨rfl, hZ, hh⟩ := hP
  have hx := Bd.exec
  have hby := Bd.bytes
  have hml : c.maxLocals = 1 := hml0
  have hown : s.vm.findClass "com/example/brisk_tableau/brisktableau/tableau/SharedList" = some m.cls := findClass_of_methodNamed Bd.named
  have hnm := (name_of_methodNamed Bd.named Bd.method).1
  have X0 : Stand p l e ({ frames := 0, cells := 0, slots := 0, locals := 0 } : Room) s m #[(.ref a1)] below meth c s₁ [] 0 0 := Stand.of_body Bd
  have e0 : s₁.heap = h0 := by rw [← hh, Bd.state]; rfl
  have N0 := Fr.nil n0
  have KC : Keep h0 h0 [] := Keep.refl h0 _
  have pre0 : ∀ t, Steps p.tables e below (s₁.setTop (mkF m 0 #[vr a1] [])) t → Steps p.tables e below (s₁.setTop (entryFrame m #[(.ref a1)] 1)) t := fun t k => castTop (ef_rmSz m a1) k
  obtain ⟨T1, X1, e1, st1⟩ := getF X0 hx hZ hown (host := "") (Or.inl (ww hw 27 rfl)) Via.refl e0 F_size_a1 (g := (mkF m 1 #[vr a1] [(.ref a1)])) rfl rfl (hb hby d7_1)
  obtain ⟨fs, hr, hrun, hended, hW, hsame⟩ := X1.leave (v := some (.int n)) (fun h => by rw [Bd.returns] at h; cases h)
  refine ⟨_, _, pre0 _ ?_, hrun, hended, _, _, rfl, ?_, ⟨_, rfl⟩, hW, hsame.mono (by decide) (by decide)⟩
  · show SS p e below m s₁ 0 #[vr a1] [] _
    refine XS.aloadN X0.here hx rfl (hb hby d7_0) rfl rfl ?_
    show SS p e below m s₁ 1 #[vr a1] [(.ref a1)] _
    refine st1 _ ?_
    show SS p e below m T1 4 #[vr a1] [(.int n)] _
    exact retI X1 hx Bd.returns (hb hby d7_4) hr
  · show Q_rmSz Z a1 n h0 n0 _ T1.heap _
    rw [e1]
    exact ⟨rfl, N0, rfl⟩
theorem pd_9 : parseMethodDescriptor "()I" = some ⟨[], some .int⟩ := by decide +kernel
theorem pd_10 : parseMethodDescriptor "()Ljava/util/Iterator;" = some ⟨[], some (.object "java/util/Iterator")⟩ := by decide +kernel
theorem pd_11 : parseMethodDescriptor "()Z" = some ⟨[], some .boolean⟩ := by decide +kernel
theorem d6_0 : decode method_2_code 0 = .ok (.iload 6, 2) := by decide +kernel
theorem d6_2 : decode method_2_code 2 = .ok (.ifCond .eq 9, 3) := by decide +kernel
theorem d6_11 : decode method_2_code 11 = .ok (.iload_n 1, 1) := by decide +kernel
theorem d6_12 : decode method_2_code 12 = .ok (.istore 7, 2) := by decide +kernel
theorem d6_14 : decode method_2_code 14 = .ok (.aload_n 0, 1) := by decide +kernel
theorem d6_15 : decode method_2_code 15 = .ok (.invokevirtual 7, 3) := by decide +kernel
theorem d6_18 : decode method_2_code 18 = .ok (.iload 7, 2) := by decide +kernel
theorem d6_20 : decode method_2_code 20 = .ok (.if_icmp .eq 5, 3) := by decide +kernel
theorem d6_25 : decode method_2_code 25 = .ok (.aload_n 0, 1) := by decide +kernel
theorem d6_26 : decode method_2_code 26 = .ok (.invokevirtual 13, 3) := by decide +kernel
theorem d6_29 : decode method_2_code 29 = .ok (.astore 8, 2) := by decide +kernel
theorem d6_31 : decode method_2_code 31 = .ok (.iload_n 1, 1) := by decide +kernel
theorem d6_32 : decode method_2_code 32 = .ok (.iconst 1, 1) := by decide +kernel
theorem d6_33 : decode method_2_code 33 = .ok (.if_icmp .lt 32, 3) := by decide +kernel
theorem d6_65 : decode method_2_code 65 = .ok (.iload_n 1, 1) := by decide +kernel
theorem d6_66 : decode method_2_code 66 = .ok (.iconst 2, 1) := by decide +kernel
theorem d6_67 : decode method_2_code 67 = .ok (.if_icmp .lt 32, 3) := by decide +kernel
theorem d6_99 : decode method_2_code 99 = .ok (.iload_n 1, 1) := by decide +kernel
theorem d6_100 : decode method_2_code 100 = .ok (.iconst 3, 1) := by decide +kernel
theorem d6_101 : decode method_2_code 101 = .ok (.if_icmp .lt 33, 3) := by decide +kernel
theorem d6_134 : decode method_2_code 134 = .ok (.iload 6, 2) := by decide +kernel
theorem d6_136 : decode method_2_code 136 = .ok (.ifCond .eq 33, 3) := by decide +kernel
theorem d6_169 : decode method_2_code 169 = .ok (.aload 8, 2) := by decide +kernel
theorem d6_171 : decode method_2_code 171 = .ok (.invokeinterface 17 1, 5) := by decide +kernel
theorem d6_176 : decode method_2_code 176 = .ok (.ifCond .ne 7, 3) := by decide +kernel
theorem d6_179 : decode method_2_code 179 = .ok (.iconst 1, 1) := by decide +kernel
theorem d6_180 : decode method_2_code 180 = .ok (.goto 4, 3) := by decide +kernel
theorem d6_184 : decode method_2_code 184 = .ok (.ireturn, 1) := by decide +kernel
theorem pn_7 : plainName "com/example/brisk_tableau/brisktableau/tableau/SharedListCopyPinLaw" = true := by first | (simp [plainName, overriddenIn]; done) | decide +kernel
theorem ef_rmH00 (m : MethodId) (x0 : Addr) (x1 : Int32) (x2 : Int32) (x3 : Int32) (x4 : Int32) (x5 : Int32) (x6 : Int32) : entryFrame m #[(.ref x0), (.int x1), (.int x2), (.int x3), (.int x4), (.int x5), (.int x6)] 9 = mkF m 0 #[vr x0, vi x1, vi x2, vi x3, vi x4, vi x5, vi x6, .unset, .unset] [] := by first | (simp [entryFrame, mkF, argsToLocals, Value.category]; done) | rfl
def Q_rmH00 (Z : State) (a1 : Addr) (q0 : Int32) (q1 : Int32) (q2 : Int32) (ql : Int32) (sto : Addr) (arr : Addr) (kk : ClassId) (cap : Int32) (vs : List Value) (h0 : Heap) (n0 : Nat) (v : Option Value) (h : Heap) (L : List Loc) : Prop := (v = some (.int (1 : Int32))) ∧ (Fr n0 L) ∧ (Keep h0 h [])
set_option maxRecDepth 65536 in
set_option maxHeartbeats 40000000 in
theorem rmH00 (l : Launch) (Z : State) (a0 : Array Value) (hw : ∀ d ∈ tables_1, d.before a0 Z = true) (ws : List Jvm.Cond) (a1 : Addr) (q0 : Int32) (q1 : Int32) (q2 : Int32) (ql : Int32) (sto : Addr) (arr : Addr) (kk : ClassId) (cap : Int32) (vs : List Value) (h0 : Heap) (n0 : Nat) (Z0 : n0 ≤ h0.size) (O0 : Old Z n0 h0) (F_size_a1 : Fld Z h0 a1 "com/example/brisk_tableau/brisktableau/tableau/SharedList" "size" "I" (.int (0 : Int32))) (F_store_a1 : Fld Z h0 a1 "com/example/brisk_tableau/brisktableau/tableau/SharedList" "store" "Lcom/example/brisk_tableau/brisktableau/tableau/SharedList$Store;" (.ref sto)) (E_a1 : Exa Z h0 a1 "com/example/brisk_tableau/brisktableau/tableau/SharedList") (F_items_sto : Fld Z h0 sto "com/example/brisk_tableau/brisktableau/tableau/SharedList$Store" "items" "[Ljava/lang/Object;" (.ref arr)) (E_arr : Exa Z h0 arr "[Ljava/lang/Object;") (V_arr : Arv Z h0 arr kk (.object "java/lang/Object") cap vs .null) :
    MetFree l y_20 (head1 (Jvm.Cond.code y_20 method_2_code 9 (some .boolean) :: ws) ({ frames := 3, cells := 1, slots := 3, locals := 42 } : Room)) (fun a U => a = #[(.ref a1), (.int (0 : Int32)), (.int q0), (.int q1), (.int q2), (.int ql), (.int (0 : Int32))] ∧ Z.Warmed39 U.vm ∧ U.heap = h0) (fun _ _ _ _ _ => True) (fun _ U o U' => ∃ v L, o = .returned v ∧ Q_rmH00 Z a1 q0 q1 q2 ql sto arr kk cap vs h0 n0 v U'.heap L ∧ FrameEnd U o U' L ({ frames := 3, cells := 1, slots := 3, locals := 42 } : Room).cells ({ frames := 3, cells := 1, slots := 3, locals := 42 } : Room).slots) := by
  refine MetFree.of_bodySF (plainFor_of_name pn_7) hisR ?_
  intro p e s m args below meth c s₁ Bd hml0 hP hK
  obtain ⟨rfl, hZ, hh⟩ := hP
  have hx := Bd.exec
  have hby := Bd.bytes
  have hml : c.maxLocals = 9 := hml0
  have hown : s.vm.findClass "com/example/brisk_tableau/brisktableau/tableau/SharedListCopyPinLaw" = some m.cls := findClass_of_methodNamed Bd.named
  have hnm := (name_of_methodNamed Bd.named Bd.method).1
  have X0 : Stand p l e ({ frames := 3, cells := 1, slots := 3, locals := 42 } : Room) s m #[(.ref a1), (.int (0 : Int32)), (.int q0), (.int q1), (.int q2), (.int ql), (.int (0 : Int32))] below meth c s₁ [] 0 0 := Stand.of_body Bd
  have e0 : s₁.heap = h0 := by rw [← hh, Bd.state]; rfl
  have N0 := Fr.nil n0
  have KC : Keep h0 h0 [] := Keep.refl h0 _
  have pre0 : ∀ t, Steps p.tables e below (s₁.setTop (mkF m 0 #[vr a1, vi (0 : Int32), vi q0, vi q1, vi q2, vi ql, vi (0 : Int32), un, un] [])) t → Steps p.tables e below (s₁.setTop (entryFrame m #[(.ref a1), (.int (0 : Int32)), (.int q0), (.int q1), (.int q2), (.int ql), (.int (0 : Int32))] 9)) t := fun t k => castTop (ef_rmH00 m a1 (0 : Int32) q0 q1 q2 ql (0 : Int32)) k
  obtain ⟨cq1, kq1, q1a, q1b, q1c⟩ := isOf hZ e0 E_a1
  obtain ⟨_, _, ⟨T1, L1, k1, n1⟩, -, X1, ⟨Lc1, hQ1, l1, y1, z1⟩, st1⟩ := X0.virtualBack hx (y := y_18) (z := y_18) hown (mvT hZ (ww hw 39 rfl)) (mvT hZ (ww hw 40 rfl)) (notFace_of_selects (args := #[]) (mvT hZ (ww hw 42 rfl))) (mvT hZ (ww hw 42 rfl)) (mvT hZ (ww hw 41 rfl)) (by decide) (backOf (W := 0) (rmSz l Z a0 hw [] a1 (0 : Int32) h0 n0 (Nat.le_trans Z0 KC.1) O0 F_size_a1) hZ (ww hw 43 rfl) (ww hw 2 rfl) (by decide) (by decide)) q1a q1c (g := (mkF m 15 #[vr a1, vi (0 : Int32), vi q0, vi q1, vi q2, vi ql, vi (0 : Int32), vi (0 : Int32), un] [(.ref a1)])) rfl (by rw [hml]; rfl) (Steps.refl _) (argsL := []) (rest := []) (lenOf pd_9 rfl) rfl (by show 2 * 0 + _ ≤ _; exact Nat.le_of_eq rfl) (hb hby d6_15) (fun _ _ => ⟨rfl, e0, (by decide : 0 + 0 ≤ _), (by decide : 0 + 0 ≤ _)⟩)
  dsimp only [Pt.U, Pt.locs, Pt.cells, Pt.slots] at X1 l1 y1 z1 st1 hQ1
  subst l1 y1 z1
  obtain ⟨rfl, N1q, e1⟩ := hQ1
  have N1 := Fr.app N0 N1q
  obtain ⟨cq2, kq2, q2a, q2b, q2c⟩ := isOf hZ e1 E_a1
  obtain ⟨_, _, ⟨T2, L2, k2, n2⟩, -, X2, ⟨Lc2, hQ2, l2, y2, z2⟩, st2⟩ := X1.virtualBack hx (y := y_15) (z := y_15) hown (mvT hZ (ww hw 44 rfl)) (mvT hZ (ww hw 45 rfl)) (notFace_of_selects (args := #[]) (mvT hZ (ww hw 47 rfl))) (mvT hZ (ww hw 47 rfl)) (mvT hZ (ww hw 46 rfl)) (by decide) (backOf (W := 0) (rmIt l Z a0 hw [] a1 sto (0 : Int32) arr h0 n0 (Nat.le_trans Z0 KC.1) O0 F_store_a1 F_size_a1 F_items_sto) hZ (ww hw 48 rfl) (ww hw 2 rfl) (by decide) (by decide)) q2a q2c (g := (mkF m 26 #[vr a1, vi (0 : Int32), vi q0, vi q1, vi q2, vi ql, vi (0 : Int32), vi (0 : Int32), un] [(.ref a1)])) rfl (by rw [hml]; rfl) (Steps.refl _) (argsL := []) (rest := []) (lenOf pd_10 rfl) rfl (by show 2 * 0 + _ ≤ _; exact Nat.le_of_eq rfl) (hb hby d6_26) (fun _ _ => ⟨rfl, e1, (by decide : 0 + 1 ≤ _), (by decide : 0 + 3 ≤ _)⟩)
  dsimp only [Pt.U, Pt.locs, Pt.cells, Pt.slots] at X2 l2 y2 z2 st2 hQ2
  subst l2 y2 z2
  obtain ⟨b2_b, rfl, N2q, K2, sz_b2_b, E_b_2, F_val_length_b_2, F_val_items_b_2, F_next_b_2⟩ := hQ2
  have N2 := Fr.app N1 N2q
  have ne_a1_b2_b : a1 ≠ b2_b := Nat.ne_of_lt (Nat.lt_of_lt_of_le F_size_a1.lt sz_b2_b)
  have ne_sto_b2_b : sto ≠ b2_b := Nat.ne_of_lt (Nat.lt_of_lt_of_le F_items_sto.lt sz_b2_b)
  have ne_arr_b2_b : arr ≠ b2_b := Nat.ne_of_lt (Nat.lt_of_lt_of_le E_arr.lt sz_b2_b)
  have g_b2_b : n0 ≤ b2_b := Nat.le_trans (Nat.le_trans Z0 KC.1) sz_b2_b
  replace sz_b2_b : h0.size ≤ b2_b := Nat.le_trans KC.1 sz_b2_b
  replace F_size_a1 := F_size_a1.keep K2 nin0
  replace F_store_a1 := F_store_a1.keep K2 nin0
  replace E_a1 := E_a1.keep K2
  replace F_items_sto := F_items_sto.keep K2 nin0
  replace E_arr := E_arr.keep K2
  replace V_arr := V_arr.keep K2 nin0
  replace O0 := O0.keep K2 all0
  replace KC := KC.trans K2 all0
  obtain ⟨cq3, kq3, q3a, q3b, q3c⟩ := isOf hZ rfl E_b_2
  obtain ⟨_, _, ⟨T3, L3, k3, n3⟩, -, X3, ⟨Lc3, hQ3, l3, y3, z3⟩, st3⟩ := X2.interfaceBack hx (xi := y_19) (y := y_16) hown (mvT hZ (ww hw 61 rfl)) (mvT hZ (ww hw 62 rfl)) (mvT hZ (ww hw 63 rfl)) (mvT hZ (ww hw 64 rfl)) (mvT hZ (ww hw 65 rfl)) (mvT hZ (ww hw 66 rfl)) (mvT hZ (ww hw 67 rfl)) (mvT hZ (ww hw 68 rfl)) (by decide) (backOf (W := 0) (rmHn l Z a0 hw [] b2_b (0 : Int32) (0 : Int32) (0 : Int32) T2.heap n0 (Nat.le_trans Z0 KC.1) O0 F_next_b_2 F_val_length_b_2 (by decide)) hZ (ww hw 69 rfl) (ww hw 52 rfl) (by decide) (by decide)) q3a q3b q3c (g := (mkF m 171 #[vr a1, vi (0 : Int32), vi q0, vi q1, vi q2, vi ql, vi (0 : Int32), vi (0 : Int32), vr b2_b] [(.ref b2_b)])) rfl (by rw [hml]; rfl) (Steps.refl _) (argsL := []) (rest := []) (lenOf pd_11 rfl) rfl (by show 2 * 0 + _ ≤ _; exact Nat.le_of_eq rfl) (hb hby d6_171) (fun _ _ => ⟨rfl, rfl, (by decide : 1 + 0 ≤ _), (by decide : 3 + 0 ≤ _)⟩)
  dsimp only [Pt.U, Pt.locs, Pt.cells, Pt.slots] at X3 l3 y3 z3 st3 hQ3
  subst l3 y3 z3
  obtain ⟨rfl, N3q, e3⟩ := hQ3
  have N3 := Fr.app N2 N3q
  obtain ⟨fs, hr, hrun, hended, hW, hsame⟩ := X3.leave (v := some (.int (1 : Int32))) (fun h => by rw [Bd.returns] at h; cases h)
  refine ⟨_, _, pre0 _ ?_, hrun, hended, _, _, rfl, ?_, ⟨_, rfl⟩, hW, hsame.mono (by decide) (by decide)⟩
  · show SS p e below m s₁ 0 #[vr a1, vi (0 : Int32), vi q0, vi q1, vi q2, vi ql, vi (0 : Int32), un, un] [] _
    refine XS.iload X0.here hx rfl (hb hby d6_0) rfl ?_
    show SS p e below m s₁ 2 #[vr a1, vi (0 : Int32), vi q0, vi q1, vi q2, vi ql, vi (0 : Int32), un, un] [(.int (0 : Int32))] _
    refine XS.ifYes X0.here hx rfl (pc0 := 2) (pc' := 11) rfl (hb hby d6_2) rfl ((if0 _ _).trans (teq (by decide)).1) (by decide) (by decide) ?_
    show SS p e below m s₁ 11 #[vr a1, vi (0 : Int32), vi q0, vi q1, vi q2, vi ql, vi (0 : Int32), un, un] [] _
    refine XS.iloadN X0.here hx rfl (hb hby d6_11) rfl ?_
    show SS p e below m s₁ 12 #[vr a1, vi (0 : Int32), vi q0, vi q1, vi q2, vi ql, vi (0 : Int32), un, un] [(.int (0 : Int32))] _
    refine XS.istore X0.here hx rfl (hb hby d6_12) rfl (l' := #[vr a1, vi (0 : Int32), vi q0, vi q1, vi q2, vi ql, vi (0 : Int32), vi (0 : Int32), un]) rfl ?_
    show SS p e below m s₁ 14 #[vr a1, vi (0 : Int32), vi q0, vi q1, vi q2, vi ql, vi (0 : Int32), vi (0 : Int32), un] [] _
    refine XS.aloadN X0.here hx rfl (hb hby d6_14) rfl rfl ?_
    show SS p e below m s₁ 15 #[vr a1, vi (0 : Int32), vi q0, vi q1, vi q2, vi ql, vi (0 : Int32), vi (0 : Int32), un] [(.ref a1)] _
    refine st1.trans ?_
    show SS p e below m T1 18 #[vr a1, vi (0 : Int32), vi q0, vi q1, vi q2, vi ql, vi (0 : Int32), vi (0 : Int32), un] [(.int (0 : Int32))] _
    refine XS.iload X1.here hx rfl (hb hby d6_18) rfl ?_
    show SS p e below m T1 20 #[vr a1, vi (0 : Int32), vi q0, vi q1, vi q2, vi ql, vi (0 : Int32), vi (0 : Int32), un] [(.int (0 : Int32)), (.int (0 : Int32))] _
    refine XS.icmpYes X1.here hx rfl (pc0 := 20) (pc' := 25) rfl (hb hby d6_20) rfl (teq (by decide)).1 (by decide) (by decide) ?_
    show SS p e below m T1 25 #[vr a1, vi (0 : Int32), vi q0, vi q1, vi q2, vi ql, vi (0 : Int32), vi (0 : Int32), un] [] _
    refine XS.aloadN X1.here hx rfl (hb hby d6_25) rfl rfl ?_
    show SS p e below m T1 26 #[vr a1, vi (0 : Int32), vi q0, vi q1, vi q2, vi ql, vi (0 : Int32), vi (0 : Int32), un] [(.ref a1)] _
    refine st2.trans ?_
    show SS p e below m T2 29 #[vr a1, vi (0 : Int32), vi q0, vi q1, vi q2, vi ql, vi (0 : Int32), vi (0 : Int32), un] [(.ref b2_b)] _
    refine XS.astore X2.here hx rfl (hb hby d6_29) rfl rfl (l' := #[vr a1, vi (0 : Int32), vi q0, vi q1, vi q2, vi ql, vi (0 : Int32), vi (0 : Int32), vr b2_b]) rfl ?_
    show SS p e below m T2 31 #[vr a1, vi (0 : Int32), vi q0, vi q1, vi q2, vi ql, vi (0 : Int32), vi (0 : Int32), vr b2_b] [] _
    refine XS.iloadN X2.here hx rfl (hb hby d6_31) rfl ?_
    show SS p e below m T2 32 #[vr a1, vi (0 : Int32), vi q0, vi q1, vi q2, vi ql, vi (0 : Int32), vi (0 : Int32), vr b2_b] [(.int (0 : Int32))] _
    refine XS.iconst X2.here hx rfl (hb hby d6_32) ?_
    show SS p e below m T2 33 #[vr a1, vi (0 : Int32), vi q0, vi q1, vi q2, vi ql, vi (0 : Int32), vi (0 : Int32), vr b2_b] [(.int (1 : Int32)), (.int (0 : Int32))] _
    refine XS.icmpYes X2.here hx rfl (pc0 := 33) (pc' := 65) rfl (hb hby d6_33) rfl (tlt (by decide)).1 (by decide) (by decide) ?_
    show SS p e below m T2 65 #[vr a1, vi (0 : Int32), vi q0, vi q1, vi q2, vi ql, vi (0 : Int32), vi (0 : Int32), vr b2_b] [] _
    refine XS.iloadN X2.here hx rfl (hb hby d6_65) rfl ?_
    show SS p e below m T2 66 #[vr a1, vi (0 : Int32), vi q0, vi q1, vi q2, vi ql, vi (0 : Int32), vi (0 : Int32), vr b2_b] [(.int (0 : Int32))] _
    refine XS.iconst X2.here hx rfl (hb hby d6_66) ?_
    show SS p e below m T2 67 #[vr a1, vi (0 : Int32), vi q0, vi q1, vi q2, vi ql, vi (0 : Int32), vi (0 : Int32), vr b2_b] [(.int (2 : Int32)), (.int (0 : Int32))] _
    refine XS.icmpYes X2.here hx rfl (pc0 := 67) (pc' := 99) rfl (hb hby d6_67) rfl (tlt (by decide)).1 (by decide) (by decide) ?_
    show SS p e below m T2 99 #[vr a1, vi (0 : Int32), vi q0, vi q1, vi q2, vi ql, vi (0 : Int32), vi (0 : Int32), vr b2_b] [] _
    refine XS.iloadN X2.here hx rfl (hb hby d6_99) rfl ?_
    show SS p e below m T2 100 #[vr a1, vi (0 : Int32), vi q0, vi q1, vi q2, vi ql, vi (0 : Int32), vi (0 : Int32), vr b2_b] [(.int (0 : Int32))] _
    refine XS.iconst X2.here hx rfl (hb hby d6_100) ?_
    show SS p e below m T2 101 #[vr a1, vi (0 : Int32), vi q0, vi q1, vi q2, vi ql, vi (0 : Int32), vi (0 : Int32), vr b2_b] [(.int (3 : Int32)), (.int (0 : Int32))] _
    refine XS.icmpYes X2.here hx rfl (pc0 := 101) (pc' := 134) rfl (hb hby d6_101) rfl (tlt (by decide)).1 (by decide) (by decide) ?_
    show SS p e below m T2 134 #[vr a1, vi (0 : Int32), vi q0, vi q1, vi q2, vi ql, vi (0 : Int32), vi (0 : Int32), vr b2_b] [] _
    refine XS.iload X2.here hx rfl (hb hby d6_134) rfl ?_
    show SS p e below m T2 136 #[vr a1, vi (0 : Int32), vi q0, vi q1, vi q2, vi ql, vi (0 : Int32), vi (0 : Int32), vr b2_b] [(.int (0 : Int32))] _
    refine XS.ifYes X2.here hx rfl (pc0 := 136) (pc' := 169) rfl (hb hby d6_136) rfl ((if0 _ _).trans (teq (by decide)).1) (by decide) (by decide) ?_
    show SS p e below m T2 169 #[vr a1, vi (0 : Int32), vi q0, vi q1, vi q2, vi ql, vi (0 : Int32), vi (0 : Int32), vr b2_b] [] _
    refine XS.aload X2.here hx rfl (hb hby d6_169) rfl rfl ?_
    show SS p e below m T2 171 #[vr a1, vi (0 : Int32), vi q0, vi q1, vi q2, vi ql, vi (0 : Int32), vi (0 : Int32), vr b2_b] [(.ref b2_b)] _
    refine st3.trans ?_
    show SS p e below m T3 176 #[vr a1, vi (0 : Int32), vi q0, vi q1, vi q2, vi ql, vi (0 : Int32), vi (0 : Int32), vr b2_b] [(.int (0 : Int32))] _
    refine XS.ifNo X3.here hx rfl (hb hby d6_176) rfl ((if0 _ _).trans (teq (by decide)).2) ?_
    show SS p e below m T3 179 #[vr a1, vi (0 : Int32), vi q0, vi q1, vi q2, vi ql, vi (0 : Int32), vi (0 : Int32), vr b2_b] [] _
    refine XS.iconst X3.here hx rfl (hb hby d6_179) ?_
    show SS p e below m T3 180 #[vr a1, vi (0 : Int32), vi q0, vi q1, vi q2, vi ql, vi (0 : Int32), vi (0 : Int32), vr b2_b] [(.int (1 : Int32))] _
    refine XS.goto X3.here hx rfl (pc0 := 180) (pc' := 184) rfl (hb hby d6_180) (by decide) (by decide) ?_
    show SS p e below m T3 184 #[vr a1, vi (0 : Int32), vi q0, vi q1, vi q2, vi ql, vi (0 : Int32), vi (0 : Int32), vr b2_b] [(.int (1 : Int32))] _
    exact retN X3 hx (t := .boolean) Bd.returns (by simp) (hb hby d6_184) hr
  · show Q_rmH00 Z a1 q0 q1 q2 ql sto arr kk cap vs h0 n0 _ T3.heap _
    rw [e3]
    exact ⟨rfl, N3, KC⟩
theorem pd_12 : parseMethodDescriptor "()Ljava/lang/Object;" = some ⟨[], some (.object "java/lang/Object")⟩ := by decide +kernel
theorem d6_5 : decode method_2_code 5 = .ok (.iload_n 1, 1) := by decide +kernel
theorem d6_6 : decode method_2_code 6 = .ok (.iconst 1, 1) := by decide +kernel
theorem d6_7 : decode method_2_code 7 = .ok (.iadd, 1) := by decide +kernel
theorem d6_8 : decode method_2_code 8 = .ok (.goto 4, 3) := by decide +kernel
theorem d6_139 : decode method_2_code 139 = .ok (.aload 8, 2) := by decide +kernel
theorem d6_141 : decode method_2_code 141 = .ok (.invokeinterface 17 1, 5) := by decide +kernel
theorem d6_146 : decode method_2_code 146 = .ok (.ifCond .eq 21, 3) := by decide +kernel
theorem d6_149 : decode method_2_code 149 = .ok (.aload 8, 2) := by decide +kernel
theorem d6_151 : decode method_2_code 151 = .ok (.invokeinterface 23 1, 5) := by decide +kernel
theorem d6_156 : decode method_2_code 156 = .ok (.checkcast 27, 3) := by decide +kernel
theorem d6_159 : decode method_2_code 159 = .ok (.invokevirtual 29, 3) := by decide +kernel
theorem d6_162 : decode method_2_code 162 = .ok (.iload 5, 2) := by decide +kernel
theorem d6_164 : decode method_2_code 164 = .ok (.if_icmp .eq 5, 3) := by decide +kernel
theorem ef_rmH01 (m : MethodId) (x0 : Addr) (x1 : Int32) (x2 : Int32) (x3 : Int32) (x4 : Int32) (x5 : Int32) (x6 : Int32) : entryFrame m #[(.ref x0), (.int x1), (.int x2), (.int x3), (.int x4), (.int x5), (.int x6)] 9 = mkF m 0 #[vr x0, vi x1, vi x2, vi x3, vi x4, vi x5, vi x6, .unset, .unset] [] := by first | (simp [entryFrame, mkF, argsToLocals, Value.category]; done) | rfl
def Q_rmH01 (Z : State) (a1 : Addr) (q0 : Int32) (q1 : Int32) (q2 : Int32) (ql : Int32) (sto : Addr) (arr : Addr) (kk : ClassId) (cap : Int32) (vs : List Value) (x0 : Addr) (h0 : Heap) (n0 : Nat) (v : Option Value) (h : Heap) (L : List Loc) : Prop := (v = some (.int (1 : Int32))) ∧ (Fr n0 L) ∧ (Keep h0 h [])
set_option maxRecDepth 65536 in
set_option maxHeartbeats 40000000 in
theorem rmH01 (l : Launch) (Z : State) (a0 : Array Value) (hw : ∀ d ∈ tables_1, d.before a0 Z = true) (ws : List Jvm.Cond) (a1 : Addr) (q0 : Int32) (q1 : Int32) (q2 : Int32) (ql : Int32) (sto : Addr) (arr : Addr) (kk : ClassId) (cap : Int32) (vs : List Value) (x0 : Addr) (h0 : Heap) (n0 : Nat) (Z0 : n0 ≤ h0.size) (O0 : Old Z n0 h0) (F_size_a1 : Fld Z h0 a1 "com/example/brisk_tableau/brisktableau/tableau/SharedList" "size" "I" (.int (1 : Int32))) (F_store_a1 : Fld Z h0 a1 "com/example/brisk_tableau/brisktableau/tableau/SharedList" "store" "Lcom/example/brisk_tableau/brisktableau/tableau/SharedList$Store;" (.ref sto)) (E_a1 : Exa Z h0 a1 "com/example/brisk_tableau/brisktableau/tableau/SharedList") (F_items_sto : Fld Z h0 sto "com/example/brisk_tableau/brisktableau/tableau/SharedList$Store" "items" "[Ljava/lang/Object;" (.ref arr)) (E_arr : Exa Z h0 arr "[Ljava/lang/Object;") (V_arr : Arv Z h0 arr kk (.object "java/lang/Object") cap vs .null) (E_x0 : Exa Z h0 x0 "java/lang/Integer") (F_value_x0 : Fld Z h0 x0 "java/lang/Integer" "value" "I" (.int ql)) (hX0 : vs.getD (0 : Int32).toNatClampNeg .null = .ref x0) (hD0 : (0 : Int32) < cap) :
    MetFree l y_20 (head1 (Jvm.Cond.code y_20 method_2_code 9 (some .boolean) :: ws) ({ frames := 3, cells := 1, slots := 3, locals := 42 } : Room)) (fun a U => a = #[(.ref a1), (.int (0 : Int32)), (.int q0), (.int q1), (.int q2), (.int ql), (.int (1 : Int32))] ∧ Z.Warmed39 U.vm ∧ U.heap = h0) (fun _ _ _ _ _ => True) (fun _ U o U' => ∃ v L, o = .returned v ∧ Q_rmH01 Z a1 q0 q1 q2 ql sto arr kk cap vs x0 h0 n0 v U'.heap L ∧ FrameEnd U o U' L ({ frames := 3, cells := 1, slots := 3, locals := 42 } : Room).cells ({ frames := 3, cells := 1, slots := 3, locals := 42 } : Room).slots) := by
  refine MetFree.of_bodySF (plainFor_of_name pn_7) hisR ?_
  intro p e s m args below meth c s₁ Bd hml0 hP hK
  obtain ⟨rfl, hZ, hh⟩ := hP
  have hx := Bd.exec
  have hby := Bd.bytes
  have hml : c.maxLocals = 9 := hml0
  have hown : s.vm.findClass "com/example/brisk_tableau/brisktableau/tableau/SharedListCopyPinLaw" = some m.cls := findClass_of_methodNamed Bd.named
  have hnm := (name_of_methodNamed Bd.named Bd.method).1
  have X0 : Stand p l e ({ frames := 3, cells := 1, slots := 3, locals := 42 } : Room) s m #[(.ref a1), (.int (0 : Int32)), (.int q0), (.int q1), (.int q2), (.int ql), (.int (1 : Int32))] below meth c s₁ [] 0 0 := Stand.of_body Bd
  have e0 : s₁.heap = h0 := by rw [← hh, Bd.state]; rfl
  have N0 := Fr.nil n0
  have KC : Keep h0 h0 [] := Keep.refl h0 _
  have pre0 : ∀ t, Steps p.tables e below (s₁.setTop (mkF m 0 #[vr a1, vi (0 : Int32), vi q0, vi q1, vi q2, vi ql, vi (1 : Int32), un, un] [])) t → Steps p.tables e below (s₁.setTop (entryFrame m #[(.ref a1), (.int (0 : Int32)), (.int q0), (.int q1), (.int q2), (.int ql), (.int (1 : Int32))] 9)) t := fun t k => castTop (ef_rmH01 m a1 (0 : Int32) q0 q1 q2 ql (1 : Int32)) k
  obtain ⟨cq1, kq1, q1a, q1b, q1c⟩ := isOf hZ e0 E_a1
  obtain ⟨_, _, ⟨T1, L1, k1, n1⟩, -, X1, ⟨Lc1, hQ1, l1, y1, z1⟩, st1⟩ := X0.virtualBack hx (y := y_18) (z := y_18) hown (mvT hZ (ww hw 39 rfl)) (mvT hZ (ww hw 40 rfl)) (notFace_of_selects (args := #[]) (mvT hZ (ww hw 42 rfl))) (mvT hZ (ww hw 42 rfl)) (mvT hZ (ww hw 41 rfl)) (by decide) (backOf (W := 0) (rmSz l Z a0 hw [] a1 (1 : Int32) h0 n0 (Nat.le_trans Z0 KC.1) O0 F_size_a1) hZ (ww hw 43 rfl) (ww hw 2 rfl) (by decide) (by decide)) q1a q1c (g := (mkF m 15 #[vr a1, vi (0 : Int32), vi q0, vi q1, vi q2, vi ql, vi (1 : Int32), vi (1 : Int32), un] [(.ref a1)])) rfl (by rw [hml]; rfl) (Steps.refl _) (argsL := []) (rest := []) (lenOf pd_9 rfl) rfl (by show 2 * 0 + _ ≤ _; exact Nat.le_of_eq rfl) (hb hby d6_15) (fun _ _ => ⟨rfl, e0, (by decide : 0 + 0 ≤ _), (by decide : 0 + 0 ≤ _)⟩)
  dsimp only [Pt.U, Pt.locs, Pt.cells, Pt.slots] at X1 l1 y1 z1 st1 hQ1
  subst l1 y1 z1
  obtain ⟨rfl, N1q, e1⟩ := hQ1
  have N1 := Fr.app N0 N1q
  obtain ⟨cq2, kq2, q2a, q2b, q2c⟩ := isOf hZ e1 E_a1
  obtain ⟨_, _, ⟨T2, L2, k2, n2⟩, -, X2, ⟨Lc2, hQ2, l2, y2, z2⟩, st2⟩ := X1.virtualBack hx (y := y_15) (z := y_15) hown (mvT hZ (ww hw 44 rfl)) (mvT hZ (ww hw 45 rfl)) (notFace_of_selects (args := #[]) (mvT hZ (ww hw 47 rfl))) (mvT hZ (ww hw 47 rfl)) (mvT hZ (ww hw 46 rfl)) (by decide) (backOf (W := 0) (rmIt l Z a0 hw [] a1 sto (1 : Int32) arr h0 n0 (Nat.le_trans Z0 KC.1) O0 F_store_a1 F_size_a1 F_items_sto) hZ (ww hw 48 rfl) (ww hw 2 rfl) (by decide) (by decide)) q2a q2c (g := (mkF m 26 #[vr a1, vi (0 : Int32), vi q0, vi q1, vi q2, vi ql, vi (1 : Int32), vi (1 : Int32), un] [(.ref a1)])) rfl (by rw [hml]; rfl) (Steps.refl _) (argsL := []) (rest := []) (lenOf pd_10 rfl) rfl (by show 2 * 0 + _ ≤ _; exact Nat.le_of_eq rfl) (hb hby d6_26) (fun _ _ => ⟨rfl, e1, (by decide : 0 + 1 ≤ _), (by decide : 0 + 3 ≤ _)⟩)
  dsimp only [Pt.U, Pt.locs, Pt.cells, Pt.slots] at X2 l2 y2 z2 st2 hQ2
  subst l2 y2 z2
  obtain ⟨b2_b, rfl, N2q, K2, sz_b2_b, E_b_2, F_val_length_b_2, F_val_items_b_2, F_next_b_2⟩ := hQ2
  have N2 := Fr.app N1 N2q
  have ne_a1_b2_b : a1 ≠ b2_b := Nat.ne_of_lt (Nat.lt_of_lt_of_le F_size_a1.lt sz_b2_b)
  have ne_sto_b2_b : sto ≠ b2_b := Nat.ne_of_lt (Nat.lt_of_lt_of_le F_items_sto.lt sz_b2_b)
  have ne_arr_b2_b : arr ≠ b2_b := Nat.ne_of_lt (Nat.lt_of_lt_of_le E_arr.lt sz_b2_b)
  have ne_x0_b2_b : x0 ≠ b2_b := Nat.ne_of_lt (Nat.lt_of_lt_of_le E_x0.lt sz_b2_b)
  have g_b2_b : n0 ≤ b2_b := Nat.le_trans (Nat.le_trans Z0 KC.1) sz_b2_b
  replace sz_b2_b : h0.size ≤ b2_b := Nat.le_trans KC.1 sz_b2_b
  replace F_size_a1 := F_size_a1.keep K2 nin0
  replace F_store_a1 := F_store_a1.keep K2 nin0
  replace E_a1 := E_a1.keep K2
  replace F_items_sto := F_items_sto.keep K2 nin0
  replace E_arr := E_arr.keep K2
  replace V_arr := V_arr.keep K2 nin0
  replace E_x0 := E_x0.keep K2
  replace F_value_x0 := F_value_x0.keep K2 nin0
  replace O0 := O0.keep K2 all0
  replace KC := KC.trans K2 all0
  obtain ⟨cq3, kq3, q3a, q3b, q3c⟩ := isOf hZ rfl E_b_2
  obtain ⟨_, _, ⟨T3, L3, k3, n3⟩, -, X3, ⟨Lc3, hQ3, l3, y3, z3⟩, st3⟩ := X2.interfaceBack hx (xi := y_19) (y := y_16) hown (mvT hZ (ww hw 61 rfl)) (mvT hZ (ww hw 62 rfl)) (mvT hZ (ww hw 63 rfl)) (mvT hZ (ww hw 64 rfl)) (mvT hZ (ww hw 65 rfl)) (mvT hZ (ww hw 66 rfl)) (mvT hZ (ww hw 67 rfl)) (mvT hZ (ww hw 68 rfl)) (by decide) (backOf (W := 0) (rmHn l Z a0 hw [] b2_b (0 : Int32) (1 : Int32) (1 : Int32) T2.heap n0 (Nat.le_trans Z0 KC.1) O0 F_next_b_2 F_val_length_b_2 (by decide)) hZ (ww hw 69 rfl) (ww hw 52 rfl) (by decide) (by decide)) q3a q3b q3c (g := (mkF m 141 #[vr a1, vi (0 : Int32), vi q0, vi q1, vi q2, vi ql, vi (1 : Int32), vi (1 : Int32), vr b2_b] [(.ref b2_b)])) rfl (by rw [hml]; rfl) (Steps.refl _) (argsL := []) (rest := []) (lenOf pd_11 rfl) rfl (by show 2 * 0 + _ ≤ _; exact Nat.le_of_eq rfl) (hb hby d6_141) (fun _ _ => ⟨rfl, rfl, (by decide : 1 + 0 ≤ _), (by decide : 3 + 0 ≤ _)⟩)
  dsimp only [Pt.U, Pt.locs, Pt.cells, Pt.slots] at X3 l3 y3 z3 st3 hQ3
  subst l3 y3 z3
  obtain ⟨rfl, N3q, e3⟩ := hQ3
  have N3 := Fr.app N2 N3q
  obtain ⟨cq4, kq4, q4a, q4b, q4c⟩ := isOf hZ e3 E_b_2
  obtain ⟨_, _, ⟨T4, L4, k4, n4⟩, -, X4, ⟨Lc4, hQ4, l4, y4, z4⟩, st4⟩ := X3.interfaceBack hx (xi := y_21) (y := y_17) hown (mvT hZ (ww hw 116 rfl)) (mvT hZ (ww hw 117 rfl)) (mvT hZ (ww hw 118 rfl)) (mvT hZ (ww hw 119 rfl)) (mvT hZ (ww hw 120 rfl)) (mvT hZ (ww hw 121 rfl)) (mvT hZ (ww hw 122 rfl)) (mvT hZ (ww hw 68 rfl)) (by decide) (backOf (W := 0) (rmNx l Z a0 hw [] b2_b (0 : Int32) (1 : Int32) arr kk cap vs x0 (1 : Int32) T2.heap n0 (Nat.le_trans Z0 KC.1) O0 F_next_b_2 F_val_length_b_2 F_val_items_b_2 E_b_2 E_arr V_arr g_b2_b (by decide) (by decide) hD0 hX0 (by decide)) hZ (ww hw 123 rfl) (ww hw 52 rfl) (by decide) (by decide)) q4a q4b q4c (g := (mkF m 151 #[vr a1, vi (0 : Int32), vi q0, vi q1, vi q2, vi ql, vi (1 : Int32), vi (1 : Int32), vr b2_b] [(.ref b2_b)])) rfl (by rw [hml]; rfl) (Steps.refl _) (argsL := []) (rest := []) (lenOf pd_12 rfl) rfl (by show 2 * 0 + _ ≤ _; exact Nat.le_of_eq rfl) (hb hby d6_151) (fun _ _ => ⟨rfl, e3, (by decide : 1 + 0 ≤ _), (by decide : 3 + 0 ≤ _)⟩)
  dsimp only [Pt.U, Pt.locs, Pt.cells, Pt.slots] at X4 l4 y4 z4 st4 hQ4
  subst l4 y4 z4
  obtain ⟨rfl, N4q, K4, F_next_a1_4, F_val_length_a1_4, F_val_items_a1_4⟩ := hQ4
  have N4 := Fr.app N3 N4q
  replace F_size_a1 := F_size_a1.keep K4 (ninS ne_a1_b2_b nin0)
  replace F_store_a1 := F_store_a1.keep K4 (ninS ne_a1_b2_b nin0)
  replace E_a1 := E_a1.keep K4
  replace F_items_sto := F_items_sto.keep K4 (ninS ne_sto_b2_b nin0)
  replace E_arr := E_arr.keep K4
  replace V_arr := V_arr.keep K4 (ninS ne_arr_b2_b nin0)
  replace E_x0 := E_x0.keep K4
  replace F_value_x0 := F_value_x0.keep K4 (ninS ne_x0_b2_b nin0)
  replace E_b_2 := E_b_2.keep K4
  replace O0 := O0.keep K4 (allS g_b2_b all0)
  replace KC := KC.trans K4 (allS (Or.inr sz_b2_b) all0)
  obtain ⟨T5, X5, e5, st5⟩ := castY X4 hx hZ hown (ww hw 124 rfl) rfl (Ins.self E_x0) (g := (mkF m 156 #[vr a1, vi (0 : Int32), vi q0, vi q1, vi q2, vi ql, vi (1 : Int32), vi (1 : Int32), vr b2_b] [(.ref x0)])) rfl rfl (hb hby d6_156)
  obtain ⟨cq6, kq6, q6a, q6b, q6c⟩ := isOf hZ e5 E_x0
  obtain ⟨_, _, ⟨T6, L6, k6, n6⟩, -, X6, ⟨Lc6, hQ6, l6, y6, z6⟩, st6⟩ := X5.virtualBack hx (y := y_6) (z := y_6) hown (mvT hZ (ww hw 126 rfl)) (mvT hZ (ww hw 127 rfl)) (notFace_of_selects (args := #[]) (mvT hZ (ww hw 129 rfl))) (mvT hZ (ww hw 129 rfl)) (mvT hZ (ww hw 128 rfl)) (by decide) (backOf (W := 0) (rmIv l Z a0 hw [] x0 ql T4.heap n0 (Nat.le_trans Z0 KC.1) O0 F_value_x0) hZ (ww hw 130 rfl) (ww hw 74 rfl) (by decide) (by decide)) q6a q6c (g := (mkF m 159 #[vr a1, vi (0 : Int32), vi q0, vi q1, vi q2, vi ql, vi (1 : Int32), vi (1 : Int32), vr b2_b] [(.ref x0)])) rfl (by rw [hml]; rfl) (Steps.refl _) (argsL := []) (rest := []) (lenOf pd_9 rfl) rfl (by show 2 * 0 + _ ≤ _; exact Nat.le_of_eq rfl) (hb hby d6_159) (fun _ _ => ⟨rfl, e5, (by decide : 1 + 0 ≤ _), (by decide : 3 + 0 ≤ _)⟩)
  dsimp only [Pt.U, Pt.locs, Pt.cells, Pt.slots] at X6 l6 y6 z6 st6 hQ6
  subst l6 y6 z6
  obtain ⟨rfl, N6q, e6⟩ := hQ6
  have N6 := Fr.app N4 N6q
  obtain ⟨cq7, kq7, q7a, q7b, q7c⟩ := isOf hZ e6 E_b_2
  obtain ⟨_, _, ⟨T7, L7, k7, n7⟩, -, X7, ⟨Lc7, hQ7, l7, y7, z7⟩, st7⟩ := X6.interfaceBack hx (xi := y_19) (y := y_16) hown (mvT hZ (ww hw 61 rfl)) (mvT hZ (ww hw 62 rfl)) (mvT hZ (ww hw 63 rfl)) (mvT hZ (ww hw 64 rfl)) (mvT hZ (ww hw 65 rfl)) (mvT hZ (ww hw 66 rfl)) (mvT hZ (ww hw 67 rfl)) (mvT hZ (ww hw 68 rfl)) (by decide) (backOf (W := 0) (rmHn l Z a0 hw [] b2_b (1 : Int32) (1 : Int32) (0 : Int32) T4.heap n0 (Nat.le_trans Z0 KC.1) O0 F_next_a1_4 F_val_length_a1_4 (by decide)) hZ (ww hw 69 rfl) (ww hw 52 rfl) (by decide) (by decide)) q7a q7b q7c (g := (mkF m 171 #[vr a1, vi (0 : Int32), vi q0, vi q1, vi q2, vi ql, vi (1 : Int32), vi (1 : Int32), vr b2_b] [(.ref b2_b)])) rfl (by rw [hml]; rfl) (Steps.refl _) (argsL := []) (rest := []) (lenOf pd_11 rfl) rfl (by show 2 * 0 + _ ≤ _; exact Nat.le_of_eq rfl) (hb hby d6_171) (fun _ _ => ⟨rfl, e6, (by decide : 1 + 0 ≤ _), (by decide : 3 + 0 ≤ _)⟩)
  dsimp only [Pt.U, Pt.locs, Pt.cells, Pt.slots] at X7 l7 y7 z7 st7 hQ7
  subst l7 y7 z7
  obtain ⟨rfl, N7q, e7⟩ := hQ7
  have N7 := Fr.app N6 N7q
  obtain ⟨fs, hr, hrun, hended, hW, hsame⟩ := X7.leave (v := some (.int (1 : Int32))) (fun h => by rw [Bd.returns] at h; cases h)
  refine ⟨_, _, pre0 _ ?_, hrun, hended, _, _, rfl, ?_, ⟨_, rfl⟩, hW, hsame.mono (by decide) (by decide)⟩
  · show SS p e below m s₁ 0 #[vr a1, vi (0 : Int32), vi q0, vi q1, vi q2, vi ql, vi (1 : Int32), un, un] [] _
    refine XS.iload X0.here hx rfl (hb hby d6_0) rfl ?_
    show SS p e below m s₁ 2 #[vr a1, vi (0 : Int32), vi q0, vi q1, vi q2, vi ql, vi (1 : Int32), un, un] [(.int (1 : Int32))] _
    refine XS.ifNo X0.here hx rfl (hb hby d6_2) rfl ((if0 _ _).trans (feq (by decide)).1) ?_
    show SS p e below m s₁ 5 #[vr a1, vi (0 : Int32), vi q0, vi q1, vi q2, vi ql, vi (1 : Int32), un, un] [] _
    refine XS.iloadN X0.here hx rfl (hb hby d6_5) rfl ?_
    show SS p e below m s₁ 6 #[vr a1, vi (0 : Int32), vi q0, vi q1, vi q2, vi ql, vi (1 : Int32), un, un] [(.int (0 : Int32))] _
    refine XS.iconst X0.here hx rfl (hb hby d6_6) ?_
    show SS p e below m s₁ 7 #[vr a1, vi (0 : Int32), vi q0, vi q1, vi q2, vi ql, vi (1 : Int32), un, un] [(.int (1 : Int32)), (.int (0 : Int32))] _
    refine XS.iadd X0.here hx rfl (hb hby d6_7) rfl ?_
    show SS p e below m s₁ 8 #[vr a1, vi (0 : Int32), vi q0, vi q1, vi q2, vi ql, vi (1 : Int32), un, un] [(.int (1 : Int32))] _
    refine XS.goto X0.here hx rfl (pc0 := 8) (pc' := 12) rfl (hb hby d6_8) (by decide) (by decide) ?_
    show SS p e below m s₁ 12 #[vr a1, vi (0 : Int32), vi q0, vi q1, vi q2, vi ql, vi (1 : Int32), un, un] [(.int (1 : Int32))] _
    refine XS.istore X0.here hx rfl (hb hby d6_12) rfl (l' := #[vr a1, vi (0 : Int32), vi q0, vi q1, vi q2, vi ql, vi (1 : Int32), vi (1 : Int32), un]) rfl ?_
    show SS p e below m s₁ 14 #[vr a1, vi (0 : Int32), vi q0, vi q1, vi q2, vi ql, vi (1 : Int32), vi (1 : Int32), un] [] _
    refine XS.aloadN X0.here hx rfl (hb hby d6_14) rfl rfl ?_
    show SS p e below m s₁ 15 #[vr a1, vi (0 : Int32), vi q0, vi q1, vi q2, vi ql, vi (1 : Int32), vi (1 : Int32), un] [(.ref a1)] _
    refine st1.trans ?_
    show SS p e below m T1 18 #[vr a1, vi (0 : Int32), vi q0, vi q1, vi q2, vi ql, vi (1 : Int32), vi (1 : Int32), un] [(.int (1 : Int32))] _
    refine XS.iload X1.here hx rfl (hb hby d6_18) rfl ?_
    show SS p e below m T1 20 #[vr a1, vi (0 : Int32), vi q0, vi q1, vi q2, vi ql, vi (1 : Int32), vi (1 : Int32), un] [(.int (1 : Int32)), (.int (1 : Int32))] _
    refine XS.icmpYes X1.here hx rfl (pc0 := 20) (pc' := 25) rfl (hb hby d6_20) rfl (teq (by decide)).1 (by decide) (by decide) ?_
    show SS p e below m T1 25 #[vr a1, vi (0 : Int32), vi q0, vi q1, vi q2, vi ql, vi (1 : Int32), vi (1 : Int32), un] [] _
    refine XS.aloadN X1.here hx rfl (hb hby d6_25) rfl rfl ?_
    show SS p e below m T1 26 #[vr a1, vi (0 : Int32), vi q0, vi q1, vi q2, vi ql, vi (1 : Int32), vi (1 : Int32), un] [(.ref a1)] _
    refine st2.trans ?_
    show SS p e below m T2 29 #[vr a1, vi (0 : Int32), vi q0, vi q1, vi q2, vi ql, vi (1 : Int32), vi (1 : Int32), un] [(.ref b2_b)] _
    refine XS.astore X2.here hx rfl (hb hby d6_29) rfl rfl (l' := #[vr a1, vi (0 : Int32), vi q0, vi q1, vi q2, vi ql, vi (1 : Int32), vi (1 : Int32), vr b2_b]) rfl ?_
    show SS p e below m T2 31 #[vr a1, vi (0 : Int32), vi q0, vi q1, vi q2, vi ql, vi (1 : Int32), vi (1 : Int32), vr b2_b] [] _
    refine XS.iloadN X2.here hx rfl (hb hby d6_31) rfl ?_
    show SS p e below m T2 32 #[vr a1, vi (0 : Int32), vi q0, vi q1, vi q2, vi ql, vi (1 : Int32), vi (1 : Int32), vr b2_b] [(.int (0 : Int32))] _
    refine XS.iconst X2.here hx rfl (hb hby d6_32) ?_
    show SS p e below m T2 33 #[vr a1, vi (0 : Int32), vi q0, vi q1, vi q2, vi ql, vi (1 : Int32), vi (1 : Int32), vr b2_b] [(.int (1 : Int32)), (.int (0 : Int32))] _
    refine XS.icmpYes X2.here hx rfl (pc0 := 33) (pc' := 65) rfl (hb hby d6_33) rfl (tlt (by decide)).1 (by decide) (by decide) ?_
    show SS p e below m T2 65 #[vr a1, vi (0 : Int32), vi q0, vi q1, vi q2, vi ql, vi (1 : Int32), vi (1 : Int32), vr b2_b] [] _
    refine XS.iloadN X2.here hx rfl (hb hby d6_65) rfl ?_
    show SS p e below m T2 66 #[vr a1, vi (0 : Int32), vi q0, vi q1, vi q2, vi ql, vi (1 : Int32), vi (1 : Int32), vr b2_b] [(.int (0 : Int32))] _
    refine XS.iconst X2.here hx rfl (hb hby d6_66) ?_
    show SS p e below m T2 67 #[vr a1, vi (0 : Int32), vi q0, vi q1, vi q2, vi ql, vi (1 : Int32), vi (1 : Int32), vr b2_b] [(.int (2 : Int32)), (.int (0 : Int32))] _
    refine XS.icmpYes X2.here hx rfl (pc0 := 67) (pc' := 99) rfl (hb hby d6_67) rfl (tlt (by decide)).1 (by decide) (by decide) ?_
    show SS p e below m T2 99 #[vr a1, vi (0 : Int32), vi q0, vi q1, vi q2, vi ql, vi (1 : Int32), vi (1 : Int32), vr b2_b] [] _
    refine XS.iloadN X2.here hx rfl (hb hby d6_99) rfl ?_
    show SS p e below m T2 100 #[vr a1, vi (0 : Int32), vi q0, vi q1, vi q2, vi ql, vi (1 : Int32), vi (1 : Int32), vr b2_b] [(.int (0 : Int32))] _
    refine XS.iconst X2.here hx rfl (hb hby d6_100) ?_
    show SS p e below m T2 101 #[vr a1, vi (0 : Int32), vi q0, vi q1, vi q2, vi ql, vi (1 : Int32), vi (1 : Int32), vr b2_b] [(.int (3 : Int32)), (.int (0 : Int32))] _
    refine XS.icmpYes X2.here hx rfl (pc0 := 101) (pc' := 134) rfl (hb hby d6_101) rfl (tlt (by decide)).1 (by decide) (by decide) ?_
    show SS p e below m T2 134 #[vr a1, vi (0 : Int32), vi q0, vi q1, vi q2, vi ql, vi (1 : Int32), vi (1 : Int32), vr b2_b] [] _
    refine XS.iload X2.here hx rfl (hb hby d6_134) rfl ?_
    show SS p e below m T2 136 #[vr a1, vi (0 : Int32), vi q0, vi q1, vi q2, vi ql, vi (1 : Int32), vi (1 : Int32), vr b2_b] [(.int (1 : Int32))] _
    refine XS.ifNo X2.here hx rfl (hb hby d6_136) rfl ((if0 _ _).trans (feq (by decide)).1) ?_
    show SS p e below m T2 139 #[vr a1, vi (0 : Int32), vi q0, vi q1, vi q2, vi ql, vi (1 : Int32), vi (1 : Int32), vr b2_b] [] _
    refine XS.aload X2.here hx rfl (hb hby d6_139) rfl rfl ?_
    show SS p e below m T2 141 #[vr a1, vi (0 : Int32), vi q0, vi q1, vi q2, vi ql, vi (1 : Int32), vi (1 : Int32), vr b2_b] [(.ref b2_b)] _
    refine st3.trans ?_
    show SS p e below m T3 146 #[vr a1, vi (0 : Int32), vi q0, vi q1, vi q2, vi ql, vi (1 : Int32), vi (1 : Int32), vr b2_b] [(.int (1 : Int32))] _
    refine XS.ifNo X3.here hx rfl (hb hby d6_146) rfl ((if0 _ _).trans (feq (by decide)).1) ?_
    show SS p e below m T3 149 #[vr a1, vi (0 : Int32), vi q0, vi q1, vi q2, vi ql, vi (1 : Int32), vi (1 : Int32), vr b2_b] [] _
    refine XS.aload X3.here hx rfl (hb hby d6_149) rfl rfl ?_
    show SS p e below m T3 151 #[vr a1, vi (0 : Int32), vi q0, vi q1, vi q2, vi ql, vi (1 : Int32), vi (1 : Int32), vr b2_b] [(.ref b2_b)] _
    refine st4.trans ?_
    show SS p e below m T4 156 #[vr a1, vi (0 : Int32), vi q0, vi q1, vi q2, vi ql, vi (1 : Int32), vi (1 : Int32), vr b2_b] [(.ref x0)] _
    refine st5 _ ?_
    show SS p e below m T5 159 #[vr a1, vi (0 : Int32), vi q0, vi q1, vi q2, vi ql, vi (1 : Int32), vi (1 : Int32), vr b2_b] [(.ref x0)] _
    refine st6.trans ?_
    show SS p e below m T6 162 #[vr a1, vi (0 : Int32), vi q0, vi q1, vi q2, vi ql, vi (1 : Int32), vi (1 : Int32), vr b2_b] [(.int ql)] _
    refine XS.iload X6.here hx rfl (hb hby d6_162) rfl ?_
    show SS p e below m T6 164 #[vr a1, vi (0 : Int32), vi q0, vi q1, vi q2, vi ql, vi (1 : Int32), vi (1 : Int32), vr b2_b] [(.int ql), (.int ql)] _
    refine XS.icmpYes X6.here hx rfl (pc0 := 164) (pc' := 169) rfl (hb hby d6_164) rfl (teq rfl).1 (by decide) (by decide) ?_
    show SS p e below m T6 169 #[vr a1, vi (0 : Int32), vi q0, vi q1, vi q2, vi ql, vi (1 : Int32), vi (1 : Int32), vr b2_b] [] _
    refine XS.aload X6.here hx rfl (hb hby d6_169) rfl rfl ?_
    show SS p e below m T6 171 #[vr a1, vi (0 : Int32), vi q0, vi q1, vi q2, vi ql, vi (1 : Int32), vi (1 : Int32), vr b2_b] [(.ref b2_b)] _
    refine st7.trans ?_
    show SS p e below m T7 176 #[vr a1, vi (0 : Int32), vi q0, vi q1, vi q2, vi ql, vi (1 : Int32), vi (1 : Int32), vr b2_b] [(.int (0 : Int32))] _
    refine XS.ifNo X7.here hx rfl (hb hby d6_176) rfl ((if0 _ _).trans (teq (by decide)).2) ?_
    show SS p e below m T7 179 #[vr a1, vi (0 : Int32), vi q0, vi q1, vi q2, vi ql, vi (1 : Int32), vi (1 : Int32), vr b2_b] [] _
    refine XS.iconst X7.here hx rfl (hb hby d6_179) ?_
    show SS p e below m T7 180 #[vr a1, vi (0 : Int32), vi q0, vi q1, vi q2, vi ql, vi (1 : Int32), vi (1 : Int32), vr b2_b] [(.int (1 : Int32))] _
    refine XS.goto X7.here hx rfl (pc0 := 180) (pc' := 184) rfl (hb hby d6_180) (by decide) (by decide) ?_
    show SS p e below m T7 184 #[vr a1, vi (0 : Int32), vi q0, vi q1, vi q2, vi ql, vi (1 : Int32), vi (1 : Int32), vr b2_b] [(.int (1 : Int32))] _
    exact retN X7 hx (t := .boolean) Bd.returns (by simp) (hb hby d6_184) hr
  · show Q_rmH01 Z a1 q0 q1 q2 ql sto arr kk cap vs x0 h0 n0 _ T7.heap _
    rw [e7]
    exact ⟨rfl, N7, KC⟩
theorem d6_36 : decode method_2_code 36 = .ok (.aload 8, 2) := by decide +kernel
theorem d6_38 : decode method_2_code 38 = .ok (.invokeinterface 17 1, 5) := by decide +kernel
theorem d6_43 : decode method_2_code 43 = .ok (.ifCond .eq 20, 3) := by decide +kernel
theorem d6_46 : decode method_2_code 46 = .ok (.aload 8, 2) := by decide +kernel
theorem d6_48 : decode method_2_code 48 = .ok (.invokeinterface 23 1, 5) := by decide +kernel
theorem d6_53 : decode method_2_code 53 = .ok (.checkcast 27, 3) := by decide +kernel
theorem d6_56 : decode method_2_code 56 = .ok (.invokevirtual 29, 3) := by decide +kernel
theorem d6_59 : decode method_2_code 59 = .ok (.iload_n 2, 1) := by decide +kernel
theorem d6_60 : decode method_2_code 60 = .ok (.if_icmp .eq 5, 3) := by decide +kernel
theorem ef_rmH10 (m : MethodId) (x0 : Addr) (x1 : Int32) (x2 : Int32) (x3 : Int32) (x4 : Int32) (x5 : Int32) (x6 : Int32) : entryFrame m #[(.ref x0), (.int x1), (.int x2), (.int x3), (.int x4), (.int x5), (.int x6)] 9 = mkF m 0 #[vr x0, vi x1, vi x2, vi x3, vi x4, vi x5, vi x6, .unset, .unset] [] := by first | (simp [entryFrame, mkF, argsToLocals, Value.category]; done) | rfl
def Q_rmH10 (Z : State) (a1 : Addr) (q0 : Int32) (q1 : Int32) (q2 : Int32) (ql : Int32) (sto : Addr) (arr : Addr) (kk : ClassId) (cap : Int32) (vs : List Value) (x0 : Addr) (h0 : Heap) (n0 : Nat) (v : Option Value) (h : Heap) (L : List Loc) : Prop := (v = some (.int (1 : Int32))) ∧ (Fr n0 L) ∧ (Keep h0 h [])
set_option maxRecDepth 65536 in
set_option maxHeartbeats 40000000 in
theorem rmH10 (l : Launch) (Z : State) (a0 : Array Value) (hw : ∀ d ∈ tables_1, d.before a0 Z = true) (ws : List Jvm.Cond) (a1 : Addr) (q0 : Int32) (q1 : Int32) (q2 : Int32) (ql : Int32) (sto : Addr) (arr : Addr) (kk : ClassId) (cap : Int32) (vs : List Value) (x0 : Addr) (h0 : Heap) (n0 : Nat) (Z0 : n0 ≤ h0.size) (O0 : Old Z n0 h0) (F_size_a1 : Fld Z h0 a1 "com/example/brisk_tableau/brisktableau/tableau/SharedList" "size" "I" (.int (1 : Int32))) (F_store_a1 : Fld Z h0 a1 "com/example/brisk_tableau/brisktableau/tableau/SharedList" "store" "Lcom/example/brisk_tableau/brisktableau/tableau/SharedList$Store;" (.ref sto)) (E_a1 : Exa Z h0 a1 "com/example/brisk_tableau/brisktableau/tableau/SharedList") (F_items_sto : Fld Z h0 sto "com/example/brisk_tableau/brisktableau/tableau/SharedList$Store" "items" "[Ljava/lang/Object;" (.ref arr)) (E_arr : Exa Z h0 arr "[Ljava/lang/Object;") (V_arr : Arv Z h0 arr kk (.object "java/lang/Object") cap vs .null) (E_x0 : Exa Z h0 x0 "java/lang/Integer") (F_value_x0 : Fld Z h0 x0 "java/lang/Integer" "value" "I" (.int q0)) (hX0 : vs.getD (0 : Int32).toNatClampNeg .null = .ref x0) (hD0 : (0 : Int32) < cap) :
    MetFree l y_20 (head1 (Jvm.Cond.code y_20 method_2_code 9 (some .boolean) :: ws) ({ frames := 3, cells := 1, slots := 3, locals := 42 } : Room)) (fun a U => a = #[(.ref a1), (.int (1 : Int32)), (.int q0), (.int q1), (.int q2), (.int ql), (.int (0 : Int32))] ∧ Z.Warmed39 U.vm ∧ U.heap = h0) (fun _ _ _ _ _ => True) (fun _ U o U' => ∃ v L, o = .returned v ∧ Q_rmH10 Z a1 q0 q1 q2 ql sto arr kk cap vs x0 h0 n0 v U'.heap L ∧ FrameEnd U o U' L ({ frames := 3, cells := 1, slots := 3, locals := 42 } : Room).cells ({ frames := 3, cells := 1, slots := 3, locals := 42 } : Room).slots) := by
  refine MetFree.of_bodySF (plainFor_of_name pn_7) hisR ?_
  intro p e s m args below meth c s₁ Bd hml0 hP hK
  obtain ⟨rfl, hZ, hh⟩ := hP
  have hx := Bd.exec
  have hby := Bd.bytes
  have hml : c.maxLocals = 9 := hml0
  have hown : s.vm.findClass "com/example/brisk_tableau/brisktableau/tableau/SharedListCopyPinLaw" = some m.cls := findClass_of_methodNamed Bd.named
  have hnm := (name_of_methodNamed Bd.named Bd.method).1
  have X0 : Stand p l e ({ frames := 3, cells := 1, slots := 3, locals := 42 } : Room) s m #[(.ref a1), (.int (1 : Int32)), (.int q0), (.int q1), (.int q2), (.int ql), (.int (0 : Int32))] below meth c s₁ [] 0 0 := Stand.of_body Bd
  have e0 : s₁.heap = h0 := by rw [← hh, Bd.state]; rfl
  have N0 := Fr.nil n0
  have KC : Keep h0 h0 [] := Keep.refl h0 _
  have pre0 : ∀ t, Steps p.tables e below (s₁.setTop (mkF m 0 #[vr a1, vi (1 : Int32), vi q0, vi q1, vi q2, vi ql, vi (0 : Int32), un, un] [])) t → Steps p.tables e below (s₁.setTop (entryFrame m #[(.ref a1), (.int (1 : Int32)), (.int q0), (.int q1), (.int q2), (.int ql), (.int (0 : Int32))] 9)) t := fun t k => castTop (ef_rmH10 m a1 (1 : Int32) q0 q1 q2 ql (0 : Int32)) k
  obtain ⟨cq1, kq1, q1a, q1b, q1c⟩ := isOf hZ e0 E_a1
  obtain ⟨_, _, ⟨T1, L1, k1, n1⟩, -, X1, ⟨Lc1, hQ1, l1, y1, z1⟩, st1⟩ := X0.virtualBack hx (y := y_18) (z := y_18) hown (mvT hZ (ww hw 39 rfl)) (mvT hZ (ww hw 40 rfl)) (notFace_of_selects (args := #[]) (mvT hZ (ww hw 42 rfl))) (mvT hZ (ww hw 42 rfl)) (mvT hZ (ww hw 41 rfl)) (by decide) (backOf (W := 0) (rmSz l Z a0 hw [] a1 (1 : Int32) h0 n0 (Nat.le_trans Z0 KC.1) O0 F_size_a1) hZ (ww hw 43 rfl) (ww hw 2 rfl) (by decide) (by decide)) q1a q1c (g := (mkF m 15 #[vr a1, vi (1 : Int32), vi q0, vi q1, vi q2, vi ql, vi (0 : Int32), vi (1 : Int32), un] [(.ref a1)])) rfl (by rw [hml]; rfl) (Steps.refl _) (argsL := []) (rest := []) (lenOf pd_9 rfl) rfl (by show 2 * 0 + _ ≤ _; exact Nat.le_of_eq rfl) (hb hby d6_15) (fun _ _ => ⟨rfl, e0, (by decide : 0 + 0 ≤ _), (by decide : 0 + 0 ≤ _)⟩)
  dsimp only [Pt.U, Pt.locs, Pt.cells, Pt.slots] at X1 l1 y1 z1 st1 hQ1
  subst l1 y1 z1
  obtain ⟨rfl, N1q, e1⟩ := hQ1
  have N1 := Fr.app N0 N1q
  obtain ⟨cq2, kq2, q2a, q2b, q2c⟩ := isOf hZ e1 E_a1
  obtain ⟨_, _, ⟨T2, L2, k2, n2⟩, -, X2, ⟨Lc2, hQ2, l2, y2, z2⟩, st2⟩ := X1.virtualBack hx (y := y_15) (z := y_15) hown (mvT hZ (ww hw 44 rfl)) (mvT hZ (ww hw 45 rfl)) (notFace_of_selects (args := #[]) (mvT hZ (ww hw 47 rfl))) (mvT hZ (ww hw 47 rfl)) (mvT hZ (ww hw 46 rfl)) (by decide) (backOf (W := 0) (rmIt l Z a0 hw [] a1 sto (1 : Int32) arr h0 n0 (Nat.le_trans Z0 KC.1) O0 F_store_a1 F_size_a1 F_items_sto) hZ (ww hw 48 rfl) (ww hw 2 rfl) (by decide) (by decide)) q2a q2c (g := (mkF m 26 #[vr a1, vi (1 : Int32), vi q0, vi q1, vi q2, vi ql, vi (0 : Int32), vi (1 : Int32), un] [(.ref a1)])) rfl (by rw [hml]; rfl) (Steps.refl _) (argsL := []) (rest := []) (lenOf pd_10 rfl) rfl (by show 2 * 0 + _ ≤ _; exact Nat.le_of_eq rfl) (hb hby d6_26) (fun _ _ => ⟨rfl, e1, (by decide : 0 + 1 ≤ _), (by decide : 0 + 3 ≤ _)⟩)
  dsimp only [Pt.U, Pt.locs, Pt.cells, Pt.slots] at X2 l2 y2 z2 st2 hQ2
  subst l2 y2 z2
  obtain ⟨b2_b, rfl, N2q, K2, sz_b2_b, E_b_2, F_val_length_b_2, F_val_items_b_2, F_next_b_2⟩ := hQ2
  have N2 := Fr.app N1 N2q
  have ne_a1_b2_b : a1 ≠ b2_b := Nat.ne_of_lt (Nat.lt_of_lt_of_le F_size_a1.lt sz_b2_b)
  have ne_sto_b2_b : sto ≠ b2_b := Nat.ne_of_lt (Nat.lt_of_lt_of_le F_items_sto.lt sz_b2_b)
  have ne_arr_b2_b : arr ≠ b2_b := Nat.ne_of_lt (Nat.lt_of_lt_of_le E_arr.lt sz_b2_b)
  have ne_x0_b2_b : x0 ≠ b2_b := Nat.ne_of_lt (Nat.lt_of_lt_of_le E_x0.lt sz_b2_b)
  have g_b2_b : n0 ≤ b2_b := Nat.le_trans (Nat.le_trans Z0 KC.1) sz_b2_b
  replace sz_b2_b : h0.size ≤ b2_b := Nat.le_trans KC.1 sz_b2_b
  replace F_size_a1 := F_size_a1.keep K2 nin0
  replace F_store_a1 := F_store_a1.keep K2 nin0
  replace E_a1 := E_a1.keep K2
  replace F_items_sto := F_items_sto.keep K2 nin0
  replace E_arr := E_arr.keep K2
  replace V_arr := V_arr.keep K2 nin0
  replace E_x0 := E_x0.keep K2
  replace F_value_x0 := F_value_x0.keep K2 nin0
  replace O0 := O0.keep K2 all0
  replace KC := KC.trans K2 all0
  obtain ⟨cq3, kq3, q3a, q3b, q3c⟩ := isOf hZ rfl E_b_2
  obtain ⟨_, _, ⟨T3, L3, k3, n3⟩, -, X3, ⟨Lc3, hQ3, l3, y3, z3⟩, st3⟩ := X2.interfaceBack hx (xi := y_19) (y := y_16) hown (mvT hZ (ww hw 61 rfl)) (mvT hZ (ww hw 62 rfl)) (mvT hZ (ww hw 63 rfl)) (mvT hZ (ww hw 64 rfl)) (mvT hZ (ww hw 65 rfl)) (mvT hZ (ww hw 66 rfl)) (mvT hZ (ww hw 67 rfl)) (mvT hZ (ww hw 68 rfl)) (by decide) (backOf (W := 0) (rmHn l Z a0 hw [] b2_b (0 : Int32) (1 : Int32) (1 : Int32) T2.heap n0 (Nat.le_trans Z0 KC.1) O0 F_next_b_2 F_val_length_b_2 (by decide)) hZ (ww hw 69 rfl) (ww hw 52 rfl) (by decide) (by decide)) q3a q3b q3c (g := (mkF m 38 #[vr a1, vi (1 : Int32), vi q0, vi q1, vi q2, vi ql, vi (0 : Int32), vi (1 : Int32), vr b2_b] [(.ref b2_b)])) rfl (by rw [hml]; rfl) (Steps.refl _) (argsL := []) (rest := []) (lenOf pd_11 rfl) rfl (by show 2 * 0 + _ ≤ _; exact Nat.le_of_eq rfl) (hb hby d6_38) (fun _ _ => ⟨rfl, rfl, (by decide : 1 + 0 ≤ _), (by decide : 3 + 0 ≤ _)⟩)
  dsimp only [Pt.U, Pt.locs, Pt.cells, Pt.slots] at X3 l3 y3 z3 st3 hQ3
  subst l3 y3 z3
  obtain ⟨rfl, N3q, e3⟩ := hQ3
  have N3 := Fr.app N2 N3q
  obtain ⟨cq4, kq4, q4a, q4b, q4c⟩ := isOf hZ e3 E_b_2
  obtain ⟨_, _, ⟨T4, L4, k4, n4⟩, -, X4, ⟨Lc4, hQ4, l4, y4, z4⟩, st4⟩ := X3.interfaceBack hx (xi := y_21) (y := y_17) hown (mvT hZ (ww hw 116 rfl)) (mvT hZ (ww hw 117 rfl)) (mvT hZ (ww hw 118 rfl)) (mvT hZ (ww hw 119 rfl)) (mvT hZ (ww hw 120 rfl)) (mvT hZ (ww hw 121 rfl)) (mvT hZ (ww hw 122 rfl)) (mvT hZ (ww hw 68 rfl)) (by decide) (backOf (W := 0) (rmNx l Z a0 hw [] b2_b (0 : Int32) (1 : Int32) arr kk cap vs x0 (1 : Int32) T2.heap n0 (Nat.le_trans Z0 KC.1) O0 F_next_b_2 F_val_length_b_2 F_val_items_b_2 E_b_2 E_arr V_arr g_b2_b (by decide) (by decide) hD0 hX0 (by decide)) hZ (ww hw 123 rfl) (ww hw 52 rfl) (by decide) (by decide)) q4a q4b q4c (g := (mkF m 48 #[vr a1, vi (1 : Int32), vi q0, vi q1, vi q2, vi ql, vi (0 : Int32), vi (1 : Int32), vr b2_b] [(.ref b2_b)])) rfl (by rw [hml]; rfl) (Steps.refl _) (argsL := []) (rest := []) (lenOf pd_12 rfl) rfl (by show 2 * 0 + _ ≤ _; exact Nat.le_of_eq rfl) (hb hby d6_48) (fun _ _ => ⟨rfl, e3, (by decide : 1 + 0 ≤ _), (by decide : 3 + 0 ≤ _)⟩)
  dsimp only [Pt.U, Pt.locs, Pt.cells, Pt.slots] at X4 l4 y4 z4 st4 hQ4
  subst l4 y4 z4
  obtain ⟨rfl, N4q, K4, F_next_a1_4, F_val_length_a1_4, F_val_items_a1_4⟩ := hQ4
  have N4 := Fr.app N3 N4q
  replace F_size_a1 := F_size_a1.keep K4 (ninS ne_a1_b2_b nin0)
  replace F_store_a1 := F_store_a1.keep K4 (ninS ne_a1_b2_b nin0)
  replace E_a1 := E_a1.keep K4
  replace F_items_sto := F_items_sto.keep K4 (ninS ne_sto_b2_b nin0)
  replace E_arr := E_arr.keep K4
  replace V_arr := V_arr.keep K4 (ninS ne_arr_b2_b nin0)
  replace E_x0 := E_x0.keep K4
  replace F_value_x0 := F_value_x0.keep K4 (ninS ne_x0_b2_b nin0)
  replace E_b_2 := E_b_2.keep K4
  replace O0 := O0.keep K4 (allS g_b2_b all0)
  replace KC := KC.trans K4 (allS (Or.inr sz_b2_b) all0)
  obtain ⟨T5, X5, e5, st5⟩ := castY X4 hx hZ hown (ww hw 124 rfl) rfl (Ins.self E_x0) (g := (mkF m 53 #[vr a1, vi (1 : Int32), vi q0, vi q1, vi q2, vi ql, vi (0 : Int32), vi (1 : Int32), vr b2_b] [(.ref x0)])) rfl rfl (hb hby d6_53)
  obtain ⟨cq6, kq6, q6a, q6b, q6c⟩ := isOf hZ e5 E_x0
  obtain ⟨_, _, ⟨T6, L6, k6, n6⟩, -, X6, ⟨Lc6, hQ6, l6, y6, z6⟩, st6⟩ := X5.virtualBack hx (y := y_6) (z := y_6) hown (mvT hZ (ww hw 126 rfl)) (mvT hZ (ww hw 127 rfl)) (notFace_of_selects (args := #[]) (mvT hZ (ww hw 129 rfl))) (mvT hZ (ww hw 129 rfl)) (mvT hZ (ww hw 128 rfl)) (by decide) (backOf (W := 0) (rmIv l Z a0 hw [] x0 q0 T4.heap n0 (Nat.le_trans Z0 KC.1) O0 F_value_x0) hZ (ww hw 130 rfl) (ww hw 74 rfl) (by decide) (by decide)) q6a q6c (g := (mkF m 56 #[vr a1, vi (1 : Int32), vi q0, vi q1, vi q2, vi ql, vi (0 : Int32), vi (1 : Int32), vr b2_b] [(.ref x0)])) rfl (by rw [hml]; rfl) (Steps.refl _) (argsL := []) (rest := []) (lenOf pd_9 rfl) rfl (by show 2 * 0 + _ ≤ _; exact Nat.le_of_eq rfl) (hb hby d6_56) (fun _ _ => ⟨rfl, e5, (by decide : 1 + 0 ≤ _), (by decide : 3 + 0 ≤ _)⟩)
  dsimp only [Pt.U, Pt.locs, Pt.cells, Pt.slots] at X6 l6 y6 z6 st6 hQ6
  subst l6 y6 z6
  obtain ⟨rfl, N6q, e6⟩ := hQ6
  have N6 := Fr.app N4 N6q
  obtain ⟨cq7, kq7, q7a, q7b, q7c⟩ := isOf hZ e6 E_b_2
  obtain ⟨_, _, ⟨T7, L7, k7, n7⟩, -, X7, ⟨Lc7, hQ7, l7, y7, z7⟩, st7⟩ := X6.interfaceBack hx (xi := y_19) (y := y_16) hown (mvT hZ (ww hw 61 rfl)) (mvT hZ (ww hw 62 rfl)) (mvT hZ (ww hw 63 rfl)) (mvT hZ (ww hw 64 rfl)) (mvT hZ (ww hw 65 rfl)) (mvT hZ (ww hw 66 rfl)) (mvT hZ (ww hw 67 rfl)) (mvT hZ (ww hw 68 rfl)) (by decide) (backOf (W := 0) (rmHn l Z a0 hw [] b2_b (1 : Int32) (1 : Int32) (0 : Int32) T4.heap n0 (Nat.le_trans Z0 KC.1) O0 F_next_a1_4 F_val_length_a1_4 (by decide)) hZ (ww hw 69 rfl) (ww hw 52 rfl) (by decide) (by decide)) q7a q7b q7c (g := (mkF m 171 #[vr a1, vi (1 : Int32), vi q0, vi q1, vi q2, vi ql, vi (0 : Int32), vi (1 : Int32), vr b2_b] [(.ref b2_b)])) rfl (by rw [hml]; rfl) (Steps.refl _) (argsL := []) (rest := []) (lenOf pd_11 rfl) rfl (by show 2 * 0 + _ ≤ _; exact Nat.le_of_eq rfl) (hb hby d6_171) (fun _ _ => ⟨rfl, e6, (by decide : 1 + 0 ≤ _), (by decide : 3 + 0 ≤ _)⟩)
  dsimp only [Pt.U, Pt.locs, Pt.cells, Pt.slots] at X7 l7 y7 z7 st7 hQ7
  subst l7 y7 z7
  obtain ⟨rfl, N7q, e7⟩ := hQ7
  have N7 := Fr.app N6 N7q
  obtain ⟨fs, hr, hrun, hended, hW, hsame⟩ := X7.leave (v := some (.int (1 : Int32))) (fun h => by rw [Bd.returns] at h; cases h)
  refine ⟨_, _, pre0 _ ?_, hrun, hended, _, _, rfl, ?_, ⟨_, rfl⟩, hW, hsame.mono (by decide) (by decide)⟩
  · show SS p e below m s₁ 0 #[vr a1, vi (1 : Int32), vi q0, vi q1, vi q2, vi ql, vi (0 : Int32), un, un] [] _
    refine XS.iload X0.here hx rfl (hb hby d6_0) rfl ?_
    show SS p e below m s₁ 2 #[vr a1, vi (1 : Int32), vi q0, vi q1, vi q2, vi ql, vi (0 : Int32), un, un] [(.int (0 : Int32))] _
    refine XS.ifYes X0.here hx rfl (pc0 := 2) (pc' := 11) rfl (hb hby d6_2) rfl ((if0 _ _).trans (teq (by decide)).1) (by decide) (by decide) ?_
    show SS p e below m s₁ 11 #[vr a1, vi (1 : Int32), vi q0, vi q1, vi q2, vi ql, vi (0 : Int32), un, un] [] _
    refine XS.iloadN X0.here hx rfl (hb hby d6_11) rfl ?_
    show SS p e below m s₁ 12 #[vr a1, vi (1 : Int32), vi q0, vi q1, vi q2, vi ql, vi (0 : Int32), un, un] [(.int (1 : Int32))] _
    refine XS.istore X0.here hx rfl (hb hby d6_12) rfl (l' := #[vr a1, vi (1 : Int32), vi q0, vi q1, vi q2, vi ql, vi (0 : Int32), vi (1 : Int32), un]) rfl ?_
    show SS p e below m s₁ 14 #[vr a1, vi (1 : Int32), vi q0, vi q1, vi q2, vi ql, vi (0 : Int32), vi (1 : Int32), un] [] _
    refine XS.aloadN X0.here hx rfl (hb hby d6_14) rfl rfl ?_
    show SS p e below m s₁ 15 #[vr a1, vi (1 : Int32), vi q0, vi q1, vi q2, vi ql, vi (0 : Int32), vi (1 : Int32), un] [(.ref a1)] _
    refine st1.trans ?_
    show SS p e below m T1 18 #[vr a1, vi (1 : Int32), vi q0, vi q1, vi q2, vi ql, vi (0 : Int32), vi (1 : Int32), un] [(.int (1 : Int32))] _
    refine XS.iload X1.here hx rfl (hb hby d6_18) rfl ?_
    show SS p e below m T1 20 #[vr a1, vi (1 : Int32), vi q0, vi q1, vi q2, vi ql, vi (0 : Int32), vi (1 : Int32), un] [(.int (1 : Int32)), (.int (1 : Int32))] _
    refine XS.icmpYes X1.here hx rfl (pc0 := 20) (pc' := 25) rfl (hb hby d6_20) rfl (teq (by decide)).1 (by decide) (by decide) ?_
    show SS p e below m T1 25 #[vr a1, vi (1 : Int32), vi q0, vi q1, vi q2, vi ql, vi (0 : Int32), vi (1 : Int32), un] [] _
    refine XS.aloadN X1.here hx rfl (hb hby d6_25) rfl rfl ?_
    show SS p e below m T1 26 #[vr a1, vi (1 : Int32), vi q0, vi q1, vi q2, vi ql, vi (0 : Int32), vi (1 : Int32), un] [(.ref a1)] _
    refine st2.trans ?_
    show SS p e below m T2 29 #[vr a1, vi (1 : Int32), vi q0, vi q1, vi q2, vi ql, vi (0 : Int32), vi (1 : Int32), un] [(.ref b2_b)] _
    refine XS.astore X2.here hx rfl (hb hby d6_29) rfl rfl (l' := #[vr a1, vi (1 : Int32), vi q0, vi q1, vi q2, vi ql, vi (0 : Int32), vi (1 : Int32), vr b2_b]) rfl ?_
    show SS p e below m T2 31 #[vr a1, vi (1 : Int32), vi q0, vi q1, vi q2, vi ql, vi (0 : Int32), vi (1 : Int32), vr b2_b] [] _
    refine XS.iloadN X2.here hx rfl (hb hby d6_31) rfl ?_
    show SS p e below m T2 32 #[vr a1, vi (1 : Int32), vi q0, vi q1, vi q2, vi ql, vi (0 : Int32), vi (1 : Int32), vr b2_b] [(.int (1 : Int32))] _
    refine XS.iconst X2.here hx rfl (hb hby d6_32) ?_
    show SS p e below m T2 33 #[vr a1, vi (1 : Int32), vi q0, vi q1, vi q2, vi ql, vi (0 : Int32), vi (1 : Int32), vr b2_b] [(.int (1 : Int32)), (.int (1 : Int32))] _
    refine XS.icmpNo X2.here hx rfl (hb hby d6_33) rfl (flt (by decide)).1 ?_
    show SS p e below m T2 36 #[vr a1, vi (1 : Int32), vi q0, vi q1, vi q2, vi ql, vi (0 : Int32), vi (1 : Int32), vr b2_b] [] _
    refine XS.aload X2.here hx rfl (hb hby d6_36) rfl rfl ?_
    show SS p e below m T2 38 #[vr a1, vi (1 : Int32), vi q0, vi q1, vi q2, vi ql, vi (0 : Int32), vi (1 : Int32), vr b2_b] [(.ref b2_b)] _
    refine st3.trans ?_
    show SS p e below m T3 43 #[vr a1, vi (1 : Int32), vi q0, vi q1, vi q2, vi ql, vi (0 : Int32), vi (1 : Int32), vr b2_b] [(.int (1 : Int32))] _
    refine XS.ifNo X3.here hx rfl (hb hby d6_43) rfl ((if0 _ _).trans (feq (by decide)).1) ?_
    show SS p e below m T3 46 #[vr a1, vi (1 : Int32), vi q0, vi q1, vi q2, vi ql, vi (0 : Int32), vi (1 : Int32), vr b2_b] [] _
    refine XS.aload X3.here hx rfl (hb hby d6_46) rfl rfl ?_
    show SS p e below m T3 48 #[vr a1, vi (1 : Int32), vi q0, vi q1, vi q2, vi ql, vi (0 : Int32), vi (1 : Int32), vr b2_b] [(.ref b2_b)] _
    refine st4.trans ?_
    show SS p e below m T4 53 #[vr a1, vi (1 : Int32), vi q0, vi q1, vi q2, vi ql, vi (0 : Int32), vi (1 : Int32), vr b2_b] [(.ref x0)] _
    refine st5 _ ?_
    show SS p e below m T5 56 #[vr a1, vi (1 : Int32), vi q0, vi q1, vi q2, vi ql, vi (0 : Int32), vi (1 : Int32), vr b2_b] [(.ref x0)] _
    refine st6.trans ?_
    show SS p e below m T6 59 #[vr a1, vi (1 : Int32), vi q0, vi q1, vi q2, vi ql, vi (0 : Int32), vi (1 : Int32), vr b2_b] [(.int q0)] _
    refine XS.iloadN X6.here hx rfl (hb hby d6_59) rfl ?_
    show SS p e below m T6 60 #[vr a1, vi (1 : Int32), vi q0, vi q1, vi q2, vi ql, vi (0 : Int32), vi (1 : Int32), vr b2_b] [(.int q0), (.int q0)] _
    refine XS.icmpYes X6.here hx rfl (pc0 := 60) (pc' := 65) rfl (hb hby d6_60) rfl (teq rfl).1 (by decide) (by decide) ?_
    show SS p e below m T6 65 #[vr a1, vi (1 : Int32), vi q0, vi q1, vi q2, vi ql, vi (0 : Int32), vi (1 : Int32), vr b2_b] [] _
    refine XS.iloadN X6.here hx rfl (hb hby d6_65) rfl ?_
    show SS p e below m T6 66 #[vr a1, vi (1 : Int32), vi q0, vi q1, vi q2, vi ql, vi (0 : Int32), vi (1 : Int32), vr b2_b] [(.int (1 : Int32))] _
    refine XS.iconst X6.here hx rfl (hb hby d6_66) ?_
    show SS p e below m T6 67 #[vr a1, vi (1 : Int32), vi q0, vi q1, vi q2, vi ql, vi (0 : Int32), vi (1 : Int32), vr b2_b] [(.int (2 : Int32)), (.int (1 : Int32))] _
    refine XS.icmpYes X6.here hx rfl (pc0 := 67) (pc' := 99) rfl (hb hby d6_67) rfl (tlt (by decide)).1 (by decide) (by decide) ?_
    show SS p e below m T6 99 #[vr a1, vi (1 : Int32), vi q0, vi q1, vi q2, vi ql, vi (0 : Int32), vi (1 : Int32), vr b2_b] [] _
    refine XS.iloadN X6.here hx rfl (hb hby d6_99) rfl ?_
    show SS p e below m T6 100 #[vr a1, vi (1 : Int32), vi q0, vi q1, vi q2, vi ql, vi (0 : Int32), vi (1 : Int32), vr b2_b] [(.int (1 : Int32))] _
    refine XS.iconst X6.here hx rfl (hb hby d6_100) ?_
    show SS p e below m T6 101 #[vr a1, vi (1 : Int32), vi q0, vi q1, vi q2, vi ql, vi (0 : Int32), vi (1 : Int32), vr b2_b] [(.int (3 : Int32)), (.int (1 : Int32))] _
    refine XS.icmpYes X6.here hx rfl (pc0 := 101) (pc' := 134) rfl (hb hby d6_101) rfl (tlt (by decide)).1 (by decide) (by decide) ?_
    show SS p e below m T6 134 #[vr a1, vi (1 : Int32), vi q0, vi q1, vi q2, vi ql, vi (0 : Int32), vi (1 : Int32), vr b2_b] [] _
    refine XS.iload X6.here hx rfl (hb hby d6_134) rfl ?_
    show SS p e below m T6 136 #[vr a1, vi (1 : Int32), vi q0, vi q1, vi q2, vi ql, vi (0 : Int32), vi (1 : Int32), vr b2_b] [(.int (0 : Int32))] _
    refine XS.ifYes X6.here hx rfl (pc0 := 136) (pc' := 169) rfl (hb hby d6_136) rfl ((if0 _ _).trans (teq (by decide)).1) (by decide) (by decide) ?_
    show SS p e below m T6 169 #[vr a1, vi (1 : Int32), vi q0, vi q1, vi q2, vi ql, vi (0 : Int32), vi (1 : Int32), vr b2_b] [] _
    refine XS.aload X6.here hx rfl (hb hby d6_169) rfl rfl ?_
    show SS p e below m T6 171 #[vr a1, vi (1 : Int32), vi q0, vi q1, vi q2, vi ql, vi (0 : Int32), vi (1 : Int32), vr b2_b] [(.ref b2_b)] _
    refine st7.trans ?_
    show SS p e below m T7 176 #[vr a1, vi (1 : Int32), vi q0, vi q1, vi q2, vi ql, vi (0 : Int32), vi (1 : Int32), vr b2_b] [(.int (0 : Int32))] _
    refine XS.ifNo X7.here hx rfl (hb hby d6_176) rfl ((if0 _ _).trans (teq (by decide)).2) ?_
    show SS p e below m T7 179 #[vr a1, vi (1 : Int32), vi q0, vi q1, vi q2, vi ql, vi (0 : Int32), vi (1 : Int32), vr b2_b] [] _
    refine XS.iconst X7.here hx rfl (hb hby d6_179) ?_
    show SS p e below m T7 180 #[vr a1, vi (1 : Int32), vi q0, vi q1, vi q2, vi ql, vi (0 : Int32), vi (1 : Int32), vr b2_b] [(.int (1 : Int32))] _
    refine XS.goto X7.here hx rfl (pc0 := 180) (pc' := 184) rfl (hb hby d6_180) (by decide) (by decide) ?_
    show SS p e below m T7 184 #[vr a1, vi (1 : Int32), vi q0, vi q1, vi q2, vi ql, vi (0 : Int32), vi (1 : Int32), vr b2_b] [(.int (1 : Int32))] _
    exact retN X7 hx (t := .boolean) Bd.returns (by simp) (hb hby d6_184) hr
  · show Q_rmH10 Z a1 q0 q1 q2 ql sto arr kk cap vs x0 h0 n0 _ T7.heap _
    rw [e7]
    exact ⟨rfl, N7, KC⟩
theorem ef_rmH11 (m : MethodId) (x0 : Addr) (x1 : Int32) (x2 : Int32) (x3 : Int32) (x4 : Int32) (x5 : Int32) (x6 : Int32) : entryFrame m #[(.ref x0), (.int x1), (.int x2), (.int x3), (.int x4), (.int x5), (.int x6)] 9 = mkF m 0 #[vr x0, vi x1, vi x2, vi x3, vi x4, vi x5, vi x6, .unset, .unset] [] := by first | (simp [entryFrame, mkF, argsToLocals, Value.category]; done) | rfl
def Q_rmH11 (Z : State) (a1 : Addr) (q0 : Int32) (q1 : Int32) (q2 : Int32) (ql : Int32) (sto : Addr) (arr : Addr) (kk : ClassId) (cap : Int32) (vs : List Value) (x0 : Addr) (x1 : Addr) (h0 : Heap) (n0 : Nat) (v : Option Value) (h : Heap) (L : List Loc) : Prop := (v = some (.int (1 : Int32))) ∧ (Fr n0 L) ∧ (Keep h0 h [])
set_option maxRecDepth 65536 in
set_option maxHeartbeats 40000000 in
theorem rmH11 (l : Launch) (Z : State) (a0 : Array Value) (hw : ∀ d ∈ tables_1, d.before a0 Z = true) (ws : List Jvm.Cond) (a1 : Addr) (q0 : Int32) (q1 : Int32) (q2 : Int32) (ql : Int32) (sto : Addr) (arr : Addr) (kk : ClassId) (cap : Int32) (vs : List Value) (x0 : Addr) (x1 : Addr) (h0 : Heap) (n0 : Nat) (Z0 : n0 ≤ h0.size) (O0 : Old Z n0 h0) (F_size_a1 : Fld Z h0 a1 "com/example/brisk_tableau/brisktableau/tableau/SharedList" "size" "I" (.int (2 : Int32))) (F_store_a1 : Fld Z h0 a1 "com/example/brisk_tableau/brisktableau/tableau/SharedList" "store" "Lcom/example/brisk_tableau/brisktableau/tableau/SharedList$Store;" (.ref sto)) (E_a1 : Exa Z h0 a1 "com/example/brisk_tableau/brisktableau/tableau/SharedList") (F_items_sto : Fld Z h0 sto "com/example/brisk_tableau/brisktableau/tableau/SharedList$Store" "items" "[Ljava/lang/Object;" (.ref arr)) (E_arr : Exa Z h0 arr "[Ljava/lang/Object;") (V_arr : Arv Z h0 arr kk (.object "java/lang/Object") cap vs .null) (E_x0 : Exa Z h0 x0 "java/lang/Integer") (F_value_x0 : Fld Z h0 x0 "java/lang/Integer" "value" "I" (.int q0)) (hX0 : vs.getD (0 : Int32).toNatClampNeg .null = .ref x0) (hD0 : (0 : Int32) < cap) (E_x1 : Exa Z h0 x1 "java/lang/Integer") (F_value_x1 : Fld Z h0 x1 "java/lang/Integer" "value" "I" (.int ql)) (hX1 : vs.getD (1 : Int32).toNatClampNeg .null = .ref x1) (hD1 : (1 : Int32) < cap) :
    MetFree l y_20 (head1 (Jvm.Cond.code y_20 method_2_code 9 (some .boolean) :: ws) ({ frames := 3, cells := 1, slots := 3, locals := 42 } : Room)) (fun a U => a = #[(.ref a1), (.int (1 : Int32)), (.int q0), (.int q1), (.int q2), (.int ql), (.int (1 : Int32))] ∧ Z.Warmed39 U.vm ∧ U.heap = h0) (fun _ _ _ _ _ => True) (fun _ U o U' => ∃ v L, o = .returned v ∧ Q_rmH11 Z a1 q0 q1 q2 ql sto arr kk cap vs x0 x1 h0 n0 v U'.heap L ∧ FrameEnd U o U' L ({ frames := 3, cells := 1, slots := 3, locals := 42 } : Room).cells ({ frames := 3, cells := 1, slots := 3, locals := 42 } : Room).slots) := by
  refine MetFree.of_bodySF (plainFor_of_name pn_7) hisR ?_
  intro p e s m args below meth c s₁ Bd hml0 hP hK
  obtain ⟨rfl, hZ, hh⟩ := hP
  have hx := Bd.exec
  have hby := Bd.bytes
  have hml : c.maxLocals = 9 := hml0
  have hown : s.vm.findClass "com/example/brisk_tableau/brisktableau/tableau/SharedListCopyPinLaw" = some m.cls := findClass_of_methodNamed Bd.named
  have hnm := (name_of_methodNamed Bd.named Bd.method).1
  have X0 : Stand p l e ({ frames := 3, cells := 1, slots := 3, locals := 42 } : Room) s m #[(.ref a1), (.int (1 : Int32)), (.int q0), (.int q1), (.int q2), (.int ql), (.int (1 : Int32))] below meth c s₁ [] 0 0 := Stand.of_body Bd
  have e0 : s₁.heap = h0 := by rw [← hh, Bd.state]; rfl
  have N0 := Fr.nil n0
  have KC : Keep h0 h0 [] := Keep.refl h0 _
  have pre0 : ∀ t, Steps p.tables e below (s₁.setTop (mkF m 0 #[vr a1, vi (1 : Int32), vi q0, vi q1, vi q2, vi ql, vi (1 : Int32), un, un] [])) t → Steps p.tables e below (s₁.setTop (entryFrame m #[(.ref a1), (.int (1 : Int32)), (.int q0), (.int q1), (.int q2), (.int ql), (.int (1 : Int32))] 9)) t := fun t k => castTop (ef_rmH11 m a1 (1 : Int32) q0 q1 q2 ql (1 : Int32)) k
  obtain ⟨cq1, kq1, q1a, q1b, q1c⟩ := isOf hZ e0 E_a1
  obtain ⟨_, _, ⟨T1, L1, k1, n1⟩, -, X1, ⟨Lc1, hQ1, l1, y1, z1⟩, st1⟩ := X0.virtualBack hx (y := y_18) (z := y_18) hown (mvT hZ (ww hw 39 rfl)) (mvT hZ (ww hw 40 rfl)) (notFace_of_selects (args := #[]) (mvT hZ (ww hw 42 rfl))) (mvT hZ (ww hw 42 rfl)) (mvT hZ (ww hw 41 rfl)) (by decide) (backOf (W := 0) (rmSz l Z a0 hw [] a1 (2 : Int32) h0 n0 (Nat.le_trans Z0 KC.1) O0 F_size_a1) hZ (ww hw 43 rfl) (ww hw 2 rfl) (by decide) (by decide)) q1a q1c (g := (mkF m 15 #[vr a1, vi (1 : Int32), vi q0, vi q1, vi q2, vi ql, vi (1 : Int32), vi (2 : Int32), un] [(.ref a1)])) rfl (by rw [hml]; rfl) (Steps.refl _) (argsL := []) (rest := []) (lenOf pd_9 rfl) rfl (by show 2 * 0 + _ ≤ _; exact Nat.le_of_eq rfl) (hb hby d6_15) (fun _ _ => ⟨rfl, e0, (by decide : 0 + 0 ≤ _), (by decide : 0 + 0 ≤ _)⟩)
  dsimp only [Pt.U, Pt.locs, Pt.cells, Pt.slots] at X1 l1 y1 z1 st1 hQ1
  subst l1 y1 z1
  obtain ⟨rfl, N1q, e1⟩ := hQ1
  have N1 := Fr.app N0 N1q
  obtain ⟨cq2, kq2, q2a, q2b, q2c⟩ := isOf hZ e1 E_a1
  obtain ⟨_, _, ⟨T2, L2, k2, n2⟩, -, X2, ⟨Lc2, hQ2, l2, y2, z2⟩, st2⟩ := X1.virtualBack hx (y := y_15) (z := y_15) hown (mvT hZ (ww hw 44 rfl)) (mvT hZ (ww hw 45 rfl)) (notFace_of_selects (args := #[]) (mvT hZ (ww hw 47 rfl))) (mvT hZ (ww hw 47 rfl)) (mvT hZ (ww hw 46 rfl)) (by decide) (backOf (W := 0) (rmIt l Z a0 hw [] a1 sto (2 : Int32) arr h0 n0 (Nat.le_trans Z0 KC.1) O0 F_store_a1 F_size_a1 F_items_sto) hZ (ww hw 48 rfl) (ww hw 2 rfl) (by decide) (by decide)) q2a q2c (g := (mkF m 26 #[vr a1, vi (1 : Int32), vi q0, vi q1, vi q2, vi ql, vi (1 : Int32), vi (2 : Int32), un] [(.ref a1)])) rfl (by rw [hml]; rfl) (Steps.refl _) (argsL := []) (rest := []) (lenOf pd_10 rfl) rfl (by show 2 * 0 + _ ≤ _; exact Nat.le_of_eq rfl) (hb hby d6_26) (fun _ _ => ⟨rfl, e1, (by decide : 0 + 1 ≤ _), (by decide : 0 + 3 ≤ _)⟩)
  dsimp only [Pt.U, Pt.locs, Pt.cells, Pt.slots] at X2 l2 y2 z2 st2 hQ2
  subst l2 y2 z2
  obtain ⟨b2_b, rfl, N2q, K2, sz_b2_b, E_b_2, F_val_length_b_2, F_val_items_b_2, F_next_b_2⟩ := hQ2
  have N2 := Fr.app N1 N2q
  have ne_a1_b2_b : a1 ≠ b2_b := Nat.ne_of_lt (Nat.lt_of_lt_of_le F_size_a1.lt sz_b2_b)
  have ne_sto_b2_b : sto ≠ b2_b := Nat.ne_of_lt (Nat.lt_of_lt_of_le F_items_sto.lt sz_b2_b)
  have ne_arr_b2_b : arr ≠ b2_b := Nat.ne_of_lt (Nat.lt_of_lt_of_le E_arr.lt sz_b2_b)
  have ne_x0_b2_b : x0 ≠ b2_b := Nat.ne_of_lt (Nat.lt_of_lt_of_le E_x0.lt sz_b2_b)
  have ne_x1_b2_b : x1 ≠ b2_b := Nat.ne_of_lt (Nat.lt_of_lt_of_le E_x1.lt sz_b2_b)
  have g_b2_b : n0 ≤ b2_b := Nat.le_trans (Nat.le_trans Z0 KC.1) sz_b2_b
  replace sz_b2_b : h0.size ≤ b2_b := Nat.le_trans KC.1 sz_b2_b
  replace F_size_a1 := F_size_a1.keep K2 nin0
  replace F_store_a1 := F_store_a1.keep K2 nin0
  replace E_a1 := E_a1.keep K2
  replace F_items_sto := F_items_sto.keep K2 nin0
  replace E_arr := E_arr.keep K2
  replace V_arr := V_arr.keep K2 nin0
  replace E_x0 := E_x0.keep K2
  replace F_value_x0 := F_value_x0.keep K2 nin0
  replace E_x1 := E_x1.keep K2
  replace F_value_x1 := F_value_x1.keep K2 nin0
  replace O0 := O0.keep K2 all0
  replace KC := KC.trans K2 all0
  obtain ⟨cq3, kq3, q3a, q3b, q3c⟩ := isOf hZ rfl E_b_2
  obtain ⟨_, _, ⟨T3, L3, k3, n3⟩, -, X3, ⟨Lc3, hQ3, l3, y3, z3⟩, st3⟩ := X2.interfaceBack hx (xi := y_19) (y := y_16) hown (mvT hZ (ww hw 61 rfl)) (mvT hZ (ww hw 62 rfl)) (mvT hZ (ww hw 63 rfl)) (mvT hZ (ww hw 64 rfl)) (mvT hZ (ww hw 65 rfl)) (mvT hZ (ww hw 66 rfl)) (mvT hZ (ww hw 67 rfl)) (mvT hZ (ww hw 68 rfl)) (by decide) (backOf (W := 0) (rmHn l Z a0 hw [] b2_b (0 : Int32) (2 : Int32) (1 : Int32) T2.heap n0 (Nat.le_trans Z0 KC.1) O0 F_next_b_2 F_val_length_b_2 (by decide)) hZ (ww hw 69 rfl) (ww hw 52 rfl) (by decide) (by decide)) q3a q3b q3c (g := (mkF m 38 #[vr a1, vi (1 : Int32), vi q0, vi q1, vi q2, vi ql, vi (1 : Int32), vi (2 : Int32), vr b2_b] [(.ref b2_b)])) rfl (by rw [hml]; rfl) (Steps.refl _) (argsL := []) (rest := []) (lenOf pd_11 rfl) rfl (by show 2 * 0 + _ ≤ _; exact Nat.le_of_eq rfl) (hb hby d6_38) (fun _ _ => ⟨rfl, rfl, (by decide : 1 + 0 ≤ _), (by decide : 3 + 0 ≤ _)⟩)
  dsimp only [Pt.U, Pt.locs, Pt.cells, Pt.slots] at X3 l3 y3 z3 st3 hQ3
  subst l3 y3 z3
  obtain ⟨rfl, N3q, e3⟩ := hQ3
  have N3 := Fr.app N2 N3q
  obtain ⟨cq4, kq4, q4a, q4b, q4c⟩ := isOf hZ e3 E_b_2
  obtain ⟨_, _, ⟨T4, L4, k4, n4⟩, -, X4, ⟨Lc4, hQ4, l4, y4, z4⟩, st4⟩ := X3.interfaceBack hx (xi := y_21) (y := y_17) hown (mvT hZ (ww hw 116 rfl)) (mvT hZ (ww hw 117 rfl)) (mvT hZ (ww hw 118 rfl)) (mvT hZ (ww hw 119 rfl)) (mvT hZ (ww hw 120 rfl)) (mvT hZ (ww hw 121 rfl)) (mvT hZ (ww hw 122 rfl)) (mvT hZ (ww hw 68 rfl)) (by decide) (backOf (W := 0) (rmNx l Z a0 hw [] b2_b (0 : Int32) (2 : Int32) arr kk cap vs x0 (1 : Int32) T2.heap n0 (Nat.le_trans Z0 KC.1) O0 F_next_b_2 F_val_length_b_2 F_val_items_b_2 E_b_2 E_arr V_arr g_b2_b (by decide) (by decide) hD0 hX0 (by decide)) hZ (ww hw 123 rfl) (ww hw 52 rfl) (by decide) (by decide)) q4a q4b q4c (g := (mkF m 48 #[vr a1, vi (1 : Int32), vi q0, vi q1, vi q2, vi ql, vi (1 : Int32), vi (2 : Int32), vr b2_b] [(.ref b2_b)])) rfl (by rw [hml]; rfl) (Steps.refl _) (argsL := []) (rest := []) (lenOf pd_12 rfl) rfl (by show 2 * 0 + _ ≤ _; exact Nat.le_of_eq rfl) (hb hby d6_48) (fun _ _ => ⟨rfl, e3, (by decide : 1 + 0 ≤ _), (by decide : 3 + 0 ≤ _)⟩)
  dsimp only [Pt.U, Pt.locs, Pt.cells, Pt.slots] at X4 l4 y4 z4 st4 hQ4
  subst l4 y4 z4
  obtain ⟨rfl, N4q, K4, F_next_a1_4, F_val_length_a1_4, F_val_items_a1_4⟩ := hQ4
  have N4 := Fr.app N3 N4q
  replace F_size_a1 := F_size_a1.keep K4 (ninS ne_a1_b2_b nin0)
  replace F_store_a1 := F_store_a1.keep K4 (ninS ne_a1_b2_b nin0)
  replace E_a1 := E_a1.keep K4
  replace F_items_sto := F_items_sto.keep K4 (ninS ne_sto_b2_b nin0)
  replace E_arr := E_arr.keep K4
  replace V_arr := V_arr.keep K4 (ninS ne_arr_b2_b nin0)
  replace E_x0 := E_x0.keep K4
  replace F_value_x0 := F_value_x0.keep K4 (ninS ne_x0_b2_b nin0)
  replace E_x1 := E_x1.keep K4
  replace F_value_x1 := F_value_x1.keep K4 (ninS ne_x1_b2_b nin0)
  replace E_b_2 := E_b_2.keep K4
  replace O0 := O0.keep K4 (allS g_b2_b all0)
  replace KC := KC.trans K4 (allS (Or.inr sz_b2_b) all0)
  obtain ⟨T5, X5, e5, st5⟩ := castY X4 hx hZ hown (ww hw 124 rfl) rfl (Ins.self E_x0) (g := (mkF m 53 #[vr a1, vi (1 : Int32), vi q0, vi q1, vi q2, vi ql, vi (1 : Int32), vi (2 : Int32), vr b2_b] [(.ref x0)])) rfl rfl (hb hby d6_53)
  obtain ⟨cq6, kq6, q6a, q6b, q6c⟩ := isOf hZ e5 E_x0
  obtain ⟨_, _, ⟨T6, L6, k6, n6⟩, -, X6, ⟨Lc6, hQ6, l6, y6, z6⟩, st6⟩ := X5.virtualBack hx (y := y_6) (z := y_6) hown (mvT hZ (ww hw 126 rfl)) (mvT hZ (ww hw 127 rfl)) (notFace_of_selects (args := #[]) (mvT hZ (ww hw 129 rfl))) (mvT hZ (ww hw 129 rfl)) (mvT hZ (ww hw 128 rfl)) (by decide) (backOf (W := 0) (rmIv l Z a0 hw [] x0 q0 T4.heap n0 (Nat.le_trans Z0 KC.1) O0 F_value_x0) hZ (ww hw 130 rfl) (ww hw 74 rfl) (by decide) (by decide)) q6a q6c (g := (mkF m 56 #[vr a1, vi (1 : Int32), vi q0, vi q1, vi q2, vi ql, vi (1 : Int32), vi (2 : Int32), vr b2_b] [(.ref x0)])) rfl (by rw [hml]; rfl) (Steps.refl _) (argsL := []) (rest := []) (lenOf pd_9 rfl) rfl (by show 2 * 0 + _ ≤ _; exact Nat.le_of_eq rfl) (hb hby d6_56) (fun _ _ => ⟨rfl, e5, (by decide : 1 + 0 ≤ _), (by decide : 3 + 0 ≤ _)⟩)
  dsimp only [Pt.U, Pt.locs, Pt.cells, Pt.slots] at X6 l6 y6 z6 st6 hQ6
  subst l6 y6 z6
  obtain ⟨rfl, N6q, e6⟩ := hQ6
  have N6 := Fr.app N4 N6q
  obtain ⟨cq7, kq7, q7a, q7b, q7c⟩ := isOf hZ e6 E_b_2
  obtain ⟨_, _, ⟨T7, L7, k7, n7⟩, -, X7, ⟨Lc7, hQ7, l7, y7, z7⟩, st7⟩ := X6.interfaceBack hx (xi := y_19) (y := y_16) hown (mvT hZ (ww hw 61 rfl)) (mvT hZ (ww hw 62 rfl)) (mvT hZ (ww hw 63 rfl)) (mvT hZ (ww hw 64 rfl)) (mvT hZ (ww hw 65 rfl)) (mvT hZ (ww hw 66 rfl)) (mvT hZ (ww hw 67 rfl)) (mvT hZ (ww hw 68 rfl)) (by decide) (backOf (W := 0) (rmHn l Z a0 hw [] b2_b (1 : Int32) (2 : Int32) (1 : Int32) T4.heap n0 (Nat.le_trans Z0 KC.1) O0 F_next_a1_4 F_val_length_a1_4 (by decide)) hZ (ww hw 69 rfl) (ww hw 52 rfl) (by decide) (by decide)) q7a q7b q7c (g := (mkF m 141 #[vr a1, vi (1 : Int32), vi q0, vi q1, vi q2, vi ql, vi (1 : Int32), vi (2 : Int32), vr b2_b] [(.ref b2_b)])) rfl (by rw [hml]; rfl) (Steps.refl _) (argsL := []) (rest := []) (lenOf pd_11 rfl) rfl (by show 2 * 0 + _ ≤ _; exact Nat.le_of_eq rfl) (hb hby d6_141) (fun _ _ => ⟨rfl, e6, (by decide : 1 + 0 ≤ _), (by decide : 3 + 0 ≤ _)⟩)
  dsimp only [Pt.U, Pt.locs, Pt.cells, Pt.slots] at X7 l7 y7 z7 st7 hQ7
  subst l7 y7 z7
  obtain ⟨rfl, N7q, e7⟩ := hQ7
  have N7 := Fr.app N6 N7q
  obtain ⟨cq8, kq8, q8a, q8b, q8c⟩ := isOf hZ e7 E_b_2
  obtain ⟨_, _, ⟨T8, L8, k8, n8⟩, -, X8, ⟨Lc8, hQ8, l8, y8, z8⟩, st8⟩ := X7.interfaceBack hx (xi := y_21) (y := y_17) hown (mvT hZ (ww hw 116 rfl)) (mvT hZ (ww hw 117 rfl)) (mvT hZ (ww hw 118 rfl)) (mvT hZ (ww hw 119 rfl)) (mvT hZ (ww hw 120 rfl)) (mvT hZ (ww hw 121 rfl)) (mvT hZ (ww hw 122 rfl)) (mvT hZ (ww hw 68 rfl)) (by decide) (backOf (W := 0) (rmNx l Z a0 hw [] b2_b (1 : Int32) (2 : Int32) arr kk cap vs x1 (2 : Int32) T4.heap n0 (Nat.le_trans Z0 KC.1) O0 F_next_a1_4 F_val_length_a1_4 F_val_items_a1_4 E_b_2 E_arr V_arr g_b2_b (by decide) (by decide) hD1 hX1 (by decide)) hZ (ww hw 123 rfl) (ww hw 52 rfl) (by decide) (by decide)) q8a q8b q8c (g := (mkF m 151 #[vr a1, vi (1 : Int32), vi q0, vi q1, vi q2, vi ql, vi (1 : Int32), vi (2 : Int32), vr b2_b] [(.ref b2_b)])) rfl (by rw [hml]; rfl) (Steps.refl _) (argsL := []) (rest := []) (lenOf pd_12 rfl) rfl (by show 2 * 0 + _ ≤ _; exact Nat.le_of_eq rfl) (hb hby d6_151) (fun _ _ => ⟨rfl, e7, (by decide : 1 + 0 ≤ _), (by decide : 3 + 0 ≤ _)⟩)
  dsimp only [Pt.U, Pt.locs, Pt.cells, Pt.slots] at X8 l8 y8 z8 st8 hQ8
  subst l8 y8 z8
  obtain ⟨rfl, N8q, K8, F_next_a1_8, F_val_length_a1_8, F_val_items_a1_8⟩ := hQ8
  have N8 := Fr.app N7 N8q
  replace F_size_a1 := F_size_a1.keep K8 (ninS ne_a1_b2_b nin0)
  replace F_store_a1 := F_store_a1.keep K8 (ninS ne_a1_b2_b nin0)
  replace E_a1 := E_a1.keep K8
  replace F_items_sto := F_items_sto.keep K8 (ninS ne_sto_b2_b nin0)
  replace E_arr := E_arr.keep K8
  replace V_arr := V_arr.keep K8 (ninS ne_arr_b2_b nin0)
  replace E_x0 := E_x0.keep K8
  replace F_value_x0 := F_value_x0.keep K8 (ninS ne_x0_b2_b nin0)
  replace E_x1 := E_x1.keep K8
  replace F_value_x1 := F_value_x1.keep K8 (ninS ne_x1_b2_b nin0)
  replace E_b_2 := E_b_2.keep K8
  replace O0 := O0.keep K8 (allS g_b2_b all0)
  replace KC := KC.trans K8 (allS (Or.inr sz_b2_b) all0)
  obtain ⟨T9, X9, e9, st9⟩ := castY X8 hx hZ hown (ww hw 124 rfl) rfl (Ins.self E_x1) (g := (mkF m 156 #[vr a1, vi (1 : Int32), vi q0, vi q1, vi q2, vi ql, vi (1 : Int32), vi (2 : Int32), vr b2_b] [(.ref x1)])) rfl rfl (hb hby d6_156)
  obtain ⟨cq10, kq10, q10a, q10b, q10c⟩ := isOf hZ e9 E_x1
  obtain ⟨_, _, ⟨T10, L10, k10, n10⟩, -, X10, ⟨Lc10, hQ10, l10, y10, z10⟩, st10⟩ := X9.virtualBack hx (y := y_6) (z := y_6) hown (mvT hZ (ww hw 126 rfl)) (mvT hZ (ww hw 127 rfl)) (notFace_of_selects (args := #[]) (mvT hZ (ww hw 129 rfl))) (mvT hZ (ww hw 129 rfl)) (mvT hZ (ww hw 128 rfl)) (by decide) (backOf (W := 0) (rmIv l Z a0 hw [] x1 ql T8.heap n0 (Nat.le_trans Z0 KC.1) O0 F_value_x1) hZ (ww hw 130 rfl) (ww hw 74 rfl) (by decide) (by decide)) q10a q10c (g := (mkF m 159 #[vr a1, vi (1 : Int32), vi q0, vi q1, vi q2, vi ql, vi (1 : Int32), vi (2 : Int32), vr b2_b] [(.ref x1)])) rfl (by rw [hml]; rfl) (Steps.refl _) (argsL := []) (rest := []) (lenOf pd_9 rfl) rfl (by show 2 * 0 + _ ≤ _; exact Nat.le_of_eq rfl) (hb hby d6_159) (fun _ _ => ⟨rfl, e9, (by decide : 1 + 0 ≤ _), (by decide : 3 + 0 ≤ _)⟩)
  dsimp only [Pt.U, Pt.locs, Pt.cells, Pt.slots] at X10 l10 y10 z10 st10 hQ10
  subst l10 y10 z10
  obtain ⟨rfl, N10q, e10⟩ := hQ10
  have N10 := Fr.app N8 N10q
  obtain ⟨cq11, kq11, q11a, q11b, q11c⟩ := isOf hZ e10 E_b_2
  obtain ⟨_, _, ⟨T11, L11, k11, n11⟩, -, X11, ⟨Lc11, hQ11, l11, y11, z11⟩, st11⟩ := X10.interfaceBack hx (xi := y_19) (y := y_16) hown (mvT hZ (ww hw 61 rfl)) (mvT hZ (ww hw 62 rfl)) (mvT hZ (ww hw 63 rfl)) (mvT hZ (ww hw 64 rfl)) (mvT hZ (ww hw 65 rfl)) (mvT hZ (ww hw 66 rfl)) (mvT hZ (ww hw 67 rfl)) (mvT hZ (ww hw 68 rfl)) (by decide) (backOf (W := 0) (rmHn l Z a0 hw [] b2_b (2 : Int32) (2 : Int32) (0 : Int32) T8.heap n0 (Nat.le_trans Z0 KC.1) O0 F_next_a1_8 F_val_length_a1_8 (by decide)) hZ (ww hw 69 rfl) (ww hw 52 rfl) (by decide) (by decide)) q11a q11b q11c (g := (mkF m 171 #[vr a1, vi (1 : Int32), vi q0, vi q1, vi q2, vi ql, vi (1 : Int32), vi (2 : Int32), vr b2_b] [(.ref b2_b)])) rfl (by rw [hml]; rfl) (Steps.refl _) (argsL := []) (rest := []) (lenOf pd_11 rfl) rfl (by show 2 * 0 + _ ≤ _; exact Nat.le_of_eq rfl) (hb hby d6_171) (fun _ _ => ⟨rfl, e10, (by decide : 1 + 0 ≤ _), (by decide : 3 + 0 ≤ _)⟩)
  dsimp only [Pt.U, Pt.locs, Pt.cells, Pt.slots] at X11 l11 y11 z11 st11 hQ11
  subst l11 y11 z11
  obtain ⟨rfl, N11q, e11⟩ := hQ11
  have N11 := Fr.app N10 N11q
  obtain ⟨fs, hr, hrun, hended, hW, hsame⟩ := X11.leave (v := some (.int (1 : Int32))) (fun h => by rw [Bd.returns] at h; cases h)
  refine ⟨_, _, pre0 _ ?_, hrun, hended, _, _, rfl, ?_, ⟨_, rfl⟩, hW, hsame.mono (by decide) (by decide)⟩
  · show SS p e below m s₁ 0 #[vr a1, vi (1 : Int32), vi q0, vi q1, vi q2, vi ql, vi (1 : Int32), un, un] [] _
    refine XS.iload X0.here hx rfl (hb hby d6_0) rfl ?_
    show SS p e below m s₁ 2 #[vr a1, vi (1 : Int32), vi q0, vi q1, vi q2, vi ql, vi (1 : Int32), un, un] [(.int (1 : Int32))] _
    refine XS.ifNo X0.here hx rfl (hb hby d6_2) rfl ((if0 _ _).trans (feq (by decide)).1) ?_
    show SS p e below m s₁ 5 #[vr a1, vi (1 : Int32), vi q0, vi q1, vi q2, vi ql, vi (1 : Int32), un, un] [] _
    refine XS.iloadN X0.here hx rfl (hb hby d6_5) rfl ?_
    show SS p e below m s₁ 6 #[vr a1, vi (1 : Int32), vi q0, vi q1, vi q2, vi ql, vi (1 : Int32), un, un] [(.int (1 : Int32))] _
    refine XS.iconst X0.here hx rfl (hb hby d6_6) ?_
    show SS p e below m s₁ 7 #[vr a1, vi (1 : Int32), vi q0, vi q1, vi q2, vi ql, vi (1 : Int32), un, un] [(.int (1 : Int32)), (.int (1 : Int32))] _
    refine XS.iadd X0.here hx rfl (hb hby d6_7) rfl ?_
    show SS p e below m s₁ 8 #[vr a1, vi (1 : Int32), vi q0, vi q1, vi q2, vi ql, vi (1 : Int32), un, un] [(.int (2 : Int32))] _
    refine XS.goto X0.here hx rfl (pc0 := 8) (pc' := 12) rfl (hb hby d6_8) (by decide) (by decide) ?_
    show SS p e below m s₁ 12 #[vr a1, vi (1 : Int32), vi q0, vi q1, vi q2, vi ql, vi (1 : Int32), un, un] [(.int (2 : Int32))] _
    refine XS.istore X0.here hx rfl (hb hby d6_12) rfl (l' := #[vr a1, vi (1 : Int32), vi q0, vi q1, vi q2, vi ql, vi (1 : Int32), vi (2 : Int32), un]) rfl ?_
    show SS p e below m s₁ 14 #[vr a1, vi (1 : Int32), vi q0, vi q1, vi q2, vi ql, vi (1 : Int32), vi (2 : Int32), un] [] _
    refine XS.aloadN X0.here hx rfl (hb hby d6_14) rfl rfl ?_
    show SS p e below m s₁ 15 #[vr a1, vi (1 : Int32), vi q0, vi q1, vi q2, vi ql, vi (1 : Int32), vi (2 : Int32), un] [(.ref a1)] _
    refine st1.trans ?_
    show SS p e below m T1 18 #[vr a1, vi (1 : Int32), vi q0, vi q1, vi q2, vi ql, vi (1 : Int32), vi (2 : Int32), un] [(.int (2 : Int32))] _
    refine XS.iload X1.here hx rfl (hb hby d6_18) rfl ?_
    show SS p e below m T1 20 #[vr a1, vi (1 : Int32), vi q0, vi q1, vi q2, vi ql, vi (1 : Int32), vi (2 : Int32), un] [(.int (2 : Int32)), (.int (2 : Int32))] _
    refine XS.icmpYes X1.here hx rfl (pc0 := 20) (pc' := 25) rfl (hb hby d6_20) rfl (teq (by decide)).1 (by decide) (by decide) ?_
    show SS p e below m T1 25 #[vr a1, vi (1 : Int32), vi q0, vi q1, vi q2, vi ql, vi (1 : Int32), vi (2 : Int32), un] [] _
    refine XS.aloadN X1.here hx rfl (hb hby d6_25) rfl rfl ?_
    show SS p e below m T1 26 #[vr a1, vi (1 : Int32), vi q0, vi q1, vi q2, vi ql, vi (1 : Int32), vi (2 : Int32), un] [(.ref a1)] _
    refine st2.trans ?_
    show SS p e below m T2 29 #[vr a1, vi (1 : Int32), vi q0, vi q1, vi q2, vi ql, vi (1 : Int32), vi (2 : Int32), un] [(.ref b2_b)] _
    refine XS.astore X2.here hx rfl (hb hby d6_29) rfl rfl (l' := #[vr a1, vi (1 : Int32), vi q0, vi q1, vi q2, vi ql, vi (1 : Int32), vi (2 : Int32), vr b2_b]) rfl ?_
    show SS p e below m T2 31 #[vr a1, vi (1 : Int32), vi q0, vi q1, vi q2, vi ql, vi (1 : Int32), vi (2 : Int32), vr b2_b] [] _
    refine XS.iloadN X2.here hx rfl (hb hby d6_31) rfl ?_
    show SS p e below m T2 32 #[vr a1, vi (1 : Int32), vi q0, vi q1, vi q2, vi ql, vi (1 : Int32), vi (2 : Int32), vr b2_b] [(.int (1 : Int32))] _
    refine XS.iconst X2.here hx rfl (hb hby d6_32) ?_
    show SS p e below m T2 33 #[vr a1, vi (1 : Int32), vi q0, vi q1, vi q2, vi ql, vi (1 : Int32), vi (2 : Int32), vr b2_b] [(.int (1 : Int32)), (.int (1 : Int32))] _
    refine XS.icmpNo X2.here hx rfl (hb hby d6_33) rfl (flt (by decide)).1 ?_
    show SS p e below m T2 36 #[vr a1, vi (1 : Int32), vi q0, vi q1, vi q2, vi ql, vi (1 : Int32), vi (2 : Int32), vr b2_b] [] _
    refine XS.aload X2.here hx rfl (hb hby d6_36) rfl rfl ?_
    show SS p e below m T2 38 #[vr a1, vi (1 : Int32), vi q0, vi q1, vi q2, vi ql, vi (1 : Int32), vi (2 : Int32), vr b2_b] [(.ref b2_b)] _
    refine st3.trans ?_
    show SS p e below m T3 43 #[vr a1, vi (1 : Int32), vi q0, vi q1, vi q2, vi ql, vi (1 : Int32), vi (2 : Int32), vr b2_b] [(.int (1 : Int32))] _
    refine XS.ifNo X3.here hx rfl (hb hby d6_43) rfl ((if0 _ _).trans (feq (by decide)).1) ?_
    show SS p e below m T3 46 #[vr a1, vi (1 : Int32), vi q0, vi q1, vi q2, vi ql, vi (1 : Int32), vi (2 : Int32), vr b2_b] [] _
    refine XS.aload X3.here hx rfl (hb hby d6_46) rfl rfl ?_
    show SS p e below m T3 48 #[vr a1, vi (1 : Int32), vi q0, vi q1, vi q2, vi ql, vi (1 : Int32), vi (2 : Int32), vr b2_b] [(.ref b2_b)] _
    refine st4.trans ?_
    show SS p e below m T4 53 #[vr a1, vi (1 : Int32), vi q0, vi q1, vi q2, vi ql, vi (1 : Int32), vi (2 : Int32), vr b2_b] [(.ref x0)] _
    refine st5 _ ?_
    show SS p e below m T5 56 #[vr a1, vi (1 : Int32), vi q0, vi q1, vi q2, vi ql, vi (1 : Int32), vi (2 : Int32), vr b2_b] [(.ref x0)] _
    refine st6.trans ?_
    show SS p e below m T6 59 #[vr a1, vi (1 : Int32), vi q0, vi q1, vi q2, vi ql, vi (1 : Int32), vi (2 : Int32), vr b2_b] [(.int q0)] _
    refine XS.iloadN X6.here hx rfl (hb hby d6_59) rfl ?_
    show SS p e below m T6 60 #[vr a1, vi (1 : Int32), vi q0, vi q1, vi q2, vi ql, vi (1 : Int32), vi (2 : Int32), vr b2_b] [(.int q0), (.int q0)] _
    refine XS.icmpYes X6.here hx rfl (pc0 := 60) (pc' := 65) rfl (hb hby d6_60) rfl (teq rfl).1 (by decide) (by decide) ?_
    show SS p e below m T6 65 #[vr a1, vi (1 : Int32), vi q0, vi q1, vi q2, vi ql, vi (1 : Int32), vi (2 : Int32), vr b2_b] [] _
    refine XS.iloadN X6.here hx rfl (hb hby d6_65) rfl ?_
    show SS p e below m T6 66 #[vr a1, vi (1 : Int32), vi q0, vi q1, vi q2, vi ql, vi (1 : Int32), vi (2 : Int32), vr b2_b] [(.int (1 : Int32))] _
    refine XS.iconst X6.here hx rfl (hb hby d6_66) ?_
    show SS p e below m T6 67 #[vr a1, vi (1 : Int32), vi q0, vi q1, vi q2, vi ql, vi (1 : Int32), vi (2 : Int32), vr b2_b] [(.int (2 : Int32)), (.int (1 : Int32))] _
    refine XS.icmpYes X6.here hx rfl (pc0 := 67) (pc' := 99) rfl (hb hby d6_67) rfl (tlt (by decide)).1 (by decide) (by decide) ?_
    show SS p e below m T6 99 #[vr a1, vi (1 : Int32), vi q0, vi q1, vi q2, vi ql, vi (1 : Int32), vi (2 : Int32), vr b2_b] [] _
    refine XS.iloadN X6.here hx rfl (hb hby d6_99) rfl ?_
    show SS p e below m T6 100 #[vr a1, vi (1 : Int32), vi q0, vi q1, vi q2, vi ql, vi (1 : Int32), vi (2 : Int32), vr b2_b] [(.int (1 : Int32))] _
    refine XS.iconst X6.here hx rfl (hb hby d6_100) ?_
    show SS p e below m T6 101 #[vr a1, vi (1 : Int32), vi q0, vi q1, vi q2, vi ql, vi (1 : Int32), vi (2 : Int32), vr b2_b] [(.int (3 : Int32)), (.int (1 : Int32))] _
    refine XS.icmpYes X6.here hx rfl (pc0 := 101) (pc' := 134) rfl (hb hby d6_101) rfl (tlt (by decide)).1 (by decide) (by decide) ?_
    show SS p e below m T6 134 #[vr a1, vi (1 : Int32), vi q0, vi q1, vi q2, vi ql, vi (1 : Int32), vi (2 : Int32), vr b2_b] [] _
    refine XS.iload X6.here hx rfl (hb hby d6_134) rfl ?_
    show SS p e below m T6 136 #[vr a1, vi (1 : Int32), vi q0, vi q1, vi q2, vi ql, vi (1 : Int32), vi (2 : Int32), vr b2_b] [(.int (1 : Int32))] _
    refine XS.ifNo X6.here hx rfl (hb hby d6_136) rfl ((if0 _ _).trans (feq (by decide)).1) ?_
    show SS p e below m T6 139 #[vr a1, vi (1 : Int32), vi q0, vi q1, vi q2, vi ql, vi (1 : Int32), vi (2 : Int32), vr b2_b] [] _
    refine XS.aload X6.here hx rfl (hb hby d6_139) rfl rfl ?_
    show SS p e below m T6 141 #[vr a1, vi (1 : Int32), vi q0, vi q1, vi q2, vi ql, vi (1 : Int32), vi (2 : Int32), vr b2_b] [(.ref b2_b)] _
    refine st7.trans ?_
    show SS p e below m T7 146 #[vr a1, vi (1 : Int32), vi q0, vi q1, vi q2, vi ql, vi (1 : Int32), vi (2 : Int32), vr b2_b] [(.int (1 : Int32))] _
    refine XS.ifNo X7.here hx rfl (hb hby d6_146) rfl ((if0 _ _).trans (feq (by decide)).1) ?_
    show SS p e below m T7 149 #[vr a1, vi (1 : Int32), vi q0, vi q1, vi q2, vi ql, vi (1 : Int32), vi (2 : Int32), vr b2_b] [] _
    refine XS.aload X7.here hx rfl (hb hby d6_149) rfl rfl ?_
    show SS p e below m T7 151 #[vr a1, vi (1 : Int32), vi q0, vi q1, vi q2, vi ql, vi (1 : Int32), vi (2 : Int32), vr b2_b] [(.ref b2_b)] _
    refine st8.trans ?_
    show SS p e below m T8 156 #[vr a1, vi (1 : Int32), vi q0, vi q1, vi q2, vi ql, vi (1 : Int32), vi (2 : Int32), vr b2_b] [(.ref x1)] _
    refine st9 _ ?_
    show SS p e below m T9 159 #[vr a1, vi (1 : Int32), vi q0, vi q1, vi q2, vi ql, vi (1 : Int32), vi (2 : Int32), vr b2_b] [(.ref x1)] _
    refine st10.trans ?_
    show SS p e below m T10 162 #[vr a1, vi (1 : Int32), vi q0, vi q1, vi q2, vi ql, vi (1 : Int32), vi (2 : Int32), vr b2_b] [(.int ql)] _
    refine XS.iload X10.here hx rfl (hb hby d6_162) rfl ?_
    show SS p e below m T10 164 #[vr a1, vi (1 : Int32), vi q0, vi q1, vi q2, vi ql, vi (1 : Int32), vi (2 : Int32), vr b2_b] [(.int ql), (.int ql)] _
    refine XS.icmpYes X10.here hx rfl (pc0 := 164) (pc' := 169) rfl (hb hby d6_164) rfl (teq rfl).1 (by decide) (by decide) ?_
    show SS p e below m T10 169 #[vr a1, vi (1 : Int32), vi q0, vi q1, vi q2, vi ql, vi (1 : Int32), vi (2 : Int32), vr b2_b] [] _
    refine XS.aload X10.here hx rfl (hb hby d6_169) rfl rfl ?_
    show SS p e below m T10 171 #[vr a1, vi (1 : Int32), vi q0, vi q1, vi q2, vi ql, vi (1 : Int32), vi (2 : Int32), vr b2_b] [(.ref b2_b)] _
    refine st11.trans ?_
    show SS p e below m T11 176 #[vr a1, vi (1 : Int32), vi q0, vi q1, vi q2, vi ql, vi (1 : Int32), vi (2 : Int32), vr b2_b] [(.int (0 : Int32))] _
    refine XS.ifNo X11.here hx rfl (hb hby d6_176) rfl ((if0 _ _).trans (teq (by decide)).2) ?_
    show SS p e below m T11 179 #[vr a1, vi (1 : Int32), vi q0, vi q1, vi q2, vi ql, vi (1 : Int32), vi (2 : Int32), vr b2_b] [] _
    refine XS.iconst X11.here hx rfl (hb hby d6_179) ?_
    show SS p e below m T11 180 #[vr a1, vi (1 : Int32), vi q0, vi q1, vi q2, vi ql, vi (1 : Int32), vi (2 : Int32), vr b2_b] [(.int (1 : Int32))] _
    refine XS.goto X11.here hx rfl (pc0 := 180) (pc' := 184) rfl (hb hby d6_180) (by decide) (by decide) ?_
    show SS p e below m T11 184 #[vr a1, vi (1 : Int32), vi q0, vi q1, vi q2, vi ql, vi (1 : Int32), vi (2 : Int32), vr b2_b] [(.int (1 : Int32))] _
    exact retN X11 hx (t := .boolean) Bd.returns (by simp) (hb hby d6_184) hr
  · show Q_rmH11 Z a1 q0 q1 q2 ql sto arr kk cap vs x0 x1 h0 n0 _ T11.heap _
    rw [e11]
    exact ⟨rfl, N11, KC⟩
theorem d6_70 : decode method_2_code 70 = .ok (.aload 8, 2) := by decide +kernel
theorem d6_72 : decode method_2_code 72 = .ok (.invokeinterface 17 1, 5) := by decide +kernel
theorem d6_77 : decode method_2_code 77 = .ok (.ifCond .eq 20, 3) := by decide +kernel
theorem d6_80 : decode method_2_code 80 = .ok (.aload 8, 2) := by decide +kernel
theorem d6_82 : decode method_2_code 82 = .ok (.invokeinterface 23 1, 5) := by decide +kernel
theorem d6_87 : decode method_2_code 87 = .ok (.checkcast 27, 3) := by decide +kernel
theorem d6_90 : decode method_2_code 90 = .ok (.invokevirtual 29, 3) := by decide +kernel
theorem d6_93 : decode method_2_code 93 = .ok (.iload_n 3, 1) := by decide +kernel
theorem d6_94 : decode method_2_code 94 = .ok (.if_icmp .eq 5, 3) := by decide +kernel
theorem ef_rmH20 (m : MethodId) (x0 : Addr) (x1 : Int32) (x2 : Int32) (x3 : Int32) (x4 : Int32) (x5 : Int32) (x6 : Int32) : entryFrame m #[(.ref x0), (.int x1), (.int x2), (.int x3), (.int x4), (.int x5), (.int x6)] 9 = mkF m 0 #[vr x0, vi x1, vi x2, vi x3, vi x4, vi x5, vi x6, .unset, .unset] [] := by first | (simp [entryFrame, mkF, argsToLocals, Value.category]; done) | rfl
def Q_rmH20 (Z : State) (a1 : Addr) (q0 : Int32) (q1 : Int32) (q2 : Int32) (ql : Int32) (sto : Addr) (arr : Addr) (kk : ClassId) (cap : Int32) (vs : List Value) (x0 : Addr) (x1 : Addr) (h0 : Heap) (n0 : Nat) (v : Option Value) (h : Heap) (L : List Loc) : Prop := (v = some (.int (1 : Int32))) ∧ (Fr n0 L) ∧ (Keep h0 h [])
set_option maxRecDepth 65536 in
set_option maxHeartbeats 40000000 in
theorem rmH20 (l : Launch) (Z : State) (a0 : Array Value) (hw : ∀ d ∈ tables_1, d.before a0 Z = true) (ws : List Jvm.Cond) (a1 : Addr) (q0 : Int32) (q1 : Int32) (q2 : Int32) (ql : Int32) (sto : Addr) (arr : Addr) (kk : ClassId) (cap : Int32) (vs : List Value) (x0 : Addr) (x1 : Addr) (h0 : Heap) (n0 : Nat) (Z0 : n0 ≤ h0.size) (O0 : Old Z n0 h0) (F_size_a1 : Fld Z h0 a1 "com/example/brisk_tableau/brisktableau/tableau/SharedList" "size" "I" (.int (2 : Int32))) (F_store_a1 : Fld Z h0 a1 "com/example/brisk_tableau/brisktableau/tableau/SharedList" "store" "Lcom/example/brisk_tableau/brisktableau/tableau/SharedList$Store;" (.ref sto)) (E_a1 : Exa Z h0 a1 "com/example/brisk_tableau/brisktableau/tableau/SharedList") (F_items_sto : Fld Z h0 sto "com/example/brisk_tableau/brisktableau/tableau/SharedList$Store" "items" "[Ljava/lang/Object;" (.ref arr)) (E_arr : Exa Z h0 arr "[Ljava/lang/Object;") (V_arr : Arv Z h0 arr kk (.object "java/lang/Object") cap vs .null) (E_x0 : Exa Z h0 x0 "java/lang/Integer") (F_value_x0 : Fld Z h0 x0 "java/lang/Integer" "value" "I" (.int q0)) (hX0 : vs.getD (0 : Int32).toNatClampNeg .null = .ref x0) (hD0 : (0 : Int32) < cap) (E_x1 : Exa Z h0 x1 "java/lang/Integer") (F_value_x1 : Fld Z h0 x1 "java/lang/Integer" "value" "I" (.int q1)) (hX1 : vs.getD (1 : Int32).toNatClampNeg .null = .ref x1) (hD1 : (1 : Int32) < cap) :
    MetFree l y_20 (head1 (Jvm.Cond.code y_20 method_2_code 9 (some .boolean) :: ws) ({ frames := 3, cells := 1, slots := 3, locals := 42 } : Room)) (fun a U => a = #[(.ref a1), (.int (2 : Int32)), (.int q0), (.int q1), (.int q2), (.int ql), (.int (0 : Int32))] ∧ Z.Warmed39 U.vm ∧ U.heap = h0) (fun _ _ _ _ _ => True) (fun _ U o U' => ∃ v L, o = .returned v ∧ Q_rmH20 Z a1 q0 q1 q2 ql sto arr kk cap vs x0 x1 h0 n0 v U'.heap L ∧ FrameEnd U o U' L ({ frames := 3, cells := 1, slots := 3, locals := 42 } : Room).cells ({ frames := 3, cells := 1, slots := 3, locals := 42 } : Room).slots) := by
  refine MetFree.of_bodySF (plainFor_of_name pn_7) hisR ?_
  intro p e s m args below meth c s₁ Bd hml0 hP hK
  obtain ⟨rfl, hZ, hh⟩ := hP
  have hx := Bd.exec
  have hby := Bd.bytes
  have hml : c.maxLocals = 9 := hml0
  have hown : s.vm.findClass "com/example/brisk_tableau/brisktableau/tableau/SharedListCopyPinLaw" = some m.cls := findClass_of_methodNamed Bd.named
  have hnm := (name_of_methodNamed Bd.named Bd.method).1
  have X0 : Stand p l e ({ frames := 3, cells := 1, slots := 3, locals := 42 } : Room) s m #[(.ref a1), (.int (2 : Int32)), (.int q0), (.int q1), (.int q2), (.int ql), (.int (0 : Int32))] below meth c s₁ [] 0 0 := Stand.of_body Bd
  have e0 : s₁.heap = h0 := by rw [← hh, Bd.state]; rfl
  have N0 := Fr.nil n0
  have KC : Keep h0 h0 [] := Keep.refl h0 _
  have pre0 : ∀ t, Steps p.tables e below (s₁.setTop (mkF m 0 #[vr a1, vi (2 : Int32), vi q0, vi q1, vi q2, vi ql, vi (0 : Int32), un, un] [])) t → Steps p.tables e below (s₁.setTop (entryFrame m #[(.ref a1), (.int (2 : Int32)), (.int q0), (.int q1), (.int q2), (.int ql), (.int (0 : Int32))] 9)) t := fun t k => castTop (ef_rmH20 m a1 (2 : Int32) q0 q1 q2 ql (0 : Int32)) k
  obtain ⟨cq1, kq1, q1a, q1b, q1c⟩ := isOf hZ e0 E_a1
  obtain ⟨_, _, ⟨T1, L1, k1, n1⟩, -, X1, ⟨Lc1, hQ1, l1, y1, z1⟩, st1⟩ := X0.virtualBack hx (y := y_18) (z := y_18) hown (mvT hZ (ww hw 39 rfl)) (mvT hZ (ww hw 40 rfl)) (notFace_of_selects (args := #[]) (mvT hZ (ww hw 42 rfl))) (mvT hZ (ww hw 42 rfl)) (mvT hZ (ww hw 41 rfl)) (by decide) (backOf (W := 0) (rmSz l Z a0 hw [] a1 (2 : Int32) h0 n0 (Nat.le_trans Z0 KC.1) O0 F_size_a1) hZ (ww hw 43 rfl) (ww hw 2 rfl) (by decide) (by decide)) q1a q1c (g := (mkF m 15 #[vr a1, vi (2 : Int32), vi q0, vi q1, vi q2, vi ql, vi (0 : Int32), vi (2 : Int32), un] [(.ref a1)])) rfl (by rw [hml]; rfl) (Steps.refl _) (argsL := []) (rest := []) (lenOf pd_9 rfl) rfl (by show 2 * 0 + _ ≤ _; exact Nat.le_of_eq rfl) (hb hby d6_15) (fun _ _ => ⟨rfl, e0, (by decide : 0 + 0 ≤ _), (by decide : 0 + 0 ≤ _)⟩)
  dsimp only [Pt.U, Pt.locs, Pt.cells, Pt.slots] at X1 l1 y1 z1 st1 hQ1
  subst l1 y1 z1
  obtain ⟨rfl, N1q, e1⟩ := hQ1
  have N1 := Fr.app N0 N1q
  obtain ⟨cq2, kq2, q2a, q2b, q2c⟩ := isOf hZ e1 E_a1
  obtain ⟨_, _, ⟨T2, L2, k2, n2⟩, -, X2, ⟨Lc2, hQ2, l2, y2, z2⟩, st2⟩ := X1.virtualBack hx (y := y_15) (z := y_15) hown (mvT hZ (ww hw 44 rfl)) (mvT hZ (ww hw 45 rfl)) (notFace_of_selects (args := #[]) (mvT hZ (ww hw 47 rfl))) (mvT hZ (ww hw 47 rfl)) (mvT hZ (ww hw 46 rfl)) (by decide) (backOf (W := 0) (rmIt l Z a0 hw [] a1 sto (2 : Int32) arr h0 n0 (Nat.le_trans Z0 KC.1) O0 F_store_a1 F_size_a1 F_items_sto) hZ (ww hw 48 rfl) (ww hw 2 rfl) (by decide) (by decide)) q2a q2c (g := (mkF m 26 #[vr a1, vi (2 : Int32), vi q0, vi q1, vi q2, vi ql, vi (0 : Int32), vi (2 : Int32), un] [(.ref a1)])) rfl (by rw [hml]; rfl) (Steps.refl _) (argsL := []) (rest := []) (lenOf pd_10 rfl) rfl (by show 2 * 0 + _ ≤ _; exact Nat.le_of_eq rfl) (hb hby d6_26) (fun _ _ => ⟨rfl, e1, (by decide : 0 + 1 ≤ _), (by decide : 0 + 3 ≤ _)⟩)
  dsimp only [Pt.U, Pt.locs, Pt.cells, Pt.slots] at X2 l2 y2 z2 st2 hQ2
  subst l2 y2 z2
  obtain ⟨b2_b, rfl, N2q, K2, sz_b2_b, E_b_2, F_val_length_b_2, F_val_items_b_2, F_next_b_2⟩ := hQ2
  have N2 := Fr.app N1 N2q
  have ne_a1_b2_b : a1 ≠ b2_b := Nat.ne_of_lt (Nat.lt_of_lt_of_le F_size_a1.lt sz_b2_b)
  have ne_sto_b2_b : sto ≠ b2_b := Nat.ne_of_lt (Nat.lt_of_lt_of_le F_items_sto.lt sz_b2_b)
  have ne_arr_b2_b : arr ≠ b2_b := Nat.ne_of_lt (Nat.lt_of_lt_of_le E_arr.lt sz_b2_b)
  have ne_x0_b2_b : x0 ≠ b2_b := Nat.ne_of_lt (Nat.lt_of_lt_of_le E_x0.lt sz_b2_b)
  have ne_x1_b2_b : x1 ≠ b2_b := Nat.ne_of_lt (Nat.lt_of_lt_of_le E_x1.lt sz_b2_b)
  have g_b2_b : n0 ≤ b2_b := Nat.le_trans (Nat.le_trans Z0 KC.1) sz_b2_b
  replace sz_b2_b : h0.size ≤ b2_b := Nat.le_trans KC.1 sz_b2_b
  replace F_size_a1 := F_size_a1.keep K2 nin0
  replace F_store_a1 := F_store_a1.keep K2 nin0
  replace E_a1 := E_a1.keep K2
  replace F_items_sto := F_items_sto.keep K2 nin0
  replace E_arr := E_arr.keep K2
  replace V_arr := V_arr.keep K2 nin0
  replace E_x0 := E_x0.keep K2
  replace F_value_x0 := F_value_x0.keep K2 nin0
  replace E_x1 := E_x1.keep K2
  replace F_value_x1 := F_value_x1.keep K2 nin0
  replace O0 := O0.keep K2 all0
  replace KC := KC.trans K2 all0
  obtain ⟨cq3, kq3, q3a, q3b, q3c⟩ := isOf hZ rfl E_b_2
  obtain ⟨_, _, ⟨T3, L3, k3, n3⟩, -, X3, ⟨Lc3, hQ3, l3, y3, z3⟩, st3⟩ := X2.interfaceBack hx (xi := y_19) (y := y_16) hown (mvT hZ (ww hw 61 rfl)) (mvT hZ (ww hw 62 rfl)) (mvT hZ (ww hw 63 rfl)) (mvT hZ (ww hw 64 rfl)) (mvT hZ (ww hw 65 rfl)) (mvT hZ (ww hw 66 rfl)) (mvT hZ (ww hw 67 rfl)) (mvT hZ (ww hw 68 rfl)) (by decide) (backOf (W := 0) (rmHn l Z a0 hw [] b2_b (0 : Int32) (2 : Int32) (1 : Int32) T2.heap n0 (Nat.le_trans Z0 KC.1) O0 F_next_b_2 F_val_length_b_2 (by decide)) hZ (ww hw 69 rfl) (ww hw 52 rfl) (by decide) (by decide)) q3a q3b q3c (g := (mkF m 38 #[vr a1, vi (2 : Int32), vi q0, vi q1, vi q2, vi ql, vi (0 : Int32), vi (2 : Int32), vr b2_b] [(.ref b2_b)])) rfl (by rw [hml]; rfl) (Steps.refl _) (argsL := []) (rest := []) (lenOf pd_11 rfl) rfl (by show 2 * 0 + _ ≤ _; exact Nat.le_of_eq rfl) (hb hby d6_38) (fun _ _ => ⟨rfl, rfl, (by decide : 1 + 0 ≤ _), (by decide : 3 + 0 ≤ _)⟩)
  dsimp only [Pt.U, Pt.locs, Pt.cells, Pt.slots] at X3 l3 y3 z3 st3 hQ3
  subst l3 y3 z3
  obtain ⟨rfl, N3q, e3⟩ := hQ3
  have N3 := Fr.app N2 N3q
  obtain ⟨cq4, kq4, q4a, q4b, q4c⟩ := isOf hZ e3 E_b_2
  obtain ⟨_, _, ⟨T4, L4, k4, n4⟩, -, X4, ⟨Lc4, hQ4, l4, y4, z4⟩, st4⟩ := X3.interfaceBack hx (xi := y_21) (y := y_17) hown (mvT hZ (ww hw 116 rfl)) (mvT hZ (ww hw 117 rfl)) (mvT hZ (ww hw 118 rfl)) (mvT hZ (ww hw 119 rfl)) (mvT hZ (ww hw 120 rfl)) (mvT hZ (ww hw 121 rfl)) (mvT hZ (ww hw 122 rfl)) (mvT hZ (ww hw 68 rfl)) (by decide) (backOf (W := 0) (rmNx l Z a0 hw [] b2_b (0 : Int32) (2 : Int32) arr kk cap vs x0 (1 : Int32) T2.heap n0 (Nat.le_trans Z0 KC.1) O0 F_next_b_2 F_val_length_b_2 F_val_items_b_2 E_b_2 E_arr V_arr g_b2_b (by decide) (by decide) hD0 hX0 (by decide)) hZ (ww hw 123 rfl) (ww hw 52 rfl) (by decide) (by decide)) q4a q4b q4c (g := (mkF m 48 #[vr a1, vi (2 : Int32), vi q0, vi q1, vi q2, vi ql, vi (0 : Int32), vi (2 : Int32), vr b2_b] [(.ref b2_b)])) rfl (by rw [hml]; rfl) (Steps.refl _) (argsL := []) (rest := []) (lenOf pd_12 rfl) rfl (by show 2 * 0 + _ ≤ _; exact Nat.le_of_eq rfl) (hb hby d6_48) (fun _ _ => ⟨rfl, e3, (by decide : 1 + 0 ≤ _), (by decide : 3 + 0 ≤ _)⟩)
  dsimp only [Pt.U, Pt.locs, Pt.cells, Pt.slots] at X4 l4 y4 z4 st4 hQ4
  subst l4 y4 z4
  obtain ⟨rfl, N4q, K4, F_next_a1_4, F_val_length_a1_4, F_val_items_a1_4⟩ := hQ4
  have N4 := Fr.app N3 N4q
  replace F_size_a1 := F_size_a1.keep K4 (ninS ne_a1_b2_b nin0)
  replace F_store_a1 := F_store_a1.keep K4 (ninS ne_a1_b2_b nin0)
  replace E_a1 := E_a1.keep K4
  replace F_items_sto := F_items_sto.keep K4 (ninS ne_sto_b2_b nin0)
  replace E_arr := E_arr.keep K4
  replace V_arr := V_arr.keep K4 (ninS ne_arr_b2_b nin0)
  replace E_x0 := E_x0.keep K4
  replace F_value_x0 := F_value_x0.keep K4 (ninS ne_x0_b2_b nin0)
  replace E_x1 := E_x1.keep K4
  replace F_value_x1 := F_value_x1.keep K4 (ninS ne_x1_b2_b nin0)
  replace E_b_2 := E_b_2.keep K4
  replace O0 := O0.keep K4 (allS g_b2_b all0)
  replace KC := KC.trans K4 (allS (Or.inr sz_b2_b) all0)
  obtain ⟨T5, X5, e5, st5⟩ := castY X4 hx hZ hown (ww hw 124 rfl) rfl (Ins.self E_x0) (g := (mkF m 53 #[vr a1, vi (2 : Int32), vi q0, vi q1, vi q2, vi ql, vi (0 : Int32), vi (2 : Int32), vr b2_b] [(.ref x0)])) rfl rfl (hb hby d6_53)
  obtain ⟨cq6, kq6, q6a, q6b, q6c⟩ := isOf hZ e5 E_x0
  obtain ⟨_, _, ⟨T6, L6, k6, n6⟩, -, X6, ⟨Lc6, hQ6, l6, y6, z6⟩, st6⟩ := X5.virtualBack hx (y := y_6) (z := y_6) hown (mvT hZ (ww hw 126 rfl)) (mvT hZ (ww hw 127 rfl)) (notFace_of_selects (args := #[]) (mvT hZ (ww hw 129 rfl))) (mvT hZ (ww hw 129 rfl)) (mvT hZ (ww hw 128 rfl)) (by decide) (backOf (W := 0) (rmIv l Z a0 hw [] x0 q0 T4.heap n0 (Nat.le_trans Z0 KC.1) O0 F_value_x0) hZ (ww hw 130 rfl) (ww hw 74 rfl) (by decide) (by decide)) q6a q6c (g := (mkF m 56 #[vr a1, vi (2 : Int32), vi q0, vi q1, vi q2, vi ql, vi (0 : Int32), vi (2 : Int32), vr b2_b] [(.ref x0)])) rfl (by rw [hml]; rfl) (Steps.refl _) (argsL := []) (rest := []) (lenOf pd_9 rfl) rfl (by show 2 * 0 + _ ≤ _; exact Nat.le_of_eq rfl) (hb hby d6_56) (fun _ _ => ⟨rfl, e5, (by decide : 1 + 0 ≤ _), (by decide : 3 + 0 ≤ _)⟩)
  dsimp only [Pt.U, Pt.locs, Pt.cells, Pt.slots] at X6 l6 y6 z6 st6 hQ6
  subst l6 y6 z6
  obtain ⟨rfl, N6q, e6⟩ := hQ6
  have N6 := Fr.app N4 N6q
  obtain ⟨cq7, kq7, q7a, q7b, q7c⟩ := isOf hZ e6 E_b_2
  obtain ⟨_, _, ⟨T7, L7, k7, n7⟩, -, X7, ⟨Lc7, hQ7, l7, y7, z7⟩, st7⟩ := X6.interfaceBack hx (xi := y_19) (y := y_16) hown (mvT hZ (ww hw 61 rfl)) (mvT hZ (ww hw 62 rfl)) (mvT hZ (ww hw 63 rfl)) (mvT hZ (ww hw 64 rfl)) (mvT hZ (ww hw 65 rfl)) (mvT hZ (ww hw 66 rfl)) (mvT hZ (ww hw 67 rfl)) (mvT hZ (ww hw 68 rfl)) (by decide) (backOf (W := 0) (rmHn l Z a0 hw [] b2_b (1 : Int32) (2 : Int32) (1 : Int32) T4.heap n0 (Nat.le_trans Z0 KC.1) O0 F_next_a1_4 F_val_length_a1_4 (by decide)) hZ (ww hw 69 rfl) (ww hw 52 rfl) (by decide) (by decide)) q7a q7b q7c (g := (mkF m 72 #[vr a1, vi (2 : Int32), vi q0, vi q1, vi q2, vi ql, vi (0 : Int32), vi (2 : Int32), vr b2_b] [(.ref b2_b)])) rfl (by rw [hml]; rfl) (Steps.refl _) (argsL := []) (rest := []) (lenOf pd_11 rfl) rfl (by show 2 * 0 + _ ≤ _; exact Nat.le_of_eq rfl) (hb hby d6_72) (fun _ _ => ⟨rfl, e6, (by decide : 1 + 0 ≤ _), (by decide : 3 + 0 ≤ _)⟩)
  dsimp only [Pt.U, Pt.locs, Pt.cells, Pt.slots] at X7 l7 y7 z7 st7 hQ7
  subst l7 y7 z7
  obtain ⟨rfl, N7q, e7⟩ := hQ7
  have N7 := Fr.app N6 N7q
  obtain ⟨cq8, kq8, q8a, q8b, q8c⟩ := isOf hZ e7 E_b_2
  obtain ⟨_, _, ⟨T8, L8, k8, n8⟩, -, X8, ⟨Lc8, hQ8, l8, y8, z8⟩, st8⟩ := X7.interfaceBack hx (xi := y_21) (y := y_17) hown (mvT hZ (ww hw 116 rfl)) (mvT hZ (ww hw 117 rfl)) (mvT hZ (ww hw 118 rfl)) (mvT hZ (ww hw 119 rfl)) (mvT hZ (ww hw 120 rfl)) (mvT hZ (ww hw 121 rfl)) (mvT hZ (ww hw 122 rfl)) (mvT hZ (ww hw 68 rfl)) (by decide) (backOf (W := 0) (rmNx l Z a0 hw [] b2_b (1 : Int32) (2 : Int32) arr kk cap vs x1 (2 : Int32) T4.heap n0 (Nat.le_trans Z0 KC.1) O0 F_next_a1_4 F_val_length_a1_4 F_val_items_a1_4 E_b_2 E_arr V_arr g_b2_b (by decide) (by decide) hD1 hX1 (by decide)) hZ (ww hw 123 rfl) (ww hw 52 rfl) (by decide) (by decide)) q8a q8b q8c (g := (mkF m 82 #[vr a1, vi (2 : Int32), vi q0, vi q1, vi q2, vi ql, vi (0 : Int32), vi (2 : Int32), vr b2_b] [(.ref b2_b)])) rfl (by rw [hml]; rfl) (Steps.refl _) (argsL := []) (rest := []) (lenOf pd_12 rfl) rfl (by show 2 * 0 + _ ≤ _; exact Nat.le_of_eq rfl) (hb hby d6_82) (fun _ _ => ⟨rfl, e7, (by decide : 1 + 0 ≤ _), (by decide : 3 + 0 ≤ _)⟩)
  dsimp only [Pt.U, Pt.locs, Pt.cells, Pt.slots] at X8 l8 y8 z8 st8 hQ8
  subst l8 y8 z8
  obtain ⟨rfl, N8q, K8, F_next_a1_8, F_val_length_a1_8, F_val_items_a1_8⟩ := hQ8
  have N8 := Fr.app N7 N8q
  replace F_size_a1 := F_size_a1.keep K8 (ninS ne_a1_b2_b nin0)
  replace F_store_a1 := F_store_a1.keep K8 (ninS ne_a1_b2_b nin0)
  replace E_a1 := E_a1.keep K8
  replace F_items_sto := F_items_sto.keep K8 (ninS ne_sto_b2_b nin0)
  replace E_arr := E_arr.keep K8
  replace V_arr := V_arr.keep K8 (ninS ne_arr_b2_b nin0)
  replace E_x0 := E_x0.keep K8
  replace F_value_x0 := F_value_x0.keep K8 (ninS ne_x0_b2_b nin0)
  replace E_x1 := E_x1.keep K8
  replace F_value_x1 := F_value_x1.keep K8 (ninS ne_x1_b2_b nin0)
  replace E_b_2 := E_b_2.keep K8
  replace O0 := O0.keep K8 (allS g_b2_b all0)
  replace KC := KC.trans K8 (allS (Or.inr sz_b2_b) all0)
  obtain ⟨T9, X9, e9, st9⟩ := castY X8 hx hZ hown (ww hw 124 rfl) rfl (Ins.self E_x1) (g := (mkF m 87 #[vr a1, vi (2 : Int32), vi q0, vi q1, vi q2, vi ql, vi (0 : Int32), vi (2 : Int32), vr b2_b] [(.ref x1)])) rfl rfl (hb hby d6_87)
  obtain ⟨cq10, kq10, q10a, q10b, q10c⟩ := isOf hZ e9 E_x1
  obtain ⟨_, _, ⟨T10, L10, k10, n10⟩, -, X10, ⟨Lc10, hQ10, l10, y10, z10⟩, st10⟩ := X9.virtualBack hx (y := y_6) (z := y_6) hown (mvT hZ (ww hw 126 rfl)) (mvT hZ (ww hw 127 rfl)) (notFace_of_selects (args := #[]) (mvT hZ (ww hw 129 rfl))) (mvT hZ (ww hw 129 rfl)) (mvT hZ (ww hw 128 rfl)) (by decide) (backOf (W := 0) (rmIv l Z a0 hw [] x1 q1 T8.heap n0 (Nat.le_trans Z0 KC.1) O0 F_value_x1) hZ (ww hw 130 rfl) (ww hw 74 rfl) (by decide) (by decide)) q10a q10c (g := (mkF m 90 #[vr a1, vi (2 : Int32), vi q0, vi q1, vi q2, vi ql, vi (0 : Int32), vi (2 : Int32), vr b2_b] [(.ref x1)])) rfl (by rw [hml]; rfl) (Steps.refl _) (argsL := []) (rest := []) (lenOf pd_9 rfl) rfl (by show 2 * 0 + _ ≤ _; exact Nat.le_of_eq rfl) (hb hby d6_90) (fun _ _ => ⟨rfl, e9, (by decide : 1 + 0 ≤ _), (by decide : 3 + 0 ≤ _)⟩)
  dsimp only [Pt.U, Pt.locs, Pt.cells, Pt.slots] at X10 l10 y10 z10 st10 hQ10
  subst l10 y10 z10
  obtain ⟨rfl, N10q, e10⟩ := hQ10
  have N10 := Fr.app N8 N10q
  obtain ⟨cq11, kq11, q11a, q11b, q11c⟩ := isOf hZ e10 E_b_2
  obtain ⟨_, _, ⟨T11, L11, k11, n11⟩, -, X11, ⟨Lc11, hQ11, l11, y11, z11⟩, st11⟩ := X10.interfaceBack hx (xi := y_19) (y := y_16) hown (mvT hZ (ww hw 61 rfl)) (mvT hZ (ww hw 62 rfl)) (mvT hZ (ww hw 63 rfl)) (mvT hZ (ww hw 64 rfl)) (mvT hZ (ww hw 65 rfl)) (mvT hZ (ww hw 66 rfl)) (mvT hZ (ww hw 67 rfl)) (mvT hZ (ww hw 68 rfl)) (by decide) (backOf (W := 0) (rmHn l Z a0 hw [] b2_b (2 : Int32) (2 : Int32) (0 : Int32) T8.heap n0 (Nat.le_trans Z0 KC.1) O0 F_next_a1_8 F_val_length_a1_8 (by decide)) hZ (ww hw 69 rfl) (ww hw 52 rfl) (by decide) (by decide)) q11a q11b q11c (g := (mkF m 171 #[vr a1, vi (2 : Int32), vi q0, vi q1, vi q2, vi ql, vi (0 : Int32), vi (2 : Int32), vr b2_b] [(.ref b2_b)])) rfl (by rw [hml]; rfl) (Steps.refl _) (argsL := []) (rest := []) (lenOf pd_11 rfl) rfl (by show 2 * 0 + _ ≤ _; exact Nat.le_of_eq rfl) (hb hby d6_171) (fun _ _ => ⟨rfl, e10, (by decide : 1 + 0 ≤ _), (by decide : 3 + 0 ≤ _)⟩)
  dsimp only [Pt.U, Pt.locs, Pt.cells, Pt.slots] at X11 l11 y11 z11 st11 hQ11
  subst l11 y11 z11
  obtain ⟨rfl, N11q, e11⟩ := hQ11
  have N11 := Fr.app N10 N11q
  obtain ⟨fs, hr, hrun, hended, hW, hsame⟩ := X11.leave (v := some (.int (1 : Int32))) (fun h => by rw [Bd.returns] at h; cases h)
  refine ⟨_, _, pre0 _ ?_, hrun, hended, _, _, rfl, ?_, ⟨_, rfl⟩, hW, hsame.mono (by decide) (by decide)⟩
  · show SS p e below m s₁ 0 #[vr a1, vi (2 : Int32), vi q0, vi q1, vi q2, vi ql, vi (0 : Int32), un, un] [] _
    refine XS.iload X0.here hx rfl (hb hby d6_0) rfl ?_
    show SS p e below m s₁ 2 #[vr a1, vi (2 : Int32), vi q0, vi q1, vi q2, vi ql, vi (0 : Int32), un, un] [(.int (0 : Int32))] _
    refine XS.ifYes X0.here hx rfl (pc0 := 2) (pc' := 11) rfl (hb hby d6_2) rfl ((if0 _ _).trans (teq (by decide)).1) (by decide) (by decide) ?_
    show SS p e below m s₁ 11 #[vr a1, vi (2 : Int32), vi q0, vi q1, vi q2, vi ql, vi (0 : Int32), un, un] [] _
    refine XS.iloadN X0.here hx rfl (hb hby d6_11) rfl ?_
    show SS p e below m s₁ 12 #[vr a1, vi (2 : Int32), vi q0, vi q1, vi q2, vi ql, vi (0 : Int32), un, un] [(.int (2 : Int32))] _
    refine XS.istore X0.here hx rfl (hb hby d6_12) rfl (l' := #[vr a1, vi (2 : Int32), vi q0, vi q1, vi q2, vi ql, vi (0 : Int32), vi (2 : Int32), un]) rfl ?_
    show SS p e below m s₁ 14 #[vr a1, vi (2 : Int32), vi q0, vi q1, vi q2, vi ql, vi (0 : Int32), vi (2 : Int32), un] [] _
    refine XS.aloadN X0.here hx rfl (hb hby d6_14) rfl rfl ?_
    show SS p e below m s₁ 15 #[vr a1, vi (2 : Int32), vi q0, vi q1, vi q2, vi ql, vi (0 : Int32), vi (2 : Int32), un] [(.ref a1)] _
    refine st1.trans ?_
    show SS p e below m T1 18 #[vr a1, vi (2 : Int32), vi q0, vi q1, vi q2, vi ql, vi (0 : Int32), vi (2 : Int32), un] [(.int (2 : Int32))] _
    refine XS.iload X1.here hx rfl (hb hby d6_18) rfl ?_
    show SS p e below m T1 20 #[vr a1, vi (2 : Int32), vi q0, vi q1, vi q2, vi ql, vi (0 : Int32), vi (2 : Int32), un] [(.int (2 : Int32)), (.int (2 : Int32))] _
    refine XS.icmpYes X1.here hx rfl (pc0 := 20) (pc' := 25) rfl (hb hby d6_20) rfl (teq (by decide)).1 (by decide) (by decide) ?_
    show SS p e below m T1 25 #[vr a1, vi (2 : Int32), vi q0, vi q1, vi q2, vi ql, vi (0 : Int32), vi (2 : Int32), un] [] _
    refine XS.aloadN X1.here hx rfl (hb hby d6_25) rfl rfl ?_
    show SS p e below m T1 26 #[vr a1, vi (2 : Int32), vi q0, vi q1, vi q2, vi ql, vi (0 : Int32), vi (2 : Int32), un] [(.ref a1)] _
    refine st2.trans ?_
    show SS p e below m T2 29 #[vr a1, vi (2 : Int32), vi q0, vi q1, vi q2, vi ql, vi (0 : Int32), vi (2 : Int32), un] [(.ref b2_b)] _
    refine XS.astore X2.here hx rfl (hb hby d6_29) rfl rfl (l' := #[vr a1, vi (2 : Int32), vi q0, vi q1, vi q2, vi ql, vi (0 : Int32), vi (2 : Int32), vr b2_b]) rfl ?_
    show SS p e below m T2 31 #[vr a1, vi (2 : Int32), vi q0, vi q1, vi q2, vi ql, vi (0 : Int32), vi (2 : Int32), vr b2_b] [] _
    refine XS.iloadN X2.here hx rfl (hb hby d6_31) rfl ?_
    show SS p e below m T2 32 #[vr a1, vi (2 : Int32), vi q0, vi q1, vi q2, vi ql, vi (0 : Int32), vi (2 : Int32), vr b2_b] [(.int (2 : Int32))] _
    refine XS.iconst X2.here hx rfl (hb hby d6_32) ?_
    show SS p e below m T2 33 #[vr a1, vi (2 : Int32), vi q0, vi q1, vi q2, vi ql, vi (0 : Int32), vi (2 : Int32), vr b2_b] [(.int (1 : Int32)), (.int (2 : Int32))] _
    refine XS.icmpNo X2.here hx rfl (hb hby d6_33) rfl (flt (by decide)).1 ?_
    show SS p e below m T2 36 #[vr a1, vi (2 : Int32), vi q0, vi q1, vi q2, vi ql, vi (0 : Int32), vi (2 : Int32), vr b2_b] [] _
    refine XS.aload X2.here hx rfl (hb hby d6_36) rfl rfl ?_
    show SS p e below m T2 38 #[vr a1, vi (2 : Int32), vi q0, vi q1, vi q2, vi ql, vi (0 : Int32), vi (2 : Int32), vr b2_b] [(.ref b2_b)] _
    refine st3.trans ?_
    show SS p e below m T3 43 #[vr a1, vi (2 : Int32), vi q0, vi q1, vi q2, vi ql, vi (0 : Int32), vi (2 : Int32), vr b2_b] [(.int (1 : Int32))] _
    refine XS.ifNo X3.here hx rfl (hb hby d6_43) rfl ((if0 _ _).trans (feq (by decide)).1) ?_
    show SS p e below m T3 46 #[vr a1, vi (2 : Int32), vi q0, vi q1, vi q2, vi ql, vi (0 : Int32), vi (2 : Int32), vr b2_b] [] _
    refine XS.aload X3.here hx rfl (hb hby d6_46) rfl rfl ?_
    show SS p e below m T3 48 #[vr a1, vi (2 : Int32), vi q0, vi q1, vi q2, vi ql, vi (0 : Int32), vi (2 : Int32), vr b2_b] [(.ref b2_b)] _
    refine st4.trans ?_
    show SS p e below m T4 53 #[vr a1, vi (2 : Int32), vi q0, vi q1, vi q2, vi ql, vi (0 : Int32), vi (2 : Int32), vr b2_b] [(.ref x0)] _
    refine st5 _ ?_
    show SS p e below m T5 56 #[vr a1, vi (2 : Int32), vi q0, vi q1, vi q2, vi ql, vi (0 : Int32), vi (2 : Int32), vr b2_b] [(.ref x0)] _
    refine st6.trans ?_
    show SS p e below m T6 59 #[vr a1, vi (2 : Int32), vi q0, vi q1, vi q2, vi ql, vi (0 : Int32), vi (2 : Int32), vr b2_b] [(.int q0)] _
    refine XS.iloadN X6.here hx rfl (hb hby d6_59) rfl ?_
    show SS p e below m T6 60 #[vr a1, vi (2 : Int32), vi q0, vi q1, vi q2, vi ql, vi (0 : Int32), vi (2 : Int32), vr b2_b] [(.int q0), (.int q0)] _
    refine XS.icmpYes X6.here hx rfl (pc0 := 60) (pc' := 65) rfl (hb hby d6_60) rfl (teq rfl).1 (by decide) (by decide) ?_
    show SS p e below m T6 65 #[vr a1, vi (2 : Int32), vi q0, vi q1, vi q2, vi ql, vi (0 : Int32), vi (2 : Int32), vr b2_b] [] _
    refine XS.iloadN X6.here hx rfl (hb hby d6_65) rfl ?_
    show SS p e below m T6 66 #[vr a1, vi (2 : Int32), vi q0, vi q1, vi q2, vi ql, vi (0 : Int32), vi (2 : Int32), vr b2_b] [(.int (2 : Int32))] _
    refine XS.iconst X6.here hx rfl (hb hby d6_66) ?_
    show SS p e below m T6 67 #[vr a1, vi (2 : Int32), vi q0, vi q1, vi q2, vi ql, vi (0 : Int32), vi (2 : Int32), vr b2_b] [(.int (2 : Int32)), (.int (2 : Int32))] _
    refine XS.icmpNo X6.here hx rfl (hb hby d6_67) rfl (flt (by decide)).1 ?_
    show SS p e below m T6 70 #[vr a1, vi (2 : Int32), vi q0, vi q1, vi q2, vi ql, vi (0 : Int32), vi (2 : Int32), vr b2_b] [] _
    refine XS.aload X6.here hx rfl (hb hby d6_70) rfl rfl ?_
    show SS p e below m T6 72 #[vr a1, vi (2 : Int32), vi q0, vi q1, vi q2, vi ql, vi (0 : Int32), vi (2 : Int32), vr b2_b] [(.ref b2_b)] _
    refine st7.trans ?_
    show SS p e below m T7 77 #[vr a1, vi (2 : Int32), vi q0, vi q1, vi q2, vi ql, vi (0 : Int32), vi (2 : Int32), vr b2_b] [(.int (1 : Int32))] _
    refine XS.ifNo X7.here hx rfl (hb hby d6_77) rfl ((if0 _ _).trans (feq (by decide)).1) ?_
    show SS p e below m T7 80 #[vr a1, vi (2 : Int32), vi q0, vi q1, vi q2, vi ql, vi (0 : Int32), vi (2 : Int32), vr b2_b] [] _
    refine XS.aload X7.here hx rfl (hb hby d6_80) rfl rfl ?_
    show SS p e below m T7 82 #[vr a1, vi (2 : Int32), vi q0, vi q1, vi q2, vi ql, vi (0 : Int32), vi (2 : Int32), vr b2_b] [(.ref b2_b)] _
    refine st8.trans ?_
    show SS p e below m T8 87 #[vr a1, vi (2 : Int32), vi q0, vi q1, vi q2, vi ql, vi (0 : Int32), vi (2 : Int32), vr b2_b] [(.ref x1)] _
    refine st9 _ ?_
    show SS p e below m T9 90 #[vr a1, vi (2 : Int32), vi q0, vi q1, vi q2, vi ql, vi (0 : Int32), vi (2 : Int32), vr b2_b] [(.ref x1)] _
    refine st10.trans ?_
    show SS p e below m T10 93 #[vr a1, vi (2 : Int32), vi q0, vi q1, vi q2, vi ql, vi (0 : Int32), vi (2 : Int32), vr b2_b] [(.int q1)] _
    refine XS.iloadN X10.here hx rfl (hb hby d6_93) rfl ?_
    show SS p e below m T10 94 #[vr a1, vi (2 : Int32), vi q0, vi q1, vi q2, vi ql, vi (0 : Int32), vi (2 : Int32), vr b2_b] [(.int q1), (.int q1)] _
    refine XS.icmpYes X10.here hx rfl (pc0 := 94) (pc' := 99) rfl (hb hby d6_94) rfl (teq rfl).1 (by decide) (by decide) ?_
    show SS p e below m T10 99 #[vr a1, vi (2 : Int32), vi q0, vi q1, vi q2, vi ql, vi (0 : Int32), vi (2 : Int32), vr b2_b] [] _
    refine XS.iloadN X10.here hx rfl (hb hby d6_99) rfl ?_
    show SS p e below m T10 100 #[vr a1, vi (2 : Int32), vi q0, vi q1, vi q2, vi ql, vi (0 : Int32), vi (2 : Int32), vr b2_b] [(.int (2 : Int32))] _
    refine XS.iconst X10.here hx rfl (hb hby d6_100) ?_
    show SS p e below m T10 101 #[vr a1, vi (2 : Int32), vi q0, vi q1, vi q2, vi ql, vi (0 : Int32), vi (2 : Int32), vr b2_b] [(.int (3 : Int32)), (.int (2 : Int32))] _
    refine XS.icmpYes X10.here hx rfl (pc0 := 101) (pc' := 134) rfl (hb hby d6_101) rfl (tlt (by decide)).1 (by decide) (by decide) ?_
    show SS p e below m T10 134 #[vr a1, vi (2 : Int32), vi q0, vi q1, vi q2, vi ql, vi (0 : Int32), vi (2 : Int32), vr b2_b] [] _
    refine XS.iload X10.here hx rfl (hb hby d6_134) rfl ?_
    show SS p e below m T10 136 #[vr a1, vi (2 : Int32), vi q0, vi q1, vi q2, vi ql, vi (0 : Int32), vi (2 : Int32), vr b2_b] [(.int (0 : Int32))] _
    refine XS.ifYes X10.here hx rfl (pc0 := 136) (pc' := 169) rfl (hb hby d6_136) rfl ((if0 _ _).trans (teq (by decide)).1) (by decide) (by decide) ?_
    show SS p e below m T10 169 #[vr a1, vi (2 : Int32), vi q0, vi q1, vi q2, vi ql, vi (0 : Int32), vi (2 : Int32), vr b2_b] [] _
    refine XS.aload X10.here hx rfl (hb hby d6_169) rfl rfl ?_
    show SS p e below m T10 171 #[vr a1, vi (2 : Int32), vi q0, vi q1, vi q2, vi ql, vi (0 : Int32), vi (2 : Int32), vr b2_b] [(.ref b2_b)] _
    refine st11.trans ?_
    show SS p e below m T11 176 #[vr a1, vi (2 : Int32), vi q0, vi q1, vi q2, vi ql, vi (0 : Int32), vi (2 : Int32), vr b2_b] [(.int (0 : Int32))] _
    refine XS.ifNo X11.here hx rfl (hb hby d6_176) rfl ((if0 _ _).trans (teq (by decide)).2) ?_
    show SS p e below m T11 179 #[vr a1, vi (2 : Int32), vi q0, vi q1, vi q2, vi ql, vi (0 : Int32), vi (2 : Int32), vr b2_b] [] _
    refine XS.iconst X11.here hx rfl (hb hby d6_179) ?_
    show SS p e below m T11 180 #[vr a1, vi (2 : Int32), vi q0, vi q1, vi q2, vi ql, vi (0 : Int32), vi (2 : Int32), vr b2_b] [(.int (1 : Int32))] _
    refine XS.goto X11.here hx rfl (pc0 := 180) (pc' := 184) rfl (hb hby d6_180) (by decide) (by decide) ?_
    show SS p e below m T11 184 #[vr a1, vi (2 : Int32), vi q0, vi q1, vi q2, vi ql, vi (0 : Int32), vi (2 : Int32), vr b2_b] [(.int (1 : Int32))] _
    exact retN X11 hx (t := .boolean) Bd.returns (by simp) (hb hby d6_184) hr
  · show Q_rmH20 Z a1 q0 q1 q2 ql sto arr kk cap vs x0 x1 h0 n0 _ T11.heap _
    rw [e11]
    exact ⟨rfl, N11, KC⟩
theorem ef_rmH21 (m : MethodId) (x0 : Addr) (x1 : Int32) (x2 : Int32) (x3 : Int32) (x4 : Int32) (x5 : Int32) (x6 : Int32) : entryFrame m #[(.ref x0), (.int x1), (.int x2), (.int x3), (.int x4), (.int x5), (.int x6)] 9 = mkF m 0 #[vr x0, vi x1, vi x2, vi x3, vi x4, vi x5, vi x6, .unset, .unset] [] := by first | (simp [entryFrame, mkF, argsToLocals, Value.category]; done) | rfl
def Q_rmH21 (Z : State) (a1 : Addr) (q0 : Int32) (q1 : Int32) (q2 : Int32) (ql : Int32) (sto : Addr) (arr : Addr) (kk : ClassId) (cap : Int32) (vs : List Value) (x0 : Addr) (x1 : Addr) (x2 : Addr) (h0 : Heap) (n0 : Nat) (v : Option Value) (h : Heap) (L : List Loc) : Prop := (v = some (.int (1 : Int32))) ∧ (Fr n0 L) ∧ (Keep h0 h [])
set_option maxRecDepth 65536 in
set_option maxHeartbeats 40000000 in
theorem rmH21 (l : Launch) (Z : State) (a0 : Array Value) (hw : ∀ d ∈ tables_1, d.before a0 Z = true) (ws : List Jvm.Cond) (a1 : Addr) (q0 : Int32) (q1 : Int32) (q2 : Int32) (ql : Int32) (sto : Addr) (arr : Addr) (kk : ClassId) (cap : Int32) (vs : List Value) (x0 : Addr) (x1 : Addr) (x2 : Addr) (h0 : Heap) (n0 : Nat) (Z0 : n0 ≤ h0.size) (O0 : Old Z n0 h0) (F_size_a1 : Fld Z h0 a1 "com/example/brisk_tableau/brisktableau/tableau/SharedList" "size" "I" (.int (3 : Int32))) (F_store_a1 : Fld Z h0 a1 "com/example/brisk_tableau/brisktableau/tableau/SharedList" "store" "Lcom/example/brisk_tableau/brisktableau/tableau/SharedList$Store;" (.ref sto)) (E_a1 : Exa Z h0 a1 "com/example/brisk_tableau/brisktableau/tableau/SharedList") (F_items_sto : Fld Z h0 sto "com/example/brisk_tableau/brisktableau/tableau/SharedList$Store" "items" "[Ljava/lang/Object;" (.ref arr)) (E_arr : Exa Z h0 arr "[Ljava/lang/Object;") (V_arr : Arv Z h0 arr kk (.object "java/lang/Object") cap vs .null) (E_x0 : Exa Z h0 x0 "java/lang/Integer") (F_value_x0 : Fld Z h0 x0 "java/lang/Integer" "value" "I" (.int q0)) (hX0 : vs.getD (0 : Int32).toNatClampNeg .null = .ref x0) (hD0 : (0 : Int32) < cap) (E_x1 : Exa Z h0 x1 "java/lang/Integer") (F_value_x1 : Fld Z h0 x1 "java/lang/Integer" "value" "I" (.int q1)) (hX1 : vs.getD (1 : Int32).toNatClampNeg .null = .ref x1) (hD1 : (1 : Int32) < cap) (E_x2 : Exa Z h0 x2 "java/lang/Integer") (F_value_x2 : Fld Z h0 x2 "java/lang/Integer" "value" "I" (.int ql)) (hX2 : vs.getD (2 : Int32).toNatClampNeg .null = .ref x2) (hD2 : (2 : Int32) < cap) :
    MetFree l y_20 (head1 (Jvm.Cond.code y_20 method_2_code 9 (some .boolean) :: ws) ({ frames := 3, cells := 1, slots := 3, locals := 42 } : Room)) (fun a U => a = #[(.ref a1), (.int (2 : Int32)), (.int q0), (.int q1), (.int q2), (.int ql), (.int (1 : Int32))] ∧ Z.Warmed39 U.vm ∧ U.heap = h0) (fun _ _ _ _ _ => True) (fun _ U o U' => ∃ v L, o = .returned v ∧ Q_rmH21 Z a1 q0 q1 q2 ql sto arr kk cap vs x0 x1 x2 h0 n0 v U'.heap L ∧ FrameEnd U o U' L ({ frames := 3, cells := 1, slots := 3, locals := 42 } : Room).cells ({ frames := 3, cells := 1, slots := 3, locals := 42 } : Room).slots) := by
  refine MetFree.of_bodySF (plainFor_of_name pn_7) hisR ?_
  intro p e s m args below meth c s₁ Bd hml0 hP hK
  obtain ⟨rfl, hZ, hh⟩ := hP
  have hx := Bd.exec
  have hby := Bd.bytes
  have hml : c.maxLocals = 9 := hml0
  have hown : s.vm.findClass "com/example/brisk_tableau/brisktableau/tableau/SharedListCopyPinLaw" = some m.cls := findClass_of_methodNamed Bd.named
  have hnm := (name_of_methodNamed Bd.named Bd.method).1
  have X0 : Stand p l e ({ frames := 3, cells := 1, slots := 3, locals := 42 } : Room) s m #[(.ref a1), (.int (2 : Int32)), (.int q0), (.int q1), (.int q2), (.int ql), (.int (1 : Int32))] below meth c s₁ [] 0 0 := Stand.of_body Bd
  have e0 : s₁.heap = h0 := by rw [← hh, Bd.state]; rfl
  have N0 := Fr.nil n0
  have KC : Keep h0 h0 [] := Keep.refl h0 _
  have pre0 : ∀ t, Steps p.tables e below (s₁.setTop (mkF m 0 #[vr a1, vi (2 : Int32), vi q0, vi q1, vi q2, vi ql, vi (1 : Int32), un, un] [])) t → Steps p.tables e below (s₁.setTop (entryFrame m #[(.ref a1), (.int (2 : Int32)), (.int q0), (.int q1), (.int q2), (.int ql), (.int (1 : Int32))] 9)) t := fun t k => castTop (ef_rmH21 m a1 (2 : Int32) q0 q1 q2 ql (1 : Int32)) k
  obtain ⟨cq1, kq1, q1a, q1b, q1c⟩ := isOf hZ e0 E_a1
  obtain ⟨_, _, ⟨T1, L1, k1, n1⟩, -, X1, ⟨Lc1, hQ1, l1, y1, z1⟩, st1⟩ := X0.virtualBack hx (y := y_18) (z := y_18) hown (mvT hZ (ww hw 39 rfl)) (mvT hZ (ww hw 40 rfl)) (notFace_of_selects (args := #[]) (mvT hZ (ww hw 42 rfl))) (mvT hZ (ww hw 42 rfl)) (mvT hZ (ww hw 41 rfl)) (by decide) (backOf (W := 0) (rmSz l Z a0 hw [] a1 (3 : Int32) h0 n0 (Nat.le_trans Z0 KC.1) O0 F_size_a1) hZ (ww hw 43 rfl) (ww hw 2 rfl) (by decide) (by decide)) q1a q1c (g := (mkF m 15 #[vr a1, vi (2 : Int32), vi q0, vi q1, vi q2, vi ql, vi (1 : Int32), vi (3 : Int32), un] [(.ref a1)])) rfl (by rw [hml]; rfl) (Steps.refl _) (argsL := []) (rest := []) (lenOf pd_9 rfl) rfl (by show 2 * 0 + _ ≤ _; exact Nat.le_of_eq rfl) (hb hby d6_15) (fun _ _ => ⟨rfl, e0, (by decide : 0 + 0 ≤ _), (by decide : 0 + 0 ≤ _)⟩)
  dsimp only [Pt.U, Pt.locs, Pt.cells, Pt.slots] at X1 l1 y1 z1 st1 hQ1
  subst l1 y1 z1
  obtain ⟨rfl, N1q, e1⟩ := hQ1
  have N1 := Fr.app N0 N1q
  obtain ⟨cq2, kq2, q2a, q2b, q2c⟩ := isOf hZ e1 E_a1
  obtain ⟨_, _, ⟨T2, L2, k2, n2⟩, -, X2, ⟨Lc2, hQ2, l2, y2, z2⟩, st2⟩ := X1.virtualBack hx (y := y_15) (z := y_15) hown (mvT hZ (ww hw 44 rfl)) (mvT hZ (ww hw 45 rfl)) (notFace_of_selects (args := #[]) (mvT hZ (ww hw 47 rfl))) (mvT hZ (ww hw 47 rfl)) (mvT hZ (ww hw 46 rfl)) (by decide) (backOf (W := 0) (rmIt l Z a0 hw [] a1 sto (3 : Int32) arr h0 n0 (Nat.le_trans Z0 KC.1) O0 F_store_a1 F_size_a1 F_items_sto) hZ (ww hw 48 rfl) (ww hw 2 rfl) (by decide) (by decide)) q2a q2c (g := (mkF m 26 #[vr a1, vi (2 : Int32), vi q0, vi q1, vi q2, vi ql, vi (1 : Int32), vi (3 : Int32), un] [(.ref a1)])) rfl (by rw [hml]; rfl) (Steps.refl _) (argsL := []) (rest := []) (lenOf pd_10 rfl) rfl (by show 2 * 0 + _ ≤ _; exact Nat.le_of_eq rfl) (hb hby d6_26) (fun _ _ => ⟨rfl, e1, (by decide : 0 + 1 ≤ _), (by decide : 0 + 3 ≤ _)⟩)
  dsimp only [Pt.U, Pt.locs, Pt.cells, Pt.slots] at X2 l2 y2 z2 st2 hQ2
  subst l2 y2 z2
  obtain ⟨b2_b, rfl, N2q, K2, sz_b2_b, E_b_2, F_val_length_b_2, F_val_items_b_2, F_next_b_2⟩ := hQ2
  have N2 := Fr.app N1 N2q
  have ne_a1_b2_b : a1 ≠ b2_b := Nat.ne_of_lt (Nat.lt_of_lt_of_le F_size_a1.lt sz_b2_b)
  have ne_sto_b2_b : sto ≠ b2_b := Nat.ne_of_lt (Nat.lt_of_lt_of_le F_items_sto.lt sz_b2_b)
  have ne_arr_b2_b : arr ≠ b2_b := Nat.ne_of_lt (Nat.lt_of_lt_of_le E_arr.lt sz_b2_b)
  have ne_x0_b2_b : x0 ≠ b2_b := Nat.ne_of_lt (Nat.lt_of_lt_of_le E_x0.lt sz_b2_b)
  have ne_x1_b2_b : x1 ≠ b2_b := Nat.ne_of_lt (Nat.lt_of_lt_of_le E_x1.lt sz_b2_b)
  have ne_x2_b2_b : x2 ≠ b2_b := Nat.ne_of_lt (Nat.lt_of_lt_of_le E_x2.lt sz_b2_b)
  have g_b2_b : n0 ≤ b2_b := Nat.le_trans (Nat.le_trans Z0 KC.1) sz_b2_b
  replace sz_b2_b : h0.size ≤ b2_b := Nat.le_trans KC.1 sz_b2_b
  replace F_size_a1 := F_size_a1.keep K2 nin0
  replace F_store_a1 := F_store_a1.keep K2 nin0
  replace E_a1 := E_a1.keep K2
  replace F_items_sto := F_items_sto.keep K2 nin0
  replace E_arr := E_arr.keep K2
  replace V_arr := V_arr.keep K2 nin0
  replace E_x0 := E_x0.keep K2
  replace F_value_x0 := F_value_x0.keep K2 nin0
  replace E_x1 := E_x1.keep K2
  replace F_value_x1 := F_value_x1.keep K2 nin0
  replace E_x2 := E_x2.keep K2
  replace F_value_x2 := F_value_x2.keep K2 nin0
  replace O0 := O0.keep K2 all0
  replace KC := KC.trans K2 all0
  obtain ⟨cq3, kq3, q3a, q3b, q3c⟩ := isOf hZ rfl E_b_2
  obtain ⟨_, _, ⟨T3, L3, k3, n3⟩, -, X3, ⟨Lc3, hQ3, l3, y3, z3⟩, st3⟩ := X2.interfaceBack hx (xi := y_19) (y := y_16) hown (mvT hZ (ww hw 61 rfl)) (mvT hZ (ww hw 62 rfl)) (mvT hZ (ww hw 63 rfl)) (mvT hZ (ww hw 64 rfl)) (mvT hZ (ww hw 65 rfl)) (mvT hZ (ww hw 66 rfl)) (mvT hZ (ww hw 67 rfl)) (mvT hZ (ww hw 68 rfl)) (by decide) (backOf (W := 0) (rmHn l Z a0 hw [] b2_b (0 : Int32) (3 : Int32) (1 : Int32) T2.heap n0 (Nat.le_trans Z0 KC.1) O0 F_next_b_2 F_val_length_b_2 (by decide)) hZ (ww hw 69 rfl) (ww hw 52 rfl) (by decide) (by decide)) q3a q3b q3c (g := (mkF m 38 #[vr a1, vi (2 : Int32), vi q0, vi q1, vi q2, vi ql, vi (1 : Int32), vi (3 : Int32), vr b2_b] [(.ref b2_b)])) rfl (by rw [hml]; rfl) (Steps.refl _) (argsL := []) (rest := []) (lenOf pd_11 rfl) rfl (by show 2 * 0 + _ ≤ _; exact Nat.le_of_eq rfl) (hb hby d6_38) (fun _ _ => ⟨rfl, rfl, (by decide : 1 + 0 ≤ _), (by decide : 3 + 0 ≤ _)⟩)
  dsimp only [Pt.U, Pt.locs, Pt.cells, Pt.slots] at X3 l3 y3 z3 st3 hQ3
  subst l3 y3 z3
  obtain ⟨rfl, N3q, e3⟩ := hQ3
  have N3 := Fr.app N2 N3q
  obtain ⟨cq4, kq4, q4a, q4b, q4c⟩ := isOf hZ e3 E_b_2
  obtain ⟨_, _, ⟨T4, L4, k4, n4⟩, -, X4, ⟨Lc4, hQ4, l4, y4, z4⟩, st4⟩ := X3.interfaceBack hx (xi := y_21) (y := y_17) hown (mvT hZ (ww hw 116 rfl)) (mvT hZ (ww hw 117 rfl)) (mvT hZ (ww hw 118 rfl)) (mvT hZ (ww hw 119 rfl)) (mvT hZ (ww hw 120 rfl)) (mvT hZ (ww hw 121 rfl)) (mvT hZ (ww hw 122 rfl)) (mvT hZ (ww hw 68 rfl)) (by decide) (backOf (W := 0) (rmNx l Z a0 hw [] b2_b (0 : Int32) (3 : Int32) arr kk cap vs x0 (1 : Int32) T2.heap n0 (Nat.le_trans Z0 KC.1) O0 F_next_b_2 F_val_length_b_2 F_val_items_b_2 E_b_2 E_arr V_arr g_b2_b (by decide) (by decide) hD0 hX0 (by decide)) hZ (ww hw 123 rfl) (ww hw 52 rfl) (by decide) (by decide)) q4a q4b q4c (g := (mkF m 48 #[vr a1, vi (2 : Int32), vi q0, vi q1, vi q2, vi ql, vi (1 : Int32), vi (3 : Int32), vr b2_b] [(.ref b2_b)])) rfl (by rw [hml]; rfl) (Steps.refl _) (argsL := []) (rest := []) (lenOf pd_12 rfl) rfl (by show 2 * 0 + _ ≤ _; exact Nat.le_of_eq rfl) (hb hby d6_48) (fun _ _ => ⟨rfl, e3, (by decide : 1 + 0 ≤ _), (by decide : 3 + 0 ≤ _)⟩)
  dsimp only [Pt.U, Pt.locs, Pt.cells, Pt.slots] at X4 l4 y4 z4 st4 hQ4
  subst l4 y4 z4
  obtain ⟨rfl, N4q, K4, F_next_a1_4, F_val_length_a1_4, F_val_items_a1_4⟩ := hQ4
  have N4 := Fr.app N3 N4q
  replace F_size_a1 := F_size_a1.keep K4 (ninS ne_a1_b2_b nin0)
  replace F_store_a1 := F_store_a1.keep K4 (ninS ne_a1_b2_b nin0)
  replace E_a1 := E_a1.keep K4
  replace F_items_sto := F_items_sto.keep K4 (ninS ne_sto_b2_b nin0)
  replace E_arr := E_arr.keep K4
  replace V_arr := V_arr.keep K4 (ninS ne_arr_b2_b nin0)
  replace E_x0 := E_x0.keep K4
  replace F_value_x0 := F_value_x0.keep K4 (ninS ne_x0_b2_b nin0)
  replace E_x1 := E_x1.keep K4
  replace F_value_x1 := F_value_x1.keep K4 (ninS ne_x1_b2_b nin0)
  replace E_x2 := E_x2.keep K4
  replace F_value_x2 := F_value_x2.keep K4 (ninS ne_x2_b2_b nin0)
  replace E_b_2 := E_b_2.keep K4
  replace O0 := O0.keep K4 (allS g_b2_b all0)
  replace KC := KC.trans K4 (allS (Or.inr sz_b2_b) all0)
  obtain ⟨T5, X5, e5, st5⟩ := castY X4 hx hZ hown (ww hw 124 rfl) rfl (Ins.self E_x0) (g := (mkF m 53 #[vr a1, vi (2 : Int32), vi q0, vi q1, vi q2, vi ql, vi (1 : Int32), vi (3 : Int32), vr b2_b] [(.ref x0)])) rfl rfl (hb hby d6_53)
  obtain ⟨cq6, kq6, q6a, q6b, q6c⟩ := isOf hZ e5 E_x0
  obtain ⟨_, _, ⟨T6, L6, k6, n6⟩, -, X6, ⟨Lc6, hQ6, l6, y6, z6⟩, st6⟩ := X5.virtualBack hx (y := y_6) (z := y_6) hown (mvT hZ (ww hw 126 rfl)) (mvT hZ (ww hw 127 rfl)) (notFace_of_selects (args := #[]) (mvT hZ (ww hw 129 rfl))) (mvT hZ (ww hw 129 rfl)) (mvT hZ (ww hw 128 rfl)) (by decide) (backOf (W := 0) (rmIv l Z a0 hw [] x0 q0 T4.heap n0 (Nat.le_trans Z0 KC.1) O0 F_value_x0) hZ (ww hw 130 rfl) (ww hw 74 rfl) (by decide) (by decide)) q6a q6c (g := (mkF m 56 #[vr a1, vi (2 : Int32), vi q0, vi q1, vi q2, vi ql, vi (1 : Int32), vi (3 : Int32), vr b2_b] [(.ref x0)])) rfl (by rw [hml]; rfl) (Steps.refl _) (argsL := []) (rest := []) (lenOf pd_9 rfl) rfl (by show 2 * 0 + _ ≤ _; exact Nat.le_of_eq rfl) (hb hby d6_56) (fun _ _ => ⟨rfl, e5, (by decide : 1 + 0 ≤ _), (by decide : 3 + 0 ≤ _)⟩)
  dsimp only [Pt.U, Pt.locs, Pt.cells, Pt.slots] at X6 l6 y6 z6 st6 hQ6
  subst l6 y6 z6
  obtain ⟨rfl, N6q, e6⟩ := hQ6
  have N6 := Fr.app N4 N6q
  obtain ⟨cq7, kq7, q7a, q7b, q7c⟩ := isOf hZ e6 E_b_2
  obtain ⟨_, _, ⟨T7, L7, k7, n7⟩, -, X7, ⟨Lc7, hQ7, l7, y7, z7⟩, st7⟩ := X6.interfaceBack hx (xi := y_19) (y := y_16) hown (mvT hZ (ww hw 61 rfl)) (mvT hZ (ww hw 62 rfl)) (mvT hZ (ww hw 63 rfl)) (mvT hZ (ww hw 64 rfl)) (mvT hZ (ww hw 65 rfl)) (mvT hZ (ww hw 66 rfl)) (mvT hZ (ww hw 67 rfl)) (mvT hZ (ww hw 68 rfl)) (by decide) (backOf (W := 0) (rmHn l Z a0 hw [] b2_b (1 : Int32) (3 : Int32) (1 : Int32) T4.heap n0 (Nat.le_trans Z0 KC.1) O0 F_next_a1_4 F_val_length_a1_4 (by decide)) hZ (ww hw 69 rfl) (ww hw 52 rfl) (by decide) (by decide)) q7a q7b q7c (g := (mkF m 72 #[vr a1, vi (2 : Int32), vi q0, vi q1, vi q2, vi ql, vi (1 : Int32), vi (3 : Int32), vr b2_b] [(.ref b2_b)])) rfl (by rw [hml]; rfl) (Steps.refl _) (argsL := []) (rest := []) (lenOf pd_11 rfl) rfl (by show 2 * 0 + _ ≤ _; exact Nat.le_of_eq rfl) (hb hby d6_72) (fun _ _ => ⟨rfl, e6, (by decide : 1 + 0 ≤ _), (by decide : 3 + 0 ≤ _)⟩)
  dsimp only [Pt.U, Pt.locs, Pt.cells, Pt.slots] at X7 l7 y7 z7 st7 hQ7
  subst l7 y7 z7
  obtain ⟨rfl, N7q, e7⟩ := hQ7
  have N7 := Fr.app N6 N7q
  obtain ⟨cq8, kq8, q8a, q8b, q8c⟩ := isOf hZ e7 E_b_2
  obtain ⟨_, _, ⟨T8, L8, k8, n8⟩, -, X8, ⟨Lc8, hQ8, l8, y8, z8⟩, st8⟩ := X7.interfaceBack hx (xi := y_21) (y := y_17) hown (mvT hZ (ww hw 116 rfl)) (mvT hZ (ww hw 117 rfl)) (mvT hZ (ww hw 118 rfl)) (mvT hZ (ww hw 119 rfl)) (mvT hZ (ww hw 120 rfl)) (mvT hZ (ww hw 121 rfl)) (mvT hZ (ww hw 122 rfl)) (mvT hZ (ww hw 68 rfl)) (by decide) (backOf (W := 0) (rmNx l Z a0 hw [] b2_b (1 : Int32) (3 : Int32) arr kk cap vs x1 (2 : Int32) T4.heap n0 (Nat.le_trans Z0 KC.1) O0 F_next_a1_4 F_val_length_a1_4 F_val_items_a1_4 E_b_2 E_arr V_arr g_b2_b (by decide) (by decide) hD1 hX1 (by decide)) hZ (ww hw 123 rfl) (ww hw 52 rfl) (by decide) (by decide)) q8a q8b q8c (g := (mkF m 82 #[vr a1, vi (2 : Int32), vi q0, vi q1, vi q2, vi ql, vi (1 : Int32), vi (3 : Int32), vr b2_b] [(.ref b2_b)])) rfl (by rw [hml]; rfl) (Steps.refl _) (argsL := []) (rest := []) (lenOf pd_12 rfl) rfl (by show 2 * 0 + _ ≤ _; exact Nat.le_of_eq rfl) (hb hby d6_82) (fun _ _ => ⟨rfl, e7, (by decide : 1 + 0 ≤ _), (by decide : 3 + 0 ≤ _)⟩)
  dsimp only [Pt.U, Pt.locs, Pt.cells, Pt.slots] at X8 l8 y8 z8 st8 hQ8
  subst l8 y8 z8
  obtain ⟨rfl, N8q, K8, F_next_a1_8, F_val_length_a1_8, F_val_items_a1_8⟩ := hQ8
  have N8 := Fr.app N7 N8q
  replace F_size_a1 := F_size_a1.keep K8 (ninS ne_a1_b2_b nin0)
  replace F_store_a1 := F_store_a1.keep K8 (ninS ne_a1_b2_b nin0)
  replace E_a1 := E_a1.keep K8
  replace F_items_sto := F_items_sto.keep K8 (ninS ne_sto_b2_b nin0)
  replace E_arr := E_arr.keep K8
  replace V_arr := V_arr.keep K8 (ninS ne_arr_b2_b nin0)
  replace E_x0 := E_x0.keep K8
  replace F_value_x0 := F_value_x0.keep K8 (ninS ne_x0_b2_b nin0)
  replace E_x1 := E_x1.keep K8
  replace F_value_x1 := F_value_x1.keep K8 (ninS ne_x1_b2_b nin0)
  replace E_x2 := E_x2.keep K8
  replace F_value_x2 := F_value_x2.keep K8 (ninS ne_x2_b2_b nin0)
  replace E_b_2 := E_b_2.keep K8
  replace O0 := O0.keep K8 (allS g_b2_b all0)
  replace KC := KC.trans K8 (allS (Or.inr sz_b2_b) all0)
  obtain ⟨T9, X9, e9, st9⟩ := castY X8 hx hZ hown (ww hw 124 rfl) rfl (Ins.self E_x1) (g := (mkF m 87 #[vr a1, vi (2 : Int32), vi q0, vi q1, vi q2, vi ql, vi (1 : Int32), vi (3 : Int32), vr b2_b] [(.ref x1)])) rfl rfl (hb hby d6_87)
  obtain ⟨cq10, kq10, q10a, q10b, q10c⟩ := isOf hZ e9 E_x1
  obtain ⟨_, _, ⟨T10, L10, k10, n10⟩, -, X10, ⟨Lc10, hQ10, l10, y10, z10⟩, st10⟩ := X9.virtualBack hx (y := y_6) (z := y_6) hown (mvT hZ (ww hw 126 rfl)) (mvT hZ (ww hw 127 rfl)) (notFace_of_selects (args := #[]) (mvT hZ (ww hw 129 rfl))) (mvT hZ (ww hw 129 rfl)) (mvT hZ (ww hw 128 rfl)) (by decide) (backOf (W := 0) (rmIv l Z a0 hw [] x1 q1 T8.heap n0 (Nat.le_trans Z0 KC.1) O0 F_value_x1) hZ (ww hw 130 rfl) (ww hw 74 rfl) (by decide) (by decide)) q10a q10c (g := (mkF m 90 #[vr a1, vi (2 : Int32), vi q0, vi q1, vi q2, vi ql, vi (1 : Int32), vi (3 : Int32), vr b2_b] [(.ref x1)])) rfl (by rw [hml]; rfl) (Steps.refl _) (argsL := []) (rest := []) (lenOf pd_9 rfl) rfl (by show 2 * 0 + _ ≤ _; exact Nat.le_of_eq rfl) (hb hby d6_90) (fun _ _ => ⟨rfl, e9, (by decide : 1 + 0 ≤ _), (by decide : 3 + 0 ≤ _)⟩)
  dsimp only [Pt.U, Pt.locs, Pt.cells, Pt.slots] at X10 l10 y10 z10 st10 hQ10
  subst l10 y10 z10
  obtain ⟨rfl, N10q, e10⟩ := hQ10
  have N10 := Fr.app N8 N10q
  obtain ⟨cq11, kq11, q11a, q11b, q11c⟩ := isOf hZ e10 E_b_2
  obtain ⟨_, _, ⟨T11, L11, k11, n11⟩, -, X11, ⟨Lc11, hQ11, l11, y11, z11⟩, st11⟩ := X10.interfaceBack hx (xi := y_19) (y := y_16) hown (mvT hZ (ww hw 61 rfl)) (mvT hZ (ww hw 62 rfl)) (mvT hZ (ww hw 63 rfl)) (mvT hZ (ww hw 64 rfl)) (mvT hZ (ww hw 65 rfl)) (mvT hZ (ww hw 66 rfl)) (mvT hZ (ww hw 67 rfl)) (mvT hZ (ww hw 68 rfl)) (by decide) (backOf (W := 0) (rmHn l Z a0 hw [] b2_b (2 : Int32) (3 : Int32) (1 : Int32) T8.heap n0 (Nat.le_trans Z0 KC.1) O0 F_next_a1_8 F_val_length_a1_8 (by decide)) hZ (ww hw 69 rfl) (ww hw 52 rfl) (by decide) (by decide)) q11a q11b q11c (g := (mkF m 141 #[vr a1, vi (2 : Int32), vi q0, vi q1, vi q2, vi ql, vi (1 : Int32), vi (3 : Int32), vr b2_b] [(.ref b2_b)])) rfl (by rw [hml]; rfl) (Steps.refl _) (argsL := []) (rest := []) (lenOf pd_11 rfl) rfl (by show 2 * 0 + _ ≤ _; exact Nat.le_of_eq rfl) (hb hby d6_141) (fun _ _ => ⟨rfl, e10, (by decide : 1 + 0 ≤ _), (by decide : 3 + 0 ≤ _)⟩)
  dsimp only [Pt.U, Pt.locs, Pt.cells, Pt.slots] at X11 l11 y11 z11 st11 hQ11
  subst l11 y11 z11
  obtain ⟨rfl, N11q, e11⟩ := hQ11
  have N11 := Fr.app N10 N11q
  obtain ⟨cq12, kq12, q12a, q12b, q12c⟩ := isOf hZ e11 E_b_2
  obtain ⟨_, _, ⟨T12, L12, k12, n12⟩, -, X12, ⟨Lc12, hQ12, l12, y12, z12⟩, st12⟩ := X11.interfaceBack hx (xi := y_21) (y := y_17) hown (mvT hZ (ww hw 116 rfl)) (mvT hZ (ww hw 117 rfl)) (mvT hZ (ww hw 118 rfl)) (mvT hZ (ww hw 119 rfl)) (mvT hZ (ww hw 120 rfl)) (mvT hZ (ww hw 121 rfl)) (mvT hZ (ww hw 122 rfl)) (mvT hZ (ww hw 68 rfl)) (by decide) (backOf (W := 0) (rmNx l Z a0 hw [] b2_b (2 : Int32) (3 : Int32) arr kk cap vs x2 (3 : Int32) T8.heap n0 (Nat.le_trans Z0 KC.1) O0 F_next_a1_8 F_val_length_a1_8 F_val_items_a1_8 E_b_2 E_arr V_arr g_b2_b (by decide) (by decide) hD2 hX2 (by decide)) hZ (ww hw 123 rfl) (ww hw 52 rfl) (by decide) (by decide)) q12a q12b q12c (g := (mkF m 151 #[vr a1, vi (2 : Int32), vi q0, vi q1, vi q2, vi ql, vi (1 : Int32), vi (3 : Int32), vr b2_b] [(.ref b2_b)])) rfl (by rw [hml]; rfl) (Steps.refl _) (argsL := []) (rest := []) (lenOf pd_12 rfl) rfl (by show 2 * 0 + _ ≤ _; exact Nat.le_of_eq rfl) (hb hby d6_151) (fun _ _ => ⟨rfl, e11, (by decide : 1 + 0 ≤ _), (by decide : 3 + 0 ≤ _)⟩)
  dsimp only [Pt.U, Pt.locs, Pt.cells, Pt.slots] at X12 l12 y12 z12 st12 hQ12
  subst l12 y12 z12
  obtain ⟨rfl, N12q, K12, F_next_a1_12, F_val_length_a1_12, F_val_items_a1_12⟩ := hQ12
  have N12 := Fr.app N11 N12q
  replace F_size_a1 := F_size_a1.keep K12 (ninS ne_a1_b2_b nin0)
  replace F_store_a1 := F_store_a1.keep K12 (ninS ne_a1_b2_b nin0)
  replace E_a1 := E_a1.keep K12
  replace F_items_sto := F_items_sto.keep K12 (ninS ne_sto_b2_b nin0)
  replace E_arr := E_arr.keep K12
  replace V_arr := V_arr.keep K12 (ninS ne_arr_b2_b nin0)
  replace E_x0 := E_x0.keep K12
  replace F_value_x0 := F_value_x0.keep K12 (ninS ne_x0_b2_b nin0)
  replace E_x1 := E_x1.keep K12
  replace F_value_x1 := F_value_x1.keep K12 (ninS ne_x1_b2_b nin0)
  replace E_x2 := E_x2.keep K12
  replace F_value_x2 := F_value_x2.keep K12 (ninS ne_x2_b2_b nin0)
  replace E_b_2 := E_b_2.keep K12
  replace O0 := O0.keep K12 (allS g_b2_b all0)
  replace KC := KC.trans K12 (allS (Or.inr sz_b2_b) all0)
  obtain ⟨T13, X13, e13, st13⟩ := castY X12 hx hZ hown (ww hw 124 rfl) rfl (Ins.self E_x2) (g := (mkF m 156 #[vr a1, vi (2 : Int32), vi q0, vi q1, vi q2, vi ql, vi (1 : Int32), vi (3 : Int32), vr b2_b] [(.ref x2)])) rfl rfl (hb hby d6_156)
  obtain ⟨cq14, kq14, q14a, q14b, q14c⟩ := isOf hZ e13 E_x2
  obtain ⟨_, _, ⟨T14, L14, k14, n14⟩, -, X14, ⟨Lc14, hQ14, l14, y14, z14⟩, st14⟩ := X13.virtualBack hx (y := y_6) (z := y_6) hown (mvT hZ (ww hw 126 rfl)) (mvT hZ (ww hw 127 rfl)) (notFace_of_selects (args := #[]) (mvT hZ (ww hw 129 rfl))) (mvT hZ (ww hw 129 rfl)) (mvT hZ (ww hw 128 rfl)) (by decide) (backOf (W := 0) (rmIv l Z a0 hw [] x2 ql T12.heap n0 (Nat.le_trans Z0 KC.1) O0 F_value_x2) hZ (ww hw 130 rfl) (ww hw 74 rfl) (by decide) (by decide)) q14a q14c (g := (mkF m 159 #[vr a1, vi (2 : Int32), vi q0, vi q1, vi q2, vi ql, vi (1 : Int32), vi (3 : Int32), vr b2_b] [(.ref x2)])) rfl (by rw [hml]; rfl) (Steps.refl _) (argsL := []) (rest := []) (lenOf pd_9 rfl) rfl (by show 2 * 0 + _ ≤ _; exact Nat.le_of_eq rfl) (hb hby d6_159) (fun _ _ => ⟨rfl, e13, (by decide : 1 + 0 ≤ _), (by decide : 3 + 0 ≤ _)⟩)
  dsimp only [Pt.U, Pt.locs, Pt.cells, Pt.slots] at X14 l14 y14 z14 st14 hQ14
  subst l14 y14 z14
  obtain ⟨rfl, N14q, e14⟩ := hQ14
  have N14 := Fr.app N12 N14q
  obtain ⟨cq15, kq15, q15a, q15b, q15c⟩ := isOf hZ e14 E_b_2
  obtain ⟨_, _, ⟨T15, L15, k15, n15⟩, -, X15, ⟨Lc15, hQ15, l15, y15, z15⟩, st15⟩ := X14.interfaceBack hx (xi := y_19) (y := y_16) hown (mvT hZ (ww hw 61 rfl)) (mvT hZ (ww hw 62 rfl)) (mvT hZ (ww hw 63 rfl)) (mvT hZ (ww hw 64 rfl)) (mvT hZ (ww hw 65 rfl)) (mvT hZ (ww hw 66 rfl)) (mvT hZ (ww hw 67 rfl)) (mvT hZ (ww hw 68 rfl)) (by decide) (backOf (W := 0) (rmHn l Z a0 hw [] b2_b (3 : Int32) (3 : Int32) (0 : Int32) T12.heap n0 (Nat.le_trans Z0 KC.1) O0 F_next_a1_12 F_val_length_a1_12 (by decide)) hZ (ww hw 69 rfl) (ww hw 52 rfl) (by decide) (by decide)) q15a q15b q15c (g := (mkF m 171 #[vr a1, vi (2 : Int32), vi q0, vi q1, vi q2, vi ql, vi (1 : Int32), vi (3 : Int32), vr b2_b] [(.ref b2_b)])) rfl (by rw [hml]; rfl) (Steps.refl _) (argsL := []) (rest := []) (lenOf pd_11 rfl) rfl (by show 2 * 0 + _ ≤ _; exact Nat.le_of_eq rfl) (hb hby d6_171) (fun _ _ => ⟨rfl, e14, (by decide : 1 + 0 ≤ _), (by decide : 3 + 0 ≤ _)⟩)
  dsimp only [Pt.U, Pt.locs, Pt.cells, Pt.slots] at X15 l15 y15 z15 st15 hQ15
  subst l15 y15 z15
  obtain ⟨rfl, N15q, e15⟩ := hQ15
  have N15 := Fr.app N14 N15q
  obtain ⟨fs, hr, hrun, hended, hW, hsame⟩ := X15.leave (v := some (.int (1 : Int32))) (fun h => by rw [Bd.returns] at h; cases h)
  refine ⟨_, _, pre0 _ ?_, hrun, hended, _, _, rfl, ?_, ⟨_, rfl⟩, hW, hsame.mono (by decide) (by decide)⟩
  · show SS p e below m s₁ 0 #[vr a1, vi (2 : Int32), vi q0, vi q1, vi q2, vi ql, vi (1 : Int32), un, un] [] _
    refine XS.iload X0.here hx rfl (hb hby d6_0) rfl ?_
    show SS p e below m s₁ 2 #[vr a1, vi (2 : Int32), vi q0, vi q1, vi q2, vi ql, vi (1 : Int32), un, un] [(.int (1 : Int32))] _
    refine XS.ifNo X0.here hx rfl (hb hby d6_2) rfl ((if0 _ _).trans (feq (by decide)).1) ?_
    show SS p e below m s₁ 5 #[vr a1, vi (2 : Int32), vi q0, vi q1, vi q2, vi ql, vi (1 : Int32), un, un] [] _
    refine XS.iloadN X0.here hx rfl (hb hby d6_5) rfl ?_
    show SS p e below m s₁ 6 #[vr a1, vi (2 : Int32), vi q0, vi q1, vi q2, vi ql, vi (1 : Int32), un, un] [(.int (2 : Int32))] _
    refine XS.iconst X0.here hx rfl (hb hby d6_6) ?_
    show SS p e below m s₁ 7 #[vr a1, vi (2 : Int32), vi q0, vi q1, vi q2, vi ql, vi (1 : Int32), un, un] [(.int (1 : Int32)), (.int (2 : Int32))] _
    refine XS.iadd X0.here hx rfl (hb hby d6_7) rfl ?_
    show SS p e below m s₁ 8 #[vr a1, vi (2 : Int32), vi q0, vi q1, vi q2, vi ql, vi (1 : Int32), un, un] [(.int (3 : Int32))] _
    refine XS.goto X0.here hx rfl (pc0 := 8) (pc' := 12) rfl (hb hby d6_8) (by decide) (by decide) ?_
    show SS p e below m s₁ 12 #[vr a1, vi (2 : Int32), vi q0, vi q1, vi q2, vi ql, vi (1 : Int32), un, un] [(.int (3 : Int32))] _
    refine XS.istore X0.here hx rfl (hb hby d6_12) rfl (l' := #[vr a1, vi (2 : Int32), vi q0, vi q1, vi q2, vi ql, vi (1 : Int32), vi (3 : Int32), un]) rfl ?_
    show SS p e below m s₁ 14 #[vr a1, vi (2 : Int32), vi q0, vi q1, vi q2, vi ql, vi (1 : Int32), vi (3 : Int32), un] [] _
    refine XS.aloadN X0.here hx rfl (hb hby d6_14) rfl rfl ?_
    show SS p e below m s₁ 15 #[vr a1, vi (2 : Int32), vi q0, vi q1, vi q2, vi ql, vi (1 : Int32), vi (3 : Int32), un] [(.ref a1)] _
    refine st1.trans ?_
    show SS p e below m T1 18 #[vr a1, vi (2 : Int32), vi q0, vi q1, vi q2, vi ql, vi (1 : Int32), vi (3 : Int32), un] [(.int (3 : Int32))] _
    refine XS.iload X1.here hx rfl (hb hby d6_18) rfl ?_
    show SS p e below m T1 20 #[vr a1, vi (2 : Int32), vi q0, vi q1, vi q2, vi ql, vi (1 : Int32), vi (3 : Int32), un] [(.int (3 : Int32)), (.int (3 : Int32))] _
    refine XS.icmpYes X1.here hx rfl (pc0 := 20) (pc' := 25) rfl (hb hby d6_20) rfl (teq (by decide)).1 (by decide) (by decide) ?_
    show SS p e below m T1 25 #[vr a1, vi (2 : Int32), vi q0, vi q1, vi q2, vi ql, vi (1 : Int32), vi (3 : Int32), un] [] _
    refine XS.aloadN X1.here hx rfl (hb hby d6_25) rfl rfl ?_
    show SS p e below m T1 26 #[vr a1, vi (2 : Int32), vi q0, vi q1, vi q2, vi ql, vi (1 : Int32), vi (3 : Int32), un] [(.ref a1)] _
    refine st2.trans ?_
    show SS p e below m T2 29 #[vr a1, vi (2 : Int32), vi q0, vi q1, vi q2, vi ql, vi (1 : Int32), vi (3 : Int32), un] [(.ref b2_b)] _
    refine XS.astore X2.here hx rfl (hb hby d6_29) rfl rfl (l' := #[vr a1, vi (2 : Int32), vi q0, vi q1, vi q2, vi ql, vi (1 : Int32), vi (3 : Int32), vr b2_b]) rfl ?_
    show SS p e below m T2 31 #[vr a1, vi (2 : Int32), vi q0, vi q1, vi q2, vi ql, vi (1 : Int32), vi (3 : Int32), vr b2_b] [] _
    refine XS.iloadN X2.here hx rfl (hb hby d6_31) rfl ?_
    show SS p e below m T2 32 #[vr a1, vi (2 : Int32), vi q0, vi q1, vi q2, vi ql, vi (1 : Int32), vi (3 : Int32), vr b2_b] [(.int (2 : Int32))] _
    refine XS.iconst X2.here hx rfl (hb hby d6_32) ?_
    show SS p e below m T2 33 #[vr a1, vi (2 : Int32), vi q0, vi q1, vi q2, vi ql, vi (1 : Int32), vi (3 : Int32), vr b2_b] [(.int (1 : Int32)), (.int (2 : Int32))] _
    refine XS.icmpNo X2.here hx rfl (hb hby d6_33) rfl (flt (by decide)).1 ?_
    show SS p e below m T2 36 #[vr a1, vi (2 : Int32), vi q0, vi q1, vi q2, vi ql, vi (1 : Int32), vi (3 : Int32), vr b2_b] [] _
    refine XS.aload X2.here hx rfl (hb hby d6_36) rfl rfl ?_
    show SS p e below m T2 38 #[vr a1, vi (2 : Int32), vi q0, vi q1, vi q2, vi ql, vi (1 : Int32), vi (3 : Int32), vr b2_b] [(.ref b2_b)] _
    refine st3.trans ?_
    show SS p e below m T3 43 #[vr a1, vi (2 : Int32), vi q0, vi q1, vi q2, vi ql, vi (1 : Int32), vi (3 : Int32), vr b2_b] [(.int (1 : Int32))] _
    refine XS.ifNo X3.here hx rfl (hb hby d6_43) rfl ((if0 _ _).trans (feq (by decide)).1) ?_
    show SS p e below m T3 46 #[vr a1, vi (2 : Int32), vi q0, vi q1, vi q2, vi ql, vi (1 : Int32), vi (3 : Int32), vr b2_b] [] _
    refine XS.aload X3.here hx rfl (hb hby d6_46) rfl rfl ?_
    show SS p e below m T3 48 #[vr a1, vi (2 : Int32), vi q0, vi q1, vi q2, vi ql, vi (1 : Int32), vi (3 : Int32), vr b2_b] [(.ref b2_b)] _
    refine st4.trans ?_
    show SS p e below m T4 53 #[vr a1, vi (2 : Int32), vi q0, vi q1, vi q2, vi ql, vi (1 : Int32), vi (3 : Int32), vr b2_b] [(.ref x0)] _
    refine st5 _ ?_
    show SS p e below m T5 56 #[vr a1, vi (2 : Int32), vi q0, vi q1, vi q2, vi ql, vi (1 : Int32), vi (3 : Int32), vr b2_b] [(.ref x0)] _
    refine st6.trans ?_
    show SS p e below m T6 59 #[vr a1, vi (2 : Int32), vi q0, vi q1, vi q2, vi ql, vi (1 : Int32), vi (3 : Int32), vr b2_b] [(.int q0)] _
    refine XS.iloadN X6.here hx rfl (hb hby d6_59) rfl ?_
    show SS p e below m T6 60 #[vr a1, vi (2 : Int32), vi q0, vi q1, vi q2, vi ql, vi (1 : Int32), vi (3 : Int32), vr b2_b] [(.int q0), (.int q0)] _
    refine XS.icmpYes X6.here hx rfl (pc0 := 60) (pc' := 65) rfl (hb hby d6_60) rfl (teq rfl).1 (by decide) (by decide) ?_
    show SS p e below m T6 65 #[vr a1, vi (2 : Int32), vi q0, vi q1, vi q2, vi ql, vi (1 : Int32), vi (3 : Int32), vr b2_b] [] _
    refine XS.iloadN X6.here hx rfl (hb hby d6_65) rfl ?_
    show SS p e below m T6 66 #[vr a1, vi (2 : Int32), vi q0, vi q1, vi q2, vi ql, vi (1 : Int32), vi (3 : Int32), vr b2_b] [(.int (2 : Int32))] _
    refine XS.iconst X6.here hx rfl (hb hby d6_66) ?_
    show SS p e below m T6 67 #[vr a1, vi (2 : Int32), vi q0, vi q1, vi q2, vi ql, vi (1 : Int32), vi (3 : Int32), vr b2_b] [(.int (2 : Int32)), (.int (2 : Int32))] _
    refine XS.icmpNo X6.here hx rfl (hb hby d6_67) rfl (flt (by decide)).1 ?_
    show SS p e below m T6 70 #[vr a1, vi (2 : Int32), vi q0, vi q1, vi q2, vi ql, vi (1 : Int32), vi (3 : Int32), vr b2_b] [] _
    refine XS.aload X6.here hx rfl (hb hby d6_70) rfl rfl ?_
    show SS p e below m T6 72 #[vr a1, vi (2 : Int32), vi q0, vi q1, vi q2, vi ql, vi (1 : Int32), vi (3 : Int32), vr b2_b] [(.ref b2_b)] _
    refine st7.trans ?_
    show SS p e below m T7 77 #[vr a1, vi (2 : Int32), vi q0, vi q1, vi q2, vi ql, vi (1 : Int32), vi (3 : Int32), vr b2_b] [(.int (1 : Int32))] _
    refine XS.ifNo X7.here hx rfl (hb hby d6_77) rfl ((if0 _ _).trans (feq (by decide)).1) ?_
    show SS p e below m T7 80 #[vr a1, vi (2 : Int32), vi q0, vi q1, vi q2, vi ql, vi (1 : Int32), vi (3 : Int32), vr b2_b] [] _
    refine XS.aload X7.here hx rfl (hb hby d6_80) rfl rfl ?_
    show SS p e below m T7 82 #[vr a1, vi (2 : Int32), vi q0, vi q1, vi q2, vi ql, vi (1 : Int32), vi (3 : Int32), vr b2_b] [(.ref b2_b)] _
    refine st8.trans ?_
    show SS p e below m T8 87 #[vr a1, vi (2 : Int32), vi q0, vi q1, vi q2, vi ql, vi (1 : Int32), vi (3 : Int32), vr b2_b] [(.ref x1)] _
    refine st9 _ ?_
    show SS p e below m T9 90 #[vr a1, vi (2 : Int32), vi q0, vi q1, vi q2, vi ql, vi (1 : Int32), vi (3 : Int32), vr b2_b] [(.ref x1)] _
    refine st10.trans ?_
    show SS p e below m T10 93 #[vr a1, vi (2 : Int32), vi q0, vi q1, vi q2, vi ql, vi (1 : Int32), vi (3 : Int32), vr b2_b] [(.int q1)] _
    refine XS.iloadN X10.here hx rfl (hb hby d6_93) rfl ?_
    show SS p e below m T10 94 #[vr a1, vi (2 : Int32), vi q0, vi q1, vi q2, vi ql, vi (1 : Int32), vi (3 : Int32), vr b2_b] [(.int q1), (.int q1)] _
    refine XS.icmpYes X10.here hx rfl (pc0 := 94) (pc' := 99) rfl (hb hby d6_94) rfl (teq rfl).1 (by decide) (by decide) ?_
    show SS p e below m T10 99 #[vr a1, vi (2 : Int32), vi q0, vi q1, vi q2, vi ql, vi (1 : Int32), vi (3 : Int32), vr b2_b] [] _
    refine XS.iloadN X10.here hx rfl (hb hby d6_99) rfl ?_
    show SS p e below m T10 100 #[vr a1, vi (2 : Int32), vi q0, vi q1, vi q2, vi ql, vi (1 : Int32), vi (3 : Int32), vr b2_b] [(.int (2 : Int32))] _
    refine XS.iconst X10.here hx rfl (hb hby d6_100) ?_
    show SS p e below m T10 101 #[vr a1, vi (2 : Int32), vi q0, vi q1, vi q2, vi ql, vi (1 : Int32), vi (3 : Int32), vr b2_b] [(.int (3 : Int32)), (.int (2 : Int32))] _
    refine XS.icmpYes X10.here hx rfl (pc0 := 101) (pc' := 134) rfl (hb hby d6_101) rfl (tlt (by decide)).1 (by decide) (by decide) ?_
    show SS p e below m T10 134 #[vr a1, vi (2 : Int32), vi q0, vi q1, vi q2, vi ql, vi (1 : Int32), vi (3 : Int32), vr b2_b] [] _
    refine XS.iload X10.here hx rfl (hb hby d6_134) rfl ?_
    show SS p e below m T10 136 #[vr a1, vi (2 : Int32), vi q0, vi q1, vi q2, vi ql, vi (1 : Int32), vi (3 : Int32), vr b2_b] [(.int (1 : Int32))] _
    refine XS.ifNo X10.here hx rfl (hb hby d6_136) rfl ((if0 _ _).trans (feq (by decide)).1) ?_
    show SS p e below m T10 139 #[vr a1, vi (2 : Int32), vi q0, vi q1, vi q2, vi ql, vi (1 : Int32), vi (3 : Int32), vr b2_b] [] _
    refine XS.aload X10.here hx rfl (hb hby d6_139) rfl rfl ?_
    show SS p e below m T10 141 #[vr a1, vi (2 : Int32), vi q0, vi q1, vi q2, vi ql, vi (1 : Int32), vi (3 : Int32), vr b2_b] [(.ref b2_b)] _
    refine st11.trans ?_
    show SS p e below m T11 146 #[vr a1, vi (2 : Int32), vi q0, vi q1, vi q2, vi ql, vi (1 : Int32), vi (3 : Int32), vr b2_b] [(.int (1 : Int32))] _
    refine XS.ifNo X11.here hx rfl (hb hby d6_146) rfl ((if0 _ _).trans (feq (by decide)).1) ?_
    show SS p e below m T11 149 #[vr a1, vi (2 : Int32), vi q0, vi q1, vi q2, vi ql, vi (1 : Int32), vi (3 : Int32), vr b2_b] [] _
    refine XS.aload X11.here hx rfl (hb hby d6_149) rfl rfl ?_
    show SS p e below m T11 151 #[vr a1, vi (2 : Int32), vi q0, vi q1, vi q2, vi ql, vi (1 : Int32), vi (3 : Int32), vr b2_b] [(.ref b2_b)] _
    refine st12.trans ?_
    show SS p e below m T12 156 #[vr a1, vi (2 : Int32), vi q0, vi q1, vi q2, vi ql, vi (1 : Int32), vi (3 : Int32), vr b2_b] [(.ref x2)] _
    refine st13 _ ?_
    show SS p e below m T13 159 #[vr a1, vi (2 : Int32), vi q0, vi q1, vi q2, vi ql, vi (1 : Int32), vi (3 : Int32), vr b2_b] [(.ref x2)] _
    refine st14.trans ?_
    show SS p e below m T14 162 #[vr a1, vi (2 : Int32), vi q0, vi q1, vi q2, vi ql, vi (1 : Int32), vi (3 : Int32), vr b2_b] [(.int ql)] _
    refine XS.iload X14.here hx rfl (hb hby d6_162) rfl ?_
    show SS p e below m T14 164 #[vr a1, vi (2 : Int32), vi q0, vi q1, vi q2, vi ql, vi (1 : Int32), vi (3 : Int32), vr b2_b] [(.int ql), (.int ql)] _
    refine XS.icmpYes X14.here hx rfl (pc0 := 164) (pc' := 169) rfl (hb hby d6_164) rfl (teq rfl).1 (by decide) (by decide) ?_
    show SS p e below m T14 169 #[vr a1, vi (2 : Int32), vi q0, vi q1, vi q2, vi ql, vi (1 : Int32), vi (3 : Int32), vr b2_b] [] _
    refine XS.aload X14.here hx rfl (hb hby d6_169) rfl rfl ?_
    show SS p e below m T14 171 #[vr a1, vi (2 : Int32), vi q0, vi q1, vi q2, vi ql, vi (1 : Int32), vi (3 : Int32), vr b2_b] [(.ref b2_b)] _
    refine st15.trans ?_
    show SS p e below m T15 176 #[vr a1, vi (2 : Int32), vi q0, vi q1, vi q2, vi ql, vi (1 : Int32), vi (3 : Int32), vr b2_b] [(.int (0 : Int32))] _
    refine XS.ifNo X15.here hx rfl (hb hby d6_176) rfl ((if0 _ _).trans (teq (by decide)).2) ?_
    show SS p e below m T15 179 #[vr a1, vi (2 : Int32), vi q0, vi q1, vi q2, vi ql, vi (1 : Int32), vi (3 : Int32), vr b2_b] [] _
    refine XS.iconst X15.here hx rfl (hb hby d6_179) ?_
    show SS p e below m T15 180 #[vr a1, vi (2 : Int32), vi q0, vi q1, vi q2, vi ql, vi (1 : Int32), vi (3 : Int32), vr b2_b] [(.int (1 : Int32))] _
    refine XS.goto X15.here hx rfl (pc0 := 180) (pc' := 184) rfl (hb hby d6_180) (by decide) (by decide) ?_
    show SS p e below m T15 184 #[vr a1, vi (2 : Int32), vi q0, vi q1, vi q2, vi ql, vi (1 : Int32), vi (3 : Int32), vr b2_b] [(.int (1 : Int32))] _
    exact retN X15 hx (t := .boolean) Bd.returns (by simp) (hb hby d6_184) hr
  · show Q_rmH21 Z a1 q0 q1 q2 ql sto arr kk cap vs x0 x1 x2 h0 n0 _ T15.heap _
    rw [e15]
    exact ⟨rfl, N15, KC⟩
theorem d6_104 : decode method_2_code 104 = .ok (.aload 8, 2) := by decide +kernel
theorem d6_106 : decode method_2_code 106 = .ok (.invokeinterface 17 1, 5) := by decide +kernel
theorem d6_111 : decode method_2_code 111 = .ok (.ifCond .eq 21, 3) := by decide +kernel
theorem d6_114 : decode method_2_code 114 = .ok (.aload 8, 2) := by decide +kernel
theorem d6_116 : decode method_2_code 116 = .ok (.invokeinterface 23 1, 5) := by decide +kernel
theorem d6_121 : decode method_2_code 121 = .ok (.checkcast 27, 3) := by decide +kernel
theorem d6_124 : decode method_2_code 124 = .ok (.invokevirtual 29, 3) := by decide +kernel
theorem d6_127 : decode method_2_code 127 = .ok (.iload 4, 2) := by decide +kernel
theorem d6_129 : decode method_2_code 129 = .ok (.if_icmp .eq 5, 3) := by decide +kernel
theorem ef_rmH30 (m : MethodId) (x0 : Addr) (x1 : Int32) (x2 : Int32) (x3 : Int32) (x4 : Int32) (x5 : Int32) (x6 : Int32) : entryFrame m #[(.ref x0), (.int x1), (.int x2), (.int x3), (.int x4), (.int x5), (.int x6)] 9 = mkF m 0 #[vr x0, vi x1, vi x2, vi x3, vi x4, vi x5, vi x6, .unset, .unset] [] := by first | (simp [entryFrame, mkF, argsToLocals, Value.category]; done) | rfl
def Q_rmH30 (Z : State) (a1 : Addr) (q0 : Int32) (q1 : Int32) (q2 : Int32) (ql : Int32) (sto : Addr) (arr : Addr) (kk : ClassId) (cap : Int32) (vs : List Value) (x0 : Addr) (x1 : Addr) (x2 : Addr) (h0 : Heap) (n0 : Nat) (v : Option Value) (h : Heap) (L : List Loc) : Prop := (v = some (.int (1 : Int32))) ∧ (Fr n0 L) ∧ (Keep h0 h [])
set_option maxRecDepth 65536 in
set_option maxHeartbeats 40000000 in
theorem rmH30 (l : Launch) (Z : State) (a0 : Array Value) (hw : ∀ d ∈ tables_1, d.before a0 Z = true) (ws : List Jvm.Cond) (a1 : Addr) (q0 : Int32) (q1 : Int32) (q2 : Int32) (ql : Int32) (sto : Addr) (arr : Addr) (kk : ClassId) (cap : Int32) (vs : List Value) (x0 : Addr) (x1 : Addr) (x2 : Addr) (h0 : Heap) (n0 : Nat) (Z0 : n0 ≤ h0.size) (O0 : Old Z n0 h0) (F_size_a1 : Fld Z h0 a1 "com/example/brisk_tableau/brisktableau/tableau/SharedList" "size" "I" (.int (3 : Int32))) (F_store_a1 : Fld Z h0 a1 "com/example/brisk_tableau/brisktableau/tableau/SharedList" "store" "Lcom/example/brisk_tableau/brisktableau/tableau/SharedList$Store;" (.ref sto)) (E_a1 : Exa Z h0 a1 "com/example/brisk_tableau/brisktableau/tableau/SharedList") (F_items_sto : Fld Z h0 sto "com/example/brisk_tableau/brisktableau/tableau/SharedList$Store" "items" "[Ljava/lang/Object;" (.ref arr)) (E_arr : Exa Z h0 arr "[Ljava/lang/Object;") (V_arr : Arv Z h0 arr kk (.object "java/lang/Object") cap vs .null) (E_x0 : Exa Z h0 x0 "java/lang/Integer") (F_value_x0 : Fld Z h0 x0 "java/lang/Integer" "value" "I" (.int q0)) (hX0 : vs.getD (0 : Int32).toNatClampNeg .null = .ref x0) (hD0 : (0 : Int32) < cap) (E_x1 : Exa Z h0 x1 "java/lang/Integer") (F_value_x1 : Fld Z h0 x1 "java/lang/Integer" "value" "I" (.int q1)) (hX1 : vs.getD (1 : Int32).toNatClampNeg .null = .ref x1) (hD1 : (1 : Int32) < cap) (E_x2 : Exa Z h0 x2 "java/lang/Integer") (F_value_x2 : Fld Z h0 x2 "java/lang/Integer" "value" "I" (.int q2)) (hX2 : vs.getD (2 : Int32).toNatClampNeg .null = .ref x2) (hD2 : (2 : Int32) < cap) :
    MetFree l y_20 (head1 (Jvm.Cond.code y_20 method_2_code 9 (some .boolean) :: ws) ({ frames := 3, cells := 1, slots := 3, locals := 42 } : Room)) (fun a U => a = #[(.ref a1), (.int (3 : Int32)), (.int q0), (.int q1), (.int q2), (.int ql), (.int (0 : Int32))] ∧ Z.Warmed39 U.vm ∧ U.heap = h0) (fun _ _ _ _ _ => True) (fun _ U o U' => ∃ v L, o = .returned v ∧ Q_rmH30 Z a1 q0 q1 q2 ql sto arr kk cap vs x0 x1 x2 h0 n0 v U'.heap L ∧ FrameEnd U o U' L ({ frames := 3, cells := 1, slots := 3, locals := 42 } : Room).cells ({ frames := 3, cells := 1, slots := 3, locals := 42 } : Room).slots) := by
  refine MetFree.of_bodySF (plainFor_of_name pn_7) hisR ?_
  intro p e s m args below meth c s₁ Bd hml0 hP hK
  obtain ⟨rfl, hZ, hh⟩ := hP
  have hx := Bd.exec
  have hby := Bd.bytes
  have hml : c.maxLocals = 9 := hml0
  have hown : s.vm.findClass "com/example/brisk_tableau/brisktableau/tableau/SharedListCopyPinLaw" = some m.cls := findClass_of_methodNamed Bd.named
  have hnm := (name_of_methodNamed Bd.named Bd.method).1
  have X0 : Stand p l e ({ frames := 3, cells := 1, slots := 3, locals := 42 } : Room) s m #[(.ref a1), (.int (3 : Int32)), (.int q0), (.int q1), (.int q2), (.int ql), (.int (0 : Int32))] below meth c s₁ [] 0 0 := Stand.of_body Bd
  have e0 : s₁.heap = h0 := by rw [← hh, Bd.state]; rfl
  have N0 := Fr.nil n0
  have KC : Keep h0 h0 [] := Keep.refl h0 _
  have pre0 : ∀ t, Steps p.tables e below (s₁.setTop (mkF m 0 #[vr a1, vi (3 : Int32), vi q0, vi q1, vi q2, vi ql, vi (0 : Int32), un, un] [])) t → Steps p.tables e below (s₁.setTop (entryFrame m #[(.ref a1), (.int (3 : Int32)), (.int q0), (.int q1), (.int q2), (.int ql), (.int (0 : Int32))] 9)) t := fun t k => castTop (ef_rmH30 m a1 (3 : Int32) q0 q1 q2 ql (0 : Int32)) k
  obtain ⟨cq1, kq1, q1a, q1b, q1c⟩ := isOf hZ e0 E_a1
  obtain ⟨_, _, ⟨T1, L1, k1, n1⟩, -, X1, ⟨Lc1, hQ1, l1, y1, z1⟩, st1⟩ := X0.virtualBack hx (y := y_18) (z := y_18) hown (mvT hZ (ww hw 39 rfl)) (mvT hZ (ww hw 40 rfl)) (notFace_of_selects (args := #[]) (mvT hZ (ww hw 42 rfl))) (mvT hZ (ww hw 42 rfl)) (mvT hZ (ww hw 41 rfl)) (by decide) (backOf (W := 0) (rmSz l Z a0 hw [] a1 (3 : Int32) h0 n0 (Nat.le_trans Z0 KC.1) O0 F_size_a1) hZ (ww hw 43 rfl) (ww hw 2 rfl) (by decide) (by decide)) q1a q1c (g := (mkF m 15 #[vr a1, vi (3 : Int32), vi q0, vi q1, vi q2, vi ql, vi (0 : Int32), vi (3 : Int32), un] [(.ref a1)])) rfl (by rw [hml]; rfl) (Steps.refl _) (argsL := []) (rest := []) (lenOf pd_9 rfl) rfl (by show 2 * 0 + _ ≤ _; exact Nat.le_of_eq rfl) (hb hby d6_15) (fun _ _ => ⟨rfl, e0, (by decide : 0 + 0 ≤ _), (by decide : 0 + 0 ≤ _)⟩)
  dsimp only [Pt.U, Pt.locs, Pt.cells, Pt.slots] at X1 l1 y1 z1 st1 hQ1
  subst l1 y1 z1
  obtain ⟨rfl, N1q, e1⟩ := hQ1
  have N1 := Fr.app N0 N1q
  obtain ⟨cq2, kq2, q2a, q2b, q2c⟩ := isOf hZ e1 E_a1
  obtain ⟨_, _, ⟨T2, L2, k2, n2⟩, -, X2, ⟨Lc2, hQ2, l2, y2, z2⟩, st2⟩ := X1.virtualBack hx (y := y_15) (z := y_15) hown (mvT hZ (ww hw 44 rfl)) (mvT hZ (ww hw 45 rfl)) (notFace_of_selects (args := #[]) (mvT hZ (ww hw 47 rfl))) (mvT hZ (ww hw 47 rfl)) (mvT hZ (ww hw 46 rfl)) (by decide) (backOf (W := 0) (rmIt l Z a0 hw [] a1 sto (3 : Int32) arr h0 n0 (Nat.le_trans Z0 KC.1) O0 F_store_a1 F_size_a1 F_items_sto) hZ (ww hw 48 rfl) (ww hw 2 rfl) (by decide) (by decide)) q2a q2c (g := (mkF m 26 #[vr a1, vi (3 : Int32), vi q0, vi q1, vi q2, vi ql, vi (0 : Int32), vi (3 : Int32), un] [(.ref a1)])) rfl (by rw [hml]; rfl) (Steps.refl _) (argsL := []) (rest := []) (lenOf pd_10 rfl) rfl (by show 2 * 0 + _ ≤ _; exact Nat.le_of_eq rfl) (hb hby d6_26) (fun _ _ => ⟨rfl, e1, (by decide : 0 + 1 ≤ _), (by decide : 0 + 3 ≤ _)⟩)
  dsimp only [Pt.U, Pt.locs, Pt.cells, Pt.slots] at X2 l2 y2 z2 st2 hQ2
  subst l2 y2 z2
  obtain ⟨b2_b, rfl, N2q, K2, sz_b2_b, E_b_2, F_val_length_b_2, F_val_items_b_2, F_next_b_2⟩ := hQ2
  have N2 := Fr.app N1 N2q
  have ne_a1_b2_b : a1 ≠ b2_b := Nat.ne_of_lt (Nat.lt_of_lt_of_le F_size_a1.lt sz_b2_b)
  have ne_sto_b2_b : sto ≠ b2_b := Nat.ne_of_lt (Nat.lt_of_lt_of_le F_items_sto.lt sz_b2_b)
  have ne_arr_b2_b : arr ≠ b2_b := Nat.ne_of_lt (Nat.lt_of_lt_of_le E_arr.lt sz_b2_b)
  have ne_x0_b2_b : x0 ≠ b2_b := Nat.ne_of_lt (Nat.lt_of_lt_of_le E_x0.lt sz_b2_b)
  have ne_x1_b2_b : x1 ≠ b2_b := Nat.ne_of_lt (Nat.lt_of_lt_of_le E_x1.lt sz_b2_b)
  have ne_x2_b2_b : x2 ≠ b2_b := Nat.ne_of_lt (Nat.lt_of_lt_of_le E_x2.lt sz_b2_b)
  have g_b2_b : n0 ≤ b2_b := Nat.le_trans (Nat.le_trans Z0 KC.1) sz_b2_b
  replace sz_b2_b : h0.size ≤ b2_b := Nat.le_trans KC.1 sz_b2_b
  replace F_size_a1 := F_size_a1.keep K2 nin0
  replace F_store_a1 := F_store_a1.keep K2 nin0
  replace E_a1 := E_a1.keep K2
  replace F_items_sto := F_items_sto.keep K2 nin0
  replace E_arr := E_arr.keep K2
  replace V_arr := V_arr.keep K2 nin0
  replace E_x0 := E_x0.keep K2
  replace F_value_x0 := F_value_x0.keep K2 nin0
  replace E_x1 := E_x1.keep K2
  replace F_value_x1 := F_value_x1.keep K2 nin0
  replace E_x2 := E_x2.keep K2
  replace F_value_x2 := F_value_x2.keep K2 nin0
  replace O0 := O0.keep K2 all0
  replace KC := KC.trans K2 all0
  obtain ⟨cq3, kq3, q3a, q3b, q3c⟩ := isOf hZ rfl E_b_2
  obtain ⟨_, _, ⟨T3, L3, k3, n3⟩, -, X3, ⟨Lc3, hQ3, l3, y3, z3⟩, st3⟩ := X2.interfaceBack hx (xi := y_19) (y := y_16) hown (mvT hZ (ww hw 61 rfl)) (mvT hZ (ww hw 62 rfl)) (mvT hZ (ww hw 63 rfl)) (mvT hZ (ww hw 64 rfl)) (mvT hZ (ww hw 65 rfl)) (mvT hZ (ww hw 66 rfl)) (mvT hZ (ww hw 67 rfl)) (mvT hZ (ww hw 68 rfl)) (by decide) (backOf (W := 0) (rmHn l Z a0 hw [] b2_b (0 : Int32) (3 : Int32) (1 : Int32) T2.heap n0 (Nat.le_trans Z0 KC.1) O0 F_next_b_2 F_val_length_b_2 (by decide)) hZ (ww hw 69 rfl) (ww hw 52 rfl) (by decide) (by decide)) q3a q3b q3c (g := (mkF m 38 #[vr a1, vi (3 : Int32), vi q0, vi q1, vi q2, vi ql, vi (0 : Int32), vi (3 : Int32), vr b2_b] [(.ref b2_b)])) rfl (by rw [hml]; rfl) (Steps.refl _) (argsL := []) (rest := []) (lenOf pd_11 rfl) rfl (by show 2 * 0 + _ ≤ _; exact Nat.le_of_eq rfl) (hb hby d6_38) (fun _ _ => ⟨rfl, rfl, (by decide : 1 + 0 ≤ _), (by decide : 3 + 0 ≤ _)⟩)
  dsimp only [Pt.U, Pt.locs, Pt.cells, Pt.slots] at X3 l3 y3 z3 st3 hQ3
  subst l3 y3 z3
  obtain ⟨rfl, N3q, e3⟩ := hQ3
  have N3 := Fr.app N2 N3q
  obtain ⟨cq4, kq4, q4a, q4b, q4c⟩ := isOf hZ e3 E_b_2
  obtain ⟨_, _, ⟨T4, L4, k4, n4⟩, -, X4, ⟨Lc4, hQ4, l4, y4, z4⟩, st4⟩ := X3.interfaceBack hx (xi := y_21) (y := y_17) hown (mvT hZ (ww hw 116 rfl)) (mvT hZ (ww hw 117 rfl)) (mvT hZ (ww hw 118 rfl)) (mvT hZ (ww hw 119 rfl)) (mvT hZ (ww hw 120 rfl)) (mvT hZ (ww hw 121 rfl)) (mvT hZ (ww hw 122 rfl)) (mvT hZ (ww hw 68 rfl)) (by decide) (backOf (W := 0) (rmNx l Z a0 hw [] b2_b (0 : Int32) (3 : Int32) arr kk cap vs x0 (1 : Int32) T2.heap n0 (Nat.le_trans Z0 KC.1) O0 F_next_b_2 F_val_length_b_2 F_val_items_b_2 E_b_2 E_arr V_arr g_b2_b (by decide) (by decide) hD0 hX0 (by decide)) hZ (ww hw 123 rfl) (ww hw 52 rfl) (by decide) (by decide)) q4a q4b q4c (g := (mkF m 48 #[vr a1, vi (3 : Int32), vi q0, vi q1, vi q2, vi ql, vi (0 : Int32), vi (3 : Int32), vr b2_b] [(.ref b2_b)])) rfl (by rw [hml]; rfl) (Steps.refl _) (argsL := []) (rest := []) (lenOf pd_12 rfl) rfl (by show 2 * 0 + _ ≤ _; exact Nat.le_of_eq rfl) (hb hby d6_48) (fun _ _ => ⟨rfl, e3, (by decide : 1 + 0 ≤ _), (by decide : 3 + 0 ≤ _)⟩)
  dsimp only [Pt.U, Pt.locs, Pt.cells, Pt.slots] at X4 l4 y4 z4 st4 hQ4
  subst l4 y4 z4
  obtain ⟨rfl, N4q, K4, F_next_a1_4, F_val_length_a1_4, F_val_items_a1_4⟩ := hQ4
  have N4 := Fr.app N3 N4q
  replace F_size_a1 := F_size_a1.keep K4 (ninS ne_a1_b2_b nin0)
  replace F_store_a1 := F_store_a1.keep K4 (ninS ne_a1_b2_b nin0)
  replace E_a1 := E_a1.keep K4
  replace F_items_sto := F_items_sto.keep K4 (ninS ne_sto_b2_b nin0)
  replace E_arr := E_arr.keep K4
  replace V_arr := V_arr.keep K4 (ninS ne_arr_b2_b nin0)
  replace E_x0 := E_x0.keep K4
  replace F_value_x0 := F_value_x0.keep K4 (ninS ne_x0_b2_b nin0)
  replace E_x1 := E_x1.keep K4
  replace F_value_x1 := F_value_x1.keep K4 (ninS ne_x1_b2_b nin0)
  replace E_x2 := E_x2.keep K4
  replace F_value_x2 := F_value_x2.keep K4 (ninS ne_x2_b2_b nin0)
  replace E_b_2 := E_b_2.keep K4
  replace O0 := O0.keep K4 (allS g_b2_b all0)
  replace KC := KC.trans K4 (allS (Or.inr sz_b2_b) all0)
  obtain ⟨T5, X5, e5, st5⟩ := castY X4 hx hZ hown (ww hw 124 rfl) rfl (Ins.self E_x0) (g := (mkF m 53 #[vr a1, vi (3 : Int32), vi q0, vi q1, vi q2, vi ql, vi (0 : Int32), vi (3 : Int32), vr b2_b] [(.ref x0)])) rfl rfl (hb hby d6_53)
  obtain ⟨cq6, kq6, q6a, q6b, q6c⟩ := isOf hZ e5 E_x0
  obtain ⟨_, _, ⟨T6, L6, k6, n6⟩, -, X6, ⟨Lc6, hQ6, l6, y6, z6⟩, st6⟩ := X5.virtualBack hx (y := y_6) (z := y_6) hown (mvT hZ (ww hw 126 rfl)) (mvT hZ (ww hw 127 rfl)) (notFace_of_selects (args := #[]) (mvT hZ (ww hw 129 rfl))) (mvT hZ (ww hw 129 rfl)) (mvT hZ (ww hw 128 rfl)) (by decide) (backOf (W := 0) (rmIv l Z a0 hw [] x0 q0 T4.heap n0 (Nat.le_trans Z0 KC.1) O0 F_value_x0) hZ (ww hw 130 rfl) (ww hw 74 rfl) (by decide) (by decide)) q6a q6c (g := (mkF m 56 #[vr a1, vi (3 : Int32), vi q0, vi q1, vi q2, vi ql, vi (0 : Int32), vi (3 : Int32), vr b2_b] [(.ref x0)])) rfl (by rw [hml]; rfl) (Steps.refl _) (argsL := []) (rest := []) (lenOf pd_9 rfl) rfl (by show 2 * 0 + _ ≤ _; exact Nat.le_of_eq rfl) (hb hby d6_56) (fun _ _ => ⟨rfl, e5, (by decide : 1 + 0 ≤ _), (by decide : 3 + 0 ≤ _)⟩)
  dsimp only [Pt.U, Pt.locs, Pt.cells, Pt.slots] at X6 l6 y6 z6 st6 hQ6
  subst l6 y6 z6
  obtain ⟨rfl, N6q, e6⟩ := hQ6
  have N6 := Fr.app N4 N6q
  obtain ⟨cq7, kq7, q7a, q7b, q7c⟩ := isOf hZ e6 E_b_2
  obtain ⟨_, _, ⟨T7, L7, k7, n7⟩, -, X7, ⟨Lc7, hQ7, l7, y7, z7⟩, st7⟩ := X6.interfaceBack hx (xi := y_19) (y := y_16) hown (mvT hZ (ww hw 61 rfl)) (mvT hZ (ww hw 62 rfl)) (mvT hZ (ww hw 63 rfl)) (mvT hZ (ww hw 64 rfl)) (mvT hZ (ww hw 65 rfl)) (mvT hZ (ww hw 66 rfl)) (mvT hZ (ww hw 67 rfl)) (mvT hZ (ww hw 68 rfl)) (by decide) (backOf (W := 0) (rmHn l Z a0 hw [] b2_b (1 : Int32) (3 : Int32) (1 : Int32) T4.heap n0 (Nat.le_trans Z0 KC.1) O0 F_next_a1_4 F_val_length_a1_4 (by decide)) hZ (ww hw 69 rfl) (ww hw 52 rfl) (by decide) (by decide)) q7a q7b q7c (g := (mkF m 72 #[vr a1, vi (3 : Int32), vi q0, vi q1, vi q2, vi ql, vi (0 : Int32), vi (3 : Int32), vr b2_b] [(.ref b2_b)])) rfl (by rw [hml]; rfl) (Steps.refl _) (argsL := []) (rest := []) (lenOf pd_11 rfl) rfl (by show 2 * 0 + _ ≤ _; exact Nat.le_of_eq rfl) (hb hby d6_72) (fun _ _ => ⟨rfl, e6, (by decide : 1 + 0 ≤ _), (by decide : 3 + 0 ≤ _)⟩)
  dsimp only [Pt.U, Pt.locs, Pt.cells, Pt.slots] at X7 l7 y7 z7 st7 hQ7
  subst l7 y7 z7
  obtain ⟨rfl, N7q, e7⟩ := hQ7
  have N7 := Fr.app N6 N7q
  obtain ⟨cq8, kq8, q8a, q8b, q8c⟩ := isOf hZ e7 E_b_2
  obtain ⟨_, _, ⟨T8, L8, k8, n8⟩, -, X8, ⟨Lc8, hQ8, l8, y8, z8⟩, st8⟩ := X7.interfaceBack hx (xi := y_21) (y := y_17) hown (mvT hZ (ww hw 116 rfl)) (mvT hZ (ww hw 117 rfl)) (mvT hZ (ww hw 118 rfl)) (mvT hZ (ww hw 119 rfl)) (mvT hZ (ww hw 120 rfl)) (mvT hZ (ww hw 121 rfl)) (mvT hZ (ww hw 122 rfl)) (mvT hZ (ww hw 68 rfl)) (by decide) (backOf (W := 0) (rmNx l Z a0 hw [] b2_b (1 : Int32) (3 : Int32) arr kk cap vs x1 (2 : Int32) T4.heap n0 (Nat.le_trans Z0 KC.1) O0 F_next_a1_4 F_val_length_a1_4 F_val_items_a1_4 E_b_2 E_arr V_arr g_b2_b (by decide) (by decide) hD1 hX1 (by decide)) hZ (ww hw 123 rfl) (ww hw 52 rfl) (by decide) (by decide)) q8a q8b q8c (g := (mkF m 82 #[vr a1, vi (3 : Int32), vi q0, vi q1, vi q2, vi ql, vi (0 : Int32), vi (3 : Int32), vr b2_b] [(.ref b2_b)])) rfl (by rw [hml]; rfl) (Steps.refl _) (argsL := []) (rest := []) (lenOf pd_12 rfl) rfl (by show 2 * 0 + _ ≤ _; exact Nat.le_of_eq rfl) (hb hby d6_82) (fun _ _ => ⟨rfl, e7, (by decide : 1 + 0 ≤ _), (by decide : 3 + 0 ≤ _)⟩)
  dsimp only [Pt.U, Pt.locs, Pt.cells, Pt.slots] at X8 l8 y8 z8 st8 hQ8
  subst l8 y8 z8
  obtain ⟨rfl, N8q, K8, F_next_a1_8, F_val_length_a1_8, F_val_items_a1_8⟩ := hQ8
  have N8 := Fr.app N7 N8q
  replace F_size_a1 := F_size_a1.keep K8 (ninS ne_a1_b2_b nin0)
  replace F_store_a1 := F_store_a1.keep K8 (ninS ne_a1_b2_b nin0)
  replace E_a1 := E_a1.keep K8
  replace F_items_sto := F_items_sto.keep K8 (ninS ne_sto_b2_b nin0)
  replace E_arr := E_arr.keep K8
  replace V_arr := V_arr.keep K8 (ninS ne_arr_b2_b nin0)
  replace E_x0 := E_x0.keep K8
  replace F_value_x0 := F_value_x0.keep K8 (ninS ne_x0_b2_b nin0)
  replace E_x1 := E_x1.keep K8
  replace F_value_x1 := F_value_x1.keep K8 (ninS ne_x1_b2_b nin0)
  replace E_x2 := E_x2.keep K8
  replace F_value_x2 := F_value_x2.keep K8 (ninS ne_x2_b2_b nin0)
  replace E_b_2 := E_b_2.keep K8
  replace O0 := O0.keep K8 (allS g_b2_b all0)
  replace KC := KC.trans K8 (allS (Or.inr sz_b2_b) all0)
  obtain ⟨T9, X9, e9, st9⟩ := castY X8 hx hZ hown (ww hw 124 rfl) rfl (Ins.self E_x1) (g := (mkF m 87 #[vr a1, vi (3 : Int32), vi q0, vi q1, vi q2, vi ql, vi (0 : Int32), vi (3 : Int32), vr b2_b] [(.ref x1)])) rfl rfl (hb hby d6_87)
  obtain ⟨cq10, kq10, q10a, q10b, q10c⟩ := isOf hZ e9 E_x1
  obtain ⟨_, _, ⟨T10, L10, k10, n10⟩, -, X10, ⟨Lc10, hQ10, l10, y10, z10⟩, st10⟩ := X9.virtualBack hx (y := y_6) (z := y_6) hown (mvT hZ (ww hw 126 rfl)) (mvT hZ (ww hw 127 rfl)) (notFace_of_selects (args := #[]) (mvT hZ (ww hw 129 rfl))) (mvT hZ (ww hw 129 rfl)) (mvT hZ (ww hw 128 rfl)) (by decide) (backOf (W := 0) (rmIv l Z a0 hw [] x1 q1 T8.heap n0 (Nat.le_trans Z0 KC.1) O0 F_value_x1) hZ (ww hw 130 rfl) (ww hw 74 rfl) (by decide) (by decide)) q10a q10c (g := (mkF m 90 #[vr a1, vi (3 : Int32), vi q0, vi q1, vi q2, vi ql, vi (0 : Int32), vi (3 : Int32), vr b2_b] [(.ref x1)])) rfl (by rw [hml]; rfl) (Steps.refl _) (argsL := []) (rest := []) (lenOf pd_9 rfl) rfl (by show 2 * 0 + _ ≤ _; exact Nat.le_of_eq rfl) (hb hby d6_90) (fun _ _ => ⟨rfl, e9, (by decide : 1 + 0 ≤ _), (by decide : 3 + 0 ≤ _)⟩)
  dsimp only [Pt.U, Pt.locs, Pt.cells, Pt.slots] at X10 l10 y10 z10 st10 hQ10
  subst l10 y10 z10
  obtain ⟨rfl, N10q, e10⟩ := hQ10
  have N10 := Fr.app N8 N10q
  obtain ⟨cq11, kq11, q11a, q11b, q11c⟩ := isOf hZ e10 E_b_2
  obtain ⟨_, _, ⟨T11, L11, k11, n11⟩, -, X11, ⟨Lc11, hQ11, l11, y11, z11⟩, st11⟩ := X10.interfaceBack hx (xi := y_19) (y := y_16) hown (mvT hZ (ww hw 61 rfl)) (mvT hZ (ww hw 62 rfl)) (mvT hZ (ww hw 63 rfl)) (mvT hZ (ww hw 64 rfl)) (mvT hZ (ww hw 65 rfl)) (mvT hZ (ww hw 66 rfl)) (mvT hZ (ww hw 67 rfl)) (mvT hZ (ww hw 68 rfl)) (by decide) (backOf (W := 0) (rmHn l Z a0 hw [] b2_b (2 : Int32) (3 : Int32) (1 : Int32) T8.heap n0 (Nat.le_trans Z0 KC.1) O0 F_next_a1_8 F_val_length_a1_8 (by decide)) hZ (ww hw 69 rfl) (ww hw 52 rfl) (by decide) (by decide)) q11a q11b q11c (g := (mkF m 106 #[vr a1, vi (3 : Int32), vi q0, vi q1, vi q2, vi ql, vi (0 : Int32), vi (3 : Int32), vr b2_b] [(.ref b2_b)])) rfl (by rw [hml]; rfl) (Steps.refl _) (argsL := []) (rest := []) (lenOf pd_11 rfl) rfl (by show 2 * 0 + _ ≤ _; exact Nat.le_of_eq rfl) (hb hby d6_106) (fun _ _ => ⟨rfl, e10, (by decide : 1 + 0 ≤ _), (by decide : 3 + 0 ≤ _)⟩)
  dsimp only [Pt.U, Pt.locs, Pt.cells, Pt.slots] at X11 l11 y11 z11 st11 hQ11
  subst l11 y11 z11
  obtain ⟨rfl, N11q, e11⟩ := hQ11
  have N11 := Fr.app N10 N11q
  obtain ⟨cq12, kq12, q12a, q12b, q12c⟩ := isOf hZ e11 E_b_2
  obtain ⟨_, _, ⟨T12, L12, k12, n12⟩, -, X12, ⟨Lc12, hQ12, l12, y12, z12⟩, st12⟩ := X11.interfaceBack hx (xi := y_21) (y := y_17) hown (mvT hZ (ww hw 116 rfl)) (mvT hZ (ww hw 117 rfl)) (mvT hZ (ww hw 118 rfl)) (mvT hZ (ww hw 119 rfl)) (mvT hZ (ww hw 120 rfl)) (mvT hZ (ww hw 121 rfl)) (mvT hZ (ww hw 122 rfl)) (mvT hZ (ww hw 68 rfl)) (by decide) (backOf (W := 0) (rmNx l Z a0 hw [] b2_b (2 : Int32) (3 : Int32) arr kk cap vs x2 (3 : Int32) T8.heap n0 (Nat.le_trans Z0 KC.1) O0 F_next_a1_8 F_val_length_a1_8 F_val_items_a1_8 E_b_2 E_arr V_arr g_b2_b (by decide) (by decide) hD2 hX2 (by decide)) hZ (ww hw 123 rfl) (ww hw 52 rfl) (by decide) (by decide)) q12a q12b q12c (g := (mkF m 116 #[vr a1, vi (3 : Int32), vi q0, vi q1, vi q2, vi ql, vi (0 : Int32), vi (3 : Int32), vr b2_b] [(.ref b2_b)])) rfl (by rw [hml]; rfl) (Steps.refl _) (argsL := []) (rest := []) (lenOf pd_12 rfl) rfl (by show 2 * 0 + _ ≤ _; exact Nat.le_of_eq rfl) (hb hby d6_116) (fun _ _ => ⟨rfl, e11, (by decide : 1 + 0 ≤ _), (by decide : 3 + 0 ≤ _)⟩)
  dsimp only [Pt.U, Pt.locs, Pt.cells, Pt.slots] at X12 l12 y12 z12 st12 hQ12
  subst l12 y12 z12
  obtain ⟨rfl, N12q, K12, F_next_a1_12, F_val_length_a1_12, F_val_items_a1_12⟩ := hQ12
  have N12 := Fr.app N11 N12q
  replace F_size_a1 := F_size_a1.keep K12 (ninS ne_a1_b2_b nin0)
  replace F_store_a1 := F_store_a1.keep K12 (ninS ne_a1_b2_b nin0)
  replace E_a1 := E_a1.keep K12
  replace F_items_sto := F_items_sto.keep K12 (ninS ne_sto_b2_b nin0)
  replace E_arr := E_arr.keep K12
  replace V_arr := V_arr.keep K12 (ninS ne_arr_b2_b nin0)
  replace E_x0 := E_x0.keep K12
  replace F_value_x0 := F_value_x0.keep K12 (ninS ne_x0_b2_b nin0)
  replace E_x1 := E_x1.keep K12
  replace F_value_x1 := F_value_x1.keep K12 (ninS ne_x1_b2_b nin0)
  replace E_x2 := E_x2.keep K12
  replace F_value_x2 := F_value_x2.keep K12 (ninS ne_x2_b2_b nin0)
  replace E_b_2 := E_b_2.keep K12
  replace O0 := O0.keep K12 (allS g_b2_b all0)
  replace KC := KC.trans K12 (allS (Or.inr sz_b2_b) all0)
  obtain ⟨T13, X13, e13, st13⟩ := castY X12 hx hZ hown (ww hw 124 rfl) rfl (Ins.self E_x2) (g := (mkF m 121 #[vr a1, vi (3 : Int32), vi q0, vi q1, vi q2, vi ql, vi (0 : Int32), vi (3 : Int32), vr b2_b] [(.ref x2)])) rfl rfl (hb hby d6_121)
  obtain ⟨cq14, kq14, q14a, q14b, q14c⟩ := isOf hZ e13 E_x2
  obtain ⟨_, _, ⟨T14, L14, k14, n14⟩, -, X14, ⟨Lc14, hQ14, l14, y14, z14⟩, st14⟩ := X13.virtualBack hx (y := y_6) (z := y_6) hown (mvT hZ (ww hw 126 rfl)) (mvT hZ (ww hw 127 rfl)) (notFace_of_selects (args := #[]) (mvT hZ (ww hw 129 rfl))) (mvT hZ (ww hw 129 rfl)) (mvT hZ (ww hw 128 rfl)) (by decide) (backOf (W := 0) (rmIv l Z a0 hw [] x2 q2 T12.heap n0 (Nat.le_trans Z0 KC.1) O0 F_value_x2) hZ (ww hw 130 rfl) (ww hw 74 rfl) (by decide) (by decide)) q14a q14c (g := (mkF m 124 #[vr a1, vi (3 : Int32), vi q0, vi q1, vi q2, vi ql, vi (0 : Int32), vi (3 : Int32), vr b2_b] [(.ref x2)])) rfl (by rw [hml]; rfl) (Steps.refl _) (argsL := []) (rest := []) (lenOf pd_9 rfl) rfl (by show 2 * 0 + _ ≤ _; exact Nat.le_of_eq rfl) (hb hby d6_124) (fun _ _ => ⟨rfl, e13, (by decide : 1 + 0 ≤ _), (by decide : 3 + 0 ≤ _)⟩)
  dsimp only [Pt.U, Pt.locs, Pt.cells, Pt.slots] at X14 l14 y14 z14 st14 hQ14
  subst l14 y14 z14
  obtain ⟨rfl, N14q, e14⟩ := hQ14
  have N14 := Fr.app N12 N14q
  obtain ⟨cq15, kq15, q15a, q15b, q15c⟩ := isOf hZ e14 E_b_2
  obtain ⟨_, _, ⟨T15, L15, k15, n15⟩, -, X15, ⟨Lc15, hQ15, l15, y15, z15⟩, st15⟩ := X14.interfaceBack hx (xi := y_19) (y := y_16) hown (mvT hZ (ww hw 61 rfl)) (mvT hZ (ww hw 62 rfl)) (mvT hZ (ww hw 63 rfl)) (mvT hZ (ww hw 64 rfl)) (mvT hZ (ww hw 65 rfl)) (mvT hZ (ww hw 66 rfl)) (mvT hZ (ww hw 67 rfl)) (mvT hZ (ww hw 68 rfl)) (by decide) (backOf (W := 0) (rmHn l Z a0 hw [] b2_b (3 : Int32) (3 : Int32) (0 : Int32) T12.heap n0 (Nat.le_trans Z0 KC.1) O0 F_next_a1_12 F_val_length_a1_12 (by decide)) hZ (ww hw 69 rfl) (ww hw 52 rfl) (by decide) (by decide)) q15a q15b q15c (g := (mkF m 171 #[vr a1, vi (3 : Int32), vi q0, vi q1, vi q2, vi ql, vi (0 : Int32), vi (3 : Int32), vr b2_b] [(.ref b2_b)])) rfl (by rw [hml]; rfl) (Steps.refl _) (argsL := []) (rest := []) (lenOf pd_11 rfl) rfl (by show 2 * 0 + _ ≤ _; exact Nat.le_of_eq rfl) (hb hby d6_171) (fun _ _ => ⟨rfl, e14, (by decide : 1 + 0 ≤ _), (by decide : 3 + 0 ≤ _)⟩)
  dsimp only [Pt.U, Pt.locs, Pt.cells, Pt.slots] at X15 l15 y15 z15 st15 hQ15
  subst l15 y15 z15
  obtain ⟨rfl, N15q, e15⟩ := hQ15
  have N15 := Fr.app N14 N15q
  obtain ⟨fs, hr, hrun, hended, hW, hsame⟩ := X15.leave (v := some (.int (1 : Int32))) (fun h => by rw [Bd.returns] at h; cases h)
  refine ⟨_, _, pre0 _ ?_, hrun, hended, _, _, rfl, ?_, ⟨_, rfl⟩, hW, hsame.mono (by decide) (by decide)⟩
  · show SS p e below m s₁ 0 #[vr a1, vi (3 : Int32), vi q0, vi q1, vi q2, vi ql, vi (0 : Int32), un, un] [] _
    refine XS.iload X0.here hx rfl (hb hby d6_0) rfl ?_
    show SS p e below m s₁ 2 #[vr a1, vi (3 : Int32), vi q0, vi q1, vi q2, vi ql, vi (0 : Int32), un, un] [(.int (0 : Int32))] _
    refine XS.ifYes X0.here hx rfl (pc0 := 2) (pc' := 11) rfl (hb hby d6_2) rfl ((if0 _ _).trans (teq (by decide)).1) (by decide) (by decide) ?_
    show SS p e below m s₁ 11 #[vr a1, vi (3 : Int32), vi q0, vi q1, vi q2, vi ql, vi (0 : Int32), un, un] [] _
    refine XS.iloadN X0.here hx rfl (hb hby d6_11) rfl ?_
    show SS p e below m s₁ 12 #[vr a1, vi (3 : Int32), vi q0, vi q1, vi q2, vi ql, vi (0 : Int32), un, un] [(.int (3 : Int32))] _
    refine XS.istore X0.here hx rfl (hb hby d6_12) rfl (l' := #[vr a1, vi (3 : Int32), vi q0, vi q1, vi q2, vi ql, vi (0 : Int32), vi (3 : Int32), un]) rfl ?_
    show SS p e below m s₁ 14 #[vr a1, vi (3 : Int32), vi q0, vi q1, vi q2, vi ql, vi (0 : Int32), vi (3 : Int32), un] [] _
    refine XS.aloadN X0.here hx rfl (hb hby d6_14) rfl rfl ?_
    show SS p e below m s₁ 15 #[vr a1, vi (3 : Int32), vi q0, vi q1, vi q2, vi ql, vi (0 : Int32), vi (3 : Int32), un] [(.ref a1)] _
    refine st1.trans ?_
    show SS p e below m T1 18 #[vr a1, vi (3 : Int32), vi q0, vi q1, vi q2, vi ql, vi (0 : Int32), vi (3 : Int32), un] [(.int (3 : Int32))] _
    refine XS.iload X1.here hx rfl (hb hby d6_18) rfl ?_
    show SS p e below m T1 20 #[vr a1, vi (3 : Int32), vi q0, vi q1, vi q2, vi ql, vi (0 : Int32), vi (3 : Int32), un] [(.int (3 : Int32)), (.int (3 : Int32))] _
    refine XS.icmpYes X1.here hx rfl (pc0 := 20) (pc' := 25) rfl (hb hby d6_20) rfl (teq (by decide)).1 (by decide) (by decide) ?_
    show SS p e below m T1 25 #[vr a1, vi (3 : Int32), vi q0, vi q1, vi q2, vi ql, vi (0 : Int32), vi (3 : Int32), un] [] _
    refine XS.aloadN X1.here hx rfl (hb hby d6_25) rfl rfl ?_
    show SS p e below m T1 26 #[vr a1, vi (3 : Int32), vi q0, vi q1, vi q2, vi ql, vi (0 : Int32), vi (3 : Int32), un] [(.ref a1)] _
    refine st2.trans ?_
    show SS p e below m T2 29 #[vr a1, vi (3 : Int32), vi q0, vi q1, vi q2, vi ql, vi (0 : Int32), vi (3 : Int32), un] [(.ref b2_b)] _
    refine XS.astore X2.here hx rfl (hb hby d6_29) rfl rfl (l' := #[vr a1, vi (3 : Int32), vi q0, vi q1, vi q2, vi ql, vi (0 : Int32), vi (3 : Int32), vr b2_b]) rfl ?_
    show SS p e below m T2 31 #[vr a1, vi (3 : Int32), vi q0, vi q1, vi q2, vi ql, vi (0 : Int32), vi (3 : Int32), vr b2_b] [] _
    refine XS.iloadN X2.here hx rfl (hb hby d6_31) rfl ?_
    show SS p e below m T2 32 #[vr a1, vi (3 : Int32), vi q0, vi q1, vi q2, vi ql, vi (0 : Int32), vi (3 : Int32), vr b2_b] [(.int (3 : Int32))] _
    refine XS.iconst X2.here hx rfl (hb hby d6_32) ?_
    show SS p e below m T2 33 #[vr a1, vi (3 : Int32), vi q0, vi q1, vi q2, vi ql, vi (0 : Int32), vi (3 : Int32), vr b2_b] [(.int (1 : Int32)), (.int (3 : Int32))] _
    refine XS.icmpNo X2.here hx rfl (hb hby d6_33) rfl (flt (by decide)).1 ?_
    show SS p e below m T2 36 #[vr a1, vi (3 : Int32), vi q0, vi q1, vi q2, vi ql, vi (0 : Int32), vi (3 : Int32), vr b2_b] [] _
    refine XS.aload X2.here hx rfl (hb hby d6_36) rfl rfl ?_
    show SS p e below m T2 38 #[vr a1, vi (3 : Int32), vi q0, vi q1, vi q2, vi ql, vi (0 : Int32), vi (3 : Int32), vr b2_b] [(.ref b2_b)] _
    refine st3.trans ?_
    show SS p e below m T3 43 #[vr a1, vi (3 : Int32), vi q0, vi q1, vi q2, vi ql, vi (0 : Int32), vi (3 : Int32), vr b2_b] [(.int (1 : Int32))] _
    refine XS.ifNo X3.here hx rfl (hb hby d6_43) rfl ((if0 _ _).trans (feq (by decide)).1) ?_
    show SS p e below m T3 46 #[vr a1, vi (3 : Int32), vi q0, vi q1, vi q2, vi ql, vi (0 : Int32), vi (3 : Int32), vr b2_b] [] _
    refine XS.aload X3.here hx rfl (hb hby d6_46) rfl rfl ?_
    show SS p e below m T3 48 #[vr a1, vi (3 : Int32), vi q0, vi q1, vi q2, vi ql, vi (0 : Int32), vi (3 : Int32), vr b2_b] [(.ref b2_b)] _
    refine st4.trans ?_
    show SS p e below m T4 53 #[vr a1, vi (3 : Int32), vi q0, vi q1, vi q2, vi ql, vi (0 : Int32), vi (3 : Int32), vr b2_b] [(.ref x0)] _
    refine st5 _ ?_
    show SS p e below m T5 56 #[vr a1, vi (3 : Int32), vi q0, vi q1, vi q2, vi ql, vi (0 : Int32), vi (3 : Int32), vr b2_b] [(.ref x0)] _
    refine st6.trans ?_
    show SS p e below m T6 59 #[vr a1, vi (3 : Int32), vi q0, vi q1, vi q2, vi ql, vi (0 : Int32), vi (3 : Int32), vr b2_b] [(.int q0)] _
    refine XS.iloadN X6.here hx rfl (hb hby d6_59) rfl ?_
    show SS p e below m T6 60 #[vr a1, vi (3 : Int32), vi q0, vi q1, vi q2, vi ql, vi (0 : Int32), vi (3 : Int32), vr b2_b] [(.int q0), (.int q0)] _
    refine XS.icmpYes X6.here hx rfl (pc0 := 60) (pc' := 65) rfl (hb hby d6_60) rfl (teq rfl).1 (by decide) (by decide) ?_
    show SS p e below m T6 65 #[vr a1, vi (3 : Int32), vi q0, vi q1, vi q2, vi ql, vi (0 : Int32), vi (3 : Int32), vr b2_b] [] _
    refine XS.iloadN X6.here hx rfl (hb hby d6_65) rfl ?_
    show SS p e below m T6 66 #[vr a1, vi (3 : Int32), vi q0, vi q1, vi q2, vi ql, vi (0 : Int32), vi (3 : Int32), vr b2_b] [(.int (3 : Int32))] _
    refine XS.iconst X6.here hx rfl (hb hby d6_66) ?_
    show SS p e below m T6 67 #[vr a1, vi (3 : Int32), vi q0, vi q1, vi q2, vi ql, vi (0 : Int32), vi (3 : Int32), vr b2_b] [(.int (2 : Int32)), (.int (3 : Int32))] _
    refine XS.icmpNo X6.here hx rfl (hb hby d6_67) rfl (flt (by decide)).1 ?_
    show SS p e below m T6 70 #[vr a1, vi (3 : Int32), vi q0, vi q1, vi q2, vi ql, vi (0 : Int32), vi (3 : Int32), vr b2_b] [] _
    refine XS.aload X6.here hx rfl (hb hby d6_70) rfl rfl ?_
    show SS p e below m T6 72 #[vr a1, vi (3 : Int32), vi q0, vi q1, vi q2, vi ql, vi (0 : Int32), vi (3 : Int32), vr b2_b] [(.ref b2_b)] _
    refine st7.trans ?_
    show SS p e below m T7 77 #[vr a1, vi (3 : Int32), vi q0, vi q1, vi q2, vi ql, vi (0 : Int32), vi (3 : Int32), vr b2_b] [(.int (1 : Int32))] _
    refine XS.ifNo X7.here hx rfl (hb hby d6_77) rfl ((if0 _ _).trans (feq (by decide)).1) ?_
    show SS p e below m T7 80 #[vr a1, vi (3 : Int32), vi q0, vi q1, vi q2, vi ql, vi (0 : Int32), vi (3 : Int32), vr b2_b] [] _
    refine XS.aload X7.here hx rfl (hb hby d6_80) rfl rfl ?_
    show SS p e below m T7 82 #[vr a1, vi (3 : Int32), vi q0, vi q1, vi q2, vi ql, vi (0 : Int32), vi (3 : Int32), vr b2_b] [(.ref b2_b)] _
    refine st8.trans ?_
    show SS p e below m T8 87 #[vr a1, vi (3 : Int32), vi q0, vi q1, vi q2, vi ql, vi (0 : Int32), vi (3 : Int32), vr b2_b] [(.ref x1)] _
    refine st9 _ ?_
    show SS p e below m T9 90 #[vr a1, vi (3 : Int32), vi q0, vi q1, vi q2, vi ql, vi (0 : Int32), vi (3 : Int32), vr b2_b] [(.ref x1)] _
    refine st10.trans ?_
    show SS p e below m T10 93 #[vr a1, vi (3 : Int32), vi q0, vi q1, vi q2, vi ql, vi (0 : Int32), vi (3 : Int32), vr b2_b] [(.int q1)] _
    refine XS.iloadN X10.here hx rfl (hb hby d6_93) rfl ?_
    show SS p e below m T10 94 #[vr a1, vi (3 : Int32), vi q0, vi q1, vi q2, vi ql, vi (0 : Int32), vi (3 : Int32), vr b2_b] [(.int q1), (.int q1)] _
    refine XS.icmpYes X10.here hx rfl (pc0 := 94) (pc' := 99) rfl (hb hby d6_94) rfl (teq rfl).1 (by decide) (by decide) ?_
    show SS p e below m T10 99 #[vr a1, vi (3 : Int32), vi q0, vi q1, vi q2, vi ql, vi (0 : Int32), vi (3 : Int32), vr b2_b] [] _
    refine XS.iloadN X10.here hx rfl (hb hby d6_99) rfl ?_
    show SS p e below m T10 100 #[vr a1, vi (3 : Int32), vi q0, vi q1, vi q2, vi ql, vi (0 : Int32), vi (3 : Int32), vr b2_b] [(.int (3 : Int32))] _
    refine XS.iconst X10.here hx rfl (hb hby d6_100) ?_
    show SS p e below m T10 101 #[vr a1, vi (3 : Int32), vi q0, vi q1, vi q2, vi ql, vi (0 : Int32), vi (3 : Int32), vr b2_b] [(.int (3 : Int32)), (.int (3 : Int32))] _
    refine XS.icmpNo X10.here hx rfl (hb hby d6_101) rfl (flt (by decide)).1 ?_
    show SS p e below m T10 104 #[vr a1, vi (3 : Int32), vi q0, vi q1, vi q2, vi ql, vi (0 : Int32), vi (3 : Int32), vr b2_b] [] _
    refine XS.aload X10.here hx rfl (hb hby d6_104) rfl rfl ?_
    show SS p e below m T10 106 #[vr a1, vi (3 : Int32), vi q0, vi q1, vi q2, vi ql, vi (0 : Int32), vi (3 : Int32), vr b2_b] [(.ref b2_b)] _
    refine st11.trans ?_
    show SS p e below m T11 111 #[vr a1, vi (3 : Int32), vi q0, vi q1, vi q2, vi ql, vi (0 : Int32), vi (3 : Int32), vr b2_b] [(.int (1 : Int32))] _
    refine XS.ifNo X11.here hx rfl (hb hby d6_111) rfl ((if0 _ _).trans (feq (by decide)).1) ?_
    show SS p e below m T11 114 #[vr a1, vi (3 : Int32), vi q0, vi q1, vi q2, vi ql, vi (0 : Int32), vi (3 : Int32), vr b2_b] [] _
    refine XS.aload X11.here hx rfl (hb hby d6_114) rfl rfl ?_
    show SS p e below m T11 116 #[vr a1, vi (3 : Int32), vi q0, vi q1, vi q2, vi ql, vi (0 : Int32), vi (3 : Int32), vr b2_b] [(.ref b2_b)] _
    refine st12.trans ?_
    show SS p e below m T12 121 #[vr a1, vi (3 : Int32), vi q0, vi q1, vi q2, vi ql, vi (0 : Int32), vi (3 : Int32), vr b2_b] [(.ref x2)] _
    refine st13 _ ?_
    show SS p e below m T13 124 #[vr a1, vi (3 : Int32), vi q0, vi q1, vi q2, vi ql, vi (0 : Int32), vi (3 : Int32), vr b2_b] [(.ref x2)] _
    refine st14.trans ?_
    show SS p e below m T14 127 #[vr a1, vi (3 : Int32), vi q0, vi q1, vi q2, vi ql, vi (0 : Int32), vi (3 : Int32), vr b2_b] [(.int q2)] _
    refine XS.iload X14.here hx rfl (hb hby d6_127) rfl ?_
    show SS p e below m T14 129 #[vr a1, vi (3 : Int32), vi q0, vi q1, vi q2, vi ql, vi (0 : Int32), vi (3 : Int32), vr b2_b] [(.int q2), (.int q2)] _
    refine XS.icmpYes X14.here hx rfl (pc0 := 129) (pc' := 134) rfl (hb hby d6_129) rfl (teq rfl).1 (by decide) (by decide) ?_
    show SS p e below m T14 134 #[vr a1, vi (3 : Int32), vi q0, vi q1, vi q2, vi ql, vi (0 : Int32), vi (3 : Int32), vr b2_b] [] _
    refine XS.iload X14.here hx rfl (hb hby d6_134) rfl ?_
    show SS p e below m T14 136 #[vr a1, vi (3 : Int32), vi q0, vi q1, vi q2, vi ql, vi (0 : Int32), vi (3 : Int32), vr b2_b] [(.int (0 : Int32))] _
    refine XS.ifYes X14.here hx rfl (pc0 := 136) (pc' := 169) rfl (hb hby d6_136) rfl ((if0 _ _).trans (teq (by decide)).1) (by decide) (by decide) ?_
    show SS p e below m T14 169 #[vr a1, vi (3 : Int32), vi q0, vi q1, vi q2, vi ql, vi (0 : Int32), vi (3 : Int32), vr b2_b] [] _
    refine XS.aload X14.here hx rfl (hb hby d6_169) rfl rfl ?_
    show SS p e below m T14 171 #[vr a1, vi (3 : Int32), vi q0, vi q1, vi q2, vi ql, vi (0 : Int32), vi (3 : Int32), vr b2_b] [(.ref b2_b)] _
    refine st15.trans ?_
    show SS p e below m T15 176 #[vr a1, vi (3 : Int32), vi q0, vi q1, vi q2, vi ql, vi (0 : Int32), vi (3 : Int32), vr b2_b] [(.int (0 : Int32))] _
    refine XS.ifNo X15.here hx rfl (hb hby d6_176) rfl ((if0 _ _).trans (teq (by decide)).2) ?_
    show SS p e below m T15 179 #[vr a1, vi (3 : Int32), vi q0, vi q1, vi q2, vi ql, vi (0 : Int32), vi (3 : Int32), vr b2_b] [] _
    refine XS.iconst X15.here hx rfl (hb hby d6_179) ?_
    show SS p e below m T15 180 #[vr a1, vi (3 : Int32), vi q0, vi q1, vi q2, vi ql, vi (0 : Int32), vi (3 : Int32), vr b2_b] [(.int (1 : Int32))] _
    refine XS.goto X15.here hx rfl (pc0 := 180) (pc' := 184) rfl (hb hby d6_180) (by decide) (by decide) ?_
    show SS p e below m T15 184 #[vr a1, vi (3 : Int32), vi q0, vi q1, vi q2, vi ql, vi (0 : Int32), vi (3 : Int32), vr b2_b] [(.int (1 : Int32))] _
    exact retN X15 hx (t := .boolean) Bd.returns (by simp) (hb hby d6_184) hr
  · show Q_rmH30 Z a1 q0 q1 q2 ql sto arr kk cap vs x0 x1 x2 h0 n0 _ T15.heap _
    rw [e15]
    exact ⟨rfl, N15, KC⟩
theorem ef_rmH31 (m : MethodId) (x0 : Addr) (x1 : Int32) (x2 : Int32) (x3 : Int32) (x4 : Int32) (x5 : Int32) (x6 : Int32) : entryFrame m #[(.ref x0), (.int x1), (.int x2), (.int x3), (.int x4), (.int x5), (.int x6)] 9 = mkF m 0 #[vr x0, vi x1, vi x2, vi x3, vi x4, vi x5, vi x6, .unset, .unset] [] := by first | (simp [entryFrame, mkF, argsToLocals, Value.category]; done) | rfl
def Q_rmH31 (Z : State) (a1 : Addr) (q0 : Int32) (q1 : Int32) (q2 : Int32) (ql : Int32) (sto : Addr) (arr : Addr) (kk : ClassId) (cap : Int32) (vs : List Value) (x0 : Addr) (x1 : Addr) (x2 : Addr) (x3 : Addr) (h0 : Heap) (n0 : Nat) (v : Option Value) (h : Heap) (L : List Loc) : Prop := (v = some (.int (1 : Int32))) ∧ (Fr n0 L) ∧ (Keep h0 h [])
set_option maxRecDepth 65536 in
set_option maxHeartbeats 40000000 in
theorem rmH31 (l : Launch) (Z : State) (a0 : Array Value) (hw : ∀ d ∈ tables_1, d.before a0 Z = true) (ws : List Jvm.Cond) (a1 : Addr) (q0 : Int32) (q1 : Int32) (q2 : Int32) (ql : Int32) (sto : Addr) (arr : Addr) (kk : ClassId) (cap : Int32) (vs : List Value) (x0 : Addr) (x1 : Addr) (x2 : Addr) (x3 : Addr) (h0 : Heap) (n0 : Nat) (Z0 : n0 ≤ h0.size) (O0 : Old Z n0 h0) (F_size_a1 : Fld Z h0 a1 "com/example/brisk_tableau/brisktableau/tableau/SharedList" "size" "I" (.int (4 : Int32))) (F_store_a1 : Fld Z h0 a1 "com/example/brisk_tableau/brisktableau/tableau/SharedList" "store" "Lcom/example/brisk_tableau/brisktableau/tableau/SharedList$Store;" (.ref sto)) (E_a1 : Exa Z h0 a1 "com/example/brisk_tableau/brisktableau/tableau/SharedList") (F_items_sto : Fld Z h0 sto "com/example/brisk_tableau/brisktableau/tableau/SharedList$Store" "items" "[Ljava/lang/Object;" (.ref arr)) (E_arr : Exa Z h0 arr "[Ljava/lang/Object;") (V_arr : Arv Z h0 arr kk (.object "java/lang/Object") cap vs .null) (E_x0 : Exa Z h0 x0 "java/lang/Integer") (F_value_x0 : Fld Z h0 x0 "java/lang/Integer" "value" "I" (.int q0)) (hX0 : vs.getD (0 : Int32).toNatClampNeg .null = .ref x0) (hD0 : (0 : Int32) < cap) (E_x1 : Exa Z h0 x1 "java/lang/Integer") (F_value_x1 : Fld Z h0 x1 "java/lang/Integer" "value" "I" (.int q1)) (hX1 : vs.getD (1 : Int32).toNatClampNeg .null = .ref x1) (hD1 : (1 : Int32) < cap) (E_x2 : Exa Z h0 x2 "java/lang/Integer") (F_value_x2 : Fld Z h0 x2 "java/lang/Integer" "value" "I" (.int q2)) (hX2 : vs.getD (2 : Int32).toNatClampNeg .null = .ref x2) (hD2 : (2 : Int32) < cap) (E_x3 : Exa Z h0 x3 "java/lang/Integer") (F_value_x3 : Fld Z h0 x3 "java/lang/Integer" "value" "I" (.int ql)) (hX3 : vs.getD (3 : Int32).toNatClampNeg .null = .ref x3) (hD3 : (3 : Int32) < cap) :
    MetFree l y_20 (head1 (Jvm.Cond.code y_20 method_2_code 9 (some .boolean) :: ws) ({ frames := 3, cells := 1, slots := 3, locals := 42 } : Room)) (fun a U => a = #[(.ref a1), (.int (3 : Int32)), (.int q0), (.int q1), (.int q2), (.int ql), (.int (1 : Int32))] ∧ Z.Warmed39 U.vm ∧ U.heap = h0) (fun _ _ _ _ _ => True) (fun _ U o U' => ∃ v L, o = .returned v ∧ Q_rmH31 Z a1 q0 q1 q2 ql sto arr kk cap vs x0 x1 x2 x3 h0 n0 v U'.heap L ∧ FrameEnd U o U' L ({ frames := 3, cells := 1, slots := 3, locals := 42 } : Room).cells ({ frames := 3, cells := 1, slots := 3, locals := 42 } : Room).slots) := by
  refine MetFree.of_bodySF (plainFor_of_name pn_7) hisR ?_
  intro p e s m args below meth c s₁ Bd hml0 hP hK
  obtain ⟨rfl, hZ, hh⟩ := hP
  have hx := Bd.exec
  have hby := Bd.bytes
  have hml : c.maxLocals = 9 := hml0
  have hown : s.vm.findClass "com/example/brisk_tableau/brisktableau/tableau/SharedListCopyPinLaw" = some m.cls := findClass_of_methodNamed Bd.named
  have hnm := (name_of_methodNamed Bd.named Bd.method).1
  have X0 : Stand p l e ({ frames := 3, cells := 1, slots := 3, locals := 42 } : Room) s m #[(.ref a1), (.int (3 : Int32)), (.int q0), (.int q1), (.int q2), (.int ql), (.int (1 : Int32))] below meth c s₁ [] 0 0 := Stand.of_body Bd
  have e0 : s₁.heap = h0 := by rw [← hh, Bd.state]; rfl
  have N0 := Fr.nil n0
  have KC : Keep h0 h0 [] := Keep.refl h0 _
  have pre0 : ∀ t, Steps p.tables e below (s₁.setTop (mkF m 0 #[vr a1, vi (3 : Int32), vi q0, vi q1, vi q2, vi ql, vi (1 : Int32), un, un] [])) t → Steps p.tables e below (s₁.setTop (entryFrame m #[(.ref a1), (.int (3 : Int32)), (.int q0), (.int q1), (.int q2), (.int ql), (.int (1 : Int32))] 9)) t := fun t k => castTop (ef_rmH31 m a1 (3 : Int32) q0 q1 q2 ql (1 : Int32)) k
  obtain ⟨cq1, kq1, q1a, q1b, q1c⟩ := isOf hZ e0 E_a1
  obtain ⟨_, _, ⟨T1, L1, k1, n1⟩, -, X1, ⟨Lc1, hQ1, l1, y1, z1⟩, st1⟩ := X0.virtualBack hx (y := y_18) (z := y_18) hown (mvT hZ (ww hw 39 rfl)) (mvT hZ (ww hw 40 rfl)) (notFace_of_selects (args := #[]) (mvT hZ (ww hw 42 rfl))) (mvT hZ (ww hw 42 rfl)) (mvT hZ (ww hw 41 rfl)) (by decide) (backOf (W := 0) (rmSz l Z a0 hw [] a1 (4 : Int32) h0 n0 (Nat.le_trans Z0 KC.1) O0 F_size_a1) hZ (ww hw 43 rfl) (ww hw 2 rfl) (by decide) (by decide)) q1a q1c (g := (mkF m 15 #[vr a1, vi (3 : Int32), vi q0, vi q1, vi q2, vi ql, vi (1 : Int32), vi (4 : Int32), un] [(.ref a1)])) rfl (by rw [hml]; rfl) (Steps.refl _) (argsL := []) (rest := []) (lenOf pd_9 rfl) rfl (by show 2 * 0 + _ ≤ _; exact Nat.le_of_eq rfl) (hb hby d6_15) (fun _ _ => ⟨rfl, e0, (by decide : 0 + 0 ≤ _), (by decide : 0 + 0 ≤ _)⟩)
  dsimp only [Pt.U, Pt.locs, Pt.cells, Pt.slots] at X1 l1 y1 z1 st1 hQ1
  subst l1 y1 z1
  obtain ⟨rfl, N1q, e1⟩ := hQ1
  have N1 := Fr.app N0 N1q
  obtain ⟨cq2, kq2, q2a, q2b, q2c⟩ := isOf hZ e1 E_a1
  obtain ⟨_, _, ⟨T2, L2, k2, n2⟩, -, X2, ⟨Lc2, hQ2, l2, y2, z2⟩, st2⟩ := X1.virtualBack hx (y := y_15) (z := y_15) hown (mvT hZ (ww hw 44 rfl)) (mvT hZ (ww hw 45 rfl)) (notFace_of_selects (args := #[]) (mvT hZ (ww hw 47 rfl))) (mvT hZ (ww hw 47 rfl)) (mvT hZ (ww hw 46 rfl)) (by decide) (backOf (W := 0) (rmIt l Z a0 hw [] a1 sto (4 : Int32) arr h0 n0 (Nat.le_trans Z0 KC.1) O0 F_store_a1 F_size_a1 F_items_sto) hZ (ww hw 48 rfl) (ww hw 2 rfl) (by decide) (by decide)) q2a q2c (g := (mkF m 26 #[vr a1, vi (3 : Int32), vi q0, vi q1, vi q2, vi ql, vi (1 : Int32), vi (4 : Int32), un] [(.ref a1)])) rfl (by rw [hml]; rfl) (Steps.refl _) (argsL := []) (rest := []) (lenOf pd_10 rfl) rfl (by show 2 * 0 + _ ≤ _; exact Nat.le_of_eq rfl) (hb hby d6_26) (fun _ _ => ⟨rfl, e1, (by decide : 0 + 1 ≤ _), (by decide : 0 + 3 ≤ _)⟩)
  dsimp only [Pt.U, Pt.locs, Pt.cells, Pt.slots] at X2 l2 y2 z2 st2 hQ2
  subst l2 y2 z2
  obtain ⟨b2_b, rfl, N2q, K2, sz_b2_b, E_b_2, F_val_length_b_2, F_val_items_b_2, F_next_b_2⟩ := hQ2
  have N2 := Fr.app N1 N2q
  have ne_a1_b2_b : a1 ≠ b2_b := Nat.ne_of_lt (Nat.lt_of_lt_of_le F_size_a1.lt sz_b2_b)
  have ne_sto_b2_b : sto ≠ b2_b := Nat.ne_of_lt (Nat.lt_of_lt_of_le F_items_sto.lt sz_b2_b)
  have ne_arr_b2_b : arr ≠ b2_b := Nat.ne_of_lt (Nat.lt_of_lt_of_le E_arr.lt sz_b2_b)
  have ne_x0_b2_b : x0 ≠ b2_b := Nat.ne_of_lt (Nat.lt_of_lt_of_le E_x0.lt sz_b2_b)
  have ne_x1_b2_b : x1 ≠ b2_b := Nat.ne_of_lt (Nat.lt_of_lt_of_le E_x1.lt sz_b2_b)
  have ne_x2_b2_b : x2 ≠ b2_b := Nat.ne_of_lt (Nat.lt_of_lt_of_le E_x2.lt sz_b2_b)
  have ne_x3_b2_b : x3 ≠ b2_b := Nat.ne_of_lt (Nat.lt_of_lt_of_le E_x3.lt sz_b2_b)
  have g_b2_b : n0 ≤ b2_b := Nat.le_trans (Nat.le_trans Z0 KC.1) sz_b2_b
  replace sz_b2_b : h0.size ≤ b2_b := Nat.le_trans KC.1 sz_b2_b
  replace F_size_a1 := F_size_a1.keep K2 nin0
  replace F_store_a1 := F_store_a1.keep K2 nin0
  replace E_a1 := E_a1.keep K2
  replace F_items_sto := F_items_sto.keep K2 nin0
  replace E_arr := E_arr.keep K2
  replace V_arr := V_arr.keep K2 nin0
  replace E_x0 := E_x0.keep K2
  replace F_value_x0 := F_value_x0.keep K2 nin0
  replace E_x1 := E_x1.keep K2
  replace F_value_x1 := F_value_x1.keep K2 nin0
  replace E_x2 := E_x2.keep K2
  replace F_value_x2 := F_value_x2.keep K2 nin0
  replace E_x3 := E_x3.keep K2
  replace F_value_x3 := F_value_x3.keep K2 nin0
  replace O0 := O0.keep K2 all0
  replace KC := KC.trans K2 all0
  obtain ⟨cq3, kq3, q3a, q3b, q3c⟩ := isOf hZ rfl E_b_2
  obtain ⟨_, _, ⟨T3, L3, k3, n3⟩, -, X3, ⟨Lc3, hQ3, l3, y3, z3⟩, st3⟩ := X2.interfaceBack hx (xi := y_19) (y := y_16) hown (mvT hZ (ww hw 61 rfl)) (mvT hZ (ww hw 62 rfl)) (mvT hZ (ww hw 63 rfl)) (mvT hZ (ww hw 64 rfl)) (mvT hZ (ww hw 65 rfl)) (mvT hZ (ww hw 66 rfl)) (mvT hZ (ww hw 67 rfl)) (mvT hZ (ww hw 68 rfl)) (by decide) (backOf (W := 0) (rmHn l Z a0 hw [] b2_b (0 : Int32) (4 : Int32) (1 : Int32) T2.heap n0 (Nat.le_trans Z0 KC.1) O0 F_next_b_2 F_val_length_b_2 (by decide)) hZ (ww hw 69 rfl) (ww hw 52 rfl) (by decide) (by decide)) q3a q3b q3c (g := (mkF m 38 #[vr a1, vi (3 : Int32), vi q0, vi q1, vi q2, vi ql, vi (1 : Int32), vi (4 : Int32), vr b2_b] [(.ref b2_b)])) rfl (by rw [hml]; rfl) (Steps.refl _) (argsL := []) (rest := []) (lenOf pd_11 rfl) rfl (by show 2 * 0 + _ ≤ _; exact Nat.le_of_eq rfl) (hb hby d6_38) (fun _ _ => ⟨rfl, rfl, (by decide : 1 + 0 ≤ _), (by decide : 3 + 0 ≤ _)⟩)
  dsimp only [Pt.U, Pt.locs, Pt.cells, Pt.slots] at X3 l3 y3 z3 st3 hQ3
  subst l3 y3 z3
  obtain ⟨rfl, N3q, e3⟩ := hQ3
  have N3 := Fr.app N2 N3q
  obtain ⟨cq4, kq4, q4a, q4b, q4c⟩ := isOf hZ e3 E_b_2
  obtain ⟨_, _, ⟨T4, L4, k4, n4⟩, -, X4, ⟨Lc4, hQ4, l4, y4, z4⟩, st4⟩ := X3.interfaceBack hx (xi := y_21) (y := y_17) hown (mvT hZ (ww hw 116 rfl)) (mvT hZ (ww hw 117 rfl)) (mvT hZ (ww hw 118 rfl)) (mvT hZ (ww hw 119 rfl)) (mvT hZ (ww hw 120 rfl)) (mvT hZ (ww hw 121 rfl)) (mvT hZ (ww hw 122 rfl)) (mvT hZ (ww hw 68 rfl)) (by decide) (backOf (W := 0) (rmNx l Z a0 hw [] b2_b (0 : Int32) (4 : Int32) arr kk cap vs x0 (1 : Int32) T2.heap n0 (Nat.le_trans Z0 KC.1) O0 F_next_b_2 F_val_length_b_2 F_val_items_b_2 E_b_2 E_arr V_arr g_b2_b (by decide) (by decide) hD0 hX0 (by decide)) hZ (ww hw 123 rfl) (ww hw 52 rfl) (by decide) (by decide)) q4a q4b q4c (g := (mkF m 48 #[vr a1, vi (3 : Int32), vi q0, vi q1, vi q2, vi ql, vi (1 : Int32), vi (4 : Int32), vr b2_b] [(.ref b2_b)])) rfl (by rw [hml]; rfl) (Steps.refl _) (argsL := []) (rest := []) (lenOf pd_12 rfl) rfl (by show 2 * 0 + _ ≤ _; exact Nat.le_of_eq rfl) (hb hby d6_48) (fun _ _ => ⟨rfl, e3, (by decide : 1 + 0 ≤ _), (by decide : 3 + 0 ≤ _)⟩)
  dsimp only [Pt.U, Pt.locs, Pt.cells, Pt.slots] at X4 l4 y4 z4 st4 hQ4
  subst l4 y4 z4
  obtain ⟨rfl, N4q, K4, F_next_a1_4, F_val_length_a1_4, F_val_items_a1_4⟩ := hQ4
  have N4 := Fr.app N3 N4q
  replace F_size_a1 := F_size_a1.keep K4 (ninS ne_a1_b2_b nin0)
  replace F_store_a1 := F_store_a1.keep K4 (ninS ne_a1_b2_b nin0)
  replace E_a1 := E_a1.keep K4
  replace F_items_sto := F_items_sto.keep K4 (ninS ne_sto_b2_b nin0)
  replace E_arr := E_arr.keep K4
  replace V_arr := V_arr.keep K4 (ninS ne_arr_b2_b nin0)
  replace E_x0 := E_x0.keep K4
  replace F_value_x0 := F_value_x0.keep K4 (ninS ne_x0_b2_b nin0)
  replace E_x1 := E_x1.keep K4
  replace F_value_x1 := F_value_x1.keep K4 (ninS ne_x1_b2_b nin0)
  replace E_x2 := E_x2.keep K4
  replace F_value_x2 := F_value_x2.keep K4 (ninS ne_x2_b2_b nin0)
  replace E_x3 := E_x3.keep K4
  replace F_value_x3 := F_value_x3.keep K4 (ninS ne_x3_b2_b nin0)
  replace E_b_2 := E_b_2.keep K4
  replace O0 := O0.keep K4 (allS g_b2_b all0)
  replace KC := KC.trans K4 (allS (Or.inr sz_b2_b) all0)
  obtain ⟨T5, X5, e5, st5⟩ := castY X4 hx hZ hown (ww hw 124 rfl) rfl (Ins.self E_x0) (g := (mkF m 53 #[vr a1, vi (3 : Int32), vi q0, vi q1, vi q2, vi ql, vi (1 : Int32), vi (4 : Int32), vr b2_b] [(.ref x0)])) rfl rfl (hb hby d6_53)
  obtain ⟨cq6, kq6, q6a, q6b, q6c⟩ := isOf hZ e5 E_x0
  obtain ⟨_, _, ⟨T6, L6, k6, n6⟩, -, X6, ⟨Lc6, hQ6, l6, y6, z6⟩, st6⟩ := X5.virtualBack hx (y := y_6) (z := y_6) hown (mvT hZ (ww hw 126 rfl)) (mvT hZ (ww hw 127 rfl)) (notFace_of_selects (args := #[]) (mvT hZ (ww hw 129 rfl))) (mvT hZ (ww hw 129 rfl)) (mvT hZ (ww hw 128 rfl)) (by decide) (backOf (W := 0) (rmIv l Z a0 hw [] x0 q0 T4.heap n0 (Nat.le_trans Z0 KC.1) O0 F_value_x0) hZ (ww hw 130 rfl) (ww hw 74 rfl) (by decide) (by decide)) q6a q6c (g := (mkF m 56 #[vr a1, vi (3 : Int32), vi q0, vi q1, vi q2, vi ql, vi (1 : Int32), vi (4 : Int32), vr b2_b] [(.ref x0)])) rfl (by rw [hml]; rfl) (Steps.refl _) (argsL := []) (rest := []) (lenOf pd_9 rfl) rfl (by show 2 * 0 + _ ≤ _; exact Nat.le_of_eq rfl) (hb hby d6_56) (fun _ _ => ⟨rfl, e5, (by decide : 1 + 0 ≤ _), (by decide : 3 + 0 ≤ _)⟩)
  dsimp only [Pt.U, Pt.locs, Pt.cells, Pt.slots] at X6 l6 y6 z6 st6 hQ6
  subst l6 y6 z6
  obtain ⟨rfl, N6q, e6⟩ := hQ6
  have N6 := Fr.app N4 N6q
  obtain ⟨cq7, kq7, q7a, q7b, q7c⟩ := isOf hZ e6 E_b_2
  obtain ⟨_, _, ⟨T7, L7, k7, n7⟩, -, X7, ⟨Lc7, hQ7, l7, y7, z7⟩, st7⟩ := X6.interfaceBack hx (xi := y_19) (y := y_16) hown (mvT hZ (ww hw 61 rfl)) (mvT hZ (ww hw 62 rfl)) (mvT hZ (ww hw 63 rfl)) (mvT hZ (ww hw 64 rfl)) (mvT hZ (ww hw 65 rfl)) (mvT hZ (ww hw 66 rfl)) (mvT hZ (ww hw 67 rfl)) (mvT hZ (ww hw 68 rfl)) (by decide) (backOf (W := 0) (rmHn l Z a0 hw [] b2_b (1 : Int32) (4 : Int32) (1 : Int32) T4.heap n0 (Nat.le_trans Z0 KC.1) O0 F_next_a1_4 F_val_length_a1_4 (by decide)) hZ (ww hw 69 rfl) (ww hw 52 rfl) (by decide) (by decide)) q7a q7b q7c (g := (mkF m 72 #[vr a1, vi (3 : Int32), vi q0, vi q1, vi q2, vi ql, vi (1 : Int32), vi (4 : Int32), vr b2_b] [(.ref b2_b)])) rfl (by rw [hml]; rfl) (Steps.refl _) (argsL := []) (rest := []) (lenOf pd_11 rfl) rfl (by show 2 * 0 + _ ≤ _; exact Nat.le_of_eq rfl) (hb hby d6_72) (fun _ _ => ⟨rfl, e6, (by decide : 1 + 0 ≤ _), (by decide : 3 + 0 ≤ _)⟩)
  dsimp only [Pt.U, Pt.locs, Pt.cells, Pt.slots] at X7 l7 y7 z7 st7 hQ7
  subst l7 y7 z7
  obtain ⟨rfl, N7q, e7⟩ := hQ7
  have N7 := Fr.app N6 N7q
  obtain ⟨cq8, kq8, q8a, q8b, q8c⟩ := isOf hZ e7 E_b_2
  obtain ⟨_, _, ⟨T8, L8, k8, n8⟩, -, X8, ⟨Lc8, hQ8, l8, y8, z8⟩, st8⟩ := X7.interfaceBack hx (xi := y_21) (y := y_17) hown (mvT hZ (ww hw 116 rfl)) (mvT hZ (ww hw 117 rfl)) (mvT hZ (ww hw 118 rfl)) (mvT hZ (ww hw 119 rfl)) (mvT hZ (ww hw 120 rfl)) (mvT hZ (ww hw 121 rfl)) (mvT hZ (ww hw 122 rfl)) (mvT hZ (ww hw 68 rfl)) (by decide) (backOf (W := 0) (rmNx l Z a0 hw [] b2_b (1 : Int32) (4 : Int32) arr kk cap vs x1 (2 : Int32) T4.heap n0 (Nat.le_trans Z0 KC.1) O0 F_next_a1_4 F_val_length_a1_4 F_val_items_a1_4 E_b_2 E_arr V_arr g_b2_b (by decide) (by decide) hD1 hX1 (by decide)) hZ (ww hw 123 rfl) (ww hw 52 rfl) (by decide) (by decide)) q8a q8b q8c (g := (mkF m 82 #[vr a1, vi (3 : Int32), vi q0, vi q1, vi q2, vi ql, vi (1 : Int32), vi (4 : Int32), vr b2_b] [(.ref b2_b)])) rfl (by rw [hml]; rfl) (Steps.refl _) (argsL := []) (rest := []) (lenOf pd_12 rfl) rfl (by show 2 * 0 + _ ≤ _; exact Nat.le_of_eq rfl) (hb hby d6_82) (fun _ _ => ⟨rfl, e7, (by decide : 1 + 0 ≤ _), (by decide : 3 + 0 ≤ _)⟩)
  dsimp only [Pt.U, Pt.locs, Pt.cells, Pt.slots] at X8 l8 y8 z8 st8 hQ8
  subst l8 y8 z8
  obtain ⟨rfl, N8q, K8, F_next_a1_8, F_val_length_a1_8, F_val_items_a1_8⟩ := hQ8
  have N8 := Fr.app N7 N8q
  replace F_size_a1 := F_size_a1.keep K8 (ninS ne_a1_b2_b nin0)
  replace F_store_a1 := F_store_a1.keep K8 (ninS ne_a1_b2_b nin0)
  replace E_a1 := E_a1.keep K8
  replace F_items_sto := F_items_sto.keep K8 (ninS ne_sto_b2_b nin0)
  replace E_arr := E_arr.keep K8
  replace V_arr := V_arr.keep K8 (ninS ne_arr_b2_b nin0)
  replace E_x0 := E_x0.keep K8
  replace F_value_x0 := F_value_x0.keep K8 (ninS ne_x0_b2_b nin0)
  replace E_x1 := E_x1.keep K8
  replace F_value_x1 := F_value_x1.keep K8 (ninS ne_x1_b2_b nin0)
  replace E_x2 := E_x2.keep K8
  replace F_value_x2 := F_value_x2.keep K8 (ninS ne_x2_b2_b nin0)
  replace E_x3 := E_x3.keep K8
  replace F_value_x3 := F_value_x3.keep K8 (ninS ne_x3_b2_b nin0)
  replace E_b_2 := E_b_2.keep K8
  replace O0 := O0.keep K8 (allS g_b2_b all0)
  replace KC := KC.trans K8 (allS (Or.inr sz_b2_b) all0)
  obtain ⟨T9, X9, e9, st9⟩ := castY X8 hx hZ hown (ww hw 124 rfl) rfl (Ins.self E_x1) (g := (mkF m 87 #[vr a1, vi (3 : Int32), vi q0, vi q1, vi q2, vi ql, vi (1 : Int32), vi (4 : Int32), vr b2_b] [(.ref x1)])) rfl rfl (hb hby d6_87)
  obtain ⟨cq10, kq10, q10a, q10b, q10c⟩ := isOf hZ e9 E_x1
  obtain ⟨_, _, ⟨T10, L10, k10, n10⟩, -, X10, ⟨Lc10, hQ10, l10, y10, z10⟩, st10⟩ := X9.virtualBack hx (y := y_6) (z := y_6) hown (mvT hZ (ww hw 126 rfl)) (mvT hZ (ww hw 127 rfl)) (notFace_of_selects (args := #[]) (mvT hZ (ww hw 129 rfl))) (mvT hZ (ww hw 129 rfl)) (mvT hZ (ww hw 128 rfl)) (by decide) (backOf (W := 0) (rmIv l Z a0 hw [] x1 q1 T8.heap n0 (Nat.le_trans Z0 KC.1) O0 F_value_x1) hZ (ww hw 130 rfl) (ww hw 74 rfl) (by decide) (by decide)) q10a q10c (g := (mkF m 90 #[vr a1, vi (3 : Int32), vi q0, vi q1, vi q2, vi ql, vi (1 : Int32), vi (4 : Int32), vr b2_b] [(.ref x1)])) rfl (by rw [hml]; rfl) (Steps.refl _) (argsL := []) (rest := []) (lenOf pd_9 rfl) rfl (by show 2 * 0 + _ ≤ _; exact Nat.le_of_eq rfl) (hb hby d6_90) (fun _ _ => ⟨rfl, e9, (by decide : 1 + 0 ≤ _), (by decide : 3 + 0 ≤ _)⟩)
  dsimp only [Pt.U, Pt.locs, Pt.cells, Pt.slots] at X10 l10 y10 z10 st10 hQ10
  subst l10 y10 z10
  obtain ⟨rfl, N10q, e10⟩ := hQ10
  have N10 := Fr.app N8 N10q
  obtain ⟨cq11, kq11, q11a, q11b, q11c⟩ := isOf hZ e10 E_b_2
  obtain ⟨_, _, ⟨T11, L11, k11, n11⟩, -, X11, ⟨Lc11, hQ11, l11, y11, z11⟩, st11⟩ := X10.interfaceBack hx (xi := y_19) (y := y_16) hown (mvT hZ (ww hw 61 rfl)) (mvT hZ (ww hw 62 rfl)) (mvT hZ (ww hw 63 rfl)) (mvT hZ (ww hw 64 rfl)) (mvT hZ (ww hw 65 rfl)) (mvT hZ (ww hw 66 rfl)) (mvT hZ (ww hw 67 rfl)) (mvT hZ (ww hw 68 rfl)) (by decide) (backOf (W := 0) (rmHn l Z a0 hw [] b2_b (2 : Int32) (4 : Int32) (1 : Int32) T8.heap n0 (Nat.le_trans Z0 KC.1) O0 F_next_a1_8 F_val_length_a1_8 (by decide)) hZ (ww hw 69 rfl) (ww hw 52 rfl) (by decide) (by decide)) q11a q11b q11c (g := (mkF m 106 #[vr a1, vi (3 : Int32), vi q0, vi q1, vi q2, vi ql, vi (1 : Int32), vi (4 : Int32), vr b2_b] [(.ref b2_b)])) rfl (by rw [hml]; rfl) (Steps.refl _) (argsL := []) (rest := []) (lenOf pd_11 rfl) rfl (by show 2 * 0 + _ ≤ _; exact Nat.le_of_eq rfl) (hb hby d6_106) (fun _ _ => ⟨rfl, e10, (by decide : 1 + 0 ≤ _), (by decide : 3 + 0 ≤ _)⟩)
  dsimp only [Pt.U, Pt.locs, Pt.cells, Pt.slots] at X11 l11 y11 z11 st11 hQ11
  subst l11 y11 z11
  obtain ⟨rfl, N11q, e11⟩ := hQ11
  have N11 := Fr.app N10 N11q
  obtain ⟨cq12, kq12, q12a, q12b, q12c⟩ := isOf hZ e11 E_b_2
  obtain ⟨_, _, ⟨T12, L12, k12, n12⟩, -, X12, ⟨Lc12, hQ12, l12, y12, z12⟩, st12⟩ := X11.interfaceBack hx (xi := y_21) (y := y_17) hown (mvT hZ (ww hw 116 rfl)) (mvT hZ (ww hw 117 rfl)) (mvT hZ (ww hw 118 rfl)) (mvT hZ (ww hw 119 rfl)) (mvT hZ (ww hw 120 rfl)) (mvT hZ (ww hw 121 rfl)) (mvT hZ (ww hw 122 rfl)) (mvT hZ (ww hw 68 rfl)) (by decide) (backOf (W := 0) (rmNx l Z a0 hw [] b2_b (2 : Int32) (4 : Int32) arr kk cap vs x2 (3 : Int32) T8.heap n0 (Nat.le_trans Z0 KC.1) O0 F_next_a1_8 F_val_length_a1_8 F_val_items_a1_8 E_b_2 E_arr V_arr g_b2_b (by decide) (by decide) hD2 hX2 (by decide)) hZ (ww hw 123 rfl) (ww hw 52 rfl) (by decide) (by decide)) q12a q12b q12c (g := (mkF m 116 #[vr a1, vi (3 : Int32), vi q0, vi q1, vi q2, vi ql, vi (1 : Int32), vi (4 : Int32), vr b2_b] [(.ref b2_b)])) rfl (by rw [hml]; rfl) (Steps.refl _) (argsL := []) (rest := []) (lenOf pd_12 rfl) rfl (by show 2 * 0 + _ ≤ _; exact Nat.le_of_eq rfl) (hb hby d6_116) (fun _ _ => ⟨rfl, e11, (by decide : 1 + 0 ≤ _), (by decide : 3 + 0 ≤ _)⟩)
  dsimp only [Pt.U, Pt.locs, Pt.cells, Pt.slots] at X12 l12 y12 z12 st12 hQ12
  subst l12 y12 z12
  obtain ⟨rfl, N12q, K12, F_next_a1_12, F_val_length_a1_12, F_val_items_a1_12⟩ := hQ12
  have N12 := Fr.app N11 N12q
  replace F_size_a1 := F_size_a1.keep K12 (ninS ne_a1_b2_b nin0)
  replace F_store_a1 := F_store_a1.keep K12 (ninS ne_a1_b2_b nin0)
  replace E_a1 := E_a1.keep K12
  replace F_items_sto := F_items_sto.keep K12 (ninS ne_sto_b2_b nin0)
  replace E_arr := E_arr.keep K12
  replace V_arr := V_arr.keep K12 (ninS ne_arr_b2_b nin0)
  replace E_x0 := E_x0.keep K12
  replace F_value_x0 := F_value_x0.keep K12 (ninS ne_x0_b2_b nin0)
  replace E_x1 := E_x1.keep K12
  replace F_value_x1 := F_value_x1.keep K12 (ninS ne_x1_b2_b nin0)
  replace E_x2 := E_x2.keep K12
  replace F_value_x2 := F_value_x2.keep K12 (ninS ne_x2_b2_b nin0)
  replace E_x3 := E_x3.keep K12
  replace F_value_x3 := F_value_x3.keep K12 (ninS ne_x3_b2_b nin0)
  replace E_b_2 := E_b_2.keep K12
  replace O0 := O0.keep K12 (allS g_b2_b all0)
  replace KC := KC.trans K12 (allS (Or.inr sz_b2_b) all0)
  obtain ⟨T13, X13, e13, st13⟩ := castY X12 hx hZ hown (ww hw 124 rfl) rfl (Ins.self E_x2) (g := (mkF m 121 #[vr a1, vi (3 : Int32), vi q0, vi q1, vi q2, vi ql, vi (1 : Int32), vi (4 : Int32), vr b2_b] [(.ref x2)])) rfl rfl (hb hby d6_121)
  obtain ⟨cq14, kq14, q14a, q14b, q14c⟩ := isOf hZ e13 E_x2
  obtain ⟨_, _, ⟨T14, L14, k14, n14⟩, -, X14, ⟨Lc14, hQ14, l14, y14, z14⟩, st14⟩ := X13.virtualBack hx (y := y_6) (z := y_6) hown (mvT hZ (ww hw 126 rfl)) (mvT hZ (ww hw 127 rfl)) (notFace_of_selects (args := #[]) (mvT hZ (ww hw 129 rfl))) (mvT hZ (ww hw 129 rfl)) (mvT hZ (ww hw 128 rfl)) (by decide) (backOf (W := 0) (rmIv l Z a0 hw [] x2 q2 T12.heap n0 (Nat.le_trans Z0 KC.1) O0 F_value_x2) hZ (ww hw 130 rfl) (ww hw 74 rfl) (by decide) (by decide)) q14a q14c (g := (mkF m 124 #[vr a1, vi (3 : Int32), vi q0, vi q1, vi q2, vi ql, vi (1 : Int32), vi (4 : Int32), vr b2_b] [(.ref x2)])) rfl (by rw [hml]; rfl) (Steps.refl _) (argsL := []) (rest := []) (lenOf pd_9 rfl) rfl (by show 2 * 0 + _ ≤ _; exact Nat.le_of_eq rfl) (hb hby d6_124) (fun _ _ => ⟨rfl, e13, (by decide : 1 + 0 ≤ _), (by decide : 3 + 0 ≤ _)⟩)
  dsimp only [Pt.U, Pt.locs, Pt.cells, Pt.slots] at X14 l14 y14 z14 st14 hQ14
  subst l14 y14 z14
  obtain ⟨rfl, N14q, e14⟩ := hQ14
  have N14 := Fr.app N12 N14q
  obtain ⟨cq15, kq15, q15a, q15b, q15c⟩ := isOf hZ e14 E_b_2
  obtain ⟨_, _, ⟨T15, L15, k15, n15⟩, -, X15, ⟨Lc15, hQ15, l15, y15, z15⟩, st15⟩ := X14.interfaceBack hx (xi := y_19) (y := y_16) hown (mvT hZ (ww hw 61 rfl)) (mvT hZ (ww hw 62 rfl)) (mvT hZ (ww hw 63 rfl)) (mvT hZ (ww hw 64 rfl)) (mvT hZ (ww hw 65 rfl)) (mvT hZ (ww hw 66 rfl)) (mvT hZ (ww hw 67 rfl)) (mvT hZ (ww hw 68 rfl)) (by decide) (backOf (W := 0) (rmHn l Z a0 hw [] b2_b (3 : Int32) (4 : Int32) (1 : Int32) T12.heap n0 (Nat.le_trans Z0 KC.1) O0 F_next_a1_12 F_val_length_a1_12 (by decide)) hZ (ww hw 69 rfl) (ww hw 52 rfl) (by decide) (by decide)) q15a q15b q15c (g := (mkF m 141 #[vr a1, vi (3 : Int32), vi q0, vi q1, vi q2, vi ql, vi (1 : Int32), vi (4 : Int32), vr b2_b] [(.ref b2_b)])) rfl (by rw [hml]; rfl) (Steps.refl _) (argsL := []) (rest := []) (lenOf pd_11 rfl) rfl (by show 2 * 0 + _ ≤ _; exact Nat.le_of_eq rfl) (hb hby d6_141) (fun _ _ => ⟨rfl, e14, (by decide : 1 + 0 ≤ _), (by decide : 3 + 0 ≤ _)⟩)
  dsimp only [Pt.U, Pt.locs, Pt.cells, Pt.slots] at X15 l15 y15 z15 st15 hQ15
  subst l15 y15 z15
  obtain ⟨rfl, N15q, e15⟩ := hQ15
  have N15 := Fr.app N14 N15q
  obtain ⟨cq16, kq16, q16a, q16b, q16c⟩ := isOf hZ e15 E_b_2
  obtain ⟨_, _, ⟨T16, L16, k16, n16⟩, -, X16, ⟨Lc16, hQ16, l16, y16, z16⟩, st16⟩ := X15.interfaceBack hx (xi := y_21) (y := y_17) hown (mvT hZ (ww hw 116 rfl)) (mvT hZ (ww hw 117 rfl)) (mvT hZ (ww hw 118 rfl)) (mvT hZ (ww hw 119 rfl)) (mvT hZ (ww hw 120 rfl)) (mvT hZ (ww hw 121 rfl)) (mvT hZ (ww hw 122 rfl)) (mvT hZ (ww hw 68 rfl)) (by decide) (backOf (W := 0) (rmNx l Z a0 hw [] b2_b (3 : Int32) (4 : Int32) arr kk cap vs x3 (4 : Int32) T12.heap n0 (Nat.le_trans Z0 KC.1) O0 F_next_a1_12 F_val_length_a1_12 F_val_items_a1_12 E_b_2 E_arr V_arr g_b2_b (by decide) (by decide) hD3 hX3 (by decide)) hZ (ww hw 123 rfl) (ww hw 52 rfl) (by decide) (by decide)) q16a q16b q16c (g := (mkF m 151 #[vr a1, vi (3 : Int32), vi q0, vi q1, vi q2, vi ql, vi (1 : Int32), vi (4 : Int32), vr b2_b] [(.ref b2_b)])) rfl (by rw [hml]; rfl) (Steps.refl _) (argsL := []) (rest := []) (lenOf pd_12 rfl) rfl (by show 2 * 0 + _ ≤ _; exact Nat.le_of_eq rfl) (hb hby d6_151) (fun _ _ => ⟨rfl, e15, (by decide : 1 + 0 ≤ _), (by decide : 3 + 0 ≤ _)⟩)
  dsimp only [Pt.U, Pt.locs, Pt.cells, Pt.slots] at X16 l16 y16 z16 st16 hQ16
  subst l16 y16 z16
  obtain ⟨rfl, N16q, K16, F_next_a1_16, F_val_length_a1_16, F_val_items_a1_16⟩ := hQ16
  have N16 := Fr.app N15 N16q
  replace F_size_a1 := F_size_a1.keep K16 (ninS ne_a1_b2_b nin0)
  replace F_store_a1 := F_store_a1.keep K16 (ninS ne_a1_b2_b nin0)
  replace E_a1 := E_a1.keep K16
  replace F_items_sto := F_items_sto.keep K16 (ninS ne_sto_b2_b nin0)
  replace E_arr := E_arr.keep K16
  replace V_arr := V_arr.keep K16 (ninS ne_arr_b2_b nin0)
  replace E_x0 := E_x0.keep K16
  replace F_value_x0 := F_value_x0.keep K16 (ninS ne_x0_b2_b nin0)
  replace E_x1 := E_x1.keep K16
  replace F_value_x1 := F_value_x1.keep K16 (ninS ne_x1_b2_b nin0)
  replace E_x2 := E_x2.keep K16
  replace F_value_x2 := F_value_x2.keep K16 (ninS ne_x2_b2_b nin0)
  replace E_x3 := E_x3.keep K16
  replace F_value_x3 := F_value_x3.keep K16 (ninS ne_x3_b2_b nin0)
  replace E_b_2 := E_b_2.keep K16
  replace O0 := O0.keep K16 (allS g_b2_b all0)
  replace KC := KC.trans K16 (allS (Or.inr sz_b2_b) all0)
  obtain ⟨T17, X17, e17, st17⟩ := castY X16 hx hZ hown (ww hw 124 rfl) rfl (Ins.self E_x3) (g := (mkF m 156 #[vr a1, vi (3 : Int32), vi q0, vi q1, vi q2, vi ql, vi (1 : Int32), vi (4 : Int32), vr b2_b] [(.ref x3)])) rfl rfl (hb hby d6_156)
  obtain ⟨cq18, kq18, q18a, q18b, q18c⟩ := isOf hZ e17 E_x3
  obtain ⟨_, _, ⟨T18, L18, k18, n18⟩, -, X18, ⟨Lc18, hQ18, l18, y18, z18⟩, st18⟩ := X17.virtualBack hx (y := y_6) (z := y_6) hown (mvT hZ (ww hw 126 rfl)) (mvT hZ (ww hw 127 rfl)) (notFace_of_selects (args := #[]) (mvT hZ (ww hw 129 rfl))) (mvT hZ (ww hw 129 rfl)) (mvT hZ (ww hw 128 rfl)) (by decide) (backOf (W := 0) (rmIv l Z a0 hw [] x3 ql T16.heap n0 (Nat.le_trans Z0 KC.1) O0 F_value_x3) hZ (ww hw 130 rfl) (ww hw 74 rfl) (by decide) (by decide)) q18a q18c (g := (mkF m 159 #[vr a1, vi (3 : Int32), vi q0, vi q1, vi q2, vi ql, vi (1 : Int32), vi (4 : Int32), vr b2_b] [(.ref x3)])) rfl (by rw [hml]; rfl) (Steps.refl _) (argsL := []) (rest := []) (lenOf pd_9 rfl) rfl (by show 2 * 0 + _ ≤ _; exact Nat.le_of_eq rfl) (hb hby d6_159) (fun _ _ => ⟨rfl, e17, (by decide : 1 + 0 ≤ _), (by decide : 3 + 0 ≤ _)⟩)
  dsimp only [Pt.U, Pt.locs, Pt.cells, Pt.slots] at X18 l18 y18 z18 st18 hQ18
  subst l18 y18 z18
  obtain ⟨rfl, N18q, e18⟩ := hQ18
  have N18 := Fr.app N16 N18q
  obtain ⟨cq19, kq19, q19a, q19b, q19c⟩ := isOf hZ e18 E_b_2
  obtain ⟨_, _, ⟨T19, L19, k19, n19⟩, -, X19, ⟨Lc19, hQ19, l19, y19, z19⟩, st19⟩ := X18.interfaceBack hx (xi := y_19) (y := y_16) hown (mvT hZ (ww hw 61 rfl)) (mvT hZ (ww hw 62 rfl)) (mvT hZ (ww hw 63 rfl)) (mvT hZ (ww hw 64 rfl)) (mvT hZ (ww hw 65 rfl)) (mvT hZ (ww hw 66 rfl)) (mvT hZ (ww hw 67 rfl)) (mvT hZ (ww hw 68 rfl)) (by decide) (backOf (W := 0) (rmHn l Z a0 hw [] b2_b (4 : Int32) (4 : Int32) (0 : Int32) T16.heap n0 (Nat.le_trans Z0 KC.1) O0 F_next_a1_16 F_val_length_a1_16 (by decide)) hZ (ww hw 69 rfl) (ww hw 52 rfl) (by decide) (by decide)) q19a q19b q19c (g := (mkF m 171 #[vr a1, vi (3 : Int32), vi q0, vi q1, vi q2, vi ql, vi (1 : Int32), vi (4 : Int32), vr b2_b] [(.ref b2_b)])) rfl (by rw [hml]; rfl) (Steps.refl _) (argsL := []) (rest := []) (lenOf pd_11 rfl) rfl (by show 2 * 0 + _ ≤ _; exact Nat.le_of_eq rfl) (hb hby d6_171) (fun _ _ => ⟨rfl, e18, (by decide : 1 + 0 ≤ _), (by decide : 3 + 0 ≤ _)⟩)
  dsimp only [Pt.U, Pt.locs, Pt.cells, Pt.slots] at X19 l19 y19 z19 st19 hQ19
  subst l19 y19 z19
  obtain ⟨rfl, N19q, e19⟩ := hQ19
  have N19 := Fr.app N18 N19q
  obtain ⟨fs, hr, hrun, hended, hW, hsame⟩ := X19.leave (v := some (.int (1 : Int32))) (fun h => by rw [Bd.returns] at h; cases h)
  refine ⟨_, _, pre0 _ ?_, hrun, hended, _, _, rfl, ?_, ⟨_, rfl⟩, hW, hsame.mono (by decide) (by decide)⟩
  · show SS p e below m s₁ 0 #[vr a1, vi (3 : Int32), vi q0, vi q1, vi q2, vi ql, vi (1 : Int32), un, un] [] _
    refine XS.iload X0.here hx rfl (hb hby d6_0) rfl ?_
    show SS p e below m s₁ 2 #[vr a1, vi (3 : Int32), vi q0, vi q1, vi q2, vi ql, vi (1 : Int32), un, un] [(.int (1 : Int32))] _
    refine XS.ifNo X0.here hx rfl (hb hby d6_2) rfl ((if0 _ _).trans (feq (by decide)).1) ?_
    show SS p e below m s₁ 5 #[vr a1, vi (3 : Int32), vi q0, vi q1, vi q2, vi ql, vi (1 : Int32), un, un] [] _
    refine XS.iloadN X0.here hx rfl (hb hby d6_5) rfl ?_
    show SS p e below m s₁ 6 #[vr a1, vi (3 : Int32), vi q0, vi q1, vi q2, vi ql, vi (1 : Int32), un, un] [(.int (3 : Int32))] _
    refine XS.iconst X0.here hx rfl (hb hby d6_6) ?_
    show SS p e below m s₁ 7 #[vr a1, vi (3 : Int32), vi q0, vi q1, vi q2, vi ql, vi (1 : Int32), un, un] [(.int (1 : Int32)), (.int (3 : Int32))] _
    refine XS.iadd X0.here hx rfl (hb hby d6_7) rfl ?_
    show SS p e below m s₁ 8 #[vr a1, vi (3 : Int32), vi q0, vi q1, vi q2, vi ql, vi (1 : Int32), un, un] [(.int (4 : Int32))] _
    refine XS.goto X0.here hx rfl (pc0 := 8) (pc' := 12) rfl (hb hby d6_8) (by decide) (by decide) ?_
    show SS p e below m s₁ 12 #[vr a1, vi (3 : Int32), vi q0, vi q1, vi q2, vi ql, vi (1 : Int32), un, un] [(.int (4 : Int32))] _
    refine XS.istore X0.here hx rfl (hb hby d6_12) rfl (l' := #[vr a1, vi (3 : Int32), vi q0, vi q1, vi q2, vi ql, vi (1 : Int32), vi (4 : Int32), un]) rfl ?_
    show SS p e below m s₁ 14 #[vr a1, vi (3 : Int32), vi q0, vi q1, vi q2, vi ql, vi (1 : Int32), vi (4 : Int32), un] [] _
    refine XS.aloadN X0.here hx rfl (hb hby d6_14) rfl rfl ?_
    show SS p e below m s₁ 15 #[vr a1, vi (3 : Int32), vi q0, vi q1, vi q2, vi ql, vi (1 : Int32), vi (4 : Int32), un] [(.ref a1)] _
    refine st1.trans ?_
    show SS p e below m T1 18 #[vr a1, vi (3 : Int32), vi q0, vi q1, vi q2, vi ql, vi (1 : Int32), vi (4 : Int32), un] [(.int (4 : Int32))] _
    refine XS.iload X1.here hx rfl (hb hby d6_18) rfl ?_
    show SS p e below m T1 20 #[vr a1, vi (3 : Int32), vi q0, vi q1, vi q2, vi ql, vi (1 : Int32), vi (4 : Int32), un] [(.int (4 : Int32)), (.int (4 : Int32))] _
    refine XS.icmpYes X1.here hx rfl (pc0 := 20) (pc' := 25) rfl (hb hby d6_20) rfl (teq (by decide)).1 (by decide) (by decide) ?_
    show SS p e below m T1 25 #[vr a1, vi (3 : Int32), vi q0, vi q1, vi q2, vi ql, vi (1 : Int32), vi (4 : Int32), un] [] _
    refine XS.aloadN X1.here hx rfl (hb hby d6_25) rfl rfl ?_
    show SS p e below m T1 26 #[vr a1, vi (3 : Int32), vi q0, vi q1, vi q2, vi ql, vi (1 : Int32), vi (4 : Int32), un] [(.ref a1)] _
    refine st2.trans ?_
    show SS p e below m T2 29 #[vr a1, vi (3 : Int32), vi q0, vi q1, vi q2, vi ql, vi (1 : Int32), vi (4 : Int32), un] [(.ref b2_b)] _
    refine XS.astore X2.here hx rfl (hb hby d6_29) rfl rfl (l' := #[vr a1, vi (3 : Int32), vi q0, vi q1, vi q2, vi ql, vi (1 : Int32), vi (4 : Int32), vr b2_b]) rfl ?_
    show SS p e below m T2 31 #[vr a1, vi (3 : Int32), vi q0, vi q1, vi q2, vi ql, vi (1 : Int32), vi (4 : Int32), vr b2_b] [] _
    refine XS.iloadN X2.here hx rfl (hb hby d6_31) rfl ?_
    show SS p e below m T2 32 #[vr a1, vi (3 : Int32), vi q0, vi q1, vi q2, vi ql, vi (1 : Int32), vi (4 : Int32), vr b2_b] [(.int (3 : Int32))] _
    refine XS.iconst X2.here hx rfl (hb hby d6_32) ?_
    show SS p e below m T2 33 #[vr a1, vi (3 : Int32), vi q0, vi q1, vi q2, vi ql, vi (1 : Int32), vi (4 : Int32), vr b2_b] [(.int (1 : Int32)), (.int (3 : Int32))] _
    refine XS.icmpNo X2.here hx rfl (hb hby d6_33) rfl (flt (by decide)).1 ?_
    show SS p e below m T2 36 #[vr a1, vi (3 : Int32), vi q0, vi q1, vi q2, vi ql, vi (1 : Int32), vi (4 : Int32), vr b2_b] [] _
    refine XS.aload X2.here hx rfl (hb hby d6_36) rfl rfl ?_
    show SS p e below m T2 38 #[vr a1, vi (3 : Int32), vi q0, vi q1, vi q2, vi ql, vi (1 : Int32), vi (4 : Int32), vr b2_b] [(.ref b2_b)] _
    refine st3.trans ?_
    show SS p e below m T3 43 #[vr a1, vi (3 : Int32), vi q0, vi q1, vi q2, vi ql, vi (1 : Int32), vi (4 : Int32), vr b2_b] [(.int (1 : Int32))] _
    refine XS.ifNo X3.here hx rfl (hb hby d6_43) rfl ((if0 _ _).trans (feq (by decide)).1) ?_
    show SS p e below m T3 46 #[vr a1, vi (3 : Int32), vi q0, vi q1, vi q2, vi ql, vi (1 : Int32), vi (4 : Int32), vr b2_b] [] _
    refine XS.aload X3.here hx rfl (hb hby d6_46) rfl rfl ?_
    show SS p e below m T3 48 #[vr a1, vi (3 : Int32), vi q0, vi q1, vi q2, vi ql, vi (1 : Int32), vi (4 : Int32), vr b2_b] [(.ref b2_b)] _
    refine st4.trans ?_
    show SS p e below m T4 53 #[vr a1, vi (3 : Int32), vi q0, vi q1, vi q2, vi ql, vi (1 : Int32), vi (4 : Int32), vr b2_b] [(.ref x0)] _
    refine st5 _ ?_
    show SS p e below m T5 56 #[vr a1, vi (3 : Int32), vi q0, vi q1, vi q2, vi ql, vi (1 : Int32), vi (4 : Int32), vr b2_b] [(.ref x0)] _
    refine st6.trans ?_
    show SS p e below m T6 59 #[vr a1, vi (3 : Int32), vi q0, vi q1, vi q2, vi ql, vi (1 : Int32), vi (4 : Int32), vr b2_b] [(.int q0)] _
    refine XS.iloadN X6.here hx rfl (hb hby d6_59) rfl ?_
    show SS p e below m T6 60 #[vr a1, vi (3 : Int32), vi q0, vi q1, vi q2, vi ql, vi (1 : Int32), vi (4 : Int32), vr b2_b] [(.int q0), (.int q0)] _
    refine XS.icmpYes X6.here hx rfl (pc0 := 60) (pc' := 65) rfl (hb hby d6_60) rfl (teq rfl).1 (by decide) (by decide) ?_
    show SS p e below m T6 65 #[vr a1, vi (3 : Int32), vi q0, vi q1, vi q2, vi ql, vi (1 : Int32), vi (4 : Int32), vr b2_b] [] _
    refine XS.iloadN X6.here hx rfl (hb hby d6_65) rfl ?_
    show SS p e below m T6 66 #[vr a1, vi (3 : Int32), vi q0, vi q1, vi q2, vi ql, vi (1 : Int32), vi (4 : Int32), vr b2_b] [(.int (3 : Int32))] _
    refine XS.iconst X6.here hx rfl (hb hby d6_66) ?_
    show SS p e below m T6 67 #[vr a1, vi (3 : Int32), vi q0, vi q1, vi q2, vi ql, vi (1 : Int32), vi (4 : Int32), vr b2_b] [(.int (2 : Int32)), (.int (3 : Int32))] _
    refine XS.icmpNo X6.here hx rfl (hb hby d6_67) rfl (flt (by decide)).1 ?_
    show SS p e below m T6 70 #[vr a1, vi (3 : Int32), vi q0, vi q1, vi q2, vi ql, vi (1 : Int32), vi (4 : Int32), vr b2_b] [] _
    refine XS.aload X6.here hx rfl (hb hby d6_70) rfl rfl ?_
    show SS p e below m T6 72 #[vr a1, vi (3 : Int32), vi q0, vi q1, vi q2, vi ql, vi (1 : Int32), vi (4 : Int32), vr b2_b] [(.ref b2_b)] _
    refine st7.trans ?_
    show SS p e below m T7 77 #[vr a1, vi (3 : Int32), vi q0, vi q1, vi q2, vi ql, vi (1 : Int32), vi (4 : Int32), vr b2_b] [(.int (1 : Int32))] _
    refine XS.ifNo X7.here hx rfl (hb hby d6_77) rfl ((if0 _ _).trans (feq (by decide)).1) ?_
    show SS p e below m T7 80 #[vr a1, vi (3 : Int32), vi q0, vi q1, vi q2, vi ql, vi (1 : Int32), vi (4 : Int32), vr b2_b] [] _
    refine XS.aload X7.here hx rfl (hb hby d6_80) rfl rfl ?_
    show SS p e below m T7 82 #[vr a1, vi (3 : Int32), vi q0, vi q1, vi q2, vi ql, vi (1 : Int32), vi (4 : Int32), vr b2_b] [(.ref b2_b)] _
    refine st8.trans ?_
    show SS p e below m T8 87 #[vr a1, vi (3 : Int32), vi q0, vi q1, vi q2, vi ql, vi (1 : Int32), vi (4 : Int32), vr b2_b] [(.ref x1)] _
    refine st9 _ ?_
    show SS p e below m T9 90 #[vr a1, vi (3 : Int32), vi q0, vi q1, vi q2, vi ql, vi (1 : Int32), vi (4 : Int32), vr b2_b] [(.ref x1)] _
    refine st10.trans ?_
    show SS p e below m T10 93 #[vr a1, vi (3 : Int32), vi q0, vi q1, vi q2, vi ql, vi (1 : Int32), vi (4 : Int32), vr b2_b] [(.int q1)] _
    refine XS.iloadN X10.here hx rfl (hb hby d6_93) rfl ?_
    show SS p e below m T10 94 #[vr a1, vi (3 : Int32), vi q0, vi q1, vi q2, vi ql, vi (1 : Int32), vi (4 : Int32), vr b2_b] [(.int q1), (.int q1)] _
    refine XS.icmpYes X10.here hx rfl (pc0 := 94) (pc' := 99) rfl (hb hby d6_94) rfl (teq rfl).1 (by decide) (by decide) ?_
    show SS p e below m T10 99 #[vr a1, vi (3 : Int32), vi q0, vi q1, vi q2, vi ql, vi (1 : Int32), vi (4 : Int32), vr b2_b] [] _
    refine XS.iloadN X10.here hx rfl (hb hby d6_99) rfl ?_
    show SS p e below m T10 100 #[vr a1, vi (3 : Int32), vi q0, vi q1, vi q2, vi ql, vi (1 : Int32), vi (4 : Int32), vr b2_b] [(.int (3 : Int32))] _
    refine XS.iconst X10.here hx rfl (hb hby d6_100) ?_
    show SS p e below m T10 101 #[vr a1, vi (3 : Int32), vi q0, vi q1, vi q2, vi ql, vi (1 : Int32), vi (4 : Int32), vr b2_b] [(.int (3 : Int32)), (.int (3 : Int32))] _
    refine XS.icmpNo X10.here hx rfl (hb hby d6_101) rfl (flt (by decide)).1 ?_
    show SS p e below m T10 104 #[vr a1, vi (3 : Int32), vi q0, vi q1, vi q2, vi ql, vi (1 : Int32), vi (4 : Int32), vr b2_b] [] _
    refine XS.aload X10.here hx rfl (hb hby d6_104) rfl rfl ?_
    show SS p e below m T10 106 #[vr a1, vi (3 : Int32), vi q0, vi q1, vi q2, vi ql, vi (1 : Int32), vi (4 : Int32), vr b2_b] [(.ref b2_b)] _
    refine st11.trans ?_
    show SS p e below m T11 111 #[vr a1, vi (3 : Int32), vi q0, vi q1, vi q2, vi ql, vi (1 : Int32), vi (4 : Int32), vr b2_b] [(.int (1 : Int32))] _
    refine XS.ifNo X11.here hx rfl (hb hby d6_111) rfl ((if0 _ _).trans (feq (by decide)).1) ?_
    show SS p e below m T11 114 #[vr a1, vi (3 : Int32), vi q0, vi q1, vi q2, vi ql, vi (1 : Int32), vi (4 : Int32), vr b2_b] [] _
    refine XS.aload X11.here hx rfl (hb hby d6_114) rfl rfl ?_
    show SS p e below m T11 116 #[vr a1, vi (3 : Int32), vi q0, vi q1, vi q2, vi ql, vi (1 : Int32), vi (4 : Int32), vr b2_b] [(.ref b2_b)] _
    refine st12.trans ?_
    show SS p e below m T12 121 #[vr a1, vi (3 : Int32), vi q0, vi q1, vi q2, vi ql, vi (1 : Int32), vi (4 : Int32), vr b2_b] [(.ref x2)] _
    refine st13 _ ?_
    show SS p e below m T13 124 #[vr a1, vi (3 : Int32), vi q0, vi q1, vi q2, vi ql, vi (1 : Int32), vi (4 : Int32), vr b2_b] [(.ref x2)] _
    refine st14.trans ?_
    show SS p e below m T14 127 #[vr a1, vi (3 : Int32), vi q0, vi q1, vi q2, vi ql, vi (1 : Int32), vi (4 : Int32), vr b2_b] [(.int q2)] _
    refine XS.iload X14.here hx rfl (hb hby d6_127) rfl ?_
    show SS p e below m T14 129 #[vr a1, vi (3 : Int32), vi q0, vi q1, vi q2, vi ql, vi (1 : Int32), vi (4 : Int32), vr b2_b] [(.int q2), (.int q2)] _
    refine XS.icmpYes X14.here hx rfl (pc0 := 129) (pc' := 134) rfl (hb hby d6_129) rfl (teq rfl).1 (by decide) (by decide) ?_
    show SS p e below m T14 134 #[vr a1, vi (3 : Int32), vi q0, vi q1, vi q2, vi ql, vi (1 : Int32), vi (4 : Int32), vr b2_b] [] _
    refine XS.iload X14.here hx rfl (hb hby d6_134) rfl ?_
    show SS p e below m T14 136 #[vr a1, vi (3 : Int32), vi q0, vi q1, vi q2, vi ql, vi (1 : Int32), vi (4 : Int32), vr b2_b] [(.int (1 : Int32))] _
    refine XS.ifNo X14.here hx rfl (hb hby d6_136) rfl ((if0 _ _).trans (feq (by decide)).1) ?_
    show SS p e below m T14 139 #[vr a1, vi (3 : Int32), vi q0, vi q1, vi q2, vi ql, vi (1 : Int32), vi (4 : Int32), vr b2_b] [] _
    refine XS.aload X14.here hx rfl (hb hby d6_139) rfl rfl ?_
    show SS p e below m T14 141 #[vr a1, vi (3 : Int32), vi q0, vi q1, vi q2, vi ql, vi (1 : Int32), vi (4 : Int32), vr b2_b] [(.ref b2_b)] _
    refine st15.trans ?_
    show SS p e below m T15 146 #[vr a1, vi (3 : Int32), vi q0, vi q1, vi q2, vi ql, vi (1 : Int32), vi (4 : Int32), vr b2_b] [(.int (1 : Int32))] _
    refine XS.ifNo X15.here hx rfl (hb hby d6_146) rfl ((if0 _ _).trans (feq (by decide)).1) ?_
    show SS p e below m T15 149 #[vr a1, vi (3 : Int32), vi q0, vi q1, vi q2, vi ql, vi (1 : Int32), vi (4 : Int32), vr b2_b] [] _
    refine XS.aload X15.here hx rfl (hb hby d6_149) rfl rfl ?_
    show SS p e below m T15 151 #[vr a1, vi (3 : Int32), vi q0, vi q1, vi q2, vi ql, vi (1 : Int32), vi (4 : Int32), vr b2_b] [(.ref b2_b)] _
    refine st16.trans ?_
    show SS p e below m T16 156 #[vr a1, vi (3 : Int32), vi q0, vi q1, vi q2, vi ql, vi (1 : Int32), vi (4 : Int32), vr b2_b] [(.ref x3)] _
    refine st17 _ ?_
    show SS p e below m T17 159 #[vr a1, vi (3 : Int32), vi q0, vi q1, vi q2, vi ql, vi (1 : Int32), vi (4 : Int32), vr b2_b] [(.ref x3)] _
    refine st18.trans ?_
    show SS p e below m T18 162 #[vr a1, vi (3 : Int32), vi q0, vi q1, vi q2, vi ql, vi (1 : Int32), vi (4 : Int32), vr b2_b] [(.int ql)] _
    refine XS.iload X18.here hx rfl (hb hby d6_162) rfl ?_
    show SS p e below m T18 164 #[vr a1, vi (3 : Int32), vi q0, vi q1, vi q2, vi ql, vi (1 : Int32), vi (4 : Int32), vr b2_b] [(.int ql), (.int ql)] _
    refine XS.icmpYes X18.here hx rfl (pc0 := 164) (pc' := 169) rfl (hb hby d6_164) rfl (teq rfl).1 (by decide) (by decide) ?_
    show SS p e below m T18 169 #[vr a1, vi (3 : Int32), vi q0, vi q1, vi q2, vi ql, vi (1 : Int32), vi (4 : Int32), vr b2_b] [] _
    refine XS.aload X18.here hx rfl (hb hby d6_169) rfl rfl ?_
    show SS p e below m T18 171 #[vr a1, vi (3 : Int32), vi q0, vi q1, vi q2, vi ql, vi (1 : Int32), vi (4 : Int32), vr b2_b] [(.ref b2_b)] _
    refine st19.trans ?_
    show SS p e below m T19 176 #[vr a1, vi (3 : Int32), vi q0, vi q1, vi q2, vi ql, vi (1 : Int32), vi (4 : Int32), vr b2_b] [(.int (0 : Int32))] _
    refine XS.ifNo X19.here hx rfl (hb hby d6_176) rfl ((if0 _ _).trans (teq (by decide)).2) ?_
    show SS p e below m T19 179 #[vr a1, vi (3 : Int32), vi q0, vi q1, vi q2, vi ql, vi (1 : Int32), vi (4 : Int32), vr b2_b] [] _
    refine XS.iconst X19.here hx rfl (hb hby d6_179) ?_
    show SS p e below m T19 180 #[vr a1, vi (3 : Int32), vi q0, vi q1, vi q2, vi ql, vi (1 : Int32), vi (4 : Int32), vr b2_b] [(.int (1 : Int32))] _
    refine XS.goto X19.here hx rfl (pc0 := 180) (pc' := 184) rfl (hb hby d6_180) (by decide) (by decide) ?_
    show SS p e below m T19 184 #[vr a1, vi (3 : Int32), vi q0, vi q1, vi q2, vi ql, vi (1 : Int32), vi (4 : Int32), vr b2_b] [(.int (1 : Int32))] _
    exact retN X19 hx (t := .boolean) Bd.returns (by simp) (hb hby d6_184) hr
  · show Q_rmH31 Z a1 q0 q1 q2 ql sto arr kk cap vs x0 x1 x2 x3 h0 n0 _ T19.heap _
    rw [e19]
    exact ⟨rfl, N19, KC⟩
theorem pd_13 : parseMethodDescriptor "()Lcom/example/brisk_tableau/brisktableau/tableau/SharedList;" = some ⟨[], some (.object "com/example/brisk_tableau/brisktableau/tableau/SharedList")⟩ := by decide +kernel
theorem pd_14 : parseMethodDescriptor "(Lcom/example/brisk_tableau/brisktableau/tableau/SharedList;IIIIIZ)Z" = some ⟨[(.object "com/example/brisk_tableau/brisktableau/tableau/SharedList"), .int, .int, .int, .int, .int, .boolean], some .boolean⟩ := by decide +kernel
theorem pd_15 : parseMethodDescriptor "(I)Ljava/lang/Integer;" = some ⟨[.int], some (.object "java/lang/Integer")⟩ := by decide +kernel
theorem pd_16 : parseMethodDescriptor "(Ljava/lang/Object;)V" = some ⟨[(.object "java/lang/Object")], none⟩ := by decide +kernel
theorem ef_rm0 (m : MethodId) (x0 : Int32) (x1 : Int32) (x2 : Int32) (x3 : Int32) (x4 : Int32) (x5 : Int32) : entryFrame m #[(.int x0), (.int x1), (.int x2), (.int x3), (.int x4), (.int x5)] maxLocals = mkF m 0 #[vi x0, vi x1, vi x2, vi x3, vi x4, vi x5, .unset, .unset, .unset, .unset, .unset, .unset, .unset] [] := by first | (simp [entryFrame, mkF, argsToLocals, Value.category, maxLocals]; done) | rfl
def Q_rm0 (Z : State) (p1 : Int32) (p2 : Int32) (p3 : Int32) (p4 : Int32) (p5 : Int32) (p6 : Int32) (cA : Addr) (cl : Cell) (mr : Addr) (h0 : Heap) (n0 : Nat) (v : Option Value) (h : Heap) (L : List Loc) : Prop := (v = some (.int (1 : Int32))) ∧ (Fr n0 L) ∧ (Keep h0 h [])
set_option maxRecDepth 65536 in
set_option maxHeartbeats 40000000 in
theorem rm0 (l : Launch) (Z : State) (a0 : Array Value) (hw : ∀ d ∈ tables_1, d.before a0 Z = true) (ws : List Jvm.Cond) (p1 : Int32) (p2 : Int32) (p3 : Int32) (p4 : Int32) (p5 : Int32) (p6 : Int32) (cA : Addr) (cl : Cell) (mr : Addr) (h0 : Heap) (n0 : Nat) (Z0 : n0 ≤ h0.size) (O0 : Old Z n0 h0) (S_high : Sta Z Z.heap "java/lang/Integer$IntegerCache" "high" "I" (.int (127 : Int32))) (S_cache : Sta Z Z.heap "java/lang/Integer$IntegerCache" "cache" "[Ljava/lang/Integer;" (.ref cA)) (BX : Bxs Z cA cl "java/lang/Integer" "I" (256 : Int32) (fun j => .int (j - (128 : Int32)))) (MIR : own_Mir Z "[Ljava/lang/Object;" mr) :
    MetFree l x (head1 (Jvm.Cond.code x code maxLocals ret :: ws) room_1) (fun a U => a = #[(.int p1), (.int p2), (.int p3), (.int p4), (.int p5), (.int p6)] ∧ Z.Warmed39 U.vm ∧ U.heap = h0) (fun _ _ _ _ _ => True) (fun _ U o U' => ∃ v L, o = .returned v ∧ Q_rm0 Z p1 p2 p3 p4 p5 p6 cA cl mr h0 n0 v U'.heap L ∧ FrameEnd U o U' L room_1.cells room_1.slots) := by
  refine MetFree.of_bodySF (plainFor_of_name pn_7) hisR ?_
  intro p e s m args below meth c s₁ Bd hml0 hP hK
  obtain ⟨rfl, hZ, hh⟩ := hP
  have hx := Bd.exec
  have hby := Bd.bytes
  have hml : c.maxLocals = 13 := hml0
  have hown : s.vm.findClass "com/example/brisk_tableau/brisktableau/tableau/SharedListCopyPinLaw" = some m.cls := findClass_of_methodNamed Bd.named
  have hnm := (name_of_methodNamed Bd.named Bd.method).1
  have X0 : Stand p l e room_1 s m #[(.int p1), (.int p2), (.int p3), (.int p4), (.int p5), (.int p6)] below meth c s₁ [] 0 0 := Stand.of_body Bd
  have e0 : s₁.heap = h0 := by rw [← hh, Bd.state]; rfl
  have N0 := Fr.nil n0
  have KC : Keep h0 h0 [] := Keep.refl h0 _
  have pre0 : ∀ t, Steps p.tables e below (s₁.setTop (mkF m 0 #[vi p1, vi p2, vi p3, vi p4, vi p5, vi p6, un, un, un, un, un, un, un] [])) t → Steps p.tables e below (s₁.setTop (entryFrame m #[(.int p1), (.int p2), (.int p3), (.int p4), (.int p5), (.int p6)] maxLocals)) t := fun t k => castTop (ef_rm0 m p1 p2 p3 p4 p5 p6) k
  have pre1 : ∀ t, Steps p.tables e below (s₁.setTop (mkF m 8 #[vi p1, vi p2, vi p3, vi p4, vi p5, vi p6, vi (p1 &&& (3 : Int32)), un, un, un, un, un, un] [(.int (p1 &&& (4 : Int32)))])) t → Steps p.tables e below (s₁.setTop (entryFrame m #[(.int p1), (.int p2), (.int p3), (.int p4), (.int p5), (.int p6)] maxLocals)) t := by
    intro t kt
    refine pre0 t ?_
    show SS p e below m s₁ 0 #[vi p1, vi p2, vi p3, vi p4, vi p5, vi p6, un, un, un, un, un, un, un] [] _
    refine XS.iloadN X0.here hx rfl (hb hby at_0) rfl ?_
    show SS p e below m s₁ 1 #[vi p1, vi p2, vi p3, vi p4, vi p5, vi p6, un, un, un, un, un, un, un] [(.int p1)] _
    refine XS.iconst X0.here hx rfl (hb hby at_1) ?_
    show SS p e below m s₁ 2 #[vi p1, vi p2, vi p3, vi p4, vi p5, vi p6, un, un, un, un, un, un, un] [(.int (3 : Int32)), (.int p1)] _
    refine XS.iand X0.here hx rfl (hb hby at_2) rfl ?_
    show SS p e below m s₁ 3 #[vi p1, vi p2, vi p3, vi p4, vi p5, vi p6, un, un, un, un, un, un, un] [(.int (p1 &&& (3 : Int32)))] _
    refine XS.istore X0.here hx rfl (hb hby at_3) rfl (l' := #[vi p1, vi p2, vi p3, vi p4, vi p5, vi p6, vi (p1 &&& (3 : Int32)), un, un, un, un, un, un]) rfl ?_
    show SS p e below m s₁ 5 #[vi p1, vi p2, vi p3, vi p4, vi p5, vi p6, vi (p1 &&& (3 : Int32)), un, un, un, un, un, un] [] _
    refine XS.iloadN X0.here hx rfl (hb hby at_5) rfl ?_
    show SS p e below m s₁ 6 #[vi p1, vi p2, vi p3, vi p4, vi p5, vi p6, vi (p1 &&& (3 : Int32)), un, un, un, un, un, un] [(.int p1)] _
    refine XS.iconst X0.here hx rfl (hb hby at_6) ?_
    show SS p e below m s₁ 7 #[vi p1, vi p2, vi p3, vi p4, vi p5, vi p6, vi (p1 &&& (3 : Int32)), un, un, un, un, un, un] [(.int (4 : Int32)), (.int p1)] _
    refine XS.iand X0.here hx rfl (hb hby at_7) rfl ?_
    exact kt
  obtain ⟨c1, h_c1, pre2⟩ : ∃ c1 : Int32, (((p1 &&& (4 : Int32)) = (0 : Int32)) ∧ c1 = (0 : Int32) ∨ ¬ ((p1 &&& (4 : Int32)) = (0 : Int32)) ∧ c1 = (1 : Int32)) ∧ ∀ t, Steps p.tables e below (s₁.setTop (mkF m 16 #[vi p1, vi p2, vi p3, vi p4, vi p5, vi p6, vi (p1 &&& (3 : Int32)), un, un, un, un, un, un] [(.int c1)])) t → Steps p.tables e below (s₁.setTop (entryFrame m #[(.int p1), (.int p2), (.int p3), (.int p4), (.int p5), (.int p6)] maxLocals)) t := by
    by_cases hj2 : (p1 &&& (4 : Int32)) = (0 : Int32)
    · refine ⟨(0 : Int32), Or.inl ⟨hj2, rfl⟩, fun t kt => pre1 t ?_⟩
      show SS p e below m s₁ 8 #[vi p1, vi p2, vi p3, vi p4, vi p5, vi p6, vi (p1 &&& (3 : Int32)), un, un, un, un, un, un] [(.int (p1 &&& (4 : Int32)))] _
      refine XS.ifYes X0.here hx rfl (pc0 := 8) (pc' := 15) rfl (hb hby at_8) rfl ((if0 _ _).trans (teq hj2).1) (by decide) (by decide) ?_
      show SS p e below m s₁ 15 #[vi p1, vi p2, vi p3, vi p4, vi p5, vi p6, vi (p1 &&& (3 : Int32)), un, un, un, un, un, un] [] _
      refine XS.iconst X0.here hx rfl (hb hby at_15) ?_
      exact kt
    · refine ⟨(1 : Int32), Or.inr ⟨hj2, rfl⟩, fun t kt => pre1 t ?_⟩
      show SS p e below m s₁ 8 #[vi p1, vi p2, vi p3, vi p4, vi p5, vi p6, vi (p1 &&& (3 : Int32)), un, un, un, un, un, un] [(.int (p1 &&& (4 : Int32)))] _
      refine XS.ifNo X0.here hx rfl (hb hby at_8) rfl ((if0 _ _).trans (feq hj2).1) ?_
      show SS p e below m s₁ 11 #[vi p1, vi p2, vi p3, vi p4, vi p5, vi p6, vi (p1 &&& (3 : Int32)), un, un, un, un, un, un] [] _
      refine XS.iconst X0.here hx rfl (hb hby at_11) ?_
      show SS p e below m s₁ 12 #[vi p1, vi p2, vi p3, vi p4, vi p5, vi p6, vi (p1 &&& (3 : Int32)), un, un, un, un, un, un] [(.int (1 : Int32))] _
      refine XS.goto X0.here hx rfl (pc0 := 12) (pc' := 16) rfl (hb hby at_12) (by decide) (by decide) ?_
      exact kt
  obtain ⟨T3, h3, X3, e3, E3, A3, D3, -, st3⟩ := newO X0 hx hZ hown (ww hw 0 rfl) (ww hw 1 rfl) (ww hw 2 rfl) e0 (g := (mkF m 18 #[vi p1, vi p2, vi p3, vi p4, vi p5, vi p6, vi (p1 &&& (3 : Int32)), vi c1, un, un, un, un, un] [])) rfl (hb hby at_18) (by decide) (by decide)
  obtain ⟨b3, g3⟩ : ∃ z, z = h0.size := ⟨_, rfl⟩
  rw [← g3] at A3 D3 st3
  have g_b3 : n0 ≤ b3 := Nat.le_trans (Nat.le_trans Z0 KC.1) (Nat.le_of_eq g3.symm)
  have sz_b3 : h0.size ≤ b3 := Nat.le_trans KC.1 (Nat.le_of_eq g3.symm)
  replace O0 := O0.ext E3
  replace KC := KC.ext E3
  have F_store_b3 : Fld Z h3 b3 "com/example/brisk_tableau/brisktableau/tableau/SharedList" "store" "Lcom/example/brisk_tableau/brisktableau/tableau/SharedList$Store;" .null := D3 (Or.inl (ww hw 26 rfl)) (ty := (.object "com/example/brisk_tableau/brisktableau/tableau/SharedList$Store")) (by decide)
  have F_size_b3 : Fld Z h3 b3 "com/example/brisk_tableau/brisktableau/tableau/SharedList" "size" "I" (.int (0 : Int32)) := D3 (Or.inl (ww hw 28 rfl)) (ty := .int) (by decide)
  obtain ⟨_, _, ⟨T4, L4, k4, n4⟩, -, X4, ⟨Lc4, hQ4, l4, y4, z4⟩, st4⟩ := X3.specialBack hx (y := y_2) rfl hown (mvT hZ (ww hw 3 rfl)) (mvT hZ (ww hw 4 rfl)) (mvT hZ (ww hw 5 rfl)) (by decide) (backOf (W := 1) (rmL0 l Z a0 hw [] b3 h3 n0 (Nat.le_trans Z0 KC.1) O0 F_store_b3 F_size_b3 A3 g_b3) hZ (ww hw 5 rfl) (ww hw 2 rfl) (by decide) (by decide)) (g := (mkF m 22 #[vi p1, vi p2, vi p3, vi p4, vi p5, vi p6, vi (p1 &&& (3 : Int32)), vi c1, un, un, un, un, un] [(.ref b3), (.ref b3)])) rfl (by rw [hml]; rfl) (Steps.refl _) (a := b3) (argsL := []) (rest := [(.ref b3)]) (lenOf pd_2 rfl) rfl (by show 2 * 0 + _ ≤ _; exact Nat.le_of_eq rfl) (hb hby at_22) (fun _ _ => ⟨rfl, e3, (by decide : 1 + 2 ≤ _), (by decide : 2 + 6 ≤ _)⟩)
  dsimp only [Pt.U, Pt.locs, Pt.cells, Pt.slots] at X4 l4 y4 z4 st4 hQ4
  subst l4 y4 z4
  obtain ⟨b4_b, b4_c, k_4, rfl, N4q, K4, sz_b4_b, sz_b4_c, F_store_a1_4, F_size_a1_4, E_b_4, F_items_b_4, F_filled_b_4, E_c_4, V_c_4, hq4_0⟩ := hQ4
  have N4 := Fr.app N0 N4q
  have ne_b3_b4_b : b3 ≠ b4_b := Nat.ne_of_lt (Nat.lt_of_lt_of_le A3.lt sz_b4_b)
  have g_b4_b : n0 ≤ b4_b := Nat.le_trans (Nat.le_trans Z0 KC.1) sz_b4_b
  replace sz_b4_b : h0.size ≤ b4_b := Nat.le_trans KC.1 sz_b4_b
  have ne_b3_b4_c : b3 ≠ b4_c := Nat.ne_of_lt (Nat.lt_of_lt_of_le A3.lt sz_b4_c)
  have g_b4_c : n0 ≤ b4_c := Nat.le_trans (Nat.le_trans Z0 KC.1) sz_b4_c
  replace sz_b4_c : h0.size ≤ b4_c := Nat.le_trans KC.1 sz_b4_c
  replace A3 := A3.keep K4
  replace O0 := O0.keep K4 (allS g_b3 all0)
  replace KC := KC.trans K4 (allS (Or.inr sz_b3) all0)
  have pre5 : ∀ t, Steps p.tables e below (T4.setTop (mkF m 27 #[vi p1, vi p2, vi p3, vi p4, vi p5, vi p6, vi (p1 &&& (3 : Int32)), vi c1, vr b3, un, un, un, un] [])) t → Steps p.tables e below (s₁.setTop (entryFrame m #[(.int p1), (.int p2), (.int p3), (.int p4), (.int p5), (.int p6)] maxLocals)) t := by
    intro t kt
    refine pre2 t ?_
    show SS p e below m s₁ 16 #[vi p1, vi p2, vi p3, vi p4, vi p5, vi p6, vi (p1 &&& (3 : Int32)), un, un, un, un, un, un] [(.int c1)] _
    refine XS.istore X0.here hx rfl (hb hby at_16) rfl (l' := #[vi p1, vi p2, vi p3, vi p4, vi p5, vi p6, vi (p1 &&& (3 : Int32)), vi c1, un, un, un, un, un]) rfl ?_
    show SS p e below m s₁ 18 #[vi p1, vi p2, vi p3, vi p4, vi p5, vi p6, vi (p1 &&& (3 : Int32)), vi c1, un, un, un, un, un] [] _
    refine st3 _ ?_
    show SS p e below m T3 21 #[vi p1, vi p2, vi p3, vi p4, vi p5, vi p6, vi (p1 &&& (3 : Int32)), vi c1, un, un, un, un, un] [(.ref b3)] _
    refine XS.dup X3.here hx rfl (hb hby at_21) rfl rfl ?_
    show SS p e below m T3 22 #[vi p1, vi p2, vi p3, vi p4, vi p5, vi p6, vi (p1 &&& (3 : Int32)), vi c1, un, un, un, un, un] [(.ref b3), (.ref b3)] _
    refine st4.trans ?_
    show SS p e below m T4 25 #[vi p1, vi p2, vi p3, vi p4, vi p5, vi p6, vi (p1 &&& (3 : Int32)), vi c1, un, un, un, un, un] [(.ref b3)] _
    refine XS.astore X4.here hx rfl (hb hby at_25) rfl rfl (l' := #[vi p1, vi p2, vi p3, vi p4, vi p5, vi p6, vi (p1 &&& (3 : Int32)), vi c1, vr b3, un, un, un, un]) rfl ?_
    exact kt
  rcases own_and3 p1 with hk | hk | hk | hk
  · rw [hk] at pre5
    obtain ⟨cq6, kq6, q6a, q6b, q6c⟩ := isOf hZ rfl A3
    obtain ⟨_, _, ⟨T6, L6, k6, n6⟩, -, X6, ⟨Lc6, hQ6, l6, y6, z6⟩, st6⟩ := X4.virtualBack hx (y := y_13) (z := y_13) hown (mvT hZ (ww hw 29 rfl)) (mvT hZ (ww hw 30 rfl)) (notFace_of_selects (args := #[]) (mvT hZ (ww hw 32 rfl))) (mvT hZ (ww hw 32 rfl)) (mvT hZ (ww hw 31 rfl)) (by decide) (backOf (W := 0) (rmCp l Z a0 hw [] b3 b4_b (0 : Int32) T4.heap n0 (Nat.le_trans Z0 KC.1) O0 F_store_a1_4 F_size_a1_4) hZ (ww hw 33 rfl) (ww hw 2 rfl) (by decide) (by decide)) q6a q6c (g := (mkF m 74 #[vi p1, vi p2, vi p3, vi p4, vi p5, vi p6, vi (0 : Int32), vi c1, vr b3, un, un, un, un] [(.ref b3)])) rfl (by rw [hml]; rfl) (Steps.refl _) (argsL := []) (rest := []) (lenOf pd_13 rfl) rfl (by show 2 * 0 + _ ≤ _; exact Nat.le_of_eq rfl) (hb hby at_74) (fun _ _ => ⟨rfl, rfl, (by decide : 3 + 1 ≤ _), (by decide : 8 + 2 ≤ _)⟩)
    dsimp only [Pt.U, Pt.locs, Pt.cells, Pt.slots] at X6 l6 y6 z6 st6 hQ6
    subst l6 y6 z6
    obtain ⟨b6_b, rfl, N6q, K6, sz_b6_b, E_b_6, F_store_b_6, F_size_b_6⟩ := hQ6
    have N6 := Fr.app N4 N6q
    have ne_b3_b6_b : b3 ≠ b6_b := Nat.ne_of_lt (Nat.lt_of_lt_of_le A3.lt sz_b6_b)
    have ne_b4_b_b6_b : b4_b ≠ b6_b := Nat.ne_of_lt (Nat.lt_of_lt_of_le E_b_4.lt sz_b6_b)
    have ne_b4_c_b6_b : b4_c ≠ b6_b := Nat.ne_of_lt (Nat.lt_of_lt_of_le E_c_4.lt sz_b6_b)
    have g_b6_b : n0 ≤ b6_b := Nat.le_trans (Nat.le_trans Z0 KC.1) sz_b6_b
    replace sz_b6_b : h0.size ≤ b6_b := Nat.le_trans KC.1 sz_b6_b
    replace A3 := A3.keep K6
    replace F_store_a1_4 := F_store_a1_4.keep K6 nin0
    replace F_size_a1_4 := F_size_a1_4.keep K6 nin0
    replace E_b_4 := E_b_4.keep K6
    replace F_items_b_4 := F_items_b_4.keep K6 nin0
    replace F_filled_b_4 := F_filled_b_4.keep K6 nin0
    replace E_c_4 := E_c_4.keep K6
    replace V_c_4 := V_c_4.keep K6 nin0
    replace O0 := O0.keep K6 all0
    replace KC := KC.trans K6 all0
    obtain ⟨_, _, ⟨T7, L7, k7, n7⟩, -, X7, ⟨Lc7, hQ7, l7, y7, z7⟩, st7⟩ := Jvm.LawKit.callS X6 hx (y := y_20) hown (mvT hZ (ww hw 35 rfl)) (mvT hZ (ww hw 36 rfl)) (mvT hZ (ww hw 37 rfl)) (mvT hZ (ww hw 38 rfl)) (by decide) (backOf (W := 0) (rmH00 l Z a0 hw [] b6_b p2 p3 p4 (0 : Int32) b4_b b4_c k_4 (4 : Int32) [.null, .null, .null, .null] T6.heap n0 (Nat.le_trans Z0 KC.1) O0 F_size_b_6 F_store_b_6 E_b_6 F_items_b_4 E_c_4 V_c_4) hZ (ww hw 38 rfl) (ww hw 37 rfl) (by decide) (by decide)) (g := (mkF m 88 #[vi p1, vi p2, vi p3, vi p4, vi p5, vi p6, vi (0 : Int32), vi c1, vr b3, vr b6_b, un, un, un] [(.int (0 : Int32)), (.int (0 : Int32)), (.int p4), (.int p3), (.int p2), (.int (0 : Int32)), (.ref b6_b)])) rfl (by rw [hml]; rfl) (argsL := [(.ref b6_b), (.int (0 : Int32)), (.int p2), (.int p3), (.int p4), (.int (0 : Int32)), (.int (0 : Int32))]) (rest := []) (lenOf pd_14 rfl) rfl (by show 2 * 0 + _ ≤ _; exact Nat.le_of_eq rfl) (hb hby at_88) (fun _ _ => ⟨rfl, rfl, (by decide : 4 + 1 ≤ _), (by decide : 10 + 3 ≤ _)⟩)
    dsimp only [Pt.U, Pt.locs, Pt.cells, Pt.slots] at X7 l7 y7 z7 st7 hQ7
    subst l7 y7 z7
    obtain ⟨rfl, N7q, K7⟩ := hQ7
    have N7 := Fr.app N6 N7q
    replace A3 := A3.keep K7
    replace F_store_a1_4 := F_store_a1_4.keep K7 nin0
    replace F_size_a1_4 := F_size_a1_4.keep K7 nin0
    replace E_b_4 := E_b_4.keep K7
    replace F_items_b_4 := F_items_b_4.keep K7 nin0
    replace F_filled_b_4 := F_filled_b_4.keep K7 nin0
    replace E_c_4 := E_c_4.keep K7
    replace V_c_4 := V_c_4.keep K7 nin0
    replace E_b_6 := E_b_6.keep K7
    replace F_store_b_6 := F_store_b_6.keep K7 nin0
    replace F_size_b_6 := F_size_b_6.keep K7 nin0
    replace O0 := O0.keep K7 all0
    replace KC := KC.trans K7 all0
    have pre8 : ∀ t, Steps p.tables e below (T7.setTop (mkF m 98 #[vi p1, vi p2, vi p3, vi p4, vi p5, vi p6, vi (0 : Int32), vi c1, vr b3, vr b6_b, un, un, un] [(.int c1)])) t → Steps p.tables e below (s₁.setTop (entryFrame m #[(.int p1), (.int p2), (.int p3), (.int p4), (.int p5), (.int p6)] maxLocals)) t := by
      intro t kt
      refine pre5 t ?_
      show SS p e below m T4 27 #[vi p1, vi p2, vi p3, vi p4, vi p5, vi p6, vi (0 : Int32), vi c1, vr b3, un, un, un, un] [] _
      refine XS.iload X4.here hx rfl (hb hby at_27) rfl ?_
      show SS p e below m T4 29 #[vi p1, vi p2, vi p3, vi p4, vi p5, vi p6, vi (0 : Int32), vi c1, vr b3, un, un, un, un] [(.int (0 : Int32))] _
      refine XS.iconst X4.here hx rfl (hb hby at_29) ?_
      show SS p e below m T4 30 #[vi p1, vi p2, vi p3, vi p4, vi p5, vi p6, vi (0 : Int32), vi c1, vr b3, un, un, un, un] [(.int (1 : Int32)), (.int (0 : Int32))] _
      refine XS.icmpYes X4.here hx rfl (pc0 := 30) (pc' := 42) rfl (hb hby at_30) rfl (tlt (by decide)).1 (by decide) (by decide) ?_
      show SS p e below m T4 42 #[vi p1, vi p2, vi p3, vi p4, vi p5, vi p6, vi (0 : Int32), vi c1, vr b3, un, un, un, un] [] _
      refine XS.iload X4.here hx rfl (hb hby at_42) rfl ?_
      show SS p e below m T4 44 #[vi p1, vi p2, vi p3, vi p4, vi p5, vi p6, vi (0 : Int32), vi c1, vr b3, un, un, un, un] [(.int (0 : Int32))] _
      refine XS.iconst X4.here hx rfl (hb hby at_44) ?_
      show SS p e below m T4 45 #[vi p1, vi p2, vi p3, vi p4, vi p5, vi p6, vi (0 : Int32), vi c1, vr b3, un, un, un, un] [(.int (2 : Int32)), (.int (0 : Int32))] _
      refine XS.icmpYes X4.here hx rfl (pc0 := 45) (pc' := 57) rfl (hb hby at_45) rfl (tlt (by decide)).1 (by decide) (by decide) ?_
      show SS p e below m T4 57 #[vi p1, vi p2, vi p3, vi p4, vi p5, vi p6, vi (0 : Int32), vi c1, vr b3, un, un, un, un] [] _
      refine XS.iload X4.here hx rfl (hb hby at_57) rfl ?_
      show SS p e below m T4 59 #[vi p1, vi p2, vi p3, vi p4, vi p5, vi p6, vi (0 : Int32), vi c1, vr b3, un, un, un, un] [(.int (0 : Int32))] _
      refine XS.iconst X4.here hx rfl (hb hby at_59) ?_
      show SS p e below m T4 60 #[vi p1, vi p2, vi p3, vi p4, vi p5, vi p6, vi (0 : Int32), vi c1, vr b3, un, un, un, un] [(.int (3 : Int32)), (.int (0 : Int32))] _
      refine XS.icmpYes X4.here hx rfl (pc0 := 60) (pc' := 72) rfl (hb hby at_60) rfl (tlt (by decide)).1 (by decide) (by decide) ?_
      show SS p e below m T4 72 #[vi p1, vi p2, vi p3, vi p4, vi p5, vi p6, vi (0 : Int32), vi c1, vr b3, un, un, un, un] [] _
      refine XS.aload X4.here hx rfl (hb hby at_72) rfl rfl ?_
      show SS p e below m T4 74 #[vi p1, vi p2, vi p3, vi p4, vi p5, vi p6, vi (0 : Int32), vi c1, vr b3, un, un, un, un] [(.ref b3)] _
      refine st6.trans ?_
      show SS p e below m T6 77 #[vi p1, vi p2, vi p3, vi p4, vi p5, vi p6, vi (0 : Int32), vi c1, vr b3, un, un, un, un] [(.ref b6_b)] _
      refine XS.astore X6.here hx rfl (hb hby at_77) rfl rfl (l' := #[vi p1, vi p2, vi p3, vi p4, vi p5, vi p6, vi (0 : Int32), vi c1, vr b3, vr b6_b, un, un, un]) rfl ?_
      show SS p e below m T6 79 #[vi p1, vi p2, vi p3, vi p4, vi p5, vi p6, vi (0 : Int32), vi c1, vr b3, vr b6_b, un, un, un] [] _
      refine XS.aload X6.here hx rfl (hb hby at_79) rfl rfl ?_
      show SS p e below m T6 81 #[vi p1, vi p2, vi p3, vi p4, vi p5, vi p6, vi (0 : Int32), vi c1, vr b3, vr b6_b, un, un, un] [(.ref b6_b)] _
      refine XS.iload X6.here hx rfl (hb hby at_81) rfl ?_
      show SS p e below m T6 83 #[vi p1, vi p2, vi p3, vi p4, vi p5, vi p6, vi (0 : Int32), vi c1, vr b3, vr b6_b, un, un, un] [(.int (0 : Int32)), (.ref b6_b)] _
      refine XS.iloadN X6.here hx rfl (hb hby at_83) rfl ?_
      show SS p e below m T6 84 #[vi p1, vi p2, vi p3, vi p4, vi p5, vi p6, vi (0 : Int32), vi c1, vr b3, vr b6_b, un, un, un] [(.int p2), (.int (0 : Int32)), (.ref b6_b)] _
      refine XS.iloadN X6.here hx rfl (hb hby at_84) rfl ?_
      show SS p e below m T6 85 #[vi p1, vi p2, vi p3, vi p4, vi p5, vi p6, vi (0 : Int32), vi c1, vr b3, vr b6_b, un, un, un] [(.int p3), (.int p2), (.int (0 : Int32)), (.ref b6_b)] _
      refine XS.iloadN X6.here hx rfl (hb hby at_85) rfl ?_
      show SS p e below m T6 86 #[vi p1, vi p2, vi p3, vi p4, vi p5, vi p6, vi (0 : Int32), vi c1, vr b3, vr b6_b, un, un, un] [(.int p4), (.int p3), (.int p2), (.int (0 : Int32)), (.ref b6_b)] _
      refine XS.iconst X6.here hx rfl (hb hby at_86) ?_
      show SS p e below m T6 87 #[vi p1, vi p2, vi p3, vi p4, vi p5, vi p6, vi (0 : Int32), vi c1, vr b3, vr b6_b, un, un, un] [(.int (0 : Int32)), (.int p4), (.int p3), (.int p2), (.int (0 : Int32)), (.ref b6_b)] _
      refine XS.iconst X6.here hx rfl (hb hby at_87) ?_
      show SS p e below m T6 88 #[vi p1, vi p2, vi p3, vi p4, vi p5, vi p6, vi (0 : Int32), vi c1, vr b3, vr b6_b, un, un, un] [(.int (0 : Int32)), (.int (0 : Int32)), (.int p4), (.int p3), (.int p2), (.int (0 : Int32)), (.ref b6_b)] _
      refine st7 _ ?_
      show SS p e below m T7 91 #[vi p1, vi p2, vi p3, vi p4, vi p5, vi p6, vi (0 : Int32), vi c1, vr b3, vr b6_b, un, un, un] [(.int (1 : Int32))] _
      refine XS.ifYes X7.here hx rfl (pc0 := 91) (pc' := 96) rfl (hb hby at_91) rfl ((if0 _ _).trans (feq (by decide)).2) (by decide) (by decide) ?_
      show SS p e below m T7 96 #[vi p1, vi p2, vi p3, vi p4, vi p5, vi p6, vi (0 : Int32), vi c1, vr b3, vr b6_b, un, un, un] [] _
      refine XS.iload X7.here hx rfl (hb hby at_96) rfl ?_
      exact kt
    by_cases hc98_9 : c1 = (0 : Int32)
    · obtain ⟨_, _, ⟨T10, L10, k10, n10⟩, -, X10, ⟨Lc10, hQ10, l10, y10, z10⟩, st10⟩ := Jvm.LawKit.callS X7 hx (y := y_5) hown (mvT hZ (ww hw 72 rfl)) (mvT hZ (ww hw 73 rfl)) (mvT hZ (ww hw 74 rfl)) (mvT hZ (ww hw 75 rfl)) (by decide) (backOf (W := 1) (rmVo l Z a0 hw [] p5 cA cl T7.heap n0 (Nat.le_trans Z0 KC.1) O0 S_high S_cache BX) hZ (ww hw 75 rfl) (ww hw 74 rfl) (by decide) (by decide)) (g := (mkF m 128 #[vi p1, vi p2, vi p3, vi p4, vi p5, vi p6, vi (0 : Int32), vi c1, vr b3, vr b6_b, vr b6_b, vr b3, un] [(.int p5), (.ref b6_b)])) rfl (by rw [hml]; rfl) (argsL := [(.int p5)]) (rest := [(.ref b6_b)]) (lenOf pd_15 rfl) rfl (by show 2 * 0 + _ ≤ _; exact Nat.le_of_eq rfl) (hb hby at_128) (fun _ _ => ⟨rfl, rfl, (by decide : 5 + 1 ≤ _), (by decide : 13 + 1 ≤ _)⟩)
      dsimp only [Pt.U, Pt.locs, Pt.cells, Pt.slots] at X10 l10 y10 z10 st10 hQ10
      subst l10 y10 z10
      obtain ⟨b_10, rfl, N10q, K10, E_b_10, F_value_b_10⟩ := hQ10
      have N10 := Fr.app N7 N10q
      replace A3 := A3.keep K10
      replace F_store_a1_4 := F_store_a1_4.keep K10 nin0
      replace F_size_a1_4 := F_size_a1_4.keep K10 nin0
      replace E_b_4 := E_b_4.keep K10
      replace F_items_b_4 := F_items_b_4.keep K10 nin0
      replace F_filled_b_4 := F_filled_b_4.keep K10 nin0
      replace E_c_4 := E_c_4.keep K10
      replace V_c_4 := V_c_4.keep K10 nin0
      replace E_b_6 := E_b_6.keep K10
      replace F_store_b_6 := F_store_b_6.keep K10 nin0
      replace F_size_b_6 := F_size_b_6.keep K10 nin0
      replace O0 := O0.keep K10 all0
      replace KC := KC.trans K10 all0
      obtain ⟨cq11, kq11, q11a, q11b, q11c⟩ := isOf hZ rfl E_b_6
      obtain ⟨_, _, ⟨T11, L11, k11, n11⟩, -, X11, ⟨Lc11, hQ11, l11, y11, z11⟩, st11⟩ := X10.virtualBack hx (y := y_12) (z := y_12) hown (mvT hZ (ww hw 79 rfl)) (mvT hZ (ww hw 80 rfl)) (notFace_of_selects (args := #[]) (mvT hZ (ww hw 82 rfl))) (mvT hZ (ww hw 82 rfl)) (mvT hZ (ww hw 81 rfl)) (by decide) (backOf (W := 0) (rmAddA l Z a0 hw [] b6_b b_10 b4_b (0 : Int32) (0 : Int32) b4_c k_4 (4 : Int32) [.null, .null, .null, .null] (1 : Int32) [(.ref b_10), .null, .null, .null] T10.heap n0 (Nat.le_trans Z0 KC.1) O0 F_store_b_6 F_size_b_6 E_b_6 E_b_4 F_filled_b_4 F_items_b_4 E_c_4 V_c_4 E_b_10 g_b6_b g_b4_b g_b4_c hq4_0 (by decide) (by decide) (by decide) (by decide) (by decide) rfl (Nat.le_of_ble_eq_true rfl)) hZ (ww hw 83 rfl) (ww hw 2 rfl) (by decide) (by decide)) q11a q11c (g := (mkF m 131 #[vi p1, vi p2, vi p3, vi p4, vi p5, vi p6, vi (0 : Int32), vi c1, vr b3, vr b6_b, vr b6_b, vr b3, un] [(.ref b_10), (.ref b6_b)])) rfl (by rw [hml]; rfl) (Steps.refl _) (argsL := [(.ref b_10)]) (rest := []) (lenOf pd_16 rfl) rfl (by show 2 * 0 + _ ≤ _; exact Nat.le_of_eq rfl) (hb hby at_131) (fun _ _ => ⟨rfl, rfl, (by decide : 6 + 0 ≤ _), (by decide : 14 + 0 ≤ _)⟩)
      dsimp only [Pt.U, Pt.locs, Pt.cells, Pt.slots] at X11 l11 y11 z11 st11 hQ11
      subst l11 y11 z11
      obtain ⟨rfl, N11q, K11, F_store_a1_11, F_size_a1_11, F_filled_sto_11, F_items_sto_11, V_arr_11⟩ := hQ11
      have N11 := Fr.app N10 N11q
      have nec_b_10_b4_c : b_10 ≠ b4_c := Exa.ne E_b_10 E_c_4 (by decide)
      have nec_b_10_b4_b : b_10 ≠ b4_b := Exa.ne E_b_10 E_b_4 (by decide)
      have nec_b_10_b6_b : b_10 ≠ b6_b := Exa.ne E_b_10 E_b_6 (by decide)
      replace A3 := A3.keep K11
      replace F_store_a1_4 := F_store_a1_4.keep K11 (ninS ne_b3_b6_b (ninS ne_b3_b4_b (ninS ne_b3_b4_c nin0)))
      replace F_size_a1_4 := F_size_a1_4.keep K11 (ninS ne_b3_b6_b (ninS ne_b3_b4_b (ninS ne_b3_b4_c nin0)))
      replace E_b_4 := E_b_4.keep K11
      replace E_c_4 := E_c_4.keep K11
      replace E_b_6 := E_b_6.keep K11
      replace E_b_10 := E_b_10.keep K11
      replace F_value_b_10 := F_value_b_10.keep K11 (ninS nec_b_10_b6_b (ninS nec_b_10_b4_b (ninS nec_b_10_b4_c nin0)))
      replace O0 := O0.keep K11 (allS g_b6_b (allS g_b4_b (allS g_b4_c all0)))
      replace KC := KC.trans K11 (allS (Or.inr sz_b6_b) (allS (Or.inr sz_b4_b) (allS (Or.inr sz_b4_c) all0)))
      obtain ⟨cq12, kq12, q12a, q12b, q12c⟩ := isOf hZ rfl A3
      obtain ⟨_, _, ⟨T12, L12, k12, n12⟩, -, X12, ⟨Lc12, hQ12, l12, y12, z12⟩, st12⟩ := X11.virtualBack hx (y := y_13) (z := y_13) hown (mvT hZ (ww hw 29 rfl)) (mvT hZ (ww hw 30 rfl)) (notFace_of_selects (args := #[]) (mvT hZ (ww hw 32 rfl))) (mvT hZ (ww hw 32 rfl)) (mvT hZ (ww hw 31 rfl)) (by decide) (backOf (W := 0) (rmCp l Z a0 hw [] b3 b4_b (0 : Int32) T11.heap n0 (Nat.le_trans Z0 KC.1) O0 F_store_a1_4 F_size_a1_4) hZ (ww hw 33 rfl) (ww hw 2 rfl) (by decide) (by decide)) q12a q12c (g := (mkF m 136 #[vi p1, vi p2, vi p3, vi p4, vi p5, vi p6, vi (0 : Int32), vi c1, vr b3, vr b6_b, vr b6_b, vr b3, un] [(.ref b3)])) rfl (by rw [hml]; rfl) (Steps.refl _) (argsL := []) (rest := []) (lenOf pd_13 rfl) rfl (by show 2 * 0 + _ ≤ _; exact Nat.le_of_eq rfl) (hb hby at_136) (fun _ _ => ⟨rfl, rfl, (by decide : 6 + 1 ≤ _), (by decide : 14 + 2 ≤ _)⟩)
      dsimp only [Pt.U, Pt.locs, Pt.cells, Pt.slots] at X12 l12 y12 z12 st12 hQ12
      subst l12 y12 z12
      obtain ⟨b12_b, rfl, N12q, K12, sz_b12_b, E_b_12, F_store_b_12, F_size_b_12⟩ := hQ12
      have N12 := Fr.app N11 N12q
      have ne_b3_b12_b : b3 ≠ b12_b := Nat.ne_of_lt (Nat.lt_of_lt_of_le A3.lt sz_b12_b)
      have ne_b4_b_b12_b : b4_b ≠ b12_b := Nat.ne_of_lt (Nat.lt_of_lt_of_le E_b_4.lt sz_b12_b)
      have ne_b4_c_b12_b : b4_c ≠ b12_b := Nat.ne_of_lt (Nat.lt_of_lt_of_le E_c_4.lt sz_b12_b)
      have ne_b6_b_b12_b : b6_b ≠ b12_b := Nat.ne_of_lt (Nat.lt_of_lt_of_le E_b_6.lt sz_b12_b)
      have ne_b_10_b12_b : b_10 ≠ b12_b := Nat.ne_of_lt (Nat.lt_of_lt_of_le E_b_10.lt sz_b12_b)
      have g_b12_b : n0 ≤ b12_b := Nat.le_trans (Nat.le_trans Z0 KC.1) sz_b12_b
      replace sz_b12_b : h0.size ≤ b12_b := Nat.le_trans KC.1 sz_b12_b
      replace A3 := A3.keep K12
      replace F_store_a1_4 := F_store_a1_4.keep K12 nin0
      replace F_size_a1_4 := F_size_a1_4.keep K12 nin0
      replace E_b_4 := E_b_4.keep K12
      replace E_c_4 := E_c_4.keep K12
      replace E_b_6 := E_b_6.keep K12
      replace E_b_10 := E_b_10.keep K12
      replace F_value_b_10 := F_value_b_10.keep K12 nin0
      replace F_store_a1_11 := F_store_a1_11.keep K12 nin0
      replace F_size_a1_11 := F_size_a1_11.keep K12 nin0
      replace F_filled_sto_11 := F_filled_sto_11.keep K12 nin0
      replace F_items_sto_11 := F_items_sto_11.keep K12 nin0
      replace V_arr_11 := V_arr_11.keep K12 nin0
      replace O0 := O0.keep K12 all0
      replace KC := KC.trans K12 all0
      obtain ⟨_, _, ⟨T13, L13, k13, n13⟩, -, X13, ⟨Lc13, hQ13, l13, y13, z13⟩, st13⟩ := Jvm.LawKit.callS X12 hx (y := y_5) hown (mvT hZ (ww hw 72 rfl)) (mvT hZ (ww hw 73 rfl)) (mvT hZ (ww hw 74 rfl)) (mvT hZ (ww hw 75 rfl)) (by decide) (backOf (W := 1) (rmVo l Z a0 hw [] p6 cA cl T12.heap n0 (Nat.le_trans Z0 KC.1) O0 S_high S_cache BX) hZ (ww hw 75 rfl) (ww hw 74 rfl) (by decide) (by decide)) (g := (mkF m 145 #[vi p1, vi p2, vi p3, vi p4, vi p5, vi p6, vi (0 : Int32), vi c1, vr b3, vr b6_b, vr b6_b, vr b3, vr b12_b] [(.int p6), (.ref b12_b)])) rfl (by rw [hml]; rfl) (argsL := [(.int p6)]) (rest := [(.ref b12_b)]) (lenOf pd_15 rfl) rfl (by show 2 * 0 + _ ≤ _; exact Nat.le_of_eq rfl) (hb hby at_145) (fun _ _ => ⟨rfl, rfl, (by decide : 7 + 1 ≤ _), (by decide : 16 + 1 ≤ _)⟩)
      dsimp only [Pt.U, Pt.locs, Pt.cells, Pt.slots] at X13 l13 y13 z13 st13 hQ13
      subst l13 y13 z13
      obtain ⟨b_13, rfl, N13q, K13, E_b_13, F_value_b_13⟩ := hQ13
      have N13 := Fr.app N12 N13q
      replace A3 := A3.keep K13
      replace F_store_a1_4 := F_store_a1_4.keep K13 nin0
      replace F_size_a1_4 := F_size_a1_4.keep K13 nin0
      replace E_b_4 := E_b_4.keep K13
      replace E_c_4 := E_c_4.keep K13
      replace E_b_6 := E_b_6.keep K13
      replace E_b_10 := E_b_10.keep K13
      replace F_value_b_10 := F_value_b_10.keep K13 nin0
      replace F_store_a1_11 := F_store_a1_11.keep K13 nin0
      replace F_size_a1_11 := F_size_a1_11.keep K13 nin0
      replace F_filled_sto_11 := F_filled_sto_11.keep K13 nin0
      replace F_items_sto_11 := F_items_sto_11.keep K13 nin0
      replace V_arr_11 := V_arr_11.keep K13 nin0
      replace E_b_12 := E_b_12.keep K13
      replace F_store_b_12 := F_store_b_12.keep K13 nin0
      replace F_size_b_12 := F_size_b_12.keep K13 nin0
      replace O0 := O0.keep K13 all0
      replace KC := KC.trans K13 all0
      obtain ⟨cq14, kq14, q14a, q14b, q14c⟩ := isOf hZ rfl E_b_12
      obtain ⟨_, _, ⟨T14, L14, k14, n14⟩, -, X14, ⟨Lc14, hQ14, l14, y14, z14⟩, st14⟩ := X13.virtualBack hx (y := y_12) (z := y_12) hown (mvT hZ (ww hw 79 rfl)) (mvT hZ (ww hw 80 rfl)) (notFace_of_selects (args := #[]) (mvT hZ (ww hw 82 rfl))) (mvT hZ (ww hw 82 rfl)) (mvT hZ (ww hw 81 rfl)) (by decide) (backOf (W := 0) (rmAddB l Z a0 hw [] b12_b b_13 b4_b (0 : Int32) (1 : Int32) b4_c k_4 (4 : Int32) [(.ref b_10), .null, .null, .null] mr (4 : Int32) (4 : Int32) [(.ref b_10), .null, .null, .null, .null, .null, .null, .null, .null, .null] (1 : Int32) [(.ref b_13), .null, .null, .null, .null, .null, .null, .null, .null, .null] T13.heap n0 (Nat.le_trans Z0 KC.1) O0 F_store_b_12 F_size_b_12 E_b_12 E_b_4 F_filled_sto_11 F_items_sto_11 E_c_4 V_arr_11 E_b_13 g_b12_b MIR (Or.inl (by decide)) (by decide) (by decide) (by decide) (by decide) (by decide) (by decide) (by decide) rfl (own_els_cons (Or.inr ⟨_, rfl, E_b_10⟩) (own_els_cons (Or.inl rfl) (own_els_cons (Or.inl rfl) (own_els_cons (Or.inl rfl) own_els_nil)))) (by decide) (by decide) (by decide) rfl (Nat.le_of_ble_eq_true rfl)) hZ (ww hw 83 rfl) (ww hw 2 rfl) (by decide) (by decide)) q14a q14c (g := (mkF m 148 #[vi p1, vi p2, vi p3, vi p4, vi p5, vi p6, vi (0 : Int32), vi c1, vr b3, vr b6_b, vr b6_b, vr b3, vr b12_b] [(.ref b_13), (.ref b12_b)])) rfl (by rw [hml]; rfl) (Steps.refl _) (argsL := [(.ref b_13)]) (rest := []) (lenOf pd_16 rfl) rfl (by show 2 * 0 + _ ≤ _; exact Nat.le_of_eq rfl) (hb hby at_148) (fun _ _ => ⟨rfl, rfl, (by decide : 8 + 2 ≤ _), (by decide : 17 + 12 ≤ _)⟩)
      dsimp only [Pt.U, Pt.locs, Pt.cells, Pt.slots] at X14 l14 y14 z14 st14 hQ14
      subst l14 y14 z14
      obtain ⟨b14_b, b14_c, k2_14, rfl, N14q, K14, sz_b14_b, sz_b14_c, F_store_a1_14, F_size_a1_14, E_b_14, F_filled_b_14, F_items_b_14, E_c_14, V_c_14, hq14_0⟩ := hQ14
      have N14 := Fr.app N13 N14q
      have ne_b3_b14_b : b3 ≠ b14_b := Nat.ne_of_lt (Nat.lt_of_lt_of_le A3.lt sz_b14_b)
      have ne_b4_b_b14_b : b4_b ≠ b14_b := Nat.ne_of_lt (Nat.lt_of_lt_of_le E_b_4.lt sz_b14_b)
      have ne_b4_c_b14_b : b4_c ≠ b14_b := Nat.ne_of_lt (Nat.lt_of_lt_of_le E_c_4.lt sz_b14_b)
      have ne_b6_b_b14_b : b6_b ≠ b14_b := Nat.ne_of_lt (Nat.lt_of_lt_of_le E_b_6.lt sz_b14_b)
      have ne_b_10_b14_b : b_10 ≠ b14_b := Nat.ne_of_lt (Nat.lt_of_lt_of_le E_b_10.lt sz_b14_b)
      have ne_b12_b_b14_b : b12_b ≠ b14_b := Nat.ne_of_lt (Nat.lt_of_lt_of_le E_b_12.lt sz_b14_b)
      have ne_b_13_b14_b : b_13 ≠ b14_b := Nat.ne_of_lt (Nat.lt_of_lt_of_le E_b_13.lt sz_b14_b)
      have g_b14_b : n0 ≤ b14_b := Nat.le_trans (Nat.le_trans Z0 KC.1) sz_b14_b
      replace sz_b14_b : h0.size ≤ b14_b := Nat.le_trans KC.1 sz_b14_b
      have ne_b3_b14_c : b3 ≠ b14_c := Nat.ne_of_lt (Nat.lt_of_lt_of_le A3.lt sz_b14_c)
      have ne_b4_b_b14_c : b4_b ≠ b14_c := Nat.ne_of_lt (Nat.lt_of_lt_of_le E_b_4.lt sz_b14_c)
      have ne_b4_c_b14_c : b4_c ≠ b14_c := Nat.ne_of_lt (Nat.lt_of_lt_of_le E_c_4.lt sz_b14_c)
      have ne_b6_b_b14_c : b6_b ≠ b14_c := Nat.ne_of_lt (Nat.lt_of_lt_of_le E_b_6.lt sz_b14_c)
      have ne_b_10_b14_c : b_10 ≠ b14_c := Nat.ne_of_lt (Nat.lt_of_lt_of_le E_b_10.lt sz_b14_c)
      have ne_b12_b_b14_c : b12_b ≠ b14_c := Nat.ne_of_lt (Nat.lt_of_lt_of_le E_b_12.lt sz_b14_c)
      have ne_b_13_b14_c : b_13 ≠ b14_c := Nat.ne_of_lt (Nat.lt_of_lt_of_le E_b_13.lt sz_b14_c)
      have g_b14_c : n0 ≤ b14_c := Nat.le_trans (Nat.le_trans Z0 KC.1) sz_b14_c
      replace sz_b14_c : h0.size ≤ b14_c := Nat.le_trans KC.1 sz_b14_c
      have nec_b_13_b12_b : b_13 ≠ b12_b := Exa.ne E_b_13 E_b_12 (by decide)
      replace A3 := A3.keep K14
      replace F_store_a1_4 := F_store_a1_4.keep K14 (ninS ne_b3_b12_b nin0)
      replace F_size_a1_4 := F_size_a1_4.keep K14 (ninS ne_b3_b12_b nin0)
      replace E_b_4 := E_b_4.keep K14
      replace E_c_4 := E_c_4.keep K14
      replace E_b_6 := E_b_6.keep K14
      replace E_b_10 := E_b_10.keep K14
      replace F_value_b_10 := F_value_b_10.keep K14 (ninS ne_b_10_b12_b nin0)
      replace F_store_a1_11 := F_store_a1_11.keep K14 (ninS ne_b6_b_b12_b nin0)
      replace F_size_a1_11 := F_size_a1_11.keep K14 (ninS ne_b6_b_b12_b nin0)
      replace F_filled_sto_11 := F_filled_sto_11.keep K14 (ninS ne_b4_b_b12_b nin0)
      replace F_items_sto_11 := F_items_sto_11.keep K14 (ninS ne_b4_b_b12_b nin0)
      replace V_arr_11 := V_arr_11.keep K14 (ninS ne_b4_c_b12_b nin0)
      replace E_b_12 := E_b_12.keep K14
      replace E_b_13 := E_b_13.keep K14
      replace F_value_b_13 := F_value_b_13.keep K14 (ninS nec_b_13_b12_b nin0)
      replace O0 := O0.keep K14 (allS g_b12_b all0)
      replace KC := KC.trans K14 (allS (Or.inr sz_b12_b) all0)
      obtain ⟨_, _, ⟨T15, L15, k15, n15⟩, -, X15, ⟨Lc15, hQ15, l15, y15, z15⟩, st15⟩ := Jvm.LawKit.callS X14 hx (y := y_20) hown (mvT hZ (ww hw 35 rfl)) (mvT hZ (ww hw 36 rfl)) (mvT hZ (ww hw 37 rfl)) (mvT hZ (ww hw 38 rfl)) (by decide) (backOf (W := 0) (rmH01 l Z a0 hw [] b6_b p2 p3 p4 p5 b4_b b4_c k_4 (4 : Int32) [(.ref b_10), .null, .null, .null] b_10 T14.heap n0 (Nat.le_trans Z0 KC.1) O0 F_size_a1_11 F_store_a1_11 E_b_6 F_items_sto_11 E_c_4 V_arr_11 E_b_10 F_value_b_10 rfl (by decide)) hZ (ww hw 38 rfl) (ww hw 37 rfl) (by decide) (by decide)) (g := (mkF m 161 #[vi p1, vi p2, vi p3, vi p4, vi p5, vi p6, vi (0 : Int32), vi c1, vr b3, vr b6_b, vr b6_b, vr b3, vr b12_b] [(.int (1 : Int32)), (.int p5), (.int p4), (.int p3), (.int p2), (.int (0 : Int32)), (.ref b6_b)])) rfl (by rw [hml]; rfl) (argsL := [(.ref b6_b), (.int (0 : Int32)), (.int p2), (.int p3), (.int p4), (.int p5), (.int (1 : Int32))]) (rest := []) (lenOf pd_14 rfl) rfl (by show 2 * 0 + _ ≤ _; exact Nat.le_of_eq rfl) (hb hby at_161) (fun _ _ => ⟨rfl, rfl, (by decide : 10 + 1 ≤ _), (by decide : 29 + 3 ≤ _)⟩)
      dsimp only [Pt.U, Pt.locs, Pt.cells, Pt.slots] at X15 l15 y15 z15 st15 hQ15
      subst l15 y15 z15
      obtain ⟨rfl, N15q, K15⟩ := hQ15
      have N15 := Fr.app N14 N15q
      replace A3 := A3.keep K15
      replace F_store_a1_4 := F_store_a1_4.keep K15 nin0
      replace F_size_a1_4 := F_size_a1_4.keep K15 nin0
      replace E_b_4 := E_b_4.keep K15
      replace E_c_4 := E_c_4.keep K15
      replace E_b_6 := E_b_6.keep K15
      replace E_b_10 := E_b_10.keep K15
      replace F_value_b_10 := F_value_b_10.keep K15 nin0
      replace F_store_a1_11 := F_store_a1_11.keep K15 nin0
      replace F_size_a1_11 := F_size_a1_11.keep K15 nin0
      replace F_filled_sto_11 := F_filled_sto_11.keep K15 nin0
      replace F_items_sto_11 := F_items_sto_11.keep K15 nin0
      replace V_arr_11 := V_arr_11.keep K15 nin0
      replace E_b_12 := E_b_12.keep K15
      replace E_b_13 := E_b_13.keep K15
      replace F_value_b_13 := F_value_b_13.keep K15 nin0
      replace F_store_a1_14 := F_store_a1_14.keep K15 nin0
      replace F_size_a1_14 := F_size_a1_14.keep K15 nin0
      replace E_b_14 := E_b_14.keep K15
      replace F_filled_b_14 := F_filled_b_14.keep K15 nin0
      replace F_items_b_14 := F_items_b_14.keep K15 nin0
      replace E_c_14 := E_c_14.keep K15
      replace V_c_14 := V_c_14.keep K15 nin0
      replace O0 := O0.keep K15 all0
      replace KC := KC.trans K15 all0
      obtain ⟨_, _, ⟨T16, L16, k16, n16⟩, -, X16, ⟨Lc16, hQ16, l16, y16, z16⟩, st16⟩ := Jvm.LawKit.callS X15 hx (y := y_20) hown (mvT hZ (ww hw 35 rfl)) (mvT hZ (ww hw 36 rfl)) (mvT hZ (ww hw 37 rfl)) (mvT hZ (ww hw 38 rfl)) (by decide) (backOf (W := 0) (rmH00 l Z a0 hw [] b3 p2 p3 p4 (0 : Int32) b4_b b4_c k_4 (4 : Int32) [(.ref b_10), .null, .null, .null] T15.heap n0 (Nat.le_trans Z0 KC.1) O0 F_size_a1_4 F_store_a1_4 A3 F_items_sto_11 E_c_4 V_arr_11) hZ (ww hw 38 rfl) (ww hw 37 rfl) (by decide) (by decide)) (g := (mkF m 176 #[vi p1, vi p2, vi p3, vi p4, vi p5, vi p6, vi (0 : Int32), vi c1, vr b3, vr b6_b, vr b6_b, vr b3, vr b12_b] [(.int (0 : Int32)), (.int (0 : Int32)), (.int p4), (.int p3), (.int p2), (.int (0 : Int32)), (.ref b3)])) rfl (by rw [hml]; rfl) (argsL := [(.ref b3), (.int (0 : Int32)), (.int p2), (.int p3), (.int p4), (.int (0 : Int32)), (.int (0 : Int32))]) (rest := []) (lenOf pd_14 rfl) rfl (by show 2 * 0 + _ ≤ _; exact Nat.le_of_eq rfl) (hb hby at_176) (fun _ _ => ⟨rfl, rfl, (by decide : 11 + 1 ≤ _), (by decide : 32 + 3 ≤ _)⟩)
      dsimp only [Pt.U, Pt.locs, Pt.cells, Pt.slots] at X16 l16 y16 z16 st16 hQ16
      subst l16 y16 z16
      obtain ⟨rfl, N16q, K16⟩ := hQ16
      have N16 := Fr.app N15 N16q
      replace A3 := A3.keep K16
      replace F_store_a1_4 := F_store_a1_4.keep K16 nin0
      replace F_size_a1_4 := F_size_a1_4.keep K16 nin0
      replace E_b_4 := E_b_4.keep K16
      replace E_c_4 := E_c_4.keep K16
      replace E_b_6 := E_b_6.keep K16
      replace E_b_10 := E_b_10.keep K16
      replace F_value_b_10 := F_value_b_10.keep K16 nin0
      replace F_store_a1_11 := F_store_a1_11.keep K16 nin0
      replace F_size_a1_11 := F_size_a1_11.keep K16 nin0
      replace F_filled_sto_11 := F_filled_sto_11.keep K16 nin0
      replace F_items_sto_11 := F_items_sto_11.keep K16 nin0
      replace V_arr_11 := V_arr_11.keep K16 nin0
      replace E_b_12 := E_b_12.keep K16
      replace E_b_13 := E_b_13.keep K16
      replace F_value_b_13 := F_value_b_13.keep K16 nin0
      replace F_store_a1_14 := F_store_a1_14.keep K16 nin0
      replace F_size_a1_14 := F_size_a1_14.keep K16 nin0
      replace E_b_14 := E_b_14.keep K16
      replace F_filled_b_14 := F_filled_b_14.keep K16 nin0
      replace F_items_b_14 := F_items_b_14.keep K16 nin0
      replace E_c_14 := E_c_14.keep K16
      replace V_c_14 := V_c_14.keep K16 nin0
      replace O0 := O0.keep K16 all0
      replace KC := KC.trans K16 all0
      obtain ⟨_, _, ⟨T17, L17, k17, n17⟩, -, X17, ⟨Lc17, hQ17, l17, y17, z17⟩, st17⟩ := Jvm.LawKit.callS X16 hx (y := y_20) hown (mvT hZ (ww hw 35 rfl)) (mvT hZ (ww hw 36 rfl)) (mvT hZ (ww hw 37 rfl)) (mvT hZ (ww hw 38 rfl)) (by decide) (backOf (W := 0) (rmH01 l Z a0 hw [] b12_b p2 p3 p4 p6 b14_b b14_c k2_14 (4 : Int32) [(.ref b_13), .null, .null, .null, .null, .null, .null, .null, .null, .null] b_13 T16.heap n0 (Nat.le_trans Z0 KC.1) O0 F_size_a1_14 F_store_a1_14 E_b_12 F_items_b_14 E_c_14 V_c_14 E_b_13 F_value_b_13 rfl (by decide)) hZ (ww hw 38 rfl) (ww hw 37 rfl) (by decide) (by decide)) (g := (mkF m 192 #[vi p1, vi p2, vi p3, vi p4, vi p5, vi p6, vi (0 : Int32), vi c1, vr b3, vr b6_b, vr b6_b, vr b3, vr b12_b] [(.int (1 : Int32)), (.int p6), (.int p4), (.int p3), (.int p2), (.int (0 : Int32)), (.ref b12_b)])) rfl (by rw [hml]; rfl) (argsL := [(.ref b12_b), (.int (0 : Int32)), (.int p2), (.int p3), (.int p4), (.int p6), (.int (1 : Int32))]) (rest := []) (lenOf pd_14 rfl) rfl (by show 2 * 0 + _ ≤ _; exact Nat.le_of_eq rfl) (hb hby at_192) (fun _ _ => ⟨rfl, rfl, (by decide : 12 + 1 ≤ _), (by decide : 35 + 3 ≤ _)⟩)
      dsimp only [Pt.U, Pt.locs, Pt.cells, Pt.slots] at X17 l17 y17 z17 st17 hQ17
      subst l17 y17 z17
      obtain ⟨rfl, N17q, K17⟩ := hQ17
      have N17 := Fr.app N16 N17q
      replace A3 := A3.keep K17
      replace F_store_a1_4 := F_store_a1_4.keep K17 nin0
      replace F_size_a1_4 := F_size_a1_4.keep K17 nin0
      replace E_b_4 := E_b_4.keep K17
      replace E_c_4 := E_c_4.keep K17
      replace E_b_6 := E_b_6.keep K17
      replace E_b_10 := E_b_10.keep K17
      replace F_value_b_10 := F_value_b_10.keep K17 nin0
      replace F_store_a1_11 := F_store_a1_11.keep K17 nin0
      replace F_size_a1_11 := F_size_a1_11.keep K17 nin0
      replace F_filled_sto_11 := F_filled_sto_11.keep K17 nin0
      replace F_items_sto_11 := F_items_sto_11.keep K17 nin0
      replace V_arr_11 := V_arr_11.keep K17 nin0
      replace E_b_12 := E_b_12.keep K17
      replace E_b_13 := E_b_13.keep K17
      replace F_value_b_13 := F_value_b_13.keep K17 nin0
      replace F_store_a1_14 := F_store_a1_14.keep K17 nin0
      replace F_size_a1_14 := F_size_a1_14.keep K17 nin0
      replace E_b_14 := E_b_14.keep K17
      replace F_filled_b_14 := F_filled_b_14.keep K17 nin0
      replace F_items_b_14 := F_items_b_14.keep K17 nin0
      replace E_c_14 := E_c_14.keep K17
      replace V_c_14 := V_c_14.keep K17 nin0
      replace O0 := O0.keep K17 all0
      replace KC := KC.trans K17 all0
      obtain ⟨fs, hr, hrun, hended, hW, hsame⟩ := X17.leave (v := some (.int (1 : Int32))) (fun h => by rw [Bd.returns] at h; cases h)
      refine ⟨_, _, pre8 _ ?_, hrun, hended, _, _, rfl, ?_, ⟨_, rfl⟩, hW, hsame.mono (by decide) (by decide)⟩
      · show SS p e below m T7 98 #[vi p1, vi p2, vi p3, vi p4, vi p5, vi p6, vi (0 : Int32), vi c1, vr b3, vr b6_b, un, un, un] [(.int c1)] _
        refine XS.ifYes X7.here hx rfl (pc0 := 98) (pc' := 106) rfl (hb hby at_98) rfl ((if0 _ _).trans (teq hc98_9).1) (by decide) (by decide) ?_
        show SS p e below m T7 106 #[vi p1, vi p2, vi p3, vi p4, vi p5, vi p6, vi (0 : Int32), vi c1, vr b3, vr b6_b, un, un, un] [] _
        refine XS.aload X7.here hx rfl (hb hby at_106) rfl rfl ?_
        show SS p e below m T7 108 #[vi p1, vi p2, vi p3, vi p4, vi p5, vi p6, vi (0 : Int32), vi c1, vr b3, vr b6_b, un, un, un] [(.ref b6_b)] _
        refine XS.astore X7.here hx rfl (hb hby at_108) rfl rfl (l' := #[vi p1, vi p2, vi p3, vi p4, vi p5, vi p6, vi (0 : Int32), vi c1, vr b3, vr b6_b, vr b6_b, un, un]) rfl ?_
        show SS p e below m T7 110 #[vi p1, vi p2, vi p3, vi p4, vi p5, vi p6, vi (0 : Int32), vi c1, vr b3, vr b6_b, vr b6_b, un, un] [] _
        refine XS.iload X7.here hx rfl (hb hby at_110) rfl ?_
        show SS p e below m T7 112 #[vi p1, vi p2, vi p3, vi p4, vi p5, vi p6, vi (0 : Int32), vi c1, vr b3, vr b6_b, vr b6_b, un, un] [(.int c1)] _
        refine XS.ifYes X7.here hx rfl (pc0 := 112) (pc' := 120) rfl (hb hby at_112) rfl ((if0 _ _).trans (teq hc98_9).1) (by decide) (by decide) ?_
        show SS p e below m T7 120 #[vi p1, vi p2, vi p3, vi p4, vi p5, vi p6, vi (0 : Int32), vi c1, vr b3, vr b6_b, vr b6_b, un, un] [] _
        refine XS.aload X7.here hx rfl (hb hby at_120) rfl rfl ?_
        show SS p e below m T7 122 #[vi p1, vi p2, vi p3, vi p4, vi p5, vi p6, vi (0 : Int32), vi c1, vr b3, vr b6_b, vr b6_b, un, un] [(.ref b3)] _
        refine XS.astore X7.here hx rfl (hb hby at_122) rfl rfl (l' := #[vi p1, vi p2, vi p3, vi p4, vi p5, vi p6, vi (0 : Int32), vi c1, vr b3, vr b6_b, vr b6_b, vr b3, un]) rfl ?_
        show SS p e below m T7 124 #[vi p1, vi p2, vi p3, vi p4, vi p5, vi p6, vi (0 : Int32), vi c1, vr b3, vr b6_b, vr b6_b, vr b3, un] [] _
        refine XS.aload X7.here hx rfl (hb hby at_124) rfl rfl ?_
        show SS p e below m T7 126 #[vi p1, vi p2, vi p3, vi p4, vi p5, vi p6, vi (0 : Int32), vi c1, vr b3, vr b6_b, vr b6_b, vr b3, un] [(.ref b6_b)] _
        refine XS.iload X7.here hx rfl (hb hby at_126) rfl ?_
        show SS p e below m T7 128 #[vi p1, vi p2, vi p3, vi p4, vi p5, vi p6, vi (0 : Int32), vi c1, vr b3, vr b6_b, vr b6_b, vr b3, un] [(.int p5), (.ref b6_b)] _
        refine st10 _ ?_
        show SS p e below m T10 131 #[vi p1, vi p2, vi p3, vi p4, vi p5, vi p6, vi (0 : Int32), vi c1, vr b3, vr b6_b, vr b6_b, vr b3, un] [(.ref b_10), (.ref b6_b)] _
        refine st11.trans ?_
        show SS p e below m T11 134 #[vi p1, vi p2, vi p3, vi p4, vi p5, vi p6, vi (0 : Int32), vi c1, vr b3, vr b6_b, vr b6_b, vr b3, un] [] _
        refine XS.aload X11.here hx rfl (hb hby at_134) rfl rfl ?_
        show SS p e below m T11 136 #[vi p1, vi p2, vi p3, vi p4, vi p5, vi p6, vi (0 : Int32), vi c1, vr b3, vr b6_b, vr b6_b, vr b3, un] [(.ref b3)] _
        refine st12.trans ?_
        show SS p e below m T12 139 #[vi p1, vi p2, vi p3, vi p4, vi p5, vi p6, vi (0 : Int32), vi c1, vr b3, vr b6_b, vr b6_b, vr b3, un] [(.ref b12_b)] _
        refine XS.astore X12.here hx rfl (hb hby at_139) rfl rfl (l' := #[vi p1, vi p2, vi p3, vi p4, vi p5, vi p6, vi (0 : Int32), vi c1, vr b3, vr b6_b, vr b6_b, vr b3, vr b12_b]) rfl ?_
        show SS p e below m T12 141 #[vi p1, vi p2, vi p3, vi p4, vi p5, vi p6, vi (0 : Int32), vi c1, vr b3, vr b6_b, vr b6_b, vr b3, vr b12_b] [] _
        refine XS.aload X12.here hx rfl (hb hby at_141) rfl rfl ?_
        show SS p e below m T12 143 #[vi p1, vi p2, vi p3, vi p4, vi p5, vi p6, vi (0 : Int32), vi c1, vr b3, vr b6_b, vr b6_b, vr b3, vr b12_b] [(.ref b12_b)] _
        refine XS.iload X12.here hx rfl (hb hby at_143) rfl ?_
        show SS p e below m T12 145 #[vi p1, vi p2, vi p3, vi p4, vi p5, vi p6, vi (0 : Int32), vi c1, vr b3, vr b6_b, vr b6_b, vr b3, vr b12_b] [(.int p6), (.ref b12_b)] _
        refine st13 _ ?_
        show SS p e below m T13 148 #[vi p1, vi p2, vi p3, vi p4, vi p5, vi p6, vi (0 : Int32), vi c1, vr b3, vr b6_b, vr b6_b, vr b3, vr b12_b] [(.ref b_13), (.ref b12_b)] _
        refine st14.trans ?_
        show SS p e below m T14 151 #[vi p1, vi p2, vi p3, vi p4, vi p5, vi p6, vi (0 : Int32), vi c1, vr b3, vr b6_b, vr b6_b, vr b3, vr b12_b] [] _
        refine XS.aload X14.here hx rfl (hb hby at_151) rfl rfl ?_
        show SS p e below m T14 153 #[vi p1, vi p2, vi p3, vi p4, vi p5, vi p6, vi (0 : Int32), vi c1, vr b3, vr b6_b, vr b6_b, vr b3, vr b12_b] [(.ref b6_b)] _
        refine XS.iload X14.here hx rfl (hb hby at_153) rfl ?_
        show SS p e below m T14 155 #[vi p1, vi p2, vi p3, vi p4, vi p5, vi p6, vi (0 : Int32), vi c1, vr b3, vr b6_b, vr b6_b, vr b3, vr b12_b] [(.int (0 : Int32)), (.ref b6_b)] _
        refine XS.iloadN X14.here hx rfl (hb hby at_155) rfl ?_
        show SS p e below m T14 156 #[vi p1, vi p2, vi p3, vi p4, vi p5, vi p6, vi (0 : Int32), vi c1, vr b3, vr b6_b, vr b6_b, vr b3, vr b12_b] [(.int p2), (.int (0 : Int32)), (.ref b6_b)] _
        refine XS.iloadN X14.here hx rfl (hb hby at_156) rfl ?_
        show SS p e below m T14 157 #[vi p1, vi p2, vi p3, vi p4, vi p5, vi p6, vi (0 : Int32), vi c1, vr b3, vr b6_b, vr b6_b, vr b3, vr b12_b] [(.int p3), (.int p2), (.int (0 : Int32)), (.ref b6_b)] _
        refine XS.iloadN X14.here hx rfl (hb hby at_157) rfl ?_
        show SS p e below m T14 158 #[vi p1, vi p2, vi p3, vi p4, vi p5, vi p6, vi (0 : Int32), vi c1, vr b3, vr b6_b, vr b6_b, vr b3, vr b12_b] [(.int p4), (.int p3), (.int p2), (.int (0 : Int32)), (.ref b6_b)] _
        refine XS.iload X14.here hx rfl (hb hby at_158) rfl ?_
        show SS p e below m T14 160 #[vi p1, vi p2, vi p3, vi p4, vi p5, vi p6, vi (0 : Int32), vi c1, vr b3, vr b6_b, vr b6_b, vr b3, vr b12_b] [(.int p5), (.int p4), (.int p3), (.int p2), (.int (0 : Int32)), (.ref b6_b)] _
        refine XS.iconst X14.here hx rfl (hb hby at_160) ?_
        show SS p e below m T14 161 #[vi p1, vi p2, vi p3, vi p4, vi p5, vi p6, vi (0 : Int32), vi c1, vr b3, vr b6_b, vr b6_b, vr b3, vr b12_b] [(.int (1 : Int32)), (.int p5), (.int p4), (.int p3), (.int p2), (.int (0 : Int32)), (.ref b6_b)] _
        refine st15 _ ?_
        show SS p e below m T15 164 #[vi p1, vi p2, vi p3, vi p4, vi p5, vi p6, vi (0 : Int32), vi c1, vr b3, vr b6_b, vr b6_b, vr b3, vr b12_b] [(.int (1 : Int32))] _
        refine XS.ifNo X15.here hx rfl (hb hby at_164) rfl ((if0 _ _).trans (feq (by decide)).1) ?_
        show SS p e below m T15 167 #[vi p1, vi p2, vi p3, vi p4, vi p5, vi p6, vi (0 : Int32), vi c1, vr b3, vr b6_b, vr b6_b, vr b3, vr b12_b] [] _
        refine XS.aload X15.here hx rfl (hb hby at_167) rfl rfl ?_
        show SS p e below m T15 169 #[vi p1, vi p2, vi p3, vi p4, vi p5, vi p6, vi (0 : Int32), vi c1, vr b3, vr b6_b, vr b6_b, vr b3, vr b12_b] [(.ref b3)] _
        refine XS.iload X15.here hx rfl (hb hby at_169) rfl ?_
        show SS p e below m T15 171 #[vi p1, vi p2, vi p3, vi p4, vi p5, vi p6, vi (0 : Int32), vi c1, vr b3, vr b6_b, vr b6_b, vr b3, vr b12_b] [(.int (0 : Int32)), (.ref b3)] _
        refine XS.iloadN X15.here hx rfl (hb hby at_171) rfl ?_
        show SS p e below m T15 172 #[vi p1, vi p2, vi p3, vi p4, vi p5, vi p6, vi (0 : Int32), vi c1, vr b3, vr b6_b, vr b6_b, vr b3, vr b12_b] [(.int p2), (.int (0 : Int32)), (.ref b3)] _
        refine XS.iloadN X15.here hx rfl (hb hby at_172) rfl ?_
        show SS p e below m T15 173 #[vi p1, vi p2, vi p3, vi p4, vi p5, vi p6, vi (0 : Int32), vi c1, vr b3, vr b6_b, vr b6_b, vr b3, vr b12_b] [(.int p3), (.int p2), (.int (0 : Int32)), (.ref b3)] _
        refine XS.iloadN X15.here hx rfl (hb hby at_173) rfl ?_
        show SS p e below m T15 174 #[vi p1, vi p2, vi p3, vi p4, vi p5, vi p6, vi (0 : Int32), vi c1, vr b3, vr b6_b, vr b6_b, vr b3, vr b12_b] [(.int p4), (.int p3), (.int p2), (.int (0 : Int32)), (.ref b3)] _
        refine XS.iconst X15.here hx rfl (hb hby at_174) ?_
        show SS p e below m T15 175 #[vi p1, vi p2, vi p3, vi p4, vi p5, vi p6, vi (0 : Int32), vi c1, vr b3, vr b6_b, vr b6_b, vr b3, vr b12_b] [(.int (0 : Int32)), (.int p4), (.int p3), (.int p2), (.int (0 : Int32)), (.ref b3)] _
        refine XS.iconst X15.here hx rfl (hb hby at_175) ?_
        show SS p e below m T15 176 #[vi p1, vi p2, vi p3, vi p4, vi p5, vi p6, vi (0 : Int32), vi c1, vr b3, vr b6_b, vr b6_b, vr b3, vr b12_b] [(.int (0 : Int32)), (.int (0 : Int32)), (.int p4), (.int p3), (.int p2), (.int (0 : Int32)), (.ref b3)] _
        refine st16 _ ?_
        show SS p e below m T16 179 #[vi p1, vi p2, vi p3, vi p4, vi p5, vi p6, vi (0 : Int32), vi c1, vr b3, vr b6_b, vr b6_b, vr b3, vr b12_b] [(.int (1 : Int32))] _
        refine XS.ifNo X16.here hx rfl (hb hby at_179) rfl ((if0 _ _).trans (feq (by decide)).1) ?_
        show SS p e below m T16 182 #[vi p1, vi p2, vi p3, vi p4, vi p5, vi p6, vi (0 : Int32), vi c1, vr b3, vr b6_b, vr b6_b, vr b3, vr b12_b] [] _
        refine XS.aload X16.here hx rfl (hb hby at_182) rfl rfl ?_
        show SS p e below m T16 184 #[vi p1, vi p2, vi p3, vi p4, vi p5, vi p6, vi (0 : Int32), vi c1, vr b3, vr b6_b, vr b6_b, vr b3, vr b12_b] [(.ref b12_b)] _
        refine XS.iload X16.here hx rfl (hb hby at_184) rfl ?_
        show SS p e below m T16 186 #[vi p1, vi p2, vi p3, vi p4, vi p5, vi p6, vi (0 : Int32), vi c1, vr b3, vr b6_b, vr b6_b, vr b3, vr b12_b] [(.int (0 : Int32)), (.ref b12_b)] _
        refine XS.iloadN X16.here hx rfl (hb hby at_186) rfl ?_
        show SS p e below m T16 187 #[vi p1, vi p2, vi p3, vi p4, vi p5, vi p6, vi (0 : Int32), vi c1, vr b3, vr b6_b, vr b6_b, vr b3, vr b12_b] [(.int p2), (.int (0 : Int32)), (.ref b12_b)] _
        refine XS.iloadN X16.here hx rfl (hb hby at_187) rfl ?_
        show SS p e below m T16 188 #[vi p1, vi p2, vi p3, vi p4, vi p5, vi p6, vi (0 : Int32), vi c1, vr b3, vr b6_b, vr b6_b, vr b3, vr b12_b] [(.int p3), (.int p2), (.int (0 : Int32)), (.ref b12_b)] _
        refine XS.iloadN X16.here hx rfl (hb hby at_188) rfl ?_
        show SS p e below m T16 189 #[vi p1, vi p2, vi p3, vi p4, vi p5, vi p6, vi (0 : Int32), vi c1, vr b3, vr b6_b, vr b6_b, vr b3, vr b12_b] [(.int p4), (.int p3), (.int p2), (.int (0 : Int32)), (.ref b12_b)] _
        refine XS.iload X16.here hx rfl (hb hby at_189) rfl ?_
        show SS p e below m T16 191 #[vi p1, vi p2, vi p3, vi p4, vi p5, vi p6, vi (0 : Int32), vi c1, vr b3, vr b6_b, vr b6_b, vr b3, vr b12_b] [(.int p6), (.int p4), (.int p3), (.int p2), (.int (0 : Int32)), (.ref b12_b)] _
        refine XS.iconst X16.here hx rfl (hb hby at_191) ?_
        show SS p e below m T16 192 #[vi p1, vi p2, vi p3, vi p4, vi p5, vi p6, vi (0 : Int32), vi c1, vr b3, vr b6_b, vr b6_b, vr b3, vr b12_b] [(.int (1 : Int32)), (.int p6), (.int p4), (.int p3), (.int p2), (.int (0 : Int32)), (.ref b12_b)] _
        refine st17 _ ?_
        show SS p e below m T17 195 #[vi p1, vi p2, vi p3, vi p4, vi p5, vi p6, vi (0 : Int32), vi c1, vr b3, vr b6_b, vr b6_b, vr b3, vr b12_b] [(.int (1 : Int32))] _
        refine XS.ifNo X17.here hx rfl (hb hby at_195) rfl ((if0 _ _).trans (feq (by decide)).1) ?_
        show SS p e below m T17 198 #[vi p1, vi p2, vi p3, vi p4, vi p5, vi p6, vi (0 : Int32), vi c1, vr b3, vr b6_b, vr b6_b, vr b3, vr b12_b] [] _
        refine XS.iconst X17.here hx rfl (hb hby at_198) ?_
        show SS p e below m T17 199 #[vi p1, vi p2, vi p3, vi p4, vi p5, vi p6, vi (0 : Int32), vi c1, vr b3, vr b6_b, vr b6_b, vr b3, vr b12_b] [(.int (1 : Int32))] _
        refine XS.goto X17.here hx rfl (pc0 := 199) (pc' := 203) rfl (hb hby at_199) (by decide) (by decide) ?_
        show SS p e below m T17 203 #[vi p1, vi p2, vi p3, vi p4, vi p5, vi p6, vi (0 : Int32), vi c1, vr b3, vr b6_b, vr b6_b, vr b3, vr b12_b] [(.int (1 : Int32))] _
        exact retN X17 hx (t := .boolean) Bd.returns (by simp) (hb hby at_203) hr
      · show Q_rm0 Z p1 p2 p3 p4 p5 p6 cA cl mr h0 n0 _ T17.heap _
        exact ⟨rfl, N17, KC⟩
    · obtain ⟨_, _, ⟨T18, L18, k18, n18⟩, -, X18, ⟨Lc18, hQ18, l18, y18, z18⟩, st18⟩ := Jvm.LawKit.callS X7 hx (y := y_5) hown (mvT hZ (ww hw 72 rfl)) (mvT hZ (ww hw 73 rfl)) (mvT hZ (ww hw 74 rfl)) (mvT hZ (ww hw 75 rfl)) (by decide) (backOf (W := 1) (rmVo l Z a0 hw [] p5 cA cl T7.heap n0 (Nat.le_trans Z0 KC.1) O0 S_high S_cache BX) hZ (ww hw 75 rfl) (ww hw 74 rfl) (by decide) (by decide)) (g := (mkF m 128 #[vi p1, vi p2, vi p3, vi p4, vi p5, vi p6, vi (0 : Int32), vi c1, vr b3, vr b6_b, vr b3, vr b6_b, un] [(.int p5), (.ref b3)])) rfl (by rw [hml]; rfl) (argsL := [(.int p5)]) (rest := [(.ref b3)]) (lenOf pd_15 rfl) rfl (by show 2 * 0 + _ ≤ _; exact Nat.le_of_eq rfl) (hb hby at_128) (fun _ _ => ⟨rfl, rfl, (by decide : 5 + 1 ≤ _), (by decide : 13 + 1 ≤ _)⟩)
      dsimp only [Pt.U, Pt.locs, Pt.cells, Pt.slots] at X18 l18 y18 z18 st18 hQ18
      subst l18 y18 z18
      obtain ⟨b_18, rfl, N18q, K18, E_b_18, F_value_b_18⟩ := hQ18
      have N18 := Fr.app N7 N18q
      replace A3 := A3.keep K18
      replace F_store_a1_4 := F_store_a1_4.keep K18 nin0
      replace F_size_a1_4 := F_size_a1_4.keep K18 nin0
      replace E_b_4 := E_b_4.keep K18
      replace F_items_b_4 := F_items_b_4.keep K18 nin0
      replace F_filled_b_4 := F_filled_b_4.keep K18 nin0
      replace E_c_4 := E_c_4.keep K18
      replace V_c_4 := V_c_4.keep K18 nin0
      replace E_b_6 := E_b_6.keep K18
      replace F_store_b_6 := F_store_b_6.keep K18 nin0
      replace F_size_b_6 := F_size_b_6.keep K18 nin0
      replace O0 := O0.keep K18 all0
      replace KC := KC.trans K18 all0
      obtain ⟨cq19, kq19, q19a, q19b, q19c⟩ := isOf hZ rfl A3
      obtain ⟨_, _, ⟨T19, L19, k19, n19⟩, -, X19, ⟨Lc19, hQ19, l19, y19, z19⟩, st19⟩ := X18.virtualBack hx (y := y_12) (z := y_12) hown (mvT hZ (ww hw 79 rfl)) (mvT hZ (ww hw 80 rfl)) (notFace_of_selects (args := #[]) (mvT hZ (ww hw 82 rfl))) (mvT hZ (ww hw 82 rfl)) (mvT hZ (ww hw 81 rfl)) (by decide) (backOf (W := 0) (rmAddA l Z a0 hw [] b3 b_18 b4_b (0 : Int32) (0 : Int32) b4_c k_4 (4 : Int32) [.null, .null, .null, .null] (1 : Int32) [(.ref b_18), .null, .null, .null] T18.heap n0 (Nat.le_trans Z0 KC.1) O0 F_store_a1_4 F_size_a1_4 A3 E_b_4 F_filled_b_4 F_items_b_4 E_c_4 V_c_4 E_b_18 g_b3 g_b4_b g_b4_c hq4_0 (by decide) (by decide) (by decide) (by decide) (by decide) rfl (Nat.le_of_ble_eq_true rfl)) hZ (ww hw 83 rfl) (ww hw 2 rfl) (by decide) (by decide)) q19a q19c (g := (mkF m 131 #[vi p1, vi p2, vi p3, vi p4, vi p5, vi p6, vi (0 : Int32), vi c1, vr b3, vr b6_b, vr b3, vr b6_b, un] [(.ref b_18), (.ref b3)])) rfl (by rw [hml]; rfl) (Steps.refl _) (argsL := [(.ref b_18)]) (rest := []) (lenOf pd_16 rfl) rfl (by show 2 * 0 + _ ≤ _; exact Nat.le_of_eq rfl) (hb hby at_131) (fun _ _ => ⟨rfl, rfl, (by decide : 6 + 0 ≤ _), (by decide : 14 + 0 ≤ _)⟩)
      dsimp only [Pt.U, Pt.locs, Pt.cells, Pt.slots] at X19 l19 y19 z19 st19 hQ19
      subst l19 y19 z19
      obtain ⟨rfl, N19q, K19, F_store_a1_19, F_size_a1_19, F_filled_sto_19, F_items_sto_19, V_arr_19⟩ := hQ19
      have N19 := Fr.app N18 N19q
      have nec_b_18_b4_c : b_18 ≠ b4_c := Exa.ne E_b_18 E_c_4 (by decide)
      have nec_b_18_b4_b : b_18 ≠ b4_b := Exa.ne E_b_18 E_b_4 (by decide)
      have nec_b_18_b3 : b_18 ≠ b3 := Exa.ne E_b_18 A3 (by decide)
      replace A3 := A3.keep K19
      replace E_b_4 := E_b_4.keep K19
      replace E_c_4 := E_c_4.keep K19
      replace E_b_6 := E_b_6.keep K19
      replace F_store_b_6 := F_store_b_6.keep K19 (ninS (Ne.symm ne_b3_b6_b) (ninS (Ne.symm ne_b4_b_b6_b) (ninS (Ne.symm ne_b4_c_b6_b) nin0)))
      replace F_size_b_6 := F_size_b_6.keep K19 (ninS (Ne.symm ne_b3_b6_b) (ninS (Ne.symm ne_b4_b_b6_b) (ninS (Ne.symm ne_b4_c_b6_b) nin0)))
      replace E_b_18 := E_b_18.keep K19
      replace F_value_b_18 := F_value_b_18.keep K19 (ninS nec_b_18_b3 (ninS nec_b_18_b4_b (ninS nec_b_18_b4_c nin0)))
      replace O0 := O0.keep K19 (allS g_b3 (allS g_b4_b (allS g_b4_c all0)))
      replace KC := KC.trans K19 (allS (Or.inr sz_b3) (allS (Or.inr sz_b4_b) (allS (Or.inr sz_b4_c) all0)))
      obtain ⟨cq20, kq20, q20a, q20b, q20c⟩ := isOf hZ rfl E_b_6
      obtain ⟨_, _, ⟨T20, L20, k20, n20⟩, -, X20, ⟨Lc20, hQ20, l20, y20, z20⟩, st20⟩ := X19.virtualBack hx (y := y_13) (z := y_13) hown (mvT hZ (ww hw 29 rfl)) (mvT hZ (ww hw 30 rfl)) (notFace_of_selects (args := #[]) (mvT hZ (ww hw 32 rfl))) (mvT hZ (ww hw 32 rfl)) (mvT hZ (ww hw 31 rfl)) (by decide) (backOf (W := 0) (rmCp l Z a0 hw [] b6_b b4_b (0 : Int32) T19.heap n0 (Nat.le_trans Z0 KC.1) O0 F_store_b_6 F_size_b_6) hZ (ww hw 33 rfl) (ww hw 2 rfl) (by decide) (by decide)) q20a q20c (g := (mkF m 136 #[vi p1, vi p2, vi p3, vi p4, vi p5, vi p6, vi (0 : Int32), vi c1, vr b3, vr b6_b, vr b3, vr b6_b, un] [(.ref b6_b)])) rfl (by rw [hml]; rfl) (Steps.refl _) (argsL := []) (rest := []) (lenOf pd_13 rfl) rfl (by show 2 * 0 + _ ≤ _; exact Nat.le_of_eq rfl) (hb hby at_136) (fun _ _ => ⟨rfl, rfl, (by decide : 6 + 1 ≤ _), (by decide : 14 + 2 ≤ _)⟩)
      dsimp only [Pt.U, Pt.locs, Pt.cells, Pt.slots] at X20 l20 y20 z20 st20 hQ20
      subst l20 y20 z20
      obtain ⟨b20_b, rfl, N20q, K20, sz_b20_b, E_b_20, F_store_b_20, F_size_b_20⟩ := hQ20
      have N20 := Fr.app N19 N20q
      have ne_b3_b20_b : b3 ≠ b20_b := Nat.ne_of_lt (Nat.lt_of_lt_of_le A3.lt sz_b20_b)
      have ne_b4_b_b20_b : b4_b ≠ b20_b := Nat.ne_of_lt (Nat.lt_of_lt_of_le E_b_4.lt sz_b20_b)
      have ne_b4_c_b20_b : b4_c ≠ b20_b := Nat.ne_of_lt (Nat.lt_of_lt_of_le E_c_4.lt sz_b20_b)
      have ne_b6_b_b20_b : b6_b ≠ b20_b := Nat.ne_of_lt (Nat.lt_of_lt_of_le E_b_6.lt sz_b20_b)
      have ne_b_18_b20_b : b_18 ≠ b20_b := Nat.ne_of_lt (Nat.lt_of_lt_of_le E_b_18.lt sz_b20_b)
      have g_b20_b : n0 ≤ b20_b := Nat.le_trans (Nat.le_trans Z0 KC.1) sz_b20_b
      replace sz_b20_b : h0.size ≤ b20_b := Nat.le_trans KC.1 sz_b20_b
      replace A3 := A3.keep K20
      replace E_b_4 := E_b_4.keep K20
      replace E_c_4 := E_c_4.keep K20
      replace E_b_6 := E_b_6.keep K20
      replace F_store_b_6 := F_store_b_6.keep K20 nin0
      replace F_size_b_6 := F_size_b_6.keep K20 nin0
      replace E_b_18 := E_b_18.keep K20
      replace F_value_b_18 := F_value_b_18.keep K20 nin0
      replace F_store_a1_19 := F_store_a1_19.keep K20 nin0
      replace F_size_a1_19 := F_size_a1_19.keep K20 nin0
      replace F_filled_sto_19 := F_filled_sto_19.keep K20 nin0
      replace F_items_sto_19 := F_items_sto_19.keep K20 nin0
      replace V_arr_19 := V_arr_19.keep K20 nin0
      replace O0 := O0.keep K20 all0
      replace KC := KC.trans K20 all0
      obtain ⟨_, _, ⟨T21, L21, k21, n21⟩, -, X21, ⟨Lc21, hQ21, l21, y21, z21⟩, st21⟩ := Jvm.LawKit.callS X20 hx (y := y_5) hown (mvT hZ (ww hw 72 rfl)) (mvT hZ (ww hw 73 rfl)) (mvT hZ (ww hw 74 rfl)) (mvT hZ (ww hw 75 rfl)) (by decide) (backOf (W := 1) (rmVo l Z a0 hw [] p6 cA cl T20.heap n0 (Nat.le_trans Z0 KC.1) O0 S_high S_cache BX) hZ (ww hw 75 rfl) (ww hw 74 rfl) (by decide) (by decide)) (g := (mkF m 145 #[vi p1, vi p2, vi p3, vi p4, vi p5, vi p6, vi (0 : Int32), vi c1, vr b3, vr b6_b, vr b3, vr b6_b, vr b20_b] [(.int p6), (.ref b20_b)])) rfl (by rw [hml]; rfl) (argsL := [(.int p6)]) (rest := [(.ref b20_b)]) (lenOf pd_15 rfl) rfl (by show 2 * 0 + _ ≤ _; exact Nat.le_of_eq rfl) (hb hby at_145) (fun _ _ => ⟨rfl, rfl, (by decide : 7 + 1 ≤ _), (by decide : 16 + 1 ≤ _)⟩)
      dsimp only [Pt.U, Pt.locs, Pt.cells, Pt.slots] at X21 l21 y21 z21 st21 hQ21
      subst l21 y21 z21
      obtain ⟨b_21, rfl, N21q, K21, E_b_21, F_value_b_21⟩ := hQ21
      have N21 := Fr.app N20 N21q
      replace A3 := A3.keep K21
      replace E_b_4 := E_b_4.keep K21
      replace E_c_4 := E_c_4.keep K21
      replace E_b_6 := E_b_6.keep K21
      replace F_store_b_6 := F_store_b_6.keep K21 nin0
      replace F_size_b_6 := F_size_b_6.keep K21 nin0
      replace E_b_18 := E_b_18.keep K21
      replace F_value_b_18 := F_value_b_18.keep K21 nin0
      replace F_store_a1_19 := F_store_a1_19.keep K21 nin0
      replace F_size_a1_19 := F_size_a1_19.keep K21 nin0
      replace F_filled_sto_19 := F_filled_sto_19.keep K21 nin0
      replace F_items_sto_19 := F_items_sto_19.keep K21 nin0
      replace V_arr_19 := V_arr_19.keep K21 nin0
      replace E_b_20 := E_b_20.keep K21
      replace F_store_b_20 := F_store_b_20.keep K21 nin0
      replace F_size_b_20 := F_size_b_20.keep K21 nin0
      replace O0 := O0.keep K21 all0
      replace KC := KC.trans K21 all0
      obtain ⟨cq22, kq22, q22a, q22b, q22c⟩ := isOf hZ rfl E_b_20
      obtain ⟨_, _, ⟨T22, L22, k22, n22⟩, -, X22, ⟨Lc22, hQ22, l22, y22, z22⟩, st22⟩ := X21.virtualBack hx (y := y_12) (z := y_12) hown (mvT hZ (ww hw 79 rfl)) (mvT hZ (ww hw 80 rfl)) (notFace_of_selects (args := #[]) (mvT hZ (ww hw 82 rfl))) (mvT hZ (ww hw 82 rfl)) (mvT hZ (ww hw 81 rfl)) (by decide) (backOf (W := 0) (rmAddB l Z a0 hw [] b20_b b_21 b4_b (0 : Int32) (1 : Int32) b4_c k_4 (4 : Int32) [(.ref b_18), .null, .null, .null] mr (4 : Int32) (4 : Int32) [(.ref b_18), .null, .null, .null, .null, .null, .null, .null, .null, .null] (1 : Int32) [(.ref b_21), .null, .null, .null, .null, .null, .null, .null, .null, .null] T21.heap n0 (Nat.le_trans Z0 KC.1) O0 F_store_b_20 F_size_b_20 E_b_20 E_b_4 F_filled_sto_19 F_items_sto_19 E_c_4 V_arr_19 E_b_21 g_b20_b MIR (Or.inl (by decide)) (by decide) (by decide) (by decide) (by decide) (by decide) (by decide) (by decide) rfl (own_els_cons (Or.inr ⟨_, rfl, E_b_18⟩) (own_els_cons (Or.inl rfl) (own_els_cons (Or.inl rfl) (own_els_cons (Or.inl rfl) own_els_nil)))) (by decide) (by decide) (by decide) rfl (Nat.le_of_ble_eq_true rfl)) hZ (ww hw 83 rfl) (ww hw 2 rfl) (by decide) (by decide)) q22a q22c (g := (mkF m 148 #[vi p1, vi p2, vi p3, vi p4, vi p5, vi p6, vi (0 : Int32), vi c1, vr b3, vr b6_b, vr b3, vr b6_b, vr b20_b] [(.ref b_21), (.ref b20_b)])) rfl (by rw [hml]; rfl) (Steps.refl _) (argsL := [(.ref b_21)]) (rest := []) (lenOf pd_16 rfl) rfl (by show 2 * 0 + _ ≤ _; exact Nat.le_of_eq rfl) (hb hby at_148) (fun _ _ => ⟨rfl, rfl, (by decide : 8 + 2 ≤ _), (by decide : 17 + 12 ≤ _)⟩)
      dsimp only [Pt.U, Pt.locs, Pt.cells, Pt.slots] at X22 l22 y22 z22 st22 hQ22
      subst l22 y22 z22
      obtain ⟨b22_b, b22_c, k2_22, rfl, N22q, K22, sz_b22_b, sz_b22_c, F_store_a1_22, F_size_a1_22, E_b_22, F_filled_b_22, F_items_b_22, E_c_22, V_c_22, hq22_0⟩ := hQ22
      have N22 := Fr.app N21 N22q
      have ne_b3_b22_b : b3 ≠ b22_b := Nat.ne_of_lt (Nat.lt_of_lt_of_le A3.lt sz_b22_b)
      have ne_b4_b_b22_b : b4_b ≠ b22_b := Nat.ne_of_lt (Nat.lt_of_lt_of_le E_b_4.lt sz_b22_b)
      have ne_b4_c_b22_b : b4_c ≠ b22_b := Nat.ne_of_lt (Nat.lt_of_lt_of_le E_c_4.lt sz_b22_b)
      have ne_b6_b_b22_b : b6_b ≠ b22_b := Nat.ne_of_lt (Nat.lt_of_lt_of_le E_b_6.lt sz_b22_b)
      have ne_b_18_b22_b : b_18 ≠ b22_b := Nat.ne_of_lt (Nat.lt_of_lt_of_le E_b_18.lt sz_b22_b)
      have ne_b20_b_b22_b : b20_b ≠ b22_b := Nat.ne_of_lt (Nat.lt_of_lt_of_le E_b_20.lt sz_b22_b)
      have ne_b_21_b22_b : b_21 ≠ b22_b := Nat.ne_of_lt (Nat.lt_of_lt_of_le E_b_21.lt sz_b22_b)
      have g_b22_b : n0 ≤ b22_b := Nat.le_trans (Nat.le_trans Z0 KC.1) sz_b22_b
      replace sz_b22_b : h0.size ≤ b22_b := Nat.le_trans KC.1 sz_b22_b
      have ne_b3_b22_c : b3 ≠ b22_c := Nat.ne_of_lt (Nat.lt_of_lt_of_le A3.lt sz_b22_c)
      have ne_b4_b_b22_c : b4_b ≠ b22_c := Nat.ne_of_lt (Nat.lt_of_lt_of_le E_b_4.lt sz_b22_c)
      have ne_b4_c_b22_c : b4_c ≠ b22_c := Nat.ne_of_lt (Nat.lt_of_lt_of_le E_c_4.lt sz_b22_c)
      have ne_b6_b_b22_c : b6_b ≠ b22_c := Nat.ne_of_lt (Nat.lt_of_lt_of_le E_b_6.lt sz_b22_c)
      have ne_b_18_b22_c : b_18 ≠ b22_c := Nat.ne_of_lt (Nat.lt_of_lt_of_le E_b_18.lt sz_b22_c)
      have ne_b20_b_b22_c : b20_b ≠ b22_c := Nat.ne_of_lt (Nat.lt_of_lt_of_le E_b_20.lt sz_b22_c)
      have ne_b_21_b22_c : b_21 ≠ b22_c := Nat.ne_of_lt (Nat.lt_of_lt_of_le E_b_21.lt sz_b22_c)
      have g_b22_c : n0 ≤ b22_c := Nat.le_trans (Nat.le_trans Z0 KC.1) sz_b22_c
      replace sz_b22_c : h0.size ≤ b22_c := Nat.le_trans KC.1 sz_b22_c
      have nec_b_21_b20_b : b_21 ≠ b20_b := Exa.ne E_b_21 E_b_20 (by decide)
      replace A3 := A3.keep K22
      replace E_b_4 := E_b_4.keep K22
      replace E_c_4 := E_c_4.keep K22
      replace E_b_6 := E_b_6.keep K22
      replace F_store_b_6 := F_store_b_6.keep K22 (ninS ne_b6_b_b20_b nin0)
      replace F_size_b_6 := F_size_b_6.keep K22 (ninS ne_b6_b_b20_b nin0)
      replace E_b_18 := E_b_18.keep K22
      replace F_value_b_18 := F_value_b_18.keep K22 (ninS ne_b_18_b20_b nin0)
      replace F_store_a1_19 := F_store_a1_19.keep K22 (ninS ne_b3_b20_b nin0)
      replace F_size_a1_19 := F_size_a1_19.keep K22 (ninS ne_b3_b20_b nin0)
      replace F_filled_sto_19 := F_filled_sto_19.keep K22 (ninS ne_b4_b_b20_b nin0)
      replace F_items_sto_19 := F_items_sto_19.keep K22 (ninS ne_b4_b_b20_b nin0)
      replace V_arr_19 := V_arr_19.keep K22 (ninS ne_b4_c_b20_b nin0)
      replace E_b_20 := E_b_20.keep K22
      replace E_b_21 := E_b_21.keep K22
      replace F_value_b_21 := F_value_b_21.keep K22 (ninS nec_b_21_b20_b nin0)
      replace O0 := O0.keep K22 (allS g_b20_b all0)
      replace KC := KC.trans K22 (allS (Or.inr sz_b20_b) all0)
      obtain ⟨_, _, ⟨T23, L23, k23, n23⟩, -, X23, ⟨Lc23, hQ23, l23, y23, z23⟩, st23⟩ := Jvm.LawKit.callS X22 hx (y := y_20) hown (mvT hZ (ww hw 35 rfl)) (mvT hZ (ww hw 36 rfl)) (mvT hZ (ww hw 37 rfl)) (mvT hZ (ww hw 38 rfl)) (by decide) (backOf (W := 0) (rmH01 l Z a0 hw [] b3 p2 p3 p4 p5 b4_b b4_c k_4 (4 : Int32) [(.ref b_18), .null, .null, .null] b_18 T22.heap n0 (Nat.le_trans Z0 KC.1) O0 F_size_a1_19 F_store_a1_19 A3 F_items_sto_19 E_c_4 V_arr_19 E_b_18 F_value_b_18 rfl (by decide)) hZ (ww hw 38 rfl) (ww hw 37 rfl) (by decide) (by decide)) (g := (mkF m 161 #[vi p1, vi p2, vi p3, vi p4, vi p5, vi p6, vi (0 : Int32), vi c1, vr b3, vr b6_b, vr b3, vr b6_b, vr b20_b] [(.int (1 : Int32)), (.int p5), (.int p4), (.int p3), (.int p2), (.int (0 : Int32)), (.ref b3)])) rfl (by rw [hml]; rfl) (argsL := [(.ref b3), (.int (0 : Int32)), (.int p2), (.int p3), (.int p4), (.int p5), (.int (1 : Int32))]) (rest := []) (lenOf pd_14 rfl) rfl (by show 2 * 0 + _ ≤ _; exact Nat.le_of_eq rfl) (hb hby at_161) (fun _ _ => ⟨rfl, rfl, (by decide : 10 + 1 ≤ _), (by decide : 29 + 3 ≤ _)⟩)
      dsimp only [Pt.U, Pt.locs, Pt.cells, Pt.slots] at X23 l23 y23 z23 st23 hQ23
      subst l23 y23 z23
      obtain ⟨rfl, N23q, K23⟩ := hQ23
      have N23 := Fr.app N22 N23q
      replace A3 := A3.keep K23
      replace E_b_4 := E_b_4.keep K23
      replace E_c_4 := E_c_4.keep K23
      replace E_b_6 := E_b_6.keep K23
      replace F_store_b_6 := F_store_b_6.keep K23 nin0
      replace F_size_b_6 := F_size_b_6.keep K23 nin0
      replace E_b_18 := E_b_18.keep K23
      replace F_value_b_18 := F_value_b_18.keep K23 nin0
      replace F_store_a1_19 := F_store_a1_19.keep K23 nin0
      replace F_size_a1_19 := F_size_a1_19.keep K23 nin0
      replace F_filled_sto_19 := F_filled_sto_19.keep K23 nin0
      replace F_items_sto_19 := F_items_sto_19.keep K23 nin0
      replace V_arr_19 := V_arr_19.keep K23 nin0
      replace E_b_20 := E_b_20.keep K23
      replace E_b_21 := E_b_21.keep K23
      replace F_value_b_21 := F_value_b_21.keep K23 nin0
      replace F_store_a1_22 := F_store_a1_22.keep K23 nin0
      replace F_size_a1_22 := F_size_a1_22.keep K23 nin0
      replace E_b_22 := E_b_22.keep K23
      replace F_filled_b_22 := F_filled_b_22.keep K23 nin0
      replace F_items_b_22 := F_items_b_22.keep K23 nin0
      replace E_c_22 := E_c_22.keep K23
      replace V_c_22 := V_c_22.keep K23 nin0
      replace O0 := O0.keep K23 all0
      replace KC := KC.trans K23 all0
      obtain ⟨_, _, ⟨T24, L24, k24, n24⟩, -, X24, ⟨Lc24, hQ24, l24, y24, z24⟩, st24⟩ := Jvm.LawKit.callS X23 hx (y := y_20) hown (mvT hZ (ww hw 35 rfl)) (mvT hZ (ww hw 36 rfl)) (mvT hZ (ww hw 37 rfl)) (mvT hZ (ww hw 38 rfl)) (by decide) (backOf (W := 0) (rmH00 l Z a0 hw [] b6_b p2 p3 p4 (0 : Int32) b4_b b4_c k_4 (4 : Int32) [(.ref b_18), .null, .null, .null] T23.heap n0 (Nat.le_trans Z0 KC.1) O0 F_size_b_6 F_store_b_6 E_b_6 F_items_sto_19 E_c_4 V_arr_19) hZ (ww hw 38 rfl) (ww hw 37 rfl) (by decide) (by decide)) (g := (mkF m 176 #[vi p1, vi p2, vi p3, vi p4, vi p5, vi p6, vi (0 : Int32), vi c1, vr b3, vr b6_b, vr b3, vr b6_b, vr b20_b] [(.int (0 : Int32)), (.int (0 : Int32)), (.int p4), (.int p3), (.int p2), (.int (0 : Int32)), (.ref b6_b)])) rfl (by rw [hml]; rfl) (argsL := [(.ref b6_b), (.int (0 : Int32)), (.int p2), (.int p3), (.int p4), (.int (0 : Int32)), (.int (0 : Int32))]) (rest := []) (lenOf pd_14 rfl) rfl (by show 2 * 0 + _ ≤ _; exact Nat.le_of_eq rfl) (hb hby at_176) (fun _ _ => ⟨rfl, rfl, (by decide : 11 + 1 ≤ _), (by decide : 32 + 3 ≤ _)⟩)
      dsimp only [Pt.U, Pt.locs, Pt.cells, Pt.slots] at X24 l24 y24 z24 st24 hQ24
      subst l24 y24 z24
      obtain ⟨rfl, N24q, K24⟩ := hQ24
      have N24 := Fr.app N23 N24q
      replace A3 := A3.keep K24
      replace E_b_4 := E_b_4.keep K24
      replace E_c_4 := E_c_4.keep K24
      replace E_b_6 := E_b_6.keep K24
      replace F_store_b_6 := F_store_b_6.keep K24 nin0
      replace F_size_b_6 := F_size_b_6.keep K24 nin0
      replace E_b_18 := E_b_18.keep K24
      replace F_value_b_18 := F_value_b_18.keep K24 nin0
      replace F_store_a1_19 := F_store_a1_19.keep K24 nin0
      replace F_size_a1_19 := F_size_a1_19.keep K24 nin0
      replace F_filled_sto_19 := F_filled_sto_19.keep K24 nin0
      replace F_items_sto_19 := F_items_sto_19.keep K24 nin0
      replace V_arr_19 := V_arr_19.keep K24 nin0
      replace E_b_20 := E_b_20.keep K24
      replace E_b_21 := E_b_21.keep K24
      replace F_value_b_21 := F_value_b_21.keep K24 nin0
      replace F_store_a1_22 := F_store_a1_22.keep K24 nin0
      replace F_size_a1_22 := F_size_a1_22.keep K24 nin0
      replace E_b_22 := E_b_22.keep K24
      replace F_filled_b_22 := F_filled_b_22.keep K24 nin0
      replace F_items_b_22 := F_items_b_22.keep K24 nin0
      replace E_c_22 := E_c_22.keep K24
      replace V_c_22 := V_c_22.keep K24 nin0
      replace O0 := O0.keep K24 all0
      replace KC := KC.trans K24 all0
      obtain ⟨_, _, ⟨T25, L25, k25, n25⟩, -, X25, ⟨Lc25, hQ25, l25, y25, z25⟩, st25⟩ := Jvm.LawKit.callS X24 hx (y := y_20) hown (mvT hZ (ww hw 35 rfl)) (mvT hZ (ww hw 36 rfl)) (mvT hZ (ww hw 37 rfl)) (mvT hZ (ww hw 38 rfl)) (by decide) (backOf (W := 0) (rmH01 l Z a0 hw [] b20_b p2 p3 p4 p6 b22_b b22_c k2_22 (4 : Int32) [(.ref b_21), .null, .null, .null, .null, .null, .null, .null, .null, .null] b_21 T24.heap n0 (Nat.le_trans Z0 KC.1) O0 F_size_a1_22 F_store_a1_22 E_b_20 F_items_b_22 E_c_22 V_c_22 E_b_21 F_value_b_21 rfl (by decide)) hZ (ww hw 38 rfl) (ww hw 37 rfl) (by decide) (by decide)) (g := (mkF m 192 #[vi p1, vi p2, vi p3, vi p4, vi p5, vi p6, vi (0 : Int32), vi c1, vr b3, vr b6_b, vr b3, vr b6_b, vr b20_b] [(.int (1 : Int32)), (.int p6), (.int p4), (.int p3), (.int p2), (.int (0 : Int32)), (.ref b20_b)])) rfl (by rw [hml]; rfl) (argsL := [(.ref b20_b), (.int (0 : Int32)), (.int p2), (.int p3), (.int p4), (.int p6), (.int (1 : Int32))]) (rest := []) (lenOf pd_14 rfl) rfl (by show 2 * 0 + _ ≤ _; exact Nat.le_of_eq rfl) (hb hby at_192) (fun _ _ => ⟨rfl, rfl, (by decide : 12 + 1 ≤ _), (by decide : 35 + 3 ≤ _)⟩)
      dsimp only [Pt.U, Pt.locs, Pt.cells, Pt.slots] at X25 l25 y25 z25 st25 hQ25
      subst l25 y25 z25
      obtain ⟨rfl, N25q, K25⟩ := hQ25
      have N25 := Fr.app N24 N25q
      replace A3 := A3.keep K25
      replace E_b_4 := E_b_4.keep K25
      replace E_c_4 := E_c_4.keep K25
      replace E_b_6 := E_b_6.keep K25
      replace F_store_b_6 := F_store_b_6.keep K25 nin0
      replace F_size_b_6 := F_size_b_6.keep K25 nin0
      replace E_b_18 := E_b_18.keep K25
      replace F_value_b_18 := F_value_b_18.keep K25 nin0
      replace F_store_a1_19 := F_store_a1_19.keep K25 nin0
      replace F_size_a1_19 := F_size_a1_19.keep K25 nin0
      replace F_filled_sto_19 := F_filled_sto_19.keep K25 nin0
      replace F_items_sto_19 := F_items_sto_19.keep K25 nin0
      replace V_arr_19 := V_arr_19.keep K25 nin0
      replace E_b_20 := E_b_20.keep K25
      replace E_b_21 := E_b_21.keep K25
      replace F_value_b_21 := F_value_b_21.keep K25 nin0
      replace F_store_a1_22 := F_store_a1_22.keep K25 nin0
      replace F_size_a1_22 := F_size_a1_22.keep K25 nin0
      replace E_b_22 := E_b_22.keep K25
      replace F_filled_b_22 := F_filled_b_22.keep K25 nin0
      replace F_items_b_22 := F_items_b_22.keep K25 nin0
      replace E_c_22 := E_c_22.keep K25
      replace V_c_22 := V_c_22.keep K25 nin0
      replace O0 := O0.keep K25 all0
      replace KC := KC.trans K25 all0
      obtain ⟨fs, hr, hrun, hended, hW, hsame⟩ := X25.leave (v := some (.int (1 : Int32))) (fun h => by rw [Bd.returns] at h; cases h)
      refine ⟨_, _, pre8 _ ?_, hrun, hended, _, _, rfl, ?_, ⟨_, rfl⟩, hW, hsame.mono (by decide) (by decide)⟩
      · show SS p e below m T7 98 #[vi p1, vi p2, vi p3, vi p4, vi p5, vi p6, vi (0 : Int32), vi c1, vr b3, vr b6_b, un, un, un] [(.int c1)] _
        refine XS.ifNo X7.here hx rfl (hb hby at_98) rfl ((if0 _ _).trans (feq hc98_9).1) ?_
        show SS p e below m T7 101 #[vi p1, vi p2, vi p3, vi p4, vi p5, vi p6, vi (0 : Int32), vi c1, vr b3, vr b6_b, un, un, un] [] _
        refine XS.aload X7.here hx rfl (hb hby at_101) rfl rfl ?_
        show SS p e below m T7 103 #[vi p1, vi p2, vi p3, vi p4, vi p5, vi p6, vi (0 : Int32), vi c1, vr b3, vr b6_b, un, un, un] [(.ref b3)] _
        refine XS.goto X7.here hx rfl (pc0 := 103) (pc' := 108) rfl (hb hby at_103) (by decide) (by decide) ?_
        show SS p e below m T7 108 #[vi p1, vi p2, vi p3, vi p4, vi p5, vi p6, vi (0 : Int32), vi c1, vr b3, vr b6_b, un, un, un] [(.ref b3)] _
        refine XS.astore X7.here hx rfl (hb hby at_108) rfl rfl (l' := #[vi p1, vi p2, vi p3, vi p4, vi p5, vi p6, vi (0 : Int32), vi c1, vr b3, vr b6_b, vr b3, un, un]) rfl ?_
        show SS p e below m T7 110 #[vi p1, vi p2, vi p3, vi p4, vi p5, vi p6, vi (0 : Int32), vi c1, vr b3, vr b6_b, vr b3, un, un] [] _
        refine XS.iload X7.here hx rfl (hb hby at_110) rfl ?_
        show SS p e below m T7 112 #[vi p1, vi p2, vi p3, vi p4, vi p5, vi p6, vi (0 : Int32), vi c1, vr b3, vr b6_b, vr b3, un, un] [(.int c1)] _
        refine XS.ifNo X7.here hx rfl (hb hby at_112) rfl ((if0 _ _).trans (feq hc98_9).1) ?_
        show SS p e below m T7 115 #[vi p1, vi p2, vi p3, vi p4, vi p5, vi p6, vi (0 : Int32), vi c1, vr b3, vr b6_b, vr b3, un, un] [] _
        refine XS.aload X7.here hx rfl (hb hby at_115) rfl rfl ?_
        show SS p e below m T7 117 #[vi p1, vi p2, vi p3, vi p4, vi p5, vi p6, vi (0 : Int32), vi c1, vr b3, vr b6_b, vr b3, un, un] [(.ref b6_b)] _
        refine XS.goto X7.here hx rfl (pc0 := 117) (pc' := 122) rfl (hb hby at_117) (by decide) (by decide) ?_
        show SS p e below m T7 122 #[vi p1, vi p2, vi p3, vi p4, vi p5, vi p6, vi (0 : Int32), vi c1, vr b3, vr b6_b, vr b3, un, un] [(.ref b6_b)] _
        refine XS.astore X7.here hx rfl (hb hby at_122) rfl rfl (l' := #[vi p1, vi p2, vi p3, vi p4, vi p5, vi p6, vi (0 : Int32), vi c1, vr b3, vr b6_b, vr b3, vr b6_b, un]) rfl ?_
        show SS p e below m T7 124 #[vi p1, vi p2, vi p3, vi p4, vi p5, vi p6, vi (0 : Int32), vi c1, vr b3, vr b6_b, vr b3, vr b6_b, un] [] _
        refine XS.aload X7.here hx rfl (hb hby at_124) rfl rfl ?_
        show SS p e below m T7 126 #[vi p1, vi p2, vi p3, vi p4, vi p5, vi p6, vi (0 : Int32), vi c1, vr b3, vr b6_b, vr b3, vr b6_b, un] [(.ref b3)] _
        refine XS.iload X7.here hx rfl (hb hby at_126) rfl ?_
        show SS p e below m T7 128 #[vi p1, vi p2, vi p3, vi p4, vi p5, vi p6, vi (0 : Int32), vi c1, vr b3, vr b6_b, vr b3, vr b6_b, un] [(.int p5), (.ref b3)] _
        refine st18 _ ?_
        show SS p e below m T18 131 #[vi p1, vi p2, vi p3, vi p4, vi p5, vi p6, vi (0 : Int32), vi c1, vr b3, vr b6_b, vr b3, vr b6_b, un] [(.ref b_18), (.ref b3)] _
        refine st19.trans ?_
        show SS p e below m T19 134 #[vi p1, vi p2, vi p3, vi p4, vi p5, vi p6, vi (0 : Int32), vi c1, vr b3, vr b6_b, vr b3, vr b6_b, un] [] _
        refine XS.aload X19.here hx rfl (hb hby at_134) rfl rfl ?_
        show SS p e below m T19 136 #[vi p1, vi p2, vi p3, vi p4, vi p5, vi p6, vi (0 : Int32), vi c1, vr b3, vr b6_b, vr b3, vr b6_b, un] [(.ref b6_b)] _
        refine st20.trans ?_
        show SS p e below m T20 139 #[vi p1, vi p2, vi p3, vi p4, vi p5, vi p6, vi (0 : Int32), vi c1, vr b3, vr b6_b, vr b3, vr b6_b, un] [(.ref b20_b)] _
        refine XS.astore X20.here hx rfl (hb hby at_139) rfl rfl (l' := #[vi p1, vi p2, vi p3, vi p4, vi p5, vi p6, vi (0 : Int32), vi c1, vr b3, vr b6_b, vr b3, vr b6_b, vr b20_b]) rfl ?_
        show SS p e below m T20 141 #[vi p1, vi p2, vi p3, vi p4, vi p5, vi p6, vi (0 : Int32), vi c1, vr b3, vr b6_b, vr b3, vr b6_b, vr b20_b] [] _
        refine XS.aload X20.here hx rfl (hb hby at_141) rfl rfl ?_
        show SS p e below m T20 143 #[vi p1, vi p2, vi p3, vi p4, vi p5, vi p6, vi (0 : Int32), vi c1, vr b3, vr b6_b, vr b3, vr b6_b, vr b20_b] [(.ref b20_b)] _
        refine XS.iload X20.here hx rfl (hb hby at_143) rfl ?_
        show SS p e below m T20 145 #[vi p1, vi p2, vi p3, vi p4, vi p5, vi p6, vi (0 : Int32), vi c1, vr b3, vr b6_b, vr b3, vr b6_b, vr b20_b] [(.int p6), (.ref b20_b)] _
        refine st21 _ ?_
        show SS p e below m T21 148 #[vi p1, vi p2, vi p3, vi p4, vi p5, vi p6, vi (0 : Int32), vi c1, vr b3, vr b6_b, vr b3, vr b6_b, vr b20_b] [(.ref b_21), (.ref b20_b)] _
        refine st22.trans ?_
        show SS p e below m T22 151 #[vi p1, vi p2, vi p3, vi p4, vi p5, vi p6, vi (0 : Int32), vi c1, vr b3, vr b6_b, vr b3, vr b6_b, vr b20_b] [] _
        refine XS.aload X22.here hx rfl (hb hby at_151) rfl rfl ?_
        show SS p e below m T22 153 #[vi p1, vi p2, vi p3, vi p4, vi p5, vi p6, vi (0 : Int32), vi c1, vr b3, vr b6_b, vr b3, vr b6_b, vr b20_b] [(.ref b3)] _
        refine XS.iload X22.here hx rfl (hb hby at_153) rfl ?_
        show SS p e below m T22 155 #[vi p1, vi p2, vi p3, vi p4, vi p5, vi p6, vi (0 : Int32), vi c1, vr b3, vr b6_b, vr b3, vr b6_b, vr b20_b] [(.int (0 : Int32)), (.ref b3)] _
        refine XS.iloadN X22.here hx rfl (hb hby at_155) rfl ?_
        show SS p e below m T22 156 #[vi p1, vi p2, vi p3, vi p4, vi p5, vi p6, vi (0 : Int32), vi c1, vr b3, vr b6_b, vr b3, vr b6_b, vr b20_b] [(.int p2), (.int (0 : Int32)), (.ref b3)] _
        refine XS.iloadN X22.here hx rfl (hb hby at_156) rfl ?_
        show SS p e below m T22 157 #[vi p1, vi p2, vi p3, vi p4, vi p5, vi p6, vi (0 : Int32), vi c1, vr b3, vr b6_b, vr b3, vr b6_b, vr b20_b] [(.int p3), (.int p2), (.int (0 : Int32)), (.ref b3)] _
        refine XS.iloadN X22.here hx rfl (hb hby at_157) rfl ?_
        show SS p e below m T22 158 #[vi p1, vi p2, vi p3, vi p4, vi p5, vi p6, vi (0 : Int32), vi c1, vr b3, vr b6_b, vr b3, vr b6_b, vr b20_b] [(.int p4), (.int p3), (.int p2), (.int (0 : Int32)), (.ref b3)] _
        refine XS.iload X22.here hx rfl (hb hby at_158) rfl ?_
        show SS p e below m T22 160 #[vi p1, vi p2, vi p3, vi p4, vi p5, vi p6, vi (0 : Int32), vi c1, vr b3, vr b6_b, vr b3, vr b6_b, vr b20_b] [(.int p5), (.int p4), (.int p3), (.int p2), (.int (0 : Int32)), (.ref b3)] _
        refine XS.iconst X22.here hx rfl (hb hby at_160) ?_
        show SS p e below m T22 161 #[vi p1, vi p2, vi p3, vi p4, vi p5, vi p6, vi (0 : Int32), vi c1, vr b3, vr b6_b, vr b3, vr b6_b, vr b20_b] [(.int (1 : Int32)), (.int p5), (.int p4), (.int p3), (.int p2), (.int (0 : Int32)), (.ref b3)] _
        refine st23 _ ?_
        show SS p e below m T23 164 #[vi p1, vi p2, vi p3, vi p4, vi p5, vi p6, vi (0 : Int32), vi c1, vr b3, vr b6_b, vr b3, vr b6_b, vr b20_b] [(.int (1 : Int32))] _
        refine XS.ifNo X23.here hx rfl (hb hby at_164) rfl ((if0 _ _).trans (feq (by decide)).1) ?_
        show SS p e below m T23 167 #[vi p1, vi p2, vi p3, vi p4, vi p5, vi p6, vi (0 : Int32), vi c1, vr b3, vr b6_b, vr b3, vr b6_b, vr b20_b] [] _
        refine XS.aload X23.here hx rfl (hb hby at_167) rfl rfl ?_
        show SS p e below m T23 169 #[vi p1, vi p2, vi p3, vi p4, vi p5, vi p6, vi (0 : Int32), vi c1, vr b3, vr b6_b, vr b3, vr b6_b, vr b20_b] [(.ref b6_b)] _
        refine XS.iload X23.here hx rfl (hb hby at_169) rfl ?_
        show SS p e below m T23 171 #[vi p1, vi p2, vi p3, vi p4, vi p5, vi p6, vi (0 : Int32), vi c1, vr b3, vr b6_b, vr b3, vr b6_b, vr b20_b] [(.int (0 : Int32)), (.ref b6_b)] _
        refine XS.iloadN X23.here hx rfl (hb hby at_171) rfl ?_
        show SS p e below m T23 172 #[vi p1, vi p2, vi p3, vi p4, vi p5, vi p6, vi (0 : Int32), vi c1, vr b3, vr b6_b, vr b3, vr b6_b, vr b20_b] [(.int p2), (.int (0 : Int32)), (.ref b6_b)] _
        refine XS.iloadN X23.here hx rfl (hb hby at_172) rfl ?_
        show SS p e below m T23 173 #[vi p1, vi p2, vi p3, vi p4, vi p5, vi p6, vi (0 : Int32), vi c1, vr b3, vr b6_b, vr b3, vr b6_b, vr b20_b] [(.int p3), (.int p2), (.int (0 : Int32)), (.ref b6_b)] _
        refine XS.iloadN X23.here hx rfl (hb hby at_173) rfl ?_
        show SS p e below m T23 174 #[vi p1, vi p2, vi p3, vi p4, vi p5, vi p6, vi (0 : Int32), vi c1, vr b3, vr b6_b, vr b3, vr b6_b, vr b20_b] [(.int p4), (.int p3), (.int p2), (.int (0 : Int32)), (.ref b6_b)] _
        refine XS.iconst X23.here hx rfl (hb hby at_174) ?_
        show SS p e below m T23 175 #[vi p1, vi p2, vi p3, vi p4, vi p5, vi p6, vi (0 : Int32), vi c1, vr b3, vr b6_b, vr b3, vr b6_b, vr b20_b] [(.int (0 : Int32)), (.int p4), (.int p3), (.int p2), (.int (0 : Int32)), (.ref b6_b)] _
        refine XS.iconst X23.here hx rfl (hb hby at_175) ?_
        show SS p e below m T23 176 #[vi p1, vi p2, vi p3, vi p4, vi p5, vi p6, vi (0 : Int32), vi c1, vr b3, vr b6_b, vr b3, vr b6_b, vr b20_b] [(.int (0 : Int32)), (.int (0 : Int32)), (.int p4), (.int p3), (.int p2), (.int (0 : Int32)), (.ref b6_b)] _
        refine st24 _ ?_
        show SS p e below m T24 179 #[vi p1, vi p2, vi p3, vi p4, vi p5, vi p6, vi (0 : Int32), vi c1, vr b3, vr b6_b, vr b3, vr b6_b, vr b20_b] [(.int (1 : Int32))] _
        refine XS.ifNo X24.here hx rfl (hb hby at_179) rfl ((if0 _ _).trans (feq (by decide)).1) ?_
        show SS p e below m T24 182 #[vi p1, vi p2, vi p3, vi p4, vi p5, vi p6, vi (0 : Int32), vi c1, vr b3, vr b6_b, vr b3, vr b6_b, vr b20_b] [] _
        refine XS.aload X24.here hx rfl (hb hby at_182) rfl rfl ?_
        show SS p e below m T24 184 #[vi p1, vi p2, vi p3, vi p4, vi p5, vi p6, vi (0 : Int32), vi c1, vr b3, vr b6_b, vr b3, vr b6_b, vr b20_b] [(.ref b20_b)] _
        refine XS.iload X24.here hx rfl (hb hby at_184) rfl ?_
        show SS p e below m T24 186 #[vi p1, vi p2, vi p3, vi p4, vi p5, vi p6, vi (0 : Int32), vi c1, vr b3, vr b6_b, vr b3, vr b6_b, vr b20_b] [(.int (0 : Int32)), (.ref b20_b)] _
        refine XS.iloadN X24.here hx rfl (hb hby at_186) rfl ?_
        show SS p e below m T24 187 #[vi p1, vi p2, vi p3, vi p4, vi p5, vi p6, vi (0 : Int32), vi c1, vr b3, vr b6_b, vr b3, vr b6_b, vr b20_b] [(.int p2), (.int (0 : Int32)), (.ref b20_b)] _
        refine XS.iloadN X24.here hx rfl (hb hby at_187) rfl ?_
        show SS p e below m T24 188 #[vi p1, vi p2, vi p3, vi p4, vi p5, vi p6, vi (0 : Int32), vi c1, vr b3, vr b6_b, vr b3, vr b6_b, vr b20_b] [(.int p3), (.int p2), (.int (0 : Int32)), (.ref b20_b)] _
        refine XS.iloadN X24.here hx rfl (hb hby at_188) rfl ?_
        show SS p e below m T24 189 #[vi p1, vi p2, vi p3, vi p4, vi p5, vi p6, vi (0 : Int32), vi c1, vr b3, vr b6_b, vr b3, vr b6_b, vr b20_b] [(.int p4), (.int p3), (.int p2), (.int (0 : Int32)), (.ref b20_b)] _
        refine XS.iload X24.here hx rfl (hb hby at_189) rfl ?_
        show SS p e below m T24 191 #[vi p1, vi p2, vi p3, vi p4, vi p5, vi p6, vi (0 : Int32), vi c1, vr b3, vr b6_b, vr b3, vr b6_b, vr b20_b] [(.int p6), (.int p4), (.int p3), (.int p2), (.int (0 : Int32)), (.ref b20_b)] _
        refine XS.iconst X24.here hx rfl (hb hby at_191) ?_
        show SS p e below m T24 192 #[vi p1, vi p2, vi p3, vi p4, vi p5, vi p6, vi (0 : Int32), vi c1, vr b3, vr b6_b, vr b3, vr b6_b, vr b20_b] [(.int (1 : Int32)), (.int p6), (.int p4), (.int p3), (.int p2), (.int (0 : Int32)), (.ref b20_b)] _
        refine st25 _ ?_
        show SS p e below m T25 195 #[vi p1, vi p2, vi p3, vi p4, vi p5, vi p6, vi (0 : Int32), vi c1, vr b3, vr b6_b, vr b3, vr b6_b, vr b20_b] [(.int (1 : Int32))] _
        refine XS.ifNo X25.here hx rfl (hb hby at_195) rfl ((if0 _ _).trans (feq (by decide)).1) ?_
        show SS p e below m T25 198 #[vi p1, vi p2, vi p3, vi p4, vi p5, vi p6, vi (0 : Int32), vi c1, vr b3, vr b6_b, vr b3, vr b6_b, vr b20_b] [] _
        refine XS.iconst X25.here hx rfl (hb hby at_198) ?_
        show SS p e below m T25 199 #[vi p1, vi p2, vi p3, vi p4, vi p5, vi p6, vi (0 : Int32), vi c1, vr b3, vr b6_b, vr b3, vr b6_b, vr b20_b] [(.int (1 : Int32))] _
        refine XS.goto X25.here hx rfl (pc0 := 199) (pc' := 203) rfl (hb hby at_199) (by decide) (by decide) ?_
        show SS p e below m T25 203 #[vi p1, vi p2, vi p3, vi p4, vi p5, vi p6, vi (0 : Int32), vi c1, vr b3, vr b6_b, vr b3, vr b6_b, vr b20_b] [(.int (1 : Int32))] _
        exact retN X25 hx (t := .boolean) Bd.returns (by simp) (hb hby at_203) hr
      · show Q_rm0 Z p1 p2 p3 p4 p5 p6 cA cl mr h0 n0 _ T25.heap _
        exact ⟨rfl, N25, KC⟩
  · rw [hk] at pre5
    obtain ⟨_, _, ⟨T26, L26, k26, n26⟩, -, X26, ⟨Lc26, hQ26, l26, y26, z26⟩, st26⟩ := Jvm.LawKit.callS X4 hx (y := y_5) hown (mvT hZ (ww hw 72 rfl)) (mvT hZ (ww hw 73 rfl)) (mvT hZ (ww hw 74 rfl)) (mvT hZ (ww hw 75 rfl)) (by decide) (backOf (W := 1) (rmVo l Z a0 hw [] p2 cA cl T4.heap n0 (Nat.le_trans Z0 KC.1) O0 S_high S_cache BX) hZ (ww hw 75 rfl) (ww hw 74 rfl) (by decide) (by decide)) (g := (mkF m 36 #[vi p1, vi p2, vi p3, vi p4, vi p5, vi p6, vi (1 : Int32), vi c1, vr b3, un, un, un, un] [(.int p2), (.ref b3)])) rfl (by rw [hml]; rfl) (argsL := [(.int p2)]) (rest := [(.ref b3)]) (lenOf pd_15 rfl) rfl (by show 2 * 0 + _ ≤ _; exact Nat.le_of_eq rfl) (hb hby at_36) (fun _ _ => ⟨rfl, rfl, (by decide : 3 + 1 ≤ _), (by decide : 8 + 1 ≤ _)⟩)
    dsimp only [Pt.U, Pt.locs, Pt.cells, Pt.slots] at X26 l26 y26 z26 st26 hQ26
    subst l26 y26 z26
    obtain ⟨b_26, rfl, N26q, K26, E_b_26, F_value_b_26⟩ := hQ26
    have N26 := Fr.app N4 N26q
    replace A3 := A3.keep K26
    replace F_store_a1_4 := F_store_a1_4.keep K26 nin0
    replace F_size_a1_4 := F_size_a1_4.keep K26 nin0
    replace E_b_4 := E_b_4.keep K26
    replace F_items_b_4 := F_items_b_4.keep K26 nin0
    replace F_filled_b_4 := F_filled_b_4.keep K26 nin0
    replace E_c_4 := E_c_4.keep K26
    replace V_c_4 := V_c_4.keep K26 nin0
    replace O0 := O0.keep K26 all0
    replace KC := KC.trans K26 all0
    obtain ⟨cq27, kq27, q27a, q27b, q27c⟩ := isOf hZ rfl A3
    obtain ⟨_, _, ⟨T27, L27, k27, n27⟩, -, X27, ⟨Lc27, hQ27, l27, y27, z27⟩, st27⟩ := X26.virtualBack hx (y := y_12) (z := y_12) hown (mvT hZ (ww hw 79 rfl)) (mvT hZ (ww hw 80 rfl)) (notFace_of_selects (args := #[]) (mvT hZ (ww hw 82 rfl))) (mvT hZ (ww hw 82 rfl)) (mvT hZ (ww hw 81 rfl)) (by decide) (backOf (W := 0) (rmAddA l Z a0 hw [] b3 b_26 b4_b (0 : Int32) (0 : Int32) b4_c k_4 (4 : Int32) [.null, .null, .null, .null] (1 : Int32) [(.ref b_26), .null, .null, .null] T26.heap n0 (Nat.le_trans Z0 KC.1) O0 F_store_a1_4 F_size_a1_4 A3 E_b_4 F_filled_b_4 F_items_b_4 E_c_4 V_c_4 E_b_26 g_b3 g_b4_b g_b4_c hq4_0 (by decide) (by decide) (by decide) (by decide) (by decide) rfl (Nat.le_of_ble_eq_true rfl)) hZ (ww hw 83 rfl) (ww hw 2 rfl) (by decide) (by decide)) q27a q27c (g := (mkF m 39 #[vi p1, vi p2, vi p3, vi p4, vi p5, vi p6, vi (1 : Int32), vi c1, vr b3, un, un, un, un] [(.ref b_26), (.ref b3)])) rfl (by rw [hml]; rfl) (Steps.refl _) (argsL := [(.ref b_26)]) (rest := []) (lenOf pd_16 rfl) rfl (by show 2 * 0 + _ ≤ _; exact Nat.le_of_eq rfl) (hb hby at_39) (fun _ _ => ⟨rfl, rfl, (by decide : 4 + 0 ≤ _), (by decide : 9 + 0 ≤ _)⟩)
    dsimp only [Pt.U, Pt.locs, Pt.cells, Pt.slots] at X27 l27 y27 z27 st27 hQ27
    subst l27 y27 z27
    obtain ⟨rfl, N27q, K27, F_store_a1_27, F_size_a1_27, F_filled_sto_27, F_items_sto_27, V_arr_27⟩ := hQ27
    have N27 := Fr.app N26 N27q
    have nec_b_26_b4_c : b_26 ≠ b4_c := Exa.ne E_b_26 E_c_4 (by decide)
    have nec_b_26_b4_b : b_26 ≠ b4_b := Exa.ne E_b_26 E_b_4 (by decide)
    have nec_b_26_b3 : b_26 ≠ b3 := Exa.ne E_b_26 A3 (by decide)
    replace A3 := A3.keep K27
    replace E_b_4 := E_b_4.keep K27
    replace E_c_4 := E_c_4.keep K27
    replace E_b_26 := E_b_26.keep K27
    replace F_value_b_26 := F_value_b_26.keep K27 (ninS nec_b_26_b3 (ninS nec_b_26_b4_b (ninS nec_b_26_b4_c nin0)))
    replace O0 := O0.keep K27 (allS g_b3 (allS g_b4_b (allS g_b4_c all0)))
    replace KC := KC.trans K27 (allS (Or.inr sz_b3) (allS (Or.inr sz_b4_b) (allS (Or.inr sz_b4_c) all0)))
    obtain ⟨cq28, kq28, q28a, q28b, q28c⟩ := isOf hZ rfl A3
    obtain ⟨_, _, ⟨T28, L28, k28, n28⟩, -, X28, ⟨Lc28, hQ28, l28, y28, z28⟩, st28⟩ := X27.virtualBack hx (y := y_13) (z := y_13) hown (mvT hZ (ww hw 29 rfl)) (mvT hZ (ww hw 30 rfl)) (notFace_of_selects (args := #[]) (mvT hZ (ww hw 32 rfl))) (mvT hZ (ww hw 32 rfl)) (mvT hZ (ww hw 31 rfl)) (by decide) (backOf (W := 0) (rmCp l Z a0 hw [] b3 b4_b (1 : Int32) T27.heap n0 (Nat.le_trans Z0 KC.1) O0 F_store_a1_27 F_size_a1_27) hZ (ww hw 33 rfl) (ww hw 2 rfl) (by decide) (by decide)) q28a q28c (g := (mkF m 74 #[vi p1, vi p2, vi p3, vi p4, vi p5, vi p6, vi (1 : Int32), vi c1, vr b3, un, un, un, un] [(.ref b3)])) rfl (by rw [hml]; rfl) (Steps.refl _) (argsL := []) (rest := []) (lenOf pd_13 rfl) rfl (by show 2 * 0 + _ ≤ _; exact Nat.le_of_eq rfl) (hb hby at_74) (fun _ _ => ⟨rfl, rfl, (by decide : 4 + 1 ≤ _), (by decide : 9 + 2 ≤ _)⟩)
    dsimp only [Pt.U, Pt.locs, Pt.cells, Pt.slots] at X28 l28 y28 z28 st28 hQ28
    subst l28 y28 z28
    obtain ⟨b28_b, rfl, N28q, K28, sz_b28_b, E_b_28, F_store_b_28, F_size_b_28⟩ := hQ28
    have N28 := Fr.app N27 N28q
    have ne_b3_b28_b : b3 ≠ b28_b := Nat.ne_of_lt (Nat.lt_of_lt_of_le A3.lt sz_b28_b)
    have ne_b4_b_b28_b : b4_b ≠ b28_b := Nat.ne_of_lt (Nat.lt_of_lt_of_le E_b_4.lt sz_b28_b)
    have ne_b4_c_b28_b : b4_c ≠ b28_b := Nat.ne_of_lt (Nat.lt_of_lt_of_le E_c_4.lt sz_b28_b)
    have ne_b_26_b28_b : b_26 ≠ b28_b := Nat.ne_of_lt (Nat.lt_of_lt_of_le E_b_26.lt sz_b28_b)
    have g_b28_b : n0 ≤ b28_b := Nat.le_trans (Nat.le_trans Z0 KC.1) sz_b28_b
    replace sz_b28_b : h0.size ≤ b28_b := Nat.le_trans KC.1 sz_b28_b
    replace A3 := A3.keep K28
    replace E_b_4 := E_b_4.keep K28
    replace E_c_4 := E_c_4.keep K28
    replace E_b_26 := E_b_26.keep K28
    replace F_value_b_26 := F_value_b_26.keep K28 nin0
    replace F_store_a1_27 := F_store_a1_27.keep K28 nin0
    replace F_size_a1_27 := F_size_a1_27.keep K28 nin0
    replace F_filled_sto_27 := F_filled_sto_27.keep K28 nin0
    replace F_items_sto_27 := F_items_sto_27.keep K28 nin0
    replace V_arr_27 := V_arr_27.keep K28 nin0
    replace O0 := O0.keep K28 all0
    replace KC := KC.trans K28 all0
    obtain ⟨_, _, ⟨T29, L29, k29, n29⟩, -, X29, ⟨Lc29, hQ29, l29, y29, z29⟩, st29⟩ := Jvm.LawKit.callS X28 hx (y := y_20) hown (mvT hZ (ww hw 35 rfl)) (mvT hZ (ww hw 36 rfl)) (mvT hZ (ww hw 37 rfl)) (mvT hZ (ww hw 38 rfl)) (by decide) (backOf (W := 0) (rmH10 l Z a0 hw [] b28_b p2 p3 p4 (0 : Int32) b4_b b4_c k_4 (4 : Int32) [(.ref b_26), .null, .null, .null] b_26 T28.heap n0 (Nat.le_trans Z0 KC.1) O0 F_size_b_28 F_store_b_28 E_b_28 F_items_sto_27 E_c_4 V_arr_27 E_b_26 F_value_b_26 rfl (by decide)) hZ (ww hw 38 rfl) (ww hw 37 rfl) (by decide) (by decide)) (g := (mkF m 88 #[vi p1, vi p2, vi p3, vi p4, vi p5, vi p6, vi (1 : Int32), vi c1, vr b3, vr b28_b, un, un, un] [(.int (0 : Int32)), (.int (0 : Int32)), (.int p4), (.int p3), (.int p2), (.int (1 : Int32)), (.ref b28_b)])) rfl (by rw [hml]; rfl) (argsL := [(.ref b28_b), (.int (1 : Int32)), (.int p2), (.int p3), (.int p4), (.int (0 : Int32)), (.int (0 : Int32))]) (rest := []) (lenOf pd_14 rfl) rfl (by show 2 * 0 + _ ≤ _; exact Nat.le_of_eq rfl) (hb hby at_88) (fun _ _ => ⟨rfl, rfl, (by decide : 5 + 1 ≤ _), (by decide : 11 + 3 ≤ _)⟩)
    dsimp only [Pt.U, Pt.locs, Pt.cells, Pt.slots] at X29 l29 y29 z29 st29 hQ29
    subst l29 y29 z29
    obtain ⟨rfl, N29q, K29⟩ := hQ29
    have N29 := Fr.app N28 N29q
    replace A3 := A3.keep K29
    replace E_b_4 := E_b_4.keep K29
    replace E_c_4 := E_c_4.keep K29
    replace E_b_26 := E_b_26.keep K29
    replace F_value_b_26 := F_value_b_26.keep K29 nin0
    replace F_store_a1_27 := F_store_a1_27.keep K29 nin0
    replace F_size_a1_27 := F_size_a1_27.keep K29 nin0
    replace F_filled_sto_27 := F_filled_sto_27.keep K29 nin0
    replace F_items_sto_27 := F_items_sto_27.keep K29 nin0
    replace V_arr_27 := V_arr_27.keep K29 nin0
    replace E_b_28 := E_b_28.keep K29
    replace F_store_b_28 := F_store_b_28.keep K29 nin0
    replace F_size_b_28 := F_size_b_28.keep K29 nin0
    replace O0 := O0.keep K29 all0
    replace KC := KC.trans K29 all0
    have pre30 : ∀ t, Steps p.tables e below (T29.setTop (mkF m 98 #[vi p1, vi p2, vi p3, vi p4, vi p5, vi p6, vi (1 : Int32), vi c1, vr b3, vr b28_b, un, un, un] [(.int c1)])) t → Steps p.tables e below (s₁.setTop (entryFrame m #[(.int p1), (.int p2), (.int p3), (.int p4), (.int p5), (.int p6)] maxLocals)) t := by
      intro t kt
      refine pre5 t ?_
      show SS p e below m T4 27 #[vi p1, vi p2, vi p3, vi p4, vi p5, vi p6, vi (1 : Int32), vi c1, vr b3, un, un, un, un] [] _
      refine XS.iload X4.here hx rfl (hb hby at_27) rfl ?_
      show SS p e below m T4 29 #[vi p1, vi p2, vi p3, vi p4, vi p5, vi p6, vi (1 : Int32), vi c1, vr b3, un, un, un, un] [(.int (1 : Int32))] _
      refine XS.iconst X4.here hx rfl (hb hby at_29) ?_
      show SS p e below m T4 30 #[vi p1, vi p2, vi p3, vi p4, vi p5, vi p6, vi (1 : Int32), vi c1, vr b3, un, un, un, un] [(.int (1 : Int32)), (.int (1 : Int32))] _
      refine XS.icmpNo X4.here hx rfl (hb hby at_30) rfl (flt (by decide)).1 ?_
      show SS p e below m T4 33 #[vi p1, vi p2, vi p3, vi p4, vi p5, vi p6, vi (1 : Int32), vi c1, vr b3, un, un, un, un] [] _
      refine XS.aload X4.here hx rfl (hb hby at_33) rfl rfl ?_
      show SS p e below m T4 35 #[vi p1, vi p2, vi p3, vi p4, vi p5, vi p6, vi (1 : Int32), vi c1, vr b3, un, un, un, un] [(.ref b3)] _
      refine XS.iloadN X4.here hx rfl (hb hby at_35) rfl ?_
      show SS p e below m T4 36 #[vi p1, vi p2, vi p3, vi p4, vi p5, vi p6, vi (1 : Int32), vi c1, vr b3, un, un, un, un] [(.int p2), (.ref b3)] _
      refine st26 _ ?_
      show SS p e below m T26 39 #[vi p1, vi p2, vi p3, vi p4, vi p5, vi p6, vi (1 : Int32), vi c1, vr b3, un, un, un, un] [(.ref b_26), (.ref b3)] _
      refine st27.trans ?_
      show SS p e below m T27 42 #[vi p1, vi p2, vi p3, vi p4, vi p5, vi p6, vi (1 : Int32), vi c1, vr b3, un, un, un, un] [] _
      refine XS.iload X27.here hx rfl (hb hby at_42) rfl ?_
      show SS p e below m T27 44 #[vi p1, vi p2, vi p3, vi p4, vi p5, vi p6, vi (1 : Int32), vi c1, vr b3, un, un, un, un] [(.int (1 : Int32))] _
      refine XS.iconst X27.here hx rfl (hb hby at_44) ?_
      show SS p e below m T27 45 #[vi p1, vi p2, vi p3, vi p4, vi p5, vi p6, vi (1 : Int32), vi c1, vr b3, un, un, un, un] [(.int (2 : Int32)), (.int (1 : Int32))] _
      refine XS.icmpYes X27.here hx rfl (pc0 := 45) (pc' := 57) rfl (hb hby at_45) rfl (tlt (by decide)).1 (by decide) (by decide) ?_
      show SS p e below m T27 57 #[vi p1, vi p2, vi p3, vi p4, vi p5, vi p6, vi (1 : Int32), vi c1, vr b3, un, un, un, un] [] _
      refine XS.iload X27.here hx rfl (hb hby at_57) rfl ?_
      show SS p e below m T27 59 #[vi p1, vi p2, vi p3, vi p4, vi p5, vi p6, vi (1 : Int32), vi c1, vr b3, un, un, un, un] [(.int (1 : Int32))] _
      refine XS.iconst X27.here hx rfl (hb hby at_59) ?_
      show SS p e below m T27 60 #[vi p1, vi p2, vi p3, vi p4, vi p5, vi p6, vi (1 : Int32), vi c1, vr b3, un, un, un, un] [(.int (3 : Int32)), (.int (1 : Int32))] _
      refine XS.icmpYes X27.here hx rfl (pc0 := 60) (pc' := 72) rfl (hb hby at_60) rfl (tlt (by decide)).1 (by decide) (by decide) ?_
      show SS p e below m T27 72 #[vi p1, vi p2, vi p3, vi p4, vi p5, vi p6, vi (1 : Int32), vi c1, vr b3, un, un, un, un] [] _
      refine XS.aload X27.here hx rfl (hb hby at_72) rfl rfl ?_
      show SS p e below m T27 74 #[vi p1, vi p2, vi p3, vi p4, vi p5, vi p6, vi (1 : Int32), vi c1, vr b3, un, un, un, un] [(.ref b3)] _
      refine st28.trans ?_
      show SS p e below m T28 77 #[vi p1, vi p2, vi p3, vi p4, vi p5, vi p6, vi (1 : Int32), vi c1, vr b3, un, un, un, un] [(.ref b28_b)] _
      refine XS.astore X28.here hx rfl (hb hby at_77) rfl rfl (l' := #[vi p1, vi p2, vi p3, vi p4, vi p5, vi p6, vi (1 : Int32), vi c1, vr b3, vr b28_b, un, un, un]) rfl ?_
      show SS p e below m T28 79 #[vi p1, vi p2, vi p3, vi p4, vi p5, vi p6, vi (1 : Int32), vi c1, vr b3, vr b28_b, un, un, un] [] _
      refine XS.aload X28.here hx rfl (hb hby at_79) rfl rfl ?_
      show SS p e below m T28 81 #[vi p1, vi p2, vi p3, vi p4, vi p5, vi p6, vi (1 : Int32), vi c1, vr b3, vr b28_b, un, un, un] [(.ref b28_b)] _
      refine XS.iload X28.here hx rfl (hb hby at_81) rfl ?_
      show SS p e below m T28 83 #[vi p1, vi p2, vi p3, vi p4, vi p5, vi p6, vi (1 : Int32), vi c1, vr b3, vr b28_b, un, un, un] [(.int (1 : Int32)), (.ref b28_b)] _
      refine XS.iloadN X28.here hx rfl (hb hby at_83) rfl ?_
      show SS p e below m T28 84 #[vi p1, vi p2, vi p3, vi p4, vi p5, vi p6, vi (1 : Int32), vi c1, vr b3, vr b28_b, un, un, un] [(.int p2), (.int (1 : Int32)), (.ref b28_b)] _
      refine XS.iloadN X28.here hx rfl (hb hby at_84) rfl ?_
      show SS p e below m T28 85 #[vi p1, vi p2, vi p3, vi p4, vi p5, vi p6, vi (1 : Int32), vi c1, vr b3, vr b28_b, un, un, un] [(.int p3), (.int p2), (.int (1 : Int32)), (.ref b28_b)] _
      refine XS.iloadN X28.here hx rfl (hb hby at_85) rfl ?_
      show SS p e below m T28 86 #[vi p1, vi p2, vi p3, vi p4, vi p5, vi p6, vi (1 : Int32), vi c1, vr b3, vr b28_b, un, un, un] [(.int p4), (.int p3), (.int p2), (.int (1 : Int32)), (.ref b28_b)] _
      refine XS.iconst X28.here hx rfl (hb hby at_86) ?_
      show SS p e below m T28 87 #[vi p1, vi p2, vi p3, vi p4, vi p5, vi p6, vi (1 : Int32), vi c1, vr b3, vr b28_b, un, un, un] [(.int (0 : Int32)), (.int p4), (.int p3), (.int p2), (.int (1 : Int32)), (.ref b28_b)] _
      refine XS.iconst X28.here hx rfl (hb hby at_87) ?_
      show SS p e below m T28 88 #[vi p1, vi p2, vi p3, vi p4, vi p5, vi p6, vi (1 : Int32), vi c1, vr b3, vr b28_b, un, un, un] [(.int (0 : Int32)), (.int (0 : Int32)), (.int p4), (.int p3), (.int p2), (.int (1 : Int32)), (.ref b28_b)] _
      refine st29 _ ?_
      show SS p e below m T29 91 #[vi p1, vi p2, vi p3, vi p4, vi p5, vi p6, vi (1 : Int32), vi c1, vr b3, vr b28_b, un, un, un] [(.int (1 : Int32))] _
      refine XS.ifYes X29.here hx rfl (pc0 := 91) (pc' := 96) rfl (hb hby at_91) rfl ((if0 _ _).trans (feq (by decide)).2) (by decide) (by decide) ?_
      show SS p e below m T29 96 #[vi p1, vi p2, vi p3, vi p4, vi p5, vi p6, vi (1 : Int32), vi c1, vr b3, vr b28_b, un, un, un] [] _
      refine XS.iload X29.here hx rfl (hb hby at_96) rfl ?_
      exact kt
    by_cases hc98_31 : c1 = (0 : Int32)
    · obtain ⟨_, _, ⟨T32, L32, k32, n32⟩, -, X32, ⟨Lc32, hQ32, l32, y32, z32⟩, st32⟩ := Jvm.LawKit.callS X29 hx (y := y_5) hown (mvT hZ (ww hw 72 rfl)) (mvT hZ (ww hw 73 rfl)) (mvT hZ (ww hw 74 rfl)) (mvT hZ (ww hw 75 rfl)) (by decide) (backOf (W := 1) (rmVo l Z a0 hw [] p5 cA cl T29.heap n0 (Nat.le_trans Z0 KC.1) O0 S_high S_cache BX) hZ (ww hw 75 rfl) (ww hw 74 rfl) (by decide) (by decide)) (g := (mkF m 128 #[vi p1, vi p2, vi p3, vi p4, vi p5, vi p6, vi (1 : Int32), vi c1, vr b3, vr b28_b, vr b28_b, vr b3, un] [(.int p5), (.ref b28_b)])) rfl (by rw [hml]; rfl) (argsL := [(.int p5)]) (rest := [(.ref b28_b)]) (lenOf pd_15 rfl) rfl (by show 2 * 0 + _ ≤ _; exact Nat.le_of_eq rfl) (hb hby at_128) (fun _ _ => ⟨rfl, rfl, (by decide : 6 + 1 ≤ _), (by decide : 14 + 1 ≤ _)⟩)
      dsimp only [Pt.U, Pt.locs, Pt.cells, Pt.slots] at X32 l32 y32 z32 st32 hQ32
      subst l32 y32 z32
      obtain ⟨b_32, rfl, N32q, K32, E_b_32, F_value_b_32⟩ := hQ32
      have N32 := Fr.app N29 N32q
      replace A3 := A3.keep K32
      replace E_b_4 := E_b_4.keep K32
      replace E_c_4 := E_c_4.keep K32
      replace E_b_26 := E_b_26.keep K32
      replace F_value_b_26 := F_value_b_26.keep K32 nin0
      replace F_store_a1_27 := F_store_a1_27.keep K32 nin0
      replace F_size_a1_27 := F_size_a1_27.keep K32 nin0
      replace F_filled_sto_27 := F_filled_sto_27.keep K32 nin0
      replace F_items_sto_27 := F_items_sto_27.keep K32 nin0
      replace V_arr_27 := V_arr_27.keep K32 nin0
      replace E_b_28 := E_b_28.keep K32
      replace F_store_b_28 := F_store_b_28.keep K32 nin0
      replace F_size_b_28 := F_size_b_28.keep K32 nin0
      replace O0 := O0.keep K32 all0
      replace KC := KC.trans K32 all0
      obtain ⟨cq33, kq33, q33a, q33b, q33c⟩ := isOf hZ rfl E_b_28
      obtain ⟨_, _, ⟨T33, L33, k33, n33⟩, -, X33, ⟨Lc33, hQ33, l33, y33, z33⟩, st33⟩ := X32.virtualBack hx (y := y_12) (z := y_12) hown (mvT hZ (ww hw 79 rfl)) (mvT hZ (ww hw 80 rfl)) (notFace_of_selects (args := #[]) (mvT hZ (ww hw 82 rfl))) (mvT hZ (ww hw 82 rfl)) (mvT hZ (ww hw 81 rfl)) (by decide) (backOf (W := 0) (rmAddA l Z a0 hw [] b28_b b_32 b4_b (1 : Int32) (1 : Int32) b4_c k_4 (4 : Int32) [(.ref b_26), .null, .null, .null] (2 : Int32) [(.ref b_26), (.ref b_32), .null, .null] T32.heap n0 (Nat.le_trans Z0 KC.1) O0 F_store_b_28 F_size_b_28 E_b_28 E_b_4 F_filled_sto_27 F_items_sto_27 E_c_4 V_arr_27 E_b_32 g_b28_b g_b4_b g_b4_c hq4_0 (by decide) (by decide) (by decide) (by decide) (by decide) rfl (Nat.le_of_ble_eq_true rfl)) hZ (ww hw 83 rfl) (ww hw 2 rfl) (by decide) (by decide)) q33a q33c (g := (mkF m 131 #[vi p1, vi p2, vi p3, vi p4, vi p5, vi p6, vi (1 : Int32), vi c1, vr b3, vr b28_b, vr b28_b, vr b3, un] [(.ref b_32), (.ref b28_b)])) rfl (by rw [hml]; rfl) (Steps.refl _) (argsL := [(.ref b_32)]) (rest := []) (lenOf pd_16 rfl) rfl (by show 2 * 0 + _ ≤ _; exact Nat.le_of_eq rfl) (hb hby at_131) (fun _ _ => ⟨rfl, rfl, (by decide : 7 + 0 ≤ _), (by decide : 15 + 0 ≤ _)⟩)
      dsimp only [Pt.U, Pt.locs, Pt.cells, Pt.slots] at X33 l33 y33 z33 st33 hQ33
      subst l33 y33 z33
      obtain ⟨rfl, N33q, K33, F_store_a1_33, F_size_a1_33, F_filled_sto_33, F_items_sto_33, V_arr_33⟩ := hQ33
      have N33 := Fr.app N32 N33q
      have nec_b_32_b4_c : b_32 ≠ b4_c := Exa.ne E_b_32 E_c_4 (by decide)
      have nec_b_32_b4_b : b_32 ≠ b4_b := Exa.ne E_b_32 E_b_4 (by decide)
      have nec_b_32_b28_b : b_32 ≠ b28_b := Exa.ne E_b_32 E_b_28 (by decide)
      replace A3 := A3.keep K33
      replace E_b_4 := E_b_4.keep K33
      replace E_c_4 := E_c_4.keep K33
      replace E_b_26 := E_b_26.keep K33
      replace F_value_b_26 := F_value_b_26.keep K33 (ninS ne_b_26_b28_b (ninS nec_b_26_b4_b (ninS nec_b_26_b4_c nin0)))
      replace F_store_a1_27 := F_store_a1_27.keep K33 (ninS ne_b3_b28_b (ninS ne_b3_b4_b (ninS ne_b3_b4_c nin0)))
      replace F_size_a1_27 := F_size_a1_27.keep K33 (ninS ne_b3_b28_b (ninS ne_b3_b4_b (ninS ne_b3_b4_c nin0)))
      replace E_b_28 := E_b_28.keep K33
      replace E_b_32 := E_b_32.keep K33
      replace F_value_b_32 := F_value_b_32.keep K33 (ninS nec_b_32_b28_b (ninS nec_b_32_b4_b (ninS nec_b_32_b4_c nin0)))
      replace O0 := O0.keep K33 (allS g_b28_b (allS g_b4_b (allS g_b4_c all0)))
      replace KC := KC.trans K33 (allS (Or.inr sz_b28_b) (allS (Or.inr sz_b4_b) (allS (Or.inr sz_b4_c) all0)))
      obtain ⟨cq34, kq34, q34a, q34b, q34c⟩ := isOf hZ rfl A3
      obtain ⟨_, _, ⟨T34, L34, k34, n34⟩, -, X34, ⟨Lc34, hQ34, l34, y34, z34⟩, st34⟩ := X33.virtualBack hx (y := y_13) (z := y_13) hown (mvT hZ (ww hw 29 rfl)) (mvT hZ (ww hw 30 rfl)) (notFace_of_selects (args := #[]) (mvT hZ (ww hw 32 rfl))) (mvT hZ (ww hw 32 rfl)) (mvT hZ (ww hw 31 rfl)) (by decide) (backOf (W := 0) (rmCp l Z a0 hw [] b3 b4_b (1 : Int32) T33.heap n0 (Nat.le_trans Z0 KC.1) O0 F_store_a1_27 F_size_a1_27) hZ (ww hw 33 rfl) (ww hw 2 rfl) (by decide) (by decide)) q34a q34c (g := (mkF m 136 #[vi p1, vi p2, vi p3, vi p4, vi p5, vi p6, vi (1 : Int32), vi c1, vr b3, vr b28_b, vr b28_b, vr b3, un] [(.ref b3)])) rfl (by rw [hml]; rfl) (Steps.refl _) (argsL := []) (rest := []) (lenOf pd_13 rfl) rfl (by show 2 * 0 + _ ≤ _; exact Nat.le_of_eq rfl) (hb hby at_136) (fun _ _ => ⟨rfl, rfl, (by decide : 7 + 1 ≤ _), (by decide : 15 + 2 ≤ _)⟩)
      dsimp only [Pt.U, Pt.locs, Pt.cells, Pt.slots] at X34 l34 y34 z34 st34 hQ34
      subst l34 y34 z34
      obtain ⟨b34_b, rfl, N34q, K34, sz_b34_b, E_b_34, F_store_b_34, F_size_b_34⟩ := hQ34
      have N34 := Fr.app N33 N34q
      have ne_b3_b34_b : b3 ≠ b34_b := Nat.ne_of_lt (Nat.lt_of_lt_of_le A3.lt sz_b34_b)
      have ne_b4_b_b34_b : b4_b ≠ b34_b := Nat.ne_of_lt (Nat.lt_of_lt_of_le E_b_4.lt sz_b34_b)
      have ne_b4_c_b34_b : b4_c ≠ b34_b := Nat.ne_of_lt (Nat.lt_of_lt_of_le E_c_4.lt sz_b34_b)
      have ne_b_26_b34_b : b_26 ≠ b34_b := Nat.ne_of_lt (Nat.lt_of_lt_of_le E_b_26.lt sz_b34_b)
      have ne_b28_b_b34_b : b28_b ≠ b34_b := Nat.ne_of_lt (Nat.lt_of_lt_of_le E_b_28.lt sz_b34_b)
      have ne_b_32_b34_b : b_32 ≠ b34_b := Nat.ne_of_lt (Nat.lt_of_lt_of_le E_b_32.lt sz_b34_b)
      have g_b34_b : n0 ≤ b34_b := Nat.le_trans (Nat.le_trans Z0 KC.1) sz_b34_b
      replace sz_b34_b : h0.size ≤ b34_b := Nat.le_trans KC.1 sz_b34_b
      replace A3 := A3.keep K34
      replace E_b_4 := E_b_4.keep K34
      replace E_c_4 := E_c_4.keep K34
      replace E_b_26 := E_b_26.keep K34
      replace F_value_b_26 := F_value_b_26.keep K34 nin0
      replace F_store_a1_27 := F_store_a1_27.keep K34 nin0
      replace F_size_a1_27 := F_size_a1_27.keep K34 nin0
      replace E_b_28 := E_b_28.keep K34
      replace E_b_32 := E_b_32.keep K34
      replace F_value_b_32 := F_value_b_32.keep K34 nin0
      replace F_store_a1_33 := F_store_a1_33.keep K34 nin0
      replace F_size_a1_33 := F_size_a1_33.keep K34 nin0
      replace F_filled_sto_33 := F_filled_sto_33.keep K34 nin0
      replace F_items_sto_33 := F_items_sto_33.keep K34 nin0
      replace V_arr_33 := V_arr_33.keep K34 nin0
      replace O0 := O0.keep K34 all0
      replace KC := KC.trans K34 all0
      obtain ⟨_, _, ⟨T35, L35, k35, n35⟩, -, X35, ⟨Lc35, hQ35, l35, y35, z35⟩, st35⟩ := Jvm.LawKit.callS X34 hx (y := y_5) hown (mvT hZ (ww hw 72 rfl)) (mvT hZ (ww hw 73 rfl)) (mvT hZ (ww hw 74 rfl)) (mvT hZ (ww hw 75 rfl)) (by decide) (backOf (W := 1) (rmVo l Z a0 hw [] p6 cA cl T34.heap n0 (Nat.le_trans Z0 KC.1) O0 S_high S_cache BX) hZ (ww hw 75 rfl) (ww hw 74 rfl) (by decide) (by decide)) (g := (mkF m 145 #[vi p1, vi p2, vi p3, vi p4, vi p5, vi p6, vi (1 : Int32), vi c1, vr b3, vr b28_b, vr b28_b, vr b3, vr b34_b] [(.int p6), (.ref b34_b)])) rfl (by rw [hml]; rfl) (argsL := [(.int p6)]) (rest := [(.ref b34_b)]) (lenOf pd_15 rfl) rfl (by show 2 * 0 + _ ≤ _; exact Nat.le_of_eq rfl) (hb hby at_145) (fun _ _ => ⟨rfl, rfl, (by decide : 8 + 1 ≤ _), (by decide : 17 + 1 ≤ _)⟩)
      dsimp only [Pt.U, Pt.locs, Pt.cells, Pt.slots] at X35 l35 y35 z35 st35 hQ35
      subst l35 y35 z35
      obtain ⟨b_35, rfl, N35q, K35, E_b_35, F_value_b_35⟩ := hQ35
      have N35 := Fr.app N34 N35q
      replace A3 := A3.keep K35
      replace E_b_4 := E_b_4.keep K35
      replace E_c_4 := E_c_4.keep K35
      replace E_b_26 := E_b_26.keep K35
      replace F_value_b_26 := F_value_b_26.keep K35 nin0
      replace F_store_a1_27 := F_store_a1_27.keep K35 nin0
      replace F_size_a1_27 := F_size_a1_27.keep K35 nin0
      replace E_b_28 := E_b_28.keep K35
      replace E_b_32 := E_b_32.keep K35
      replace F_value_b_32 := F_value_b_32.keep K35 nin0
      replace F_store_a1_33 := F_store_a1_33.keep K35 nin0
      replace F_size_a1_33 := F_size_a1_33.keep K35 nin0
      replace F_filled_sto_33 := F_filled_sto_33.keep K35 nin0
      replace F_items_sto_33 := F_items_sto_33.keep K35 nin0
      replace V_arr_33 := V_arr_33.keep K35 nin0
      replace E_b_34 := E_b_34.keep K35
      replace F_store_b_34 := F_store_b_34.keep K35 nin0
      replace F_size_b_34 := F_size_b_34.keep K35 nin0
      replace O0 := O0.keep K35 all0
      replace KC := KC.trans K35 all0
      obtain ⟨cq36, kq36, q36a, q36b, q36c⟩ := isOf hZ rfl E_b_34
      obtain ⟨_, _, ⟨T36, L36, k36, n36⟩, -, X36, ⟨Lc36, hQ36, l36, y36, z36⟩, st36⟩ := X35.virtualBack hx (y := y_12) (z := y_12) hown (mvT hZ (ww hw 79 rfl)) (mvT hZ (ww hw 80 rfl)) (notFace_of_selects (args := #[]) (mvT hZ (ww hw 82 rfl))) (mvT hZ (ww hw 82 rfl)) (mvT hZ (ww hw 81 rfl)) (by decide) (backOf (W := 0) (rmAddB l Z a0 hw [] b34_b b_35 b4_b (1 : Int32) (2 : Int32) b4_c k_4 (4 : Int32) [(.ref b_26), (.ref b_32), .null, .null] mr (4 : Int32) (4 : Int32) [(.ref b_26), (.ref b_32), .null, .null, .null, .null, .null, .null, .null, .null] (2 : Int32) [(.ref b_26), (.ref b_35), .null, .null, .null, .null, .null, .null, .null, .null] T35.heap n0 (Nat.le_trans Z0 KC.1) O0 F_store_b_34 F_size_b_34 E_b_34 E_b_4 F_filled_sto_33 F_items_sto_33 E_c_4 V_arr_33 E_b_35 g_b34_b MIR (Or.inl (by decide)) (by decide) (by decide) (by decide) (by decide) (by decide) (by decide) (by decide) rfl (own_els_cons (Or.inr ⟨_, rfl, E_b_26⟩) (own_els_cons (Or.inr ⟨_, rfl, E_b_32⟩) (own_els_cons (Or.inl rfl) (own_els_cons (Or.inl rfl) own_els_nil)))) (by decide) (by decide) (by decide) rfl (Nat.le_of_ble_eq_true rfl)) hZ (ww hw 83 rfl) (ww hw 2 rfl) (by decide) (by decide)) q36a q36c (g := (mkF m 148 #[vi p1, vi p2, vi p3, vi p4, vi p5, vi p6, vi (1 : Int32), vi c1, vr b3, vr b28_b, vr b28_b, vr b3, vr b34_b] [(.ref b_35), (.ref b34_b)])) rfl (by rw [hml]; rfl) (Steps.refl _) (argsL := [(.ref b_35)]) (rest := []) (lenOf pd_16 rfl) rfl (by show 2 * 0 + _ ≤ _; exact Nat.le_of_eq rfl) (hb hby at_148) (fun _ _ => ⟨rfl, rfl, (by decide : 9 + 2 ≤ _), (by decide : 18 + 12 ≤ _)⟩)
      dsimp only [Pt.U, Pt.locs, Pt.cells, Pt.slots] at X36 l36 y36 z36 st36 hQ36
      subst l36 y36 z36
      obtain ⟨b36_b, b36_c, k2_36, rfl, N36q, K36, sz_b36_b, sz_b36_c, F_store_a1_36, F_size_a1_36, E_b_36, F_filled_b_36, F_items_b_36, E_c_36, V_c_36, hq36_0⟩ := hQ36
      have N36 := Fr.app N35 N36q
      have ne_b3_b36_b : b3 ≠ b36_b := Nat.ne_of_lt (Nat.lt_of_lt_of_le A3.lt sz_b36_b)
      have ne_b4_b_b36_b : b4_b ≠ b36_b := Nat.ne_of_lt (Nat.lt_of_lt_of_le E_b_4.lt sz_b36_b)
      have ne_b4_c_b36_b : b4_c ≠ b36_b := Nat.ne_of_lt (Nat.lt_of_lt_of_le E_c_4.lt sz_b36_b)
      have ne_b_26_b36_b : b_26 ≠ b36_b := Nat.ne_of_lt (Nat.lt_of_lt_of_le E_b_26.lt sz_b36_b)
      have ne_b28_b_b36_b : b28_b ≠ b36_b := Nat.ne_of_lt (Nat.lt_of_lt_of_le E_b_28.lt sz_b36_b)
      have ne_b_32_b36_b : b_32 ≠ b36_b := Nat.ne_of_lt (Nat.lt_of_lt_of_le E_b_32.lt sz_b36_b)
      have ne_b34_b_b36_b : b34_b ≠ b36_b := Nat.ne_of_lt (Nat.lt_of_lt_of_le E_b_34.lt sz_b36_b)
      have ne_b_35_b36_b : b_35 ≠ b36_b := Nat.ne_of_lt (Nat.lt_of_lt_of_le E_b_35.lt sz_b36_b)
      have g_b36_b : n0 ≤ b36_b := Nat.le_trans (Nat.le_trans Z0 KC.1) sz_b36_b
      replace sz_b36_b : h0.size ≤ b36_b := Nat.le_trans KC.1 sz_b36_b
      have ne_b3_b36_c : b3 ≠ b36_c := Nat.ne_of_lt (Nat.lt_of_lt_of_le A3.lt sz_b36_c)
      have ne_b4_b_b36_c : b4_b ≠ b36_c := Nat.ne_of_lt (Nat.lt_of_lt_of_le E_b_4.lt sz_b36_c)
      have ne_b4_c_b36_c : b4_c ≠ b36_c := Nat.ne_of_lt (Nat.lt_of_lt_of_le E_c_4.lt sz_b36_c)
      have ne_b_26_b36_c : b_26 ≠ b36_c := Nat.ne_of_lt (Nat.lt_of_lt_of_le E_b_26.lt sz_b36_c)
      have ne_b28_b_b36_c : b28_b ≠ b36_c := Nat.ne_of_lt (Nat.lt_of_lt_of_le E_b_28.lt sz_b36_c)
      have ne_b_32_b36_c : b_32 ≠ b36_c := Nat.ne_of_lt (Nat.lt_of_lt_of_le E_b_32.lt sz_b36_c)
      have ne_b34_b_b36_c : b34_b ≠ b36_c := Nat.ne_of_lt (Nat.lt_of_lt_of_le E_b_34.lt sz_b36_c)
      have ne_b_35_b36_c : b_35 ≠ b36_c := Nat.ne_of_lt (Nat.lt_of_lt_of_le E_b_35.lt sz_b36_c)
      have g_b36_c : n0 ≤ b36_c := Nat.le_trans (Nat.le_trans Z0 KC.1) sz_b36_c
      replace sz_b36_c : h0.size ≤ b36_c := Nat.le_trans KC.1 sz_b36_c
      have nec_b_35_b34_b : b_35 ≠ b34_b := Exa.ne E_b_35 E_b_34 (by decide)
      replace A3 := A3.keep K36
      replace E_b_4 := E_b_4.keep K36
      replace E_c_4 := E_c_4.keep K36
      replace E_b_26 := E_b_26.keep K36
      replace F_value_b_26 := F_value_b_26.keep K36 (ninS ne_b_26_b34_b nin0)
      replace F_store_a1_27 := F_store_a1_27.keep K36 (ninS ne_b3_b34_b nin0)
      replace F_size_a1_27 := F_size_a1_27.keep K36 (ninS ne_b3_b34_b nin0)
      replace E_b_28 := E_b_28.keep K36
      replace E_b_32 := E_b_32.keep K36
      replace F_value_b_32 := F_value_b_32.keep K36 (ninS ne_b_32_b34_b nin0)
      replace F_store_a1_33 := F_store_a1_33.keep K36 (ninS ne_b28_b_b34_b nin0)
      replace F_size_a1_33 := F_size_a1_33.keep K36 (ninS ne_b28_b_b34_b nin0)
      replace F_filled_sto_33 := F_filled_sto_33.keep K36 (ninS ne_b4_b_b34_b nin0)
      replace F_items_sto_33 := F_items_sto_33.keep K36 (ninS ne_b4_b_b34_b nin0)
      replace V_arr_33 := V_arr_33.keep K36 (ninS ne_b4_c_b34_b nin0)
      replace E_b_34 := E_b_34.keep K36
      replace E_b_35 := E_b_35.keep K36
      replace F_value_b_35 := F_value_b_35.keep K36 (ninS nec_b_35_b34_b nin0)
      replace O0 := O0.keep K36 (allS g_b34_b all0)
      replace KC := KC.trans K36 (allS (Or.inr sz_b34_b) all0)
      obtain ⟨_, _, ⟨T37, L37, k37, n37⟩, -, X37, ⟨Lc37, hQ37, l37, y37, z37⟩, st37⟩ := Jvm.LawKit.callS X36 hx (y := y_20) hown (mvT hZ (ww hw 35 rfl)) (mvT hZ (ww hw 36 rfl)) (mvT hZ (ww hw 37 rfl)) (mvT hZ (ww hw 38 rfl)) (by decide) (backOf (W := 0) (rmH11 l Z a0 hw [] b28_b p2 p3 p4 p5 b4_b b4_c k_4 (4 : Int32) [(.ref b_26), (.ref b_32), .null, .null] b_26 b_32 T36.heap n0 (Nat.le_trans Z0 KC.1) O0 F_size_a1_33 F_store_a1_33 E_b_28 F_items_sto_33 E_c_4 V_arr_33 E_b_26 F_value_b_26 rfl (by decide) E_b_32 F_value_b_32 rfl (by decide)) hZ (ww hw 38 rfl) (ww hw 37 rfl) (by decide) (by decide)) (g := (mkF m 161 #[vi p1, vi p2, vi p3, vi p4, vi p5, vi p6, vi (1 : Int32), vi c1, vr b3, vr b28_b, vr b28_b, vr b3, vr b34_b] [(.int (1 : Int32)), (.int p5), (.int p4), (.int p3), (.int p2), (.int (1 : Int32)), (.ref b28_b)])) rfl (by rw [hml]; rfl) (argsL := [(.ref b28_b), (.int (1 : Int32)), (.int p2), (.int p3), (.int p4), (.int p5), (.int (1 : Int32))]) (rest := []) (lenOf pd_14 rfl) rfl (by show 2 * 0 + _ ≤ _; exact Nat.le_of_eq rfl) (hb hby at_161) (fun _ _ => ⟨rfl, rfl, (by decide : 11 + 1 ≤ _), (by decide : 30 + 3 ≤ _)⟩)
      dsimp only [Pt.U, Pt.locs, Pt.cells, Pt.slots] at X37 l37 y37 z37 st37 hQ37
      subst l37 y37 z37
      obtain ⟨rfl, N37q, K37⟩ := hQ37
      have N37 := Fr.app N36 N37q
      replace A3 := A3.keep K37
      replace E_b_4 := E_b_4.keep K37
      replace E_c_4 := E_c_4.keep K37
      replace E_b_26 := E_b_26.keep K37
      replace F_value_b_26 := F_value_b_26.keep K37 nin0
      replace F_store_a1_27 := F_store_a1_27.keep K37 nin0
      replace F_size_a1_27 := F_size_a1_27.keep K37 nin0
      replace E_b_28 := E_b_28.keep K37
      replace E_b_32 := E_b_32.keep K37
      replace F_value_b_32 := F_value_b_32.keep K37 nin0
      replace F_store_a1_33 := F_store_a1_33.keep K37 nin0
      replace F_size_a1_33 := F_size_a1_33.keep K37 nin0
      replace F_filled_sto_33 := F_filled_sto_33.keep K37 nin0
      replace F_items_sto_33 := F_items_sto_33.keep K37 nin0
      replace V_arr_33 := V_arr_33.keep K37 nin0
      replace E_b_34 := E_b_34.keep K37
      replace E_b_35 := E_b_35.keep K37
      replace F_value_b_35 := F_value_b_35.keep K37 nin0
      replace F_store_a1_36 := F_store_a1_36.keep K37 nin0
      replace F_size_a1_36 := F_size_a1_36.keep K37 nin0
      replace E_b_36 := E_b_36.keep K37
      replace F_filled_b_36 := F_filled_b_36.keep K37 nin0
      replace F_items_b_36 := F_items_b_36.keep K37 nin0
      replace E_c_36 := E_c_36.keep K37
      replace V_c_36 := V_c_36.keep K37 nin0
      replace O0 := O0.keep K37 all0
      replace KC := KC.trans K37 all0
      obtain ⟨_, _, ⟨T38, L38, k38, n38⟩, -, X38, ⟨Lc38, hQ38, l38, y38, z38⟩, st38⟩ := Jvm.LawKit.callS X37 hx (y := y_20) hown (mvT hZ (ww hw 35 rfl)) (mvT hZ (ww hw 36 rfl)) (mvT hZ (ww hw 37 rfl)) (mvT hZ (ww hw 38 rfl)) (by decide) (backOf (W := 0) (rmH10 l Z a0 hw [] b3 p2 p3 p4 (0 : Int32) b4_b b4_c k_4 (4 : Int32) [(.ref b_26), (.ref b_32), .null, .null] b_26 T37.heap n0 (Nat.le_trans Z0 KC.1) O0 F_size_a1_27 F_store_a1_27 A3 F_items_sto_33 E_c_4 V_arr_33 E_b_26 F_value_b_26 rfl (by decide)) hZ (ww hw 38 rfl) (ww hw 37 rfl) (by decide) (by decide)) (g := (mkF m 176 #[vi p1, vi p2, vi p3, vi p4, vi p5, vi p6, vi (1 : Int32), vi c1, vr b3, vr b28_b, vr b28_b, vr b3, vr b34_b] [(.int (0 : Int32)), (.int (0 : Int32)), (.int p4), (.int p3), (.int p2), (.int (1 : Int32)), (.ref b3)])) rfl (by rw [hml]; rfl) (argsL := [(.ref b3), (.int (1 : Int32)), (.int p2), (.int p3), (.int p4), (.int (0 : Int32)), (.int (0 : Int32))]) (rest := []) (lenOf pd_14 rfl) rfl (by show 2 * 0 + _ ≤ _; exact Nat.le_of_eq rfl) (hb hby at_176) (fun _ _ => ⟨rfl, rfl, (by decide : 12 + 1 ≤ _), (by decide : 33 + 3 ≤ _)⟩)
      dsimp only [Pt.U, Pt.locs, Pt.cells, Pt.slots] at X38 l38 y38 z38 st38 hQ38
      subst l38 y38 z38
      obtain ⟨rfl, N38q, K38⟩ := hQ38
      have N38 := Fr.app N37 N38q
      replace A3 := A3.keep K38
      replace E_b_4 := E_b_4.keep K38
      replace E_c_4 := E_c_4.keep K38
      replace E_b_26 := E_b_26.keep K38
      replace F_value_b_26 := F_value_b_26.keep K38 nin0
      replace F_store_a1_27 := F_store_a1_27.keep K38 nin0
      replace F_size_a1_27 := F_size_a1_27.keep K38 nin0
      replace E_b_28 := E_b_28.keep K38
      replace E_b_32 := E_b_32.keep K38
      replace F_value_b_32 := F_value_b_32.keep K38 nin0
      replace F_store_a1_33 := F_store_a1_33.keep K38 nin0
      replace F_size_a1_33 := F_size_a1_33.keep K38 nin0
      replace F_filled_sto_33 := F_filled_sto_33.keep K38 nin0
      replace F_items_sto_33 := F_items_sto_33.keep K38 nin0
      replace V_arr_33 := V_arr_33.keep K38 nin0
      replace E_b_34 := E_b_34.keep K38
      replace E_b_35 := E_b_35.keep K38
      replace F_value_b_35 := F_value_b_35.keep K38 nin0
      replace F_store_a1_36 := F_store_a1_36.keep K38 nin0
      replace F_size_a1_36 := F_size_a1_36.keep K38 nin0
      replace E_b_36 := E_b_36.keep K38
      replace F_filled_b_36 := F_filled_b_36.keep K38 nin0
      replace F_items_b_36 := F_items_b_36.keep K38 nin0
      replace E_c_36 := E_c_36.keep K38
      replace V_c_36 := V_c_36.keep K38 nin0
      replace O0 := O0.keep K38 all0
      replace KC := KC.trans K38 all0
      obtain ⟨_, _, ⟨T39, L39, k39, n39⟩, -, X39, ⟨Lc39, hQ39, l39, y39, z39⟩, st39⟩ := Jvm.LawKit.callS X38 hx (y := y_20) hown (mvT hZ (ww hw 35 rfl)) (mvT hZ (ww hw 36 rfl)) (mvT hZ (ww hw 37 rfl)) (mvT hZ (ww hw 38 rfl)) (by decide) (backOf (W := 0) (rmH11 l Z a0 hw [] b34_b p2 p3 p4 p6 b36_b b36_c k2_36 (4 : Int32) [(.ref b_26), (.ref b_35), .null, .null, .null, .null, .null, .null, .null, .null] b_26 b_35 T38.heap n0 (Nat.le_trans Z0 KC.1) O0 F_size_a1_36 F_store_a1_36 E_b_34 F_items_b_36 E_c_36 V_c_36 E_b_26 F_value_b_26 rfl (by decide) E_b_35 F_value_b_35 rfl (by decide)) hZ (ww hw 38 rfl) (ww hw 37 rfl) (by decide) (by decide)) (g := (mkF m 192 #[vi p1, vi p2, vi p3, vi p4, vi p5, vi p6, vi (1 : Int32), vi c1, vr b3, vr b28_b, vr b28_b, vr b3, vr b34_b] [(.int (1 : Int32)), (.int p6), (.int p4), (.int p3), (.int p2), (.int (1 : Int32)), (.ref b34_b)])) rfl (by rw [hml]; rfl) (argsL := [(.ref b34_b), (.int (1 : Int32)), (.int p2), (.int p3), (.int p4), (.int p6), (.int (1 : Int32))]) (rest := []) (lenOf pd_14 rfl) rfl (by show 2 * 0 + _ ≤ _; exact Nat.le_of_eq rfl) (hb hby at_192) (fun _ _ => ⟨rfl, rfl, (by decide : 13 + 1 ≤ _), (by decide : 36 + 3 ≤ _)⟩)
      dsimp only [Pt.U, Pt.locs, Pt.cells, Pt.slots] at X39 l39 y39 z39 st39 hQ39
      subst l39 y39 z39
      obtain ⟨rfl, N39q, K39⟩ := hQ39
      have N39 := Fr.app N38 N39q
      replace A3 := A3.keep K39
      replace E_b_4 := E_b_4.keep K39
      replace E_c_4 := E_c_4.keep K39
      replace E_b_26 := E_b_26.keep K39
      replace F_value_b_26 := F_value_b_26.keep K39 nin0
      replace F_store_a1_27 := F_store_a1_27.keep K39 nin0
      replace F_size_a1_27 := F_size_a1_27.keep K39 nin0
      replace E_b_28 := E_b_28.keep K39
      replace E_b_32 := E_b_32.keep K39
      replace F_value_b_32 := F_value_b_32.keep K39 nin0
      replace F_store_a1_33 := F_store_a1_33.keep K39 nin0
      replace F_size_a1_33 := F_size_a1_33.keep K39 nin0
      replace F_filled_sto_33 := F_filled_sto_33.keep K39 nin0
      replace F_items_sto_33 := F_items_sto_33.keep K39 nin0
      replace V_arr_33 := V_arr_33.keep K39 nin0
      replace E_b_34 := E_b_34.keep K39
      replace E_b_35 := E_b_35.keep K39
      replace F_value_b_35 := F_value_b_35.keep K39 nin0
      replace F_store_a1_36 := F_store_a1_36.keep K39 nin0
      replace F_size_a1_36 := F_size_a1_36.keep K39 nin0
      replace E_b_36 := E_b_36.keep K39
      replace F_filled_b_36 := F_filled_b_36.keep K39 nin0
      replace F_items_b_36 := F_items_b_36.keep K39 nin0
      replace E_c_36 := E_c_36.keep K39
      replace V_c_36 := V_c_36.keep K39 nin0
      replace O0 := O0.keep K39 all0
      replace KC := KC.trans K39 all0
      obtain ⟨fs, hr, hrun, hended, hW, hsame⟩ := X39.leave (v := some (.int (1 : Int32))) (fun h => by rw [Bd.returns] at h; cases h)
      refine ⟨_, _, pre30 _ ?_, hrun, hended, _, _, rfl, ?_, ⟨_, rfl⟩, hW, hsame.mono (by decide) (by decide)⟩
      · show SS p e below m T29 98 #[vi p1, vi p2, vi p3, vi p4, vi p5, vi p6, vi (1 : Int32), vi c1, vr b3, vr b28_b, un, un, un] [(.int c1)] _
        refine XS.ifYes X29.here hx rfl (pc0 := 98) (pc' := 106) rfl (hb hby at_98) rfl ((if0 _ _).trans (teq hc98_31).1) (by decide) (by decide) ?_
        show SS p e below m T29 106 #[vi p1, vi p2, vi p3, vi p4, vi p5, vi p6, vi (1 : Int32), vi c1, vr b3, vr b28_b, un, un, un] [] _
        refine XS.aload X29.here hx rfl (hb hby at_106) rfl rfl ?_
        show SS p e below m T29 108 #[vi p1, vi p2, vi p3, vi p4, vi p5, vi p6, vi (1 : Int32), vi c1, vr b3, vr b28_b, un, un, un] [(.ref b28_b)] _
        refine XS.astore X29.here hx rfl (hb hby at_108) rfl rfl (l' := #[vi p1, vi p2, vi p3, vi p4, vi p5, vi p6, vi (1 : Int32), vi c1, vr b3, vr b28_b, vr b28_b, un, un]) rfl ?_
        show SS p e below m T29 110 #[vi p1, vi p2, vi p3, vi p4, vi p5, vi p6, vi (1 : Int32), vi c1, vr b3, vr b28_b, vr b28_b, un, un] [] _
        refine XS.iload X29.here hx rfl (hb hby at_110) rfl ?_
        show SS p e below m T29 112 #[vi p1, vi p2, vi p3, vi p4, vi p5, vi p6, vi (1 : Int32), vi c1, vr b3, vr b28_b, vr b28_b, un, un] [(.int c1)] _
        refine XS.ifYes X29.here hx rfl (pc0 := 112) (pc' := 120) rfl (hb hby at_112) rfl ((if0 _ _).trans (teq hc98_31).1) (by decide) (by decide) ?_
        show SS p e below m T29 120 #[vi p1, vi p2, vi p3, vi p4, vi p5, vi p6, vi (1 : Int32), vi c1, vr b3, vr b28_b, vr b28_b, un, un] [] _
        refine XS.aload X29.here hx rfl (hb hby at_120) rfl rfl ?_
        show SS p e below m T29 122 #[vi p1, vi p2, vi p3, vi p4, vi p5, vi p6, vi (1 : Int32), vi c1, vr b3, vr b28_b, vr b28_b, un, un] [(.ref b3)] _
        refine XS.astore X29.here hx rfl (hb hby at_122) rfl rfl (l' := #[vi p1, vi p2, vi p3, vi p4, vi p5, vi p6, vi (1 : Int32), vi c1, vr b3, vr b28_b, vr b28_b, vr b3, un]) rfl ?_
        show SS p e below m T29 124 #[vi p1, vi p2, vi p3, vi p4, vi p5, vi p6, vi (1 : Int32), vi c1, vr b3, vr b28_b, vr b28_b, vr b3, un] [] _
        refine XS.aload X29.here hx rfl (hb hby at_124) rfl rfl ?_
        show SS p e below m T29 126 #[vi p1, vi p2, vi p3, vi p4, vi p5, vi p6, vi (1 : Int32), vi c1, vr b3, vr b28_b, vr b28_b, vr b3, un] [(.ref b28_b)] _
        refine XS.iload X29.here hx rfl (hb hby at_126) rfl ?_
        show SS p e below m T29 128 #[vi p1, vi p2, vi p3, vi p4, vi p5, vi p6, vi (1 : Int32), vi c1, vr b3, vr b28_b, vr b28_b, vr b3, un] [(.int p5), (.ref b28_b)] _
        refine st32 _ ?_
        show SS p e below m T32 131 #[vi p1, vi p2, vi p3, vi p4, vi p5, vi p6, vi (1 : Int32), vi c1, vr b3, vr b28_b, vr b28_b, vr b3, un] [(.ref b_32), (.ref b28_b)] _
        refine st33.trans ?_
        show SS p e below m T33 134 #[vi p1, vi p2, vi p3, vi p4, vi p5, vi p6, vi (1 : Int32), vi c1, vr b3, vr b28_b, vr b28_b, vr b3, un] [] _
        refine XS.aload X33.here hx rfl (hb hby at_134) rfl rfl ?_
        show SS p e below m T33 136 #[vi p1, vi p2, vi p3, vi p4, vi p5, vi p6, vi (1 : Int32), vi c1, vr b3, vr b28_b, vr b28_b, vr b3, un] [(.ref b3)] _
        refine st34.trans ?_
        show SS p e below m T34 139 #[vi p1, vi p2, vi p3, vi p4, vi p5, vi p6, vi (1 : Int32), vi c1, vr b3, vr b28_b, vr b28_b, vr b3, un] [(.ref b34_b)] _
        refine XS.astore X34.here hx rfl (hb hby at_139) rfl rfl (l' := #[vi p1, vi p2, vi p3, vi p4, vi p5, vi p6, vi (1 : Int32), vi c1, vr b3, vr b28_b, vr b28_b, vr b3, vr b34_b]) rfl ?_
        show SS p e below m T34 141 #[vi p1, vi p2, vi p3, vi p4, vi p5, vi p6, vi (1 : Int32), vi c1, vr b3, vr b28_b, vr b28_b, vr b3, vr b34_b] [] _
        refine XS.aload X34.here hx rfl (hb hby at_141) rfl rfl ?_
        show SS p e below m T34 143 #[vi p1, vi p2, vi p3, vi p4, vi p5, vi p6, vi (1 : Int32), vi c1, vr b3, vr b28_b, vr b28_b, vr b3, vr b34_b] [(.ref b34_b)] _
        refine XS.iload X34.here hx rfl (hb hby at_143) rfl ?_
        show SS p e below m T34 145 #[vi p1, vi p2, vi p3, vi p4, vi p5, vi p6, vi (1 : Int32), vi c1, vr b3, vr b28_b, vr b28_b, vr b3, vr b34_b] [(.int p6), (.ref b34_b)] _
        refine st35 _ ?_
        show SS p e below m T35 148 #[vi p1, vi p2, vi p3, vi p4, vi p5, vi p6, vi (1 : Int32), vi c1, vr b3, vr b28_b, vr b28_b, vr b3, vr b34_b] [(.ref b_35), (.ref b34_b)] _
        refine st36.trans ?_
        show SS p e below m T36 151 #[vi p1, vi p2, vi p3, vi p4, vi p5, vi p6, vi (1 : Int32), vi c1, vr b3, vr b28_b, vr b28_b, vr b3, vr b34_b] [] _
        refine XS.aload X36.here hx rfl (hb hby at_151) rfl rfl ?_
        show SS p e below m T36 153 #[vi p1, vi p2, vi p3, vi p4, vi p5, vi p6, vi (1 : Int32), vi c1, vr b3, vr b28_b, vr b28_b, vr b3, vr b34_b] [(.ref b28_b)] _
        refine XS.iload X36.here hx rfl (hb hby at_153) rfl ?_
        show SS p e below m T36 155 #[vi p1, vi p2, vi p3, vi p4, vi p5, vi p6, vi (1 : Int32), vi c1, vr b3, vr b28_b, vr b28_b, vr b3, vr b34_b] [(.int (1 : Int32)), (.ref b28_b)] _
        refine XS.iloadN X36.here hx rfl (hb hby at_155) rfl ?_
        show SS p e below m T36 156 #[vi p1, vi p2, vi p3, vi p4, vi p5, vi p6, vi (1 : Int32), vi c1, vr b3, vr b28_b, vr b28_b, vr b3, vr b34_b] [(.int p2), (.int (1 : Int32)), (.ref b28_b)] _
        refine XS.iloadN X36.here hx rfl (hb hby at_156) rfl ?_
        show SS p e below m T36 157 #[vi p1, vi p2, vi p3, vi p4, vi p5, vi p6, vi (1 : Int32), vi c1, vr b3, vr b28_b, vr b28_b, vr b3, vr b34_b] [(.int p3), (.int p2), (.int (1 : Int32)), (.ref b28_b)] _
        refine XS.iloadN X36.here hx rfl (hb hby at_157) rfl ?_
        show SS p e below m T36 158 #[vi p1, vi p2, vi p3, vi p4, vi p5, vi p6, vi (1 : Int32), vi c1, vr b3, vr b28_b, vr b28_b, vr b3, vr b34_b] [(.int p4), (.int p3), (.int p2), (.int (1 : Int32)), (.ref b28_b)] _
        refine XS.iload X36.here hx rfl (hb hby at_158) rfl ?_
        show SS p e below m T36 160 #[vi p1, vi p2, vi p3, vi p4, vi p5, vi p6, vi (1 : Int32), vi c1, vr b3, vr b28_b, vr b28_b, vr b3, vr b34_b] [(.int p5), (.int p4), (.int p3), (.int p2), (.int (1 : Int32)), (.ref b28_b)] _
        refine XS.iconst X36.here hx rfl (hb hby at_160) ?_
        show SS p e below m T36 161 #[vi p1, vi p2, vi p3, vi p4, vi p5, vi p6, vi (1 : Int32), vi c1, vr b3, vr b28_b, vr b28_b, vr b3, vr b34_b] [(.int (1 : Int32)), (.int p5), (.int p4), (.int p3), (.int p2), (.int (1 : Int32)), (.ref b28_b)] _
        refine st37 _ ?_
        show SS p e below m T37 164 #[vi p1, vi p2, vi p3, vi p4, vi p5, vi p6, vi (1 : Int32), vi c1, vr b3, vr b28_b, vr b28_b, vr b3, vr b34_b] [(.int (1 : Int32))] _
        refine XS.ifNo X37.here hx rfl (hb hby at_164) rfl ((if0 _ _).trans (feq (by decide)).1) ?_
        show SS p e below m T37 167 #[vi p1, vi p2, vi p3, vi p4, vi p5, vi p6, vi (1 : Int32), vi c1, vr b3, vr b28_b, vr b28_b, vr b3, vr b34_b] [] _
        refine XS.aload X37.here hx rfl (hb hby at_167) rfl rfl ?_
        show SS p e below m T37 169 #[vi p1, vi p2, vi p3, vi p4, vi p5, vi p6, vi (1 : Int32), vi c1, vr b3, vr b28_b, vr b28_b, vr b3, vr b34_b] [(.ref b3)] _
        refine XS.iload X37.here hx rfl (hb hby at_169) rfl ?_
        show SS p e below m T37 171 #[vi p1, vi p2, vi p3, vi p4, vi p5, vi p6, vi (1 : Int32), vi c1, vr b3, vr b28_b, vr b28_b, vr b3, vr b34_b] [(.int (1 : Int32)), (.ref b3)] _
        refine XS.iloadN X37.here hx rfl (hb hby at_171) rfl ?_
        show SS p e below m T37 172 #[vi p1, vi p2, vi p3, vi p4, vi p5, vi p6, vi (1 : Int32), vi c1, vr b3, vr b28_b, vr b28_b, vr b3, vr b34_b] [(.int p2), (.int (1 : Int32)), (.ref b3)] _
        refine XS.iloadN X37.here hx rfl (hb hby at_172) rfl ?_
        show SS p e below m T37 173 #[vi p1, vi p2, vi p3, vi p4, vi p5, vi p6, vi (1 : Int32), vi c1, vr b3, vr b28_b, vr b28_b, vr b3, vr b34_b] [(.int p3), (.int p2), (.int (1 : Int32)), (.ref b3)] _
        refine XS.iloadN X37.here hx rfl (hb hby at_173) rfl ?_
        show SS p e below m T37 174 #[vi p1, vi p2, vi p3, vi p4, vi p5, vi p6, vi (1 : Int32), vi c1, vr b3, vr b28_b, vr b28_b, vr b3, vr b34_b] [(.int p4), (.int p3), (.int p2), (.int (1 : Int32)), (.ref b3)] _
        refine XS.iconst X37.here hx rfl (hb hby at_174) ?_
        show SS p e below m T37 175 #[vi p1, vi p2, vi p3, vi p4, vi p5, vi p6, vi (1 : Int32), vi c1, vr b3, vr b28_b, vr b28_b, vr b3, vr b34_b] [(.int (0 : Int32)), (.int p4), (.int p3), (.int p2), (.int (1 : Int32)), (.ref b3)] _
        refine XS.iconst X37.here hx rfl (hb hby at_175) ?_
        show SS p e below m T37 176 #[vi p1, vi p2, vi p3, vi p4, vi p5, vi p6, vi (1 : Int32), vi c1, vr b3, vr b28_b, vr b28_b, vr b3, vr b34_b] [(.int (0 : Int32)), (.int (0 : Int32)), (.int p4), (.int p3), (.int p2), (.int (1 : Int32)), (.ref b3)] _
        refine st38 _ ?_
        show SS p e below m T38 179 #[vi p1, vi p2, vi p3, vi p4, vi p5, vi p6, vi (1 : Int32), vi c1, vr b3, vr b28_b, vr b28_b, vr b3, vr b34_b] [(.int (1 : Int32))] _
        refine XS.ifNo X38.here hx rfl (hb hby at_179) rfl ((if0 _ _).trans (feq (by decide)).1) ?_
        show SS p e below m T38 182 #[vi p1, vi p2, vi p3, vi p4, vi p5, vi p6, vi (1 : Int32), vi c1, vr b3, vr b28_b, vr b28_b, vr b3, vr b34_b] [] _
        refine XS.aload X38.here hx rfl (hb hby at_182) rfl rfl ?_
        show SS p e below m T38 184 #[vi p1, vi p2, vi p3, vi p4, vi p5, vi p6, vi (1 : Int32), vi c1, vr b3, vr b28_b, vr b28_b, vr b3, vr b34_b] [(.ref b34_b)] _
        refine XS.iload X38.here hx rfl (hb hby at_184) rfl ?_
        show SS p e below m T38 186 #[vi p1, vi p2, vi p3, vi p4, vi p5, vi p6, vi (1 : Int32), vi c1, vr b3, vr b28_b, vr b28_b, vr b3, vr b34_b] [(.int (1 : Int32)), (.ref b34_b)] _
        refine XS.iloadN X38.here hx rfl (hb hby at_186) rfl ?_
        show SS p e below m T38 187 #[vi p1, vi p2, vi p3, vi p4, vi p5, vi p6, vi (1 : Int32), vi c1, vr b3, vr b28_b, vr b28_b, vr b3, vr b34_b] [(.int p2), (.int (1 : Int32)), (.ref b34_b)] _
        refine XS.iloadN X38.here hx rfl (hb hby at_187) rfl ?_
        show SS p e below m T38 188 #[vi p1, vi p2, vi p3, vi p4, vi p5, vi p6, vi (1 : Int32), vi c1, vr b3, vr b28_b, vr b28_b, vr b3, vr b34_b] [(.int p3), (.int p2), (.int (1 : Int32)), (.ref b34_b)] _
        refine XS.iloadN X38.here hx rfl (hb hby at_188) rfl ?_
        show SS p e below m T38 189 #[vi p1, vi p2, vi p3, vi p4, vi p5, vi p6, vi (1 : Int32), vi c1, vr b3, vr b28_b, vr b28_b, vr b3, vr b34_b] [(.int p4), (.int p3), (.int p2), (.int (1 : Int32)), (.ref b34_b)] _
        refine XS.iload X38.here hx rfl (hb hby at_189) rfl ?_
        show SS p e below m T38 191 #[vi p1, vi p2, vi p3, vi p4, vi p5, vi p6, vi (1 : Int32), vi c1, vr b3, vr b28_b, vr b28_b, vr b3, vr b34_b] [(.int p6), (.int p4), (.int p3), (.int p2), (.int (1 : Int32)), (.ref b34_b)] _
        refine XS.iconst X38.here hx rfl (hb hby at_191) ?_
        show SS p e below m T38 192 #[vi p1, vi p2, vi p3, vi p4, vi p5, vi p6, vi (1 : Int32), vi c1, vr b3, vr b28_b, vr b28_b, vr b3, vr b34_b] [(.int (1 : Int32)), (.int p6), (.int p4), (.int p3), (.int p2), (.int (1 : Int32)), (.ref b34_b)] _
        refine st39 _ ?_
        show SS p e below m T39 195 #[vi p1, vi p2, vi p3, vi p4, vi p5, vi p6, vi (1 : Int32), vi c1, vr b3, vr b28_b, vr b28_b, vr b3, vr b34_b] [(.int (1 : Int32))] _
        refine XS.ifNo X39.here hx rfl (hb hby at_195) rfl ((if0 _ _).trans (feq (by decide)).1) ?_
        show SS p e below m T39 198 #[vi p1, vi p2, vi p3, vi p4, vi p5, vi p6, vi (1 : Int32), vi c1, vr b3, vr b28_b, vr b28_b, vr b3, vr b34_b] [] _
        refine XS.iconst X39.here hx rfl (hb hby at_198) ?_
        show SS p e below m T39 199 #[vi p1, vi p2, vi p3, vi p4, vi p5, vi p6, vi (1 : Int32), vi c1, vr b3, vr b28_b, vr b28_b, vr b3, vr b34_b] [(.int (1 : Int32))] _
        refine XS.goto X39.here hx rfl (pc0 := 199) (pc' := 203) rfl (hb hby at_199) (by decide) (by decide) ?_
        show SS p e below m T39 203 #[vi p1, vi p2, vi p3, vi p4, vi p5, vi p6, vi (1 : Int32), vi c1, vr b3, vr b28_b, vr b28_b, vr b3, vr b34_b] [(.int (1 : Int32))] _
        exact retN X39 hx (t := .boolean) Bd.returns (by simp) (hb hby at_203) hr
      · show Q_rm0 Z p1 p2 p3 p4 p5 p6 cA cl mr h0 n0 _ T39.heap _
        exact ⟨rfl, N39, KC⟩
    · obtain ⟨_, _, ⟨T40, L40, k40, n40⟩, -, X40, ⟨Lc40, hQ40, l40, y40, z40⟩, st40⟩ := Jvm.LawKit.callS X29 hx (y := y_5) hown (mvT hZ (ww hw 72 rfl)) (mvT hZ (ww hw 73 rfl)) (mvT hZ (ww hw 74 rfl)) (mvT hZ (ww hw 75 rfl)) (by decide) (backOf (W := 1) (rmVo l Z a0 hw [] p5 cA cl T29.heap n0 (Nat.le_trans Z0 KC.1) O0 S_high S_cache BX) hZ (ww hw 75 rfl) (ww hw 74 rfl) (by decide) (by decide)) (g := (mkF m 128 #[vi p1, vi p2, vi p3, vi p4, vi p5, vi p6, vi (1 : Int32), vi c1, vr b3, vr b28_b, vr b3, vr b28_b, un] [(.int p5), (.ref b3)])) rfl (by rw [hml]; rfl) (argsL := [(.int p5)]) (rest := [(.ref b3)]) (lenOf pd_15 rfl) rfl (by show 2 * 0 + _ ≤ _; exact Nat.le_of_eq rfl) (hb hby at_128) (fun _ _ => ⟨rfl, rfl, (by decide : 6 + 1 ≤ _), (by decide : 14 + 1 ≤ _)⟩)
      dsimp only [Pt.U, Pt.locs, Pt.cells, Pt.slots] at X40 l40 y40 z40 st40 hQ40
      subst l40 y40 z40
      obtain ⟨b_40, rfl, N40q, K40, E_b_40, F_value_b_40⟩ := hQ40
      have N40 := Fr.app N29 N40q
      replace A3 := A3.keep K40
      replace E_b_4 := E_b_4.keep K40
      replace E_c_4 := E_c_4.keep K40
      replace E_b_26 := E_b_26.keep K40
      replace F_value_b_26 := F_value_b_26.keep K40 nin0
      replace F_store_a1_27 := F_store_a1_27.keep K40 nin0
      replace F_size_a1_27 := F_size_a1_27.keep K40 nin0
      replace F_filled_sto_27 := F_filled_sto_27.keep K40 nin0
      replace F_items_sto_27 := F_items_sto_27.keep K40 nin0
      replace V_arr_27 := V_arr_27.keep K40 nin0
      replace E_b_28 := E_b_28.keep K40
      replace F_store_b_28 := F_store_b_28.keep K40 nin0
      replace F_size_b_28 := F_size_b_28.keep K40 nin0
      replace O0 := O0.keep K40 all0
      replace KC := KC.trans K40 all0
      obtain ⟨cq41, kq41, q41a, q41b, q41c⟩ := isOf hZ rfl A3
      obtain ⟨_, _, ⟨T41, L41, k41, n41⟩, -, X41, ⟨Lc41, hQ41, l41, y41, z41⟩, st41⟩ := X40.virtualBack hx (y := y_12) (z := y_12) hown (mvT hZ (ww hw 79 rfl)) (mvT hZ (ww hw 80 rfl)) (notFace_of_selects (args := #[]) (mvT hZ (ww hw 82 rfl))) (mvT hZ (ww hw 82 rfl)) (mvT hZ (ww hw 81 rfl)) (by decide) (backOf (W := 0) (rmAddA l Z a0 hw [] b3 b_40 b4_b (1 : Int32) (1 : Int32) b4_c k_4 (4 : Int32) [(.ref b_26), .null, .null, .null] (2 : Int32) [(.ref b_26), (.ref b_40), .null, .null] T40.heap n0 (Nat.le_trans Z0 KC.1) O0 F_store_a1_27 F_size_a1_27 A3 E_b_4 F_filled_sto_27 F_items_sto_27 E_c_4 V_arr_27 E_b_40 g_b3 g_b4_b g_b4_c hq4_0 (by decide) (by decide) (by decide) (by decide) (by decide) rfl (Nat.le_of_ble_eq_true rfl)) hZ (ww hw 83 rfl) (ww hw 2 rfl) (by decide) (by decide)) q41a q41c (g := (mkF m 131 #[vi p1, vi p2, vi p3, vi p4, vi p5, vi p6, vi (1 : Int32), vi c1, vr b3, vr b28_b, vr b3, vr b28_b, un] [(.ref b_40), (.ref b3)])) rfl (by rw [hml]; rfl) (Steps.refl _) (argsL := [(.ref b_40)]) (rest := []) (lenOf pd_16 rfl) rfl (by show 2 * 0 + _ ≤ _; exact Nat.le_of_eq rfl) (hb hby at_131) (fun _ _ => ⟨rfl, rfl, (by decide : 7 + 0 ≤ _), (by decide : 15 + 0 ≤ _)⟩)
      dsimp only [Pt.U, Pt.locs, Pt.cells, Pt.slots] at X41 l41 y41 z41 st41 hQ41
      subst l41 y41 z41
      obtain ⟨rfl, N41q, K41, F_store_a1_41, F_size_a1_41, F_filled_sto_41, F_items_sto_41, V_arr_41⟩ := hQ41
      have N41 := Fr.app N40 N41q
      have nec_b_40_b4_c : b_40 ≠ b4_c := Exa.ne E_b_40 E_c_4 (by decide)
      have nec_b_40_b4_b : b_40 ≠ b4_b := Exa.ne E_b_40 E_b_4 (by decide)
      have nec_b_40_b3 : b_40 ≠ b3 := Exa.ne E_b_40 A3 (by decide)
      replace A3 := A3.keep K41
      replace E_b_4 := E_b_4.keep K41
      replace E_c_4 := E_c_4.keep K41
      replace E_b_26 := E_b_26.keep K41
      replace F_value_b_26 := F_value_b_26.keep K41 (ninS nec_b_26_b3 (ninS nec_b_26_b4_b (ninS nec_b_26_b4_c nin0)))
      replace E_b_28 := E_b_28.keep K41
      replace F_store_b_28 := F_store_b_28.keep K41 (ninS (Ne.symm ne_b3_b28_b) (ninS (Ne.symm ne_b4_b_b28_b) (ninS (Ne.symm ne_b4_c_b28_b) nin0)))
      replace F_size_b_28 := F_size_b_28.keep K41 (ninS (Ne.symm ne_b3_b28_b) (ninS (Ne.symm ne_b4_b_b28_b) (ninS (Ne.symm ne_b4_c_b28_b) nin0)))
      replace E_b_40 := E_b_40.keep K41
      replace F_value_b_40 := F_value_b_40.keep K41 (ninS nec_b_40_b3 (ninS nec_b_40_b4_b (ninS nec_b_40_b4_c nin0)))
      replace O0 := O0.keep K41 (allS g_b3 (allS g_b4_b (allS g_b4_c all0)))
      replace KC := KC.trans K41 (allS (Or.inr sz_b3) (allS (Or.inr sz_b4_b) (allS (Or.inr sz_b4_c) all0)))
      obtain ⟨cq42, kq42, q42a, q42b, q42c⟩ := isOf hZ rfl E_b_28
      obtain ⟨_, _, ⟨T42, L42, k42, n42⟩, -, X42, ⟨Lc42, hQ42, l42, y42, z42⟩, st42⟩ := X41.virtualBack hx (y := y_13) (z := y_13) hown (mvT hZ (ww hw 29 rfl)) (mvT hZ (ww hw 30 rfl)) (notFace_of_selects (args := #[]) (mvT hZ (ww hw 32 rfl))) (mvT hZ (ww hw 32 rfl)) (mvT hZ (ww hw 31 rfl)) (by decide) (backOf (W := 0) (rmCp l Z a0 hw [] b28_b b4_b (1 : Int32) T41.heap n0 (Nat.le_trans Z0 KC.1) O0 F_store_b_28 F_size_b_28) hZ (ww hw 33 rfl) (ww hw 2 rfl) (by decide) (by decide)) q42a q42c (g := (mkF m 136 #[vi p1, vi p2, vi p3, vi p4, vi p5, vi p6, vi (1 : Int32), vi c1, vr b3, vr b28_b, vr b3, vr b28_b, un] [(.ref b28_b)])) rfl (by rw [hml]; rfl) (Steps.refl _) (argsL := []) (rest := []) (lenOf pd_13 rfl) rfl (by show 2 * 0 + _ ≤ _; exact Nat.le_of_eq rfl) (hb hby at_136) (fun _ _ => ⟨rfl, rfl, (by decide : 7 + 1 ≤ _), (by decide : 15 + 2 ≤ _)⟩)
      dsimp only [Pt.U, Pt.locs, Pt.cells, Pt.slots] at X42 l42 y42 z42 st42 hQ42
      subst l42 y42 z42
      obtain ⟨b42_b, rfl, N42q, K42, sz_b42_b, E_b_42, F_store_b_42, F_size_b_42⟩ := hQ42
      have N42 := Fr.app N41 N42q
      have ne_b3_b42_b : b3 ≠ b42_b := Nat.ne_of_lt (Nat.lt_of_lt_of_le A3.lt sz_b42_b)
      have ne_b4_b_b42_b : b4_b ≠ b42_b := Nat.ne_of_lt (Nat.lt_of_lt_of_le E_b_4.lt sz_b42_b)
      have ne_b4_c_b42_b : b4_c ≠ b42_b := Nat.ne_of_lt (Nat.lt_of_lt_of_le E_c_4.lt sz_b42_b)
      have ne_b_26_b42_b : b_26 ≠ b42_b := Nat.ne_of_lt (Nat.lt_of_lt_of_le E_b_26.lt sz_b42_b)
      have ne_b28_b_b42_b : b28_b ≠ b42_b := Nat.ne_of_lt (Nat.lt_of_lt_of_le E_b_28.lt sz_b42_b)
      have ne_b_40_b42_b : b_40 ≠ b42_b := Nat.ne_of_lt (Nat.lt_of_lt_of_le E_b_40.lt sz_b42_b)
      have g_b42_b : n0 ≤ b42_b := Nat.le_trans (Nat.le_trans Z0 KC.1) sz_b42_b
      replace sz_b42_b : h0.size ≤ b42_b := Nat.le_trans KC.1 sz_b42_b
      replace A3 := A3.keep K42
      replace E_b_4 := E_b_4.keep K42
      replace E_c_4 := E_c_4.keep K42
      replace E_b_26 := E_b_26.keep K42
      replace F_value_b_26 := F_value_b_26.keep K42 nin0
      replace E_b_28 := E_b_28.keep K42
      replace F_store_b_28 := F_store_b_28.keep K42 nin0
      replace F_size_b_28 := F_size_b_28.keep K42 nin0
      replace E_b_40 := E_b_40.keep K42
      replace F_value_b_40 := F_value_b_40.keep K42 nin0
      replace F_store_a1_41 := F_store_a1_41.keep K42 nin0
      replace F_size_a1_41 := F_size_a1_41.keep K42 nin0
      replace F_filled_sto_41 := F_filled_sto_41.keep K42 nin0
      replace F_items_sto_41 := F_items_sto_41.keep K42 nin0
      replace V_arr_41 := V_arr_41.keep K42 nin0
      replace O0 := O0.keep K42 all0
      replace KC := KC.trans K42 all0
      obtain ⟨_, _, ⟨T43, L43, k43, n43⟩, -, X43, ⟨Lc43, hQ43, l43, y43, z43⟩, st43⟩ := Jvm.LawKit.callS X42 hx (y := y_5) hown (mvT hZ (ww hw 72 rfl)) (mvT hZ (ww hw 73 rfl)) (mvT hZ (ww hw 74 rfl)) (mvT hZ (ww hw 75 rfl)) (by decide) (backOf (W := 1) (rmVo l Z a0 hw [] p6 cA cl T42.heap n0 (Nat.le_trans Z0 KC.1) O0 S_high S_cache BX) hZ (ww hw 75 rfl) (ww hw 74 rfl) (by decide) (by decide)) (g := (mkF m 145 #[vi p1, vi p2, vi p3, vi p4, vi p5, vi p6, vi (1 : Int32), vi c1, vr b3, vr b28_b, vr b3, vr b28_b, vr b42_b] [(.int p6), (.ref b42_b)])) rfl (by rw [hml]; rfl) (argsL := [(.int p6)]) (rest := [(.ref b42_b)]) (lenOf pd_15 rfl) rfl (by show 2 * 0 + _ ≤ _; exact Nat.le_of_eq rfl) (hb hby at_145) (fun _ _ => ⟨rfl, rfl, (by decide : 8 + 1 ≤ _), (by decide : 17 + 1 ≤ _)⟩)
      dsimp only [Pt.U, Pt.locs, Pt.cells, Pt.slots] at X43 l43 y43 z43 st43 hQ43
      subst l43 y43 z43
      obtain ⟨b_43, rfl, N43q, K43, E_b_43, F_value_b_43⟩ := hQ43
      have N43 := Fr.app N42 N43q
      replace A3 := A3.keep K43
      replace E_b_4 := E_b_4.keep K43
      replace E_c_4 := E_c_4.keep K43
      replace E_b_26 := E_b_26.keep K43
      replace F_value_b_26 := F_value_b_26.keep K43 nin0
      replace E_b_28 := E_b_28.keep K43
      replace F_store_b_28 := F_store_b_28.keep K43 nin0
      replace F_size_b_28 := F_size_b_28.keep K43 nin0
      replace E_b_40 := E_b_40.keep K43
      replace F_value_b_40 := F_value_b_40.keep K43 nin0
      replace F_store_a1_41 := F_store_a1_41.keep K43 nin0
      replace F_size_a1_41 := F_size_a1_41.keep K43 nin0
      replace F_filled_sto_41 := F_filled_sto_41.keep K43 nin0
      replace F_items_sto_41 := F_items_sto_41.keep K43 nin0
      replace V_arr_41 := V_arr_41.keep K43 nin0
      replace E_b_42 := E_b_42.keep K43
      replace F_store_b_42 := F_store_b_42.keep K43 nin0
      replace F_size_b_42 := F_size_b_42.keep K43 nin0
      replace O0 := O0.keep K43 all0
      replace KC := KC.trans K43 all0
      obtain ⟨cq44, kq44, q44a, q44b, q44c⟩ := isOf hZ rfl E_b_42
      obtain ⟨_, _, ⟨T44, L44, k44, n44⟩, -, X44, ⟨Lc44, hQ44, l44, y44, z44⟩, st44⟩ := X43.virtualBack hx (y := y_12) (z := y_12) hown (mvT hZ (ww hw 79 rfl)) (mvT hZ (ww hw 80 rfl)) (notFace_of_selects (args := #[]) (mvT hZ (ww hw 82 rfl))) (mvT hZ (ww hw 82 rfl)) (mvT hZ (ww hw 81 rfl)) (by decide) (backOf (W := 0) (rmAddB l Z a0 hw [] b42_b b_43 b4_b (1 : Int32) (2 : Int32) b4_c k_4 (4 : Int32) [(.ref b_26), (.ref b_40), .null, .null] mr (4 : Int32) (4 : Int32) [(.ref b_26), (.ref b_40), .null, .null, .null, .null, .null, .null, .null, .null] (2 : Int32) [(.ref b_26), (.ref b_43), .null, .null, .null, .null, .null, .null, .null, .null] T43.heap n0 (Nat.le_trans Z0 KC.1) O0 F_store_b_42 F_size_b_42 E_b_42 E_b_4 F_filled_sto_41 F_items_sto_41 E_c_4 V_arr_41 E_b_43 g_b42_b MIR (Or.inl (by decide)) (by decide) (by decide) (by decide) (by decide) (by decide) (by decide) (by decide) rfl (own_els_cons (Or.inr ⟨_, rfl, E_b_26⟩) (own_els_cons (Or.inr ⟨_, rfl, E_b_40⟩) (own_els_cons (Or.inl rfl) (own_els_cons (Or.inl rfl) own_els_nil)))) (by decide) (by decide) (by decide) rfl (Nat.le_of_ble_eq_true rfl)) hZ (ww hw 83 rfl) (ww hw 2 rfl) (by decide) (by decide)) q44a q44c (g := (mkF m 148 #[vi p1, vi p2, vi p3, vi p4, vi p5, vi p6, vi (1 : Int32), vi c1, vr b3, vr b28_b, vr b3, vr b28_b, vr b42_b] [(.ref b_43), (.ref b42_b)])) rfl (by rw [hml]; rfl) (Steps.refl _) (argsL := [(.ref b_43)]) (rest := []) (lenOf pd_16 rfl) rfl (by show 2 * 0 + _ ≤ _; exact Nat.le_of_eq rfl) (hb hby at_148) (fun _ _ => ⟨rfl, rfl, (by decide : 9 + 2 ≤ _), (by decide : 18 + 12 ≤ _)⟩)
      dsimp only [Pt.U, Pt.locs, Pt.cells, Pt.slots] at X44 l44 y44 z44 st44 hQ44
      subst l44 y44 z44
      obtain ⟨b44_b, b44_c, k2_44, rfl, N44q, K44, sz_b44_b, sz_b44_c, F_store_a1_44, F_size_a1_44, E_b_44, F_filled_b_44, F_items_b_44, E_c_44, V_c_44, hq44_0⟩ := hQ44
      have N44 := Fr.app N43 N44q
      have ne_b3_b44_b : b3 ≠ b44_b := Nat.ne_of_lt (Nat.lt_of_lt_of_le A3.lt sz_b44_b)
      have ne_b4_b_b44_b : b4_b ≠ b44_b := Nat.ne_of_lt (Nat.lt_of_lt_of_le E_b_4.lt sz_b44_b)
      have ne_b4_c_b44_b : b4_c ≠ b44_b := Nat.ne_of_lt (Nat.lt_of_lt_of_le E_c_4.lt sz_b44_b)
      have ne_b_26_b44_b : b_26 ≠ b44_b := Nat.ne_of_lt (Nat.lt_of_lt_of_le E_b_26.lt sz_b44_b)
      have ne_b28_b_b44_b : b28_b ≠ b44_b := Nat.ne_of_lt (Nat.lt_of_lt_of_le E_b_28.lt sz_b44_b)
      have ne_b_40_b44_b : b_40 ≠ b44_b := Nat.ne_of_lt (Nat.lt_of_lt_of_le E_b_40.lt sz_b44_b)
      have ne_b42_b_b44_b : b42_b ≠ b44_b := Nat.ne_of_lt (Nat.lt_of_lt_of_le E_b_42.lt sz_b44_b)
      have ne_b_43_b44_b : b_43 ≠ b44_b := Nat.ne_of_lt (Nat.lt_of_lt_of_le E_b_43.lt sz_b44_b)
      have g_b44_b : n0 ≤ b44_b := Nat.le_trans (Nat.le_trans Z0 KC.1) sz_b44_b
      replace sz_b44_b : h0.size ≤ b44_b := Nat.le_trans KC.1 sz_b44_b
      have ne_b3_b44_c : b3 ≠ b44_c := Nat.ne_of_lt (Nat.lt_of_lt_of_le A3.lt sz_b44_c)
      have ne_b4_b_b44_c : b4_b ≠ b44_c := Nat.ne_of_lt (Nat.lt_of_lt_of_le E_b_4.lt sz_b44_c)
      have ne_b4_c_b44_c : b4_c ≠ b44_c := Nat.ne_of_lt (Nat.lt_of_lt_of_le E_c_4.lt sz_b44_c)
      have ne_b_26_b44_c : b_26 ≠ b44_c := Nat.ne_of_lt (Nat.lt_of_lt_of_le E_b_26.lt sz_b44_c)
      have ne_b28_b_b44_c : b28_b ≠ b44_c := Nat.ne_of_lt (Nat.lt_of_lt_of_le E_b_28.lt sz_b44_c)
      have ne_b_40_b44_c : b_40 ≠ b44_c := Nat.ne_of_lt (Nat.lt_of_lt_of_le E_b_40.lt sz_b44_c)
      have ne_b42_b_b44_c : b42_b ≠ b44_c := Nat.ne_of_lt (Nat.lt_of_lt_of_le E_b_42.lt sz_b44_c)
      have ne_b_43_b44_c : b_43 ≠ b44_c := Nat.ne_of_lt (Nat.lt_of_lt_of_le E_b_43.lt sz_b44_c)
      have g_b44_c : n0 ≤ b44_c := Nat.le_trans (Nat.le_trans Z0 KC.1) sz_b44_c
      replace sz_b44_c : h0.size ≤ b44_c := Nat.le_trans KC.1 sz_b44_c
      have nec_b_43_b42_b : b_43 ≠ b42_b := Exa.ne E_b_43 E_b_42 (by decide)
      replace A3 := A3.keep K44
      replace E_b_4 := E_b_4.keep K44
      replace E_c_4 := E_c_4.keep K44
      replace E_b_26 := E_b_26.keep K44
      replace F_value_b_26 := F_value_b_26.keep K44 (ninS ne_b_26_b42_b nin0)
      replace E_b_28 := E_b_28.keep K44
      replace F_store_b_28 := F_store_b_28.keep K44 (ninS ne_b28_b_b42_b nin0)
      replace F_size_b_28 := F_size_b_28.keep K44 (ninS ne_b28_b_b42_b nin0)
      replace E_b_40 := E_b_40.keep K44
      replace F_value_b_40 := F_value_b_40.keep K44 (ninS ne_b_40_b42_b nin0)
      replace F_store_a1_41 := F_store_a1_41.keep K44 (ninS ne_b3_b42_b nin0)
      replace F_size_a1_41 := F_size_a1_41.keep K44 (ninS ne_b3_b42_b nin0)
      replace F_filled_sto_41 := F_filled_sto_41.keep K44 (ninS ne_b4_b_b42_b nin0)
      replace F_items_sto_41 := F_items_sto_41.keep K44 (ninS ne_b4_b_b42_b nin0)
      replace V_arr_41 := V_arr_41.keep K44 (ninS ne_b4_c_b42_b nin0)
      replace E_b_42 := E_b_42.keep K44
      replace E_b_43 := E_b_43.keep K44
      replace F_value_b_43 := F_value_b_43.keep K44 (ninS nec_b_43_b42_b nin0)
      replace O0 := O0.keep K44 (allS g_b42_b all0)
      replace KC := KC.trans K44 (allS (Or.inr sz_b42_b) all0)
      obtain ⟨_, _, ⟨T45, L45, k45, n45⟩, -, X45, ⟨Lc45, hQ45, l45, y45, z45⟩, st45⟩ := Jvm.LawKit.callS X44 hx (y := y_20) hown (mvT hZ (ww hw 35 rfl)) (mvT hZ (ww hw 36 rfl)) (mvT hZ (ww hw 37 rfl)) (mvT hZ (ww hw 38 rfl)) (by decide) (backOf (W := 0) (rmH11 l Z a0 hw [] b3 p2 p3 p4 p5 b4_b b4_c k_4 (4 : Int32) [(.ref b_26), (.ref b_40), .null, .null] b_26 b_40 T44.heap n0 (Nat.le_trans Z0 KC.1) O0 F_size_a1_41 F_store_a1_41 A3 F_items_sto_41 E_c_4 V_arr_41 E_b_26 F_value_b_26 rfl (by decide) E_b_40 F_value_b_40 rfl (by decide)) hZ (ww hw 38 rfl) (ww hw 37 rfl) (by decide) (by decide)) (g := (mkF m 161 #[vi p1, vi p2, vi p3, vi p4, vi p5, vi p6, vi (1 : Int32), vi c1, vr b3, vr b28_b, vr b3, vr b28_b, vr b42_b] [(.int (1 : Int32)), (.int p5), (.int p4), (.int p3), (.int p2), (.int (1 : Int32)), (.ref b3)])) rfl (by rw [hml]; rfl) (argsL := [(.ref b3), (.int (1 : Int32)), (.int p2), (.int p3), (.int p4), (.int p5), (.int (1 : Int32))]) (rest := []) (lenOf pd_14 rfl) rfl (by show 2 * 0 + _ ≤ _; exact Nat.le_of_eq rfl) (hb hby at_161) (fun _ _ => ⟨rfl, rfl, (by decide : 11 + 1 ≤ _), (by decide : 30 + 3 ≤ _)⟩)
      dsimp only [Pt.U, Pt.locs, Pt.cells, Pt.slots] at X45 l45 y45 z45 st45 hQ45
      subst l45 y45 z45
      obtain ⟨rfl, N45q, K45⟩ := hQ45
      have N45 := Fr.app N44 N45q
      replace A3 := A3.keep K45
      replace E_b_4 := E_b_4.keep K45
      replace E_c_4 := E_c_4.keep K45
      replace E_b_26 := E_b_26.keep K45
      replace F_value_b_26 := F_value_b_26.keep K45 nin0
      replace E_b_28 := E_b_28.keep K45
      replace F_store_b_28 := F_store_b_28.keep K45 nin0
      replace F_size_b_28 := F_size_b_28.keep K45 nin0
      replace E_b_40 := E_b_40.keep K45
      replace F_value_b_40 := F_value_b_40.keep K45 nin0
      replace F_store_a1_41 := F_store_a1_41.keep K45 nin0
      replace F_size_a1_41 := F_size_a1_41.keep K45 nin0
      replace F_filled_sto_41 := F_filled_sto_41.keep K45 nin0
      replace F_items_sto_41 := F_items_sto_41.keep K45 nin0
      replace V_arr_41 := V_arr_41.keep K45 nin0
      replace E_b_42 := E_b_42.keep K45
      replace E_b_43 := E_b_43.keep K45
      replace F_value_b_43 := F_value_b_43.keep K45 nin0
      replace F_store_a1_44 := F_store_a1_44.keep K45 nin0
      replace F_size_a1_44 := F_size_a1_44.keep K45 nin0
      replace E_b_44 := E_b_44.keep K45
      replace F_filled_b_44 := F_filled_b_44.keep K45 nin0
      replace F_items_b_44 := F_items_b_44.keep K45 nin0
      replace E_c_44 := E_c_44.keep K45
      replace V_c_44 := V_c_44.keep K45 nin0
      replace O0 := O0.keep K45 all0
      replace KC := KC.trans K45 all0
      obtain ⟨_, _, ⟨T46, L46, k46, n46⟩, -, X46, ⟨Lc46, hQ46, l46, y46, z46⟩, st46⟩ := Jvm.LawKit.callS X45 hx (y := y_20) hown (mvT hZ (ww hw 35 rfl)) (mvT hZ (ww hw 36 rfl)) (mvT hZ (ww hw 37 rfl)) (mvT hZ (ww hw 38 rfl)) (by decide) (backOf (W := 0) (rmH10 l Z a0 hw [] b28_b p2 p3 p4 (0 : Int32) b4_b b4_c k_4 (4 : Int32) [(.ref b_26), (.ref b_40), .null, .null] b_26 T45.heap n0 (Nat.le_trans Z0 KC.1) O0 F_size_b_28 F_store_b_28 E_b_28 F_items_sto_41 E_c_4 V_arr_41 E_b_26 F_value_b_26 rfl (by decide)) hZ (ww hw 38 rfl) (ww hw 37 rfl) (by decide) (by decide)) (g := (mkF m 176 #[vi p1, vi p2, vi p3, vi p4, vi p5, vi p6, vi (1 : Int32), vi c1, vr b3, vr b28_b, vr b3, vr b28_b, vr b42_b] [(.int (0 : Int32)), (.int (0 : Int32)), (.int p4), (.int p3), (.int p2), (.int (1 : Int32)), (.ref b28_b)])) rfl (by rw [hml]; rfl) (argsL := [(.ref b28_b), (.int (1 : Int32)), (.int p2), (.int p3), (.int p4), (.int (0 : Int32)), (.int (0 : Int32))]) (rest := []) (lenOf pd_14 rfl) rfl (by show 2 * 0 + _ ≤ _; exact Nat.le_of_eq rfl) (hb hby at_176) (fun _ _ => ⟨rfl, rfl, (by decide : 12 + 1 ≤ _), (by decide : 33 + 3 ≤ _)⟩)
      dsimp only [Pt.U, Pt.locs, Pt.cells, Pt.slots] at X46 l46 y46 z46 st46 hQ46
      subst l46 y46 z46
      obtain ⟨rfl, N46q, K46⟩ := hQ46
      have N46 := Fr.app N45 N46q
      replace A3 := A3.keep K46
      replace E_b_4 := E_b_4.keep K46
      replace E_c_4 := E_c_4.keep K46
      replace E_b_26 := E_b_26.keep K46
      replace F_value_b_26 := F_value_b_26.keep K46 nin0
      replace E_b_28 := E_b_28.keep K46
      replace F_store_b_28 := F_store_b_28.keep K46 nin0
      replace F_size_b_28 := F_size_b_28.keep K46 nin0
      replace E_b_40 := E_b_40.keep K46
      replace F_value_b_40 := F_value_b_40.keep K46 nin0
      replace F_store_a1_41 := F_store_a1_41.keep K46 nin0
      replace F_size_a1_41 := F_size_a1_41.keep K46 nin0
      replace F_filled_sto_41 := F_filled_sto_41.keep K46 nin0
      replace F_items_sto_41 := F_items_sto_41.keep K46 nin0
      replace V_arr_41 := V_arr_41.keep K46 nin0
      replace E_b_42 := E_b_42.keep K46
      replace E_b_43 := E_b_43.keep K46
      replace F_value_b_43 := F_value_b_43.keep K46 nin0
      replace F_store_a1_44 := F_store_a1_44.keep K46 nin0
      replace F_size_a1_44 := F_size_a1_44.keep K46 nin0
      replace E_b_44 := E_b_44.keep K46
      replace F_filled_b_44 := F_filled_b_44.keep K46 nin0
      replace F_items_b_44 := F_items_b_44.keep K46 nin0
      replace E_c_44 := E_c_44.keep K46
      replace V_c_44 := V_c_44.keep K46 nin0
      replace O0 := O0.keep K46 all0
      replace KC := KC.trans K46 all0
      obtain ⟨_, _, ⟨T47, L47, k47, n47⟩, -, X47, ⟨Lc47, hQ47, l47, y47, z47⟩, st47⟩ := Jvm.LawKit.callS X46 hx (y := y_20) hown (mvT hZ (ww hw 35 rfl)) (mvT hZ (ww hw 36 rfl)) (mvT hZ (ww hw 37 rfl)) (mvT hZ (ww hw 38 rfl)) (by decide) (backOf (W := 0) (rmH11 l Z a0 hw [] b42_b p2 p3 p4 p6 b44_b b44_c k2_44 (4 : Int32) [(.ref b_26), (.ref b_43), .null, .null, .null, .null, .null, .null, .null, .null] b_26 b_43 T46.heap n0 (Nat.le_trans Z0 KC.1) O0 F_size_a1_44 F_store_a1_44 E_b_42 F_items_b_44 E_c_44 V_c_44 E_b_26 F_value_b_26 rfl (by decide) E_b_43 F_value_b_43 rfl (by decide)) hZ (ww hw 38 rfl) (ww hw 37 rfl) (by decide) (by decide)) (g := (mkF m 192 #[vi p1, vi p2, vi p3, vi p4, vi p5, vi p6, vi (1 : Int32), vi c1, vr b3, vr b28_b, vr b3, vr b28_b, vr b42_b] [(.int (1 : Int32)), (.int p6), (.int p4), (.int p3), (.int p2), (.int (1 : Int32)), (.ref b42_b)])) rfl (by rw [hml]; rfl) (argsL := [(.ref b42_b), (.int (1 : Int32)), (.int p2), (.int p3), (.int p4), (.int p6), (.int (1 : Int32))]) (rest := []) (lenOf pd_14 rfl) rfl (by show 2 * 0 + _ ≤ _; exact Nat.le_of_eq rfl) (hb hby at_192) (fun _ _ => ⟨rfl, rfl, (by decide : 13 + 1 ≤ _), (by decide : 36 + 3 ≤ _)⟩)
      dsimp only [Pt.U, Pt.locs, Pt.cells, Pt.slots] at X47 l47 y47 z47 st47 hQ47
      subst l47 y47 z47
      obtain ⟨rfl, N47q, K47⟩ := hQ47
      have N47 := Fr.app N46 N47q
      replace A3 := A3.keep K47
      replace E_b_4 := E_b_4.keep K47
      replace E_c_4 := E_c_4.keep K47
      replace E_b_26 := E_b_26.keep K47
      replace F_value_b_26 := F_value_b_26.keep K47 nin0
      replace E_b_28 := E_b_28.keep K47
      replace F_store_b_28 := F_store_b_28.keep K47 nin0
      replace F_size_b_28 := F_size_b_28.keep K47 nin0
      replace E_b_40 := E_b_40.keep K47
      replace F_value_b_40 := F_value_b_40.keep K47 nin0
      replace F_store_a1_41 := F_store_a1_41.keep K47 nin0
      replace F_size_a1_41 := F_size_a1_41.keep K47 nin0
      replace F_filled_sto_41 := F_filled_sto_41.keep K47 nin0
      replace F_items_sto_41 := F_items_sto_41.keep K47 nin0
      replace V_arr_41 := V_arr_41.keep K47 nin0
      replace E_b_42 := E_b_42.keep K47
      replace E_b_43 := E_b_43.keep K47
      replace F_value_b_43 := F_value_b_43.keep K47 nin0
      replace F_store_a1_44 := F_store_a1_44.keep K47 nin0
      replace F_size_a1_44 := F_size_a1_44.keep K47 nin0
      replace E_b_44 := E_b_44.keep K47
      replace F_filled_b_44 := F_filled_b_44.keep K47 nin0
      replace F_items_b_44 := F_items_b_44.keep K47 nin0
      replace E_c_44 := E_c_44.keep K47
      replace V_c_44 := V_c_44.keep K47 nin0
      replace O0 := O0.keep K47 all0
      replace KC := KC.trans K47 all0
      obtain ⟨fs, hr, hrun, hended, hW, hsame⟩ := X47.leave (v := some (.int (1 : Int32))) (fun h => by rw [Bd.returns] at h; cases h)
      refine ⟨_, _, pre30 _ ?_, hrun, hended, _, _, rfl, ?_, ⟨_, rfl⟩, hW, hsame.mono (by decide) (by decide)⟩
      · show SS p e below m T29 98 #[vi p1, vi p2, vi p3, vi p4, vi p5, vi p6, vi (1 : Int32), vi c1, vr b3, vr b28_b, un, un, un] [(.int c1)] _
        refine XS.ifNo X29.here hx rfl (hb hby at_98) rfl ((if0 _ _).trans (feq hc98_31).1) ?_
        show SS p e below m T29 101 #[vi p1, vi p2, vi p3, vi p4, vi p5, vi p6, vi (1 : Int32), vi c1, vr b3, vr b28_b, un, un, un] [] _
        refine XS.aload X29.here hx rfl (hb hby at_101) rfl rfl ?_
        show SS p e below m T29 103 #[vi p1, vi p2, vi p3, vi p4, vi p5, vi p6, vi (1 : Int32), vi c1, vr b3, vr b28_b, un, un, un] [(.ref b3)] _
        refine XS.goto X29.here hx rfl (pc0 := 103) (pc' := 108) rfl (hb hby at_103) (by decide) (by decide) ?_
        show SS p e below m T29 108 #[vi p1, vi p2, vi p3, vi p4, vi p5, vi p6, vi (1 : Int32), vi c1, vr b3, vr b28_b, un, un, un] [(.ref b3)] _
        refine XS.astore X29.here hx rfl (hb hby at_108) rfl rfl (l' := #[vi p1, vi p2, vi p3, vi p4, vi p5, vi p6, vi (1 : Int32), vi c1, vr b3, vr b28_b, vr b3, un, un]) rfl ?_
        show SS p e below m T29 110 #[vi p1, vi p2, vi p3, vi p4, vi p5, vi p6, vi (1 : Int32), vi c1, vr b3, vr b28_b, vr b3, un, un] [] _
        refine XS.iload X29.here hx rfl (hb hby at_110) rfl ?_
        show SS p e below m T29 112 #[vi p1, vi p2, vi p3, vi p4, vi p5, vi p6, vi (1 : Int32), vi c1, vr b3, vr b28_b, vr b3, un, un] [(.int c1)] _
        refine XS.ifNo X29.here hx rfl (hb hby at_112) rfl ((if0 _ _).trans (feq hc98_31).1) ?_
        show SS p e below m T29 115 #[vi p1, vi p2, vi p3, vi p4, vi p5, vi p6, vi (1 : Int32), vi c1, vr b3, vr b28_b, vr b3, un, un] [] _
        refine XS.aload X29.here hx rfl (hb hby at_115) rfl rfl ?_
        show SS p e below m T29 117 #[vi p1, vi p2, vi p3, vi p4, vi p5, vi p6, vi (1 : Int32), vi c1, vr b3, vr b28_b, vr b3, un, un] [(.ref b28_b)] _
        refine XS.goto X29.here hx rfl (pc0 := 117) (pc' := 122) rfl (hb hby at_117) (by decide) (by decide) ?_
        show SS p e below m T29 122 #[vi p1, vi p2, vi p3, vi p4, vi p5, vi p6, vi (1 : Int32), vi c1, vr b3, vr b28_b, vr b3, un, un] [(.ref b28_b)] _
        refine XS.astore X29.here hx rfl (hb hby at_122) rfl rfl (l' := #[vi p1, vi p2, vi p3, vi p4, vi p5, vi p6, vi (1 : Int32), vi c1, vr b3, vr b28_b, vr b3, vr b28_b, un]) rfl ?_
        show SS p e below m T29 124 #[vi p1, vi p2, vi p3, vi p4, vi p5, vi p6, vi (1 : Int32), vi c1, vr b3, vr b28_b, vr b3, vr b28_b, un] [] _
        refine XS.aload X29.here hx rfl (hb hby at_124) rfl rfl ?_
        show SS p e below m T29 126 #[vi p1, vi p2, vi p3, vi p4, vi p5, vi p6, vi (1 : Int32), vi c1, vr b3, vr b28_b, vr b3, vr b28_b, un] [(.ref b3)] _
        refine XS.iload X29.here hx rfl (hb hby at_126) rfl ?_
        show SS p e below m T29 128 #[vi p1, vi p2, vi p3, vi p4, vi p5, vi p6, vi (1 : Int32), vi c1, vr b3, vr b28_b, vr b3, vr b28_b, un] [(.int p5), (.ref b3)] _
        refine st40 _ ?_
        show SS p e below m T40 131 #[vi p1, vi p2, vi p3, vi p4, vi p5, vi p6, vi (1 : Int32), vi c1, vr b3, vr b28_b, vr b3, vr b28_b, un] [(.ref b_40), (.ref b3)] _
        refine st41.trans ?_
        show SS p e below m T41 134 #[vi p1, vi p2, vi p3, vi p4, vi p5, vi p6, vi (1 : Int32), vi c1, vr b3, vr b28_b, vr b3, vr b28_b, un] [] _
        refine XS.aload X41.here hx rfl (hb hby at_134) rfl rfl ?_
        show SS p e below m T41 136 #[vi p1, vi p2, vi p3, vi p4, vi p5, vi p6, vi (1 : Int32), vi c1, vr b3, vr b28_b, vr b3, vr b28_b, un] [(.ref b28_b)] _
        refine st42.trans ?_
        show SS p e below m T42 139 #[vi p1, vi p2, vi p3, vi p4, vi p5, vi p6, vi (1 : Int32), vi c1, vr b3, vr b28_b, vr b3, vr b28_b, un] [(.ref b42_b)] _
        refine XS.astore X42.here hx rfl (hb hby at_139) rfl rfl (l' := #[vi p1, vi p2, vi p3, vi p4, vi p5, vi p6, vi (1 : Int32), vi c1, vr b3, vr b28_b, vr b3, vr b28_b, vr b42_b]) rfl ?_
        show SS p e below m T42 141 #[vi p1, vi p2, vi p3, vi p4, vi p5, vi p6, vi (1 : Int32), vi c1, vr b3, vr b28_b, vr b3, vr b28_b, vr b42_b] [] _
        refine XS.aload X42.here hx rfl (hb hby at_141) rfl rfl ?_
        show SS p e below m T42 143 #[vi p1, vi p2, vi p3, vi p4, vi p5, vi p6, vi (1 : Int32), vi c1, vr b3, vr b28_b, vr b3, vr b28_b, vr b42_b] [(.ref b42_b)] _
        refine XS.iload X42.here hx rfl (hb hby at_143) rfl ?_
        show SS p e below m T42 145 #[vi p1, vi p2, vi p3, vi p4, vi p5, vi p6, vi (1 : Int32), vi c1, vr b3, vr b28_b, vr b3, vr b28_b, vr b42_b] [(.int p6), (.ref b42_b)] _
        refine st43 _ ?_
        show SS p e below m T43 148 #[vi p1, vi p2, vi p3, vi p4, vi p5, vi p6, vi (1 : Int32), vi c1, vr b3, vr b28_b, vr b3, vr b28_b, vr b42_b] [(.ref b_43), (.ref b42_b)] _
        refine st44.trans ?_
        show SS p e below m T44 151 #[vi p1, vi p2, vi p3, vi p4, vi p5, vi p6, vi (1 : Int32), vi c1, vr b3, vr b28_b, vr b3, vr b28_b, vr b42_b] [] _
        refine XS.aload X44.here hx rfl (hb hby at_151) rfl rfl ?_
        show SS p e below m T44 153 #[vi p1, vi p2, vi p3, vi p4, vi p5, vi p6, vi (1 : Int32), vi c1, vr b3, vr b28_b, vr b3, vr b28_b, vr b42_b] [(.ref b3)] _
        refine XS.iload X44.here hx rfl (hb hby at_153) rfl ?_
        show SS p e below m T44 155 #[vi p1, vi p2, vi p3, vi p4, vi p5, vi p6, vi (1 : Int32), vi c1, vr b3, vr b28_b, vr b3, vr b28_b, vr b42_b] [(.int (1 : Int32)), (.ref b3)] _
        refine XS.iloadN X44.here hx rfl (hb hby at_155) rfl ?_
        show SS p e below m T44 156 #[vi p1, vi p2, vi p3, vi p4, vi p5, vi p6, vi (1 : Int32), vi c1, vr b3, vr b28_b, vr b3, vr b28_b, vr b42_b] [(.int p2), (.int (1 : Int32)), (.ref b3)] _
        refine XS.iloadN X44.here hx rfl (hb hby at_156) rfl ?_
        show SS p e below m T44 157 #[vi p1, vi p2, vi p3, vi p4, vi p5, vi p6, vi (1 : Int32), vi c1, vr b3, vr b28_b, vr b3, vr b28_b, vr b42_b] [(.int p3), (.int p2), (.int (1 : Int32)), (.ref b3)] _
        refine XS.iloadN X44.here hx rfl (hb hby at_157) rfl ?_
        show SS p e below m T44 158 #[vi p1, vi p2, vi p3, vi p4, vi p5, vi p6, vi (1 : Int32), vi c1, vr b3, vr b28_b, vr b3, vr b28_b, vr b42_b] [(.int p4), (.int p3), (.int p2), (.int (1 : Int32)), (.ref b3)] _
        refine XS.iload X44.here hx rfl (hb hby at_158) rfl ?_
        show SS p e below m T44 160 #[vi p1, vi p2, vi p3, vi p4, vi p5, vi p6, vi (1 : Int32), vi c1, vr b3, vr b28_b, vr b3, vr b28_b, vr b42_b] [(.int p5), (.int p4), (.int p3), (.int p2), (.int (1 : Int32)), (.ref b3)] _
        refine XS.iconst X44.here hx rfl (hb hby at_160) ?_
        show SS p e below m T44 161 #[vi p1, vi p2, vi p3, vi p4, vi p5, vi p6, vi (1 : Int32), vi c1, vr b3, vr b28_b, vr b3, vr b28_b, vr b42_b] [(.int (1 : Int32)), (.int p5), (.int p4), (.int p3), (.int p2), (.int (1 : Int32)), (.ref b3)] _
        refine st45 _ ?_
        show SS p e below m T45 164 #[vi p1, vi p2, vi p3, vi p4, vi p5, vi p6, vi (1 : Int32), vi c1, vr b3, vr b28_b, vr b3, vr b28_b, vr b42_b] [(.int (1 : Int32))] _
        refine XS.ifNo X45.here hx rfl (hb hby at_164) rfl ((if0 _ _).trans (feq (by decide)).1) ?_
        show SS p e below m T45 167 #[vi p1, vi p2, vi p3, vi p4, vi p5, vi p6, vi (1 : Int32), vi c1, vr b3, vr b28_b, vr b3, vr b28_b, vr b42_b] [] _
        refine XS.aload X45.here hx rfl (hb hby at_167) rfl rfl ?_
        show SS p e below m T45 169 #[vi p1, vi p2, vi p3, vi p4, vi p5, vi p6, vi (1 : Int32), vi c1, vr b3, vr b28_b, vr b3, vr b28_b, vr b42_b] [(.ref b28_b)] _
        refine XS.iload X45.here hx rfl (hb hby at_169) rfl ?_
        show SS p e below m T45 171 #[vi p1, vi p2, vi p3, vi p4, vi p5, vi p6, vi (1 : Int32), vi c1, vr b3, vr b28_b, vr b3, vr b28_b, vr b42_b] [(.int (1 : Int32)), (.ref b28_b)] _
        refine XS.iloadN X45.here hx rfl (hb hby at_171) rfl ?_
        show SS p e below m T45 172 #[vi p1, vi p2, vi p3, vi p4, vi p5, vi p6, vi (1 : Int32), vi c1, vr b3, vr b28_b, vr b3, vr b28_b, vr b42_b] [(.int p2), (.int (1 : Int32)), (.ref b28_b)] _
        refine XS.iloadN X45.here hx rfl (hb hby at_172) rfl ?_
        show SS p e below m T45 173 #[vi p1, vi p2, vi p3, vi p4, vi p5, vi p6, vi (1 : Int32), vi c1, vr b3, vr b28_b, vr b3, vr b28_b, vr b42_b] [(.int p3), (.int p2), (.int (1 : Int32)), (.ref b28_b)] _
        refine XS.iloadN X45.here hx rfl (hb hby at_173) rfl ?_
        show SS p e below m T45 174 #[vi p1, vi p2, vi p3, vi p4, vi p5, vi p6, vi (1 : Int32), vi c1, vr b3, vr b28_b, vr b3, vr b28_b, vr b42_b] [(.int p4), (.int p3), (.int p2), (.int (1 : Int32)), (.ref b28_b)] _
        refine XS.iconst X45.here hx rfl (hb hby at_174) ?_
        show SS p e below m T45 175 #[vi p1, vi p2, vi p3, vi p4, vi p5, vi p6, vi (1 : Int32), vi c1, vr b3, vr b28_b, vr b3, vr b28_b, vr b42_b] [(.int (0 : Int32)), (.int p4), (.int p3), (.int p2), (.int (1 : Int32)), (.ref b28_b)] _
        refine XS.iconst X45.here hx rfl (hb hby at_175) ?_
        show SS p e below m T45 176 #[vi p1, vi p2, vi p3, vi p4, vi p5, vi p6, vi (1 : Int32), vi c1, vr b3, vr b28_b, vr b3, vr b28_b, vr b42_b] [(.int (0 : Int32)), (.int (0 : Int32)), (.int p4), (.int p3), (.int p2), (.int (1 : Int32)), (.ref b28_b)] _
        refine st46 _ ?_
        show SS p e below m T46 179 #[vi p1, vi p2, vi p3, vi p4, vi p5, vi p6, vi (1 : Int32), vi c1, vr b3, vr b28_b, vr b3, vr b28_b, vr b42_b] [(.int (1 : Int32))] _
        refine XS.ifNo X46.here hx rfl (hb hby at_179) rfl ((if0 _ _).trans (feq (by decide)).1) ?_
        show SS p e below m T46 182 #[vi p1, vi p2, vi p3, vi p4, vi p5, vi p6, vi (1 : Int32), vi c1, vr b3, vr b28_b, vr b3, vr b28_b, vr b42_b] [] _
        refine XS.aload X46.here hx rfl (hb hby at_182) rfl rfl ?_
        show SS p e below m T46 184 #[vi p1, vi p2, vi p3, vi p4, vi p5, vi p6, vi (1 : Int32), vi c1, vr b3, vr b28_b, vr b3, vr b28_b, vr b42_b] [(.ref b42_b)] _
        refine XS.iload X46.here hx rfl (hb hby at_184) rfl ?_
        show SS p e below m T46 186 #[vi p1, vi p2, vi p3, vi p4, vi p5, vi p6, vi (1 : Int32), vi c1, vr b3, vr b28_b, vr b3, vr b28_b, vr b42_b] [(.int (1 : Int32)), (.ref b42_b)] _
        refine XS.iloadN X46.here hx rfl (hb hby at_186) rfl ?_
        show SS p e below m T46 187 #[vi p1, vi p2, vi p3, vi p4, vi p5, vi p6, vi (1 : Int32), vi c1, vr b3, vr b28_b, vr b3, vr b28_b, vr b42_b] [(.int p2), (.int (1 : Int32)), (.ref b42_b)] _
        refine XS.iloadN X46.here hx rfl (hb hby at_187) rfl ?_
        show SS p e below m T46 188 #[vi p1, vi p2, vi p3, vi p4, vi p5, vi p6, vi (1 : Int32), vi c1, vr b3, vr b28_b, vr b3, vr b28_b, vr b42_b] [(.int p3), (.int p2), (.int (1 : Int32)), (.ref b42_b)] _
        refine XS.iloadN X46.here hx rfl (hb hby at_188) rfl ?_
        show SS p e below m T46 189 #[vi p1, vi p2, vi p3, vi p4, vi p5, vi p6, vi (1 : Int32), vi c1, vr b3, vr b28_b, vr b3, vr b28_b, vr b42_b] [(.int p4), (.int p3), (.int p2), (.int (1 : Int32)), (.ref b42_b)] _
        refine XS.iload X46.here hx rfl (hb hby at_189) rfl ?_
        show SS p e below m T46 191 #[vi p1, vi p2, vi p3, vi p4, vi p5, vi p6, vi (1 : Int32), vi c1, vr b3, vr b28_b, vr b3, vr b28_b, vr b42_b] [(.int p6), (.int p4), (.int p3), (.int p2), (.int (1 : Int32)), (.ref b42_b)] _
        refine XS.iconst X46.here hx rfl (hb hby at_191) ?_
        show SS p e below m T46 192 #[vi p1, vi p2, vi p3, vi p4, vi p5, vi p6, vi (1 : Int32), vi c1, vr b3, vr b28_b, vr b3, vr b28_b, vr b42_b] [(.int (1 : Int32)), (.int p6), (.int p4), (.int p3), (.int p2), (.int (1 : Int32)), (.ref b42_b)] _
        refine st47 _ ?_
        show SS p e below m T47 195 #[vi p1, vi p2, vi p3, vi p4, vi p5, vi p6, vi (1 : Int32), vi c1, vr b3, vr b28_b, vr b3, vr b28_b, vr b42_b] [(.int (1 : Int32))] _
        refine XS.ifNo X47.here hx rfl (hb hby at_195) rfl ((if0 _ _).trans (feq (by decide)).1) ?_
        show SS p e below m T47 198 #[vi p1, vi p2, vi p3, vi p4, vi p5, vi p6, vi (1 : Int32), vi c1, vr b3, vr b28_b, vr b3, vr b28_b, vr b42_b] [] _
        refine XS.iconst X47.here hx rfl (hb hby at_198) ?_
        show SS p e below m T47 199 #[vi p1, vi p2, vi p3, vi p4, vi p5, vi p6, vi (1 : Int32), vi c1, vr b3, vr b28_b, vr b3, vr b28_b, vr b42_b] [(.int (1 : Int32))] _
        refine XS.goto X47.here hx rfl (pc0 := 199) (pc' := 203) rfl (hb hby at_199) (by decide) (by decide) ?_
        show SS p e below m T47 203 #[vi p1, vi p2, vi p3, vi p4, vi p5, vi p6, vi (1 : Int32), vi c1, vr b3, vr b28_b, vr b3, vr b28_b, vr b42_b] [(.int (1 : Int32))] _
        exact retN X47 hx (t := .boolean) Bd.returns (by simp) (hb hby at_203) hr
      · show Q_rm0 Z p1 p2 p3 p4 p5 p6 cA cl mr h0 n0 _ T47.heap _
        exact ⟨rfl, N47, KC⟩
  · rw [hk] at pre5
    obtain ⟨_, _, ⟨T48, L48, k48, n48⟩, -, X48, ⟨Lc48, hQ48, l48, y48, z48⟩, st48⟩ := Jvm.LawKit.callS X4 hx (y := y_5) hown (mvT hZ (ww hw 72 rfl)) (mvT hZ (ww hw 73 rfl)) (mvT hZ (ww hw 74 rfl)) (mvT hZ (ww hw 75 rfl)) (by decide) (backOf (W := 1) (rmVo l Z a0 hw [] p2 cA cl T4.heap n0 (Nat.le_trans Z0 KC.1) O0 S_high S_cache BX) hZ (ww hw 75 rfl) (ww hw 74 rfl) (by decide) (by decide)) (g := (mkF m 36 #[vi p1, vi p2, vi p3, vi p4, vi p5, vi p6, vi (2 : Int32), vi c1, vr b3, un, un, un, un] [(.int p2), (.ref b3)])) rfl (by rw [hml]; rfl) (argsL := [(.int p2)]) (rest := [(.ref b3)]) (lenOf pd_15 rfl) rfl (by show 2 * 0 + _ ≤ _; exact Nat.le_of_eq rfl) (hb hby at_36) (fun _ _ => ⟨rfl, rfl, (by decide : 3 + 1 ≤ _), (by decide : 8 + 1 ≤ _)⟩)
    dsimp only [Pt.U, Pt.locs, Pt.cells, Pt.slots] at X48 l48 y48 z48 st48 hQ48
    subst l48 y48 z48
    obtain ⟨b_48, rfl, N48q, K48, E_b_48, F_value_b_48⟩ := hQ48
    have N48 := Fr.app N4 N48q
    replace A3 := A3.keep K48
    replace F_store_a1_4 := F_store_a1_4.keep K48 nin0
    replace F_size_a1_4 := F_size_a1_4.keep K48 nin0
    replace E_b_4 := E_b_4.keep K48
    replace F_items_b_4 := F_items_b_4.keep K48 nin0
    replace F_filled_b_4 := F_filled_b_4.keep K48 nin0
    replace E_c_4 := E_c_4.keep K48
    replace V_c_4 := V_c_4.keep K48 nin0
    replace O0 := O0.keep K48 all0
    replace KC := KC.trans K48 all0
    obtain ⟨cq49, kq49, q49a, q49b, q49c⟩ := isOf hZ rfl A3
    obtain ⟨_, _, ⟨T49, L49, k49, n49⟩, -, X49, ⟨Lc49, hQ49, l49, y49, z49⟩, st49⟩ := X48.virtualBack hx (y := y_12) (z := y_12) hown (mvT hZ (ww hw 79 rfl)) (mvT hZ (ww hw 80 rfl)) (notFace_of_selects (args := #[]) (mvT hZ (ww hw 82 rfl))) (mvT hZ (ww hw 82 rfl)) (mvT hZ (ww hw 81 rfl)) (by decide) (backOf (W := 0) (rmAddA l Z a0 hw [] b3 b_48 b4_b (0 : Int32) (0 : Int32) b4_c k_4 (4 : Int32) [.null, .null, .null, .null] (1 : Int32) [(.ref b_48), .null, .null, .null] T48.heap n0 (Nat.le_trans Z0 KC.1) O0 F_store_a1_4 F_size_a1_4 A3 E_b_4 F_filled_b_4 F_items_b_4 E_c_4 V_c_4 E_b_48 g_b3 g_b4_b g_b4_c hq4_0 (by decide) (by decide) (by decide) (by decide) (by decide) rfl (Nat.le_of_ble_eq_true rfl)) hZ (ww hw 83 rfl) (ww hw 2 rfl) (by decide) (by decide)) q49a q49c (g := (mkF m 39 #[vi p1, vi p2, vi p3, vi p4, vi p5, vi p6, vi (2 : Int32), vi c1, vr b3, un, un, un, un] [(.ref b_48), (.ref b3)])) rfl (by rw [hml]; rfl) (Steps.refl _) (argsL := [(.ref b_48)]) (rest := []) (lenOf pd_16 rfl) rfl (by show 2 * 0 + _ ≤ _; exact Nat.le_of_eq rfl) (hb hby at_39) (fun _ _ => ⟨rfl, rfl, (by decide : 4 + 0 ≤ _), (by decide : 9 + 0 ≤ _)⟩)
    dsimp only [Pt.U, Pt.locs, Pt.cells, Pt.slots] at X49 l49 y49 z49 st49 hQ49
    subst l49 y49 z49
    obtain ⟨rfl, N49q, K49, F_store_a1_49, F_size_a1_49, F_filled_sto_49, F_items_sto_49, V_arr_49⟩ := hQ49
    have N49 := Fr.app N48 N49q
    have nec_b_48_b4_c : b_48 ≠ b4_c := Exa.ne E_b_48 E_c_4 (by decide)
    have nec_b_48_b4_b : b_48 ≠ b4_b := Exa.ne E_b_48 E_b_4 (by decide)
    have nec_b_48_b3 : b_48 ≠ b3 := Exa.ne E_b_48 A3 (by decide)
    replace A3 := A3.keep K49
    replace E_b_4 := E_b_4.keep K49
    replace E_c_4 := E_c_4.keep K49
    replace E_b_48 := E_b_48.keep K49
    replace F_value_b_48 := F_value_b_48.keep K49 (ninS nec_b_48_b3 (ninS nec_b_48_b4_b (ninS nec_b_48_b4_c nin0)))
    replace O0 := O0.keep K49 (allS g_b3 (allS g_b4_b (allS g_b4_c all0)))
    replace KC := KC.trans K49 (allS (Or.inr sz_b3) (allS (Or.inr sz_b4_b) (allS (Or.inr sz_b4_c) all0)))
    obtain ⟨_, _, ⟨T50, L50, k50, n50⟩, -, X50, ⟨Lc50, hQ50, l50, y50, z50⟩, st50⟩ := Jvm.LawKit.callS X49 hx (y := y_5) hown (mvT hZ (ww hw 72 rfl)) (mvT hZ (ww hw 73 rfl)) (mvT hZ (ww hw 74 rfl)) (mvT hZ (ww hw 75 rfl)) (by decide) (backOf (W := 1) (rmVo l Z a0 hw [] p3 cA cl T49.heap n0 (Nat.le_trans Z0 KC.1) O0 S_high S_cache BX) hZ (ww hw 75 rfl) (ww hw 74 rfl) (by decide) (by decide)) (g := (mkF m 51 #[vi p1, vi p2, vi p3, vi p4, vi p5, vi p6, vi (2 : Int32), vi c1, vr b3, un, un, un, un] [(.int p3), (.ref b3)])) rfl (by rw [hml]; rfl) (argsL := [(.int p3)]) (rest := [(.ref b3)]) (lenOf pd_15 rfl) rfl (by show 2 * 0 + _ ≤ _; exact Nat.le_of_eq rfl) (hb hby at_51) (fun _ _ => ⟨rfl, rfl, (by decide : 4 + 1 ≤ _), (by decide : 9 + 1 ≤ _)⟩)
    dsimp only [Pt.U, Pt.locs, Pt.cells, Pt.slots] at X50 l50 y50 z50 st50 hQ50
    subst l50 y50 z50
    obtain ⟨b_50, rfl, N50q, K50, E_b_50, F_value_b_50⟩ := hQ50
    have N50 := Fr.app N49 N50q
    replace A3 := A3.keep K50
    replace E_b_4 := E_b_4.keep K50
    replace E_c_4 := E_c_4.keep K50
    replace E_b_48 := E_b_48.keep K50
    replace F_value_b_48 := F_value_b_48.keep K50 nin0
    replace F_store_a1_49 := F_store_a1_49.keep K50 nin0
    replace F_size_a1_49 := F_size_a1_49.keep K50 nin0
    replace F_filled_sto_49 := F_filled_sto_49.keep K50 nin0
    replace F_items_sto_49 := F_items_sto_49.keep K50 nin0
    replace V_arr_49 := V_arr_49.keep K50 nin0
    replace O0 := O0.keep K50 all0
    replace KC := KC.trans K50 all0
    obtain ⟨cq51, kq51, q51a, q51b, q51c⟩ := isOf hZ rfl A3
    obtain ⟨_, _, ⟨T51, L51, k51, n51⟩, -, X51, ⟨Lc51, hQ51, l51, y51, z51⟩, st51⟩ := X50.virtualBack hx (y := y_12) (z := y_12) hown (mvT hZ (ww hw 79 rfl)) (mvT hZ (ww hw 80 rfl)) (notFace_of_selects (args := #[]) (mvT hZ (ww hw 82 rfl))) (mvT hZ (ww hw 82 rfl)) (mvT hZ (ww hw 81 rfl)) (by decide) (backOf (W := 0) (rmAddA l Z a0 hw [] b3 b_50 b4_b (1 : Int32) (1 : Int32) b4_c k_4 (4 : Int32) [(.ref b_48), .null, .null, .null] (2 : Int32) [(.ref b_48), (.ref b_50), .null, .null] T50.heap n0 (Nat.le_trans Z0 KC.1) O0 F_store_a1_49 F_size_a1_49 A3 E_b_4 F_filled_sto_49 F_items_sto_49 E_c_4 V_arr_49 E_b_50 g_b3 g_b4_b g_b4_c hq4_0 (by decide) (by decide) (by decide) (by decide) (by decide) rfl (Nat.le_of_ble_eq_true rfl)) hZ (ww hw 83 rfl) (ww hw 2 rfl) (by decide) (by decide)) q51a q51c (g := (mkF m 54 #[vi p1, vi p2, vi p3, vi p4, vi p5, vi p6, vi (2 : Int32), vi c1, vr b3, un, un, un, un] [(.ref b_50), (.ref b3)])) rfl (by rw [hml]; rfl) (Steps.refl _) (argsL := [(.ref b_50)]) (rest := []) (lenOf pd_16 rfl) rfl (by show 2 * 0 + _ ≤ _; exact Nat.le_of_eq rfl) (hb hby at_54) (fun _ _ => ⟨rfl, rfl, (by decide : 5 + 0 ≤ _), (by decide : 10 + 0 ≤ _)⟩)
    dsimp only [Pt.U, Pt.locs, Pt.cells, Pt.slots] at X51 l51 y51 z51 st51 hQ51
    subst l51 y51 z51
    obtain ⟨rfl, N51q, K51, F_store_a1_51, F_size_a1_51, F_filled_sto_51, F_items_sto_51, V_arr_51⟩ := hQ51
    have N51 := Fr.app N50 N51q
    have nec_b_50_b4_c : b_50 ≠ b4_c := Exa.ne E_b_50 E_c_4 (by decide)
    have nec_b_50_b4_b : b_50 ≠ b4_b := Exa.ne E_b_50 E_b_4 (by decide)
    have nec_b_50_b3 : b_50 ≠ b3 := Exa.ne E_b_50 A3 (by decide)
    replace A3 := A3.keep K51
    replace E_b_4 := E_b_4.keep K51
    replace E_c_4 := E_c_4.keep K51
    replace E_b_48 := E_b_48.keep K51
    replace F_value_b_48 := F_value_b_48.keep K51 (ninS nec_b_48_b3 (ninS nec_b_48_b4_b (ninS nec_b_48_b4_c nin0)))
    replace E_b_50 := E_b_50.keep K51
    replace F_value_b_50 := F_value_b_50.keep K51 (ninS nec_b_50_b3 (ninS nec_b_50_b4_b (ninS nec_b_50_b4_c nin0)))
    replace O0 := O0.keep K51 (allS g_b3 (allS g_b4_b (allS g_b4_c all0)))
    replace KC := KC.trans K51 (allS (Or.inr sz_b3) (allS (Or.inr sz_b4_b) (allS (Or.inr sz_b4_c) all0)))
    obtain ⟨cq52, kq52, q52a, q52b, q52c⟩ := isOf hZ rfl A3
    obtain ⟨_, _, ⟨T52, L52, k52, n52⟩, -, X52, ⟨Lc52, hQ52, l52, y52, z52⟩, st52⟩ := X51.virtualBack hx (y := y_13) (z := y_13) hown (mvT hZ (ww hw 29 rfl)) (mvT hZ (ww hw 30 rfl)) (notFace_of_selects (args := #[]) (mvT hZ (ww hw 32 rfl))) (mvT hZ (ww hw 32 rfl)) (mvT hZ (ww hw 31 rfl)) (by decide) (backOf (W := 0) (rmCp l Z a0 hw [] b3 b4_b (2 : Int32) T51.heap n0 (Nat.le_trans Z0 KC.1) O0 F_store_a1_51 F_size_a1_51) hZ (ww hw 33 rfl) (ww hw 2 rfl) (by decide) (by decide)) q52a q52c (g := (mkF m 74 #[vi p1, vi p2, vi p3, vi p4, vi p5, vi p6, vi (2 : Int32), vi c1, vr b3, un, un, un, un] [(.ref b3)])) rfl (by rw [hml]; rfl) (Steps.refl _) (argsL := []) (rest := []) (lenOf pd_13 rfl) rfl (by show 2 * 0 + _ ≤ _; exact Nat.le_of_eq rfl) (hb hby at_74) (fun _ _ => ⟨rfl, rfl, (by decide : 5 + 1 ≤ _), (by decide : 10 + 2 ≤ _)⟩)
    dsimp only [Pt.U, Pt.locs, Pt.cells, Pt.slots] at X52 l52 y52 z52 st52 hQ52
    subst l52 y52 z52
    obtain ⟨b52_b, rfl, N52q, K52, sz_b52_b, E_b_52, F_store_b_52, F_size_b_52⟩ := hQ52
    have N52 := Fr.app N51 N52q
    have ne_b3_b52_b : b3 ≠ b52_b := Nat.ne_of_lt (Nat.lt_of_lt_of_le A3.lt sz_b52_b)
    have ne_b4_b_b52_b : b4_b ≠ b52_b := Nat.ne_of_lt (Nat.lt_of_lt_of_le E_b_4.lt sz_b52_b)
    have ne_b4_c_b52_b : b4_c ≠ b52_b := Nat.ne_of_lt (Nat.lt_of_lt_of_le E_c_4.lt sz_b52_b)
    have ne_b_48_b52_b : b_48 ≠ b52_b := Nat.ne_of_lt (Nat.lt_of_lt_of_le E_b_48.lt sz_b52_b)
    have ne_b_50_b52_b : b_50 ≠ b52_b := Nat.ne_of_lt (Nat.lt_of_lt_of_le E_b_50.lt sz_b52_b)
    have g_b52_b : n0 ≤ b52_b := Nat.le_trans (Nat.le_trans Z0 KC.1) sz_b52_b
    replace sz_b52_b : h0.size ≤ b52_b := Nat.le_trans KC.1 sz_b52_b
    replace A3 := A3.keep K52
    replace E_b_4 := E_b_4.keep K52
    replace E_c_4 := E_c_4.keep K52
    replace E_b_48 := E_b_48.keep K52
    replace F_value_b_48 := F_value_b_48.keep K52 nin0
    replace E_b_50 := E_b_50.keep K52
    replace F_value_b_50 := F_value_b_50.keep K52 nin0
    replace F_store_a1_51 := F_store_a1_51.keep K52 nin0
    replace F_size_a1_51 := F_size_a1_51.keep K52 nin0
    replace F_filled_sto_51 := F_filled_sto_51.keep K52 nin0
    replace F_items_sto_51 := F_items_sto_51.keep K52 nin0
    replace V_arr_51 := V_arr_51.keep K52 nin0
    replace O0 := O0.keep K52 all0
    replace KC := KC.trans K52 all0
    obtain ⟨_, _, ⟨T53, L53, k53, n53⟩, -, X53, ⟨Lc53, hQ53, l53, y53, z53⟩, st53⟩ := Jvm.LawKit.callS X52 hx (y := y_20) hown (mvT hZ (ww hw 35 rfl)) (mvT hZ (ww hw 36 rfl)) (mvT hZ (ww hw 37 rfl)) (mvT hZ (ww hw 38 rfl)) (by decide) (backOf (W := 0) (rmH20 l Z a0 hw [] b52_b p2 p3 p4 (0 : Int32) b4_b b4_c k_4 (4 : Int32) [(.ref b_48), (.ref b_50), .null, .null] b_48 b_50 T52.heap n0 (Nat.le_trans Z0 KC.1) O0 F_size_b_52 F_store_b_52 E_b_52 F_items_sto_51 E_c_4 V_arr_51 E_b_48 F_value_b_48 rfl (by decide) E_b_50 F_value_b_50 rfl (by decide)) hZ (ww hw 38 rfl) (ww hw 37 rfl) (by decide) (by decide)) (g := (mkF m 88 #[vi p1, vi p2, vi p3, vi p4, vi p5, vi p6, vi (2 : Int32), vi c1, vr b3, vr b52_b, un, un, un] [(.int (0 : Int32)), (.int (0 : Int32)), (.int p4), (.int p3), (.int p2), (.int (2 : Int32)), (.ref b52_b)])) rfl (by rw [hml]; rfl) (argsL := [(.ref b52_b), (.int (2 : Int32)), (.int p2), (.int p3), (.int p4), (.int (0 : Int32)), (.int (0 : Int32))]) (rest := []) (lenOf pd_14 rfl) rfl (by show 2 * 0 + _ ≤ _; exact Nat.le_of_eq rfl) (hb hby at_88) (fun _ _ => ⟨rfl, rfl, (by decide : 6 + 1 ≤ _), (by decide : 12 + 3 ≤ _)⟩)
    dsimp only [Pt.U, Pt.locs, Pt.cells, Pt.slots] at X53 l53 y53 z53 st53 hQ53
    subst l53 y53 z53
    obtain ⟨rfl, N53q, K53⟩ := hQ53
    have N53 := Fr.app N52 N53q
    replace A3 := A3.keep K53
    replace E_b_4 := E_b_4.keep K53
    replace E_c_4 := E_c_4.keep K53
    replace E_b_48 := E_b_48.keep K53
    replace F_value_b_48 := F_value_b_48.keep K53 nin0
    replace E_b_50 := E_b_50.keep K53
    replace F_value_b_50 := F_value_b_50.keep K53 nin0
    replace F_store_a1_51 := F_store_a1_51.keep K53 nin0
    replace F_size_a1_51 := F_size_a1_51.keep K53 nin0
    replace F_filled_sto_51 := F_filled_sto_51.keep K53 nin0
    replace F_items_sto_51 := F_items_sto_51.keep K53 nin0
    replace V_arr_51 := V_arr_51.keep K53 nin0
    replace E_b_52 := E_b_52.keep K53
    replace F_store_b_52 := F_store_b_52.keep K53 nin0
    replace F_size_b_52 := F_size_b_52.keep K53 nin0
    replace O0 := O0.keep K53 all0
    replace KC := KC.trans K53 all0
    have pre54 : ∀ t, Steps p.tables e below (T53.setTop (mkF m 98 #[vi p1, vi p2, vi p3, vi p4, vi p5, vi p6, vi (2 : Int32), vi c1, vr b3, vr b52_b, un, un, un] [(.int c1)])) t → Steps p.tables e below (s₁.setTop (entryFrame m #[(.int p1), (.int p2), (.int p3), (.int p4), (.int p5), (.int p6)] maxLocals)) t := by
      intro t kt
      refine pre5 t ?_
      show SS p e below m T4 27 #[vi p1, vi p2, vi p3, vi p4, vi p5, vi p6, vi (2 : Int32), vi c1, vr b3, un, un, un, un] [] _
      refine XS.iload X4.here hx rfl (hb hby at_27) rfl ?_
      show SS p e below m T4 29 #[vi p1, vi p2, vi p3, vi p4, vi p5, vi p6, vi (2 : Int32), vi c1, vr b3, un, un, un, un] [(.int (2 : Int32))] _
      refine XS.iconst X4.here hx rfl (hb hby at_29) ?_
      show SS p e below m T4 30 #[vi p1, vi p2, vi p3, vi p4, vi p5, vi p6, vi (2 : Int32), vi c1, vr b3, un, un, un, un] [(.int (1 : Int32)), (.int (2 : Int32))] _
      refine XS.icmpNo X4.here hx rfl (hb hby at_30) rfl (flt (by decide)).1 ?_
      show SS p e below m T4 33 #[vi p1, vi p2, vi p3, vi p4, vi p5, vi p6, vi (2 : Int32), vi c1, vr b3, un, un, un, un] [] _
      refine XS.aload X4.here hx rfl (hb hby at_33) rfl rfl ?_
      show SS p e below m T4 35 #[vi p1, vi p2, vi p3, vi p4, vi p5, vi p6, vi (2 : Int32), vi c1, vr b3, un, un, un, un] [(.ref b3)] _
      refine XS.iloadN X4.here hx rfl (hb hby at_35) rfl ?_
      show SS p e below m T4 36 #[vi p1, vi p2, vi p3, vi p4, vi p5, vi p6, vi (2 : Int32), vi c1, vr b3, un, un, un, un] [(.int p2), (.ref b3)] _
      refine st48 _ ?_
      show SS p e below m T48 39 #[vi p1, vi p2, vi p3, vi p4, vi p5, vi p6, vi (2 : Int32), vi c1, vr b3, un, un, un, un] [(.ref b_48), (.ref b3)] _
      refine st49.trans ?_
      show SS p e below m T49 42 #[vi p1, vi p2, vi p3, vi p4, vi p5, vi p6, vi (2 : Int32), vi c1, vr b3, un, un, un, un] [] _
      refine XS.iload X49.here hx rfl (hb hby at_42) rfl ?_
      show SS p e below m T49 44 #[vi p1, vi p2, vi p3, vi p4, vi p5, vi p6, vi (2 : Int32), vi c1, vr b3, un, un, un, un] [(.int (2 : Int32))] _
      refine XS.iconst X49.here hx rfl (hb hby at_44) ?_
      show SS p e below m T49 45 #[vi p1, vi p2, vi p3, vi p4, vi p5, vi p6, vi (2 : Int32), vi c1, vr b3, un, un, un, un] [(.int (2 : Int32)), (.int (2 : Int32))] _
      refine XS.icmpNo X49.here hx rfl (hb hby at_45) rfl (flt (by decide)).1 ?_
      show SS p e below m T49 48 #[vi p1, vi p2, vi p3, vi p4, vi p5, vi p6, vi (2 : Int32), vi c1, vr b3, un, un, un, un] [] _
      refine XS.aload X49.here hx rfl (hb hby at_48) rfl rfl ?_
      show SS p e below m T49 50 #[vi p1, vi p2, vi p3, vi p4, vi p5, vi p6, vi (2 : Int32), vi c1, vr b3, un, un, un, un] [(.ref b3)] _
      refine XS.iloadN X49.here hx rfl (hb hby at_50) rfl ?_
      show SS p e below m T49 51 #[vi p1, vi p2, vi p3, vi p4, vi p5, vi p6, vi (2 : Int32), vi c1, vr b3, un, un, un, un] [(.int p3), (.ref b3)] _
      refine st50 _ ?_
      show SS p e below m T50 54 #[vi p1, vi p2, vi p3, vi p4, vi p5, vi p6, vi (2 : Int32), vi c1, vr b3, un, un, un, un] [(.ref b_50), (.ref b3)] _
      refine st51.trans ?_
      show SS p e below m T51 57 #[vi p1, vi p2, vi p3, vi p4, vi p5, vi p6, vi (2 : Int32), vi c1, vr b3, un, un, un, un] [] _
      refine XS.iload X51.here hx rfl (hb hby at_57) rfl ?_
      show SS p e below m T51 59 #[vi p1, vi p2, vi p3, vi p4, vi p5, vi p6, vi (2 : Int32), vi c1, vr b3, un, un, un, un] [(.int (2 : Int32))] _
      refine XS.iconst X51.here hx rfl (hb hby at_59) ?_
      show SS p e below m T51 60 #[vi p1, vi p2, vi p3, vi p4, vi p5, vi p6, vi (2 : Int32), vi c1, vr b3, un, un, un, un] [(.int (3 : Int32)), (.int (2 : Int32))] _
      refine XS.icmpYes X51.here hx rfl (pc0 := 60) (pc' := 72) rfl (hb hby at_60) rfl (tlt (by decide)).1 (by decide) (by decide) ?_
      show SS p e below m T51 72 #[vi p1, vi p2, vi p3, vi p4, vi p5, vi p6, vi (2 : Int32), vi c1, vr b3, un, un, un, un] [] _
      refine XS.aload X51.here hx rfl (hb hby at_72) rfl rfl ?_
      show SS p e below m T51 74 #[vi p1, vi p2, vi p3, vi p4, vi p5, vi p6, vi (2 : Int32), vi c1, vr b3, un, un, un, un] [(.ref b3)] _
      refine st52.trans ?_
      show SS p e below m T52 77 #[vi p1, vi p2, vi p3, vi p4, vi p5, vi p6, vi (2 : Int32), vi c1, vr b3, un, un, un, un] [(.ref b52_b)] _
      refine XS.astore X52.here hx rfl (hb hby at_77) rfl rfl (l' := #[vi p1, vi p2, vi p3, vi p4, vi p5, vi p6, vi (2 : Int32), vi c1, vr b3, vr b52_b, un, un, un]) rfl ?_
      show SS p e below m T52 79 #[vi p1, vi p2, vi p3, vi p4, vi p5, vi p6, vi (2 : Int32), vi c1, vr b3, vr b52_b, un, un, un] [] _
      refine XS.aload X52.here hx rfl (hb hby at_79) rfl rfl ?_
      show SS p e below m T52 81 #[vi p1, vi p2, vi p3, vi p4, vi p5, vi p6, vi (2 : Int32), vi c1, vr b3, vr b52_b, un, un, un] [(.ref b52_b)] _
      refine XS.iload X52.here hx rfl (hb hby at_81) rfl ?_
      show SS p e below m T52 83 #[vi p1, vi p2, vi p3, vi p4, vi p5, vi p6, vi (2 : Int32), vi c1, vr b3, vr b52_b, un, un, un] [(.int (2 : Int32)), (.ref b52_b)] _
      refine XS.iloadN X52.here hx rfl (hb hby at_83) rfl ?_
      show SS p e below m T52 84 #[vi p1, vi p2, vi p3, vi p4, vi p5, vi p6, vi (2 : Int32), vi c1, vr b3, vr b52_b, un, un, un] [(.int p2), (.int (2 : Int32)), (.ref b52_b)] _
      refine XS.iloadN X52.here hx rfl (hb hby at_84) rfl ?_
      show SS p e below m T52 85 #[vi p1, vi p2, vi p3, vi p4, vi p5, vi p6, vi (2 : Int32), vi c1, vr b3, vr b52_b, un, un, un] [(.int p3), (.int p2), (.int (2 : Int32)), (.ref b52_b)] _
      refine XS.iloadN X52.here hx rfl (hb hby at_85) rfl ?_
      show SS p e below m T52 86 #[vi p1, vi p2, vi p3, vi p4, vi p5, vi p6, vi (2 : Int32), vi c1, vr b3, vr b52_b, un, un, un] [(.int p4), (.int p3), (.int p2), (.int (2 : Int32)), (.ref b52_b)] _
      refine XS.iconst X52.here hx rfl (hb hby at_86) ?_
      show SS p e below m T52 87 #[vi p1, vi p2, vi p3, vi p4, vi p5, vi p6, vi (2 : Int32), vi c1, vr b3, vr b52_b, un, un, un] [(.int (0 : Int32)), (.int p4), (.int p3), (.int p2), (.int (2 : Int32)), (.ref b52_b)] _
      refine XS.iconst X52.here hx rfl (hb hby at_87) ?_
      show SS p e below m T52 88 #[vi p1, vi p2, vi p3, vi p4, vi p5, vi p6, vi (2 : Int32), vi c1, vr b3, vr b52_b, un, un, un] [(.int (0 : Int32)), (.int (0 : Int32)), (.int p4), (.int p3), (.int p2), (.int (2 : Int32)), (.ref b52_b)] _
      refine st53 _ ?_
      show SS p e below m T53 91 #[vi p1, vi p2, vi p3, vi p4, vi p5, vi p6, vi (2 : Int32), vi c1, vr b3, vr b52_b, un, un, un] [(.int (1 : Int32))] _
      refine XS.ifYes X53.here hx rfl (pc0 := 91) (pc' := 96) rfl (hb hby at_91) rfl ((if0 _ _).trans (feq (by decide)).2) (by decide) (by decide) ?_
      show SS p e below m T53 96 #[vi p1, vi p2, vi p3, vi p4, vi p5, vi p6, vi (2 : Int32), vi c1, vr b3, vr b52_b, un, un, un] [] _
      refine XS.iload X53.here hx rfl (hb hby at_96) rfl ?_
      exact kt
    by_cases hc98_55 : c1 = (0 : Int32)
    · obtain ⟨_, _, ⟨T56, L56, k56, n56⟩, -, X56, ⟨Lc56, hQ56, l56, y56, z56⟩, st56⟩ := Jvm.LawKit.callS X53 hx (y := y_5) hown (mvT hZ (ww hw 72 rfl)) (mvT hZ (ww hw 73 rfl)) (mvT hZ (ww hw 74 rfl)) (mvT hZ (ww hw 75 rfl)) (by decide) (backOf (W := 1) (rmVo l Z a0 hw [] p5 cA cl T53.heap n0 (Nat.le_trans Z0 KC.1) O0 S_high S_cache BX) hZ (ww hw 75 rfl) (ww hw 74 rfl) (by decide) (by decide)) (g := (mkF m 128 #[vi p1, vi p2, vi p3, vi p4, vi p5, vi p6, vi (2 : Int32), vi c1, vr b3, vr b52_b, vr b52_b, vr b3, un] [(.int p5), (.ref b52_b)])) rfl (by rw [hml]; rfl) (argsL := [(.int p5)]) (rest := [(.ref b52_b)]) (lenOf pd_15 rfl) rfl (by show 2 * 0 + _ ≤ _; exact Nat.le_of_eq rfl) (hb hby at_128) (fun _ _ => ⟨rfl, rfl, (by decide : 7 + 1 ≤ _), (by decide : 15 + 1 ≤ _)⟩)
      dsimp only [Pt.U, Pt.locs, Pt.cells, Pt.slots] at X56 l56 y56 z56 st56 hQ56
      subst l56 y56 z56
      obtain ⟨b_56, rfl, N56q, K56, E_b_56, F_value_b_56⟩ := hQ56
      have N56 := Fr.app N53 N56q
      replace A3 := A3.keep K56
      replace E_b_4 := E_b_4.keep K56
      replace E_c_4 := E_c_4.keep K56
      replace E_b_48 := E_b_48.keep K56
      replace F_value_b_48 := F_value_b_48.keep K56 nin0
      replace E_b_50 := E_b_50.keep K56
      replace F_value_b_50 := F_value_b_50.keep K56 nin0
      replace F_store_a1_51 := F_store_a1_51.keep K56 nin0
      replace F_size_a1_51 := F_size_a1_51.keep K56 nin0
      replace F_filled_sto_51 := F_filled_sto_51.keep K56 nin0
      replace F_items_sto_51 := F_items_sto_51.keep K56 nin0
      replace V_arr_51 := V_arr_51.keep K56 nin0
      replace E_b_52 := E_b_52.keep K56
      replace F_store_b_52 := F_store_b_52.keep K56 nin0
      replace F_size_b_52 := F_size_b_52.keep K56 nin0
      replace O0 := O0.keep K56 all0
      replace KC := KC.trans K56 all0
      obtain ⟨cq57, kq57, q57a, q57b, q57c⟩ := isOf hZ rfl E_b_52
      obtain ⟨_, _, ⟨T57, L57, k57, n57⟩, -, X57, ⟨Lc57, hQ57, l57, y57, z57⟩, st57⟩ := X56.virtualBack hx (y := y_12) (z := y_12) hown (mvT hZ (ww hw 79 rfl)) (mvT hZ (ww hw 80 rfl)) (notFace_of_selects (args := #[]) (mvT hZ (ww hw 82 rfl))) (mvT hZ (ww hw 82 rfl)) (mvT hZ (ww hw 81 rfl)) (by decide) (backOf (W := 0) (rmAddA l Z a0 hw [] b52_b b_56 b4_b (2 : Int32) (2 : Int32) b4_c k_4 (4 : Int32) [(.ref b_48), (.ref b_50), .null, .null] (3 : Int32) [(.ref b_48), (.ref b_50), (.ref b_56), .null] T56.heap n0 (Nat.le_trans Z0 KC.1) O0 F_store_b_52 F_size_b_52 E_b_52 E_b_4 F_filled_sto_51 F_items_sto_51 E_c_4 V_arr_51 E_b_56 g_b52_b g_b4_b g_b4_c hq4_0 (by decide) (by decide) (by decide) (by decide) (by decide) rfl (Nat.le_of_ble_eq_true rfl)) hZ (ww hw 83 rfl) (ww hw 2 rfl) (by decide) (by decide)) q57a q57c (g := (mkF m 131 #[vi p1, vi p2, vi p3, vi p4, vi p5, vi p6, vi (2 : Int32), vi c1, vr b3, vr b52_b, vr b52_b, vr b3, un] [(.ref b_56), (.ref b52_b)])) rfl (by rw [hml]; rfl) (Steps.refl _) (argsL := [(.ref b_56)]) (rest := []) (lenOf pd_16 rfl) rfl (by show 2 * 0 + _ ≤ _; exact Nat.le_of_eq rfl) (hb hby at_131) (fun _ _ => ⟨rfl, rfl, (by decide : 8 + 0 ≤ _), (by decide : 16 + 0 ≤ _)⟩)
      dsimp only [Pt.U, Pt.locs, Pt.cells, Pt.slots] at X57 l57 y57 z57 st57 hQ57
      subst l57 y57 z57
      obtain ⟨rfl, N57q, K57, F_store_a1_57, F_size_a1_57, F_filled_sto_57, F_items_sto_57, V_arr_57⟩ := hQ57
      have N57 := Fr.app N56 N57q
      have nec_b_56_b4_c : b_56 ≠ b4_c := Exa.ne E_b_56 E_c_4 (by decide)
      have nec_b_56_b4_b : b_56 ≠ b4_b := Exa.ne E_b_56 E_b_4 (by decide)
      have nec_b_56_b52_b : b_56 ≠ b52_b := Exa.ne E_b_56 E_b_52 (by decide)
      replace A3 := A3.keep K57
      replace E_b_4 := E_b_4.keep K57
      replace E_c_4 := E_c_4.keep K57
      replace E_b_48 := E_b_48.keep K57
      replace F_value_b_48 := F_value_b_48.keep K57 (ninS ne_b_48_b52_b (ninS nec_b_48_b4_b (ninS nec_b_48_b4_c nin0)))
      replace E_b_50 := E_b_50.keep K57
      replace F_value_b_50 := F_value_b_50.keep K57 (ninS ne_b_50_b52_b (ninS nec_b_50_b4_b (ninS nec_b_50_b4_c nin0)))
      replace F_store_a1_51 := F_store_a1_51.keep K57 (ninS ne_b3_b52_b (ninS ne_b3_b4_b (ninS ne_b3_b4_c nin0)))
      replace F_size_a1_51 := F_size_a1_51.keep K57 (ninS ne_b3_b52_b (ninS ne_b3_b4_b (ninS ne_b3_b4_c nin0)))
      replace E_b_52 := E_b_52.keep K57
      replace E_b_56 := E_b_56.keep K57
      replace F_value_b_56 := F_value_b_56.keep K57 (ninS nec_b_56_b52_b (ninS nec_b_56_b4_b (ninS nec_b_56_b4_c nin0)))
      replace O0 := O0.keep K57 (allS g_b52_b (allS g_b4_b (allS g_b4_c all0)))
      replace KC := KC.trans K57 (allS (Or.inr sz_b52_b) (allS (Or.inr sz_b4_b) (allS (Or.inr sz_b4_c) all0)))
      obtain ⟨cq58, kq58, q58a, q58b, q58c⟩ := isOf hZ rfl A3
      obtain ⟨_, _, ⟨T58, L58, k58, n58⟩, -, X58, ⟨Lc58, hQ58, l58, y58, z58⟩, st58⟩ := X57.virtualBack hx (y := y_13) (z := y_13) hown (mvT hZ (ww hw 29 rfl)) (mvT hZ (ww hw 30 rfl)) (notFace_of_selects (args := #[]) (mvT hZ (ww hw 32 rfl))) (mvT hZ (ww hw 32 rfl)) (mvT hZ (ww hw 31 rfl)) (by decide) (backOf (W := 0) (rmCp l Z a0 hw [] b3 b4_b (2 : Int32) T57.heap n0 (Nat.le_trans Z0 KC.1) O0 F_store_a1_51 F_size_a1_51) hZ (ww hw 33 rfl) (ww hw 2 rfl) (by decide) (by decide)) q58a q58c (g := (mkF m 136 #[vi p1, vi p2, vi p3, vi p4, vi p5, vi p6, vi (2 : Int32), vi c1, vr b3, vr b52_b, vr b52_b, vr b3, un] [(.ref b3)])) rfl (by rw [hml]; rfl) (Steps.refl _) (argsL := []) (rest := []) (lenOf pd_13 rfl) rfl (by show 2 * 0 + _ ≤ _; exact Nat.le_of_eq rfl) (hb hby at_136) (fun _ _ => ⟨rfl, rfl, (by decide : 8 + 1 ≤ _), (by decide : 16 + 2 ≤ _)⟩)
      dsimp only [Pt.U, Pt.locs, Pt.cells, Pt.slots] at X58 l58 y58 z58 st58 hQ58
      subst l58 y58 z58
      obtain ⟨b58_b, rfl, N58q, K58, sz_b58_b, E_b_58, F_store_b_58, F_size_b_58⟩ := hQ58
      have N58 := Fr.app N57 N58q
      have ne_b3_b58_b : b3 ≠ b58_b := Nat.ne_of_lt (Nat.lt_of_lt_of_le A3.lt sz_b58_b)
      have ne_b4_b_b58_b : b4_b ≠ b58_b := Nat.ne_of_lt (Nat.lt_of_lt_of_le E_b_4.lt sz_b58_b)
      have ne_b4_c_b58_b : b4_c ≠ b58_b := Nat.ne_of_lt (Nat.lt_of_lt_of_le E_c_4.lt sz_b58_b)
      have ne_b_48_b58_b : b_48 ≠ b58_b := Nat.ne_of_lt (Nat.lt_of_lt_of_le E_b_48.lt sz_b58_b)
      have ne_b_50_b58_b : b_50 ≠ b58_b := Nat.ne_of_lt (Nat.lt_of_lt_of_le E_b_50.lt sz_b58_b)
      have ne_b52_b_b58_b : b52_b ≠ b58_b := Nat.ne_of_lt (Nat.lt_of_lt_of_le E_b_52.lt sz_b58_b)
      have ne_b_56_b58_b : b_56 ≠ b58_b := Nat.ne_of_lt (Nat.lt_of_lt_of_le E_b_56.lt sz_b58_b)
      have g_b58_b : n0 ≤ b58_b := Nat.le_trans (Nat.le_trans Z0 KC.1) sz_b58_b
      replace sz_b58_b : h0.size ≤ b58_b := Nat.le_trans KC.1 sz_b58_b
      replace A3 := A3.keep K58
      replace E_b_4 := E_b_4.keep K58
      replace E_c_4 := E_c_4.keep K58
      replace E_b_48 := E_b_48.keep K58
      replace F_value_b_48 := F_value_b_48.keep K58 nin0
      replace E_b_50 := E_b_50.keep K58
      replace F_value_b_50 := F_value_b_50.keep K58 nin0
      replace F_store_a1_51 := F_store_a1_51.keep K58 nin0
      replace F_size_a1_51 := F_size_a1_51.keep K58 nin0
      replace E_b_52 := E_b_52.keep K58
      replace E_b_56 := E_b_56.keep K58
      replace F_value_b_56 := F_value_b_56.keep K58 nin0
      replace F_store_a1_57 := F_store_a1_57.keep K58 nin0
      replace F_size_a1_57 := F_size_a1_57.keep K58 nin0
      replace F_filled_sto_57 := F_filled_sto_57.keep K58 nin0
      replace F_items_sto_57 := F_items_sto_57.keep K58 nin0
      replace V_arr_57 := V_arr_57.keep K58 nin0
      replace O0 := O0.keep K58 all0
      replace KC := KC.trans K58 all0
      obtain ⟨_, _, ⟨T59, L59, k59, n59⟩, -, X59, ⟨Lc59, hQ59, l59, y59, z59⟩, st59⟩ := Jvm.LawKit.callS X58 hx (y := y_5) hown (mvT hZ (ww hw 72 rfl)) (mvT hZ (ww hw 73 rfl)) (mvT hZ (ww hw 74 rfl)) (mvT hZ (ww hw 75 rfl)) (by decide) (backOf (W := 1) (rmVo l Z a0 hw [] p6 cA cl T58.heap n0 (Nat.le_trans Z0 KC.1) O0 S_high S_cache BX) hZ (ww hw 75 rfl) (ww hw 74 rfl) (by decide) (by decide)) (g := (mkF m 145 #[vi p1, vi p2, vi p3, vi p4, vi p5, vi p6, vi (2 : Int32), vi c1, vr b3, vr b52_b, vr b52_b, vr b3, vr b58_b] [(.int p6), (.ref b58_b)])) rfl (by rw [hml]; rfl) (argsL := [(.int p6)]) (rest := [(.ref b58_b)]) (lenOf pd_15 rfl) rfl (by show 2 * 0 + _ ≤ _; exact Nat.le_of_eq rfl) (hb hby at_145) (fun _ _ => ⟨rfl, rfl, (by decide : 9 + 1 ≤ _), (by decide : 18 + 1 ≤ _)⟩)
      dsimp only [Pt.U, Pt.locs, Pt.cells, Pt.slots] at X59 l59 y59 z59 st59 hQ59
      subst l59 y59 z59
      obtain ⟨b_59, rfl, N59q, K59, E_b_59, F_value_b_59⟩ := hQ59
      have N59 := Fr.app N58 N59q
      replace A3 := A3.keep K59
      replace E_b_4 := E_b_4.keep K59
      replace E_c_4 := E_c_4.keep K59
      replace E_b_48 := E_b_48.keep K59
      replace F_value_b_48 := F_value_b_48.keep K59 nin0
      replace E_b_50 := E_b_50.keep K59
      replace F_value_b_50 := F_value_b_50.keep K59 nin0
      replace F_store_a1_51 := F_store_a1_51.keep K59 nin0
      replace F_size_a1_51 := F_size_a1_51.keep K59 nin0
      replace E_b_52 := E_b_52.keep K59
      replace E_b_56 := E_b_56.keep K59
      replace F_value_b_56 := F_value_b_56.keep K59 nin0
      replace F_store_a1_57 := F_store_a1_57.keep K59 nin0
      replace F_size_a1_57 := F_size_a1_57.keep K59 nin0
      replace F_filled_sto_57 := F_filled_sto_57.keep K59 nin0
      replace F_items_sto_57 := F_items_sto_57.keep K59 nin0
      replace V_arr_57 := V_arr_57.keep K59 nin0
      replace E_b_58 := E_b_58.keep K59
      replace F_store_b_58 := F_store_b_58.keep K59 nin0
      replace F_size_b_58 := F_size_b_58.keep K59 nin0
      replace O0 := O0.keep K59 all0
      replace KC := KC.trans K59 all0
      obtain ⟨cq60, kq60, q60a, q60b, q60c⟩ := isOf hZ rfl E_b_58
      obtain ⟨_, _, ⟨T60, L60, k60, n60⟩, -, X60, ⟨Lc60, hQ60, l60, y60, z60⟩, st60⟩ := X59.virtualBack hx (y := y_12) (z := y_12) hown (mvT hZ (ww hw 79 rfl)) (mvT hZ (ww hw 80 rfl)) (notFace_of_selects (args := #[]) (mvT hZ (ww hw 82 rfl))) (mvT hZ (ww hw 82 rfl)) (mvT hZ (ww hw 81 rfl)) (by decide) (backOf (W := 0) (rmAddB l Z a0 hw [] b58_b b_59 b4_b (2 : Int32) (3 : Int32) b4_c k_4 (4 : Int32) [(.ref b_48), (.ref b_50), (.ref b_56), .null] mr (4 : Int32) (4 : Int32) [(.ref b_48), (.ref b_50), (.ref b_56), .null, .null, .null, .null, .null, .null, .null] (3 : Int32) [(.ref b_48), (.ref b_50), (.ref b_59), .null, .null, .null, .null, .null, .null, .null] T59.heap n0 (Nat.le_trans Z0 KC.1) O0 F_store_b_58 F_size_b_58 E_b_58 E_b_4 F_filled_sto_57 F_items_sto_57 E_c_4 V_arr_57 E_b_59 g_b58_b MIR (Or.inl (by decide)) (by decide) (by decide) (by decide) (by decide) (by decide) (by decide) (by decide) rfl (own_els_cons (Or.inr ⟨_, rfl, E_b_48⟩) (own_els_cons (Or.inr ⟨_, rfl, E_b_50⟩) (own_els_cons (Or.inr ⟨_, rfl, E_b_56⟩) (own_els_cons (Or.inl rfl) own_els_nil)))) (by decide) (by decide) (by decide) rfl (Nat.le_of_ble_eq_true rfl)) hZ (ww hw 83 rfl) (ww hw 2 rfl) (by decide) (by decide)) q60a q60c (g := (mkF m 148 #[vi p1, vi p2, vi p3, vi p4, vi p5, vi p6, vi (2 : Int32), vi c1, vr b3, vr b52_b, vr b52_b, vr b3, vr b58_b] [(.ref b_59), (.ref b58_b)])) rfl (by rw [hml]; rfl) (Steps.refl _) (argsL := [(.ref b_59)]) (rest := []) (lenOf pd_16 rfl) rfl (by show 2 * 0 + _ ≤ _; exact Nat.le_of_eq rfl) (hb hby at_148) (fun _ _ => ⟨rfl, rfl, (by decide : 10 + 2 ≤ _), (by decide : 19 + 12 ≤ _)⟩)
      dsimp only [Pt.U, Pt.locs, Pt.cells, Pt.slots] at X60 l60 y60 z60 st60 hQ60
      subst l60 y60 z60
      obtain ⟨b60_b, b60_c, k2_60, rfl, N60q, K60, sz_b60_b, sz_b60_c, F_store_a1_60, F_size_a1_60, E_b_60, F_filled_b_60, F_items_b_60, E_c_60, V_c_60, hq60_0⟩ := hQ60
      have N60 := Fr.app N59 N60q
      have ne_b3_b60_b : b3 ≠ b60_b := Nat.ne_of_lt (Nat.lt_of_lt_of_le A3.lt sz_b60_b)
      have ne_b4_b_b60_b : b4_b ≠ b60_b := Nat.ne_of_lt (Nat.lt_of_lt_of_le E_b_4.lt sz_b60_b)
      have ne_b4_c_b60_b : b4_c ≠ b60_b := Nat.ne_of_lt (Nat.lt_of_lt_of_le E_c_4.lt sz_b60_b)
      have ne_b_48_b60_b : b_48 ≠ b60_b := Nat.ne_of_lt (Nat.lt_of_lt_of_le E_b_48.lt sz_b60_b)
      have ne_b_50_b60_b : b_50 ≠ b60_b := Nat.ne_of_lt (Nat.lt_of_lt_of_le E_b_50.lt sz_b60_b)
      have ne_b52_b_b60_b : b52_b ≠ b60_b := Nat.ne_of_lt (Nat.lt_of_lt_of_le E_b_52.lt sz_b60_b)
      have ne_b_56_b60_b : b_56 ≠ b60_b := Nat.ne_of_lt (Nat.lt_of_lt_of_le E_b_56.lt sz_b60_b)
      have ne_b58_b_b60_b : b58_b ≠ b60_b := Nat.ne_of_lt (Nat.lt_of_lt_of_le E_b_58.lt sz_b60_b)
      have ne_b_59_b60_b : b_59 ≠ b60_b := Nat.ne_of_lt (Nat.lt_of_lt_of_le E_b_59.lt sz_b60_b)
      have g_b60_b : n0 ≤ b60_b := Nat.le_trans (Nat.le_trans Z0 KC.1) sz_b60_b
      replace sz_b60_b : h0.size ≤ b60_b := Nat.le_trans KC.1 sz_b60_b
      have ne_b3_b60_c : b3 ≠ b60_c := Nat.ne_of_lt (Nat.lt_of_lt_of_le A3.lt sz_b60_c)
      have ne_b4_b_b60_c : b4_b ≠ b60_c := Nat.ne_of_lt (Nat.lt_of_lt_of_le E_b_4.lt sz_b60_c)
      have ne_b4_c_b60_c : b4_c ≠ b60_c := Nat.ne_of_lt (Nat.lt_of_lt_of_le E_c_4.lt sz_b60_c)
      have ne_b_48_b60_c : b_48 ≠ b60_c := Nat.ne_of_lt (Nat.lt_of_lt_of_le E_b_48.lt sz_b60_c)
      have ne_b_50_b60_c : b_50 ≠ b60_c := Nat.ne_of_lt (Nat.lt_of_lt_of_le E_b_50.lt sz_b60_c)
      have ne_b52_b_b60_c : b52_b ≠ b60_c := Nat.ne_of_lt (Nat.lt_of_lt_of_le E_b_52.lt sz_b60_c)
      have ne_b_56_b60_c : b_56 ≠ b60_c := Nat.ne_of_lt (Nat.lt_of_lt_of_le E_b_56.lt sz_b60_c)
      have ne_b58_b_b60_c : b58_b ≠ b60_c := Nat.ne_of_lt (Nat.lt_of_lt_of_le E_b_58.lt sz_b60_c)
      have ne_b_59_b60_c : b_59 ≠ b60_c := Nat.ne_of_lt (Nat.lt_of_lt_of_le E_b_59.lt sz_b60_c)
      have g_b60_c : n0 ≤ b60_c := Nat.le_trans (Nat.le_trans Z0 KC.1) sz_b60_c
      replace sz_b60_c : h0.size ≤ b60_c := Nat.le_trans KC.1 sz_b60_c
      have nec_b_59_b58_b : b_59 ≠ b58_b := Exa.ne E_b_59 E_b_58 (by decide)
      replace A3 := A3.keep K60
      replace E_b_4 := E_b_4.keep K60
      replace E_c_4 := E_c_4.keep K60
      replace E_b_48 := E_b_48.keep K60
      replace F_value_b_48 := F_value_b_48.keep K60 (ninS ne_b_48_b58_b nin0)
      replace E_b_50 := E_b_50.keep K60
      replace F_value_b_50 := F_value_b_50.keep K60 (ninS ne_b_50_b58_b nin0)
      replace F_store_a1_51 := F_store_a1_51.keep K60 (ninS ne_b3_b58_b nin0)
      replace F_size_a1_51 := F_size_a1_51.keep K60 (ninS ne_b3_b58_b nin0)
      replace E_b_52 := E_b_52.keep K60
      replace E_b_56 := E_b_56.keep K60
      replace F_value_b_56 := F_value_b_56.keep K60 (ninS ne_b_56_b58_b nin0)
      replace F_store_a1_57 := F_store_a1_57.keep K60 (ninS ne_b52_b_b58_b nin0)
      replace F_size_a1_57 := F_size_a1_57.keep K60 (ninS ne_b52_b_b58_b nin0)
      replace F_filled_sto_57 := F_filled_sto_57.keep K60 (ninS ne_b4_b_b58_b nin0)
      replace F_items_sto_57 := F_items_sto_57.keep K60 (ninS ne_b4_b_b58_b nin0)
      replace V_arr_57 := V_arr_57.keep K60 (ninS ne_b4_c_b58_b nin0)
      replace E_b_58 := E_b_58.keep K60
      replace E_b_59 := E_b_59.keep K60
      replace F_value_b_59 := F_value_b_59.keep K60 (ninS nec_b_59_b58_b nin0)
      replace O0 := O0.keep K60 (allS g_b58_b all0)
      replace KC := KC.trans K60 (allS (Or.inr sz_b58_b) all0)
      obtain ⟨_, _, ⟨T61, L61, k61, n61⟩, -, X61, ⟨Lc61, hQ61, l61, y61, z61⟩, st61⟩ := Jvm.LawKit.callS X60 hx (y := y_20) hown (mvT hZ (ww hw 35 rfl)) (mvT hZ (ww hw 36 rfl)) (mvT hZ (ww hw 37 rfl)) (mvT hZ (ww hw 38 rfl)) (by decide) (backOf (W := 0) (rmH21 l Z a0 hw [] b52_b p2 p3 p4 p5 b4_b b4_c k_4 (4 : Int32) [(.ref b_48), (.ref b_50), (.ref b_56), .null] b_48 b_50 b_56 T60.heap n0 (Nat.le_trans Z0 KC.1) O0 F_size_a1_57 F_store_a1_57 E_b_52 F_items_sto_57 E_c_4 V_arr_57 E_b_48 F_value_b_48 rfl (by decide) E_b_50 F_value_b_50 rfl (by decide) E_b_56 F_value_b_56 rfl (by decide)) hZ (ww hw 38 rfl) (ww hw 37 rfl) (by decide) (by decide)) (g := (mkF m 161 #[vi p1, vi p2, vi p3, vi p4, vi p5, vi p6, vi (2 : Int32), vi c1, vr b3, vr b52_b, vr b52_b, vr b3, vr b58_b] [(.int (1 : Int32)), (.int p5), (.int p4), (.int p3), (.int p2), (.int (2 : Int32)), (.ref b52_b)])) rfl (by rw [hml]; rfl) (argsL := [(.ref b52_b), (.int (2 : Int32)), (.int p2), (.int p3), (.int p4), (.int p5), (.int (1 : Int32))]) (rest := []) (lenOf pd_14 rfl) rfl (by show 2 * 0 + _ ≤ _; exact Nat.le_of_eq rfl) (hb hby at_161) (fun _ _ => ⟨rfl, rfl, (by decide : 12 + 1 ≤ _), (by decide : 31 + 3 ≤ _)⟩)
      dsimp only [Pt.U, Pt.locs, Pt.cells, Pt.slots] at X61 l61 y61 z61 st61 hQ61
      subst l61 y61 z61
      obtain ⟨rfl, N61q, K61⟩ := hQ61
      have N61 := Fr.app N60 N61q
      replace A3 := A3.keep K61
      replace E_b_4 := E_b_4.keep K61
      replace E_c_4 := E_c_4.keep K61
      replace E_b_48 := E_b_48.keep K61
      replace F_value_b_48 := F_value_b_48.keep K61 nin0
      replace E_b_50 := E_b_50.keep K61
      replace F_value_b_50 := F_value_b_50.keep K61 nin0
      replace F_store_a1_51 := F_store_a1_51.keep K61 nin0
      replace F_size_a1_51 := F_size_a1_51.keep K61 nin0
      replace E_b_52 := E_b_52.keep K61
      replace E_b_56 := E_b_56.keep K61
      replace F_value_b_56 := F_value_b_56.keep K61 nin0
      replace F_store_a1_57 := F_store_a1_57.keep K61 nin0
      replace F_size_a1_57 := F_size_a1_57.keep K61 nin0
      replace F_filled_sto_57 := F_filled_sto_57.keep K61 nin0
      replace F_items_sto_57 := F_items_sto_57.keep K61 nin0
      replace V_arr_57 := V_arr_57.keep K61 nin0
      replace E_b_58 := E_b_58.keep K61
      replace E_b_59 := E_b_59.keep K61
      replace F_value_b_59 := F_value_b_59.keep K61 nin0
      replace F_store_a1_60 := F_store_a1_60.keep K61 nin0
      replace F_size_a1_60 := F_size_a1_60.keep K61 nin0
      replace E_b_60 := E_b_60.keep K61
      replace F_filled_b_60 := F_filled_b_60.keep K61 nin0
      replace F_items_b_60 := F_items_b_60.keep K61 nin0
      replace E_c_60 := E_c_60.keep K61
      replace V_c_60 := V_c_60.keep K61 nin0
      replace O0 := O0.keep K61 all0
      replace KC := KC.trans K61 all0
      obtain ⟨_, _, ⟨T62, L62, k62, n62⟩, -, X62, ⟨Lc62, hQ62, l62, y62, z62⟩, st62⟩ := Jvm.LawKit.callS X61 hx (y := y_20) hown (mvT hZ (ww hw 35 rfl)) (mvT hZ (ww hw 36 rfl)) (mvT hZ (ww hw 37 rfl)) (mvT hZ (ww hw 38 rfl)) (by decide) (backOf (W := 0) (rmH20 l Z a0 hw [] b3 p2 p3 p4 (0 : Int32) b4_b b4_c k_4 (4 : Int32) [(.ref b_48), (.ref b_50), (.ref b_56), .null] b_48 b_50 T61.heap n0 (Nat.le_trans Z0 KC.1) O0 F_size_a1_51 F_store_a1_51 A3 F_items_sto_57 E_c_4 V_arr_57 E_b_48 F_value_b_48 rfl (by decide) E_b_50 F_value_b_50 rfl (by decide)) hZ (ww hw 38 rfl) (ww hw 37 rfl) (by decide) (by decide)) (g := (mkF m 176 #[vi p1, vi p2, vi p3, vi p4, vi p5, vi p6, vi (2 : Int32), vi c1, vr b3, vr b52_b, vr b52_b, vr b3, vr b58_b] [(.int (0 : Int32)), (.int (0 : Int32)), (.int p4), (.int p3), (.int p2), (.int (2 : Int32)), (.ref b3)])) rfl (by rw [hml]; rfl) (argsL := [(.ref b3), (.int (2 : Int32)), (.int p2), (.int p3), (.int p4), (.int (0 : Int32)), (.int (0 : Int32))]) (rest := []) (lenOf pd_14 rfl) rfl (by show 2 * 0 + _ ≤ _; exact Nat.le_of_eq rfl) (hb hby at_176) (fun _ _ => ⟨rfl, rfl, (by decide : 13 + 1 ≤ _), (by decide : 34 + 3 ≤ _)⟩)
      dsimp only [Pt.U, Pt.locs, Pt.cells, Pt.slots] at X62 l62 y62 z62 st62 hQ62
      subst l62 y62 z62
      obtain ⟨rfl, N62q, K62⟩ := hQ62
      have N62 := Fr.app N61 N62q
      replace A3 := A3.keep K62
      replace E_b_4 := E_b_4.keep K62
      replace E_c_4 := E_c_4.keep K62
      replace E_b_48 := E_b_48.keep K62
      replace F_value_b_48 := F_value_b_48.keep K62 nin0
      replace E_b_50 := E_b_50.keep K62
      replace F_value_b_50 := F_value_b_50.keep K62 nin0
      replace F_store_a1_51 := F_store_a1_51.keep K62 nin0
      replace F_size_a1_51 := F_size_a1_51.keep K62 nin0
      replace E_b_52 := E_b_52.keep K62
      replace E_b_56 := E_b_56.keep K62
      replace F_value_b_56 := F_value_b_56.keep K62 nin0
      replace F_store_a1_57 := F_store_a1_57.keep K62 nin0
      replace F_size_a1_57 := F_size_a1_57.keep K62 nin0
      replace F_filled_sto_57 := F_filled_sto_57.keep K62 nin0
      replace F_items_sto_57 := F_items_sto_57.keep K62 nin0
      replace V_arr_57 := V_arr_57.keep K62 nin0
      replace E_b_58 := E_b_58.keep K62
      replace E_b_59 := E_b_59.keep K62
      replace F_value_b_59 := F_value_b_59.keep K62 nin0
      replace F_store_a1_60 := F_store_a1_60.keep K62 nin0
      replace F_size_a1_60 := F_size_a1_60.keep K62 nin0
      replace E_b_60 := E_b_60.keep K62
      replace F_filled_b_60 := F_filled_b_60.keep K62 nin0
      replace F_items_b_60 := F_items_b_60.keep K62 nin0
      replace E_c_60 := E_c_60.keep K62
      replace V_c_60 := V_c_60.keep K62 nin0
      replace O0 := O0.keep K62 all0
      replace KC := KC.trans K62 all0
      obtain ⟨_, _, ⟨T63, L63, k63, n63⟩, -, X63, ⟨Lc63, hQ63, l63, y63, z63⟩, st63⟩ := Jvm.LawKit.callS X62 hx (y := y_20) hown (mvT hZ (ww hw 35 rfl)) (mvT hZ (ww hw 36 rfl)) (mvT hZ (ww hw 37 rfl)) (mvT hZ (ww hw 38 rfl)) (by decide) (backOf (W := 0) (rmH21 l Z a0 hw [] b58_b p2 p3 p4 p6 b60_b b60_c k2_60 (4 : Int32) [(.ref b_48), (.ref b_50), (.ref b_59), .null, .null, .null, .null, .null, .null, .null] b_48 b_50 b_59 T62.heap n0 (Nat.le_trans Z0 KC.1) O0 F_size_a1_60 F_store_a1_60 E_b_58 F_items_b_60 E_c_60 V_c_60 E_b_48 F_value_b_48 rfl (by decide) E_b_50 F_value_b_50 rfl (by decide) E_b_59 F_value_b_59 rfl (by decide)) hZ (ww hw 38 rfl) (ww hw 37 rfl) (by decide) (by decide)) (g := (mkF m 192 #[vi p1, vi p2, vi p3, vi p4, vi p5, vi p6, vi (2 : Int32), vi c1, vr b3, vr b52_b, vr b52_b, vr b3, vr b58_b] [(.int (1 : Int32)), (.int p6), (.int p4), (.int p3), (.int p2), (.int (2 : Int32)), (.ref b58_b)])) rfl (by rw [hml]; rfl) (argsL := [(.ref b58_b), (.int (2 : Int32)), (.int p2), (.int p3), (.int p4), (.int p6), (.int (1 : Int32))]) (rest := []) (lenOf pd_14 rfl) rfl (by show 2 * 0 + _ ≤ _; exact Nat.le_of_eq rfl) (hb hby at_192) (fun _ _ => ⟨rfl, rfl, (by decide : 14 + 1 ≤ _), (by decide : 37 + 3 ≤ _)⟩)
      dsimp only [Pt.U, Pt.locs, Pt.cells, Pt.slots] at X63 l63 y63 z63 st63 hQ63
      subst l63 y63 z63
      obtain ⟨rfl, N63q, K63⟩ := hQ63
      have N63 := Fr.app N62 N63q
      replace A3 := A3.keep K63
      replace E_b_4 := E_b_4.keep K63
      replace E_c_4 := E_c_4.keep K63
      replace E_b_48 := E_b_48.keep K63
      replace F_value_b_48 := F_value_b_48.keep K63 nin0
      replace E_b_50 := E_b_50.keep K63
      replace F_value_b_50 := F_value_b_50.keep K63 nin0
      replace F_store_a1_51 := F_store_a1_51.keep K63 nin0
      replace F_size_a1_51 := F_size_a1_51.keep K63 nin0
      replace E_b_52 := E_b_52.keep K63
      replace E_b_56 := E_b_56.keep K63
      replace F_value_b_56 := F_value_b_56.keep K63 nin0
      replace F_store_a1_57 := F_store_a1_57.keep K63 nin0
      replace F_size_a1_57 := F_size_a1_57.keep K63 nin0
      replace F_filled_sto_57 := F_filled_sto_57.keep K63 nin0
      replace F_items_sto_57 := F_items_sto_57.keep K63 nin0
      replace V_arr_57 := V_arr_57.keep K63 nin0
      replace E_b_58 := E_b_58.keep K63
      replace E_b_59 := E_b_59.keep K63
      replace F_value_b_59 := F_value_b_59.keep K63 nin0
      replace F_store_a1_60 := F_store_a1_60.keep K63 nin0
      replace F_size_a1_60 := F_size_a1_60.keep K63 nin0
      replace E_b_60 := E_b_60.keep K63
      replace F_filled_b_60 := F_filled_b_60.keep K63 nin0
      replace F_items_b_60 := F_items_b_60.keep K63 nin0
      replace E_c_60 := E_c_60.keep K63
      replace V_c_60 := V_c_60.keep K63 nin0
      replace O0 := O0.keep K63 all0
      replace KC := KC.trans K63 all0
      obtain ⟨fs, hr, hrun, hended, hW, hsame⟩ := X63.leave (v := some (.int (1 : Int32))) (fun h => by rw [Bd.returns] at h; cases h)
      refine ⟨_, _, pre54 _ ?_, hrun, hended, _, _, rfl, ?_, ⟨_, rfl⟩, hW, hsame.mono (by decide) (by decide)⟩
      · show SS p e below m T53 98 #[vi p1, vi p2, vi p3, vi p4, vi p5, vi p6, vi (2 : Int32), vi c1, vr b3, vr b52_b, un, un, un] [(.int c1)] _
        refine XS.ifYes X53.here hx rfl (pc0 := 98) (pc' := 106) rfl (hb hby at_98) rfl ((if0 _ _).trans (teq hc98_55).1) (by decide) (by decide) ?_
        show SS p e below m T53 106 #[vi p1, vi p2, vi p3, vi p4, vi p5, vi p6, vi (2 : Int32), vi c1, vr b3, vr b52_b, un, un, un] [] _
        refine XS.aload X53.here hx rfl (hb hby at_106) rfl rfl ?_
        show SS p e below m T53 108 #[vi p1, vi p2, vi p3, vi p4, vi p5, vi p6, vi (2 : Int32), vi c1, vr b3, vr b52_b, un, un, un] [(.ref b52_b)] _
        refine XS.astore X53.here hx rfl (hb hby at_108) rfl rfl (l' := #[vi p1, vi p2, vi p3, vi p4, vi p5, vi p6, vi (2 : Int32), vi c1, vr b3, vr b52_b, vr b52_b, un, un]) rfl ?_
        show SS p e below m T53 110 #[vi p1, vi p2, vi p3, vi p4, vi p5, vi p6, vi (2 : Int32), vi c1, vr b3, vr b52_b, vr b52_b, un, un] [] _
        refine XS.iload X53.here hx rfl (hb hby at_110) rfl ?_
        show SS p e below m T53 112 #[vi p1, vi p2, vi p3, vi p4, vi p5, vi p6, vi (2 : Int32), vi c1, vr b3, vr b52_b, vr b52_b, un, un] [(.int c1)] _
        refine XS.ifYes X53.here hx rfl (pc0 := 112) (pc' := 120) rfl (hb hby at_112) rfl ((if0 _ _).trans (teq hc98_55).1) (by decide) (by decide) ?_
        show SS p e below m T53 120 #[vi p1, vi p2, vi p3, vi p4, vi p5, vi p6, vi (2 : Int32), vi c1, vr b3, vr b52_b, vr b52_b, un, un] [] _
        refine XS.aload X53.here hx rfl (hb hby at_120) rfl rfl ?_
        show SS p e below m T53 122 #[vi p1, vi p2, vi p3, vi p4, vi p5, vi p6, vi (2 : Int32), vi c1, vr b3, vr b52_b, vr b52_b, un, un] [(.ref b3)] _
        refine XS.astore X53.here hx rfl (hb hby at_122) rfl rfl (l' := #[vi p1, vi p2, vi p3, vi p4, vi p5, vi p6, vi (2 : Int32), vi c1, vr b3, vr b52_b, vr b52_b, vr b3, un]) rfl ?_
        show SS p e below m T53 124 #[vi p1, vi p2, vi p3, vi p4, vi p5, vi p6, vi (2 : Int32), vi c1, vr b3, vr b52_b, vr b52_b, vr b3, un] [] _
        refine XS.aload X53.here hx rfl (hb hby at_124) rfl rfl ?_
        show SS p e below m T53 126 #[vi p1, vi p2, vi p3, vi p4, vi p5, vi p6, vi (2 : Int32), vi c1, vr b3, vr b52_b, vr b52_b, vr b3, un] [(.ref b52_b)] _
        refine XS.iload X53.here hx rfl (hb hby at_126) rfl ?_
        show SS p e below m T53 128 #[vi p1, vi p2, vi p3, vi p4, vi p5, vi p6, vi (2 : Int32), vi c1, vr b3, vr b52_b, vr b52_b, vr b3, un] [(.int p5), (.ref b52_b)] _
        refine st56 _ ?_
        show SS p e below m T56 131 #[vi p1, vi p2, vi p3, vi p4, vi p5, vi p6, vi (2 : Int32), vi c1, vr b3, vr b52_b, vr b52_b, vr b3, un] [(.ref b_56), (.ref b52_b)] _
        refine st57.trans ?_
        show SS p e below m T57 134 #[vi p1, vi p2, vi p3, vi p4, vi p5, vi p6, vi (2 : Int32), vi c1, vr b3, vr b52_b, vr b52_b, vr b3, un] [] _
        refine XS.aload X57.here hx rfl (hb hby at_134) rfl rfl ?_
        show SS p e below m T57 136 #[vi p1, vi p2, vi p3, vi p4, vi p5, vi p6, vi (2 : Int32), vi c1, vr b3, vr b52_b, vr b52_b, vr b3, un] [(.ref b3)] _
        refine st58.trans ?_
        show SS p e below m T58 139 #[vi p1, vi p2, vi p3, vi p4, vi p5, vi p6, vi (2 : Int32), vi c1, vr b3, vr b52_b, vr b52_b, vr b3, un] [(.ref b58_b)] _
        refine XS.astore X58.here hx rfl (hb hby at_139) rfl rfl (l' := #[vi p1, vi p2, vi p3, vi p4, vi p5, vi p6, vi (2 : Int32), vi c1, vr b3, vr b52_b, vr b52_b, vr b3, vr b58_b]) rfl ?_
        show SS p e below m T58 141 #[vi p1, vi p2, vi p3, vi p4, vi p5, vi p6, vi (2 : Int32), vi c1, vr b3, vr b52_b, vr b52_b, vr b3, vr b58_b] [] _
        refine XS.aload X58.here hx rfl (hb hby at_141) rfl rfl ?_
        show SS p e below m T58 143 #[vi p1, vi p2, vi p3, vi p4, vi p5, vi p6, vi (2 : Int32), vi c1, vr b3, vr b52_b, vr b52_b, vr b3, vr b58_b] [(.ref b58_b)] _
        refine XS.iload X58.here hx rfl (hb hby at_143) rfl ?_
        show SS p e below m T58 145 #[vi p1, vi p2, vi p3, vi p4, vi p5, vi p6, vi (2 : Int32), vi c1, vr b3, vr b52_b, vr b52_b, vr b3, vr b58_b] [(.int p6), (.ref b58_b)] _
        refine st59 _ ?_
        show SS p e below m T59 148 #[vi p1, vi p2, vi p3, vi p4, vi p5, vi p6, vi (2 : Int32), vi c1, vr b3, vr b52_b, vr b52_b, vr b3, vr b58_b] [(.ref b_59), (.ref b58_b)] _
        refine st60.trans ?_
        show SS p e below m T60 151 #[vi p1, vi p2, vi p3, vi p4, vi p5, vi p6, vi (2 : Int32), vi c1, vr b3, vr b52_b, vr b52_b, vr b3, vr b58_b] [] _
        refine XS.aload X60.here hx rfl (hb hby at_151) rfl rfl ?_
        show SS p e below m T60 153 #[vi p1, vi p2, vi p3, vi p4, vi p5, vi p6, vi (2 : Int32), vi c1, vr b3, vr b52_b, vr b52_b, vr b3, vr b58_b] [(.ref b52_b)] _
        refine XS.iload X60.here hx rfl (hb hby at_153) rfl ?_
        show SS p e below m T60 155 #[vi p1, vi p2, vi p3, vi p4, vi p5, vi p6, vi (2 : Int32), vi c1, vr b3, vr b52_b, vr b52_b, vr b3, vr b58_b] [(.int (2 : Int32)), (.ref b52_b)] _
        refine XS.iloadN X60.here hx rfl (hb hby at_155) rfl ?_
        show SS p e below m T60 156 #[vi p1, vi p2, vi p3, vi p4, vi p5, vi p6, vi (2 : Int32), vi c1, vr b3, vr b52_b, vr b52_b, vr b3, vr b58_b] [(.int p2), (.int (2 : Int32)), (.ref b52_b)] _
        refine XS.iloadN X60.here hx rfl (hb hby at_156) rfl ?_
        show SS p e below m T60 157 #[vi p1, vi p2, vi p3, vi p4, vi p5, vi p6, vi (2 : Int32), vi c1, vr b3, vr b52_b, vr b52_b, vr b3, vr b58_b] [(.int p3), (.int p2), (.int (2 : Int32)), (.ref b52_b)] _
        refine XS.iloadN X60.here hx rfl (hb hby at_157) rfl ?_
        show SS p e below m T60 158 #[vi p1, vi p2, vi p3, vi p4, vi p5, vi p6, vi (2 : Int32), vi c1, vr b3, vr b52_b, vr b52_b, vr b3, vr b58_b] [(.int p4), (.int p3), (.int p2), (.int (2 : Int32)), (.ref b52_b)] _
        refine XS.iload X60.here hx rfl (hb hby at_158) rfl ?_
        show SS p e below m T60 160 #[vi p1, vi p2, vi p3, vi p4, vi p5, vi p6, vi (2 : Int32), vi c1, vr b3, vr b52_b, vr b52_b, vr b3, vr b58_b] [(.int p5), (.int p4), (.int p3), (.int p2), (.int (2 : Int32)), (.ref b52_b)] _
        refine XS.iconst X60.here hx rfl (hb hby at_160) ?_
        show SS p e below m T60 161 #[vi p1, vi p2, vi p3, vi p4, vi p5, vi p6, vi (2 : Int32), vi c1, vr b3, vr b52_b, vr b52_b, vr b3, vr b58_b] [(.int (1 : Int32)), (.int p5), (.int p4), (.int p3), (.int p2), (.int (2 : Int32)), (.ref b52_b)] _
        refine st61 _ ?_
        show SS p e below m T61 164 #[vi p1, vi p2, vi p3, vi p4, vi p5, vi p6, vi (2 : Int32), vi c1, vr b3, vr b52_b, vr b52_b, vr b3, vr b58_b] [(.int (1 : Int32))] _
        refine XS.ifNo X61.here hx rfl (hb hby at_164) rfl ((if0 _ _).trans (feq (by decide)).1) ?_
        show SS p e below m T61 167 #[vi p1, vi p2, vi p3, vi p4, vi p5, vi p6, vi (2 : Int32), vi c1, vr b3, vr b52_b, vr b52_b, vr b3, vr b58_b] [] _
        refine XS.aload X61.here hx rfl (hb hby at_167) rfl rfl ?_
        show SS p e below m T61 169 #[vi p1, vi p2, vi p3, vi p4, vi p5, vi p6, vi (2 : Int32), vi c1, vr b3, vr b52_b, vr b52_b, vr b3, vr b58_b] [(.ref b3)] _
        refine XS.iload X61.here hx rfl (hb hby at_169) rfl ?_
        show SS p e below m T61 171 #[vi p1, vi p2, vi p3, vi p4, vi p5, vi p6, vi (2 : Int32), vi c1, vr b3, vr b52_b, vr b52_b, vr b3, vr b58_b] [(.int (2 : Int32)), (.ref b3)] _
        refine XS.iloadN X61.here hx rfl (hb hby at_171) rfl ?_
        show SS p e below m T61 172 #[vi p1, vi p2, vi p3, vi p4, vi p5, vi p6, vi (2 : Int32), vi c1, vr b3, vr b52_b, vr b52_b, vr b3, vr b58_b] [(.int p2), (.int (2 : Int32)), (.ref b3)] _
        refine XS.iloadN X61.here hx rfl (hb hby at_172) rfl ?_
        show SS p e below m T61 173 #[vi p1, vi p2, vi p3, vi p4, vi p5, vi p6, vi (2 : Int32), vi c1, vr b3, vr b52_b, vr b52_b, vr b3, vr b58_b] [(.int p3), (.int p2), (.int (2 : Int32)), (.ref b3)] _
        refine XS.iloadN X61.here hx rfl (hb hby at_173) rfl ?_
        show SS p e below m T61 174 #[vi p1, vi p2, vi p3, vi p4, vi p5, vi p6, vi (2 : Int32), vi c1, vr b3, vr b52_b, vr b52_b, vr b3, vr b58_b] [(.int p4), (.int p3), (.int p2), (.int (2 : Int32)), (.ref b3)] _
        refine XS.iconst X61.here hx rfl (hb hby at_174) ?_
        show SS p e below m T61 175 #[vi p1, vi p2, vi p3, vi p4, vi p5, vi p6, vi (2 : Int32), vi c1, vr b3, vr b52_b, vr b52_b, vr b3, vr b58_b] [(.int (0 : Int32)), (.int p4), (.int p3), (.int p2), (.int (2 : Int32)), (.ref b3)] _
        refine XS.iconst X61.here hx rfl (hb hby at_175) ?_
        show SS p e below m T61 176 #[vi p1, vi p2, vi p3, vi p4, vi p5, vi p6, vi (2 : Int32), vi c1, vr b3, vr b52_b, vr b52_b, vr b3, vr b58_b] [(.int (0 : Int32)), (.int (0 : Int32)), (.int p4), (.int p3), (.int p2), (.int (2 : Int32)), (.ref b3)] _
        refine st62 _ ?_
        show SS p e below m T62 179 #[vi p1, vi p2, vi p3, vi p4, vi p5, vi p6, vi (2 : Int32), vi c1, vr b3, vr b52_b, vr b52_b, vr b3, vr b58_b] [(.int (1 : Int32))] _
        refine XS.ifNo X62.here hx rfl (hb hby at_179) rfl ((if0 _ _).trans (feq (by decide)).1) ?_
        show SS p e below m T62 182 #[vi p1, vi p2, vi p3, vi p4, vi p5, vi p6, vi (2 : Int32), vi c1, vr b3, vr b52_b, vr b52_b, vr b3, vr b58_b] [] _
        refine XS.aload X62.here hx rfl (hb hby at_182) rfl rfl ?_
        show SS p e below m T62 184 #[vi p1, vi p2, vi p3, vi p4, vi p5, vi p6, vi (2 : Int32), vi c1, vr b3, vr b52_b, vr b52_b, vr b3, vr b58_b] [(.ref b58_b)] _
        refine XS.iload X62.here hx rfl (hb hby at_184) rfl ?_
        show SS p e below m T62 186 #[vi p1, vi p2, vi p3, vi p4, vi p5, vi p6, vi (2 : Int32), vi c1, vr b3, vr b52_b, vr b52_b, vr b3, vr b58_b] [(.int (2 : Int32)), (.ref b58_b)] _
        refine XS.iloadN X62.here hx rfl (hb hby at_186) rfl ?_
        show SS p e below m T62 187 #[vi p1, vi p2, vi p3, vi p4, vi p5, vi p6, vi (2 : Int32), vi c1, vr b3, vr b52_b, vr b52_b, vr b3, vr b58_b] [(.int p2), (.int (2 : Int32)), (.ref b58_b)] _
        refine XS.iloadN X62.here hx rfl (hb hby at_187) rfl ?_
        show SS p e below m T62 188 #[vi p1, vi p2, vi p3, vi p4, vi p5, vi p6, vi (2 : Int32), vi c1, vr b3, vr b52_b, vr b52_b, vr b3, vr b58_b] [(.int p3), (.int p2), (.int (2 : Int32)), (.ref b58_b)] _
        refine XS.iloadN X62.here hx rfl (hb hby at_188) rfl ?_
        show SS p e below m T62 189 #[vi p1, vi p2, vi p3, vi p4, vi p5, vi p6, vi (2 : Int32), vi c1, vr b3, vr b52_b, vr b52_b, vr b3, vr b58_b] [(.int p4), (.int p3), (.int p2), (.int (2 : Int32)), (.ref b58_b)] _
        refine XS.iload X62.here hx rfl (hb hby at_189) rfl ?_
        show SS p e below m T62 191 #[vi p1, vi p2, vi p3, vi p4, vi p5, vi p6, vi (2 : Int32), vi c1, vr b3, vr b52_b, vr b52_b, vr b3, vr b58_b] [(.int p6), (.int p4), (.int p3), (.int p2), (.int (2 : Int32)), (.ref b58_b)] _
        refine XS.iconst X62.here hx rfl (hb hby at_191) ?_
        show SS p e below m T62 192 #[vi p1, vi p2, vi p3, vi p4, vi p5, vi p6, vi (2 : Int32), vi c1, vr b3, vr b52_b, vr b52_b, vr b3, vr b58_b] [(.int (1 : Int32)), (.int p6), (.int p4), (.int p3), (.int p2), (.int (2 : Int32)), (.ref b58_b)] _
        refine st63 _ ?_
        show SS p e below m T63 195 #[vi p1, vi p2, vi p3, vi p4, vi p5, vi p6, vi (2 : Int32), vi c1, vr b3, vr b52_b, vr b52_b, vr b3, vr b58_b] [(.int (1 : Int32))] _
        refine XS.ifNo X63.here hx rfl (hb hby at_195) rfl ((if0 _ _).trans (feq (by decide)).1) ?_
        show SS p e below m T63 198 #[vi p1, vi p2, vi p3, vi p4, vi p5, vi p6, vi (2 : Int32), vi c1, vr b3, vr b52_b, vr b52_b, vr b3, vr b58_b] [] _
        refine XS.iconst X63.here hx rfl (hb hby at_198) ?_
        show SS p e below m T63 199 #[vi p1, vi p2, vi p3, vi p4, vi p5, vi p6, vi (2 : Int32), vi c1, vr b3, vr b52_b, vr b52_b, vr b3, vr b58_b] [(.int (1 : Int32))] _
        refine XS.goto X63.here hx rfl (pc0 := 199) (pc' := 203) rfl (hb hby at_199) (by decide) (by decide) ?_
        show SS p e below m T63 203 #[vi p1, vi p2, vi p3, vi p4, vi p5, vi p6, vi (2 : Int32), vi c1, vr b3, vr b52_b, vr b52_b, vr b3, vr b58_b] [(.int (1 : Int32))] _
        exact retN X63 hx (t := .boolean) Bd.returns (by simp) (hb hby at_203) hr
      · show Q_rm0 Z p1 p2 p3 p4 p5 p6 cA cl mr h0 n0 _ T63.heap _
        exact ⟨rfl, N63, KC⟩
    · obtain ⟨_, _, ⟨T64, L64, k64, n64⟩, -, X64, ⟨Lc64, hQ64, l64, y64, z64⟩, st64⟩ := Jvm.LawKit.callS X53 hx (y := y_5) hown (mvT hZ (ww hw 72 rfl)) (mvT hZ (ww hw 73 rfl)) (mvT hZ (ww hw 74 rfl)) (mvT hZ (ww hw 75 rfl)) (by decide) (backOf (W := 1) (rmVo l Z a0 hw [] p5 cA cl T53.heap n0 (Nat.le_trans Z0 KC.1) O0 S_high S_cache BX) hZ (ww hw 75 rfl) (ww hw 74 rfl) (by decide) (by decide)) (g := (mkF m 128 #[vi p1, vi p2, vi p3, vi p4, vi p5, vi p6, vi (2 : Int32), vi c1, vr b3, vr b52_b, vr b3, vr b52_b, un] [(.int p5), (.ref b3)])) rfl (by rw [hml]; rfl) (argsL := [(.int p5)]) (rest := [(.ref b3)]) (lenOf pd_15 rfl) rfl (by show 2 * 0 + _ ≤ _; exact Nat.le_of_eq rfl) (hb hby at_128) (fun _ _ => ⟨rfl, rfl, (by decide : 7 + 1 ≤ _), (by decide : 15 + 1 ≤ _)⟩)
      dsimp only [Pt.U, Pt.locs, Pt.cells, Pt.slots] at X64 l64 y64 z64 st64 hQ64
      subst l64 y64 z64
      obtain ⟨b_64, rfl, N64q, K64, E_b_64, F_value_b_64⟩ := hQ64
      have N64 := Fr.app N53 N64q
      replace A3 := A3.keep K64
      replace E_b_4 := E_b_4.keep K64
      replace E_c_4 := E_c_4.keep K64
      replace E_b_48 := E_b_48.keep K64
      replace F_value_b_48 := F_value_b_48.keep K64 nin0
      replace E_b_50 := E_b_50.keep K64
      replace F_value_b_50 := F_value_b_50.keep K64 nin0
      replace F_store_a1_51 := F_store_a1_51.keep K64 nin0
      replace F_size_a1_51 := F_size_a1_51.keep K64 nin0
      replace F_filled_sto_51 := F_filled_sto_51.keep K64 nin0
      replace F_items_sto_51 := F_items_sto_51.keep K64 nin0
      replace V_arr_51 := V_arr_51.keep K64 nin0
      replace E_b_52 := E_b_52.keep K64
      replace F_store_b_52 := F_store_b_52.keep K64 nin0
      replace F_size_b_52 := F_size_b_52.keep K64 nin0
      replace O0 := O0.keep K64 all0
      replace KC := KC.trans K64 all0
      obtain ⟨cq65, kq65, q65a, q65b, q65c⟩ := isOf hZ rfl A3
      obtain ⟨_, _, ⟨T65, L65, k65, n65⟩, -, X65, ⟨Lc65, hQ65, l65, y65, z65⟩, st65⟩ := X64.virtualBack hx (y := y_12) (z := y_12) hown (mvT hZ (ww hw 79 rfl)) (mvT hZ (ww hw 80 rfl)) (notFace_of_selects (args := #[]) (mvT hZ (ww hw 82 rfl))) (mvT hZ (ww hw 82 rfl)) (mvT hZ (ww hw 81 rfl)) (by decide) (backOf (W := 0) (rmAddA l Z a0 hw [] b3 b_64 b4_b (2 : Int32) (2 : Int32) b4_c k_4 (4 : Int32) [(.ref b_48), (.ref b_50), .null, .null] (3 : Int32) [(.ref b_48), (.ref b_50), (.ref b_64), .null] T64.heap n0 (Nat.le_trans Z0 KC.1) O0 F_store_a1_51 F_size_a1_51 A3 E_b_4 F_filled_sto_51 F_items_sto_51 E_c_4 V_arr_51 E_b_64 g_b3 g_b4_b g_b4_c hq4_0 (by decide) (by decide) (by decide) (by decide) (by decide) rfl (Nat.le_of_ble_eq_true rfl)) hZ (ww hw 83 rfl) (ww hw 2 rfl) (by decide) (by decide)) q65a q65c (g := (mkF m 131 #[vi p1, vi p2, vi p3, vi p4, vi p5, vi p6, vi (2 : Int32), vi c1, vr b3, vr b52_b, vr b3, vr b52_b, un] [(.ref b_64), (.ref b3)])) rfl (by rw [hml]; rfl) (Steps.refl _) (argsL := [(.ref b_64)]) (rest := []) (lenOf pd_16 rfl) rfl (by show 2 * 0 + _ ≤ _; exact Nat.le_of_eq rfl) (hb hby at_131) (fun _ _ => ⟨rfl, rfl, (by decide : 8 + 0 ≤ _), (by decide : 16 + 0 ≤ _)⟩)
      dsimp only [Pt.U, Pt.locs, Pt.cells, Pt.slots] at X65 l65 y65 z65 st65 hQ65
      subst l65 y65 z65
      obtain ⟨rfl, N65q, K65, F_store_a1_65, F_size_a1_65, F_filled_sto_65, F_items_sto_65, V_arr_65⟩ := hQ65
      have N65 := Fr.app N64 N65q
      have nec_b_64_b4_c : b_64 ≠ b4_c := Exa.ne E_b_64 E_c_4 (by decide)
      have nec_b_64_b4_b : b_64 ≠ b4_b := Exa.ne E_b_64 E_b_4 (by decide)
      have nec_b_64_b3 : b_64 ≠ b3 := Exa.ne E_b_64 A3 (by decide)
      replace A3 := A3.keep K65
      replace E_b_4 := E_b_4.keep K65
      replace E_c_4 := E_c_4.keep K65
      replace E_b_48 := E_b_48.keep K65
      replace F_value_b_48 := F_value_b_48.keep K65 (ninS nec_b_48_b3 (ninS nec_b_48_b4_b (ninS nec_b_48_b4_c nin0)))
      replace E_b_50 := E_b_50.keep K65
      replace F_value_b_50 := F_value_b_50.keep K65 (ninS nec_b_50_b3 (ninS nec_b_50_b4_b (ninS nec_b_50_b4_c nin0)))
      replace E_b_52 := E_b_52.keep K65
      replace F_store_b_52 := F_store_b_52.keep K65 (ninS (Ne.symm ne_b3_b52_b) (ninS (Ne.symm ne_b4_b_b52_b) (ninS (Ne.symm ne_b4_c_b52_b) nin0)))
      replace F_size_b_52 := F_size_b_52.keep K65 (ninS (Ne.symm ne_b3_b52_b) (ninS (Ne.symm ne_b4_b_b52_b) (ninS (Ne.symm ne_b4_c_b52_b) nin0)))
      replace E_b_64 := E_b_64.keep K65
      replace F_value_b_64 := F_value_b_64.keep K65 (ninS nec_b_64_b3 (ninS nec_b_64_b4_b (ninS nec_b_64_b4_c nin0)))
      replace O0 := O0.keep K65 (allS g_b3 (allS g_b4_b (allS g_b4_c all0)))
      replace KC := KC.trans K65 (allS (Or.inr sz_b3) (allS (Or.inr sz_b4_b) (allS (Or.inr sz_b4_c) all0)))
      obtain ⟨cq66, kq66, q66a, q66b, q66c⟩ := isOf hZ rfl E_b_52
      obtain ⟨_, _, ⟨T66, L66, k66, n66⟩, -, X66, ⟨Lc66, hQ66, l66, y66, z66⟩, st66⟩ := X65.virtualBack hx (y := y_13) (z := y_13) hown (mvT hZ (ww hw 29 rfl)) (mvT hZ (ww hw 30 rfl)) (notFace_of_selects (args := #[]) (mvT hZ (ww hw 32 rfl))) (mvT hZ (ww hw 32 rfl)) (mvT hZ (ww hw 31 rfl)) (by decide) (backOf (W := 0) (rmCp l Z a0 hw [] b52_b b4_b (2 : Int32) T65.heap n0 (Nat.le_trans Z0 KC.1) O0 F_store_b_52 F_size_b_52) hZ (ww hw 33 rfl) (ww hw 2 rfl) (by decide) (by decide)) q66a q66c (g := (mkF m 136 #[vi p1, vi p2, vi p3, vi p4, vi p5, vi p6, vi (2 : Int32), vi c1, vr b3, vr b52_b, vr b3, vr b52_b, un] [(.ref b52_b)])) rfl (by rw [hml]; rfl) (Steps.refl _) (argsL := []) (rest := []) (lenOf pd_13 rfl) rfl (by show 2 * 0 + _ ≤ _; exact Nat.le_of_eq rfl) (hb hby at_136) (fun _ _ => ⟨rfl, rfl, (by decide : 8 + 1 ≤ _), (by decide : 16 + 2 ≤ _)⟩)
      dsimp only [Pt.U, Pt.locs, Pt.cells, Pt.slots] at X66 l66 y66 z66 st66 hQ66
      subst l66 y66 z66
      obtain ⟨b66_b, rfl, N66q, K66, sz_b66_b, E_b_66, F_store_b_66, F_size_b_66⟩ := hQ66
      have N66 := Fr.app N65 N66q
      have ne_b3_b66_b : b3 ≠ b66_b := Nat.ne_of_lt (Nat.lt_of_lt_of_le A3.lt sz_b66_b)
      have ne_b4_b_b66_b : b4_b ≠ b66_b := Nat.ne_of_lt (Nat.lt_of_lt_of_le E_b_4.lt sz_b66_b)
      have ne_b4_c_b66_b : b4_c ≠ b66_b := Nat.ne_of_lt (Nat.lt_of_lt_of_le E_c_4.lt sz_b66_b)
      have ne_b_48_b66_b : b_48 ≠ b66_b := Nat.ne_of_lt (Nat.lt_of_lt_of_le E_b_48.lt sz_b66_b)
      have ne_b_50_b66_b : b_50 ≠ b66_b := Nat.ne_of_lt (Nat.lt_of_lt_of_le E_b_50.lt sz_b66_b)
      have ne_b52_b_b66_b : b52_b ≠ b66_b := Nat.ne_of_lt (Nat.lt_of_lt_of_le E_b_52.lt sz_b66_b)
      have ne_b_64_b66_b : b_64 ≠ b66_b := Nat.ne_of_lt (Nat.lt_of_lt_of_le E_b_64.lt sz_b66_b)
      have g_b66_b : n0 ≤ b66_b := Nat.le_trans (Nat.le_trans Z0 KC.1) sz_b66_b
      replace sz_b66_b : h0.size ≤ b66_b := Nat.le_trans KC.1 sz_b66_b
      replace A3 := A3.keep K66
      replace E_b_4 := E_b_4.keep K66
      replace E_c_4 := E_c_4.keep K66
      replace E_b_48 := E_b_48.keep K66
      replace F_value_b_48 := F_value_b_48.keep K66 nin0
      replace E_b_50 := E_b_50.keep K66
      replace F_value_b_50 := F_value_b_50.keep K66 nin0
      replace E_b_52 := E_b_52.keep K66
      replace F_store_b_52 := F_store_b_52.keep K66 nin0
      replace F_size_b_52 := F_size_b_52.keep K66 nin0
      replace E_b_64 := E_b_64.keep K66
      replace F_value_b_64 := F_value_b_64.keep K66 nin0
      replace F_store_a1_65 := F_store_a1_65.keep K66 nin0
      replace F_size_a1_65 := F_size_a1_65.keep K66 nin0
      replace F_filled_sto_65 := F_filled_sto_65.keep K66 nin0
      replace F_items_sto_65 := F_items_sto_65.keep K66 nin0
      replace V_arr_65 := V_arr_65.keep K66 nin0
      replace O0 := O0.keep K66 all0
      replace KC := KC.trans K66 all0
      obtain ⟨_, _, ⟨T67, L67, k67, n67⟩, -, X67, ⟨Lc67, hQ67, l67, y67, z67⟩, st67⟩ := Jvm.LawKit.callS X66 hx (y := y_5) hown (mvT hZ (ww hw 72 rfl)) (mvT hZ (ww hw 73 rfl)) (mvT hZ (ww hw 74 rfl)) (mvT hZ (ww hw 75 rfl)) (by decide) (backOf (W := 1) (rmVo l Z a0 hw [] p6 cA cl T66.heap n0 (Nat.le_trans Z0 KC.1) O0 S_high S_cache BX) hZ (ww hw 75 rfl) (ww hw 74 rfl) (by decide) (by decide)) (g := (mkF m 145 #[vi p1, vi p2, vi p3, vi p4, vi p5, vi p6, vi (2 : Int32), vi c1, vr b3, vr b52_b, vr b3, vr b52_b, vr b66_b] [(.int p6), (.ref b66_b)])) rfl (by rw [hml]; rfl) (argsL := [(.int p6)]) (rest := [(.ref b66_b)]) (lenOf pd_15 rfl) rfl (by show 2 * 0 + _ ≤ _; exact Nat.le_of_eq rfl) (hb hby at_145) (fun _ _ => ⟨rfl, rfl, (by decide : 9 + 1 ≤ _), (by decide : 18 + 1 ≤ _)⟩)
      dsimp only [Pt.U, Pt.locs, Pt.cells, Pt.slots] at X67 l67 y67 z67 st67 hQ67
      subst l67 y67 z67
      obtain ⟨b_67, rfl, N67q, K67, E_b_67, F_value_b_67⟩ := hQ67
      have N67 := Fr.app N66 N67q
      replace A3 := A3.keep K67
      replace E_b_4 := E_b_4.keep K67
      replace E_c_4 := E_c_4.keep K67
      replace E_b_48 := E_b_48.keep K67
      replace F_value_b_48 := F_value_b_48.keep K67 nin0
      replace E_b_50 := E_b_50.keep K67
      replace F_value_b_50 := F_value_b_50.keep K67 nin0
      replace E_b_52 := E_b_52.keep K67
      replace F_store_b_52 := F_store_b_52.keep K67 nin0
      replace F_size_b_52 := F_size_b_52.keep K67 nin0
      replace E_b_64 := E_b_64.keep K67
      replace F_value_b_64 := F_value_b_64.keep K67 nin0
      replace F_store_a1_65 := F_store_a1_65.keep K67 nin0
      replace F_size_a1_65 := F_size_a1_65.keep K67 nin0
      replace F_filled_sto_65 := F_filled_sto_65.keep K67 nin0
      replace F_items_sto_65 := F_items_sto_65.keep K67 nin0
      replace V_arr_65 := V_arr_65.keep K67 nin0
      replace E_b_66 := E_b_66.keep K67
      replace F_store_b_66 := F_store_b_66.keep K67 nin0
      replace F_size_b_66 := F_size_b_66.keep K67 nin0
      replace O0 := O0.keep K67 all0
      replace KC := KC.trans K67 all0
      obtain ⟨cq68, kq68, q68a, q68b, q68c⟩ := isOf hZ rfl E_b_66
      obtain ⟨_, _, ⟨T68, L68, k68, n68⟩, -, X68, ⟨Lc68, hQ68, l68, y68, z68⟩, st68⟩ := X67.virtualBack hx (y := y_12) (z := y_12) hown (mvT hZ (ww hw 79 rfl)) (mvT hZ (ww hw 80 rfl)) (notFace_of_selects (args := #[]) (mvT hZ (ww hw 82 rfl))) (mvT hZ (ww hw 82 rfl)) (mvT hZ (ww hw 81 rfl)) (by decide) (backOf (W := 0) (rmAddB l Z a0 hw [] b66_b b_67 b4_b (2 : Int32) (3 : Int32) b4_c k_4 (4 : Int32) [(.ref b_48), (.ref b_50), (.ref b_64), .null] mr (4 : Int32) (4 : Int32) [(.ref b_48), (.ref b_50), (.ref b_64), .null, .null, .null, .null, .null, .null, .null] (3 : Int32) [(.ref b_48), (.ref b_50), (.ref b_67), .null, .null, .null, .null, .null, .null, .null] T67.heap n0 (Nat.le_trans Z0 KC.1) O0 F_store_b_66 F_size_b_66 E_b_66 E_b_4 F_filled_sto_65 F_items_sto_65 E_c_4 V_arr_65 E_b_67 g_b66_b MIR (Or.inl (by decide)) (by decide) (by decide) (by decide) (by decide) (by decide) (by decide) (by decide) rfl (own_els_cons (Or.inr ⟨_, rfl, E_b_48⟩) (own_els_cons (Or.inr ⟨_, rfl, E_b_50⟩) (own_els_cons (Or.inr ⟨_, rfl, E_b_64⟩) (own_els_cons (Or.inl rfl) own_els_nil)))) (by decide) (by decide) (by decide) rfl (Nat.le_of_ble_eq_true rfl)) hZ (ww hw 83 rfl) (ww hw 2 rfl) (by decide) (by decide)) q68a q68c (g := (mkF m 148 #[vi p1, vi p2, vi p3, vi p4, vi p5, vi p6, vi (2 : Int32), vi c1, vr b3, vr b52_b, vr b3, vr b52_b, vr b66_b] [(.ref b_67), (.ref b66_b)])) rfl (by rw [hml]; rfl) (Steps.refl _) (argsL := [(.ref b_67)]) (rest := []) (lenOf pd_16 rfl) rfl (by show 2 * 0 + _ ≤ _; exact Nat.le_of_eq rfl) (hb hby at_148) (fun _ _ => ⟨rfl, rfl, (by decide : 10 + 2 ≤ _), (by decide : 19 + 12 ≤ _)⟩)
      dsimp only [Pt.U, Pt.locs, Pt.cells, Pt.slots] at X68 l68 y68 z68 st68 hQ68
      subst l68 y68 z68
      obtain ⟨b68_b, b68_c, k2_68, rfl, N68q, K68, sz_b68_b, sz_b68_c, F_store_a1_68, F_size_a1_68, E_b_68, F_filled_b_68, F_items_b_68, E_c_68, V_c_68, hq68_0⟩ := hQ68
      have N68 := Fr.app N67 N68q
      have ne_b3_b68_b : b3 ≠ b68_b := Nat.ne_of_lt (Nat.lt_of_lt_of_le A3.lt sz_b68_b)
      have ne_b4_b_b68_b : b4_b ≠ b68_b := Nat.ne_of_lt (Nat.lt_of_lt_of_le E_b_4.lt sz_b68_b)
      have ne_b4_c_b68_b : b4_c ≠ b68_b := Nat.ne_of_lt (Nat.lt_of_lt_of_le E_c_4.lt sz_b68_b)
      have ne_b_48_b68_b : b_48 ≠ b68_b := Nat.ne_of_lt (Nat.lt_of_lt_of_le E_b_48.lt sz_b68_b)
      have ne_b_50_b68_b : b_50 ≠ b68_b := Nat.ne_of_lt (Nat.lt_of_lt_of_le E_b_50.lt sz_b68_b)
      have ne_b52_b_b68_b : b52_b ≠ b68_b := Nat.ne_of_lt (Nat.lt_of_lt_of_le E_b_52.lt sz_b68_b)
      have ne_b_64_b68_b : b_64 ≠ b68_b := Nat.ne_of_lt (Nat.lt_of_lt_of_le E_b_64.lt sz_b68_b)
      have ne_b66_b_b68_b : b66_b ≠ b68_b := Nat.ne_of_lt (Nat.lt_of_lt_of_le E_b_66.lt sz_b68_b)
      have ne_b_67_b68_b : b_67 ≠ b68_b := Nat.ne_of_lt (Nat.lt_of_lt_of_le E_b_67.lt sz_b68_b)
      have g_b68_b : n0 ≤ b68_b := Nat.le_trans (Nat.le_trans Z0 KC.1) sz_b68_b
      replace sz_b68_b : h0.size ≤ b68_b := Nat.le_trans KC.1 sz_b68_b
      have ne_b3_b68_c : b3 ≠ b68_c := Nat.ne_of_lt (Nat.lt_of_lt_of_le A3.lt sz_b68_c)
      have ne_b4_b_b68_c : b4_b ≠ b68_c := Nat.ne_of_lt (Nat.lt_of_lt_of_le E_b_4.lt sz_b68_c)
      have ne_b4_c_b68_c : b4_c ≠ b68_c := Nat.ne_of_lt (Nat.lt_of_lt_of_le E_c_4.lt sz_b68_c)
      have ne_b_48_b68_c : b_48 ≠ b68_c := Nat.ne_of_lt (Nat.lt_of_lt_of_le E_b_48.lt sz_b68_c)
      have ne_b_50_b68_c : b_50 ≠ b68_c := Nat.ne_of_lt (Nat.lt_of_lt_of_le E_b_50.lt sz_b68_c)
      have ne_b52_b_b68_c : b52_b ≠ b68_c := Nat.ne_of_lt (Nat.lt_of_lt_of_le E_b_52.lt sz_b68_c)
      have ne_b_64_b68_c : b_64 ≠ b68_c := Nat.ne_of_lt (Nat.lt_of_lt_of_le E_b_64.lt sz_b68_c)
      have ne_b66_b_b68_c : b66_b ≠ b68_c := Nat.ne_of_lt (Nat.lt_of_lt_of_le E_b_66.lt sz_b68_c)
      have ne_b_67_b68_c : b_67 ≠ b68_c := Nat.ne_of_lt (Nat.lt_of_lt_of_le E_b_67.lt sz_b68_c)
      have g_b68_c : n0 ≤ b68_c := Nat.le_trans (Nat.le_trans Z0 KC.1) sz_b68_c
      replace sz_b68_c : h0.size ≤ b68_c := Nat.le_trans KC.1 sz_b68_c
      have nec_b_67_b66_b : b_67 ≠ b66_b := Exa.ne E_b_67 E_b_66 (by decide)
      replace A3 := A3.keep K68
      replace E_b_4 := E_b_4.keep K68
      replace E_c_4 := E_c_4.keep K68
      replace E_b_48 := E_b_48.keep K68
      replace F_value_b_48 := F_value_b_48.keep K68 (ninS ne_b_48_b66_b nin0)
      replace E_b_50 := E_b_50.keep K68
      replace F_value_b_50 := F_value_b_50.keep K68 (ninS ne_b_50_b66_b nin0)
      replace E_b_52 := E_b_52.keep K68
      replace F_store_b_52 := F_store_b_52.keep K68 (ninS ne_b52_b_b66_b nin0)
      replace F_size_b_52 := F_size_b_52.keep K68 (ninS ne_b52_b_b66_b nin0)
      replace E_b_64 := E_b_64.keep K68
      replace F_value_b_64 := F_value_b_64.keep K68 (ninS ne_b_64_b66_b nin0)
      replace F_store_a1_65 := F_store_a1_65.keep K68 (ninS ne_b3_b66_b nin0)
      replace F_size_a1_65 := F_size_a1_65.keep K68 (ninS ne_b3_b66_b nin0)
      replace F_filled_sto_65 := F_filled_sto_65.keep K68 (ninS ne_b4_b_b66_b nin0)
      replace F_items_sto_65 := F_items_sto_65.keep K68 (ninS ne_b4_b_b66_b nin0)
      replace V_arr_65 := V_arr_65.keep K68 (ninS ne_b4_c_b66_b nin0)
      replace E_b_66 := E_b_66.keep K68
      replace E_b_67 := E_b_67.keep K68
      replace F_value_b_67 := F_value_b_67.keep K68 (ninS nec_b_67_b66_b nin0)
      replace O0 := O0.keep K68 (allS g_b66_b all0)
      replace KC := KC.trans K68 (allS (Or.inr sz_b66_b) all0)
      obtain ⟨_, _, ⟨T69, L69, k69, n69⟩, -, X69, ⟨Lc69, hQ69, l69, y69, z69⟩, st69⟩ := Jvm.LawKit.callS X68 hx (y := y_20) hown (mvT hZ (ww hw 35 rfl)) (mvT hZ (ww hw 36 rfl)) (mvT hZ (ww hw 37 rfl)) (mvT hZ (ww hw 38 rfl)) (by decide) (backOf (W := 0) (rmH21 l Z a0 hw [] b3 p2 p3 p4 p5 b4_b b4_c k_4 (4 : Int32) [(.ref b_48), (.ref b_50), (.ref b_64), .null] b_48 b_50 b_64 T68.heap n0 (Nat.le_trans Z0 KC.1) O0 F_size_a1_65 F_store_a1_65 A3 F_items_sto_65 E_c_4 V_arr_65 E_b_48 F_value_b_48 rfl (by decide) E_b_50 F_value_b_50 rfl (by decide) E_b_64 F_value_b_64 rfl (by decide)) hZ (ww hw 38 rfl) (ww hw 37 rfl) (by decide) (by decide)) (g := (mkF m 161 #[vi p1, vi p2, vi p3, vi p4, vi p5, vi p6, vi (2 : Int32), vi c1, vr b3, vr b52_b, vr b3, vr b52_b, vr b66_b] [(.int (1 : Int32)), (.int p5), (.int p4), (.int p3), (.int p2), (.int (2 : Int32)), (.ref b3)])) rfl (by rw [hml]; rfl) (argsL := [(.ref b3), (.int (2 : Int32)), (.int p2), (.int p3), (.int p4), (.int p5), (.int (1 : Int32))]) (rest := []) (lenOf pd_14 rfl) rfl (by show 2 * 0 + _ ≤ _; exact Nat.le_of_eq rfl) (hb hby at_161) (fun _ _ => ⟨rfl, rfl, (by decide : 12 + 1 ≤ _), (by decide : 31 + 3 ≤ _)⟩)
      dsimp only [Pt.U, Pt.locs, Pt.cells, Pt.slots] at X69 l69 y69 z69 st69 hQ69
      subst l69 y69 z69
      obtain ⟨rfl, N69q, K69⟩ := hQ69
      have N69 := Fr.app N68 N69q
      replace A3 := A3.keep K69
      replace E_b_4 := E_b_4.keep K69
      replace E_c_4 := E_c_4.keep K69
      replace E_b_48 := E_b_48.keep K69
      replace F_value_b_48 := F_value_b_48.keep K69 nin0
      replace E_b_50 := E_b_50.keep K69
      replace F_value_b_50 := F_value_b_50.keep K69 nin0
      replace E_b_52 := E_b_52.keep K69
      replace F_store_b_52 := F_store_b_52.keep K69 nin0
      replace F_size_b_52 := F_size_b_52.keep K69 nin0
      replace E_b_64 := E_b_64.keep K69
      replace F_value_b_64 := F_value_b_64.keep K69 nin0
      replace F_store_a1_65 := F_store_a1_65.keep K69 nin0
      replace F_size_a1_65 := F_size_a1_65.keep K69 nin0
      replace F_filled_sto_65 := F_filled_sto_65.keep K69 nin0
      replace F_items_sto_65 := F_items_sto_65.keep K69 nin0
      replace V_arr_65 := V_arr_65.keep K69 nin0
      replace E_b_66 := E_b_66.keep K69
      replace E_b_67 := E_b_67.keep K69
      replace F_value_b_67 := F_value_b_67.keep K69 nin0
      replace F_store_a1_68 := F_store_a1_68.keep K69 nin0
      replace F_size_a1_68 := F_size_a1_68.keep K69 nin0
      replace E_b_68 := E_b_68.keep K69
      replace F_filled_b_68 := F_filled_b_68.keep K69 nin0
      replace F_items_b_68 := F_items_b_68.keep K69 nin0
      replace E_c_68 := E_c_68.keep K69
      replace V_c_68 := V_c_68.keep K69 nin0
      replace O0 := O0.keep K69 all0
      replace KC := KC.trans K69 all0
      obtain ⟨_, _, ⟨T70, L70, k70, n70⟩, -, X70, ⟨Lc70, hQ70, l70, y70, z70⟩, st70⟩ := Jvm.LawKit.callS X69 hx (y := y_20) hown (mvT hZ (ww hw 35 rfl)) (mvT hZ (ww hw 36 rfl)) (mvT hZ (ww hw 37 rfl)) (mvT hZ (ww hw 38 rfl)) (by decide) (backOf (W := 0) (rmH20 l Z a0 hw [] b52_b p2 p3 p4 (0 : Int32) b4_b b4_c k_4 (4 : Int32) [(.ref b_48), (.ref b_50), (.ref b_64), .null] b_48 b_50 T69.heap n0 (Nat.le_trans Z0 KC.1) O0 F_size_b_52 F_store_b_52 E_b_52 F_items_sto_65 E_c_4 V_arr_65 E_b_48 F_value_b_48 rfl (by decide) E_b_50 F_value_b_50 rfl (by decide)) hZ (ww hw 38 rfl) (ww hw 37 rfl) (by decide) (by decide)) (g := (mkF m 176 #[vi p1, vi p2, vi p3, vi p4, vi p5, vi p6, vi (2 : Int32), vi c1, vr b3, vr b52_b, vr b3, vr b52_b, vr b66_b] [(.int (0 : Int32)), (.int (0 : Int32)), (.int p4), (.int p3), (.int p2), (.int (2 : Int32)), (.ref b52_b)])) rfl (by rw [hml]; rfl) (argsL := [(.ref b52_b), (.int (2 : Int32)), (.int p2), (.int p3), (.int p4), (.int (0 : Int32)), (.int (0 : Int32))]) (rest := []) (lenOf pd_14 rfl) rfl (by show 2 * 0 + _ ≤ _; exact Nat.le_of_eq rfl) (hb hby at_176) (fun _ _ => ⟨rfl, rfl, (by decide : 13 + 1 ≤ _), (by decide : 34 + 3 ≤ _)⟩)
      dsimp only [Pt.U, Pt.locs, Pt.cells, Pt.slots] at X70 l70 y70 z70 st70 hQ70
      subst l70 y70 z70
      obtain ⟨rfl, N70q, K70⟩ := hQ70
      have N70 := Fr.app N69 N70q
      replace A3 := A3.keep K70
      replace E_b_4 := E_b_4.keep K70
      replace E_c_4 := E_c_4.keep K70
      replace E_b_48 := E_b_48.keep K70
      replace F_value_b_48 := F_value_b_48.keep K70 nin0
      replace E_b_50 := E_b_50.keep K70
      replace F_value_b_50 := F_value_b_50.keep K70 nin0
      replace E_b_52 := E_b_52.keep K70
      replace F_store_b_52 := F_store_b_52.keep K70 nin0
      replace F_size_b_52 := F_size_b_52.keep K70 nin0
      replace E_b_64 := E_b_64.keep K70
      replace F_value_b_64 := F_value_b_64.keep K70 nin0
      replace F_store_a1_65 := F_store_a1_65.keep K70 nin0
      replace F_size_a1_65 := F_size_a1_65.keep K70 nin0
      replace F_filled_sto_65 := F_filled_sto_65.keep K70 nin0
      replace F_items_sto_65 := F_items_sto_65.keep K70 nin0
      replace V_arr_65 := V_arr_65.keep K70 nin0
      replace E_b_66 := E_b_66.keep K70
      replace E_b_67 := E_b_67.keep K70
      replace F_value_b_67 := F_value_b_67.keep K70 nin0
      replace F_store_a1_68 := F_store_a1_68.keep K70 nin0
      replace F_size_a1_68 := F_size_a1_68.keep K70 nin0
      replace E_b_68 := E_b_68.keep K70
      replace F_filled_b_68 := F_filled_b_68.keep K70 nin0
      replace F_items_b_68 := F_items_b_68.keep K70 nin0
      replace E_c_68 := E_c_68.keep K70
      replace V_c_68 := V_c_68.keep K70 nin0
      replace O0 := O0.keep K70 all0
      replace KC := KC.trans K70 all0
      obtain ⟨_, _, ⟨T71, L71, k71, n71⟩, -, X71, ⟨Lc71, hQ71, l71, y71, z71⟩, st71⟩ := Jvm.LawKit.callS X70 hx (y := y_20) hown (mvT hZ (ww hw 35 rfl)) (mvT hZ (ww hw 36 rfl)) (mvT hZ (ww hw 37 rfl)) (mvT hZ (ww hw 38 rfl)) (by decide) (backOf (W := 0) (rmH21 l Z a0 hw [] b66_b p2 p3 p4 p6 b68_b b68_c k2_68 (4 : Int32) [(.ref b_48), (.ref b_50), (.ref b_67), .null, .null, .null, .null, .null, .null, .null] b_48 b_50 b_67 T70.heap n0 (Nat.le_trans Z0 KC.1) O0 F_size_a1_68 F_store_a1_68 E_b_66 F_items_b_68 E_c_68 V_c_68 E_b_48 F_value_b_48 rfl (by decide) E_b_50 F_value_b_50 rfl (by decide) E_b_67 F_value_b_67 rfl (by decide)) hZ (ww hw 38 rfl) (ww hw 37 rfl) (by decide) (by decide)) (g := (mkF m 192 #[vi p1, vi p2, vi p3, vi p4, vi p5, vi p6, vi (2 : Int32), vi c1, vr b3, vr b52_b, vr b3, vr b52_b, vr b66_b] [(.int (1 : Int32)), (.int p6), (.int p4), (.int p3), (.int p2), (.int (2 : Int32)), (.ref b66_b)])) rfl (by rw [hml]; rfl) (argsL := [(.ref b66_b), (.int (2 : Int32)), (.int p2), (.int p3), (.int p4), (.int p6), (.int (1 : Int32))]) (rest := []) (lenOf pd_14 rfl) rfl (by show 2 * 0 + _ ≤ _; exact Nat.le_of_eq rfl) (hb hby at_192) (fun _ _ => ⟨rfl, rfl, (by decide : 14 + 1 ≤ _), (by decide : 37 + 3 ≤ _)⟩)
      dsimp only [Pt.U, Pt.locs, Pt.cells, Pt.slots] at X71 l71 y71 z71 st71 hQ71
      subst l71 y71 z71
      obtain ⟨rfl, N71q, K71⟩ := hQ71
      have N71 := Fr.app N70 N71q
      replace A3 := A3.keep K71
      replace E_b_4 := E_b_4.keep K71
      replace E_c_4 := E_c_4.keep K71
      replace E_b_48 := E_b_48.keep K71
      replace F_value_b_48 := F_value_b_48.keep K71 nin0
      replace E_b_50 := E_b_50.keep K71
      replace F_value_b_50 := F_value_b_50.keep K71 nin0
      replace E_b_52 := E_b_52.keep K71
      replace F_store_b_52 := F_store_b_52.keep K71 nin0
      replace F_size_b_52 := F_size_b_52.keep K71 nin0
      replace E_b_64 := E_b_64.keep K71
      replace F_value_b_64 := F_value_b_64.keep K71 nin0
      replace F_store_a1_65 := F_store_a1_65.keep K71 nin0
      replace F_size_a1_65 := F_size_a1_65.keep K71 nin0
      replace F_filled_sto_65 := F_filled_sto_65.keep K71 nin0
      replace F_items_sto_65 := F_items_sto_65.keep K71 nin0
      replace V_arr_65 := V_arr_65.keep K71 nin0
      replace E_b_66 := E_b_66.keep K71
      replace E_b_67 := E_b_67.keep K71
      replace F_value_b_67 := F_value_b_67.keep K71 nin0
      replace F_store_a1_68 := F_store_a1_68.keep K71 nin0
      replace F_size_a1_68 := F_size_a1_68.keep K71 nin0
      replace E_b_68 := E_b_68.keep K71
      replace F_filled_b_68 := F_filled_b_68.keep K71 nin0
      replace F_items_b_68 := F_items_b_68.keep K71 nin0
      replace E_c_68 := E_c_68.keep K71
      replace V_c_68 := V_c_68.keep K71 nin0
      replace O0 := O0.keep K71 all0
      replace KC := KC.trans K71 all0
      obtain ⟨fs, hr, hrun, hended, hW, hsame⟩ := X71.leave (v := some (.int (1 : Int32))) (fun h => by rw [Bd.returns] at h; cases h)
      refine ⟨_, _, pre54 _ ?_, hrun, hended, _, _, rfl, ?_, ⟨_, rfl⟩, hW, hsame.mono (by decide) (by decide)⟩
      · show SS p e below m T53 98 #[vi p1, vi p2, vi p3, vi p4, vi p5, vi p6, vi (2 : Int32), vi c1, vr b3, vr b52_b, un, un, un] [(.int c1)] _
        refine XS.ifNo X53.here hx rfl (hb hby at_98) rfl ((if0 _ _).trans (feq hc98_55).1) ?_
        show SS p e below m T53 101 #[vi p1, vi p2, vi p3, vi p4, vi p5, vi p6, vi (2 : Int32), vi c1, vr b3, vr b52_b, un, un, un] [] _
        refine XS.aload X53.here hx rfl (hb hby at_101) rfl rfl ?_
        show SS p e below m T53 103 #[vi p1, vi p2, vi p3, vi p4, vi p5, vi p6, vi (2 : Int32), vi c1, vr b3, vr b52_b, un, un, un] [(.ref b3)] _
        refine XS.goto X53.here hx rfl (pc0 := 103) (pc' := 108) rfl (hb hby at_103) (by decide) (by decide) ?_
        show SS p e below m T53 108 #[vi p1, vi p2, vi p3, vi p4, vi p5, vi p6, vi (2 : Int32), vi c1, vr b3, vr b52_b, un, un, un] [(.ref b3)] _
        refine XS.astore X53.here hx rfl (hb hby at_108) rfl rfl (l' := #[vi p1, vi p2, vi p3, vi p4, vi p5, vi p6, vi (2 : Int32), vi c1, vr b3, vr b52_b, vr b3, un, un]) rfl ?_
        show SS p e below m T53 110 #[vi p1, vi p2, vi p3, vi p4, vi p5, vi p6, vi (2 : Int32), vi c1, vr b3, vr b52_b, vr b3, un, un] [] _
        refine XS.iload X53.here hx rfl (hb hby at_110) rfl ?_
        show SS p e below m T53 112 #[vi p1, vi p2, vi p3, vi p4, vi p5, vi p6, vi (2 : Int32), vi c1, vr b3, vr b52_b, vr b3, un, un] [(.int c1)] _
        refine XS.ifNo X53.here hx rfl (hb hby at_112) rfl ((if0 _ _).trans (feq hc98_55).1) ?_
        show SS p e below m T53 115 #[vi p1, vi p2, vi p3, vi p4, vi p5, vi p6, vi (2 : Int32), vi c1, vr b3, vr b52_b, vr b3, un, un] [] _
        refine XS.aload X53.here hx rfl (hb hby at_115) rfl rfl ?_
        show SS p e below m T53 117 #[vi p1, vi p2, vi p3, vi p4, vi p5, vi p6, vi (2 : Int32), vi c1, vr b3, vr b52_b, vr b3, un, un] [(.ref b52_b)] _
        refine XS.goto X53.here hx rfl (pc0 := 117) (pc' := 122) rfl (hb hby at_117) (by decide) (by decide) ?_
        show SS p e below m T53 122 #[vi p1, vi p2, vi p3, vi p4, vi p5, vi p6, vi (2 : Int32), vi c1, vr b3, vr b52_b, vr b3, un, un] [(.ref b52_b)] _
        refine XS.astore X53.here hx rfl (hb hby at_122) rfl rfl (l' := #[vi p1, vi p2, vi p3, vi p4, vi p5, vi p6, vi (2 : Int32), vi c1, vr b3, vr b52_b, vr b3, vr b52_b, un]) rfl ?_
        show SS p e below m T53 124 #[vi p1, vi p2, vi p3, vi p4, vi p5, vi p6, vi (2 : Int32), vi c1, vr b3, vr b52_b, vr b3, vr b52_b, un] [] _
        refine XS.aload X53.here hx rfl (hb hby at_124) rfl rfl ?_
        show SS p e below m T53 126 #[vi p1, vi p2, vi p3, vi p4, vi p5, vi p6, vi (2 : Int32), vi c1, vr b3, vr b52_b, vr b3, vr b52_b, un] [(.ref b3)] _
        refine XS.iload X53.here hx rfl (hb hby at_126) rfl ?_
        show SS p e below m T53 128 #[vi p1, vi p2, vi p3, vi p4, vi p5, vi p6, vi (2 : Int32), vi c1, vr b3, vr b52_b, vr b3, vr b52_b, un] [(.int p5), (.ref b3)] _
        refine st64 _ ?_
        show SS p e below m T64 131 #[vi p1, vi p2, vi p3, vi p4, vi p5, vi p6, vi (2 : Int32), vi c1, vr b3, vr b52_b, vr b3, vr b52_b, un] [(.ref b_64), (.ref b3)] _
        refine st65.trans ?_
        show SS p e below m T65 134 #[vi p1, vi p2, vi p3, vi p4, vi p5, vi p6, vi (2 : Int32), vi c1, vr b3, vr b52_b, vr b3, vr b52_b, un] [] _
        refine XS.aload X65.here hx rfl (hb hby at_134) rfl rfl ?_
        show SS p e below m T65 136 #[vi p1, vi p2, vi p3, vi p4, vi p5, vi p6, vi (2 : Int32), vi c1, vr b3, vr b52_b, vr b3, vr b52_b, un] [(.ref b52_b)] _
        refine st66.trans ?_
        show SS p e below m T66 139 #[vi p1, vi p2, vi p3, vi p4, vi p5, vi p6, vi (2 : Int32), vi c1, vr b3, vr b52_b, vr b3, vr b52_b, un] [(.ref b66_b)] _
        refine XS.astore X66.here hx rfl (hb hby at_139) rfl rfl (l' := #[vi p1, vi p2, vi p3, vi p4, vi p5, vi p6, vi (2 : Int32), vi c1, vr b3, vr b52_b, vr b3, vr b52_b, vr b66_b]) rfl ?_
        show SS p e below m T66 141 #[vi p1, vi p2, vi p3, vi p4, vi p5, vi p6, vi (2 : Int32), vi c1, vr b3, vr b52_b, vr b3, vr b52_b, vr b66_b] [] _
        refine XS.aload X66.here hx rfl (hb hby at_141) rfl rfl ?_
        show SS p e below m T66 143 #[vi p1, vi p2, vi p3, vi p4, vi p5, vi p6, vi (2 : Int32), vi c1, vr b3, vr b52_b, vr b3, vr b52_b, vr b66_b] [(.ref b66_b)] _
        refine XS.iload X66.here hx rfl (hb hby at_143) rfl ?_
        show SS p e below m T66 145 #[vi p1, vi p2, vi p3, vi p4, vi p5, vi p6, vi (2 : Int32), vi c1, vr b3, vr b52_b, vr b3, vr b52_b, vr b66_b] [(.int p6), (.ref b66_b)] _
        refine st67 _ ?_
        show SS p e below m T67 148 #[vi p1, vi p2, vi p3, vi p4, vi p5, vi p6, vi (2 : Int32), vi c1, vr b3, vr b52_b, vr b3, vr b52_b, vr b66_b] [(.ref b_67), (.ref b66_b)] _
        refine st68.trans ?_
        show SS p e below m T68 151 #[vi p1, vi p2, vi p3, vi p4, vi p5, vi p6, vi (2 : Int32), vi c1, vr b3, vr b52_b, vr b3, vr b52_b, vr b66_b] [] _
        refine XS.aload X68.here hx rfl (hb hby at_151) rfl rfl ?_
        show SS p e below m T68 153 #[vi p1, vi p2, vi p3, vi p4, vi p5, vi p6, vi (2 : Int32), vi c1, vr b3, vr b52_b, vr b3, vr b52_b, vr b66_b] [(.ref b3)] _
        refine XS.iload X68.here hx rfl (hb hby at_153) rfl ?_
        show SS p e below m T68 155 #[vi p1, vi p2, vi p3, vi p4, vi p5, vi p6, vi (2 : Int32), vi c1, vr b3, vr b52_b, vr b3, vr b52_b, vr b66_b] [(.int (2 : Int32)), (.ref b3)] _
        refine XS.iloadN X68.here hx rfl (hb hby at_155) rfl ?_
        show SS p e below m T68 156 #[vi p1, vi p2, vi p3, vi p4, vi p5, vi p6, vi (2 : Int32), vi c1, vr b3, vr b52_b, vr b3, vr b52_b, vr b66_b] [(.int p2), (.int (2 : Int32)), (.ref b3)] _
        refine XS.iloadN X68.here hx rfl (hb hby at_156) rfl ?_
        show SS p e below m T68 157 #[vi p1, vi p2, vi p3, vi p4, vi p5, vi p6, vi (2 : Int32), vi c1, vr b3, vr b52_b, vr b3, vr b52_b, vr b66_b] [(.int p3), (.int p2), (.int (2 : Int32)), (.ref b3)] _
        refine XS.iloadN X68.here hx rfl (hb hby at_157) rfl ?_
        show SS p e below m T68 158 #[vi p1, vi p2, vi p3, vi p4, vi p5, vi p6, vi (2 : Int32), vi c1, vr b3, vr b52_b, vr b3, vr b52_b, vr b66_b] [(.int p4), (.int p3), (.int p2), (.int (2 : Int32)), (.ref b3)] _
        refine XS.iload X68.here hx rfl (hb hby at_158) rfl ?_
        show SS p e below m T68 160 #[vi p1, vi p2, vi p3, vi p4, vi p5, vi p6, vi (2 : Int32), vi c1, vr b3, vr b52_b, vr b3, vr b52_b, vr b66_b] [(.int p5), (.int p4), (.int p3), (.int p2), (.int (2 : Int32)), (.ref b3)] _
        refine XS.iconst X68.here hx rfl (hb hby at_160) ?_
        show SS p e below m T68 161 #[vi p1, vi p2, vi p3, vi p4, vi p5, vi p6, vi (2 : Int32), vi c1, vr b3, vr b52_b, vr b3, vr b52_b, vr b66_b] [(.int (1 : Int32)), (.int p5), (.int p4), (.int p3), (.int p2), (.int (2 : Int32)), (.ref b3)] _
        refine st69 _ ?_
        show SS p e below m T69 164 #[vi p1, vi p2, vi p3, vi p4, vi p5, vi p6, vi (2 : Int32), vi c1, vr b3, vr b52_b, vr b3, vr b52_b, vr b66_b] [(.int (1 : Int32))] _
        refine XS.ifNo X69.here hx rfl (hb hby at_164) rfl ((if0 _ _).trans (feq (by decide)).1) ?_
        show SS p e below m T69 167 #[vi p1, vi p2, vi p3, vi p4, vi p5, vi p6, vi (2 : Int32), vi c1, vr b3, vr b52_b, vr b3, vr b52_b, vr b66_b] [] _
        refine XS.aload X69.here hx rfl (hb hby at_167) rfl rfl ?_
        show SS p e below m T69 169 #[vi p1, vi p2, vi p3, vi p4, vi p5, vi p6, vi (2 : Int32), vi c1, vr b3, vr b52_b, vr b3, vr b52_b, vr b66_b] [(.ref b52_b)] _
        refine XS.iload X69.here hx rfl (hb hby at_169) rfl ?_
        show SS p e below m T69 171 #[vi p1, vi p2, vi p3, vi p4, vi p5, vi p6, vi (2 : Int32), vi c1, vr b3, vr b52_b, vr b3, vr b52_b, vr b66_b] [(.int (2 : Int32)), (.ref b52_b)] _
        refine XS.iloadN X69.here hx rfl (hb hby at_171) rfl ?_
        show SS p e below m T69 172 #[vi p1, vi p2, vi p3, vi p4, vi p5, vi p6, vi (2 : Int32), vi c1, vr b3, vr b52_b, vr b3, vr b52_b, vr b66_b] [(.int p2), (.int (2 : Int32)), (.ref b52_b)] _
        refine XS.iloadN X69.here hx rfl (hb hby at_172) rfl ?_
        show SS p e below m T69 173 #[vi p1, vi p2, vi p3, vi p4, vi p5, vi p6, vi (2 : Int32), vi c1, vr b3, vr b52_b, vr b3, vr b52_b, vr b66_b] [(.int p3), (.int p2), (.int (2 : Int32)), (.ref b52_b)] _
        refine XS.iloadN X69.here hx rfl (hb hby at_173) rfl ?_
        show SS p e below m T69 174 #[vi p1, vi p2, vi p3, vi p4, vi p5, vi p6, vi (2 : Int32), vi c1, vr b3, vr b52_b, vr b3, vr b52_b, vr b66_b] [(.int p4), (.int p3), (.int p2), (.int (2 : Int32)), (.ref b52_b)] _
        refine XS.iconst X69.here hx rfl (hb hby at_174) ?_
        show SS p e below m T69 175 #[vi p1, vi p2, vi p3, vi p4, vi p5, vi p6, vi (2 : Int32), vi c1, vr b3, vr b52_b, vr b3, vr b52_b, vr b66_b] [(.int (0 : Int32)), (.int p4), (.int p3), (.int p2), (.int (2 : Int32)), (.ref b52_b)] _
        refine XS.iconst X69.here hx rfl (hb hby at_175) ?_
        show SS p e below m T69 176 #[vi p1, vi p2, vi p3, vi p4, vi p5, vi p6, vi (2 : Int32), vi c1, vr b3, vr b52_b, vr b3, vr b52_b, vr b66_b] [(.int (0 : Int32)), (.int (0 : Int32)), (.int p4), (.int p3), (.int p2), (.int (2 : Int32)), (.ref b52_b)] _
        refine st70 _ ?_
        show SS p e below m T70 179 #[vi p1, vi p2, vi p3, vi p4, vi p5, vi p6, vi (2 : Int32), vi c1, vr b3, vr b52_b, vr b3, vr b52_b, vr b66_b] [(.int (1 : Int32))] _
        refine XS.ifNo X70.here hx rfl (hb hby at_179) rfl ((if0 _ _).trans (feq (by decide)).1) ?_
        show SS p e below m T70 182 #[vi p1, vi p2, vi p3, vi p4, vi p5, vi p6, vi (2 : Int32), vi c1, vr b3, vr b52_b, vr b3, vr b52_b, vr b66_b] [] _
        refine XS.aload X70.here hx rfl (hb hby at_182) rfl rfl ?_
        show SS p e below m T70 184 #[vi p1, vi p2, vi p3, vi p4, vi p5, vi p6, vi (2 : Int32), vi c1, vr b3, vr b52_b, vr b3, vr b52_b, vr b66_b] [(.ref b66_b)] _
        refine XS.iload X70.here hx rfl (hb hby at_184) rfl ?_
        show SS p e below m T70 186 #[vi p1, vi p2, vi p3, vi p4, vi p5, vi p6, vi (2 : Int32), vi c1, vr b3, vr b52_b, vr b3, vr b52_b, vr b66_b] [(.int (2 : Int32)), (.ref b66_b)] _
        refine XS.iloadN X70.here hx rfl (hb hby at_186) rfl ?_
        show SS p e below m T70 187 #[vi p1, vi p2, vi p3, vi p4, vi p5, vi p6, vi (2 : Int32), vi c1, vr b3, vr b52_b, vr b3, vr b52_b, vr b66_b] [(.int p2), (.int (2 : Int32)), (.ref b66_b)] _
        refine XS.iloadN X70.here hx rfl (hb hby at_187) rfl ?_
        show SS p e below m T70 188 #[vi p1, vi p2, vi p3, vi p4, vi p5, vi p6, vi (2 : Int32), vi c1, vr b3, vr b52_b, vr b3, vr b52_b, vr b66_b] [(.int p3), (.int p2), (.int (2 : Int32)), (.ref b66_b)] _
        refine XS.iloadN X70.here hx rfl (hb hby at_188) rfl ?_
        show SS p e below m T70 189 #[vi p1, vi p2, vi p3, vi p4, vi p5, vi p6, vi (2 : Int32), vi c1, vr b3, vr b52_b, vr b3, vr b52_b, vr b66_b] [(.int p4), (.int p3), (.int p2), (.int (2 : Int32)), (.ref b66_b)] _
        refine XS.iload X70.here hx rfl (hb hby at_189) rfl ?_
        show SS p e below m T70 191 #[vi p1, vi p2, vi p3, vi p4, vi p5, vi p6, vi (2 : Int32), vi c1, vr b3, vr b52_b, vr b3, vr b52_b, vr b66_b] [(.int p6), (.int p4), (.int p3), (.int p2), (.int (2 : Int32)), (.ref b66_b)] _
        refine XS.iconst X70.here hx rfl (hb hby at_191) ?_
        show SS p e below m T70 192 #[vi p1, vi p2, vi p3, vi p4, vi p5, vi p6, vi (2 : Int32), vi c1, vr b3, vr b52_b, vr b3, vr b52_b, vr b66_b] [(.int (1 : Int32)), (.int p6), (.int p4), (.int p3), (.int p2), (.int (2 : Int32)), (.ref b66_b)] _
        refine st71 _ ?_
        show SS p e below m T71 195 #[vi p1, vi p2, vi p3, vi p4, vi p5, vi p6, vi (2 : Int32), vi c1, vr b3, vr b52_b, vr b3, vr b52_b, vr b66_b] [(.int (1 : Int32))] _
        refine XS.ifNo X71.here hx rfl (hb hby at_195) rfl ((if0 _ _).trans (feq (by decide)).1) ?_
        show SS p e below m T71 198 #[vi p1, vi p2, vi p3, vi p4, vi p5, vi p6, vi (2 : Int32), vi c1, vr b3, vr b52_b, vr b3, vr b52_b, vr b66_b] [] _
        refine XS.iconst X71.here hx rfl (hb hby at_198) ?_
        show SS p e below m T71 199 #[vi p1, vi p2, vi p3, vi p4, vi p5, vi p6, vi (2 : Int32), vi c1, vr b3, vr b52_b, vr b3, vr b52_b, vr b66_b] [(.int (1 : Int32))] _
        refine XS.goto X71.here hx rfl (pc0 := 199) (pc' := 203) rfl (hb hby at_199) (by decide) (by decide) ?_
        show SS p e below m T71 203 #[vi p1, vi p2, vi p3, vi p4, vi p5, vi p6, vi (2 : Int32), vi c1, vr b3, vr b52_b, vr b3, vr b52_b, vr b66_b] [(.int (1 : Int32))] _
        exact retN X71 hx (t := .boolean) Bd.returns (by simp) (hb hby at_203) hr
      · show Q_rm0 Z p1 p2 p3 p4 p5 p6 cA cl mr h0 n0 _ T71.heap _
        exact ⟨rfl, N71, KC⟩
  · rw [hk] at pre5
    obtain ⟨_, _, ⟨T72, L72, k72, n72⟩, -, X72, ⟨Lc72, hQ72, l72, y72, z72⟩, st72⟩ := Jvm.LawKit.callS X4 hx (y := y_5) hown (mvT hZ (ww hw 72 rfl)) (mvT hZ (ww hw 73 rfl)) (mvT hZ (ww hw 74 rfl)) (mvT hZ (ww hw 75 rfl)) (by decide) (backOf (W := 1) (rmVo l Z a0 hw [] p2 cA cl T4.heap n0 (Nat.le_trans Z0 KC.1) O0 S_high S_cache BX) hZ (ww hw 75 rfl) (ww hw 74 rfl) (by decide) (by decide)) (g := (mkF m 36 #[vi p1, vi p2, vi p3, vi p4, vi p5, vi p6, vi (3 : Int32), vi c1, vr b3, un, un, un, un] [(.int p2), (.ref b3)])) rfl (by rw [hml]; rfl) (argsL := [(.int p2)]) (rest := [(.ref b3)]) (lenOf pd_15 rfl) rfl (by show 2 * 0 + _ ≤ _; exact Nat.le_of_eq rfl) (hb hby at_36) (fun _ _ => ⟨rfl, rfl, (by decide : 3 + 1 ≤ _), (by decide : 8 + 1 ≤ _)⟩)
    dsimp only [Pt.U, Pt.locs, Pt.cells, Pt.slots] at X72 l72 y72 z72 st72 hQ72
    subst l72 y72 z72
    obtain ⟨b_72, rfl, N72q, K72, E_b_72, F_value_b_72⟩ := hQ72
    have N72 := Fr.app N4 N72q
    replace A3 := A3.keep K72
    replace F_store_a1_4 := F_store_a1_4.keep K72 nin0
    replace F_size_a1_4 := F_size_a1_4.keep K72 nin0
    replace E_b_4 := E_b_4.keep K72
    replace F_items_b_4 := F_items_b_4.keep K72 nin0
    replace F_filled_b_4 := F_filled_b_4.keep K72 nin0
    replace E_c_4 := E_c_4.keep K72
    replace V_c_4 := V_c_4.keep K72 nin0
    replace O0 := O0.keep K72 all0
    replace KC := KC.trans K72 all0
    obtain ⟨cq73, kq73, q73a, q73b, q73c⟩ := isOf hZ rfl A3
    obtain ⟨_, _, ⟨T73, L73, k73, n73⟩, -, X73, ⟨Lc73, hQ73, l73, y73, z73⟩, st73⟩ := X72.virtualBack hx (y := y_12) (z := y_12) hown (mvT hZ (ww hw 79 rfl)) (mvT hZ (ww hw 80 rfl)) (notFace_of_selects (args := #[]) (mvT hZ (ww hw 82 rfl))) (mvT hZ (ww hw 82 rfl)) (mvT hZ (ww hw 81 rfl)) (by decide) (backOf (W := 0) (rmAddA l Z a0 hw [] b3 b_72 b4_b (0 : Int32) (0 : Int32) b4_c k_4 (4 : Int32) [.null, .null, .null, .null] (1 : Int32) [(.ref b_72), .null, .null, .null] T72.heap n0 (Nat.le_trans Z0 KC.1) O0 F_store_a1_4 F_size_a1_4 A3 E_b_4 F_filled_b_4 F_items_b_4 E_c_4 V_c_4 E_b_72 g_b3 g_b4_b g_b4_c hq4_0 (by decide) (by decide) (by decide) (by decide) (by decide) rfl (Nat.le_of_ble_eq_true rfl)) hZ (ww hw 83 rfl) (ww hw 2 rfl) (by decide) (by decide)) q73a q73c (g := (mkF m 39 #[vi p1, vi p2, vi p3, vi p4, vi p5, vi p6, vi (3 : Int32), vi c1, vr b3, un, un, un, un] [(.ref b_72), (.ref b3)])) rfl (by rw [hml]; rfl) (Steps.refl _) (argsL := [(.ref b_72)]) (rest := []) (lenOf pd_16 rfl) rfl (by show 2 * 0 + _ ≤ _; exact Nat.le_of_eq rfl) (hb hby at_39) (fun _ _ => ⟨rfl, rfl, (by decide : 4 + 0 ≤ _), (by decide : 9 + 0 ≤ _)⟩)
    dsimp only [Pt.U, Pt.locs, Pt.cells, Pt.slots] at X73 l73 y73 z73 st73 hQ73
    subst l73 y73 z73
    obtain ⟨rfl, N73q, K73, F_store_a1_73, F_size_a1_73, F_filled_sto_73, F_items_sto_73, V_arr_73⟩ := hQ73
    have N73 := Fr.app N72 N73q
    have nec_b_72_b4_c : b_72 ≠ b4_c := Exa.ne E_b_72 E_c_4 (by decide)
    have nec_b_72_b4_b : b_72 ≠ b4_b := Exa.ne E_b_72 E_b_4 (by decide)
    have nec_b_72_b3 : b_72 ≠ b3 := Exa.ne E_b_72 A3 (by decide)
    replace A3 := A3.keep K73
    replace E_b_4 := E_b_4.keep K73
    replace E_c_4 := E_c_4.keep K73
    replace E_b_72 := E_b_72.keep K73
    replace F_value_b_72 := F_value_b_72.keep K73 (ninS nec_b_72_b3 (ninS nec_b_72_b4_b (ninS nec_b_72_b4_c nin0)))
    replace O0 := O0.keep K73 (allS g_b3 (allS g_b4_b (allS g_b4_c all0)))
    replace KC := KC.trans K73 (allS (Or.inr sz_b3) (allS (Or.inr sz_b4_b) (allS (Or.inr sz_b4_c) all0)))
    obtain ⟨_, _, ⟨T74, L74, k74, n74⟩, -, X74, ⟨Lc74, hQ74, l74, y74, z74⟩, st74⟩ := Jvm.LawKit.callS X73 hx (y := y_5) hown (mvT hZ (ww hw 72 rfl)) (mvT hZ (ww hw 73 rfl)) (mvT hZ (ww hw 74 rfl)) (mvT hZ (ww hw 75 rfl)) (by decide) (backOf (W := 1) (rmVo l Z a0 hw [] p3 cA cl T73.heap n0 (Nat.le_trans Z0 KC.1) O0 S_high S_cache BX) hZ (ww hw 75 rfl) (ww hw 74 rfl) (by decide) (by decide)) (g := (mkF m 51 #[vi p1, vi p2, vi p3, vi p4, vi p5, vi p6, vi (3 : Int32), vi c1, vr b3, un, un, un, un] [(.int p3), (.ref b3)])) rfl (by rw [hml]; rfl) (argsL := [(.int p3)]) (rest := [(.ref b3)]) (lenOf pd_15 rfl) rfl (by show 2 * 0 + _ ≤ _; exact Nat.le_of_eq rfl) (hb hby at_51) (fun _ _ => ⟨rfl, rfl, (by decide : 4 + 1 ≤ _), (by decide : 9 + 1 ≤ _)⟩)
    dsimp only [Pt.U, Pt.locs, Pt.cells, Pt.slots] at X74 l74 y74 z74 st74 hQ74
    subst l74 y74 z74
    obtain ⟨b_74, rfl, N74q, K74, E_b_74, F_value_b_74⟩ := hQ74
    have N74 := Fr.app N73 N74q
    replace A3 := A3.keep K74
    replace E_b_4 := E_b_4.keep K74
    replace E_c_4 := E_c_4.keep K74
    replace E_b_72 := E_b_72.keep K74
    replace F_value_b_72 := F_value_b_72.keep K74 nin0
    replace F_store_a1_73 := F_store_a1_73.keep K74 nin0
    replace F_size_a1_73 := F_size_a1_73.keep K74 nin0
    replace F_filled_sto_73 := F_filled_sto_73.keep K74 nin0
    replace F_items_sto_73 := F_items_sto_73.keep K74 nin0
    replace V_arr_73 := V_arr_73.keep K74 nin0
    replace O0 := O0.keep K74 all0
    replace KC := KC.trans K74 all0
    obtain ⟨cq75, kq75, q75a, q75b, q75c⟩ := isOf hZ rfl A3
    obtain ⟨_, _, ⟨T75, L75, k75, n75⟩, -, X75, ⟨Lc75, hQ75, l75, y75, z75⟩, st75⟩ := X74.virtualBack hx (y := y_12) (z := y_12) hown (mvT hZ (ww hw 79 rfl)) (mvT hZ (ww hw 80 rfl)) (notFace_of_selects (args := #[]) (mvT hZ (ww hw 82 rfl))) (mvT hZ (ww hw 82 rfl)) (mvT hZ (ww hw 81 rfl)) (by decide) (backOf (W := 0) (rmAddA l Z a0 hw [] b3 b_74 b4_b (1 : Int32) (1 : Int32) b4_c k_4 (4 : Int32) [(.ref b_72), .null, .null, .null] (2 : Int32) [(.ref b_72), (.ref b_74), .null, .null] T74.heap n0 (Nat.le_trans Z0 KC.1) O0 F_store_a1_73 F_size_a1_73 A3 E_b_4 F_filled_sto_73 F_items_sto_73 E_c_4 V_arr_73 E_b_74 g_b3 g_b4_b g_b4_c hq4_0 (by decide) (by decide) (by decide) (by decide) (by decide) rfl (Nat.le_of_ble_eq_true rfl)) hZ (ww hw 83 rfl) (ww hw 2 rfl) (by decide) (by decide)) q75a q75c (g := (mkF m 54 #[vi p1, vi p2, vi p3, vi p4, vi p5, vi p6, vi (3 : Int32), vi c1, vr b3, un, un, un, un] [(.ref b_74), (.ref b3)])) rfl (by rw [hml]; rfl) (Steps.refl _) (argsL := [(.ref b_74)]) (rest := []) (lenOf pd_16 rfl) rfl (by show 2 * 0 + _ ≤ _; exact Nat.le_of_eq rfl) (hb hby at_54) (fun _ _ => ⟨rfl, rfl, (by decide : 5 + 0 ≤ _), (by decide : 10 + 0 ≤ _)⟩)
    dsimp only [Pt.U, Pt.locs, Pt.cells, Pt.slots] at X75 l75 y75 z75 st75 hQ75
    subst l75 y75 z75
    obtain ⟨rfl, N75q, K75, F_store_a1_75, F_size_a1_75, F_filled_sto_75, F_items_sto_75, V_arr_75⟩ := hQ75
    have N75 := Fr.app N74 N75q
    have nec_b_74_b4_c : b_74 ≠ b4_c := Exa.ne E_b_74 E_c_4 (by decide)
    have nec_b_74_b4_b : b_74 ≠ b4_b := Exa.ne E_b_74 E_b_4 (by decide)
    have nec_b_74_b3 : b_74 ≠ b3 := Exa.ne E_b_74 A3 (by decide)
    replace A3 := A3.keep K75
    replace E_b_4 := E_b_4.keep K75
    replace E_c_4 := E_c_4.keep K75
    replace E_b_72 := E_b_72.keep K75
    replace F_value_b_72 := F_value_b_72.keep K75 (ninS nec_b_72_b3 (ninS nec_b_72_b4_b (ninS nec_b_72_b4_c nin0)))
    replace E_b_74 := E_b_74.keep K75
    replace F_value_b_74 := F_value_b_74.keep K75 (ninS nec_b_74_b3 (ninS nec_b_74_b4_b (ninS nec_b_74_b4_c nin0)))
    replace O0 := O0.keep K75 (allS g_b3 (allS g_b4_b (allS g_b4_c all0)))
    replace KC := KC.trans K75 (allS (Or.inr sz_b3) (allS (Or.inr sz_b4_b) (allS (Or.inr sz_b4_c) all0)))
    obtain ⟨_, _, ⟨T76, L76, k76, n76⟩, -, X76, ⟨Lc76, hQ76, l76, y76, z76⟩, st76⟩ := Jvm.LawKit.callS X75 hx (y := y_5) hown (mvT hZ (ww hw 72 rfl)) (mvT hZ (ww hw 73 rfl)) (mvT hZ (ww hw 74 rfl)) (mvT hZ (ww hw 75 rfl)) (by decide) (backOf (W := 1) (rmVo l Z a0 hw [] p4 cA cl T75.heap n0 (Nat.le_trans Z0 KC.1) O0 S_high S_cache BX) hZ (ww hw 75 rfl) (ww hw 74 rfl) (by decide) (by decide)) (g := (mkF m 66 #[vi p1, vi p2, vi p3, vi p4, vi p5, vi p6, vi (3 : Int32), vi c1, vr b3, un, un, un, un] [(.int p4), (.ref b3)])) rfl (by rw [hml]; rfl) (argsL := [(.int p4)]) (rest := [(.ref b3)]) (lenOf pd_15 rfl) rfl (by show 2 * 0 + _ ≤ _; exact Nat.le_of_eq rfl) (hb hby at_66) (fun _ _ => ⟨rfl, rfl, (by decide : 5 + 1 ≤ _), (by decide : 10 + 1 ≤ _)⟩)
    dsimp only [Pt.U, Pt.locs, Pt.cells, Pt.slots] at X76 l76 y76 z76 st76 hQ76
    subst l76 y76 z76
    obtain ⟨b_76, rfl, N76q, K76, E_b_76, F_value_b_76⟩ := hQ76
    have N76 := Fr.app N75 N76q
    replace A3 := A3.keep K76
    replace E_b_4 := E_b_4.keep K76
    replace E_c_4 := E_c_4.keep K76
    replace E_b_72 := E_b_72.keep K76
    replace F_value_b_72 := F_value_b_72.keep K76 nin0
    replace E_b_74 := E_b_74.keep K76
    replace F_value_b_74 := F_value_b_74.keep K76 nin0
    replace F_store_a1_75 := F_store_a1_75.keep K76 nin0
    replace F_size_a1_75 := F_size_a1_75.keep K76 nin0
    replace F_filled_sto_75 := F_filled_sto_75.keep K76 nin0
    replace F_items_sto_75 := F_items_sto_75.keep K76 nin0
    replace V_arr_75 := V_arr_75.keep K76 nin0
    replace O0 := O0.keep K76 all0
    replace KC := KC.trans K76 all0
    obtain ⟨cq77, kq77, q77a, q77b, q77c⟩ := isOf hZ rfl A3
    obtain ⟨_, _, ⟨T77, L77, k77, n77⟩, -, X77, ⟨Lc77, hQ77, l77, y77, z77⟩, st77⟩ := X76.virtualBack hx (y := y_12) (z := y_12) hown (mvT hZ (ww hw 79 rfl)) (mvT hZ (ww hw 80 rfl)) (notFace_of_selects (args := #[]) (mvT hZ (ww hw 82 rfl))) (mvT hZ (ww hw 82 rfl)) (mvT hZ (ww hw 81 rfl)) (by decide) (backOf (W := 0) (rmAddA l Z a0 hw [] b3 b_76 b4_b (2 : Int32) (2 : Int32) b4_c k_4 (4 : Int32) [(.ref b_72), (.ref b_74), .null, .null] (3 : Int32) [(.ref b_72), (.ref b_74), (.ref b_76), .null] T76.heap n0 (Nat.le_trans Z0 KC.1) O0 F_store_a1_75 F_size_a1_75 A3 E_b_4 F_filled_sto_75 F_items_sto_75 E_c_4 V_arr_75 E_b_76 g_b3 g_b4_b g_b4_c hq4_0 (by decide) (by decide) (by decide) (by decide) (by decide) rfl (Nat.le_of_ble_eq_true rfl)) hZ (ww hw 83 rfl) (ww hw 2 rfl) (by decide) (by decide)) q77a q77c (g := (mkF m 69 #[vi p1, vi p2, vi p3, vi p4, vi p5, vi p6, vi (3 : Int32), vi c1, vr b3, un, un, un, un] [(.ref b_76), (.ref b3)])) rfl (by rw [hml]; rfl) (Steps.refl _) (argsL := [(.ref b_76)]) (rest := []) (lenOf pd_16 rfl) rfl (by show 2 * 0 + _ ≤ _; exact Nat.le_of_eq rfl) (hb hby at_69) (fun _ _ => ⟨rfl, rfl, (by decide : 6 + 0 ≤ _), (by decide : 11 + 0 ≤ _)⟩)
    dsimp only [Pt.U, Pt.locs, Pt.cells, Pt.slots] at X77 l77 y77 z77 st77 hQ77
    subst l77 y77 z77
    obtain ⟨rfl, N77q, K77, F_store_a1_77, F_size_a1_77, F_filled_sto_77, F_items_sto_77, V_arr_77⟩ := hQ77
    have N77 := Fr.app N76 N77q
    have nec_b_76_b4_c : b_76 ≠ b4_c := Exa.ne E_b_76 E_c_4 (by decide)
    have nec_b_76_b4_b : b_76 ≠ b4_b := Exa.ne E_b_76 E_b_4 (by decide)
    have nec_b_76_b3 : b_76 ≠ b3 := Exa.ne E_b_76 A3 (by decide)
    replace A3 := A3.keep K77
    replace E_b_4 := E_b_4.keep K77
    replace E_c_4 := E_c_4.keep K77
    replace E_b_72 := E_b_72.keep K77
    replace F_value_b_72 := F_value_b_72.keep K77 (ninS nec_b_72_b3 (ninS nec_b_72_b4_b (ninS nec_b_72_b4_c nin0)))
    replace E_b_74 := E_b_74.keep K77
    replace F_value_b_74 := F_value_b_74.keep K77 (ninS nec_b_74_b3 (ninS nec_b_74_b4_b (ninS nec_b_74_b4_c nin0)))
    replace E_b_76 := E_b_76.keep K77
    replace F_value_b_76 := F_value_b_76.keep K77 (ninS nec_b_76_b3 (ninS nec_b_76_b4_b (ninS nec_b_76_b4_c nin0)))
    replace O0 := O0.keep K77 (allS g_b3 (allS g_b4_b (allS g_b4_c all0)))
    replace KC := KC.trans K77 (allS (Or.inr sz_b3) (allS (Or.inr sz_b4_b) (allS (Or.inr sz_b4_c) all0)))
    obtain ⟨cq78, kq78, q78a, q78b, q78c⟩ := isOf hZ rfl A3
    obtain ⟨_, _, ⟨T78, L78, k78, n78⟩, -, X78, ⟨Lc78, hQ78, l78, y78, z78⟩, st78⟩ := X77.virtualBack hx (y := y_13) (z := y_13) hown (mvT hZ (ww hw 29 rfl)) (mvT hZ (ww hw 30 rfl)) (notFace_of_selects (args := #[]) (mvT hZ (ww hw 32 rfl))) (mvT hZ (ww hw 32 rfl)) (mvT hZ (ww hw 31 rfl)) (by decide) (backOf (W := 0) (rmCp l Z a0 hw [] b3 b4_b (3 : Int32) T77.heap n0 (Nat.le_trans Z0 KC.1) O0 F_store_a1_77 F_size_a1_77) hZ (ww hw 33 rfl) (ww hw 2 rfl) (by decide) (by decide)) q78a q78c (g := (mkF m 74 #[vi p1, vi p2, vi p3, vi p4, vi p5, vi p6, vi (3 : Int32), vi c1, vr b3, un, un, un, un] [(.ref b3)])) rfl (by rw [hml]; rfl) (Steps.refl _) (argsL := []) (rest := []) (lenOf pd_13 rfl) rfl (by show 2 * 0 + _ ≤ _; exact Nat.le_of_eq rfl) (hb hby at_74) (fun _ _ => ⟨rfl, rfl, (by decide : 6 + 1 ≤ _), (by decide : 11 + 2 ≤ _)⟩)
    dsimp only [Pt.U, Pt.locs, Pt.cells, Pt.slots] at X78 l78 y78 z78 st78 hQ78
    subst l78 y78 z78
    obtain ⟨b78_b, rfl, N78q, K78, sz_b78_b, E_b_78, F_store_b_78, F_size_b_78⟩ := hQ78
    have N78 := Fr.app N77 N78q
    have ne_b3_b78_b : b3 ≠ b78_b := Nat.ne_of_lt (Nat.lt_of_lt_of_le A3.lt sz_b78_b)
    have ne_b4_b_b78_b : b4_b ≠ b78_b := Nat.ne_of_lt (Nat.lt_of_lt_of_le E_b_4.lt sz_b78_b)
    have ne_b4_c_b78_b : b4_c ≠ b78_b := Nat.ne_of_lt (Nat.lt_of_lt_of_le E_c_4.lt sz_b78_b)
    have ne_b_72_b78_b : b_72 ≠ b78_b := Nat.ne_of_lt (Nat.lt_of_lt_of_le E_b_72.lt sz_b78_b)
    have ne_b_74_b78_b : b_74 ≠ b78_b := Nat.ne_of_lt (Nat.lt_of_lt_of_le E_b_74.lt sz_b78_b)
    have ne_b_76_b78_b : b_76 ≠ b78_b := Nat.ne_of_lt (Nat.lt_of_lt_of_le E_b_76.lt sz_b78_b)
    have g_b78_b : n0 ≤ b78_b := Nat.le_trans (Nat.le_trans Z0 KC.1) sz_b78_b
    replace sz_b78_b : h0.size ≤ b78_b := Nat.le_trans KC.1 sz_b78_b
    replace A3 := A3.keep K78
    replace E_b_4 := E_b_4.keep K78
    replace E_c_4 := E_c_4.keep K78
    replace E_b_72 := E_b_72.keep K78
    replace F_value_b_72 := F_value_b_72.keep K78 nin0
    replace E_b_74 := E_b_74.keep K78
    replace F_value_b_74 := F_value_b_74.keep K78 nin0
    replace E_b_76 := E_b_76.keep K78
    replace F_value_b_76 := F_value_b_76.keep K78 nin0
    replace F_store_a1_77 := F_store_a1_77.keep K78 nin0
    replace F_size_a1_77 := F_size_a1_77.keep K78 nin0
    replace F_filled_sto_77 := F_filled_sto_77.keep K78 nin0
    replace F_items_sto_77 := F_items_sto_77.keep K78 nin0
    replace V_arr_77 := V_arr_77.keep K78 nin0
    replace O0 := O0.keep K78 all0
    replace KC := KC.trans K78 all0
    obtain ⟨_, _, ⟨T79, L79, k79, n79⟩, -, X79, ⟨Lc79, hQ79, l79, y79, z79⟩, st79⟩ := Jvm.LawKit.callS X78 hx (y := y_20) hown (mvT hZ (ww hw 35 rfl)) (mvT hZ (ww hw 36 rfl)) (mvT hZ (ww hw 37 rfl)) (mvT hZ (ww hw 38 rfl)) (by decide) (backOf (W := 0) (rmH30 l Z a0 hw [] b78_b p2 p3 p4 (0 : Int32) b4_b b4_c k_4 (4 : Int32) [(.ref b_72), (.ref b_74), (.ref b_76), .null] b_72 b_74 b_76 T78.heap n0 (Nat.le_trans Z0 KC.1) O0 F_size_b_78 F_store_b_78 E_b_78 F_items_sto_77 E_c_4 V_arr_77 E_b_72 F_value_b_72 rfl (by decide) E_b_74 F_value_b_74 rfl (by decide) E_b_76 F_value_b_76 rfl (by decide)) hZ (ww hw 38 rfl) (ww hw 37 rfl) (by decide) (by decide)) (g := (mkF m 88 #[vi p1, vi p2, vi p3, vi p4, vi p5, vi p6, vi (3 : Int32), vi c1, vr b3, vr b78_b, un, un, un] [(.int (0 : Int32)), (.int (0 : Int32)), (.int p4), (.int p3), (.int p2), (.int (3 : Int32)), (.ref b78_b)])) rfl (by rw [hml]; rfl) (argsL := [(.ref b78_b), (.int (3 : Int32)), (.int p2), (.int p3), (.int p4), (.int (0 : Int32)), (.int (0 : Int32))]) (rest := []) (lenOf pd_14 rfl) rfl (by show 2 * 0 + _ ≤ _; exact Nat.le_of_eq rfl) (hb hby at_88) (fun _ _ => ⟨rfl, rfl, (by decide : 7 + 1 ≤ _), (by decide : 13 + 3 ≤ _)⟩)
    dsimp only [Pt.U, Pt.locs, Pt.cells, Pt.slots] at X79 l79 y79 z79 st79 hQ79
    subst l79 y79 z79
    obtain ⟨rfl, N79q, K79⟩ := hQ79
    have N79 := Fr.app N78 N79q
    replace A3 := A3.keep K79
    replace E_b_4 := E_b_4.keep K79
    replace E_c_4 := E_c_4.keep K79
    replace E_b_72 := E_b_72.keep K79
    replace F_value_b_72 := F_value_b_72.keep K79 nin0
    replace E_b_74 := E_b_74.keep K79
    replace F_value_b_74 := F_value_b_74.keep K79 nin0
    replace E_b_76 := E_b_76.keep K79
    replace F_value_b_76 := F_value_b_76.keep K79 nin0
    replace F_store_a1_77 := F_store_a1_77.keep K79 nin0
    replace F_size_a1_77 := F_size_a1_77.keep K79 nin0
    replace F_filled_sto_77 := F_filled_sto_77.keep K79 nin0
    replace F_items_sto_77 := F_items_sto_77.keep K79 nin0
    replace V_arr_77 := V_arr_77.keep K79 nin0
    replace E_b_78 := E_b_78.keep K79
    replace F_store_b_78 := F_store_b_78.keep K79 nin0
    replace F_size_b_78 := F_size_b_78.keep K79 nin0
    replace O0 := O0.keep K79 all0
    replace KC := KC.trans K79 all0
    have pre80 : ∀ t, Steps p.tables e below (T79.setTop (mkF m 98 #[vi p1, vi p2, vi p3, vi p4, vi p5, vi p6, vi (3 : Int32), vi c1, vr b3, vr b78_b, un, un, un] [(.int c1)])) t → Steps p.tables e below (s₁.setTop (entryFrame m #[(.int p1), (.int p2), (.int p3), (.int p4), (.int p5), (.int p6)] maxLocals)) t := by
      intro t kt
      refine pre5 t ?_
      show SS p e below m T4 27 #[vi p1, vi p2, vi p3, vi p4, vi p5, vi p6, vi (3 : Int32), vi c1, vr b3, un, un, un, un] [] _
      refine XS.iload X4.here hx rfl (hb hby at_27) rfl ?_
      show SS p e below m T4 29 #[vi p1, vi p2, vi p3, vi p4, vi p5, vi p6, vi (3 : Int32), vi c1, vr b3, un, un, un, un] [(.int (3 : Int32))] _
      refine XS.iconst X4.here hx rfl (hb hby at_29) ?_
      show SS p e below m T4 30 #[vi p1, vi p2, vi p3, vi p4, vi p5, vi p6, vi (3 : Int32), vi c1, vr b3, un, un, un, un] [(.int (1 : Int32)), (.int (3 : Int32))] _
      refine XS.icmpNo X4.here hx rfl (hb hby at_30) rfl (flt (by decide)).1 ?_
      show SS p e below m T4 33 #[vi p1, vi p2, vi p3, vi p4, vi p5, vi p6, vi (3 : Int32), vi c1, vr b3, un, un, un, un] [] _
      refine XS.aload X4.here hx rfl (hb hby at_33) rfl rfl ?_
      show SS p e below m T4 35 #[vi p1, vi p2, vi p3, vi p4, vi p5, vi p6, vi (3 : Int32), vi c1, vr b3, un, un, un, un] [(.ref b3)] _
      refine XS.iloadN X4.here hx rfl (hb hby at_35) rfl ?_
      show SS p e below m T4 36 #[vi p1, vi p2, vi p3, vi p4, vi p5, vi p6, vi (3 : Int32), vi c1, vr b3, un, un, un, un] [(.int p2), (.ref b3)] _
      refine st72 _ ?_
      show SS p e below m T72 39 #[vi p1, vi p2, vi p3, vi p4, vi p5, vi p6, vi (3 : Int32), vi c1, vr b3, un, un, un, un] [(.ref b_72), (.ref b3)] _
      refine st73.trans ?_
      show SS p e below m T73 42 #[vi p1, vi p2, vi p3, vi p4, vi p5, vi p6, vi (3 : Int32), vi c1, vr b3, un, un, un, un] [] _
      refine XS.iload X73.here hx rfl (hb hby at_42) rfl ?_
      show SS p e below m T73 44 #[vi p1, vi p2, vi p3, vi p4, vi p5, vi p6, vi (3 : Int32), vi c1, vr b3, un, un, un, un] [(.int (3 : Int32))] _
      refine XS.iconst X73.here hx rfl (hb hby at_44) ?_
      show SS p e below m T73 45 #[vi p1, vi p2, vi p3, vi p4, vi p5, vi p6, vi (3 : Int32), vi c1, vr b3, un, un, un, un] [(.int (2 : Int32)), (.int (3 : Int32))] _
      refine XS.icmpNo X73.here hx rfl (hb hby at_45) rfl (flt (by decide)).1 ?_
      show SS p e below m T73 48 #[vi p1, vi p2, vi p3, vi p4, vi p5, vi p6, vi (3 : Int32), vi c1, vr b3, un, un, un, un] [] _
      refine XS.aload X73.here hx rfl (hb hby at_48) rfl rfl ?_
      show SS p e below m T73 50 #[vi p1, vi p2, vi p3, vi p4, vi p5, vi p6, vi (3 : Int32), vi c1, vr b3, un, un, un, un] [(.ref b3)] _
      refine XS.iloadN X73.here hx rfl (hb hby at_50) rfl ?_
      show SS p e below m T73 51 #[vi p1, vi p2, vi p3, vi p4, vi p5, vi p6, vi (3 : Int32), vi c1, vr b3, un, un, un, un] [(.int p3), (.ref b3)] _
      refine st74 _ ?_
      show SS p e below m T74 54 #[vi p1, vi p2, vi p3, vi p4, vi p5, vi p6, vi (3 : Int32), vi c1, vr b3, un, un, un, un] [(.ref b_74), (.ref b3)] _
      refine st75.trans ?_
      show SS p e below m T75 57 #[vi p1, vi p2, vi p3, vi p4, vi p5, vi p6, vi (3 : Int32), vi c1, vr b3, un, un, un, un] [] _
      refine XS.iload X75.here hx rfl (hb hby at_57) rfl ?_
      show SS p e below m T75 59 #[vi p1, vi p2, vi p3, vi p4, vi p5, vi p6, vi (3 : Int32), vi c1, vr b3, un, un, un, un] [(.int (3 : Int32))] _
      refine XS.iconst X75.here hx rfl (hb hby at_59) ?_
      show SS p e below m T75 60 #[vi p1, vi p2, vi p3, vi p4, vi p5, vi p6, vi (3 : Int32), vi c1, vr b3, un, un, un, un] [(.int (3 : Int32)), (.int (3 : Int32))] _
      refine XS.icmpNo X75.here hx rfl (hb hby at_60) rfl (flt (by decide)).1 ?_
      show SS p e below m T75 63 #[vi p1, vi p2, vi p3, vi p4, vi p5, vi p6, vi (3 : Int32), vi c1, vr b3, un, un, un, un] [] _
      refine XS.aload X75.here hx rfl (hb hby at_63) rfl rfl ?_
      show SS p e below m T75 65 #[vi p1, vi p2, vi p3, vi p4, vi p5, vi p6, vi (3 : Int32), vi c1, vr b3, un, un, un, un] [(.ref b3)] _
      refine XS.iloadN X75.here hx rfl (hb hby at_65) rfl ?_
      show SS p e below m T75 66 #[vi p1, vi p2, vi p3, vi p4, vi p5, vi p6, vi (3 : Int32), vi c1, vr b3, un, un, un, un] [(.int p4), (.ref b3)] _
      refine st76 _ ?_
      show SS p e below m T76 69 #[vi p1, vi p2, vi p3, vi p4, vi p5, vi p6, vi (3 : Int32), vi c1, vr b3, un, un, un, un] [(.ref b_76), (.ref b3)] _
      refine st77.trans ?_
      show SS p e below m T77 72 #[vi p1, vi p2, vi p3, vi p4, vi p5, vi p6, vi (3 : Int32), vi c1, vr b3, un, un, un, un] [] _
      refine XS.aload X77.here hx rfl (hb hby at_72) rfl rfl ?_
      show SS p e below m T77 74 #[vi p1, vi p2, vi p3, vi p4, vi p5, vi p6, vi (3 : Int32), vi c1, vr b3, un, un, un, un] [(.ref b3)] _
      refine st78.trans ?_
      show SS p e below m T78 77 #[vi p1, vi p2, vi p3, vi p4, vi p5, vi p6, vi (3 : Int32), vi c1, vr b3, un, un, un, un] [(.ref b78_b)] _
      refine XS.astore X78.here hx rfl (hb hby at_77) rfl rfl (l' := #[vi p1, vi p2, vi p3, vi p4, vi p5, vi p6, vi (3 : Int32), vi c1, vr b3, vr b78_b, un, un, un]) rfl ?_
      show SS p e below m T78 79 #[vi p1, vi p2, vi p3, vi p4, vi p5, vi p6, vi (3 : Int32), vi c1, vr b3, vr b78_b, un, un, un] [] _
      refine XS.aload X78.here hx rfl (hb hby at_79) rfl rfl ?_
      show SS p e below m T78 81 #[vi p1, vi p2, vi p3, vi p4, vi p5, vi p6, vi (3 : Int32), vi c1, vr b3, vr b78_b, un, un, un] [(.ref b78_b)] _
      refine XS.iload X78.here hx rfl (hb hby at_81) rfl ?_
      show SS p e below m T78 83 #[vi p1, vi p2, vi p3, vi p4, vi p5, vi p6, vi (3 : Int32), vi c1, vr b3, vr b78_b, un, un, un] [(.int (3 : Int32)), (.ref b78_b)] _
      refine XS.iloadN X78.here hx rfl (hb hby at_83) rfl ?_
      show SS p e below m T78 84 #[vi p1, vi p2, vi p3, vi p4, vi p5, vi p6, vi (3 : Int32), vi c1, vr b3, vr b78_b, un, un, un] [(.int p2), (.int (3 : Int32)), (.ref b78_b)] _
      refine XS.iloadN X78.here hx rfl (hb hby at_84) rfl ?_
      show SS p e below m T78 85 #[vi p1, vi p2, vi p3, vi p4, vi p5, vi p6, vi (3 : Int32), vi c1, vr b3, vr b78_b, un, un, un] [(.int p3), (.int p2), (.int (3 : Int32)), (.ref b78_b)] _
      refine XS.iloadN X78.here hx rfl (hb hby at_85) rfl ?_
      show SS p e below m T78 86 #[vi p1, vi p2, vi p3, vi p4, vi p5, vi p6, vi (3 : Int32), vi c1, vr b3, vr b78_b, un, un, un] [(.int p4), (.int p3), (.int p2), (.int (3 : Int32)), (.ref b78_b)] _
      refine XS.iconst X78.here hx rfl (hb hby at_86) ?_
      show SS p e below m T78 87 #[vi p1, vi p2, vi p3, vi p4, vi p5, vi p6, vi (3 : Int32), vi c1, vr b3, vr b78_b, un, un, un] [(.int (0 : Int32)), (.int p4), (.int p3), (.int p2), (.int (3 : Int32)), (.ref b78_b)] _
      refine XS.iconst X78.here hx rfl (hb hby at_87) ?_
      show SS p e below m T78 88 #[vi p1, vi p2, vi p3, vi p4, vi p5, vi p6, vi (3 : Int32), vi c1, vr b3, vr b78_b, un, un, un] [(.int (0 : Int32)), (.int (0 : Int32)), (.int p4), (.int p3), (.int p2), (.int (3 : Int32)), (.ref b78_b)] _
      refine st79 _ ?_
      show SS p e below m T79 91 #[vi p1, vi p2, vi p3, vi p4, vi p5, vi p6, vi (3 : Int32), vi c1, vr b3, vr b78_b, un, un, un] [(.int (1 : Int32))] _
      refine XS.ifYes X79.here hx rfl (pc0 := 91) (pc' := 96) rfl (hb hby at_91) rfl ((if0 _ _).trans (feq (by decide)).2) (by decide) (by decide) ?_
      show SS p e below m T79 96 #[vi p1, vi p2, vi p3, vi p4, vi p5, vi p6, vi (3 : Int32), vi c1, vr b3, vr b78_b, un, un, un] [] _
      refine XS.iload X79.here hx rfl (hb hby at_96) rfl ?_
      exact kt
    by_cases hc98_81 : c1 = (0 : Int32)
    · obtain ⟨_, _, ⟨T82, L82, k82, n82⟩, -, X82, ⟨Lc82, hQ82, l82, y82, z82⟩, st82⟩ := Jvm.LawKit.callS X79 hx (y := y_5) hown (mvT hZ (ww hw 72 rfl)) (mvT hZ (ww hw 73 rfl)) (mvT hZ (ww hw 74 rfl)) (mvT hZ (ww hw 75 rfl)) (by decide) (backOf (W := 1) (rmVo l Z a0 hw [] p5 cA cl T79.heap n0 (Nat.le_trans Z0 KC.1) O0 S_high S_cache BX) hZ (ww hw 75 rfl) (ww hw 74 rfl) (by decide) (by decide)) (g := (mkF m 128 #[vi p1, vi p2, vi p3, vi p4, vi p5, vi p6, vi (3 : Int32), vi c1, vr b3, vr b78_b, vr b78_b, vr b3, un] [(.int p5), (.ref b78_b)])) rfl (by rw [hml]; rfl) (argsL := [(.int p5)]) (rest := [(.ref b78_b)]) (lenOf pd_15 rfl) rfl (by show 2 * 0 + _ ≤ _; exact Nat.le_of_eq rfl) (hb hby at_128) (fun _ _ => ⟨rfl, rfl, (by decide : 8 + 1 ≤ _), (by decide : 16 + 1 ≤ _)⟩)
      dsimp only [Pt.U, Pt.locs, Pt.cells, Pt.slots] at X82 l82 y82 z82 st82 hQ82
      subst l82 y82 z82
      obtain ⟨b_82, rfl, N82q, K82, E_b_82, F_value_b_82⟩ := hQ82
      have N82 := Fr.app N79 N82q
      replace A3 := A3.keep K82
      replace E_b_4 := E_b_4.keep K82
      replace E_c_4 := E_c_4.keep K82
      replace E_b_72 := E_b_72.keep K82
      replace F_value_b_72 := F_value_b_72.keep K82 nin0
      replace E_b_74 := E_b_74.keep K82
      replace F_value_b_74 := F_value_b_74.keep K82 nin0
      replace E_b_76 := E_b_76.keep K82
      replace F_value_b_76 := F_value_b_76.keep K82 nin0
      replace F_store_a1_77 := F_store_a1_77.keep K82 nin0
      replace F_size_a1_77 := F_size_a1_77.keep K82 nin0
      replace F_filled_sto_77 := F_filled_sto_77.keep K82 nin0
      replace F_items_sto_77 := F_items_sto_77.keep K82 nin0
      replace V_arr_77 := V_arr_77.keep K82 nin0
      replace E_b_78 := E_b_78.keep K82
      replace F_store_b_78 := F_store_b_78.keep K82 nin0
      replace F_size_b_78 := F_size_b_78.keep K82 nin0
      replace O0 := O0.keep K82 all0
      replace KC := KC.trans K82 all0
      obtain ⟨cq83, kq83, q83a, q83b, q83c⟩ := isOf hZ rfl E_b_78
      obtain ⟨_, _, ⟨T83, L83, k83, n83⟩, -, X83, ⟨Lc83, hQ83, l83, y83, z83⟩, st83⟩ := X82.virtualBack hx (y := y_12) (z := y_12) hown (mvT hZ (ww hw 79 rfl)) (mvT hZ (ww hw 80 rfl)) (notFace_of_selects (args := #[]) (mvT hZ (ww hw 82 rfl))) (mvT hZ (ww hw 82 rfl)) (mvT hZ (ww hw 81 rfl)) (by decide) (backOf (W := 0) (rmAddA l Z a0 hw [] b78_b b_82 b4_b (3 : Int32) (3 : Int32) b4_c k_4 (4 : Int32) [(.ref b_72), (.ref b_74), (.ref b_76), .null] (4 : Int32) [(.ref b_72), (.ref b_74), (.ref b_76), (.ref b_82)] T82.heap n0 (Nat.le_trans Z0 KC.1) O0 F_store_b_78 F_size_b_78 E_b_78 E_b_4 F_filled_sto_77 F_items_sto_77 E_c_4 V_arr_77 E_b_82 g_b78_b g_b4_b g_b4_c hq4_0 (by decide) (by decide) (by decide) (by decide) (by decide) rfl (Nat.le_of_ble_eq_true rfl)) hZ (ww hw 83 rfl) (ww hw 2 rfl) (by decide) (by decide)) q83a q83c (g := (mkF m 131 #[vi p1, vi p2, vi p3, vi p4, vi p5, vi p6, vi (3 : Int32), vi c1, vr b3, vr b78_b, vr b78_b, vr b3, un] [(.ref b_82), (.ref b78_b)])) rfl (by rw [hml]; rfl) (Steps.refl _) (argsL := [(.ref b_82)]) (rest := []) (lenOf pd_16 rfl) rfl (by show 2 * 0 + _ ≤ _; exact Nat.le_of_eq rfl) (hb hby at_131) (fun _ _ => ⟨rfl, rfl, (by decide : 9 + 0 ≤ _), (by decide : 17 + 0 ≤ _)⟩)
      dsimp only [Pt.U, Pt.locs, Pt.cells, Pt.slots] at X83 l83 y83 z83 st83 hQ83
      subst l83 y83 z83
      obtain ⟨rfl, N83q, K83, F_store_a1_83, F_size_a1_83, F_filled_sto_83, F_items_sto_83, V_arr_83⟩ := hQ83
      have N83 := Fr.app N82 N83q
      have nec_b_82_b4_c : b_82 ≠ b4_c := Exa.ne E_b_82 E_c_4 (by decide)
      have nec_b_82_b4_b : b_82 ≠ b4_b := Exa.ne E_b_82 E_b_4 (by decide)
      have nec_b_82_b78_b : b_82 ≠ b78_b := Exa.ne E_b_82 E_b_78 (by decide)
      replace A3 := A3.keep K83
      replace E_b_4 := E_b_4.keep K83
      replace E_c_4 := E_c_4.keep K83
      replace E_b_72 := E_b_72.keep K83
      replace F_value_b_72 := F_value_b_72.keep K83 (ninS ne_b_72_b78_b (ninS nec_b_72_b4_b (ninS nec_b_72_b4_c nin0)))
      replace E_b_74 := E_b_74.keep K83
      replace F_value_b_74 := F_value_b_74.keep K83 (ninS ne_b_74_b78_b (ninS nec_b_74_b4_b (ninS nec_b_74_b4_c nin0)))
      replace E_b_76 := E_b_76.keep K83
      replace F_value_b_76 := F_value_b_76.keep K83 (ninS ne_b_76_b78_b (ninS nec_b_76_b4_b (ninS nec_b_76_b4_c nin0)))
      replace F_store_a1_77 := F_store_a1_77.keep K83 (ninS ne_b3_b78_b (ninS ne_b3_b4_b (ninS ne_b3_b4_c nin0)))
      replace F_size_a1_77 := F_size_a1_77.keep K83 (ninS ne_b3_b78_b (ninS ne_b3_b4_b (ninS ne_b3_b4_c nin0)))
      replace E_b_78 := E_b_78.keep K83
      replace E_b_82 := E_b_82.keep K83
      replace F_value_b_82 := F_value_b_82.keep K83 (ninS nec_b_82_b78_b (ninS nec_b_82_b4_b (ninS nec_b_82_b4_c nin0)))
      replace O0 := O0.keep K83 (allS g_b78_b (allS g_b4_b (allS g_b4_c all0)))
      replace KC := KC.trans K83 (allS (Or.inr sz_b78_b) (allS (Or.inr sz_b4_b) (allS (Or.inr sz_b4_c) all0)))
      obtain ⟨cq84, kq84, q84a, q84b, q84c⟩ := isOf hZ rfl A3
      obtain ⟨_, _, ⟨T84, L84, k84, n84⟩, -, X84, ⟨Lc84, hQ84, l84, y84, z84⟩, st84⟩ := X83.virtualBack hx (y := y_13) (z := y_13) hown (mvT hZ (ww hw 29 rfl)) (mvT hZ (ww hw 30 rfl)) (notFace_of_selects (args := #[]) (mvT hZ (ww hw 32 rfl))) (mvT hZ (ww hw 32 rfl)) (mvT hZ (ww hw 31 rfl)) (by decide) (backOf (W := 0) (rmCp l Z a0 hw [] b3 b4_b (3 : Int32) T83.heap n0 (Nat.le_trans Z0 KC.1) O0 F_store_a1_77 F_size_a1_77) hZ (ww hw 33 rfl) (ww hw 2 rfl) (by decide) (by decide)) q84a q84c (g := (mkF m 136 #[vi p1, vi p2, vi p3, vi p4, vi p5, vi p6, vi (3 : Int32), vi c1, vr b3, vr b78_b, vr b78_b, vr b3, un] [(.ref b3)])) rfl (by rw [hml]; rfl) (Steps.refl _) (argsL := []) (rest := []) (lenOf pd_13 rfl) rfl (by show 2 * 0 + _ ≤ _; exact Nat.le_of_eq rfl) (hb hby at_136) (fun _ _ => ⟨rfl, rfl, (by decide : 9 + 1 ≤ _), (by decide : 17 + 2 ≤ _)⟩)
      dsimp only [Pt.U, Pt.locs, Pt.cells, Pt.slots] at X84 l84 y84 z84 st84 hQ84
      subst l84 y84 z84
      obtain ⟨b84_b, rfl, N84q, K84, sz_b84_b, E_b_84, F_store_b_84, F_size_b_84⟩ := hQ84
      have N84 := Fr.app N83 N84q
      have ne_b3_b84_b : b3 ≠ b84_b := Nat.ne_of_lt (Nat.lt_of_lt_of_le A3.lt sz_b84_b)
      have ne_b4_b_b84_b : b4_b ≠ b84_b := Nat.ne_of_lt (Nat.lt_of_lt_of_le E_b_4.lt sz_b84_b)
      have ne_b4_c_b84_b : b4_c ≠ b84_b := Nat.ne_of_lt (Nat.lt_of_lt_of_le E_c_4.lt sz_b84_b)
      have ne_b_72_b84_b : b_72 ≠ b84_b := Nat.ne_of_lt (Nat.lt_of_lt_of_le E_b_72.lt sz_b84_b)
      have ne_b_74_b84_b : b_74 ≠ b84_b := Nat.ne_of_lt (Nat.lt_of_lt_of_le E_b_74.lt sz_b84_b)
      have ne_b_76_b84_b : b_76 ≠ b84_b := Nat.ne_of_lt (Nat.lt_of_lt_of_le E_b_76.lt sz_b84_b)
      have ne_b78_b_b84_b : b78_b ≠ b84_b := Nat.ne_of_lt (Nat.lt_of_lt_of_le E_b_78.lt sz_b84_b)
      have ne_b_82_b84_b : b_82 ≠ b84_b := Nat.ne_of_lt (Nat.lt_of_lt_of_le E_b_82.lt sz_b84_b)
      have g_b84_b : n0 ≤ b84_b := Nat.le_trans (Nat.le_trans Z0 KC.1) sz_b84_b
      replace sz_b84_b : h0.size ≤ b84_b := Nat.le_trans KC.1 sz_b84_b
      replace A3 := A3.keep K84
      replace E_b_4 := E_b_4.keep K84
      replace E_c_4 := E_c_4.keep K84
      replace E_b_72 := E_b_72.keep K84
      replace F_value_b_72 := F_value_b_72.keep K84 nin0
      replace E_b_74 := E_b_74.keep K84
      replace F_value_b_74 := F_value_b_74.keep K84 nin0
      replace E_b_76 := E_b_76.keep K84
      replace F_value_b_76 := F_value_b_76.keep K84 nin0
      replace F_store_a1_77 := F_store_a1_77.keep K84 nin0
      replace F_size_a1_77 := F_size_a1_77.keep K84 nin0
      replace E_b_78 := E_b_78.keep K84
      replace E_b_82 := E_b_82.keep K84
      replace F_value_b_82 := F_value_b_82.keep K84 nin0
      replace F_store_a1_83 := F_store_a1_83.keep K84 nin0
      replace F_size_a1_83 := F_size_a1_83.keep K84 nin0
      replace F_filled_sto_83 := F_filled_sto_83.keep K84 nin0
      replace F_items_sto_83 := F_items_sto_83.keep K84 nin0
      replace V_arr_83 := V_arr_83.keep K84 nin0
      replace O0 := O0.keep K84 all0
      replace KC := KC.trans K84 all0
      obtain ⟨_, _, ⟨T85, L85, k85, n85⟩, -, X85, ⟨Lc85, hQ85, l85, y85, z85⟩, st85⟩ := Jvm.LawKit.callS X84 hx (y := y_5) hown (mvT hZ (ww hw 72 rfl)) (mvT hZ (ww hw 73 rfl)) (mvT hZ (ww hw 74 rfl)) (mvT hZ (ww hw 75 rfl)) (by decide) (backOf (W := 1) (rmVo l Z a0 hw [] p6 cA cl T84.heap n0 (Nat.le_trans Z0 KC.1) O0 S_high S_cache BX) hZ (ww hw 75 rfl) (ww hw 74 rfl) (by decide) (by decide)) (g := (mkF m 145 #[vi p1, vi p2, vi p3, vi p4, vi p5, vi p6, vi (3 : Int32), vi c1, vr b3, vr b78_b, vr b78_b, vr b3, vr b84_b] [(.int p6), (.ref b84_b)])) rfl (by rw [hml]; rfl) (argsL := [(.int p6)]) (rest := [(.ref b84_b)]) (lenOf pd_15 rfl) rfl (by show 2 * 0 + _ ≤ _; exact Nat.le_of_eq rfl) (hb hby at_145) (fun _ _ => ⟨rfl, rfl, (by decide : 10 + 1 ≤ _), (by decide : 19 + 1 ≤ _)⟩)
      dsimp only [Pt.U, Pt.locs, Pt.cells, Pt.slots] at X85 l85 y85 z85 st85 hQ85
      subst l85 y85 z85
      obtain ⟨b_85, rfl, N85q, K85, E_b_85, F_value_b_85⟩ := hQ85
      have N85 := Fr.app N84 N85q
      replace A3 := A3.keep K85
      replace E_b_4 := E_b_4.keep K85
      replace E_c_4 := E_c_4.keep K85
      replace E_b_72 := E_b_72.keep K85
      replace F_value_b_72 := F_value_b_72.keep K85 nin0
      replace E_b_74 := E_b_74.keep K85
      replace F_value_b_74 := F_value_b_74.keep K85 nin0
      replace E_b_76 := E_b_76.keep K85
      replace F_value_b_76 := F_value_b_76.keep K85 nin0
      replace F_store_a1_77 := F_store_a1_77.keep K85 nin0
      replace F_size_a1_77 := F_size_a1_77.keep K85 nin0
      replace E_b_78 := E_b_78.keep K85
      replace E_b_82 := E_b_82.keep K85
      replace F_value_b_82 := F_value_b_82.keep K85 nin0
      replace F_store_a1_83 := F_store_a1_83.keep K85 nin0
      replace F_size_a1_83 := F_size_a1_83.keep K85 nin0
      replace F_filled_sto_83 := F_filled_sto_83.keep K85 nin0
      replace F_items_sto_83 := F_items_sto_83.keep K85 nin0
      replace V_arr_83 := V_arr_83.keep K85 nin0
      replace E_b_84 := E_b_84.keep K85
      replace F_store_b_84 := F_store_b_84.keep K85 nin0
      replace F_size_b_84 := F_size_b_84.keep K85 nin0
      replace O0 := O0.keep K85 all0
      replace KC := KC.trans K85 all0
      obtain ⟨cq86, kq86, q86a, q86b, q86c⟩ := isOf hZ rfl E_b_84
      obtain ⟨_, _, ⟨T86, L86, k86, n86⟩, -, X86, ⟨Lc86, hQ86, l86, y86, z86⟩, st86⟩ := X85.virtualBack hx (y := y_12) (z := y_12) hown (mvT hZ (ww hw 79 rfl)) (mvT hZ (ww hw 80 rfl)) (notFace_of_selects (args := #[]) (mvT hZ (ww hw 82 rfl))) (mvT hZ (ww hw 82 rfl)) (mvT hZ (ww hw 81 rfl)) (by decide) (backOf (W := 0) (rmAddB l Z a0 hw [] b84_b b_85 b4_b (3 : Int32) (4 : Int32) b4_c k_4 (4 : Int32) [(.ref b_72), (.ref b_74), (.ref b_76), (.ref b_82)] mr (6 : Int32) (4 : Int32) [(.ref b_72), (.ref b_74), (.ref b_76), (.ref b_82), .null, .null, .null, .null, .null, .null] (4 : Int32) [(.ref b_72), (.ref b_74), (.ref b_76), (.ref b_85), .null, .null, .null, .null, .null, .null] T85.heap n0 (Nat.le_trans Z0 KC.1) O0 F_store_b_84 F_size_b_84 E_b_84 E_b_4 F_filled_sto_83 F_items_sto_83 E_c_4 V_arr_83 E_b_85 g_b84_b MIR (Or.inl (by decide)) (by decide) (by decide) (by decide) (by decide) (by decide) (by decide) (by decide) rfl (own_els_cons (Or.inr ⟨_, rfl, E_b_72⟩) (own_els_cons (Or.inr ⟨_, rfl, E_b_74⟩) (own_els_cons (Or.inr ⟨_, rfl, E_b_76⟩) (own_els_cons (Or.inr ⟨_, rfl, E_b_82⟩) own_els_nil)))) (by decide) (by decide) (by decide) rfl (Nat.le_of_ble_eq_true rfl)) hZ (ww hw 83 rfl) (ww hw 2 rfl) (by decide) (by decide)) q86a q86c (g := (mkF m 148 #[vi p1, vi p2, vi p3, vi p4, vi p5, vi p6, vi (3 : Int32), vi c1, vr b3, vr b78_b, vr b78_b, vr b3, vr b84_b] [(.ref b_85), (.ref b84_b)])) rfl (by rw [hml]; rfl) (Steps.refl _) (argsL := [(.ref b_85)]) (rest := []) (lenOf pd_16 rfl) rfl (by show 2 * 0 + _ ≤ _; exact Nat.le_of_eq rfl) (hb hby at_148) (fun _ _ => ⟨rfl, rfl, (by decide : 11 + 2 ≤ _), (by decide : 20 + 12 ≤ _)⟩)
      dsimp only [Pt.U, Pt.locs, Pt.cells, Pt.slots] at X86 l86 y86 z86 st86 hQ86
      subst l86 y86 z86
      obtain ⟨b86_b, b86_c, k2_86, rfl, N86q, K86, sz_b86_b, sz_b86_c, F_store_a1_86, F_size_a1_86, E_b_86, F_filled_b_86, F_items_b_86, E_c_86, V_c_86, hq86_0⟩ := hQ86
      have N86 := Fr.app N85 N86q
      have ne_b3_b86_b : b3 ≠ b86_b := Nat.ne_of_lt (Nat.lt_of_lt_of_le A3.lt sz_b86_b)
      have ne_b4_b_b86_b : b4_b ≠ b86_b := Nat.ne_of_lt (Nat.lt_of_lt_of_le E_b_4.lt sz_b86_b)
      have ne_b4_c_b86_b : b4_c ≠ b86_b := Nat.ne_of_lt (Nat.lt_of_lt_of_le E_c_4.lt sz_b86_b)
      have ne_b_72_b86_b : b_72 ≠ b86_b := Nat.ne_of_lt (Nat.lt_of_lt_of_le E_b_72.lt sz_b86_b)
      have ne_b_74_b86_b : b_74 ≠ b86_b := Nat.ne_of_lt (Nat.lt_of_lt_of_le E_b_74.lt sz_b86_b)
      have ne_b_76_b86_b : b_76 ≠ b86_b := Nat.ne_of_lt (Nat.lt_of_lt_of_le E_b_76.lt sz_b86_b)
      have ne_b78_b_b86_b : b78_b ≠ b86_b := Nat.ne_of_lt (Nat.lt_of_lt_of_le E_b_78.lt sz_b86_b)
      have ne_b_82_b86_b : b_82 ≠ b86_b := Nat.ne_of_lt (Nat.lt_of_lt_of_le E_b_82.lt sz_b86_b)
      have ne_b84_b_b86_b : b84_b ≠ b86_b := Nat.ne_of_lt (Nat.lt_of_lt_of_le E_b_84.lt sz_b86_b)
      have ne_b_85_b86_b : b_85 ≠ b86_b := Nat.ne_of_lt (Nat.lt_of_lt_of_le E_b_85.lt sz_b86_b)
      have g_b86_b : n0 ≤ b86_b := Nat.le_trans (Nat.le_trans Z0 KC.1) sz_b86_b
      replace sz_b86_b : h0.size ≤ b86_b := Nat.le_trans KC.1 sz_b86_b
      have ne_b3_b86_c : b3 ≠ b86_c := Nat.ne_of_lt (Nat.lt_of_lt_of_le A3.lt sz_b86_c)
      have ne_b4_b_b86_c : b4_b ≠ b86_c := Nat.ne_of_lt (Nat.lt_of_lt_of_le E_b_4.lt sz_b86_c)
      have ne_b4_c_b86_c : b4_c ≠ b86_c := Nat.ne_of_lt (Nat.lt_of_lt_of_le E_c_4.lt sz_b86_c)
      have ne_b_72_b86_c : b_72 ≠ b86_c := Nat.ne_of_lt (Nat.lt_of_lt_of_le E_b_72.lt sz_b86_c)
      have ne_b_74_b86_c : b_74 ≠ b86_c := Nat.ne_of_lt (Nat.lt_of_lt_of_le E_b_74.lt sz_b86_c)
      have ne_b_76_b86_c : b_76 ≠ b86_c := Nat.ne_of_lt (Nat.lt_of_lt_of_le E_b_76.lt sz_b86_c)
      have ne_b78_b_b86_c : b78_b ≠ b86_c := Nat.ne_of_lt (Nat.lt_of_lt_of_le E_b_78.lt sz_b86_c)
      have ne_b_82_b86_c : b_82 ≠ b86_c := Nat.ne_of_lt (Nat.lt_of_lt_of_le E_b_82.lt sz_b86_c)
      have ne_b84_b_b86_c : b84_b ≠ b86_c := Nat.ne_of_lt (Nat.lt_of_lt_of_le E_b_84.lt sz_b86_c)
      have ne_b_85_b86_c : b_85 ≠ b86_c := Nat.ne_of_lt (Nat.lt_of_lt_of_le E_b_85.lt sz_b86_c)
      have g_b86_c : n0 ≤ b86_c := Nat.le_trans (Nat.le_trans Z0 KC.1) sz_b86_c
      replace sz_b86_c : h0.size ≤ b86_c := Nat.le_trans KC.1 sz_b86_c
      have nec_b_85_b84_b : b_85 ≠ b84_b := Exa.ne E_b_85 E_b_84 (by decide)
      replace A3 := A3.keep K86
      replace E_b_4 := E_b_4.keep K86
      replace E_c_4 := E_c_4.keep K86
      replace E_b_72 := E_b_72.keep K86
      replace F_value_b_72 := F_value_b_72.keep K86 (ninS ne_b_72_b84_b nin0)
      replace E_b_74 := E_b_74.keep K86
      replace F_value_b_74 := F_value_b_74.keep K86 (ninS ne_b_74_b84_b nin0)
      replace E_b_76 := E_b_76.keep K86
      replace F_value_b_76 := F_value_b_76.keep K86 (ninS ne_b_76_b84_b nin0)
      replace F_store_a1_77 := F_store_a1_77.keep K86 (ninS ne_b3_b84_b nin0)
      replace F_size_a1_77 := F_size_a1_77.keep K86 (ninS ne_b3_b84_b nin0)
      replace E_b_78 := E_b_78.keep K86
      replace E_b_82 := E_b_82.keep K86
      replace F_value_b_82 := F_value_b_82.keep K86 (ninS ne_b_82_b84_b nin0)
      replace F_store_a1_83 := F_store_a1_83.keep K86 (ninS ne_b78_b_b84_b nin0)
      replace F_size_a1_83 := F_size_a1_83.keep K86 (ninS ne_b78_b_b84_b nin0)
      replace F_filled_sto_83 := F_filled_sto_83.keep K86 (ninS ne_b4_b_b84_b nin0)
      replace F_items_sto_83 := F_items_sto_83.keep K86 (ninS ne_b4_b_b84_b nin0)
      replace V_arr_83 := V_arr_83.keep K86 (ninS ne_b4_c_b84_b nin0)
      replace E_b_84 := E_b_84.keep K86
      replace E_b_85 := E_b_85.keep K86
      replace F_value_b_85 := F_value_b_85.keep K86 (ninS nec_b_85_b84_b nin0)
      replace O0 := O0.keep K86 (allS g_b84_b all0)
      replace KC := KC.trans K86 (allS (Or.inr sz_b84_b) all0)
      obtain ⟨_, _, ⟨T87, L87, k87, n87⟩, -, X87, ⟨Lc87, hQ87, l87, y87, z87⟩, st87⟩ := Jvm.LawKit.callS X86 hx (y := y_20) hown (mvT hZ (ww hw 35 rfl)) (mvT hZ (ww hw 36 rfl)) (mvT hZ (ww hw 37 rfl)) (mvT hZ (ww hw 38 rfl)) (by decide) (backOf (W := 0) (rmH31 l Z a0 hw [] b78_b p2 p3 p4 p5 b4_b b4_c k_4 (4 : Int32) [(.ref b_72), (.ref b_74), (.ref b_76), (.ref b_82)] b_72 b_74 b_76 b_82 T86.heap n0 (Nat.le_trans Z0 KC.1) O0 F_size_a1_83 F_store_a1_83 E_b_78 F_items_sto_83 E_c_4 V_arr_83 E_b_72 F_value_b_72 rfl (by decide) E_b_74 F_value_b_74 rfl (by decide) E_b_76 F_value_b_76 rfl (by decide) E_b_82 F_value_b_82 rfl (by decide)) hZ (ww hw 38 rfl) (ww hw 37 rfl) (by decide) (by decide)) (g := (mkF m 161 #[vi p1, vi p2, vi p3, vi p4, vi p5, vi p6, vi (3 : Int32), vi c1, vr b3, vr b78_b, vr b78_b, vr b3, vr b84_b] [(.int (1 : Int32)), (.int p5), (.int p4), (.int p3), (.int p2), (.int (3 : Int32)), (.ref b78_b)])) rfl (by rw [hml]; rfl) (argsL := [(.ref b78_b), (.int (3 : Int32)), (.int p2), (.int p3), (.int p4), (.int p5), (.int (1 : Int32))]) (rest := []) (lenOf pd_14 rfl) rfl (by show 2 * 0 + _ ≤ _; exact Nat.le_of_eq rfl) (hb hby at_161) (fun _ _ => ⟨rfl, rfl, (by decide : 13 + 1 ≤ _), (by decide : 32 + 3 ≤ _)⟩)
      dsimp only [Pt.U, Pt.locs, Pt.cells, Pt.slots] at X87 l87 y87 z87 st87 hQ87
      subst l87 y87 z87
      obtain ⟨rfl, N87q, K87⟩ := hQ87
      have N87 := Fr.app N86 N87q
      replace A3 := A3.keep K87
      replace E_b_4 := E_b_4.keep K87
      replace E_c_4 := E_c_4.keep K87
      replace E_b_72 := E_b_72.keep K87
      replace F_value_b_72 := F_value_b_72.keep K87 nin0
      replace E_b_74 := E_b_74.keep K87
      replace F_value_b_74 := F_value_b_74.keep K87 nin0
      replace E_b_76 := E_b_76.keep K87
      replace F_value_b_76 := F_value_b_76.keep K87 nin0
      replace F_store_a1_77 := F_store_a1_77.keep K87 nin0
      replace F_size_a1_77 := F_size_a1_77.keep K87 nin0
      replace E_b_78 := E_b_78.keep K87
      replace E_b_82 := E_b_82.keep K87
      replace F_value_b_82 := F_value_b_82.keep K87 nin0
      replace F_store_a1_83 := F_store_a1_83.keep K87 nin0
      replace F_size_a1_83 := F_size_a1_83.keep K87 nin0
      replace F_filled_sto_83 := F_filled_sto_83.keep K87 nin0
      replace F_items_sto_83 := F_items_sto_83.keep K87 nin0
      replace V_arr_83 := V_arr_83.keep K87 nin0
      replace E_b_84 := E_b_84.keep K87
      replace E_b_85 := E_b_85.keep K87
      replace F_value_b_85 := F_value_b_85.keep K87 nin0
      replace F_store_a1_86 := F_store_a1_86.keep K87 nin0
      replace F_size_a1_86 := F_size_a1_86.keep K87 nin0
      replace E_b_86 := E_b_86.keep K87
      replace F_filled_b_86 := F_filled_b_86.keep K87 nin0
      replace F_items_b_86 := F_items_b_86.keep K87 nin0
      replace E_c_86 := E_c_86.keep K87
      replace V_c_86 := V_c_86.keep K87 nin0
      replace O0 := O0.keep K87 all0
      replace KC := KC.trans K87 all0
      obtain ⟨_, _, ⟨T88, L88, k88, n88⟩, -, X88, ⟨Lc88, hQ88, l88, y88, z88⟩, st88⟩ := Jvm.LawKit.callS X87 hx (y := y_20) hown (mvT hZ (ww hw 35 rfl)) (mvT hZ (ww hw 36 rfl)) (mvT hZ (ww hw 37 rfl)) (mvT hZ (ww hw 38 rfl)) (by decide) (backOf (W := 0) (rmH30 l Z a0 hw [] b3 p2 p3 p4 (0 : Int32) b4_b b4_c k_4 (4 : Int32) [(.ref b_72), (.ref b_74), (.ref b_76), (.ref b_82)] b_72 b_74 b_76 T87.heap n0 (Nat.le_trans Z0 KC.1) O0 F_size_a1_77 F_store_a1_77 A3 F_items_sto_83 E_c_4 V_arr_83 E_b_72 F_value_b_72 rfl (by decide) E_b_74 F_value_b_74 rfl (by decide) E_b_76 F_value_b_76 rfl (by decide)) hZ (ww hw 38 rfl) (ww hw 37 rfl) (by decide) (by decide)) (g := (mkF m 176 #[vi p1, vi p2, vi p3, vi p4, vi p5, vi p6, vi (3 : Int32), vi c1, vr b3, vr b78_b, vr b78_b, vr b3, vr b84_b] [(.int (0 : Int32)), (.int (0 : Int32)), (.int p4), (.int p3), (.int p2), (.int (3 : Int32)), (.ref b3)])) rfl (by rw [hml]; rfl) (argsL := [(.ref b3), (.int (3 : Int32)), (.int p2), (.int p3), (.int p4), (.int (0 : Int32)), (.int (0 : Int32))]) (rest := []) (lenOf pd_14 rfl) rfl (by show 2 * 0 + _ ≤ _; exact Nat.le_of_eq rfl) (hb hby at_176) (fun _ _ => ⟨rfl, rfl, (by decide : 14 + 1 ≤ _), (by decide : 35 + 3 ≤ _)⟩)
      dsimp only [Pt.U, Pt.locs, Pt.cells, Pt.slots] at X88 l88 y88 z88 st88 hQ88
      subst l88 y88 z88
      obtain ⟨rfl, N88q, K88⟩ := hQ88
      have N88 := Fr.app N87 N88q
      replace A3 := A3.keep K88
      replace E_b_4 := E_b_4.keep K88
      replace E_c_4 := E_c_4.keep K88
      replace E_b_72 := E_b_72.keep K88
      replace F_value_b_72 := F_value_b_72.keep K88 nin0
      replace E_b_74 := E_b_74.keep K88
      replace F_value_b_74 := F_value_b_74.keep K88 nin0
      replace E_b_76 := E_b_76.keep K88
      replace F_value_b_76 := F_value_b_76.keep K88 nin0
      replace F_store_a1_77 := F_store_a1_77.keep K88 nin0
      replace F_size_a1_77 := F_size_a1_77.keep K88 nin0
      replace E_b_78 := E_b_78.keep K88
      replace E_b_82 := E_b_82.keep K88
      replace F_value_b_82 := F_value_b_82.keep K88 nin0
      replace F_store_a1_83 := F_store_a1_83.keep K88 nin0
      replace F_size_a1_83 := F_size_a1_83.keep K88 nin0
      replace F_filled_sto_83 := F_filled_sto_83.keep K88 nin0
      replace F_items_sto_83 := F_items_sto_83.keep K88 nin0
      replace V_arr_83 := V_arr_83.keep K88 nin0
      replace E_b_84 := E_b_84.keep K88
      replace E_b_85 := E_b_85.keep K88
      replace F_value_b_85 := F_value_b_85.keep K88 nin0
      replace F_store_a1_86 := F_store_a1_86.keep K88 nin0
      replace F_size_a1_86 := F_size_a1_86.keep K88 nin0
      replace E_b_86 := E_b_86.keep K88
      replace F_filled_b_86 := F_filled_b_86.keep K88 nin0
      replace F_items_b_86 := F_items_b_86.keep K88 nin0
      replace E_c_86 := E_c_86.keep K88
      replace V_c_86 := V_c_86.keep K88 nin0
      replace O0 := O0.keep K88 all0
      replace KC := KC.trans K88 all0
      obtain ⟨_, _, ⟨T89, L89, k89, n89⟩, -, X89, ⟨Lc89, hQ89, l89, y89, z89⟩, st89⟩ := Jvm.LawKit.callS X88 hx (y := y_20) hown (mvT hZ (ww hw 35 rfl)) (mvT hZ (ww hw 36 rfl)) (mvT hZ (ww hw 37 rfl)) (mvT hZ (ww hw 38 rfl)) (by decide) (backOf (W := 0) (rmH31 l Z a0 hw [] b84_b p2 p3 p4 p6 b86_b b86_c k2_86 (6 : Int32) [(.ref b_72), (.ref b_74), (.ref b_76), (.ref b_85), .null, .null, .null, .null, .null, .null] b_72 b_74 b_76 b_85 T88.heap n0 (Nat.le_trans Z0 KC.1) O0 F_size_a1_86 F_store_a1_86 E_b_84 F_items_b_86 E_c_86 V_c_86 E_b_72 F_value_b_72 rfl (by decide) E_b_74 F_value_b_74 rfl (by decide) E_b_76 F_value_b_76 rfl (by decide) E_b_85 F_value_b_85 rfl (by decide)) hZ (ww hw 38 rfl) (ww hw 37 rfl) (by decide) (by decide)) (g := (mkF m 192 #[vi p1, vi p2, vi p3, vi p4, vi p5, vi p6, vi (3 : Int32), vi c1, vr b3, vr b78_b, vr b78_b, vr b3, vr b84_b] [(.int (1 : Int32)), (.int p6), (.int p4), (.int p3), (.int p2), (.int (3 : Int32)), (.ref b84_b)])) rfl (by rw [hml]; rfl) (argsL := [(.ref b84_b), (.int (3 : Int32)), (.int p2), (.int p3), (.int p4), (.int p6), (.int (1 : Int32))]) (rest := []) (lenOf pd_14 rfl) rfl (by show 2 * 0 + _ ≤ _; exact Nat.le_of_eq rfl) (hb hby at_192) (fun _ _ => ⟨rfl, rfl, (by decide : 15 + 1 ≤ _), (by decide : 38 + 3 ≤ _)⟩)
      dsimp only [Pt.U, Pt.locs, Pt.cells, Pt.slots] at X89 l89 y89 z89 st89 hQ89
      subst l89 y89 z89
      obtain ⟨rfl, N89q, K89⟩ := hQ89
      have N89 := Fr.app N88 N89q
      replace A3 := A3.keep K89
      replace E_b_4 := E_b_4.keep K89
      replace E_c_4 := E_c_4.keep K89
      replace E_b_72 := E_b_72.keep K89
      replace F_value_b_72 := F_value_b_72.keep K89 nin0
      replace E_b_74 := E_b_74.keep K89
      replace F_value_b_74 := F_value_b_74.keep K89 nin0
      replace E_b_76 := E_b_76.keep K89
      replace F_value_b_76 := F_value_b_76.keep K89 nin0
      replace F_store_a1_77 := F_store_a1_77.keep K89 nin0
      replace F_size_a1_77 := F_size_a1_77.keep K89 nin0
      replace E_b_78 := E_b_78.keep K89
      replace E_b_82 := E_b_82.keep K89
      replace F_value_b_82 := F_value_b_82.keep K89 nin0
      replace F_store_a1_83 := F_store_a1_83.keep K89 nin0
      replace F_size_a1_83 := F_size_a1_83.keep K89 nin0
      replace F_filled_sto_83 := F_filled_sto_83.keep K89 nin0
      replace F_items_sto_83 := F_items_sto_83.keep K89 nin0
      replace V_arr_83 := V_arr_83.keep K89 nin0
      replace E_b_84 := E_b_84.keep K89
      replace E_b_85 := E_b_85.keep K89
      replace F_value_b_85 := F_value_b_85.keep K89 nin0
      replace F_store_a1_86 := F_store_a1_86.keep K89 nin0
      replace F_size_a1_86 := F_size_a1_86.keep K89 nin0
      replace E_b_86 := E_b_86.keep K89
      replace F_filled_b_86 := F_filled_b_86.keep K89 nin0
      replace F_items_b_86 := F_items_b_86.keep K89 nin0
      replace E_c_86 := E_c_86.keep K89
      replace V_c_86 := V_c_86.keep K89 nin0
      replace O0 := O0.keep K89 all0
      replace KC := KC.trans K89 all0
      obtain ⟨fs, hr, hrun, hended, hW, hsame⟩ := X89.leave (v := some (.int (1 : Int32))) (fun h => by rw [Bd.returns] at h; cases h)
      refine ⟨_, _, pre80 _ ?_, hrun, hended, _, _, rfl, ?_, ⟨_, rfl⟩, hW, hsame.mono (by decide) (by decide)⟩
      · show SS p e below m T79 98 #[vi p1, vi p2, vi p3, vi p4, vi p5, vi p6, vi (3 : Int32), vi c1, vr b3, vr b78_b, un, un, un] [(.int c1)] _
        refine XS.ifYes X79.here hx rfl (pc0 := 98) (pc' := 106) rfl (hb hby at_98) rfl ((if0 _ _).trans (teq hc98_81).1) (by decide) (by decide) ?_
        show SS p e below m T79 106 #[vi p1, vi p2, vi p3, vi p4, vi p5, vi p6, vi (3 : Int32), vi c1, vr b3, vr b78_b, un, un, un] [] _
        refine XS.aload X79.here hx rfl (hb hby at_106) rfl rfl ?_
        show SS p e below m T79 108 #[vi p1, vi p2, vi p3, vi p4, vi p5, vi p6, vi (3 : Int32), vi c1, vr b3, vr b78_b, un, un, un] [(.ref b78_b)] _
        refine XS.astore X79.here hx rfl (hb hby at_108) rfl rfl (l' := #[vi p1, vi p2, vi p3, vi p4, vi p5, vi p6, vi (3 : Int32), vi c1, vr b3, vr b78_b, vr b78_b, un, un]) rfl ?_
        show SS p e below m T79 110 #[vi p1, vi p2, vi p3, vi p4, vi p5, vi p6, vi (3 : Int32), vi c1, vr b3, vr b78_b, vr b78_b, un, un] [] _
        refine XS.iload X79.here hx rfl (hb hby at_110) rfl ?_
        show SS p e below m T79 112 #[vi p1, vi p2, vi p3, vi p4, vi p5, vi p6, vi (3 : Int32), vi c1, vr b3, vr b78_b, vr b78_b, un, un] [(.int c1)] _
        refine XS.ifYes X79.here hx rfl (pc0 := 112) (pc' := 120) rfl (hb hby at_112) rfl ((if0 _ _).trans (teq hc98_81).1) (by decide) (by decide) ?_
        show SS p e below m T79 120 #[vi p1, vi p2, vi p3, vi p4, vi p5, vi p6, vi (3 : Int32), vi c1, vr b3, vr b78_b, vr b78_b, un, un] [] _
        refine XS.aload X79.here hx rfl (hb hby at_120) rfl rfl ?_
        show SS p e below m T79 122 #[vi p1, vi p2, vi p3, vi p4, vi p5, vi p6, vi (3 : Int32), vi c1, vr b3, vr b78_b, vr b78_b, un, un] [(.ref b3)] _
        refine XS.astore X79.here hx rfl (hb hby at_122) rfl rfl (l' := #[vi p1, vi p2, vi p3, vi p4, vi p5, vi p6, vi (3 : Int32), vi c1, vr b3, vr b78_b, vr b78_b, vr b3, un]) rfl ?_
        show SS p e below m T79 124 #[vi p1, vi p2, vi p3, vi p4, vi p5, vi p6, vi (3 : Int32), vi c1, vr b3, vr b78_b, vr b78_b, vr b3, un] [] _
        refine XS.aload X79.here hx rfl (hb hby at_124) rfl rfl ?_
        show SS p e below m T79 126 #[vi p1, vi p2, vi p3, vi p4, vi p5, vi p6, vi (3 : Int32), vi c1, vr b3, vr b78_b, vr b78_b, vr b3, un] [(.ref b78_b)] _
        refine XS.iload X79.here hx rfl (hb hby at_126) rfl ?_
        show SS p e below m T79 128 #[vi p1, vi p2, vi p3, vi p4, vi p5, vi p6, vi (3 : Int32), vi c1, vr b3, vr b78_b, vr b78_b, vr b3, un] [(.int p5), (.ref b78_b)] _
        refine st82 _ ?_
        show SS p e below m T82 131 #[vi p1, vi p2, vi p3, vi p4, vi p5, vi p6, vi (3 : Int32), vi c1, vr b3, vr b78_b, vr b78_b, vr b3, un] [(.ref b_82), (.ref b78_b)] _
        refine st83.trans ?_
        show SS p e below m T83 134 #[vi p1, vi p2, vi p3, vi p4, vi p5, vi p6, vi (3 : Int32), vi c1, vr b3, vr b78_b, vr b78_b, vr b3, un] [] _
        refine XS.aload X83.here hx rfl (hb hby at_134) rfl rfl ?_
        show SS p e below m T83 136 #[vi p1, vi p2, vi p3, vi p4, vi p5, vi p6, vi (3 : Int32), vi c1, vr b3, vr b78_b, vr b78_b, vr b3, un] [(.ref b3)] _
        refine st84.trans ?_
        show SS p e below m T84 139 #[vi p1, vi p2, vi p3, vi p4, vi p5, vi p6, vi (3 : Int32), vi c1, vr b3, vr b78_b, vr b78_b, vr b3, un] [(.ref b84_b)] _
        refine XS.astore X84.here hx rfl (hb hby at_139) rfl rfl (l' := #[vi p1, vi p2, vi p3, vi p4, vi p5, vi p6, vi (3 : Int32), vi c1, vr b3, vr b78_b, vr b78_b, vr b3, vr b84_b]) rfl ?_
        show SS p e below m T84 141 #[vi p1, vi p2, vi p3, vi p4, vi p5, vi p6, vi (3 : Int32), vi c1, vr b3, vr b78_b, vr b78_b, vr b3, vr b84_b] [] _
        refine XS.aload X84.here hx rfl (hb hby at_141) rfl rfl ?_
        show SS p e below m T84 143 #[vi p1, vi p2, vi p3, vi p4, vi p5, vi p6, vi (3 : Int32), vi c1, vr b3, vr b78_b, vr b78_b, vr b3, vr b84_b] [(.ref b84_b)] _
        refine XS.iload X84.here hx rfl (hb hby at_143) rfl ?_
        show SS p e below m T84 145 #[vi p1, vi p2, vi p3, vi p4, vi p5, vi p6, vi (3 : Int32), vi c1, vr b3, vr b78_b, vr b78_b, vr b3, vr b84_b] [(.int p6), (.ref b84_b)] _
        refine st85 _ ?_
        show SS p e below m T85 148 #[vi p1, vi p2, vi p3, vi p4, vi p5, vi p6, vi (3 : Int32), vi c1, vr b3, vr b78_b, vr b78_b, vr b3, vr b84_b] [(.ref b_85), (.ref b84_b)] _
        refine st86.trans ?_
        show SS p e below m T86 151 #[vi p1, vi p2, vi p3, vi p4, vi p5, vi p6, vi (3 : Int32), vi c1, vr b3, vr b78_b, vr b78_b, vr b3, vr b84_b] [] _
        refine XS.aload X86.here hx rfl (hb hby at_151) rfl rfl ?_
        show SS p e below m T86 153 #[vi p1, vi p2, vi p3, vi p4, vi p5, vi p6, vi (3 : Int32), vi c1, vr b3, vr b78_b, vr b78_b, vr b3, vr b84_b] [(.ref b78_b)] _
        refine XS.iload X86.here hx rfl (hb hby at_153) rfl ?_
        show SS p e below m T86 155 #[vi p1, vi p2, vi p3, vi p4, vi p5, vi p6, vi (3 : Int32), vi c1, vr b3, vr b78_b, vr b78_b, vr b3, vr b84_b] [(.int (3 : Int32)), (.ref b78_b)] _
        refine XS.iloadN X86.here hx rfl (hb hby at_155) rfl ?_
        show SS p e below m T86 156 #[vi p1, vi p2, vi p3, vi p4, vi p5, vi p6, vi (3 : Int32), vi c1, vr b3, vr b78_b, vr b78_b, vr b3, vr b84_b] [(.int p2), (.int (3 : Int32)), (.ref b78_b)] _
        refine XS.iloadN X86.here hx rfl (hb hby at_156) rfl ?_
        show SS p e below m T86 157 #[vi p1, vi p2, vi p3, vi p4, vi p5, vi p6, vi (3 : Int32), vi c1, vr b3, vr b78_b, vr b78_b, vr b3, vr b84_b] [(.int p3), (.int p2), (.int (3 : Int32)), (.ref b78_b)] _
        refine XS.iloadN X86.here hx rfl (hb hby at_157) rfl ?_
        show SS p e below m T86 158 #[vi p1, vi p2, vi p3, vi p4, vi p5, vi p6, vi (3 : Int32), vi c1, vr b3, vr b78_b, vr b78_b, vr b3, vr b84_b] [(.int p4), (.int p3), (.int p2), (.int (3 : Int32)), (.ref b78_b)] _
        refine XS.iload X86.here hx rfl (hb hby at_158) rfl ?_
        show SS p e below m T86 160 #[vi p1, vi p2, vi p3, vi p4, vi p5, vi p6, vi (3 : Int32), vi c1, vr b3, vr b78_b, vr b78_b, vr b3, vr b84_b] [(.int p5), (.int p4), (.int p3), (.int p2), (.int (3 : Int32)), (.ref b78_b)] _
        refine XS.iconst X86.here hx rfl (hb hby at_160) ?_
        show SS p e below m T86 161 #[vi p1, vi p2, vi p3, vi p4, vi p5, vi p6, vi (3 : Int32), vi c1, vr b3, vr b78_b, vr b78_b, vr b3, vr b84_b] [(.int (1 : Int32)), (.int p5), (.int p4), (.int p3), (.int p2), (.int (3 : Int32)), (.ref b78_b)] _
        refine st87 _ ?_
        show SS p e below m T87 164 #[vi p1, vi p2, vi p3, vi p4, vi p5, vi p6, vi (3 : Int32), vi c1, vr b3, vr b78_b, vr b78_b, vr b3, vr b84_b] [(.int (1 : Int32))] _
        refine XS.ifNo X87.here hx rfl (hb hby at_164) rfl ((if0 _ _).trans (feq (by decide)).1) ?_
        show SS p e below m T87 167 #[vi p1, vi p2, vi p3, vi p4, vi p5, vi p6, vi (3 : Int32), vi c1, vr b3, vr b78_b, vr b78_b, vr b3, vr b84_b] [] _
        refine XS.aload X87.here hx rfl (hb hby at_167) rfl rfl ?_
        show SS p e below m T87 169 #[vi p1, vi p2, vi p3, vi p4, vi p5, vi p6, vi (3 : Int32), vi c1, vr b3, vr b78_b, vr b78_b, vr b3, vr b84_b] [(.ref b3)] _
        refine XS.iload X87.here hx rfl (hb hby at_169) rfl ?_
        show SS p e below m T87 171 #[vi p1, vi p2, vi p3, vi p4, vi p5, vi p6, vi (3 : Int32), vi c1, vr b3, vr b78_b, vr b78_b, vr b3, vr b84_b] [(.int (3 : Int32)), (.ref b3)] _
        refine XS.iloadN X87.here hx rfl (hb hby at_171) rfl ?_
        show SS p e below m T87 172 #[vi p1, vi p2, vi p3, vi p4, vi p5, vi p6, vi (3 : Int32), vi c1, vr b3, vr b78_b, vr b78_b, vr b3, vr b84_b] [(.int p2), (.int (3 : Int32)), (.ref b3)] _
        refine XS.iloadN X87.here hx rfl (hb hby at_172) rfl ?_
        show SS p e below m T87 173 #[vi p1, vi p2, vi p3, vi p4, vi p5, vi p6, vi (3 : Int32), vi c1, vr b3, vr b78_b, vr b78_b, vr b3, vr b84_b] [(.int p3), (.int p2), (.int (3 : Int32)), (.ref b3)] _
        refine XS.iloadN X87.here hx rfl (hb hby at_173) rfl ?_
        show SS p e below m T87 174 #[vi p1, vi p2, vi p3, vi p4, vi p5, vi p6, vi (3 : Int32), vi c1, vr b3, vr b78_b, vr b78_b, vr b3, vr b84_b] [(.int p4), (.int p3), (.int p2), (.int (3 : Int32)), (.ref b3)] _
        refine XS.iconst X87.here hx rfl (hb hby at_174) ?_
        show SS p e below m T87 175 #[vi p1, vi p2, vi p3, vi p4, vi p5, vi p6, vi (3 : Int32), vi c1, vr b3, vr b78_b, vr b78_b, vr b3, vr b84_b] [(.int (0 : Int32)), (.int p4), (.int p3), (.int p2), (.int (3 : Int32)), (.ref b3)] _
        refine XS.iconst X87.here hx rfl (hb hby at_175) ?_
        show SS p e below m T87 176 #[vi p1, vi p2, vi p3, vi p4, vi p5, vi p6, vi (3 : Int32), vi c1, vr b3, vr b78_b, vr b78_b, vr b3, vr b84_b] [(.int (0 : Int32)), (.int (0 : Int32)), (.int p4), (.int p3), (.int p2), (.int (3 : Int32)), (.ref b3)] _
        refine st88 _ ?_
        show SS p e below m T88 179 #[vi p1, vi p2, vi p3, vi p4, vi p5, vi p6, vi (3 : Int32), vi c1, vr b3, vr b78_b, vr b78_b, vr b3, vr b84_b] [(.int (1 : Int32))] _
        refine XS.ifNo X88.here hx rfl (hb hby at_179) rfl ((if0 _ _).trans (feq (by decide)).1) ?_
        show SS p e below m T88 182 #[vi p1, vi p2, vi p3, vi p4, vi p5, vi p6, vi (3 : Int32), vi c1, vr b3, vr b78_b, vr b78_b, vr b3, vr b84_b] [] _
        refine XS.aload X88.here hx rfl (hb hby at_182) rfl rfl ?_
        show SS p e below m T88 184 #[vi p1, vi p2, vi p3, vi p4, vi p5, vi p6, vi (3 : Int32), vi c1, vr b3, vr b78_b, vr b78_b, vr b3, vr b84_b] [(.ref b84_b)] _
        refine XS.iload X88.here hx rfl (hb hby at_184) rfl ?_
        show SS p e below m T88 186 #[vi p1, vi p2, vi p3, vi p4, vi p5, vi p6, vi (3 : Int32), vi c1, vr b3, vr b78_b, vr b78_b, vr b3, vr b84_b] [(.int (3 : Int32)), (.ref b84_b)] _
        refine XS.iloadN X88.here hx rfl (hb hby at_186) rfl ?_
        show SS p e below m T88 187 #[vi p1, vi p2, vi p3, vi p4, vi p5, vi p6, vi (3 : Int32), vi c1, vr b3, vr b78_b, vr b78_b, vr b3, vr b84_b] [(.int p2), (.int (3 : Int32)), (.ref b84_b)] _
        refine XS.iloadN X88.here hx rfl (hb hby at_187) rfl ?_
        show SS p e below m T88 188 #[vi p1, vi p2, vi p3, vi p4, vi p5, vi p6, vi (3 : Int32), vi c1, vr b3, vr b78_b, vr b78_b, vr b3, vr b84_b] [(.int p3), (.int p2), (.int (3 : Int32)), (.ref b84_b)] _
        refine XS.iloadN X88.here hx rfl (hb hby at_188) rfl ?_
        show SS p e below m T88 189 #[vi p1, vi p2, vi p3, vi p4, vi p5, vi p6, vi (3 : Int32), vi c1, vr b3, vr b78_b, vr b78_b, vr b3, vr b84_b] [(.int p4), (.int p3), (.int p2), (.int (3 : Int32)), (.ref b84_b)] _
        refine XS.iload X88.here hx rfl (hb hby at_189) rfl ?_
        show SS p e below m T88 191 #[vi p1, vi p2, vi p3, vi p4, vi p5, vi p6, vi (3 : Int32), vi c1, vr b3, vr b78_b, vr b78_b, vr b3, vr b84_b] [(.int p6), (.int p4), (.int p3), (.int p2), (.int (3 : Int32)), (.ref b84_b)] _
        refine XS.iconst X88.here hx rfl (hb hby at_191) ?_
        show SS p e below m T88 192 #[vi p1, vi p2, vi p3, vi p4, vi p5, vi p6, vi (3 : Int32), vi c1, vr b3, vr b78_b, vr b78_b, vr b3, vr b84_b] [(.int (1 : Int32)), (.int p6), (.int p4), (.int p3), (.int p2), (.int (3 : Int32)), (.ref b84_b)] _
        refine st89 _ ?_
        show SS p e below m T89 195 #[vi p1, vi p2, vi p3, vi p4, vi p5, vi p6, vi (3 : Int32), vi c1, vr b3, vr b78_b, vr b78_b, vr b3, vr b84_b] [(.int (1 : Int32))] _
        refine XS.ifNo X89.here hx rfl (hb hby at_195) rfl ((if0 _ _).trans (feq (by decide)).1) ?_
        show SS p e below m T89 198 #[vi p1, vi p2, vi p3, vi p4, vi p5, vi p6, vi (3 : Int32), vi c1, vr b3, vr b78_b, vr b78_b, vr b3, vr b84_b] [] _
        refine XS.iconst X89.here hx rfl (hb hby at_198) ?_
        show SS p e below m T89 199 #[vi p1, vi p2, vi p3, vi p4, vi p5, vi p6, vi (3 : Int32), vi c1, vr b3, vr b78_b, vr b78_b, vr b3, vr b84_b] [(.int (1 : Int32))] _
        refine XS.goto X89.here hx rfl (pc0 := 199) (pc' := 203) rfl (hb hby at_199) (by decide) (by decide) ?_
        show SS p e below m T89 203 #[vi p1, vi p2, vi p3, vi p4, vi p5, vi p6, vi (3 : Int32), vi c1, vr b3, vr b78_b, vr b78_b, vr b3, vr b84_b] [(.int (1 : Int32))] _
        exact retN X89 hx (t := .boolean) Bd.returns (by simp) (hb hby at_203) hr
      · show Q_rm0 Z p1 p2 p3 p4 p5 p6 cA cl mr h0 n0 _ T89.heap _
        exact ⟨rfl, N89, KC⟩
    · obtain ⟨_, _, ⟨T90, L90, k90, n90⟩, -, X90, ⟨Lc90, hQ90, l90, y90, z90⟩, st90⟩ := Jvm.LawKit.callS X79 hx (y := y_5) hown (mvT hZ (ww hw 72 rfl)) (mvT hZ (ww hw 73 rfl)) (mvT hZ (ww hw 74 rfl)) (mvT hZ (ww hw 75 rfl)) (by decide) (backOf (W := 1) (rmVo l Z a0 hw [] p5 cA cl T79.heap n0 (Nat.le_trans Z0 KC.1) O0 S_high S_cache BX) hZ (ww hw 75 rfl) (ww hw 74 rfl) (by decide) (by decide)) (g := (mkF m 128 #[vi p1, vi p2, vi p3, vi p4, vi p5, vi p6, vi (3 : Int32), vi c1, vr b3, vr b78_b, vr b3, vr b78_b, un] [(.int p5), (.ref b3)])) rfl (by rw [hml]; rfl) (argsL := [(.int p5)]) (rest := [(.ref b3)]) (lenOf pd_15 rfl) rfl (by show 2 * 0 + _ ≤ _; exact Nat.le_of_eq rfl) (hb hby at_128) (fun _ _ => ⟨rfl, rfl, (by decide : 8 + 1 ≤ _), (by decide : 16 + 1 ≤ _)⟩)
      dsimp only [Pt.U, Pt.locs, Pt.cells, Pt.slots] at X90 l90 y90 z90 st90 hQ90
      subst l90 y90 z90
      obtain ⟨b_90, rfl, N90q, K90, E_b_90, F_value_b_90⟩ := hQ90
      have N90 := Fr.app N79 N90q
      replace A3 := A3.keep K90
      replace E_b_4 := E_b_4.keep K90
      replace E_c_4 := E_c_4.keep K90
      replace E_b_72 := E_b_72.keep K90
      replace F_value_b_72 := F_value_b_72.keep K90 nin0
      replace E_b_74 := E_b_74.keep K90
      replace F_value_b_74 := F_value_b_74.keep K90 nin0
      replace E_b_76 := E_b_76.keep K90
      replace F_value_b_76 := F_value_b_76.keep K90 nin0
      replace F_store_a1_77 := F_store_a1_77.keep K90 nin0
      replace F_size_a1_77 := F_size_a1_77.keep K90 nin0
      replace F_filled_sto_77 := F_filled_sto_77.keep K90 nin0
      replace F_items_sto_77 := F_items_sto_77.keep K90 nin0
      replace V_arr_77 := V_arr_77.keep K90 nin0
      replace E_b_78 := E_b_78.keep K90
      replace F_store_b_78 := F_store_b_78.keep K90 nin0
      replace F_size_b_78 := F_size_b_78.keep K90 nin0
      replace O0 := O0.keep K90 all0
      replace KC := KC.trans K90 all0
      obtain ⟨cq91, kq91, q91a, q91b, q91c⟩ := isOf hZ rfl A3
      obtain ⟨_, _, ⟨T91, L91, k91, n91⟩, -, X91, ⟨Lc91, hQ91, l91, y91, z91⟩, st91⟩ := X90.virtualBack hx (y := y_12) (z := y_12) hown (mvT hZ (ww hw 79 rfl)) (mvT hZ (ww hw 80 rfl)) (notFace_of_selects (args := #[]) (mvT hZ (ww hw 82 rfl))) (mvT hZ (ww hw 82 rfl)) (mvT hZ (ww hw 81 rfl)) (by decide) (backOf (W := 0) (rmAddA l Z a0 hw [] b3 b_90 b4_b (3 : Int32) (3 : Int32) b4_c k_4 (4 : Int32) [(.ref b_72), (.ref b_74), (.ref b_76), .null] (4 : Int32) [(.ref b_72), (.ref b_74), (.ref b_76), (.ref b_90)] T90.heap n0 (Nat.le_trans Z0 KC.1) O0 F_store_a1_77 F_size_a1_77 A3 E_b_4 F_filled_sto_77 F_items_sto_77 E_c_4 V_arr_77 E_b_90 g_b3 g_b4_b g_b4_c hq4_0 (by decide) (by decide) (by decide) (by decide) (by decide) rfl (Nat.le_of_ble_eq_true rfl)) hZ (ww hw 83 rfl) (ww hw 2 rfl) (by decide) (by decide)) q91a q91c (g := (mkF m 131 #[vi p1, vi p2, vi p3, vi p4, vi p5, vi p6, vi (3 : Int32), vi c1, vr b3, vr b78_b, vr b3, vr b78_b, un] [(.ref b_90), (.ref b3)])) rfl (by rw [hml]; rfl) (Steps.refl _) (argsL := [(.ref b_90)]) (rest := []) (lenOf pd_16 rfl) rfl (by show 2 * 0 + _ ≤ _; exact Nat.le_of_eq rfl) (hb hby at_131) (fun _ _ => ⟨rfl, rfl, (by decide : 9 + 0 ≤ _), (by decide : 17 + 0 ≤ _)⟩)
      dsimp only [Pt.U, Pt.locs, Pt.cells, Pt.slots] at X91 l91 y91 z91 st91 hQ91
      subst l91 y91 z91
      obtain ⟨rfl, N91q, K91, F_store_a1_91, F_size_a1_91, F_filled_sto_91, F_items_sto_91, V_arr_91⟩ := hQ91
      have N91 := Fr.app N90 N91q
      have nec_b_90_b4_c : b_90 ≠ b4_c := Exa.ne E_b_90 E_c_4 (by decide)
      have nec_b_90_b4_b : b_90 ≠ b4_b := Exa.ne E_b_90 E_b_4 (by decide)
      have nec_b_90_b3 : b_90 ≠ b3 := Exa.ne E_b_90 A3 (by decide)
      replace A3 := A3.keep K91
      replace E_b_4 := E_b_4.keep K91
      replace E_c_4 := E_c_4.keep K91
      replace E_b_72 := E_b_72.keep K91
      replace F_value_b_72 := F_value_b_72.keep K91 (ninS nec_b_72_b3 (ninS nec_b_72_b4_b (ninS nec_b_72_b4_c nin0)))
      replace E_b_74 := E_b_74.keep K91
      replace F_value_b_74 := F_value_b_74.keep K91 (ninS nec_b_74_b3 (ninS nec_b_74_b4_b (ninS nec_b_74_b4_c nin0)))
      replace E_b_76 := E_b_76.keep K91
      replace F_value_b_76 := F_value_b_76.keep K91 (ninS nec_b_76_b3 (ninS nec_b_76_b4_b (ninS nec_b_76_b4_c nin0)))
      replace E_b_78 := E_b_78.keep K91
      replace F_store_b_78 := F_store_b_78.keep K91 (ninS (Ne.symm ne_b3_b78_b) (ninS (Ne.symm ne_b4_b_b78_b) (ninS (Ne.symm ne_b4_c_b78_b) nin0)))
      replace F_size_b_78 := F_size_b_78.keep K91 (ninS (Ne.symm ne_b3_b78_b) (ninS (Ne.symm ne_b4_b_b78_b) (ninS (Ne.symm ne_b4_c_b78_b) nin0)))
      replace E_b_90 := E_b_90.keep K91
      replace F_value_b_90 := F_value_b_90.keep K91 (ninS nec_b_90_b3 (ninS nec_b_90_b4_b (ninS nec_b_90_b4_c nin0)))
      replace O0 := O0.keep K91 (allS g_b3 (allS g_b4_b (allS g_b4_c all0)))
      replace KC := KC.trans K91 (allS (Or.inr sz_b3) (allS (Or.inr sz_b4_b) (allS (Or.inr sz_b4_c) all0)))
      obtain ⟨cq92, kq92, q92a, q92b, q92c⟩ := isOf hZ rfl E_b_78
      obtain ⟨_, _, ⟨T92, L92, k92, n92⟩, -, X92, ⟨Lc92, hQ92, l92, y92, z92⟩, st92⟩ := X91.virtualBack hx (y := y_13) (z := y_13) hown (mvT hZ (ww hw 29 rfl)) (mvT hZ (ww hw 30 rfl)) (notFace_of_selects (args := #[]) (mvT hZ (ww hw 32 rfl))) (mvT hZ (ww hw 32 rfl)) (mvT hZ (ww hw 31 rfl)) (by decide) (backOf (W := 0) (rmCp l Z a0 hw [] b78_b b4_b (3 : Int32) T91.heap n0 (Nat.le_trans Z0 KC.1) O0 F_store_b_78 F_size_b_78) hZ (ww hw 33 rfl) (ww hw 2 rfl) (by decide) (by decide)) q92a q92c (g := (mkF m 136 #[vi p1, vi p2, vi p3, vi p4, vi p5, vi p6, vi (3 : Int32), vi c1, vr b3, vr b78_b, vr b3, vr b78_b, un] [(.ref b78_b)])) rfl (by rw [hml]; rfl) (Steps.refl _) (argsL := []) (rest := []) (lenOf pd_13 rfl) rfl (by show 2 * 0 + _ ≤ _; exact Nat.le_of_eq rfl) (hb hby at_136) (fun _ _ => ⟨rfl, rfl, (by decide : 9 + 1 ≤ _), (by decide : 17 + 2 ≤ _)⟩)
      dsimp only [Pt.U, Pt.locs, Pt.cells, Pt.slots] at X92 l92 y92 z92 st92 hQ92
      subst l92 y92 z92
      obtain ⟨b92_b, rfl, N92q, K92, sz_b92_b, E_b_92, F_store_b_92, F_size_b_92⟩ := hQ92
      have N92 := Fr.app N91 N92q
      have ne_b3_b92_b : b3 ≠ b92_b := Nat.ne_of_lt (Nat.lt_of_lt_of_le A3.lt sz_b92_b)
      have ne_b4_b_b92_b : b4_b ≠ b92_b := Nat.ne_of_lt (Nat.lt_of_lt_of_le E_b_4.lt sz_b92_b)
      have ne_b4_c_b92_b : b4_c ≠ b92_b := Nat.ne_of_lt (Nat.lt_of_lt_of_le E_c_4.lt sz_b92_b)
      have ne_b_72_b92_b : b_72 ≠ b92_b := Nat.ne_of_lt (Nat.lt_of_lt_of_le E_b_72.lt sz_b92_b)
      have ne_b_74_b92_b : b_74 ≠ b92_b := Nat.ne_of_lt (Nat.lt_of_lt_of_le E_b_74.lt sz_b92_b)
      have ne_b_76_b92_b : b_76 ≠ b92_b := Nat.ne_of_lt (Nat.lt_of_lt_of_le E_b_76.lt sz_b92_b)
      have ne_b78_b_b92_b : b78_b ≠ b92_b := Nat.ne_of_lt (Nat.lt_of_lt_of_le E_b_78.lt sz_b92_b)
      have ne_b_90_b92_b : b_90 ≠ b92_b := Nat.ne_of_lt (Nat.lt_of_lt_of_le E_b_90.lt sz_b92_b)
      have g_b92_b : n0 ≤ b92_b := Nat.le_trans (Nat.le_trans Z0 KC.1) sz_b92_b
      replace sz_b92_b : h0.size ≤ b92_b := Nat.le_trans KC.1 sz_b92_b
      replace A3 := A3.keep K92
      replace E_b_4 := E_b_4.keep K92
      replace E_c_4 := E_c_4.keep K92
      replace E_b_72 := E_b_72.keep K92
      replace F_value_b_72 := F_value_b_72.keep K92 nin0
      replace E_b_74 := E_b_74.keep K92
      replace F_value_b_74 := F_value_b_74.keep K92 nin0
      replace E_b_76 := E_b_76.keep K92
      replace F_value_b_76 := F_value_b_76.keep K92 nin0
      replace E_b_78 := E_b_78.keep K92
      replace F_store_b_78 := F_store_b_78.keep K92 nin0
      replace F_size_b_78 := F_size_b_78.keep K92 nin0
      replace E_b_90 := E_b_90.keep K92
      replace F_value_b_90 := F_value_b_90.keep K92 nin0
      replace F_store_a1_91 := F_store_a1_91.keep K92 nin0
      replace F_size_a1_91 := F_size_a1_91.keep K92 nin0
      replace F_filled_sto_91 := F_filled_sto_91.keep K92 nin0
      replace F_items_sto_91 := F_items_sto_91.keep K92 nin0
      replace V_arr_91 := V_arr_91.keep K92 nin0
      replace O0 := O0.keep K92 all0
      replace KC := KC.trans K92 all0
      obtain ⟨_, _, ⟨T93, L93, k93, n93⟩, -, X93, ⟨Lc93, hQ93, l93, y93, z93⟩, st93⟩ := Jvm.LawKit.callS X92 hx (y := y_5) hown (mvT hZ (ww hw 72 rfl)) (mvT hZ (ww hw 73 rfl)) (mvT hZ (ww hw 74 rfl)) (mvT hZ (ww hw 75 rfl)) (by decide) (backOf (W := 1) (rmVo l Z a0 hw [] p6 cA cl T92.heap n0 (Nat.le_trans Z0 KC.1) O0 S_high S_cache BX) hZ (ww hw 75 rfl) (ww hw 74 rfl) (by decide) (by decide)) (g := (mkF m 145 #[vi p1, vi p2, vi p3, vi p4, vi p5, vi p6, vi (3 : Int32), vi c1, vr b3, vr b78_b, vr b3, vr b78_b, vr b92_b] [(.int p6), (.ref b92_b)])) rfl (by rw [hml]; rfl) (argsL := [(.int p6)]) (rest := [(.ref b92_b)]) (lenOf pd_15 rfl) rfl (by show 2 * 0 + _ ≤ _; exact Nat.le_of_eq rfl) (hb hby at_145) (fun _ _ => ⟨rfl, rfl, (by decide : 10 + 1 ≤ _), (by decide : 19 + 1 ≤ _)⟩)
      dsimp only [Pt.U, Pt.locs, Pt.cells, Pt.slots] at X93 l93 y93 z93 st93 hQ93
      subst l93 y93 z93
      obtain ⟨b_93, rfl, N93q, K93, E_b_93, F_value_b_93⟩ := hQ93
      have N93 := Fr.app N92 N93q
      replace A3 := A3.keep K93
      replace E_b_4 := E_b_4.keep K93
      replace E_c_4 := E_c_4.keep K93
      replace E_b_72 := E_b_72.keep K93
      replace F_value_b_72 := F_value_b_72.keep K93 nin0
      replace E_b_74 := E_b_74.keep K93
      replace F_value_b_74 := F_value_b_74.keep K93 nin0
      replace E_b_76 := E_b_76.keep K93
      replace F_value_b_76 := F_value_b_76.keep K93 nin0
      replace E_b_78 := E_b_78.keep K93
      replace F_store_b_78 := F_store_b_78.keep K93 nin0
      replace F_size_b_78 := F_size_b_78.keep K93 nin0
      replace E_b_90 := E_b_90.keep K93
      replace F_value_b_90 := F_value_b_90.keep K93 nin0
      replace F_store_a1_91 := F_store_a1_91.keep K93 nin0
      replace F_size_a1_91 := F_size_a1_91.keep K93 nin0
      replace F_filled_sto_91 := F_filled_sto_91.keep K93 nin0
      replace F_items_sto_91 := F_items_sto_91.keep K93 nin0
      replace V_arr_91 := V_arr_91.keep K93 nin0
      replace E_b_92 := E_b_92.keep K93
      replace F_store_b_92 := F_store_b_92.keep K93 nin0
      replace F_size_b_92 := F_size_b_92.keep K93 nin0
      replace O0 := O0.keep K93 all0
      replace KC := KC.trans K93 all0
      obtain ⟨cq94, kq94, q94a, q94b, q94c⟩ := isOf hZ rfl E_b_92
      obtain ⟨_, _, ⟨T94, L94, k94, n94⟩, -, X94, ⟨Lc94, hQ94, l94, y94, z94⟩, st94⟩ := X93.virtualBack hx (y := y_12) (z := y_12) hown (mvT hZ (ww hw 79 rfl)) (mvT hZ (ww hw 80 rfl)) (notFace_of_selects (args := #[]) (mvT hZ (ww hw 82 rfl))) (mvT hZ (ww hw 82 rfl)) (mvT hZ (ww hw 81 rfl)) (by decide) (backOf (W := 0) (rmAddB l Z a0 hw [] b92_b b_93 b4_b (3 : Int32) (4 : Int32) b4_c k_4 (4 : Int32) [(.ref b_72), (.ref b_74), (.ref b_76), (.ref b_90)] mr (6 : Int32) (4 : Int32) [(.ref b_72), (.ref b_74), (.ref b_76), (.ref b_90), .null, .null, .null, .null, .null, .null] (4 : Int32) [(.ref b_72), (.ref b_74), (.ref b_76), (.ref b_93), .null, .null, .null, .null, .null, .null] T93.heap n0 (Nat.le_trans Z0 KC.1) O0 F_store_b_92 F_size_b_92 E_b_92 E_b_4 F_filled_sto_91 F_items_sto_91 E_c_4 V_arr_91 E_b_93 g_b92_b MIR (Or.inl (by decide)) (by decide) (by decide) (by decide) (by decide) (by decide) (by decide) (by decide) rfl (own_els_cons (Or.inr ⟨_, rfl, E_b_72⟩) (own_els_cons (Or.inr ⟨_, rfl, E_b_74⟩) (own_els_cons (Or.inr ⟨_, rfl, E_b_76⟩) (own_els_cons (Or.inr ⟨_, rfl, E_b_90⟩) own_els_nil)))) (by decide) (by decide) (by decide) rfl (Nat.le_of_ble_eq_true rfl)) hZ (ww hw 83 rfl) (ww hw 2 rfl) (by decide) (by decide)) q94a q94c (g := (mkF m 148 #[vi p1, vi p2, vi p3, vi p4, vi p5, vi p6, vi (3 : Int32), vi c1, vr b3, vr b78_b, vr b3, vr b78_b, vr b92_b] [(.ref b_93), (.ref b92_b)])) rfl (by rw [hml]; rfl) (Steps.refl _) (argsL := [(.ref b_93)]) (rest := []) (lenOf pd_16 rfl) rfl (by show 2 * 0 + _ ≤ _; exact Nat.le_of_eq rfl) (hb hby at_148) (fun _ _ => ⟨rfl, rfl, (by decide : 11 + 2 ≤ _), (by decide : 20 + 12 ≤ _)⟩)
      dsimp only [Pt.U, Pt.locs, Pt.cells, Pt.slots] at X94 l94 y94 z94 st94 hQ94
      subst l94 y94 z94
      obtain ⟨b94_b, b94_c, k2_94, rfl, N94q, K94, sz_b94_b, sz_b94_c, F_store_a1_94, F_size_a1_94, E_b_94, F_filled_b_94, F_items_b_94, E_c_94, V_c_94, hq94_0⟩ := hQ94
      have N94 := Fr.app N93 N94q
      have ne_b3_b94_b : b3 ≠ b94_b := Nat.ne_of_lt (Nat.lt_of_lt_of_le A3.lt sz_b94_b)
      have ne_b4_b_b94_b : b4_b ≠ b94_b := Nat.ne_of_lt (Nat.lt_of_lt_of_le E_b_4.lt sz_b94_b)
      have ne_b4_c_b94_b : b4_c ≠ b94_b := Nat.ne_of_lt (Nat.lt_of_lt_of_le E_c_4.lt sz_b94_b)
      have ne_b_72_b94_b : b_72 ≠ b94_b := Nat.ne_of_lt (Nat.lt_of_lt_of_le E_b_72.lt sz_b94_b)
      have ne_b_74_b94_b : b_74 ≠ b94_b := Nat.ne_of_lt (Nat.lt_of_lt_of_le E_b_74.lt sz_b94_b)
      have ne_b_76_b94_b : b_76 ≠ b94_b := Nat.ne_of_lt (Nat.lt_of_lt_of_le E_b_76.lt sz_b94_b)
      have ne_b78_b_b94_b : b78_b ≠ b94_b := Nat.ne_of_lt (Nat.lt_of_lt_of_le E_b_78.lt sz_b94_b)
      have ne_b_90_b94_b : b_90 ≠ b94_b := Nat.ne_of_lt (Nat.lt_of_lt_of_le E_b_90.lt sz_b94_b)
      have ne_b92_b_b94_b : b92_b ≠ b94_b := Nat.ne_of_lt (Nat.lt_of_lt_of_le E_b_92.lt sz_b94_b)
      have ne_b_93_b94_b : b_93 ≠ b94_b := Nat.ne_of_lt (Nat.lt_of_lt_of_le E_b_93.lt sz_b94_b)
      have g_b94_b : n0 ≤ b94_b := Nat.le_trans (Nat.le_trans Z0 KC.1) sz_b94_b
      replace sz_b94_b : h0.size ≤ b94_b := Nat.le_trans KC.1 sz_b94_b
      have ne_b3_b94_c : b3 ≠ b94_c := Nat.ne_of_lt (Nat.lt_of_lt_of_le A3.lt sz_b94_c)
      have ne_b4_b_b94_c : b4_b ≠ b94_c := Nat.ne_of_lt (Nat.lt_of_lt_of_le E_b_4.lt sz_b94_c)
      have ne_b4_c_b94_c : b4_c ≠ b94_c := Nat.ne_of_lt (Nat.lt_of_lt_of_le E_c_4.lt sz_b94_c)
      have ne_b_72_b94_c : b_72 ≠ b94_c := Nat.ne_of_lt (Nat.lt_of_lt_of_le E_b_72.lt sz_b94_c)
      have ne_b_74_b94_c : b_74 ≠ b94_c := Nat.ne_of_lt (Nat.lt_of_lt_of_le E_b_74.lt sz_b94_c)
      have ne_b_76_b94_c : b_76 ≠ b94_c := Nat.ne_of_lt (Nat.lt_of_lt_of_le E_b_76.lt sz_b94_c)
      have ne_b78_b_b94_c : b78_b ≠ b94_c := Nat.ne_of_lt (Nat.lt_of_lt_of_le E_b_78.lt sz_b94_c)
      have ne_b_90_b94_c : b_90 ≠ b94_c := Nat.ne_of_lt (Nat.lt_of_lt_of_le E_b_90.lt sz_b94_c)
      have ne_b92_b_b94_c : b92_b ≠ b94_c := Nat.ne_of_lt (Nat.lt_of_lt_of_le E_b_92.lt sz_b94_c)
      have ne_b_93_b94_c : b_93 ≠ b94_c := Nat.ne_of_lt (Nat.lt_of_lt_of_le E_b_93.lt sz_b94_c)
      have g_b94_c : n0 ≤ b94_c := Nat.le_trans (Nat.le_trans Z0 KC.1) sz_b94_c
      replace sz_b94_c : h0.size ≤ b94_c := Nat.le_trans KC.1 sz_b94_c
      have nec_b_93_b92_b : b_93 ≠ b92_b := Exa.ne E_b_93 E_b_92 (by decide)
      replace A3 := A3.keep K94
      replace E_b_4 := E_b_4.keep K94
      replace E_c_4 := E_c_4.keep K94
      replace E_b_72 := E_b_72.keep K94
      replace F_value_b_72 := F_value_b_72.keep K94 (ninS ne_b_72_b92_b nin0)
      replace E_b_74 := E_b_74.keep K94
      replace F_value_b_74 := F_value_b_74.keep K94 (ninS ne_b_74_b92_b nin0)
      replace E_b_76 := E_b_76.keep K94
      replace F_value_b_76 := F_value_b_76.keep K94 (ninS ne_b_76_b92_b nin0)
      replace E_b_78 := E_b_78.keep K94
      replace F_store_b_78 := F_store_b_78.keep K94 (ninS ne_b78_b_b92_b nin0)
      replace F_size_b_78 := F_size_b_78.keep K94 (ninS ne_b78_b_b92_b nin0)
      replace E_b_90 := E_b_90.keep K94
      replace F_value_b_90 := F_value_b_90.keep K94 (ninS ne_b_90_b92_b nin0)
      replace F_store_a1_91 := F_store_a1_91.keep K94 (ninS ne_b3_b92_b nin0)
      replace F_size_a1_91 := F_size_a1_91.keep K94 (ninS ne_b3_b92_b nin0)
      replace F_filled_sto_91 := F_filled_sto_91.keep K94 (ninS ne_b4_b_b92_b nin0)
      replace F_items_sto_91 := F_items_sto_91.keep K94 (ninS ne_b4_b_b92_b nin0)
      replace V_arr_91 := V_arr_91.keep K94 (ninS ne_b4_c_b92_b nin0)
      replace E_b_92 := E_b_92.keep K94
      replace E_b_93 := E_b_93.keep K94
      replace F_value_b_93 := F_value_b_93.keep K94 (ninS nec_b_93_b92_b nin0)
      replace O0 := O0.keep K94 (allS g_b92_b all0)
      replace KC := KC.trans K94 (allS (Or.inr sz_b92_b) all0)
      obtain ⟨_, _, ⟨T95, L95, k95, n95⟩, -, X95, ⟨Lc95, hQ95, l95, y95, z95⟩, st95⟩ := Jvm.LawKit.callS X94 hx (y := y_20) hown (mvT hZ (ww hw 35 rfl)) (mvT hZ (ww hw 36 rfl)) (mvT hZ (ww hw 37 rfl)) (mvT hZ (ww hw 38 rfl)) (by decide) (backOf (W := 0) (rmH31 l Z a0 hw [] b3 p2 p3 p4 p5 b4_b b4_c k_4 (4 : Int32) [(.ref b_72), (.ref b_74), (.ref b_76), (.ref b_90)] b_72 b_74 b_76 b_90 T94.heap n0 (Nat.le_trans Z0 KC.1) O0 F_size_a1_91 F_store_a1_91 A3 F_items_sto_91 E_c_4 V_arr_91 E_b_72 F_value_b_72 rfl (by decide) E_b_74 F_value_b_74 rfl (by decide) E_b_76 F_value_b_76 rfl (by decide) E_b_90 F_value_b_90 rfl (by decide)) hZ (ww hw 38 rfl) (ww hw 37 rfl) (by decide) (by decide)) (g := (mkF m 161 #[vi p1, vi p2, vi p3, vi p4, vi p5, vi p6, vi (3 : Int32), vi c1, vr b3, vr b78_b, vr b3, vr b78_b, vr b92_b] [(.int (1 : Int32)), (.int p5), (.int p4), (.int p3), (.int p2), (.int (3 : Int32)), (.ref b3)])) rfl (by rw [hml]; rfl) (argsL := [(.ref b3), (.int (3 : Int32)), (.int p2), (.int p3), (.int p4), (.int p5), (.int (1 : Int32))]) (rest := []) (lenOf pd_14 rfl) rfl (by show 2 * 0 + _ ≤ _; exact Nat.le_of_eq rfl) (hb hby at_161) (fun _ _ => ⟨rfl, rfl, (by decide : 13 + 1 ≤ _), (by decide : 32 + 3 ≤ _)⟩)
      dsimp only [Pt.U, Pt.locs, Pt.cells, Pt.slots] at X95 l95 y95 z95 st95 hQ95
      subst l95 y95 z95
      obtain ⟨rfl, N95q, K95⟩ := hQ95
      have N95 := Fr.app N94 N95q
      replace A3 := A3.keep K95
      replace E_b_4 := E_b_4.keep K95
      replace E_c_4 := E_c_4.keep K95
      replace E_b_72 := E_b_72.keep K95
      replace F_value_b_72 := F_value_b_72.keep K95 nin0
      replace E_b_74 := E_b_74.keep K95
      replace F_value_b_74 := F_value_b_74.keep K95 nin0
      replace E_b_76 := E_b_76.keep K95
      replace F_value_b_76 := F_value_b_76.keep K95 nin0
      replace E_b_78 := E_b_78.keep K95
      replace F_store_b_78 := F_store_b_78.keep K95 nin0
      replace F_size_b_78 := F_size_b_78.keep K95 nin0
      replace E_b_90 := E_b_90.keep K95
      replace F_value_b_90 := F_value_b_90.keep K95 nin0
      replace F_store_a1_91 := F_store_a1_91.keep K95 nin0
      replace F_size_a1_91 := F_size_a1_91.keep K95 nin0
      replace F_filled_sto_91 := F_filled_sto_91.keep K95 nin0
      replace F_items_sto_91 := F_items_sto_91.keep K95 nin0
      replace V_arr_91 := V_arr_91.keep K95 nin0
      replace E_b_92 := E_b_92.keep K95
      replace E_b_93 := E_b_93.keep K95
      replace F_value_b_93 := F_value_b_93.keep K95 nin0
      replace F_store_a1_94 := F_store_a1_94.keep K95 nin0
      replace F_size_a1_94 := F_size_a1_94.keep K95 nin0
      replace E_b_94 := E_b_94.keep K95
      replace F_filled_b_94 := F_filled_b_94.keep K95 nin0
      replace F_items_b_94 := F_items_b_94.keep K95 nin0
      replace E_c_94 := E_c_94.keep K95
      replace V_c_94 := V_c_94.keep K95 nin0
      replace O0 := O0.keep K95 all0
      replace KC := KC.trans K95 all0
      obtain ⟨_, _, ⟨T96, L96, k96, n96⟩, -, X96, ⟨Lc96, hQ96, l96, y96, z96⟩, st96⟩ := Jvm.LawKit.callS X95 hx (y := y_20) hown (mvT hZ (ww hw 35 rfl)) (mvT hZ (ww hw 36 rfl)) (mvT hZ (ww hw 37 rfl)) (mvT hZ (ww hw 38 rfl)) (by decide) (backOf (W := 0) (rmH30 l Z a0 hw [] b78_b p2 p3 p4 (0 : Int32) b4_b b4_c k_4 (4 : Int32) [(.ref b_72), (.ref b_74), (.ref b_76), (.ref b_90)] b_72 b_74 b_76 T95.heap n0 (Nat.le_trans Z0 KC.1) O0 F_size_b_78 F_store_b_78 E_b_78 F_items_sto_91 E_c_4 V_arr_91 E_b_72 F_value_b_72 rfl (by decide) E_b_74 F_value_b_74 rfl (by decide) E_b_76 F_value_b_76 rfl (by decide)) hZ (ww hw 38 rfl) (ww hw 37 rfl) (by decide) (by decide)) (g := (mkF m 176 #[vi p1, vi p2, vi p3, vi p4, vi p5, vi p6, vi (3 : Int32), vi c1, vr b3, vr b78_b, vr b3, vr b78_b, vr b92_b] [(.int (0 : Int32)), (.int (0 : Int32)), (.int p4), (.int p3), (.int p2), (.int (3 : Int32)), (.ref b78_b)])) rfl (by rw [hml]; rfl) (argsL := [(.ref b78_b), (.int (3 : Int32)), (.int p2), (.int p3), (.int p4), (.int (0 : Int32)), (.int (0 : Int32))]) (rest := []) (lenOf pd_14 rfl) rfl (by show 2 * 0 + _ ≤ _; exact Nat.le_of_eq rfl) (hb hby at_176) (fun _ _ => ⟨rfl, rfl, (by decide : 14 + 1 ≤ _), (by decide : 35 + 3 ≤ _)⟩)
      dsimp only [Pt.U, Pt.locs, Pt.cells, Pt.slots] at X96 l96 y96 z96 st96 hQ96
      subst l96 y96 z96
      obtain ⟨rfl, N96q, K96⟩ := hQ96
      have N96 := Fr.app N95 N96q
      replace A3 := A3.keep K96
      replace E_b_4 := E_b_4.keep K96
      replace E_c_4 := E_c_4.keep K96
      replace E_b_72 := E_b_72.keep K96
      replace F_value_b_72 := F_value_b_72.keep K96 nin0
      replace E_b_74 := E_b_74.keep K96
      replace F_value_b_74 := F_value_b_74.keep K96 nin0
      replace E_b_76 := E_b_76.keep K96
      replace F_value_b_76 := F_value_b_76.keep K96 nin0
      replace E_b_78 := E_b_78.keep K96
      replace F_store_b_78 := F_store_b_78.keep K96 nin0
      replace F_size_b_78 := F_size_b_78.keep K96 nin0
      replace E_b_90 := E_b_90.keep K96
      replace F_value_b_90 := F_value_b_90.keep K96 nin0
      replace F_store_a1_91 := F_store_a1_91.keep K96 nin0
      replace F_size_a1_91 := F_size_a1_91.keep K96 nin0
      replace F_filled_sto_91 := F_filled_sto_91.keep K96 nin0
      replace F_items_sto_91 := F_items_sto_91.keep K96 nin0
      replace V_arr_91 := V_arr_91.keep K96 nin0
      replace E_b_92 := E_b_92.keep K96
      replace E_b_93 := E_b_93.keep K96
      replace F_value_b_93 := F_value_b_93.keep K96 nin0
      replace F_store_a1_94 := F_store_a1_94.keep K96 nin0
      replace F_size_a1_94 := F_size_a1_94.keep K96 nin0
      replace E_b_94 := E_b_94.keep K96
      replace F_filled_b_94 := F_filled_b_94.keep K96 nin0
      replace F_items_b_94 := F_items_b_94.keep K96 nin0
      replace E_c_94 := E_c_94.keep K96
      replace V_c_94 := V_c_94.keep K96 nin0
      replace O0 := O0.keep K96 all0
      replace KC := KC.trans K96 all0
      obtain ⟨_, _, ⟨T97, L97, k97, n97⟩, -, X97, ⟨Lc97, hQ97, l97, y97, z97⟩, st97⟩ := Jvm.LawKit.callS X96 hx (y := y_20) hown (mvT hZ (ww hw 35 rfl)) (mvT hZ (ww hw 36 rfl)) (mvT hZ (ww hw 37 rfl)) (mvT hZ (ww hw 38 rfl)) (by decide) (backOf (W := 0) (rmH31 l Z a0 hw [] b92_b p2 p3 p4 p6 b94_b b94_c k2_94 (6 : Int32) [(.ref b_72), (.ref b_74), (.ref b_76), (.ref b_93), .null, .null, .null, .null, .null, .null] b_72 b_74 b_76 b_93 T96.heap n0 (Nat.le_trans Z0 KC.1) O0 F_size_a1_94 F_store_a1_94 E_b_92 F_items_b_94 E_c_94 V_c_94 E_b_72 F_value_b_72 rfl (by decide) E_b_74 F_value_b_74 rfl (by decide) E_b_76 F_value_b_76 rfl (by decide) E_b_93 F_value_b_93 rfl (by decide)) hZ (ww hw 38 rfl) (ww hw 37 rfl) (by decide) (by decide)) (g := (mkF m 192 #[vi p1, vi p2, vi p3, vi p4, vi p5, vi p6, vi (3 : Int32), vi c1, vr b3, vr b78_b, vr b3, vr b78_b, vr b92_b] [(.int (1 : Int32)), (.int p6), (.int p4), (.int p3), (.int p2), (.int (3 : Int32)), (.ref b92_b)])) rfl (by rw [hml]; rfl) (argsL := [(.ref b92_b), (.int (3 : Int32)), (.int p2), (.int p3), (.int p4), (.int p6), (.int (1 : Int32))]) (rest := []) (lenOf pd_14 rfl) rfl (by show 2 * 0 + _ ≤ _; exact Nat.le_of_eq rfl) (hb hby at_192) (fun _ _ => ⟨rfl, rfl, (by decide : 15 + 1 ≤ _), (by decide : 38 + 3 ≤ _)⟩)
      dsimp only [Pt.U, Pt.locs, Pt.cells, Pt.slots] at X97 l97 y97 z97 st97 hQ97
      subst l97 y97 z97
      obtain ⟨rfl, N97q, K97⟩ := hQ97
      have N97 := Fr.app N96 N97q
      replace A3 := A3.keep K97
      replace E_b_4 := E_b_4.keep K97
      replace E_c_4 := E_c_4.keep K97
      replace E_b_72 := E_b_72.keep K97
      replace F_value_b_72 := F_value_b_72.keep K97 nin0
      replace E_b_74 := E_b_74.keep K97
      replace F_value_b_74 := F_value_b_74.keep K97 nin0
      replace E_b_76 := E_b_76.keep K97
      replace F_value_b_76 := F_value_b_76.keep K97 nin0
      replace E_b_78 := E_b_78.keep K97
      replace F_store_b_78 := F_store_b_78.keep K97 nin0
      replace F_size_b_78 := F_size_b_78.keep K97 nin0
      replace E_b_90 := E_b_90.keep K97
      replace F_value_b_90 := F_value_b_90.keep K97 nin0
      replace F_store_a1_91 := F_store_a1_91.keep K97 nin0
      replace F_size_a1_91 := F_size_a1_91.keep K97 nin0
      replace F_filled_sto_91 := F_filled_sto_91.keep K97 nin0
      replace F_items_sto_91 := F_items_sto_91.keep K97 nin0
      replace V_arr_91 := V_arr_91.keep K97 nin0
      replace E_b_92 := E_b_92.keep K97
      replace E_b_93 := E_b_93.keep K97
      replace F_value_b_93 := F_value_b_93.keep K97 nin0
      replace F_store_a1_94 := F_store_a1_94.keep K97 nin0
      replace F_size_a1_94 := F_size_a1_94.keep K97 nin0
      replace E_b_94 := E_b_94.keep K97
      replace F_filled_b_94 := F_filled_b_94.keep K97 nin0
      replace F_items_b_94 := F_items_b_94.keep K97 nin0
      replace E_c_94 := E_c_94.keep K97
      replace V_c_94 := V_c_94.keep K97 nin0
      replace O0 := O0.keep K97 all0
      replace KC := KC.trans K97 all0
      obtain ⟨fs, hr, hrun, hended, hW, hsame⟩ := X97.leave (v := some (.int (1 : Int32))) (fun h => by rw [Bd.returns] at h; cases h)
      refine ⟨_, _, pre80 _ ?_, hrun, hended, _, _, rfl, ?_, ⟨_, rfl⟩, hW, hsame.mono (by decide) (by decide)⟩
      · show SS p e below m T79 98 #[vi p1, vi p2, vi p3, vi p4, vi p5, vi p6, vi (3 : Int32), vi c1, vr b3, vr b78_b, un, un, un] [(.int c1)] _
        refine XS.ifNo X79.here hx rfl (hb hby at_98) rfl ((if0 _ _).trans (feq hc98_81).1) ?_
        show SS p e below m T79 101 #[vi p1, vi p2, vi p3, vi p4, vi p5, vi p6, vi (3 : Int32), vi c1, vr b3, vr b78_b, un, un, un] [] _
        refine XS.aload X79.here hx rfl (hb hby at_101) rfl rfl ?_
        show SS p e below m T79 103 #[vi p1, vi p2, vi p3, vi p4, vi p5, vi p6, vi (3 : Int32), vi c1, vr b3, vr b78_b, un, un, un] [(.ref b3)] _
        refine XS.goto X79.here hx rfl (pc0 := 103) (pc' := 108) rfl (hb hby at_103) (by decide) (by decide) ?_
        show SS p e below m T79 108 #[vi p1, vi p2, vi p3, vi p4, vi p5, vi p6, vi (3 : Int32), vi c1, vr b3, vr b78_b, un, un, un] [(.ref b3)] _
        refine XS.astore X79.here hx rfl (hb hby at_108) rfl rfl (l' := #[vi p1, vi p2, vi p3, vi p4, vi p5, vi p6, vi (3 : Int32), vi c1, vr b3, vr b78_b, vr b3, un, un]) rfl ?_
        show SS p e below m T79 110 #[vi p1, vi p2, vi p3, vi p4, vi p5, vi p6, vi (3 : Int32), vi c1, vr b3, vr b78_b, vr b3, un, un] [] _
        refine XS.iload X79.here hx rfl (hb hby at_110) rfl ?_
        show SS p e below m T79 112 #[vi p1, vi p2, vi p3, vi p4, vi p5, vi p6, vi (3 : Int32), vi c1, vr b3, vr b78_b, vr b3, un, un] [(.int c1)] _
        refine XS.ifNo X79.here hx rfl (hb hby at_112) rfl ((if0 _ _).trans (feq hc98_81).1) ?_
        show SS p e below m T79 115 #[vi p1, vi p2, vi p3, vi p4, vi p5, vi p6, vi (3 : Int32), vi c1, vr b3, vr b78_b, vr b3, un, un] [] _
        refine XS.aload X79.here hx rfl (hb hby at_115) rfl rfl ?_
        show SS p e below m T79 117 #[vi p1, vi p2, vi p3, vi p4, vi p5, vi p6, vi (3 : Int32), vi c1, vr b3, vr b78_b, vr b3, un, un] [(.ref b78_b)] _
        refine XS.goto X79.here hx rfl (pc0 := 117) (pc' := 122) rfl (hb hby at_117) (by decide) (by decide) ?_
        show SS p e below m T79 122 #[vi p1, vi p2, vi p3, vi p4, vi p5, vi p6, vi (3 : Int32), vi c1, vr b3, vr b78_b, vr b3, un, un] [(.ref b78_b)] _
        refine XS.astore X79.here hx rfl (hb hby at_122) rfl rfl (l' := #[vi p1, vi p2, vi p3, vi p4, vi p5, vi p6, vi (3 : Int32), vi c1, vr b3, vr b78_b, vr b3, vr b78_b, un]) rfl ?_
        show SS p e below m T79 124 #[vi p1, vi p2, vi p3, vi p4, vi p5, vi p6, vi (3 : Int32), vi c1, vr b3, vr b78_b, vr b3, vr b78_b, un] [] _
        refine XS.aload X79.here hx rfl (hb hby at_124) rfl rfl ?_
        show SS p e below m T79 126 #[vi p1, vi p2, vi p3, vi p4, vi p5, vi p6, vi (3 : Int32), vi c1, vr b3, vr b78_b, vr b3, vr b78_b, un] [(.ref b3)] _
        refine XS.iload X79.here hx rfl (hb hby at_126) rfl ?_
        show SS p e below m T79 128 #[vi p1, vi p2, vi p3, vi p4, vi p5, vi p6, vi (3 : Int32), vi c1, vr b3, vr b78_b, vr b3, vr b78_b, un] [(.int p5), (.ref b3)] _
        refine st90 _ ?_
        show SS p e below m T90 131 #[vi p1, vi p2, vi p3, vi p4, vi p5, vi p6, vi (3 : Int32), vi c1, vr b3, vr b78_b, vr b3, vr b78_b, un] [(.ref b_90), (.ref b3)] _
        refine st91.trans ?_
        show SS p e below m T91 134 #[vi p1, vi p2, vi p3, vi p4, vi p5, vi p6, vi (3 : Int32), vi c1, vr b3, vr b78_b, vr b3, vr b78_b, un] [] _
        refine XS.aload X91.here hx rfl (hb hby at_134) rfl rfl ?_
        show SS p e below m T91 136 #[vi p1, vi p2, vi p3, vi p4, vi p5, vi p6, vi (3 : Int32), vi c1, vr b3, vr b78_b, vr b3, vr b78_b, un] [(.ref b78_b)] _
        refine st92.trans ?_
        show SS p e below m T92 139 #[vi p1, vi p2, vi p3, vi p4, vi p5, vi p6, vi (3 : Int32), vi c1, vr b3, vr b78_b, vr b3, vr b78_b, un] [(.ref b92_b)] _
        refine XS.astore X92.here hx rfl (hb hby at_139) rfl rfl (l' := #[vi p1, vi p2, vi p3, vi p4, vi p5, vi p6, vi (3 : Int32), vi c1, vr b3, vr b78_b, vr b3, vr b78_b, vr b92_b]) rfl ?_
        show SS p e below m T92 141 #[vi p1, vi p2, vi p3, vi p4, vi p5, vi p6, vi (3 : Int32), vi c1, vr b3, vr b78_b, vr b3, vr b78_b, vr b92_b] [] _
        refine XS.aload X92.here hx rfl (hb hby at_141) rfl rfl ?_
        show SS p e below m T92 143 #[vi p1, vi p2, vi p3, vi p4, vi p5, vi p6, vi (3 : Int32), vi c1, vr b3, vr b78_b, vr b3, vr b78_b, vr b92_b] [(.ref b92_b)] _
        refine XS.iload X92.here hx rfl (hb hby at_143) rfl ?_
        show SS p e below m T92 145 #[vi p1, vi p2, vi p3, vi p4, vi p5, vi p6, vi (3 : Int32), vi c1, vr b3, vr b78_b, vr b3, vr b78_b, vr b92_b] [(.int p6), (.ref b92_b)] _
        refine st93 _ ?_
        show SS p e below m T93 148 #[vi p1, vi p2, vi p3, vi p4, vi p5, vi p6, vi (3 : Int32), vi c1, vr b3, vr b78_b, vr b3, vr b78_b, vr b92_b] [(.ref b_93), (.ref b92_b)] _
        refine st94.trans ?_
        show SS p e below m T94 151 #[vi p1, vi p2, vi p3, vi p4, vi p5, vi p6, vi (3 : Int32), vi c1, vr b3, vr b78_b, vr b3, vr b78_b, vr b92_b] [] _
        refine XS.aload X94.here hx rfl (hb hby at_151) rfl rfl ?_
        show SS p e below m T94 153 #[vi p1, vi p2, vi p3, vi p4, vi p5, vi p6, vi (3 : Int32), vi c1, vr b3, vr b78_b, vr b3, vr b78_b, vr b92_b] [(.ref b3)] _
        refine XS.iload X94.here hx rfl (hb hby at_153) rfl ?_
        show SS p e below m T94 155 #[vi p1, vi p2, vi p3, vi p4, vi p5, vi p6, vi (3 : Int32), vi c1, vr b3, vr b78_b, vr b3, vr b78_b, vr b92_b] [(.int (3 : Int32)), (.ref b3)] _
        refine XS.iloadN X94.here hx rfl (hb hby at_155) rfl ?_
        show SS p e below m T94 156 #[vi p1, vi p2, vi p3, vi p4, vi p5, vi p6, vi (3 : Int32), vi c1, vr b3, vr b78_b, vr b3, vr b78_b, vr b92_b] [(.int p2), (.int (3 : Int32)), (.ref b3)] _
        refine XS.iloadN X94.here hx rfl (hb hby at_156) rfl ?_
        show SS p e below m T94 157 #[vi p1, vi p2, vi p3, vi p4, vi p5, vi p6, vi (3 : Int32), vi c1, vr b3, vr b78_b, vr b3, vr b78_b, vr b92_b] [(.int p3), (.int p2), (.int (3 : Int32)), (.ref b3)] _
        refine XS.iloadN X94.here hx rfl (hb hby at_157) rfl ?_
        show SS p e below m T94 158 #[vi p1, vi p2, vi p3, vi p4, vi p5, vi p6, vi (3 : Int32), vi c1, vr b3, vr b78_b, vr b3, vr b78_b, vr b92_b] [(.int p4), (.int p3), (.int p2), (.int (3 : Int32)), (.ref b3)] _
        refine XS.iload X94.here hx rfl (hb hby at_158) rfl ?_
        show SS p e below m T94 160 #[vi p1, vi p2, vi p3, vi p4, vi p5, vi p6, vi (3 : Int32), vi c1, vr b3, vr b78_b, vr b3, vr b78_b, vr b92_b] [(.int p5), (.int p4), (.int p3), (.int p2), (.int (3 : Int32)), (.ref b3)] _
        refine XS.iconst X94.here hx rfl (hb hby at_160) ?_
        show SS p e below m T94 161 #[vi p1, vi p2, vi p3, vi p4, vi p5, vi p6, vi (3 : Int32), vi c1, vr b3, vr b78_b, vr b3, vr b78_b, vr b92_b] [(.int (1 : Int32)), (.int p5), (.int p4), (.int p3), (.int p2), (.int (3 : Int32)), (.ref b3)] _
        refine st95 _ ?_
        show SS p e below m T95 164 #[vi p1, vi p2, vi p3, vi p4, vi p5, vi p6, vi (3 : Int32), vi c1, vr b3, vr b78_b, vr b3, vr b78_b, vr b92_b] [(.int (1 : Int32))] _
        refine XS.ifNo X95.here hx rfl (hb hby at_164) rfl ((if0 _ _).trans (feq (by decide)).1) ?_
        show SS p e below m T95 167 #[vi p1, vi p2, vi p3, vi p4, vi p5, vi p6, vi (3 : Int32), vi c1, vr b3, vr b78_b, vr b3, vr b78_b, vr b92_b] [] _
        refine XS.aload X95.here hx rfl (hb hby at_167) rfl rfl ?_
        show SS p e below m T95 169 #[vi p1, vi p2, vi p3, vi p4, vi p5, vi p6, vi (3 : Int32), vi c1, vr b3, vr b78_b, vr b3, vr b78_b, vr b92_b] [(.ref b78_b)] _
        refine XS.iload X95.here hx rfl (hb hby at_169) rfl ?_
        show SS p e below m T95 171 #[vi p1, vi p2, vi p3, vi p4, vi p5, vi p6, vi (3 : Int32), vi c1, vr b3, vr b78_b, vr b3, vr b78_b, vr b92_b] [(.int (3 : Int32)), (.ref b78_b)] _
        refine XS.iloadN X95.here hx rfl (hb hby at_171) rfl ?_
        show SS p e below m T95 172 #[vi p1, vi p2, vi p3, vi p4, vi p5, vi p6, vi (3 : Int32), vi c1, vr b3, vr b78_b, vr b3, vr b78_b, vr b92_b] [(.int p2), (.int (3 : Int32)), (.ref b78_b)] _
        refine XS.iloadN X95.here hx rfl (hb hby at_172) rfl ?_
        show SS p e below m T95 173 #[vi p1, vi p2, vi p3, vi p4, vi p5, vi p6, vi (3 : Int32), vi c1, vr b3, vr b78_b, vr b3, vr b78_b, vr b92_b] [(.int p3), (.int p2), (.int (3 : Int32)), (.ref b78_b)] _
        refine XS.iloadN X95.here hx rfl (hb hby at_173) rfl ?_
        show SS p e below m T95 174 #[vi p1, vi p2, vi p3, vi p4, vi p5, vi p6, vi (3 : Int32), vi c1, vr b3, vr b78_b, vr b3, vr b78_b, vr b92_b] [(.int p4), (.int p3), (.int p2), (.int (3 : Int32)), (.ref b78_b)] _
        refine XS.iconst X95.here hx rfl (hb hby at_174) ?_
        show SS p e below m T95 175 #[vi p1, vi p2, vi p3, vi p4, vi p5, vi p6, vi (3 : Int32), vi c1, vr b3, vr b78_b, vr b3, vr b78_b, vr b92_b] [(.int (0 : Int32)), (.int p4), (.int p3), (.int p2), (.int (3 : Int32)), (.ref b78_b)] _
        refine XS.iconst X95.here hx rfl (hb hby at_175) ?_
        show SS p e below m T95 176 #[vi p1, vi p2, vi p3, vi p4, vi p5, vi p6, vi (3 : Int32), vi c1, vr b3, vr b78_b, vr b3, vr b78_b, vr b92_b] [(.int (0 : Int32)), (.int (0 : Int32)), (.int p4), (.int p3), (.int p2), (.int (3 : Int32)), (.ref b78_b)] _
        refine st96 _ ?_
        show SS p e below m T96 179 #[vi p1, vi p2, vi p3, vi p4, vi p5, vi p6, vi (3 : Int32), vi c1, vr b3, vr b78_b, vr b3, vr b78_b, vr b92_b] [(.int (1 : Int32))] _
        refine XS.ifNo X96.here hx rfl (hb hby at_179) rfl ((if0 _ _).trans (feq (by decide)).1) ?_
        show SS p e below m T96 182 #[vi p1, vi p2, vi p3, vi p4, vi p5, vi p6, vi (3 : Int32), vi c1, vr b3, vr b78_b, vr b3, vr b78_b, vr b92_b] [] _
        refine XS.aload X96.here hx rfl (hb hby at_182) rfl rfl ?_
        show SS p e below m T96 184 #[vi p1, vi p2, vi p3, vi p4, vi p5, vi p6, vi (3 : Int32), vi c1, vr b3, vr b78_b, vr b3, vr b78_b, vr b92_b] [(.ref b92_b)] _
        refine XS.iload X96.here hx rfl (hb hby at_184) rfl ?_
        show SS p e below m T96 186 #[vi p1, vi p2, vi p3, vi p4, vi p5, vi p6, vi (3 : Int32), vi c1, vr b3, vr b78_b, vr b3, vr b78_b, vr b92_b] [(.int (3 : Int32)), (.ref b92_b)] _
        refine XS.iloadN X96.here hx rfl (hb hby at_186) rfl ?_
        show SS p e below m T96 187 #[vi p1, vi p2, vi p3, vi p4, vi p5, vi p6, vi (3 : Int32), vi c1, vr b3, vr b78_b, vr b3, vr b78_b, vr b92_b] [(.int p2), (.int (3 : Int32)), (.ref b92_b)] _
        refine XS.iloadN X96.here hx rfl (hb hby at_187) rfl ?_
        show SS p e below m T96 188 #[vi p1, vi p2, vi p3, vi p4, vi p5, vi p6, vi (3 : Int32), vi c1, vr b3, vr b78_b, vr b3, vr b78_b, vr b92_b] [(.int p3), (.int p2), (.int (3 : Int32)), (.ref b92_b)] _
        refine XS.iloadN X96.here hx rfl (hb hby at_188) rfl ?_
        show SS p e below m T96 189 #[vi p1, vi p2, vi p3, vi p4, vi p5, vi p6, vi (3 : Int32), vi c1, vr b3, vr b78_b, vr b3, vr b78_b, vr b92_b] [(.int p4), (.int p3), (.int p2), (.int (3 : Int32)), (.ref b92_b)] _
        refine XS.iload X96.here hx rfl (hb hby at_189) rfl ?_
        show SS p e below m T96 191 #[vi p1, vi p2, vi p3, vi p4, vi p5, vi p6, vi (3 : Int32), vi c1, vr b3, vr b78_b, vr b3, vr b78_b, vr b92_b] [(.int p6), (.int p4), (.int p3), (.int p2), (.int (3 : Int32)), (.ref b92_b)] _
        refine XS.iconst X96.here hx rfl (hb hby at_191) ?_
        show SS p e below m T96 192 #[vi p1, vi p2, vi p3, vi p4, vi p5, vi p6, vi (3 : Int32), vi c1, vr b3, vr b78_b, vr b3, vr b78_b, vr b92_b] [(.int (1 : Int32)), (.int p6), (.int p4), (.int p3), (.int p2), (.int (3 : Int32)), (.ref b92_b)] _
        refine st97 _ ?_
        show SS p e below m T97 195 #[vi p1, vi p2, vi p3, vi p4, vi p5, vi p6, vi (3 : Int32), vi c1, vr b3, vr b78_b, vr b3, vr b78_b, vr b92_b] [(.int (1 : Int32))] _
        refine XS.ifNo X97.here hx rfl (hb hby at_195) rfl ((if0 _ _).trans (feq (by decide)).1) ?_
        show SS p e below m T97 198 #[vi p1, vi p2, vi p3, vi p4, vi p5, vi p6, vi (3 : Int32), vi c1, vr b3, vr b78_b, vr b3, vr b78_b, vr b92_b] [] _
        refine XS.iconst X97.here hx rfl (hb hby at_198) ?_
        show SS p e below m T97 199 #[vi p1, vi p2, vi p3, vi p4, vi p5, vi p6, vi (3 : Int32), vi c1, vr b3, vr b78_b, vr b3, vr b78_b, vr b92_b] [(.int (1 : Int32))] _
        refine XS.goto X97.here hx rfl (pc0 := 199) (pc' := 203) rfl (hb hby at_199) (by decide) (by decide) ?_
        show SS p e below m T97 203 #[vi p1, vi p2, vi p3, vi p4, vi p5, vi p6, vi (3 : Int32), vi c1, vr b3, vr b78_b, vr b3, vr b78_b, vr b92_b] [(.int (1 : Int32))] _
        exact retN X97 hx (t := .boolean) Bd.returns (by simp) (hb hby at_203) hr
      · show Q_rm0 Z p1 p2 p3 p4 p5 p6 cA cl mr h0 n0 _ T97.heap _
        exact ⟨rfl, N97, KC⟩
set_option maxRecDepth 65536 in
set_option maxHeartbeats 40000000 in
theorem comes_1 {Post : Tables → Env → Array Value → State → Outcome → State → Prop} (hpost : ∀ tb e args s v u, (limb_1_1.after args s (.returned v) u = true ∧ limb_1_2.after args s (.returned v) u = true ∧ True) → FrameEnd s (.returned v) u (Jvm.fieldLocs frame_1_writes args s ++ Jvm.arrayLocs frame_1_arrays args s ++ Jvm.staticLocs frame_1_statics s) 40 192 → Post tb e args s (.returned v) u) :
    ArmFor flags0 classFile x code maxLocals ret World_1 tables_1 room_1 Calls_1 rest_1 Pre_1 Post := by
  intro l hfl _ _ p e ha hc hk s m args below hf hA hF happ hP
  obtain ⟨hcalls, hrest, hpre⟩ := hP
  obtain ⟨-, -, -, hnamed, -, -, -, hat⟩ := (Spec.applies_iff hf).mp happ
  obtain ⟨hg, hn⟩ := and_e (Cond.before_iff.mp (show (Jvm.Cond.and given_1 narrow_1).before args s = true from hpre))
  obtain ⟨nw1, nv1⟩ := and_e hg
  obtain ⟨nw2, nv2⟩ := and_e nv1
  obtain ⟨nw3, nv3⟩ := and_e nv2
  obtain ⟨nw4, nv4⟩ := and_e nv3
  obtain ⟨nw5, nv5⟩ := and_e nv4
  obtain ⟨nw6, nv6⟩ := and_e nv5
  obtain ⟨w0, w1, w2, w3, w4, w5, rfl⟩ : ∃ w0 w1 w2 w3 w4 w5 : Value, args = #[w0, w1, w2, w3, w4, w5] := by
    have hs : args.size = 6 := by simpa [Cond.value, given_1] using nw1
    obtain ⟨L⟩ := args
    match L, hs with
    | [w0, w1, w2, w3, w4, w5], _ => exact ⟨w0, w1, w2, w3, w4, w5, rfl⟩
  have hw := fun d (hd : d ∈ tables_1) => atoms_spec (ws := Jvm.Cond.code x code maxLocals ret :: tables_1) hat d (List.mem_cons_of_mem _ hd)
  have hfit : Fit s := fun {y c} hc i hi => by
    obtain ⟨ha, rfl⟩ := Array.getElem?_eq_some_iff.mp hc
    have q := List.all_eq_true.mp ((Array.all_eq_true_iff_forall_mem.mp hF) _ (Array.getElem_mem ha)) i (List.mem_range.mpr hi)
    simpa [Array.getElem?_eq_getElem hi] using q
  obtain ⟨hsets, hown0⟩ := atoms_of _ (rest_1_c_eq ▸ (show rest_1_c.before _ s = true from hrest))
  have hr0 := Cond.before_iff.mp hown0
  obtain ⟨i0, ei0⟩ := is_v nw2
  obtain rfl : w0 = (.int i0) := Option.some.inj ei0
  obtain ⟨i1, ei1⟩ := is_v nw3
  obtain rfl : w1 = (.int i1) := Option.some.inj ei1
  obtain ⟨i2, ei2⟩ := is_v nw4
  obtain rfl : w2 = (.int i2) := Option.some.inj ei2
  obtain ⟨i3, ei3⟩ := is_v nw5
  obtain rfl : w3 = (.int i3) := Option.some.inj ei3
  obtain ⟨i4, ei4⟩ := is_v nw6
  obtain rfl : w4 = (.int i4) := Option.some.inj ei4
  obtain ⟨i5, ei5⟩ := is_v nv6
  obtain rfl : w5 = (.int i5) := Option.some.inj ei5
  obtain ⟨⟨cM, kM, mr, mi1, mi2, mi3, -⟩, -⟩ := hcalls
  have MIR : own_Mir s "[Ljava/lang/Object;" mr := ⟨cM, kM, mi1, mi2, mi3⟩
  have evh := eqv_i (Term.int_eval (127 : Int32)) (Cond.before_iff.mp (hsets _ (List.mem_of_getElem? (i := 3) rfl)))
  have S_high := Sta.start evh (Or.inl (hsets _ (List.mem_of_getElem? (i := 1) rfl)))
  obtain ⟨cA, evc⟩ := arr_v (Cond.before_iff.mp (hsets _ (List.mem_of_getElem? (i := 4) rfl)))
  obtain ⟨cl, Acl⟩ := Arr.start evc (Cond.before_iff.mp (hsets _ (List.mem_of_getElem? (i := 4) rfl)))
  have S_cache := Sta.start evc (Or.inr ⟨(ww hw 77 rfl), (hsets _ (List.mem_of_getElem? (i := 2) rfl))⟩)
  have evl := eqv_i (Term.int_eval (256 : Int32)) (Cond.before_iff.mp (hsets _ (List.mem_of_getElem? (i := 6) rfl)))
  obtain ⟨hl1, hl2⟩ := own_len evc Acl evl
  have BX : Bxs s cA cl "java/lang/Integer" "I" (256 : Int32) (fun j => .int (j - (128 : Int32))) := Bxs.start (fun _ => evc) Acl hl1 hl2 (by decide) (Cond.before_iff.mp (hsets _ (List.mem_of_getElem? (i := 7) rfl))) (fun X j hj h => eqv_i (own_idx hj) h)
  obtain ⟨n, o, h1, h2, h3, _, L, rfl, ⟨rfl, N, -⟩, hq⟩ := rm0 l s _ hw tables_1 i0 i1 i2 i3 i4 i5 cA cl mr s.heap s.heap.size (Nat.le_refl _) (Old.start s) S_high S_cache BX MIR p e ha hc hk s m _ below hf ((Spec.applies_iff_loose hf).mp happ).1 ⟨rfl, State.Warmed39.refl s, rfl⟩ trivial
  refine ⟨n, _, h1, h2, h3, hpost _ _ _ _ _ _ ⟨Cond.after_iff.mpr rfl, Cond.after_iff.mpr (eq_i res_at (Term.int_eval (1)) rfl), trivial⟩ ⟨hq.1, hq.2.1, (hq.2.2.sift fun y hy => Or.inr (N y hy)).mono (by decide) (by decide)⟩⟩
theorem main_1_1 : Claimed_1_1 := comes_1 fun _ _ _ _ _ _ h hF => ⟨h.1, hF⟩
theorem main_1_2 : Claimed_1_2 := comes_1 fun _ _ _ _ _ _ h hF => ⟨h.2.1, hF⟩
end Jvm.Pilot.@@N@@
namespace Jvm.Pilot.@@N@@
open Jvm Jvm.ClassFile Sem Op Lib Jvm.Free Jvm.Stand Jvm.Pilot.@@N@@.Jvm.D
/-! MADE BY PROGRAM (witnessworld.py) out of the Statement's table words and the real class files: 26 classes; the members and pool entries that the words name. The judged class is class 1, her method 2. -/
namespace start1
open Jvm.ClassFile
def u (s : String) : CpInfo := .utf8 (stringToUtf16 s)
/-- a pool by its gaps: so many unusable entries, then the entry; so many at the end -/
def gap : Nat → List CpInfo → List CpInfo
  | 0, r => r
  | n + 1, r => .unusable :: gap n r
def poolList (es : List (Nat × CpInfo)) (last : Nat) : List CpInfo := es.foldr (fun e r => gap e.1 (e.2 :: r)) (gap last [])
def pool (es : List (Nat × CpInfo)) (last : Nat) : Array CpInfo := ⟨poolList es last⟩
def fileOf (pool : Array CpInfo) (this : Nat) (attrs : Array Attribute := #[]) (ms : Array MethodInfo := #[]) (fl : Nat := 33) (sup : Nat := 0) (ifs : Array Nat := #[]) (fds : Array FieldInfo := #[]) : ClassFile where
  minorVersion := 0
  majorVersion := 65
  constantPool := pool
  accessFlags := fl
  thisClass := this
  superClass := sup
  interfaces := ifs
  fields := fds
  methods := ms
  attributes := attrs
def plain (name : String) (sup : Option ClassId) : Class where
  name := name
  kind := .ordinary
  loader := none
  accessFlags := 33
  super := sup
  interfaces := #[]
  cf := none
  fields := #[]
  methods := #[]
  instanceTypes := #[]
  staticTypes := #[]
  resolved := #[]
  callSites := []
  init := .initialized
  statics := none
  mirror := none

def pool0 : Array CpInfo := pool [(5, u "<init>"), (0, u "()V"), (1, .class_ 10), (1, u "java/lang/Object"), (0, u "getClass"), (0, u "()Ljava/lang/Class;")] 111

def k0c0 : Code := { maxStack := 0, maxLocals := 1, code := object_method_1_code, exceptionTable := #[], attributes := #[] }
def k0m0 : Method := { name := "<init>", desc := "()V", sig := { parameters := [], returnType := none }, accessFlags := 1, code := some k0c0 }
def k0m1 : Method := { name := "getClass", desc := "()Ljava/lang/Class;", sig := { parameters := [], returnType := some (.object "java/lang/Class") }, accessFlags := 273, code := none }
/-- java/lang/Object -/
def k0 : Class := { plain "java/lang/Object" none with
  accessFlags := 33
  interfaces := #[]
  cf := some (fileOf pool0 8 #[] #[{ accessFlags := 1, nameIndex := 5, descriptorIndex := 6, attributes := #[] }, { accessFlags := 273, nameIndex := 11, descriptorIndex := 12, attributes := #[] }] 33 0 #[] #[])
  fields := #[]
  methods := #[k0m0, k0m1]
  instanceTypes := #[]
  staticTypes := #[]
  resolved := Array.replicate 124 none
  statics := none }

def pool1 : Array CpInfo := pool [(2, .class_ 4), (0, .nameAndType 5 6), (0, u "java/lang/Object"), (0, u "<init>"), (0, u "()V"), (0, .methodref 8 9), (0, .class_ 10), (0, .nameAndType 11 12), (0, u "com/example/brisk_tableau/brisktableau/tableau/SharedList"), (0, u "size"), (0, u "()I"), (0, .methodref 8 14), (0, .nameAndType 15 16), (0, u "iterator"), (0, u "()Ljava/util/Iterator;"), (0, .interfaceMethodref 18 19), (0, .class_ 20), (0, .nameAndType 21 22), (0, u "java/util/Iterator"), (0, u "hasNext"), (0, u "()Z"), (0, .interfaceMethodref 18 24), (0, .nameAndType 25 26), (0, u "next"), (0, u "()Ljava/lang/Object;"), (0, .class_ 28), (0, u "java/lang/Integer"), (0, .methodref 27 30), (0, .nameAndType 31 12), (0, u "intValue"), (0, .methodref 8 3), (0, .methodref 27 34), (0, .nameAndType 35 36), (0, u "valueOf"), (0, u "(I)Ljava/lang/Integer;"), (0, .methodref 8 38), (0, .nameAndType 39 40), (0, u "add"), (0, u "(Ljava/lang/Object;)V"), (0, .methodref 8 42), (0, .nameAndType 43 44), (0, u "copy"), (0, u "()Lcom/example/brisk_tableau/brisktableau/tableau/SharedList;"), (0, .methodref 46 47), (0, .class_ 48), (0, .nameAndType 49 50), (0, u "com/example/brisk_tableau/brisktableau/tableau/SharedListCopyPinLaw"), (0, u "holds"), (0, u "(Lcom/example/brisk_tableau/brisktableau/tableau/SharedList;IIIIIZ)Z"), (5, u "law"), (0, u "(IIIIII)Z")] 2

def k1m0 : Method := { name := "<init>", desc := "()V", sig := { parameters := [], returnType := none }, accessFlags := 2, code := none }
def k1c1 : Code := { maxStack := 2, maxLocals := 9, code := method_2_code, exceptionTable := #[], attributes := #[] }
def k1m1 : Method := { name := "holds", desc := "(Lcom/example/brisk_tableau/brisktableau/tableau/SharedList;IIIIIZ)Z", sig := { parameters := [(.object "com/example/brisk_tableau/brisktableau/tableau/SharedList"), .int, .int, .int, .int, .int, .boolean], returnType := some .boolean }, accessFlags := 10, code := some k1c1 }
def k1c2 : Code := { maxStack := 7, maxLocals := 13, code := code, exceptionTable := #[], attributes := #[] }
def k1m2 : Method := { name := "law", desc := "(IIIIII)Z", sig := { parameters := [.int, .int, .int, .int, .int, .int], returnType := some .boolean }, accessFlags := 9, code := some k1c2 }
/-- com/example/brisk_tableau/brisktableau/tableau/SharedListCopyPinLaw -/
def k1 : Class := { plain "com/example/brisk_tableau/brisktableau/tableau/SharedListCopyPinLaw" (some 0) with
  accessFlags := 49
  interfaces := #[]
  cf := some (fileOf pool1 46 #[] #[{ accessFlags := 2, nameIndex := 5, descriptorIndex := 6, attributes := #[] }, { accessFlags := 10, nameIndex := 49, descriptorIndex := 50, attributes := #[] }, { accessFlags := 9, nameIndex := 56, descriptorIndex := 57, attributes := #[] }] 49 2 #[] #[])
  fields := #[]
  methods := #[k1m0, k1m1, k1m2]
  instanceTypes := #[]
  staticTypes := #[]
  resolved := Array.replicate 60 none
  statics := none }

def pool2 : Array CpInfo := pool [(8, .class_ 10), (1, u "java/lang/Iterable"), (24, .class_ 36), (0, u "java/lang/Object")] 25

/-- java/lang/Iterable -/
def k2 : Class := { plain "java/lang/Iterable" (some 0) with
  accessFlags := 1537
  interfaces := #[]
  cf := some (fileOf pool2 8 #[] #[] 1537 35 #[] #[])
  fields := #[]
  methods := #[]
  instanceTypes := #[]
  staticTypes := #[]
  resolved := Array.replicate 62 none
  statics := none }

def pool3 : Array CpInfo := pool [(1, .class_ 2), (0, u "com/example/brisk_tableau/brisktableau/tableau/SharedList$Store"), (0, .class_ 4), (0, u "com/example/brisk_tableau/brisktableau/tableau/SharedList"), (0, .class_ 6), (0, u "java/lang/Object"), (0, .methodref 1 8), (0, .nameAndType 9 10), (0, u "<init>"), (0, u "([Ljava/lang/Object;I)V"), (0, .methodref 3 12), (0, .nameAndType 9 13), (0, u "(Lcom/example/brisk_tableau/brisktableau/tableau/SharedList$Store;I)V"), (0, .methodref 5 15), (0, .nameAndType 9 16), (0, u "()V"), (0, .fieldref 3 18), (0, .nameAndType 19 20), (0, u "store"), (0, u "Lcom/example/brisk_tableau/brisktableau/tableau/SharedList$Store;"), (0, .fieldref 3 22), (0, .nameAndType 23 24), (0, u "size"), (0, u "I"), (0, .fieldref 1 26), (0, .nameAndType 27 24), (0, u "filled"), (0, .fieldref 1 29), (0, .nameAndType 30 31), (0, u "items"), (0, u "[Ljava/lang/Object;"), (0, .methodref 33 34), (0, .class_ 35), (0, .nameAndType 36 37), (0, u "java/lang/Math"), (0, u "max"), (0, u "(II)I"), (0, .methodref 39 40), (0, .class_ 41), (0, .nameAndType 42 43), (0, u "java/util/Arrays"), (0, u "copyOf"), (0, u "([Ljava/lang/Object;I)[Ljava/lang/Object;"), (0, .methodref 45 46), (0, .class_ 47), (0, .nameAndType 48 49), (0, u "java/util/Objects"), (0, u "requireNonNull"), (0, u "(Ljava/lang/Object;)Ljava/lang/Object;"), (0, .class_ 51), (0, u "com/example/brisk_tableau/brisktableau/tableau/SharedList$1"), (0, .methodref 50 53), (0, .nameAndType 9 54), (0, u "(Lcom/example/brisk_tableau/brisktableau/tableau/SharedList;I[Ljava/lang/Object;)V"), (0, .class_ 56), (0, u "java/lang/Iterable"), (0, u "FIRST_CAPACITY"), (4, u "copy"), (0, u "()Lcom/example/brisk_tableau/brisktableau/tableau/SharedList;"), (2, u "()I"), (0, u "add"), (0, u "(Ljava/lang/Object;)V"), (2, u "iterator"), (0, u "()Ljava/util/Iterator;")] 7

def k3c0 : Code := { maxStack := 5, maxLocals := 1, code := prog_112_method_1_code, exceptionTable := #[], attributes := #[] }
def k3m0 : Method := { name := "<init>", desc := "()V", sig := { parameters := [], returnType := none }, accessFlags := 0, code := some k3c0 }
def k3c1 : Code := { maxStack := 2, maxLocals := 3, code := prog_112_method_2_code, exceptionTable := #[], attributes := #[] }
def k3m1 : Method := { name := "<init>", desc := "(Lcom/example/brisk_tableau/brisktableau/tableau/SharedList$Store;I)V", sig := { parameters := [(.object "com/example/brisk_tableau/brisktableau/tableau/SharedList$Store"), .int], returnType := none }, accessFlags := 2, code := some k3c1 }
def k3c2 : Code := { maxStack := 4, maxLocals := 1, code := prog_112_method_3_code, exceptionTable := #[], attributes := #[] }
def k3m2 : Method := { name := "copy", desc := "()Lcom/example/brisk_tableau/brisktableau/tableau/SharedList;", sig := { parameters := [], returnType := some (.object "com/example/brisk_tableau/brisktableau/tableau/SharedList") }, accessFlags := 0, code := some k3c2 }
def k3c3 : Code := { maxStack := 1, maxLocals := 1, code := prog_112_method_4_code, exceptionTable := #[], attributes := #[] }
def k3m3 : Method := { name := "size", desc := "()I", sig := { parameters := [], returnType := some .int }, accessFlags := 0, code := some k3c3 }
def k3c4 : Code := { maxStack := 7, maxLocals := 2, code := prog_112_method_5_code, exceptionTable := #[], attributes := #[] }
def k3m4 : Method := { name := "add", desc := "(Ljava/lang/Object;)V", sig := { parameters := [(.object "java/lang/Object")], returnType := none }, accessFlags := 0, code := some k3c4 }
def k3c5 : Code := { maxStack := 5, maxLocals := 3, code := prog_112_method_6_code, exceptionTable := #[], attributes := #[] }
def k3m5 : Method := { name := "iterator", desc := "()Ljava/util/Iterator;", sig := { parameters := [], returnType := some (.object "java/util/Iterator") }, accessFlags := 1, code := some k3c5 }
/-- com/example/brisk_tableau/brisktableau/tableau/SharedList -/
def k3 : Class := { plain "com/example/brisk_tableau/brisktableau/tableau/SharedList" (some 0) with
  accessFlags := 32
  interfaces := #[2]
  cf := some (fileOf pool3 3 #[.nestMembers #[1, 50]] #[{ accessFlags := 0, nameIndex := 9, descriptorIndex := 16, attributes := #[] }, { accessFlags := 2, nameIndex := 9, descriptorIndex := 13, attributes := #[] }, { accessFlags := 0, nameIndex := 62, descriptorIndex := 63, attributes := #[] }, { accessFlags := 0, nameIndex := 23, descriptorIndex := 66, attributes := #[] }, { accessFlags := 0, nameIndex := 67, descriptorIndex := 68, attributes := #[] }, { accessFlags := 1, nameIndex := 71, descriptorIndex := 72, attributes := #[] }] 32 5 #[55] #[{ accessFlags := 26, nameIndex := 57, descriptorIndex := 24, attributes := #[] }, { accessFlags := 2, nameIndex := 19, descriptorIndex := 20, attributes := #[] }, { accessFlags := 2, nameIndex := 23, descriptorIndex := 24, attributes := #[] }])
  fields := #[{ name := "FIRST_CAPACITY", type := .int, accessFlags := 26, slot := 0, constantValue := 0 }, { name := "store", type := (.object "com/example/brisk_tableau/brisktableau/tableau/SharedList$Store"), accessFlags := 2, slot := 0, constantValue := 0 }, { name := "size", type := .int, accessFlags := 2, slot := 1, constantValue := 0 }]
  methods := #[k3m0, k3m1, k3m2, k3m3, k3m4, k3m5]
  instanceTypes := #[(.object "com/example/brisk_tableau/brisktableau/tableau/SharedList$Store"), .int]
  staticTypes := #[.int]
  resolved := ((Array.replicate 80 none).setIfInBounds 25 (some (.field 4 1))).setIfInBounds 28 (some (.field 4 0))
  statics := none }

def pool4 : Array CpInfo := pool [(1, .methodref 2 3), (0, .class_ 4), (0, .nameAndType 5 6), (0, u "java/lang/Object"), (0, u "<init>"), (0, u "()V"), (0, .fieldref 8 9), (0, .class_ 10), (0, .nameAndType 11 12), (0, u "com/example/brisk_tableau/brisktableau/tableau/SharedList$Store"), (0, u "items"), (0, u "[Ljava/lang/Object;"), (0, .fieldref 8 14), (0, .nameAndType 15 16), (0, u "filled"), (0, u "I"), (0, u "([Ljava/lang/Object;I)V"), (5, .class_ 24), (0, u "com/example/brisk_tableau/brisktableau/tableau/SharedList")] 2

def k4c0 : Code := { maxStack := 2, maxLocals := 3, code := prog_114_method_1_code, exceptionTable := #[], attributes := #[] }
def k4m0 : Method := { name := "<init>", desc := "([Ljava/lang/Object;I)V", sig := { parameters := [(.array (.object "java/lang/Object")), .int], returnType := none }, accessFlags := 0, code := some k4c0 }
/-- com/example/brisk_tableau/brisktableau/tableau/SharedList$Store -/
def k4 : Class := { plain "com/example/brisk_tableau/brisktableau/tableau/SharedList$Store" (some 0) with
  accessFlags := 32
  interfaces := #[]
  cf := some (fileOf pool4 8 #[.nestHost 23] #[{ accessFlags := 0, nameIndex := 5, descriptorIndex := 17, attributes := #[] }] 32 2 #[] #[{ accessFlags := 18, nameIndex := 11, descriptorIndex := 12, attributes := #[] }, { accessFlags := 2, nameIndex := 15, descriptorIndex := 16, attributes := #[] }])
  fields := #[{ name := "items", type := (.array (.object "java/lang/Object")), accessFlags := 18, slot := 0, constantValue := 0 }, { name := "filled", type := .int, accessFlags := 2, slot := 1, constantValue := 0 }]
  methods := #[k4m0]
  instanceTypes := #[(.array (.object "java/lang/Object")), .int]
  staticTypes := #[]
  resolved := Array.replicate 27 none
  statics := none }

def pool5 : Array CpInfo := pool [(16, .class_ 18), (1, u "java/util/Iterator"), (0, u "hasNext"), (0, u "()Z"), (2, u "next"), (0, u "()Ljava/lang/Object;"), (6, .class_ 32), (0, u "java/lang/Object")] 20

def k5m0 : Method := { name := "hasNext", desc := "()Z", sig := { parameters := [], returnType := some .boolean }, accessFlags := 1025, code := none }
def k5m1 : Method := { name := "next", desc := "()Ljava/lang/Object;", sig := { parameters := [], returnType := some (.object "java/lang/Object") }, accessFlags := 1025, code := none }
/-- java/util/Iterator -/
def k5 : Class := { plain "java/util/Iterator" (some 0) with
  accessFlags := 1537
  interfaces := #[]
  cf := some (fileOf pool5 16 #[] #[{ accessFlags := 1025, nameIndex := 19, descriptorIndex := 20, attributes := #[] }, { accessFlags := 1025, nameIndex := 23, descriptorIndex := 24, attributes := #[] }] 1537 31 #[] #[])
  fields := #[]
  methods := #[k5m0, k5m1]
  instanceTypes := #[]
  staticTypes := #[]
  resolved := Array.replicate 53 none
  statics := none }

def pool6 : Array CpInfo := pool [(1, .fieldref 2 3), (0, .class_ 4), (0, .nameAndType 5 6), (0, u "com/example/brisk_tableau/brisktableau/tableau/SharedList$1"), (0, u "val$length"), (0, u "I"), (0, .fieldref 2 8), (0, .nameAndType 9 10), (0, u "val$items"), (0, u "[Ljava/lang/Object;"), (0, .methodref 12 13), (0, .class_ 14), (0, .nameAndType 15 16), (0, u "java/lang/Object"), (0, u "<init>"), (0, u "()V"), (0, .fieldref 2 18), (0, .nameAndType 19 6), (0, u "next"), (3, .class_ 24), (0, u "java/util/Iterator"), (0, u "(Lcom/example/brisk_tableau/brisktableau/tableau/SharedList;I[Ljava/lang/Object;)V"), (3, u "hasNext"), (0, u "()Z"), (1, u "()Ljava/lang/Object;"), (6, .class_ 40), (0, u "com/example/brisk_tableau/brisktableau/tableau/SharedList")] 5

def k6c0 : Code := { maxStack := 2, maxLocals := 4, code := prog_113_method_1_code, exceptionTable := #[], attributes := #[] }
def k6m0 : Method := { name := "<init>", desc := "(Lcom/example/brisk_tableau/brisktableau/tableau/SharedList;I[Ljava/lang/Object;)V", sig := { parameters := [(.object "com/example/brisk_tableau/brisktableau/tableau/SharedList"), .int, (.array (.object "java/lang/Object"))], returnType := none }, accessFlags := 0, code := some k6c0 }
def k6c1 : Code := { maxStack := 2, maxLocals := 1, code := prog_113_method_2_code, exceptionTable := #[], attributes := #[] }
def k6m1 : Method := { name := "hasNext", desc := "()Z", sig := { parameters := [], returnType := some .boolean }, accessFlags := 1, code := some k6c1 }
def k6c2 : Code := { maxStack := 5, maxLocals := 1, code := prog_113_method_3_code, exceptionTable := #[], attributes := #[] }
def k6m2 : Method := { name := "next", desc := "()Ljava/lang/Object;", sig := { parameters := [], returnType := some (.object "java/lang/Object") }, accessFlags := 1, code := some k6c2 }
/-- com/example/brisk_tableau/brisktableau/tableau/SharedList$1 -/
def k6 : Class := { plain "com/example/brisk_tableau/brisktableau/tableau/SharedList$1" (some 0) with
  accessFlags := 32
  interfaces := #[5]
  cf := some (fileOf pool6 2 #[.nestHost 39] #[{ accessFlags := 0, nameIndex := 15, descriptorIndex := 25, attributes := #[] }, { accessFlags := 1, nameIndex := 29, descriptorIndex := 30, attributes := #[] }, { accessFlags := 1, nameIndex := 19, descriptorIndex := 32, attributes := #[] }] 32 12 #[23] #[{ accessFlags := 2, nameIndex := 19, descriptorIndex := 6, attributes := #[] }, { accessFlags := 4112, nameIndex := 5, descriptorIndex := 6, attributes := #[] }, { accessFlags := 4112, nameIndex := 9, descriptorIndex := 10, attributes := #[] }])
  fields := #[{ name := "next", type := .int, accessFlags := 2, slot := 0, constantValue := 0 }, { name := "val$length", type := .int, accessFlags := 4112, slot := 1, constantValue := 0 }, { name := "val$items", type := (.array (.object "java/lang/Object")), accessFlags := 4112, slot := 2, constantValue := 0 }]
  methods := #[k6m0, k6m1, k6m2]
  instanceTypes := #[.int, .int, (.array (.object "java/lang/Object"))]
  staticTypes := #[]
  resolved := Array.replicate 46 none
  statics := none }

def pool7 : Array CpInfo := pool [(1, .class_ 2), (0, u "java/io/Serializable"), (0, .class_ 4), (0, u "java/lang/Object")] 2

/-- java/io/Serializable -/
def k7 : Class := { plain "java/io/Serializable" (some 0) with
  accessFlags := 1537
  interfaces := #[]
  cf := some (fileOf pool7 1 #[] #[] 1537 3 #[] #[])
  fields := #[]
  methods := #[]
  instanceTypes := #[]
  staticTypes := #[]
  resolved := Array.replicate 7 none
  statics := none }

def pool8 : Array CpInfo := pool [(1, .methodref 2 3), (0, .class_ 4), (0, .nameAndType 5 6), (0, u "java/lang/Object"), (0, u "<init>"), (0, u "()V"), (1, .class_ 10), (1, u "java/lang/Number"), (2, .class_ 14), (0, u "java/io/Serializable"), (0, u "serialVersionUID"), (0, u "J")] 20

def k8c0 : Code := { maxStack := 1, maxLocals := 1, code := jdk_18_method_1_code, exceptionTable := #[], attributes := #[] }
def k8m0 : Method := { name := "<init>", desc := "()V", sig := { parameters := [], returnType := none }, accessFlags := 1, code := some k8c0 }
/-- java/lang/Number -/
def k8 : Class := { plain "java/lang/Number" (some 0) with
  accessFlags := 1057
  interfaces := #[7]
  cf := some (fileOf pool8 8 #[] #[{ accessFlags := 1, nameIndex := 5, descriptorIndex := 6, attributes := #[] }] 1057 2 #[13] #[{ accessFlags := 26, nameIndex := 15, descriptorIndex := 16, attributes := #[] }])
  fields := #[{ name := "serialVersionUID", type := .long, accessFlags := 26, slot := 0, constantValue := 0 }]
  methods := #[k8m0]
  instanceTypes := #[]
  staticTypes := #[.long]
  resolved := Array.replicate 37 none
  statics := none }

def pool9 : Array CpInfo := pool [(1, .class_ 2), (0, u "java/lang/Comparable"), (0, .class_ 4), (0, u "java/lang/Object")] 7

/-- java/lang/Comparable -/
def k9 : Class := { plain "java/lang/Comparable" (some 0) with
  accessFlags := 1537
  interfaces := #[]
  cf := some (fileOf pool9 1 #[] #[] 1537 3 #[] #[])
  fields := #[]
  methods := #[]
  instanceTypes := #[]
  staticTypes := #[]
  resolved := Array.replicate 12 none
  statics := none }

def pool10 : Array CpInfo := pool [(1, .class_ 2), (0, u "java/lang/constant/Constable"), (0, .class_ 4), (0, u "java/lang/Object")] 6

/-- java/lang/constant/Constable -/
def k10 : Class := { plain "java/lang/constant/Constable" (some 0) with
  accessFlags := 1537
  interfaces := #[]
  cf := some (fileOf pool10 1 #[] #[] 1537 3 #[] #[])
  fields := #[]
  methods := #[]
  instanceTypes := #[]
  staticTypes := #[]
  resolved := Array.replicate 11 none
  statics := none }

def pool11 : Array CpInfo := pool [(1, .class_ 2), (0, u "java/lang/constant/ConstantDesc"), (0, .class_ 4), (0, u "java/lang/Object")] 32

/-- java/lang/constant/ConstantDesc -/
def k11 : Class := { plain "java/lang/constant/ConstantDesc" (some 0) with
  accessFlags := 1537
  interfaces := #[]
  cf := some (fileOf pool11 1 #[] #[] 1537 3 #[] #[])
  fields := #[]
  methods := #[]
  instanceTypes := #[]
  staticTypes := #[]
  resolved := Array.replicate 37 none
  statics := none }

def pool12 : Array CpInfo := pool [(1, .class_ 2), (0, u "java/lang/Integer"), (16, u "digits"), (0, u "[C"), (46, u "<init>"), (17, u "DigitOnes"), (0, u "[B"), (2, u "DigitTens"), (10, .nameAndType 67 101), (0, u "()V"), (19, u "()I"), (65, u "valueOf"), (0, u "(I)Ljava/lang/Integer;"), (0, .class_ 190), (0, u "java/lang/Integer$IntegerCache"), (0, .fieldref 189 192), (0, .nameAndType 193 194), (0, u "high"), (0, u "I"), (0, .fieldref 189 196), (0, .nameAndType 197 198), (0, u "cache"), (0, u "[Ljava/lang/Integer;"), (0, .methodref 1 200), (0, .nameAndType 67 201), (0, u "(I)V"), (0, .methodref 203 100), (0, .class_ 204), (0, u "java/lang/Number"), (0, .fieldref 1 206), (0, .nameAndType 207 194), (0, u "value"), (5, u "intValue"), (88, u "TYPE"), (0, u "Ljava/lang/Class;"), (0, .class_ 305), (0, u "java/lang/Comparable"), (0, .class_ 307), (0, u "java/lang/constant/Constable"), (0, .class_ 309), (0, u "java/lang/constant/ConstantDesc"), (0, u "MIN_VALUE"), (1, u "MAX_VALUE"), (3, u "SIZE"), (1, u "BYTES"), (1, u "serialVersionUID"), (0, u "J")] 131

def k12c0 : Code := { maxStack := 3, maxLocals := 1, code := jdk_33_method_22_code, exceptionTable := #[], attributes := #[] }
def k12m0 : Method := { name := "valueOf", desc := "(I)Ljava/lang/Integer;", sig := { parameters := [.int], returnType := some (.object "java/lang/Integer") }, accessFlags := 9, code := some k12c0 }
def k12c1 : Code := { maxStack := 2, maxLocals := 2, code := jdk_33_method_23_code, exceptionTable := #[], attributes := #[] }
def k12m1 : Method := { name := "<init>", desc := "(I)V", sig := { parameters := [.int], returnType := none }, accessFlags := 1, code := some k12c1 }
def k12c2 : Code := { maxStack := 1, maxLocals := 1, code := jdk_33_method_27_code, exceptionTable := #[], attributes := #[] }
def k12m2 : Method := { name := "intValue", desc := "()I", sig := { parameters := [], returnType := some .int }, accessFlags := 1, code := some k12c2 }
/-- java/lang/Integer -/
def k12 : Class := { plain "java/lang/Integer" (some 8) with
  accessFlags := 49
  interfaces := #[9, 10, 11]
  cf := some (fileOf pool12 1 #[.nestMembers #[189]] #[{ accessFlags := 9, nameIndex := 187, descriptorIndex := 188, attributes := #[] }, { accessFlags := 1, nameIndex := 67, descriptorIndex := 201, attributes := #[] }, { accessFlags := 1, nameIndex := 213, descriptorIndex := 121, attributes := #[] }] 49 203 #[304, 306, 308] #[{ accessFlags := 25, nameIndex := 310, descriptorIndex := 194, attributes := #[] }, { accessFlags := 25, nameIndex := 312, descriptorIndex := 194, attributes := #[] }, { accessFlags := 25, nameIndex := 302, descriptorIndex := 303, attributes := #[] }, { accessFlags := 24, nameIndex := 19, descriptorIndex := 20, attributes := #[] }, { accessFlags := 24, nameIndex := 89, descriptorIndex := 86, attributes := #[] }, { accessFlags := 24, nameIndex := 85, descriptorIndex := 86, attributes := #[] }, { accessFlags := 18, nameIndex := 207, descriptorIndex := 194, attributes := #[] }, { accessFlags := 25, nameIndex := 316, descriptorIndex := 194, attributes := #[] }, { accessFlags := 25, nameIndex := 318, descriptorIndex := 194, attributes := #[] }, { accessFlags := 26, nameIndex := 320, descriptorIndex := 321, attributes := #[] }])
  fields := #[{ name := "MIN_VALUE", type := .int, accessFlags := 25, slot := 0, constantValue := 0 }, { name := "MAX_VALUE", type := .int, accessFlags := 25, slot := 1, constantValue := 0 }, { name := "TYPE", type := (.object "java/lang/Class"), accessFlags := 25, slot := 2, constantValue := 0 }, { name := "digits", type := (.array .char), accessFlags := 24, slot := 3, constantValue := 0 }, { name := "DigitTens", type := (.array .byte), accessFlags := 24, slot := 4, constantValue := 0 }, { name := "DigitOnes", type := (.array .byte), accessFlags := 24, slot := 5, constantValue := 0 }, { name := "value", type := .int, accessFlags := 18, slot := 0, constantValue := 0 }, { name := "SIZE", type := .int, accessFlags := 25, slot := 6, constantValue := 0 }, { name := "BYTES", type := .int, accessFlags := 25, slot := 7, constantValue := 0 }, { name := "serialVersionUID", type := .long, accessFlags := 26, slot := 8, constantValue := 0 }]
  methods := #[k12m0, k12m1, k12m2]
  instanceTypes := #[.int]
  staticTypes := #[.int, .int, (.object "java/lang/Class"), (.array .char), (.array .byte), (.array .byte), .int, .int, .long]
  resolved := Array.replicate 453 none
  statics := none }

def pool13 : Array CpInfo := pool [(2, .class_ 4), (1, u "java/lang/Object"), (0, u "<init>"), (0, u "()V"), (0, .class_ 8), (0, u "java/lang/Integer"), (7, .class_ 18), (1, u "java/lang/Integer$IntegerCache"), (0, u "$assertionsDisabled"), (0, u "Z"), (26, u "high"), (0, u "I"), (8, u "archivedCache"), (0, u "[Ljava/lang/Integer;"), (12, u "cache"), (0, u "low")] 27

def k13m0 : Method := { name := "<init>", desc := "()V", sig := { parameters := [], returnType := none }, accessFlags := 2, code := none }
/-- java/lang/Integer$IntegerCache -/
def k13 : Class := { plain "java/lang/Integer$IntegerCache" (some 0) with
  accessFlags := 48
  interfaces := #[]
  cf := some (fileOf pool13 16 #[.nestHost 7] #[{ accessFlags := 2, nameIndex := 5, descriptorIndex := 6, attributes := #[] }] 48 2 #[] #[{ accessFlags := 24, nameIndex := 72, descriptorIndex := 48, attributes := #[] }, { accessFlags := 24, nameIndex := 47, descriptorIndex := 48, attributes := #[] }, { accessFlags := 24, nameIndex := 71, descriptorIndex := 58, attributes := #[] }, { accessFlags := 8, nameIndex := 57, descriptorIndex := 58, attributes := #[] }, { accessFlags := 4120, nameIndex := 19, descriptorIndex := 20, attributes := #[] }])
  fields := #[{ name := "low", type := .int, accessFlags := 24, slot := 0, constantValue := 0 }, { name := "high", type := .int, accessFlags := 24, slot := 1, constantValue := 0 }, { name := "cache", type := (.array (.object "java/lang/Integer")), accessFlags := 24, slot := 2, constantValue := 0 }, { name := "archivedCache", type := (.array (.object "java/lang/Integer")), accessFlags := 8, slot := 3, constantValue := 0 }, { name := "$assertionsDisabled", type := .boolean, accessFlags := 4120, slot := 4, constantValue := 0 }]
  methods := #[k13m0]
  instanceTypes := #[]
  staticTypes := #[.int, .int, (.array (.object "java/lang/Integer")), (.array (.object "java/lang/Integer")), .boolean]
  resolved := Array.replicate 100 none
  statics := some 0 }

def pool14 : Array CpInfo := pool [(2, .class_ 4), (1, u "java/lang/Object"), (0, u "<init>"), (0, u "()V"), (35, .class_ 44), (1, u "java/util/Objects"), (0, u "requireNonNull"), (0, u "(Ljava/lang/Object;)Ljava/lang/Object;")] 137

def k14m0 : Method := { name := "<init>", desc := "()V", sig := { parameters := [], returnType := none }, accessFlags := 2, code := none }
def k14c1 : Code := { maxStack := 2, maxLocals := 1, code := jdk_31_method_10_code, exceptionTable := #[], attributes := #[] }
def k14m1 : Method := { name := "requireNonNull", desc := "(Ljava/lang/Object;)Ljava/lang/Object;", sig := { parameters := [(.object "java/lang/Object")], returnType := some (.object "java/lang/Object") }, accessFlags := 9, code := some k14c1 }
/-- java/util/Objects -/
def k14 : Class := { plain "java/util/Objects" (some 0) with
  accessFlags := 49
  interfaces := #[]
  cf := some (fileOf pool14 42 #[] #[{ accessFlags := 2, nameIndex := 5, descriptorIndex := 6, attributes := #[] }, { accessFlags := 9, nameIndex := 45, descriptorIndex := 46, attributes := #[] }] 49 2 #[] #[])
  fields := #[]
  methods := #[k14m0, k14m1]
  instanceTypes := #[]
  staticTypes := #[]
  resolved := Array.replicate 184 none
  statics := none }

def pool15 : Array CpInfo := pool [(1, .class_ 2), (0, u "java/lang/Math"), (1, .class_ 6), (1, u "java/lang/Object"), (0, u "<init>"), (0, u "()V"), (89, .class_ 100), (1, u "java/lang/Math$RandomNumberGeneratorHolder"), (71, u "negativeZeroFloatBits"), (0, u "J"), (2, u "negativeZeroDoubleBits"), (21, u "max"), (2, u "min"), (43, u "$assertionsDisabled"), (0, u "Z"), (88, u "(II)I"), (2, u "twoToTheDoubleScaleDown"), (0, u "D"), (4, u "twoToTheDoubleScaleUp"), (9, u "E"), (3, u "PI"), (2, u "TAU"), (2, u "DEGREES_TO_RADIANS"), (0, u "RADIANS_TO_DEGREES")] 94

def k15m0 : Method := { name := "<init>", desc := "()V", sig := { parameters := [], returnType := none }, accessFlags := 2, code := none }
def k15c1 : Code := { maxStack := 2, maxLocals := 2, code := jdk_29_method_65_code, exceptionTable := #[], attributes := #[] }
def k15m1 : Method := { name := "max", desc := "(II)I", sig := { parameters := [.int, .int], returnType := some .int }, accessFlags := 9, code := some k15c1 }
def k15c2 : Code := { maxStack := 2, maxLocals := 2, code := jdk_29_method_69_code, exceptionTable := #[], attributes := #[] }
def k15m2 : Method := { name := "min", desc := "(II)I", sig := { parameters := [.int, .int], returnType := some .int }, accessFlags := 9, code := some k15c2 }
/-- java/lang/Math -/
def k15 : Class := { plain "java/lang/Math" (some 0) with
  accessFlags := 49
  interfaces := #[]
  cf := some (fileOf pool15 1 #[.nestMembers #[98]] #[{ accessFlags := 2, nameIndex := 7, descriptorIndex := 8, attributes := #[] }, { accessFlags := 9, nameIndex := 198, descriptorIndex := 335, attributes := #[] }, { accessFlags := 9, nameIndex := 201, descriptorIndex := 335, attributes := #[] }] 49 4 #[] #[{ accessFlags := 25, nameIndex := 354, descriptorIndex := 339, attributes := #[] }, { accessFlags := 25, nameIndex := 358, descriptorIndex := 339, attributes := #[] }, { accessFlags := 25, nameIndex := 361, descriptorIndex := 339, attributes := #[] }, { accessFlags := 26, nameIndex := 364, descriptorIndex := 339, attributes := #[] }, { accessFlags := 26, nameIndex := 365, descriptorIndex := 339, attributes := #[] }, { accessFlags := 26, nameIndex := 172, descriptorIndex := 173, attributes := #[] }, { accessFlags := 26, nameIndex := 176, descriptorIndex := 173, attributes := #[] }, { accessFlags := 8, nameIndex := 344, descriptorIndex := 339, attributes := #[] }, { accessFlags := 8, nameIndex := 338, descriptorIndex := 339, attributes := #[] }, { accessFlags := 4120, nameIndex := 245, descriptorIndex := 246, attributes := #[] }])
  fields := #[{ name := "E", type := .double, accessFlags := 25, slot := 0, constantValue := 0 }, { name := "PI", type := .double, accessFlags := 25, slot := 1, constantValue := 0 }, { name := "TAU", type := .double, accessFlags := 25, slot := 2, constantValue := 0 }, { name := "DEGREES_TO_RADIANS", type := .double, accessFlags := 26, slot := 3, constantValue := 0 }, { name := "RADIANS_TO_DEGREES", type := .double, accessFlags := 26, slot := 4, constantValue := 0 }, { name := "negativeZeroFloatBits", type := .long, accessFlags := 26, slot := 5, constantValue := 0 }, { name := "negativeZeroDoubleBits", type := .long, accessFlags := 26, slot := 6, constantValue := 0 }, { name := "twoToTheDoubleScaleUp", type := .double, accessFlags := 8, slot := 7, constantValue := 0 }, { name := "twoToTheDoubleScaleDown", type := .double, accessFlags := 8, slot := 8, constantValue := 0 }, { name := "$assertionsDisabled", type := .boolean, accessFlags := 4120, slot := 9, constantValue := 0 }]
  methods := #[k15m0, k15m1, k15m2]
  instanceTypes := #[]
  staticTypes := #[.double, .double, .double, .double, .double, .long, .long, .double, .double, .boolean]
  resolved := Array.replicate 460 none
  statics := none }

def pool16 : Array CpInfo := pool [(2, .class_ 4), (1, u "java/lang/Object"), (0, u "<init>"), (0, u "()V"), (7, .class_ 16), (1, u "java/util/Arrays"), (57, .class_ 76), (1, u "java/util/Arrays$NaturalOrder"), (9, .methodref 2 87), (0, .nameAndType 88 89), (0, u "getClass"), (0, u "()Ljava/lang/Class;"), (20, .class_ 111), (0, u "[Ljava/lang/Object;"), (1, .class_ 115), (1, u "java/util/Arrays$LegacyMergeSort"), (1, u "Z"), (32, .methodref 151 152), (0, .class_ 153), (0, .nameAndType 154 155), (0, u "java/lang/System"), (0, u "arraycopy"), (0, u "(Ljava/lang/Object;ILjava/lang/Object;II)V"), (144, .methodref 14 301), (0, .nameAndType 302 303), (0, u "copyOf"), (0, u "([Ljava/lang/Object;ILjava/lang/Class;)[Ljava/lang/Object;"), (0, .methodref 305 306), (0, .class_ 307), (0, .nameAndType 308 309), (0, u "java/lang/Math"), (0, u "min"), (0, u "(II)I"), (65, .class_ 376), (0, u "java/util/Arrays$ArrayList"), (68, u "$assertionsDisabled"), (269, u "MIN_ARRAY_SORT_GRAN"), (0, u "I"), (2, u "INSERTIONSORT_THRESHOLD"), (140, u "([Ljava/lang/Object;I)[Ljava/lang/Object;"), (114, .class_ 976), (0, u "java/util/Arrays$ArrayItr")] 52

def k16m0 : Method := { name := "<init>", desc := "()V", sig := { parameters := [], returnType := none }, accessFlags := 2, code := none }
def k16c1 : Code := { maxStack := 3, maxLocals := 2, code := jdk_65_method_119_code, exceptionTable := #[], attributes := #[] }
def k16m1 : Method := { name := "copyOf", desc := "([Ljava/lang/Object;I)[Ljava/lang/Object;", sig := { parameters := [(.array (.object "java/lang/Object")), .int], returnType := some (.array (.object "java/lang/Object")) }, accessFlags := 9, code := some k16c1 }
def k16c2 : Code := { maxStack := 6, maxLocals := 4, code := jdk_65_method_120_code, exceptionTable := #[], attributes := #[] }
def k16m2 : Method := { name := "copyOf", desc := "([Ljava/lang/Object;ILjava/lang/Class;)[Ljava/lang/Object;", sig := { parameters := [(.array (.object "java/lang/Object")), .int, (.object "java/lang/Class")], returnType := some (.array (.object "java/lang/Object")) }, accessFlags := 9, code := some k16c2 }
/-- java/util/Arrays -/
def k16 : Class := { plain "java/util/Arrays" (some 0) with
  accessFlags := 49
  interfaces := #[]
  cf := some (fileOf pool16 14 #[.nestMembers #[975, 375, 113, 74]] #[{ accessFlags := 2, nameIndex := 5, descriptorIndex := 6, attributes := #[] }, { accessFlags := 9, nameIndex := 302, descriptorIndex := 860, attributes := #[] }, { accessFlags := 9, nameIndex := 302, descriptorIndex := 303, attributes := #[] }] 49 2 #[] #[{ accessFlags := 26, nameIndex := 715, descriptorIndex := 716, attributes := #[] }, { accessFlags := 26, nameIndex := 719, descriptorIndex := 716, attributes := #[] }, { accessFlags := 4120, nameIndex := 445, descriptorIndex := 117, attributes := #[] }])
  fields := #[{ name := "MIN_ARRAY_SORT_GRAN", type := .int, accessFlags := 26, slot := 0, constantValue := 0 }, { name := "INSERTIONSORT_THRESHOLD", type := .int, accessFlags := 26, slot := 1, constantValue := 0 }, { name := "$assertionsDisabled", type := .boolean, accessFlags := 4120, slot := 2, constantValue := 0 }]
  methods := #[k16m0, k16m1, k16m2]
  instanceTypes := #[]
  staticTypes := #[.int, .int, .boolean]
  resolved := Array.replicate 1029 none
  statics := none }

def pool17 : Array CpInfo := pool [(2, .class_ 4), (1, u "java/lang/Object"), (0, u "<init>"), (0, u "()V"), (1, .class_ 10), (1, u "java/lang/System"), (0, u "allowSecurityManager"), (0, u "I"), (16, u "cons"), (0, u "Ljava/io/Console;"), (77, .class_ 110), (1, u "java/lang/System$CallersHolder"), (43, u "initialErrStream"), (0, u "Ljava/io/PrintStream;"), (19, u "security"), (0, u "Ljava/lang/SecurityManager;"), (31, .class_ 209), (0, u "java/lang/System$1"), (7, u "props"), (0, u "Ljava/util/Properties;"), (2, u "lineSeparator"), (0, u "Ljava/lang/String;"), (96, .class_ 321), (1, u "java/lang/System$LoggerFinder"), (5, .class_ 328), (0, u "java/lang/System$Logger"), (67, u "err"), (2, u "out"), (91, u "notSupportedJnuEncoding"), (15, u "in"), (17, u "initialIn"), (0, u "Ljava/io/InputStream;"), (35, u "bootLayer"), (0, u "Ljava/lang/ModuleLayer;"), (99, .class_ 664), (0, u "java/lang/System$2"), (9, u "NEVER"), (2, u "MAYBE"), (49, u "arraycopy"), (0, u "(Ljava/lang/Object;ILjava/lang/Object;II)V"), (72, .class_ 802), (0, u "java/lang/System$Logger$Level")] 31

def k17m0 : Method := { name := "<init>", desc := "()V", sig := { parameters := [], returnType := none }, accessFlags := 2, code := none }
def k17m1 : Method := { name := "arraycopy", desc := "(Ljava/lang/Object;ILjava/lang/Object;II)V", sig := { parameters := [(.object "java/lang/Object"), .int, (.object "java/lang/Object"), .int, .int], returnType := none }, accessFlags := 265, code := none }
/-- java/lang/System -/
def k17 : Class := { plain "java/lang/System" (some 0) with
  accessFlags := 49
  interfaces := #[]
  cf := some (fileOf pool17 8 #[.nestMembers #[319, 327, 801, 108, 663, 208]] #[{ accessFlags := 2, nameIndex := 5, descriptorIndex := 6, attributes := #[] }, { accessFlags := 265, nameIndex := 727, descriptorIndex := 728, attributes := #[] }] 49 2 #[] #[{ accessFlags := 25, nameIndex := 507, descriptorIndex := 526, attributes := #[] }, { accessFlags := 25, nameIndex := 399, descriptorIndex := 155, attributes := #[] }, { accessFlags := 25, nameIndex := 396, descriptorIndex := 155, attributes := #[] }, { accessFlags := 10, nameIndex := 525, descriptorIndex := 526, attributes := #[] }, { accessFlags := 26, nameIndex := 674, descriptorIndex := 12, attributes := #[] }, { accessFlags := 26, nameIndex := 677, descriptorIndex := 12, attributes := #[] }, { accessFlags := 10, nameIndex := 11, descriptorIndex := 12, attributes := #[] }, { accessFlags := 74, nameIndex := 175, descriptorIndex := 176, attributes := #[] }, { accessFlags := 10, nameIndex := 491, descriptorIndex := 222, attributes := #[] }, { accessFlags := 74, nameIndex := 29, descriptorIndex := 30, attributes := #[] }, { accessFlags := 74, nameIndex := 154, descriptorIndex := 155, attributes := #[] }, { accessFlags := 10, nameIndex := 217, descriptorIndex := 218, attributes := #[] }, { accessFlags := 10, nameIndex := 221, descriptorIndex := 222, attributes := #[] }, { accessFlags := 8, nameIndex := 562, descriptorIndex := 563, attributes := #[] }])
  fields := #[{ name := "in", type := (.object "java/io/InputStream"), accessFlags := 25, slot := 0, constantValue := 0 }, { name := "out", type := (.object "java/io/PrintStream"), accessFlags := 25, slot := 1, constantValue := 0 }, { name := "err", type := (.object "java/io/PrintStream"), accessFlags := 25, slot := 2, constantValue := 0 }, { name := "initialIn", type := (.object "java/io/InputStream"), accessFlags := 10, slot := 3, constantValue := 0 }, { name := "NEVER", type := .int, accessFlags := 26, slot := 4, constantValue := 0 }, { name := "MAYBE", type := .int, accessFlags := 26, slot := 5, constantValue := 0 }, { name := "allowSecurityManager", type := .int, accessFlags := 10, slot := 6, constantValue := 0 }, { name := "security", type := (.object "java/lang/SecurityManager"), accessFlags := 74, slot := 7, constantValue := 0 }, { name := "notSupportedJnuEncoding", type := (.object "java/lang/String"), accessFlags := 10, slot := 8, constantValue := 0 }, { name := "cons", type := (.object "java/io/Console"), accessFlags := 74, slot := 9, constantValue := 0 }, { name := "initialErrStream", type := (.object "java/io/PrintStream"), accessFlags := 74, slot := 10, constantValue := 0 }, { name := "props", type := (.object "java/util/Properties"), accessFlags := 10, slot := 11, constantValue := 0 }, { name := "lineSeparator", type := (.object "java/lang/String"), accessFlags := 10, slot := 12, constantValue := 0 }, { name := "bootLayer", type := (.object "java/lang/ModuleLayer"), accessFlags := 8, slot := 13, constantValue := 0 }]
  methods := #[k17m0, k17m1]
  instanceTypes := #[]
  staticTypes := #[(.object "java/io/InputStream"), (.object "java/io/PrintStream"), (.object "java/io/PrintStream"), (.object "java/io/InputStream"), .int, .int, .int, (.object "java/lang/SecurityManager"), (.object "java/lang/String"), (.object "java/io/Console"), (.object "java/io/PrintStream"), (.object "java/util/Properties"), (.object "java/lang/String"), (.object "java/lang/ModuleLayer")]
  resolved := Array.replicate 834 none
  statics := none }

def pool18 : Array CpInfo := pool [(1, u "java/lang/Class"), (0, .class_ 1), (0, u "java/lang/Object"), (0, .class_ 3)] 3

/-- java/lang/Class -/
def k18 : Class := { plain "java/lang/Class" (some 0) with
  accessFlags := 49
  interfaces := #[]
  cf := some (fileOf pool18 2 #[] #[] 49 4 #[] #[])
  fields := #[]
  methods := #[]
  instanceTypes := #[]
  staticTypes := #[]
  resolved := Array.replicate 8 none
  statics := none }

def pool19 : Array CpInfo := pool [(1, u "java/lang/Cloneable"), (0, .class_ 1), (0, u "java/lang/Object"), (0, .class_ 3)] 3

/-- java/lang/Cloneable -/
def k19 : Class := { plain "java/lang/Cloneable" (some 0) with
  accessFlags := 1537
  interfaces := #[]
  cf := some (fileOf pool19 2 #[] #[] 1537 4 #[] #[])
  fields := #[]
  methods := #[]
  instanceTypes := #[]
  staticTypes := #[]
  resolved := Array.replicate 8 none
  statics := none }

/-- the primitive byte -/
def k20 : Class := { plain "byte" none with kind := .primitive 'B', accessFlags := 0x411 }
/-- [B -/
def k21 : Class := { plain "[B" (some 0) with kind := .array 20 .byte, interfaces := #[19, 7], accessFlags := 1041 }

/-- the primitive int -/
def k22 : Class := { plain "int" none with kind := .primitive 'I', accessFlags := 0x411 }
/-- [I -/
def k23 : Class := { plain "[I" (some 0) with kind := .array 22 .int, interfaces := #[19, 7], accessFlags := 1041 }

/-- [Ljava/lang/Integer; -/
def k24 : Class := { plain "[Ljava/lang/Integer;" (some 0) with kind := .array 12 (.object "java/lang/Integer"), interfaces := #[19, 7], accessFlags := 1041 }

/-- [Ljava/lang/Object; -/
def k25 : Class := { plain "[Ljava/lang/Object;" (some 0) with kind := .array 0 (.object "java/lang/Object"), interfaces := #[19, 7], accessFlags := 1041, mirror := some 1 }

def heap : Heap := #[{ cls := 13, slots := #[.int 0, .int 127, .ref 2, .null, .int 0], vm := .statics 13 },
  { cls := 18, slots := #[], vm := .mirror 25 },
  { cls := 24, slots := #[.ref 3, .ref 4, .ref 5, .ref 6, .ref 7, .ref 8, .ref 9, .ref 10, .ref 11, .ref 12, .ref 13, .ref 14, .ref 15, .ref 16, .ref 17, .ref 18, .ref 19, .ref 20, .ref 21, .ref 22, .ref 23, .ref 24, .ref 25, .ref 26, .ref 27, .ref 28, .ref 29, .ref 30, .ref 31, .ref 32, .ref 33, .ref 34, .ref 35, .ref 36, .ref 37, .ref 38, .ref 39, .ref 40, .ref 41, .ref 42, .ref 43, .ref 44, .ref 45, .ref 46, .ref 47, .ref 48, .ref 49, .ref 50, .ref 51, .ref 52, .ref 53, .ref 54, .ref 55, .ref 56, .ref 57, .ref 58, .ref 59, .ref 60, .ref 61, .ref 62, .ref 63, .ref 64, .ref 65, .ref 66, .ref 67, .ref 68, .ref 69, .ref 70, .ref 71, .ref 72, .ref 73, .ref 74, .ref 75, .ref 76, .ref 77, .ref 78, .ref 79, .ref 80, .ref 81, .ref 82, .ref 83, .ref 84, .ref 85, .ref 86, .ref 87, .ref 88, .ref 89, .ref 90, .ref 91, .ref 92, .ref 93, .ref 94, .ref 95, .ref 96, .ref 97, .ref 98, .ref 99, .ref 100, .ref 101, .ref 102, .ref 103, .ref 104, .ref 105, .ref 106, .ref 107, .ref 108, .ref 109, .ref 110, .ref 111, .ref 112, .ref 113, .ref 114, .ref 115, .ref 116, .ref 117, .ref 118, .ref 119, .ref 120, .ref 121, .ref 122, .ref 123, .ref 124, .ref 125, .ref 126, .ref 127, .ref 128, .ref 129, .ref 130, .ref 131, .ref 132, .ref 133, .ref 134, .ref 135, .ref 136, .ref 137, .ref 138, .ref 139, .ref 140, .ref 141, .ref 142, .ref 143, .ref 144, .ref 145, .ref 146, .ref 147, .ref 148, .ref 149, .ref 150, .ref 151, .ref 152, .ref 153, .ref 154, .ref 155, .ref 156, .ref 157, .ref 158, .ref 159, .ref 160, .ref 161, .ref 162, .ref 163, .ref 164, .ref 165, .ref 166, .ref 167, .ref 168, .ref 169, .ref 170, .ref 171, .ref 172, .ref 173, .ref 174, .ref 175, .ref 176, .ref 177, .ref 178, .ref 179, .ref 180, .ref 181, .ref 182, .ref 183, .ref 184, .ref 185, .ref 186, .ref 187, .ref 188, .ref 189, .ref 190, .ref 191, .ref 192, .ref 193, .ref 194, .ref 195, .ref 196, .ref 197, .ref 198, .ref 199, .ref 200, .ref 201, .ref 202, .ref 203, .ref 204, .ref 205, .ref 206, .ref 207, .ref 208, .ref 209, .ref 210, .ref 211, .ref 212, .ref 213, .ref 214, .ref 215, .ref 216, .ref 217, .ref 218, .ref 219, .ref 220, .ref 221, .ref 222, .ref 223, .ref 224, .ref 225, .ref 226, .ref 227, .ref 228, .ref 229, .ref 230, .ref 231, .ref 232, .ref 233, .ref 234, .ref 235, .ref 236, .ref 237, .ref 238, .ref 239, .ref 240, .ref 241, .ref 242, .ref 243, .ref 244, .ref 245, .ref 246, .ref 247, .ref 248, .ref 249, .ref 250, .ref 251, .ref 252, .ref 253, .ref 254, .ref 255, .ref 256, .ref 257, .ref 258], vm := .none },
  { cls := 12, slots := #[.int (-128)], vm := .none },
  { cls := 12, slots := #[.int (-127)], vm := .none },
  { cls := 12, slots := #[.int (-126)], vm := .none },
  { cls := 12, slots := #[.int (-125)], vm := .none },
  { cls := 12, slots := #[.int (-124)], vm := .none },
  { cls := 12, slots := #[.int (-123)], vm := .none },
  { cls := 12, slots := #[.int (-122)], vm := .none },
  { cls := 12, slots := #[.int (-121)], vm := .none },
  { cls := 12, slots := #[.int (-120)], vm := .none },
  { cls := 12, slots := #[.int (-119)], vm := .none },
  { cls := 12, slots := #[.int (-118)], vm := .none },
  { cls := 12, slots := #[.int (-117)], vm := .none },
  { cls := 12, slots := #[.int (-116)], vm := .none },
  { cls := 12, slots := #[.int (-115)], vm := .none },
  { cls := 12, slots := #[.int (-114)], vm := .none },
  { cls := 12, slots := #[.int (-113)], vm := .none },
  { cls := 12, slots := #[.int (-112)], vm := .none },
  { cls := 12, slots := #[.int (-111)], vm := .none },
  { cls := 12, slots := #[.int (-110)], vm := .none },
  { cls := 12, slots := #[.int (-109)], vm := .none },
  { cls := 12, slots := #[.int (-108)], vm := .none },
  { cls := 12, slots := #[.int (-107)], vm := .none },
  { cls := 12, slots := #[.int (-106)], vm := .none },
  { cls := 12, slots := #[.int (-105)], vm := .none },
  { cls := 12, slots := #[.int (-104)], vm := .none },
  { cls := 12, slots := #[.int (-103)], vm := .none },
  { cls := 12, slots := #[.int (-102)], vm := .none },
  { cls := 12, slots := #[.int (-101)], vm := .none },
  { cls := 12, slots := #[.int (-100)], vm := .none },
  { cls := 12, slots := #[.int (-99)], vm := .none },
  { cls := 12, slots := #[.int (-98)], vm := .none },
  { cls := 12, slots := #[.int (-97)], vm := .none },
  { cls := 12, slots := #[.int (-96)], vm := .none },
  { cls := 12, slots := #[.int (-95)], vm := .none },
  { cls := 12, slots := #[.int (-94)], vm := .none },
  { cls := 12, slots := #[.int (-93)], vm := .none },
  { cls := 12, slots := #[.int (-92)], vm := .none },
  { cls := 12, slots := #[.int (-91)], vm := .none },
  { cls := 12, slots := #[.int (-90)], vm := .none },
  { cls := 12, slots := #[.int (-89)], vm := .none },
  { cls := 12, slots := #[.int (-88)], vm := .none },
  { cls := 12, slots := #[.int (-87)], vm := .none },
  { cls := 12, slots := #[.int (-86)], vm := .none },
  { cls := 12, slots := #[.int (-85)], vm := .none },
  { cls := 12, slots := #[.int (-84)], vm := .none },
  { cls := 12, slots := #[.int (-83)], vm := .none },
  { cls := 12, slots := #[.int (-82)], vm := .none },
  { cls := 12, slots := #[.int (-81)], vm := .none },
  { cls := 12, slots := #[.int (-80)], vm := .none },
  { cls := 12, slots := #[.int (-79)], vm := .none },
  { cls := 12, slots := #[.int (-78)], vm := .none },
  { cls := 12, slots := #[.int (-77)], vm := .none },
  { cls := 12, slots := #[.int (-76)], vm := .none },
  { cls := 12, slots := #[.int (-75)], vm := .none },
  { cls := 12, slots := #[.int (-74)], vm := .none },
  { cls := 12, slots := #[.int (-73)], vm := .none },
  { cls := 12, slots := #[.int (-72)], vm := .none },
  { cls := 12, slots := #[.int (-71)], vm := .none },
  { cls := 12, slots := #[.int (-70)], vm := .none },
  { cls := 12, slots := #[.int (-69)], vm := .none },
  { cls := 12, slots := #[.int (-68)], vm := .none },
  { cls := 12, slots := #[.int (-67)], vm := .none },
  { cls := 12, slots := #[.int (-66)], vm := .none },
  { cls := 12, slots := #[.int (-65)], vm := .none },
  { cls := 12, slots := #[.int (-64)], vm := .none },
  { cls := 12, slots := #[.int (-63)], vm := .none },
  { cls := 12, slots := #[.int (-62)], vm := .none },
  { cls := 12, slots := #[.int (-61)], vm := .none },
  { cls := 12, slots := #[.int (-60)], vm := .none },
  { cls := 12, slots := #[.int (-59)], vm := .none },
  { cls := 12, slots := #[.int (-58)], vm := .none },
  { cls := 12, slots := #[.int (-57)], vm := .none },
  { cls := 12, slots := #[.int (-56)], vm := .none },
  { cls := 12, slots := #[.int (-55)], vm := .none },
  { cls := 12, slots := #[.int (-54)], vm := .none },
  { cls := 12, slots := #[.int (-53)], vm := .none },
  { cls := 12, slots := #[.int (-52)], vm := .none },
  { cls := 12, slots := #[.int (-51)], vm := .none },
  { cls := 12, slots := #[.int (-50)], vm := .none },
  { cls := 12, slots := #[.int (-49)], vm := .none },
  { cls := 12, slots := #[.int (-48)], vm := .none },
  { cls := 12, slots := #[.int (-47)], vm := .none },
  { cls := 12, slots := #[.int (-46)], vm := .none },
  { cls := 12, slots := #[.int (-45)], vm := .none },
  { cls := 12, slots := #[.int (-44)], vm := .none },
  { cls := 12, slots := #[.int (-43)], vm := .none },
  { cls := 12, slots := #[.int (-42)], vm := .none },
  { cls := 12, slots := #[.int (-41)], vm := .none },
  { cls := 12, slots := #[.int (-40)], vm := .none },
  { cls := 12, slots := #[.int (-39)], vm := .none },
  { cls := 12, slots := #[.int (-38)], vm := .none },
  { cls := 12, slots := #[.int (-37)], vm := .none },
  { cls := 12, slots := #[.int (-36)], vm := .none },
  { cls := 12, slots := #[.int (-35)], vm := .none },
  { cls := 12, slots := #[.int (-34)], vm := .none },
  { cls := 12, slots := #[.int (-33)], vm := .none },
  { cls := 12, slots := #[.int (-32)], vm := .none },
  { cls := 12, slots := #[.int (-31)], vm := .none },
  { cls := 12, slots := #[.int (-30)], vm := .none },
  { cls := 12, slots := #[.int (-29)], vm := .none },
  { cls := 12, slots := #[.int (-28)], vm := .none },
  { cls := 12, slots := #[.int (-27)], vm := .none },
  { cls := 12, slots := #[.int (-26)], vm := .none },
  { cls := 12, slots := #[.int (-25)], vm := .none },
  { cls := 12, slots := #[.int (-24)], vm := .none },
  { cls := 12, slots := #[.int (-23)], vm := .none },
  { cls := 12, slots := #[.int (-22)], vm := .none },
  { cls := 12, slots := #[.int (-21)], vm := .none },
  { cls := 12, slots := #[.int (-20)], vm := .none },
  { cls := 12, slots := #[.int (-19)], vm := .none },
  { cls := 12, slots := #[.int (-18)], vm := .none },
  { cls := 12, slots := #[.int (-17)], vm := .none },
  { cls := 12, slots := #[.int (-16)], vm := .none },
  { cls := 12, slots := #[.int (-15)], vm := .none },
  { cls := 12, slots := #[.int (-14)], vm := .none },
  { cls := 12, slots := #[.int (-13)], vm := .none },
  { cls := 12, slots := #[.int (-12)], vm := .none },
  { cls := 12, slots := #[.int (-11)], vm := .none },
  { cls := 12, slots := #[.int (-10)], vm := .none },
  { cls := 12, slots := #[.int (-9)], vm := .none },
  { cls := 12, slots := #[.int (-8)], vm := .none },
  { cls := 12, slots := #[.int (-7)], vm := .none },
  { cls := 12, slots := #[.int (-6)], vm := .none },
  { cls := 12, slots := #[.int (-5)], vm := .none },
  { cls := 12, slots := #[.int (-4)], vm := .none },
  { cls := 12, slots := #[.int (-3)], vm := .none },
  { cls := 12, slots := #[.int (-2)], vm := .none },
  { cls := 12, slots := #[.int (-1)], vm := .none },
  { cls := 12, slots := #[.int (0)], vm := .none },
  { cls := 12, slots := #[.int (1)], vm := .none },
  { cls := 12, slots := #[.int (2)], vm := .none },
  { cls := 12, slots := #[.int (3)], vm := .none },
  { cls := 12, slots := #[.int (4)], vm := .none },
  { cls := 12, slots := #[.int (5)], vm := .none },
  { cls := 12, slots := #[.int (6)], vm := .none },
  { cls := 12, slots := #[.int (7)], vm := .none },
  { cls := 12, slots := #[.int (8)], vm := .none },
  { cls := 12, slots := #[.int (9)], vm := .none },
  { cls := 12, slots := #[.int (10)], vm := .none },
  { cls := 12, slots := #[.int (11)], vm := .none },
  { cls := 12, slots := #[.int (12)], vm := .none },
  { cls := 12, slots := #[.int (13)], vm := .none },
  { cls := 12, slots := #[.int (14)], vm := .none },
  { cls := 12, slots := #[.int (15)], vm := .none },
  { cls := 12, slots := #[.int (16)], vm := .none },
  { cls := 12, slots := #[.int (17)], vm := .none },
  { cls := 12, slots := #[.int (18)], vm := .none },
  { cls := 12, slots := #[.int (19)], vm := .none },
  { cls := 12, slots := #[.int (20)], vm := .none },
  { cls := 12, slots := #[.int (21)], vm := .none },
  { cls := 12, slots := #[.int (22)], vm := .none },
  { cls := 12, slots := #[.int (23)], vm := .none },
  { cls := 12, slots := #[.int (24)], vm := .none },
  { cls := 12, slots := #[.int (25)], vm := .none },
  { cls := 12, slots := #[.int (26)], vm := .none },
  { cls := 12, slots := #[.int (27)], vm := .none },
  { cls := 12, slots := #[.int (28)], vm := .none },
  { cls := 12, slots := #[.int (29)], vm := .none },
  { cls := 12, slots := #[.int (30)], vm := .none },
  { cls := 12, slots := #[.int (31)], vm := .none },
  { cls := 12, slots := #[.int (32)], vm := .none },
  { cls := 12, slots := #[.int (33)], vm := .none },
  { cls := 12, slots := #[.int (34)], vm := .none },
  { cls := 12, slots := #[.int (35)], vm := .none },
  { cls := 12, slots := #[.int (36)], vm := .none },
  { cls := 12, slots := #[.int (37)], vm := .none },
  { cls := 12, slots := #[.int (38)], vm := .none },
  { cls := 12, slots := #[.int (39)], vm := .none },
  { cls := 12, slots := #[.int (40)], vm := .none },
  { cls := 12, slots := #[.int (41)], vm := .none },
  { cls := 12, slots := #[.int (42)], vm := .none },
  { cls := 12, slots := #[.int (43)], vm := .none },
  { cls := 12, slots := #[.int (44)], vm := .none },
  { cls := 12, slots := #[.int (45)], vm := .none },
  { cls := 12, slots := #[.int (46)], vm := .none },
  { cls := 12, slots := #[.int (47)], vm := .none },
  { cls := 12, slots := #[.int (48)], vm := .none },
  { cls := 12, slots := #[.int (49)], vm := .none },
  { cls := 12, slots := #[.int (50)], vm := .none },
  { cls := 12, slots := #[.int (51)], vm := .none },
  { cls := 12, slots := #[.int (52)], vm := .none },
  { cls := 12, slots := #[.int (53)], vm := .none },
  { cls := 12, slots := #[.int (54)], vm := .none },
  { cls := 12, slots := #[.int (55)], vm := .none },
  { cls := 12, slots := #[.int (56)], vm := .none },
  { cls := 12, slots := #[.int (57)], vm := .none },
  { cls := 12, slots := #[.int (58)], vm := .none },
  { cls := 12, slots := #[.int (59)], vm := .none },
  { cls := 12, slots := #[.int (60)], vm := .none },
  { cls := 12, slots := #[.int (61)], vm := .none },
  { cls := 12, slots := #[.int (62)], vm := .none },
  { cls := 12, slots := #[.int (63)], vm := .none },
  { cls := 12, slots := #[.int (64)], vm := .none },
  { cls := 12, slots := #[.int (65)], vm := .none },
  { cls := 12, slots := #[.int (66)], vm := .none },
  { cls := 12, slots := #[.int (67)], vm := .none },
  { cls := 12, slots := #[.int (68)], vm := .none },
  { cls := 12, slots := #[.int (69)], vm := .none },
  { cls := 12, slots := #[.int (70)], vm := .none },
  { cls := 12, slots := #[.int (71)], vm := .none },
  { cls := 12, slots := #[.int (72)], vm := .none },
  { cls := 12, slots := #[.int (73)], vm := .none },
  { cls := 12, slots := #[.int (74)], vm := .none },
  { cls := 12, slots := #[.int (75)], vm := .none },
  { cls := 12, slots := #[.int (76)], vm := .none },
  { cls := 12, slots := #[.int (77)], vm := .none },
  { cls := 12, slots := #[.int (78)], vm := .none },
  { cls := 12, slots := #[.int (79)], vm := .none },
  { cls := 12, slots := #[.int (80)], vm := .none },
  { cls := 12, slots := #[.int (81)], vm := .none },
  { cls := 12, slots := #[.int (82)], vm := .none },
  { cls := 12, slots := #[.int (83)], vm := .none },
  { cls := 12, slots := #[.int (84)], vm := .none },
  { cls := 12, slots := #[.int (85)], vm := .none },
  { cls := 12, slots := #[.int (86)], vm := .none },
  { cls := 12, slots := #[.int (87)], vm := .none },
  { cls := 12, slots := #[.int (88)], vm := .none },
  { cls := 12, slots := #[.int (89)], vm := .none },
  { cls := 12, slots := #[.int (90)], vm := .none },
  { cls := 12, slots := #[.int (91)], vm := .none },
  { cls := 12, slots := #[.int (92)], vm := .none },
  { cls := 12, slots := #[.int (93)], vm := .none },
  { cls := 12, slots := #[.int (94)], vm := .none },
  { cls := 12, slots := #[.int (95)], vm := .none },
  { cls := 12, slots := #[.int (96)], vm := .none },
  { cls := 12, slots := #[.int (97)], vm := .none },
  { cls := 12, slots := #[.int (98)], vm := .none },
  { cls := 12, slots := #[.int (99)], vm := .none },
  { cls := 12, slots := #[.int (100)], vm := .none },
  { cls := 12, slots := #[.int (101)], vm := .none },
  { cls := 12, slots := #[.int (102)], vm := .none },
  { cls := 12, slots := #[.int (103)], vm := .none },
  { cls := 12, slots := #[.int (104)], vm := .none },
  { cls := 12, slots := #[.int (105)], vm := .none },
  { cls := 12, slots := #[.int (106)], vm := .none },
  { cls := 12, slots := #[.int (107)], vm := .none },
  { cls := 12, slots := #[.int (108)], vm := .none },
  { cls := 12, slots := #[.int (109)], vm := .none },
  { cls := 12, slots := #[.int (110)], vm := .none },
  { cls := 12, slots := #[.int (111)], vm := .none },
  { cls := 12, slots := #[.int (112)], vm := .none },
  { cls := 12, slots := #[.int (113)], vm := .none },
  { cls := 12, slots := #[.int (114)], vm := .none },
  { cls := 12, slots := #[.int (115)], vm := .none },
  { cls := 12, slots := #[.int (116)], vm := .none },
  { cls := 12, slots := #[.int (117)], vm := .none },
  { cls := 12, slots := #[.int (118)], vm := .none },
  { cls := 12, slots := #[.int (119)], vm := .none },
  { cls := 12, slots := #[.int (120)], vm := .none },
  { cls := 12, slots := #[.int (121)], vm := .none },
  { cls := 12, slots := #[.int (122)], vm := .none },
  { cls := 12, slots := #[.int (123)], vm := .none },
  { cls := 12, slots := #[.int (124)], vm := .none },
  { cls := 12, slots := #[.int (125)], vm := .none },
  { cls := 12, slots := #[.int (126)], vm := .none },
  { cls := 12, slots := #[.int (127)], vm := .none }]
def classes : Array Class := #[k0, k1, k2, k3, k4, k5, k6, k7, k8, k9, k10, k11, k12, k13, k14, k15, k16, k17, k18, k19, k20, k21, k22, k23, k24, k25]
def interned : List (Array UInt16 × Addr) := []
def slotsUsed : Nat := 517
def theMethod : MethodId := ⟨1, 2⟩
def args0 : Array Value := #[.int 5, .int 6, .int 7, .int 8, .int 9, .int 3]
def aboutOver (below : List Frame) : State where
  vm := { classes := classes, interned := interned.toArray }
  heap := heap
  slotsUsed := slotsUsed
  threads := #[{ frames := .invoking theMethod args0 :: below }]
def below0 : List Frame := [.native { method := ⟨0, 0⟩, args := #[] }]
def about1 : State := aboutOver below0
def p0 : Program := .bare "" "" ""
def e0 : Env := launch0.env 0 0 0
theorem w_frames : about1.frames = Frame.invoking theMethod args0 :: below0 := rfl
set_option maxRecDepth 65536 in
theorem w_args : argsFit about1.vm theMethod args0 = true := by decide +kernel
set_option maxRecDepth 65536 in
theorem w_heap : heapFits about1 = true := by decide +kernel
set_option maxRecDepth 65536 in
theorem w_runnable : about1.curStatus? = some .runnable := by decide +kernel
set_option maxRecDepth 65536 in
theorem w_alone : about1.alone = true := by decide +kernel
set_option maxRecDepth 65536 in
theorem w_named : about1.methodNamed? x = some theMethod := by decide +kernel
set_option maxRecDepth 65536 in
theorem w_hears : about1.hears theMethod below0 = true := by decide +kernel
set_option maxRecDepth 65536 in
theorem w_ripe : about1.ripe theMethod args0 below0 = true := by decide +kernel
theorem w_running : about1.status = .running := rfl
set_option maxRecDepth 65536 in
theorem w_room : about1.hasRoom e0.platform room_1 = true :=
  launch0.hasRoom_least _ room_1 (by decide +kernel) (by decide +kernel) (by decide +kernel) (by decide +kernel) (by decide +kernel) (by decide +kernel)
theorem allAtoms_all (ts : List Jvm.Cond) (a : Array Jvm.Value) (st : Jvm.State) : (allAtoms ts).before a st = ts.all (fun c => c.before a st) := by
  induction ts with
  | nil => rfl
  | cons c t ih =>
    show (Jvm.Cond.and c (allAtoms t)).before a st = _
    rw [Jvm.Cond.before_and, ih, List.all_cons]
def words1 : List Jvm.Cond := Jvm.Cond.code x code maxLocals ret :: tables_1
/-- a 'code' word, met by the world's own term for the bytes: nothing is compared byte by byte -/
theorem code_word {y : MethodName} {bytes : ByteArray} {mx : Nat} {rt : Option FieldType} {a : Array Value} {s : State} {m : MethodId} {meth : Method} {c : Code} (h1 : s.methodNamed? y = some m) (h2 : s.vm.method? m = some meth) (h3 : meth.code = some c) (h4 : c.code = bytes)
    (h5 : (c.maxLocals == mx && c.exceptionTable.isEmpty && decide (c.maxStack ≤ mostOperands) && decide (meth.sig.returnType = rt) && !meth.locks && decide (parseMethodDescriptor y.desc = some meth.sig)) = true) : (Jvm.Cond.code y bytes mx rt).before a s = true := by
  simp only [Bool.and_eq_true, beq_iff_eq, Bool.not_eq_true', decide_eq_true_eq] at h5
  obtain ⟨⟨⟨⟨⟨g1, g2⟩, g3⟩, g4⟩, g5⟩, g6⟩ := h5
  simp [Cond.before, Cond.holds, Cond.value, h1, h2, h3, h4, g1, g2, g3, g4, g5, g6]
def isCode : Jvm.Cond → Bool
  | .code _ _ _ _ => true
  | _ => false
theorem all_split {L : List Jvm.Cond} {P : Jvm.Cond → Bool} (h1 : L.all (fun c => isCode c || P c) = true) (h2 : ∀ c ∈ L.filter isCode, P c = true) : L.all P = true := by
  refine List.all_eq_true.mpr fun c hc => ?_
  have h := List.all_eq_true.mp h1 c hc
  rcases Bool.eq_false_or_eq_true (isCode c) with hi | hi
  · exact h2 c (List.mem_filter.mpr ⟨hc, hi⟩)
  · simpa [hi] using h
set_option maxRecDepth 65536 in
theorem w_c0 : (Jvm.Cond.code x code maxLocals ret).before args0 about1 = true := code_word (m := ⟨1, 2⟩) (meth := k1m2) (c := k1c2) (by decide +kernel) rfl rfl rfl (by decide +kernel)
set_option maxRecDepth 65536 in
theorem w_c1 : (Jvm.Cond.code ({ cls := "com/example/brisk_tableau/brisktableau/tableau/SharedList", name := "<init>", desc := "()V" } : Jvm.MethodName) prog_112_method_1_code (1 : Nat) (Option.none : Option Jvm.ClassFile.FieldType)).before args0 about1 = true := code_word (m := ⟨3, 0⟩) (meth := k3m0) (c := k3c0) (by decide +kernel) rfl rfl rfl (by decide +kernel)
set_option maxRecDepth 65536 in
theorem w_c2 : (Jvm.Cond.code ({ cls := "com/example/brisk_tableau/brisktableau/tableau/SharedList$Store", name := "<init>", desc := "([Ljava/lang/Object;I)V" } : Jvm.MethodName) prog_114_method_1_code (3 : Nat) (Option.none : Option Jvm.ClassFile.FieldType)).before args0 about1 = true := code_word (m := ⟨4, 0⟩) (meth := k4m0) (c := k4c0) (by decide +kernel) rfl rfl rfl (by decide +kernel)
set_option maxRecDepth 65536 in
theorem w_c3 : (Jvm.Cond.code ({ cls := "java/lang/Object", name := "<init>", desc := "()V" } : Jvm.MethodName) object_method_1_code (1 : Nat) (Option.none : Option Jvm.ClassFile.FieldType)).before args0 about1 = true := code_word (m := ⟨0, 0⟩) (meth := k0m0) (c := k0c0) (by decide +kernel) rfl rfl rfl (by decide +kernel)
set_option maxRecDepth 65536 in
theorem w_c4 : (Jvm.Cond.code ({ cls := "com/example/brisk_tableau/brisktableau/tableau/SharedList", name := "<init>", desc := "(Lcom/example/brisk_tableau/brisktableau/tableau/SharedList$Store;I)V" } : Jvm.MethodName) prog_112_method_2_code (3 : Nat) (Option.none : Option Jvm.ClassFile.FieldType)).before args0 about1 = true := code_word (m := ⟨3, 1⟩) (meth := k3m1) (c := k3c1) (by decide +kernel) rfl rfl rfl (by decide +kernel)
set_option maxRecDepth 65536 in
theorem w_c5 : (Jvm.Cond.code ({ cls := "com/example/brisk_tableau/brisktableau/tableau/SharedList", name := "copy", desc := "()Lcom/example/brisk_tableau/brisktableau/tableau/SharedList;" } : Jvm.MethodName) prog_112_method_3_code (1 : Nat) (Option.some (Jvm.ClassFile.FieldType.object "com/example/brisk_tableau/brisktableau/tableau/SharedList"))).before args0 about1 = true := code_word (m := ⟨3, 2⟩) (meth := k3m2) (c := k3c2) (by decide +kernel) rfl rfl rfl (by decide +kernel)
set_option maxRecDepth 65536 in
theorem w_c6 : (Jvm.Cond.code ({ cls := "com/example/brisk_tableau/brisktableau/tableau/SharedListCopyPinLaw", name := "holds", desc := "(Lcom/example/brisk_tableau/brisktableau/tableau/SharedList;IIIIIZ)Z" } : Jvm.MethodName) method_2_code (9 : Nat) (Option.some Jvm.ClassFile.FieldType.boolean)).before args0 about1 = true := code_word (m := ⟨1, 1⟩) (meth := k1m1) (c := k1c1) (by decide +kernel) rfl rfl rfl (by decide +kernel)
set_option maxRecDepth 65536 in
theorem w_c7 : (Jvm.Cond.code ({ cls := "com/example/brisk_tableau/brisktableau/tableau/SharedList", name := "size", desc := "()I" } : Jvm.MethodName) prog_112_method_4_code (1 : Nat) (Option.some Jvm.ClassFile.FieldType.int)).before args0 about1 = true := code_word (m := ⟨3, 3⟩) (meth := k3m3) (c := k3c3) (by decide +kernel) rfl rfl rfl (by decide +kernel)
set_option maxRecDepth 65536 in
theorem w_c8 : (Jvm.Cond.code ({ cls := "com/example/brisk_tableau/brisktableau/tableau/SharedList", name := "iterator", desc := "()Ljava/util/Iterator;" } : Jvm.MethodName) prog_112_method_6_code (3 : Nat) (Option.some (Jvm.ClassFile.FieldType.object "java/util/Iterator"))).before args0 about1 = true := code_word (m := ⟨3, 5⟩) (meth := k3m5) (c := k3c5) (by decide +kernel) rfl rfl rfl (by decide +kernel)
set_option maxRecDepth 65536 in
theorem w_c9 : (Jvm.Cond.code ({ cls := "com/example/brisk_tableau/brisktableau/tableau/SharedList$1", name := "<init>", desc := "(Lcom/example/brisk_tableau/brisktableau/tableau/SharedList;I[Ljava/lang/Object;)V" } : Jvm.MethodName) prog_113_method_1_code (4 : Nat) (Option.none : Option Jvm.ClassFile.FieldType)).before args0 about1 = true := code_word (m := ⟨6, 0⟩) (meth := k6m0) (c := k6c0) (by decide +kernel) rfl rfl rfl (by decide +kernel)
set_option maxRecDepth 65536 in
theorem w_c10 : (Jvm.Cond.code ({ cls := "com/example/brisk_tableau/brisktableau/tableau/SharedList$1", name := "hasNext", desc := "()Z" } : Jvm.MethodName) prog_113_method_2_code (1 : Nat) (Option.some Jvm.ClassFile.FieldType.boolean)).before args0 about1 = true := code_word (m := ⟨6, 1⟩) (meth := k6m1) (c := k6c1) (by decide +kernel) rfl rfl rfl (by decide +kernel)
set_option maxRecDepth 65536 in
theorem w_c11 : (Jvm.Cond.code ({ cls := "java/lang/Integer", name := "valueOf", desc := "(I)Ljava/lang/Integer;" } : Jvm.MethodName) jdk_33_method_22_code (1 : Nat) (Option.some (Jvm.ClassFile.FieldType.object "java/lang/Integer"))).before args0 about1 = true := code_word (m := ⟨12, 0⟩) (meth := k12m0) (c := k12c0) (by decide +kernel) rfl rfl rfl (by decide +kernel)
set_option maxRecDepth 65536 in
theorem w_c12 : (Jvm.Cond.code ({ cls := "com/example/brisk_tableau/brisktableau/tableau/SharedList", name := "add", desc := "(Ljava/lang/Object;)V" } : Jvm.MethodName) prog_112_method_5_code (2 : Nat) (Option.none : Option Jvm.ClassFile.FieldType)).before args0 about1 = true := code_word (m := ⟨3, 4⟩) (meth := k3m4) (c := k3c4) (by decide +kernel) rfl rfl rfl (by decide +kernel)
set_option maxRecDepth 65536 in
theorem w_c13 : (Jvm.Cond.code ({ cls := "java/util/Objects", name := "requireNonNull", desc := "(Ljava/lang/Object;)Ljava/lang/Object;" } : Jvm.MethodName) jdk_31_method_10_code (1 : Nat) (Option.some (Jvm.ClassFile.FieldType.object "java/lang/Object"))).before args0 about1 = true := code_word (m := ⟨14, 1⟩) (meth := k14m1) (c := k14c1) (by decide +kernel) rfl rfl rfl (by decide +kernel)
set_option maxRecDepth 65536 in
theorem w_c14 : (Jvm.Cond.code ({ cls := "java/lang/Math", name := "max", desc := "(II)I" } : Jvm.MethodName) jdk_29_method_65_code (2 : Nat) (Option.some Jvm.ClassFile.FieldType.int)).before args0 about1 = true := code_word (m := ⟨15, 1⟩) (meth := k15m1) (c := k15c1) (by decide +kernel) rfl rfl rfl (by decide +kernel)
set_option maxRecDepth 65536 in
theorem w_c15 : (Jvm.Cond.code ({ cls := "java/util/Arrays", name := "copyOf", desc := "([Ljava/lang/Object;I)[Ljava/lang/Object;" } : Jvm.MethodName) jdk_65_method_119_code (2 : Nat) (Option.some (Jvm.ClassFile.FieldType.array (Jvm.ClassFile.FieldType.object "java/lang/Object")))).before args0 about1 = true := code_word (m := ⟨16, 1⟩) (meth := k16m1) (c := k16c1) (by decide +kernel) rfl rfl rfl (by decide +kernel)
set_option maxRecDepth 65536 in
theorem w_c16 : (Jvm.Cond.code ({ cls := "java/util/Arrays", name := "copyOf", desc := "([Ljava/lang/Object;ILjava/lang/Class;)[Ljava/lang/Object;" } : Jvm.MethodName) jdk_65_method_120_code (4 : Nat) (Option.some (Jvm.ClassFile.FieldType.array (Jvm.ClassFile.FieldType.object "java/lang/Object")))).before args0 about1 = true := code_word (m := ⟨16, 2⟩) (meth := k16m2) (c := k16c2) (by decide +kernel) rfl rfl rfl (by decide +kernel)
set_option maxRecDepth 65536 in
theorem w_c17 : (Jvm.Cond.code ({ cls := "java/lang/Math", name := "min", desc := "(II)I" } : Jvm.MethodName) jdk_29_method_69_code (2 : Nat) (Option.some Jvm.ClassFile.FieldType.int)).before args0 about1 = true := code_word (m := ⟨15, 2⟩) (meth := k15m2) (c := k15c2) (by decide +kernel) rfl rfl rfl (by decide +kernel)
set_option maxRecDepth 65536 in
theorem w_c18 : (Jvm.Cond.code ({ cls := "com/example/brisk_tableau/brisktableau/tableau/SharedList$1", name := "next", desc := "()Ljava/lang/Object;" } : Jvm.MethodName) prog_113_method_3_code (1 : Nat) (Option.some (Jvm.ClassFile.FieldType.object "java/lang/Object"))).before args0 about1 = true := code_word (m := ⟨6, 2⟩) (meth := k6m2) (c := k6c2) (by decide +kernel) rfl rfl rfl (by decide +kernel)
set_option maxRecDepth 65536 in
theorem w_c19 : (Jvm.Cond.code ({ cls := "java/lang/Integer", name := "intValue", desc := "()I" } : Jvm.MethodName) jdk_33_method_27_code (1 : Nat) (Option.some Jvm.ClassFile.FieldType.int)).before args0 about1 = true := code_word (m := ⟨12, 2⟩) (meth := k12m2) (c := k12c2) (by decide +kernel) rfl rfl rfl (by decide +kernel)
set_option maxRecDepth 65536 in
theorem w_c20 : (Jvm.Cond.code ({ cls := "java/lang/Integer", name := "<init>", desc := "(I)V" } : Jvm.MethodName) jdk_33_method_23_code (2 : Nat) (Option.none : Option Jvm.ClassFile.FieldType)).before args0 about1 = true := code_word (m := ⟨12, 1⟩) (meth := k12m1) (c := k12c1) (by decide +kernel) rfl rfl rfl (by decide +kernel)
set_option maxRecDepth 65536 in
theorem w_c21 : (Jvm.Cond.code ({ cls := "java/lang/Number", name := "<init>", desc := "()V" } : Jvm.MethodName) jdk_18_method_1_code (1 : Nat) (Option.none : Option Jvm.ClassFile.FieldType)).before args0 about1 = true := code_word (m := ⟨8, 0⟩) (meth := k8m0) (c := k8c0) (by decide +kernel) rfl rfl rfl (by decide +kernel)
def codes1 : List Jvm.Cond := [Jvm.Cond.code x code maxLocals ret, Jvm.Cond.code ({ cls := "com/example/brisk_tableau/brisktableau/tableau/SharedList", name := "<init>", desc := "()V" } : Jvm.MethodName) prog_112_method_1_code (1 : Nat) (Option.none : Option Jvm.ClassFile.FieldType), Jvm.Cond.code ({ cls := "com/example/brisk_tableau/brisktableau/tableau/SharedList$Store", name := "<init>", desc := "([Ljava/lang/Object;I)V" } : Jvm.MethodName) prog_114_method_1_code (3 : Nat) (Option.none : Option Jvm.ClassFile.FieldType), Jvm.Cond.code ({ cls := "java/lang/Object", name := "<init>", desc := "()V" } : Jvm.MethodName) object_method_1_code (1 : Nat) (Option.none : Option Jvm.ClassFile.FieldType), Jvm.Cond.code ({ cls := "com/example/brisk_tableau/brisktableau/tableau/SharedList", name := "<init>", desc := "(Lcom/example/brisk_tableau/brisktableau/tableau/SharedList$Store;I)V" } : Jvm.MethodName) prog_112_method_2_code (3 : Nat) (Option.none : Option Jvm.ClassFile.FieldType), Jvm.Cond.code ({ cls := "com/example/brisk_tableau/brisktableau/tableau/SharedList", name := "copy", desc := "()Lcom/example/brisk_tableau/brisktableau/tableau/SharedList;" } : Jvm.MethodName) prog_112_method_3_code (1 : Nat) (Option.some (Jvm.ClassFile.FieldType.object "com/example/brisk_tableau/brisktableau/tableau/SharedList")), Jvm.Cond.code ({ cls := "com/example/brisk_tableau/brisktableau/tableau/SharedListCopyPinLaw", name := "holds", desc := "(Lcom/example/brisk_tableau/brisktableau/tableau/SharedList;IIIIIZ)Z" } : Jvm.MethodName) method_2_code (9 : Nat) (Option.some Jvm.ClassFile.FieldType.boolean), Jvm.Cond.code ({ cls := "com/example/brisk_tableau/brisktableau/tableau/SharedList", name := "size", desc := "()I" } : Jvm.MethodName) prog_112_method_4_code (1 : Nat) (Option.some Jvm.ClassFile.FieldType.int), Jvm.Cond.code ({ cls := "com/example/brisk_tableau/brisktableau/tableau/SharedList", name := "iterator", desc := "()Ljava/util/Iterator;" } : Jvm.MethodName) prog_112_method_6_code (3 : Nat) (Option.some (Jvm.ClassFile.FieldType.object "java/util/Iterator")), Jvm.Cond.code ({ cls := "com/example/brisk_tableau/brisktableau/tableau/SharedList$1", name := "<init>", desc := "(Lcom/example/brisk_tableau/brisktableau/tableau/SharedList;I[Ljava/lang/Object;)V" } : Jvm.MethodName) prog_113_method_1_code (4 : Nat) (Option.none : Option Jvm.ClassFile.FieldType), Jvm.Cond.code ({ cls := "com/example/brisk_tableau/brisktableau/tableau/SharedList$1", name := "hasNext", desc := "()Z" } : Jvm.MethodName) prog_113_method_2_code (1 : Nat) (Option.some Jvm.ClassFile.FieldType.boolean), Jvm.Cond.code ({ cls := "java/lang/Integer", name := "valueOf", desc := "(I)Ljava/lang/Integer;" } : Jvm.MethodName) jdk_33_method_22_code (1 : Nat) (Option.some (Jvm.ClassFile.FieldType.object "java/lang/Integer")), Jvm.Cond.code ({ cls := "com/example/brisk_tableau/brisktableau/tableau/SharedList", name := "add", desc := "(Ljava/lang/Object;)V" } : Jvm.MethodName) prog_112_method_5_code (2 : Nat) (Option.none : Option Jvm.ClassFile.FieldType), Jvm.Cond.code ({ cls := "java/util/Objects", name := "requireNonNull", desc := "(Ljava/lang/Object;)Ljava/lang/Object;" } : Jvm.MethodName) jdk_31_method_10_code (1 : Nat) (Option.some (Jvm.ClassFile.FieldType.object "java/lang/Object")), Jvm.Cond.code ({ cls := "java/lang/Math", name := "max", desc := "(II)I" } : Jvm.MethodName) jdk_29_method_65_code (2 : Nat) (Option.some Jvm.ClassFile.FieldType.int), Jvm.Cond.code ({ cls := "java/util/Arrays", name := "copyOf", desc := "([Ljava/lang/Object;I)[Ljava/lang/Object;" } : Jvm.MethodName) jdk_65_method_119_code (2 : Nat) (Option.some (Jvm.ClassFile.FieldType.array (Jvm.ClassFile.FieldType.object "java/lang/Object"))), Jvm.Cond.code ({ cls := "java/util/Arrays", name := "copyOf", desc := "([Ljava/lang/Object;ILjava/lang/Class;)[Ljava/lang/Object;" } : Jvm.MethodName) jdk_65_method_120_code (4 : Nat) (Option.some (Jvm.ClassFile.FieldType.array (Jvm.ClassFile.FieldType.object "java/lang/Object"))), Jvm.Cond.code ({ cls := "java/lang/Math", name := "min", desc := "(II)I" } : Jvm.MethodName) jdk_29_method_69_code (2 : Nat) (Option.some Jvm.ClassFile.FieldType.int), Jvm.Cond.code ({ cls := "com/example/brisk_tableau/brisktableau/tableau/SharedList$1", name := "next", desc := "()Ljava/lang/Object;" } : Jvm.MethodName) prog_113_method_3_code (1 : Nat) (Option.some (Jvm.ClassFile.FieldType.object "java/lang/Object")), Jvm.Cond.code ({ cls := "java/lang/Integer", name := "intValue", desc := "()I" } : Jvm.MethodName) jdk_33_method_27_code (1 : Nat) (Option.some Jvm.ClassFile.FieldType.int), Jvm.Cond.code ({ cls := "java/lang/Integer", name := "<init>", desc := "(I)V" } : Jvm.MethodName) jdk_33_method_23_code (2 : Nat) (Option.none : Option Jvm.ClassFile.FieldType), Jvm.Cond.code ({ cls := "java/lang/Number", name := "<init>", desc := "()V" } : Jvm.MethodName) jdk_18_method_1_code (1 : Nat) (Option.none : Option Jvm.ClassFile.FieldType)]
set_option maxRecDepth 65536 in
theorem codes_eq : words1.filter isCode = codes1 := rfl
theorem w_codes : ∀ c ∈ words1.filter isCode, c.before args0 about1 = true := by
  rw [codes_eq]
  intro c hc
  simp only [codes1, List.mem_cons, List.not_mem_nil, or_false] at hc
  rcases hc with rfl | rfl | rfl | rfl | rfl | rfl | rfl | rfl | rfl | rfl | rfl | rfl | rfl | rfl | rfl | rfl | rfl | rfl | rfl | rfl | rfl | rfl
  · exact w_c0
  · exact w_c1
  · exact w_c2
  · exact w_c3
  · exact w_c4
  · exact w_c5
  · exact w_c6
  · exact w_c7
  · exact w_c8
  · exact w_c9
  · exact w_c10
  · exact w_c11
  · exact w_c12
  · exact w_c13
  · exact w_c14
  · exact w_c15
  · exact w_c16
  · exact w_c17
  · exact w_c18
  · exact w_c19
  · exact w_c20
  · exact w_c21
set_option maxRecDepth 65536 in
theorem w_t1 : (words1.take 24).all (fun c => isCode c || c.before args0 about1) = true := by decide +kernel
set_option maxRecDepth 65536 in
theorem w_t2 : ((words1.drop 24).take 24).all (fun c => isCode c || c.before args0 about1) = true := by decide +kernel
set_option maxRecDepth 65536 in
theorem w_t3 : (((words1.drop 24).drop 24).take 24).all (fun c => isCode c || c.before args0 about1) = true := by decide +kernel
set_option maxRecDepth 65536 in
theorem w_t4 : ((((words1.drop 24).drop 24).drop 24).take 24).all (fun c => isCode c || c.before args0 about1) = true := by decide +kernel
set_option maxRecDepth 65536 in
theorem w_t5 : (((((words1.drop 24).drop 24).drop 24).drop 24).take 24).all (fun c => isCode c || c.before args0 about1) = true := by decide +kernel
set_option maxRecDepth 65536 in
theorem w_t6 : ((((((words1.drop 24).drop 24).drop 24).drop 24).drop 24).take 24).all (fun c => isCode c || c.before args0 about1) = true := by decide +kernel
set_option maxRecDepth 65536 in
theorem w_t7 : ((((((words1.drop 24).drop 24).drop 24).drop 24).drop 24).drop 24).all (fun c => isCode c || c.before args0 about1) = true := by decide +kernel
theorem w_tables : (allAtoms (Jvm.Cond.code x code maxLocals ret :: tables_1)).before args0 about1 = true := by
  rw [allAtoms_all]
  show words1.all (fun c => c.before args0 about1) = true
  refine all_split ?_ w_codes
  rw [← List.take_append_drop 24 words1, List.all_append, w_t1, ← List.take_append_drop 24 (words1.drop 24), List.all_append, w_t2, ← List.take_append_drop 24 ((words1.drop 24).drop 24), List.all_append, w_t3, ← List.take_append_drop 24 (((words1.drop 24).drop 24).drop 24), List.all_append, w_t4, ← List.take_append_drop 24 ((((words1.drop 24).drop 24).drop 24).drop 24), List.all_append, w_t5, ← List.take_append_drop 24 (((((words1.drop 24).drop 24).drop 24).drop 24).drop 24), List.all_append, w_t6, w_t7]
  rfl
set_option maxRecDepth 65536 in
theorem w_rest : rest_1_c.before args0 about1 = true := by decide +kernel
set_option maxRecDepth 65536 in
theorem w_case : (Jvm.Cond.and given_1 narrow_1).before args0 about1 = true := by decide +kernel
theorem w_applies : (headSpec (Jvm.Cond.code x code maxLocals ret :: tables_1) room_1).applies x e0.platform about1 = true :=
  (Spec.applies_iff w_frames).mpr ⟨w_running, w_runnable, w_alone, w_named, w_hears, w_ripe, w_room, w_tables⟩
set_option maxRecDepth 65536 in
theorem atStart : AtStart classFile x code maxLocals ret World_1 tables_1 room_1 Calls_1 rest_1 Pre_1 launch0 p0 e0 about1 theMethod args0 below0 :=
  ⟨lists_1, trivial, launch0.admits_env _ _ _, launch0.least_env, fairChoices_fair.cas, fairChoices_fair.clock, w_frames, w_args, w_heap, w_applies, ⟨⟨25, k25, 1, by decide +kernel, rfl, rfl, _, rfl, rfl⟩, trivial⟩, w_rest, w_case⟩
end start1
theorem witness_1 : WitnessClaimed_1 := ⟨start1.p0, start1.e0, start1.about1, start1.theMethod, start1.args0, start1.below0, start1.atStart⟩
end Jvm.Pilot.@@N@@
