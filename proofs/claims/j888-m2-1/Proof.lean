import JvmDerived
import JvmDerived.Pilot.@@N@@Statement
import JvmDerived.Pilot.@@N@@Code
set_option linter.unusedVariables false
set_option linter.unusedSimpArgs false
namespace Jvm.RoadKit
open Sem ClassFile Op Lib Jvm.Stand Jvm.Free Jvm.LawKit
section New
variable {p : Program} {l : Launch} {e : Env} {R : Room} {s : State} {m : MethodId} {args : Array Value} {below : List Frame} {meth : Method} {c : Code} {T : State} {locs : List Loc} {cells slots : Nat}
theorem retI (X : Stand p l e R s m args below meth c T locs cells slots) (hx : p.tables.exec = Jvm.exec) {pc : Nat} {Ls : Array Slot} {z : Int32} {rest : List Value} (hret : meth.sig.returnType = some .int) (hd : decode c.code pc = .ok (.ireturn, 1)) {fs : List Frame}
    (hl : ∀ (f : JFrame) (acts : List Action), f.method = m → f.locked = none → f.entered = [] → (doReturn e (T.setTop f) acts (some (.int z))).1 = T.setFrames fs) : Steps p.tables e below (T.setTop (mkF m pc Ls (.int z :: rest))) (T.setFrames fs) := by
  have hm' : T.vm.method? m = some meth := X.method'
  have hn : narrow .int (.int z) = .int z := rfl
  show Steps p.tables e below (T.setTop { method := m, pc := pc, locals := Ls, stack := _ :: rest, locked := none }) _
  jvm_step X.here [X.here.top, hx, hd, hm', hret, hn]
  first | (intro acts; rw [hl _ acts rfl rfl rfl]) | rw [hl _ _ rfl rfl rfl]
  exact Steps.refl _
end New
end Jvm.RoadKit
namespace Jvm.Pilot.@@N@@
open Jvm Jvm.ClassFile Sem Op Lib Jvm.Free Jvm.Stand Jvm.LawKit Jvm.RoadKit Bundle Jvm.Pilot.@@N@@.Jvm.D
theorem own_fne {Z : State} {h : Heap} {a b : Addr} {C n d : String} {v w : Value} (F : Fld Z h a C n d v) (G : Fld Z h b C n d w) (hv : v ≠ w) : a ≠ b := fun e => by
  subst e
  obtain ⟨c1, cf1, k1, i1, f1, h1, h2, -, -, -, -, h7⟩ := F
  obtain ⟨c2, cf2, k2, i2, f2, g1, g2, -, -, -, -, g7⟩ := G
  cases h1.symm.trans g1
  cases h2.symm.trans g2
  exact hv (Option.some.inj (h7.symm.trans g7))

theorem own_eqint {args : Array Value} {s : State} {t : Term} {k : Int32} (h : (Jvm.Cond.eq t (Jvm.Term.int k)).value args s none s [] = some true) : t.eval args s none [] s = some (.int k) := by
  cases ht : t.eval args s none [] s with
  | none => simp [Cond.value, Term.eval, ht] at h
  | some v =>
    cases v <;> simp [Cond.value, Term.eval, ht] at h
    rw [h]
theorem own_3 (p : Int32) : (p &&& (2147483647 : Int32)) % (3 : Int32) = 0 ∨ (p &&& (2147483647 : Int32)) % (3 : Int32) = 1 ∨ (p &&& (2147483647 : Int32)) % (3 : Int32) = 2 := by
  have h1 := c_and p (2147483647 : Int32) (by decide)
  have h2 := (c_iremV (p &&& (2147483647 : Int32)) (3 : Int32)).1 h1.1 (by decide)
  have h3 : (3 : Int32).toInt = 3 := by decide
  rw [h3] at h2
  generalize (p &&& (2147483647 : Int32)) % (3 : Int32) = j at h2 ⊢
  simp only [← Int32.toInt_inj, Int32.reduceToInt]
  omega
theorem own_wS {Z : State} {a0 : Array Value} (hw : ∀ d ∈ tables_1, d.before a0 Z = true) : ∀ a ∈ Bundle.stringAtoms, a.before a0 Z = true := fun d hd => hw d ((by decide +kernel : ∀ d ∈ Bundle.stringAtoms, d ∈ tables_1) d hd)
theorem own_ext {h0 h : Heap} (K : Keep h0 h []) : Ext h0 h := ⟨K.1, fun a c q => K.2.1 a c q (by simp)⟩
theorem own_ins {Z : State} {h : Heap} {a : Addr} {C K own : String} {a0 : Array Value} {i : Nat} (E : Exa Z h a C) (w : (Jvm.Cond.classLink own i K).before a0 Z = true) : Ins Z h a K true ∨ (∃ c t, Z.vm.findClass C = some c ∧ Z.vm.findClass K = some t ∧ Z.vm.assignable c t = false) := by
  obtain ⟨t, ht⟩ : ∃ t, Z.vm.findClass K = some t := by
    cases q : Z.vm.findClass K with
    | some t => exact ⟨t, rfl⟩
    | none => simp [Cond.before, Cond.holds, Cond.value, State.classLinks, q] at w
  obtain ⟨cell, k, h1, h2, h3, h4, h5⟩ := E
  cases q : Z.vm.assignable cell.cls t with
  | true => exact Or.inl ⟨cell, t, h1, ht, by simp [h4, q]⟩
  | false => exact Or.inr ⟨_, _, h2, ht, q⟩
theorem own_of_d0 : decode jdk_40_method_36_code 0 = .ok (.getstatic 90, 3) := by decide +kernel
theorem own_of_d3 : decode jdk_40_method_36_code 3 = .ok (.areturn, 1) := by decide +kernel
theorem own_of_pn : plainName "java/util/List" = true := by first | (simp [plainName, overriddenIn]; done) | decide +kernel
theorem own_of_ef (m : MethodId)  : entryFrame m #[] 0 = mkF m 0 #[] [] := by first | (simp [entryFrame, mkF, argsToLocals, Value.category]; done) | rfl
def Q_own_of (Z : State) (el : Addr) (h0 : Heap) (n0 : Nat) (v : Option Value) (h : Heap) (L : List Loc) : Prop := v = some (.ref el) ∧ Fr n0 L ∧ h = h0
set_option maxRecDepth 65536 in
set_option maxHeartbeats 40000000 in
theorem own_of (l : Launch) (Z : State) (a0 : Array Value) (hw : ∀ d ∈ tables_1, d.before a0 Z = true) (ws : List Jvm.Cond) (el : Addr) (h0 : Heap) (n0 : Nat) (Z0 : n0 ≤ h0.size) (S1 : Sta Z h0 "java/util/ImmutableCollections" "EMPTY_LIST" "Ljava/util/ImmutableCollections$ListN;" (.ref el)) :
    MetFree l (⟨"java/util/List", "of", "()Ljava/util/List;"⟩ : MethodName) (head1 (Jvm.Cond.code (⟨"java/util/List", "of", "()Ljava/util/List;"⟩ : MethodName) jdk_40_method_36_code 0 (some (.object "java/util/List")) :: ws) ({ frames := 0, cells := 0, slots := 0, locals := 0 } : Room)) (fun a U => a = #[] ∧ Z.Warmed39 U.vm ∧ U.heap = h0) (fun _ _ _ _ _ => True) (fun _ U o U' => ∃ v L, o = .returned v ∧ Q_own_of Z el h0 n0 v U'.heap L ∧ FrameEnd U o U' L ({ frames := 0, cells := 0, slots := 0, locals := 0 } : Room).cells ({ frames := 0, cells := 0, slots := 0, locals := 0 } : Room).slots) := by
  refine MetFree.of_bodySF (plainFor_of_name own_of_pn) hisR ?_
  intro p e s m args below meth c s₁ Bd hml0 hP hK
  obtain ⟨rfl, hZ, hh⟩ := hP
  have hx := Bd.exec
  have hby := Bd.bytes
  have hml : c.maxLocals = 0 := hml0
  have hown : s.vm.findClass "java/util/List" = some m.cls := findClass_of_methodNamed Bd.named
  have hnm := (name_of_methodNamed Bd.named Bd.method).1
  have X0 : Stand p l e ({ frames := 0, cells := 0, slots := 0, locals := 0 } : Room) s m #[] below meth c s₁ [] 0 0 := Stand.of_body Bd
  have e0 : s₁.heap = h0 := by rw [← hh, Bd.state]; rfl
  have N0 := Fr.nil n0
  have pp0 : ∀ t, Steps p.tables e below (s₁.setTop (mkF m 0 #[] [])) t → Steps p.tables e below (s₁.setTop (entryFrame m #[] 0)) t := fun t k => castTop (own_of_ef m ) k
  obtain ⟨T101, X101, e101, st101⟩ := getS2 X0 hx hZ hown (host := "") (Or.inl (hw _ (List.mem_of_getElem? (i := 23) rfl))) Via.refl e0 S1 (g := (mkF m 0 #[] [])) rfl (hb hby own_of_d0)
  have pp102 : ∀ t, Steps p.tables e below (T101.setTop (mkF m 3 #[] [(.ref el)])) t → Steps p.tables e below (s₁.setTop (entryFrame m #[] 0)) t := fun t k => pp0 t (st101 t k)
  obtain ⟨fs, hr, hrun, hended, hW, hsame⟩ := X101.leave (v := some (.ref el)) (fun h => by rw [Bd.returns] at h; cases h)
  refine ⟨_, _, pp102 _ ?_, hrun, hended, _, _, rfl, ?_, ⟨_, rfl⟩, hW, hsame.mono (by decide) (by decide)⟩
  · exact retOut X101 hx Bd.returns rfl (Or.inr (Or.inr (Or.inr (Or.inr ⟨rfl, rfl, rfl⟩)))) (hb hby own_of_d3) hr
  · show Q_own_of Z el h0 n0 _ T101.heap _
    rw [e101]
    exact ⟨rfl, N0, rfl⟩
theorem own_lc_d0 : decode jdk_56_method_3_code 0 = .ok (.aload_n 0, 1) := by decide +kernel
theorem own_lc_d1 : decode jdk_56_method_3_code 1 = .ok (.instanceof 10, 3) := by decide +kernel
theorem own_lc_d4 : decode jdk_56_method_3_code 4 = .ok (.ifCond .ne 22, 3) := by decide +kernel
theorem own_lc_d7 : decode jdk_56_method_3_code 7 = .ok (.aload_n 0, 1) := by decide +kernel
theorem own_lc_d8 : decode jdk_56_method_3_code 8 = .ok (.instanceof 12, 3) := by decide +kernel
theorem own_lc_d11 : decode jdk_56_method_3_code 11 = .ok (.ifCond .eq 20, 3) := by decide +kernel
theorem own_lc_d14 : decode jdk_56_method_3_code 14 = .ok (.aload_n 0, 1) := by decide +kernel
theorem own_lc_d15 : decode jdk_56_method_3_code 15 = .ok (.checkcast 12, 3) := by decide +kernel
theorem own_lc_d18 : decode jdk_56_method_3_code 18 = .ok (.astore_n 1, 1) := by decide +kernel
theorem own_lc_d19 : decode jdk_56_method_3_code 19 = .ok (.aload_n 1, 1) := by decide +kernel
theorem own_lc_d20 : decode jdk_56_method_3_code 20 = .ok (.getfield 14, 3) := by decide +kernel
theorem own_lc_d23 : decode jdk_56_method_3_code 23 = .ok (.ifCond .ne 8, 3) := by decide +kernel
theorem own_lc_d26 : decode jdk_56_method_3_code 26 = .ok (.aload_n 0, 1) := by decide +kernel
theorem own_lc_d27 : decode jdk_56_method_3_code 27 = .ok (.checkcast 18, 3) := by decide +kernel
theorem own_lc_d30 : decode jdk_56_method_3_code 30 = .ok (.areturn, 1) := by decide +kernel
theorem own_lc_pn : plainName "java/util/ImmutableCollections" = true := by first | (simp [plainName, overriddenIn]; done) | decide +kernel
theorem own_lc_ef (m : MethodId) (x0 : Addr) : entryFrame m #[(.ref x0)] 2 = mkF m 0 #[.val (.ref x0), .unset] [] := by first | (simp [entryFrame, mkF, argsToLocals, Value.category]; done) | rfl
def Q_own_lc (Z : State) (a1 : Addr) (h0 : Heap) (n0 : Nat) (v : Option Value) (h : Heap) (L : List Loc) : Prop := v = some (.ref a1) ∧ Fr n0 L ∧ h = h0
set_option maxRecDepth 65536 in
set_option maxHeartbeats 40000000 in
theorem own_lc (l : Launch) (Z : State) (a0 : Array Value) (hw : ∀ d ∈ tables_1, d.before a0 Z = true) (ws : List Jvm.Cond) (a1 : Addr) (h0 : Heap) (n0 : Nat) (Z0 : n0 ≤ h0.size) (E1 : Exa Z h0 a1 "java/util/ImmutableCollections$ListN") (F1 : Fld Z h0 a1 "java/util/ImmutableCollections$ListN" "allowNulls" "Z" (.int (0 : Int32))) :
    MetFree l (⟨"java/util/ImmutableCollections", "listCopy", "(Ljava/util/Collection;)Ljava/util/List;"⟩ : MethodName) (head1 (Jvm.Cond.code (⟨"java/util/ImmutableCollections", "listCopy", "(Ljava/util/Collection;)Ljava/util/List;"⟩ : MethodName) jdk_56_method_3_code 2 (some (.object "java/util/List")) :: ws) ({ frames := 0, cells := 0, slots := 0, locals := 0 } : Room)) (fun a U => a = #[(.ref a1)] ∧ Z.Warmed39 U.vm ∧ U.heap = h0) (fun _ _ _ _ _ => True) (fun _ U o U' => ∃ v L, o = .returned v ∧ Q_own_lc Z a1 h0 n0 v U'.heap L ∧ FrameEnd U o U' L ({ frames := 0, cells := 0, slots := 0, locals := 0 } : Room).cells ({ frames := 0, cells := 0, slots := 0, locals := 0 } : Room).slots) := by
  refine MetFree.of_bodySF (plainFor_of_name own_lc_pn) hisR ?_
  intro p e s m args below meth c s₁ Bd hml0 hP hK
  obtain ⟨rfl, hZ, hh⟩ := hP
  have hx := Bd.exec
  have hby := Bd.bytes
  have hml : c.maxLocals = 2 := hml0
  have hown : s.vm.findClass "java/util/ImmutableCollections" = some m.cls := findClass_of_methodNamed Bd.named
  have hnm := (name_of_methodNamed Bd.named Bd.method).1
  have X0 : Stand p l e ({ frames := 0, cells := 0, slots := 0, locals := 0 } : Room) s m #[(.ref a1)] below meth c s₁ [] 0 0 := Stand.of_body Bd
  have e0 : s₁.heap = h0 := by rw [← hh, Bd.state]; rfl
  have N0 := Fr.nil n0
  have pp0 : ∀ t, Steps p.tables e below (s₁.setTop (mkF m 0 #[.val (.ref a1), .unset] [])) t → Steps p.tables e below (s₁.setTop (entryFrame m #[(.ref a1)] 2)) t := fun t k => castTop (own_lc_ef m a1) k
  have pp101 : ∀ t, Steps p.tables e below (s₁.setTop (mkF m 1 #[.val (.ref a1), .unset] [(.ref a1)])) t → Steps p.tables e below (s₁.setTop (entryFrame m #[(.ref a1)] 2)) t := fun t k => pp0 t (by
    refine XS.aloadN X0.here hx rfl (hb hby own_lc_d0) rfl rfl ?_
    show Steps p.tables e below (s₁.setTop (mkF m 1 #[.val (.ref a1), .unset] [(.ref a1)])) _
    exact k)
  rcases own_ins E1 (hw _ (List.mem_of_getElem? (i := 42) rfl)) with hI | hI
  · obtain ⟨T102, X102, e102, st102⟩ := instY X0 hx hZ hown (hw _ (List.mem_of_getElem? (i := 42) rfl)) e0 hI (g := (mkF m 1 #[.val (.ref a1), .unset] [(.ref a1)])) rfl rfl (hb hby own_lc_d1)
    have pp103 : ∀ t, Steps p.tables e below (T102.setTop (mkF m 4 #[.val (.ref a1), .unset] [(.int (1 : Int32))])) t → Steps p.tables e below (s₁.setTop (entryFrame m #[(.ref a1)] 2)) t := fun t k => pp101 t (st102 t k)
    have pp104 : ∀ t, Steps p.tables e below (T102.setTop (mkF m 27 #[.val (.ref a1), .unset] [(.ref a1)])) t → Steps p.tables e below (s₁.setTop (entryFrame m #[(.ref a1)] 2)) t := fun t k => pp103 t (by
      refine XS.ifYes X102.here hx rfl (pc0 := 4) (pc' := 26) rfl (hb hby own_lc_d4) rfl ((if0 _ _).trans (feq (by decide : ¬ ((1 : Int32) = (0 : Int32)))).2) (by decide) (by decide) ?_
      show Steps p.tables e below (T102.setTop (mkF m 26 #[.val (.ref a1), .unset] [])) _
      refine XS.aloadN X102.here hx rfl (hb hby own_lc_d26) rfl rfl ?_
      show Steps p.tables e below (T102.setTop (mkF m 27 #[.val (.ref a1), .unset] [(.ref a1)])) _
      exact k)
    obtain ⟨T105, X105, e105, st105⟩ := castY X102 hx hZ hown (hw _ (List.mem_of_getElem? (i := 52) rfl)) e102 (Ins.of_exa E1 (hw _ (List.mem_of_getElem? (i := 53) rfl))) (g := (mkF m 27 #[.val (.ref a1), .unset] [(.ref a1)])) rfl rfl (hb hby own_lc_d27)
    have pp106 : ∀ t, Steps p.tables e below (T105.setTop (mkF m 30 #[.val (.ref a1), .unset] [(.ref a1)])) t → Steps p.tables e below (s₁.setTop (entryFrame m #[(.ref a1)] 2)) t := fun t k => pp104 t (st105 t k)
    obtain ⟨fs, hr, hrun, hended, hW, hsame⟩ := X105.leave (v := some (.ref a1)) (fun h => by rw [Bd.returns] at h; cases h)
    refine ⟨_, _, pp106 _ ?_, hrun, hended, _, _, rfl, ?_, ⟨_, rfl⟩, hW, hsame.mono (by decide) (by decide)⟩
    · exact retOut X105 hx Bd.returns rfl (Or.inr (Or.inr (Or.inr (Or.inr ⟨rfl, rfl, rfl⟩)))) (hb hby own_lc_d30) hr
    · show Q_own_lc Z a1 h0 n0 _ T105.heap _
      rw [e105]
      exact ⟨rfl, N0, rfl⟩
  · obtain ⟨T107, X107, e107, st107⟩ := instNo X0 hx hZ hown (hw _ (List.mem_of_getElem? (i := 42) rfl)) e0 E1 hI (g := (mkF m 1 #[.val (.ref a1), .unset] [(.ref a1)])) rfl rfl (hb hby own_lc_d1)
    have pp108 : ∀ t, Steps p.tables e below (T107.setTop (mkF m 4 #[.val (.ref a1), .unset] [(.int (0 : Int32))])) t → Steps p.tables e below (s₁.setTop (entryFrame m #[(.ref a1)] 2)) t := fun t k => pp101 t (st107 t k)
    have pp109 : ∀ t, Steps p.tables e below (T107.setTop (mkF m 8 #[.val (.ref a1), .unset] [(.ref a1)])) t → Steps p.tables e below (s₁.setTop (entryFrame m #[(.ref a1)] 2)) t := fun t k => pp108 t (by
      refine XS.ifNo X107.here hx rfl (hb hby own_lc_d4) rfl ((if0 _ _).trans (teq (by decide : (0 : Int32) = (0 : Int32))).2) ?_
      show Steps p.tables e below (T107.setTop (mkF m 7 #[.val (.ref a1), .unset] [])) _
      refine XS.aloadN X107.here hx rfl (hb hby own_lc_d7) rfl rfl ?_
      show Steps p.tables e below (T107.setTop (mkF m 8 #[.val (.ref a1), .unset] [(.ref a1)])) _
      exact k)
    obtain ⟨T110, X110, e110, st110⟩ := instY X107 hx hZ hown (hw _ (List.mem_of_getElem? (i := 48) rfl)) e107 (Ins.self E1) (g := (mkF m 8 #[.val (.ref a1), .unset] [(.ref a1)])) rfl rfl (hb hby own_lc_d8)
    have pp111 : ∀ t, Steps p.tables e below (T110.setTop (mkF m 11 #[.val (.ref a1), .unset] [(.int (1 : Int32))])) t → Steps p.tables e below (s₁.setTop (entryFrame m #[(.ref a1)] 2)) t := fun t k => pp109 t (st110 t k)
    have pp112 : ∀ t, Steps p.tables e below (T110.setTop (mkF m 15 #[.val (.ref a1), .unset] [(.ref a1)])) t → Steps p.tables e below (s₁.setTop (entryFrame m #[(.ref a1)] 2)) t := fun t k => pp111 t (by
      refine XS.ifNo X110.here hx rfl (hb hby own_lc_d11) rfl ((if0 _ _).trans (feq (by decide : ¬ ((1 : Int32) = (0 : Int32)))).1) ?_
      show Steps p.tables e below (T110.setTop (mkF m 14 #[.val (.ref a1), .unset] [])) _
      refine XS.aloadN X110.here hx rfl (hb hby own_lc_d14) rfl rfl ?_
      show Steps p.tables e below (T110.setTop (mkF m 15 #[.val (.ref a1), .unset] [(.ref a1)])) _
      exact k)
    obtain ⟨T113, X113, e113, st113⟩ := castY X110 hx hZ hown (hw _ (List.mem_of_getElem? (i := 48) rfl)) e110 (Ins.self E1) (g := (mkF m 15 #[.val (.ref a1), .unset] [(.ref a1)])) rfl rfl (hb hby own_lc_d15)
    have pp114 : ∀ t, Steps p.tables e below (T113.setTop (mkF m 18 #[.val (.ref a1), .unset] [(.ref a1)])) t → Steps p.tables e below (s₁.setTop (entryFrame m #[(.ref a1)] 2)) t := fun t k => pp112 t (st113 t k)
    have pp115 : ∀ t, Steps p.tables e below (T113.setTop (mkF m 20 #[.val (.ref a1), .val (.ref a1)] [(.ref a1)])) t → Steps p.tables e below (s₁.setTop (entryFrame m #[(.ref a1)] 2)) t := fun t k => pp114 t (by
      refine XS.astoreN X113.here hx rfl (hb hby own_lc_d18) rfl rfl (l' := #[.val (.ref a1), .val (.ref a1)]) rfl ?_
      show Steps p.tables e below (T113.setTop (mkF m 19 #[.val (.ref a1), .val (.ref a1)] [])) _
      refine XS.aloadN X113.here hx rfl (hb hby own_lc_d19) rfl rfl ?_
      show Steps p.tables e below (T113.setTop (mkF m 20 #[.val (.ref a1), .val (.ref a1)] [(.ref a1)])) _
      exact k)
    obtain ⟨T116, X116, e116, st116⟩ := getF X113 hx hZ hown (Or.inr (hw _ (List.mem_of_getElem? (i := 50) rfl))) Via.refl e113 F1 (g := (mkF m 20 #[.val (.ref a1), .val (.ref a1)] [(.ref a1)])) rfl rfl (hb hby own_lc_d20)
    have pp117 : ∀ t, Steps p.tables e below (T116.setTop (mkF m 23 #[.val (.ref a1), .val (.ref a1)] [(.int (0 : Int32))])) t → Steps p.tables e below (s₁.setTop (entryFrame m #[(.ref a1)] 2)) t := fun t k => pp115 t (st116 t k)
    have pp118 : ∀ t, Steps p.tables e below (T116.setTop (mkF m 27 #[.val (.ref a1), .val (.ref a1)] [(.ref a1)])) t → Steps p.tables e below (s₁.setTop (entryFrame m #[(.ref a1)] 2)) t := fun t k => pp117 t (by
      refine XS.ifNo X116.here hx rfl (hb hby own_lc_d23) rfl ((if0 _ _).trans (teq (by decide : (0 : Int32) = (0 : Int32))).2) ?_
      show Steps p.tables e below (T116.setTop (mkF m 26 #[.val (.ref a1), .val (.ref a1)] [])) _
      refine XS.aloadN X116.here hx rfl (hb hby own_lc_d26) rfl rfl ?_
      show Steps p.tables e below (T116.setTop (mkF m 27 #[.val (.ref a1), .val (.ref a1)] [(.ref a1)])) _
      exact k)
    obtain ⟨T119, X119, e119, st119⟩ := castY X116 hx hZ hown (hw _ (List.mem_of_getElem? (i := 52) rfl)) e116 (Ins.of_exa E1 (hw _ (List.mem_of_getElem? (i := 53) rfl))) (g := (mkF m 27 #[.val (.ref a1), .val (.ref a1)] [(.ref a1)])) rfl rfl (hb hby own_lc_d27)
    have pp120 : ∀ t, Steps p.tables e below (T119.setTop (mkF m 30 #[.val (.ref a1), .val (.ref a1)] [(.ref a1)])) t → Steps p.tables e below (s₁.setTop (entryFrame m #[(.ref a1)] 2)) t := fun t k => pp118 t (st119 t k)
    obtain ⟨fs, hr, hrun, hended, hW, hsame⟩ := X119.leave (v := some (.ref a1)) (fun h => by rw [Bd.returns] at h; cases h)
    refine ⟨_, _, pp120 _ ?_, hrun, hended, _, _, rfl, ?_, ⟨_, rfl⟩, hW, hsame.mono (by decide) (by decide)⟩
    · exact retOut X119 hx Bd.returns rfl (Or.inr (Or.inr (Or.inr (Or.inr ⟨rfl, rfl, rfl⟩)))) (hb hby own_lc_d30) hr
    · show Q_own_lc Z a1 h0 n0 _ T119.heap _
      rw [e119]
      exact ⟨rfl, N0, rfl⟩
theorem pd__Ljava_util_Collection__Ljava_util_List_ : parseMethodDescriptor "(Ljava/util/Collection;)Ljava/util/List;" = some ⟨[(.object "java/util/Collection")], some (.object "java/util/List")⟩ := by decide +kernel
theorem own_co_d0 : decode jdk_40_method_48_code 0 = .ok (.aload_n 0, 1) := by decide +kernel
theorem own_co_d1 : decode jdk_40_method_48_code 1 = .ok (.invokestatic 112, 3) := by decide +kernel
theorem own_co_d4 : decode jdk_40_method_48_code 4 = .ok (.areturn, 1) := by decide +kernel
theorem own_co_pn : plainName "java/util/List" = true := by first | (simp [plainName, overriddenIn]; done) | decide +kernel
theorem own_co_ef (m : MethodId) (x0 : Addr) : entryFrame m #[(.ref x0)] 1 = mkF m 0 #[.val (.ref x0)] [] := by first | (simp [entryFrame, mkF, argsToLocals, Value.category]; done) | rfl
def Q_own_co (Z : State) (a1 : Addr) (h0 : Heap) (n0 : Nat) (v : Option Value) (h : Heap) (L : List Loc) : Prop := v = some (.ref a1) ∧ Fr n0 L ∧ h = h0
set_option maxRecDepth 65536 in
set_option maxHeartbeats 40000000 in
theorem own_co (l : Launch) (Z : State) (a0 : Array Value) (hw : ∀ d ∈ tables_1, d.before a0 Z = true) (ws : List Jvm.Cond) (a1 : Addr) (h0 : Heap) (n0 : Nat) (Z0 : n0 ≤ h0.size) (E1 : Exa Z h0 a1 "java/util/ImmutableCollections$ListN") (F1 : Fld Z h0 a1 "java/util/ImmutableCollections$ListN" "allowNulls" "Z" (.int (0 : Int32))) :
    MetFree l (⟨"java/util/List", "copyOf", "(Ljava/util/Collection;)Ljava/util/List;"⟩ : MethodName) (head1 (Jvm.Cond.code (⟨"java/util/List", "copyOf", "(Ljava/util/Collection;)Ljava/util/List;"⟩ : MethodName) jdk_40_method_48_code 1 (some (.object "java/util/List")) :: ws) ({ frames := 1, cells := 0, slots := 0, locals := 13 } : Room)) (fun a U => a = #[(.ref a1)] ∧ Z.Warmed39 U.vm ∧ U.heap = h0) (fun _ _ _ _ _ => True) (fun _ U o U' => ∃ v L, o = .returned v ∧ Q_own_co Z a1 h0 n0 v U'.heap L ∧ FrameEnd U o U' L ({ frames := 1, cells := 0, slots := 0, locals := 13 } : Room).cells ({ frames := 1, cells := 0, slots := 0, locals := 13 } : Room).slots) := by
  refine MetFree.of_bodySF (plainFor_of_name own_co_pn) hisR ?_
  intro p e s m args below meth c s₁ Bd hml0 hP hK
  obtain ⟨rfl, hZ, hh⟩ := hP
  have hx := Bd.exec
  have hby := Bd.bytes
  have hml : c.maxLocals = 1 := hml0
  have hown : s.vm.findClass "java/util/List" = some m.cls := findClass_of_methodNamed Bd.named
  have hnm := (name_of_methodNamed Bd.named Bd.method).1
  have X0 : Stand p l e ({ frames := 1, cells := 0, slots := 0, locals := 13 } : Room) s m #[(.ref a1)] below meth c s₁ [] 0 0 := Stand.of_body Bd
  have e0 : s₁.heap = h0 := by rw [← hh, Bd.state]; rfl
  have N0 := Fr.nil n0
  have pp0 : ∀ t, Steps p.tables e below (s₁.setTop (mkF m 0 #[.val (.ref a1)] [])) t → Steps p.tables e below (s₁.setTop (entryFrame m #[(.ref a1)] 1)) t := fun t k => castTop (own_co_ef m a1) k
  have pp101 : ∀ t, Steps p.tables e below (s₁.setTop (mkF m 1 #[.val (.ref a1)] [(.ref a1)])) t → Steps p.tables e below (s₁.setTop (entryFrame m #[(.ref a1)] 1)) t := fun t k => pp0 t (by
    refine XS.aloadN X0.here hx rfl (hb hby own_co_d0) rfl rfl ?_
    show Steps p.tables e below (s₁.setTop (mkF m 1 #[.val (.ref a1)] [(.ref a1)])) _
    exact k)
  obtain ⟨_, _, ⟨T102, L102, k102, n102⟩, -, X102, ⟨Lc102, hQ102, l102, y102, z102⟩, st102⟩ := Jvm.LawKit.callS X0 hx (y := (⟨"java/util/ImmutableCollections", "listCopy", "(Ljava/util/Collection;)Ljava/util/List;"⟩ : MethodName)) hown (mvT hZ (hw _ (List.mem_of_getElem? (i := 39) rfl))) (mvT hZ (hw _ (List.mem_of_getElem? (i := 40) rfl))) (mvT hZ (hw _ (List.mem_of_getElem? (i := 24) rfl))) (mvT hZ (hw _ (List.mem_of_getElem? (i := 41) rfl))) (by decide) (backOf (W := 0) (own_lc l Z a0 hw [] a1 h0 n0 Z0 E1 F1) hZ (hw _ (List.mem_of_getElem? (i := 41) rfl)) (hw _ (List.mem_of_getElem? (i := 24) rfl)) (by decide) (by decide)) (g := (mkF m 1 #[.val (.ref a1)] [(.ref a1)])) rfl (by rw [hml]; rfl) (argsL := [(.ref a1)]) (rest := []) (lenOf pd__Ljava_util_Collection__Ljava_util_List_ rfl) rfl (by show 2 * 0 + _ ≤ _; exact Nat.le_of_eq rfl) (hb hby own_co_d1) (fun _ _ => ⟨rfl, e0, (by decide : 0 + 0 ≤ _), (by decide : 0 + 0 ≤ _)⟩)
  dsimp only [Pt.U, Pt.locs, Pt.cells, Pt.slots] at X102 l102 y102 z102 st102 hQ102
  subst l102 y102 z102
  obtain ⟨rfl, N102q, s102⟩ := hQ102
  have N102 := Fr.app N0 N102q
  have pp103 : ∀ t, Steps p.tables e below (T102.setTop (mkF m 4 #[.val (.ref a1)] [(.ref a1)])) t → Steps p.tables e below (s₁.setTop (entryFrame m #[(.ref a1)] 1)) t := fun t k => pp101 t (st102 t k)
  obtain ⟨fs, hr, hrun, hended, hW, hsame⟩ := X102.leave (v := some (.ref a1)) (fun h => by rw [Bd.returns] at h; cases h)
  refine ⟨_, _, pp103 _ ?_, hrun, hended, _, _, rfl, ?_, ⟨_, rfl⟩, hW, hsame.mono (by decide) (by decide)⟩
  · exact retOut X102 hx Bd.returns rfl (Or.inr (Or.inr (Or.inr (Or.inr ⟨rfl, rfl, rfl⟩)))) (hb hby own_co_d4) hr
  · show Q_own_co Z a1 h0 n0 _ T102.heap _
    rw [s102]
    exact ⟨rfl, N102, rfl⟩
theorem own_rec_d0 : decode jdk_30_method_1_code 0 = .ok (.aload_n 0, 1) := by decide +kernel
theorem own_rec_d1 : decode jdk_30_method_1_code 1 = .ok (.invokespecial 1, 3) := by decide +kernel
theorem own_rec_d4 : decode jdk_30_method_1_code 4 = .ok (.return_, 1) := by decide +kernel
theorem own_rec_pn : plainName "java/lang/Record" = true := by first | (simp [plainName, overriddenIn]; done) | decide +kernel
theorem own_rec_ef (m : MethodId) (x0 : Addr) : entryFrame m #[(.ref x0)] 1 = mkF m 0 #[.val (.ref x0)] [] := by first | (simp [entryFrame, mkF, argsToLocals, Value.category]; done) | rfl
def Q_own_rec (Z : State) (a1 : Addr) (h0 : Heap) (n0 : Nat) (v : Option Value) (h : Heap) (L : List Loc) : Prop := v = none ∧ Fr n0 L ∧ h = h0
set_option maxRecDepth 65536 in
set_option maxHeartbeats 40000000 in
theorem own_rec (l : Launch) (Z : State) (a0 : Array Value) (hw : ∀ d ∈ tables_1, d.before a0 Z = true) (ws : List Jvm.Cond) (a1 : Addr) (h0 : Heap) (n0 : Nat) (Z0 : n0 ≤ h0.size) :
    MetFree l (⟨"java/lang/Record", "<init>", "()V"⟩ : MethodName) (head1 (Jvm.Cond.code (⟨"java/lang/Record", "<init>", "()V"⟩ : MethodName) jdk_30_method_1_code 1 none :: ws) ({ frames := 1, cells := 0, slots := 0, locals := 12 } : Room)) (fun a U => a = #[(.ref a1)] ∧ Z.Warmed39 U.vm ∧ U.heap = h0) (fun _ _ _ _ _ => True) (fun _ U o U' => ∃ v L, o = .returned v ∧ Q_own_rec Z a1 h0 n0 v U'.heap L ∧ FrameEnd U o U' L ({ frames := 1, cells := 0, slots := 0, locals := 12 } : Room).cells ({ frames := 1, cells := 0, slots := 0, locals := 12 } : Room).slots) := by
  refine MetFree.of_bodySF (plainFor_of_name own_rec_pn) hisR ?_
  intro p e s m args below meth c s₁ Bd hml0 hP hK
  obtain ⟨rfl, hZ, hh⟩ := hP
  have hx := Bd.exec
  have hby := Bd.bytes
  have hml : c.maxLocals = 1 := hml0
  have hown : s.vm.findClass "java/lang/Record" = some m.cls := findClass_of_methodNamed Bd.named
  have hnm := (name_of_methodNamed Bd.named Bd.method).1
  have X0 : Stand p l e ({ frames := 1, cells := 0, slots := 0, locals := 12 } : Room) s m #[(.ref a1)] below meth c s₁ [] 0 0 := Stand.of_body Bd
  have e0 : s₁.heap = h0 := by rw [← hh, Bd.state]; rfl
  have N0 := Fr.nil n0
  have pp0 : ∀ t, Steps p.tables e below (s₁.setTop (mkF m 0 #[.val (.ref a1)] [])) t → Steps p.tables e below (s₁.setTop (entryFrame m #[(.ref a1)] 1)) t := fun t k => castTop (own_rec_ef m a1) k
  have pp101 : ∀ t, Steps p.tables e below (s₁.setTop (mkF m 1 #[.val (.ref a1)] [(.ref a1)])) t → Steps p.tables e below (s₁.setTop (entryFrame m #[(.ref a1)] 1)) t := fun t k => pp0 t (by
    refine XS.aloadN X0.here hx rfl (hb hby own_rec_d0) rfl rfl ?_
    show Steps p.tables e below (s₁.setTop (mkF m 1 #[.val (.ref a1)] [(.ref a1)])) _
    exact k)
  obtain ⟨T102, X102, e102, st102⟩ := initO X0 hx hZ hown (hw _ (List.mem_of_getElem? (i := 33) rfl)) (hw _ (List.mem_of_getElem? (i := 34) rfl)) (hw _ (List.mem_of_getElem? (i := 35) rfl)) e0 (g := (mkF m 1 #[.val (.ref a1)] [(.ref a1)])) rfl (by rw [hml]; rfl) rfl (hb hby own_rec_d1) (by decide) (W := 0) (by show 2 * 0 + _ ≤ _; exact Nat.le_of_eq rfl) (by decide)
  have pp103 : ∀ t, Steps p.tables e below (T102.setTop (mkF m 4 #[.val (.ref a1)] [])) t → Steps p.tables e below (s₁.setTop (entryFrame m #[(.ref a1)] 1)) t := fun t k => pp101 t (st102 t k)
  obtain ⟨fs, hr, hrun, hended, hW, hsame⟩ := X102.leave (v := none) (fun _ => rfl)
  refine ⟨_, _, pp103 _ ?_, hrun, hended, _, _, rfl, ?_, ⟨_, rfl⟩, hW, hsame.mono (by decide) (by decide)⟩
  · exact X102.returnOut hx Bd.returns (hb hby own_rec_d4) hr
  · show Q_own_rec Z a1 h0 n0 _ T102.heap _
    rw [e102]
    exact ⟨rfl, N0, rfl⟩
theorem pd___V : parseMethodDescriptor "()V" = some ⟨[], none⟩ := by decide +kernel
theorem own_ls8_d0 : decode prog_129_method_1_code 0 = .ok (.aload_n 0, 1) := by decide +kernel
theorem own_ls8_d1 : decode prog_129_method_1_code 1 = .ok (.invokespecial 1, 3) := by decide +kernel
theorem own_ls8_d4 : decode prog_129_method_1_code 4 = .ok (.aload 7, 2) := by decide +kernel
theorem own_ls8_d6 : decode prog_129_method_1_code 6 = .ok (.invokestatic 7, 3) := by decide +kernel
theorem own_ls8_d9 : decode prog_129_method_1_code 9 = .ok (.astore 7, 2) := by decide +kernel
theorem own_ls8_d11 : decode prog_129_method_1_code 11 = .ok (.aload 8, 2) := by decide +kernel
theorem own_ls8_d13 : decode prog_129_method_1_code 13 = .ok (.invokestatic 7, 3) := by decide +kernel
theorem own_ls8_d16 : decode prog_129_method_1_code 16 = .ok (.astore 8, 2) := by decide +kernel
theorem own_ls8_d18 : decode prog_129_method_1_code 18 = .ok (.aload_n 0, 1) := by decide +kernel
theorem own_ls8_d19 : decode prog_129_method_1_code 19 = .ok (.aload_n 1, 1) := by decide +kernel
theorem own_ls8_d20 : decode prog_129_method_1_code 20 = .ok (.putfield 13, 3) := by decide +kernel
theorem own_ls8_d23 : decode prog_129_method_1_code 23 = .ok (.aload_n 0, 1) := by decide +kernel
theorem own_ls8_d24 : decode prog_129_method_1_code 24 = .ok (.aload_n 2, 1) := by decide +kernel
theorem own_ls8_d25 : decode prog_129_method_1_code 25 = .ok (.putfield 19, 3) := by decide +kernel
theorem own_ls8_d28 : decode prog_129_method_1_code 28 = .ok (.aload_n 0, 1) := by decide +kernel
theorem own_ls8_d29 : decode prog_129_method_1_code 29 = .ok (.iload_n 3, 1) := by decide +kernel
theorem own_ls8_d30 : decode prog_129_method_1_code 30 = .ok (.putfield 22, 3) := by decide +kernel
theorem own_ls8_d33 : decode prog_129_method_1_code 33 = .ok (.aload_n 0, 1) := by decide +kernel
theorem own_ls8_d34 : decode prog_129_method_1_code 34 = .ok (.iload 4, 2) := by decide +kernel
theorem own_ls8_d36 : decode prog_129_method_1_code 36 = .ok (.putfield 26, 3) := by decide +kernel
theorem own_ls8_d39 : decode prog_129_method_1_code 39 = .ok (.aload_n 0, 1) := by decide +kernel
theorem own_ls8_d40 : decode prog_129_method_1_code 40 = .ok (.aload 5, 2) := by decide +kernel
theorem own_ls8_d42 : decode prog_129_method_1_code 42 = .ok (.putfield 29, 3) := by decide +kernel
theorem own_ls8_d45 : decode prog_129_method_1_code 45 = .ok (.aload_n 0, 1) := by decide +kernel
theorem own_ls8_d46 : decode prog_129_method_1_code 46 = .ok (.aload 6, 2) := by decide +kernel
theorem own_ls8_d48 : decode prog_129_method_1_code 48 = .ok (.putfield 33, 3) := by decide +kernel
theorem own_ls8_d51 : decode prog_129_method_1_code 51 = .ok (.aload_n 0, 1) := by decide +kernel
theorem own_ls8_d52 : decode prog_129_method_1_code 52 = .ok (.aload 7, 2) := by decide +kernel
theorem own_ls8_d54 : decode prog_129_method_1_code 54 = .ok (.putfield 37, 3) := by decide +kernel
theorem own_ls8_d57 : decode prog_129_method_1_code 57 = .ok (.aload_n 0, 1) := by decide +kernel
theorem own_ls8_d58 : decode prog_129_method_1_code 58 = .ok (.aload 8, 2) := by decide +kernel
theorem own_ls8_d60 : decode prog_129_method_1_code 60 = .ok (.putfield 41, 3) := by decide +kernel
theorem own_ls8_d63 : decode prog_129_method_1_code 63 = .ok (.return_, 1) := by decide +kernel
theorem own_ls8_pn : plainName "com/example/hallinta/hallinta/yang/schema/LeafSchema" = true := by first | (simp [plainName, overriddenIn]; done) | decide +kernel
theorem own_ls8_ef (m : MethodId) (x0 : Addr) (x1 : Addr) (x2 : Addr) (x3 : Int32) (x4 : Int32) (x7 : Addr) (x8 : Addr) : entryFrame m #[(.ref x0), (.ref x1), (.ref x2), (.int x3), (.int x4), .null, .null, (.ref x7), (.ref x8)] 9 = mkF m 0 #[.val (.ref x0), .val (.ref x1), .val (.ref x2), .val (.int x3), .val (.int x4), .val .null, .val .null, .val (.ref x7), .val (.ref x8)] [] := by first | (simp [entryFrame, mkF, argsToLocals, Value.category]; done) | rfl
def Q_own_ls8 (Z : State) (a1 : Addr) (a2 : Addr) (a3 : Addr) (p4 : Int32) (p5 : Int32) (el : Addr) (u0 : Value) (u1 : Value) (u2 : Value) (u3 : Value) (u4 : Value) (u5 : Value) (u6 : Value) (u7 : Value) (h0 : Heap) (n0 : Nat) (v : Option Value) (h : Heap) (L : List Loc) : Prop := v = none ∧ Fr n0 L ∧ Keep h0 h [a1] ∧ Exa Z h a1 "com/example/hallinta/hallinta/yang/schema/LeafSchema" ∧ Fld Z h a1 "com/example/hallinta/hallinta/yang/schema/LeafSchema" "config" "Z" (.int (nar .boolean p4)) ∧ Fld Z h a1 "com/example/hallinta/hallinta/yang/schema/LeafSchema" "type" "Lcom/example/hallinta/hallinta/yang/type/YangType;" .null
set_option maxRecDepth 65536 in
set_option maxHeartbeats 40000000 in
theorem own_ls8 (l : Launch) (Z : State) (a0 : Array Value) (hw : ∀ d ∈ tables_1, d.before a0 Z = true) (ws : List Jvm.Cond) (a1 : Addr) (a2 : Addr) (a3 : Addr) (p4 : Int32) (p5 : Int32) (el : Addr) (u0 : Value) (u1 : Value) (u2 : Value) (u3 : Value) (u4 : Value) (u5 : Value) (u6 : Value) (u7 : Value) (h0 : Heap) (n0 : Nat) (Z0 : n0 ≤ h0.size) (Ea : Exa Z h0 a1 "com/example/hallinta/hallinta/yang/schema/LeafSchema") (G0 : Fld Z h0 a1 "com/example/hallinta/hallinta/yang/schema/LeafSchema" "module" "Ljava/lang/String;" u0) (G1 : Fld Z h0 a1 "com/example/hallinta/hallinta/yang/schema/LeafSchema" "name" "Ljava/lang/String;" u1) (G2 : Fld Z h0 a1 "com/example/hallinta/hallinta/yang/schema/LeafSchema" "config" "Z" u2) (G3 : Fld Z h0 a1 "com/example/hallinta/hallinta/yang/schema/LeafSchema" "mandatory" "Z" u3) (G4 : Fld Z h0 a1 "com/example/hallinta/hallinta/yang/schema/LeafSchema" "type" "Lcom/example/hallinta/hallinta/yang/type/YangType;" u4) (G5 : Fld Z h0 a1 "com/example/hallinta/hallinta/yang/schema/LeafSchema" "defaults" "Lcom/example/hallinta/hallinta/yang/schema/Default;" u5) (G6 : Fld Z h0 a1 "com/example/hallinta/hallinta/yang/schema/LeafSchema" "whens" "Ljava/util/List;" u6) (G7 : Fld Z h0 a1 "com/example/hallinta/hallinta/yang/schema/LeafSchema" "musts" "Ljava/util/List;" u7) (g_a1 : n0 ≤ a1) (E1 : Exa Z h0 el "java/util/ImmutableCollections$ListN") (F1 : Fld Z h0 el "java/util/ImmutableCollections$ListN" "allowNulls" "Z" (.int (0 : Int32))) :
    MetFree l (⟨"com/example/hallinta/hallinta/yang/schema/LeafSchema", "<init>", "(Ljava/lang/String;Ljava/lang/String;ZZLcom/example/hallinta/hallinta/yang/type/YangType;Lcom/example/hallinta/hallinta/yang/schema/Default;Ljava/util/List;Ljava/util/List;)V"⟩ : MethodName) (head1 (Jvm.Cond.code (⟨"com/example/hallinta/hallinta/yang/schema/LeafSchema", "<init>", "(Ljava/lang/String;Ljava/lang/String;ZZLcom/example/hallinta/hallinta/yang/type/YangType;Lcom/example/hallinta/hallinta/yang/schema/Default;Ljava/util/List;Ljava/util/List;)V"⟩ : MethodName) prog_129_method_1_code 9 none :: ws) ({ frames := 2, cells := 0, slots := 0, locals := 25 } : Room)) (fun a U => a = #[(.ref a1), (.ref a2), (.ref a3), (.int p4), (.int p5), .null, .null, (.ref el), (.ref el)] ∧ Z.Warmed39 U.vm ∧ U.heap = h0) (fun _ _ _ _ _ => True) (fun _ U o U' => ∃ v L, o = .returned v ∧ Q_own_ls8 Z a1 a2 a3 p4 p5 el u0 u1 u2 u3 u4 u5 u6 u7 h0 n0 v U'.heap L ∧ FrameEnd U o U' L ({ frames := 2, cells := 0, slots := 0, locals := 25 } : Room).cells ({ frames := 2, cells := 0, slots := 0, locals := 25 } : Room).slots) := by
  refine MetFree.of_bodySF (plainFor_of_name own_ls8_pn) hisR ?_
  intro p e s m args below meth c s₁ Bd hml0 hP hK
  obtain ⟨rfl, hZ, hh⟩ := hP
  have hx := Bd.exec
  have hby := Bd.bytes
  have hml : c.maxLocals = 9 := hml0
  have hown : s.vm.findClass "com/example/hallinta/hallinta/yang/schema/LeafSchema" = some m.cls := findClass_of_methodNamed Bd.named
  have hnm := (name_of_methodNamed Bd.named Bd.method).1
  have X0 : Stand p l e ({ frames := 2, cells := 0, slots := 0, locals := 25 } : Room) s m #[(.ref a1), (.ref a2), (.ref a3), (.int p4), (.int p5), .null, .null, (.ref el), (.ref el)] below meth c s₁ [] 0 0 := Stand.of_body Bd
  have e0 : s₁.heap = h0 := by rw [← hh, Bd.state]; rfl
  have N0 := Fr.nil n0
  have pp0 : ∀ t, Steps p.tables e below (s₁.setTop (mkF m 0 #[.val (.ref a1), .val (.ref a2), .val (.ref a3), .val (.int p4), .val (.int p5), .val .null, .val .null, .val (.ref el), .val (.ref el)] [])) t → Steps p.tables e below (s₁.setTop (entryFrame m #[(.ref a1), (.ref a2), (.ref a3), (.int p4), (.int p5), .null, .null, (.ref el), (.ref el)] 9)) t := fun t k => castTop (own_ls8_ef m a1 a2 a3 p4 p5 el el) k
  have pp101 : ∀ t, Steps p.tables e below (s₁.setTop (mkF m 1 #[.val (.ref a1), .val (.ref a2), .val (.ref a3), .val (.int p4), .val (.int p5), .val .null, .val .null, .val (.ref el), .val (.ref el)] [(.ref a1)])) t → Steps p.tables e below (s₁.setTop (entryFrame m #[(.ref a1), (.ref a2), (.ref a3), (.int p4), (.int p5), .null, .null, (.ref el), (.ref el)] 9)) t := fun t k => pp0 t (by
    refine XS.aloadN X0.here hx rfl (hb hby own_ls8_d0) rfl rfl ?_
    show Steps p.tables e below (s₁.setTop (mkF m 1 #[.val (.ref a1), .val (.ref a2), .val (.ref a3), .val (.int p4), .val (.int p5), .val .null, .val .null, .val (.ref el), .val (.ref el)] [(.ref a1)])) _
    exact k)
  obtain ⟨_, _, ⟨T102, L102, k102, n102⟩, -, X102, ⟨Lc102, hQ102, l102, y102, z102⟩, st102⟩ := X0.specialBack hx (y := (⟨"java/lang/Record", "<init>", "()V"⟩ : MethodName)) rfl hown (mvT hZ (hw _ (List.mem_of_getElem? (i := 28) rfl))) (mvT hZ (hw _ (List.mem_of_getElem? (i := 29) rfl))) (mvT hZ (hw _ (List.mem_of_getElem? (i := 32) rfl))) (by decide) (backOf (W := 0) (own_rec l Z a0 hw [] a1 h0 n0 Z0) hZ (hw _ (List.mem_of_getElem? (i := 32) rfl)) (hw _ (List.mem_of_getElem? (i := 31) rfl)) (by decide) (by decide)) (g := (mkF m 1 #[.val (.ref a1), .val (.ref a2), .val (.ref a3), .val (.int p4), .val (.int p5), .val .null, .val .null, .val (.ref el), .val (.ref el)] [(.ref a1)])) rfl (by rw [hml]; rfl) (Steps.refl _) (a := a1) (argsL := []) (rest := []) (lenOf pd___V rfl) rfl (by show 2 * 0 + _ ≤ _; exact Nat.le_of_eq rfl) (hb hby own_ls8_d1) (fun _ _ => ⟨rfl, e0, (by decide : 0 + 0 ≤ _), (by decide : 0 + 0 ≤ _)⟩)
  dsimp only [Pt.U, Pt.locs, Pt.cells, Pt.slots] at X102 l102 y102 z102 st102 hQ102
  subst l102 y102 z102
  obtain ⟨rfl, N102q, s102⟩ := hQ102
  have N102 := Fr.app N0 N102q
  have pp103 : ∀ t, Steps p.tables e below (T102.setTop (mkF m 4 #[.val (.ref a1), .val (.ref a2), .val (.ref a3), .val (.int p4), .val (.int p5), .val .null, .val .null, .val (.ref el), .val (.ref el)] [])) t → Steps p.tables e below (s₁.setTop (entryFrame m #[(.ref a1), (.ref a2), (.ref a3), (.int p4), (.int p5), .null, .null, (.ref el), (.ref el)] 9)) t := fun t k => pp101 t (st102.trans k)
  have pp104 : ∀ t, Steps p.tables e below (T102.setTop (mkF m 6 #[.val (.ref a1), .val (.ref a2), .val (.ref a3), .val (.int p4), .val (.int p5), .val .null, .val .null, .val (.ref el), .val (.ref el)] [(.ref el)])) t → Steps p.tables e below (s₁.setTop (entryFrame m #[(.ref a1), (.ref a2), (.ref a3), (.int p4), (.int p5), .null, .null, (.ref el), (.ref el)] 9)) t := fun t k => pp103 t (by
    refine XS.aload X102.here hx rfl (hb hby own_ls8_d4) rfl rfl ?_
    show Steps p.tables e below (T102.setTop (mkF m 6 #[.val (.ref a1), .val (.ref a2), .val (.ref a3), .val (.int p4), .val (.int p5), .val .null, .val .null, .val (.ref el), .val (.ref el)] [(.ref el)])) _
    exact k)
  obtain ⟨_, _, ⟨T105, L105, k105, n105⟩, -, X105, ⟨Lc105, hQ105, l105, y105, z105⟩, st105⟩ := Jvm.LawKit.callS X102 hx (y := (⟨"java/util/List", "copyOf", "(Ljava/util/Collection;)Ljava/util/List;"⟩ : MethodName)) hown (mvT hZ (hw _ (List.mem_of_getElem? (i := 36) rfl))) (mvT hZ (hw _ (List.mem_of_getElem? (i := 37) rfl))) (mvT hZ (hw _ (List.mem_of_getElem? (i := 21) rfl))) (mvT hZ (hw _ (List.mem_of_getElem? (i := 38) rfl))) (by decide) (backOf (W := 0) (own_co l Z a0 hw [] el h0 n0 Z0 E1 F1) hZ (hw _ (List.mem_of_getElem? (i := 38) rfl)) (hw _ (List.mem_of_getElem? (i := 21) rfl)) (by decide) (by decide)) (g := (mkF m 6 #[.val (.ref a1), .val (.ref a2), .val (.ref a3), .val (.int p4), .val (.int p5), .val .null, .val .null, .val (.ref el), .val (.ref el)] [(.ref el)])) rfl (by rw [hml]; rfl) (argsL := [(.ref el)]) (rest := []) (lenOf pd__Ljava_util_Collection__Ljava_util_List_ rfl) rfl (by show 2 * 0 + _ ≤ _; exact Nat.le_of_eq rfl) (hb hby own_ls8_d6) (fun _ _ => ⟨rfl, s102, (by decide : 0 + 0 ≤ _), (by decide : 0 + 0 ≤ _)⟩)
  dsimp only [Pt.U, Pt.locs, Pt.cells, Pt.slots] at X105 l105 y105 z105 st105 hQ105
  subst l105 y105 z105
  obtain ⟨rfl, N105q, s105⟩ := hQ105
  have N105 := Fr.app N102 N105q
  have pp106 : ∀ t, Steps p.tables e below (T105.setTop (mkF m 9 #[.val (.ref a1), .val (.ref a2), .val (.ref a3), .val (.int p4), .val (.int p5), .val .null, .val .null, .val (.ref el), .val (.ref el)] [(.ref el)])) t → Steps p.tables e below (s₁.setTop (entryFrame m #[(.ref a1), (.ref a2), (.ref a3), (.int p4), (.int p5), .null, .null, (.ref el), (.ref el)] 9)) t := fun t k => pp104 t (st105 t k)
  have pp107 : ∀ t, Steps p.tables e below (T105.setTop (mkF m 13 #[.val (.ref a1), .val (.ref a2), .val (.ref a3), .val (.int p4), .val (.int p5), .val .null, .val .null, .val (.ref el), .val (.ref el)] [(.ref el)])) t → Steps p.tables e below (s₁.setTop (entryFrame m #[(.ref a1), (.ref a2), (.ref a3), (.int p4), (.int p5), .null, .null, (.ref el), (.ref el)] 9)) t := fun t k => pp106 t (by
    refine XS.astore X105.here hx rfl (hb hby own_ls8_d9) rfl rfl (l' := #[.val (.ref a1), .val (.ref a2), .val (.ref a3), .val (.int p4), .val (.int p5), .val .null, .val .null, .val (.ref el), .val (.ref el)]) rfl ?_
    show Steps p.tables e below (T105.setTop (mkF m 11 #[.val (.ref a1), .val (.ref a2), .val (.ref a3), .val (.int p4), .val (.int p5), .val .null, .val .null, .val (.ref el), .val (.ref el)] [])) _
    refine XS.aload X105.here hx rfl (hb hby own_ls8_d11) rfl rfl ?_
    show Steps p.tables e below (T105.setTop (mkF m 13 #[.val (.ref a1), .val (.ref a2), .val (.ref a3), .val (.int p4), .val (.int p5), .val .null, .val .null, .val (.ref el), .val (.ref el)] [(.ref el)])) _
    exact k)
  obtain ⟨_, _, ⟨T108, L108, k108, n108⟩, -, X108, ⟨Lc108, hQ108, l108, y108, z108⟩, st108⟩ := Jvm.LawKit.callS X105 hx (y := (⟨"java/util/List", "copyOf", "(Ljava/util/Collection;)Ljava/util/List;"⟩ : MethodName)) hown (mvT hZ (hw _ (List.mem_of_getElem? (i := 36) rfl))) (mvT hZ (hw _ (List.mem_of_getElem? (i := 37) rfl))) (mvT hZ (hw _ (List.mem_of_getElem? (i := 21) rfl))) (mvT hZ (hw _ (List.mem_of_getElem? (i := 38) rfl))) (by decide) (backOf (W := 0) (own_co l Z a0 hw [] el h0 n0 Z0 E1 F1) hZ (hw _ (List.mem_of_getElem? (i := 38) rfl)) (hw _ (List.mem_of_getElem? (i := 21) rfl)) (by decide) (by decide)) (g := (mkF m 13 #[.val (.ref a1), .val (.ref a2), .val (.ref a3), .val (.int p4), .val (.int p5), .val .null, .val .null, .val (.ref el), .val (.ref el)] [(.ref el)])) rfl (by rw [hml]; rfl) (argsL := [(.ref el)]) (rest := []) (lenOf pd__Ljava_util_Collection__Ljava_util_List_ rfl) rfl (by show 2 * 0 + _ ≤ _; exact Nat.le_of_eq rfl) (hb hby own_ls8_d13) (fun _ _ => ⟨rfl, s105, (by decide : 0 + 0 ≤ _), (by decide : 0 + 0 ≤ _)⟩)
  dsimp only [Pt.U, Pt.locs, Pt.cells, Pt.slots] at X108 l108 y108 z108 st108 hQ108
  subst l108 y108 z108
  obtain ⟨rfl, N108q, s108⟩ := hQ108
  have N108 := Fr.app N105 N108q
  have pp109 : ∀ t, Steps p.tables e below (T108.setTop (mkF m 16 #[.val (.ref a1), .val (.ref a2), .val (.ref a3), .val (.int p4), .val (.int p5), .val .null, .val .null, .val (.ref el), .val (.ref el)] [(.ref el)])) t → Steps p.tables e below (s₁.setTop (entryFrame m #[(.ref a1), (.ref a2), (.ref a3), (.int p4), (.int p5), .null, .null, (.ref el), (.ref el)] 9)) t := fun t k => pp107 t (st108 t k)
  have pp110 : ∀ t, Steps p.tables e below (T108.setTop (mkF m 20 #[.val (.ref a1), .val (.ref a2), .val (.ref a3), .val (.int p4), .val (.int p5), .val .null, .val .null, .val (.ref el), .val (.ref el)] [(.ref a2), (.ref a1)])) t → Steps p.tables e below (s₁.setTop (entryFrame m #[(.ref a1), (.ref a2), (.ref a3), (.int p4), (.int p5), .null, .null, (.ref el), (.ref el)] 9)) t := fun t k => pp109 t (by
    refine XS.astore X108.here hx rfl (hb hby own_ls8_d16) rfl rfl (l' := #[.val (.ref a1), .val (.ref a2), .val (.ref a3), .val (.int p4), .val (.int p5), .val .null, .val .null, .val (.ref el), .val (.ref el)]) rfl ?_
    show Steps p.tables e below (T108.setTop (mkF m 18 #[.val (.ref a1), .val (.ref a2), .val (.ref a3), .val (.int p4), .val (.int p5), .val .null, .val .null, .val (.ref el), .val (.ref el)] [])) _
    refine XS.aloadN X108.here hx rfl (hb hby own_ls8_d18) rfl rfl ?_
    show Steps p.tables e below (T108.setTop (mkF m 19 #[.val (.ref a1), .val (.ref a2), .val (.ref a3), .val (.int p4), .val (.int p5), .val .null, .val .null, .val (.ref el), .val (.ref el)] [(.ref a1)])) _
    refine XS.aloadN X108.here hx rfl (hb hby own_ls8_d19) rfl rfl ?_
    show Steps p.tables e below (T108.setTop (mkF m 20 #[.val (.ref a1), .val (.ref a2), .val (.ref a3), .val (.int p4), .val (.int p5), .val .null, .val .null, .val (.ref el), .val (.ref el)] [(.ref a2), (.ref a1)])) _
    exact k)
  obtain ⟨T111, h111, X111, e111, W111, st111⟩ := putF X108 hx hZ hown (host := "") (Or.inl (hw _ (List.mem_of_getElem? (i := 54) rfl))) Via.refl s108 G0 Ea (Or.inr ⟨(hw _ (List.mem_of_getElem? (i := 55) rfl)), rfl, hnm⟩) (hw _ (List.mem_of_getElem? (i := 5) rfl)) (ty := (.object "java/lang/String")) (by decide) rfl rfl (g := (mkF m 20 #[.val (.ref a1), .val (.ref a2), .val (.ref a3), .val (.int p4), .val (.int p5), .val .null, .val .null, .val (.ref el), .val (.ref el)] [(.ref a2), (.ref a1)])) rfl rfl (hb hby own_ls8_d20)
  have Fw111 := G0.same W111
  have N111 := Fr.snoc X111 N108 g_a1
  have pp112 : ∀ t, Steps p.tables e below (T111.setTop (mkF m 23 #[.val (.ref a1), .val (.ref a2), .val (.ref a3), .val (.int p4), .val (.int p5), .val .null, .val .null, .val (.ref el), .val (.ref el)] [])) t → Steps p.tables e below (s₁.setTop (entryFrame m #[(.ref a1), (.ref a2), (.ref a3), (.int p4), (.int p5), .null, .null, (.ref el), (.ref el)] 9)) t := fun t k => pp110 t (st111 t k)
  have pp113 : ∀ t, Steps p.tables e below (T111.setTop (mkF m 25 #[.val (.ref a1), .val (.ref a2), .val (.ref a3), .val (.int p4), .val (.int p5), .val .null, .val .null, .val (.ref el), .val (.ref el)] [(.ref a3), (.ref a1)])) t → Steps p.tables e below (s₁.setTop (entryFrame m #[(.ref a1), (.ref a2), (.ref a3), (.int p4), (.int p5), .null, .null, (.ref el), (.ref el)] 9)) t := fun t k => pp112 t (by
    refine XS.aloadN X111.here hx rfl (hb hby own_ls8_d23) rfl rfl ?_
    show Steps p.tables e below (T111.setTop (mkF m 24 #[.val (.ref a1), .val (.ref a2), .val (.ref a3), .val (.int p4), .val (.int p5), .val .null, .val .null, .val (.ref el), .val (.ref el)] [(.ref a1)])) _
    refine XS.aloadN X111.here hx rfl (hb hby own_ls8_d24) rfl rfl ?_
    show Steps p.tables e below (T111.setTop (mkF m 25 #[.val (.ref a1), .val (.ref a2), .val (.ref a3), .val (.int p4), .val (.int p5), .val .null, .val .null, .val (.ref el), .val (.ref el)] [(.ref a3), (.ref a1)])) _
    exact k)
  obtain ⟨T114, h114, X114, e114, W114, st114⟩ := putF X111 hx hZ hown (host := "") (Or.inl (hw _ (List.mem_of_getElem? (i := 56) rfl))) Via.refl e111 (G1.other W111 (Or.inr (slot_ne (Or.inr (hw _ (List.mem_of_getElem? (i := 57) rfl))) (Or.inr (hw _ (List.mem_of_getElem? (i := 55) rfl))) (by decide) (t := (.object "java/lang/String")) (t' := (.object "java/lang/String")) (by decide) (by decide)))) (Ea.wr W111) (Or.inr ⟨(hw _ (List.mem_of_getElem? (i := 57) rfl)), rfl, hnm⟩) (hw _ (List.mem_of_getElem? (i := 5) rfl)) (ty := (.object "java/lang/String")) (by decide) rfl rfl (g := (mkF m 25 #[.val (.ref a1), .val (.ref a2), .val (.ref a3), .val (.int p4), .val (.int p5), .val .null, .val .null, .val (.ref el), .val (.ref el)] [(.ref a3), (.ref a1)])) rfl rfl (hb hby own_ls8_d25)
  have Fw114 := (G1.other W111 (Or.inr (slot_ne (Or.inr (hw _ (List.mem_of_getElem? (i := 57) rfl))) (Or.inr (hw _ (List.mem_of_getElem? (i := 55) rfl))) (by decide) (t := (.object "java/lang/String")) (t' := (.object "java/lang/String")) (by decide) (by decide)))).same W114
  have N114 := Fr.snoc X114 N111 g_a1
  have pp115 : ∀ t, Steps p.tables e below (T114.setTop (mkF m 28 #[.val (.ref a1), .val (.ref a2), .val (.ref a3), .val (.int p4), .val (.int p5), .val .null, .val .null, .val (.ref el), .val (.ref el)] [])) t → Steps p.tables e below (s₁.setTop (entryFrame m #[(.ref a1), (.ref a2), (.ref a3), (.int p4), (.int p5), .null, .null, (.ref el), (.ref el)] 9)) t := fun t k => pp113 t (st114 t k)
  have pp116 : ∀ t, Steps p.tables e below (T114.setTop (mkF m 30 #[.val (.ref a1), .val (.ref a2), .val (.ref a3), .val (.int p4), .val (.int p5), .val .null, .val .null, .val (.ref el), .val (.ref el)] [(.int p4), (.ref a1)])) t → Steps p.tables e below (s₁.setTop (entryFrame m #[(.ref a1), (.ref a2), (.ref a3), (.int p4), (.int p5), .null, .null, (.ref el), (.ref el)] 9)) t := fun t k => pp115 t (by
    refine XS.aloadN X114.here hx rfl (hb hby own_ls8_d28) rfl rfl ?_
    show Steps p.tables e below (T114.setTop (mkF m 29 #[.val (.ref a1), .val (.ref a2), .val (.ref a3), .val (.int p4), .val (.int p5), .val .null, .val .null, .val (.ref el), .val (.ref el)] [(.ref a1)])) _
    refine XS.iloadN X114.here hx rfl (hb hby own_ls8_d29) rfl ?_
    show Steps p.tables e below (T114.setTop (mkF m 30 #[.val (.ref a1), .val (.ref a2), .val (.ref a3), .val (.int p4), .val (.int p5), .val .null, .val .null, .val (.ref el), .val (.ref el)] [(.int p4), (.ref a1)])) _
    exact k)
  obtain ⟨T117, h117, X117, e117, W117, st117⟩ := putFN X114 hx hZ hown (hw _ (List.mem_of_getElem? (i := 58) rfl)) Via.refl e114 ((G2.other W111 (Or.inr (slot_ne (Or.inr (hw _ (List.mem_of_getElem? (i := 59) rfl))) (Or.inr (hw _ (List.mem_of_getElem? (i := 55) rfl))) (by decide) (t := .boolean) (t' := (.object "java/lang/String")) (by decide) (by decide)))).other W114 (Or.inr (slot_ne (Or.inr (hw _ (List.mem_of_getElem? (i := 59) rfl))) (Or.inr (hw _ (List.mem_of_getElem? (i := 57) rfl))) (by decide) (t := .boolean) (t' := (.object "java/lang/String")) (by decide) (by decide)))) ((Ea.wr W111).wr W114) (Or.inr ⟨(hw _ (List.mem_of_getElem? (i := 59) rfl)), rfl, hnm⟩) (hw _ (List.mem_of_getElem? (i := 5) rfl)) (ty := .boolean) (v' := (.int (nar .boolean p4))) (by decide) rfl (fits_nar_bool _) (g := (mkF m 30 #[.val (.ref a1), .val (.ref a2), .val (.ref a3), .val (.int p4), .val (.int p5), .val .null, .val .null, .val (.ref el), .val (.ref el)] [(.int p4), (.ref a1)])) rfl rfl (hb hby own_ls8_d30)
  have Fw117 := ((G2.other W111 (Or.inr (slot_ne (Or.inr (hw _ (List.mem_of_getElem? (i := 59) rfl))) (Or.inr (hw _ (List.mem_of_getElem? (i := 55) rfl))) (by decide) (t := .boolean) (t' := (.object "java/lang/String")) (by decide) (by decide)))).other W114 (Or.inr (slot_ne (Or.inr (hw _ (List.mem_of_getElem? (i := 59) rfl))) (Or.inr (hw _ (List.mem_of_getElem? (i := 57) rfl))) (by decide) (t := .boolean) (t' := (.object "java/lang/String")) (by decide) (by decide)))).same W117
  have N117 := Fr.snoc X117 N114 g_a1
  have pp118 : ∀ t, Steps p.tables e below (T117.setTop (mkF m 33 #[.val (.ref a1), .val (.ref a2), .val (.ref a3), .val (.int p4), .val (.int p5), .val .null, .val .null, .val (.ref el), .val (.ref el)] [])) t → Steps p.tables e below (s₁.setTop (entryFrame m #[(.ref a1), (.ref a2), (.ref a3), (.int p4), (.int p5), .null, .null, (.ref el), (.ref el)] 9)) t := fun t k => pp116 t (st117 t k)
  have pp119 : ∀ t, Steps p.tables e below (T117.setTop (mkF m 36 #[.val (.ref a1), .val (.ref a2), .val (.ref a3), .val (.int p4), .val (.int p5), .val .null, .val .null, .val (.ref el), .val (.ref el)] [(.int p5), (.ref a1)])) t → Steps p.tables e below (s₁.setTop (entryFrame m #[(.ref a1), (.ref a2), (.ref a3), (.int p4), (.int p5), .null, .null, (.ref el), (.ref el)] 9)) t := fun t k => pp118 t (by
    refine XS.aloadN X117.here hx rfl (hb hby own_ls8_d33) rfl rfl ?_
    show Steps p.tables e below (T117.setTop (mkF m 34 #[.val (.ref a1), .val (.ref a2), .val (.ref a3), .val (.int p4), .val (.int p5), .val .null, .val .null, .val (.ref el), .val (.ref el)] [(.ref a1)])) _
    refine XS.iload X117.here hx rfl (hb hby own_ls8_d34) rfl ?_
    show Steps p.tables e below (T117.setTop (mkF m 36 #[.val (.ref a1), .val (.ref a2), .val (.ref a3), .val (.int p4), .val (.int p5), .val .null, .val .null, .val (.ref el), .val (.ref el)] [(.int p5), (.ref a1)])) _
    exact k)
  obtain ⟨T120, h120, X120, e120, W120, st120⟩ := putFN X117 hx hZ hown (hw _ (List.mem_of_getElem? (i := 60) rfl)) Via.refl e117 (((G3.other W111 (Or.inr (slot_ne (Or.inr (hw _ (List.mem_of_getElem? (i := 61) rfl))) (Or.inr (hw _ (List.mem_of_getElem? (i := 55) rfl))) (by decide) (t := .boolean) (t' := (.object "java/lang/String")) (by decide) (by decide)))).other W114 (Or.inr (slot_ne (Or.inr (hw _ (List.mem_of_getElem? (i := 61) rfl))) (Or.inr (hw _ (List.mem_of_getElem? (i := 57) rfl))) (by decide) (t := .boolean) (t' := (.object "java/lang/String")) (by decide) (by decide)))).other W117 (Or.inr (slot_ne (Or.inr (hw _ (List.mem_of_getElem? (i := 61) rfl))) (Or.inr (hw _ (List.mem_of_getElem? (i := 59) rfl))) (by decide) (t := .boolean) (t' := .boolean) (by decide) (by decide)))) (((Ea.wr W111).wr W114).wr W117) (Or.inr ⟨(hw _ (List.mem_of_getElem? (i := 61) rfl)), rfl, hnm⟩) (hw _ (List.mem_of_getElem? (i := 5) rfl)) (ty := .boolean) (v' := (.int (nar .boolean p5))) (by decide) rfl (fits_nar_bool _) (g := (mkF m 36 #[.val (.ref a1), .val (.ref a2), .val (.ref a3), .val (.int p4), .val (.int p5), .val .null, .val .null, .val (.ref el), .val (.ref el)] [(.int p5), (.ref a1)])) rfl rfl (hb hby own_ls8_d36)
  have Fw120 := (((G3.other W111 (Or.inr (slot_ne (Or.inr (hw _ (List.mem_of_getElem? (i := 61) rfl))) (Or.inr (hw _ (List.mem_of_getElem? (i := 55) rfl))) (by decide) (t := .boolean) (t' := (.object "java/lang/String")) (by decide) (by decide)))).other W114 (Or.inr (slot_ne (Or.inr (hw _ (List.mem_of_getElem? (i := 61) rfl))) (Or.inr (hw _ (List.mem_of_getElem? (i := 57) rfl))) (by decide) (t := .boolean) (t' := (.object "java/lang/String")) (by decide) (by decide)))).other W117 (Or.inr (slot_ne (Or.inr (hw _ (List.mem_of_getElem? (i := 61) rfl))) (Or.inr (hw _ (List.mem_of_getElem? (i := 59) rfl))) (by decide) (t := .boolean) (t' := .boolean) (by decide) (by decide)))).same W120
  have N120 := Fr.snoc X120 N117 g_a1
  have pp121 : ∀ t, Steps p.tables e below (T120.setTop (mkF m 39 #[.val (.ref a1), .val (.ref a2), .val (.ref a3), .val (.int p4), .val (.int p5), .val .null, .val .null, .val (.ref el), .val (.ref el)] [])) t → Steps p.tables e below (s₁.setTop (entryFrame m #[(.ref a1), (.ref a2), (.ref a3), (.int p4), (.int p5), .null, .null, (.ref el), (.ref el)] 9)) t := fun t k => pp119 t (st120 t k)
  have pp122 : ∀ t, Steps p.tables e below (T120.setTop (mkF m 42 #[.val (.ref a1), .val (.ref a2), .val (.ref a3), .val (.int p4), .val (.int p5), .val .null, .val .null, .val (.ref el), .val (.ref el)] [.null, (.ref a1)])) t → Steps p.tables e below (s₁.setTop (entryFrame m #[(.ref a1), (.ref a2), (.ref a3), (.int p4), (.int p5), .null, .null, (.ref el), (.ref el)] 9)) t := fun t k => pp121 t (by
    refine XS.aloadN X120.here hx rfl (hb hby own_ls8_d39) rfl rfl ?_
    show Steps p.tables e below (T120.setTop (mkF m 40 #[.val (.ref a1), .val (.ref a2), .val (.ref a3), .val (.int p4), .val (.int p5), .val .null, .val .null, .val (.ref el), .val (.ref el)] [(.ref a1)])) _
    refine XS.aload X120.here hx rfl (hb hby own_ls8_d40) rfl rfl ?_
    show Steps p.tables e below (T120.setTop (mkF m 42 #[.val (.ref a1), .val (.ref a2), .val (.ref a3), .val (.int p4), .val (.int p5), .val .null, .val .null, .val (.ref el), .val (.ref el)] [.null, (.ref a1)])) _
    exact k)
  obtain ⟨T123, h123, X123, e123, W123, st123⟩ := putF X120 hx hZ hown (host := "") (Or.inl (hw _ (List.mem_of_getElem? (i := 62) rfl))) Via.refl e120 ((((G4.other W111 (Or.inr (slot_ne (Or.inr (hw _ (List.mem_of_getElem? (i := 63) rfl))) (Or.inr (hw _ (List.mem_of_getElem? (i := 55) rfl))) (by decide) (t := (.object "com/example/hallinta/hallinta/yang/type/YangType")) (t' := (.object "java/lang/String")) (by decide) (by decide)))).other W114 (Or.inr (slot_ne (Or.inr (hw _ (List.mem_of_getElem? (i := 63) rfl))) (Or.inr (hw _ (List.mem_of_getElem? (i := 57) rfl))) (by decide) (t := (.object "com/example/hallinta/hallinta/yang/type/YangType")) (t' := (.object "java/lang/String")) (by decide) (by decide)))).other W117 (Or.inr (slot_ne (Or.inr (hw _ (List.mem_of_getElem? (i := 63) rfl))) (Or.inr (hw _ (List.mem_of_getElem? (i := 59) rfl))) (by decide) (t := (.object "com/example/hallinta/hallinta/yang/type/YangType")) (t' := .boolean) (by decide) (by decide)))).other W120 (Or.inr (slot_ne (Or.inr (hw _ (List.mem_of_getElem? (i := 63) rfl))) (Or.inr (hw _ (List.mem_of_getElem? (i := 61) rfl))) (by decide) (t := (.object "com/example/hallinta/hallinta/yang/type/YangType")) (t' := .boolean) (by decide) (by decide)))) ((((Ea.wr W111).wr W114).wr W117).wr W120) (Or.inr ⟨(hw _ (List.mem_of_getElem? (i := 63) rfl)), rfl, hnm⟩) (hw _ (List.mem_of_getElem? (i := 5) rfl)) (ty := (.object "com/example/hallinta/hallinta/yang/type/YangType")) (by decide) rfl rfl (g := (mkF m 42 #[.val (.ref a1), .val (.ref a2), .val (.ref a3), .val (.int p4), .val (.int p5), .val .null, .val .null, .val (.ref el), .val (.ref el)] [.null, (.ref a1)])) rfl rfl (hb hby own_ls8_d42)
  have Fw123 := ((((G4.other W111 (Or.inr (slot_ne (Or.inr (hw _ (List.mem_of_getElem? (i := 63) rfl))) (Or.inr (hw _ (List.mem_of_getElem? (i := 55) rfl))) (by decide) (t := (.object "com/example/hallinta/hallinta/yang/type/YangType")) (t' := (.object "java/lang/String")) (by decide) (by decide)))).other W114 (Or.inr (slot_ne (Or.inr (hw _ (List.mem_of_getElem? (i := 63) rfl))) (Or.inr (hw _ (List.mem_of_getElem? (i := 57) rfl))) (by decide) (t := (.object "com/example/hallinta/hallinta/yang/type/YangType")) (t' := (.object "java/lang/String")) (by decide) (by decide)))).other W117 (Or.inr (slot_ne (Or.inr (hw _ (List.mem_of_getElem? (i := 63) rfl))) (Or.inr (hw _ (List.mem_of_getElem? (i := 59) rfl))) (by decide) (t := (.object "com/example/hallinta/hallinta/yang/type/YangType")) (t' := .boolean) (by decide) (by decide)))).other W120 (Or.inr (slot_ne (Or.inr (hw _ (List.mem_of_getElem? (i := 63) rfl))) (Or.inr (hw _ (List.mem_of_getElem? (i := 61) rfl))) (by decide) (t := (.object "com/example/hallinta/hallinta/yang/type/YangType")) (t' := .boolean) (by decide) (by decide)))).same W123
  have N123 := Fr.snoc X123 N120 g_a1
  have pp124 : ∀ t, Steps p.tables e below (T123.setTop (mkF m 45 #[.val (.ref a1), .val (.ref a2), .val (.ref a3), .val (.int p4), .val (.int p5), .val .null, .val .null, .val (.ref el), .val (.ref el)] [])) t → Steps p.tables e below (s₁.setTop (entryFrame m #[(.ref a1), (.ref a2), (.ref a3), (.int p4), (.int p5), .null, .null, (.ref el), (.ref el)] 9)) t := fun t k => pp122 t (st123 t k)
  have pp125 : ∀ t, Steps p.tables e below (T123.setTop (mkF m 48 #[.val (.ref a1), .val (.ref a2), .val (.ref a3), .val (.int p4), .val (.int p5), .val .null, .val .null, .val (.ref el), .val (.ref el)] [.null, (.ref a1)])) t → Steps p.tables e below (s₁.setTop (entryFrame m #[(.ref a1), (.ref a2), (.ref a3), (.int p4), (.int p5), .null, .null, (.ref el), (.ref el)] 9)) t := fun t k => pp124 t (by
    refine XS.aloadN X123.here hx rfl (hb hby own_ls8_d45) rfl rfl ?_
    show Steps p.tables e below (T123.setTop (mkF m 46 #[.val (.ref a1), .val (.ref a2), .val (.ref a3), .val (.int p4), .val (.int p5), .val .null, .val .null, .val (.ref el), .val (.ref el)] [(.ref a1)])) _
    refine XS.aload X123.here hx rfl (hb hby own_ls8_d46) rfl rfl ?_
    show Steps p.tables e below (T123.setTop (mkF m 48 #[.val (.ref a1), .val (.ref a2), .val (.ref a3), .val (.int p4), .val (.int p5), .val .null, .val .null, .val (.ref el), .val (.ref el)] [.null, (.ref a1)])) _
    exact k)
  obtain ⟨T126, h126, X126, e126, W126, st126⟩ := putF X123 hx hZ hown (host := "") (Or.inl (hw _ (List.mem_of_getElem? (i := 64) rfl))) Via.refl e123 (((((G5.other W111 (Or.inr (slot_ne (Or.inr (hw _ (List.mem_of_getElem? (i := 65) rfl))) (Or.inr (hw _ (List.mem_of_getElem? (i := 55) rfl))) (by decide) (t := (.object "com/example/hallinta/hallinta/yang/schema/Default")) (t' := (.object "java/lang/String")) (by decide) (by decide)))).other W114 (Or.inr (slot_ne (Or.inr (hw _ (List.mem_of_getElem? (i := 65) rfl))) (Or.inr (hw _ (List.mem_of_getElem? (i := 57) rfl))) (by decide) (t := (.object "com/example/hallinta/hallinta/yang/schema/Default")) (t' := (.object "java/lang/String")) (by decide) (by decide)))).other W117 (Or.inr (slot_ne (Or.inr (hw _ (List.mem_of_getElem? (i := 65) rfl))) (Or.inr (hw _ (List.mem_of_getElem? (i := 59) rfl))) (by decide) (t := (.object "com/example/hallinta/hallinta/yang/schema/Default")) (t' := .boolean) (by decide) (by decide)))).other W120 (Or.inr (slot_ne (Or.inr (hw _ (List.mem_of_getElem? (i := 65) rfl))) (Or.inr (hw _ (List.mem_of_getElem? (i := 61) rfl))) (by decide) (t := (.object "com/example/hallinta/hallinta/yang/schema/Default")) (t' := .boolean) (by decide) (by decide)))).other W123 (Or.inr (slot_ne (Or.inr (hw _ (List.mem_of_getElem? (i := 65) rfl))) (Or.inr (hw _ (List.mem_of_getElem? (i := 63) rfl))) (by decide) (t := (.object "com/example/hallinta/hallinta/yang/schema/Default")) (t' := (.object "com/example/hallinta/hallinta/yang/type/YangType")) (by decide) (by decide)))) (((((Ea.wr W111).wr W114).wr W117).wr W120).wr W123) (Or.inr ⟨(hw _ (List.mem_of_getElem? (i := 65) rfl)), rfl, hnm⟩) (hw _ (List.mem_of_getElem? (i := 5) rfl)) (ty := (.object "com/example/hallinta/hallinta/yang/schema/Default")) (by decide) rfl rfl (g := (mkF m 48 #[.val (.ref a1), .val (.ref a2), .val (.ref a3), .val (.int p4), .val (.int p5), .val .null, .val .null, .val (.ref el), .val (.ref el)] [.null, (.ref a1)])) rfl rfl (hb hby own_ls8_d48)
  have Fw126 := (((((G5.other W111 (Or.inr (slot_ne (Or.inr (hw _ (List.mem_of_getElem? (i := 65) rfl))) (Or.inr (hw _ (List.mem_of_getElem? (i := 55) rfl))) (by decide) (t := (.object "com/example/hallinta/hallinta/yang/schema/Default")) (t' := (.object "java/lang/String")) (by decide) (by decide)))).other W114 (Or.inr (slot_ne (Or.inr (hw _ (List.mem_of_getElem? (i := 65) rfl))) (Or.inr (hw _ (List.mem_of_getElem? (i := 57) rfl))) (by decide) (t := (.object "com/example/hallinta/hallinta/yang/schema/Default")) (t' := (.object "java/lang/String")) (by decide) (by decide)))).other W117 (Or.inr (slot_ne (Or.inr (hw _ (List.mem_of_getElem? (i := 65) rfl))) (Or.inr (hw _ (List.mem_of_getElem? (i := 59) rfl))) (by decide) (t := (.object "com/example/hallinta/hallinta/yang/schema/Default")) (t' := .boolean) (by decide) (by decide)))).other W120 (Or.inr (slot_ne (Or.inr (hw _ (List.mem_of_getElem? (i := 65) rfl))) (Or.inr (hw _ (List.mem_of_getElem? (i := 61) rfl))) (by decide) (t := (.object "com/example/hallinta/hallinta/yang/schema/Default")) (t' := .boolean) (by decide) (by decide)))).other W123 (Or.inr (slot_ne (Or.inr (hw _ (List.mem_of_getElem? (i := 65) rfl))) (Or.inr (hw _ (List.mem_of_getElem? (i := 63) rfl))) (by decide) (t := (.object "com/example/hallinta/hallinta/yang/schema/Default")) (t' := (.object "com/example/hallinta/hallinta/yang/type/YangType")) (by decide) (by decide)))).same W126
  have N126 := Fr.snoc X126 N123 g_a1
  have pp127 : ∀ t, Steps p.tables e below (T126.setTop (mkF m 51 #[.val (.ref a1), .val (.ref a2), .val (.ref a3), .val (.int p4), .val (.int p5), .val .null, .val .null, .val (.ref el), .val (.ref el)] [])) t → Steps p.tables e below (s₁.setTop (entryFrame m #[(.ref a1), (.ref a2), (.ref a3), (.int p4), (.int p5), .null, .null, (.ref el), (.ref el)] 9)) t := fun t k => pp125 t (st126 t k)
  have pp128 : ∀ t, Steps p.tables e below (T126.setTop (mkF m 54 #[.val (.ref a1), .val (.ref a2), .val (.ref a3), .val (.int p4), .val (.int p5), .val .null, .val .null, .val (.ref el), .val (.ref el)] [(.ref el), (.ref a1)])) t → Steps p.tables e below (s₁.setTop (entryFrame m #[(.ref a1), (.ref a2), (.ref a3), (.int p4), (.int p5), .null, .null, (.ref el), (.ref el)] 9)) t := fun t k => pp127 t (by
    refine XS.aloadN X126.here hx rfl (hb hby own_ls8_d51) rfl rfl ?_
    show Steps p.tables e below (T126.setTop (mkF m 52 #[.val (.ref a1), .val (.ref a2), .val (.ref a3), .val (.int p4), .val (.int p5), .val .null, .val .null, .val (.ref el), .val (.ref el)] [(.ref a1)])) _
    refine XS.aload X126.here hx rfl (hb hby own_ls8_d52) rfl rfl ?_
    show Steps p.tables e below (T126.setTop (mkF m 54 #[.val (.ref a1), .val (.ref a2), .val (.ref a3), .val (.int p4), .val (.int p5), .val .null, .val .null, .val (.ref el), .val (.ref el)] [(.ref el), (.ref a1)])) _
    exact k)
  obtain ⟨T129, h129, X129, e129, W129, st129⟩ := putF X126 hx hZ hown (host := "") (Or.inl (hw _ (List.mem_of_getElem? (i := 66) rfl))) Via.refl e126 ((((((G6.other W111 (Or.inr (slot_ne (Or.inr (hw _ (List.mem_of_getElem? (i := 67) rfl))) (Or.inr (hw _ (List.mem_of_getElem? (i := 55) rfl))) (by decide) (t := (.object "java/util/List")) (t' := (.object "java/lang/String")) (by decide) (by decide)))).other W114 (Or.inr (slot_ne (Or.inr (hw _ (List.mem_of_getElem? (i := 67) rfl))) (Or.inr (hw _ (List.mem_of_getElem? (i := 57) rfl))) (by decide) (t := (.object "java/util/List")) (t' := (.object "java/lang/String")) (by decide) (by decide)))).other W117 (Or.inr (slot_ne (Or.inr (hw _ (List.mem_of_getElem? (i := 67) rfl))) (Or.inr (hw _ (List.mem_of_getElem? (i := 59) rfl))) (by decide) (t := (.object "java/util/List")) (t' := .boolean) (by decide) (by decide)))).other W120 (Or.inr (slot_ne (Or.inr (hw _ (List.mem_of_getElem? (i := 67) rfl))) (Or.inr (hw _ (List.mem_of_getElem? (i := 61) rfl))) (by decide) (t := (.object "java/util/List")) (t' := .boolean) (by decide) (by decide)))).other W123 (Or.inr (slot_ne (Or.inr (hw _ (List.mem_of_getElem? (i := 67) rfl))) (Or.inr (hw _ (List.mem_of_getElem? (i := 63) rfl))) (by decide) (t := (.object "java/util/List")) (t' := (.object "com/example/hallinta/hallinta/yang/type/YangType")) (by decide) (by decide)))).other W126 (Or.inr (slot_ne (Or.inr (hw _ (List.mem_of_getElem? (i := 67) rfl))) (Or.inr (hw _ (List.mem_of_getElem? (i := 65) rfl))) (by decide) (t := (.object "java/util/List")) (t' := (.object "com/example/hallinta/hallinta/yang/schema/Default")) (by decide) (by decide)))) ((((((Ea.wr W111).wr W114).wr W117).wr W120).wr W123).wr W126) (Or.inr ⟨(hw _ (List.mem_of_getElem? (i := 67) rfl)), rfl, hnm⟩) (hw _ (List.mem_of_getElem? (i := 5) rfl)) (ty := (.object "java/util/List")) (by decide) rfl rfl (g := (mkF m 54 #[.val (.ref a1), .val (.ref a2), .val (.ref a3), .val (.int p4), .val (.int p5), .val .null, .val .null, .val (.ref el), .val (.ref el)] [(.ref el), (.ref a1)])) rfl rfl (hb hby own_ls8_d54)
  have Fw129 := ((((((G6.other W111 (Or.inr (slot_ne (Or.inr (hw _ (List.mem_of_getElem? (i := 67) rfl))) (Or.inr (hw _ (List.mem_of_getElem? (i := 55) rfl))) (by decide) (t := (.object "java/util/List")) (t' := (.object "java/lang/String")) (by decide) (by decide)))).other W114 (Or.inr (slot_ne (Or.inr (hw _ (List.mem_of_getElem? (i := 67) rfl))) (Or.inr (hw _ (List.mem_of_getElem? (i := 57) rfl))) (by decide) (t := (.object "java/util/List")) (t' := (.object "java/lang/String")) (by decide) (by decide)))).other W117 (Or.inr (slot_ne (Or.inr (hw _ (List.mem_of_getElem? (i := 67) rfl))) (Or.inr (hw _ (List.mem_of_getElem? (i := 59) rfl))) (by decide) (t := (.object "java/util/List")) (t' := .boolean) (by decide) (by decide)))).other W120 (Or.inr (slot_ne (Or.inr (hw _ (List.mem_of_getElem? (i := 67) rfl))) (Or.inr (hw _ (List.mem_of_getElem? (i := 61) rfl))) (by decide) (t := (.object "java/util/List")) (t' := .boolean) (by decide) (by decide)))).other W123 (Or.inr (slot_ne (Or.inr (hw _ (List.mem_of_getElem? (i := 67) rfl))) (Or.inr (hw _ (List.mem_of_getElem? (i := 63) rfl))) (by decide) (t := (.object "java/util/List")) (t' := (.object "com/example/hallinta/hallinta/yang/type/YangType")) (by decide) (by decide)))).other W126 (Or.inr (slot_ne (Or.inr (hw _ (List.mem_of_getElem? (i := 67) rfl))) (Or.inr (hw _ (List.mem_of_getElem? (i := 65) rfl))) (by decide) (t := (.object "java/util/List")) (t' := (.object "com/example/hallinta/hallinta/yang/schema/Default")) (by decide) (by decide)))).same W129
  have N129 := Fr.snoc X129 N126 g_a1
  have pp130 : ∀ t, Steps p.tables e below (T129.setTop (mkF m 57 #[.val (.ref a1), .val (.ref a2), .val (.ref a3), .val (.int p4), .val (.int p5), .val .null, .val .null, .val (.ref el), .val (.ref el)] [])) t → Steps p.tables e below (s₁.setTop (entryFrame m #[(.ref a1), (.ref a2), (.ref a3), (.int p4), (.int p5), .null, .null, (.ref el), (.ref el)] 9)) t := fun t k => pp128 t (st129 t k)
  have pp131 : ∀ t, Steps p.tables e below (T129.setTop (mkF m 60 #[.val (.ref a1), .val (.ref a2), .val (.ref a3), .val (.int p4), .val (.int p5), .val .null, .val .null, .val (.ref el), .val (.ref el)] [(.ref el), (.ref a1)])) t → Steps p.tables e below (s₁.setTop (entryFrame m #[(.ref a1), (.ref a2), (.ref a3), (.int p4), (.int p5), .null, .null, (.ref el), (.ref el)] 9)) t := fun t k => pp130 t (by
    refine XS.aloadN X129.here hx rfl (hb hby own_ls8_d57) rfl rfl ?_
    show Steps p.tables e below (T129.setTop (mkF m 58 #[.val (.ref a1), .val (.ref a2), .val (.ref a3), .val (.int p4), .val (.int p5), .val .null, .val .null, .val (.ref el), .val (.ref el)] [(.ref a1)])) _
    refine XS.aload X129.here hx rfl (hb hby own_ls8_d58) rfl rfl ?_
    show Steps p.tables e below (T129.setTop (mkF m 60 #[.val (.ref a1), .val (.ref a2), .val (.ref a3), .val (.int p4), .val (.int p5), .val .null, .val .null, .val (.ref el), .val (.ref el)] [(.ref el), (.ref a1)])) _
    exact k)
  obtain ⟨T132, h132, X132, e132, W132, st132⟩ := putF X129 hx hZ hown (host := "") (Or.inl (hw _ (List.mem_of_getElem? (i := 68) rfl))) Via.refl e129 (((((((G7.other W111 (Or.inr (slot_ne (Or.inr (hw _ (List.mem_of_getElem? (i := 69) rfl))) (Or.inr (hw _ (List.mem_of_getElem? (i := 55) rfl))) (by decide) (t := (.object "java/util/List")) (t' := (.object "java/lang/String")) (by decide) (by decide)))).other W114 (Or.inr (slot_ne (Or.inr (hw _ (List.mem_of_getElem? (i := 69) rfl))) (Or.inr (hw _ (List.mem_of_getElem? (i := 57) rfl))) (by decide) (t := (.object "java/util/List")) (t' := (.object "java/lang/String")) (by decide) (by decide)))).other W117 (Or.inr (slot_ne (Or.inr (hw _ (List.mem_of_getElem? (i := 69) rfl))) (Or.inr (hw _ (List.mem_of_getElem? (i := 59) rfl))) (by decide) (t := (.object "java/util/List")) (t' := .boolean) (by decide) (by decide)))).other W120 (Or.inr (slot_ne (Or.inr (hw _ (List.mem_of_getElem? (i := 69) rfl))) (Or.inr (hw _ (List.mem_of_getElem? (i := 61) rfl))) (by decide) (t := (.object "java/util/List")) (t' := .boolean) (by decide) (by decide)))).other W123 (Or.inr (slot_ne (Or.inr (hw _ (List.mem_of_getElem? (i := 69) rfl))) (Or.inr (hw _ (List.mem_of_getElem? (i := 63) rfl))) (by decide) (t := (.object "java/util/List")) (t' := (.object "com/example/hallinta/hallinta/yang/type/YangType")) (by decide) (by decide)))).other W126 (Or.inr (slot_ne (Or.inr (hw _ (List.mem_of_getElem? (i := 69) rfl))) (Or.inr (hw _ (List.mem_of_getElem? (i := 65) rfl))) (by decide) (t := (.object "java/util/List")) (t' := (.object "com/example/hallinta/hallinta/yang/schema/Default")) (by decide) (by decide)))).other W129 (Or.inr (slot_ne (Or.inr (hw _ (List.mem_of_getElem? (i := 69) rfl))) (Or.inr (hw _ (List.mem_of_getElem? (i := 67) rfl))) (by decide) (t := (.object "java/util/List")) (t' := (.object "java/util/List")) (by decide) (by decide)))) (((((((Ea.wr W111).wr W114).wr W117).wr W120).wr W123).wr W126).wr W129) (Or.inr ⟨(hw _ (List.mem_of_getElem? (i := 69) rfl)), rfl, hnm⟩) (hw _ (List.mem_of_getElem? (i := 5) rfl)) (ty := (.object "java/util/List")) (by decide) rfl rfl (g := (mkF m 60 #[.val (.ref a1), .val (.ref a2), .val (.ref a3), .val (.int p4), .val (.int p5), .val .null, .val .null, .val (.ref el), .val (.ref el)] [(.ref el), (.ref a1)])) rfl rfl (hb hby own_ls8_d60)
  have Fw132 := (((((((G7.other W111 (Or.inr (slot_ne (Or.inr (hw _ (List.mem_of_getElem? (i := 69) rfl))) (Or.inr (hw _ (List.mem_of_getElem? (i := 55) rfl))) (by decide) (t := (.object "java/util/List")) (t' := (.object "java/lang/String")) (by decide) (by decide)))).other W114 (Or.inr (slot_ne (Or.inr (hw _ (List.mem_of_getElem? (i := 69) rfl))) (Or.inr (hw _ (List.mem_of_getElem? (i := 57) rfl))) (by decide) (t := (.object "java/util/List")) (t' := (.object "java/lang/String")) (by decide) (by decide)))).other W117 (Or.inr (slot_ne (Or.inr (hw _ (List.mem_of_getElem? (i := 69) rfl))) (Or.inr (hw _ (List.mem_of_getElem? (i := 59) rfl))) (by decide) (t := (.object "java/util/List")) (t' := .boolean) (by decide) (by decide)))).other W120 (Or.inr (slot_ne (Or.inr (hw _ (List.mem_of_getElem? (i := 69) rfl))) (Or.inr (hw _ (List.mem_of_getElem? (i := 61) rfl))) (by decide) (t := (.object "java/util/List")) (t' := .boolean) (by decide) (by decide)))).other W123 (Or.inr (slot_ne (Or.inr (hw _ (List.mem_of_getElem? (i := 69) rfl))) (Or.inr (hw _ (List.mem_of_getElem? (i := 63) rfl))) (by decide) (t := (.object "java/util/List")) (t' := (.object "com/example/hallinta/hallinta/yang/type/YangType")) (by decide) (by decide)))).other W126 (Or.inr (slot_ne (Or.inr (hw _ (List.mem_of_getElem? (i := 69) rfl))) (Or.inr (hw _ (List.mem_of_getElem? (i := 65) rfl))) (by decide) (t := (.object "java/util/List")) (t' := (.object "com/example/hallinta/hallinta/yang/schema/Default")) (by decide) (by decide)))).other W129 (Or.inr (slot_ne (Or.inr (hw _ (List.mem_of_getElem? (i := 69) rfl))) (Or.inr (hw _ (List.mem_of_getElem? (i := 67) rfl))) (by decide) (t := (.object "java/util/List")) (t' := (.object "java/util/List")) (by decide) (by decide)))).same W132
  have N132 := Fr.snoc X132 N129 g_a1
  have pp133 : ∀ t, Steps p.tables e below (T132.setTop (mkF m 63 #[.val (.ref a1), .val (.ref a2), .val (.ref a3), .val (.int p4), .val (.int p5), .val .null, .val .null, .val (.ref el), .val (.ref el)] [])) t → Steps p.tables e below (s₁.setTop (entryFrame m #[(.ref a1), (.ref a2), (.ref a3), (.int p4), (.int p5), .null, .null, (.ref el), (.ref el)] 9)) t := fun t k => pp131 t (st132 t k)
  obtain ⟨fs, hr, hrun, hended, hW, hsame⟩ := X132.leave (v := none) (fun _ => rfl)
  refine ⟨_, _, pp133 _ ?_, hrun, hended, _, _, rfl, ?_, ⟨_, rfl⟩, hW, hsame.mono (by decide) (by decide)⟩
  · exact X132.returnOut hx Bd.returns (hb hby own_ls8_d63) hr
  · show Q_own_ls8 Z a1 a2 a3 p4 p5 el u0 u1 u2 u3 u4 u5 u6 u7 h0 n0 _ T132.heap _
    rw [e132]
    exact ⟨rfl, N132, (((((((((Keep.refl h0 [a1]).wr W111 (Or.inl (List.mem_of_getElem? (i := 0) rfl))).wr W114 (Or.inl (List.mem_of_getElem? (i := 0) rfl))).wr W117 (Or.inl (List.mem_of_getElem? (i := 0) rfl))).wr W120 (Or.inl (List.mem_of_getElem? (i := 0) rfl))).wr W123 (Or.inl (List.mem_of_getElem? (i := 0) rfl))).wr W126 (Or.inl (List.mem_of_getElem? (i := 0) rfl))).wr W129 (Or.inl (List.mem_of_getElem? (i := 0) rfl))).wr W132 (Or.inl (List.mem_of_getElem? (i := 0) rfl))), ((((((((Ea.wr W111).wr W114).wr W117).wr W120).wr W123).wr W126).wr W129).wr W132), (((((Fw117.other W120 (Or.inr (slot_ne (Or.inr (hw _ (List.mem_of_getElem? (i := 59) rfl))) (Or.inr (hw _ (List.mem_of_getElem? (i := 61) rfl))) (by decide) (t := .boolean) (t' := .boolean) (by decide) (by decide)))).other W123 (Or.inr (slot_ne (Or.inr (hw _ (List.mem_of_getElem? (i := 59) rfl))) (Or.inr (hw _ (List.mem_of_getElem? (i := 63) rfl))) (by decide) (t := .boolean) (t' := (.object "com/example/hallinta/hallinta/yang/type/YangType")) (by decide) (by decide)))).other W126 (Or.inr (slot_ne (Or.inr (hw _ (List.mem_of_getElem? (i := 59) rfl))) (Or.inr (hw _ (List.mem_of_getElem? (i := 65) rfl))) (by decide) (t := .boolean) (t' := (.object "com/example/hallinta/hallinta/yang/schema/Default")) (by decide) (by decide)))).other W129 (Or.inr (slot_ne (Or.inr (hw _ (List.mem_of_getElem? (i := 59) rfl))) (Or.inr (hw _ (List.mem_of_getElem? (i := 67) rfl))) (by decide) (t := .boolean) (t' := (.object "java/util/List")) (by decide) (by decide)))).other W132 (Or.inr (slot_ne (Or.inr (hw _ (List.mem_of_getElem? (i := 59) rfl))) (Or.inr (hw _ (List.mem_of_getElem? (i := 69) rfl))) (by decide) (t := .boolean) (t' := (.object "java/util/List")) (by decide) (by decide)))), (((Fw123.other W126 (Or.inr (slot_ne (Or.inr (hw _ (List.mem_of_getElem? (i := 63) rfl))) (Or.inr (hw _ (List.mem_of_getElem? (i := 65) rfl))) (by decide) (t := (.object "com/example/hallinta/hallinta/yang/type/YangType")) (t' := (.object "com/example/hallinta/hallinta/yang/schema/Default")) (by decide) (by decide)))).other W129 (Or.inr (slot_ne (Or.inr (hw _ (List.mem_of_getElem? (i := 63) rfl))) (Or.inr (hw _ (List.mem_of_getElem? (i := 67) rfl))) (by decide) (t := (.object "com/example/hallinta/hallinta/yang/type/YangType")) (t' := (.object "java/util/List")) (by decide) (by decide)))).other W132 (Or.inr (slot_ne (Or.inr (hw _ (List.mem_of_getElem? (i := 63) rfl))) (Or.inr (hw _ (List.mem_of_getElem? (i := 69) rfl))) (by decide) (t := (.object "com/example/hallinta/hallinta/yang/type/YangType")) (t' := (.object "java/util/List")) (by decide) (by decide))))⟩
theorem pd___Ljava_util_List_ : parseMethodDescriptor "()Ljava/util/List;" = some ⟨[], some (.object "java/util/List")⟩ := by decide +kernel
theorem pd__Ljava_lang_String_Ljava_lang_String_ZZLcom_example_hallinta_hallinta_yang_type_YangType_Lcom_example_hallinta_hallinta_yang_schema_Default_Ljava_util_List_Ljava_util_List__V : parseMethodDescriptor "(Ljava/lang/String;Ljava/lang/String;ZZLcom/example/hallinta/hallinta/yang/type/YangType;Lcom/example/hallinta/hallinta/yang/schema/Default;Ljava/util/List;Ljava/util/List;)V" = some ⟨[(.object "java/lang/String"), (.object "java/lang/String"), .boolean, .boolean, (.object "com/example/hallinta/hallinta/yang/type/YangType"), (.object "com/example/hallinta/hallinta/yang/schema/Default"), (.object "java/util/List"), (.object "java/util/List")], none⟩ := by decide +kernel
theorem own_ls5_d0 : decode prog_129_method_2_code 0 = .ok (.aload_n 0, 1) := by decide +kernel
theorem own_ls5_d1 : decode prog_129_method_2_code 1 = .ok (.aload_n 1, 1) := by decide +kernel
theorem own_ls5_d2 : decode prog_129_method_2_code 2 = .ok (.aload_n 2, 1) := by decide +kernel
theorem own_ls5_d3 : decode prog_129_method_2_code 3 = .ok (.iload_n 3, 1) := by decide +kernel
theorem own_ls5_d4 : decode prog_129_method_2_code 4 = .ok (.iload 4, 2) := by decide +kernel
theorem own_ls5_d6 : decode prog_129_method_2_code 6 = .ok (.aload 5, 2) := by decide +kernel
theorem own_ls5_d8 : decode prog_129_method_2_code 8 = .ok (.aconst_null, 1) := by decide +kernel
theorem own_ls5_d9 : decode prog_129_method_2_code 9 = .ok (.invokestatic 44, 3) := by decide +kernel
theorem own_ls5_d12 : decode prog_129_method_2_code 12 = .ok (.invokestatic 44, 3) := by decide +kernel
theorem own_ls5_d15 : decode prog_129_method_2_code 15 = .ok (.invokespecial 48, 3) := by decide +kernel
theorem own_ls5_d18 : decode prog_129_method_2_code 18 = .ok (.return_, 1) := by decide +kernel
theorem own_ls5_pn : plainName "com/example/hallinta/hallinta/yang/schema/LeafSchema" = true := by first | (simp [plainName, overriddenIn]; done) | decide +kernel
theorem own_ls5_ef (m : MethodId) (x0 : Addr) (x1 : Addr) (x2 : Addr) (x3 : Int32) (x4 : Int32) : entryFrame m #[(.ref x0), (.ref x1), (.ref x2), (.int x3), (.int x4), .null] 6 = mkF m 0 #[.val (.ref x0), .val (.ref x1), .val (.ref x2), .val (.int x3), .val (.int x4), .val .null] [] := by first | (simp [entryFrame, mkF, argsToLocals, Value.category]; done) | rfl
def Q_own_ls5 (Z : State) (a1 : Addr) (a2 : Addr) (a3 : Addr) (p4 : Int32) (p5 : Int32) (u0 : Value) (u1 : Value) (u2 : Value) (u3 : Value) (u4 : Value) (u5 : Value) (u6 : Value) (u7 : Value) (el : Addr) (h0 : Heap) (n0 : Nat) (v : Option Value) (h : Heap) (L : List Loc) : Prop := v = none ∧ Fr n0 L ∧ Keep h0 h [a1] ∧ Exa Z h a1 "com/example/hallinta/hallinta/yang/schema/LeafSchema" ∧ Fld Z h a1 "com/example/hallinta/hallinta/yang/schema/LeafSchema" "config" "Z" (.int (nar .boolean p4)) ∧ Fld Z h a1 "com/example/hallinta/hallinta/yang/schema/LeafSchema" "type" "Lcom/example/hallinta/hallinta/yang/type/YangType;" .null
set_option maxRecDepth 65536 in
set_option maxHeartbeats 40000000 in
theorem own_ls5 (l : Launch) (Z : State) (a0 : Array Value) (hw : ∀ d ∈ tables_1, d.before a0 Z = true) (ws : List Jvm.Cond) (a1 : Addr) (a2 : Addr) (a3 : Addr) (p4 : Int32) (p5 : Int32) (u0 : Value) (u1 : Value) (u2 : Value) (u3 : Value) (u4 : Value) (u5 : Value) (u6 : Value) (u7 : Value) (el : Addr) (h0 : Heap) (n0 : Nat) (Z0 : n0 ≤ h0.size) (Ea : Exa Z h0 a1 "com/example/hallinta/hallinta/yang/schema/LeafSchema") (G0 : Fld Z h0 a1 "com/example/hallinta/hallinta/yang/schema/LeafSchema" "module" "Ljava/lang/String;" u0) (G1 : Fld Z h0 a1 "com/example/hallinta/hallinta/yang/schema/LeafSchema" "name" "Ljava/lang/String;" u1) (G2 : Fld Z h0 a1 "com/example/hallinta/hallinta/yang/schema/LeafSchema" "config" "Z" u2) (G3 : Fld Z h0 a1 "com/example/hallinta/hallinta/yang/schema/LeafSchema" "mandatory" "Z" u3) (G4 : Fld Z h0 a1 "com/example/hallinta/hallinta/yang/schema/LeafSchema" "type" "Lcom/example/hallinta/hallinta/yang/type/YangType;" u4) (G5 : Fld Z h0 a1 "com/example/hallinta/hallinta/yang/schema/LeafSchema" "defaults" "Lcom/example/hallinta/hallinta/yang/schema/Default;" u5) (G6 : Fld Z h0 a1 "com/example/hallinta/hallinta/yang/schema/LeafSchema" "whens" "Ljava/util/List;" u6) (G7 : Fld Z h0 a1 "com/example/hallinta/hallinta/yang/schema/LeafSchema" "musts" "Ljava/util/List;" u7) (g_a1 : n0 ≤ a1) (E1 : Exa Z h0 el "java/util/ImmutableCollections$ListN") (F1 : Fld Z h0 el "java/util/ImmutableCollections$ListN" "allowNulls" "Z" (.int (0 : Int32))) (S1 : Sta Z h0 "java/util/ImmutableCollections" "EMPTY_LIST" "Ljava/util/ImmutableCollections$ListN;" (.ref el)) :
    MetFree l (⟨"com/example/hallinta/hallinta/yang/schema/LeafSchema", "<init>", "(Ljava/lang/String;Ljava/lang/String;ZZLcom/example/hallinta/hallinta/yang/type/YangType;)V"⟩ : MethodName) (head1 (Jvm.Cond.code (⟨"com/example/hallinta/hallinta/yang/schema/LeafSchema", "<init>", "(Ljava/lang/String;Ljava/lang/String;ZZLcom/example/hallinta/hallinta/yang/type/YangType;)V"⟩ : MethodName) prog_129_method_2_code 6 none :: ws) ({ frames := 3, cells := 0, slots := 0, locals := 45 } : Room)) (fun a U => a = #[(.ref a1), (.ref a2), (.ref a3), (.int p4), (.int p5), .null] ∧ Z.Warmed39 U.vm ∧ U.heap = h0) (fun _ _ _ _ _ => True) (fun _ U o U' => ∃ v L, o = .returned v ∧ Q_own_ls5 Z a1 a2 a3 p4 p5 u0 u1 u2 u3 u4 u5 u6 u7 el h0 n0 v U'.heap L ∧ FrameEnd U o U' L ({ frames := 3, cells := 0, slots := 0, locals := 45 } : Room).cells ({ frames := 3, cells := 0, slots := 0, locals := 45 } : Room).slots) := by
  refine MetFree.of_bodySF (plainFor_of_name own_ls5_pn) hisR ?_
  intro p e s m args below meth c s₁ Bd hml0 hP hK
  obtain ⟨rfl, hZ, hh⟩ := hP
  have hx := Bd.exec
  have hby := Bd.bytes
  have hml : c.maxLocals = 6 := hml0
  have hown : s.vm.findClass "com/example/hallinta/hallinta/yang/schema/LeafSchema" = some m.cls := findClass_of_methodNamed Bd.named
  have hnm := (name_of_methodNamed Bd.named Bd.method).1
  have X0 : Stand p l e ({ frames := 3, cells := 0, slots := 0, locals := 45 } : Room) s m #[(.ref a1), (.ref a2), (.ref a3), (.int p4), (.int p5), .null] below meth c s₁ [] 0 0 := Stand.of_body Bd
  have e0 : s₁.heap = h0 := by rw [← hh, Bd.state]; rfl
  have N0 := Fr.nil n0
  have pp0 : ∀ t, Steps p.tables e below (s₁.setTop (mkF m 0 #[.val (.ref a1), .val (.ref a2), .val (.ref a3), .val (.int p4), .val (.int p5), .val .null] [])) t → Steps p.tables e below (s₁.setTop (entryFrame m #[(.ref a1), (.ref a2), (.ref a3), (.int p4), (.int p5), .null] 6)) t := fun t k => castTop (own_ls5_ef m a1 a2 a3 p4 p5) k
  have pp101 : ∀ t, Steps p.tables e below (s₁.setTop (mkF m 9 #[.val (.ref a1), .val (.ref a2), .val (.ref a3), .val (.int p4), .val (.int p5), .val .null] [.null, .null, (.int p5), (.int p4), (.ref a3), (.ref a2), (.ref a1)])) t → Steps p.tables e below (s₁.setTop (entryFrame m #[(.ref a1), (.ref a2), (.ref a3), (.int p4), (.int p5), .null] 6)) t := fun t k => pp0 t (by
    refine XS.aloadN X0.here hx rfl (hb hby own_ls5_d0) rfl rfl ?_
    show Steps p.tables e below (s₁.setTop (mkF m 1 #[.val (.ref a1), .val (.ref a2), .val (.ref a3), .val (.int p4), .val (.int p5), .val .null] [(.ref a1)])) _
    refine XS.aloadN X0.here hx rfl (hb hby own_ls5_d1) rfl rfl ?_
    show Steps p.tables e below (s₁.setTop (mkF m 2 #[.val (.ref a1), .val (.ref a2), .val (.ref a3), .val (.int p4), .val (.int p5), .val .null] [(.ref a2), (.ref a1)])) _
    refine XS.aloadN X0.here hx rfl (hb hby own_ls5_d2) rfl rfl ?_
    show Steps p.tables e below (s₁.setTop (mkF m 3 #[.val (.ref a1), .val (.ref a2), .val (.ref a3), .val (.int p4), .val (.int p5), .val .null] [(.ref a3), (.ref a2), (.ref a1)])) _
    refine XS.iloadN X0.here hx rfl (hb hby own_ls5_d3) rfl ?_
    show Steps p.tables e below (s₁.setTop (mkF m 4 #[.val (.ref a1), .val (.ref a2), .val (.ref a3), .val (.int p4), .val (.int p5), .val .null] [(.int p4), (.ref a3), (.ref a2), (.ref a1)])) _
    refine XS.iload X0.here hx rfl (hb hby own_ls5_d4) rfl ?_
    show Steps p.tables e below (s₁.setTop (mkF m 6 #[.val (.ref a1), .val (.ref a2), .val (.ref a3), .val (.int p4), .val (.int p5), .val .null] [(.int p5), (.int p4), (.ref a3), (.ref a2), (.ref a1)])) _
    refine XS.aload X0.here hx rfl (hb hby own_ls5_d6) rfl rfl ?_
    show Steps p.tables e below (s₁.setTop (mkF m 8 #[.val (.ref a1), .val (.ref a2), .val (.ref a3), .val (.int p4), .val (.int p5), .val .null] [.null, (.int p5), (.int p4), (.ref a3), (.ref a2), (.ref a1)])) _
    refine XS.aconstNull X0.here hx rfl (hb hby own_ls5_d8) ?_
    show Steps p.tables e below (s₁.setTop (mkF m 9 #[.val (.ref a1), .val (.ref a2), .val (.ref a3), .val (.int p4), .val (.int p5), .val .null] [.null, .null, (.int p5), (.int p4), (.ref a3), (.ref a2), (.ref a1)])) _
    exact k)
  obtain ⟨_, _, ⟨T102, L102, k102, n102⟩, -, X102, ⟨Lc102, hQ102, l102, y102, z102⟩, st102⟩ := Jvm.LawKit.callS X0 hx (y := (⟨"java/util/List", "of", "()Ljava/util/List;"⟩ : MethodName)) hown (mvT hZ (hw _ (List.mem_of_getElem? (i := 19) rfl))) (mvT hZ (hw _ (List.mem_of_getElem? (i := 20) rfl))) (mvT hZ (hw _ (List.mem_of_getElem? (i := 21) rfl))) (mvT hZ (hw _ (List.mem_of_getElem? (i := 22) rfl))) (by decide) (backOf (W := 7) (own_of l Z a0 hw [] el h0 n0 Z0 S1) hZ (hw _ (List.mem_of_getElem? (i := 22) rfl)) (hw _ (List.mem_of_getElem? (i := 21) rfl)) (by decide) (by decide)) (g := (mkF m 9 #[.val (.ref a1), .val (.ref a2), .val (.ref a3), .val (.int p4), .val (.int p5), .val .null] [.null, .null, (.int p5), (.int p4), (.ref a3), (.ref a2), (.ref a1)])) rfl (by rw [hml]; rfl) (argsL := []) (rest := [.null, .null, (.int p5), (.int p4), (.ref a3), (.ref a2), (.ref a1)]) (lenOf pd___Ljava_util_List_ rfl) rfl (by show 2 * 0 + _ ≤ _; exact Nat.le_of_eq rfl) (hb hby own_ls5_d9) (fun _ _ => ⟨rfl, e0, (by decide : 0 + 0 ≤ _), (by decide : 0 + 0 ≤ _)⟩)
  dsimp only [Pt.U, Pt.locs, Pt.cells, Pt.slots] at X102 l102 y102 z102 st102 hQ102
  subst l102 y102 z102
  obtain ⟨rfl, N102q, s102⟩ := hQ102
  have N102 := Fr.app N0 N102q
  have pp103 : ∀ t, Steps p.tables e below (T102.setTop (mkF m 12 #[.val (.ref a1), .val (.ref a2), .val (.ref a3), .val (.int p4), .val (.int p5), .val .null] [(.ref el), .null, .null, (.int p5), (.int p4), (.ref a3), (.ref a2), (.ref a1)])) t → Steps p.tables e below (s₁.setTop (entryFrame m #[(.ref a1), (.ref a2), (.ref a3), (.int p4), (.int p5), .null] 6)) t := fun t k => pp101 t (st102 t k)
  obtain ⟨_, _, ⟨T104, L104, k104, n104⟩, -, X104, ⟨Lc104, hQ104, l104, y104, z104⟩, st104⟩ := Jvm.LawKit.callS X102 hx (y := (⟨"java/util/List", "of", "()Ljava/util/List;"⟩ : MethodName)) hown (mvT hZ (hw _ (List.mem_of_getElem? (i := 19) rfl))) (mvT hZ (hw _ (List.mem_of_getElem? (i := 20) rfl))) (mvT hZ (hw _ (List.mem_of_getElem? (i := 21) rfl))) (mvT hZ (hw _ (List.mem_of_getElem? (i := 22) rfl))) (by decide) (backOf (W := 8) (own_of l Z a0 hw [] el h0 n0 Z0 S1) hZ (hw _ (List.mem_of_getElem? (i := 22) rfl)) (hw _ (List.mem_of_getElem? (i := 21) rfl)) (by decide) (by decide)) (g := (mkF m 12 #[.val (.ref a1), .val (.ref a2), .val (.ref a3), .val (.int p4), .val (.int p5), .val .null] [(.ref el), .null, .null, (.int p5), (.int p4), (.ref a3), (.ref a2), (.ref a1)])) rfl (by rw [hml]; rfl) (argsL := []) (rest := [(.ref el), .null, .null, (.int p5), (.int p4), (.ref a3), (.ref a2), (.ref a1)]) (lenOf pd___Ljava_util_List_ rfl) rfl (by show 2 * 0 + _ ≤ _; exact Nat.le_of_eq rfl) (hb hby own_ls5_d12) (fun _ _ => ⟨rfl, s102, (by decide : 0 + 0 ≤ _), (by decide : 0 + 0 ≤ _)⟩)
  dsimp only [Pt.U, Pt.locs, Pt.cells, Pt.slots] at X104 l104 y104 z104 st104 hQ104
  subst l104 y104 z104
  obtain ⟨rfl, N104q, s104⟩ := hQ104
  have N104 := Fr.app N102 N104q
  have pp105 : ∀ t, Steps p.tables e below (T104.setTop (mkF m 15 #[.val (.ref a1), .val (.ref a2), .val (.ref a3), .val (.int p4), .val (.int p5), .val .null] [(.ref el), (.ref el), .null, .null, (.int p5), (.int p4), (.ref a3), (.ref a2), (.ref a1)])) t → Steps p.tables e below (s₁.setTop (entryFrame m #[(.ref a1), (.ref a2), (.ref a3), (.int p4), (.int p5), .null] 6)) t := fun t k => pp103 t (st104 t k)
  obtain ⟨_, _, ⟨T106, L106, k106, n106⟩, -, X106, ⟨Lc106, hQ106, l106, y106, z106⟩, st106⟩ := X104.specialBack hx (y := (⟨"com/example/hallinta/hallinta/yang/schema/LeafSchema", "<init>", "(Ljava/lang/String;Ljava/lang/String;ZZLcom/example/hallinta/hallinta/yang/type/YangType;Lcom/example/hallinta/hallinta/yang/schema/Default;Ljava/util/List;Ljava/util/List;)V"⟩ : MethodName)) rfl hown (mvT hZ (hw _ (List.mem_of_getElem? (i := 25) rfl))) (mvT hZ (hw _ (List.mem_of_getElem? (i := 26) rfl))) (mvT hZ (hw _ (List.mem_of_getElem? (i := 27) rfl))) (by decide) (backOf (W := 0) (own_ls8 l Z a0 hw [] a1 a2 a3 p4 p5 el u0 u1 u2 u3 u4 u5 u6 u7 h0 n0 Z0 Ea G0 G1 G2 G3 G4 G5 G6 G7 g_a1 E1 F1) hZ (hw _ (List.mem_of_getElem? (i := 27) rfl)) (hw _ (List.mem_of_getElem? (i := 6) rfl)) (by decide) (by decide)) (g := (mkF m 15 #[.val (.ref a1), .val (.ref a2), .val (.ref a3), .val (.int p4), .val (.int p5), .val .null] [(.ref el), (.ref el), .null, .null, (.int p5), (.int p4), (.ref a3), (.ref a2), (.ref a1)])) rfl (by rw [hml]; rfl) (Steps.refl _) (a := a1) (argsL := [(.ref a2), (.ref a3), (.int p4), (.int p5), .null, .null, (.ref el), (.ref el)]) (rest := []) (lenOf pd__Ljava_lang_String_Ljava_lang_String_ZZLcom_example_hallinta_hallinta_yang_type_YangType_Lcom_example_hallinta_hallinta_yang_schema_Default_Ljava_util_List_Ljava_util_List__V rfl) rfl (by show 2 * 0 + _ ≤ _; exact Nat.le_of_eq rfl) (hb hby own_ls5_d15) (fun _ _ => ⟨rfl, s104, (by decide : 0 + 0 ≤ _), (by decide : 0 + 0 ≤ _)⟩)
  dsimp only [Pt.U, Pt.locs, Pt.cells, Pt.slots] at X106 l106 y106 z106 st106 hQ106
  subst l106 y106 z106
  obtain ⟨rfl, N106q, K106, EE106, Fc106, Ft106⟩ := hQ106
  have N106 := Fr.app N104 N106q
  have pp107 : ∀ t, Steps p.tables e below (T106.setTop (mkF m 18 #[.val (.ref a1), .val (.ref a2), .val (.ref a3), .val (.int p4), .val (.int p5), .val .null] [])) t → Steps p.tables e below (s₁.setTop (entryFrame m #[(.ref a1), (.ref a2), (.ref a3), (.int p4), (.int p5), .null] 6)) t := fun t k => pp105 t (st106.trans k)
  obtain ⟨fs, hr, hrun, hended, hW, hsame⟩ := X106.leave (v := none) (fun _ => rfl)
  refine ⟨_, _, pp107 _ ?_, hrun, hended, _, _, rfl, ?_, ⟨_, rfl⟩, hW, hsame.mono (by decide) (by decide)⟩
  · exact X106.returnOut hx Bd.returns (hb hby own_ls5_d18) hr
  · show Q_own_ls5 Z a1 a2 a3 p4 p5 u0 u1 u2 u3 u4 u5 u6 u7 el h0 n0 _ T106.heap _
    exact ⟨rfl, N106, K106, EE106, Fc106, Ft106⟩
theorem own_type_d0 : decode prog_129_method_10_code 0 = .ok (.aload_n 0, 1) := by decide +kernel
theorem own_type_d1 : decode prog_129_method_10_code 1 = .ok (.getfield 29, 3) := by decide +kernel
theorem own_type_d4 : decode prog_129_method_10_code 4 = .ok (.areturn, 1) := by decide +kernel
theorem own_type_pn : plainName "com/example/hallinta/hallinta/yang/schema/LeafSchema" = true := by first | (simp [plainName, overriddenIn]; done) | decide +kernel
theorem own_type_ef (m : MethodId) (x0 : Addr) : entryFrame m #[(.ref x0)] 1 = mkF m 0 #[.val (.ref x0)] [] := by first | (simp [entryFrame, mkF, argsToLocals, Value.category]; done) | rfl
def Q_own_type (Z : State) (a1 : Addr) (h0 : Heap) (n0 : Nat) (v : Option Value) (h : Heap) (L : List Loc) : Prop := v = some .null ∧ Fr n0 L ∧ h = h0
set_option maxRecDepth 65536 in
set_option maxHeartbeats 40000000 in
theorem own_type (l : Launch) (Z : State) (a0 : Array Value) (hw : ∀ d ∈ tables_1, d.before a0 Z = true) (ws : List Jvm.Cond) (a1 : Addr) (h0 : Heap) (n0 : Nat) (Z0 : n0 ≤ h0.size) (F1 : Fld Z h0 a1 "com/example/hallinta/hallinta/yang/schema/LeafSchema" "type" "Lcom/example/hallinta/hallinta/yang/type/YangType;" .null) :
    MetFree l (⟨"com/example/hallinta/hallinta/yang/schema/LeafSchema", "type", "()Lcom/example/hallinta/hallinta/yang/type/YangType;"⟩ : MethodName) (head1 (Jvm.Cond.code (⟨"com/example/hallinta/hallinta/yang/schema/LeafSchema", "type", "()Lcom/example/hallinta/hallinta/yang/type/YangType;"⟩ : MethodName) prog_129_method_10_code 1 (some (.object "com/example/hallinta/hallinta/yang/type/YangType")) :: ws) ({ frames := 0, cells := 0, slots := 0, locals := 0 } : Room)) (fun a U => a = #[(.ref a1)] ∧ Z.Warmed39 U.vm ∧ U.heap = h0) (fun _ _ _ _ _ => True) (fun _ U o U' => ∃ v L, o = .returned v ∧ Q_own_type Z a1 h0 n0 v U'.heap L ∧ FrameEnd U o U' L ({ frames := 0, cells := 0, slots := 0, locals := 0 } : Room).cells ({ frames := 0, cells := 0, slots := 0, locals := 0 } : Room).slots) := by
  refine MetFree.of_bodySF (plainFor_of_name own_type_pn) hisR ?_
  intro p e s m args below meth c s₁ Bd hml0 hP hK
  obtain ⟨rfl, hZ, hh⟩ := hP
  have hx := Bd.exec
  have hby := Bd.bytes
  have hml : c.maxLocals = 1 := hml0
  have hown : s.vm.findClass "com/example/hallinta/hallinta/yang/schema/LeafSchema" = some m.cls := findClass_of_methodNamed Bd.named
  have hnm := (name_of_methodNamed Bd.named Bd.method).1
  have X0 : Stand p l e ({ frames := 0, cells := 0, slots := 0, locals := 0 } : Room) s m #[(.ref a1)] below meth c s₁ [] 0 0 := Stand.of_body Bd
  have e0 : s₁.heap = h0 := by rw [← hh, Bd.state]; rfl
  have N0 := Fr.nil n0
  have pp0 : ∀ t, Steps p.tables e below (s₁.setTop (mkF m 0 #[.val (.ref a1)] [])) t → Steps p.tables e below (s₁.setTop (entryFrame m #[(.ref a1)] 1)) t := fun t k => castTop (own_type_ef m a1) k
  have pp101 : ∀ t, Steps p.tables e below (s₁.setTop (mkF m 1 #[.val (.ref a1)] [(.ref a1)])) t → Steps p.tables e below (s₁.setTop (entryFrame m #[(.ref a1)] 1)) t := fun t k => pp0 t (by
    refine XS.aloadN X0.here hx rfl (hb hby own_type_d0) rfl rfl ?_
    show Steps p.tables e below (s₁.setTop (mkF m 1 #[.val (.ref a1)] [(.ref a1)])) _
    exact k)
  obtain ⟨T102, X102, e102, st102⟩ := getF X0 hx hZ hown (host := "") (Or.inl (hw _ (List.mem_of_getElem? (i := 62) rfl))) Via.refl e0 F1 (g := (mkF m 1 #[.val (.ref a1)] [(.ref a1)])) rfl rfl (hb hby own_type_d1)
  have pp103 : ∀ t, Steps p.tables e below (T102.setTop (mkF m 4 #[.val (.ref a1)] [.null])) t → Steps p.tables e below (s₁.setTop (entryFrame m #[(.ref a1)] 1)) t := fun t k => pp101 t (st102 t k)
  obtain ⟨fs, hr, hrun, hended, hW, hsame⟩ := X102.leave (v := some .null) (fun h => by rw [Bd.returns] at h; cases h)
  refine ⟨_, _, pp103 _ ?_, hrun, hended, _, _, rfl, ?_, ⟨_, rfl⟩, hW, hsame.mono (by decide) (by decide)⟩
  · exact retOut X102 hx Bd.returns rfl (Or.inr (Or.inr (Or.inr (Or.inr ⟨rfl, rfl, rfl⟩)))) (hb hby own_type_d4) hr
  · show Q_own_type Z a1 h0 n0 _ T102.heap _
    rw [e102]
    exact ⟨rfl, N0, rfl⟩
theorem own_config_d0 : decode prog_129_method_8_code 0 = .ok (.aload_n 0, 1) := by decide +kernel
theorem own_config_d1 : decode prog_129_method_8_code 1 = .ok (.getfield 22, 3) := by decide +kernel
theorem own_config_d4 : decode prog_129_method_8_code 4 = .ok (.ireturn, 1) := by decide +kernel
theorem own_config_pn : plainName "com/example/hallinta/hallinta/yang/schema/LeafSchema" = true := by first | (simp [plainName, overriddenIn]; done) | decide +kernel
theorem own_config_ef (m : MethodId) (x0 : Addr) : entryFrame m #[(.ref x0)] 1 = mkF m 0 #[.val (.ref x0)] [] := by first | (simp [entryFrame, mkF, argsToLocals, Value.category]; done) | rfl
def Q_own_config (Z : State) (a1 : Addr) (w1 : Int32) (h0 : Heap) (n0 : Nat) (v : Option Value) (h : Heap) (L : List Loc) : Prop := v = some (.int (nar .boolean w1)) ∧ Fr n0 L ∧ h = h0
set_option maxRecDepth 65536 in
set_option maxHeartbeats 40000000 in
theorem own_config (l : Launch) (Z : State) (a0 : Array Value) (hw : ∀ d ∈ tables_1, d.before a0 Z = true) (ws : List Jvm.Cond) (a1 : Addr) (w1 : Int32) (h0 : Heap) (n0 : Nat) (Z0 : n0 ≤ h0.size) (F1 : Fld Z h0 a1 "com/example/hallinta/hallinta/yang/schema/LeafSchema" "config" "Z" (.int w1)) :
    MetFree l (⟨"com/example/hallinta/hallinta/yang/schema/LeafSchema", "config", "()Z"⟩ : MethodName) (head1 (Jvm.Cond.code (⟨"com/example/hallinta/hallinta/yang/schema/LeafSchema", "config", "()Z"⟩ : MethodName) prog_129_method_8_code 1 (some .boolean) :: ws) ({ frames := 0, cells := 0, slots := 0, locals := 0 } : Room)) (fun a U => a = #[(.ref a1)] ∧ Z.Warmed39 U.vm ∧ U.heap = h0) (fun _ _ _ _ _ => True) (fun _ U o U' => ∃ v L, o = .returned v ∧ Q_own_config Z a1 w1 h0 n0 v U'.heap L ∧ FrameEnd U o U' L ({ frames := 0, cells := 0, slots := 0, locals := 0 } : Room).cells ({ frames := 0, cells := 0, slots := 0, locals := 0 } : Room).slots) := by
  refine MetFree.of_bodySF (plainFor_of_name own_config_pn) hisR ?_
  intro p e s m args below meth c s₁ Bd hml0 hP hK
  obtain ⟨rfl, hZ, hh⟩ := hP
  have hx := Bd.exec
  have hby := Bd.bytes
  have hml : c.maxLocals = 1 := hml0
  have hown : s.vm.findClass "com/example/hallinta/hallinta/yang/schema/LeafSchema" = some m.cls := findClass_of_methodNamed Bd.named
  have hnm := (name_of_methodNamed Bd.named Bd.method).1
  have X0 : Stand p l e ({ frames := 0, cells := 0, slots := 0, locals := 0 } : Room) s m #[(.ref a1)] below meth c s₁ [] 0 0 := Stand.of_body Bd
  have e0 : s₁.heap = h0 := by rw [← hh, Bd.state]; rfl
  have N0 := Fr.nil n0
  have pp0 : ∀ t, Steps p.tables e below (s₁.setTop (mkF m 0 #[.val (.ref a1)] [])) t → Steps p.tables e below (s₁.setTop (entryFrame m #[(.ref a1)] 1)) t := fun t k => castTop (own_config_ef m a1) k
  have pp101 : ∀ t, Steps p.tables e below (s₁.setTop (mkF m 1 #[.val (.ref a1)] [(.ref a1)])) t → Steps p.tables e below (s₁.setTop (entryFrame m #[(.ref a1)] 1)) t := fun t k => pp0 t (by
    refine XS.aloadN X0.here hx rfl (hb hby own_config_d0) rfl rfl ?_
    show Steps p.tables e below (s₁.setTop (mkF m 1 #[.val (.ref a1)] [(.ref a1)])) _
    exact k)
  obtain ⟨T102, X102, e102, st102⟩ := getF X0 hx hZ hown (host := "") (Or.inl (hw _ (List.mem_of_getElem? (i := 58) rfl))) Via.refl e0 F1 (g := (mkF m 1 #[.val (.ref a1)] [(.ref a1)])) rfl rfl (hb hby own_config_d1)
  have pp103 : ∀ t, Steps p.tables e below (T102.setTop (mkF m 4 #[.val (.ref a1)] [(.int w1)])) t → Steps p.tables e below (s₁.setTop (entryFrame m #[(.ref a1)] 1)) t := fun t k => pp101 t (st102 t k)
  obtain ⟨fs, hr, hrun, hended, hW, hsame⟩ := X102.leave (v := some (.int (nar .boolean w1))) (fun h => by rw [Bd.returns] at h; cases h)
  refine ⟨_, _, pp103 _ ?_, hrun, hended, _, _, rfl, ?_, ⟨_, rfl⟩, hW, hsame.mono (by decide) (by decide)⟩
  · exact retN X102 hx (t := .boolean) Bd.returns (by simp) (hb hby own_config_d4) hr
  · show Q_own_config Z a1 w1 h0 n0 _ T102.heap _
    rw [e102]
    exact ⟨rfl, N0, rfl⟩
theorem own_node_d0 : decode prog_43_method_7_code 0 = .ok (.aload_n 0, 1) := by decide +kernel
theorem own_node_d1 : decode prog_43_method_7_code 1 = .ok (.getfield 18, 3) := by decide +kernel
theorem own_node_d4 : decode prog_43_method_7_code 4 = .ok (.areturn, 1) := by decide +kernel
theorem own_node_pn : plainName "com/example/hallinta/hallinta/datastore/LeafNode" = true := by first | (simp [plainName, overriddenIn]; done) | decide +kernel
theorem own_node_ef (m : MethodId) (x0 : Addr) : entryFrame m #[(.ref x0)] 1 = mkF m 0 #[.val (.ref x0)] [] := by first | (simp [entryFrame, mkF, argsToLocals, Value.category]; done) | rfl
def Q_own_node (Z : State) (a1 : Addr) (w1 : Addr) (h0 : Heap) (n0 : Nat) (v : Option Value) (h : Heap) (L : List Loc) : Prop := v = some (.ref w1) ∧ Fr n0 L ∧ h = h0
set_option maxRecDepth 65536 in
set_option maxHeartbeats 40000000 in
theorem own_node (l : Launch) (Z : State) (a0 : Array Value) (hw : ∀ d ∈ tables_1, d.before a0 Z = true) (ws : List Jvm.Cond) (a1 : Addr) (w1 : Addr) (h0 : Heap) (n0 : Nat) (Z0 : n0 ≤ h0.size) (F1 : Fld Z h0 a1 "com/example/hallinta/hallinta/datastore/LeafNode" "schema" "Lcom/example/hallinta/hallinta/yang/schema/TypedSchema;" (.ref w1)) :
    MetFree l (⟨"com/example/hallinta/hallinta/datastore/LeafNode", "node", "()Lcom/example/hallinta/hallinta/yang/schema/SchemaNode;"⟩ : MethodName) (head1 (Jvm.Cond.code (⟨"com/example/hallinta/hallinta/datastore/LeafNode", "node", "()Lcom/example/hallinta/hallinta/yang/schema/SchemaNode;"⟩ : MethodName) prog_43_method_7_code 1 (some (.object "com/example/hallinta/hallinta/yang/schema/SchemaNode")) :: ws) ({ frames := 0, cells := 0, slots := 0, locals := 0 } : Room)) (fun a U => a = #[(.ref a1)] ∧ Z.Warmed39 U.vm ∧ U.heap = h0) (fun _ _ _ _ _ => True) (fun _ U o U' => ∃ v L, o = .returned v ∧ Q_own_node Z a1 w1 h0 n0 v U'.heap L ∧ FrameEnd U o U' L ({ frames := 0, cells := 0, slots := 0, locals := 0 } : Room).cells ({ frames := 0, cells := 0, slots := 0, locals := 0 } : Room).slots) := by
  refine MetFree.of_bodySF (plainFor_of_name own_node_pn) hisR ?_
  intro p e s m args below meth c s₁ Bd hml0 hP hK
  obtain ⟨rfl, hZ, hh⟩ := hP
  have hx := Bd.exec
  have hby := Bd.bytes
  have hml : c.maxLocals = 1 := hml0
  have hown : s.vm.findClass "com/example/hallinta/hallinta/datastore/LeafNode" = some m.cls := findClass_of_methodNamed Bd.named
  have hnm := (name_of_methodNamed Bd.named Bd.method).1
  have X0 : Stand p l e ({ frames := 0, cells := 0, slots := 0, locals := 0 } : Room) s m #[(.ref a1)] below meth c s₁ [] 0 0 := Stand.of_body Bd
  have e0 : s₁.heap = h0 := by rw [← hh, Bd.state]; rfl
  have N0 := Fr.nil n0
  have pp0 : ∀ t, Steps p.tables e below (s₁.setTop (mkF m 0 #[.val (.ref a1)] [])) t → Steps p.tables e below (s₁.setTop (entryFrame m #[(.ref a1)] 1)) t := fun t k => castTop (own_node_ef m a1) k
  have pp101 : ∀ t, Steps p.tables e below (s₁.setTop (mkF m 1 #[.val (.ref a1)] [(.ref a1)])) t → Steps p.tables e below (s₁.setTop (entryFrame m #[(.ref a1)] 1)) t := fun t k => pp0 t (by
    refine XS.aloadN X0.here hx rfl (hb hby own_node_d0) rfl rfl ?_
    show Steps p.tables e below (s₁.setTop (mkF m 1 #[.val (.ref a1)] [(.ref a1)])) _
    exact k)
  obtain ⟨T102, X102, e102, st102⟩ := getF X0 hx hZ hown (host := "") (Or.inl (hw _ (List.mem_of_getElem? (i := 89) rfl))) Via.refl e0 F1 (g := (mkF m 1 #[.val (.ref a1)] [(.ref a1)])) rfl rfl (hb hby own_node_d1)
  have pp103 : ∀ t, Steps p.tables e below (T102.setTop (mkF m 4 #[.val (.ref a1)] [(.ref w1)])) t → Steps p.tables e below (s₁.setTop (entryFrame m #[(.ref a1)] 1)) t := fun t k => pp101 t (st102 t k)
  obtain ⟨fs, hr, hrun, hended, hW, hsame⟩ := X102.leave (v := some (.ref w1)) (fun h => by rw [Bd.returns] at h; cases h)
  refine ⟨_, _, pp103 _ ?_, hrun, hended, _, _, rfl, ?_, ⟨_, rfl⟩, hW, hsame.mono (by decide) (by decide)⟩
  · exact retOut X102 hx Bd.returns rfl (Or.inr (Or.inr (Or.inr (Or.inr ⟨rfl, rfl, rfl⟩)))) (hb hby own_node_d4) hr
  · show Q_own_node Z a1 w1 h0 n0 _ T102.heap _
    rw [e102]
    exact ⟨rfl, N0, rfl⟩
theorem own_ord_d0 : decode jdk_37_method_2_code 0 = .ok (.aload_n 0, 1) := by decide +kernel
theorem own_ord_d1 : decode jdk_37_method_2_code 1 = .ok (.getfield 7, 3) := by decide +kernel
theorem own_ord_d4 : decode jdk_37_method_2_code 4 = .ok (.ireturn, 1) := by decide +kernel
theorem own_ord_pn : plainName "java/lang/Enum" = true := by first | (simp [plainName, overriddenIn]; done) | decide +kernel
theorem own_ord_ef (m : MethodId) (x0 : Addr) : entryFrame m #[(.ref x0)] 1 = mkF m 0 #[.val (.ref x0)] [] := by first | (simp [entryFrame, mkF, argsToLocals, Value.category]; done) | rfl
def Q_own_ord (Z : State) (a1 : Addr) (w1 : Int32) (h0 : Heap) (n0 : Nat) (v : Option Value) (h : Heap) (L : List Loc) : Prop := v = some (.int w1) ∧ Fr n0 L ∧ h = h0
set_option maxRecDepth 65536 in
set_option maxHeartbeats 40000000 in
theorem own_ord (l : Launch) (Z : State) (a0 : Array Value) (hw : ∀ d ∈ tables_1, d.before a0 Z = true) (ws : List Jvm.Cond) (a1 : Addr) (w1 : Int32) (h0 : Heap) (n0 : Nat) (Z0 : n0 ≤ h0.size) (F1 : Fld Z h0 a1 "java/lang/Enum" "ordinal" "I" (.int w1)) :
    MetFree l (⟨"java/lang/Enum", "ordinal", "()I"⟩ : MethodName) (head1 (Jvm.Cond.code (⟨"java/lang/Enum", "ordinal", "()I"⟩ : MethodName) jdk_37_method_2_code 1 (some .int) :: ws) ({ frames := 0, cells := 0, slots := 0, locals := 0 } : Room)) (fun a U => a = #[(.ref a1)] ∧ Z.Warmed39 U.vm ∧ U.heap = h0) (fun _ _ _ _ _ => True) (fun _ U o U' => ∃ v L, o = .returned v ∧ Q_own_ord Z a1 w1 h0 n0 v U'.heap L ∧ FrameEnd U o U' L ({ frames := 0, cells := 0, slots := 0, locals := 0 } : Room).cells ({ frames := 0, cells := 0, slots := 0, locals := 0 } : Room).slots) := by
  refine MetFree.of_bodySF (plainFor_of_name own_ord_pn) hisR ?_
  intro p e s m args below meth c s₁ Bd hml0 hP hK
  obtain ⟨rfl, hZ, hh⟩ := hP
  have hx := Bd.exec
  have hby := Bd.bytes
  have hml : c.maxLocals = 1 := hml0
  have hown : s.vm.findClass "java/lang/Enum" = some m.cls := findClass_of_methodNamed Bd.named
  have hnm := (name_of_methodNamed Bd.named Bd.method).1
  have X0 : Stand p l e ({ frames := 0, cells := 0, slots := 0, locals := 0 } : Room) s m #[(.ref a1)] below meth c s₁ [] 0 0 := Stand.of_body Bd
  have e0 : s₁.heap = h0 := by rw [← hh, Bd.state]; rfl
  have N0 := Fr.nil n0
  have pp0 : ∀ t, Steps p.tables e below (s₁.setTop (mkF m 0 #[.val (.ref a1)] [])) t → Steps p.tables e below (s₁.setTop (entryFrame m #[(.ref a1)] 1)) t := fun t k => castTop (own_ord_ef m a1) k
  have pp101 : ∀ t, Steps p.tables e below (s₁.setTop (mkF m 1 #[.val (.ref a1)] [(.ref a1)])) t → Steps p.tables e below (s₁.setTop (entryFrame m #[(.ref a1)] 1)) t := fun t k => pp0 t (by
    refine XS.aloadN X0.here hx rfl (hb hby own_ord_d0) rfl rfl ?_
    show Steps p.tables e below (s₁.setTop (mkF m 1 #[.val (.ref a1)] [(.ref a1)])) _
    exact k)
  obtain ⟨T102, X102, e102, st102⟩ := getF X0 hx hZ hown (host := "") (Or.inl (hw _ (List.mem_of_getElem? (i := 113) rfl))) Via.refl e0 F1 (g := (mkF m 1 #[.val (.ref a1)] [(.ref a1)])) rfl rfl (hb hby own_ord_d1)
  have pp103 : ∀ t, Steps p.tables e below (T102.setTop (mkF m 4 #[.val (.ref a1)] [(.int w1)])) t → Steps p.tables e below (s₁.setTop (entryFrame m #[(.ref a1)] 1)) t := fun t k => pp101 t (st102 t k)
  obtain ⟨fs, hr, hrun, hended, hW, hsame⟩ := X102.leave (v := some (.int w1)) (fun h => by rw [Bd.returns] at h; cases h)
  refine ⟨_, _, pp103 _ ?_, hrun, hended, _, _, rfl, ?_, ⟨_, rfl⟩, hW, hsame.mono (by decide) (by decide)⟩
  · exact retI X102 hx Bd.returns (hb hby own_ord_d4) hr
  · show Q_own_ord Z a1 w1 h0 n0 _ T102.heap _
    rw [e102]
    exact ⟨rfl, N0, rfl⟩
theorem own_ln3_d0 : decode prog_43_method_2_code 0 = .ok (.aload_n 0, 1) := by decide +kernel
theorem own_ln3_d1 : decode prog_43_method_2_code 1 = .ok (.invokespecial 13, 3) := by decide +kernel
theorem own_ln3_d4 : decode prog_43_method_2_code 4 = .ok (.aload_n 0, 1) := by decide +kernel
theorem own_ln3_d5 : decode prog_43_method_2_code 5 = .ok (.aload_n 1, 1) := by decide +kernel
theorem own_ln3_d6 : decode prog_43_method_2_code 6 = .ok (.putfield 18, 3) := by decide +kernel
theorem own_ln3_d9 : decode prog_43_method_2_code 9 = .ok (.aload_n 0, 1) := by decide +kernel
theorem own_ln3_d10 : decode prog_43_method_2_code 10 = .ok (.aload_n 2, 1) := by decide +kernel
theorem own_ln3_d11 : decode prog_43_method_2_code 11 = .ok (.putfield 22, 3) := by decide +kernel
theorem own_ln3_d14 : decode prog_43_method_2_code 14 = .ok (.aload_n 0, 1) := by decide +kernel
theorem own_ln3_d15 : decode prog_43_method_2_code 15 = .ok (.aload_n 3, 1) := by decide +kernel
theorem own_ln3_d16 : decode prog_43_method_2_code 16 = .ok (.putfield 26, 3) := by decide +kernel
theorem own_ln3_d19 : decode prog_43_method_2_code 19 = .ok (.return_, 1) := by decide +kernel
theorem own_ln3_pn : plainName "com/example/hallinta/hallinta/datastore/LeafNode" = true := by first | (simp [plainName, overriddenIn]; done) | decide +kernel
theorem own_ln3_ef (m : MethodId) (x0 : Addr) (x1 : Addr) : entryFrame m #[(.ref x0), (.ref x1), .null, .null] 4 = mkF m 0 #[.val (.ref x0), .val (.ref x1), .val .null, .val .null] [] := by first | (simp [entryFrame, mkF, argsToLocals, Value.category]; done) | rfl
def Q_own_ln3 (Z : State) (a1 : Addr) (a2 : Addr) (u0 : Value) (u1 : Value) (u2 : Value) (h0 : Heap) (n0 : Nat) (v : Option Value) (h : Heap) (L : List Loc) : Prop := v = none ∧ Fr n0 L ∧ Keep h0 h [a1] ∧ Exa Z h a1 "com/example/hallinta/hallinta/datastore/LeafNode" ∧ Fld Z h a1 "com/example/hallinta/hallinta/datastore/LeafNode" "schema" "Lcom/example/hallinta/hallinta/yang/schema/TypedSchema;" (.ref a2)
set_option maxRecDepth 65536 in
set_option maxHeartbeats 40000000 in
theorem own_ln3 (l : Launch) (Z : State) (a0 : Array Value) (hw : ∀ d ∈ tables_1, d.before a0 Z = true) (ws : List Jvm.Cond) (a1 : Addr) (a2 : Addr) (u0 : Value) (u1 : Value) (u2 : Value) (h0 : Heap) (n0 : Nat) (Z0 : n0 ≤ h0.size) (Ea : Exa Z h0 a1 "com/example/hallinta/hallinta/datastore/LeafNode") (G0 : Fld Z h0 a1 "com/example/hallinta/hallinta/datastore/LeafNode" "schema" "Lcom/example/hallinta/hallinta/yang/schema/TypedSchema;" u0) (G1 : Fld Z h0 a1 "com/example/hallinta/hallinta/datastore/LeafNode" "value" "Ljava/lang/Object;" u1) (G2 : Fld Z h0 a1 "com/example/hallinta/hallinta/datastore/LeafNode" "type" "Lcom/example/hallinta/hallinta/yang/type/YangType;" u2) (g_a1 : n0 ≤ a1) :
    MetFree l (⟨"com/example/hallinta/hallinta/datastore/LeafNode", "<init>", "(Lcom/example/hallinta/hallinta/yang/schema/TypedSchema;Ljava/lang/Object;Lcom/example/hallinta/hallinta/yang/type/YangType;)V"⟩ : MethodName) (head1 (Jvm.Cond.code (⟨"com/example/hallinta/hallinta/datastore/LeafNode", "<init>", "(Lcom/example/hallinta/hallinta/yang/schema/TypedSchema;Ljava/lang/Object;Lcom/example/hallinta/hallinta/yang/type/YangType;)V"⟩ : MethodName) prog_43_method_2_code 4 none :: ws) ({ frames := 1, cells := 0, slots := 0, locals := 12 } : Room)) (fun a U => a = #[(.ref a1), (.ref a2), .null, .null] ∧ Z.Warmed39 U.vm ∧ U.heap = h0) (fun _ _ _ _ _ => True) (fun _ U o U' => ∃ v L, o = .returned v ∧ Q_own_ln3 Z a1 a2 u0 u1 u2 h0 n0 v U'.heap L ∧ FrameEnd U o U' L ({ frames := 1, cells := 0, slots := 0, locals := 12 } : Room).cells ({ frames := 1, cells := 0, slots := 0, locals := 12 } : Room).slots) := by
  refine MetFree.of_bodySF (plainFor_of_name own_ln3_pn) hisR ?_
  intro p e s m args below meth c s₁ Bd hml0 hP hK
  obtain ⟨rfl, hZ, hh⟩ := hP
  have hx := Bd.exec
  have hby := Bd.bytes
  have hml : c.maxLocals = 4 := hml0
  have hown : s.vm.findClass "com/example/hallinta/hallinta/datastore/LeafNode" = some m.cls := findClass_of_methodNamed Bd.named
  have hnm := (name_of_methodNamed Bd.named Bd.method).1
  have X0 : Stand p l e ({ frames := 1, cells := 0, slots := 0, locals := 12 } : Room) s m #[(.ref a1), (.ref a2), .null, .null] below meth c s₁ [] 0 0 := Stand.of_body Bd
  have e0 : s₁.heap = h0 := by rw [← hh, Bd.state]; rfl
  have N0 := Fr.nil n0
  have pp0 : ∀ t, Steps p.tables e below (s₁.setTop (mkF m 0 #[.val (.ref a1), .val (.ref a2), .val .null, .val .null] [])) t → Steps p.tables e below (s₁.setTop (entryFrame m #[(.ref a1), (.ref a2), .null, .null] 4)) t := fun t k => castTop (own_ln3_ef m a1 a2) k
  have pp101 : ∀ t, Steps p.tables e below (s₁.setTop (mkF m 1 #[.val (.ref a1), .val (.ref a2), .val .null, .val .null] [(.ref a1)])) t → Steps p.tables e below (s₁.setTop (entryFrame m #[(.ref a1), (.ref a2), .null, .null] 4)) t := fun t k => pp0 t (by
    refine XS.aloadN X0.here hx rfl (hb hby own_ln3_d0) rfl rfl ?_
    show Steps p.tables e below (s₁.setTop (mkF m 1 #[.val (.ref a1), .val (.ref a2), .val .null, .val .null] [(.ref a1)])) _
    exact k)
  obtain ⟨T102, X102, e102, st102⟩ := initO X0 hx hZ hown (hw _ (List.mem_of_getElem? (i := 88) rfl)) (hw _ (List.mem_of_getElem? (i := 34) rfl)) (hw _ (List.mem_of_getElem? (i := 35) rfl)) e0 (g := (mkF m 1 #[.val (.ref a1), .val (.ref a2), .val .null, .val .null] [(.ref a1)])) rfl (by rw [hml]; rfl) rfl (hb hby own_ln3_d1) (by decide) (W := 0) (by show 2 * 0 + _ ≤ _; exact Nat.le_of_eq rfl) (by decide)
  have pp103 : ∀ t, Steps p.tables e below (T102.setTop (mkF m 4 #[.val (.ref a1), .val (.ref a2), .val .null, .val .null] [])) t → Steps p.tables e below (s₁.setTop (entryFrame m #[(.ref a1), (.ref a2), .null, .null] 4)) t := fun t k => pp101 t (st102 t k)
  have pp104 : ∀ t, Steps p.tables e below (T102.setTop (mkF m 6 #[.val (.ref a1), .val (.ref a2), .val .null, .val .null] [(.ref a2), (.ref a1)])) t → Steps p.tables e below (s₁.setTop (entryFrame m #[(.ref a1), (.ref a2), .null, .null] 4)) t := fun t k => pp103 t (by
    refine XS.aloadN X102.here hx rfl (hb hby own_ln3_d4) rfl rfl ?_
    show Steps p.tables e below (T102.setTop (mkF m 5 #[.val (.ref a1), .val (.ref a2), .val .null, .val .null] [(.ref a1)])) _
    refine XS.aloadN X102.here hx rfl (hb hby own_ln3_d5) rfl rfl ?_
    show Steps p.tables e below (T102.setTop (mkF m 6 #[.val (.ref a1), .val (.ref a2), .val .null, .val .null] [(.ref a2), (.ref a1)])) _
    exact k)
  obtain ⟨T105, h105, X105, e105, W105, st105⟩ := putF X102 hx hZ hown (host := "") (Or.inl (hw _ (List.mem_of_getElem? (i := 89) rfl))) Via.refl e102 G0 Ea (Or.inr ⟨(hw _ (List.mem_of_getElem? (i := 90) rfl)), rfl, hnm⟩) (hw _ (List.mem_of_getElem? (i := 71) rfl)) (ty := (.object "com/example/hallinta/hallinta/yang/schema/TypedSchema")) (by decide) rfl rfl (g := (mkF m 6 #[.val (.ref a1), .val (.ref a2), .val .null, .val .null] [(.ref a2), (.ref a1)])) rfl rfl (hb hby own_ln3_d6)
  have Fw105 := G0.same W105
  have N105 := Fr.snoc X105 N0 g_a1
  have pp106 : ∀ t, Steps p.tables e below (T105.setTop (mkF m 9 #[.val (.ref a1), .val (.ref a2), .val .null, .val .null] [])) t → Steps p.tables e below (s₁.setTop (entryFrame m #[(.ref a1), (.ref a2), .null, .null] 4)) t := fun t k => pp104 t (st105 t k)
  have pp107 : ∀ t, Steps p.tables e below (T105.setTop (mkF m 11 #[.val (.ref a1), .val (.ref a2), .val .null, .val .null] [.null, (.ref a1)])) t → Steps p.tables e below (s₁.setTop (entryFrame m #[(.ref a1), (.ref a2), .null, .null] 4)) t := fun t k => pp106 t (by
    refine XS.aloadN X105.here hx rfl (hb hby own_ln3_d9) rfl rfl ?_
    show Steps p.tables e below (T105.setTop (mkF m 10 #[.val (.ref a1), .val (.ref a2), .val .null, .val .null] [(.ref a1)])) _
    refine XS.aloadN X105.here hx rfl (hb hby own_ln3_d10) rfl rfl ?_
    show Steps p.tables e below (T105.setTop (mkF m 11 #[.val (.ref a1), .val (.ref a2), .val .null, .val .null] [.null, (.ref a1)])) _
    exact k)
  obtain ⟨T108, h108, X108, e108, W108, st108⟩ := putF X105 hx hZ hown (host := "") (Or.inl (hw _ (List.mem_of_getElem? (i := 91) rfl))) Via.refl e105 (G1.other W105 (Or.inr (slot_ne (Or.inr (hw _ (List.mem_of_getElem? (i := 92) rfl))) (Or.inr (hw _ (List.mem_of_getElem? (i := 90) rfl))) (by decide) (t := (.object "java/lang/Object")) (t' := (.object "com/example/hallinta/hallinta/yang/schema/TypedSchema")) (by decide) (by decide)))) (Ea.wr W105) (Or.inr ⟨(hw _ (List.mem_of_getElem? (i := 92) rfl)), rfl, hnm⟩) (hw _ (List.mem_of_getElem? (i := 71) rfl)) (ty := (.object "java/lang/Object")) (by decide) rfl rfl (g := (mkF m 11 #[.val (.ref a1), .val (.ref a2), .val .null, .val .null] [.null, (.ref a1)])) rfl rfl (hb hby own_ln3_d11)
  have Fw108 := (G1.other W105 (Or.inr (slot_ne (Or.inr (hw _ (List.mem_of_getElem? (i := 92) rfl))) (Or.inr (hw _ (List.mem_of_getElem? (i := 90) rfl))) (by decide) (t := (.object "java/lang/Object")) (t' := (.object "com/example/hallinta/hallinta/yang/schema/TypedSchema")) (by decide) (by decide)))).same W108
  have N108 := Fr.snoc X108 N105 g_a1
  have pp109 : ∀ t, Steps p.tables e below (T108.setTop (mkF m 14 #[.val (.ref a1), .val (.ref a2), .val .null, .val .null] [])) t → Steps p.tables e below (s₁.setTop (entryFrame m #[(.ref a1), (.ref a2), .null, .null] 4)) t := fun t k => pp107 t (st108 t k)
  have pp110 : ∀ t, Steps p.tables e below (T108.setTop (mkF m 16 #[.val (.ref a1), .val (.ref a2), .val .null, .val .null] [.null, (.ref a1)])) t → Steps p.tables e below (s₁.setTop (entryFrame m #[(.ref a1), (.ref a2), .null, .null] 4)) t := fun t k => pp109 t (by
    refine XS.aloadN X108.here hx rfl (hb hby own_ln3_d14) rfl rfl ?_
    show Steps p.tables e below (T108.setTop (mkF m 15 #[.val (.ref a1), .val (.ref a2), .val .null, .val .null] [(.ref a1)])) _
    refine XS.aloadN X108.here hx rfl (hb hby own_ln3_d15) rfl rfl ?_
    show Steps p.tables e below (T108.setTop (mkF m 16 #[.val (.ref a1), .val (.ref a2), .val .null, .val .null] [.null, (.ref a1)])) _
    exact k)
  obtain ⟨T111, h111, X111, e111, W111, st111⟩ := putF X108 hx hZ hown (host := "") (Or.inl (hw _ (List.mem_of_getElem? (i := 93) rfl))) Via.refl e108 ((G2.other W105 (Or.inr (slot_ne (Or.inr (hw _ (List.mem_of_getElem? (i := 94) rfl))) (Or.inr (hw _ (List.mem_of_getElem? (i := 90) rfl))) (by decide) (t := (.object "com/example/hallinta/hallinta/yang/type/YangType")) (t' := (.object "com/example/hallinta/hallinta/yang/schema/TypedSchema")) (by decide) (by decide)))).other W108 (Or.inr (slot_ne (Or.inr (hw _ (List.mem_of_getElem? (i := 94) rfl))) (Or.inr (hw _ (List.mem_of_getElem? (i := 92) rfl))) (by decide) (t := (.object "com/example/hallinta/hallinta/yang/type/YangType")) (t' := (.object "java/lang/Object")) (by decide) (by decide)))) ((Ea.wr W105).wr W108) (Or.inr ⟨(hw _ (List.mem_of_getElem? (i := 94) rfl)), rfl, hnm⟩) (hw _ (List.mem_of_getElem? (i := 71) rfl)) (ty := (.object "com/example/hallinta/hallinta/yang/type/YangType")) (by decide) rfl rfl (g := (mkF m 16 #[.val (.ref a1), .val (.ref a2), .val .null, .val .null] [.null, (.ref a1)])) rfl rfl (hb hby own_ln3_d16)
  have Fw111 := ((G2.other W105 (Or.inr (slot_ne (Or.inr (hw _ (List.mem_of_getElem? (i := 94) rfl))) (Or.inr (hw _ (List.mem_of_getElem? (i := 90) rfl))) (by decide) (t := (.object "com/example/hallinta/hallinta/yang/type/YangType")) (t' := (.object "com/example/hallinta/hallinta/yang/schema/TypedSchema")) (by decide) (by decide)))).other W108 (Or.inr (slot_ne (Or.inr (hw _ (List.mem_of_getElem? (i := 94) rfl))) (Or.inr (hw _ (List.mem_of_getElem? (i := 92) rfl))) (by decide) (t := (.object "com/example/hallinta/hallinta/yang/type/YangType")) (t' := (.object "java/lang/Object")) (by decide) (by decide)))).same W111
  have N111 := Fr.snoc X111 N108 g_a1
  have pp112 : ∀ t, Steps p.tables e below (T111.setTop (mkF m 19 #[.val (.ref a1), .val (.ref a2), .val .null, .val .null] [])) t → Steps p.tables e below (s₁.setTop (entryFrame m #[(.ref a1), (.ref a2), .null, .null] 4)) t := fun t k => pp110 t (st111 t k)
  obtain ⟨fs, hr, hrun, hended, hW, hsame⟩ := X111.leave (v := none) (fun _ => rfl)
  refine ⟨_, _, pp112 _ ?_, hrun, hended, _, _, rfl, ?_, ⟨_, rfl⟩, hW, hsame.mono (by decide) (by decide)⟩
  · exact X111.returnOut hx Bd.returns (hb hby own_ln3_d19) hr
  · show Q_own_ln3 Z a1 a2 u0 u1 u2 h0 n0 _ T111.heap _
    rw [e111]
    exact ⟨rfl, N111, ((((Keep.refl h0 [a1]).wr W105 (Or.inl (List.mem_of_getElem? (i := 0) rfl))).wr W108 (Or.inl (List.mem_of_getElem? (i := 0) rfl))).wr W111 (Or.inl (List.mem_of_getElem? (i := 0) rfl))), (((Ea.wr W105).wr W108).wr W111), ((Fw105.other W108 (Or.inr (slot_ne (Or.inr (hw _ (List.mem_of_getElem? (i := 90) rfl))) (Or.inr (hw _ (List.mem_of_getElem? (i := 92) rfl))) (by decide) (t := (.object "com/example/hallinta/hallinta/yang/schema/TypedSchema")) (t' := (.object "java/lang/Object")) (by decide) (by decide)))).other W111 (Or.inr (slot_ne (Or.inr (hw _ (List.mem_of_getElem? (i := 90) rfl))) (Or.inr (hw _ (List.mem_of_getElem? (i := 94) rfl))) (by decide) (t := (.object "com/example/hallinta/hallinta/yang/schema/TypedSchema")) (t' := (.object "com/example/hallinta/hallinta/yang/type/YangType")) (by decide) (by decide))))⟩
theorem pd___Lcom_example_hallinta_hallinta_yang_type_YangType_ : parseMethodDescriptor "()Lcom/example/hallinta/hallinta/yang/type/YangType;" = some ⟨[], some (.object "com/example/hallinta/hallinta/yang/type/YangType")⟩ := by decide +kernel
theorem pd__Lcom_example_hallinta_hallinta_yang_schema_TypedSchema_Ljava_lang_Object_Lcom_example_hallinta_hallinta_yang_type_YangType__V : parseMethodDescriptor "(Lcom/example/hallinta/hallinta/yang/schema/TypedSchema;Ljava/lang/Object;Lcom/example/hallinta/hallinta/yang/type/YangType;)V" = some ⟨[(.object "com/example/hallinta/hallinta/yang/schema/TypedSchema"), (.object "java/lang/Object"), (.object "com/example/hallinta/hallinta/yang/type/YangType")], none⟩ := by decide +kernel
theorem own_ln2_d0 : decode prog_43_method_1_code 0 = .ok (.aload_n 0, 1) := by decide +kernel
theorem own_ln2_d1 : decode prog_43_method_1_code 1 = .ok (.aload_n 1, 1) := by decide +kernel
theorem own_ln2_d2 : decode prog_43_method_1_code 2 = .ok (.aload_n 2, 1) := by decide +kernel
theorem own_ln2_d3 : decode prog_43_method_1_code 3 = .ok (.aload_n 1, 1) := by decide +kernel
theorem own_ln2_d4 : decode prog_43_method_1_code 4 = .ok (.invokeinterface 1 1, 5) := by decide +kernel
theorem own_ln2_d9 : decode prog_43_method_1_code 9 = .ok (.invokespecial 7, 3) := by decide +kernel
theorem own_ln2_d12 : decode prog_43_method_1_code 12 = .ok (.return_, 1) := by decide +kernel
theorem own_ln2_pn : plainName "com/example/hallinta/hallinta/datastore/LeafNode" = true := by first | (simp [plainName, overriddenIn]; done) | decide +kernel
theorem own_ln2_ef (m : MethodId) (x0 : Addr) (x1 : Addr) : entryFrame m #[(.ref x0), (.ref x1), .null] 3 = mkF m 0 #[.val (.ref x0), .val (.ref x1), .val .null] [] := by first | (simp [entryFrame, mkF, argsToLocals, Value.category]; done) | rfl
def Q_own_ln2 (Z : State) (a1 : Addr) (a2 : Addr) (u0 : Value) (u1 : Value) (u2 : Value) (h0 : Heap) (n0 : Nat) (v : Option Value) (h : Heap) (L : List Loc) : Prop := v = none ∧ Fr n0 L ∧ Keep h0 h [a1] ∧ Exa Z h a1 "com/example/hallinta/hallinta/datastore/LeafNode" ∧ Fld Z h a1 "com/example/hallinta/hallinta/datastore/LeafNode" "schema" "Lcom/example/hallinta/hallinta/yang/schema/TypedSchema;" (.ref a2)
set_option maxRecDepth 65536 in
set_option maxHeartbeats 40000000 in
theorem own_ln2 (l : Launch) (Z : State) (a0 : Array Value) (hw : ∀ d ∈ tables_1, d.before a0 Z = true) (ws : List Jvm.Cond) (a1 : Addr) (a2 : Addr) (u0 : Value) (u1 : Value) (u2 : Value) (h0 : Heap) (n0 : Nat) (Z0 : n0 ≤ h0.size) (Ea : Exa Z h0 a1 "com/example/hallinta/hallinta/datastore/LeafNode") (G0 : Fld Z h0 a1 "com/example/hallinta/hallinta/datastore/LeafNode" "schema" "Lcom/example/hallinta/hallinta/yang/schema/TypedSchema;" u0) (G1 : Fld Z h0 a1 "com/example/hallinta/hallinta/datastore/LeafNode" "value" "Ljava/lang/Object;" u1) (G2 : Fld Z h0 a1 "com/example/hallinta/hallinta/datastore/LeafNode" "type" "Lcom/example/hallinta/hallinta/yang/type/YangType;" u2) (g_a1 : n0 ≤ a1) (E2 : Exa Z h0 a2 "com/example/hallinta/hallinta/yang/schema/LeafSchema") (F2 : Fld Z h0 a2 "com/example/hallinta/hallinta/yang/schema/LeafSchema" "type" "Lcom/example/hallinta/hallinta/yang/type/YangType;" .null) :
    MetFree l (⟨"com/example/hallinta/hallinta/datastore/LeafNode", "<init>", "(Lcom/example/hallinta/hallinta/yang/schema/TypedSchema;Ljava/lang/Object;)V"⟩ : MethodName) (head1 (Jvm.Cond.code (⟨"com/example/hallinta/hallinta/datastore/LeafNode", "<init>", "(Lcom/example/hallinta/hallinta/yang/schema/TypedSchema;Ljava/lang/Object;)V"⟩ : MethodName) prog_43_method_1_code 3 none :: ws) ({ frames := 2, cells := 0, slots := 0, locals := 27 } : Room)) (fun a U => a = #[(.ref a1), (.ref a2), .null] ∧ Z.Warmed39 U.vm ∧ U.heap = h0) (fun _ _ _ _ _ => True) (fun _ U o U' => ∃ v L, o = .returned v ∧ Q_own_ln2 Z a1 a2 u0 u1 u2 h0 n0 v U'.heap L ∧ FrameEnd U o U' L ({ frames := 2, cells := 0, slots := 0, locals := 27 } : Room).cells ({ frames := 2, cells := 0, slots := 0, locals := 27 } : Room).slots) := by
  refine MetFree.of_bodySF (plainFor_of_name own_ln2_pn) hisR ?_
  intro p e s m args below meth c s₁ Bd hml0 hP hK
  obtain ⟨rfl, hZ, hh⟩ := hP
  have hx := Bd.exec
  have hby := Bd.bytes
  have hml : c.maxLocals = 3 := hml0
  have hown : s.vm.findClass "com/example/hallinta/hallinta/datastore/LeafNode" = some m.cls := findClass_of_methodNamed Bd.named
  have hnm := (name_of_methodNamed Bd.named Bd.method).1
  have X0 : Stand p l e ({ frames := 2, cells := 0, slots := 0, locals := 27 } : Room) s m #[(.ref a1), (.ref a2), .null] below meth c s₁ [] 0 0 := Stand.of_body Bd
  have e0 : s₁.heap = h0 := by rw [← hh, Bd.state]; rfl
  have N0 := Fr.nil n0
  have pp0 : ∀ t, Steps p.tables e below (s₁.setTop (mkF m 0 #[.val (.ref a1), .val (.ref a2), .val .null] [])) t → Steps p.tables e below (s₁.setTop (entryFrame m #[(.ref a1), (.ref a2), .null] 3)) t := fun t k => castTop (own_ln2_ef m a1 a2) k
  have pp101 : ∀ t, Steps p.tables e below (s₁.setTop (mkF m 4 #[.val (.ref a1), .val (.ref a2), .val .null] [(.ref a2), .null, (.ref a2), (.ref a1)])) t → Steps p.tables e below (s₁.setTop (entryFrame m #[(.ref a1), (.ref a2), .null] 3)) t := fun t k => pp0 t (by
    refine XS.aloadN X0.here hx rfl (hb hby own_ln2_d0) rfl rfl ?_
    show Steps p.tables e below (s₁.setTop (mkF m 1 #[.val (.ref a1), .val (.ref a2), .val .null] [(.ref a1)])) _
    refine XS.aloadN X0.here hx rfl (hb hby own_ln2_d1) rfl rfl ?_
    show Steps p.tables e below (s₁.setTop (mkF m 2 #[.val (.ref a1), .val (.ref a2), .val .null] [(.ref a2), (.ref a1)])) _
    refine XS.aloadN X0.here hx rfl (hb hby own_ln2_d2) rfl rfl ?_
    show Steps p.tables e below (s₁.setTop (mkF m 3 #[.val (.ref a1), .val (.ref a2), .val .null] [.null, (.ref a2), (.ref a1)])) _
    refine XS.aloadN X0.here hx rfl (hb hby own_ln2_d3) rfl rfl ?_
    show Steps p.tables e below (s₁.setTop (mkF m 4 #[.val (.ref a1), .val (.ref a2), .val .null] [(.ref a2), .null, (.ref a2), (.ref a1)])) _
    exact k)
  obtain ⟨cq102, kq102, q102a, q102b, q102c⟩ := isOf hZ e0 E2
  obtain ⟨_, _, ⟨T102, L102, k102, n102⟩, -, X102, ⟨Lc102, hQ102, l102, y102, z102⟩, st102⟩ := X0.interfaceBack hx (xi := (⟨"com/example/hallinta/hallinta/yang/schema/TypedSchema", "type", "()Lcom/example/hallinta/hallinta/yang/type/YangType;"⟩ : MethodName)) (y := (⟨"com/example/hallinta/hallinta/yang/schema/LeafSchema", "type", "()Lcom/example/hallinta/hallinta/yang/type/YangType;"⟩ : MethodName)) hown (mvT hZ (hw _ (List.mem_of_getElem? (i := 76) rfl))) (mvT hZ (hw _ (List.mem_of_getElem? (i := 77) rfl))) (mvT hZ (hw _ (List.mem_of_getElem? (i := 78) rfl))) (mvT hZ (hw _ (List.mem_of_getElem? (i := 79) rfl))) (mvT hZ (hw _ (List.mem_of_getElem? (i := 80) rfl))) (mvT hZ (hw _ (List.mem_of_getElem? (i := 81) rfl))) (mvT hZ (hw _ (List.mem_of_getElem? (i := 82) rfl))) (mvT hZ (hw _ (List.mem_of_getElem? (i := 83) rfl))) (by decide) (backOf (W := 3) (own_type l Z a0 hw [] a2 h0 n0 Z0 F2) hZ (hw _ (List.mem_of_getElem? (i := 84) rfl)) (hw _ (List.mem_of_getElem? (i := 6) rfl)) (by decide) (by decide)) q102a q102b q102c (g := (mkF m 4 #[.val (.ref a1), .val (.ref a2), .val .null] [(.ref a2), .null, (.ref a2), (.ref a1)])) rfl (by rw [hml]; rfl) (Steps.refl _) (argsL := []) (rest := [.null, (.ref a2), (.ref a1)]) (lenOf pd___Lcom_example_hallinta_hallinta_yang_type_YangType_ rfl) rfl (by show 2 * 0 + _ ≤ _; exact Nat.le_of_eq rfl) (hb hby own_ln2_d4) (fun _ _ => ⟨rfl, e0, (by decide : 0 + 0 ≤ _), (by decide : 0 + 0 ≤ _)⟩)
  dsimp only [Pt.U, Pt.locs, Pt.cells, Pt.slots] at X102 l102 y102 z102 st102 hQ102
  subst l102 y102 z102
  obtain ⟨rfl, N102q, s102⟩ := hQ102
  have N102 := Fr.app N0 N102q
  have pp103 : ∀ t, Steps p.tables e below (T102.setTop (mkF m 9 #[.val (.ref a1), .val (.ref a2), .val .null] [.null, .null, (.ref a2), (.ref a1)])) t → Steps p.tables e below (s₁.setTop (entryFrame m #[(.ref a1), (.ref a2), .null] 3)) t := fun t k => pp101 t (st102.trans k)
  obtain ⟨_, _, ⟨T104, L104, k104, n104⟩, -, X104, ⟨Lc104, hQ104, l104, y104, z104⟩, st104⟩ := X102.specialBack hx (y := (⟨"com/example/hallinta/hallinta/datastore/LeafNode", "<init>", "(Lcom/example/hallinta/hallinta/yang/schema/TypedSchema;Ljava/lang/Object;Lcom/example/hallinta/hallinta/yang/type/YangType;)V"⟩ : MethodName)) rfl hown (mvT hZ (hw _ (List.mem_of_getElem? (i := 85) rfl))) (mvT hZ (hw _ (List.mem_of_getElem? (i := 86) rfl))) (mvT hZ (hw _ (List.mem_of_getElem? (i := 87) rfl))) (by decide) (backOf (W := 0) (own_ln3 l Z a0 hw [] a1 a2 u0 u1 u2 h0 n0 Z0 Ea G0 G1 G2 g_a1) hZ (hw _ (List.mem_of_getElem? (i := 87) rfl)) (hw _ (List.mem_of_getElem? (i := 72) rfl)) (by decide) (by decide)) (g := (mkF m 9 #[.val (.ref a1), .val (.ref a2), .val .null] [.null, .null, (.ref a2), (.ref a1)])) rfl (by rw [hml]; rfl) (Steps.refl _) (a := a1) (argsL := [(.ref a2), .null, .null]) (rest := []) (lenOf pd__Lcom_example_hallinta_hallinta_yang_schema_TypedSchema_Ljava_lang_Object_Lcom_example_hallinta_hallinta_yang_type_YangType__V rfl) rfl (by show 2 * 0 + _ ≤ _; exact Nat.le_of_eq rfl) (hb hby own_ln2_d9) (fun _ _ => ⟨rfl, s102, (by decide : 0 + 0 ≤ _), (by decide : 0 + 0 ≤ _)⟩)
  dsimp only [Pt.U, Pt.locs, Pt.cells, Pt.slots] at X104 l104 y104 z104 st104 hQ104
  subst l104 y104 z104
  obtain ⟨rfl, N104q, K104, EE104, Fs104⟩ := hQ104
  have N104 := Fr.app N102 N104q
  have pp105 : ∀ t, Steps p.tables e below (T104.setTop (mkF m 12 #[.val (.ref a1), .val (.ref a2), .val .null] [])) t → Steps p.tables e below (s₁.setTop (entryFrame m #[(.ref a1), (.ref a2), .null] 3)) t := fun t k => pp103 t (st104.trans k)
  obtain ⟨fs, hr, hrun, hended, hW, hsame⟩ := X104.leave (v := none) (fun _ => rfl)
  refine ⟨_, _, pp105 _ ?_, hrun, hended, _, _, rfl, ?_, ⟨_, rfl⟩, hW, hsame.mono (by decide) (by decide)⟩
  · exact X104.returnOut hx Bd.returns (hb hby own_ln2_d12) hr
  · show Q_own_ln2 Z a1 a2 u0 u1 u2 h0 n0 _ T104.heap _
    exact ⟨rfl, N104, K104, EE104, Fs104⟩
def own_ss (r a : Addr) : Int32 := if r = a then 0 else 1
theorem own_selst_d0 : decode prog_14_method_4_code 0 = .ok (.aload_n 0, 1) := by decide +kernel
theorem own_selst_d1 : decode prog_14_method_4_code 1 = .ok (.getstatic 3, 3) := by decide +kernel
theorem own_selst_d4 : decode prog_14_method_4_code 4 = .ok (.if_acmp .eq 7, 3) := by decide +kernel
theorem own_selst_d7 : decode prog_14_method_4_code 7 = .ok (.iconst 1, 1) := by decide +kernel
theorem own_selst_d8 : decode prog_14_method_4_code 8 = .ok (.goto 4, 3) := by decide +kernel
theorem own_selst_d11 : decode prog_14_method_4_code 11 = .ok (.iconst 0, 1) := by decide +kernel
theorem own_selst_d12 : decode prog_14_method_4_code 12 = .ok (.ireturn, 1) := by decide +kernel
theorem own_selst_pn : plainName "com/example/hallinta/hallinta/datastore/Content" = true := by first | (simp [plainName, overriddenIn]; done) | decide +kernel
theorem own_selst_ef (m : MethodId) (x0 : Addr) : entryFrame m #[(.ref x0)] 1 = mkF m 0 #[.val (.ref x0)] [] := by first | (simp [entryFrame, mkF, argsToLocals, Value.category]; done) | rfl
def Q_own_selst (Z : State) (a1 : Addr) (z0 : Addr) (h0 : Heap) (n0 : Nat) (v : Option Value) (h : Heap) (L : List Loc) : Prop := v = some (.int (own_ss a1 z0)) ∧ Fr n0 L ∧ h = h0
set_option maxRecDepth 65536 in
set_option maxHeartbeats 40000000 in
theorem own_selst (l : Launch) (Z : State) (a0 : Array Value) (hw : ∀ d ∈ tables_1, d.before a0 Z = true) (ws : List Jvm.Cond) (a1 : Addr) (z0 : Addr) (h0 : Heap) (n0 : Nat) (Z0 : n0 ≤ h0.size) (S0 : Sta Z h0 "com/example/hallinta/hallinta/datastore/Content" "CONFIG" "Lcom/example/hallinta/hallinta/datastore/Content;" (.ref z0)) :
    MetFree l (⟨"com/example/hallinta/hallinta/datastore/Content", "selectsState", "()Z"⟩ : MethodName) (head1 (Jvm.Cond.code (⟨"com/example/hallinta/hallinta/datastore/Content", "selectsState", "()Z"⟩ : MethodName) prog_14_method_4_code 1 (some .boolean) :: ws) ({ frames := 0, cells := 0, slots := 0, locals := 0 } : Room)) (fun a U => a = #[(.ref a1)] ∧ Z.Warmed39 U.vm ∧ U.heap = h0) (fun _ _ _ _ _ => True) (fun _ U o U' => ∃ v L, o = .returned v ∧ Q_own_selst Z a1 z0 h0 n0 v U'.heap L ∧ FrameEnd U o U' L ({ frames := 0, cells := 0, slots := 0, locals := 0 } : Room).cells ({ frames := 0, cells := 0, slots := 0, locals := 0 } : Room).slots) := by
  refine MetFree.of_bodySF (plainFor_of_name own_selst_pn) hisR ?_
  intro p e s m args below meth c s₁ Bd hml0 hP hK
  obtain ⟨rfl, hZ, hh⟩ := hP
  have hx := Bd.exec
  have hby := Bd.bytes
  have hml : c.maxLocals = 1 := hml0
  have hown : s.vm.findClass "com/example/hallinta/hallinta/datastore/Content" = some m.cls := findClass_of_methodNamed Bd.named
  have hnm := (name_of_methodNamed Bd.named Bd.method).1
  have X0 : Stand p l e ({ frames := 0, cells := 0, slots := 0, locals := 0 } : Room) s m #[(.ref a1)] below meth c s₁ [] 0 0 := Stand.of_body Bd
  have e0 : s₁.heap = h0 := by rw [← hh, Bd.state]; rfl
  have N0 := Fr.nil n0
  have pp0 : ∀ t, Steps p.tables e below (s₁.setTop (mkF m 0 #[.val (.ref a1)] [])) t → Steps p.tables e below (s₁.setTop (entryFrame m #[(.ref a1)] 1)) t := fun t k => castTop (own_selst_ef m a1) k
  have pp101 : ∀ t, Steps p.tables e below (s₁.setTop (mkF m 1 #[.val (.ref a1)] [(.ref a1)])) t → Steps p.tables e below (s₁.setTop (entryFrame m #[(.ref a1)] 1)) t := fun t k => pp0 t (by
    refine XS.aloadN X0.here hx rfl (hb hby own_selst_d0) rfl rfl ?_
    show Steps p.tables e below (s₁.setTop (mkF m 1 #[.val (.ref a1)] [(.ref a1)])) _
    exact k)
  obtain ⟨T102, X102, e102, st102⟩ := getS2 X0 hx hZ hown (host := "") (Or.inl (hw _ (List.mem_of_getElem? (i := 100) rfl))) Via.refl e0 S0 (g := (mkF m 1 #[.val (.ref a1)] [(.ref a1)])) rfl (hb hby own_selst_d1)
  have pp103 : ∀ t, Steps p.tables e below (T102.setTop (mkF m 4 #[.val (.ref a1)] [(.ref z0), (.ref a1)])) t → Steps p.tables e below (s₁.setTop (entryFrame m #[(.ref a1)] 1)) t := fun t k => pp101 t (st102 t k)
  by_cases hA : a1 = z0
  · have pp104 : ∀ t, Steps p.tables e below (T102.setTop (mkF m 12 #[.val (.ref a1)] [(.int (0 : Int32))])) t → Steps p.tables e below (s₁.setTop (entryFrame m #[(.ref a1)] 1)) t := fun t k => pp103 t (by
      refine Jvm.RoadKit.acmp (g := (mkF m 4 #[.val (.ref a1)] [(.ref z0), (.ref a1)])) X102 hx rfl rfl rfl (pc0 := 4) (pc' := 11) (same := true) rfl (hb hby own_selst_d4) rfl (decide_eq_true (congrArg Value.ref hA)) (by decide) (by decide) ?_
      show Steps p.tables e below (T102.setTop (mkF m 11 #[.val (.ref a1)] [])) _
      refine XS.iconst X102.here hx rfl (hb hby own_selst_d11) ?_
      show Steps p.tables e below (T102.setTop (mkF m 12 #[.val (.ref a1)] [(.int (0 : Int32))])) _
      exact k)
    obtain ⟨fs, hr, hrun, hended, hW, hsame⟩ := X102.leave (v := some (.int (0 : Int32))) (fun h => by rw [Bd.returns] at h; cases h)
    refine ⟨_, _, pp104 _ ?_, hrun, hended, _, _, rfl, ?_, ⟨_, rfl⟩, hW, hsame.mono (by decide) (by decide)⟩
    · exact retN X102 hx (t := .boolean) Bd.returns (by simp) (hb hby own_selst_d12) hr
    · show Q_own_selst Z a1 z0 h0 n0 _ T102.heap _
      rw [e102]
      exact ⟨by rw [own_ss, if_pos hA], N0, rfl⟩
  · have pp105 : ∀ t, Steps p.tables e below (T102.setTop (mkF m 12 #[.val (.ref a1)] [(.int (1 : Int32))])) t → Steps p.tables e below (s₁.setTop (entryFrame m #[(.ref a1)] 1)) t := fun t k => pp103 t (by
      refine Jvm.RoadKit.acmp (g := (mkF m 4 #[.val (.ref a1)] [(.ref z0), (.ref a1)])) X102 hx rfl rfl rfl (pc0 := 4) (pc' := 7) (same := false) rfl (hb hby own_selst_d4) rfl (decide_eq_false fun q => hA (Value.ref.inj q)) (by decide) (by decide) ?_
      show Steps p.tables e below (T102.setTop (mkF m 7 #[.val (.ref a1)] [])) _
      refine XS.iconst X102.here hx rfl (hb hby own_selst_d7) ?_
      show Steps p.tables e below (T102.setTop (mkF m 8 #[.val (.ref a1)] [(.int (1 : Int32))])) _
      refine XS.goto X102.here hx rfl (pc0 := 8) (pc' := 12) rfl (hb hby own_selst_d8) (by decide) (by decide) ?_
      show Steps p.tables e below (T102.setTop (mkF m 12 #[.val (.ref a1)] [(.int (1 : Int32))])) _
      exact k)
    obtain ⟨fs, hr, hrun, hended, hW, hsame⟩ := X102.leave (v := some (.int (1 : Int32))) (fun h => by rw [Bd.returns] at h; cases h)
    refine ⟨_, _, pp105 _ ?_, hrun, hended, _, _, rfl, ?_, ⟨_, rfl⟩, hW, hsame.mono (by decide) (by decide)⟩
    · exact retN X102 hx (t := .boolean) Bd.returns (by simp) (hb hby own_selst_d12) hr
    · show Q_own_selst Z a1 z0 h0 n0 _ T102.heap _
      rw [e102]
      exact ⟨by rw [own_ss, if_neg hA], N0, rfl⟩
theorem pd___Lcom_example_hallinta_hallinta_yang_schema_SchemaNode_ : parseMethodDescriptor "()Lcom/example/hallinta/hallinta/yang/schema/SchemaNode;" = some ⟨[], some (.object "com/example/hallinta/hallinta/yang/schema/SchemaNode")⟩ := by decide +kernel
theorem pd___Z : parseMethodDescriptor "()Z" = some ⟨[], some .boolean⟩ := by decide +kernel
theorem own_hn_d0 : decode prog_14_method_6_code 0 = .ok (.aload_n 0, 1) := by decide +kernel
theorem own_hn_d1 : decode prog_14_method_6_code 1 = .ok (.invokeinterface 41 1, 5) := by decide +kernel
theorem own_hn_d6 : decode prog_14_method_6_code 6 = .ok (.invokeinterface 47 1, 5) := by decide +kernel
theorem own_hn_d11 : decode prog_14_method_6_code 11 = .ok (.ifCond .ne 8, 3) := by decide +kernel
theorem own_hn_d14 : decode prog_14_method_6_code 14 = .ok (.iconst 1, 1) := by decide +kernel
theorem own_hn_d15 : decode prog_14_method_6_code 15 = .ok (.istore_n 1, 1) := by decide +kernel
theorem own_hn_d16 : decode prog_14_method_6_code 16 = .ok (.goto 75, 3) := by decide +kernel
theorem own_hn_d91 : decode prog_14_method_6_code 91 = .ok (.iload_n 1, 1) := by decide +kernel
theorem own_hn_d92 : decode prog_14_method_6_code 92 = .ok (.ireturn, 1) := by decide +kernel
theorem own_hn_pn : plainName "com/example/hallinta/hallinta/datastore/Content" = true := by first | (simp [plainName, overriddenIn]; done) | decide +kernel
theorem own_hn_ef (m : MethodId) (x0 : Addr) : entryFrame m #[(.ref x0)] 4 = mkF m 0 #[.val (.ref x0), .unset, .unset, .unset] [] := by first | (simp [entryFrame, mkF, argsToLocals, Value.category]; done) | rfl
def Q_own_hn (Z : State) (a1 : Addr) (b : Addr) (h0 : Heap) (n0 : Nat) (v : Option Value) (h : Heap) (L : List Loc) : Prop := v = some (.int 1) ∧ Fr n0 L ∧ h = h0
set_option maxRecDepth 65536 in
set_option maxHeartbeats 40000000 in
theorem own_hn (l : Launch) (Z : State) (a0 : Array Value) (hw : ∀ d ∈ tables_1, d.before a0 Z = true) (ws : List Jvm.Cond) (a1 : Addr) (b : Addr) (h0 : Heap) (n0 : Nat) (Z0 : n0 ≤ h0.size) (En : Exa Z h0 a1 "com/example/hallinta/hallinta/datastore/LeafNode") (Fn : Fld Z h0 a1 "com/example/hallinta/hallinta/datastore/LeafNode" "schema" "Lcom/example/hallinta/hallinta/yang/schema/TypedSchema;" (.ref b)) (Es : Exa Z h0 b "com/example/hallinta/hallinta/yang/schema/LeafSchema") (Fs : Fld Z h0 b "com/example/hallinta/hallinta/yang/schema/LeafSchema" "config" "Z" (.int (nar .boolean (0 : Int32)))) :
    MetFree l (⟨"com/example/hallinta/hallinta/datastore/Content", "holdsNonconfig", "(Lcom/example/hallinta/hallinta/datastore/DataNode;)Z"⟩ : MethodName) (head1 (Jvm.Cond.code (⟨"com/example/hallinta/hallinta/datastore/Content", "holdsNonconfig", "(Lcom/example/hallinta/hallinta/datastore/DataNode;)Z"⟩ : MethodName) prog_14_method_6_code 4 (some .boolean) :: ws) ({ frames := 1, cells := 0, slots := 0, locals := 12 } : Room)) (fun a U => a = #[(.ref a1)] ∧ Z.Warmed39 U.vm ∧ U.heap = h0) (fun _ _ _ _ _ => True) (fun _ U o U' => ∃ v L, o = .returned v ∧ Q_own_hn Z a1 b h0 n0 v U'.heap L ∧ FrameEnd U o U' L ({ frames := 1, cells := 0, slots := 0, locals := 12 } : Room).cells ({ frames := 1, cells := 0, slots := 0, locals := 12 } : Room).slots) := by
  refine MetFree.of_bodySF (plainFor_of_name own_hn_pn) hisR ?_
  intro p e s m args below meth c s₁ Bd hml0 hP hK
  obtain ⟨rfl, hZ, hh⟩ := hP
  have hx := Bd.exec
  have hby := Bd.bytes
  have hml : c.maxLocals = 4 := hml0
  have hown : s.vm.findClass "com/example/hallinta/hallinta/datastore/Content" = some m.cls := findClass_of_methodNamed Bd.named
  have hnm := (name_of_methodNamed Bd.named Bd.method).1
  have X0 : Stand p l e ({ frames := 1, cells := 0, slots := 0, locals := 12 } : Room) s m #[(.ref a1)] below meth c s₁ [] 0 0 := Stand.of_body Bd
  have e0 : s₁.heap = h0 := by rw [← hh, Bd.state]; rfl
  have N0 := Fr.nil n0
  have pp0 : ∀ t, Steps p.tables e below (s₁.setTop (mkF m 0 #[.val (.ref a1), .unset, .unset, .unset] [])) t → Steps p.tables e below (s₁.setTop (entryFrame m #[(.ref a1)] 4)) t := fun t k => castTop (own_hn_ef m a1) k
  have pp101 : ∀ t, Steps p.tables e below (s₁.setTop (mkF m 1 #[.val (.ref a1), .unset, .unset, .unset] [(.ref a1)])) t → Steps p.tables e below (s₁.setTop (entryFrame m #[(.ref a1)] 4)) t := fun t k => pp0 t (by
    refine XS.aloadN X0.here hx rfl (hb hby own_hn_d0) rfl rfl ?_
    show Steps p.tables e below (s₁.setTop (mkF m 1 #[.val (.ref a1), .unset, .unset, .unset] [(.ref a1)])) _
    exact k)
  obtain ⟨cq102, kq102, q102a, q102b, q102c⟩ := isOf hZ e0 En
  obtain ⟨_, _, ⟨T102, L102, k102, n102⟩, -, X102, ⟨Lc102, hQ102, l102, y102, z102⟩, st102⟩ := X0.interfaceBack hx (xi := (⟨"com/example/hallinta/hallinta/datastore/DataNode", "node", "()Lcom/example/hallinta/hallinta/yang/schema/SchemaNode;"⟩ : MethodName)) (y := (⟨"com/example/hallinta/hallinta/datastore/LeafNode", "node", "()Lcom/example/hallinta/hallinta/yang/schema/SchemaNode;"⟩ : MethodName)) hown (mvT hZ (hw _ (List.mem_of_getElem? (i := 115) rfl))) (mvT hZ (hw _ (List.mem_of_getElem? (i := 116) rfl))) (mvT hZ (hw _ (List.mem_of_getElem? (i := 117) rfl))) (mvT hZ (hw _ (List.mem_of_getElem? (i := 118) rfl))) (mvT hZ (hw _ (List.mem_of_getElem? (i := 119) rfl))) (mvT hZ (hw _ (List.mem_of_getElem? (i := 120) rfl))) (mvT hZ (hw _ (List.mem_of_getElem? (i := 121) rfl))) (mvT hZ (hw _ (List.mem_of_getElem? (i := 122) rfl))) (by decide) (backOf (W := 0) (own_node l Z a0 hw [] a1 b h0 n0 Z0 Fn) hZ (hw _ (List.mem_of_getElem? (i := 123) rfl)) (hw _ (List.mem_of_getElem? (i := 72) rfl)) (by decide) (by decide)) q102a q102b q102c (g := (mkF m 1 #[.val (.ref a1), .unset, .unset, .unset] [(.ref a1)])) rfl (by rw [hml]; rfl) (Steps.refl _) (argsL := []) (rest := []) (lenOf pd___Lcom_example_hallinta_hallinta_yang_schema_SchemaNode_ rfl) rfl (by show 2 * 0 + _ ≤ _; exact Nat.le_of_eq rfl) (hb hby own_hn_d1) (fun _ _ => ⟨rfl, e0, (by decide : 0 + 0 ≤ _), (by decide : 0 + 0 ≤ _)⟩)
  dsimp only [Pt.U, Pt.locs, Pt.cells, Pt.slots] at X102 l102 y102 z102 st102 hQ102
  subst l102 y102 z102
  obtain ⟨rfl, N102q, s102⟩ := hQ102
  have N102 := Fr.app N0 N102q
  have pp103 : ∀ t, Steps p.tables e below (T102.setTop (mkF m 6 #[.val (.ref a1), .unset, .unset, .unset] [(.ref b)])) t → Steps p.tables e below (s₁.setTop (entryFrame m #[(.ref a1)] 4)) t := fun t k => pp101 t (st102.trans k)
  obtain ⟨cq104, kq104, q104a, q104b, q104c⟩ := isOf hZ s102 Es
  obtain ⟨_, _, ⟨T104, L104, k104, n104⟩, -, X104, ⟨Lc104, hQ104, l104, y104, z104⟩, st104⟩ := X102.interfaceBack hx (xi := (⟨"com/example/hallinta/hallinta/yang/schema/SchemaNode", "config", "()Z"⟩ : MethodName)) (y := (⟨"com/example/hallinta/hallinta/yang/schema/LeafSchema", "config", "()Z"⟩ : MethodName)) hown (mvT hZ (hw _ (List.mem_of_getElem? (i := 124) rfl))) (mvT hZ (hw _ (List.mem_of_getElem? (i := 125) rfl))) (mvT hZ (hw _ (List.mem_of_getElem? (i := 126) rfl))) (mvT hZ (hw _ (List.mem_of_getElem? (i := 127) rfl))) (mvT hZ (hw _ (List.mem_of_getElem? (i := 128) rfl))) (mvT hZ (hw _ (List.mem_of_getElem? (i := 129) rfl))) (mvT hZ (hw _ (List.mem_of_getElem? (i := 130) rfl))) (mvT hZ (hw _ (List.mem_of_getElem? (i := 131) rfl))) (by decide) (backOf (W := 0) (own_config l Z a0 hw [] b (nar .boolean (0 : Int32)) h0 n0 Z0 Fs) hZ (hw _ (List.mem_of_getElem? (i := 132) rfl)) (hw _ (List.mem_of_getElem? (i := 6) rfl)) (by decide) (by decide)) q104a q104b q104c (g := (mkF m 6 #[.val (.ref a1), .unset, .unset, .unset] [(.ref b)])) rfl (by rw [hml]; rfl) (Steps.refl _) (argsL := []) (rest := []) (lenOf pd___Z rfl) rfl (by show 2 * 0 + _ ≤ _; exact Nat.le_of_eq rfl) (hb hby own_hn_d6) (fun _ _ => ⟨rfl, s102, (by decide : 0 + 0 ≤ _), (by decide : 0 + 0 ≤ _)⟩)
  dsimp only [Pt.U, Pt.locs, Pt.cells, Pt.slots] at X104 l104 y104 z104 st104 hQ104
  subst l104 y104 z104
  obtain ⟨rfl, N104q, s104⟩ := hQ104
  have N104 := Fr.app N102 N104q
  have pp105 : ∀ t, Steps p.tables e below (T104.setTop (mkF m 11 #[.val (.ref a1), .unset, .unset, .unset] [(.int (nar .boolean (nar .boolean (0 : Int32))))])) t → Steps p.tables e below (s₁.setTop (entryFrame m #[(.ref a1)] 4)) t := fun t k => pp103 t (st104.trans k)
  rw [show nar .boolean (nar .boolean (0 : Int32)) = (0 : Int32) from by decide] at pp105
  have pp106 : ∀ t, Steps p.tables e below (T104.setTop (mkF m 92 #[.val (.ref a1), .val (.int (1 : Int32)), .unset, .unset] [(.int (1 : Int32))])) t → Steps p.tables e below (s₁.setTop (entryFrame m #[(.ref a1)] 4)) t := fun t k => pp105 t (by
    refine XS.ifNo X104.here hx rfl (hb hby own_hn_d11) rfl ((if0 _ _).trans (teq (by decide : (0 : Int32) = (0 : Int32))).2) ?_
    show Steps p.tables e below (T104.setTop (mkF m 14 #[.val (.ref a1), .unset, .unset, .unset] [])) _
    refine XS.iconst X104.here hx rfl (hb hby own_hn_d14) ?_
    show Steps p.tables e below (T104.setTop (mkF m 15 #[.val (.ref a1), .unset, .unset, .unset] [(.int (1 : Int32))])) _
    refine XS.istoreN X104.here hx rfl (hb hby own_hn_d15) rfl (l' := #[.val (.ref a1), .val (.int (1 : Int32)), .unset, .unset]) rfl ?_
    show Steps p.tables e below (T104.setTop (mkF m 16 #[.val (.ref a1), .val (.int (1 : Int32)), .unset, .unset] [])) _
    refine XS.goto X104.here hx rfl (pc0 := 16) (pc' := 91) rfl (hb hby own_hn_d16) (by decide) (by decide) ?_
    show Steps p.tables e below (T104.setTop (mkF m 91 #[.val (.ref a1), .val (.int (1 : Int32)), .unset, .unset] [])) _
    refine XS.iloadN X104.here hx rfl (hb hby own_hn_d91) rfl ?_
    show Steps p.tables e below (T104.setTop (mkF m 92 #[.val (.ref a1), .val (.int (1 : Int32)), .unset, .unset] [(.int (1 : Int32))])) _
    exact k)
  obtain ⟨fs, hr, hrun, hended, hW, hsame⟩ := X104.leave (v := some (.int (1 : Int32))) (fun h => by rw [Bd.returns] at h; cases h)
  refine ⟨_, _, pp106 _ ?_, hrun, hended, _, _, rfl, ?_, ⟨_, rfl⟩, hW, hsame.mono (by decide) (by decide)⟩
  · exact retN X104 hx (t := .boolean) Bd.returns (by simp) (hb hby own_hn_d92) hr
  · show Q_own_hn Z a1 b h0 n0 _ T104.heap _
    rw [s104]
    exact ⟨rfl, N104, rfl⟩
theorem pd___I : parseMethodDescriptor "()I" = some ⟨[], some .int⟩ := by decide +kernel
theorem own_sel0_d0 : decode prog_14_method_5_code 0 = .ok (.aload_n 0, 1) := by decide +kernel
theorem own_sel0_d1 : decode prog_14_method_5_code 1 = .ok (.invokevirtual 32, 3) := by decide +kernel
theorem own_sel0_d4 : decode prog_14_method_5_code 4 = .ok (.tableswitch 28 0 2 #[38, 52, 59], 28) := by decide +kernel
theorem own_sel0_d42 : decode prog_14_method_5_code 42 = .ok (.aload_n 1, 1) := by decide +kernel
theorem own_sel0_d43 : decode prog_14_method_5_code 43 = .ok (.invokeinterface 41 1, 5) := by decide +kernel
theorem own_sel0_d48 : decode prog_14_method_5_code 48 = .ok (.invokeinterface 47 1, 5) := by decide +kernel
theorem own_sel0_d53 : decode prog_14_method_5_code 53 = .ok (.goto 11, 3) := by decide +kernel
theorem own_sel0_d64 : decode prog_14_method_5_code 64 = .ok (.ireturn, 1) := by decide +kernel
theorem own_sel0_pn : plainName "com/example/hallinta/hallinta/datastore/Content" = true := by first | (simp [plainName, overriddenIn]; done) | decide +kernel
theorem own_sel0_ef (m : MethodId) (x0 : Addr) (x1 : Addr) : entryFrame m #[(.ref x0), (.ref x1)] 2 = mkF m 0 #[.val (.ref x0), .val (.ref x1)] [] := by first | (simp [entryFrame, mkF, argsToLocals, Value.category]; done) | rfl
def Q_own_sel0 (Z : State) (a1 : Addr) (a2 : Addr) (b : Addr) (h0 : Heap) (n0 : Nat) (v : Option Value) (h : Heap) (L : List Loc) : Prop := v = some (.int 0) ∧ Fr n0 L ∧ h = h0
set_option maxRecDepth 65536 in
set_option maxHeartbeats 40000000 in
theorem own_sel0 (l : Launch) (Z : State) (a0 : Array Value) (hw : ∀ d ∈ tables_1, d.before a0 Z = true) (ws : List Jvm.Cond) (a1 : Addr) (a2 : Addr) (b : Addr) (h0 : Heap) (n0 : Nat) (Z0 : n0 ≤ h0.size) (Ec : Exa Z h0 a1 "com/example/hallinta/hallinta/datastore/Content") (Fo : Fld Z h0 a1 "java/lang/Enum" "ordinal" "I" (.int (0 : Int32))) (En : Exa Z h0 a2 "com/example/hallinta/hallinta/datastore/LeafNode") (Fn : Fld Z h0 a2 "com/example/hallinta/hallinta/datastore/LeafNode" "schema" "Lcom/example/hallinta/hallinta/yang/schema/TypedSchema;" (.ref b)) (Es : Exa Z h0 b "com/example/hallinta/hallinta/yang/schema/LeafSchema") (Fs : Fld Z h0 b "com/example/hallinta/hallinta/yang/schema/LeafSchema" "config" "Z" (.int (nar .boolean (0 : Int32)))) :
    MetFree l (⟨"com/example/hallinta/hallinta/datastore/Content", "selects", "(Lcom/example/hallinta/hallinta/datastore/DataNode;)Z"⟩ : MethodName) (head1 (Jvm.Cond.code (⟨"com/example/hallinta/hallinta/datastore/Content", "selects", "(Lcom/example/hallinta/hallinta/datastore/DataNode;)Z"⟩ : MethodName) prog_14_method_5_code 2 (some .boolean) :: ws) ({ frames := 2, cells := 0, slots := 0, locals := 27 } : Room)) (fun a U => a = #[(.ref a1), (.ref a2)] ∧ Z.Warmed39 U.vm ∧ U.heap = h0) (fun _ _ _ _ _ => True) (fun _ U o U' => ∃ v L, o = .returned v ∧ Q_own_sel0 Z a1 a2 b h0 n0 v U'.heap L ∧ FrameEnd U o U' L ({ frames := 2, cells := 0, slots := 0, locals := 27 } : Room).cells ({ frames := 2, cells := 0, slots := 0, locals := 27 } : Room).slots) := by
  refine MetFree.of_bodySF (plainFor_of_name own_sel0_pn) hisR ?_
  intro p e s m args below meth c s₁ Bd hml0 hP hK
  obtain ⟨rfl, hZ, hh⟩ := hP
  have hx := Bd.exec
  have hby := Bd.bytes
  have hml : c.maxLocals = 2 := hml0
  have hown : s.vm.findClass "com/example/hallinta/hallinta/datastore/Content" = some m.cls := findClass_of_methodNamed Bd.named
  have hnm := (name_of_methodNamed Bd.named Bd.method).1
  have X0 : Stand p l e ({ frames := 2, cells := 0, slots := 0, locals := 27 } : Room) s m #[(.ref a1), (.ref a2)] below meth c s₁ [] 0 0 := Stand.of_body Bd
  have e0 : s₁.heap = h0 := by rw [← hh, Bd.state]; rfl
  have N0 := Fr.nil n0
  have pp0 : ∀ t, Steps p.tables e below (s₁.setTop (mkF m 0 #[.val (.ref a1), .val (.ref a2)] [])) t → Steps p.tables e below (s₁.setTop (entryFrame m #[(.ref a1), (.ref a2)] 2)) t := fun t k => castTop (own_sel0_ef m a1 a2) k
  have pp101 : ∀ t, Steps p.tables e below (s₁.setTop (mkF m 1 #[.val (.ref a1), .val (.ref a2)] [(.ref a1)])) t → Steps p.tables e below (s₁.setTop (entryFrame m #[(.ref a1), (.ref a2)] 2)) t := fun t k => pp0 t (by
    refine XS.aloadN X0.here hx rfl (hb hby own_sel0_d0) rfl rfl ?_
    show Steps p.tables e below (s₁.setTop (mkF m 1 #[.val (.ref a1), .val (.ref a2)] [(.ref a1)])) _
    exact k)
  obtain ⟨cq102, kq102, q102a, q102b, q102c⟩ := isOf hZ e0 Ec
  obtain ⟨_, _, ⟨T102, L102, k102, n102⟩, -, X102, ⟨Lc102, hQ102, l102, y102, z102⟩, st102⟩ := X0.virtualBackUp hx (owner := "java/lang/Enum") (x := (⟨"com/example/hallinta/hallinta/datastore/Content", "ordinal", "()I"⟩ : MethodName)) (y := (⟨"java/lang/Enum", "ordinal", "()I"⟩ : MethodName)) hown (mvT hZ (hw _ (List.mem_of_getElem? (i := 106) rfl))) (mvT hZ (hw _ (List.mem_of_getElem? (i := 107) rfl))) (mvT hZ (hw _ (List.mem_of_getElem? (i := 108) rfl))) (by decide) (mvT hZ (hw _ (List.mem_of_getElem? (i := 110) rfl))) (mvT hZ (hw _ (List.mem_of_getElem? (i := 109) rfl))) (backOf (W := 0) (own_ord l Z a0 hw [] a1 (0 : Int32) h0 n0 Z0 Fo) hZ (hw _ (List.mem_of_getElem? (i := 112) rfl)) (hw _ (List.mem_of_getElem? (i := 111) rfl)) (by decide) (by decide)) q102a q102c (g := (mkF m 1 #[.val (.ref a1), .val (.ref a2)] [(.ref a1)])) rfl (by rw [hml]; rfl) (Steps.refl _) (argsL := []) (rest := []) (lenOf pd___I rfl) rfl (by show 2 * 0 + _ ≤ _; exact Nat.le_of_eq rfl) (hb hby own_sel0_d1) (fun _ _ => ⟨rfl, e0, (by decide : 0 + 0 ≤ _), (by decide : 0 + 0 ≤ _)⟩)
  dsimp only [Pt.U, Pt.locs, Pt.cells, Pt.slots] at X102 l102 y102 z102 st102 hQ102
  subst l102 y102 z102
  obtain ⟨rfl, N102q, s102⟩ := hQ102
  have N102 := Fr.app N0 N102q
  have pp103 : ∀ t, Steps p.tables e below (T102.setTop (mkF m 4 #[.val (.ref a1), .val (.ref a2)] [(.int (0 : Int32))])) t → Steps p.tables e below (s₁.setTop (entryFrame m #[(.ref a1), (.ref a2)] 2)) t := fun t k => pp101 t (st102.trans k)
  have pp104 : ∀ t, Steps p.tables e below (T102.setTop (mkF m 43 #[.val (.ref a1), .val (.ref a2)] [(.ref a2)])) t → Steps p.tables e below (s₁.setTop (entryFrame m #[(.ref a1), (.ref a2)] 2)) t := fun t k => pp103 t (by
    refine XS.tswIn X102.here hx rfl (pc0 := 4) (pc' := 42) rfl (hb hby own_sel0_d4) rfl (by decide) (by decide : _ = some (38 : Int)) (by decide) (by decide) ?_
    show Steps p.tables e below (T102.setTop (mkF m 42 #[.val (.ref a1), .val (.ref a2)] [])) _
    refine XS.aloadN X102.here hx rfl (hb hby own_sel0_d42) rfl rfl ?_
    show Steps p.tables e below (T102.setTop (mkF m 43 #[.val (.ref a1), .val (.ref a2)] [(.ref a2)])) _
    exact k)
  obtain ⟨cq105, kq105, q105a, q105b, q105c⟩ := isOf hZ s102 En
  obtain ⟨_, _, ⟨T105, L105, k105, n105⟩, -, X105, ⟨Lc105, hQ105, l105, y105, z105⟩, st105⟩ := X102.interfaceBack hx (xi := (⟨"com/example/hallinta/hallinta/datastore/DataNode", "node", "()Lcom/example/hallinta/hallinta/yang/schema/SchemaNode;"⟩ : MethodName)) (y := (⟨"com/example/hallinta/hallinta/datastore/LeafNode", "node", "()Lcom/example/hallinta/hallinta/yang/schema/SchemaNode;"⟩ : MethodName)) hown (mvT hZ (hw _ (List.mem_of_getElem? (i := 115) rfl))) (mvT hZ (hw _ (List.mem_of_getElem? (i := 116) rfl))) (mvT hZ (hw _ (List.mem_of_getElem? (i := 117) rfl))) (mvT hZ (hw _ (List.mem_of_getElem? (i := 118) rfl))) (mvT hZ (hw _ (List.mem_of_getElem? (i := 119) rfl))) (mvT hZ (hw _ (List.mem_of_getElem? (i := 120) rfl))) (mvT hZ (hw _ (List.mem_of_getElem? (i := 121) rfl))) (mvT hZ (hw _ (List.mem_of_getElem? (i := 122) rfl))) (by decide) (backOf (W := 0) (own_node l Z a0 hw [] a2 b h0 n0 Z0 Fn) hZ (hw _ (List.mem_of_getElem? (i := 123) rfl)) (hw _ (List.mem_of_getElem? (i := 72) rfl)) (by decide) (by decide)) q105a q105b q105c (g := (mkF m 43 #[.val (.ref a1), .val (.ref a2)] [(.ref a2)])) rfl (by rw [hml]; rfl) (Steps.refl _) (argsL := []) (rest := []) (lenOf pd___Lcom_example_hallinta_hallinta_yang_schema_SchemaNode_ rfl) rfl (by show 2 * 0 + _ ≤ _; exact Nat.le_of_eq rfl) (hb hby own_sel0_d43) (fun _ _ => ⟨rfl, s102, (by decide : 0 + 0 ≤ _), (by decide : 0 + 0 ≤ _)⟩)
  dsimp only [Pt.U, Pt.locs, Pt.cells, Pt.slots] at X105 l105 y105 z105 st105 hQ105
  subst l105 y105 z105
  obtain ⟨rfl, N105q, s105⟩ := hQ105
  have N105 := Fr.app N102 N105q
  have pp106 : ∀ t, Steps p.tables e below (T105.setTop (mkF m 48 #[.val (.ref a1), .val (.ref a2)] [(.ref b)])) t → Steps p.tables e below (s₁.setTop (entryFrame m #[(.ref a1), (.ref a2)] 2)) t := fun t k => pp104 t (st105.trans k)
  obtain ⟨cq107, kq107, q107a, q107b, q107c⟩ := isOf hZ s105 Es
  obtain ⟨_, _, ⟨T107, L107, k107, n107⟩, -, X107, ⟨Lc107, hQ107, l107, y107, z107⟩, st107⟩ := X105.interfaceBack hx (xi := (⟨"com/example/hallinta/hallinta/yang/schema/SchemaNode", "config", "()Z"⟩ : MethodName)) (y := (⟨"com/example/hallinta/hallinta/yang/schema/LeafSchema", "config", "()Z"⟩ : MethodName)) hown (mvT hZ (hw _ (List.mem_of_getElem? (i := 124) rfl))) (mvT hZ (hw _ (List.mem_of_getElem? (i := 125) rfl))) (mvT hZ (hw _ (List.mem_of_getElem? (i := 126) rfl))) (mvT hZ (hw _ (List.mem_of_getElem? (i := 127) rfl))) (mvT hZ (hw _ (List.mem_of_getElem? (i := 128) rfl))) (mvT hZ (hw _ (List.mem_of_getElem? (i := 129) rfl))) (mvT hZ (hw _ (List.mem_of_getElem? (i := 130) rfl))) (mvT hZ (hw _ (List.mem_of_getElem? (i := 131) rfl))) (by decide) (backOf (W := 0) (own_config l Z a0 hw [] b (nar .boolean (0 : Int32)) h0 n0 Z0 Fs) hZ (hw _ (List.mem_of_getElem? (i := 132) rfl)) (hw _ (List.mem_of_getElem? (i := 6) rfl)) (by decide) (by decide)) q107a q107b q107c (g := (mkF m 48 #[.val (.ref a1), .val (.ref a2)] [(.ref b)])) rfl (by rw [hml]; rfl) (Steps.refl _) (argsL := []) (rest := []) (lenOf pd___Z rfl) rfl (by show 2 * 0 + _ ≤ _; exact Nat.le_of_eq rfl) (hb hby own_sel0_d48) (fun _ _ => ⟨rfl, s105, (by decide : 0 + 0 ≤ _), (by decide : 0 + 0 ≤ _)⟩)
  dsimp only [Pt.U, Pt.locs, Pt.cells, Pt.slots] at X107 l107 y107 z107 st107 hQ107
  subst l107 y107 z107
  obtain ⟨rfl, N107q, s107⟩ := hQ107
  have N107 := Fr.app N105 N107q
  have pp108 : ∀ t, Steps p.tables e below (T107.setTop (mkF m 53 #[.val (.ref a1), .val (.ref a2)] [(.int (nar .boolean (nar .boolean (0 : Int32))))])) t → Steps p.tables e below (s₁.setTop (entryFrame m #[(.ref a1), (.ref a2)] 2)) t := fun t k => pp106 t (st107.trans k)
  rw [show nar .boolean (nar .boolean (0 : Int32)) = (0 : Int32) from by decide] at pp108
  have pp109 : ∀ t, Steps p.tables e below (T107.setTop (mkF m 64 #[.val (.ref a1), .val (.ref a2)] [(.int (0 : Int32))])) t → Steps p.tables e below (s₁.setTop (entryFrame m #[(.ref a1), (.ref a2)] 2)) t := fun t k => pp108 t (by
    refine XS.goto X107.here hx rfl (pc0 := 53) (pc' := 64) rfl (hb hby own_sel0_d53) (by decide) (by decide) ?_
    show Steps p.tables e below (T107.setTop (mkF m 64 #[.val (.ref a1), .val (.ref a2)] [(.int (0 : Int32))])) _
    exact k)
  obtain ⟨fs, hr, hrun, hended, hW, hsame⟩ := X107.leave (v := some (.int (0 : Int32))) (fun h => by rw [Bd.returns] at h; cases h)
  refine ⟨_, _, pp109 _ ?_, hrun, hended, _, _, rfl, ?_, ⟨_, rfl⟩, hW, hsame.mono (by decide) (by decide)⟩
  · exact retN X107 hx (t := .boolean) Bd.returns (by simp) (hb hby own_sel0_d64) hr
  · show Q_own_sel0 Z a1 a2 b h0 n0 _ T107.heap _
    rw [s107]
    exact ⟨rfl, N107, rfl⟩
theorem pd__Lcom_example_hallinta_hallinta_datastore_DataNode__Z : parseMethodDescriptor "(Lcom/example/hallinta/hallinta/datastore/DataNode;)Z" = some ⟨[(.object "com/example/hallinta/hallinta/datastore/DataNode")], some .boolean⟩ := by decide +kernel
theorem own_sel1_d0 : decode prog_14_method_5_code 0 = .ok (.aload_n 0, 1) := by decide +kernel
theorem own_sel1_d1 : decode prog_14_method_5_code 1 = .ok (.invokevirtual 32, 3) := by decide +kernel
theorem own_sel1_d4 : decode prog_14_method_5_code 4 = .ok (.tableswitch 28 0 2 #[38, 52, 59], 28) := by decide +kernel
theorem own_sel1_d56 : decode prog_14_method_5_code 56 = .ok (.aload_n 1, 1) := by decide +kernel
theorem own_sel1_d57 : decode prog_14_method_5_code 57 = .ok (.invokestatic 53, 3) := by decide +kernel
theorem own_sel1_d60 : decode prog_14_method_5_code 60 = .ok (.goto 4, 3) := by decide +kernel
theorem own_sel1_d64 : decode prog_14_method_5_code 64 = .ok (.ireturn, 1) := by decide +kernel
theorem own_sel1_pn : plainName "com/example/hallinta/hallinta/datastore/Content" = true := by first | (simp [plainName, overriddenIn]; done) | decide +kernel
theorem own_sel1_ef (m : MethodId) (x0 : Addr) (x1 : Addr) : entryFrame m #[(.ref x0), (.ref x1)] 2 = mkF m 0 #[.val (.ref x0), .val (.ref x1)] [] := by first | (simp [entryFrame, mkF, argsToLocals, Value.category]; done) | rfl
def Q_own_sel1 (Z : State) (a1 : Addr) (a2 : Addr) (b : Addr) (h0 : Heap) (n0 : Nat) (v : Option Value) (h : Heap) (L : List Loc) : Prop := v = some (.int 1) ∧ Fr n0 L ∧ h = h0
set_option maxRecDepth 65536 in
set_option maxHeartbeats 40000000 in
theorem own_sel1 (l : Launch) (Z : State) (a0 : Array Value) (hw : ∀ d ∈ tables_1, d.before a0 Z = true) (ws : List Jvm.Cond) (a1 : Addr) (a2 : Addr) (b : Addr) (h0 : Heap) (n0 : Nat) (Z0 : n0 ≤ h0.size) (Ec : Exa Z h0 a1 "com/example/hallinta/hallinta/datastore/Content") (Fo : Fld Z h0 a1 "java/lang/Enum" "ordinal" "I" (.int (1 : Int32))) (En : Exa Z h0 a2 "com/example/hallinta/hallinta/datastore/LeafNode") (Fn : Fld Z h0 a2 "com/example/hallinta/hallinta/datastore/LeafNode" "schema" "Lcom/example/hallinta/hallinta/yang/schema/TypedSchema;" (.ref b)) (Es : Exa Z h0 b "com/example/hallinta/hallinta/yang/schema/LeafSchema") (Fs : Fld Z h0 b "com/example/hallinta/hallinta/yang/schema/LeafSchema" "config" "Z" (.int (nar .boolean (0 : Int32)))) :
    MetFree l (⟨"com/example/hallinta/hallinta/datastore/Content", "selects", "(Lcom/example/hallinta/hallinta/datastore/DataNode;)Z"⟩ : MethodName) (head1 (Jvm.Cond.code (⟨"com/example/hallinta/hallinta/datastore/Content", "selects", "(Lcom/example/hallinta/hallinta/datastore/DataNode;)Z"⟩ : MethodName) prog_14_method_5_code 2 (some .boolean) :: ws) ({ frames := 2, cells := 0, slots := 0, locals := 27 } : Room)) (fun a U => a = #[(.ref a1), (.ref a2)] ∧ Z.Warmed39 U.vm ∧ U.heap = h0) (fun _ _ _ _ _ => True) (fun _ U o U' => ∃ v L, o = .returned v ∧ Q_own_sel1 Z a1 a2 b h0 n0 v U'.heap L ∧ FrameEnd U o U' L ({ frames := 2, cells := 0, slots := 0, locals := 27 } : Room).cells ({ frames := 2, cells := 0, slots := 0, locals := 27 } : Room).slots) := by
  refine MetFree.of_bodySF (plainFor_of_name own_sel1_pn) hisR ?_
  intro p e s m args below meth c s₁ Bd hml0 hP hK
  obtain ⟨rfl, hZ, hh⟩ := hP
  have hx := Bd.exec
  have hby := Bd.bytes
  have hml : c.maxLocals = 2 := hml0
  have hown : s.vm.findClass "com/example/hallinta/hallinta/datastore/Content" = some m.cls := findClass_of_methodNamed Bd.named
  have hnm := (name_of_methodNamed Bd.named Bd.method).1
  have X0 : Stand p l e ({ frames := 2, cells := 0, slots := 0, locals := 27 } : Room) s m #[(.ref a1), (.ref a2)] below meth c s₁ [] 0 0 := Stand.of_body Bd
  have e0 : s₁.heap = h0 := by rw [← hh, Bd.state]; rfl
  have N0 := Fr.nil n0
  have pp0 : ∀ t, Steps p.tables e below (s₁.setTop (mkF m 0 #[.val (.ref a1), .val (.ref a2)] [])) t → Steps p.tables e below (s₁.setTop (entryFrame m #[(.ref a1), (.ref a2)] 2)) t := fun t k => castTop (own_sel1_ef m a1 a2) k
  have pp101 : ∀ t, Steps p.tables e below (s₁.setTop (mkF m 1 #[.val (.ref a1), .val (.ref a2)] [(.ref a1)])) t → Steps p.tables e below (s₁.setTop (entryFrame m #[(.ref a1), (.ref a2)] 2)) t := fun t k => pp0 t (by
    refine XS.aloadN X0.here hx rfl (hb hby own_sel1_d0) rfl rfl ?_
    show Steps p.tables e below (s₁.setTop (mkF m 1 #[.val (.ref a1), .val (.ref a2)] [(.ref a1)])) _
    exact k)
  obtain ⟨cq102, kq102, q102a, q102b, q102c⟩ := isOf hZ e0 Ec
  obtain ⟨_, _, ⟨T102, L102, k102, n102⟩, -, X102, ⟨Lc102, hQ102, l102, y102, z102⟩, st102⟩ := X0.virtualBackUp hx (owner := "java/lang/Enum") (x := (⟨"com/example/hallinta/hallinta/datastore/Content", "ordinal", "()I"⟩ : MethodName)) (y := (⟨"java/lang/Enum", "ordinal", "()I"⟩ : MethodName)) hown (mvT hZ (hw _ (List.mem_of_getElem? (i := 106) rfl))) (mvT hZ (hw _ (List.mem_of_getElem? (i := 107) rfl))) (mvT hZ (hw _ (List.mem_of_getElem? (i := 108) rfl))) (by decide) (mvT hZ (hw _ (List.mem_of_getElem? (i := 110) rfl))) (mvT hZ (hw _ (List.mem_of_getElem? (i := 109) rfl))) (backOf (W := 0) (own_ord l Z a0 hw [] a1 (1 : Int32) h0 n0 Z0 Fo) hZ (hw _ (List.mem_of_getElem? (i := 112) rfl)) (hw _ (List.mem_of_getElem? (i := 111) rfl)) (by decide) (by decide)) q102a q102c (g := (mkF m 1 #[.val (.ref a1), .val (.ref a2)] [(.ref a1)])) rfl (by rw [hml]; rfl) (Steps.refl _) (argsL := []) (rest := []) (lenOf pd___I rfl) rfl (by show 2 * 0 + _ ≤ _; exact Nat.le_of_eq rfl) (hb hby own_sel1_d1) (fun _ _ => ⟨rfl, e0, (by decide : 0 + 0 ≤ _), (by decide : 0 + 0 ≤ _)⟩)
  dsimp only [Pt.U, Pt.locs, Pt.cells, Pt.slots] at X102 l102 y102 z102 st102 hQ102
  subst l102 y102 z102
  obtain ⟨rfl, N102q, s102⟩ := hQ102
  have N102 := Fr.app N0 N102q
  have pp103 : ∀ t, Steps p.tables e below (T102.setTop (mkF m 4 #[.val (.ref a1), .val (.ref a2)] [(.int (1 : Int32))])) t → Steps p.tables e below (s₁.setTop (entryFrame m #[(.ref a1), (.ref a2)] 2)) t := fun t k => pp101 t (st102.trans k)
  have pp104 : ∀ t, Steps p.tables e below (T102.setTop (mkF m 57 #[.val (.ref a1), .val (.ref a2)] [(.ref a2)])) t → Steps p.tables e below (s₁.setTop (entryFrame m #[(.ref a1), (.ref a2)] 2)) t := fun t k => pp103 t (by
    refine XS.tswIn X102.here hx rfl (pc0 := 4) (pc' := 56) rfl (hb hby own_sel1_d4) rfl (by decide) (by decide : _ = some (52 : Int)) (by decide) (by decide) ?_
    show Steps p.tables e below (T102.setTop (mkF m 56 #[.val (.ref a1), .val (.ref a2)] [])) _
    refine XS.aloadN X102.here hx rfl (hb hby own_sel1_d56) rfl rfl ?_
    show Steps p.tables e below (T102.setTop (mkF m 57 #[.val (.ref a1), .val (.ref a2)] [(.ref a2)])) _
    exact k)
  obtain ⟨_, _, ⟨T105, L105, k105, n105⟩, -, X105, ⟨Lc105, hQ105, l105, y105, z105⟩, st105⟩ := Jvm.LawKit.callS X102 hx (y := (⟨"com/example/hallinta/hallinta/datastore/Content", "holdsNonconfig", "(Lcom/example/hallinta/hallinta/datastore/DataNode;)Z"⟩ : MethodName)) hown (mvT hZ (hw _ (List.mem_of_getElem? (i := 137) rfl))) (mvT hZ (hw _ (List.mem_of_getElem? (i := 138) rfl))) (mvT hZ (hw _ (List.mem_of_getElem? (i := 2) rfl))) (mvT hZ (hw _ (List.mem_of_getElem? (i := 139) rfl))) (by decide) (backOf (W := 0) (own_hn l Z a0 hw [] a2 b h0 n0 Z0 En Fn Es Fs) hZ (hw _ (List.mem_of_getElem? (i := 139) rfl)) (hw _ (List.mem_of_getElem? (i := 2) rfl)) (by decide) (by decide)) (g := (mkF m 57 #[.val (.ref a1), .val (.ref a2)] [(.ref a2)])) rfl (by rw [hml]; rfl) (argsL := [(.ref a2)]) (rest := []) (lenOf pd__Lcom_example_hallinta_hallinta_datastore_DataNode__Z rfl) rfl (by show 2 * 0 + _ ≤ _; exact Nat.le_of_eq rfl) (hb hby own_sel1_d57) (fun _ _ => ⟨rfl, s102, (by decide : 0 + 0 ≤ _), (by decide : 0 + 0 ≤ _)⟩)
  dsimp only [Pt.U, Pt.locs, Pt.cells, Pt.slots] at X105 l105 y105 z105 st105 hQ105
  subst l105 y105 z105
  obtain ⟨rfl, N105q, s105⟩ := hQ105
  have N105 := Fr.app N102 N105q
  have pp106 : ∀ t, Steps p.tables e below (T105.setTop (mkF m 60 #[.val (.ref a1), .val (.ref a2)] [(.int (1 : Int32))])) t → Steps p.tables e below (s₁.setTop (entryFrame m #[(.ref a1), (.ref a2)] 2)) t := fun t k => pp104 t (st105 t k)
  have pp107 : ∀ t, Steps p.tables e below (T105.setTop (mkF m 64 #[.val (.ref a1), .val (.ref a2)] [(.int (1 : Int32))])) t → Steps p.tables e below (s₁.setTop (entryFrame m #[(.ref a1), (.ref a2)] 2)) t := fun t k => pp106 t (by
    refine XS.goto X105.here hx rfl (pc0 := 60) (pc' := 64) rfl (hb hby own_sel1_d60) (by decide) (by decide) ?_
    show Steps p.tables e below (T105.setTop (mkF m 64 #[.val (.ref a1), .val (.ref a2)] [(.int (1 : Int32))])) _
    exact k)
  obtain ⟨fs, hr, hrun, hended, hW, hsame⟩ := X105.leave (v := some (.int (1 : Int32))) (fun h => by rw [Bd.returns] at h; cases h)
  refine ⟨_, _, pp107 _ ?_, hrun, hended, _, _, rfl, ?_, ⟨_, rfl⟩, hW, hsame.mono (by decide) (by decide)⟩
  · exact retN X105 hx (t := .boolean) Bd.returns (by simp) (hb hby own_sel1_d64) hr
  · show Q_own_sel1 Z a1 a2 b h0 n0 _ T105.heap _
    rw [s105]
    exact ⟨rfl, N105, rfl⟩
theorem own_sel2_d0 : decode prog_14_method_5_code 0 = .ok (.aload_n 0, 1) := by decide +kernel
theorem own_sel2_d1 : decode prog_14_method_5_code 1 = .ok (.invokevirtual 32, 3) := by decide +kernel
theorem own_sel2_d4 : decode prog_14_method_5_code 4 = .ok (.tableswitch 28 0 2 #[38, 52, 59], 28) := by decide +kernel
theorem own_sel2_d63 : decode prog_14_method_5_code 63 = .ok (.iconst 1, 1) := by decide +kernel
theorem own_sel2_d64 : decode prog_14_method_5_code 64 = .ok (.ireturn, 1) := by decide +kernel
theorem own_sel2_pn : plainName "com/example/hallinta/hallinta/datastore/Content" = true := by first | (simp [plainName, overriddenIn]; done) | decide +kernel
theorem own_sel2_ef (m : MethodId) (x0 : Addr) (x1 : Addr) : entryFrame m #[(.ref x0), (.ref x1)] 2 = mkF m 0 #[.val (.ref x0), .val (.ref x1)] [] := by first | (simp [entryFrame, mkF, argsToLocals, Value.category]; done) | rfl
def Q_own_sel2 (Z : State) (a1 : Addr) (a2 : Addr) (b : Addr) (h0 : Heap) (n0 : Nat) (v : Option Value) (h : Heap) (L : List Loc) : Prop := v = some (.int 1) ∧ Fr n0 L ∧ h = h0
set_option maxRecDepth 65536 in
set_option maxHeartbeats 40000000 in
theorem own_sel2 (l : Launch) (Z : State) (a0 : Array Value) (hw : ∀ d ∈ tables_1, d.before a0 Z = true) (ws : List Jvm.Cond) (a1 : Addr) (a2 : Addr) (b : Addr) (h0 : Heap) (n0 : Nat) (Z0 : n0 ≤ h0.size) (Ec : Exa Z h0 a1 "com/example/hallinta/hallinta/datastore/Content") (Fo : Fld Z h0 a1 "java/lang/Enum" "ordinal" "I" (.int (2 : Int32))) (En : Exa Z h0 a2 "com/example/hallinta/hallinta/datastore/LeafNode") (Fn : Fld Z h0 a2 "com/example/hallinta/hallinta/datastore/LeafNode" "schema" "Lcom/example/hallinta/hallinta/yang/schema/TypedSchema;" (.ref b)) (Es : Exa Z h0 b "com/example/hallinta/hallinta/yang/schema/LeafSchema") (Fs : Fld Z h0 b "com/example/hallinta/hallinta/yang/schema/LeafSchema" "config" "Z" (.int (nar .boolean (0 : Int32)))) :
    MetFree l (⟨"com/example/hallinta/hallinta/datastore/Content", "selects", "(Lcom/example/hallinta/hallinta/datastore/DataNode;)Z"⟩ : MethodName) (head1 (Jvm.Cond.code (⟨"com/example/hallinta/hallinta/datastore/Content", "selects", "(Lcom/example/hallinta/hallinta/datastore/DataNode;)Z"⟩ : MethodName) prog_14_method_5_code 2 (some .boolean) :: ws) ({ frames := 2, cells := 0, slots := 0, locals := 27 } : Room)) (fun a U => a = #[(.ref a1), (.ref a2)] ∧ Z.Warmed39 U.vm ∧ U.heap = h0) (fun _ _ _ _ _ => True) (fun _ U o U' => ∃ v L, o = .returned v ∧ Q_own_sel2 Z a1 a2 b h0 n0 v U'.heap L ∧ FrameEnd U o U' L ({ frames := 2, cells := 0, slots := 0, locals := 27 } : Room).cells ({ frames := 2, cells := 0, slots := 0, locals := 27 } : Room).slots) := by
  refine MetFree.of_bodySF (plainFor_of_name own_sel2_pn) hisR ?_
  intro p e s m args below meth c s₁ Bd hml0 hP hK
  obtain ⟨rfl, hZ, hh⟩ := hP
  have hx := Bd.exec
  have hby := Bd.bytes
  have hml : c.maxLocals = 2 := hml0
  have hown : s.vm.findClass "com/example/hallinta/hallinta/datastore/Content" = some m.cls := findClass_of_methodNamed Bd.named
  have hnm := (name_of_methodNamed Bd.named Bd.method).1
  have X0 : Stand p l e ({ frames := 2, cells := 0, slots := 0, locals := 27 } : Room) s m #[(.ref a1), (.ref a2)] below meth c s₁ [] 0 0 := Stand.of_body Bd
  have e0 : s₁.heap = h0 := by rw [← hh, Bd.state]; rfl
  have N0 := Fr.nil n0
  have pp0 : ∀ t, Steps p.tables e below (s₁.setTop (mkF m 0 #[.val (.ref a1), .val (.ref a2)] [])) t → Steps p.tables e below (s₁.setTop (entryFrame m #[(.ref a1), (.ref a2)] 2)) t := fun t k => castTop (own_sel2_ef m a1 a2) k
  have pp101 : ∀ t, Steps p.tables e below (s₁.setTop (mkF m 1 #[.val (.ref a1), .val (.ref a2)] [(.ref a1)])) t → Steps p.tables e below (s₁.setTop (entryFrame m #[(.ref a1), (.ref a2)] 2)) t := fun t k => pp0 t (by
    refine XS.aloadN X0.here hx rfl (hb hby own_sel2_d0) rfl rfl ?_
    show Steps p.tables e below (s₁.setTop (mkF m 1 #[.val (.ref a1), .val (.ref a2)] [(.ref a1)])) _
    exact k)
  obtain ⟨cq102, kq102, q102a, q102b, q102c⟩ := isOf hZ e0 Ec
  obtain ⟨_, _, ⟨T102, L102, k102, n102⟩, -, X102, ⟨Lc102, hQ102, l102, y102, z102⟩, st102⟩ := X0.virtualBackUp hx (owner := "java/lang/Enum") (x := (⟨"com/example/hallinta/hallinta/datastore/Content", "ordinal", "()I"⟩ : MethodName)) (y := (⟨"java/lang/Enum", "ordinal", "()I"⟩ : MethodName)) hown (mvT hZ (hw _ (List.mem_of_getElem? (i := 106) rfl))) (mvT hZ (hw _ (List.mem_of_getElem? (i := 107) rfl))) (mvT hZ (hw _ (List.mem_of_getElem? (i := 108) rfl))) (by decide) (mvT hZ (hw _ (List.mem_of_getElem? (i := 110) rfl))) (mvT hZ (hw _ (List.mem_of_getElem? (i := 109) rfl))) (backOf (W := 0) (own_ord l Z a0 hw [] a1 (2 : Int32) h0 n0 Z0 Fo) hZ (hw _ (List.mem_of_getElem? (i := 112) rfl)) (hw _ (List.mem_of_getElem? (i := 111) rfl)) (by decide) (by decide)) q102a q102c (g := (mkF m 1 #[.val (.ref a1), .val (.ref a2)] [(.ref a1)])) rfl (by rw [hml]; rfl) (Steps.refl _) (argsL := []) (rest := []) (lenOf pd___I rfl) rfl (by show 2 * 0 + _ ≤ _; exact Nat.le_of_eq rfl) (hb hby own_sel2_d1) (fun _ _ => ⟨rfl, e0, (by decide : 0 + 0 ≤ _), (by decide : 0 + 0 ≤ _)⟩)
  dsimp only [Pt.U, Pt.locs, Pt.cells, Pt.slots] at X102 l102 y102 z102 st102 hQ102
  subst l102 y102 z102
  obtain ⟨rfl, N102q, s102⟩ := hQ102
  have N102 := Fr.app N0 N102q
  have pp103 : ∀ t, Steps p.tables e below (T102.setTop (mkF m 4 #[.val (.ref a1), .val (.ref a2)] [(.int (2 : Int32))])) t → Steps p.tables e below (s₁.setTop (entryFrame m #[(.ref a1), (.ref a2)] 2)) t := fun t k => pp101 t (st102.trans k)
  have pp104 : ∀ t, Steps p.tables e below (T102.setTop (mkF m 64 #[.val (.ref a1), .val (.ref a2)] [(.int (1 : Int32))])) t → Steps p.tables e below (s₁.setTop (entryFrame m #[(.ref a1), (.ref a2)] 2)) t := fun t k => pp103 t (by
    refine XS.tswIn X102.here hx rfl (pc0 := 4) (pc' := 63) rfl (hb hby own_sel2_d4) rfl (by decide) (by decide : _ = some (59 : Int)) (by decide) (by decide) ?_
    show Steps p.tables e below (T102.setTop (mkF m 63 #[.val (.ref a1), .val (.ref a2)] [])) _
    refine XS.iconst X102.here hx rfl (hb hby own_sel2_d63) ?_
    show Steps p.tables e below (T102.setTop (mkF m 64 #[.val (.ref a1), .val (.ref a2)] [(.int (1 : Int32))])) _
    exact k)
  obtain ⟨fs, hr, hrun, hended, hW, hsame⟩ := X102.leave (v := some (.int (1 : Int32))) (fun h => by rw [Bd.returns] at h; cases h)
  refine ⟨_, _, pp104 _ ?_, hrun, hended, _, _, rfl, ?_, ⟨_, rfl⟩, hW, hsame.mono (by decide) (by decide)⟩
  · exact retN X102 hx (t := .boolean) Bd.returns (by simp) (hb hby own_sel2_d64) hr
  · show Q_own_sel2 Z a1 a2 b h0 n0 _ T102.heap _
    rw [s102]
    exact ⟨rfl, N102, rfl⟩
theorem pd__Ljava_lang_String_Ljava_lang_String_ZZLcom_example_hallinta_hallinta_yang_type_YangType__V : parseMethodDescriptor "(Ljava/lang/String;Ljava/lang/String;ZZLcom/example/hallinta/hallinta/yang/type/YangType;)V" = some ⟨[(.object "java/lang/String"), (.object "java/lang/String"), .boolean, .boolean, (.object "com/example/hallinta/hallinta/yang/type/YangType")], none⟩ := by decide +kernel
theorem pd__Lcom_example_hallinta_hallinta_yang_schema_TypedSchema_Ljava_lang_Object__V : parseMethodDescriptor "(Lcom/example/hallinta/hallinta/yang/schema/TypedSchema;Ljava/lang/Object;)V" = some ⟨[(.object "com/example/hallinta/hallinta/yang/schema/TypedSchema"), (.object "java/lang/Object")], none⟩ := by decide +kernel
theorem own_law_pn : plainName "com/example/hallinta/hallinta/datastore/ContentSelectsStatePinLaw" = true := by first | (simp [plainName, overriddenIn]; done) | decide +kernel
theorem own_law_ef (m : MethodId) (x0 : Int32) : entryFrame m #[(.int x0)] maxLocals = mkF m 0 #[.val (.int x0), .unset, .unset, .unset, .unset, .unset, .unset, .unset] [] := by first | (simp [entryFrame, mkF, argsToLocals, Value.category, maxLocals]; done) | rfl
def Q_own_law (Z : State) (p1 : Int32) (z0 : Addr) (z1 : Addr) (z2 : Addr) (el : Addr) (h0 : Heap) (n0 : Nat) (v : Option Value) (h : Heap) (L : List Loc) : Prop := v = some (.int 1) ∧ Fr n0 L
set_option maxRecDepth 65536 in
set_option maxHeartbeats 40000000 in
theorem own_law (l : Launch) (Z : State) (a0 : Array Value) (hw : ∀ d ∈ tables_1, d.before a0 Z = true) (ws : List Jvm.Cond) (p1 : Int32) (z0 : Addr) (z1 : Addr) (z2 : Addr) (el : Addr) (h0 : Heap) (n0 : Nat) (Z0 : n0 ≤ h0.size) (S0 : Sta Z h0 "com/example/hallinta/hallinta/datastore/Content" "CONFIG" "Lcom/example/hallinta/hallinta/datastore/Content;" (.ref z0)) (C0 : Exa Z h0 z0 "com/example/hallinta/hallinta/datastore/Content") (O0 : Fld Z h0 z0 "java/lang/Enum" "ordinal" "I" (.int (0 : Int32))) (S1 : Sta Z h0 "com/example/hallinta/hallinta/datastore/Content" "NONCONFIG" "Lcom/example/hallinta/hallinta/datastore/Content;" (.ref z1)) (C1 : Exa Z h0 z1 "com/example/hallinta/hallinta/datastore/Content") (O1 : Fld Z h0 z1 "java/lang/Enum" "ordinal" "I" (.int (1 : Int32))) (S2 : Sta Z h0 "com/example/hallinta/hallinta/datastore/Content" "ALL" "Lcom/example/hallinta/hallinta/datastore/Content;" (.ref z2)) (C2 : Exa Z h0 z2 "com/example/hallinta/hallinta/datastore/Content") (O2 : Fld Z h0 z2 "java/lang/Enum" "ordinal" "I" (.int (2 : Int32))) (S9 : Sta Z h0 "java/util/ImmutableCollections" "EMPTY_LIST" "Ljava/util/ImmutableCollections$ListN;" (.ref el)) (E1 : Exa Z h0 el "java/util/ImmutableCollections$ListN") (F1 : Fld Z h0 el "java/util/ImmutableCollections$ListN" "allowNulls" "Z" (.int (0 : Int32))) :
    MetFree l x (head1 (Jvm.Cond.code x code maxLocals ret :: ws) room_1) (fun a U => a = #[(.int p1)] ∧ Z.Warmed39 U.vm ∧ U.heap = h0) (fun _ _ _ _ _ => True) (fun _ U o U' => ∃ v L, o = .returned v ∧ Q_own_law Z p1 z0 z1 z2 el h0 n0 v U'.heap L ∧ ReturnedEndW U o U' L room_1.cells room_1.slots) := by
  refine MetFree.of_bodySF (plainFor_of_name own_law_pn) hisR ?_
  intro p e s m args below meth c s₁ Bd hml0 hP hK
  obtain ⟨rfl, hZ, hh⟩ := hP
  have hx := Bd.exec
  have hby := Bd.bytes
  have hml : c.maxLocals = 8 := hml0
  have hown : s.vm.findClass "com/example/hallinta/hallinta/datastore/ContentSelectsStatePinLaw" = some m.cls := findClass_of_methodNamed Bd.named
  have hnm := (name_of_methodNamed Bd.named Bd.method).1
  have X0 : Stand p l e room_1 s m #[(.int p1)] below meth c s₁ [] 0 0 := Stand.of_body Bd
  have e0 : s₁.heap = h0 := by rw [← hh, Bd.state]; rfl
  have N0 := Fr.nil n0
  have pp0 : ∀ t, Steps p.tables e below (s₁.setTop (mkF m 0 #[.val (.int p1), .unset, .unset, .unset, .unset, .unset, .unset, .unset] [])) t → Steps p.tables e below (s₁.setTop (entryFrame m #[(.int p1)] maxLocals)) t := fun t k => castTop (own_law_ef m p1) k
  have ne1_0 : z1 ≠ z0 := own_fne O1 O0 (by decide)
  have ne2_0 : z2 ≠ z0 := own_fne O2 O0 (by decide)
  have pp101 : ∀ t, Steps p.tables e below (s₁.setTop (mkF m 8 #[.val (.int p1), .val (.int ((p1 &&& (2147483647 : Int32)) % (3 : Int32))), .unset, .unset, .unset, .unset, .unset, .unset] [(.int ((p1 &&& (2147483647 : Int32)) % (3 : Int32)))])) t → Steps p.tables e below (s₁.setTop (entryFrame m #[(.int p1)] maxLocals)) t := fun t k => pp0 t (by
    refine XS.iloadN X0.here hx rfl (hb hby at_0) rfl ?_
    show Steps p.tables e below (s₁.setTop (mkF m 1 #[.val (.int p1), .unset, .unset, .unset, .unset, .unset, .unset, .unset] [(.int p1)])) _
    refine X0.ldcInt hx hown (mvT hZ (hw _ (List.mem_of_getElem? (i := 0) rfl))) (g := (mkF m 1 #[.val (.int p1), .unset, .unset, .unset, .unset, .unset, .unset, .unset] [(.int p1)])) rfl (hb hby at_1) _ ?_
    show Steps p.tables e below (s₁.setTop (mkF m 3 #[.val (.int p1), .unset, .unset, .unset, .unset, .unset, .unset, .unset] [(.int (2147483647 : Int32)), (.int p1)])) _
    refine XS.iand X0.here hx rfl (hb hby at_3) rfl ?_
    show Steps p.tables e below (s₁.setTop (mkF m 4 #[.val (.int p1), .unset, .unset, .unset, .unset, .unset, .unset, .unset] [(.int (p1 &&& (2147483647 : Int32)))])) _
    refine XS.iconst X0.here hx rfl (hb hby at_4) ?_
    show Steps p.tables e below (s₁.setTop (mkF m 5 #[.val (.int p1), .unset, .unset, .unset, .unset, .unset, .unset, .unset] [(.int (3 : Int32)), (.int (p1 &&& (2147483647 : Int32)))])) _
    refine iremM (g := (mkF m 5 #[.val (.int p1), .unset, .unset, .unset, .unset, .unset, .unset, .unset] [(.int (3 : Int32)), (.int (p1 &&& (2147483647 : Int32)))])) X0 hx rfl (hb hby at_5) rfl (by decide) ?_
    show Steps p.tables e below (s₁.setTop (mkF m 6 #[.val (.int p1), .unset, .unset, .unset, .unset, .unset, .unset, .unset] [(.int ((p1 &&& (2147483647 : Int32)) % (3 : Int32)))])) _
    refine XS.istoreN X0.here hx rfl (hb hby at_6) rfl (l' := #[.val (.int p1), .val (.int ((p1 &&& (2147483647 : Int32)) % (3 : Int32))), .unset, .unset, .unset, .unset, .unset, .unset]) rfl ?_
    show Steps p.tables e below (s₁.setTop (mkF m 7 #[.val (.int p1), .val (.int ((p1 &&& (2147483647 : Int32)) % (3 : Int32))), .unset, .unset, .unset, .unset, .unset, .unset] [])) _
    refine XS.iloadN X0.here hx rfl (hb hby at_7) rfl ?_
    show Steps p.tables e below (s₁.setTop (mkF m 8 #[.val (.int p1), .val (.int ((p1 &&& (2147483647 : Int32)) % (3 : Int32))), .unset, .unset, .unset, .unset, .unset, .unset] [(.int ((p1 &&& (2147483647 : Int32)) % (3 : Int32)))])) _
    exact k)
  generalize hkk : ((p1 &&& (2147483647 : Int32)) % (3 : Int32)) = kk at pp101
  have h3 := own_3 p1
  rw [hkk] at h3
  rcases h3 with rfl | rfl | rfl
  · have pp102 : ∀ t, Steps p.tables e below (s₁.setTop (mkF m 11 #[.val (.int p1), .val (.int (0 : Int32)), .unset, .unset, .unset, .unset, .unset, .unset] [])) t → Steps p.tables e below (s₁.setTop (entryFrame m #[(.int p1)] maxLocals)) t := fun t k => pp101 t (by
      refine XS.ifNo X0.here hx rfl (hb hby at_8) rfl ((if0 _ _).trans (teq (by decide : (0 : Int32) = (0 : Int32))).2) ?_
      show Steps p.tables e below (s₁.setTop (mkF m 11 #[.val (.int p1), .val (.int (0 : Int32)), .unset, .unset, .unset, .unset, .unset, .unset] [])) _
      exact k)
    obtain ⟨T103, X103, e103, st103⟩ := getS2 X0 hx hZ hown (host := "") (Or.inl (hw _ (List.mem_of_getElem? (i := 1) rfl))) Via.refl e0 S0 (g := (mkF m 11 #[.val (.int p1), .val (.int (0 : Int32)), .unset, .unset, .unset, .unset, .unset, .unset] [])) rfl (hb hby at_11)
    have pp104 : ∀ t, Steps p.tables e below (T103.setTop (mkF m 14 #[.val (.int p1), .val (.int (0 : Int32)), .unset, .unset, .unset, .unset, .unset, .unset] [(.ref z0)])) t → Steps p.tables e below (s₁.setTop (entryFrame m #[(.int p1)] maxLocals)) t := fun t k => pp102 t (st103 t k)
    have pp105 : ∀ t, Steps p.tables e below (T103.setTop (mkF m 32 #[.val (.int p1), .val (.int (0 : Int32)), .val (.ref z0), .unset, .unset, .unset, .unset, .unset] [])) t → Steps p.tables e below (s₁.setTop (entryFrame m #[(.int p1)] maxLocals)) t := fun t k => pp104 t (by
      refine XS.goto X103.here hx rfl (pc0 := 14) (pc' := 31) rfl (hb hby at_14) (by decide) (by decide) ?_
      show Steps p.tables e below (T103.setTop (mkF m 31 #[.val (.int p1), .val (.int (0 : Int32)), .unset, .unset, .unset, .unset, .unset, .unset] [(.ref z0)])) _
      refine XS.astoreN X103.here hx rfl (hb hby at_31) rfl rfl (l' := #[.val (.int p1), .val (.int (0 : Int32)), .val (.ref z0), .unset, .unset, .unset, .unset, .unset]) rfl ?_
      show Steps p.tables e below (T103.setTop (mkF m 32 #[.val (.int p1), .val (.int (0 : Int32)), .val (.ref z0), .unset, .unset, .unset, .unset, .unset] [])) _
      exact k)
    obtain ⟨T106, h106, X106, e106, E106, A106, D106, M106, st106⟩ := newO X103 hx hZ hown (hw _ (List.mem_of_getElem? (i := 4) rfl)) (hw _ (List.mem_of_getElem? (i := 5) rfl)) (hw _ (List.mem_of_getElem? (i := 6) rfl)) e103 (g := (mkF m 32 #[.val (.int p1), .val (.int (0 : Int32)), .val (.ref z0), .unset, .unset, .unset, .unset, .unset] [])) rfl (hb hby at_32) (by decide) (by decide)
    obtain ⟨b106, g106⟩ : ∃ z, z = h0.size := ⟨_, rfl⟩
    rw [← g106] at A106 D106 M106 st106
    have g_b106 : n0 ≤ b106 := Nat.le_trans Z0 (Nat.le_of_eq g106.symm)
    have sz_b106 : h0.size ≤ b106 := Nat.le_trans (Keep.refl h0 []).1 (Nat.le_of_eq g106.symm)
    have F_module_b106 : Fld Z h106 b106 "com/example/hallinta/hallinta/yang/schema/LeafSchema" "module" "Ljava/lang/String;" .null := D106 (Or.inr (hw _ (List.mem_of_getElem? (i := 55) rfl))) (ty := (.object "java/lang/String")) (by decide)
    have F_name_b106 : Fld Z h106 b106 "com/example/hallinta/hallinta/yang/schema/LeafSchema" "name" "Ljava/lang/String;" .null := D106 (Or.inr (hw _ (List.mem_of_getElem? (i := 57) rfl))) (ty := (.object "java/lang/String")) (by decide)
    have F_config_b106 : Fld Z h106 b106 "com/example/hallinta/hallinta/yang/schema/LeafSchema" "config" "Z" (.int (0 : Int32)) := D106 (Or.inr (hw _ (List.mem_of_getElem? (i := 59) rfl))) (ty := .boolean) (by decide)
    have F_mandatory_b106 : Fld Z h106 b106 "com/example/hallinta/hallinta/yang/schema/LeafSchema" "mandatory" "Z" (.int (0 : Int32)) := D106 (Or.inr (hw _ (List.mem_of_getElem? (i := 61) rfl))) (ty := .boolean) (by decide)
    have F_type_b106 : Fld Z h106 b106 "com/example/hallinta/hallinta/yang/schema/LeafSchema" "type" "Lcom/example/hallinta/hallinta/yang/type/YangType;" .null := D106 (Or.inr (hw _ (List.mem_of_getElem? (i := 63) rfl))) (ty := (.object "com/example/hallinta/hallinta/yang/type/YangType")) (by decide)
    have F_defaults_b106 : Fld Z h106 b106 "com/example/hallinta/hallinta/yang/schema/LeafSchema" "defaults" "Lcom/example/hallinta/hallinta/yang/schema/Default;" .null := D106 (Or.inr (hw _ (List.mem_of_getElem? (i := 65) rfl))) (ty := (.object "com/example/hallinta/hallinta/yang/schema/Default")) (by decide)
    have F_whens_b106 : Fld Z h106 b106 "com/example/hallinta/hallinta/yang/schema/LeafSchema" "whens" "Ljava/util/List;" .null := D106 (Or.inr (hw _ (List.mem_of_getElem? (i := 67) rfl))) (ty := (.object "java/util/List")) (by decide)
    have F_musts_b106 : Fld Z h106 b106 "com/example/hallinta/hallinta/yang/schema/LeafSchema" "musts" "Ljava/util/List;" .null := D106 (Or.inr (hw _ (List.mem_of_getElem? (i := 69) rfl))) (ty := (.object "java/util/List")) (by decide)
    have pp107 : ∀ t, Steps p.tables e below (T106.setTop (mkF m 35 #[.val (.int p1), .val (.int (0 : Int32)), .val (.ref z0), .unset, .unset, .unset, .unset, .unset] [(.ref b106)])) t → Steps p.tables e below (s₁.setTop (entryFrame m #[(.int p1)] maxLocals)) t := fun t k => pp105 t (st106 t k)
    have pp108 : ∀ t, Steps p.tables e below (T106.setTop (mkF m 36 #[.val (.int p1), .val (.int (0 : Int32)), .val (.ref z0), .unset, .unset, .unset, .unset, .unset] [(.ref b106), (.ref b106)])) t → Steps p.tables e below (s₁.setTop (entryFrame m #[(.int p1)] maxLocals)) t := fun t k => pp107 t (by
      refine XS.dup X106.here hx rfl (hb hby at_35) rfl rfl ?_
      show Steps p.tables e below (T106.setTop (mkF m 36 #[.val (.int p1), .val (.int (0 : Int32)), .val (.ref z0), .unset, .unset, .unset, .unset, .unset] [(.ref b106), (.ref b106)])) _
      exact k)
    obtain ⟨c109, T109, h109, kk109, X109, e109, E109, Si109, ke109, hZ109, ho109, st109⟩ := ldcS (s := s) (vm0 := s.vm) X106 hx hZ hown (hw _ (List.mem_of_getElem? (i := 7) rfl)) (own_wS hw) e106 ((State.WarmedH.refl s).since 0) (Nat.zero_le _) (g := (mkF m 36 #[.val (.int p1), .val (.int (0 : Int32)), .val (.ref z0), .unset, .unset, .unset, .unset, .unset] [(.ref b106), (.ref b106)])) rfl (hb hby at_36) (n := 4) (by decide) (by decide) (by decide) (by decide)
    have hZ := hZ109
    have hown := ho109
    have pp110 : ∀ t, Steps p.tables e below (T109.setTop (mkF m 38 #[.val (.int p1), .val (.int (0 : Int32)), .val (.ref z0), .unset, .unset, .unset, .unset, .unset] [(.ref c109), (.ref b106), (.ref b106)])) t → Steps p.tables e below (s₁.setTop (entryFrame m #[(.int p1)] maxLocals)) t := fun t k => pp108 t (st109 t k)
    obtain ⟨c111, T111, h111, kk111, X111, e111, E111, Si111, ke111, hZ111, ho111, st111⟩ := ldcS (s := s) (vm0 := T109.vm) X109 hx hZ hown (hw _ (List.mem_of_getElem? (i := 15) rfl)) (own_wS hw) e109 Si109 ke109 (g := (mkF m 38 #[.val (.int p1), .val (.int (0 : Int32)), .val (.ref z0), .unset, .unset, .unset, .unset, .unset] [(.ref c109), (.ref b106), (.ref b106)])) rfl (hb hby at_38) (n := 4) (by decide) (by decide) (by decide) (by decide)
    have hZ := hZ111
    have hown := ho111
    have pp112 : ∀ t, Steps p.tables e below (T111.setTop (mkF m 40 #[.val (.int p1), .val (.int (0 : Int32)), .val (.ref z0), .unset, .unset, .unset, .unset, .unset] [(.ref c111), (.ref c109), (.ref b106), (.ref b106)])) t → Steps p.tables e below (s₁.setTop (entryFrame m #[(.int p1)] maxLocals)) t := fun t k => pp110 t (st111 t k)
    have pp113 : ∀ t, Steps p.tables e below (T111.setTop (mkF m 43 #[.val (.int p1), .val (.int (0 : Int32)), .val (.ref z0), .unset, .unset, .unset, .unset, .unset] [.null, (.int (0 : Int32)), (.int (0 : Int32)), (.ref c111), (.ref c109), (.ref b106), (.ref b106)])) t → Steps p.tables e below (s₁.setTop (entryFrame m #[(.int p1)] maxLocals)) t := fun t k => pp112 t (by
      refine XS.iconst X111.here hx rfl (hb hby at_40) ?_
      show Steps p.tables e below (T111.setTop (mkF m 41 #[.val (.int p1), .val (.int (0 : Int32)), .val (.ref z0), .unset, .unset, .unset, .unset, .unset] [(.int (0 : Int32)), (.ref c111), (.ref c109), (.ref b106), (.ref b106)])) _
      refine XS.iconst X111.here hx rfl (hb hby at_41) ?_
      show Steps p.tables e below (T111.setTop (mkF m 42 #[.val (.int p1), .val (.int (0 : Int32)), .val (.ref z0), .unset, .unset, .unset, .unset, .unset] [(.int (0 : Int32)), (.int (0 : Int32)), (.ref c111), (.ref c109), (.ref b106), (.ref b106)])) _
      refine XS.aconstNull X111.here hx rfl (hb hby at_42) ?_
      show Steps p.tables e below (T111.setTop (mkF m 43 #[.val (.int p1), .val (.int (0 : Int32)), .val (.ref z0), .unset, .unset, .unset, .unset, .unset] [.null, (.int (0 : Int32)), (.int (0 : Int32)), (.ref c111), (.ref c109), (.ref b106), (.ref b106)])) _
      exact k)
    obtain ⟨_, _, ⟨T114, L114, k114, n114⟩, -, X114, ⟨Lc114, hQ114, l114, y114, z114⟩, st114⟩ := X111.specialBack hx (y := (⟨"com/example/hallinta/hallinta/yang/schema/LeafSchema", "<init>", "(Ljava/lang/String;Ljava/lang/String;ZZLcom/example/hallinta/hallinta/yang/type/YangType;)V"⟩ : MethodName)) rfl hown (mvT hZ (hw _ (List.mem_of_getElem? (i := 16) rfl))) (mvT hZ (hw _ (List.mem_of_getElem? (i := 17) rfl))) (mvT hZ (hw _ (List.mem_of_getElem? (i := 18) rfl))) (by decide) (backOf (W := 1) (own_ls5 l Z a0 hw [] b106 c109 c111 (0 : Int32) (0 : Int32) .null .null (.int (0 : Int32)) (.int (0 : Int32)) .null .null .null .null el h111 n0 (Nat.le_trans (Nat.le_trans (Nat.le_trans Z0 E106.1) E109.1) E111.1) ((A106.ext E109).ext E111) ((F_module_b106.ext E109).ext E111) ((F_name_b106.ext E109).ext E111) ((F_config_b106.ext E109).ext E111) ((F_mandatory_b106.ext E109).ext E111) ((F_type_b106.ext E109).ext E111) ((F_defaults_b106.ext E109).ext E111) ((F_whens_b106.ext E109).ext E111) ((F_musts_b106.ext E109).ext E111) g_b106 (((E1.ext E106).ext E109).ext E111) (((F1.ext E106).ext E109).ext E111) (((S9.ext E106).ext E109).ext E111)) hZ (hw _ (List.mem_of_getElem? (i := 18) rfl)) (hw _ (List.mem_of_getElem? (i := 6) rfl)) (by decide) (by decide)) (g := (mkF m 43 #[.val (.int p1), .val (.int (0 : Int32)), .val (.ref z0), .unset, .unset, .unset, .unset, .unset] [.null, (.int (0 : Int32)), (.int (0 : Int32)), (.ref c111), (.ref c109), (.ref b106), (.ref b106)])) rfl (by rw [hml]; rfl) (Steps.refl _) (a := b106) (argsL := [(.ref c109), (.ref c111), (.int (0 : Int32)), (.int (0 : Int32)), .null]) (rest := [(.ref b106)]) (lenOf pd__Ljava_lang_String_Ljava_lang_String_ZZLcom_example_hallinta_hallinta_yang_type_YangType__V rfl) rfl (by show 2 * 0 + _ ≤ _; exact Nat.le_of_eq rfl) (hb hby at_43) (fun _ _ => ⟨rfl, e111, (by decide : 5 + 0 ≤ _), (by decide : 24 + 0 ≤ _)⟩)
    dsimp only [Pt.U, Pt.locs, Pt.cells, Pt.slots] at X114 l114 y114 z114 st114 hQ114
    subst l114 y114 z114
    obtain ⟨rfl, N114q, K114, EE114, Fc114, Ft114⟩ := hQ114
    have N114 := Fr.app N0 N114q
    have pp115 : ∀ t, Steps p.tables e below (T114.setTop (mkF m 46 #[.val (.int p1), .val (.int (0 : Int32)), .val (.ref z0), .unset, .unset, .unset, .unset, .unset] [(.ref b106)])) t → Steps p.tables e below (s₁.setTop (entryFrame m #[(.int p1)] maxLocals)) t := fun t k => pp113 t (st114.trans k)
    have pp116 : ∀ t, Steps p.tables e below (T114.setTop (mkF m 47 #[.val (.int p1), .val (.int (0 : Int32)), .val (.ref z0), .val (.ref b106), .unset, .unset, .unset, .unset] [])) t → Steps p.tables e below (s₁.setTop (entryFrame m #[(.int p1)] maxLocals)) t := fun t k => pp115 t (by
      refine XS.astoreN X114.here hx rfl (hb hby at_46) rfl rfl (l' := #[.val (.int p1), .val (.int (0 : Int32)), .val (.ref z0), .val (.ref b106), .unset, .unset, .unset, .unset]) rfl ?_
      show Steps p.tables e below (T114.setTop (mkF m 47 #[.val (.int p1), .val (.int (0 : Int32)), .val (.ref z0), .val (.ref b106), .unset, .unset, .unset, .unset] [])) _
      exact k)
    obtain ⟨T117, h117, X117, e117, E117, A117, D117, M117, st117⟩ := newO X114 hx hZ hown (hw _ (List.mem_of_getElem? (i := 70) rfl)) (hw _ (List.mem_of_getElem? (i := 71) rfl)) (hw _ (List.mem_of_getElem? (i := 72) rfl)) rfl (g := (mkF m 47 #[.val (.int p1), .val (.int (0 : Int32)), .val (.ref z0), .val (.ref b106), .unset, .unset, .unset, .unset] [])) rfl (hb hby at_47) (by decide) (by decide)
    obtain ⟨b117, g117⟩ : ∃ z, z = T114.heap.size := ⟨_, rfl⟩
    rw [← g117] at A117 D117 M117 st117
    have g_b117 : n0 ≤ b117 := Nat.le_trans (Nat.le_trans (Nat.le_trans (Nat.le_trans (Nat.le_trans Z0 E106.1) E109.1) E111.1) K114.1) (Nat.le_of_eq g117.symm)
    have sz_b117 : h0.size ≤ b117 := Nat.le_trans (((((Keep.refl h0 []).ext E106).ext E109).ext E111).trans K114 (fun x hx => by cases List.mem_singleton.mp hx; exact Or.inr sz_b106)).1 (Nat.le_of_eq g117.symm)
    have F_schema_b117 : Fld Z h117 b117 "com/example/hallinta/hallinta/datastore/LeafNode" "schema" "Lcom/example/hallinta/hallinta/yang/schema/TypedSchema;" .null := D117 (Or.inr (hw _ (List.mem_of_getElem? (i := 90) rfl))) (ty := (.object "com/example/hallinta/hallinta/yang/schema/TypedSchema")) (by decide)
    have F_value_b117 : Fld Z h117 b117 "com/example/hallinta/hallinta/datastore/LeafNode" "value" "Ljava/lang/Object;" .null := D117 (Or.inr (hw _ (List.mem_of_getElem? (i := 92) rfl))) (ty := (.object "java/lang/Object")) (by decide)
    have F_type_b117 : Fld Z h117 b117 "com/example/hallinta/hallinta/datastore/LeafNode" "type" "Lcom/example/hallinta/hallinta/yang/type/YangType;" .null := D117 (Or.inr (hw _ (List.mem_of_getElem? (i := 94) rfl))) (ty := (.object "com/example/hallinta/hallinta/yang/type/YangType")) (by decide)
    have pp118 : ∀ t, Steps p.tables e below (T117.setTop (mkF m 50 #[.val (.int p1), .val (.int (0 : Int32)), .val (.ref z0), .val (.ref b106), .unset, .unset, .unset, .unset] [(.ref b117)])) t → Steps p.tables e below (s₁.setTop (entryFrame m #[(.int p1)] maxLocals)) t := fun t k => pp116 t (st117 t k)
    have pp119 : ∀ t, Steps p.tables e below (T117.setTop (mkF m 53 #[.val (.int p1), .val (.int (0 : Int32)), .val (.ref z0), .val (.ref b106), .unset, .unset, .unset, .unset] [.null, (.ref b106), (.ref b117), (.ref b117)])) t → Steps p.tables e below (s₁.setTop (entryFrame m #[(.int p1)] maxLocals)) t := fun t k => pp118 t (by
      refine XS.dup X117.here hx rfl (hb hby at_50) rfl rfl ?_
      show Steps p.tables e below (T117.setTop (mkF m 51 #[.val (.int p1), .val (.int (0 : Int32)), .val (.ref z0), .val (.ref b106), .unset, .unset, .unset, .unset] [(.ref b117), (.ref b117)])) _
      refine XS.aloadN X117.here hx rfl (hb hby at_51) rfl rfl ?_
      show Steps p.tables e below (T117.setTop (mkF m 52 #[.val (.int p1), .val (.int (0 : Int32)), .val (.ref z0), .val (.ref b106), .unset, .unset, .unset, .unset] [(.ref b106), (.ref b117), (.ref b117)])) _
      refine XS.aconstNull X117.here hx rfl (hb hby at_52) ?_
      show Steps p.tables e below (T117.setTop (mkF m 53 #[.val (.int p1), .val (.int (0 : Int32)), .val (.ref z0), .val (.ref b106), .unset, .unset, .unset, .unset] [.null, (.ref b106), (.ref b117), (.ref b117)])) _
      exact k)
    obtain ⟨_, _, ⟨T120, L120, k120, n120⟩, -, X120, ⟨Lc120, hQ120, l120, y120, z120⟩, st120⟩ := X117.specialBack hx (y := (⟨"com/example/hallinta/hallinta/datastore/LeafNode", "<init>", "(Lcom/example/hallinta/hallinta/yang/schema/TypedSchema;Ljava/lang/Object;)V"⟩ : MethodName)) rfl hown (mvT hZ (hw _ (List.mem_of_getElem? (i := 73) rfl))) (mvT hZ (hw _ (List.mem_of_getElem? (i := 74) rfl))) (mvT hZ (hw _ (List.mem_of_getElem? (i := 75) rfl))) (by decide) (backOf (W := 1) (own_ln2 l Z a0 hw [] b117 b106 .null .null .null h117 n0 (Nat.le_trans (Nat.le_trans (Nat.le_trans (Nat.le_trans (Nat.le_trans Z0 E106.1) E109.1) E111.1) K114.1) E117.1) A117 F_schema_b117 F_value_b117 F_type_b117 g_b117 ((((A106.ext E109).ext E111).keep K114).ext E117) (Ft114.ext E117)) hZ (hw _ (List.mem_of_getElem? (i := 75) rfl)) (hw _ (List.mem_of_getElem? (i := 72) rfl)) (by decide) (by decide)) (g := (mkF m 53 #[.val (.int p1), .val (.int (0 : Int32)), .val (.ref z0), .val (.ref b106), .unset, .unset, .unset, .unset] [.null, (.ref b106), (.ref b117), (.ref b117)])) rfl (by rw [hml]; rfl) (Steps.refl _) (a := b117) (argsL := [(.ref b106), .null]) (rest := [(.ref b117)]) (lenOf pd__Lcom_example_hallinta_hallinta_yang_schema_TypedSchema_Ljava_lang_Object__V rfl) rfl (by show 2 * 0 + _ ≤ _; exact Nat.le_of_eq rfl) (hb hby at_53) (fun _ _ => ⟨rfl, e117, (by decide : 6 + 0 ≤ _), (by decide : 28 + 0 ≤ _)⟩)
    dsimp only [Pt.U, Pt.locs, Pt.cells, Pt.slots] at X120 l120 y120 z120 st120 hQ120
    subst l120 y120 z120
    obtain ⟨rfl, N120q, K120, EE120, Fs120⟩ := hQ120
    have N120 := Fr.app N114 N120q
    have pp121 : ∀ t, Steps p.tables e below (T120.setTop (mkF m 56 #[.val (.int p1), .val (.int (0 : Int32)), .val (.ref z0), .val (.ref b106), .unset, .unset, .unset, .unset] [(.ref b117)])) t → Steps p.tables e below (s₁.setTop (entryFrame m #[(.int p1)] maxLocals)) t := fun t k => pp119 t (st120.trans k)
    have pp122 : ∀ t, Steps p.tables e below (T120.setTop (mkF m 59 #[.val (.int p1), .val (.int (0 : Int32)), .val (.ref z0), .val (.ref b106), .val (.ref b117), .unset, .unset, .unset] [(.ref z0)])) t → Steps p.tables e below (s₁.setTop (entryFrame m #[(.int p1)] maxLocals)) t := fun t k => pp121 t (by
      refine XS.astore X120.here hx rfl (hb hby at_56) rfl rfl (l' := #[.val (.int p1), .val (.int (0 : Int32)), .val (.ref z0), .val (.ref b106), .val (.ref b117), .unset, .unset, .unset]) rfl ?_
      show Steps p.tables e below (T120.setTop (mkF m 58 #[.val (.int p1), .val (.int (0 : Int32)), .val (.ref z0), .val (.ref b106), .val (.ref b117), .unset, .unset, .unset] [])) _
      refine XS.aloadN X120.here hx rfl (hb hby at_58) rfl rfl ?_
      show Steps p.tables e below (T120.setTop (mkF m 59 #[.val (.int p1), .val (.int (0 : Int32)), .val (.ref z0), .val (.ref b106), .val (.ref b117), .unset, .unset, .unset] [(.ref z0)])) _
      exact k)
    obtain ⟨cq123, kq123, q123a, q123b, q123c⟩ := isOf hZ rfl ((((((C0.ext E106).ext E109).ext E111).keep K114).ext E117).keep K120)
    obtain ⟨_, _, ⟨T123, L123, k123, n123⟩, -, X123, ⟨Lc123, hQ123, l123, y123, z123⟩, st123⟩ := X120.virtualBack hx (y := (⟨"com/example/hallinta/hallinta/datastore/Content", "selectsState", "()Z"⟩ : MethodName)) (z := (⟨"com/example/hallinta/hallinta/datastore/Content", "selectsState", "()Z"⟩ : MethodName)) hown (mvT hZ (hw _ (List.mem_of_getElem? (i := 95) rfl))) (mvT hZ (hw _ (List.mem_of_getElem? (i := 96) rfl))) (notFace_of_selects (args := #[]) (mvT hZ (hw _ (List.mem_of_getElem? (i := 98) rfl)))) (mvT hZ (hw _ (List.mem_of_getElem? (i := 98) rfl))) (mvT hZ (hw _ (List.mem_of_getElem? (i := 97) rfl))) (by decide) (backOf (W := 0) (own_selst l Z a0 hw [] z0 z0 T120.heap n0 (Nat.le_trans (Nat.le_trans (Nat.le_trans (Nat.le_trans (Nat.le_trans (Nat.le_trans Z0 E106.1) E109.1) E111.1) K114.1) E117.1) K120.1) (S0.ext (own_ext (((((((Keep.refl h0 []).ext E106).ext E109).ext E111).trans K114 (fun x hx => by cases List.mem_singleton.mp hx; exact Or.inr sz_b106)).ext E117).trans K120 (fun x hx => by cases List.mem_singleton.mp hx; exact Or.inr sz_b117))))) hZ (hw _ (List.mem_of_getElem? (i := 99) rfl)) (hw _ (List.mem_of_getElem? (i := 2) rfl)) (by decide) (by decide)) q123a q123c (g := (mkF m 59 #[.val (.int p1), .val (.int (0 : Int32)), .val (.ref z0), .val (.ref b106), .val (.ref b117), .unset, .unset, .unset] [(.ref z0)])) rfl (by rw [hml]; rfl) (Steps.refl _) (argsL := []) (rest := []) (lenOf pd___Z rfl) rfl (by show 2 * 0 + _ ≤ _; exact Nat.le_of_eq rfl) (hb hby at_59) (fun _ _ => ⟨rfl, rfl, (by decide : 6 + 0 ≤ _), (by decide : 28 + 0 ≤ _)⟩)
    dsimp only [Pt.U, Pt.locs, Pt.cells, Pt.slots] at X123 l123 y123 z123 st123 hQ123
    subst l123 y123 z123
    obtain ⟨rfl, N123q, s123⟩ := hQ123
    have N123 := Fr.app N120 N123q
    have pp124 : ∀ t, Steps p.tables e below (T123.setTop (mkF m 62 #[.val (.int p1), .val (.int (0 : Int32)), .val (.ref z0), .val (.ref b106), .val (.ref b117), .unset, .unset, .unset] [(.int (own_ss z0 z0))])) t → Steps p.tables e below (s₁.setTop (entryFrame m #[(.int p1)] maxLocals)) t := fun t k => pp122 t (st123.trans k)
    rw [show own_ss z0 z0 = (0 : Int32) from if_pos rfl] at pp124
    have pp125 : ∀ t, Steps p.tables e below (T123.setTop (mkF m 91 #[.val (.int p1), .val (.int (0 : Int32)), .val (.ref z0), .val (.ref b106), .val (.ref b117), .val (.int (0 : Int32)), .val (.int (0 : Int32)), .unset] [(.ref b117), (.ref z0)])) t → Steps p.tables e below (s₁.setTop (entryFrame m #[(.int p1)] maxLocals)) t := fun t k => pp124 t (by
      refine XS.istore X123.here hx rfl (hb hby at_62) rfl (l' := #[.val (.int p1), .val (.int (0 : Int32)), .val (.ref z0), .val (.ref b106), .val (.ref b117), .val (.int (0 : Int32)), .unset, .unset]) rfl ?_
      show Steps p.tables e below (T123.setTop (mkF m 64 #[.val (.int p1), .val (.int (0 : Int32)), .val (.ref z0), .val (.ref b106), .val (.ref b117), .val (.int (0 : Int32)), .unset, .unset] [])) _
      refine XS.iloadN X123.here hx rfl (hb hby at_64) rfl ?_
      show Steps p.tables e below (T123.setTop (mkF m 65 #[.val (.int p1), .val (.int (0 : Int32)), .val (.ref z0), .val (.ref b106), .val (.ref b117), .val (.int (0 : Int32)), .unset, .unset] [(.int (0 : Int32))])) _
      refine XS.ifNo X123.here hx rfl (hb hby at_65) rfl ((if0 _ _).trans (teq (by decide : (0 : Int32) = (0 : Int32))).2) ?_
      show Steps p.tables e below (T123.setTop (mkF m 68 #[.val (.int p1), .val (.int (0 : Int32)), .val (.ref z0), .val (.ref b106), .val (.ref b117), .val (.int (0 : Int32)), .unset, .unset] [])) _
      refine XS.iconst X123.here hx rfl (hb hby at_68) ?_
      show Steps p.tables e below (T123.setTop (mkF m 69 #[.val (.int p1), .val (.int (0 : Int32)), .val (.ref z0), .val (.ref b106), .val (.ref b117), .val (.int (0 : Int32)), .unset, .unset] [(.int (0 : Int32))])) _
      refine XS.istore X123.here hx rfl (hb hby at_69) rfl (l' := #[.val (.int p1), .val (.int (0 : Int32)), .val (.ref z0), .val (.ref b106), .val (.ref b117), .val (.int (0 : Int32)), .val (.int (0 : Int32)), .unset]) rfl ?_
      show Steps p.tables e below (T123.setTop (mkF m 71 #[.val (.int p1), .val (.int (0 : Int32)), .val (.ref z0), .val (.ref b106), .val (.ref b117), .val (.int (0 : Int32)), .val (.int (0 : Int32)), .unset] [])) _
      refine XS.goto X123.here hx rfl (pc0 := 71) (pc' := 88) rfl (hb hby at_71) (by decide) (by decide) ?_
      show Steps p.tables e below (T123.setTop (mkF m 88 #[.val (.int p1), .val (.int (0 : Int32)), .val (.ref z0), .val (.ref b106), .val (.ref b117), .val (.int (0 : Int32)), .val (.int (0 : Int32)), .unset] [])) _
      refine XS.aloadN X123.here hx rfl (hb hby at_88) rfl rfl ?_
      show Steps p.tables e below (T123.setTop (mkF m 89 #[.val (.int p1), .val (.int (0 : Int32)), .val (.ref z0), .val (.ref b106), .val (.ref b117), .val (.int (0 : Int32)), .val (.int (0 : Int32)), .unset] [(.ref z0)])) _
      refine XS.aload X123.here hx rfl (hb hby at_89) rfl rfl ?_
      show Steps p.tables e below (T123.setTop (mkF m 91 #[.val (.int p1), .val (.int (0 : Int32)), .val (.ref z0), .val (.ref b106), .val (.ref b117), .val (.int (0 : Int32)), .val (.int (0 : Int32)), .unset] [(.ref b117), (.ref z0)])) _
      exact k)
    obtain ⟨Lg126, X126, N126⟩ : ∃ Lg, Stand p l e room_1 (s.setVm T111.vm) m #[(.int p1)] below meth c T123 Lg 6 28 ∧ Fr n0 Lg := ⟨_, X123, N123⟩
    obtain ⟨cq127, kq127, q127a, q127b, q127c⟩ := isOf hZ s123 ((((((C0.ext E106).ext E109).ext E111).keep K114).ext E117).keep K120)
    obtain ⟨_, _, ⟨T127, L127, k127, n127⟩, -, X127, ⟨Lc127, hQ127, l127, y127, z127⟩, st127⟩ := X126.virtualBack hx (y := (⟨"com/example/hallinta/hallinta/datastore/Content", "selects", "(Lcom/example/hallinta/hallinta/datastore/DataNode;)Z"⟩ : MethodName)) (z := (⟨"com/example/hallinta/hallinta/datastore/Content", "selects", "(Lcom/example/hallinta/hallinta/datastore/DataNode;)Z"⟩ : MethodName)) hown (mvT hZ (hw _ (List.mem_of_getElem? (i := 101) rfl))) (mvT hZ (hw _ (List.mem_of_getElem? (i := 102) rfl))) (notFace_of_selects (args := #[]) (mvT hZ (hw _ (List.mem_of_getElem? (i := 104) rfl)))) (mvT hZ (hw _ (List.mem_of_getElem? (i := 104) rfl))) (mvT hZ (hw _ (List.mem_of_getElem? (i := 103) rfl))) (by decide) (backOf (W := 0) (own_sel0 l Z a0 hw [] z0 b117 b106 T120.heap n0 (Nat.le_trans (Nat.le_trans (Nat.le_trans (Nat.le_trans (Nat.le_trans (Nat.le_trans Z0 E106.1) E109.1) E111.1) K114.1) E117.1) K120.1) ((((((C0.ext E106).ext E109).ext E111).keep K114).ext E117).keep K120) ((((((O0.ext E106).ext E109).ext E111).keep K114 (fun q => (Nat.ne_of_lt (Nat.lt_of_lt_of_le C0.lt (Nat.le_of_eq g106.symm))) (List.mem_singleton.mp q))).ext E117).keep K120 (fun q => (Nat.ne_of_lt (Nat.lt_of_lt_of_le ((((C0.ext E106).ext E109).ext E111).keep K114).lt (Nat.le_of_eq g117.symm))) (List.mem_singleton.mp q))) (A117.keep K120) Fs120 (((((A106.ext E109).ext E111).keep K114).ext E117).keep K120) ((Fc114.ext E117).keep K120 (fun q => (Nat.ne_of_lt (Nat.lt_of_lt_of_le (((A106.ext E109).ext E111).keep K114).lt (Nat.le_of_eq g117.symm))) (List.mem_singleton.mp q)))) hZ (hw _ (List.mem_of_getElem? (i := 105) rfl)) (hw _ (List.mem_of_getElem? (i := 2) rfl)) (by decide) (by decide)) q127a q127c (g := (mkF m 91 #[.val (.int p1), .val (.int (0 : Int32)), .val (.ref z0), .val (.ref b106), .val (.ref b117), .val (.int (0 : Int32)), .val (.int (0 : Int32)), .unset] [(.ref b117), (.ref z0)])) rfl (by rw [hml]; rfl) (Steps.refl _) (argsL := [(.ref b117)]) (rest := []) (lenOf pd__Lcom_example_hallinta_hallinta_datastore_DataNode__Z rfl) rfl (by show 2 * 0 + _ ≤ _; exact Nat.le_of_eq rfl) (hb hby at_91) (fun _ _ => ⟨rfl, s123, (by decide : 6 + 0 ≤ _), (by decide : 28 + 0 ≤ _)⟩)
    dsimp only [Pt.U, Pt.locs, Pt.cells, Pt.slots] at X127 l127 y127 z127 st127 hQ127
    subst l127 y127 z127
    obtain ⟨rfl, N127q, s127⟩ := hQ127
    have N127 := Fr.app N126 N127q
    have pp128 : ∀ t, Steps p.tables e below (T127.setTop (mkF m 94 #[.val (.int p1), .val (.int (0 : Int32)), .val (.ref z0), .val (.ref b106), .val (.ref b117), .val (.int (0 : Int32)), .val (.int (0 : Int32)), .unset] [(.int (0 : Int32))])) t → Steps p.tables e below (s₁.setTop (entryFrame m #[(.int p1)] maxLocals)) t := fun t k => pp125 t (st127.trans k)
    have pp129 : ∀ t, Steps p.tables e below (T127.setTop (mkF m 115 #[.val (.int p1), .val (.int (0 : Int32)), .val (.ref z0), .val (.ref b106), .val (.ref b117), .val (.int (0 : Int32)), .val (.int (0 : Int32)), .val (.int (0 : Int32))] [(.int (1 : Int32))])) t → Steps p.tables e below (s₁.setTop (entryFrame m #[(.int p1)] maxLocals)) t := fun t k => pp128 t (by
      refine XS.istore X127.here hx rfl (hb hby at_94) rfl (l' := #[.val (.int p1), .val (.int (0 : Int32)), .val (.ref z0), .val (.ref b106), .val (.ref b117), .val (.int (0 : Int32)), .val (.int (0 : Int32)), .val (.int (0 : Int32))]) rfl ?_
      show Steps p.tables e below (T127.setTop (mkF m 96 #[.val (.int p1), .val (.int (0 : Int32)), .val (.ref z0), .val (.ref b106), .val (.ref b117), .val (.int (0 : Int32)), .val (.int (0 : Int32)), .val (.int (0 : Int32))] [])) _
      refine XS.iload X127.here hx rfl (hb hby at_96) rfl ?_
      show Steps p.tables e below (T127.setTop (mkF m 98 #[.val (.int p1), .val (.int (0 : Int32)), .val (.ref z0), .val (.ref b106), .val (.ref b117), .val (.int (0 : Int32)), .val (.int (0 : Int32)), .val (.int (0 : Int32))] [(.int (0 : Int32))])) _
      refine XS.iload X127.here hx rfl (hb hby at_98) rfl ?_
      show Steps p.tables e below (T127.setTop (mkF m 100 #[.val (.int p1), .val (.int (0 : Int32)), .val (.ref z0), .val (.ref b106), .val (.ref b117), .val (.int (0 : Int32)), .val (.int (0 : Int32)), .val (.int (0 : Int32))] [(.int (0 : Int32)), (.int (0 : Int32))])) _
      refine XS.icmpNo X127.here hx rfl (hb hby at_100) rfl (teq (by decide : (0 : Int32) = (0 : Int32))).2 ?_
      show Steps p.tables e below (T127.setTop (mkF m 103 #[.val (.int p1), .val (.int (0 : Int32)), .val (.ref z0), .val (.ref b106), .val (.ref b117), .val (.int (0 : Int32)), .val (.int (0 : Int32)), .val (.int (0 : Int32))] [])) _
      refine XS.iload X127.here hx rfl (hb hby at_103) rfl ?_
      show Steps p.tables e below (T127.setTop (mkF m 105 #[.val (.int p1), .val (.int (0 : Int32)), .val (.ref z0), .val (.ref b106), .val (.ref b117), .val (.int (0 : Int32)), .val (.int (0 : Int32)), .val (.int (0 : Int32))] [(.int (0 : Int32))])) _
      refine XS.iload X127.here hx rfl (hb hby at_105) rfl ?_
      show Steps p.tables e below (T127.setTop (mkF m 107 #[.val (.int p1), .val (.int (0 : Int32)), .val (.ref z0), .val (.ref b106), .val (.ref b117), .val (.int (0 : Int32)), .val (.int (0 : Int32)), .val (.int (0 : Int32))] [(.int (0 : Int32)), (.int (0 : Int32))])) _
      refine XS.icmpNo X127.here hx rfl (hb hby at_107) rfl (teq (by decide : (0 : Int32) = (0 : Int32))).2 ?_
      show Steps p.tables e below (T127.setTop (mkF m 110 #[.val (.int p1), .val (.int (0 : Int32)), .val (.ref z0), .val (.ref b106), .val (.ref b117), .val (.int (0 : Int32)), .val (.int (0 : Int32)), .val (.int (0 : Int32))] [])) _
      refine XS.iconst X127.here hx rfl (hb hby at_110) ?_
      show Steps p.tables e below (T127.setTop (mkF m 111 #[.val (.int p1), .val (.int (0 : Int32)), .val (.ref z0), .val (.ref b106), .val (.ref b117), .val (.int (0 : Int32)), .val (.int (0 : Int32)), .val (.int (0 : Int32))] [(.int (1 : Int32))])) _
      refine XS.goto X127.here hx rfl (pc0 := 111) (pc' := 115) rfl (hb hby at_111) (by decide) (by decide) ?_
      show Steps p.tables e below (T127.setTop (mkF m 115 #[.val (.int p1), .val (.int (0 : Int32)), .val (.ref z0), .val (.ref b106), .val (.ref b117), .val (.int (0 : Int32)), .val (.int (0 : Int32)), .val (.int (0 : Int32))] [(.int (1 : Int32))])) _
      exact k)
    obtain ⟨fs, hr, hrun, hended, hE1, hE2, hE3, hE4⟩ := X127.leaveW Si111 (by show _ ≤ T127.heap.size; rw [s127]; exact (Nat.le_trans (Nat.le_trans (Nat.le_trans ke111 K114.1) E117.1) K120.1)) (v := some (.int (1 : Int32))) (fun h => by rw [Bd.returns] at h; cases h)
    refine ⟨_, _, pp129 _ ?_, hrun, hended, _, _, rfl, ?_, hE1, hE2, hE3, hE4.mono (by decide) (by decide)⟩
    · exact retN X127 hx (t := .boolean) Bd.returns (by simp) (hb hby at_115) hr
    · show Q_own_law Z p1 z0 z1 z2 el h0 n0 _ T127.heap _
      rw [s127]
      exact ⟨rfl, N127⟩
  · have pp130 : ∀ t, Steps p.tables e below (s₁.setTop (mkF m 22 #[.val (.int p1), .val (.int (1 : Int32)), .unset, .unset, .unset, .unset, .unset, .unset] [])) t → Steps p.tables e below (s₁.setTop (entryFrame m #[(.int p1)] maxLocals)) t := fun t k => pp101 t (by
      refine XS.ifYes X0.here hx rfl (pc0 := 8) (pc' := 17) rfl (hb hby at_8) rfl ((if0 _ _).trans (feq (by decide : ¬ ((1 : Int32) = (0 : Int32)))).2) (by decide) (by decide) ?_
      show Steps p.tables e below (s₁.setTop (mkF m 17 #[.val (.int p1), .val (.int (1 : Int32)), .unset, .unset, .unset, .unset, .unset, .unset] [])) _
      refine XS.iloadN X0.here hx rfl (hb hby at_17) rfl ?_
      show Steps p.tables e below (s₁.setTop (mkF m 18 #[.val (.int p1), .val (.int (1 : Int32)), .unset, .unset, .unset, .unset, .unset, .unset] [(.int (1 : Int32))])) _
      refine XS.iconst X0.here hx rfl (hb hby at_18) ?_
      show Steps p.tables e below (s₁.setTop (mkF m 19 #[.val (.int p1), .val (.int (1 : Int32)), .unset, .unset, .unset, .unset, .unset, .unset] [(.int (1 : Int32)), (.int (1 : Int32))])) _
      refine XS.icmpNo X0.here hx rfl (hb hby at_19) rfl (teq (by decide : (1 : Int32) = (1 : Int32))).2 ?_
      show Steps p.tables e below (s₁.setTop (mkF m 22 #[.val (.int p1), .val (.int (1 : Int32)), .unset, .unset, .unset, .unset, .unset, .unset] [])) _
      exact k)
    obtain ⟨T131, X131, e131, st131⟩ := getS2 X0 hx hZ hown (host := "") (Or.inl (hw _ (List.mem_of_getElem? (i := 135) rfl))) Via.refl e0 S1 (g := (mkF m 22 #[.val (.int p1), .val (.int (1 : Int32)), .unset, .unset, .unset, .unset, .unset, .unset] [])) rfl (hb hby at_22)
    have pp132 : ∀ t, Steps p.tables e below (T131.setTop (mkF m 25 #[.val (.int p1), .val (.int (1 : Int32)), .unset, .unset, .unset, .unset, .unset, .unset] [(.ref z1)])) t → Steps p.tables e below (s₁.setTop (entryFrame m #[(.int p1)] maxLocals)) t := fun t k => pp130 t (st131 t k)
    have pp133 : ∀ t, Steps p.tables e below (T131.setTop (mkF m 32 #[.val (.int p1), .val (.int (1 : Int32)), .val (.ref z1), .unset, .unset, .unset, .unset, .unset] [])) t → Steps p.tables e below (s₁.setTop (entryFrame m #[(.int p1)] maxLocals)) t := fun t k => pp132 t (by
      refine XS.goto X131.here hx rfl (pc0 := 25) (pc' := 31) rfl (hb hby at_25) (by decide) (by decide) ?_
      show Steps p.tables e below (T131.setTop (mkF m 31 #[.val (.int p1), .val (.int (1 : Int32)), .unset, .unset, .unset, .unset, .unset, .unset] [(.ref z1)])) _
      refine XS.astoreN X131.here hx rfl (hb hby at_31) rfl rfl (l' := #[.val (.int p1), .val (.int (1 : Int32)), .val (.ref z1), .unset, .unset, .unset, .unset, .unset]) rfl ?_
      show Steps p.tables e below (T131.setTop (mkF m 32 #[.val (.int p1), .val (.int (1 : Int32)), .val (.ref z1), .unset, .unset, .unset, .unset, .unset] [])) _
      exact k)
    obtain ⟨T134, h134, X134, e134, E134, A134, D134, M134, st134⟩ := newO X131 hx hZ hown (hw _ (List.mem_of_getElem? (i := 4) rfl)) (hw _ (List.mem_of_getElem? (i := 5) rfl)) (hw _ (List.mem_of_getElem? (i := 6) rfl)) e131 (g := (mkF m 32 #[.val (.int p1), .val (.int (1 : Int32)), .val (.ref z1), .unset, .unset, .unset, .unset, .unset] [])) rfl (hb hby at_32) (by decide) (by decide)
    obtain ⟨b134, g134⟩ : ∃ z, z = h0.size := ⟨_, rfl⟩
    rw [← g134] at A134 D134 M134 st134
    have g_b134 : n0 ≤ b134 := Nat.le_trans Z0 (Nat.le_of_eq g134.symm)
    have sz_b134 : h0.size ≤ b134 := Nat.le_trans (Keep.refl h0 []).1 (Nat.le_of_eq g134.symm)
    have F_module_b134 : Fld Z h134 b134 "com/example/hallinta/hallinta/yang/schema/LeafSchema" "module" "Ljava/lang/String;" .null := D134 (Or.inr (hw _ (List.mem_of_getElem? (i := 55) rfl))) (ty := (.object "java/lang/String")) (by decide)
    have F_name_b134 : Fld Z h134 b134 "com/example/hallinta/hallinta/yang/schema/LeafSchema" "name" "Ljava/lang/String;" .null := D134 (Or.inr (hw _ (List.mem_of_getElem? (i := 57) rfl))) (ty := (.object "java/lang/String")) (by decide)
    have F_config_b134 : Fld Z h134 b134 "com/example/hallinta/hallinta/yang/schema/LeafSchema" "config" "Z" (.int (0 : Int32)) := D134 (Or.inr (hw _ (List.mem_of_getElem? (i := 59) rfl))) (ty := .boolean) (by decide)
    have F_mandatory_b134 : Fld Z h134 b134 "com/example/hallinta/hallinta/yang/schema/LeafSchema" "mandatory" "Z" (.int (0 : Int32)) := D134 (Or.inr (hw _ (List.mem_of_getElem? (i := 61) rfl))) (ty := .boolean) (by decide)
    have F_type_b134 : Fld Z h134 b134 "com/example/hallinta/hallinta/yang/schema/LeafSchema" "type" "Lcom/example/hallinta/hallinta/yang/type/YangType;" .null := D134 (Or.inr (hw _ (List.mem_of_getElem? (i := 63) rfl))) (ty := (.object "com/example/hallinta/hallinta/yang/type/YangType")) (by decide)
    have F_defaults_b134 : Fld Z h134 b134 "com/example/hallinta/hallinta/yang/schema/LeafSchema" "defaults" "Lcom/example/hallinta/hallinta/yang/schema/Default;" .null := D134 (Or.inr (hw _ (List.mem_of_getElem? (i := 65) rfl))) (ty := (.object "com/example/hallinta/hallinta/yang/schema/Default")) (by decide)
    have F_whens_b134 : Fld Z h134 b134 "com/example/hallinta/hallinta/yang/schema/LeafSchema" "whens" "Ljava/util/List;" .null := D134 (Or.inr (hw _ (List.mem_of_getElem? (i := 67) rfl))) (ty := (.object "java/util/List")) (by decide)
    have F_musts_b134 : Fld Z h134 b134 "com/example/hallinta/hallinta/yang/schema/LeafSchema" "musts" "Ljava/util/List;" .null := D134 (Or.inr (hw _ (List.mem_of_getElem? (i := 69) rfl))) (ty := (.object "java/util/List")) (by decide)
    have pp135 : ∀ t, Steps p.tables e below (T134.setTop (mkF m 35 #[.val (.int p1), .val (.int (1 : Int32)), .val (.ref z1), .unset, .unset, .unset, .unset, .unset] [(.ref b134)])) t → Steps p.tables e below (s₁.setTop (entryFrame m #[(.int p1)] maxLocals)) t := fun t k => pp133 t (st134 t k)
    have pp136 : ∀ t, Steps p.tables e below (T134.setTop (mkF m 36 #[.val (.int p1), .val (.int (1 : Int32)), .val (.ref z1), .unset, .unset, .unset, .unset, .unset] [(.ref b134), (.ref b134)])) t → Steps p.tables e below (s₁.setTop (entryFrame m #[(.int p1)] maxLocals)) t := fun t k => pp135 t (by
      refine XS.dup X134.here hx rfl (hb hby at_35) rfl rfl ?_
      show Steps p.tables e below (T134.setTop (mkF m 36 #[.val (.int p1), .val (.int (1 : Int32)), .val (.ref z1), .unset, .unset, .unset, .unset, .unset] [(.ref b134), (.ref b134)])) _
      exact k)
    obtain ⟨c137, T137, h137, kk137, X137, e137, E137, Si137, ke137, hZ137, ho137, st137⟩ := ldcS (s := s) (vm0 := s.vm) X134 hx hZ hown (hw _ (List.mem_of_getElem? (i := 7) rfl)) (own_wS hw) e134 ((State.WarmedH.refl s).since 0) (Nat.zero_le _) (g := (mkF m 36 #[.val (.int p1), .val (.int (1 : Int32)), .val (.ref z1), .unset, .unset, .unset, .unset, .unset] [(.ref b134), (.ref b134)])) rfl (hb hby at_36) (n := 4) (by decide) (by decide) (by decide) (by decide)
    have hZ := hZ137
    have hown := ho137
    have pp138 : ∀ t, Steps p.tables e below (T137.setTop (mkF m 38 #[.val (.int p1), .val (.int (1 : Int32)), .val (.ref z1), .unset, .unset, .unset, .unset, .unset] [(.ref c137), (.ref b134), (.ref b134)])) t → Steps p.tables e below (s₁.setTop (entryFrame m #[(.int p1)] maxLocals)) t := fun t k => pp136 t (st137 t k)
    obtain ⟨c139, T139, h139, kk139, X139, e139, E139, Si139, ke139, hZ139, ho139, st139⟩ := ldcS (s := s) (vm0 := T137.vm) X137 hx hZ hown (hw _ (List.mem_of_getElem? (i := 15) rfl)) (own_wS hw) e137 Si137 ke137 (g := (mkF m 38 #[.val (.int p1), .val (.int (1 : Int32)), .val (.ref z1), .unset, .unset, .unset, .unset, .unset] [(.ref c137), (.ref b134), (.ref b134)])) rfl (hb hby at_38) (n := 4) (by decide) (by decide) (by decide) (by decide)
    have hZ := hZ139
    have hown := ho139
    have pp140 : ∀ t, Steps p.tables e below (T139.setTop (mkF m 40 #[.val (.int p1), .val (.int (1 : Int32)), .val (.ref z1), .unset, .unset, .unset, .unset, .unset] [(.ref c139), (.ref c137), (.ref b134), (.ref b134)])) t → Steps p.tables e below (s₁.setTop (entryFrame m #[(.int p1)] maxLocals)) t := fun t k => pp138 t (st139 t k)
    have pp141 : ∀ t, Steps p.tables e below (T139.setTop (mkF m 43 #[.val (.int p1), .val (.int (1 : Int32)), .val (.ref z1), .unset, .unset, .unset, .unset, .unset] [.null, (.int (0 : Int32)), (.int (0 : Int32)), (.ref c139), (.ref c137), (.ref b134), (.ref b134)])) t → Steps p.tables e below (s₁.setTop (entryFrame m #[(.int p1)] maxLocals)) t := fun t k => pp140 t (by
      refine XS.iconst X139.here hx rfl (hb hby at_40) ?_
      show Steps p.tables e below (T139.setTop (mkF m 41 #[.val (.int p1), .val (.int (1 : Int32)), .val (.ref z1), .unset, .unset, .unset, .unset, .unset] [(.int (0 : Int32)), (.ref c139), (.ref c137), (.ref b134), (.ref b134)])) _
      refine XS.iconst X139.here hx rfl (hb hby at_41) ?_
      show Steps p.tables e below (T139.setTop (mkF m 42 #[.val (.int p1), .val (.int (1 : Int32)), .val (.ref z1), .unset, .unset, .unset, .unset, .unset] [(.int (0 : Int32)), (.int (0 : Int32)), (.ref c139), (.ref c137), (.ref b134), (.ref b134)])) _
      refine XS.aconstNull X139.here hx rfl (hb hby at_42) ?_
      show Steps p.tables e below (T139.setTop (mkF m 43 #[.val (.int p1), .val (.int (1 : Int32)), .val (.ref z1), .unset, .unset, .unset, .unset, .unset] [.null, (.int (0 : Int32)), (.int (0 : Int32)), (.ref c139), (.ref c137), (.ref b134), (.ref b134)])) _
      exact k)
    obtain ⟨_, _, ⟨T142, L142, k142, n142⟩, -, X142, ⟨Lc142, hQ142, l142, y142, z142⟩, st142⟩ := X139.specialBack hx (y := (⟨"com/example/hallinta/hallinta/yang/schema/LeafSchema", "<init>", "(Ljava/lang/String;Ljava/lang/String;ZZLcom/example/hallinta/hallinta/yang/type/YangType;)V"⟩ : MethodName)) rfl hown (mvT hZ (hw _ (List.mem_of_getElem? (i := 16) rfl))) (mvT hZ (hw _ (List.mem_of_getElem? (i := 17) rfl))) (mvT hZ (hw _ (List.mem_of_getElem? (i := 18) rfl))) (by decide) (backOf (W := 1) (own_ls5 l Z a0 hw [] b134 c137 c139 (0 : Int32) (0 : Int32) .null .null (.int (0 : Int32)) (.int (0 : Int32)) .null .null .null .null el h139 n0 (Nat.le_trans (Nat.le_trans (Nat.le_trans Z0 E134.1) E137.1) E139.1) ((A134.ext E137).ext E139) ((F_module_b134.ext E137).ext E139) ((F_name_b134.ext E137).ext E139) ((F_config_b134.ext E137).ext E139) ((F_mandatory_b134.ext E137).ext E139) ((F_type_b134.ext E137).ext E139) ((F_defaults_b134.ext E137).ext E139) ((F_whens_b134.ext E137).ext E139) ((F_musts_b134.ext E137).ext E139) g_b134 (((E1.ext E134).ext E137).ext E139) (((F1.ext E134).ext E137).ext E139) (((S9.ext E134).ext E137).ext E139)) hZ (hw _ (List.mem_of_getElem? (i := 18) rfl)) (hw _ (List.mem_of_getElem? (i := 6) rfl)) (by decide) (by decide)) (g := (mkF m 43 #[.val (.int p1), .val (.int (1 : Int32)), .val (.ref z1), .unset, .unset, .unset, .unset, .unset] [.null, (.int (0 : Int32)), (.int (0 : Int32)), (.ref c139), (.ref c137), (.ref b134), (.ref b134)])) rfl (by rw [hml]; rfl) (Steps.refl _) (a := b134) (argsL := [(.ref c137), (.ref c139), (.int (0 : Int32)), (.int (0 : Int32)), .null]) (rest := [(.ref b134)]) (lenOf pd__Ljava_lang_String_Ljava_lang_String_ZZLcom_example_hallinta_hallinta_yang_type_YangType__V rfl) rfl (by show 2 * 0 + _ ≤ _; exact Nat.le_of_eq rfl) (hb hby at_43) (fun _ _ => ⟨rfl, e139, (by decide : 5 + 0 ≤ _), (by decide : 24 + 0 ≤ _)⟩)
    dsimp only [Pt.U, Pt.locs, Pt.cells, Pt.slots] at X142 l142 y142 z142 st142 hQ142
    subst l142 y142 z142
    obtain ⟨rfl, N142q, K142, EE142, Fc142, Ft142⟩ := hQ142
    have N142 := Fr.app N0 N142q
    have pp143 : ∀ t, Steps p.tables e below (T142.setTop (mkF m 46 #[.val (.int p1), .val (.int (1 : Int32)), .val (.ref z1), .unset, .unset, .unset, .unset, .unset] [(.ref b134)])) t → Steps p.tables e below (s₁.setTop (entryFrame m #[(.int p1)] maxLocals)) t := fun t k => pp141 t (st142.trans k)
    have pp144 : ∀ t, Steps p.tables e below (T142.setTop (mkF m 47 #[.val (.int p1), .val (.int (1 : Int32)), .val (.ref z1), .val (.ref b134), .unset, .unset, .unset, .unset] [])) t → Steps p.tables e below (s₁.setTop (entryFrame m #[(.int p1)] maxLocals)) t := fun t k => pp143 t (by
      refine XS.astoreN X142.here hx rfl (hb hby at_46) rfl rfl (l' := #[.val (.int p1), .val (.int (1 : Int32)), .val (.ref z1), .val (.ref b134), .unset, .unset, .unset, .unset]) rfl ?_
      show Steps p.tables e below (T142.setTop (mkF m 47 #[.val (.int p1), .val (.int (1 : Int32)), .val (.ref z1), .val (.ref b134), .unset, .unset, .unset, .unset] [])) _
      exact k)
    obtain ⟨T145, h145, X145, e145, E145, A145, D145, M145, st145⟩ := newO X142 hx hZ hown (hw _ (List.mem_of_getElem? (i := 70) rfl)) (hw _ (List.mem_of_getElem? (i := 71) rfl)) (hw _ (List.mem_of_getElem? (i := 72) rfl)) rfl (g := (mkF m 47 #[.val (.int p1), .val (.int (1 : Int32)), .val (.ref z1), .val (.ref b134), .unset, .unset, .unset, .unset] [])) rfl (hb hby at_47) (by decide) (by decide)
    obtain ⟨b145, g145⟩ : ∃ z, z = T142.heap.size := ⟨_, rfl⟩
    rw [← g145] at A145 D145 M145 st145
    have g_b145 : n0 ≤ b145 := Nat.le_trans (Nat.le_trans (Nat.le_trans (Nat.le_trans (Nat.le_trans Z0 E134.1) E137.1) E139.1) K142.1) (Nat.le_of_eq g145.symm)
    have sz_b145 : h0.size ≤ b145 := Nat.le_trans (((((Keep.refl h0 []).ext E134).ext E137).ext E139).trans K142 (fun x hx => by cases List.mem_singleton.mp hx; exact Or.inr sz_b134)).1 (Nat.le_of_eq g145.symm)
    have F_schema_b145 : Fld Z h145 b145 "com/example/hallinta/hallinta/datastore/LeafNode" "schema" "Lcom/example/hallinta/hallinta/yang/schema/TypedSchema;" .null := D145 (Or.inr (hw _ (List.mem_of_getElem? (i := 90) rfl))) (ty := (.object "com/example/hallinta/hallinta/yang/schema/TypedSchema")) (by decide)
    have F_value_b145 : Fld Z h145 b145 "com/example/hallinta/hallinta/datastore/LeafNode" "value" "Ljava/lang/Object;" .null := D145 (Or.inr (hw _ (List.mem_of_getElem? (i := 92) rfl))) (ty := (.object "java/lang/Object")) (by decide)
    have F_type_b145 : Fld Z h145 b145 "com/example/hallinta/hallinta/datastore/LeafNode" "type" "Lcom/example/hallinta/hallinta/yang/type/YangType;" .null := D145 (Or.inr (hw _ (List.mem_of_getElem? (i := 94) rfl))) (ty := (.object "com/example/hallinta/hallinta/yang/type/YangType")) (by decide)
    have pp146 : ∀ t, Steps p.tables e below (T145.setTop (mkF m 50 #[.val (.int p1), .val (.int (1 : Int32)), .val (.ref z1), .val (.ref b134), .unset, .unset, .unset, .unset] [(.ref b145)])) t → Steps p.tables e below (s₁.setTop (entryFrame m #[(.int p1)] maxLocals)) t := fun t k => pp144 t (st145 t k)
    have pp147 : ∀ t, Steps p.tables e below (T145.setTop (mkF m 53 #[.val (.int p1), .val (.int (1 : Int32)), .val (.ref z1), .val (.ref b134), .unset, .unset, .unset, .unset] [.null, (.ref b134), (.ref b145), (.ref b145)])) t → Steps p.tables e below (s₁.setTop (entryFrame m #[(.int p1)] maxLocals)) t := fun t k => pp146 t (by
      refine XS.dup X145.here hx rfl (hb hby at_50) rfl rfl ?_
      show Steps p.tables e below (T145.setTop (mkF m 51 #[.val (.int p1), .val (.int (1 : Int32)), .val (.ref z1), .val (.ref b134), .unset, .unset, .unset, .unset] [(.ref b145), (.ref b145)])) _
      refine XS.aloadN X145.here hx rfl (hb hby at_51) rfl rfl ?_
      show Steps p.tables e below (T145.setTop (mkF m 52 #[.val (.int p1), .val (.int (1 : Int32)), .val (.ref z1), .val (.ref b134), .unset, .unset, .unset, .unset] [(.ref b134), (.ref b145), (.ref b145)])) _
      refine XS.aconstNull X145.here hx rfl (hb hby at_52) ?_
      show Steps p.tables e below (T145.setTop (mkF m 53 #[.val (.int p1), .val (.int (1 : Int32)), .val (.ref z1), .val (.ref b134), .unset, .unset, .unset, .unset] [.null, (.ref b134), (.ref b145), (.ref b145)])) _
      exact k)
    obtain ⟨_, _, ⟨T148, L148, k148, n148⟩, -, X148, ⟨Lc148, hQ148, l148, y148, z148⟩, st148⟩ := X145.specialBack hx (y := (⟨"com/example/hallinta/hallinta/datastore/LeafNode", "<init>", "(Lcom/example/hallinta/hallinta/yang/schema/TypedSchema;Ljava/lang/Object;)V"⟩ : MethodName)) rfl hown (mvT hZ (hw _ (List.mem_of_getElem? (i := 73) rfl))) (mvT hZ (hw _ (List.mem_of_getElem? (i := 74) rfl))) (mvT hZ (hw _ (List.mem_of_getElem? (i := 75) rfl))) (by decide) (backOf (W := 1) (own_ln2 l Z a0 hw [] b145 b134 .null .null .null h145 n0 (Nat.le_trans (Nat.le_trans (Nat.le_trans (Nat.le_trans (Nat.le_trans Z0 E134.1) E137.1) E139.1) K142.1) E145.1) A145 F_schema_b145 F_value_b145 F_type_b145 g_b145 ((((A134.ext E137).ext E139).keep K142).ext E145) (Ft142.ext E145)) hZ (hw _ (List.mem_of_getElem? (i := 75) rfl)) (hw _ (List.mem_of_getElem? (i := 72) rfl)) (by decide) (by decide)) (g := (mkF m 53 #[.val (.int p1), .val (.int (1 : Int32)), .val (.ref z1), .val (.ref b134), .unset, .unset, .unset, .unset] [.null, (.ref b134), (.ref b145), (.ref b145)])) rfl (by rw [hml]; rfl) (Steps.refl _) (a := b145) (argsL := [(.ref b134), .null]) (rest := [(.ref b145)]) (lenOf pd__Lcom_example_hallinta_hallinta_yang_schema_TypedSchema_Ljava_lang_Object__V rfl) rfl (by show 2 * 0 + _ ≤ _; exact Nat.le_of_eq rfl) (hb hby at_53) (fun _ _ => ⟨rfl, e145, (by decide : 6 + 0 ≤ _), (by decide : 28 + 0 ≤ _)⟩)
    dsimp only [Pt.U, Pt.locs, Pt.cells, Pt.slots] at X148 l148 y148 z148 st148 hQ148
    subst l148 y148 z148
    obtain ⟨rfl, N148q, K148, EE148, Fs148⟩ := hQ148
    have N148 := Fr.app N142 N148q
    have pp149 : ∀ t, Steps p.tables e below (T148.setTop (mkF m 56 #[.val (.int p1), .val (.int (1 : Int32)), .val (.ref z1), .val (.ref b134), .unset, .unset, .unset, .unset] [(.ref b145)])) t → Steps p.tables e below (s₁.setTop (entryFrame m #[(.int p1)] maxLocals)) t := fun t k => pp147 t (st148.trans k)
    have pp150 : ∀ t, Steps p.tables e below (T148.setTop (mkF m 59 #[.val (.int p1), .val (.int (1 : Int32)), .val (.ref z1), .val (.ref b134), .val (.ref b145), .unset, .unset, .unset] [(.ref z1)])) t → Steps p.tables e below (s₁.setTop (entryFrame m #[(.int p1)] maxLocals)) t := fun t k => pp149 t (by
      refine XS.astore X148.here hx rfl (hb hby at_56) rfl rfl (l' := #[.val (.int p1), .val (.int (1 : Int32)), .val (.ref z1), .val (.ref b134), .val (.ref b145), .unset, .unset, .unset]) rfl ?_
      show Steps p.tables e below (T148.setTop (mkF m 58 #[.val (.int p1), .val (.int (1 : Int32)), .val (.ref z1), .val (.ref b134), .val (.ref b145), .unset, .unset, .unset] [])) _
      refine XS.aloadN X148.here hx rfl (hb hby at_58) rfl rfl ?_
      show Steps p.tables e below (T148.setTop (mkF m 59 #[.val (.int p1), .val (.int (1 : Int32)), .val (.ref z1), .val (.ref b134), .val (.ref b145), .unset, .unset, .unset] [(.ref z1)])) _
      exact k)
    obtain ⟨cq151, kq151, q151a, q151b, q151c⟩ := isOf hZ rfl ((((((C1.ext E134).ext E137).ext E139).keep K142).ext E145).keep K148)
    obtain ⟨_, _, ⟨T151, L151, k151, n151⟩, -, X151, ⟨Lc151, hQ151, l151, y151, z151⟩, st151⟩ := X148.virtualBack hx (y := (⟨"com/example/hallinta/hallinta/datastore/Content", "selectsState", "()Z"⟩ : MethodName)) (z := (⟨"com/example/hallinta/hallinta/datastore/Content", "selectsState", "()Z"⟩ : MethodName)) hown (mvT hZ (hw _ (List.mem_of_getElem? (i := 95) rfl))) (mvT hZ (hw _ (List.mem_of_getElem? (i := 96) rfl))) (notFace_of_selects (args := #[]) (mvT hZ (hw _ (List.mem_of_getElem? (i := 98) rfl)))) (mvT hZ (hw _ (List.mem_of_getElem? (i := 98) rfl))) (mvT hZ (hw _ (List.mem_of_getElem? (i := 97) rfl))) (by decide) (backOf (W := 0) (own_selst l Z a0 hw [] z1 z0 T148.heap n0 (Nat.le_trans (Nat.le_trans (Nat.le_trans (Nat.le_trans (Nat.le_trans (Nat.le_trans Z0 E134.1) E137.1) E139.1) K142.1) E145.1) K148.1) (S0.ext (own_ext (((((((Keep.refl h0 []).ext E134).ext E137).ext E139).trans K142 (fun x hx => by cases List.mem_singleton.mp hx; exact Or.inr sz_b134)).ext E145).trans K148 (fun x hx => by cases List.mem_singleton.mp hx; exact Or.inr sz_b145))))) hZ (hw _ (List.mem_of_getElem? (i := 99) rfl)) (hw _ (List.mem_of_getElem? (i := 2) rfl)) (by decide) (by decide)) q151a q151c (g := (mkF m 59 #[.val (.int p1), .val (.int (1 : Int32)), .val (.ref z1), .val (.ref b134), .val (.ref b145), .unset, .unset, .unset] [(.ref z1)])) rfl (by rw [hml]; rfl) (Steps.refl _) (argsL := []) (rest := []) (lenOf pd___Z rfl) rfl (by show 2 * 0 + _ ≤ _; exact Nat.le_of_eq rfl) (hb hby at_59) (fun _ _ => ⟨rfl, rfl, (by decide : 6 + 0 ≤ _), (by decide : 28 + 0 ≤ _)⟩)
    dsimp only [Pt.U, Pt.locs, Pt.cells, Pt.slots] at X151 l151 y151 z151 st151 hQ151
    subst l151 y151 z151
    obtain ⟨rfl, N151q, s151⟩ := hQ151
    have N151 := Fr.app N148 N151q
    have pp152 : ∀ t, Steps p.tables e below (T151.setTop (mkF m 62 #[.val (.int p1), .val (.int (1 : Int32)), .val (.ref z1), .val (.ref b134), .val (.ref b145), .unset, .unset, .unset] [(.int (own_ss z1 z0))])) t → Steps p.tables e below (s₁.setTop (entryFrame m #[(.int p1)] maxLocals)) t := fun t k => pp150 t (st151.trans k)
    rw [show own_ss z1 z0 = (1 : Int32) from if_neg ne1_0] at pp152
    have pp153 : ∀ t, Steps p.tables e below (T151.setTop (mkF m 91 #[.val (.int p1), .val (.int (1 : Int32)), .val (.ref z1), .val (.ref b134), .val (.ref b145), .val (.int (1 : Int32)), .val (.int (1 : Int32)), .unset] [(.ref b145), (.ref z1)])) t → Steps p.tables e below (s₁.setTop (entryFrame m #[(.int p1)] maxLocals)) t := fun t k => pp152 t (by
      refine XS.istore X151.here hx rfl (hb hby at_62) rfl (l' := #[.val (.int p1), .val (.int (1 : Int32)), .val (.ref z1), .val (.ref b134), .val (.ref b145), .val (.int (1 : Int32)), .unset, .unset]) rfl ?_
      show Steps p.tables e below (T151.setTop (mkF m 64 #[.val (.int p1), .val (.int (1 : Int32)), .val (.ref z1), .val (.ref b134), .val (.ref b145), .val (.int (1 : Int32)), .unset, .unset] [])) _
      refine XS.iloadN X151.here hx rfl (hb hby at_64) rfl ?_
      show Steps p.tables e below (T151.setTop (mkF m 65 #[.val (.int p1), .val (.int (1 : Int32)), .val (.ref z1), .val (.ref b134), .val (.ref b145), .val (.int (1 : Int32)), .unset, .unset] [(.int (1 : Int32))])) _
      refine XS.ifYes X151.here hx rfl (pc0 := 65) (pc' := 74) rfl (hb hby at_65) rfl ((if0 _ _).trans (feq (by decide : ¬ ((1 : Int32) = (0 : Int32)))).2) (by decide) (by decide) ?_
      show Steps p.tables e below (T151.setTop (mkF m 74 #[.val (.int p1), .val (.int (1 : Int32)), .val (.ref z1), .val (.ref b134), .val (.ref b145), .val (.int (1 : Int32)), .unset, .unset] [])) _
      refine XS.iloadN X151.here hx rfl (hb hby at_74) rfl ?_
      show Steps p.tables e below (T151.setTop (mkF m 75 #[.val (.int p1), .val (.int (1 : Int32)), .val (.ref z1), .val (.ref b134), .val (.ref b145), .val (.int (1 : Int32)), .unset, .unset] [(.int (1 : Int32))])) _
      refine XS.iconst X151.here hx rfl (hb hby at_75) ?_
      show Steps p.tables e below (T151.setTop (mkF m 76 #[.val (.int p1), .val (.int (1 : Int32)), .val (.ref z1), .val (.ref b134), .val (.ref b145), .val (.int (1 : Int32)), .unset, .unset] [(.int (1 : Int32)), (.int (1 : Int32))])) _
      refine XS.icmpNo X151.here hx rfl (hb hby at_76) rfl (teq (by decide : (1 : Int32) = (1 : Int32))).2 ?_
      show Steps p.tables e below (T151.setTop (mkF m 79 #[.val (.int p1), .val (.int (1 : Int32)), .val (.ref z1), .val (.ref b134), .val (.ref b145), .val (.int (1 : Int32)), .unset, .unset] [])) _
      refine XS.iconst X151.here hx rfl (hb hby at_79) ?_
      show Steps p.tables e below (T151.setTop (mkF m 80 #[.val (.int p1), .val (.int (1 : Int32)), .val (.ref z1), .val (.ref b134), .val (.ref b145), .val (.int (1 : Int32)), .unset, .unset] [(.int (1 : Int32))])) _
      refine XS.istore X151.here hx rfl (hb hby at_80) rfl (l' := #[.val (.int p1), .val (.int (1 : Int32)), .val (.ref z1), .val (.ref b134), .val (.ref b145), .val (.int (1 : Int32)), .val (.int (1 : Int32)), .unset]) rfl ?_
      show Steps p.tables e below (T151.setTop (mkF m 82 #[.val (.int p1), .val (.int (1 : Int32)), .val (.ref z1), .val (.ref b134), .val (.ref b145), .val (.int (1 : Int32)), .val (.int (1 : Int32)), .unset] [])) _
      refine XS.goto X151.here hx rfl (pc0 := 82) (pc' := 88) rfl (hb hby at_82) (by decide) (by decide) ?_
      show Steps p.tables e below (T151.setTop (mkF m 88 #[.val (.int p1), .val (.int (1 : Int32)), .val (.ref z1), .val (.ref b134), .val (.ref b145), .val (.int (1 : Int32)), .val (.int (1 : Int32)), .unset] [])) _
      refine XS.aloadN X151.here hx rfl (hb hby at_88) rfl rfl ?_
      show Steps p.tables e below (T151.setTop (mkF m 89 #[.val (.int p1), .val (.int (1 : Int32)), .val (.ref z1), .val (.ref b134), .val (.ref b145), .val (.int (1 : Int32)), .val (.int (1 : Int32)), .unset] [(.ref z1)])) _
      refine XS.aload X151.here hx rfl (hb hby at_89) rfl rfl ?_
      show Steps p.tables e below (T151.setTop (mkF m 91 #[.val (.int p1), .val (.int (1 : Int32)), .val (.ref z1), .val (.ref b134), .val (.ref b145), .val (.int (1 : Int32)), .val (.int (1 : Int32)), .unset] [(.ref b145), (.ref z1)])) _
      exact k)
    obtain ⟨Lg154, X154, N154⟩ : ∃ Lg, Stand p l e room_1 (s.setVm T139.vm) m #[(.int p1)] below meth c T151 Lg 6 28 ∧ Fr n0 Lg := ⟨_, X151, N151⟩
    obtain ⟨cq155, kq155, q155a, q155b, q155c⟩ := isOf hZ s151 ((((((C1.ext E134).ext E137).ext E139).keep K142).ext E145).keep K148)
    obtain ⟨_, _, ⟨T155, L155, k155, n155⟩, -, X155, ⟨Lc155, hQ155, l155, y155, z155⟩, st155⟩ := X154.virtualBack hx (y := (⟨"com/example/hallinta/hallinta/datastore/Content", "selects", "(Lcom/example/hallinta/hallinta/datastore/DataNode;)Z"⟩ : MethodName)) (z := (⟨"com/example/hallinta/hallinta/datastore/Content", "selects", "(Lcom/example/hallinta/hallinta/datastore/DataNode;)Z"⟩ : MethodName)) hown (mvT hZ (hw _ (List.mem_of_getElem? (i := 101) rfl))) (mvT hZ (hw _ (List.mem_of_getElem? (i := 102) rfl))) (notFace_of_selects (args := #[]) (mvT hZ (hw _ (List.mem_of_getElem? (i := 104) rfl)))) (mvT hZ (hw _ (List.mem_of_getElem? (i := 104) rfl))) (mvT hZ (hw _ (List.mem_of_getElem? (i := 103) rfl))) (by decide) (backOf (W := 0) (own_sel1 l Z a0 hw [] z1 b145 b134 T148.heap n0 (Nat.le_trans (Nat.le_trans (Nat.le_trans (Nat.le_trans (Nat.le_trans (Nat.le_trans Z0 E134.1) E137.1) E139.1) K142.1) E145.1) K148.1) ((((((C1.ext E134).ext E137).ext E139).keep K142).ext E145).keep K148) ((((((O1.ext E134).ext E137).ext E139).keep K142 (fun q => (Nat.ne_of_lt (Nat.lt_of_lt_of_le C1.lt (Nat.le_of_eq g134.symm))) (List.mem_singleton.mp q))).ext E145).keep K148 (fun q => (Nat.ne_of_lt (Nat.lt_of_lt_of_le ((((C1.ext E134).ext E137).ext E139).keep K142).lt (Nat.le_of_eq g145.symm))) (List.mem_singleton.mp q))) (A145.keep K148) Fs148 (((((A134.ext E137).ext E139).keep K142).ext E145).keep K148) ((Fc142.ext E145).keep K148 (fun q => (Nat.ne_of_lt (Nat.lt_of_lt_of_le (((A134.ext E137).ext E139).keep K142).lt (Nat.le_of_eq g145.symm))) (List.mem_singleton.mp q)))) hZ (hw _ (List.mem_of_getElem? (i := 105) rfl)) (hw _ (List.mem_of_getElem? (i := 2) rfl)) (by decide) (by decide)) q155a q155c (g := (mkF m 91 #[.val (.int p1), .val (.int (1 : Int32)), .val (.ref z1), .val (.ref b134), .val (.ref b145), .val (.int (1 : Int32)), .val (.int (1 : Int32)), .unset] [(.ref b145), (.ref z1)])) rfl (by rw [hml]; rfl) (Steps.refl _) (argsL := [(.ref b145)]) (rest := []) (lenOf pd__Lcom_example_hallinta_hallinta_datastore_DataNode__Z rfl) rfl (by show 2 * 0 + _ ≤ _; exact Nat.le_of_eq rfl) (hb hby at_91) (fun _ _ => ⟨rfl, s151, (by decide : 6 + 0 ≤ _), (by decide : 28 + 0 ≤ _)⟩)
    dsimp only [Pt.U, Pt.locs, Pt.cells, Pt.slots] at X155 l155 y155 z155 st155 hQ155
    subst l155 y155 z155
    obtain ⟨rfl, N155q, s155⟩ := hQ155
    have N155 := Fr.app N154 N155q
    have pp156 : ∀ t, Steps p.tables e below (T155.setTop (mkF m 94 #[.val (.int p1), .val (.int (1 : Int32)), .val (.ref z1), .val (.ref b134), .val (.ref b145), .val (.int (1 : Int32)), .val (.int (1 : Int32)), .unset] [(.int (1 : Int32))])) t → Steps p.tables e below (s₁.setTop (entryFrame m #[(.int p1)] maxLocals)) t := fun t k => pp153 t (st155.trans k)
    have pp157 : ∀ t, Steps p.tables e below (T155.setTop (mkF m 115 #[.val (.int p1), .val (.int (1 : Int32)), .val (.ref z1), .val (.ref b134), .val (.ref b145), .val (.int (1 : Int32)), .val (.int (1 : Int32)), .val (.int (1 : Int32))] [(.int (1 : Int32))])) t → Steps p.tables e below (s₁.setTop (entryFrame m #[(.int p1)] maxLocals)) t := fun t k => pp156 t (by
      refine XS.istore X155.here hx rfl (hb hby at_94) rfl (l' := #[.val (.int p1), .val (.int (1 : Int32)), .val (.ref z1), .val (.ref b134), .val (.ref b145), .val (.int (1 : Int32)), .val (.int (1 : Int32)), .val (.int (1 : Int32))]) rfl ?_
      show Steps p.tables e below (T155.setTop (mkF m 96 #[.val (.int p1), .val (.int (1 : Int32)), .val (.ref z1), .val (.ref b134), .val (.ref b145), .val (.int (1 : Int32)), .val (.int (1 : Int32)), .val (.int (1 : Int32))] [])) _
      refine XS.iload X155.here hx rfl (hb hby at_96) rfl ?_
      show Steps p.tables e below (T155.setTop (mkF m 98 #[.val (.int p1), .val (.int (1 : Int32)), .val (.ref z1), .val (.ref b134), .val (.ref b145), .val (.int (1 : Int32)), .val (.int (1 : Int32)), .val (.int (1 : Int32))] [(.int (1 : Int32))])) _
      refine XS.iload X155.here hx rfl (hb hby at_98) rfl ?_
      show Steps p.tables e below (T155.setTop (mkF m 100 #[.val (.int p1), .val (.int (1 : Int32)), .val (.ref z1), .val (.ref b134), .val (.ref b145), .val (.int (1 : Int32)), .val (.int (1 : Int32)), .val (.int (1 : Int32))] [(.int (1 : Int32)), (.int (1 : Int32))])) _
      refine XS.icmpNo X155.here hx rfl (hb hby at_100) rfl (teq (by decide : (1 : Int32) = (1 : Int32))).2 ?_
      show Steps p.tables e below (T155.setTop (mkF m 103 #[.val (.int p1), .val (.int (1 : Int32)), .val (.ref z1), .val (.ref b134), .val (.ref b145), .val (.int (1 : Int32)), .val (.int (1 : Int32)), .val (.int (1 : Int32))] [])) _
      refine XS.iload X155.here hx rfl (hb hby at_103) rfl ?_
      show Steps p.tables e below (T155.setTop (mkF m 105 #[.val (.int p1), .val (.int (1 : Int32)), .val (.ref z1), .val (.ref b134), .val (.ref b145), .val (.int (1 : Int32)), .val (.int (1 : Int32)), .val (.int (1 : Int32))] [(.int (1 : Int32))])) _
      refine XS.iload X155.here hx rfl (hb hby at_105) rfl ?_
      show Steps p.tables e below (T155.setTop (mkF m 107 #[.val (.int p1), .val (.int (1 : Int32)), .val (.ref z1), .val (.ref b134), .val (.ref b145), .val (.int (1 : Int32)), .val (.int (1 : Int32)), .val (.int (1 : Int32))] [(.int (1 : Int32)), (.int (1 : Int32))])) _
      refine XS.icmpNo X155.here hx rfl (hb hby at_107) rfl (teq (by decide : (1 : Int32) = (1 : Int32))).2 ?_
      show Steps p.tables e below (T155.setTop (mkF m 110 #[.val (.int p1), .val (.int (1 : Int32)), .val (.ref z1), .val (.ref b134), .val (.ref b145), .val (.int (1 : Int32)), .val (.int (1 : Int32)), .val (.int (1 : Int32))] [])) _
      refine XS.iconst X155.here hx rfl (hb hby at_110) ?_
      show Steps p.tables e below (T155.setTop (mkF m 111 #[.val (.int p1), .val (.int (1 : Int32)), .val (.ref z1), .val (.ref b134), .val (.ref b145), .val (.int (1 : Int32)), .val (.int (1 : Int32)), .val (.int (1 : Int32))] [(.int (1 : Int32))])) _
      refine XS.goto X155.here hx rfl (pc0 := 111) (pc' := 115) rfl (hb hby at_111) (by decide) (by decide) ?_
      show Steps p.tables e below (T155.setTop (mkF m 115 #[.val (.int p1), .val (.int (1 : Int32)), .val (.ref z1), .val (.ref b134), .val (.ref b145), .val (.int (1 : Int32)), .val (.int (1 : Int32)), .val (.int (1 : Int32))] [(.int (1 : Int32))])) _
      exact k)
    obtain ⟨fs, hr, hrun, hended, hE1, hE2, hE3, hE4⟩ := X155.leaveW Si139 (by show _ ≤ T155.heap.size; rw [s155]; exact (Nat.le_trans (Nat.le_trans (Nat.le_trans ke139 K142.1) E145.1) K148.1)) (v := some (.int (1 : Int32))) (fun h => by rw [Bd.returns] at h; cases h)
    refine ⟨_, _, pp157 _ ?_, hrun, hended, _, _, rfl, ?_, hE1, hE2, hE3, hE4.mono (by decide) (by decide)⟩
    · exact retN X155 hx (t := .boolean) Bd.returns (by simp) (hb hby at_115) hr
    · show Q_own_law Z p1 z0 z1 z2 el h0 n0 _ T155.heap _
      rw [s155]
      exact ⟨rfl, N155⟩
  · have pp158 : ∀ t, Steps p.tables e below (s₁.setTop (mkF m 28 #[.val (.int p1), .val (.int (2 : Int32)), .unset, .unset, .unset, .unset, .unset, .unset] [])) t → Steps p.tables e below (s₁.setTop (entryFrame m #[(.int p1)] maxLocals)) t := fun t k => pp101 t (by
      refine XS.ifYes X0.here hx rfl (pc0 := 8) (pc' := 17) rfl (hb hby at_8) rfl ((if0 _ _).trans (feq (by decide : ¬ ((2 : Int32) = (0 : Int32)))).2) (by decide) (by decide) ?_
      show Steps p.tables e below (s₁.setTop (mkF m 17 #[.val (.int p1), .val (.int (2 : Int32)), .unset, .unset, .unset, .unset, .unset, .unset] [])) _
      refine XS.iloadN X0.here hx rfl (hb hby at_17) rfl ?_
      show Steps p.tables e below (s₁.setTop (mkF m 18 #[.val (.int p1), .val (.int (2 : Int32)), .unset, .unset, .unset, .unset, .unset, .unset] [(.int (2 : Int32))])) _
      refine XS.iconst X0.here hx rfl (hb hby at_18) ?_
      show Steps p.tables e below (s₁.setTop (mkF m 19 #[.val (.int p1), .val (.int (2 : Int32)), .unset, .unset, .unset, .unset, .unset, .unset] [(.int (1 : Int32)), (.int (2 : Int32))])) _
      refine XS.icmpYes X0.here hx rfl (pc0 := 19) (pc' := 28) rfl (hb hby at_19) rfl (feq (by decide : ¬ ((2 : Int32) = (1 : Int32)))).2 (by decide) (by decide) ?_
      show Steps p.tables e below (s₁.setTop (mkF m 28 #[.val (.int p1), .val (.int (2 : Int32)), .unset, .unset, .unset, .unset, .unset, .unset] [])) _
      exact k)
    obtain ⟨T159, X159, e159, st159⟩ := getS2 X0 hx hZ hown (host := "") (Or.inl (hw _ (List.mem_of_getElem? (i := 133) rfl))) Via.refl e0 S2 (g := (mkF m 28 #[.val (.int p1), .val (.int (2 : Int32)), .unset, .unset, .unset, .unset, .unset, .unset] [])) rfl (hb hby at_28)
    have pp160 : ∀ t, Steps p.tables e below (T159.setTop (mkF m 31 #[.val (.int p1), .val (.int (2 : Int32)), .unset, .unset, .unset, .unset, .unset, .unset] [(.ref z2)])) t → Steps p.tables e below (s₁.setTop (entryFrame m #[(.int p1)] maxLocals)) t := fun t k => pp158 t (st159 t k)
    have pp161 : ∀ t, Steps p.tables e below (T159.setTop (mkF m 32 #[.val (.int p1), .val (.int (2 : Int32)), .val (.ref z2), .unset, .unset, .unset, .unset, .unset] [])) t → Steps p.tables e below (s₁.setTop (entryFrame m #[(.int p1)] maxLocals)) t := fun t k => pp160 t (by
      refine XS.astoreN X159.here hx rfl (hb hby at_31) rfl rfl (l' := #[.val (.int p1), .val (.int (2 : Int32)), .val (.ref z2), .unset, .unset, .unset, .unset, .unset]) rfl ?_
      show Steps p.tables e below (T159.setTop (mkF m 32 #[.val (.int p1), .val (.int (2 : Int32)), .val (.ref z2), .unset, .unset, .unset, .unset, .unset] [])) _
      exact k)
    obtain ⟨T162, h162, X162, e162, E162, A162, D162, M162, st162⟩ := newO X159 hx hZ hown (hw _ (List.mem_of_getElem? (i := 4) rfl)) (hw _ (List.mem_of_getElem? (i := 5) rfl)) (hw _ (List.mem_of_getElem? (i := 6) rfl)) e159 (g := (mkF m 32 #[.val (.int p1), .val (.int (2 : Int32)), .val (.ref z2), .unset, .unset, .unset, .unset, .unset] [])) rfl (hb hby at_32) (by decide) (by decide)
    obtain ⟨b162, g162⟩ : ∃ z, z = h0.size := ⟨_, rfl⟩
    rw [← g162] at A162 D162 M162 st162
    have g_b162 : n0 ≤ b162 := Nat.le_trans Z0 (Nat.le_of_eq g162.symm)
    have sz_b162 : h0.size ≤ b162 := Nat.le_trans (Keep.refl h0 []).1 (Nat.le_of_eq g162.symm)
    have F_module_b162 : Fld Z h162 b162 "com/example/hallinta/hallinta/yang/schema/LeafSchema" "module" "Ljava/lang/String;" .null := D162 (Or.inr (hw _ (List.mem_of_getElem? (i := 55) rfl))) (ty := (.object "java/lang/String")) (by decide)
    have F_name_b162 : Fld Z h162 b162 "com/example/hallinta/hallinta/yang/schema/LeafSchema" "name" "Ljava/lang/String;" .null := D162 (Or.inr (hw _ (List.mem_of_getElem? (i := 57) rfl))) (ty := (.object "java/lang/String")) (by decide)
    have F_config_b162 : Fld Z h162 b162 "com/example/hallinta/hallinta/yang/schema/LeafSchema" "config" "Z" (.int (0 : Int32)) := D162 (Or.inr (hw _ (List.mem_of_getElem? (i := 59) rfl))) (ty := .boolean) (by decide)
    have F_mandatory_b162 : Fld Z h162 b162 "com/example/hallinta/hallinta/yang/schema/LeafSchema" "mandatory" "Z" (.int (0 : Int32)) := D162 (Or.inr (hw _ (List.mem_of_getElem? (i := 61) rfl))) (ty := .boolean) (by decide)
    have F_type_b162 : Fld Z h162 b162 "com/example/hallinta/hallinta/yang/schema/LeafSchema" "type" "Lcom/example/hallinta/hallinta/yang/type/YangType;" .null := D162 (Or.inr (hw _ (List.mem_of_getElem? (i := 63) rfl))) (ty := (.object "com/example/hallinta/hallinta/yang/type/YangType")) (by decide)
    have F_defaults_b162 : Fld Z h162 b162 "com/example/hallinta/hallinta/yang/schema/LeafSchema" "defaults" "Lcom/example/hallinta/hallinta/yang/schema/Default;" .null := D162 (Or.inr (hw _ (List.mem_of_getElem? (i := 65) rfl))) (ty := (.object "com/example/hallinta/hallinta/yang/schema/Default")) (by decide)
    have F_whens_b162 : Fld Z h162 b162 "com/example/hallinta/hallinta/yang/schema/LeafSchema" "whens" "Ljava/util/List;" .null := D162 (Or.inr (hw _ (List.mem_of_getElem? (i := 67) rfl))) (ty := (.object "java/util/List")) (by decide)
    have F_musts_b162 : Fld Z h162 b162 "com/example/hallinta/hallinta/yang/schema/LeafSchema" "musts" "Ljava/util/List;" .null := D162 (Or.inr (hw _ (List.mem_of_getElem? (i := 69) rfl))) (ty := (.object "java/util/List")) (by decide)
    have pp163 : ∀ t, Steps p.tables e below (T162.setTop (mkF m 35 #[.val (.int p1), .val (.int (2 : Int32)), .val (.ref z2), .unset, .unset, .unset, .unset, .unset] [(.ref b162)])) t → Steps p.tables e below (s₁.setTop (entryFrame m #[(.int p1)] maxLocals)) t := fun t k => pp161 t (st162 t k)
    have pp164 : ∀ t, Steps p.tables e below (T162.setTop (mkF m 36 #[.val (.int p1), .val (.int (2 : Int32)), .val (.ref z2), .unset, .unset, .unset, .unset, .unset] [(.ref b162), (.ref b162)])) t → Steps p.tables e below (s₁.setTop (entryFrame m #[(.int p1)] maxLocals)) t := fun t k => pp163 t (by
      refine XS.dup X162.here hx rfl (hb hby at_35) rfl rfl ?_
      show Steps p.tables e below (T162.setTop (mkF m 36 #[.val (.int p1), .val (.int (2 : Int32)), .val (.ref z2), .unset, .unset, .unset, .unset, .unset] [(.ref b162), (.ref b162)])) _
      exact k)
    obtain ⟨c165, T165, h165, kk165, X165, e165, E165, Si165, ke165, hZ165, ho165, st165⟩ := ldcS (s := s) (vm0 := s.vm) X162 hx hZ hown (hw _ (List.mem_of_getElem? (i := 7) rfl)) (own_wS hw) e162 ((State.WarmedH.refl s).since 0) (Nat.zero_le _) (g := (mkF m 36 #[.val (.int p1), .val (.int (2 : Int32)), .val (.ref z2), .unset, .unset, .unset, .unset, .unset] [(.ref b162), (.ref b162)])) rfl (hb hby at_36) (n := 4) (by decide) (by decide) (by decide) (by decide)
    have hZ := hZ165
    have hown := ho165
    have pp166 : ∀ t, Steps p.tables e below (T165.setTop (mkF m 38 #[.val (.int p1), .val (.int (2 : Int32)), .val (.ref z2), .unset, .unset, .unset, .unset, .unset] [(.ref c165), (.ref b162), (.ref b162)])) t → Steps p.tables e below (s₁.setTop (entryFrame m #[(.int p1)] maxLocals)) t := fun t k => pp164 t (st165 t k)
    obtain ⟨c167, T167, h167, kk167, X167, e167, E167, Si167, ke167, hZ167, ho167, st167⟩ := ldcS (s := s) (vm0 := T165.vm) X165 hx hZ hown (hw _ (List.mem_of_getElem? (i := 15) rfl)) (own_wS hw) e165 Si165 ke165 (g := (mkF m 38 #[.val (.int p1), .val (.int (2 : Int32)), .val (.ref z2), .unset, .unset, .unset, .unset, .unset] [(.ref c165), (.ref b162), (.ref b162)])) rfl (hb hby at_38) (n := 4) (by decide) (by decide) (by decide) (by decide)
    have hZ := hZ167
    have hown := ho167
    have pp168 : ∀ t, Steps p.tables e below (T167.setTop (mkF m 40 #[.val (.int p1), .val (.int (2 : Int32)), .val (.ref z2), .unset, .unset, .unset, .unset, .unset] [(.ref c167), (.ref c165), (.ref b162), (.ref b162)])) t → Steps p.tables e below (s₁.setTop (entryFrame m #[(.int p1)] maxLocals)) t := fun t k => pp166 t (st167 t k)
    have pp169 : ∀ t, Steps p.tables e below (T167.setTop (mkF m 43 #[.val (.int p1), .val (.int (2 : Int32)), .val (.ref z2), .unset, .unset, .unset, .unset, .unset] [.null, (.int (0 : Int32)), (.int (0 : Int32)), (.ref c167), (.ref c165), (.ref b162), (.ref b162)])) t → Steps p.tables e below (s₁.setTop (entryFrame m #[(.int p1)] maxLocals)) t := fun t k => pp168 t (by
      refine XS.iconst X167.here hx rfl (hb hby at_40) ?_
      show Steps p.tables e below (T167.setTop (mkF m 41 #[.val (.int p1), .val (.int (2 : Int32)), .val (.ref z2), .unset, .unset, .unset, .unset, .unset] [(.int (0 : Int32)), (.ref c167), (.ref c165), (.ref b162), (.ref b162)])) _
      refine XS.iconst X167.here hx rfl (hb hby at_41) ?_
      show Steps p.tables e below (T167.setTop (mkF m 42 #[.val (.int p1), .val (.int (2 : Int32)), .val (.ref z2), .unset, .unset, .unset, .unset, .unset] [(.int (0 : Int32)), (.int (0 : Int32)), (.ref c167), (.ref c165), (.ref b162), (.ref b162)])) _
      refine XS.aconstNull X167.here hx rfl (hb hby at_42) ?_
      show Steps p.tables e below (T167.setTop (mkF m 43 #[.val (.int p1), .val (.int (2 : Int32)), .val (.ref z2), .unset, .unset, .unset, .unset, .unset] [.null, (.int (0 : Int32)), (.int (0 : Int32)), (.ref c167), (.ref c165), (.ref b162), (.ref b162)])) _
      exact k)
    obtain ⟨_, _, ⟨T170, L170, k170, n170⟩, -, X170, ⟨Lc170, hQ170, l170, y170, z170⟩, st170⟩ := X167.specialBack hx (y := (⟨"com/example/hallinta/hallinta/yang/schema/LeafSchema", "<init>", "(Ljava/lang/String;Ljava/lang/String;ZZLcom/example/hallinta/hallinta/yang/type/YangType;)V"⟩ : MethodName)) rfl hown (mvT hZ (hw _ (List.mem_of_getElem? (i := 16) rfl))) (mvT hZ (hw _ (List.mem_of_getElem? (i := 17) rfl))) (mvT hZ (hw _ (List.mem_of_getElem? (i := 18) rfl))) (by decide) (backOf (W := 1) (own_ls5 l Z a0 hw [] b162 c165 c167 (0 : Int32) (0 : Int32) .null .null (.int (0 : Int32)) (.int (0 : Int32)) .null .null .null .null el h167 n0 (Nat.le_trans (Nat.le_trans (Nat.le_trans Z0 E162.1) E165.1) E167.1) ((A162.ext E165).ext E167) ((F_module_b162.ext E165).ext E167) ((F_name_b162.ext E165).ext E167) ((F_config_b162.ext E165).ext E167) ((F_mandatory_b162.ext E165).ext E167) ((F_type_b162.ext E165).ext E167) ((F_defaults_b162.ext E165).ext E167) ((F_whens_b162.ext E165).ext E167) ((F_musts_b162.ext E165).ext E167) g_b162 (((E1.ext E162).ext E165).ext E167) (((F1.ext E162).ext E165).ext E167) (((S9.ext E162).ext E165).ext E167)) hZ (hw _ (List.mem_of_getElem? (i := 18) rfl)) (hw _ (List.mem_of_getElem? (i := 6) rfl)) (by decide) (by decide)) (g := (mkF m 43 #[.val (.int p1), .val (.int (2 : Int32)), .val (.ref z2), .unset, .unset, .unset, .unset, .unset] [.null, (.int (0 : Int32)), (.int (0 : Int32)), (.ref c167), (.ref c165), (.ref b162), (.ref b162)])) rfl (by rw [hml]; rfl) (Steps.refl _) (a := b162) (argsL := [(.ref c165), (.ref c167), (.int (0 : Int32)), (.int (0 : Int32)), .null]) (rest := [(.ref b162)]) (lenOf pd__Ljava_lang_String_Ljava_lang_String_ZZLcom_example_hallinta_hallinta_yang_type_YangType__V rfl) rfl (by show 2 * 0 + _ ≤ _; exact Nat.le_of_eq rfl) (hb hby at_43) (fun _ _ => ⟨rfl, e167, (by decide : 5 + 0 ≤ _), (by decide : 24 + 0 ≤ _)⟩)
    dsimp only [Pt.U, Pt.locs, Pt.cells, Pt.slots] at X170 l170 y170 z170 st170 hQ170
    subst l170 y170 z170
    obtain ⟨rfl, N170q, K170, EE170, Fc170, Ft170⟩ := hQ170
    have N170 := Fr.app N0 N170q
    have pp171 : ∀ t, Steps p.tables e below (T170.setTop (mkF m 46 #[.val (.int p1), .val (.int (2 : Int32)), .val (.ref z2), .unset, .unset, .unset, .unset, .unset] [(.ref b162)])) t → Steps p.tables e below (s₁.setTop (entryFrame m #[(.int p1)] maxLocals)) t := fun t k => pp169 t (st170.trans k)
    have pp172 : ∀ t, Steps p.tables e below (T170.setTop (mkF m 47 #[.val (.int p1), .val (.int (2 : Int32)), .val (.ref z2), .val (.ref b162), .unset, .unset, .unset, .unset] [])) t → Steps p.tables e below (s₁.setTop (entryFrame m #[(.int p1)] maxLocals)) t := fun t k => pp171 t (by
      refine XS.astoreN X170.here hx rfl (hb hby at_46) rfl rfl (l' := #[.val (.int p1), .val (.int (2 : Int32)), .val (.ref z2), .val (.ref b162), .unset, .unset, .unset, .unset]) rfl ?_
      show Steps p.tables e below (T170.setTop (mkF m 47 #[.val (.int p1), .val (.int (2 : Int32)), .val (.ref z2), .val (.ref b162), .unset, .unset, .unset, .unset] [])) _
      exact k)
    obtain ⟨T173, h173, X173, e173, E173, A173, D173, M173, st173⟩ := newO X170 hx hZ hown (hw _ (List.mem_of_getElem? (i := 70) rfl)) (hw _ (List.mem_of_getElem? (i := 71) rfl)) (hw _ (List.mem_of_getElem? (i := 72) rfl)) rfl (g := (mkF m 47 #[.val (.int p1), .val (.int (2 : Int32)), .val (.ref z2), .val (.ref b162), .unset, .unset, .unset, .unset] [])) rfl (hb hby at_47) (by decide) (by decide)
    obtain ⟨b173, g173⟩ : ∃ z, z = T170.heap.size := ⟨_, rfl⟩
    rw [← g173] at A173 D173 M173 st173
    have g_b173 : n0 ≤ b173 := Nat.le_trans (Nat.le_trans (Nat.le_trans (Nat.le_trans (Nat.le_trans Z0 E162.1) E165.1) E167.1) K170.1) (Nat.le_of_eq g173.symm)
    have sz_b173 : h0.size ≤ b173 := Nat.le_trans (((((Keep.refl h0 []).ext E162).ext E165).ext E167).trans K170 (fun x hx => by cases List.mem_singleton.mp hx; exact Or.inr sz_b162)).1 (Nat.le_of_eq g173.symm)
    have F_schema_b173 : Fld Z h173 b173 "com/example/hallinta/hallinta/datastore/LeafNode" "schema" "Lcom/example/hallinta/hallinta/yang/schema/TypedSchema;" .null := D173 (Or.inr (hw _ (List.mem_of_getElem? (i := 90) rfl))) (ty := (.object "com/example/hallinta/hallinta/yang/schema/TypedSchema")) (by decide)
    have F_value_b173 : Fld Z h173 b173 "com/example/hallinta/hallinta/datastore/LeafNode" "value" "Ljava/lang/Object;" .null := D173 (Or.inr (hw _ (List.mem_of_getElem? (i := 92) rfl))) (ty := (.object "java/lang/Object")) (by decide)
    have F_type_b173 : Fld Z h173 b173 "com/example/hallinta/hallinta/datastore/LeafNode" "type" "Lcom/example/hallinta/hallinta/yang/type/YangType;" .null := D173 (Or.inr (hw _ (List.mem_of_getElem? (i := 94) rfl))) (ty := (.object "com/example/hallinta/hallinta/yang/type/YangType")) (by decide)
    have pp174 : ∀ t, Steps p.tables e below (T173.setTop (mkF m 50 #[.val (.int p1), .val (.int (2 : Int32)), .val (.ref z2), .val (.ref b162), .unset, .unset, .unset, .unset] [(.ref b173)])) t → Steps p.tables e below (s₁.setTop (entryFrame m #[(.int p1)] maxLocals)) t := fun t k => pp172 t (st173 t k)
    have pp175 : ∀ t, Steps p.tables e below (T173.setTop (mkF m 53 #[.val (.int p1), .val (.int (2 : Int32)), .val (.ref z2), .val (.ref b162), .unset, .unset, .unset, .unset] [.null, (.ref b162), (.ref b173), (.ref b173)])) t → Steps p.tables e below (s₁.setTop (entryFrame m #[(.int p1)] maxLocals)) t := fun t k => pp174 t (by
      refine XS.dup X173.here hx rfl (hb hby at_50) rfl rfl ?_
      show Steps p.tables e below (T173.setTop (mkF m 51 #[.val (.int p1), .val (.int (2 : Int32)), .val (.ref z2), .val (.ref b162), .unset, .unset, .unset, .unset] [(.ref b173), (.ref b173)])) _
      refine XS.aloadN X173.here hx rfl (hb hby at_51) rfl rfl ?_
      show Steps p.tables e below (T173.setTop (mkF m 52 #[.val (.int p1), .val (.int (2 : Int32)), .val (.ref z2), .val (.ref b162), .unset, .unset, .unset, .unset] [(.ref b162), (.ref b173), (.ref b173)])) _
      refine XS.aconstNull X173.here hx rfl (hb hby at_52) ?_
      show Steps p.tables e below (T173.setTop (mkF m 53 #[.val (.int p1), .val (.int (2 : Int32)), .val (.ref z2), .val (.ref b162), .unset, .unset, .unset, .unset] [.null, (.ref b162), (.ref b173), (.ref b173)])) _
      exact k)
    obtain ⟨_, _, ⟨T176, L176, k176, n176⟩, -, X176, ⟨Lc176, hQ176, l176, y176, z176⟩, st176⟩ := X173.specialBack hx (y := (⟨"com/example/hallinta/hallinta/datastore/LeafNode", "<init>", "(Lcom/example/hallinta/hallinta/yang/schema/TypedSchema;Ljava/lang/Object;)V"⟩ : MethodName)) rfl hown (mvT hZ (hw _ (List.mem_of_getElem? (i := 73) rfl))) (mvT hZ (hw _ (List.mem_of_getElem? (i := 74) rfl))) (mvT hZ (hw _ (List.mem_of_getElem? (i := 75) rfl))) (by decide) (backOf (W := 1) (own_ln2 l Z a0 hw [] b173 b162 .null .null .null h173 n0 (Nat.le_trans (Nat.le_trans (Nat.le_trans (Nat.le_trans (Nat.le_trans Z0 E162.1) E165.1) E167.1) K170.1) E173.1) A173 F_schema_b173 F_value_b173 F_type_b173 g_b173 ((((A162.ext E165).ext E167).keep K170).ext E173) (Ft170.ext E173)) hZ (hw _ (List.mem_of_getElem? (i := 75) rfl)) (hw _ (List.mem_of_getElem? (i := 72) rfl)) (by decide) (by decide)) (g := (mkF m 53 #[.val (.int p1), .val (.int (2 : Int32)), .val (.ref z2), .val (.ref b162), .unset, .unset, .unset, .unset] [.null, (.ref b162), (.ref b173), (.ref b173)])) rfl (by rw [hml]; rfl) (Steps.refl _) (a := b173) (argsL := [(.ref b162), .null]) (rest := [(.ref b173)]) (lenOf pd__Lcom_example_hallinta_hallinta_yang_schema_TypedSchema_Ljava_lang_Object__V rfl) rfl (by show 2 * 0 + _ ≤ _; exact Nat.le_of_eq rfl) (hb hby at_53) (fun _ _ => ⟨rfl, e173, (by decide : 6 + 0 ≤ _), (by decide : 28 + 0 ≤ _)⟩)
    dsimp only [Pt.U, Pt.locs, Pt.cells, Pt.slots] at X176 l176 y176 z176 st176 hQ176
    subst l176 y176 z176
    obtain ⟨rfl, N176q, K176, EE176, Fs176⟩ := hQ176
    have N176 := Fr.app N170 N176q
    have pp177 : ∀ t, Steps p.tables e below (T176.setTop (mkF m 56 #[.val (.int p1), .val (.int (2 : Int32)), .val (.ref z2), .val (.ref b162), .unset, .unset, .unset, .unset] [(.ref b173)])) t → Steps p.tables e below (s₁.setTop (entryFrame m #[(.int p1)] maxLocals)) t := fun t k => pp175 t (st176.trans k)
    have pp178 : ∀ t, Steps p.tables e below (T176.setTop (mkF m 59 #[.val (.int p1), .val (.int (2 : Int32)), .val (.ref z2), .val (.ref b162), .val (.ref b173), .unset, .unset, .unset] [(.ref z2)])) t → Steps p.tables e below (s₁.setTop (entryFrame m #[(.int p1)] maxLocals)) t := fun t k => pp177 t (by
      refine XS.astore X176.here hx rfl (hb hby at_56) rfl rfl (l' := #[.val (.int p1), .val (.int (2 : Int32)), .val (.ref z2), .val (.ref b162), .val (.ref b173), .unset, .unset, .unset]) rfl ?_
      show Steps p.tables e below (T176.setTop (mkF m 58 #[.val (.int p1), .val (.int (2 : Int32)), .val (.ref z2), .val (.ref b162), .val (.ref b173), .unset, .unset, .unset] [])) _
      refine XS.aloadN X176.here hx rfl (hb hby at_58) rfl rfl ?_
      show Steps p.tables e below (T176.setTop (mkF m 59 #[.val (.int p1), .val (.int (2 : Int32)), .val (.ref z2), .val (.ref b162), .val (.ref b173), .unset, .unset, .unset] [(.ref z2)])) _
      exact k)
    obtain ⟨cq179, kq179, q179a, q179b, q179c⟩ := isOf hZ rfl ((((((C2.ext E162).ext E165).ext E167).keep K170).ext E173).keep K176)
    obtain ⟨_, _, ⟨T179, L179, k179, n179⟩, -, X179, ⟨Lc179, hQ179, l179, y179, z179⟩, st179⟩ := X176.virtualBack hx (y := (⟨"com/example/hallinta/hallinta/datastore/Content", "selectsState", "()Z"⟩ : MethodName)) (z := (⟨"com/example/hallinta/hallinta/datastore/Content", "selectsState", "()Z"⟩ : MethodName)) hown (mvT hZ (hw _ (List.mem_of_getElem? (i := 95) rfl))) (mvT hZ (hw _ (List.mem_of_getElem? (i := 96) rfl))) (notFace_of_selects (args := #[]) (mvT hZ (hw _ (List.mem_of_getElem? (i := 98) rfl)))) (mvT hZ (hw _ (List.mem_of_getElem? (i := 98) rfl))) (mvT hZ (hw _ (List.mem_of_getElem? (i := 97) rfl))) (by decide) (backOf (W := 0) (own_selst l Z a0 hw [] z2 z0 T176.heap n0 (Nat.le_trans (Nat.le_trans (Nat.le_trans (Nat.le_trans (Nat.le_trans (Nat.le_trans Z0 E162.1) E165.1) E167.1) K170.1) E173.1) K176.1) (S0.ext (own_ext (((((((Keep.refl h0 []).ext E162).ext E165).ext E167).trans K170 (fun x hx => by cases List.mem_singleton.mp hx; exact Or.inr sz_b162)).ext E173).trans K176 (fun x hx => by cases List.mem_singleton.mp hx; exact Or.inr sz_b173))))) hZ (hw _ (List.mem_of_getElem? (i := 99) rfl)) (hw _ (List.mem_of_getElem? (i := 2) rfl)) (by decide) (by decide)) q179a q179c (g := (mkF m 59 #[.val (.int p1), .val (.int (2 : Int32)), .val (.ref z2), .val (.ref b162), .val (.ref b173), .unset, .unset, .unset] [(.ref z2)])) rfl (by rw [hml]; rfl) (Steps.refl _) (argsL := []) (rest := []) (lenOf pd___Z rfl) rfl (by show 2 * 0 + _ ≤ _; exact Nat.le_of_eq rfl) (hb hby at_59) (fun _ _ => ⟨rfl, rfl, (by decide : 6 + 0 ≤ _), (by decide : 28 + 0 ≤ _)⟩)
    dsimp only [Pt.U, Pt.locs, Pt.cells, Pt.slots] at X179 l179 y179 z179 st179 hQ179
    subst l179 y179 z179
    obtain ⟨rfl, N179q, s179⟩ := hQ179
    have N179 := Fr.app N176 N179q
    have pp180 : ∀ t, Steps p.tables e below (T179.setTop (mkF m 62 #[.val (.int p1), .val (.int (2 : Int32)), .val (.ref z2), .val (.ref b162), .val (.ref b173), .unset, .unset, .unset] [(.int (own_ss z2 z0))])) t → Steps p.tables e below (s₁.setTop (entryFrame m #[(.int p1)] maxLocals)) t := fun t k => pp178 t (st179.trans k)
    rw [show own_ss z2 z0 = (1 : Int32) from if_neg ne2_0] at pp180
    have pp181 : ∀ t, Steps p.tables e below (T179.setTop (mkF m 91 #[.val (.int p1), .val (.int (2 : Int32)), .val (.ref z2), .val (.ref b162), .val (.ref b173), .val (.int (1 : Int32)), .val (.int (1 : Int32)), .unset] [(.ref b173), (.ref z2)])) t → Steps p.tables e below (s₁.setTop (entryFrame m #[(.int p1)] maxLocals)) t := fun t k => pp180 t (by
      refine XS.istore X179.here hx rfl (hb hby at_62) rfl (l' := #[.val (.int p1), .val (.int (2 : Int32)), .val (.ref z2), .val (.ref b162), .val (.ref b173), .val (.int (1 : Int32)), .unset, .unset]) rfl ?_
      show Steps p.tables e below (T179.setTop (mkF m 64 #[.val (.int p1), .val (.int (2 : Int32)), .val (.ref z2), .val (.ref b162), .val (.ref b173), .val (.int (1 : Int32)), .unset, .unset] [])) _
      refine XS.iloadN X179.here hx rfl (hb hby at_64) rfl ?_
      show Steps p.tables e below (T179.setTop (mkF m 65 #[.val (.int p1), .val (.int (2 : Int32)), .val (.ref z2), .val (.ref b162), .val (.ref b173), .val (.int (1 : Int32)), .unset, .unset] [(.int (2 : Int32))])) _
      refine XS.ifYes X179.here hx rfl (pc0 := 65) (pc' := 74) rfl (hb hby at_65) rfl ((if0 _ _).trans (feq (by decide : ¬ ((2 : Int32) = (0 : Int32)))).2) (by decide) (by decide) ?_
      show Steps p.tables e below (T179.setTop (mkF m 74 #[.val (.int p1), .val (.int (2 : Int32)), .val (.ref z2), .val (.ref b162), .val (.ref b173), .val (.int (1 : Int32)), .unset, .unset] [])) _
      refine XS.iloadN X179.here hx rfl (hb hby at_74) rfl ?_
      show Steps p.tables e below (T179.setTop (mkF m 75 #[.val (.int p1), .val (.int (2 : Int32)), .val (.ref z2), .val (.ref b162), .val (.ref b173), .val (.int (1 : Int32)), .unset, .unset] [(.int (2 : Int32))])) _
      refine XS.iconst X179.here hx rfl (hb hby at_75) ?_
      show Steps p.tables e below (T179.setTop (mkF m 76 #[.val (.int p1), .val (.int (2 : Int32)), .val (.ref z2), .val (.ref b162), .val (.ref b173), .val (.int (1 : Int32)), .unset, .unset] [(.int (1 : Int32)), (.int (2 : Int32))])) _
      refine XS.icmpYes X179.here hx rfl (pc0 := 76) (pc' := 85) rfl (hb hby at_76) rfl (feq (by decide : ¬ ((2 : Int32) = (1 : Int32)))).2 (by decide) (by decide) ?_
      show Steps p.tables e below (T179.setTop (mkF m 85 #[.val (.int p1), .val (.int (2 : Int32)), .val (.ref z2), .val (.ref b162), .val (.ref b173), .val (.int (1 : Int32)), .unset, .unset] [])) _
      refine XS.iconst X179.here hx rfl (hb hby at_85) ?_
      show Steps p.tables e below (T179.setTop (mkF m 86 #[.val (.int p1), .val (.int (2 : Int32)), .val (.ref z2), .val (.ref b162), .val (.ref b173), .val (.int (1 : Int32)), .unset, .unset] [(.int (1 : Int32))])) _
      refine XS.istore X179.here hx rfl (hb hby at_86) rfl (l' := #[.val (.int p1), .val (.int (2 : Int32)), .val (.ref z2), .val (.ref b162), .val (.ref b173), .val (.int (1 : Int32)), .val (.int (1 : Int32)), .unset]) rfl ?_
      show Steps p.tables e below (T179.setTop (mkF m 88 #[.val (.int p1), .val (.int (2 : Int32)), .val (.ref z2), .val (.ref b162), .val (.ref b173), .val (.int (1 : Int32)), .val (.int (1 : Int32)), .unset] [])) _
      refine XS.aloadN X179.here hx rfl (hb hby at_88) rfl rfl ?_
      show Steps p.tables e below (T179.setTop (mkF m 89 #[.val (.int p1), .val (.int (2 : Int32)), .val (.ref z2), .val (.ref b162), .val (.ref b173), .val (.int (1 : Int32)), .val (.int (1 : Int32)), .unset] [(.ref z2)])) _
      refine XS.aload X179.here hx rfl (hb hby at_89) rfl rfl ?_
      show Steps p.tables e below (T179.setTop (mkF m 91 #[.val (.int p1), .val (.int (2 : Int32)), .val (.ref z2), .val (.ref b162), .val (.ref b173), .val (.int (1 : Int32)), .val (.int (1 : Int32)), .unset] [(.ref b173), (.ref z2)])) _
      exact k)
    obtain ⟨Lg182, X182, N182⟩ : ∃ Lg, Stand p l e room_1 (s.setVm T167.vm) m #[(.int p1)] below meth c T179 Lg 6 28 ∧ Fr n0 Lg := ⟨_, X179, N179⟩
    obtain ⟨cq183, kq183, q183a, q183b, q183c⟩ := isOf hZ s179 ((((((C2.ext E162).ext E165).ext E167).keep K170).ext E173).keep K176)
    obtain ⟨_, _, ⟨T183, L183, k183, n183⟩, -, X183, ⟨Lc183, hQ183, l183, y183, z183⟩, st183⟩ := X182.virtualBack hx (y := (⟨"com/example/hallinta/hallinta/datastore/Content", "selects", "(Lcom/example/hallinta/hallinta/datastore/DataNode;)Z"⟩ : MethodName)) (z := (⟨"com/example/hallinta/hallinta/datastore/Content", "selects", "(Lcom/example/hallinta/hallinta/datastore/DataNode;)Z"⟩ : MethodName)) hown (mvT hZ (hw _ (List.mem_of_getElem? (i := 101) rfl))) (mvT hZ (hw _ (List.mem_of_getElem? (i := 102) rfl))) (notFace_of_selects (args := #[]) (mvT hZ (hw _ (List.mem_of_getElem? (i := 104) rfl)))) (mvT hZ (hw _ (List.mem_of_getElem? (i := 104) rfl))) (mvT hZ (hw _ (List.mem_of_getElem? (i := 103) rfl))) (by decide) (backOf (W := 0) (own_sel2 l Z a0 hw [] z2 b173 b162 T176.heap n0 (Nat.le_trans (Nat.le_trans (Nat.le_trans (Nat.le_trans (Nat.le_trans (Nat.le_trans Z0 E162.1) E165.1) E167.1) K170.1) E173.1) K176.1) ((((((C2.ext E162).ext E165).ext E167).keep K170).ext E173).keep K176) ((((((O2.ext E162).ext E165).ext E167).keep K170 (fun q => (Nat.ne_of_lt (Nat.lt_of_lt_of_le C2.lt (Nat.le_of_eq g162.symm))) (List.mem_singleton.mp q))).ext E173).keep K176 (fun q => (Nat.ne_of_lt (Nat.lt_of_lt_of_le ((((C2.ext E162).ext E165).ext E167).keep K170).lt (Nat.le_of_eq g173.symm))) (List.mem_singleton.mp q))) (A173.keep K176) Fs176 (((((A162.ext E165).ext E167).keep K170).ext E173).keep K176) ((Fc170.ext E173).keep K176 (fun q => (Nat.ne_of_lt (Nat.lt_of_lt_of_le (((A162.ext E165).ext E167).keep K170).lt (Nat.le_of_eq g173.symm))) (List.mem_singleton.mp q)))) hZ (hw _ (List.mem_of_getElem? (i := 105) rfl)) (hw _ (List.mem_of_getElem? (i := 2) rfl)) (by decide) (by decide)) q183a q183c (g := (mkF m 91 #[.val (.int p1), .val (.int (2 : Int32)), .val (.ref z2), .val (.ref b162), .val (.ref b173), .val (.int (1 : Int32)), .val (.int (1 : Int32)), .unset] [(.ref b173), (.ref z2)])) rfl (by rw [hml]; rfl) (Steps.refl _) (argsL := [(.ref b173)]) (rest := []) (lenOf pd__Lcom_example_hallinta_hallinta_datastore_DataNode__Z rfl) rfl (by show 2 * 0 + _ ≤ _; exact Nat.le_of_eq rfl) (hb hby at_91) (fun _ _ => ⟨rfl, s179, (by decide : 6 + 0 ≤ _), (by decide : 28 + 0 ≤ _)⟩)
    dsimp only [Pt.U, Pt.locs, Pt.cells, Pt.slots] at X183 l183 y183 z183 st183 hQ183
    subst l183 y183 z183
    obtain ⟨rfl, N183q, s183⟩ := hQ183
    have N183 := Fr.app N182 N183q
    have pp184 : ∀ t, Steps p.tables e below (T183.setTop (mkF m 94 #[.val (.int p1), .val (.int (2 : Int32)), .val (.ref z2), .val (.ref b162), .val (.ref b173), .val (.int (1 : Int32)), .val (.int (1 : Int32)), .unset] [(.int (1 : Int32))])) t → Steps p.tables e below (s₁.setTop (entryFrame m #[(.int p1)] maxLocals)) t := fun t k => pp181 t (st183.trans k)
    have pp185 : ∀ t, Steps p.tables e below (T183.setTop (mkF m 115 #[.val (.int p1), .val (.int (2 : Int32)), .val (.ref z2), .val (.ref b162), .val (.ref b173), .val (.int (1 : Int32)), .val (.int (1 : Int32)), .val (.int (1 : Int32))] [(.int (1 : Int32))])) t → Steps p.tables e below (s₁.setTop (entryFrame m #[(.int p1)] maxLocals)) t := fun t k => pp184 t (by
      refine XS.istore X183.here hx rfl (hb hby at_94) rfl (l' := #[.val (.int p1), .val (.int (2 : Int32)), .val (.ref z2), .val (.ref b162), .val (.ref b173), .val (.int (1 : Int32)), .val (.int (1 : Int32)), .val (.int (1 : Int32))]) rfl ?_
      show Steps p.tables e below (T183.setTop (mkF m 96 #[.val (.int p1), .val (.int (2 : Int32)), .val (.ref z2), .val (.ref b162), .val (.ref b173), .val (.int (1 : Int32)), .val (.int (1 : Int32)), .val (.int (1 : Int32))] [])) _
      refine XS.iload X183.here hx rfl (hb hby at_96) rfl ?_
      show Steps p.tables e below (T183.setTop (mkF m 98 #[.val (.int p1), .val (.int (2 : Int32)), .val (.ref z2), .val (.ref b162), .val (.ref b173), .val (.int (1 : Int32)), .val (.int (1 : Int32)), .val (.int (1 : Int32))] [(.int (1 : Int32))])) _
      refine XS.iload X183.here hx rfl (hb hby at_98) rfl ?_
      show Steps p.tables e below (T183.setTop (mkF m 100 #[.val (.int p1), .val (.int (2 : Int32)), .val (.ref z2), .val (.ref b162), .val (.ref b173), .val (.int (1 : Int32)), .val (.int (1 : Int32)), .val (.int (1 : Int32))] [(.int (1 : Int32)), (.int (1 : Int32))])) _
      refine XS.icmpNo X183.here hx rfl (hb hby at_100) rfl (teq (by decide : (1 : Int32) = (1 : Int32))).2 ?_
      show Steps p.tables e below (T183.setTop (mkF m 103 #[.val (.int p1), .val (.int (2 : Int32)), .val (.ref z2), .val (.ref b162), .val (.ref b173), .val (.int (1 : Int32)), .val (.int (1 : Int32)), .val (.int (1 : Int32))] [])) _
      refine XS.iload X183.here hx rfl (hb hby at_103) rfl ?_
      show Steps p.tables e below (T183.setTop (mkF m 105 #[.val (.int p1), .val (.int (2 : Int32)), .val (.ref z2), .val (.ref b162), .val (.ref b173), .val (.int (1 : Int32)), .val (.int (1 : Int32)), .val (.int (1 : Int32))] [(.int (1 : Int32))])) _
      refine XS.iload X183.here hx rfl (hb hby at_105) rfl ?_
      show Steps p.tables e below (T183.setTop (mkF m 107 #[.val (.int p1), .val (.int (2 : Int32)), .val (.ref z2), .val (.ref b162), .val (.ref b173), .val (.int (1 : Int32)), .val (.int (1 : Int32)), .val (.int (1 : Int32))] [(.int (1 : Int32)), (.int (1 : Int32))])) _
      refine XS.icmpNo X183.here hx rfl (hb hby at_107) rfl (teq (by decide : (1 : Int32) = (1 : Int32))).2 ?_
      show Steps p.tables e below (T183.setTop (mkF m 110 #[.val (.int p1), .val (.int (2 : Int32)), .val (.ref z2), .val (.ref b162), .val (.ref b173), .val (.int (1 : Int32)), .val (.int (1 : Int32)), .val (.int (1 : Int32))] [])) _
      refine XS.iconst X183.here hx rfl (hb hby at_110) ?_
      show Steps p.tables e below (T183.setTop (mkF m 111 #[.val (.int p1), .val (.int (2 : Int32)), .val (.ref z2), .val (.ref b162), .val (.ref b173), .val (.int (1 : Int32)), .val (.int (1 : Int32)), .val (.int (1 : Int32))] [(.int (1 : Int32))])) _
      refine XS.goto X183.here hx rfl (pc0 := 111) (pc' := 115) rfl (hb hby at_111) (by decide) (by decide) ?_
      show Steps p.tables e below (T183.setTop (mkF m 115 #[.val (.int p1), .val (.int (2 : Int32)), .val (.ref z2), .val (.ref b162), .val (.ref b173), .val (.int (1 : Int32)), .val (.int (1 : Int32)), .val (.int (1 : Int32))] [(.int (1 : Int32))])) _
      exact k)
    obtain ⟨fs, hr, hrun, hended, hE1, hE2, hE3, hE4⟩ := X183.leaveW Si167 (by show _ ≤ T183.heap.size; rw [s183]; exact (Nat.le_trans (Nat.le_trans (Nat.le_trans ke167 K170.1) E173.1) K176.1)) (v := some (.int (1 : Int32))) (fun h => by rw [Bd.returns] at h; cases h)
    refine ⟨_, _, pp185 _ ?_, hrun, hended, _, _, rfl, ?_, hE1, hE2, hE3, hE4.mono (by decide) (by decide)⟩
    · exact retN X183 hx (t := .boolean) Bd.returns (by simp) (hb hby at_115) hr
    · show Q_own_law Z p1 z0 z1 z2 el h0 n0 _ T183.heap _
      rw [s183]
      exact ⟨rfl, N183⟩
set_option maxRecDepth 65536 in
set_option maxHeartbeats 40000000 in
theorem comes_1 {Post : Tables → Env → Array Value → State → Outcome → State → Prop} (hpost : ∀ tb e args s v u, (limb_1_1.after args s (.returned v) u = true ∧ limb_1_2.after args s (.returned v) u = true ∧ True) → ReturnedEndW s (.returned v) u (Jvm.fieldLocs frame_1_writes args s ++ Jvm.arrayLocs frame_1_arrays args s ++ Jvm.staticLocs frame_1_statics s) 16 2176 → Post tb e args s (.returned v) u) :
    ArmFor flags0 classFile x code maxLocals ret World_1 tables_1 room_1 Calls_1 rest_1 Pre_1 Post := by
  intro l hfl _ _ p e ha hc hk s m args below hf hA hF happ hP
  obtain ⟨hcalls, hrest, hpre⟩ := hP
  obtain ⟨-, -, -, hnamed, -, -, -, hat⟩ := (Spec.applies_iff hf).mp happ
  obtain ⟨hg, hn⟩ := and_e (Cond.before_iff.mp (show (Jvm.Cond.and given_1 narrow_1).before args s = true from hpre))
  obtain ⟨gg1, gg2⟩ := and_e hg
  obtain ⟨w0, rfl⟩ : ∃ w0 : Value, args = #[w0] := by
    have hs : args.size = 1 := by simpa [Cond.value, given_1] using gg1
    obtain ⟨L⟩ := args
    match L, hs with
    | [w0], _ => exact ⟨w0, rfl⟩
  have hw := fun d (hd : d ∈ tables_1) => atoms_spec (ws := Jvm.Cond.code x code maxLocals ret :: tables_1) hat d (List.mem_cons_of_mem _ hd)
  have hfit : Fit s := fun {y c} hc i hi => by
    obtain ⟨ha, rfl⟩ := Array.getElem?_eq_some_iff.mp hc
    have q := List.all_eq_true.mp ((Array.all_eq_true_iff_forall_mem.mp hF) _ (Array.getElem_mem ha)) i (List.mem_range.mpr hi)
    simpa [Array.getElem?_eq_getElem hi] using q
  obtain ⟨hsets, hown0⟩ := atoms_of _ (rest_1_c_eq ▸ (show rest_1_c.before _ s = true from hrest))
  have hr0 := Cond.before_iff.mp hown0
  obtain ⟨i0, ei0⟩ := is_v gg2
  obtain rfl : w0 = (.int i0) := Option.some.inj ei0
  obtain ⟨k0, r0⟩ := and_e hn
  obtain ⟨k1, r1⟩ := and_e r0
  obtain ⟨k2, r2⟩ := and_e r1
  obtain ⟨k3, r3⟩ := and_e r2
  obtain ⟨k4, r4⟩ := and_e r3
  obtain ⟨z0, ez0⟩ := exa_v k0
  have S0 := Sta.start ez0 (Or.inr ⟨(hw _ (List.mem_of_getElem? (i := 2) rfl)), (hw _ (List.mem_of_getElem? (i := 3) rfl))⟩)
  have C0 := Exa.start ez0 k0
  have O0 := Fld.start ((fld_at ez0).symm.trans (own_eqint k1))
  obtain ⟨z1, ez1⟩ := exa_v k4
  have S1 := Sta.start ez1 (Or.inr ⟨(hw _ (List.mem_of_getElem? (i := 2) rfl)), (hw _ (List.mem_of_getElem? (i := 136) rfl))⟩)
  have C1 := Exa.start ez1 k4
  have O1 := Fld.start ((fld_at ez1).symm.trans (own_eqint r4))
  obtain ⟨z2, ez2⟩ := exa_v k2
  have S2 := Sta.start ez2 (Or.inr ⟨(hw _ (List.mem_of_getElem? (i := 2) rfl)), (hw _ (List.mem_of_getElem? (i := 134) rfl))⟩)
  have C2 := Exa.start ez2 k2
  have O2 := Fld.start ((fld_at ez2).symm.trans (own_eqint k3))
  obtain ⟨el, eel⟩ := exa_v (Cond.before_iff.mp (hsets _ (List.mem_of_getElem? (i := 2) rfl)))
  have S9 := Sta.start eel (Or.inl (hsets _ (List.mem_of_getElem? (i := 1) rfl)))
  have E9 := Exa.start eel (Cond.before_iff.mp (hsets _ (List.mem_of_getElem? (i := 2) rfl)))
  have F9 := Fld.start ((fld_at eel).symm.trans (own_eqint (Cond.before_iff.mp (hsets _ (List.mem_of_getElem? (i := 6) rfl)))))
  obtain ⟨n, o, h1, h2, h3, _, L, rfl, ⟨rfl, N⟩, hq⟩ := own_law l s _ hw tables_1 i0 z0 z1 z2 el s.heap s.heap.size (Nat.le_refl _) S0 C0 O0 S1 C1 O1 S2 C2 O2 S9 E9 F9 p e ha hc hk s m _ below hf ((Spec.applies_iff_loose hf).mp happ).1 ⟨rfl, State.Warmed39.refl s, rfl⟩ trivial
  refine ⟨n, _, h1, h2, h3, hpost _ _ _ _ _ _ ⟨Cond.after_iff.mpr rfl, Cond.after_iff.mpr (eq_i res_at (Term.int_eval (1)) rfl), trivial⟩ ⟨hq.1, hq.2.1, hq.2.2.1, (hq.2.2.2.sift fun y hy => Or.inr (N y hy)).mono (by decide) (by decide)⟩⟩
theorem main_1_1 : Claimed_1_1 := comes_1 fun _ _ _ _ _ _ h hF => ⟨h.1, hF⟩
theorem main_1_2 : Claimed_1_2 := comes_1 fun _ _ _ _ _ _ h hF => ⟨h.2.1, hF⟩
end Jvm.Pilot.@@N@@
namespace Jvm.Pilot.@@N@@
open Jvm Jvm.ClassFile Sem Op Lib Jvm.Free Jvm.Stand Jvm.Pilot.@@N@@.Jvm.D
/-! MADE BY PROGRAM (witnessworld.py) out of the Statement's table words and the real class files: 33 classes; the members and pool entries that the words name. The judged class is class 1, her method 1. -/
namespace start1
open Jvm.ClassFile
def u (s : String) : CpInfo := .utf8 (stringToUtf16 s)
/-- a pool by its gaps: so many unusable entries, then the entry; so many at the end -/
def gap : Nat → List CpInfo → List CpInfo
  | 0, r => r
  | n + 1, r => .unusable :: gap n r
def poolList (es : List (Nat × CpInfo)) (last : Nat) : List CpInfo := es.foldr (fun e r => gap e.1 (e.2 :: r)) (gap last [])
def pool (es : List (Nat × CpInfo)) (last : Nat) : Array CpInfo := ⟨poolList es last⟩
def fileOf (pool : Array CpInfo) (this : Nat) (attrs : Array Attribute := #[]) (ms : Array MethodInfo := #[]) (fl : Nat := 33) (sup : Nat := 0) (ifs : Array Nat := #[]) (fds : Array FieldInfo := #[]) : ClassFile where
  minorVersion := 0
  majorVersion := 65
  constantPool := pool
  accessFlags := fl
  thisClass := this
  superClass := sup
  interfaces := ifs
  fields := fds
  methods := ms
  attributes := attrs
def plain (name : String) (sup : Option ClassId) : Class where
  name := name
  kind := .ordinary
  loader := none
  accessFlags := 33
  super := sup
  interfaces := #[]
  cf := none
  fields := #[]
  methods := #[]
  instanceTypes := #[]
  staticTypes := #[]
  resolved := #[]
  callSites := []
  init := .initialized
  statics := none
  mirror := none

def pool0 : Array CpInfo := pool [(5, u "<init>"), (0, u "()V"), (1, .class_ 10), (1, u "java/lang/Object")] 113

def k0c0 : Code := { maxStack := 0, maxLocals := 1, code := object_method_1_code, exceptionTable := #[], attributes := #[] }
def k0m0 : Method := { name := "<init>", desc := "()V", sig := { parameters := [], returnType := none }, accessFlags := 1, code := some k0c0 }
/-- java/lang/Object -/
def k0 : Class := { plain "java/lang/Object" none with
  accessFlags := 33
  interfaces := #[]
  cf := some (fileOf pool0 8 #[] #[{ accessFlags := 1, nameIndex := 5, descriptorIndex := 6, attributes := #[] }] 33 0 #[] #[])
  fields := #[]
  methods := #[k0m0]
  instanceTypes := #[]
  staticTypes := #[]
  resolved := Array.replicate 124 none
  statics := none }

def pool1 : Array CpInfo := pool [(2, .class_ 4), (1, u "java/lang/Object"), (0, u "<init>"), (0, u "()V"), (0, .integer 2147483647), (0, .fieldref 9 10), (0, .class_ 11), (0, .nameAndType 12 13), (0, u "com/example/hallinta/hallinta/datastore/Content"), (0, u "CONFIG"), (0, u "Lcom/example/hallinta/hallinta/datastore/Content;"), (0, .fieldref 9 15), (0, .nameAndType 16 13), (0, u "NONCONFIG"), (0, .fieldref 9 18), (0, .nameAndType 19 13), (0, u "ALL"), (0, .class_ 21), (0, u "com/example/hallinta/hallinta/yang/schema/LeafSchema"), (0, .string 23), (0, u "m"), (0, .string 25), (0, u "s"), (0, .methodref 20 27), (0, .nameAndType 5 28), (0, u "(Ljava/lang/String;Ljava/lang/String;ZZLcom/example/hallinta/hallinta/yang/type/YangType;)V"), (0, .class_ 30), (0, u "com/example/hallinta/hallinta/datastore/LeafNode"), (0, .methodref 29 32), (0, .nameAndType 5 33), (0, u "(Lcom/example/hallinta/hallinta/yang/schema/TypedSchema;Ljava/lang/Object;)V"), (0, .methodref 9 35), (0, .nameAndType 36 37), (0, u "selectsState"), (0, u "()Z"), (0, .methodref 9 39), (0, .nameAndType 40 41), (0, u "selects"), (0, u "(Lcom/example/hallinta/hallinta/datastore/DataNode;)Z"), (0, .class_ 43), (0, u "com/example/hallinta/hallinta/datastore/ContentSelectsStatePinLaw"), (2, u "law"), (0, u "(I)Z")] 3

def k1m0 : Method := { name := "<init>", desc := "()V", sig := { parameters := [], returnType := none }, accessFlags := 1, code := none }
def k1c1 : Code := { maxStack := 7, maxLocals := 8, code := code, exceptionTable := #[], attributes := #[] }
def k1m1 : Method := { name := "law", desc := "(I)Z", sig := { parameters := [.int], returnType := some .boolean }, accessFlags := 9, code := some k1c1 }
/-- com/example/hallinta/hallinta/datastore/ContentSelectsStatePinLaw -/
def k1 : Class := { plain "com/example/hallinta/hallinta/datastore/ContentSelectsStatePinLaw" (some 0) with
  accessFlags := 49
  interfaces := #[]
  cf := some (fileOf pool1 42 #[] #[{ accessFlags := 1, nameIndex := 5, descriptorIndex := 6, attributes := #[] }, { accessFlags := 9, nameIndex := 46, descriptorIndex := 47, attributes := #[] }] 49 2 #[] #[])
  fields := #[]
  methods := #[k1m0, k1m1]
  instanceTypes := #[]
  staticTypes := #[]
  resolved := Array.replicate 51 none
  statics := none }

def pool2 : Array CpInfo := pool [(1, .class_ 2), (0, u "java/lang/constant/Constable"), (0, .class_ 4), (0, u "java/lang/Object")] 6

/-- java/lang/constant/Constable -/
def k2 : Class := { plain "java/lang/constant/Constable" (some 0) with
  accessFlags := 1537
  interfaces := #[]
  cf := some (fileOf pool2 1 #[] #[] 1537 3 #[] #[])
  fields := #[]
  methods := #[]
  instanceTypes := #[]
  staticTypes := #[]
  resolved := Array.replicate 11 none
  statics := none }

def pool3 : Array CpInfo := pool [(1, .class_ 2), (0, u "java/lang/Comparable"), (0, .class_ 4), (0, u "java/lang/Object")] 7

/-- java/lang/Comparable -/
def k3 : Class := { plain "java/lang/Comparable" (some 0) with
  accessFlags := 1537
  interfaces := #[]
  cf := some (fileOf pool3 1 #[] #[] 1537 3 #[] #[])
  fields := #[]
  methods := #[]
  instanceTypes := #[]
  staticTypes := #[]
  resolved := Array.replicate 12 none
  statics := none }

def pool4 : Array CpInfo := pool [(1, .class_ 2), (0, u "java/io/Serializable"), (0, .class_ 4), (0, u "java/lang/Object")] 2

/-- java/io/Serializable -/
def k4 : Class := { plain "java/io/Serializable" (some 0) with
  accessFlags := 1537
  interfaces := #[]
  cf := some (fileOf pool4 1 #[] #[] 1537 3 #[] #[])
  fields := #[]
  methods := #[]
  instanceTypes := #[]
  staticTypes := #[]
  resolved := Array.replicate 7 none
  statics := none }

def pool5 : Array CpInfo := pool [(2, .class_ 4), (1, u "java/lang/Enum"), (0, u "name"), (0, u "Ljava/lang/String;"), (0, .fieldref 2 8), (0, .nameAndType 9 10), (0, u "ordinal"), (0, u "I"), (1, .class_ 14), (1, u "java/lang/Object"), (4, u "hash"), (86, .class_ 108), (1, u "java/lang/Enum$EnumDesc"), (2, .class_ 112), (0, u "java/lang/constant/Constable"), (0, .class_ 114), (0, u "java/lang/Comparable"), (0, .class_ 116), (0, u "java/io/Serializable"), (9, u "()I")] 77

def k5c0 : Code := { maxStack := 1, maxLocals := 1, code := jdk_37_method_2_code, exceptionTable := #[], attributes := #[] }
def k5m0 : Method := { name := "ordinal", desc := "()I", sig := { parameters := [], returnType := some .int }, accessFlags := 17, code := some k5c0 }
/-- java/lang/Enum -/
def k5 : Class := { plain "java/lang/Enum" (some 0) with
  accessFlags := 1057
  interfaces := #[2, 3, 4]
  cf := some (fileOf pool5 2 #[.nestMembers #[106]] #[{ accessFlags := 17, nameIndex := 9, descriptorIndex := 126, attributes := #[] }] 1057 12 #[111, 113, 115] #[{ accessFlags := 18, nameIndex := 5, descriptorIndex := 6, attributes := #[] }, { accessFlags := 18, nameIndex := 9, descriptorIndex := 10, attributes := #[] }, { accessFlags := 2, nameIndex := 19, descriptorIndex := 10, attributes := #[] }])
  fields := #[{ name := "name", type := (.object "java/lang/String"), accessFlags := 18, slot := 0, constantValue := 0 }, { name := "ordinal", type := .int, accessFlags := 18, slot := 1, constantValue := 0 }, { name := "hash", type := .int, accessFlags := 2, slot := 2, constantValue := 0 }]
  methods := #[k5m0]
  instanceTypes := #[(.object "java/lang/String"), .int, .int]
  staticTypes := #[]
  resolved := Array.replicate 204 none
  statics := none }

def pool6 : Array CpInfo := pool [(1, .class_ 2), (0, u "com/example/hallinta/hallinta/datastore/Content"), (0, .fieldref 1 4), (0, .nameAndType 5 6), (0, u "CONFIG"), (0, u "Lcom/example/hallinta/hallinta/datastore/Content;"), (2, u "NONCONFIG"), (2, u "ALL"), (2, u "$VALUES"), (0, u "[Lcom/example/hallinta/hallinta/datastore/Content;"), (6, .class_ 25), (1, u "java/lang/Enum"), (6, .methodref 1 33), (0, .nameAndType 34 35), (0, u "ordinal"), (0, u "()I"), (5, .interfaceMethodref 42 43), (0, .class_ 44), (0, .nameAndType 45 46), (0, u "com/example/hallinta/hallinta/datastore/DataNode"), (0, u "node"), (0, u "()Lcom/example/hallinta/hallinta/yang/schema/SchemaNode;"), (0, .interfaceMethodref 48 49), (0, .class_ 50), (0, .nameAndType 51 52), (0, u "com/example/hallinta/hallinta/yang/schema/SchemaNode"), (0, u "config"), (0, u "()Z"), (0, .methodref 1 54), (0, .nameAndType 55 56), (0, u "holdsNonconfig"), (0, u "(Lcom/example/hallinta/hallinta/datastore/DataNode;)Z"), (46, u "selectsState"), (1, u "selects")] 22

def k6c0 : Code := { maxStack := 2, maxLocals := 1, code := prog_14_method_4_code, exceptionTable := #[], attributes := #[] }
def k6m0 : Method := { name := "selectsState", desc := "()Z", sig := { parameters := [], returnType := some .boolean }, accessFlags := 1, code := some k6c0 }
def k6c1 : Code := { maxStack := 4, maxLocals := 2, code := prog_14_method_5_code, exceptionTable := #[], attributes := #[] }
def k6m1 : Method := { name := "selects", desc := "(Lcom/example/hallinta/hallinta/datastore/DataNode;)Z", sig := { parameters := [(.object "com/example/hallinta/hallinta/datastore/DataNode")], returnType := some .boolean }, accessFlags := 0, code := some k6c1 }
def k6c2 : Code := { maxStack := 2, maxLocals := 4, code := prog_14_method_6_code, exceptionTable := #[], attributes := #[] }
def k6m2 : Method := { name := "holdsNonconfig", desc := "(Lcom/example/hallinta/hallinta/datastore/DataNode;)Z", sig := { parameters := [(.object "com/example/hallinta/hallinta/datastore/DataNode")], returnType := some .boolean }, accessFlags := 10, code := some k6c2 }
/-- com/example/hallinta/hallinta/datastore/Content -/
def k6 : Class := { plain "com/example/hallinta/hallinta/datastore/Content" (some 5) with
  accessFlags := 16433
  interfaces := #[]
  cf := some (fileOf pool6 1 #[] #[{ accessFlags := 1, nameIndex := 103, descriptorIndex := 52, attributes := #[] }, { accessFlags := 0, nameIndex := 105, descriptorIndex := 56, attributes := #[] }, { accessFlags := 10, nameIndex := 55, descriptorIndex := 56, attributes := #[] }] 16433 23 #[] #[{ accessFlags := 16409, nameIndex := 5, descriptorIndex := 6, attributes := #[] }, { accessFlags := 16409, nameIndex := 9, descriptorIndex := 6, attributes := #[] }, { accessFlags := 16409, nameIndex := 12, descriptorIndex := 6, attributes := #[] }, { accessFlags := 4122, nameIndex := 15, descriptorIndex := 16, attributes := #[] }])
  fields := #[{ name := "CONFIG", type := (.object "com/example/hallinta/hallinta/datastore/Content"), accessFlags := 16409, slot := 0, constantValue := 0 }, { name := "NONCONFIG", type := (.object "com/example/hallinta/hallinta/datastore/Content"), accessFlags := 16409, slot := 1, constantValue := 0 }, { name := "ALL", type := (.object "com/example/hallinta/hallinta/datastore/Content"), accessFlags := 16409, slot := 2, constantValue := 0 }, { name := "$VALUES", type := (.array (.object "com/example/hallinta/hallinta/datastore/Content")), accessFlags := 4122, slot := 3, constantValue := 0 }]
  methods := #[k6m0, k6m1, k6m2]
  instanceTypes := #[(.object "java/lang/String"), .int, .int]
  staticTypes := #[(.object "com/example/hallinta/hallinta/datastore/Content"), (.object "com/example/hallinta/hallinta/datastore/Content"), (.object "com/example/hallinta/hallinta/datastore/Content"), (.array (.object "com/example/hallinta/hallinta/datastore/Content"))]
  resolved := Array.replicate 128 none
  statics := some 0 }

def pool7 : Array CpInfo := pool [(1, .methodref 2 3), (0, .class_ 4), (0, .nameAndType 5 6), (0, u "java/lang/Object"), (0, u "<init>"), (0, u "()V"), (0, .class_ 8), (0, u "java/lang/Record")] 13

def k7c0 : Code := { maxStack := 1, maxLocals := 1, code := jdk_30_method_1_code, exceptionTable := #[], attributes := #[] }
def k7m0 : Method := { name := "<init>", desc := "()V", sig := { parameters := [], returnType := none }, accessFlags := 4, code := some k7c0 }
/-- java/lang/Record -/
def k7 : Class := { plain "java/lang/Record" (some 0) with
  accessFlags := 1057
  interfaces := #[]
  cf := some (fileOf pool7 7 #[] #[{ accessFlags := 4, nameIndex := 5, descriptorIndex := 6, attributes := #[] }] 1057 2 #[] #[])
  fields := #[]
  methods := #[k7m0]
  instanceTypes := #[]
  staticTypes := #[]
  resolved := Array.replicate 22 none
  statics := none }

def pool8 : Array CpInfo := pool [(12, u "()Z"), (1, .class_ 16), (1, u "com/example/hallinta/hallinta/yang/schema/SchemaNode"), (9, .class_ 27), (0, u "java/lang/Object"), (0, u "config")] 34

def k8m0 : Method := { name := "config", desc := "()Z", sig := { parameters := [], returnType := some .boolean }, accessFlags := 1025, code := none }
/-- com/example/hallinta/hallinta/yang/schema/SchemaNode -/
def k8 : Class := { plain "com/example/hallinta/hallinta/yang/schema/SchemaNode" (some 0) with
  accessFlags := 1537
  interfaces := #[]
  cf := some (fileOf pool8 14 #[] #[{ accessFlags := 1025, nameIndex := 28, descriptorIndex := 12, attributes := #[] }] 1537 26 #[] #[])
  fields := #[]
  methods := #[k8m0]
  instanceTypes := #[]
  staticTypes := #[]
  resolved := Array.replicate 63 none
  statics := none }

def pool9 : Array CpInfo := pool [(1, .class_ 2), (0, u "com/example/hallinta/hallinta/yang/schema/TypedSchema"), (0, .class_ 4), (0, u "java/lang/Object"), (0, .class_ 6), (0, u "com/example/hallinta/hallinta/yang/schema/SchemaNode"), (0, u "type"), (0, u "()Lcom/example/hallinta/hallinta/yang/type/YangType;")] 9

def k9m0 : Method := { name := "type", desc := "()Lcom/example/hallinta/hallinta/yang/type/YangType;", sig := { parameters := [], returnType := some (.object "com/example/hallinta/hallinta/yang/type/YangType") }, accessFlags := 1025, code := none }
/-- com/example/hallinta/hallinta/yang/schema/TypedSchema -/
def k9 : Class := { plain "com/example/hallinta/hallinta/yang/schema/TypedSchema" (some 0) with
  accessFlags := 1537
  interfaces := #[8]
  cf := some (fileOf pool9 1 #[] #[{ accessFlags := 1025, nameIndex := 7, descriptorIndex := 8, attributes := #[] }] 1537 3 #[5] #[])
  fields := #[]
  methods := #[k9m0]
  instanceTypes := #[]
  staticTypes := #[]
  resolved := Array.replicate 18 none
  statics := none }

def pool10 : Array CpInfo := pool [(1, .methodref 2 3), (0, .class_ 4), (0, .nameAndType 5 6), (0, u "java/lang/Record"), (0, u "<init>"), (0, u "()V"), (0, .interfaceMethodref 8 9), (0, .class_ 10), (0, .nameAndType 11 12), (0, u "java/util/List"), (0, u "copyOf"), (0, u "(Ljava/util/Collection;)Ljava/util/List;"), (0, .fieldref 14 15), (0, .class_ 16), (0, .nameAndType 17 18), (0, u "com/example/hallinta/hallinta/yang/schema/LeafSchema"), (0, u "module"), (0, u "Ljava/lang/String;"), (0, .fieldref 14 20), (0, .nameAndType 21 18), (0, u "name"), (0, .fieldref 14 23), (0, .nameAndType 24 25), (0, u "config"), (0, u "Z"), (0, .fieldref 14 27), (0, .nameAndType 28 25), (0, u "mandatory"), (0, .fieldref 14 30), (0, .nameAndType 31 32), (0, u "type"), (0, u "Lcom/example/hallinta/hallinta/yang/type/YangType;"), (0, .fieldref 14 34), (0, .nameAndType 35 36), (0, u "defaults"), (0, u "Lcom/example/hallinta/hallinta/yang/schema/Default;"), (0, .fieldref 14 38), (0, .nameAndType 39 40), (0, u "whens"), (0, u "Ljava/util/List;"), (0, .fieldref 14 42), (0, .nameAndType 43 40), (0, u "musts"), (0, .interfaceMethodref 8 45), (0, .nameAndType 46 47), (0, u "of"), (0, u "()Ljava/util/List;"), (0, .methodref 14 49), (0, .nameAndType 5 50), (0, u "(Ljava/lang/String;Ljava/lang/String;ZZLcom/example/hallinta/hallinta/yang/type/YangType;Lcom/example/hallinta/hallinta/yang/schema/Default;Ljava/util/List;Ljava/util/List;)V"), (12, .class_ 64), (0, u "com/example/hallinta/hallinta/yang/schema/TypedSchema"), (7, u "(Ljava/lang/String;Ljava/lang/String;ZZLcom/example/hallinta/hallinta/yang/type/YangType;)V"), (3, u "()Z"), (0, u "()Lcom/example/hallinta/hallinta/yang/type/YangType;")] 30

def k10c0 : Code := { maxStack := 2, maxLocals := 9, code := prog_129_method_1_code, exceptionTable := #[], attributes := #[] }
def k10m0 : Method := { name := "<init>", desc := "(Ljava/lang/String;Ljava/lang/String;ZZLcom/example/hallinta/hallinta/yang/type/YangType;Lcom/example/hallinta/hallinta/yang/schema/Default;Ljava/util/List;Ljava/util/List;)V", sig := { parameters := [(.object "java/lang/String"), (.object "java/lang/String"), .boolean, .boolean, (.object "com/example/hallinta/hallinta/yang/type/YangType"), (.object "com/example/hallinta/hallinta/yang/schema/Default"), (.object "java/util/List"), (.object "java/util/List")], returnType := none }, accessFlags := 1, code := some k10c0 }
def k10c1 : Code := { maxStack := 9, maxLocals := 6, code := prog_129_method_2_code, exceptionTable := #[], attributes := #[] }
def k10m1 : Method := { name := "<init>", desc := "(Ljava/lang/String;Ljava/lang/String;ZZLcom/example/hallinta/hallinta/yang/type/YangType;)V", sig := { parameters := [(.object "java/lang/String"), (.object "java/lang/String"), .boolean, .boolean, (.object "com/example/hallinta/hallinta/yang/type/YangType")], returnType := none }, accessFlags := 1, code := some k10c1 }
def k10c2 : Code := { maxStack := 1, maxLocals := 1, code := prog_129_method_8_code, exceptionTable := #[], attributes := #[] }
def k10m2 : Method := { name := "config", desc := "()Z", sig := { parameters := [], returnType := some .boolean }, accessFlags := 1, code := some k10c2 }
def k10c3 : Code := { maxStack := 1, maxLocals := 1, code := prog_129_method_10_code, exceptionTable := #[], attributes := #[] }
def k10m3 : Method := { name := "type", desc := "()Lcom/example/hallinta/hallinta/yang/type/YangType;", sig := { parameters := [], returnType := some (.object "com/example/hallinta/hallinta/yang/type/YangType") }, accessFlags := 1, code := some k10c3 }
/-- com/example/hallinta/hallinta/yang/schema/LeafSchema -/
def k10 : Class := { plain "com/example/hallinta/hallinta/yang/schema/LeafSchema" (some 7) with
  accessFlags := 49
  interfaces := #[9]
  cf := some (fileOf pool10 14 #[] #[{ accessFlags := 1, nameIndex := 5, descriptorIndex := 50, attributes := #[] }, { accessFlags := 1, nameIndex := 5, descriptorIndex := 72, attributes := #[] }, { accessFlags := 1, nameIndex := 24, descriptorIndex := 76, attributes := #[] }, { accessFlags := 1, nameIndex := 31, descriptorIndex := 77, attributes := #[] }] 49 2 #[63] #[{ accessFlags := 18, nameIndex := 17, descriptorIndex := 18, attributes := #[] }, { accessFlags := 18, nameIndex := 21, descriptorIndex := 18, attributes := #[] }, { accessFlags := 18, nameIndex := 24, descriptorIndex := 25, attributes := #[] }, { accessFlags := 18, nameIndex := 28, descriptorIndex := 25, attributes := #[] }, { accessFlags := 18, nameIndex := 31, descriptorIndex := 32, attributes := #[] }, { accessFlags := 18, nameIndex := 35, descriptorIndex := 36, attributes := #[] }, { accessFlags := 18, nameIndex := 39, descriptorIndex := 40, attributes := #[] }, { accessFlags := 18, nameIndex := 43, descriptorIndex := 40, attributes := #[] }])
  fields := #[{ name := "module", type := (.object "java/lang/String"), accessFlags := 18, slot := 0, constantValue := 0 }, { name := "name", type := (.object "java/lang/String"), accessFlags := 18, slot := 1, constantValue := 0 }, { name := "config", type := .boolean, accessFlags := 18, slot := 2, constantValue := 0 }, { name := "mandatory", type := .boolean, accessFlags := 18, slot := 3, constantValue := 0 }, { name := "type", type := (.object "com/example/hallinta/hallinta/yang/type/YangType"), accessFlags := 18, slot := 4, constantValue := 0 }, { name := "defaults", type := (.object "com/example/hallinta/hallinta/yang/schema/Default"), accessFlags := 18, slot := 5, constantValue := 0 }, { name := "whens", type := (.object "java/util/List"), accessFlags := 18, slot := 6, constantValue := 0 }, { name := "musts", type := (.object "java/util/List"), accessFlags := 18, slot := 7, constantValue := 0 }]
  methods := #[k10m0, k10m1, k10m2, k10m3]
  instanceTypes := #[(.object "java/lang/String"), (.object "java/lang/String"), .boolean, .boolean, (.object "com/example/hallinta/hallinta/yang/type/YangType"), (.object "com/example/hallinta/hallinta/yang/schema/Default"), (.object "java/util/List"), (.object "java/util/List")]
  staticTypes := #[]
  resolved := Array.replicate 108 none
  statics := none }

def pool11 : Array CpInfo := pool [(2, .class_ 4), (1, u "java/lang/CharSequence"), (42, .class_ 48), (0, u "java/lang/CharSequence$1CodePointIterator"), (10, .class_ 60), (0, u "java/lang/CharSequence$1CharIterator"), (5, .class_ 67), (0, u "java/lang/Object")] 63

/-- java/lang/CharSequence -/
def k11 : Class := { plain "java/lang/CharSequence" (some 0) with
  accessFlags := 1537
  interfaces := #[]
  cf := some (fileOf pool11 2 #[.nestMembers #[47, 59]] #[] 1537 66 #[] #[])
  fields := #[]
  methods := #[]
  instanceTypes := #[]
  staticTypes := #[]
  resolved := Array.replicate 131 none
  statics := none }

def pool12 : Array CpInfo := pool [(1, .class_ 2), (0, u "java/lang/constant/ConstantDesc"), (0, .class_ 4), (0, u "java/lang/Object")] 32

/-- java/lang/constant/ConstantDesc -/
def k12 : Class := { plain "java/lang/constant/ConstantDesc" (some 0) with
  accessFlags := 1537
  interfaces := #[]
  cf := some (fileOf pool12 1 #[] #[] 1537 3 #[] #[])
  fields := #[]
  methods := #[]
  instanceTypes := #[]
  staticTypes := #[]
  resolved := Array.replicate 37 none
  statics := none }

def pool13 : Array CpInfo := pool [(2, .class_ 4), (1, u "java/lang/Object"), (0, u "<init>"), (0, u "()V"), (3, .class_ 12), (1, u "java/lang/String"), (0, u "value"), (0, u "[B"), (2, u "coder"), (0, u "B"), (2, u "hash"), (0, u "I"), (2, u "hashIsZero"), (0, u "Z"), (13, u "COMPACT_STRINGS"), (534, .class_ 576), (0, u "java/lang/CharSequence"), (22, u "CASE_INSENSITIVE_ORDER"), (0, u "Ljava/util/Comparator;"), (500, u "serialPersistentFields"), (0, u "[Ljava/io/ObjectStreamField;"), (0, .class_ 1104), (0, u "java/lang/String$CaseInsensitiveComparator"), (1, .class_ 1107), (0, u "java/io/Serializable"), (0, .class_ 1109), (0, u "java/lang/Comparable"), (0, .class_ 1111), (0, u "java/lang/constant/Constable"), (0, .class_ 1113), (0, u "java/lang/constant/ConstantDesc"), (2, u "serialVersionUID"), (0, u "J"), (3, u "REPL"), (0, u "C"), (2, u "LATIN1"), (1, u "UTF16")] 323

def k13m0 : Method := { name := "<init>", desc := "()V", sig := { parameters := [], returnType := none }, accessFlags := 1, code := none }
/-- java/lang/String -/
def k13 : Class := { plain "java/lang/String" (some 0) with
  accessFlags := 49
  interfaces := #[4, 3, 11, 2, 12]
  cf := some (fileOf pool13 10 #[.nestMembers #[1103]] #[{ accessFlags := 1, nameIndex := 5, descriptorIndex := 6, attributes := #[] }] 49 2 #[1106, 1108, 575, 1110, 1112] #[{ accessFlags := 18, nameIndex := 13, descriptorIndex := 14, attributes := #[] }, { accessFlags := 18, nameIndex := 17, descriptorIndex := 18, attributes := #[] }, { accessFlags := 2, nameIndex := 21, descriptorIndex := 22, attributes := #[] }, { accessFlags := 2, nameIndex := 25, descriptorIndex := 26, attributes := #[] }, { accessFlags := 26, nameIndex := 1116, descriptorIndex := 1117, attributes := #[] }, { accessFlags := 24, nameIndex := 40, descriptorIndex := 26, attributes := #[] }, { accessFlags := 26, nameIndex := 1101, descriptorIndex := 1102, attributes := #[] }, { accessFlags := 26, nameIndex := 1121, descriptorIndex := 1122, attributes := #[] }, { accessFlags := 25, nameIndex := 599, descriptorIndex := 600, attributes := #[] }, { accessFlags := 24, nameIndex := 1125, descriptorIndex := 18, attributes := #[] }, { accessFlags := 24, nameIndex := 1127, descriptorIndex := 18, attributes := #[] }])
  fields := #[{ name := "value", type := (.array .byte), accessFlags := 18, slot := 0, constantValue := 0 }, { name := "coder", type := .byte, accessFlags := 18, slot := 1, constantValue := 0 }, { name := "hash", type := .int, accessFlags := 2, slot := 2, constantValue := 0 }, { name := "hashIsZero", type := .boolean, accessFlags := 2, slot := 3, constantValue := 0 }, { name := "serialVersionUID", type := .long, accessFlags := 26, slot := 0, constantValue := 0 }, { name := "COMPACT_STRINGS", type := .boolean, accessFlags := 24, slot := 1, constantValue := 0 }, { name := "serialPersistentFields", type := (.array (.object "java/io/ObjectStreamField")), accessFlags := 26, slot := 2, constantValue := 0 }, { name := "REPL", type := .char, accessFlags := 26, slot := 3, constantValue := 0 }, { name := "CASE_INSENSITIVE_ORDER", type := (.object "java/util/Comparator"), accessFlags := 25, slot := 4, constantValue := 0 }, { name := "LATIN1", type := .byte, accessFlags := 24, slot := 5, constantValue := 0 }, { name := "UTF16", type := .byte, accessFlags := 24, slot := 6, constantValue := 0 }]
  methods := #[k13m0]
  instanceTypes := #[(.array .byte), .byte, .int, .boolean]
  staticTypes := #[.long, .boolean, (.array (.object "java/io/ObjectStreamField")), .char, (.object "java/util/Comparator"), .byte, .byte]
  resolved := Array.replicate 1451 none
  statics := none }

def pool14 : Array CpInfo := pool [(8, .class_ 10), (1, u "java/lang/Iterable"), (24, .class_ 36), (0, u "java/lang/Object")] 25

/-- java/lang/Iterable -/
def k14 : Class := { plain "java/lang/Iterable" (some 0) with
  accessFlags := 1537
  interfaces := #[]
  cf := some (fileOf pool14 8 #[] #[] 1537 35 #[] #[])
  fields := #[]
  methods := #[]
  instanceTypes := #[]
  staticTypes := #[]
  resolved := Array.replicate 62 none
  statics := none }

def pool15 : Array CpInfo := pool [(10, .class_ 12), (1, u "java/util/Collection"), (47, .class_ 61), (0, u "java/lang/Object"), (0, .class_ 63), (0, u "java/lang/Iterable")] 51

/-- java/util/Collection -/
def k15 : Class := { plain "java/util/Collection" (some 0) with
  accessFlags := 1537
  interfaces := #[14]
  cf := some (fileOf pool15 10 #[] #[] 1537 60 #[62] #[])
  fields := #[]
  methods := #[]
  instanceTypes := #[]
  staticTypes := #[]
  resolved := Array.replicate 115 none
  statics := none }

def pool16 : Array CpInfo := pool [(8, .class_ 10), (1, u "java/util/SequencedCollection"), (15, .class_ 27), (0, u "java/lang/Object"), (0, .class_ 29), (0, u "java/util/Collection")] 27

/-- java/util/SequencedCollection -/
def k16 : Class := { plain "java/util/SequencedCollection" (some 0) with
  accessFlags := 1537
  interfaces := #[15]
  cf := some (fileOf pool16 8 #[] #[] 1537 26 #[28] #[])
  fields := #[]
  methods := #[]
  instanceTypes := #[]
  staticTypes := #[]
  resolved := Array.replicate 57 none
  statics := none }

def pool17 : Array CpInfo := pool [(8, .class_ 10), (1, u "java/util/List"), (77, u "of"), (1, .fieldref 91 92), (0, .class_ 93), (0, .nameAndType 94 95), (0, u "java/util/ImmutableCollections"), (0, u "EMPTY_LIST"), (0, u "Ljava/util/ImmutableCollections$ListN;"), (7, .class_ 104), (0, u "java/lang/Object"), (7, .methodref 91 113), (0, .nameAndType 114 115), (0, u "listCopy"), (0, u "(Ljava/util/Collection;)Ljava/util/List;"), (3, u "()Ljava/util/List;"), (0, .class_ 121), (0, u "java/util/SequencedCollection"), (112, u "copyOf")] 16

def k17c0 : Code := { maxStack := 1, maxLocals := 0, code := jdk_40_method_36_code, exceptionTable := #[], attributes := #[] }
def k17m0 : Method := { name := "of", desc := "()Ljava/util/List;", sig := { parameters := [], returnType := some (.object "java/util/List") }, accessFlags := 9, code := some k17c0 }
def k17c1 : Code := { maxStack := 1, maxLocals := 1, code := jdk_40_method_48_code, exceptionTable := #[], attributes := #[] }
def k17m1 : Method := { name := "copyOf", desc := "(Ljava/util/Collection;)Ljava/util/List;", sig := { parameters := [(.object "java/util/Collection")], returnType := some (.object "java/util/List") }, accessFlags := 9, code := some k17c1 }
/-- java/util/List -/
def k17 : Class := { plain "java/util/List" (some 0) with
  accessFlags := 1537
  interfaces := #[16]
  cf := some (fileOf pool17 8 #[] #[{ accessFlags := 9, nameIndex := 88, descriptorIndex := 119, attributes := #[] }, { accessFlags := 9, nameIndex := 234, descriptorIndex := 115, attributes := #[] }] 1537 103 #[120] #[])
  fields := #[]
  methods := #[k17m0, k17m1]
  instanceTypes := #[]
  staticTypes := #[]
  resolved := Array.replicate 251 none
  statics := none }

def pool18 : Array CpInfo := pool [(2, .class_ 4), (1, u "java/lang/Object"), (0, u "<init>"), (0, u "()V"), (3, .class_ 11), (0, u "java/util/ImmutableCollections$List12"), (0, .class_ 13), (0, u "java/util/ImmutableCollections$ListN"), (0, .fieldref 12 15), (0, .nameAndType 16 17), (0, u "allowNulls"), (0, u "Z"), (0, .class_ 19), (0, u "java/util/List"), (27, .class_ 49), (1, u "java/util/ImmutableCollections"), (0, u "$assertionsDisabled"), (5, u "[Ljava/lang/Object;"), (5, u "EMPTY_LIST"), (0, u "Ljava/util/ImmutableCollections$ListN;"), (8, u "EMPTY_LIST_NULLS"), (22, u "SALT32L"), (0, u "J"), (2, u "REVERSE"), (6, u "archivedObjects"), (2, u "EMPTY"), (0, u "Ljava/lang/Object;"), (0, .class_ 112), (0, u "java/util/ImmutableCollections$SetN"), (5, u "EMPTY_SET"), (0, u "Ljava/util/ImmutableCollections$SetN;"), (0, .class_ 121), (0, u "java/util/ImmutableCollections$MapN"), (3, u "EMPTY_MAP"), (0, u "Ljava/util/ImmutableCollections$MapN;"), (4, u "EXPAND_FACTOR"), (0, u "I"), (9, u "listCopy"), (0, u "(Ljava/util/Collection;)Ljava/util/List;"), (25, .class_ 170), (0, u "java/util/ImmutableCollections$MapN$MapNIterator"), (0, .class_ 172), (0, u "java/util/ImmutableCollections$MapN$1"), (0, .class_ 174), (0, u "java/util/ImmutableCollections$Map1"), (0, .class_ 176), (0, u "java/util/ImmutableCollections$AbstractImmutableMap"), (0, .class_ 178), (0, u "java/util/ImmutableCollections$SetN$SetNIterator"), (0, .class_ 180), (0, u "java/util/ImmutableCollections$Set12"), (0, .class_ 182), (0, u "java/util/ImmutableCollections$Set12$1"), (0, .class_ 184), (0, u "java/util/ImmutableCollections$AbstractImmutableSet"), (0, .class_ 186), (0, u "java/util/ImmutableCollections$SubList"), (0, .class_ 188), (0, u "java/util/ImmutableCollections$ListItr"), (0, .class_ 190), (0, u "java/util/ImmutableCollections$AbstractImmutableList"), (0, .class_ 192), (0, u "java/util/ImmutableCollections$AbstractImmutableCollection"), (0, .class_ 194), (0, u "java/util/ImmutableCollections$Access"), (0, .class_ 196), (0, u "java/util/ImmutableCollections$Access$1")] 16

def k18m0 : Method := { name := "<init>", desc := "()V", sig := { parameters := [], returnType := none }, accessFlags := 2, code := none }
def k18c1 : Code := { maxStack := 1, maxLocals := 2, code := jdk_56_method_3_code, exceptionTable := #[], attributes := #[] }
def k18m1 : Method := { name := "listCopy", desc := "(Ljava/util/Collection;)Ljava/util/List;", sig := { parameters := [(.object "java/util/Collection")], returnType := some (.object "java/util/List") }, accessFlags := 8, code := some k18c1 }
/-- java/util/ImmutableCollections -/
def k18 : Class := { plain "java/util/ImmutableCollections" (some 0) with
  accessFlags := 32
  interfaces := #[]
  cf := some (fileOf pool18 47 #[.nestMembers #[120, 169, 171, 173, 175, 111, 177, 179, 181, 183, 12, 10, 185, 187, 189, 191, 193, 195]] #[{ accessFlags := 2, nameIndex := 5, descriptorIndex := 6, attributes := #[] }, { accessFlags := 8, nameIndex := 142, descriptorIndex := 143, attributes := #[] }] 32 2 #[] #[{ accessFlags := 26, nameIndex := 95, descriptorIndex := 96, attributes := #[] }, { accessFlags := 26, nameIndex := 99, descriptorIndex := 17, attributes := #[] }, { accessFlags := 10, nameIndex := 106, descriptorIndex := 56, attributes := #[] }, { accessFlags := 26, nameIndex := 109, descriptorIndex := 110, attributes := #[] }, { accessFlags := 24, nameIndex := 62, descriptorIndex := 63, attributes := #[] }, { accessFlags := 24, nameIndex := 72, descriptorIndex := 63, attributes := #[] }, { accessFlags := 24, nameIndex := 118, descriptorIndex := 119, attributes := #[] }, { accessFlags := 24, nameIndex := 125, descriptorIndex := 126, attributes := #[] }, { accessFlags := 24, nameIndex := 131, descriptorIndex := 132, attributes := #[] }, { accessFlags := 4120, nameIndex := 50, descriptorIndex := 17, attributes := #[] }])
  fields := #[{ name := "SALT32L", type := .long, accessFlags := 26, slot := 0, constantValue := 0 }, { name := "REVERSE", type := .boolean, accessFlags := 26, slot := 1, constantValue := 0 }, { name := "archivedObjects", type := (.array (.object "java/lang/Object")), accessFlags := 10, slot := 2, constantValue := 0 }, { name := "EMPTY", type := (.object "java/lang/Object"), accessFlags := 26, slot := 3, constantValue := 0 }, { name := "EMPTY_LIST", type := (.object "java/util/ImmutableCollections$ListN"), accessFlags := 24, slot := 4, constantValue := 0 }, { name := "EMPTY_LIST_NULLS", type := (.object "java/util/ImmutableCollections$ListN"), accessFlags := 24, slot := 5, constantValue := 0 }, { name := "EMPTY_SET", type := (.object "java/util/ImmutableCollections$SetN"), accessFlags := 24, slot := 6, constantValue := 0 }, { name := "EMPTY_MAP", type := (.object "java/util/ImmutableCollections$MapN"), accessFlags := 24, slot := 7, constantValue := 0 }, { name := "EXPAND_FACTOR", type := .int, accessFlags := 24, slot := 8, constantValue := 0 }, { name := "$assertionsDisabled", type := .boolean, accessFlags := 4120, slot := 9, constantValue := 0 }]
  methods := #[k18m0, k18m1]
  instanceTypes := #[]
  staticTypes := #[.long, .boolean, (.array (.object "java/lang/Object")), (.object "java/lang/Object"), (.object "java/util/ImmutableCollections$ListN"), (.object "java/util/ImmutableCollections$ListN"), (.object "java/util/ImmutableCollections$SetN"), (.object "java/util/ImmutableCollections$MapN"), .int, .boolean]
  resolved := Array.replicate 213 none
  statics := some 1 }

def pool19 : Array CpInfo := pool [(2, .class_ 4), (1, u "java/lang/Object"), (0, u "<init>"), (0, u "()V"), (1, .class_ 10), (1, u "java/util/AbstractCollection"), (66, .class_ 78), (0, u "java/util/Collection")] 81

def k19m0 : Method := { name := "<init>", desc := "()V", sig := { parameters := [], returnType := none }, accessFlags := 4, code := none }
/-- java/util/AbstractCollection -/
def k19 : Class := { plain "java/util/AbstractCollection" (some 0) with
  accessFlags := 1057
  interfaces := #[15]
  cf := some (fileOf pool19 8 #[] #[{ accessFlags := 4, nameIndex := 5, descriptorIndex := 6, attributes := #[] }] 1057 2 #[77] #[])
  fields := #[]
  methods := #[k19m0]
  instanceTypes := #[]
  staticTypes := #[]
  resolved := Array.replicate 160 none
  statics := none }

def pool20 : Array CpInfo := pool [(2, .class_ 4), (1, u "java/util/AbstractCollection"), (0, u "<init>"), (0, u "()V"), (1, .class_ 10), (1, u "java/util/ImmutableCollections"), (2, .class_ 14), (0, u "java/util/ImmutableCollections$AbstractImmutableCollection")] 41

def k20m0 : Method := { name := "<init>", desc := "()V", sig := { parameters := [], returnType := none }, accessFlags := 0, code := none }
/-- java/util/ImmutableCollections$AbstractImmutableCollection -/
def k20 : Class := { plain "java/util/ImmutableCollections$AbstractImmutableCollection" (some 19) with
  accessFlags := 1056
  interfaces := #[]
  cf := some (fileOf pool20 13 #[.nestHost 8] #[{ accessFlags := 0, nameIndex := 5, descriptorIndex := 6, attributes := #[] }] 1056 2 #[] #[])
  fields := #[]
  methods := #[k20m0]
  instanceTypes := #[]
  staticTypes := #[]
  resolved := Array.replicate 56 none
  statics := none }

def pool21 : Array CpInfo := pool [(1, .class_ 2), (0, u "java/util/RandomAccess"), (0, .class_ 4), (0, u "java/lang/Object")] 2

/-- java/util/RandomAccess -/
def k21 : Class := { plain "java/util/RandomAccess" (some 0) with
  accessFlags := 1537
  interfaces := #[]
  cf := some (fileOf pool21 1 #[] #[] 1537 3 #[] #[])
  fields := #[]
  methods := #[]
  instanceTypes := #[]
  staticTypes := #[]
  resolved := Array.replicate 7 none
  statics := none }

def pool22 : Array CpInfo := pool [(2, .class_ 4), (1, u "java/util/ImmutableCollections$AbstractImmutableCollection"), (0, u "<init>"), (0, u "()V"), (1, .class_ 10), (1, u "java/util/ImmutableCollections"), (3, .class_ 16), (1, u "java/util/ImmutableCollections$AbstractImmutableList"), (60, .class_ 78), (0, u "java/util/List"), (45, .class_ 125), (0, u "java/util/RandomAccess")] 70

def k22m0 : Method := { name := "<init>", desc := "()V", sig := { parameters := [], returnType := none }, accessFlags := 0, code := none }
/-- java/util/ImmutableCollections$AbstractImmutableList -/
def k22 : Class := { plain "java/util/ImmutableCollections$AbstractImmutableList" (some 20) with
  accessFlags := 1056
  interfaces := #[17, 21]
  cf := some (fileOf pool22 14 #[.nestHost 8] #[{ accessFlags := 0, nameIndex := 5, descriptorIndex := 6, attributes := #[] }] 1056 2 #[77, 124] #[])
  fields := #[]
  methods := #[k22m0]
  instanceTypes := #[]
  staticTypes := #[]
  resolved := Array.replicate 196 none
  statics := none }

def pool23 : Array CpInfo := pool [(2, .class_ 4), (1, u "java/util/ImmutableCollections$AbstractImmutableList"), (9, .class_ 16), (1, u "java/util/ImmutableCollections$List12"), (0, u "e0"), (0, u "Ljava/lang/Object;"), (1, .class_ 22), (1, u "java/util/ImmutableCollections"), (3, u "e1"), (43, .class_ 71), (0, u "java/io/Serializable")] 53

/-- java/util/ImmutableCollections$List12 -/
def k23 : Class := { plain "java/util/ImmutableCollections$List12" (some 22) with
  accessFlags := 48
  interfaces := #[4]
  cf := some (fileOf pool23 14 #[.nestHost 20] #[] 48 2 #[70] #[{ accessFlags := 18, nameIndex := 17, descriptorIndex := 18, attributes := #[] }, { accessFlags := 18, nameIndex := 26, descriptorIndex := 18, attributes := #[] }])
  fields := #[{ name := "e0", type := (.object "java/lang/Object"), accessFlags := 18, slot := 0, constantValue := 0 }, { name := "e1", type := (.object "java/lang/Object"), accessFlags := 18, slot := 1, constantValue := 0 }]
  methods := #[]
  instanceTypes := #[(.object "java/lang/Object"), (.object "java/lang/Object")]
  staticTypes := #[]
  resolved := Array.replicate 125 none
  statics := none }

def pool24 : Array CpInfo := pool [(2, .class_ 4), (1, u "java/util/ImmutableCollections$AbstractImmutableList"), (3, .class_ 10), (1, u "java/util/ImmutableCollections$ListN"), (0, u "elements"), (0, u "[Ljava/lang/Object;"), (2, u "allowNulls"), (0, u "Z"), (42, .class_ 60), (0, u "java/io/Serializable"), (53, .class_ 115), (0, u "java/util/ImmutableCollections")] 3

/-- java/util/ImmutableCollections$ListN -/
def k24 : Class := { plain "java/util/ImmutableCollections$ListN" (some 22) with
  accessFlags := 48
  interfaces := #[4]
  cf := some (fileOf pool24 8 #[.nestHost 114] #[] 48 2 #[59] #[{ accessFlags := 18, nameIndex := 11, descriptorIndex := 12, attributes := #[] }, { accessFlags := 18, nameIndex := 15, descriptorIndex := 16, attributes := #[] }])
  fields := #[{ name := "elements", type := (.array (.object "java/lang/Object")), accessFlags := 18, slot := 0, constantValue := 0 }, { name := "allowNulls", type := .boolean, accessFlags := 18, slot := 1, constantValue := 0 }]
  methods := #[]
  instanceTypes := #[(.array (.object "java/lang/Object")), .boolean]
  staticTypes := #[]
  resolved := Array.replicate 119 none
  statics := none }

def pool25 : Array CpInfo := pool [(1, .class_ 2), (0, u "com/example/hallinta/hallinta/datastore/DataNode"), (0, .class_ 4), (0, u "java/lang/Object"), (0, u "node"), (0, u "()Lcom/example/hallinta/hallinta/yang/schema/SchemaNode;")] 9

def k25m0 : Method := { name := "node", desc := "()Lcom/example/hallinta/hallinta/yang/schema/SchemaNode;", sig := { parameters := [], returnType := some (.object "com/example/hallinta/hallinta/yang/schema/SchemaNode") }, accessFlags := 1025, code := none }
/-- com/example/hallinta/hallinta/datastore/DataNode -/
def k25 : Class := { plain "com/example/hallinta/hallinta/datastore/DataNode" (some 0) with
  accessFlags := 1537
  interfaces := #[]
  cf := some (fileOf pool25 1 #[] #[{ accessFlags := 1025, nameIndex := 5, descriptorIndex := 6, attributes := #[] }] 1537 3 #[] #[])
  fields := #[]
  methods := #[k25m0]
  instanceTypes := #[]
  staticTypes := #[]
  resolved := Array.replicate 16 none
  statics := none }

def pool26 : Array CpInfo := pool [(1, .interfaceMethodref 2 3), (0, .class_ 4), (0, .nameAndType 5 6), (0, u "com/example/hallinta/hallinta/yang/schema/TypedSchema"), (0, u "type"), (0, u "()Lcom/example/hallinta/hallinta/yang/type/YangType;"), (0, .methodref 8 9), (0, .class_ 10), (0, .nameAndType 11 12), (0, u "com/example/hallinta/hallinta/datastore/LeafNode"), (0, u "<init>"), (0, u "(Lcom/example/hallinta/hallinta/yang/schema/TypedSchema;Ljava/lang/Object;Lcom/example/hallinta/hallinta/yang/type/YangType;)V"), (0, .methodref 14 15), (0, .class_ 16), (0, .nameAndType 11 17), (0, u "java/lang/Object"), (0, u "()V"), (0, .fieldref 8 19), (0, .nameAndType 20 21), (0, u "schema"), (0, u "Lcom/example/hallinta/hallinta/yang/schema/TypedSchema;"), (0, .fieldref 8 23), (0, .nameAndType 24 25), (0, u "value"), (0, u "Ljava/lang/Object;"), (0, .fieldref 8 27), (0, .nameAndType 5 28), (0, u "Lcom/example/hallinta/hallinta/yang/type/YangType;"), (7, u "lastChange"), (0, u "Lcom/example/hallinta/hallinta/datastore/Change;"), (0, .class_ 39), (0, u "com/example/hallinta/hallinta/datastore/DataNode"), (0, u "(Lcom/example/hallinta/hallinta/yang/schema/TypedSchema;Ljava/lang/Object;)V"), (6, u "node"), (0, u "()Lcom/example/hallinta/hallinta/yang/schema/SchemaNode;")] 9

def k26c0 : Code := { maxStack := 4, maxLocals := 3, code := prog_43_method_1_code, exceptionTable := #[], attributes := #[] }
def k26m0 : Method := { name := "<init>", desc := "(Lcom/example/hallinta/hallinta/yang/schema/TypedSchema;Ljava/lang/Object;)V", sig := { parameters := [(.object "com/example/hallinta/hallinta/yang/schema/TypedSchema"), (.object "java/lang/Object")], returnType := none }, accessFlags := 1, code := some k26c0 }
def k26c1 : Code := { maxStack := 2, maxLocals := 4, code := prog_43_method_2_code, exceptionTable := #[], attributes := #[] }
def k26m1 : Method := { name := "<init>", desc := "(Lcom/example/hallinta/hallinta/yang/schema/TypedSchema;Ljava/lang/Object;Lcom/example/hallinta/hallinta/yang/type/YangType;)V", sig := { parameters := [(.object "com/example/hallinta/hallinta/yang/schema/TypedSchema"), (.object "java/lang/Object"), (.object "com/example/hallinta/hallinta/yang/type/YangType")], returnType := none }, accessFlags := 0, code := some k26c1 }
def k26c2 : Code := { maxStack := 1, maxLocals := 1, code := prog_43_method_7_code, exceptionTable := #[], attributes := #[] }
def k26m2 : Method := { name := "node", desc := "()Lcom/example/hallinta/hallinta/yang/schema/SchemaNode;", sig := { parameters := [], returnType := some (.object "com/example/hallinta/hallinta/yang/schema/SchemaNode") }, accessFlags := 1, code := some k26c2 }
/-- com/example/hallinta/hallinta/datastore/LeafNode -/
def k26 : Class := { plain "com/example/hallinta/hallinta/datastore/LeafNode" (some 0) with
  accessFlags := 49
  interfaces := #[25]
  cf := some (fileOf pool26 8 #[] #[{ accessFlags := 1, nameIndex := 11, descriptorIndex := 40, attributes := #[] }, { accessFlags := 0, nameIndex := 11, descriptorIndex := 12, attributes := #[] }, { accessFlags := 1, nameIndex := 47, descriptorIndex := 48, attributes := #[] }] 49 14 #[38] #[{ accessFlags := 18, nameIndex := 20, descriptorIndex := 21, attributes := #[] }, { accessFlags := 18, nameIndex := 24, descriptorIndex := 25, attributes := #[] }, { accessFlags := 18, nameIndex := 5, descriptorIndex := 28, attributes := #[] }, { accessFlags := 2, nameIndex := 36, descriptorIndex := 37, attributes := #[] }])
  fields := #[{ name := "schema", type := (.object "com/example/hallinta/hallinta/yang/schema/TypedSchema"), accessFlags := 18, slot := 0, constantValue := 0 }, { name := "value", type := (.object "java/lang/Object"), accessFlags := 18, slot := 1, constantValue := 0 }, { name := "type", type := (.object "com/example/hallinta/hallinta/yang/type/YangType"), accessFlags := 18, slot := 2, constantValue := 0 }, { name := "lastChange", type := (.object "com/example/hallinta/hallinta/datastore/Change"), accessFlags := 2, slot := 3, constantValue := 0 }]
  methods := #[k26m0, k26m1, k26m2]
  instanceTypes := #[(.object "com/example/hallinta/hallinta/yang/schema/TypedSchema"), (.object "java/lang/Object"), (.object "com/example/hallinta/hallinta/yang/type/YangType"), (.object "com/example/hallinta/hallinta/datastore/Change")]
  staticTypes := #[]
  resolved := Array.replicate 58 none
  statics := none }

def pool27 : Array CpInfo := pool [(1, u "java/lang/Cloneable"), (0, .class_ 1), (0, u "java/lang/Object"), (0, .class_ 3)] 3

/-- java/lang/Cloneable -/
def k27 : Class := { plain "java/lang/Cloneable" (some 0) with
  accessFlags := 1537
  interfaces := #[]
  cf := some (fileOf pool27 2 #[] #[] 1537 4 #[] #[])
  fields := #[]
  methods := #[]
  instanceTypes := #[]
  staticTypes := #[]
  resolved := Array.replicate 8 none
  statics := none }

/-- the primitive byte -/
def k28 : Class := { plain "byte" none with kind := .primitive 'B', accessFlags := 0x411 }
/-- [B -/
def k29 : Class := { plain "[B" (some 0) with kind := .array 28 .byte, interfaces := #[27, 4], accessFlags := 1041 }

/-- the primitive int -/
def k30 : Class := { plain "int" none with kind := .primitive 'I', accessFlags := 0x411 }
/-- [I -/
def k31 : Class := { plain "[I" (some 0) with kind := .array 30 .int, interfaces := #[27, 4], accessFlags := 1041 }

/-- [Ljava/lang/Object; -/
def k32 : Class := { plain "[Ljava/lang/Object;" (some 0) with kind := .array 0 (.object "java/lang/Object"), interfaces := #[27, 4], accessFlags := 1041 }

def heap : Heap := #[{ cls := 6, slots := #[.ref 3, .ref 4, .ref 5, .null], vm := .statics 6 },
  { cls := 18, slots := #[.long 0, .int 0, .null, .null, .ref 6, .null, .null, .null, .int 0, .int 0], vm := .statics 18 },
  { cls := 32, slots := #[], vm := .none },
  { cls := 6, slots := #[.null, .int 0, .int 0], vm := .none },
  { cls := 6, slots := #[.null, .int 1, .int 0], vm := .none },
  { cls := 6, slots := #[.null, .int 2, .int 0], vm := .none },
  { cls := 24, slots := #[.ref 2, .int 0], vm := .none }]
def classes : Array Class := #[k0, k1, k2, k3, k4, k5, k6, k7, k8, k9, k10, k11, k12, k13, k14, k15, k16, k17, k18, k19, k20, k21, k22, k23, k24, k25, k26, k27, k28, k29, k30, k31, k32]
def interned : List (Array UInt16 × Addr) := []
def slotsUsed : Nat := 25
def theMethod : MethodId := ⟨1, 1⟩
def args0 : Array Value := #[.int 5]
def aboutOver (below : List Frame) : State where
  vm := { classes := classes, interned := interned.toArray }
  heap := heap
  slotsUsed := slotsUsed
  threads := #[{ frames := .invoking theMethod args0 :: below }]
def below0 : List Frame := [.native { method := ⟨0, 0⟩, args := #[] }]
def about1 : State := aboutOver below0
def p0 : Program := .bare "" "" ""
def e0 : Env := launch0.env 0 0 0
theorem w_frames : about1.frames = Frame.invoking theMethod args0 :: below0 := rfl
set_option maxRecDepth 65536 in
theorem w_args : argsFit about1.vm theMethod args0 = true := by decide +kernel
set_option maxRecDepth 65536 in
theorem w_heap : heapFits about1 = true := by decide +kernel
set_option maxRecDepth 65536 in
theorem w_runnable : about1.curStatus? = some .runnable := by decide +kernel
set_option maxRecDepth 65536 in
theorem w_alone : about1.alone = true := by decide +kernel
set_option maxRecDepth 65536 in
theorem w_named : about1.methodNamed? x = some theMethod := by decide +kernel
set_option maxRecDepth 65536 in
theorem w_hears : about1.hears theMethod below0 = true := by decide +kernel
set_option maxRecDepth 65536 in
theorem w_ripe : about1.ripe theMethod args0 below0 = true := by decide +kernel
theorem w_running : about1.status = .running := rfl
set_option maxRecDepth 65536 in
theorem w_room : about1.hasRoom e0.platform room_1 = true :=
  launch0.hasRoom_least _ room_1 (by decide +kernel) (by decide +kernel) (by decide +kernel) (by decide +kernel) (by decide +kernel) (by decide +kernel)
theorem allAtoms_all (ts : List Jvm.Cond) (a : Array Jvm.Value) (st : Jvm.State) : (allAtoms ts).before a st = ts.all (fun c => c.before a st) := by
  induction ts with
  | nil => rfl
  | cons c t ih =>
    show (Jvm.Cond.and c (allAtoms t)).before a st = _
    rw [Jvm.Cond.before_and, ih, List.all_cons]
def words1 : List Jvm.Cond := Jvm.Cond.code x code maxLocals ret :: tables_1
/-- a 'code' word, met by the world's own term for the bytes: nothing is compared byte by byte -/
theorem code_word {y : MethodName} {bytes : ByteArray} {mx : Nat} {rt : Option FieldType} {a : Array Value} {s : State} {m : MethodId} {meth : Method} {c : Code} (h1 : s.methodNamed? y = some m) (h2 : s.vm.method? m = some meth) (h3 : meth.code = some c) (h4 : c.code = bytes)
    (h5 : (c.maxLocals == mx && c.exceptionTable.isEmpty && decide (c.maxStack ≤ mostOperands) && decide (meth.sig.returnType = rt) && !meth.locks && decide (parseMethodDescriptor y.desc = some meth.sig)) = true) : (Jvm.Cond.code y bytes mx rt).before a s = true := by
  simp only [Bool.and_eq_true, beq_iff_eq, Bool.not_eq_true', decide_eq_true_eq] at h5
  obtain ⟨⟨⟨⟨⟨g1, g2⟩, g3⟩, g4⟩, g5⟩, g6⟩ := h5
  simp [Cond.before, Cond.holds, Cond.value, h1, h2, h3, h4, g1, g2, g3, g4, g5, g6]
def isCode : Jvm.Cond → Bool
  | .code _ _ _ _ => true
  | _ => false
theorem all_split {L : List Jvm.Cond} {P : Jvm.Cond → Bool} (h1 : L.all (fun c => isCode c || P c) = true) (h2 : ∀ c ∈ L.filter isCode, P c = true) : L.all P = true := by
  refine List.all_eq_true.mpr fun c hc => ?_
  have h := List.all_eq_true.mp h1 c hc
  rcases Bool.eq_false_or_eq_true (isCode c) with hi | hi
  · exact h2 c (List.mem_filter.mpr ⟨hc, hi⟩)
  · simpa [hi] using h
set_option maxRecDepth 65536 in
theorem w_c0 : (Jvm.Cond.code x code maxLocals ret).before args0 about1 = true := code_word (m := ⟨1, 1⟩) (meth := k1m1) (c := k1c1) (by decide +kernel) rfl rfl rfl (by decide +kernel)
set_option maxRecDepth 65536 in
theorem w_c1 : (Jvm.Cond.code ({ cls := "com/example/hallinta/hallinta/yang/schema/LeafSchema", name := "<init>", desc := "(Ljava/lang/String;Ljava/lang/String;ZZLcom/example/hallinta/hallinta/yang/type/YangType;)V" } : Jvm.MethodName) prog_129_method_2_code (6 : Nat) (Option.none : Option Jvm.ClassFile.FieldType)).before args0 about1 = true := code_word (m := ⟨10, 1⟩) (meth := k10m1) (c := k10c1) (by decide +kernel) rfl rfl rfl (by decide +kernel)
set_option maxRecDepth 65536 in
theorem w_c2 : (Jvm.Cond.code ({ cls := "java/util/List", name := "of", desc := "()Ljava/util/List;" } : Jvm.MethodName) jdk_40_method_36_code (0 : Nat) (Option.some (Jvm.ClassFile.FieldType.object "java/util/List"))).before args0 about1 = true := code_word (m := ⟨17, 0⟩) (meth := k17m0) (c := k17c0) (by decide +kernel) rfl rfl rfl (by decide +kernel)
set_option maxRecDepth 65536 in
theorem w_c3 : (Jvm.Cond.code ({ cls := "com/example/hallinta/hallinta/yang/schema/LeafSchema", name := "<init>", desc := "(Ljava/lang/String;Ljava/lang/String;ZZLcom/example/hallinta/hallinta/yang/type/YangType;Lcom/example/hallinta/hallinta/yang/schema/Default;Ljava/util/List;Ljava/util/List;)V" } : Jvm.MethodName) prog_129_method_1_code (9 : Nat) (Option.none : Option Jvm.ClassFile.FieldType)).before args0 about1 = true := code_word (m := ⟨10, 0⟩) (meth := k10m0) (c := k10c0) (by decide +kernel) rfl rfl rfl (by decide +kernel)
set_option maxRecDepth 65536 in
theorem w_c4 : (Jvm.Cond.code ({ cls := "java/lang/Record", name := "<init>", desc := "()V" } : Jvm.MethodName) jdk_30_method_1_code (1 : Nat) (Option.none : Option Jvm.ClassFile.FieldType)).before args0 about1 = true := code_word (m := ⟨7, 0⟩) (meth := k7m0) (c := k7c0) (by decide +kernel) rfl rfl rfl (by decide +kernel)
set_option maxRecDepth 65536 in
theorem w_c5 : (Jvm.Cond.code ({ cls := "java/lang/Object", name := "<init>", desc := "()V" } : Jvm.MethodName) object_method_1_code (1 : Nat) (Option.none : Option Jvm.ClassFile.FieldType)).before args0 about1 = true := code_word (m := ⟨0, 0⟩) (meth := k0m0) (c := k0c0) (by decide +kernel) rfl rfl rfl (by decide +kernel)
set_option maxRecDepth 65536 in
theorem w_c6 : (Jvm.Cond.code ({ cls := "java/util/List", name := "copyOf", desc := "(Ljava/util/Collection;)Ljava/util/List;" } : Jvm.MethodName) jdk_40_method_48_code (1 : Nat) (Option.some (Jvm.ClassFile.FieldType.object "java/util/List"))).before args0 about1 = true := code_word (m := ⟨17, 1⟩) (meth := k17m1) (c := k17c1) (by decide +kernel) rfl rfl rfl (by decide +kernel)
set_option maxRecDepth 65536 in
theorem w_c7 : (Jvm.Cond.code ({ cls := "java/util/ImmutableCollections", name := "listCopy", desc := "(Ljava/util/Collection;)Ljava/util/List;" } : Jvm.MethodName) jdk_56_method_3_code (2 : Nat) (Option.some (Jvm.ClassFile.FieldType.object "java/util/List"))).before args0 about1 = true := code_word (m := ⟨18, 1⟩) (meth := k18m1) (c := k18c1) (by decide +kernel) rfl rfl rfl (by decide +kernel)
set_option maxRecDepth 65536 in
theorem w_c8 : (Jvm.Cond.code ({ cls := "com/example/hallinta/hallinta/datastore/LeafNode", name := "<init>", desc := "(Lcom/example/hallinta/hallinta/yang/schema/TypedSchema;Ljava/lang/Object;)V" } : Jvm.MethodName) prog_43_method_1_code (3 : Nat) (Option.none : Option Jvm.ClassFile.FieldType)).before args0 about1 = true := code_word (m := ⟨26, 0⟩) (meth := k26m0) (c := k26c0) (by decide +kernel) rfl rfl rfl (by decide +kernel)
set_option maxRecDepth 65536 in
theorem w_c9 : (Jvm.Cond.code ({ cls := "com/example/hallinta/hallinta/yang/schema/LeafSchema", name := "type", desc := "()Lcom/example/hallinta/hallinta/yang/type/YangType;" } : Jvm.MethodName) prog_129_method_10_code (1 : Nat) (Option.some (Jvm.ClassFile.FieldType.object "com/example/hallinta/hallinta/yang/type/YangType"))).before args0 about1 = true := code_word (m := ⟨10, 3⟩) (meth := k10m3) (c := k10c3) (by decide +kernel) rfl rfl rfl (by decide +kernel)
set_option maxRecDepth 65536 in
theorem w_c10 : (Jvm.Cond.code ({ cls := "com/example/hallinta/hallinta/datastore/LeafNode", name := "<init>", desc := "(Lcom/example/hallinta/hallinta/yang/schema/TypedSchema;Ljava/lang/Object;Lcom/example/hallinta/hallinta/yang/type/YangType;)V" } : Jvm.MethodName) prog_43_method_2_code (4 : Nat) (Option.none : Option Jvm.ClassFile.FieldType)).before args0 about1 = true := code_word (m := ⟨26, 1⟩) (meth := k26m1) (c := k26c1) (by decide +kernel) rfl rfl rfl (by decide +kernel)
set_option maxRecDepth 65536 in
theorem w_c11 : (Jvm.Cond.code ({ cls := "com/example/hallinta/hallinta/datastore/Content", name := "selectsState", desc := "()Z" } : Jvm.MethodName) prog_14_method_4_code (1 : Nat) (Option.some Jvm.ClassFile.FieldType.boolean)).before args0 about1 = true := code_word (m := ⟨6, 0⟩) (meth := k6m0) (c := k6c0) (by decide +kernel) rfl rfl rfl (by decide +kernel)
set_option maxRecDepth 65536 in
theorem w_c12 : (Jvm.Cond.code ({ cls := "com/example/hallinta/hallinta/datastore/Content", name := "selects", desc := "(Lcom/example/hallinta/hallinta/datastore/DataNode;)Z" } : Jvm.MethodName) prog_14_method_5_code (2 : Nat) (Option.some Jvm.ClassFile.FieldType.boolean)).before args0 about1 = true := code_word (m := ⟨6, 1⟩) (meth := k6m1) (c := k6c1) (by decide +kernel) rfl rfl rfl (by decide +kernel)
set_option maxRecDepth 65536 in
theorem w_c13 : (Jvm.Cond.code ({ cls := "java/lang/Enum", name := "ordinal", desc := "()I" } : Jvm.MethodName) jdk_37_method_2_code (1 : Nat) (Option.some Jvm.ClassFile.FieldType.int)).before args0 about1 = true := code_word (m := ⟨5, 0⟩) (meth := k5m0) (c := k5c0) (by decide +kernel) rfl rfl rfl (by decide +kernel)
set_option maxRecDepth 65536 in
theorem w_c14 : (Jvm.Cond.code ({ cls := "com/example/hallinta/hallinta/datastore/LeafNode", name := "node", desc := "()Lcom/example/hallinta/hallinta/yang/schema/SchemaNode;" } : Jvm.MethodName) prog_43_method_7_code (1 : Nat) (Option.some (Jvm.ClassFile.FieldType.object "com/example/hallinta/hallinta/yang/schema/SchemaNode"))).before args0 about1 = true := code_word (m := ⟨26, 2⟩) (meth := k26m2) (c := k26c2) (by decide +kernel) rfl rfl rfl (by decide +kernel)
set_option maxRecDepth 65536 in
theorem w_c15 : (Jvm.Cond.code ({ cls := "com/example/hallinta/hallinta/yang/schema/LeafSchema", name := "config", desc := "()Z" } : Jvm.MethodName) prog_129_method_8_code (1 : Nat) (Option.some Jvm.ClassFile.FieldType.boolean)).before args0 about1 = true := code_word (m := ⟨10, 2⟩) (meth := k10m2) (c := k10c2) (by decide +kernel) rfl rfl rfl (by decide +kernel)
set_option maxRecDepth 65536 in
theorem w_c16 : (Jvm.Cond.code ({ cls := "com/example/hallinta/hallinta/datastore/Content", name := "holdsNonconfig", desc := "(Lcom/example/hallinta/hallinta/datastore/DataNode;)Z" } : Jvm.MethodName) prog_14_method_6_code (4 : Nat) (Option.some Jvm.ClassFile.FieldType.boolean)).before args0 about1 = true := code_word (m := ⟨6, 2⟩) (meth := k6m2) (c := k6c2) (by decide +kernel) rfl rfl rfl (by decide +kernel)
def codes1 : List Jvm.Cond := [Jvm.Cond.code x code maxLocals ret, Jvm.Cond.code ({ cls := "com/example/hallinta/hallinta/yang/schema/LeafSchema", name := "<init>", desc := "(Ljava/lang/String;Ljava/lang/String;ZZLcom/example/hallinta/hallinta/yang/type/YangType;)V" } : Jvm.MethodName) prog_129_method_2_code (6 : Nat) (Option.none : Option Jvm.ClassFile.FieldType), Jvm.Cond.code ({ cls := "java/util/List", name := "of", desc := "()Ljava/util/List;" } : Jvm.MethodName) jdk_40_method_36_code (0 : Nat) (Option.some (Jvm.ClassFile.FieldType.object "java/util/List")), Jvm.Cond.code ({ cls := "com/example/hallinta/hallinta/yang/schema/LeafSchema", name := "<init>", desc := "(Ljava/lang/String;Ljava/lang/String;ZZLcom/example/hallinta/hallinta/yang/type/YangType;Lcom/example/hallinta/hallinta/yang/schema/Default;Ljava/util/List;Ljava/util/List;)V" } : Jvm.MethodName) prog_129_method_1_code (9 : Nat) (Option.none : Option Jvm.ClassFile.FieldType), Jvm.Cond.code ({ cls := "java/lang/Record", name := "<init>", desc := "()V" } : Jvm.MethodName) jdk_30_method_1_code (1 : Nat) (Option.none : Option Jvm.ClassFile.FieldType), Jvm.Cond.code ({ cls := "java/lang/Object", name := "<init>", desc := "()V" } : Jvm.MethodName) object_method_1_code (1 : Nat) (Option.none : Option Jvm.ClassFile.FieldType), Jvm.Cond.code ({ cls := "java/util/List", name := "copyOf", desc := "(Ljava/util/Collection;)Ljava/util/List;" } : Jvm.MethodName) jdk_40_method_48_code (1 : Nat) (Option.some (Jvm.ClassFile.FieldType.object "java/util/List")), Jvm.Cond.code ({ cls := "java/util/ImmutableCollections", name := "listCopy", desc := "(Ljava/util/Collection;)Ljava/util/List;" } : Jvm.MethodName) jdk_56_method_3_code (2 : Nat) (Option.some (Jvm.ClassFile.FieldType.object "java/util/List")), Jvm.Cond.code ({ cls := "com/example/hallinta/hallinta/datastore/LeafNode", name := "<init>", desc := "(Lcom/example/hallinta/hallinta/yang/schema/TypedSchema;Ljava/lang/Object;)V" } : Jvm.MethodName) prog_43_method_1_code (3 : Nat) (Option.none : Option Jvm.ClassFile.FieldType), Jvm.Cond.code ({ cls := "com/example/hallinta/hallinta/yang/schema/LeafSchema", name := "type", desc := "()Lcom/example/hallinta/hallinta/yang/type/YangType;" } : Jvm.MethodName) prog_129_method_10_code (1 : Nat) (Option.some (Jvm.ClassFile.FieldType.object "com/example/hallinta/hallinta/yang/type/YangType")), Jvm.Cond.code ({ cls := "com/example/hallinta/hallinta/datastore/LeafNode", name := "<init>", desc := "(Lcom/example/hallinta/hallinta/yang/schema/TypedSchema;Ljava/lang/Object;Lcom/example/hallinta/hallinta/yang/type/YangType;)V" } : Jvm.MethodName) prog_43_method_2_code (4 : Nat) (Option.none : Option Jvm.ClassFile.FieldType), Jvm.Cond.code ({ cls := "com/example/hallinta/hallinta/datastore/Content", name := "selectsState", desc := "()Z" } : Jvm.MethodName) prog_14_method_4_code (1 : Nat) (Option.some Jvm.ClassFile.FieldType.boolean), Jvm.Cond.code ({ cls := "com/example/hallinta/hallinta/datastore/Content", name := "selects", desc := "(Lcom/example/hallinta/hallinta/datastore/DataNode;)Z" } : Jvm.MethodName) prog_14_method_5_code (2 : Nat) (Option.some Jvm.ClassFile.FieldType.boolean), Jvm.Cond.code ({ cls := "java/lang/Enum", name := "ordinal", desc := "()I" } : Jvm.MethodName) jdk_37_method_2_code (1 : Nat) (Option.some Jvm.ClassFile.FieldType.int), Jvm.Cond.code ({ cls := "com/example/hallinta/hallinta/datastore/LeafNode", name := "node", desc := "()Lcom/example/hallinta/hallinta/yang/schema/SchemaNode;" } : Jvm.MethodName) prog_43_method_7_code (1 : Nat) (Option.some (Jvm.ClassFile.FieldType.object "com/example/hallinta/hallinta/yang/schema/SchemaNode")), Jvm.Cond.code ({ cls := "com/example/hallinta/hallinta/yang/schema/LeafSchema", name := "config", desc := "()Z" } : Jvm.MethodName) prog_129_method_8_code (1 : Nat) (Option.some Jvm.ClassFile.FieldType.boolean), Jvm.Cond.code ({ cls := "com/example/hallinta/hallinta/datastore/Content", name := "holdsNonconfig", desc := "(Lcom/example/hallinta/hallinta/datastore/DataNode;)Z" } : Jvm.MethodName) prog_14_method_6_code (4 : Nat) (Option.some Jvm.ClassFile.FieldType.boolean)]
set_option maxRecDepth 65536 in
theorem codes_eq : words1.filter isCode = codes1 := rfl
theorem w_codes : ∀ c ∈ words1.filter isCode, c.before args0 about1 = true := by
  rw [codes_eq]
  intro c hc
  simp only [codes1, List.mem_cons, List.not_mem_nil, or_false] at hc
  rcases hc with rfl | rfl | rfl | rfl | rfl | rfl | rfl | rfl | rfl | rfl | rfl | rfl | rfl | rfl | rfl | rfl | rfl
  · exact w_c0
  · exact w_c1
  · exact w_c2
  · exact w_c3
  · exact w_c4
  · exact w_c5
  · exact w_c6
  · exact w_c7
  · exact w_c8
  · exact w_c9
  · exact w_c10
  · exact w_c11
  · exact w_c12
  · exact w_c13
  · exact w_c14
  · exact w_c15
  · exact w_c16
set_option maxRecDepth 65536 in
theorem w_t1 : (words1.take 24).all (fun c => isCode c || c.before args0 about1) = true := by decide +kernel
set_option maxRecDepth 65536 in
theorem w_t2 : ((words1.drop 24).take 24).all (fun c => isCode c || c.before args0 about1) = true := by decide +kernel
set_option maxRecDepth 65536 in
theorem w_t3 : (((words1.drop 24).drop 24).take 24).all (fun c => isCode c || c.before args0 about1) = true := by decide +kernel
set_option maxRecDepth 65536 in
theorem w_t4 : ((((words1.drop 24).drop 24).drop 24).take 24).all (fun c => isCode c || c.before args0 about1) = true := by decide +kernel
set_option maxRecDepth 65536 in
theorem w_t5 : (((((words1.drop 24).drop 24).drop 24).drop 24).take 24).all (fun c => isCode c || c.before args0 about1) = true := by decide +kernel
set_option maxRecDepth 65536 in
theorem w_t6 : (((((words1.drop 24).drop 24).drop 24).drop 24).drop 24).all (fun c => isCode c || c.before args0 about1) = true := by decide +kernel
theorem w_tables : (allAtoms (Jvm.Cond.code x code maxLocals ret :: tables_1)).before args0 about1 = true := by
  rw [allAtoms_all]
  show words1.all (fun c => c.before args0 about1) = true
  refine all_split ?_ w_codes
  rw [← List.take_append_drop 24 words1, List.all_append, w_t1, ← List.take_append_drop 24 (words1.drop 24), List.all_append, w_t2, ← List.take_append_drop 24 ((words1.drop 24).drop 24), List.all_append, w_t3, ← List.take_append_drop 24 (((words1.drop 24).drop 24).drop 24), List.all_append, w_t4, ← List.take_append_drop 24 ((((words1.drop 24).drop 24).drop 24).drop 24), List.all_append, w_t5, w_t6]
  rfl
set_option maxRecDepth 65536 in
theorem w_rest : rest_1_c.before args0 about1 = true := by decide +kernel
set_option maxRecDepth 65536 in
theorem w_case : (Jvm.Cond.and given_1 narrow_1).before args0 about1 = true := by decide +kernel
theorem w_applies : (headSpec (Jvm.Cond.code x code maxLocals ret :: tables_1) room_1).applies x e0.platform about1 = true :=
  (Spec.applies_iff w_frames).mpr ⟨w_running, w_runnable, w_alone, w_named, w_hears, w_ripe, w_room, w_tables⟩
theorem atStart : AtStart classFile x code maxLocals ret World_1 tables_1 room_1 Calls_1 rest_1 Pre_1 launch0 p0 e0 about1 theMethod args0 below0 :=
  ⟨lists_1, trivial, launch0.admits_env _ _ _, launch0.least_env, fairChoices_fair.cas, fairChoices_fair.clock, w_frames, w_args, w_heap, w_applies, trivial, w_rest, w_case⟩
end start1
theorem witness_1 : WitnessClaimed_1 := ⟨start1.p0, start1.e0, start1.about1, start1.theMethod, start1.args0, start1.below0, start1.atStart⟩
end Jvm.Pilot.@@N@@
