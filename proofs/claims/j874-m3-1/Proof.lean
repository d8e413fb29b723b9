import JvmDerived
import JvmDerived.Pilot.@@N@@Statement
import JvmDerived.Pilot.@@N@@Code
set_option linter.unusedVariables false
set_option linter.unusedSimpArgs false
namespace Jvm.RoadKit
open Sem ClassFile Op Lib Jvm.Stand Jvm.Free Jvm.LawKit
section New
variable {p : Program} {l : Launch} {e : Env} {R : Room} {s : State} {m : MethodId} {args : Array Value} {below : List Frame} {meth : Method} {c : Code} {T : State} {locs : List Loc} {cells slots : Nat}
theorem retI (X : Stand p l e R s m args below meth c T locs cells slots) (hx : p.tables.exec = Jvm.exec) {pc : Nat} {Ls : Array Slot} {z : Int32} {rest : List Value} (hret : meth.sig.returnType = some .int) (hd : decode c.code pc = .ok (.ireturn, 1)) {fs : List Frame}
    (hl : ∀ (f : JFrame) (acts : List Action), f.method = m → f.locked = none → f.entered = [] → (doReturn e (T.setTop f) acts (some (.int z))).1 = T.setFrames fs) : Steps p.tables e below (T.setTop (mkF m pc Ls (.int z :: rest))) (T.setFrames fs) := by
  have hm' : T.vm.method? m = some meth := X.method'
  have hn : narrow .int (.int z) = .int z := rfl
  show Steps p.tables e below (T.setTop { method := m, pc := pc, locals := Ls, stack := _ :: rest, locked := none }) _
  jvm_step X.here [X.here.top, hx, hd, hm', hret, hn]
  first | (intro acts; rw [hl _ acts rfl rfl rfl]) | rw [hl _ _ rfl rfl rfl]
  exact Steps.refl _
end New
end Jvm.RoadKit
namespace Jvm.Pilot.@@N@@
open Jvm Jvm.ClassFile Sem Op Lib Jvm.Free Jvm.Stand Jvm.LawKit Jvm.RoadKit Bundle Jvm.Pilot.@@N@@.Jvm.D
theorem own_fne {Z : State} {h : Heap} {a b : Addr} {C n d : String} {v w : Value} (F : Fld Z h a C n d v) (G : Fld Z h b C n d w) (hv : v ≠ w) : a ≠ b := fun e => by
  subst e
  obtain ⟨c1, cf1, k1, i1, f1, h1, h2, -, -, -, -, h7⟩ := F
  obtain ⟨c2, cf2, k2, i2, f2, g1, g2, -, -, -, -, g7⟩ := G
  cases h1.symm.trans g1
  cases h2.symm.trans g2
  exact hv (Option.some.inj (h7.symm.trans g7))
def own_or (r a b : Addr) : Int32 := if r = a then 1 else if r = b then 1 else 0
theorem own_or1 {r a b : Addr} (h : r = a) : own_or r a b = 1 := if_pos h
theorem own_or2 {r a b : Addr} (h : ¬ r = a) (h2 : r = b) : own_or r a b = 1 := by rw [own_or, if_neg h, if_pos h2]
theorem own_or3 {r a b : Addr} (h : ¬ r = a) (h2 : ¬ r = b) : own_or r a b = 0 := by rw [own_or, if_neg h, if_neg h2]
theorem own_12 (p : Int32) : (p &&& (2147483647 : Int32)) % (12 : Int32) = 0 ∨ (p &&& (2147483647 : Int32)) % (12 : Int32) = 1 ∨ (p &&& (2147483647 : Int32)) % (12 : Int32) = 2 ∨ (p &&& (2147483647 : Int32)) % (12 : Int32) = 3 ∨ (p &&& (2147483647 : Int32)) % (12 : Int32) = 4 ∨ (p &&& (2147483647 : Int32)) % (12 : Int32) = 5 ∨ (p &&& (2147483647 : Int32)) % (12 : Int32) = 6 ∨ (p &&& (2147483647 : Int32)) % (12 : Int32) = 7 ∨ (p &&& (2147483647 : Int32)) % (12 : Int32) = 8 ∨ (p &&& (2147483647 : Int32)) % (12 : Int32) = 9 ∨ (p &&& (2147483647 : Int32)) % (12 : Int32) = 10 ∨ (p &&& (2147483647 : Int32)) % (12 : Int32) = 11 := by
  have h1 := c_and p (2147483647 : Int32) (by decide)
  have h2 := (c_iremV (p &&& (2147483647 : Int32)) (12 : Int32)).1 h1.1 (by decide)
  have h3 : (12 : Int32).toInt = 12 := by decide
  rw [h3] at h2
  generalize (p &&& (2147483647 : Int32)) % (12 : Int32) = j at h2 ⊢
  simp only [← Int32.toInt_inj, Int32.reduceToInt]
  omega
theorem own_eqint {args : Array Value} {s : State} {t : Term} {k : Int32} (h : (Jvm.Cond.eq t (Jvm.Term.int k)).value args s none s [] = some true) : t.eval args s none [] s = some (.int k) := by
  cases ht : t.eval args s none [] s with
  | none => simp [Cond.value, Term.eval, ht] at h
  | some v =>
    cases v <;> simp [Cond.value, Term.eval, ht] at h
    rw [h]
theorem own_lost_d0 : decode prog_38_method_8_code 0 = .ok (.aload_n 0, 1) := by decide +kernel
theorem own_lost_d1 : decode prog_38_method_8_code 1 = .ok (.getstatic 7, 3) := by decide +kernel
theorem own_lost_d4 : decode prog_38_method_8_code 4 = .ok (.if_acmp .eq 10, 3) := by decide +kernel
theorem own_lost_d7 : decode prog_38_method_8_code 7 = .ok (.aload_n 0, 1) := by decide +kernel
theorem own_lost_d8 : decode prog_38_method_8_code 8 = .ok (.getstatic 16, 3) := by decide +kernel
theorem own_lost_d11 : decode prog_38_method_8_code 11 = .ok (.if_acmp .ne 7, 3) := by decide +kernel
theorem own_lost_d14 : decode prog_38_method_8_code 14 = .ok (.iconst 1, 1) := by decide +kernel
theorem own_lost_d15 : decode prog_38_method_8_code 15 = .ok (.goto 4, 3) := by decide +kernel
theorem own_lost_d18 : decode prog_38_method_8_code 18 = .ok (.iconst 0, 1) := by decide +kernel
theorem own_lost_d19 : decode prog_38_method_8_code 19 = .ok (.ireturn, 1) := by decide +kernel
theorem own_lost_pn : plainName "com/example/pairwright/pairwright/model/Result" = true := by first | (simp [plainName, overriddenIn]; done) | decide +kernel
theorem own_lost_ef (m : MethodId) (x0 : Addr) : entryFrame m #[(.ref x0)] 1 = mkF m 0 #[.val (.ref x0)] [] := by first | (simp [entryFrame, mkF, argsToLocals, Value.category]; done) | rfl
def Q_own_lost (Z : State) (a1 : Addr) (z1 : Addr) (z4 : Addr) (h0 : Heap) (n0 : Nat) (v : Option Value) (h : Heap) (L : List Loc) : Prop := v = some (.int (own_or a1 z1 z4)) ∧ Fr n0 L ∧ h = h0
set_option maxRecDepth 65536 in
set_option maxHeartbeats 40000000 in
theorem own_lost (l : Launch) (Z : State) (a0 : Array Value) (hw : ∀ d ∈ tables_1, d.before a0 Z = true) (ws : List Jvm.Cond) (a1 : Addr) (z1 : Addr) (z4 : Addr) (h0 : Heap) (n0 : Nat) (Z0 : n0 ≤ h0.size) (S1 : Sta Z h0 "com/example/pairwright/pairwright/model/Result" "LOSS" "Lcom/example/pairwright/pairwright/model/Result;" (.ref z1)) (S4 : Sta Z h0 "com/example/pairwright/pairwright/model/Result" "SHORT_LOSS" "Lcom/example/pairwright/pairwright/model/Result;" (.ref z4)) :
    MetFree l (⟨"com/example/pairwright/pairwright/model/Result", "lost", "()Z"⟩ : MethodName) (head1 (Jvm.Cond.code (⟨"com/example/pairwright/pairwright/model/Result", "lost", "()Z"⟩ : MethodName) prog_38_method_8_code 1 (some .boolean) :: ws) ({ frames := 0, cells := 0, slots := 0, locals := 0 } : Room)) (fun a U => a = #[(.ref a1)] ∧ Z.Warmed39 U.vm ∧ U.heap = h0) (fun _ _ _ _ _ => True) (fun _ U o U' => ∃ v L, o = .returned v ∧ Q_own_lost Z a1 z1 z4 h0 n0 v U'.heap L ∧ FrameEnd U o U' L ({ frames := 0, cells := 0, slots := 0, locals := 0 } : Room).cells ({ frames := 0, cells := 0, slots := 0, locals := 0 } : Room).slots) := by
  refine MetFree.of_bodySF (plainFor_of_name own_lost_pn) hisR ?_
  intro p e s m args below meth c s₁ Bd hml0 hP hK
  obtain ⟨rfl, hZ, hh⟩ := hP
  have hx := Bd.exec
  have hby := Bd.bytes
  have hml : c.maxLocals = 1 := hml0
  have hown : s.vm.findClass "com/example/pairwright/pairwright/model/Result" = some m.cls := findClass_of_methodNamed Bd.named
  have hnm := (name_of_methodNamed Bd.named Bd.method).1
  have X0 : Stand p l e ({ frames := 0, cells := 0, slots := 0, locals := 0 } : Room) s m #[(.ref a1)] below meth c s₁ [] 0 0 := Stand.of_body Bd
  have e0 : s₁.heap = h0 := by rw [← hh, Bd.state]; rfl
  have N0 := Fr.nil n0
  have pp0 : ∀ t, Steps p.tables e below (s₁.setTop (mkF m 0 #[.val (.ref a1)] [])) t → Steps p.tables e below (s₁.setTop (entryFrame m #[(.ref a1)] 1)) t := fun t k => castTop (own_lost_ef m a1) k
  have pp101 : ∀ t, Steps p.tables e below (s₁.setTop (mkF m 1 #[.val (.ref a1)] [(.ref a1)])) t → Steps p.tables e below (s₁.setTop (entryFrame m #[(.ref a1)] 1)) t := fun t k => pp0 t (by
    refine XS.aloadN X0.here hx rfl (hb hby own_lost_d0) rfl rfl ?_
    show Steps p.tables e below (s₁.setTop (mkF m 1 #[.val (.ref a1)] [(.ref a1)])) _
    exact k)
  obtain ⟨T102, X102, e102, st102⟩ := getS2 X0 hx hZ hown (host := "") (Or.inl (hw _ (List.mem_of_getElem? (i := 54) rfl))) Via.refl e0 S1 (g := (mkF m 1 #[.val (.ref a1)] [(.ref a1)])) rfl (hb hby own_lost_d1)
  have pp103 : ∀ t, Steps p.tables e below (T102.setTop (mkF m 4 #[.val (.ref a1)] [(.ref z1), (.ref a1)])) t → Steps p.tables e below (s₁.setTop (entryFrame m #[(.ref a1)] 1)) t := fun t k => pp101 t (st102 t k)
  by_cases hA : a1 = z1
  · have pp104 : ∀ t, Steps p.tables e below (T102.setTop (mkF m 19 #[.val (.ref a1)] [(.int (1 : Int32))])) t → Steps p.tables e below (s₁.setTop (entryFrame m #[(.ref a1)] 1)) t := fun t k => pp103 t (by
      refine Jvm.RoadKit.acmp (g := (mkF m 4 #[.val (.ref a1)] [(.ref z1), (.ref a1)])) X102 hx rfl rfl rfl (pc0 := 4) (pc' := 14) (same := true) rfl (hb hby own_lost_d4) rfl (decide_eq_true (congrArg Value.ref hA)) (by decide) (by decide) ?_
      show Steps p.tables e below (T102.setTop (mkF m 14 #[.val (.ref a1)] [])) _
      refine XS.iconst X102.here hx rfl (hb hby own_lost_d14) ?_
      show Steps p.tables e below (T102.setTop (mkF m 15 #[.val (.ref a1)] [(.int (1 : Int32))])) _
      refine XS.goto X102.here hx rfl (pc0 := 15) (pc' := 19) rfl (hb hby own_lost_d15) (by decide) (by decide) ?_
      show Steps p.tables e below (T102.setTop (mkF m 19 #[.val (.ref a1)] [(.int (1 : Int32))])) _
      exact k)
    obtain ⟨fs, hr, hrun, hended, hW, hsame⟩ := X102.leave (v := some (.int (1 : Int32))) (fun h => by rw [Bd.returns] at h; cases h)
    refine ⟨_, _, pp104 _ ?_, hrun, hended, _, _, rfl, ?_, ⟨_, rfl⟩, hW, hsame.mono (by decide) (by decide)⟩
    · exact retN X102 hx (t := .boolean) Bd.returns (by simp) (hb hby own_lost_d19) hr
    · show Q_own_lost Z a1 z1 z4 h0 n0 _ T102.heap _
      rw [e102]
      exact ⟨by rw [own_or1 hA], N0, rfl⟩
  · have pp105 : ∀ t, Steps p.tables e below (T102.setTop (mkF m 8 #[.val (.ref a1)] [(.ref a1)])) t → Steps p.tables e below (s₁.setTop (entryFrame m #[(.ref a1)] 1)) t := fun t k => pp103 t (by
      refine Jvm.RoadKit.acmp (g := (mkF m 4 #[.val (.ref a1)] [(.ref z1), (.ref a1)])) X102 hx rfl rfl rfl (pc0 := 4) (pc' := 7) (same := false) rfl (hb hby own_lost_d4) rfl (decide_eq_false fun q => hA (Value.ref.inj q)) (by decide) (by decide) ?_
      show Steps p.tables e below (T102.setTop (mkF m 7 #[.val (.ref a1)] [])) _
      refine XS.aloadN X102.here hx rfl (hb hby own_lost_d7) rfl rfl ?_
      show Steps p.tables e below (T102.setTop (mkF m 8 #[.val (.ref a1)] [(.ref a1)])) _
      exact k)
    obtain ⟨T106, X106, e106, st106⟩ := getS2 X102 hx hZ hown (host := "") (Or.inl (hw _ (List.mem_of_getElem? (i := 55) rfl))) Via.refl e102 S4 (g := (mkF m 8 #[.val (.ref a1)] [(.ref a1)])) rfl (hb hby own_lost_d8)
    have pp107 : ∀ t, Steps p.tables e below (T106.setTop (mkF m 11 #[.val (.ref a1)] [(.ref z4), (.ref a1)])) t → Steps p.tables e below (s₁.setTop (entryFrame m #[(.ref a1)] 1)) t := fun t k => pp105 t (st106 t k)
    by_cases hB : a1 = z4
    · have pp108 : ∀ t, Steps p.tables e below (T106.setTop (mkF m 19 #[.val (.ref a1)] [(.int (1 : Int32))])) t → Steps p.tables e below (s₁.setTop (entryFrame m #[(.ref a1)] 1)) t := fun t k => pp107 t (by
        refine Jvm.RoadKit.acmp (g := (mkF m 11 #[.val (.ref a1)] [(.ref z4), (.ref a1)])) X106 hx rfl rfl rfl (pc0 := 11) (pc' := 14) (same := true) rfl (hb hby own_lost_d11) rfl (decide_eq_true (congrArg Value.ref hB)) (by decide) (by decide) ?_
        show Steps p.tables e below (T106.setTop (mkF m 14 #[.val (.ref a1)] [])) _
        refine XS.iconst X106.here hx rfl (hb hby own_lost_d14) ?_
        show Steps p.tables e below (T106.setTop (mkF m 15 #[.val (.ref a1)] [(.int (1 : Int32))])) _
        refine XS.goto X106.here hx rfl (pc0 := 15) (pc' := 19) rfl (hb hby own_lost_d15) (by decide) (by decide) ?_
        show Steps p.tables e below (T106.setTop (mkF m 19 #[.val (.ref a1)] [(.int (1 : Int32))])) _
        exact k)
      obtain ⟨fs, hr, hrun, hended, hW, hsame⟩ := X106.leave (v := some (.int (1 : Int32))) (fun h => by rw [Bd.returns] at h; cases h)
      refine ⟨_, _, pp108 _ ?_, hrun, hended, _, _, rfl, ?_, ⟨_, rfl⟩, hW, hsame.mono (by decide) (by decide)⟩
      · exact retN X106 hx (t := .boolean) Bd.returns (by simp) (hb hby own_lost_d19) hr
      · show Q_own_lost Z a1 z1 z4 h0 n0 _ T106.heap _
        rw [e106]
        exact ⟨by rw [own_or2 hA hB], N0, rfl⟩
    · have pp109 : ∀ t, Steps p.tables e below (T106.setTop (mkF m 19 #[.val (.ref a1)] [(.int (0 : Int32))])) t → Steps p.tables e below (s₁.setTop (entryFrame m #[(.ref a1)] 1)) t := fun t k => pp107 t (by
        refine Jvm.RoadKit.acmp (g := (mkF m 11 #[.val (.ref a1)] [(.ref z4), (.ref a1)])) X106 hx rfl rfl rfl (pc0 := 11) (pc' := 18) (same := false) rfl (hb hby own_lost_d11) rfl (decide_eq_false fun q => hB (Value.ref.inj q)) (by decide) (by decide) ?_
        show Steps p.tables e below (T106.setTop (mkF m 18 #[.val (.ref a1)] [])) _
        refine XS.iconst X106.here hx rfl (hb hby own_lost_d18) ?_
        show Steps p.tables e below (T106.setTop (mkF m 19 #[.val (.ref a1)] [(.int (0 : Int32))])) _
        exact k)
      obtain ⟨fs, hr, hrun, hended, hW, hsame⟩ := X106.leave (v := some (.int (0 : Int32))) (fun h => by rw [Bd.returns] at h; cases h)
      refine ⟨_, _, pp109 _ ?_, hrun, hended, _, _, rfl, ?_, ⟨_, rfl⟩, hW, hsame.mono (by decide) (by decide)⟩
      · exact retN X106 hx (t := .boolean) Bd.returns (by simp) (hb hby own_lost_d19) hr
      · show Q_own_lost Z a1 z1 z4 h0 n0 _ T106.heap _
        rw [e106]
        exact ⟨by rw [own_or3 hA hB], N0, rfl⟩
theorem own_won_d0 : decode prog_38_method_7_code 0 = .ok (.aload_n 0, 1) := by decide +kernel
theorem own_won_d1 : decode prog_38_method_7_code 1 = .ok (.getstatic 3, 3) := by decide +kernel
theorem own_won_d4 : decode prog_38_method_7_code 4 = .ok (.if_acmp .eq 10, 3) := by decide +kernel
theorem own_won_d7 : decode prog_38_method_7_code 7 = .ok (.aload_n 0, 1) := by decide +kernel
theorem own_won_d8 : decode prog_38_method_7_code 8 = .ok (.getstatic 13, 3) := by decide +kernel
theorem own_won_d11 : decode prog_38_method_7_code 11 = .ok (.if_acmp .ne 7, 3) := by decide +kernel
theorem own_won_d14 : decode prog_38_method_7_code 14 = .ok (.iconst 1, 1) := by decide +kernel
theorem own_won_d15 : decode prog_38_method_7_code 15 = .ok (.goto 4, 3) := by decide +kernel
theorem own_won_d18 : decode prog_38_method_7_code 18 = .ok (.iconst 0, 1) := by decide +kernel
theorem own_won_d19 : decode prog_38_method_7_code 19 = .ok (.ireturn, 1) := by decide +kernel
theorem own_won_pn : plainName "com/example/pairwright/pairwright/model/Result" = true := by first | (simp [plainName, overriddenIn]; done) | decide +kernel
theorem own_won_ef (m : MethodId) (x0 : Addr) : entryFrame m #[(.ref x0)] 1 = mkF m 0 #[.val (.ref x0)] [] := by first | (simp [entryFrame, mkF, argsToLocals, Value.category]; done) | rfl
def Q_own_won (Z : State) (a1 : Addr) (z0 : Addr) (z3 : Addr) (h0 : Heap) (n0 : Nat) (v : Option Value) (h : Heap) (L : List Loc) : Prop := v = some (.int (own_or a1 z0 z3)) ∧ Fr n0 L ∧ h = h0
set_option maxRecDepth 65536 in
set_option maxHeartbeats 40000000 in
theorem own_won (l : Launch) (Z : State) (a0 : Array Value) (hw : ∀ d ∈ tables_1, d.before a0 Z = true) (ws : List Jvm.Cond) (a1 : Addr) (z0 : Addr) (z3 : Addr) (h0 : Heap) (n0 : Nat) (Z0 : n0 ≤ h0.size) (S0 : Sta Z h0 "com/example/pairwright/pairwright/model/Result" "WIN" "Lcom/example/pairwright/pairwright/model/Result;" (.ref z0)) (S3 : Sta Z h0 "com/example/pairwright/pairwright/model/Result" "SHORT_WIN" "Lcom/example/pairwright/pairwright/model/Result;" (.ref z3)) :
    MetFree l (⟨"com/example/pairwright/pairwright/model/Result", "won", "()Z"⟩ : MethodName) (head1 (Jvm.Cond.code (⟨"com/example/pairwright/pairwright/model/Result", "won", "()Z"⟩ : MethodName) prog_38_method_7_code 1 (some .boolean) :: ws) ({ frames := 0, cells := 0, slots := 0, locals := 0 } : Room)) (fun a U => a = #[(.ref a1)] ∧ Z.Warmed39 U.vm ∧ U.heap = h0) (fun _ _ _ _ _ => True) (fun _ U o U' => ∃ v L, o = .returned v ∧ Q_own_won Z a1 z0 z3 h0 n0 v U'.heap L ∧ FrameEnd U o U' L ({ frames := 0, cells := 0, slots := 0, locals := 0 } : Room).cells ({ frames := 0, cells := 0, slots := 0, locals := 0 } : Room).slots) := by
  refine MetFree.of_bodySF (plainFor_of_name own_won_pn) hisR ?_
  intro p e s m args below meth c s₁ Bd hml0 hP hK
  obtain ⟨rfl, hZ, hh⟩ := hP
  have hx := Bd.exec
  have hby := Bd.bytes
  have hml : c.maxLocals = 1 := hml0
  have hown : s.vm.findClass "com/example/pairwright/pairwright/model/Result" = some m.cls := findClass_of_methodNamed Bd.named
  have hnm := (name_of_methodNamed Bd.named Bd.method).1
  have X0 : Stand p l e ({ frames := 0, cells := 0, slots := 0, locals := 0 } : Room) s m #[(.ref a1)] below meth c s₁ [] 0 0 := Stand.of_body Bd
  have e0 : s₁.heap = h0 := by rw [← hh, Bd.state]; rfl
  have N0 := Fr.nil n0
  have pp0 : ∀ t, Steps p.tables e below (s₁.setTop (mkF m 0 #[.val (.ref a1)] [])) t → Steps p.tables e below (s₁.setTop (entryFrame m #[(.ref a1)] 1)) t := fun t k => castTop (own_won_ef m a1) k
  have pp101 : ∀ t, Steps p.tables e below (s₁.setTop (mkF m 1 #[.val (.ref a1)] [(.ref a1)])) t → Steps p.tables e below (s₁.setTop (entryFrame m #[(.ref a1)] 1)) t := fun t k => pp0 t (by
    refine XS.aloadN X0.here hx rfl (hb hby own_won_d0) rfl rfl ?_
    show Steps p.tables e below (s₁.setTop (mkF m 1 #[.val (.ref a1)] [(.ref a1)])) _
    exact k)
  obtain ⟨T102, X102, e102, st102⟩ := getS2 X0 hx hZ hown (host := "") (Or.inl (hw _ (List.mem_of_getElem? (i := 34) rfl))) Via.refl e0 S0 (g := (mkF m 1 #[.val (.ref a1)] [(.ref a1)])) rfl (hb hby own_won_d1)
  have pp103 : ∀ t, Steps p.tables e below (T102.setTop (mkF m 4 #[.val (.ref a1)] [(.ref z0), (.ref a1)])) t → Steps p.tables e below (s₁.setTop (entryFrame m #[(.ref a1)] 1)) t := fun t k => pp101 t (st102 t k)
  by_cases hA : a1 = z0
  · have pp104 : ∀ t, Steps p.tables e below (T102.setTop (mkF m 19 #[.val (.ref a1)] [(.int (1 : Int32))])) t → Steps p.tables e below (s₁.setTop (entryFrame m #[(.ref a1)] 1)) t := fun t k => pp103 t (by
      refine Jvm.RoadKit.acmp (g := (mkF m 4 #[.val (.ref a1)] [(.ref z0), (.ref a1)])) X102 hx rfl rfl rfl (pc0 := 4) (pc' := 14) (same := true) rfl (hb hby own_won_d4) rfl (decide_eq_true (congrArg Value.ref hA)) (by decide) (by decide) ?_
      show Steps p.tables e below (T102.setTop (mkF m 14 #[.val (.ref a1)] [])) _
      refine XS.iconst X102.here hx rfl (hb hby own_won_d14) ?_
      show Steps p.tables e below (T102.setTop (mkF m 15 #[.val (.ref a1)] [(.int (1 : Int32))])) _
      refine XS.goto X102.here hx rfl (pc0 := 15) (pc' := 19) rfl (hb hby own_won_d15) (by decide) (by decide) ?_
      show Steps p.tables e below (T102.setTop (mkF m 19 #[.val (.ref a1)] [(.int (1 : Int32))])) _
      exact k)
    obtain ⟨fs, hr, hrun, hended, hW, hsame⟩ := X102.leave (v := some (.int (1 : Int32))) (fun h => by rw [Bd.returns] at h; cases h)
    refine ⟨_, _, pp104 _ ?_, hrun, hended, _, _, rfl, ?_, ⟨_, rfl⟩, hW, hsame.mono (by decide) (by decide)⟩
    · exact retN X102 hx (t := .boolean) Bd.returns (by simp) (hb hby own_won_d19) hr
    · show Q_own_won Z a1 z0 z3 h0 n0 _ T102.heap _
      rw [e102]
      exact ⟨by rw [own_or1 hA], N0, rfl⟩
  · have pp105 : ∀ t, Steps p.tables e below (T102.setTop (mkF m 8 #[.val (.ref a1)] [(.ref a1)])) t → Steps p.tables e below (s₁.setTop (entryFrame m #[(.ref a1)] 1)) t := fun t k => pp103 t (by
      refine Jvm.RoadKit.acmp (g := (mkF m 4 #[.val (.ref a1)] [(.ref z0), (.ref a1)])) X102 hx rfl rfl rfl (pc0 := 4) (pc' := 7) (same := false) rfl (hb hby own_won_d4) rfl (decide_eq_false fun q => hA (Value.ref.inj q)) (by decide) (by decide) ?_
      show Steps p.tables e below (T102.setTop (mkF m 7 #[.val (.ref a1)] [])) _
      refine XS.aloadN X102.here hx rfl (hb hby own_won_d7) rfl rfl ?_
      show Steps p.tables e below (T102.setTop (mkF m 8 #[.val (.ref a1)] [(.ref a1)])) _
      exact k)
    obtain ⟨T106, X106, e106, st106⟩ := getS2 X102 hx hZ hown (host := "") (Or.inl (hw _ (List.mem_of_getElem? (i := 56) rfl))) Via.refl e102 S3 (g := (mkF m 8 #[.val (.ref a1)] [(.ref a1)])) rfl (hb hby own_won_d8)
    have pp107 : ∀ t, Steps p.tables e below (T106.setTop (mkF m 11 #[.val (.ref a1)] [(.ref z3), (.ref a1)])) t → Steps p.tables e below (s₁.setTop (entryFrame m #[(.ref a1)] 1)) t := fun t k => pp105 t (st106 t k)
    by_cases hB : a1 = z3
    · have pp108 : ∀ t, Steps p.tables e below (T106.setTop (mkF m 19 #[.val (.ref a1)] [(.int (1 : Int32))])) t → Steps p.tables e below (s₁.setTop (entryFrame m #[(.ref a1)] 1)) t := fun t k => pp107 t (by
        refine Jvm.RoadKit.acmp (g := (mkF m 11 #[.val (.ref a1)] [(.ref z3), (.ref a1)])) X106 hx rfl rfl rfl (pc0 := 11) (pc' := 14) (same := true) rfl (hb hby own_won_d11) rfl (decide_eq_true (congrArg Value.ref hB)) (by decide) (by decide) ?_
        show Steps p.tables e below (T106.setTop (mkF m 14 #[.val (.ref a1)] [])) _
        refine XS.iconst X106.here hx rfl (hb hby own_won_d14) ?_
        show Steps p.tables e below (T106.setTop (mkF m 15 #[.val (.ref a1)] [(.int (1 : Int32))])) _
        refine XS.goto X106.here hx rfl (pc0 := 15) (pc' := 19) rfl (hb hby own_won_d15) (by decide) (by decide) ?_
        show Steps p.tables e below (T106.setTop (mkF m 19 #[.val (.ref a1)] [(.int (1 : Int32))])) _
        exact k)
      obtain ⟨fs, hr, hrun, hended, hW, hsame⟩ := X106.leave (v := some (.int (1 : Int32))) (fun h => by rw [Bd.returns] at h; cases h)
      refine ⟨_, _, pp108 _ ?_, hrun, hended, _, _, rfl, ?_, ⟨_, rfl⟩, hW, hsame.mono (by decide) (by decide)⟩
      · exact retN X106 hx (t := .boolean) Bd.returns (by simp) (hb hby own_won_d19) hr
      · show Q_own_won Z a1 z0 z3 h0 n0 _ T106.heap _
        rw [e106]
        exact ⟨by rw [own_or2 hA hB], N0, rfl⟩
    · have pp109 : ∀ t, Steps p.tables e below (T106.setTop (mkF m 19 #[.val (.ref a1)] [(.int (0 : Int32))])) t → Steps p.tables e below (s₁.setTop (entryFrame m #[(.ref a1)] 1)) t := fun t k => pp107 t (by
        refine Jvm.RoadKit.acmp (g := (mkF m 11 #[.val (.ref a1)] [(.ref z3), (.ref a1)])) X106 hx rfl rfl rfl (pc0 := 11) (pc' := 18) (same := false) rfl (hb hby own_won_d11) rfl (decide_eq_false fun q => hB (Value.ref.inj q)) (by decide) (by decide) ?_
        show Steps p.tables e below (T106.setTop (mkF m 18 #[.val (.ref a1)] [])) _
        refine XS.iconst X106.here hx rfl (hb hby own_won_d18) ?_
        show Steps p.tables e below (T106.setTop (mkF m 19 #[.val (.ref a1)] [(.int (0 : Int32))])) _
        exact k)
      obtain ⟨fs, hr, hrun, hended, hW, hsame⟩ := X106.leave (v := some (.int (0 : Int32))) (fun h => by rw [Bd.returns] at h; cases h)
      refine ⟨_, _, pp109 _ ?_, hrun, hended, _, _, rfl, ?_, ⟨_, rfl⟩, hW, hsame.mono (by decide) (by decide)⟩
      · exact retN X106 hx (t := .boolean) Bd.returns (by simp) (hb hby own_won_d19) hr
      · show Q_own_won Z a1 z0 z3 h0 n0 _ T106.heap _
        rw [e106]
        exact ⟨by rw [own_or3 hA hB], N0, rfl⟩
theorem own_code_d0 : decode prog_38_method_5_code 0 = .ok (.aload_n 0, 1) := by decide +kernel
theorem own_code_d1 : decode prog_38_method_5_code 1 = .ok (.getfield 59, 3) := by decide +kernel
theorem own_code_d4 : decode prog_38_method_5_code 4 = .ok (.ireturn, 1) := by decide +kernel
theorem own_code_pn : plainName "com/example/pairwright/pairwright/model/Result" = true := by first | (simp [plainName, overriddenIn]; done) | decide +kernel
theorem own_code_ef (m : MethodId) (x0 : Addr) : entryFrame m #[(.ref x0)] 1 = mkF m 0 #[.val (.ref x0)] [] := by first | (simp [entryFrame, mkF, argsToLocals, Value.category]; done) | rfl
def Q_own_code (Z : State) (a1 : Addr) (w1 : Int32) (h0 : Heap) (n0 : Nat) (v : Option Value) (h : Heap) (L : List Loc) : Prop := v = some (.int (nar .char w1)) ∧ Fr n0 L ∧ h = h0
set_option maxRecDepth 65536 in
set_option maxHeartbeats 40000000 in
theorem own_code (l : Launch) (Z : State) (a0 : Array Value) (hw : ∀ d ∈ tables_1, d.before a0 Z = true) (ws : List Jvm.Cond) (a1 : Addr) (w1 : Int32) (h0 : Heap) (n0 : Nat) (Z0 : n0 ≤ h0.size) (F1 : Fld Z h0 a1 "com/example/pairwright/pairwright/model/Result" "code" "C" (.int w1)) :
    MetFree l (⟨"com/example/pairwright/pairwright/model/Result", "code", "()C"⟩ : MethodName) (head1 (Jvm.Cond.code (⟨"com/example/pairwright/pairwright/model/Result", "code", "()C"⟩ : MethodName) prog_38_method_5_code 1 (some .char) :: ws) ({ frames := 0, cells := 0, slots := 0, locals := 0 } : Room)) (fun a U => a = #[(.ref a1)] ∧ Z.Warmed39 U.vm ∧ U.heap = h0) (fun _ _ _ _ _ => True) (fun _ U o U' => ∃ v L, o = .returned v ∧ Q_own_code Z a1 w1 h0 n0 v U'.heap L ∧ FrameEnd U o U' L ({ frames := 0, cells := 0, slots := 0, locals := 0 } : Room).cells ({ frames := 0, cells := 0, slots := 0, locals := 0 } : Room).slots) := by
  refine MetFree.of_bodySF (plainFor_of_name own_code_pn) hisR ?_
  intro p e s m args below meth c s₁ Bd hml0 hP hK
  obtain ⟨rfl, hZ, hh⟩ := hP
  have hx := Bd.exec
  have hby := Bd.bytes
  have hml : c.maxLocals = 1 := hml0
  have hown : s.vm.findClass "com/example/pairwright/pairwright/model/Result" = some m.cls := findClass_of_methodNamed Bd.named
  have hnm := (name_of_methodNamed Bd.named Bd.method).1
  have X0 : Stand p l e ({ frames := 0, cells := 0, slots := 0, locals := 0 } : Room) s m #[(.ref a1)] below meth c s₁ [] 0 0 := Stand.of_body Bd
  have e0 : s₁.heap = h0 := by rw [← hh, Bd.state]; rfl
  have N0 := Fr.nil n0
  have pp0 : ∀ t, Steps p.tables e below (s₁.setTop (mkF m 0 #[.val (.ref a1)] [])) t → Steps p.tables e below (s₁.setTop (entryFrame m #[(.ref a1)] 1)) t := fun t k => castTop (own_code_ef m a1) k
  have pp101 : ∀ t, Steps p.tables e below (s₁.setTop (mkF m 1 #[.val (.ref a1)] [(.ref a1)])) t → Steps p.tables e below (s₁.setTop (entryFrame m #[(.ref a1)] 1)) t := fun t k => pp0 t (by
    refine XS.aloadN X0.here hx rfl (hb hby own_code_d0) rfl rfl ?_
    show Steps p.tables e below (s₁.setTop (mkF m 1 #[.val (.ref a1)] [(.ref a1)])) _
    exact k)
  obtain ⟨T102, X102, e102, st102⟩ := getF X0 hx hZ hown (host := "") (Or.inl (hw _ (List.mem_of_getElem? (i := 40) rfl))) Via.refl e0 F1 (g := (mkF m 1 #[.val (.ref a1)] [(.ref a1)])) rfl rfl (hb hby own_code_d1)
  have pp103 : ∀ t, Steps p.tables e below (T102.setTop (mkF m 4 #[.val (.ref a1)] [(.int w1)])) t → Steps p.tables e below (s₁.setTop (entryFrame m #[(.ref a1)] 1)) t := fun t k => pp101 t (st102 t k)
  obtain ⟨fs, hr, hrun, hended, hW, hsame⟩ := X102.leave (v := some (.int (nar .char w1))) (fun h => by rw [Bd.returns] at h; cases h)
  refine ⟨_, _, pp103 _ ?_, hrun, hended, _, _, rfl, ?_, ⟨_, rfl⟩, hW, hsame.mono (by decide) (by decide)⟩
  · exact retN X102 hx (t := .char) Bd.returns (by simp) (hb hby own_code_d4) hr
  · show Q_own_code Z a1 w1 h0 n0 _ T102.heap _
    rw [e102]
    exact ⟨rfl, N0, rfl⟩
theorem own_played_d0 : decode prog_38_method_6_code 0 = .ok (.aload_n 0, 1) := by decide +kernel
theorem own_played_d1 : decode prog_38_method_6_code 1 = .ok (.getfield 63, 3) := by decide +kernel
theorem own_played_d4 : decode prog_38_method_6_code 4 = .ok (.ireturn, 1) := by decide +kernel
theorem own_played_pn : plainName "com/example/pairwright/pairwright/model/Result" = true := by first | (simp [plainName, overriddenIn]; done) | decide +kernel
theorem own_played_ef (m : MethodId) (x0 : Addr) : entryFrame m #[(.ref x0)] 1 = mkF m 0 #[.val (.ref x0)] [] := by first | (simp [entryFrame, mkF, argsToLocals, Value.category]; done) | rfl
def Q_own_played (Z : State) (a1 : Addr) (w1 : Int32) (h0 : Heap) (n0 : Nat) (v : Option Value) (h : Heap) (L : List Loc) : Prop := v = some (.int (nar .boolean w1)) ∧ Fr n0 L ∧ h = h0
set_option maxRecDepth 65536 in
set_option maxHeartbeats 40000000 in
theorem own_played (l : Launch) (Z : State) (a0 : Array Value) (hw : ∀ d ∈ tables_1, d.before a0 Z = true) (ws : List Jvm.Cond) (a1 : Addr) (w1 : Int32) (h0 : Heap) (n0 : Nat) (Z0 : n0 ≤ h0.size) (F1 : Fld Z h0 a1 "com/example/pairwright/pairwright/model/Result" "played" "Z" (.int w1)) :
    MetFree l (⟨"com/example/pairwright/pairwright/model/Result", "played", "()Z"⟩ : MethodName) (head1 (Jvm.Cond.code (⟨"com/example/pairwright/pairwright/model/Result", "played", "()Z"⟩ : MethodName) prog_38_method_6_code 1 (some .boolean) :: ws) ({ frames := 0, cells := 0, slots := 0, locals := 0 } : Room)) (fun a U => a = #[(.ref a1)] ∧ Z.Warmed39 U.vm ∧ U.heap = h0) (fun _ _ _ _ _ => True) (fun _ U o U' => ∃ v L, o = .returned v ∧ Q_own_played Z a1 w1 h0 n0 v U'.heap L ∧ FrameEnd U o U' L ({ frames := 0, cells := 0, slots := 0, locals := 0 } : Room).cells ({ frames := 0, cells := 0, slots := 0, locals := 0 } : Room).slots) := by
  refine MetFree.of_bodySF (plainFor_of_name own_played_pn) hisR ?_
  intro p e s m args below meth c s₁ Bd hml0 hP hK
  obtain ⟨rfl, hZ, hh⟩ := hP
  have hx := Bd.exec
  have hby := Bd.bytes
  have hml : c.maxLocals = 1 := hml0
  have hown : s.vm.findClass "com/example/pairwright/pairwright/model/Result" = some m.cls := findClass_of_methodNamed Bd.named
  have hnm := (name_of_methodNamed Bd.named Bd.method).1
  have X0 : Stand p l e ({ frames := 0, cells := 0, slots := 0, locals := 0 } : Room) s m #[(.ref a1)] below meth c s₁ [] 0 0 := Stand.of_body Bd
  have e0 : s₁.heap = h0 := by rw [← hh, Bd.state]; rfl
  have N0 := Fr.nil n0
  have pp0 : ∀ t, Steps p.tables e below (s₁.setTop (mkF m 0 #[.val (.ref a1)] [])) t → Steps p.tables e below (s₁.setTop (entryFrame m #[(.ref a1)] 1)) t := fun t k => castTop (own_played_ef m a1) k
  have pp101 : ∀ t, Steps p.tables e below (s₁.setTop (mkF m 1 #[.val (.ref a1)] [(.ref a1)])) t → Steps p.tables e below (s₁.setTop (entryFrame m #[(.ref a1)] 1)) t := fun t k => pp0 t (by
    refine XS.aloadN X0.here hx rfl (hb hby own_played_d0) rfl rfl ?_
    show Steps p.tables e below (s₁.setTop (mkF m 1 #[.val (.ref a1)] [(.ref a1)])) _
    exact k)
  obtain ⟨T102, X102, e102, st102⟩ := getF X0 hx hZ hown (host := "") (Or.inl (hw _ (List.mem_of_getElem? (i := 47) rfl))) Via.refl e0 F1 (g := (mkF m 1 #[.val (.ref a1)] [(.ref a1)])) rfl rfl (hb hby own_played_d1)
  have pp103 : ∀ t, Steps p.tables e below (T102.setTop (mkF m 4 #[.val (.ref a1)] [(.int w1)])) t → Steps p.tables e below (s₁.setTop (entryFrame m #[(.ref a1)] 1)) t := fun t k => pp101 t (st102 t k)
  obtain ⟨fs, hr, hrun, hended, hW, hsame⟩ := X102.leave (v := some (.int (nar .boolean w1))) (fun h => by rw [Bd.returns] at h; cases h)
  refine ⟨_, _, pp103 _ ?_, hrun, hended, _, _, rfl, ?_, ⟨_, rfl⟩, hW, hsame.mono (by decide) (by decide)⟩
  · exact retN X102 hx (t := .boolean) Bd.returns (by simp) (hb hby own_played_d4) hr
  · show Q_own_played Z a1 w1 h0 n0 _ T102.heap _
    rw [e102]
    exact ⟨rfl, N0, rfl⟩
theorem pd___Z : parseMethodDescriptor "()Z" = some ⟨[], some .boolean⟩ := by decide +kernel
theorem pd___C : parseMethodDescriptor "()C" = some ⟨[], some .char⟩ := by decide +kernel
theorem own_law_pn : plainName "com/example/pairwright/pairwright/model/ResultWonPinLaw" = true := by first | (simp [plainName, overriddenIn]; done) | decide +kernel
theorem own_law_ef (m : MethodId) (x0 : Int32) : entryFrame m #[(.int x0)] maxLocals = mkF m 0 #[.val (.int x0), .unset, .unset, .unset, .unset, .unset] [] := by first | (simp [entryFrame, mkF, argsToLocals, Value.category, maxLocals]; done) | rfl
def Q_own_law (Z : State) (p1 : Int32) (z0 : Addr) (z1 : Addr) (z2 : Addr) (z3 : Addr) (z4 : Addr) (z5 : Addr) (z6 : Addr) (z7 : Addr) (z8 : Addr) (z9 : Addr) (z10 : Addr) (z11 : Addr) (h0 : Heap) (n0 : Nat) (v : Option Value) (h : Heap) (L : List Loc) : Prop := v = some (.int 1) ∧ Fr n0 L
set_option maxRecDepth 65536 in
set_option maxHeartbeats 40000000 in
theorem own_law (l : Launch) (Z : State) (a0 : Array Value) (hw : ∀ d ∈ tables_1, d.before a0 Z = true) (ws : List Jvm.Cond) (p1 : Int32) (z0 : Addr) (z1 : Addr) (z2 : Addr) (z3 : Addr) (z4 : Addr) (z5 : Addr) (z6 : Addr) (z7 : Addr) (z8 : Addr) (z9 : Addr) (z10 : Addr) (z11 : Addr) (h0 : Heap) (n0 : Nat) (Z0 : n0 ≤ h0.size) (S0 : Sta Z h0 "com/example/pairwright/pairwright/model/Result" "WIN" "Lcom/example/pairwright/pairwright/model/Result;" (.ref z0)) (E0 : Exa Z h0 z0 "com/example/pairwright/pairwright/model/Result") (C0 : Fld Z h0 z0 "com/example/pairwright/pairwright/model/Result" "code" "C" (.int (49 : Int32))) (P0 : Fld Z h0 z0 "com/example/pairwright/pairwright/model/Result" "played" "Z" (.int (1 : Int32))) (S1 : Sta Z h0 "com/example/pairwright/pairwright/model/Result" "LOSS" "Lcom/example/pairwright/pairwright/model/Result;" (.ref z1)) (E1 : Exa Z h0 z1 "com/example/pairwright/pairwright/model/Result") (C1 : Fld Z h0 z1 "com/example/pairwright/pairwright/model/Result" "code" "C" (.int (48 : Int32))) (P1 : Fld Z h0 z1 "com/example/pairwright/pairwright/model/Result" "played" "Z" (.int (1 : Int32))) (S2 : Sta Z h0 "com/example/pairwright/pairwright/model/Result" "DRAW" "Lcom/example/pairwright/pairwright/model/Result;" (.ref z2)) (E2 : Exa Z h0 z2 "com/example/pairwright/pairwright/model/Result") (C2 : Fld Z h0 z2 "com/example/pairwright/pairwright/model/Result" "code" "C" (.int (61 : Int32))) (P2 : Fld Z h0 z2 "com/example/pairwright/pairwright/model/Result" "played" "Z" (.int (1 : Int32))) (S3 : Sta Z h0 "com/example/pairwright/pairwright/model/Result" "SHORT_WIN" "Lcom/example/pairwright/pairwright/model/Result;" (.ref z3)) (E3 : Exa Z h0 z3 "com/example/pairwright/pairwright/model/Result") (C3 : Fld Z h0 z3 "com/example/pairwright/pairwright/model/Result" "code" "C" (.int (87 : Int32))) (P3 : Fld Z h0 z3 "com/example/pairwright/pairwright/model/Result" "played" "Z" (.int (1 : Int32))) (S4 : Sta Z h0 "com/example/pairwright/pairwright/model/Result" "SHORT_LOSS" "Lcom/example/pairwright/pairwright/model/Result;" (.ref z4)) (E4 : Exa Z h0 z4 "com/example/pairwright/pairwright/model/Result") (C4 : Fld Z h0 z4 "com/example/pairwright/pairwright/model/Result" "code" "C" (.int (76 : Int32))) (P4 : Fld Z h0 z4 "com/example/pairwright/pairwright/model/Result" "played" "Z" (.int (1 : Int32))) (S5 : Sta Z h0 "com/example/pairwright/pairwright/model/Result" "SHORT_DRAW" "Lcom/example/pairwright/pairwright/model/Result;" (.ref z5)) (E5 : Exa Z h0 z5 "com/example/pairwright/pairwright/model/Result") (C5 : Fld Z h0 z5 "com/example/pairwright/pairwright/model/Result" "code" "C" (.int (68 : Int32))) (P5 : Fld Z h0 z5 "com/example/pairwright/pairwright/model/Result" "played" "Z" (.int (1 : Int32))) (S6 : Sta Z h0 "com/example/pairwright/pairwright/model/Result" "FORFEIT_WIN" "Lcom/example/pairwright/pairwright/model/Result;" (.ref z6)) (E6 : Exa Z h0 z6 "com/example/pairwright/pairwright/model/Result") (C6 : Fld Z h0 z6 "com/example/pairwright/pairwright/model/Result" "code" "C" (.int (43 : Int32))) (P6 : Fld Z h0 z6 "com/example/pairwright/pairwright/model/Result" "played" "Z" (.int (0 : Int32))) (S7 : Sta Z h0 "com/example/pairwright/pairwright/model/Result" "FORFEIT_LOSS" "Lcom/example/pairwright/pairwright/model/Result;" (.ref z7)) (E7 : Exa Z h0 z7 "com/example/pairwright/pairwright/model/Result") (C7 : Fld Z h0 z7 "com/example/pairwright/pairwright/model/Result" "code" "C" (.int (45 : Int32))) (P7 : Fld Z h0 z7 "com/example/pairwright/pairwright/model/Result" "played" "Z" (.int (0 : Int32))) (S8 : Sta Z h0 "com/example/pairwright/pairwright/model/Result" "HALF_POINT_BYE" "Lcom/example/pairwright/pairwright/model/Result;" (.ref z8)) (E8 : Exa Z h0 z8 "com/example/pairwright/pairwright/model/Result") (C8 : Fld Z h0 z8 "com/example/pairwright/pairwright/model/Result" "code" "C" (.int (72 : Int32))) (P8 : Fld Z h0 z8 "com/example/pairwright/pairwright/model/Result" "played" "Z" (.int (0 : Int32))) (S9 : Sta Z h0 "com/example/pairwright/pairwright/model/Result" "FULL_POINT_BYE" "Lcom/example/pairwright/pairwright/model/Result;" (.ref z9)) (E9 : Exa Z h0 z9 "com/example/pairwright/pairwright/model/Result") (C9 : Fld Z h0 z9 "com/example/pairwright/pairwright/model/Result" "code" "C" (.int (70 : Int32))) (P9 : Fld Z h0 z9 "com/example/pairwright/pairwright/model/Result" "played" "Z" (.int (0 : Int32))) (S10 : Sta Z h0 "com/example/pairwright/pairwright/model/Result" "PAIRING_ALLOCATED_BYE" "Lcom/example/pairwright/pairwright/model/Result;" (.ref z10)) (E10 : Exa Z h0 z10 "com/example/pairwright/pairwright/model/Result") (C10 : Fld Z h0 z10 "com/example/pairwright/pairwright/model/Result" "code" "C" (.int (85 : Int32))) (P10 : Fld Z h0 z10 "com/example/pairwright/pairwright/model/Result" "played" "Z" (.int (0 : Int32))) (S11 : Sta Z h0 "com/example/pairwright/pairwright/model/Result" "NOT_PAIRED" "Lcom/example/pairwright/pairwright/model/Result;" (.ref z11)) (E11 : Exa Z h0 z11 "com/example/pairwright/pairwright/model/Result") (C11 : Fld Z h0 z11 "com/example/pairwright/pairwright/model/Result" "code" "C" (.int (90 : Int32))) (P11 : Fld Z h0 z11 "com/example/pairwright/pairwright/model/Result" "played" "Z" (.int (0 : Int32))) :
    MetFree l x (head1 (Jvm.Cond.code x code maxLocals ret :: ws) room_1) (fun a U => a = #[(.int p1)] ∧ Z.Warmed39 U.vm ∧ U.heap = h0) (fun _ _ _ _ _ => True) (fun _ U o U' => ∃ v L, o = .returned v ∧ Q_own_law Z p1 z0 z1 z2 z3 z4 z5 z6 z7 z8 z9 z10 z11 h0 n0 v U'.heap L ∧ FrameEnd U o U' L room_1.cells room_1.slots) := by
  refine MetFree.of_bodySF (plainFor_of_name own_law_pn) hisR ?_
  intro p e s m args below meth c s₁ Bd hml0 hP hK
  obtain ⟨rfl, hZ, hh⟩ := hP
  have hx := Bd.exec
  have hby := Bd.bytes
  have hml : c.maxLocals = 6 := hml0
  have hown : s.vm.findClass "com/example/pairwright/pairwright/model/ResultWonPinLaw" = some m.cls := findClass_of_methodNamed Bd.named
  have hnm := (name_of_methodNamed Bd.named Bd.method).1
  have X0 : Stand p l e room_1 s m #[(.int p1)] below meth c s₁ [] 0 0 := Stand.of_body Bd
  have e0 : s₁.heap = h0 := by rw [← hh, Bd.state]; rfl
  have N0 := Fr.nil n0
  have pp0 : ∀ t, Steps p.tables e below (s₁.setTop (mkF m 0 #[.val (.int p1), .unset, .unset, .unset, .unset, .unset] [])) t → Steps p.tables e below (s₁.setTop (entryFrame m #[(.int p1)] maxLocals)) t := fun t k => castTop (own_law_ef m p1) k
  have ne1_0 : z1 ≠ z0 := own_fne C1 C0 (by decide)
  have ne2_0 : z2 ≠ z0 := own_fne C2 C0 (by decide)
  have ne3_0 : z3 ≠ z0 := own_fne C3 C0 (by decide)
  have ne4_0 : z4 ≠ z0 := own_fne C4 C0 (by decide)
  have ne5_0 : z5 ≠ z0 := own_fne C5 C0 (by decide)
  have ne6_0 : z6 ≠ z0 := own_fne C6 C0 (by decide)
  have ne7_0 : z7 ≠ z0 := own_fne C7 C0 (by decide)
  have ne8_0 : z8 ≠ z0 := own_fne C8 C0 (by decide)
  have ne9_0 : z9 ≠ z0 := own_fne C9 C0 (by decide)
  have ne10_0 : z10 ≠ z0 := own_fne C10 C0 (by decide)
  have ne11_0 : z11 ≠ z0 := own_fne C11 C0 (by decide)
  have ne0_1 : z0 ≠ z1 := own_fne C0 C1 (by decide)
  have ne2_1 : z2 ≠ z1 := own_fne C2 C1 (by decide)
  have ne3_1 : z3 ≠ z1 := own_fne C3 C1 (by decide)
  have ne4_1 : z4 ≠ z1 := own_fne C4 C1 (by decide)
  have ne5_1 : z5 ≠ z1 := own_fne C5 C1 (by decide)
  have ne6_1 : z6 ≠ z1 := own_fne C6 C1 (by decide)
  have ne7_1 : z7 ≠ z1 := own_fne C7 C1 (by decide)
  have ne8_1 : z8 ≠ z1 := own_fne C8 C1 (by decide)
  have ne9_1 : z9 ≠ z1 := own_fne C9 C1 (by decide)
  have ne10_1 : z10 ≠ z1 := own_fne C10 C1 (by decide)
  have ne11_1 : z11 ≠ z1 := own_fne C11 C1 (by decide)
  have ne0_3 : z0 ≠ z3 := own_fne C0 C3 (by decide)
  have ne1_3 : z1 ≠ z3 := own_fne C1 C3 (by decide)
  have ne2_3 : z2 ≠ z3 := own_fne C2 C3 (by decide)
  have ne4_3 : z4 ≠ z3 := own_fne C4 C3 (by decide)
  have ne5_3 : z5 ≠ z3 := own_fne C5 C3 (by decide)
  have ne6_3 : z6 ≠ z3 := own_fne C6 C3 (by decide)
  have ne7_3 : z7 ≠ z3 := own_fne C7 C3 (by decide)
  have ne8_3 : z8 ≠ z3 := own_fne C8 C3 (by decide)
  have ne9_3 : z9 ≠ z3 := own_fne C9 C3 (by decide)
  have ne10_3 : z10 ≠ z3 := own_fne C10 C3 (by decide)
  have ne11_3 : z11 ≠ z3 := own_fne C11 C3 (by decide)
  have ne0_4 : z0 ≠ z4 := own_fne C0 C4 (by decide)
  have ne1_4 : z1 ≠ z4 := own_fne C1 C4 (by decide)
  have ne2_4 : z2 ≠ z4 := own_fne C2 C4 (by decide)
  have ne3_4 : z3 ≠ z4 := own_fne C3 C4 (by decide)
  have ne5_4 : z5 ≠ z4 := own_fne C5 C4 (by decide)
  have ne6_4 : z6 ≠ z4 := own_fne C6 C4 (by decide)
  have ne7_4 : z7 ≠ z4 := own_fne C7 C4 (by decide)
  have ne8_4 : z8 ≠ z4 := own_fne C8 C4 (by decide)
  have ne9_4 : z9 ≠ z4 := own_fne C9 C4 (by decide)
  have ne10_4 : z10 ≠ z4 := own_fne C10 C4 (by decide)
  have ne11_4 : z11 ≠ z4 := own_fne C11 C4 (by decide)
  have pp101 : ∀ t, Steps p.tables e below (s₁.setTop (mkF m 2 #[.val (.int p1), .unset, .unset, .unset, .unset, .unset] [(.int (12 : Int32))])) t → Steps p.tables e below (s₁.setTop (entryFrame m #[(.int p1)] maxLocals)) t := fun t k => pp0 t (by
    refine XS.bipush X0.here hx rfl (hb hby at_0) ?_
    show Steps p.tables e below (s₁.setTop (mkF m 2 #[.val (.int p1), .unset, .unset, .unset, .unset, .unset] [(.int (12 : Int32))])) _
    exact k)
  obtain ⟨T102, h102, k102, X102, e102, E102, A102, O102, st102⟩ := newR X0 hx hZ hown (hw _ (List.mem_of_getElem? (i := 0) rfl)) (hw _ (List.mem_of_getElem? (i := 1) rfl)) e0 (g := (mkF m 2 #[.val (.int p1), .unset, .unset, .unset, .unset, .unset] [(.int (12 : Int32))])) rfl (hb hby at_2) rfl (by decide) (cap := 12) (by decide) (by decide) (by decide) (by decide)
  obtain ⟨b102, g102⟩ : ∃ z, z = h0.size := ⟨_, rfl⟩
  rw [← g102] at A102 st102
  have g_b102 : n0 ≤ b102 := Nat.le_trans Z0 (Nat.le_of_eq g102.symm)
  have sz_b102 : h0.size ≤ b102 := Nat.le_trans (Keep.refl h0 []).1 (Nat.le_of_eq g102.symm)
  have V_b102 : Arv Z h102 b102 k102 (.object "com/example/pairwright/pairwright/model/Result") (12 : Int32) [.null, .null, .null, .null, .null, .null, .null, .null, .null, .null, .null, .null] .null := (Arv.new A102 (by decide)).pad (pad_rep [] .null 12)
  have pp103 : ∀ t, Steps p.tables e below (T102.setTop (mkF m 5 #[.val (.int p1), .unset, .unset, .unset, .unset, .unset] [(.ref b102)])) t → Steps p.tables e below (s₁.setTop (entryFrame m #[(.int p1)] maxLocals)) t := fun t k => pp101 t (st102 t k)
  have pp104 : ∀ t, Steps p.tables e below (T102.setTop (mkF m 7 #[.val (.int p1), .unset, .unset, .unset, .unset, .unset] [(.int (0 : Int32)), (.ref b102), (.ref b102)])) t → Steps p.tables e below (s₁.setTop (entryFrame m #[(.int p1)] maxLocals)) t := fun t k => pp103 t (by
    refine XS.dup X102.here hx rfl (hb hby at_5) rfl rfl ?_
    show Steps p.tables e below (T102.setTop (mkF m 6 #[.val (.int p1), .unset, .unset, .unset, .unset, .unset] [(.ref b102), (.ref b102)])) _
    refine XS.iconst X102.here hx rfl (hb hby at_6) ?_
    show Steps p.tables e below (T102.setTop (mkF m 7 #[.val (.int p1), .unset, .unset, .unset, .unset, .unset] [(.int (0 : Int32)), (.ref b102), (.ref b102)])) _
    exact k)
  obtain ⟨T105, X105, e105, st105⟩ := getS2 X102 hx hZ hown (host := "") (Or.inl (hw _ (List.mem_of_getElem? (i := 2) rfl))) Via.refl e102 (S0.ext E102) (g := (mkF m 7 #[.val (.int p1), .unset, .unset, .unset, .unset, .unset] [(.int (0 : Int32)), (.ref b102), (.ref b102)])) rfl (hb hby at_7)
  have pp106 : ∀ t, Steps p.tables e below (T105.setTop (mkF m 10 #[.val (.int p1), .unset, .unset, .unset, .unset, .unset] [(.ref z0), (.int (0 : Int32)), (.ref b102), (.ref b102)])) t → Steps p.tables e below (s₁.setTop (entryFrame m #[(.int p1)] maxLocals)) t := fun t k => pp104 t (st105 t k)
  obtain ⟨cl107, Ar107, q107, S107, N107', H107, G107⟩ := id V_b102
  have hin107 : ¬ ((0 : Int32) < 0 ∨ cl107.slots.size ≤ ((0 : Int32)).toNatClampNeg) := inb_of S107 ⟨by decide, by decide⟩
  obtain ⟨T108, h108, X108, e108, W108, st108⟩ := stR X105 hx hZ e105 Ar107 (j := (0 : Int32)) hin107 rfl (Sto.of Ar107 (by rw [q107]; exact O102) (Ins.self (E0.ext E102))) (g := (mkF m 10 #[.val (.int p1), .unset, .unset, .unset, .unset, .unset] [(.ref z0), (.int (0 : Int32)), (.ref b102), (.ref b102)])) rfl rfl (hb hby at_10)
  have V_b102_108 : Arv Z h108 b102 k102 (.object "com/example/pairwright/pairwright/model/Result") (12 : Int32) [(.ref z0), .null, .null, .null, .null, .null, .null, .null, .null, .null, .null, .null] .null := Arv.set Ar107 q107 S107 N107' H107 G107 rfl W108 0 rfl (Nat.le_of_ble_eq_true rfl)
  have N108 := Fr.snoc X108 N0 g_b102
  have pp109 : ∀ t, Steps p.tables e below (T108.setTop (mkF m 11 #[.val (.int p1), .unset, .unset, .unset, .unset, .unset] [(.ref b102)])) t → Steps p.tables e below (s₁.setTop (entryFrame m #[(.int p1)] maxLocals)) t := fun t k => pp106 t (st108 t k)
  have pp110 : ∀ t, Steps p.tables e below (T108.setTop (mkF m 13 #[.val (.int p1), .unset, .unset, .unset, .unset, .unset] [(.int (1 : Int32)), (.ref b102), (.ref b102)])) t → Steps p.tables e below (s₁.setTop (entryFrame m #[(.int p1)] maxLocals)) t := fun t k => pp109 t (by
    refine XS.dup X108.here hx rfl (hb hby at_11) rfl rfl ?_
    show Steps p.tables e below (T108.setTop (mkF m 12 #[.val (.int p1), .unset, .unset, .unset, .unset, .unset] [(.ref b102), (.ref b102)])) _
    refine XS.iconst X108.here hx rfl (hb hby at_12) ?_
    show Steps p.tables e below (T108.setTop (mkF m 13 #[.val (.int p1), .unset, .unset, .unset, .unset, .unset] [(.int (1 : Int32)), (.ref b102), (.ref b102)])) _
    exact k)
  obtain ⟨T111, X111, e111, st111⟩ := getS2 X108 hx hZ hown (host := "") (Or.inl (hw _ (List.mem_of_getElem? (i := 6) rfl))) Via.refl e108 ((S1.ext E102).wr W108) (g := (mkF m 13 #[.val (.int p1), .unset, .unset, .unset, .unset, .unset] [(.int (1 : Int32)), (.ref b102), (.ref b102)])) rfl (hb hby at_13)
  have pp112 : ∀ t, Steps p.tables e below (T111.setTop (mkF m 16 #[.val (.int p1), .unset, .unset, .unset, .unset, .unset] [(.ref z1), (.int (1 : Int32)), (.ref b102), (.ref b102)])) t → Steps p.tables e below (s₁.setTop (entryFrame m #[(.int p1)] maxLocals)) t := fun t k => pp110 t (st111 t k)
  obtain ⟨cl113, Ar113, q113, S113, N113', H113, G113⟩ := id V_b102_108
  have hin113 : ¬ ((1 : Int32) < 0 ∨ cl113.slots.size ≤ ((1 : Int32)).toNatClampNeg) := inb_of S113 ⟨by decide, by decide⟩
  obtain ⟨T114, h114, X114, e114, W114, st114⟩ := stR X111 hx hZ e111 Ar113 (j := (1 : Int32)) hin113 rfl (Sto.of Ar113 (by rw [q113]; exact O102) (Ins.self ((E1.ext E102).wr W108))) (g := (mkF m 16 #[.val (.int p1), .unset, .unset, .unset, .unset, .unset] [(.ref z1), (.int (1 : Int32)), (.ref b102), (.ref b102)])) rfl rfl (hb hby at_16)
  have V_b102_114 : Arv Z h114 b102 k102 (.object "com/example/pairwright/pairwright/model/Result") (12 : Int32) [(.ref z0), (.ref z1), .null, .null, .null, .null, .null, .null, .null, .null, .null, .null] .null := Arv.set Ar113 q113 S113 N113' H113 G113 rfl W114 1 rfl (Nat.le_of_ble_eq_true rfl)
  have N114 := Fr.snoc X114 N108 g_b102
  have pp115 : ∀ t, Steps p.tables e below (T114.setTop (mkF m 17 #[.val (.int p1), .unset, .unset, .unset, .unset, .unset] [(.ref b102)])) t → Steps p.tables e below (s₁.setTop (entryFrame m #[(.int p1)] maxLocals)) t := fun t k => pp112 t (st114 t k)
  have pp116 : ∀ t, Steps p.tables e below (T114.setTop (mkF m 19 #[.val (.int p1), .unset, .unset, .unset, .unset, .unset] [(.int (2 : Int32)), (.ref b102), (.ref b102)])) t → Steps p.tables e below (s₁.setTop (entryFrame m #[(.int p1)] maxLocals)) t := fun t k => pp115 t (by
    refine XS.dup X114.here hx rfl (hb hby at_17) rfl rfl ?_
    show Steps p.tables e below (T114.setTop (mkF m 18 #[.val (.int p1), .unset, .unset, .unset, .unset, .unset] [(.ref b102), (.ref b102)])) _
    refine XS.iconst X114.here hx rfl (hb hby at_18) ?_
    show Steps p.tables e below (T114.setTop (mkF m 19 #[.val (.int p1), .unset, .unset, .unset, .unset, .unset] [(.int (2 : Int32)), (.ref b102), (.ref b102)])) _
    exact k)
  obtain ⟨T117, X117, e117, st117⟩ := getS2 X114 hx hZ hown (host := "") (Or.inl (hw _ (List.mem_of_getElem? (i := 8) rfl))) Via.refl e114 (((S2.ext E102).wr W108).wr W114) (g := (mkF m 19 #[.val (.int p1), .unset, .unset, .unset, .unset, .unset] [(.int (2 : Int32)), (.ref b102), (.ref b102)])) rfl (hb hby at_19)
  have pp118 : ∀ t, Steps p.tables e below (T117.setTop (mkF m 22 #[.val (.int p1), .unset, .unset, .unset, .unset, .unset] [(.ref z2), (.int (2 : Int32)), (.ref b102), (.ref b102)])) t → Steps p.tables e below (s₁.setTop (entryFrame m #[(.int p1)] maxLocals)) t := fun t k => pp116 t (st117 t k)
  obtain ⟨cl119, Ar119, q119, S119, N119', H119, G119⟩ := id V_b102_114
  have hin119 : ¬ ((2 : Int32) < 0 ∨ cl119.slots.size ≤ ((2 : Int32)).toNatClampNeg) := inb_of S119 ⟨by decide, by decide⟩
  obtain ⟨T120, h120, X120, e120, W120, st120⟩ := stR X117 hx hZ e117 Ar119 (j := (2 : Int32)) hin119 rfl (Sto.of Ar119 (by rw [q119]; exact O102) (Ins.self (((E2.ext E102).wr W108).wr W114))) (g := (mkF m 22 #[.val (.int p1), .unset, .unset, .unset, .unset, .unset] [(.ref z2), (.int (2 : Int32)), (.ref b102), (.ref b102)])) rfl rfl (hb hby at_22)
  have V_b102_120 : Arv Z h120 b102 k102 (.object "com/example/pairwright/pairwright/model/Result") (12 : Int32) [(.ref z0), (.ref z1), (.ref z2), .null, .null, .null, .null, .null, .null, .null, .null, .null] .null := Arv.set Ar119 q119 S119 N119' H119 G119 rfl W120 2 rfl (Nat.le_of_ble_eq_true rfl)
  have N120 := Fr.snoc X120 N114 g_b102
  have pp121 : ∀ t, Steps p.tables e below (T120.setTop (mkF m 23 #[.val (.int p1), .unset, .unset, .unset, .unset, .unset] [(.ref b102)])) t → Steps p.tables e below (s₁.setTop (entryFrame m #[(.int p1)] maxLocals)) t := fun t k => pp118 t (st120 t k)
  have pp122 : ∀ t, Steps p.tables e below (T120.setTop (mkF m 25 #[.val (.int p1), .unset, .unset, .unset, .unset, .unset] [(.int (3 : Int32)), (.ref b102), (.ref b102)])) t → Steps p.tables e below (s₁.setTop (entryFrame m #[(.int p1)] maxLocals)) t := fun t k => pp121 t (by
    refine XS.dup X120.here hx rfl (hb hby at_23) rfl rfl ?_
    show Steps p.tables e below (T120.setTop (mkF m 24 #[.val (.int p1), .unset, .unset, .unset, .unset, .unset] [(.ref b102), (.ref b102)])) _
    refine XS.iconst X120.here hx rfl (hb hby at_24) ?_
    show Steps p.tables e below (T120.setTop (mkF m 25 #[.val (.int p1), .unset, .unset, .unset, .unset, .unset] [(.int (3 : Int32)), (.ref b102), (.ref b102)])) _
    exact k)
  obtain ⟨T123, X123, e123, st123⟩ := getS2 X120 hx hZ hown (host := "") (Or.inl (hw _ (List.mem_of_getElem? (i := 10) rfl))) Via.refl e120 ((((S3.ext E102).wr W108).wr W114).wr W120) (g := (mkF m 25 #[.val (.int p1), .unset, .unset, .unset, .unset, .unset] [(.int (3 : Int32)), (.ref b102), (.ref b102)])) rfl (hb hby at_25)
  have pp124 : ∀ t, Steps p.tables e below (T123.setTop (mkF m 28 #[.val (.int p1), .unset, .unset, .unset, .unset, .unset] [(.ref z3), (.int (3 : Int32)), (.ref b102), (.ref b102)])) t → Steps p.tables e below (s₁.setTop (entryFrame m #[(.int p1)] maxLocals)) t := fun t k => pp122 t (st123 t k)
  obtain ⟨cl125, Ar125, q125, S125, N125', H125, G125⟩ := id V_b102_120
  have hin125 : ¬ ((3 : Int32) < 0 ∨ cl125.slots.size ≤ ((3 : Int32)).toNatClampNeg) := inb_of S125 ⟨by decide, by decide⟩
  obtain ⟨T126, h126, X126, e126, W126, st126⟩ := stR X123 hx hZ e123 Ar125 (j := (3 : Int32)) hin125 rfl (Sto.of Ar125 (by rw [q125]; exact O102) (Ins.self ((((E3.ext E102).wr W108).wr W114).wr W120))) (g := (mkF m 28 #[.val (.int p1), .unset, .unset, .unset, .unset, .unset] [(.ref z3), (.int (3 : Int32)), (.ref b102), (.ref b102)])) rfl rfl (hb hby at_28)
  have V_b102_126 : Arv Z h126 b102 k102 (.object "com/example/pairwright/pairwright/model/Result") (12 : Int32) [(.ref z0), (.ref z1), (.ref z2), (.ref z3), .null, .null, .null, .null, .null, .null, .null, .null] .null := Arv.set Ar125 q125 S125 N125' H125 G125 rfl W126 3 rfl (Nat.le_of_ble_eq_true rfl)
  have N126 := Fr.snoc X126 N120 g_b102
  have pp127 : ∀ t, Steps p.tables e below (T126.setTop (mkF m 29 #[.val (.int p1), .unset, .unset, .unset, .unset, .unset] [(.ref b102)])) t → Steps p.tables e below (s₁.setTop (entryFrame m #[(.int p1)] maxLocals)) t := fun t k => pp124 t (st126 t k)
  have pp128 : ∀ t, Steps p.tables e below (T126.setTop (mkF m 31 #[.val (.int p1), .unset, .unset, .unset, .unset, .unset] [(.int (4 : Int32)), (.ref b102), (.ref b102)])) t → Steps p.tables e below (s₁.setTop (entryFrame m #[(.int p1)] maxLocals)) t := fun t k => pp127 t (by
    refine XS.dup X126.here hx rfl (hb hby at_29) rfl rfl ?_
    show Steps p.tables e below (T126.setTop (mkF m 30 #[.val (.int p1), .unset, .unset, .unset, .unset, .unset] [(.ref b102), (.ref b102)])) _
    refine XS.iconst X126.here hx rfl (hb hby at_30) ?_
    show Steps p.tables e below (T126.setTop (mkF m 31 #[.val (.int p1), .unset, .unset, .unset, .unset, .unset] [(.int (4 : Int32)), (.ref b102), (.ref b102)])) _
    exact k)
  obtain ⟨T129, X129, e129, st129⟩ := getS2 X126 hx hZ hown (host := "") (Or.inl (hw _ (List.mem_of_getElem? (i := 12) rfl))) Via.refl e126 (((((S4.ext E102).wr W108).wr W114).wr W120).wr W126) (g := (mkF m 31 #[.val (.int p1), .unset, .unset, .unset, .unset, .unset] [(.int (4 : Int32)), (.ref b102), (.ref b102)])) rfl (hb hby at_31)
  have pp130 : ∀ t, Steps p.tables e below (T129.setTop (mkF m 34 #[.val (.int p1), .unset, .unset, .unset, .unset, .unset] [(.ref z4), (.int (4 : Int32)), (.ref b102), (.ref b102)])) t → Steps p.tables e below (s₁.setTop (entryFrame m #[(.int p1)] maxLocals)) t := fun t k => pp128 t (st129 t k)
  obtain ⟨cl131, Ar131, q131, S131, N131', H131, G131⟩ := id V_b102_126
  have hin131 : ¬ ((4 : Int32) < 0 ∨ cl131.slots.size ≤ ((4 : Int32)).toNatClampNeg) := inb_of S131 ⟨by decide, by decide⟩
  obtain ⟨T132, h132, X132, e132, W132, st132⟩ := stR X129 hx hZ e129 Ar131 (j := (4 : Int32)) hin131 rfl (Sto.of Ar131 (by rw [q131]; exact O102) (Ins.self (((((E4.ext E102).wr W108).wr W114).wr W120).wr W126))) (g := (mkF m 34 #[.val (.int p1), .unset, .unset, .unset, .unset, .unset] [(.ref z4), (.int (4 : Int32)), (.ref b102), (.ref b102)])) rfl rfl (hb hby at_34)
  have V_b102_132 : Arv Z h132 b102 k102 (.object "com/example/pairwright/pairwright/model/Result") (12 : Int32) [(.ref z0), (.ref z1), (.ref z2), (.ref z3), (.ref z4), .null, .null, .null, .null, .null, .null, .null] .null := Arv.set Ar131 q131 S131 N131' H131 G131 rfl W132 4 rfl (Nat.le_of_ble_eq_true rfl)
  have N132 := Fr.snoc X132 N126 g_b102
  have pp133 : ∀ t, Steps p.tables e below (T132.setTop (mkF m 35 #[.val (.int p1), .unset, .unset, .unset, .unset, .unset] [(.ref b102)])) t → Steps p.tables e below (s₁.setTop (entryFrame m #[(.int p1)] maxLocals)) t := fun t k => pp130 t (st132 t k)
  have pp134 : ∀ t, Steps p.tables e below (T132.setTop (mkF m 37 #[.val (.int p1), .unset, .unset, .unset, .unset, .unset] [(.int (5 : Int32)), (.ref b102), (.ref b102)])) t → Steps p.tables e below (s₁.setTop (entryFrame m #[(.int p1)] maxLocals)) t := fun t k => pp133 t (by
    refine XS.dup X132.here hx rfl (hb hby at_35) rfl rfl ?_
    show Steps p.tables e below (T132.setTop (mkF m 36 #[.val (.int p1), .unset, .unset, .unset, .unset, .unset] [(.ref b102), (.ref b102)])) _
    refine XS.iconst X132.here hx rfl (hb hby at_36) ?_
    show Steps p.tables e below (T132.setTop (mkF m 37 #[.val (.int p1), .unset, .unset, .unset, .unset, .unset] [(.int (5 : Int32)), (.ref b102), (.ref b102)])) _
    exact k)
  obtain ⟨T135, X135, e135, st135⟩ := getS2 X132 hx hZ hown (host := "") (Or.inl (hw _ (List.mem_of_getElem? (i := 14) rfl))) Via.refl e132 ((((((S5.ext E102).wr W108).wr W114).wr W120).wr W126).wr W132) (g := (mkF m 37 #[.val (.int p1), .unset, .unset, .unset, .unset, .unset] [(.int (5 : Int32)), (.ref b102), (.ref b102)])) rfl (hb hby at_37)
  have pp136 : ∀ t, Steps p.tables e below (T135.setTop (mkF m 40 #[.val (.int p1), .unset, .unset, .unset, .unset, .unset] [(.ref z5), (.int (5 : Int32)), (.ref b102), (.ref b102)])) t → Steps p.tables e below (s₁.setTop (entryFrame m #[(.int p1)] maxLocals)) t := fun t k => pp134 t (st135 t k)
  obtain ⟨cl137, Ar137, q137, S137, N137', H137, G137⟩ := id V_b102_132
  have hin137 : ¬ ((5 : Int32) < 0 ∨ cl137.slots.size ≤ ((5 : Int32)).toNatClampNeg) := inb_of S137 ⟨by decide, by decide⟩
  obtain ⟨T138, h138, X138, e138, W138, st138⟩ := stR X135 hx hZ e135 Ar137 (j := (5 : Int32)) hin137 rfl (Sto.of Ar137 (by rw [q137]; exact O102) (Ins.self ((((((E5.ext E102).wr W108).wr W114).wr W120).wr W126).wr W132))) (g := (mkF m 40 #[.val (.int p1), .unset, .unset, .unset, .unset, .unset] [(.ref z5), (.int (5 : Int32)), (.ref b102), (.ref b102)])) rfl rfl (hb hby at_40)
  have V_b102_138 : Arv Z h138 b102 k102 (.object "com/example/pairwright/pairwright/model/Result") (12 : Int32) [(.ref z0), (.ref z1), (.ref z2), (.ref z3), (.ref z4), (.ref z5), .null, .null, .null, .null, .null, .null] .null := Arv.set Ar137 q137 S137 N137' H137 G137 rfl W138 5 rfl (Nat.le_of_ble_eq_true rfl)
  have N138 := Fr.snoc X138 N132 g_b102
  have pp139 : ∀ t, Steps p.tables e below (T138.setTop (mkF m 41 #[.val (.int p1), .unset, .unset, .unset, .unset, .unset] [(.ref b102)])) t → Steps p.tables e below (s₁.setTop (entryFrame m #[(.int p1)] maxLocals)) t := fun t k => pp136 t (st138 t k)
  have pp140 : ∀ t, Steps p.tables e below (T138.setTop (mkF m 44 #[.val (.int p1), .unset, .unset, .unset, .unset, .unset] [(.int (6 : Int32)), (.ref b102), (.ref b102)])) t → Steps p.tables e below (s₁.setTop (entryFrame m #[(.int p1)] maxLocals)) t := fun t k => pp139 t (by
    refine XS.dup X138.here hx rfl (hb hby at_41) rfl rfl ?_
    show Steps p.tables e below (T138.setTop (mkF m 42 #[.val (.int p1), .unset, .unset, .unset, .unset, .unset] [(.ref b102), (.ref b102)])) _
    refine XS.bipush X138.here hx rfl (hb hby at_42) ?_
    show Steps p.tables e below (T138.setTop (mkF m 44 #[.val (.int p1), .unset, .unset, .unset, .unset, .unset] [(.int (6 : Int32)), (.ref b102), (.ref b102)])) _
    exact k)
  obtain ⟨T141, X141, e141, st141⟩ := getS2 X138 hx hZ hown (host := "") (Or.inl (hw _ (List.mem_of_getElem? (i := 16) rfl))) Via.refl e138 (((((((S6.ext E102).wr W108).wr W114).wr W120).wr W126).wr W132).wr W138) (g := (mkF m 44 #[.val (.int p1), .unset, .unset, .unset, .unset, .unset] [(.int (6 : Int32)), (.ref b102), (.ref b102)])) rfl (hb hby at_44)
  have pp142 : ∀ t, Steps p.tables e below (T141.setTop (mkF m 47 #[.val (.int p1), .unset, .unset, .unset, .unset, .unset] [(.ref z6), (.int (6 : Int32)), (.ref b102), (.ref b102)])) t → Steps p.tables e below (s₁.setTop (entryFrame m #[(.int p1)] maxLocals)) t := fun t k => pp140 t (st141 t k)
  obtain ⟨cl143, Ar143, q143, S143, N143', H143, G143⟩ := id V_b102_138
  have hin143 : ¬ ((6 : Int32) < 0 ∨ cl143.slots.size ≤ ((6 : Int32)).toNatClampNeg) := inb_of S143 ⟨by decide, by decide⟩
  obtain ⟨T144, h144, X144, e144, W144, st144⟩ := stR X141 hx hZ e141 Ar143 (j := (6 : Int32)) hin143 rfl (Sto.of Ar143 (by rw [q143]; exact O102) (Ins.self (((((((E6.ext E102).wr W108).wr W114).wr W120).wr W126).wr W132).wr W138))) (g := (mkF m 47 #[.val (.int p1), .unset, .unset, .unset, .unset, .unset] [(.ref z6), (.int (6 : Int32)), (.ref b102), (.ref b102)])) rfl rfl (hb hby at_47)
  have V_b102_144 : Arv Z h144 b102 k102 (.object "com/example/pairwright/pairwright/model/Result") (12 : Int32) [(.ref z0), (.ref z1), (.ref z2), (.ref z3), (.ref z4), (.ref z5), (.ref z6), .null, .null, .null, .null, .null] .null := Arv.set Ar143 q143 S143 N143' H143 G143 rfl W144 6 rfl (Nat.le_of_ble_eq_true rfl)
  have N144 := Fr.snoc X144 N138 g_b102
  have pp145 : ∀ t, Steps p.tables e below (T144.setTop (mkF m 48 #[.val (.int p1), .unset, .unset, .unset, .unset, .unset] [(.ref b102)])) t → Steps p.tables e below (s₁.setTop (entryFrame m #[(.int p1)] maxLocals)) t := fun t k => pp142 t (st144 t k)
  have pp146 : ∀ t, Steps p.tables e below (T144.setTop (mkF m 51 #[.val (.int p1), .unset, .unset, .unset, .unset, .unset] [(.int (7 : Int32)), (.ref b102), (.ref b102)])) t → Steps p.tables e below (s₁.setTop (entryFrame m #[(.int p1)] maxLocals)) t := fun t k => pp145 t (by
    refine XS.dup X144.here hx rfl (hb hby at_48) rfl rfl ?_
    show Steps p.tables e below (T144.setTop (mkF m 49 #[.val (.int p1), .unset, .unset, .unset, .unset, .unset] [(.ref b102), (.ref b102)])) _
    refine XS.bipush X144.here hx rfl (hb hby at_49) ?_
    show Steps p.tables e below (T144.setTop (mkF m 51 #[.val (.int p1), .unset, .unset, .unset, .unset, .unset] [(.int (7 : Int32)), (.ref b102), (.ref b102)])) _
    exact k)
  obtain ⟨T147, X147, e147, st147⟩ := getS2 X144 hx hZ hown (host := "") (Or.inl (hw _ (List.mem_of_getElem? (i := 18) rfl))) Via.refl e144 ((((((((S7.ext E102).wr W108).wr W114).wr W120).wr W126).wr W132).wr W138).wr W144) (g := (mkF m 51 #[.val (.int p1), .unset, .unset, .unset, .unset, .unset] [(.int (7 : Int32)), (.ref b102), (.ref b102)])) rfl (hb hby at_51)
  have pp148 : ∀ t, Steps p.tables e below (T147.setTop (mkF m 54 #[.val (.int p1), .unset, .unset, .unset, .unset, .unset] [(.ref z7), (.int (7 : Int32)), (.ref b102), (.ref b102)])) t → Steps p.tables e below (s₁.setTop (entryFrame m #[(.int p1)] maxLocals)) t := fun t k => pp146 t (st147 t k)
  obtain ⟨cl149, Ar149, q149, S149, N149', H149, G149⟩ := id V_b102_144
  have hin149 : ¬ ((7 : Int32) < 0 ∨ cl149.slots.size ≤ ((7 : Int32)).toNatClampNeg) := inb_of S149 ⟨by decide, by decide⟩
  obtain ⟨T150, h150, X150, e150, W150, st150⟩ := stR X147 hx hZ e147 Ar149 (j := (7 : Int32)) hin149 rfl (Sto.of Ar149 (by rw [q149]; exact O102) (Ins.self ((((((((E7.ext E102).wr W108).wr W114).wr W120).wr W126).wr W132).wr W138).wr W144))) (g := (mkF m 54 #[.val (.int p1), .unset, .unset, .unset, .unset, .unset] [(.ref z7), (.int (7 : Int32)), (.ref b102), (.ref b102)])) rfl rfl (hb hby at_54)
  have V_b102_150 : Arv Z h150 b102 k102 (.object "com/example/pairwright/pairwright/model/Result") (12 : Int32) [(.ref z0), (.ref z1), (.ref z2), (.ref z3), (.ref z4), (.ref z5), (.ref z6), (.ref z7), .null, .null, .null, .null] .null := Arv.set Ar149 q149 S149 N149' H149 G149 rfl W150 7 rfl (Nat.le_of_ble_eq_true rfl)
  have N150 := Fr.snoc X150 N144 g_b102
  have pp151 : ∀ t, Steps p.tables e below (T150.setTop (mkF m 55 #[.val (.int p1), .unset, .unset, .unset, .unset, .unset] [(.ref b102)])) t → Steps p.tables e below (s₁.setTop (entryFrame m #[(.int p1)] maxLocals)) t := fun t k => pp148 t (st150 t k)
  have pp152 : ∀ t, Steps p.tables e below (T150.setTop (mkF m 58 #[.val (.int p1), .unset, .unset, .unset, .unset, .unset] [(.int (8 : Int32)), (.ref b102), (.ref b102)])) t → Steps p.tables e below (s₁.setTop (entryFrame m #[(.int p1)] maxLocals)) t := fun t k => pp151 t (by
    refine XS.dup X150.here hx rfl (hb hby at_55) rfl rfl ?_
    show Steps p.tables e below (T150.setTop (mkF m 56 #[.val (.int p1), .unset, .unset, .unset, .unset, .unset] [(.ref b102), (.ref b102)])) _
    refine XS.bipush X150.here hx rfl (hb hby at_56) ?_
    show Steps p.tables e below (T150.setTop (mkF m 58 #[.val (.int p1), .unset, .unset, .unset, .unset, .unset] [(.int (8 : Int32)), (.ref b102), (.ref b102)])) _
    exact k)
  obtain ⟨T153, X153, e153, st153⟩ := getS2 X150 hx hZ hown (host := "") (Or.inl (hw _ (List.mem_of_getElem? (i := 20) rfl))) Via.refl e150 (((((((((S8.ext E102).wr W108).wr W114).wr W120).wr W126).wr W132).wr W138).wr W144).wr W150) (g := (mkF m 58 #[.val (.int p1), .unset, .unset, .unset, .unset, .unset] [(.int (8 : Int32)), (.ref b102), (.ref b102)])) rfl (hb hby at_58)
  have pp154 : ∀ t, Steps p.tables e below (T153.setTop (mkF m 61 #[.val (.int p1), .unset, .unset, .unset, .unset, .unset] [(.ref z8), (.int (8 : Int32)), (.ref b102), (.ref b102)])) t → Steps p.tables e below (s₁.setTop (entryFrame m #[(.int p1)] maxLocals)) t := fun t k => pp152 t (st153 t k)
  obtain ⟨cl155, Ar155, q155, S155, N155', H155, G155⟩ := id V_b102_150
  have hin155 : ¬ ((8 : Int32) < 0 ∨ cl155.slots.size ≤ ((8 : Int32)).toNatClampNeg) := inb_of S155 ⟨by decide, by decide⟩
  obtain ⟨T156, h156, X156, e156, W156, st156⟩ := stR X153 hx hZ e153 Ar155 (j := (8 : Int32)) hin155 rfl (Sto.of Ar155 (by rw [q155]; exact O102) (Ins.self (((((((((E8.ext E102).wr W108).wr W114).wr W120).wr W126).wr W132).wr W138).wr W144).wr W150))) (g := (mkF m 61 #[.val (.int p1), .unset, .unset, .unset, .unset, .unset] [(.ref z8), (.int (8 : Int32)), (.ref b102), (.ref b102)])) rfl rfl (hb hby at_61)
  have V_b102_156 : Arv Z h156 b102 k102 (.object "com/example/pairwright/pairwright/model/Result") (12 : Int32) [(.ref z0), (.ref z1), (.ref z2), (.ref z3), (.ref z4), (.ref z5), (.ref z6), (.ref z7), (.ref z8), .null, .null, .null] .null := Arv.set Ar155 q155 S155 N155' H155 G155 rfl W156 8 rfl (Nat.le_of_ble_eq_true rfl)
  have N156 := Fr.snoc X156 N150 g_b102
  have pp157 : ∀ t, Steps p.tables e below (T156.setTop (mkF m 62 #[.val (.int p1), .unset, .unset, .unset, .unset, .unset] [(.ref b102)])) t → Steps p.tables e below (s₁.setTop (entryFrame m #[(.int p1)] maxLocals)) t := fun t k => pp154 t (st156 t k)
  have pp158 : ∀ t, Steps p.tables e below (T156.setTop (mkF m 65 #[.val (.int p1), .unset, .unset, .unset, .unset, .unset] [(.int (9 : Int32)), (.ref b102), (.ref b102)])) t → Steps p.tables e below (s₁.setTop (entryFrame m #[(.int p1)] maxLocals)) t := fun t k => pp157 t (by
    refine XS.dup X156.here hx rfl (hb hby at_62) rfl rfl ?_
    show Steps p.tables e below (T156.setTop (mkF m 63 #[.val (.int p1), .unset, .unset, .unset, .unset, .unset] [(.ref b102), (.ref b102)])) _
    refine XS.bipush X156.here hx rfl (hb hby at_63) ?_
    show Steps p.tables e below (T156.setTop (mkF m 65 #[.val (.int p1), .unset, .unset, .unset, .unset, .unset] [(.int (9 : Int32)), (.ref b102), (.ref b102)])) _
    exact k)
  obtain ⟨T159, X159, e159, st159⟩ := getS2 X156 hx hZ hown (host := "") (Or.inl (hw _ (List.mem_of_getElem? (i := 22) rfl))) Via.refl e156 ((((((((((S9.ext E102).wr W108).wr W114).wr W120).wr W126).wr W132).wr W138).wr W144).wr W150).wr W156) (g := (mkF m 65 #[.val (.int p1), .unset, .unset, .unset, .unset, .unset] [(.int (9 : Int32)), (.ref b102), (.ref b102)])) rfl (hb hby at_65)
  have pp160 : ∀ t, Steps p.tables e below (T159.setTop (mkF m 68 #[.val (.int p1), .unset, .unset, .unset, .unset, .unset] [(.ref z9), (.int (9 : Int32)), (.ref b102), (.ref b102)])) t → Steps p.tables e below (s₁.setTop (entryFrame m #[(.int p1)] maxLocals)) t := fun t k => pp158 t (st159 t k)
  obtain ⟨cl161, Ar161, q161, S161, N161', H161, G161⟩ := id V_b102_156
  have hin161 : ¬ ((9 : Int32) < 0 ∨ cl161.slots.size ≤ ((9 : Int32)).toNatClampNeg) := inb_of S161 ⟨by decide, by decide⟩
  obtain ⟨T162, h162, X162, e162, W162, st162⟩ := stR X159 hx hZ e159 Ar161 (j := (9 : Int32)) hin161 rfl (Sto.of Ar161 (by rw [q161]; exact O102) (Ins.self ((((((((((E9.ext E102).wr W108).wr W114).wr W120).wr W126).wr W132).wr W138).wr W144).wr W150).wr W156))) (g := (mkF m 68 #[.val (.int p1), .unset, .unset, .unset, .unset, .unset] [(.ref z9), (.int (9 : Int32)), (.ref b102), (.ref b102)])) rfl rfl (hb hby at_68)
  have V_b102_162 : Arv Z h162 b102 k102 (.object "com/example/pairwright/pairwright/model/Result") (12 : Int32) [(.ref z0), (.ref z1), (.ref z2), (.ref z3), (.ref z4), (.ref z5), (.ref z6), (.ref z7), (.ref z8), (.ref z9), .null, .null] .null := Arv.set Ar161 q161 S161 N161' H161 G161 rfl W162 9 rfl (Nat.le_of_ble_eq_true rfl)
  have N162 := Fr.snoc X162 N156 g_b102
  have pp163 : ∀ t, Steps p.tables e below (T162.setTop (mkF m 69 #[.val (.int p1), .unset, .unset, .unset, .unset, .unset] [(.ref b102)])) t → Steps p.tables e below (s₁.setTop (entryFrame m #[(.int p1)] maxLocals)) t := fun t k => pp160 t (st162 t k)
  have pp164 : ∀ t, Steps p.tables e below (T162.setTop (mkF m 72 #[.val (.int p1), .unset, .unset, .unset, .unset, .unset] [(.int (10 : Int32)), (.ref b102), (.ref b102)])) t → Steps p.tables e below (s₁.setTop (entryFrame m #[(.int p1)] maxLocals)) t := fun t k => pp163 t (by
    refine XS.dup X162.here hx rfl (hb hby at_69) rfl rfl ?_
    show Steps p.tables e below (T162.setTop (mkF m 70 #[.val (.int p1), .unset, .unset, .unset, .unset, .unset] [(.ref b102), (.ref b102)])) _
    refine XS.bipush X162.here hx rfl (hb hby at_70) ?_
    show Steps p.tables e below (T162.setTop (mkF m 72 #[.val (.int p1), .unset, .unset, .unset, .unset, .unset] [(.int (10 : Int32)), (.ref b102), (.ref b102)])) _
    exact k)
  obtain ⟨T165, X165, e165, st165⟩ := getS2 X162 hx hZ hown (host := "") (Or.inl (hw _ (List.mem_of_getElem? (i := 24) rfl))) Via.refl e162 (((((((((((S10.ext E102).wr W108).wr W114).wr W120).wr W126).wr W132).wr W138).wr W144).wr W150).wr W156).wr W162) (g := (mkF m 72 #[.val (.int p1), .unset, .unset, .unset, .unset, .unset] [(.int (10 : Int32)), (.ref b102), (.ref b102)])) rfl (hb hby at_72)
  have pp166 : ∀ t, Steps p.tables e below (T165.setTop (mkF m 75 #[.val (.int p1), .unset, .unset, .unset, .unset, .unset] [(.ref z10), (.int (10 : Int32)), (.ref b102), (.ref b102)])) t → Steps p.tables e below (s₁.setTop (entryFrame m #[(.int p1)] maxLocals)) t := fun t k => pp164 t (st165 t k)
  obtain ⟨cl167, Ar167, q167, S167, N167', H167, G167⟩ := id V_b102_162
  have hin167 : ¬ ((10 : Int32) < 0 ∨ cl167.slots.size ≤ ((10 : Int32)).toNatClampNeg) := inb_of S167 ⟨by decide, by decide⟩
  obtain ⟨T168, h168, X168, e168, W168, st168⟩ := stR X165 hx hZ e165 Ar167 (j := (10 : Int32)) hin167 rfl (Sto.of Ar167 (by rw [q167]; exact O102) (Ins.self (((((((((((E10.ext E102).wr W108).wr W114).wr W120).wr W126).wr W132).wr W138).wr W144).wr W150).wr W156).wr W162))) (g := (mkF m 75 #[.val (.int p1), .unset, .unset, .unset, .unset, .unset] [(.ref z10), (.int (10 : Int32)), (.ref b102), (.ref b102)])) rfl rfl (hb hby at_75)
  have V_b102_168 : Arv Z h168 b102 k102 (.object "com/example/pairwright/pairwright/model/Result") (12 : Int32) [(.ref z0), (.ref z1), (.ref z2), (.ref z3), (.ref z4), (.ref z5), (.ref z6), (.ref z7), (.ref z8), (.ref z9), (.ref z10), .null] .null := Arv.set Ar167 q167 S167 N167' H167 G167 rfl W168 10 rfl (Nat.le_of_ble_eq_true rfl)
  have N168 := Fr.snoc X168 N162 g_b102
  have pp169 : ∀ t, Steps p.tables e below (T168.setTop (mkF m 76 #[.val (.int p1), .unset, .unset, .unset, .unset, .unset] [(.ref b102)])) t → Steps p.tables e below (s₁.setTop (entryFrame m #[(.int p1)] maxLocals)) t := fun t k => pp166 t (st168 t k)
  have pp170 : ∀ t, Steps p.tables e below (T168.setTop (mkF m 79 #[.val (.int p1), .unset, .unset, .unset, .unset, .unset] [(.int (11 : Int32)), (.ref b102), (.ref b102)])) t → Steps p.tables e below (s₁.setTop (entryFrame m #[(.int p1)] maxLocals)) t := fun t k => pp169 t (by
    refine XS.dup X168.here hx rfl (hb hby at_76) rfl rfl ?_
    show Steps p.tables e below (T168.setTop (mkF m 77 #[.val (.int p1), .unset, .unset, .unset, .unset, .unset] [(.ref b102), (.ref b102)])) _
    refine XS.bipush X168.here hx rfl (hb hby at_77) ?_
    show Steps p.tables e below (T168.setTop (mkF m 79 #[.val (.int p1), .unset, .unset, .unset, .unset, .unset] [(.int (11 : Int32)), (.ref b102), (.ref b102)])) _
    exact k)
  obtain ⟨T171, X171, e171, st171⟩ := getS2 X168 hx hZ hown (host := "") (Or.inl (hw _ (List.mem_of_getElem? (i := 26) rfl))) Via.refl e168 ((((((((((((S11.ext E102).wr W108).wr W114).wr W120).wr W126).wr W132).wr W138).wr W144).wr W150).wr W156).wr W162).wr W168) (g := (mkF m 79 #[.val (.int p1), .unset, .unset, .unset, .unset, .unset] [(.int (11 : Int32)), (.ref b102), (.ref b102)])) rfl (hb hby at_79)
  have pp172 : ∀ t, Steps p.tables e below (T171.setTop (mkF m 82 #[.val (.int p1), .unset, .unset, .unset, .unset, .unset] [(.ref z11), (.int (11 : Int32)), (.ref b102), (.ref b102)])) t → Steps p.tables e below (s₁.setTop (entryFrame m #[(.int p1)] maxLocals)) t := fun t k => pp170 t (st171 t k)
  obtain ⟨cl173, Ar173, q173, S173, N173', H173, G173⟩ := id V_b102_168
  have hin173 : ¬ ((11 : Int32) < 0 ∨ cl173.slots.size ≤ ((11 : Int32)).toNatClampNeg) := inb_of S173 ⟨by decide, by decide⟩
  obtain ⟨T174, h174, X174, e174, W174, st174⟩ := stR X171 hx hZ e171 Ar173 (j := (11 : Int32)) hin173 rfl (Sto.of Ar173 (by rw [q173]; exact O102) (Ins.self ((((((((((((E11.ext E102).wr W108).wr W114).wr W120).wr W126).wr W132).wr W138).wr W144).wr W150).wr W156).wr W162).wr W168))) (g := (mkF m 82 #[.val (.int p1), .unset, .unset, .unset, .unset, .unset] [(.ref z11), (.int (11 : Int32)), (.ref b102), (.ref b102)])) rfl rfl (hb hby at_82)
  have V_b102_174 : Arv Z h174 b102 k102 (.object "com/example/pairwright/pairwright/model/Result") (12 : Int32) [(.ref z0), (.ref z1), (.ref z2), (.ref z3), (.ref z4), (.ref z5), (.ref z6), (.ref z7), (.ref z8), (.ref z9), (.ref z10), (.ref z11)] .null := Arv.set Ar173 q173 S173 N173' H173 G173 rfl W174 11 rfl (Nat.le_of_ble_eq_true rfl)
  have N174 := Fr.snoc X174 N168 g_b102
  have pp175 : ∀ t, Steps p.tables e below (T174.setTop (mkF m 83 #[.val (.int p1), .unset, .unset, .unset, .unset, .unset] [(.ref b102)])) t → Steps p.tables e below (s₁.setTop (entryFrame m #[(.int p1)] maxLocals)) t := fun t k => pp172 t (st174 t k)
  have S0' := (((((((((((((S0.ext E102).wr W108).wr W114).wr W120).wr W126).wr W132).wr W138).wr W144).wr W150).wr W156).wr W162).wr W168).wr W174)
  have E0' := (((((((((((((E0.ext E102).wr W108).wr W114).wr W120).wr W126).wr W132).wr W138).wr W144).wr W150).wr W156).wr W162).wr W168).wr W174)
  have C0' := (((((((((((((C0.ext E102).other W108 (Or.inl (Nat.ne_of_lt (Nat.lt_of_lt_of_le C0.lt (Nat.le_of_eq g102.symm))))).other W114 (Or.inl (Nat.ne_of_lt (Nat.lt_of_lt_of_le C0.lt (Nat.le_of_eq g102.symm))))).other W120 (Or.inl (Nat.ne_of_lt (Nat.lt_of_lt_of_le C0.lt (Nat.le_of_eq g102.symm))))).other W126 (Or.inl (Nat.ne_of_lt (Nat.lt_of_lt_of_le C0.lt (Nat.le_of_eq g102.symm))))).other W132 (Or.inl (Nat.ne_of_lt (Nat.lt_of_lt_of_le C0.lt (Nat.le_of_eq g102.symm))))).other W138 (Or.inl (Nat.ne_of_lt (Nat.lt_of_lt_of_le C0.lt (Nat.le_of_eq g102.symm))))).other W144 (Or.inl (Nat.ne_of_lt (Nat.lt_of_lt_of_le C0.lt (Nat.le_of_eq g102.symm))))).other W150 (Or.inl (Nat.ne_of_lt (Nat.lt_of_lt_of_le C0.lt (Nat.le_of_eq g102.symm))))).other W156 (Or.inl (Nat.ne_of_lt (Nat.lt_of_lt_of_le C0.lt (Nat.le_of_eq g102.symm))))).other W162 (Or.inl (Nat.ne_of_lt (Nat.lt_of_lt_of_le C0.lt (Nat.le_of_eq g102.symm))))).other W168 (Or.inl (Nat.ne_of_lt (Nat.lt_of_lt_of_le C0.lt (Nat.le_of_eq g102.symm))))).other W174 (Or.inl (Nat.ne_of_lt (Nat.lt_of_lt_of_le C0.lt (Nat.le_of_eq g102.symm)))))
  have P0' := (((((((((((((P0.ext E102).other W108 (Or.inl (Nat.ne_of_lt (Nat.lt_of_lt_of_le P0.lt (Nat.le_of_eq g102.symm))))).other W114 (Or.inl (Nat.ne_of_lt (Nat.lt_of_lt_of_le P0.lt (Nat.le_of_eq g102.symm))))).other W120 (Or.inl (Nat.ne_of_lt (Nat.lt_of_lt_of_le P0.lt (Nat.le_of_eq g102.symm))))).other W126 (Or.inl (Nat.ne_of_lt (Nat.lt_of_lt_of_le P0.lt (Nat.le_of_eq g102.symm))))).other W132 (Or.inl (Nat.ne_of_lt (Nat.lt_of_lt_of_le P0.lt (Nat.le_of_eq g102.symm))))).other W138 (Or.inl (Nat.ne_of_lt (Nat.lt_of_lt_of_le P0.lt (Nat.le_of_eq g102.symm))))).other W144 (Or.inl (Nat.ne_of_lt (Nat.lt_of_lt_of_le P0.lt (Nat.le_of_eq g102.symm))))).other W150 (Or.inl (Nat.ne_of_lt (Nat.lt_of_lt_of_le P0.lt (Nat.le_of_eq g102.symm))))).other W156 (Or.inl (Nat.ne_of_lt (Nat.lt_of_lt_of_le P0.lt (Nat.le_of_eq g102.symm))))).other W162 (Or.inl (Nat.ne_of_lt (Nat.lt_of_lt_of_le P0.lt (Nat.le_of_eq g102.symm))))).other W168 (Or.inl (Nat.ne_of_lt (Nat.lt_of_lt_of_le P0.lt (Nat.le_of_eq g102.symm))))).other W174 (Or.inl (Nat.ne_of_lt (Nat.lt_of_lt_of_le P0.lt (Nat.le_of_eq g102.symm)))))
  have S1' := (((((((((((((S1.ext E102).wr W108).wr W114).wr W120).wr W126).wr W132).wr W138).wr W144).wr W150).wr W156).wr W162).wr W168).wr W174)
  have E1' := (((((((((((((E1.ext E102).wr W108).wr W114).wr W120).wr W126).wr W132).wr W138).wr W144).wr W150).wr W156).wr W162).wr W168).wr W174)
  have C1' := (((((((((((((C1.ext E102).other W108 (Or.inl (Nat.ne_of_lt (Nat.lt_of_lt_of_le C1.lt (Nat.le_of_eq g102.symm))))).other W114 (Or.inl (Nat.ne_of_lt (Nat.lt_of_lt_of_le C1.lt (Nat.le_of_eq g102.symm))))).other W120 (Or.inl (Nat.ne_of_lt (Nat.lt_of_lt_of_le C1.lt (Nat.le_of_eq g102.symm))))).other W126 (Or.inl (Nat.ne_of_lt (Nat.lt_of_lt_of_le C1.lt (Nat.le_of_eq g102.symm))))).other W132 (Or.inl (Nat.ne_of_lt (Nat.lt_of_lt_of_le C1.lt (Nat.le_of_eq g102.symm))))).other W138 (Or.inl (Nat.ne_of_lt (Nat.lt_of_lt_of_le C1.lt (Nat.le_of_eq g102.symm))))).other W144 (Or.inl (Nat.ne_of_lt (Nat.lt_of_lt_of_le C1.lt (Nat.le_of_eq g102.symm))))).other W150 (Or.inl (Nat.ne_of_lt (Nat.lt_of_lt_of_le C1.lt (Nat.le_of_eq g102.symm))))).other W156 (Or.inl (Nat.ne_of_lt (Nat.lt_of_lt_of_le C1.lt (Nat.le_of_eq g102.symm))))).other W162 (Or.inl (Nat.ne_of_lt (Nat.lt_of_lt_of_le C1.lt (Nat.le_of_eq g102.symm))))).other W168 (Or.inl (Nat.ne_of_lt (Nat.lt_of_lt_of_le C1.lt (Nat.le_of_eq g102.symm))))).other W174 (Or.inl (Nat.ne_of_lt (Nat.lt_of_lt_of_le C1.lt (Nat.le_of_eq g102.symm)))))
  have P1' := (((((((((((((P1.ext E102).other W108 (Or.inl (Nat.ne_of_lt (Nat.lt_of_lt_of_le P1.lt (Nat.le_of_eq g102.symm))))).other W114 (Or.inl (Nat.ne_of_lt (Nat.lt_of_lt_of_le P1.lt (Nat.le_of_eq g102.symm))))).other W120 (Or.inl (Nat.ne_of_lt (Nat.lt_of_lt_of_le P1.lt (Nat.le_of_eq g102.symm))))).other W126 (Or.inl (Nat.ne_of_lt (Nat.lt_of_lt_of_le P1.lt (Nat.le_of_eq g102.symm))))).other W132 (Or.inl (Nat.ne_of_lt (Nat.lt_of_lt_of_le P1.lt (Nat.le_of_eq g102.symm))))).other W138 (Or.inl (Nat.ne_of_lt (Nat.lt_of_lt_of_le P1.lt (Nat.le_of_eq g102.symm))))).other W144 (Or.inl (Nat.ne_of_lt (Nat.lt_of_lt_of_le P1.lt (Nat.le_of_eq g102.symm))))).other W150 (Or.inl (Nat.ne_of_lt (Nat.lt_of_lt_of_le P1.lt (Nat.le_of_eq g102.symm))))).other W156 (Or.inl (Nat.ne_of_lt (Nat.lt_of_lt_of_le P1.lt (Nat.le_of_eq g102.symm))))).other W162 (Or.inl (Nat.ne_of_lt (Nat.lt_of_lt_of_le P1.lt (Nat.le_of_eq g102.symm))))).other W168 (Or.inl (Nat.ne_of_lt (Nat.lt_of_lt_of_le P1.lt (Nat.le_of_eq g102.symm))))).other W174 (Or.inl (Nat.ne_of_lt (Nat.lt_of_lt_of_le P1.lt (Nat.le_of_eq g102.symm)))))
  have S2' := (((((((((((((S2.ext E102).wr W108).wr W114).wr W120).wr W126).wr W132).wr W138).wr W144).wr W150).wr W156).wr W162).wr W168).wr W174)
  have E2' := (((((((((((((E2.ext E102).wr W108).wr W114).wr W120).wr W126).wr W132).wr W138).wr W144).wr W150).wr W156).wr W162).wr W168).wr W174)
  have C2' := (((((((((((((C2.ext E102).other W108 (Or.inl (Nat.ne_of_lt (Nat.lt_of_lt_of_le C2.lt (Nat.le_of_eq g102.symm))))).other W114 (Or.inl (Nat.ne_of_lt (Nat.lt_of_lt_of_le C2.lt (Nat.le_of_eq g102.symm))))).other W120 (Or.inl (Nat.ne_of_lt (Nat.lt_of_lt_of_le C2.lt (Nat.le_of_eq g102.symm))))).other W126 (Or.inl (Nat.ne_of_lt (Nat.lt_of_lt_of_le C2.lt (Nat.le_of_eq g102.symm))))).other W132 (Or.inl (Nat.ne_of_lt (Nat.lt_of_lt_of_le C2.lt (Nat.le_of_eq g102.symm))))).other W138 (Or.inl (Nat.ne_of_lt (Nat.lt_of_lt_of_le C2.lt (Nat.le_of_eq g102.symm))))).other W144 (Or.inl (Nat.ne_of_lt (Nat.lt_of_lt_of_le C2.lt (Nat.le_of_eq g102.symm))))).other W150 (Or.inl (Nat.ne_of_lt (Nat.lt_of_lt_of_le C2.lt (Nat.le_of_eq g102.symm))))).other W156 (Or.inl (Nat.ne_of_lt (Nat.lt_of_lt_of_le C2.lt (Nat.le_of_eq g102.symm))))).other W162 (Or.inl (Nat.ne_of_lt (Nat.lt_of_lt_of_le C2.lt (Nat.le_of_eq g102.symm))))).other W168 (Or.inl (Nat.ne_of_lt (Nat.lt_of_lt_of_le C2.lt (Nat.le_of_eq g102.symm))))).other W174 (Or.inl (Nat.ne_of_lt (Nat.lt_of_lt_of_le C2.lt (Nat.le_of_eq g102.symm)))))
  have P2' := (((((((((((((P2.ext E102).other W108 (Or.inl (Nat.ne_of_lt (Nat.lt_of_lt_of_le P2.lt (Nat.le_of_eq g102.symm))))).other W114 (Or.inl (Nat.ne_of_lt (Nat.lt_of_lt_of_le P2.lt (Nat.le_of_eq g102.symm))))).other W120 (Or.inl (Nat.ne_of_lt (Nat.lt_of_lt_of_le P2.lt (Nat.le_of_eq g102.symm))))).other W126 (Or.inl (Nat.ne_of_lt (Nat.lt_of_lt_of_le P2.lt (Nat.le_of_eq g102.symm))))).other W132 (Or.inl (Nat.ne_of_lt (Nat.lt_of_lt_of_le P2.lt (Nat.le_of_eq g102.symm))))).other W138 (Or.inl (Nat.ne_of_lt (Nat.lt_of_lt_of_le P2.lt (Nat.le_of_eq g102.symm))))).other W144 (Or.inl (Nat.ne_of_lt (Nat.lt_of_lt_of_le P2.lt (Nat.le_of_eq g102.symm))))).other W150 (Or.inl (Nat.ne_of_lt (Nat.lt_of_lt_of_le P2.lt (Nat.le_of_eq g102.symm))))).other W156 (Or.inl (Nat.ne_of_lt (Nat.lt_of_lt_of_le P2.lt (Nat.le_of_eq g102.symm))))).other W162 (Or.inl (Nat.ne_of_lt (Nat.lt_of_lt_of_le P2.lt (Nat.le_of_eq g102.symm))))).other W168 (Or.inl (Nat.ne_of_lt (Nat.lt_of_lt_of_le P2.lt (Nat.le_of_eq g102.symm))))).other W174 (Or.inl (Nat.ne_of_lt (Nat.lt_of_lt_of_le P2.lt (Nat.le_of_eq g102.symm)))))
  have S3' := (((((((((((((S3.ext E102).wr W108).wr W114).wr W120).wr W126).wr W132).wr W138).wr W144).wr W150).wr W156).wr W162).wr W168).wr W174)
  have E3' := (((((((((((((E3.ext E102).wr W108).wr W114).wr W120).wr W126).wr W132).wr W138).wr W144).wr W150).wr W156).wr W162).wr W168).wr W174)
  have C3' := (((((((((((((C3.ext E102).other W108 (Or.inl (Nat.ne_of_lt (Nat.lt_of_lt_of_le C3.lt (Nat.le_of_eq g102.symm))))).other W114 (Or.inl (Nat.ne_of_lt (Nat.lt_of_lt_of_le C3.lt (Nat.le_of_eq g102.symm))))).other W120 (Or.inl (Nat.ne_of_lt (Nat.lt_of_lt_of_le C3.lt (Nat.le_of_eq g102.symm))))).other W126 (Or.inl (Nat.ne_of_lt (Nat.lt_of_lt_of_le C3.lt (Nat.le_of_eq g102.symm))))).other W132 (Or.inl (Nat.ne_of_lt (Nat.lt_of_lt_of_le C3.lt (Nat.le_of_eq g102.symm))))).other W138 (Or.inl (Nat.ne_of_lt (Nat.lt_of_lt_of_le C3.lt (Nat.le_of_eq g102.symm))))).other W144 (Or.inl (Nat.ne_of_lt (Nat.lt_of_lt_of_le C3.lt (Nat.le_of_eq g102.symm))))).other W150 (Or.inl (Nat.ne_of_lt (Nat.lt_of_lt_of_le C3.lt (Nat.le_of_eq g102.symm))))).other W156 (Or.inl (Nat.ne_of_lt (Nat.lt_of_lt_of_le C3.lt (Nat.le_of_eq g102.symm))))).other W162 (Or.inl (Nat.ne_of_lt (Nat.lt_of_lt_of_le C3.lt (Nat.le_of_eq g102.symm))))).other W168 (Or.inl (Nat.ne_of_lt (Nat.lt_of_lt_of_le C3.lt (Nat.le_of_eq g102.symm))))).other W174 (Or.inl (Nat.ne_of_lt (Nat.lt_of_lt_of_le C3.lt (Nat.le_of_eq g102.symm)))))
  have P3' := (((((((((((((P3.ext E102).other W108 (Or.inl (Nat.ne_of_lt (Nat.lt_of_lt_of_le P3.lt (Nat.le_of_eq g102.symm))))).other W114 (Or.inl (Nat.ne_of_lt (Nat.lt_of_lt_of_le P3.lt (Nat.le_of_eq g102.symm))))).other W120 (Or.inl (Nat.ne_of_lt (Nat.lt_of_lt_of_le P3.lt (Nat.le_of_eq g102.symm))))).other W126 (Or.inl (Nat.ne_of_lt (Nat.lt_of_lt_of_le P3.lt (Nat.le_of_eq g102.symm))))).other W132 (Or.inl (Nat.ne_of_lt (Nat.lt_of_lt_of_le P3.lt (Nat.le_of_eq g102.symm))))).other W138 (Or.inl (Nat.ne_of_lt (Nat.lt_of_lt_of_le P3.lt (Nat.le_of_eq g102.symm))))).other W144 (Or.inl (Nat.ne_of_lt (Nat.lt_of_lt_of_le P3.lt (Nat.le_of_eq g102.symm))))).other W150 (Or.inl (Nat.ne_of_lt (Nat.lt_of_lt_of_le P3.lt (Nat.le_of_eq g102.symm))))).other W156 (Or.inl (Nat.ne_of_lt (Nat.lt_of_lt_of_le P3.lt (Nat.le_of_eq g102.symm))))).other W162 (Or.inl (Nat.ne_of_lt (Nat.lt_of_lt_of_le P3.lt (Nat.le_of_eq g102.symm))))).other W168 (Or.inl (Nat.ne_of_lt (Nat.lt_of_lt_of_le P3.lt (Nat.le_of_eq g102.symm))))).other W174 (Or.inl (Nat.ne_of_lt (Nat.lt_of_lt_of_le P3.lt (Nat.le_of_eq g102.symm)))))
  have S4' := (((((((((((((S4.ext E102).wr W108).wr W114).wr W120).wr W126).wr W132).wr W138).wr W144).wr W150).wr W156).wr W162).wr W168).wr W174)
  have E4' := (((((((((((((E4.ext E102).wr W108).wr W114).wr W120).wr W126).wr W132).wr W138).wr W144).wr W150).wr W156).wr W162).wr W168).wr W174)
  have C4' := (((((((((((((C4.ext E102).other W108 (Or.inl (Nat.ne_of_lt (Nat.lt_of_lt_of_le C4.lt (Nat.le_of_eq g102.symm))))).other W114 (Or.inl (Nat.ne_of_lt (Nat.lt_of_lt_of_le C4.lt (Nat.le_of_eq g102.symm))))).other W120 (Or.inl (Nat.ne_of_lt (Nat.lt_of_lt_of_le C4.lt (Nat.le_of_eq g102.symm))))).other W126 (Or.inl (Nat.ne_of_lt (Nat.lt_of_lt_of_le C4.lt (Nat.le_of_eq g102.symm))))).other W132 (Or.inl (Nat.ne_of_lt (Nat.lt_of_lt_of_le C4.lt (Nat.le_of_eq g102.symm))))).other W138 (Or.inl (Nat.ne_of_lt (Nat.lt_of_lt_of_le C4.lt (Nat.le_of_eq g102.symm))))).other W144 (Or.inl (Nat.ne_of_lt (Nat.lt_of_lt_of_le C4.lt (Nat.le_of_eq g102.symm))))).other W150 (Or.inl (Nat.ne_of_lt (Nat.lt_of_lt_of_le C4.lt (Nat.le_of_eq g102.symm))))).other W156 (Or.inl (Nat.ne_of_lt (Nat.lt_of_lt_of_le C4.lt (Nat.le_of_eq g102.symm))))).other W162 (Or.inl (Nat.ne_of_lt (Nat.lt_of_lt_of_le C4.lt (Nat.le_of_eq g102.symm))))).other W168 (Or.inl (Nat.ne_of_lt (Nat.lt_of_lt_of_le C4.lt (Nat.le_of_eq g102.symm))))).other W174 (Or.inl (Nat.ne_of_lt (Nat.lt_of_lt_of_le C4.lt (Nat.le_of_eq g102.symm)))))
  have P4' := (((((((((((((P4.ext E102).other W108 (Or.inl (Nat.ne_of_lt (Nat.lt_of_lt_of_le P4.lt (Nat.le_of_eq g102.symm))))).other W114 (Or.inl (Nat.ne_of_lt (Nat.lt_of_lt_of_le P4.lt (Nat.le_of_eq g102.symm))))).other W120 (Or.inl (Nat.ne_of_lt (Nat.lt_of_lt_of_le P4.lt (Nat.le_of_eq g102.symm))))).other W126 (Or.inl (Nat.ne_of_lt (Nat.lt_of_lt_of_le P4.lt (Nat.le_of_eq g102.symm))))).other W132 (Or.inl (Nat.ne_of_lt (Nat.lt_of_lt_of_le P4.lt (Nat.le_of_eq g102.symm))))).other W138 (Or.inl (Nat.ne_of_lt (Nat.lt_of_lt_of_le P4.lt (Nat.le_of_eq g102.symm))))).other W144 (Or.inl (Nat.ne_of_lt (Nat.lt_of_lt_of_le P4.lt (Nat.le_of_eq g102.symm))))).other W150 (Or.inl (Nat.ne_of_lt (Nat.lt_of_lt_of_le P4.lt (Nat.le_of_eq g102.symm))))).other W156 (Or.inl (Nat.ne_of_lt (Nat.lt_of_lt_of_le P4.lt (Nat.le_of_eq g102.symm))))).other W162 (Or.inl (Nat.ne_of_lt (Nat.lt_of_lt_of_le P4.lt (Nat.le_of_eq g102.symm))))).other W168 (Or.inl (Nat.ne_of_lt (Nat.lt_of_lt_of_le P4.lt (Nat.le_of_eq g102.symm))))).other W174 (Or.inl (Nat.ne_of_lt (Nat.lt_of_lt_of_le P4.lt (Nat.le_of_eq g102.symm)))))
  have S5' := (((((((((((((S5.ext E102).wr W108).wr W114).wr W120).wr W126).wr W132).wr W138).wr W144).wr W150).wr W156).wr W162).wr W168).wr W174)
  have E5' := (((((((((((((E5.ext E102).wr W108).wr W114).wr W120).wr W126).wr W132).wr W138).wr W144).wr W150).wr W156).wr W162).wr W168).wr W174)
  have C5' := (((((((((((((C5.ext E102).other W108 (Or.inl (Nat.ne_of_lt (Nat.lt_of_lt_of_le C5.lt (Nat.le_of_eq g102.symm))))).other W114 (Or.inl (Nat.ne_of_lt (Nat.lt_of_lt_of_le C5.lt (Nat.le_of_eq g102.symm))))).other W120 (Or.inl (Nat.ne_of_lt (Nat.lt_of_lt_of_le C5.lt (Nat.le_of_eq g102.symm))))).other W126 (Or.inl (Nat.ne_of_lt (Nat.lt_of_lt_of_le C5.lt (Nat.le_of_eq g102.symm))))).other W132 (Or.inl (Nat.ne_of_lt (Nat.lt_of_lt_of_le C5.lt (Nat.le_of_eq g102.symm))))).other W138 (Or.inl (Nat.ne_of_lt (Nat.lt_of_lt_of_le C5.lt (Nat.le_of_eq g102.symm))))).other W144 (Or.inl (Nat.ne_of_lt (Nat.lt_of_lt_of_le C5.lt (Nat.le_of_eq g102.symm))))).other W150 (Or.inl (Nat.ne_of_lt (Nat.lt_of_lt_of_le C5.lt (Nat.le_of_eq g102.symm))))).other W156 (Or.inl (Nat.ne_of_lt (Nat.lt_of_lt_of_le C5.lt (Nat.le_of_eq g102.symm))))).other W162 (Or.inl (Nat.ne_of_lt (Nat.lt_of_lt_of_le C5.lt (Nat.le_of_eq g102.symm))))).other W168 (Or.inl (Nat.ne_of_lt (Nat.lt_of_lt_of_le C5.lt (Nat.le_of_eq g102.symm))))).other W174 (Or.inl (Nat.ne_of_lt (Nat.lt_of_lt_of_le C5.lt (Nat.le_of_eq g102.symm)))))
  have P5' := (((((((((((((P5.ext E102).other W108 (Or.inl (Nat.ne_of_lt (Nat.lt_of_lt_of_le P5.lt (Nat.le_of_eq g102.symm))))).other W114 (Or.inl (Nat.ne_of_lt (Nat.lt_of_lt_of_le P5.lt (Nat.le_of_eq g102.symm))))).other W120 (Or.inl (Nat.ne_of_lt (Nat.lt_of_lt_of_le P5.lt (Nat.le_of_eq g102.symm))))).other W126 (Or.inl (Nat.ne_of_lt (Nat.lt_of_lt_of_le P5.lt (Nat.le_of_eq g102.symm))))).other W132 (Or.inl (Nat.ne_of_lt (Nat.lt_of_lt_of_le P5.lt (Nat.le_of_eq g102.symm))))).other W138 (Or.inl (Nat.ne_of_lt (Nat.lt_of_lt_of_le P5.lt (Nat.le_of_eq g102.symm))))).other W144 (Or.inl (Nat.ne_of_lt (Nat.lt_of_lt_of_le P5.lt (Nat.le_of_eq g102.symm))))).other W150 (Or.inl (Nat.ne_of_lt (Nat.lt_of_lt_of_le P5.lt (Nat.le_of_eq g102.symm))))).other W156 (Or.inl (Nat.ne_of_lt (Nat.lt_of_lt_of_le P5.lt (Nat.le_of_eq g102.symm))))).other W162 (Or.inl (Nat.ne_of_lt (Nat.lt_of_lt_of_le P5.lt (Nat.le_of_eq g102.symm))))).other W168 (Or.inl (Nat.ne_of_lt (Nat.lt_of_lt_of_le P5.lt (Nat.le_of_eq g102.symm))))).other W174 (Or.inl (Nat.ne_of_lt (Nat.lt_of_lt_of_le P5.lt (Nat.le_of_eq g102.symm)))))
  have S6' := (((((((((((((S6.ext E102).wr W108).wr W114).wr W120).wr W126).wr W132).wr W138).wr W144).wr W150).wr W156).wr W162).wr W168).wr W174)
  have E6' := (((((((((((((E6.ext E102).wr W108).wr W114).wr W120).wr W126).wr W132).wr W138).wr W144).wr W150).wr W156).wr W162).wr W168).wr W174)
  have C6' := (((((((((((((C6.ext E102).other W108 (Or.inl (Nat.ne_of_lt (Nat.lt_of_lt_of_le C6.lt (Nat.le_of_eq g102.symm))))).other W114 (Or.inl (Nat.ne_of_lt (Nat.lt_of_lt_of_le C6.lt (Nat.le_of_eq g102.symm))))).other W120 (Or.inl (Nat.ne_of_lt (Nat.lt_of_lt_of_le C6.lt (Nat.le_of_eq g102.symm))))).other W126 (Or.inl (Nat.ne_of_lt (Nat.lt_of_lt_of_le C6.lt (Nat.le_of_eq g102.symm))))).other W132 (Or.inl (Nat.ne_of_lt (Nat.lt_of_lt_of_le C6.lt (Nat.le_of_eq g102.symm))))).other W138 (Or.inl (Nat.ne_of_lt (Nat.lt_of_lt_of_le C6.lt (Nat.le_of_eq g102.symm))))).other W144 (Or.inl (Nat.ne_of_lt (Nat.lt_of_lt_of_le C6.lt (Nat.le_of_eq g102.symm))))).other W150 (Or.inl (Nat.ne_of_lt (Nat.lt_of_lt_of_le C6.lt (Nat.le_of_eq g102.symm))))).other W156 (Or.inl (Nat.ne_of_lt (Nat.lt_of_lt_of_le C6.lt (Nat.le_of_eq g102.symm))))).other W162 (Or.inl (Nat.ne_of_lt (Nat.lt_of_lt_of_le C6.lt (Nat.le_of_eq g102.symm))))).other W168 (Or.inl (Nat.ne_of_lt (Nat.lt_of_lt_of_le C6.lt (Nat.le_of_eq g102.symm))))).other W174 (Or.inl (Nat.ne_of_lt (Nat.lt_of_lt_of_le C6.lt (Nat.le_of_eq g102.symm)))))
  have P6' := (((((((((((((P6.ext E102).other W108 (Or.inl (Nat.ne_of_lt (Nat.lt_of_lt_of_le P6.lt (Nat.le_of_eq g102.symm))))).other W114 (Or.inl (Nat.ne_of_lt (Nat.lt_of_lt_of_le P6.lt (Nat.le_of_eq g102.symm))))).other W120 (Or.inl (Nat.ne_of_lt (Nat.lt_of_lt_of_le P6.lt (Nat.le_of_eq g102.symm))))).other W126 (Or.inl (Nat.ne_of_lt (Nat.lt_of_lt_of_le P6.lt (Nat.le_of_eq g102.symm))))).other W132 (Or.inl (Nat.ne_of_lt (Nat.lt_of_lt_of_le P6.lt (Nat.le_of_eq g102.symm))))).other W138 (Or.inl (Nat.ne_of_lt (Nat.lt_of_lt_of_le P6.lt (Nat.le_of_eq g102.symm))))).other W144 (Or.inl (Nat.ne_of_lt (Nat.lt_of_lt_of_le P6.lt (Nat.le_of_eq g102.symm))))).other W150 (Or.inl (Nat.ne_of_lt (Nat.lt_of_lt_of_le P6.lt (Nat.le_of_eq g102.symm))))).other W156 (Or.inl (Nat.ne_of_lt (Nat.lt_of_lt_of_le P6.lt (Nat.le_of_eq g102.symm))))).other W162 (Or.inl (Nat.ne_of_lt (Nat.lt_of_lt_of_le P6.lt (Nat.le_of_eq g102.symm))))).other W168 (Or.inl (Nat.ne_of_lt (Nat.lt_of_lt_of_le P6.lt (Nat.le_of_eq g102.symm))))).other W174 (Or.inl (Nat.ne_of_lt (Nat.lt_of_lt_of_le P6.lt (Nat.le_of_eq g102.symm)))))
  have S7' := (((((((((((((S7.ext E102).wr W108).wr W114).wr W120).wr W126).wr W132).wr W138).wr W144).wr W150).wr W156).wr W162).wr W168).wr W174)
  have E7' := (((((((((((((E7.ext E102).wr W108).wr W114).wr W120).wr W126).wr W132).wr W138).wr W144).wr W150).wr W156).wr W162).wr W168).wr W174)
  have C7' := (((((((((((((C7.ext E102).other W108 (Or.inl (Nat.ne_of_lt (Nat.lt_of_lt_of_le C7.lt (Nat.le_of_eq g102.symm))))).other W114 (Or.inl (Nat.ne_of_lt (Nat.lt_of_lt_of_le C7.lt (Nat.le_of_eq g102.symm))))).other W120 (Or.inl (Nat.ne_of_lt (Nat.lt_of_lt_of_le C7.lt (Nat.le_of_eq g102.symm))))).other W126 (Or.inl (Nat.ne_of_lt (Nat.lt_of_lt_of_le C7.lt (Nat.le_of_eq g102.symm))))).other W132 (Or.inl (Nat.ne_of_lt (Nat.lt_of_lt_of_le C7.lt (Nat.le_of_eq g102.symm))))).other W138 (Or.inl (Nat.ne_of_lt (Nat.lt_of_lt_of_le C7.lt (Nat.le_of_eq g102.symm))))).other W144 (Or.inl (Nat.ne_of_lt (Nat.lt_of_lt_of_le C7.lt (Nat.le_of_eq g102.symm))))).other W150 (Or.inl (Nat.ne_of_lt (Nat.lt_of_lt_of_le C7.lt (Nat.le_of_eq g102.symm))))).other W156 (Or.inl (Nat.ne_of_lt (Nat.lt_of_lt_of_le C7.lt (Nat.le_of_eq g102.symm))))).other W162 (Or.inl (Nat.ne_of_lt (Nat.lt_of_lt_of_le C7.lt (Nat.le_of_eq g102.symm))))).other W168 (Or.inl (Nat.ne_of_lt (Nat.lt_of_lt_of_le C7.lt (Nat.le_of_eq g102.symm))))).other W174 (Or.inl (Nat.ne_of_lt (Nat.lt_of_lt_of_le C7.lt (Nat.le_of_eq g102.symm)))))
  have P7' := (((((((((((((P7.ext E102).other W108 (Or.inl (Nat.ne_of_lt (Nat.lt_of_lt_of_le P7.lt (Nat.le_of_eq g102.symm))))).other W114 (Or.inl (Nat.ne_of_lt (Nat.lt_of_lt_of_le P7.lt (Nat.le_of_eq g102.symm))))).other W120 (Or.inl (Nat.ne_of_lt (Nat.lt_of_lt_of_le P7.lt (Nat.le_of_eq g102.symm))))).other W126 (Or.inl (Nat.ne_of_lt (Nat.lt_of_lt_of_le P7.lt (Nat.le_of_eq g102.symm))))).other W132 (Or.inl (Nat.ne_of_lt (Nat.lt_of_lt_of_le P7.lt (Nat.le_of_eq g102.symm))))).other W138 (Or.inl (Nat.ne_of_lt (Nat.lt_of_lt_of_le P7.lt (Nat.le_of_eq g102.symm))))).other W144 (Or.inl (Nat.ne_of_lt (Nat.lt_of_lt_of_le P7.lt (Nat.le_of_eq g102.symm))))).other W150 (Or.inl (Nat.ne_of_lt (Nat.lt_of_lt_of_le P7.lt (Nat.le_of_eq g102.symm))))).other W156 (Or.inl (Nat.ne_of_lt (Nat.lt_of_lt_of_le P7.lt (Nat.le_of_eq g102.symm))))).other W162 (Or.inl (Nat.ne_of_lt (Nat.lt_of_lt_of_le P7.lt (Nat.le_of_eq g102.symm))))).other W168 (Or.inl (Nat.ne_of_lt (Nat.lt_of_lt_of_le P7.lt (Nat.le_of_eq g102.symm))))).other W174 (Or.inl (Nat.ne_of_lt (Nat.lt_of_lt_of_le P7.lt (Nat.le_of_eq g102.symm)))))
  have S8' := (((((((((((((S8.ext E102).wr W108).wr W114).wr W120).wr W126).wr W132).wr W138).wr W144).wr W150).wr W156).wr W162).wr W168).wr W174)
  have E8' := (((((((((((((E8.ext E102).wr W108).wr W114).wr W120).wr W126).wr W132).wr W138).wr W144).wr W150).wr W156).wr W162).wr W168).wr W174)
  have C8' := (((((((((((((C8.ext E102).other W108 (Or.inl (Nat.ne_of_lt (Nat.lt_of_lt_of_le C8.lt (Nat.le_of_eq g102.symm))))).other W114 (Or.inl (Nat.ne_of_lt (Nat.lt_of_lt_of_le C8.lt (Nat.le_of_eq g102.symm))))).other W120 (Or.inl (Nat.ne_of_lt (Nat.lt_of_lt_of_le C8.lt (Nat.le_of_eq g102.symm))))).other W126 (Or.inl (Nat.ne_of_lt (Nat.lt_of_lt_of_le C8.lt (Nat.le_of_eq g102.symm))))).other W132 (Or.inl (Nat.ne_of_lt (Nat.lt_of_lt_of_le C8.lt (Nat.le_of_eq g102.symm))))).other W138 (Or.inl (Nat.ne_of_lt (Nat.lt_of_lt_of_le C8.lt (Nat.le_of_eq g102.symm))))).other W144 (Or.inl (Nat.ne_of_lt (Nat.lt_of_lt_of_le C8.lt (Nat.le_of_eq g102.symm))))).other W150 (Or.inl (Nat.ne_of_lt (Nat.lt_of_lt_of_le C8.lt (Nat.le_of_eq g102.symm))))).other W156 (Or.inl (Nat.ne_of_lt (Nat.lt_of_lt_of_le C8.lt (Nat.le_of_eq g102.symm))))).other W162 (Or.inl (Nat.ne_of_lt (Nat.lt_of_lt_of_le C8.lt (Nat.le_of_eq g102.symm))))).other W168 (Or.inl (Nat.ne_of_lt (Nat.lt_of_lt_of_le C8.lt (Nat.le_of_eq g102.symm))))).other W174 (Or.inl (Nat.ne_of_lt (Nat.lt_of_lt_of_le C8.lt (Nat.le_of_eq g102.symm)))))
  have P8' := (((((((((((((P8.ext E102).other W108 (Or.inl (Nat.ne_of_lt (Nat.lt_of_lt_of_le P8.lt (Nat.le_of_eq g102.symm))))).other W114 (Or.inl (Nat.ne_of_lt (Nat.lt_of_lt_of_le P8.lt (Nat.le_of_eq g102.symm))))).other W120 (Or.inl (Nat.ne_of_lt (Nat.lt_of_lt_of_le P8.lt (Nat.le_of_eq g102.symm))))).other W126 (Or.inl (Nat.ne_of_lt (Nat.lt_of_lt_of_le P8.lt (Nat.le_of_eq g102.symm))))).other W132 (Or.inl (Nat.ne_of_lt (Nat.lt_of_lt_of_le P8.lt (Nat.le_of_eq g102.symm))))).other W138 (Or.inl (Nat.ne_of_lt (Nat.lt_of_lt_of_le P8.lt (Nat.le_of_eq g102.symm))))).other W144 (Or.inl (Nat.ne_of_lt (Nat.lt_of_lt_of_le P8.lt (Nat.le_of_eq g102.symm))))).other W150 (Or.inl (Nat.ne_of_lt (Nat.lt_of_lt_of_le P8.lt (Nat.le_of_eq g102.symm))))).other W156 (Or.inl (Nat.ne_of_lt (Nat.lt_of_lt_of_le P8.lt (Nat.le_of_eq g102.symm))))).other W162 (Or.inl (Nat.ne_of_lt (Nat.lt_of_lt_of_le P8.lt (Nat.le_of_eq g102.symm))))).other W168 (Or.inl (Nat.ne_of_lt (Nat.lt_of_lt_of_le P8.lt (Nat.le_of_eq g102.symm))))).other W174 (Or.inl (Nat.ne_of_lt (Nat.lt_of_lt_of_le P8.lt (Nat.le_of_eq g102.symm)))))
  have S9' := (((((((((((((S9.ext E102).wr W108).wr W114).wr W120).wr W126).wr W132).wr W138).wr W144).wr W150).wr W156).wr W162).wr W168).wr W174)
  have E9' := (((((((((((((E9.ext E102).wr W108).wr W114).wr W120).wr W126).wr W132).wr W138).wr W144).wr W150).wr W156).wr W162).wr W168).wr W174)
  have C9' := (((((((((((((C9.ext E102).other W108 (Or.inl (Nat.ne_of_lt (Nat.lt_of_lt_of_le C9.lt (Nat.le_of_eq g102.symm))))).other W114 (Or.inl (Nat.ne_of_lt (Nat.lt_of_lt_of_le C9.lt (Nat.le_of_eq g102.symm))))).other W120 (Or.inl (Nat.ne_of_lt (Nat.lt_of_lt_of_le C9.lt (Nat.le_of_eq g102.symm))))).other W126 (Or.inl (Nat.ne_of_lt (Nat.lt_of_lt_of_le C9.lt (Nat.le_of_eq g102.symm))))).other W132 (Or.inl (Nat.ne_of_lt (Nat.lt_of_lt_of_le C9.lt (Nat.le_of_eq g102.symm))))).other W138 (Or.inl (Nat.ne_of_lt (Nat.lt_of_lt_of_le C9.lt (Nat.le_of_eq g102.symm))))).other W144 (Or.inl (Nat.ne_of_lt (Nat.lt_of_lt_of_le C9.lt (Nat.le_of_eq g102.symm))))).other W150 (Or.inl (Nat.ne_of_lt (Nat.lt_of_lt_of_le C9.lt (Nat.le_of_eq g102.symm))))).other W156 (Or.inl (Nat.ne_of_lt (Nat.lt_of_lt_of_le C9.lt (Nat.le_of_eq g102.symm))))).other W162 (Or.inl (Nat.ne_of_lt (Nat.lt_of_lt_of_le C9.lt (Nat.le_of_eq g102.symm))))).other W168 (Or.inl (Nat.ne_of_lt (Nat.lt_of_lt_of_le C9.lt (Nat.le_of_eq g102.symm))))).other W174 (Or.inl (Nat.ne_of_lt (Nat.lt_of_lt_of_le C9.lt (Nat.le_of_eq g102.symm)))))
  have P9' := (((((((((((((P9.ext E102).other W108 (Or.inl (Nat.ne_of_lt (Nat.lt_of_lt_of_le P9.lt (Nat.le_of_eq g102.symm))))).other W114 (Or.inl (Nat.ne_of_lt (Nat.lt_of_lt_of_le P9.lt (Nat.le_of_eq g102.symm))))).other W120 (Or.inl (Nat.ne_of_lt (Nat.lt_of_lt_of_le P9.lt (Nat.le_of_eq g102.symm))))).other W126 (Or.inl (Nat.ne_of_lt (Nat.lt_of_lt_of_le P9.lt (Nat.le_of_eq g102.symm))))).other W132 (Or.inl (Nat.ne_of_lt (Nat.lt_of_lt_of_le P9.lt (Nat.le_of_eq g102.symm))))).other W138 (Or.inl (Nat.ne_of_lt (Nat.lt_of_lt_of_le P9.lt (Nat.le_of_eq g102.symm))))).other W144 (Or.inl (Nat.ne_of_lt (Nat.lt_of_lt_of_le P9.lt (Nat.le_of_eq g102.symm))))).other W150 (Or.inl (Nat.ne_of_lt (Nat.lt_of_lt_of_le P9.lt (Nat.le_of_eq g102.symm))))).other W156 (Or.inl (Nat.ne_of_lt (Nat.lt_of_lt_of_le P9.lt (Nat.le_of_eq g102.symm))))).other W162 (Or.inl (Nat.ne_of_lt (Nat.lt_of_lt_of_le P9.lt (Nat.le_of_eq g102.symm))))).other W168 (Or.inl (Nat.ne_of_lt (Nat.lt_of_lt_of_le P9.lt (Nat.le_of_eq g102.symm))))).other W174 (Or.inl (Nat.ne_of_lt (Nat.lt_of_lt_of_le P9.lt (Nat.le_of_eq g102.symm)))))
  have S10' := (((((((((((((S10.ext E102).wr W108).wr W114).wr W120).wr W126).wr W132).wr W138).wr W144).wr W150).wr W156).wr W162).wr W168).wr W174)
  have E10' := (((((((((((((E10.ext E102).wr W108).wr W114).wr W120).wr W126).wr W132).wr W138).wr W144).wr W150).wr W156).wr W162).wr W168).wr W174)
  have C10' := (((((((((((((C10.ext E102).other W108 (Or.inl (Nat.ne_of_lt (Nat.lt_of_lt_of_le C10.lt (Nat.le_of_eq g102.symm))))).other W114 (Or.inl (Nat.ne_of_lt (Nat.lt_of_lt_of_le C10.lt (Nat.le_of_eq g102.symm))))).other W120 (Or.inl (Nat.ne_of_lt (Nat.lt_of_lt_of_le C10.lt (Nat.le_of_eq g102.symm))))).other W126 (Or.inl (Nat.ne_of_lt (Nat.lt_of_lt_of_le C10.lt (Nat.le_of_eq g102.symm))))).other W132 (Or.inl (Nat.ne_of_lt (Nat.lt_of_lt_of_le C10.lt (Nat.le_of_eq g102.symm))))).other W138 (Or.inl (Nat.ne_of_lt (Nat.lt_of_lt_of_le C10.lt (Nat.le_of_eq g102.symm))))).other W144 (Or.inl (Nat.ne_of_lt (Nat.lt_of_lt_of_le C10.lt (Nat.le_of_eq g102.symm))))).other W150 (Or.inl (Nat.ne_of_lt (Nat.lt_of_lt_of_le C10.lt (Nat.le_of_eq g102.symm))))).other W156 (Or.inl (Nat.ne_of_lt (Nat.lt_of_lt_of_le C10.lt (Nat.le_of_eq g102.symm))))).other W162 (Or.inl (Nat.ne_of_lt (Nat.lt_of_lt_of_le C10.lt (Nat.le_of_eq g102.symm))))).other W168 (Or.inl (Nat.ne_of_lt (Nat.lt_of_lt_of_le C10.lt (Nat.le_of_eq g102.symm))))).other W174 (Or.inl (Nat.ne_of_lt (Nat.lt_of_lt_of_le C10.lt (Nat.le_of_eq g102.symm)))))
  have P10' := (((((((((((((P10.ext E102).other W108 (Or.inl (Nat.ne_of_lt (Nat.lt_of_lt_of_le P10.lt (Nat.le_of_eq g102.symm))))).other W114 (Or.inl (Nat.ne_of_lt (Nat.lt_of_lt_of_le P10.lt (Nat.le_of_eq g102.symm))))).other W120 (Or.inl (Nat.ne_of_lt (Nat.lt_of_lt_of_le P10.lt (Nat.le_of_eq g102.symm))))).other W126 (Or.inl (Nat.ne_of_lt (Nat.lt_of_lt_of_le P10.lt (Nat.le_of_eq g102.symm))))).other W132 (Or.inl (Nat.ne_of_lt (Nat.lt_of_lt_of_le P10.lt (Nat.le_of_eq g102.symm))))).other W138 (Or.inl (Nat.ne_of_lt (Nat.lt_of_lt_of_le P10.lt (Nat.le_of_eq g102.symm))))).other W144 (Or.inl (Nat.ne_of_lt (Nat.lt_of_lt_of_le P10.lt (Nat.le_of_eq g102.symm))))).other W150 (Or.inl (Nat.ne_of_lt (Nat.lt_of_lt_of_le P10.lt (Nat.le_of_eq g102.symm))))).other W156 (Or.inl (Nat.ne_of_lt (Nat.lt_of_lt_of_le P10.lt (Nat.le_of_eq g102.symm))))).other W162 (Or.inl (Nat.ne_of_lt (Nat.lt_of_lt_of_le P10.lt (Nat.le_of_eq g102.symm))))).other W168 (Or.inl (Nat.ne_of_lt (Nat.lt_of_lt_of_le P10.lt (Nat.le_of_eq g102.symm))))).other W174 (Or.inl (Nat.ne_of_lt (Nat.lt_of_lt_of_le P10.lt (Nat.le_of_eq g102.symm)))))
  have S11' := (((((((((((((S11.ext E102).wr W108).wr W114).wr W120).wr W126).wr W132).wr W138).wr W144).wr W150).wr W156).wr W162).wr W168).wr W174)
  have E11' := (((((((((((((E11.ext E102).wr W108).wr W114).wr W120).wr W126).wr W132).wr W138).wr W144).wr W150).wr W156).wr W162).wr W168).wr W174)
  have C11' := (((((((((((((C11.ext E102).other W108 (Or.inl (Nat.ne_of_lt (Nat.lt_of_lt_of_le C11.lt (Nat.le_of_eq g102.symm))))).other W114 (Or.inl (Nat.ne_of_lt (Nat.lt_of_lt_of_le C11.lt (Nat.le_of_eq g102.symm))))).other W120 (Or.inl (Nat.ne_of_lt (Nat.lt_of_lt_of_le C11.lt (Nat.le_of_eq g102.symm))))).other W126 (Or.inl (Nat.ne_of_lt (Nat.lt_of_lt_of_le C11.lt (Nat.le_of_eq g102.symm))))).other W132 (Or.inl (Nat.ne_of_lt (Nat.lt_of_lt_of_le C11.lt (Nat.le_of_eq g102.symm))))).other W138 (Or.inl (Nat.ne_of_lt (Nat.lt_of_lt_of_le C11.lt (Nat.le_of_eq g102.symm))))).other W144 (Or.inl (Nat.ne_of_lt (Nat.lt_of_lt_of_le C11.lt (Nat.le_of_eq g102.symm))))).other W150 (Or.inl (Nat.ne_of_lt (Nat.lt_of_lt_of_le C11.lt (Nat.le_of_eq g102.symm))))).other W156 (Or.inl (Nat.ne_of_lt (Nat.lt_of_lt_of_le C11.lt (Nat.le_of_eq g102.symm))))).other W162 (Or.inl (Nat.ne_of_lt (Nat.lt_of_lt_of_le C11.lt (Nat.le_of_eq g102.symm))))).other W168 (Or.inl (Nat.ne_of_lt (Nat.lt_of_lt_of_le C11.lt (Nat.le_of_eq g102.symm))))).other W174 (Or.inl (Nat.ne_of_lt (Nat.lt_of_lt_of_le C11.lt (Nat.le_of_eq g102.symm)))))
  have P11' := (((((((((((((P11.ext E102).other W108 (Or.inl (Nat.ne_of_lt (Nat.lt_of_lt_of_le P11.lt (Nat.le_of_eq g102.symm))))).other W114 (Or.inl (Nat.ne_of_lt (Nat.lt_of_lt_of_le P11.lt (Nat.le_of_eq g102.symm))))).other W120 (Or.inl (Nat.ne_of_lt (Nat.lt_of_lt_of_le P11.lt (Nat.le_of_eq g102.symm))))).other W126 (Or.inl (Nat.ne_of_lt (Nat.lt_of_lt_of_le P11.lt (Nat.le_of_eq g102.symm))))).other W132 (Or.inl (Nat.ne_of_lt (Nat.lt_of_lt_of_le P11.lt (Nat.le_of_eq g102.symm))))).other W138 (Or.inl (Nat.ne_of_lt (Nat.lt_of_lt_of_le P11.lt (Nat.le_of_eq g102.symm))))).other W144 (Or.inl (Nat.ne_of_lt (Nat.lt_of_lt_of_le P11.lt (Nat.le_of_eq g102.symm))))).other W150 (Or.inl (Nat.ne_of_lt (Nat.lt_of_lt_of_le P11.lt (Nat.le_of_eq g102.symm))))).other W156 (Or.inl (Nat.ne_of_lt (Nat.lt_of_lt_of_le P11.lt (Nat.le_of_eq g102.symm))))).other W162 (Or.inl (Nat.ne_of_lt (Nat.lt_of_lt_of_le P11.lt (Nat.le_of_eq g102.symm))))).other W168 (Or.inl (Nat.ne_of_lt (Nat.lt_of_lt_of_le P11.lt (Nat.le_of_eq g102.symm))))).other W174 (Or.inl (Nat.ne_of_lt (Nat.lt_of_lt_of_le P11.lt (Nat.le_of_eq g102.symm)))))
  have Zn := (Nat.le_trans (Nat.le_trans (Nat.le_trans (Nat.le_trans (Nat.le_trans (Nat.le_trans (Nat.le_trans (Nat.le_trans (Nat.le_trans (Nat.le_trans (Nat.le_trans (Nat.le_trans (Nat.le_trans Z0 E102.1) (Keep.of_wr W108).1) (Keep.of_wr W114).1) (Keep.of_wr W120).1) (Keep.of_wr W126).1) (Keep.of_wr W132).1) (Keep.of_wr W138).1) (Keep.of_wr W144).1) (Keep.of_wr W150).1) (Keep.of_wr W156).1) (Keep.of_wr W162).1) (Keep.of_wr W168).1) (Keep.of_wr W174).1)
  have pp176 : ∀ t, Steps p.tables e below (T174.setTop (mkF m 92 #[.val (.int p1), .val (.ref b102), .unset, .unset, .unset, .unset] [(.int ((p1 &&& (2147483647 : Int32)) % (12 : Int32))), (.ref b102)])) t → Steps p.tables e below (s₁.setTop (entryFrame m #[(.int p1)] maxLocals)) t := fun t k => pp175 t (by
    refine XS.astoreN X174.here hx rfl (hb hby at_83) rfl rfl (l' := #[.val (.int p1), .val (.ref b102), .unset, .unset, .unset, .unset]) rfl ?_
    show Steps p.tables e below (T174.setTop (mkF m 84 #[.val (.int p1), .val (.ref b102), .unset, .unset, .unset, .unset] [])) _
    refine XS.aloadN X174.here hx rfl (hb hby at_84) rfl rfl ?_
    show Steps p.tables e below (T174.setTop (mkF m 85 #[.val (.int p1), .val (.ref b102), .unset, .unset, .unset, .unset] [(.ref b102)])) _
    refine XS.iloadN X174.here hx rfl (hb hby at_85) rfl ?_
    show Steps p.tables e below (T174.setTop (mkF m 86 #[.val (.int p1), .val (.ref b102), .unset, .unset, .unset, .unset] [(.int p1), (.ref b102)])) _
    refine X174.ldcInt hx hown (mvT hZ (hw _ (List.mem_of_getElem? (i := 28) rfl))) (g := (mkF m 86 #[.val (.int p1), .val (.ref b102), .unset, .unset, .unset, .unset] [(.int p1), (.ref b102)])) rfl (hb hby at_86) _ ?_
    show Steps p.tables e below (T174.setTop (mkF m 88 #[.val (.int p1), .val (.ref b102), .unset, .unset, .unset, .unset] [(.int (2147483647 : Int32)), (.int p1), (.ref b102)])) _
    refine XS.iand X174.here hx rfl (hb hby at_88) rfl ?_
    show Steps p.tables e below (T174.setTop (mkF m 89 #[.val (.int p1), .val (.ref b102), .unset, .unset, .unset, .unset] [(.int (p1 &&& (2147483647 : Int32))), (.ref b102)])) _
    refine XS.bipush X174.here hx rfl (hb hby at_89) ?_
    show Steps p.tables e below (T174.setTop (mkF m 91 #[.val (.int p1), .val (.ref b102), .unset, .unset, .unset, .unset] [(.int (12 : Int32)), (.int (p1 &&& (2147483647 : Int32))), (.ref b102)])) _
    refine iremM (g := (mkF m 91 #[.val (.int p1), .val (.ref b102), .unset, .unset, .unset, .unset] [(.int (12 : Int32)), (.int (p1 &&& (2147483647 : Int32))), (.ref b102)])) X174 hx rfl (hb hby at_91) rfl (by decide) ?_
    show Steps p.tables e below (T174.setTop (mkF m 92 #[.val (.int p1), .val (.ref b102), .unset, .unset, .unset, .unset] [(.int ((p1 &&& (2147483647 : Int32)) % (12 : Int32))), (.ref b102)])) _
    exact k)
  generalize hkk : ((p1 &&& (2147483647 : Int32)) % (12 : Int32)) = kk at pp176
  have h12 := own_12 p1
  rw [hkk] at h12
  rcases h12 with rfl | rfl | rfl | rfl | rfl | rfl | rfl | rfl | rfl | rfl | rfl | rfl
  · obtain ⟨cl177, Ar177, q177, S177, N177', H177, G177⟩ := id V_b102_174
    have hin177 : ¬ ((0 : Int32) < 0 ∨ cl177.slots.size ≤ ((0 : Int32)).toNatClampNeg) := inb_of S177 ⟨by decide, by decide⟩
    have hat177 : cl177.slots[((0 : Int32)).toNatClampNeg]? = some (.ref z0) := H177 _ (Nat.lt_of_not_le fun q => hin177 (Or.inr q))
    have pp178 : ∀ t, Steps p.tables e below (T174.setTop (mkF m 93 #[.val (.int p1), .val (.ref b102), .unset, .unset, .unset, .unset] [(.ref z0)])) t → Steps p.tables e below (s₁.setTop (entryFrame m #[(.int p1)] maxLocals)) t := fun t k => pp176 t (X174.aaload hx (j := (0 : Int32)) (v := (.ref z0)) (by rw [e174]; exact Ar177.1) (State.isArrayOf_alike hZ.alike Ar177.2.1) rfl Ar177.2.2 hin177 hat177 (g := (mkF m 92 #[.val (.int p1), .val (.ref b102), .unset, .unset, .unset, .unset] [(.int (0 : Int32)), (.ref b102)])) rfl rfl (hb hby at_92) _ k)
    have pp179 : ∀ t, Steps p.tables e below (T174.setTop (mkF m 95 #[.val (.int p1), .val (.ref b102), .val (.ref z0), .unset, .unset, .unset] [(.ref z0)])) t → Steps p.tables e below (s₁.setTop (entryFrame m #[(.int p1)] maxLocals)) t := fun t k => pp178 t (by
      refine XS.astoreN X174.here hx rfl (hb hby at_93) rfl rfl (l' := #[.val (.int p1), .val (.ref b102), .val (.ref z0), .unset, .unset, .unset]) rfl ?_
      show Steps p.tables e below (T174.setTop (mkF m 94 #[.val (.int p1), .val (.ref b102), .val (.ref z0), .unset, .unset, .unset] [])) _
      refine XS.aloadN X174.here hx rfl (hb hby at_94) rfl rfl ?_
      show Steps p.tables e below (T174.setTop (mkF m 95 #[.val (.int p1), .val (.ref b102), .val (.ref z0), .unset, .unset, .unset] [(.ref z0)])) _
      exact k)
    obtain ⟨cq180, kq180, q180a, q180b, q180c⟩ := isOf hZ e174 E0'
    obtain ⟨_, _, ⟨T180, L180, k180, n180⟩, -, X180, ⟨Lc180, hQ180, l180, y180, z180⟩, st180⟩ := X174.virtualBack hx (y := (⟨"com/example/pairwright/pairwright/model/Result", "won", "()Z"⟩ : MethodName)) (z := (⟨"com/example/pairwright/pairwright/model/Result", "won", "()Z"⟩ : MethodName)) hown (mvT hZ (hw _ (List.mem_of_getElem? (i := 29) rfl))) (mvT hZ (hw _ (List.mem_of_getElem? (i := 30) rfl))) (notFace_of_selects (args := #[]) (mvT hZ (hw _ (List.mem_of_getElem? (i := 32) rfl)))) (mvT hZ (hw _ (List.mem_of_getElem? (i := 32) rfl))) (mvT hZ (hw _ (List.mem_of_getElem? (i := 31) rfl))) (by decide) (backOf (W := 0) (own_won l Z a0 hw [] z0 z0 z3 h174 n0 Zn S0' S3') hZ (hw _ (List.mem_of_getElem? (i := 33) rfl)) (hw _ (List.mem_of_getElem? (i := 3) rfl)) (by decide) (by decide)) q180a q180c (g := (mkF m 95 #[.val (.int p1), .val (.ref b102), .val (.ref z0), .unset, .unset, .unset] [(.ref z0)])) rfl (by rw [hml]; rfl) (Steps.refl _) (argsL := []) (rest := []) (lenOf pd___Z rfl) rfl (by show 2 * 0 + _ ≤ _; exact Nat.le_of_eq rfl) (hb hby at_95) (fun _ _ => ⟨rfl, e174, (by decide : 1 + 0 ≤ _), (by decide : 12 + 0 ≤ _)⟩)
    dsimp only [Pt.U, Pt.locs, Pt.cells, Pt.slots] at X180 l180 y180 z180 st180 hQ180
    subst l180 y180 z180
    obtain ⟨rfl, N180q, s180⟩ := hQ180
    have N180 := Fr.app N174 N180q
    have pp181 : ∀ t, Steps p.tables e below (T180.setTop (mkF m 98 #[.val (.int p1), .val (.ref b102), .val (.ref z0), .unset, .unset, .unset] [(.int (own_or z0 z0 z3))])) t → Steps p.tables e below (s₁.setTop (entryFrame m #[(.int p1)] maxLocals)) t := fun t k => pp179 t (st180.trans k)
    rw [own_or1 (rfl : z0 = z0)] at pp181
    have pp182 : ∀ t, Steps p.tables e below (T180.setTop (mkF m 100 #[.val (.int p1), .val (.ref b102), .val (.ref z0), .val (.int (1 : Int32)), .unset, .unset] [(.ref z0)])) t → Steps p.tables e below (s₁.setTop (entryFrame m #[(.int p1)] maxLocals)) t := fun t k => pp181 t (by
      refine XS.istoreN X180.here hx rfl (hb hby at_98) rfl (l' := #[.val (.int p1), .val (.ref b102), .val (.ref z0), .val (.int (1 : Int32)), .unset, .unset]) rfl ?_
      show Steps p.tables e below (T180.setTop (mkF m 99 #[.val (.int p1), .val (.ref b102), .val (.ref z0), .val (.int (1 : Int32)), .unset, .unset] [])) _
      refine XS.aloadN X180.here hx rfl (hb hby at_99) rfl rfl ?_
      show Steps p.tables e below (T180.setTop (mkF m 100 #[.val (.int p1), .val (.ref b102), .val (.ref z0), .val (.int (1 : Int32)), .unset, .unset] [(.ref z0)])) _
      exact k)
    obtain ⟨cq183, kq183, q183a, q183b, q183c⟩ := isOf hZ s180 E0'
    obtain ⟨_, _, ⟨T183, L183, k183, n183⟩, -, X183, ⟨Lc183, hQ183, l183, y183, z183⟩, st183⟩ := X180.virtualBack hx (y := (⟨"com/example/pairwright/pairwright/model/Result", "code", "()C"⟩ : MethodName)) (z := (⟨"com/example/pairwright/pairwright/model/Result", "code", "()C"⟩ : MethodName)) hown (mvT hZ (hw _ (List.mem_of_getElem? (i := 35) rfl))) (mvT hZ (hw _ (List.mem_of_getElem? (i := 36) rfl))) (notFace_of_selects (args := #[]) (mvT hZ (hw _ (List.mem_of_getElem? (i := 38) rfl)))) (mvT hZ (hw _ (List.mem_of_getElem? (i := 38) rfl))) (mvT hZ (hw _ (List.mem_of_getElem? (i := 37) rfl))) (by decide) (backOf (W := 0) (own_code l Z a0 hw [] z0 (49 : Int32) h174 n0 Zn C0') hZ (hw _ (List.mem_of_getElem? (i := 39) rfl)) (hw _ (List.mem_of_getElem? (i := 3) rfl)) (by decide) (by decide)) q183a q183c (g := (mkF m 100 #[.val (.int p1), .val (.ref b102), .val (.ref z0), .val (.int (1 : Int32)), .unset, .unset] [(.ref z0)])) rfl (by rw [hml]; rfl) (Steps.refl _) (argsL := []) (rest := []) (lenOf pd___C rfl) rfl (by show 2 * 0 + _ ≤ _; exact Nat.le_of_eq rfl) (hb hby at_100) (fun _ _ => ⟨rfl, s180, (by decide : 1 + 0 ≤ _), (by decide : 12 + 0 ≤ _)⟩)
    dsimp only [Pt.U, Pt.locs, Pt.cells, Pt.slots] at X183 l183 y183 z183 st183 hQ183
    subst l183 y183 z183
    obtain ⟨rfl, N183q, s183⟩ := hQ183
    have N183 := Fr.app N180 N183q
    have pp184 : ∀ t, Steps p.tables e below (T183.setTop (mkF m 103 #[.val (.int p1), .val (.ref b102), .val (.ref z0), .val (.int (1 : Int32)), .unset, .unset] [(.int (nar .char (49 : Int32)))])) t → Steps p.tables e below (s₁.setTop (entryFrame m #[(.int p1)] maxLocals)) t := fun t k => pp182 t (st183.trans k)
    rw [show nar .char (49 : Int32) = (49 : Int32) from by decide] at pp184
    have pp185 : ∀ t, Steps p.tables e below (T183.setTop (mkF m 139 #[.val (.int p1), .val (.ref b102), .val (.ref z0), .val (.int (1 : Int32)), .val (.int (49 : Int32)), .val (.int (1 : Int32))] [(.ref z0)])) t → Steps p.tables e below (s₁.setTop (entryFrame m #[(.int p1)] maxLocals)) t := fun t k => pp184 t (by
      refine XS.istore X183.here hx rfl (hb hby at_103) rfl (l' := #[.val (.int p1), .val (.ref b102), .val (.ref z0), .val (.int (1 : Int32)), .val (.int (49 : Int32)), .unset]) rfl ?_
      show Steps p.tables e below (T183.setTop (mkF m 105 #[.val (.int p1), .val (.ref b102), .val (.ref z0), .val (.int (1 : Int32)), .val (.int (49 : Int32)), .unset] [])) _
      refine XS.iload X183.here hx rfl (hb hby at_105) rfl ?_
      show Steps p.tables e below (T183.setTop (mkF m 107 #[.val (.int p1), .val (.ref b102), .val (.ref z0), .val (.int (1 : Int32)), .val (.int (49 : Int32)), .unset] [(.int (49 : Int32))])) _
      refine XS.bipush X183.here hx rfl (hb hby at_107) ?_
      show Steps p.tables e below (T183.setTop (mkF m 109 #[.val (.int p1), .val (.ref b102), .val (.ref z0), .val (.int (1 : Int32)), .val (.int (49 : Int32)), .unset] [(.int (49 : Int32)), (.int (49 : Int32))])) _
      refine XS.icmpYes X183.here hx rfl (pc0 := 109) (pc' := 119) rfl (hb hby at_109) rfl (teq (by decide : (49 : Int32) = (49 : Int32))).1 (by decide) (by decide) ?_
      show Steps p.tables e below (T183.setTop (mkF m 119 #[.val (.int p1), .val (.ref b102), .val (.ref z0), .val (.int (1 : Int32)), .val (.int (49 : Int32)), .unset] [])) _
      refine XS.iconst X183.here hx rfl (hb hby at_119) ?_
      show Steps p.tables e below (T183.setTop (mkF m 120 #[.val (.int p1), .val (.ref b102), .val (.ref z0), .val (.int (1 : Int32)), .val (.int (49 : Int32)), .unset] [(.int (1 : Int32))])) _
      refine XS.goto X183.here hx rfl (pc0 := 120) (pc' := 124) rfl (hb hby at_120) (by decide) (by decide) ?_
      show Steps p.tables e below (T183.setTop (mkF m 124 #[.val (.int p1), .val (.ref b102), .val (.ref z0), .val (.int (1 : Int32)), .val (.int (49 : Int32)), .unset] [(.int (1 : Int32))])) _
      refine XS.istore X183.here hx rfl (hb hby at_124) rfl (l' := #[.val (.int p1), .val (.ref b102), .val (.ref z0), .val (.int (1 : Int32)), .val (.int (49 : Int32)), .val (.int (1 : Int32))]) rfl ?_
      show Steps p.tables e below (T183.setTop (mkF m 126 #[.val (.int p1), .val (.ref b102), .val (.ref z0), .val (.int (1 : Int32)), .val (.int (49 : Int32)), .val (.int (1 : Int32))] [])) _
      refine XS.iloadN X183.here hx rfl (hb hby at_126) rfl ?_
      show Steps p.tables e below (T183.setTop (mkF m 127 #[.val (.int p1), .val (.ref b102), .val (.ref z0), .val (.int (1 : Int32)), .val (.int (49 : Int32)), .val (.int (1 : Int32))] [(.int (1 : Int32))])) _
      refine XS.iload X183.here hx rfl (hb hby at_127) rfl ?_
      show Steps p.tables e below (T183.setTop (mkF m 129 #[.val (.int p1), .val (.ref b102), .val (.ref z0), .val (.int (1 : Int32)), .val (.int (49 : Int32)), .val (.int (1 : Int32))] [(.int (1 : Int32)), (.int (1 : Int32))])) _
      refine XS.icmpYes X183.here hx rfl (pc0 := 129) (pc' := 134) rfl (hb hby at_129) rfl (teq (by decide : (1 : Int32) = (1 : Int32))).1 (by decide) (by decide) ?_
      show Steps p.tables e below (T183.setTop (mkF m 134 #[.val (.int p1), .val (.ref b102), .val (.ref z0), .val (.int (1 : Int32)), .val (.int (49 : Int32)), .val (.int (1 : Int32))] [])) _
      refine XS.iloadN X183.here hx rfl (hb hby at_134) rfl ?_
      show Steps p.tables e below (T183.setTop (mkF m 135 #[.val (.int p1), .val (.ref b102), .val (.ref z0), .val (.int (1 : Int32)), .val (.int (49 : Int32)), .val (.int (1 : Int32))] [(.int (1 : Int32))])) _
      refine XS.ifNo X183.here hx rfl (hb hby at_135) rfl ((if0 _ _).trans (feq (by decide : ¬ ((1 : Int32) = (0 : Int32)))).1) ?_
      show Steps p.tables e below (T183.setTop (mkF m 138 #[.val (.int p1), .val (.ref b102), .val (.ref z0), .val (.int (1 : Int32)), .val (.int (49 : Int32)), .val (.int (1 : Int32))] [])) _
      refine XS.aloadN X183.here hx rfl (hb hby at_138) rfl rfl ?_
      show Steps p.tables e below (T183.setTop (mkF m 139 #[.val (.int p1), .val (.ref b102), .val (.ref z0), .val (.int (1 : Int32)), .val (.int (49 : Int32)), .val (.int (1 : Int32))] [(.ref z0)])) _
      exact k)
    obtain ⟨cq186, kq186, q186a, q186b, q186c⟩ := isOf hZ s183 E0'
    obtain ⟨_, _, ⟨T186, L186, k186, n186⟩, -, X186, ⟨Lc186, hQ186, l186, y186, z186⟩, st186⟩ := X183.virtualBack hx (y := (⟨"com/example/pairwright/pairwright/model/Result", "played", "()Z"⟩ : MethodName)) (z := (⟨"com/example/pairwright/pairwright/model/Result", "played", "()Z"⟩ : MethodName)) hown (mvT hZ (hw _ (List.mem_of_getElem? (i := 42) rfl))) (mvT hZ (hw _ (List.mem_of_getElem? (i := 43) rfl))) (notFace_of_selects (args := #[]) (mvT hZ (hw _ (List.mem_of_getElem? (i := 45) rfl)))) (mvT hZ (hw _ (List.mem_of_getElem? (i := 45) rfl))) (mvT hZ (hw _ (List.mem_of_getElem? (i := 44) rfl))) (by decide) (backOf (W := 0) (own_played l Z a0 hw [] z0 (1 : Int32) h174 n0 Zn P0') hZ (hw _ (List.mem_of_getElem? (i := 46) rfl)) (hw _ (List.mem_of_getElem? (i := 3) rfl)) (by decide) (by decide)) q186a q186c (g := (mkF m 139 #[.val (.int p1), .val (.ref b102), .val (.ref z0), .val (.int (1 : Int32)), .val (.int (49 : Int32)), .val (.int (1 : Int32))] [(.ref z0)])) rfl (by rw [hml]; rfl) (Steps.refl _) (argsL := []) (rest := []) (lenOf pd___Z rfl) rfl (by show 2 * 0 + _ ≤ _; exact Nat.le_of_eq rfl) (hb hby at_139) (fun _ _ => ⟨rfl, s183, (by decide : 1 + 0 ≤ _), (by decide : 12 + 0 ≤ _)⟩)
    dsimp only [Pt.U, Pt.locs, Pt.cells, Pt.slots] at X186 l186 y186 z186 st186 hQ186
    subst l186 y186 z186
    obtain ⟨rfl, N186q, s186⟩ := hQ186
    have N186 := Fr.app N183 N186q
    have pp187 : ∀ t, Steps p.tables e below (T186.setTop (mkF m 142 #[.val (.int p1), .val (.ref b102), .val (.ref z0), .val (.int (1 : Int32)), .val (.int (49 : Int32)), .val (.int (1 : Int32))] [(.int (nar .boolean (1 : Int32)))])) t → Steps p.tables e below (s₁.setTop (entryFrame m #[(.int p1)] maxLocals)) t := fun t k => pp185 t (st186.trans k)
    rw [show nar .boolean (1 : Int32) = (1 : Int32) from by decide] at pp187
    have pp188 : ∀ t, Steps p.tables e below (T186.setTop (mkF m 146 #[.val (.int p1), .val (.ref b102), .val (.ref z0), .val (.int (1 : Int32)), .val (.int (49 : Int32)), .val (.int (1 : Int32))] [(.ref z0)])) t → Steps p.tables e below (s₁.setTop (entryFrame m #[(.int p1)] maxLocals)) t := fun t k => pp187 t (by
      refine XS.ifNo X186.here hx rfl (hb hby at_142) rfl ((if0 _ _).trans (feq (by decide : ¬ ((1 : Int32) = (0 : Int32)))).1) ?_
      show Steps p.tables e below (T186.setTop (mkF m 145 #[.val (.int p1), .val (.ref b102), .val (.ref z0), .val (.int (1 : Int32)), .val (.int (49 : Int32)), .val (.int (1 : Int32))] [])) _
      refine XS.aloadN X186.here hx rfl (hb hby at_145) rfl rfl ?_
      show Steps p.tables e below (T186.setTop (mkF m 146 #[.val (.int p1), .val (.ref b102), .val (.ref z0), .val (.int (1 : Int32)), .val (.int (49 : Int32)), .val (.int (1 : Int32))] [(.ref z0)])) _
      exact k)
    obtain ⟨cq189, kq189, q189a, q189b, q189c⟩ := isOf hZ s186 E0'
    obtain ⟨_, _, ⟨T189, L189, k189, n189⟩, -, X189, ⟨Lc189, hQ189, l189, y189, z189⟩, st189⟩ := X186.virtualBack hx (y := (⟨"com/example/pairwright/pairwright/model/Result", "lost", "()Z"⟩ : MethodName)) (z := (⟨"com/example/pairwright/pairwright/model/Result", "lost", "()Z"⟩ : MethodName)) hown (mvT hZ (hw _ (List.mem_of_getElem? (i := 49) rfl))) (mvT hZ (hw _ (List.mem_of_getElem? (i := 50) rfl))) (notFace_of_selects (args := #[]) (mvT hZ (hw _ (List.mem_of_getElem? (i := 52) rfl)))) (mvT hZ (hw _ (List.mem_of_getElem? (i := 52) rfl))) (mvT hZ (hw _ (List.mem_of_getElem? (i := 51) rfl))) (by decide) (backOf (W := 0) (own_lost l Z a0 hw [] z0 z1 z4 h174 n0 Zn S1' S4') hZ (hw _ (List.mem_of_getElem? (i := 53) rfl)) (hw _ (List.mem_of_getElem? (i := 3) rfl)) (by decide) (by decide)) q189a q189c (g := (mkF m 146 #[.val (.int p1), .val (.ref b102), .val (.ref z0), .val (.int (1 : Int32)), .val (.int (49 : Int32)), .val (.int (1 : Int32))] [(.ref z0)])) rfl (by rw [hml]; rfl) (Steps.refl _) (argsL := []) (rest := []) (lenOf pd___Z rfl) rfl (by show 2 * 0 + _ ≤ _; exact Nat.le_of_eq rfl) (hb hby at_146) (fun _ _ => ⟨rfl, s186, (by decide : 1 + 0 ≤ _), (by decide : 12 + 0 ≤ _)⟩)
    dsimp only [Pt.U, Pt.locs, Pt.cells, Pt.slots] at X189 l189 y189 z189 st189 hQ189
    subst l189 y189 z189
    obtain ⟨rfl, N189q, s189⟩ := hQ189
    have N189 := Fr.app N186 N189q
    have pp190 : ∀ t, Steps p.tables e below (T189.setTop (mkF m 149 #[.val (.int p1), .val (.ref b102), .val (.ref z0), .val (.int (1 : Int32)), .val (.int (49 : Int32)), .val (.int (1 : Int32))] [(.int (own_or z0 z1 z4))])) t → Steps p.tables e below (s₁.setTop (entryFrame m #[(.int p1)] maxLocals)) t := fun t k => pp188 t (st189.trans k)
    rw [own_or3 ne0_1 ne0_4] at pp190
    have pp191 : ∀ t, Steps p.tables e below (T189.setTop (mkF m 155 #[.val (.int p1), .val (.ref b102), .val (.ref z0), .val (.int (1 : Int32)), .val (.int (49 : Int32)), .val (.int (1 : Int32))] [(.int (1 : Int32))])) t → Steps p.tables e below (s₁.setTop (entryFrame m #[(.int p1)] maxLocals)) t := fun t k => pp190 t (by
      refine XS.ifYes X189.here hx rfl (pc0 := 149) (pc' := 154) rfl (hb hby at_149) rfl ((if0 _ _).trans (teq (by decide : (0 : Int32) = (0 : Int32))).1) (by decide) (by decide) ?_
      show Steps p.tables e below (T189.setTop (mkF m 154 #[.val (.int p1), .val (.ref b102), .val (.ref z0), .val (.int (1 : Int32)), .val (.int (49 : Int32)), .val (.int (1 : Int32))] [])) _
      refine XS.iconst X189.here hx rfl (hb hby at_154) ?_
      show Steps p.tables e below (T189.setTop (mkF m 155 #[.val (.int p1), .val (.ref b102), .val (.ref z0), .val (.int (1 : Int32)), .val (.int (49 : Int32)), .val (.int (1 : Int32))] [(.int (1 : Int32))])) _
      exact k)
    obtain ⟨fs, hr, hrun, hended, hW, hsame⟩ := X189.leave (v := some (.int (1 : Int32))) (fun h => by rw [Bd.returns] at h; cases h)
    refine ⟨_, _, pp191 _ ?_, hrun, hended, _, _, rfl, ?_, ⟨_, rfl⟩, hW, hsame.mono (by decide) (by decide)⟩
    · exact retN X189 hx (t := .boolean) Bd.returns (by simp) (hb hby at_155) hr
    · show Q_own_law Z p1 z0 z1 z2 z3 z4 z5 z6 z7 z8 z9 z10 z11 h0 n0 _ T189.heap _
      rw [s189]
      exact ⟨rfl, N189⟩
  · obtain ⟨cl192, Ar192, q192, S192, N192', H192, G192⟩ := id V_b102_174
    have hin192 : ¬ ((1 : Int32) < 0 ∨ cl192.slots.size ≤ ((1 : Int32)).toNatClampNeg) := inb_of S192 ⟨by decide, by decide⟩
    have hat192 : cl192.slots[((1 : Int32)).toNatClampNeg]? = some (.ref z1) := H192 _ (Nat.lt_of_not_le fun q => hin192 (Or.inr q))
    have pp193 : ∀ t, Steps p.tables e below (T174.setTop (mkF m 93 #[.val (.int p1), .val (.ref b102), .unset, .unset, .unset, .unset] [(.ref z1)])) t → Steps p.tables e below (s₁.setTop (entryFrame m #[(.int p1)] maxLocals)) t := fun t k => pp176 t (X174.aaload hx (j := (1 : Int32)) (v := (.ref z1)) (by rw [e174]; exact Ar192.1) (State.isArrayOf_alike hZ.alike Ar192.2.1) rfl Ar192.2.2 hin192 hat192 (g := (mkF m 92 #[.val (.int p1), .val (.ref b102), .unset, .unset, .unset, .unset] [(.int (1 : Int32)), (.ref b102)])) rfl rfl (hb hby at_92) _ k)
    have pp194 : ∀ t, Steps p.tables e below (T174.setTop (mkF m 95 #[.val (.int p1), .val (.ref b102), .val (.ref z1), .unset, .unset, .unset] [(.ref z1)])) t → Steps p.tables e below (s₁.setTop (entryFrame m #[(.int p1)] maxLocals)) t := fun t k => pp193 t (by
      refine XS.astoreN X174.here hx rfl (hb hby at_93) rfl rfl (l' := #[.val (.int p1), .val (.ref b102), .val (.ref z1), .unset, .unset, .unset]) rfl ?_
      show Steps p.tables e below (T174.setTop (mkF m 94 #[.val (.int p1), .val (.ref b102), .val (.ref z1), .unset, .unset, .unset] [])) _
      refine XS.aloadN X174.here hx rfl (hb hby at_94) rfl rfl ?_
      show Steps p.tables e below (T174.setTop (mkF m 95 #[.val (.int p1), .val (.ref b102), .val (.ref z1), .unset, .unset, .unset] [(.ref z1)])) _
      exact k)
    obtain ⟨cq195, kq195, q195a, q195b, q195c⟩ := isOf hZ e174 E1'
    obtain ⟨_, _, ⟨T195, L195, k195, n195⟩, -, X195, ⟨Lc195, hQ195, l195, y195, z195⟩, st195⟩ := X174.virtualBack hx (y := (⟨"com/example/pairwright/pairwright/model/Result", "won", "()Z"⟩ : MethodName)) (z := (⟨"com/example/pairwright/pairwright/model/Result", "won", "()Z"⟩ : MethodName)) hown (mvT hZ (hw _ (List.mem_of_getElem? (i := 29) rfl))) (mvT hZ (hw _ (List.mem_of_getElem? (i := 30) rfl))) (notFace_of_selects (args := #[]) (mvT hZ (hw _ (List.mem_of_getElem? (i := 32) rfl)))) (mvT hZ (hw _ (List.mem_of_getElem? (i := 32) rfl))) (mvT hZ (hw _ (List.mem_of_getElem? (i := 31) rfl))) (by decide) (backOf (W := 0) (own_won l Z a0 hw [] z1 z0 z3 h174 n0 Zn S0' S3') hZ (hw _ (List.mem_of_getElem? (i := 33) rfl)) (hw _ (List.mem_of_getElem? (i := 3) rfl)) (by decide) (by decide)) q195a q195c (g := (mkF m 95 #[.val (.int p1), .val (.ref b102), .val (.ref z1), .unset, .unset, .unset] [(.ref z1)])) rfl (by rw [hml]; rfl) (Steps.refl _) (argsL := []) (rest := []) (lenOf pd___Z rfl) rfl (by show 2 * 0 + _ ≤ _; exact Nat.le_of_eq rfl) (hb hby at_95) (fun _ _ => ⟨rfl, e174, (by decide : 1 + 0 ≤ _), (by decide : 12 + 0 ≤ _)⟩)
    dsimp only [Pt.U, Pt.locs, Pt.cells, Pt.slots] at X195 l195 y195 z195 st195 hQ195
    subst l195 y195 z195
    obtain ⟨rfl, N195q, s195⟩ := hQ195
    have N195 := Fr.app N174 N195q
    have pp196 : ∀ t, Steps p.tables e below (T195.setTop (mkF m 98 #[.val (.int p1), .val (.ref b102), .val (.ref z1), .unset, .unset, .unset] [(.int (own_or z1 z0 z3))])) t → Steps p.tables e below (s₁.setTop (entryFrame m #[(.int p1)] maxLocals)) t := fun t k => pp194 t (st195.trans k)
    rw [own_or3 ne1_0 ne1_3] at pp196
    have pp197 : ∀ t, Steps p.tables e below (T195.setTop (mkF m 100 #[.val (.int p1), .val (.ref b102), .val (.ref z1), .val (.int (0 : Int32)), .unset, .unset] [(.ref z1)])) t → Steps p.tables e below (s₁.setTop (entryFrame m #[(.int p1)] maxLocals)) t := fun t k => pp196 t (by
      refine XS.istoreN X195.here hx rfl (hb hby at_98) rfl (l' := #[.val (.int p1), .val (.ref b102), .val (.ref z1), .val (.int (0 : Int32)), .unset, .unset]) rfl ?_
      show Steps p.tables e below (T195.setTop (mkF m 99 #[.val (.int p1), .val (.ref b102), .val (.ref z1), .val (.int (0 : Int32)), .unset, .unset] [])) _
      refine XS.aloadN X195.here hx rfl (hb hby at_99) rfl rfl ?_
      show Steps p.tables e below (T195.setTop (mkF m 100 #[.val (.int p1), .val (.ref b102), .val (.ref z1), .val (.int (0 : Int32)), .unset, .unset] [(.ref z1)])) _
      exact k)
    obtain ⟨cq198, kq198, q198a, q198b, q198c⟩ := isOf hZ s195 E1'
    obtain ⟨_, _, ⟨T198, L198, k198, n198⟩, -, X198, ⟨Lc198, hQ198, l198, y198, z198⟩, st198⟩ := X195.virtualBack hx (y := (⟨"com/example/pairwright/pairwright/model/Result", "code", "()C"⟩ : MethodName)) (z := (⟨"com/example/pairwright/pairwright/model/Result", "code", "()C"⟩ : MethodName)) hown (mvT hZ (hw _ (List.mem_of_getElem? (i := 35) rfl))) (mvT hZ (hw _ (List.mem_of_getElem? (i := 36) rfl))) (notFace_of_selects (args := #[]) (mvT hZ (hw _ (List.mem_of_getElem? (i := 38) rfl)))) (mvT hZ (hw _ (List.mem_of_getElem? (i := 38) rfl))) (mvT hZ (hw _ (List.mem_of_getElem? (i := 37) rfl))) (by decide) (backOf (W := 0) (own_code l Z a0 hw [] z1 (48 : Int32) h174 n0 Zn C1') hZ (hw _ (List.mem_of_getElem? (i := 39) rfl)) (hw _ (List.mem_of_getElem? (i := 3) rfl)) (by decide) (by decide)) q198a q198c (g := (mkF m 100 #[.val (.int p1), .val (.ref b102), .val (.ref z1), .val (.int (0 : Int32)), .unset, .unset] [(.ref z1)])) rfl (by rw [hml]; rfl) (Steps.refl _) (argsL := []) (rest := []) (lenOf pd___C rfl) rfl (by show 2 * 0 + _ ≤ _; exact Nat.le_of_eq rfl) (hb hby at_100) (fun _ _ => ⟨rfl, s195, (by decide : 1 + 0 ≤ _), (by decide : 12 + 0 ≤ _)⟩)
    dsimp only [Pt.U, Pt.locs, Pt.cells, Pt.slots] at X198 l198 y198 z198 st198 hQ198
    subst l198 y198 z198
    obtain ⟨rfl, N198q, s198⟩ := hQ198
    have N198 := Fr.app N195 N198q
    have pp199 : ∀ t, Steps p.tables e below (T198.setTop (mkF m 103 #[.val (.int p1), .val (.ref b102), .val (.ref z1), .val (.int (0 : Int32)), .unset, .unset] [(.int (nar .char (48 : Int32)))])) t → Steps p.tables e below (s₁.setTop (entryFrame m #[(.int p1)] maxLocals)) t := fun t k => pp197 t (st198.trans k)
    rw [show nar .char (48 : Int32) = (48 : Int32) from by decide] at pp199
    have pp200 : ∀ t, Steps p.tables e below (T198.setTop (mkF m 155 #[.val (.int p1), .val (.ref b102), .val (.ref z1), .val (.int (0 : Int32)), .val (.int (48 : Int32)), .val (.int (0 : Int32))] [(.int (1 : Int32))])) t → Steps p.tables e below (s₁.setTop (entryFrame m #[(.int p1)] maxLocals)) t := fun t k => pp199 t (by
      refine XS.istore X198.here hx rfl (hb hby at_103) rfl (l' := #[.val (.int p1), .val (.ref b102), .val (.ref z1), .val (.int (0 : Int32)), .val (.int (48 : Int32)), .unset]) rfl ?_
      show Steps p.tables e below (T198.setTop (mkF m 105 #[.val (.int p1), .val (.ref b102), .val (.ref z1), .val (.int (0 : Int32)), .val (.int (48 : Int32)), .unset] [])) _
      refine XS.iload X198.here hx rfl (hb hby at_105) rfl ?_
      show Steps p.tables e below (T198.setTop (mkF m 107 #[.val (.int p1), .val (.ref b102), .val (.ref z1), .val (.int (0 : Int32)), .val (.int (48 : Int32)), .unset] [(.int (48 : Int32))])) _
      refine XS.bipush X198.here hx rfl (hb hby at_107) ?_
      show Steps p.tables e below (T198.setTop (mkF m 109 #[.val (.int p1), .val (.ref b102), .val (.ref z1), .val (.int (0 : Int32)), .val (.int (48 : Int32)), .unset] [(.int (49 : Int32)), (.int (48 : Int32))])) _
      refine XS.icmpNo X198.here hx rfl (hb hby at_109) rfl (feq (by decide : ¬ ((48 : Int32) = (49 : Int32)))).1 ?_
      show Steps p.tables e below (T198.setTop (mkF m 112 #[.val (.int p1), .val (.ref b102), .val (.ref z1), .val (.int (0 : Int32)), .val (.int (48 : Int32)), .unset] [])) _
      refine XS.iload X198.here hx rfl (hb hby at_112) rfl ?_
      show Steps p.tables e below (T198.setTop (mkF m 114 #[.val (.int p1), .val (.ref b102), .val (.ref z1), .val (.int (0 : Int32)), .val (.int (48 : Int32)), .unset] [(.int (48 : Int32))])) _
      refine XS.bipush X198.here hx rfl (hb hby at_114) ?_
      show Steps p.tables e below (T198.setTop (mkF m 116 #[.val (.int p1), .val (.ref b102), .val (.ref z1), .val (.int (0 : Int32)), .val (.int (48 : Int32)), .unset] [(.int (87 : Int32)), (.int (48 : Int32))])) _
      refine XS.icmpYes X198.here hx rfl (pc0 := 116) (pc' := 123) rfl (hb hby at_116) rfl (feq (by decide : ¬ ((48 : Int32) = (87 : Int32)))).2 (by decide) (by decide) ?_
      show Steps p.tables e below (T198.setTop (mkF m 123 #[.val (.int p1), .val (.ref b102), .val (.ref z1), .val (.int (0 : Int32)), .val (.int (48 : Int32)), .unset] [])) _
      refine XS.iconst X198.here hx rfl (hb hby at_123) ?_
      show Steps p.tables e below (T198.setTop (mkF m 124 #[.val (.int p1), .val (.ref b102), .val (.ref z1), .val (.int (0 : Int32)), .val (.int (48 : Int32)), .unset] [(.int (0 : Int32))])) _
      refine XS.istore X198.here hx rfl (hb hby at_124) rfl (l' := #[.val (.int p1), .val (.ref b102), .val (.ref z1), .val (.int (0 : Int32)), .val (.int (48 : Int32)), .val (.int (0 : Int32))]) rfl ?_
      show Steps p.tables e below (T198.setTop (mkF m 126 #[.val (.int p1), .val (.ref b102), .val (.ref z1), .val (.int (0 : Int32)), .val (.int (48 : Int32)), .val (.int (0 : Int32))] [])) _
      refine XS.iloadN X198.here hx rfl (hb hby at_126) rfl ?_
      show Steps p.tables e below (T198.setTop (mkF m 127 #[.val (.int p1), .val (.ref b102), .val (.ref z1), .val (.int (0 : Int32)), .val (.int (48 : Int32)), .val (.int (0 : Int32))] [(.int (0 : Int32))])) _
      refine XS.iload X198.here hx rfl (hb hby at_127) rfl ?_
      show Steps p.tables e below (T198.setTop (mkF m 129 #[.val (.int p1), .val (.ref b102), .val (.ref z1), .val (.int (0 : Int32)), .val (.int (48 : Int32)), .val (.int (0 : Int32))] [(.int (0 : Int32)), (.int (0 : Int32))])) _
      refine XS.icmpYes X198.here hx rfl (pc0 := 129) (pc' := 134) rfl (hb hby at_129) rfl (teq (by decide : (0 : Int32) = (0 : Int32))).1 (by decide) (by decide) ?_
      show Steps p.tables e below (T198.setTop (mkF m 134 #[.val (.int p1), .val (.ref b102), .val (.ref z1), .val (.int (0 : Int32)), .val (.int (48 : Int32)), .val (.int (0 : Int32))] [])) _
      refine XS.iloadN X198.here hx rfl (hb hby at_134) rfl ?_
      show Steps p.tables e below (T198.setTop (mkF m 135 #[.val (.int p1), .val (.ref b102), .val (.ref z1), .val (.int (0 : Int32)), .val (.int (48 : Int32)), .val (.int (0 : Int32))] [(.int (0 : Int32))])) _
      refine XS.ifYes X198.here hx rfl (pc0 := 135) (pc' := 154) rfl (hb hby at_135) rfl ((if0 _ _).trans (teq (by decide : (0 : Int32) = (0 : Int32))).1) (by decide) (by decide) ?_
      show Steps p.tables e below (T198.setTop (mkF m 154 #[.val (.int p1), .val (.ref b102), .val (.ref z1), .val (.int (0 : Int32)), .val (.int (48 : Int32)), .val (.int (0 : Int32))] [])) _
      refine XS.iconst X198.here hx rfl (hb hby at_154) ?_
      show Steps p.tables e below (T198.setTop (mkF m 155 #[.val (.int p1), .val (.ref b102), .val (.ref z1), .val (.int (0 : Int32)), .val (.int (48 : Int32)), .val (.int (0 : Int32))] [(.int (1 : Int32))])) _
      exact k)
    obtain ⟨fs, hr, hrun, hended, hW, hsame⟩ := X198.leave (v := some (.int (1 : Int32))) (fun h => by rw [Bd.returns] at h; cases h)
    refine ⟨_, _, pp200 _ ?_, hrun, hended, _, _, rfl, ?_, ⟨_, rfl⟩, hW, hsame.mono (by decide) (by decide)⟩
    · exact retN X198 hx (t := .boolean) Bd.returns (by simp) (hb hby at_155) hr
    · show Q_own_law Z p1 z0 z1 z2 z3 z4 z5 z6 z7 z8 z9 z10 z11 h0 n0 _ T198.heap _
      rw [s198]
      exact ⟨rfl, N198⟩
  · obtain ⟨cl201, Ar201, q201, S201, N201', H201, G201⟩ := id V_b102_174
    have hin201 : ¬ ((2 : Int32) < 0 ∨ cl201.slots.size ≤ ((2 : Int32)).toNatClampNeg) := inb_of S201 ⟨by decide, by decide⟩
    have hat201 : cl201.slots[((2 : Int32)).toNatClampNeg]? = some (.ref z2) := H201 _ (Nat.lt_of_not_le fun q => hin201 (Or.inr q))
    have pp202 : ∀ t, Steps p.tables e below (T174.setTop (mkF m 93 #[.val (.int p1), .val (.ref b102), .unset, .unset, .unset, .unset] [(.ref z2)])) t → Steps p.tables e below (s₁.setTop (entryFrame m #[(.int p1)] maxLocals)) t := fun t k => pp176 t (X174.aaload hx (j := (2 : Int32)) (v := (.ref z2)) (by rw [e174]; exact Ar201.1) (State.isArrayOf_alike hZ.alike Ar201.2.1) rfl Ar201.2.2 hin201 hat201 (g := (mkF m 92 #[.val (.int p1), .val (.ref b102), .unset, .unset, .unset, .unset] [(.int (2 : Int32)), (.ref b102)])) rfl rfl (hb hby at_92) _ k)
    have pp203 : ∀ t, Steps p.tables e below (T174.setTop (mkF m 95 #[.val (.int p1), .val (.ref b102), .val (.ref z2), .unset, .unset, .unset] [(.ref z2)])) t → Steps p.tables e below (s₁.setTop (entryFrame m #[(.int p1)] maxLocals)) t := fun t k => pp202 t (by
      refine XS.astoreN X174.here hx rfl (hb hby at_93) rfl rfl (l' := #[.val (.int p1), .val (.ref b102), .val (.ref z2), .unset, .unset, .unset]) rfl ?_
      show Steps p.tables e below (T174.setTop (mkF m 94 #[.val (.int p1), .val (.ref b102), .val (.ref z2), .unset, .unset, .unset] [])) _
      refine XS.aloadN X174.here hx rfl (hb hby at_94) rfl rfl ?_
      show Steps p.tables e below (T174.setTop (mkF m 95 #[.val (.int p1), .val (.ref b102), .val (.ref z2), .unset, .unset, .unset] [(.ref z2)])) _
      exact k)
    obtain ⟨cq204, kq204, q204a, q204b, q204c⟩ := isOf hZ e174 E2'
    obtain ⟨_, _, ⟨T204, L204, k204, n204⟩, -, X204, ⟨Lc204, hQ204, l204, y204, z204⟩, st204⟩ := X174.virtualBack hx (y := (⟨"com/example/pairwright/pairwright/model/Result", "won", "()Z"⟩ : MethodName)) (z := (⟨"com/example/pairwright/pairwright/model/Result", "won", "()Z"⟩ : MethodName)) hown (mvT hZ (hw _ (List.mem_of_getElem? (i := 29) rfl))) (mvT hZ (hw _ (List.mem_of_getElem? (i := 30) rfl))) (notFace_of_selects (args := #[]) (mvT hZ (hw _ (List.mem_of_getElem? (i := 32) rfl)))) (mvT hZ (hw _ (List.mem_of_getElem? (i := 32) rfl))) (mvT hZ (hw _ (List.mem_of_getElem? (i := 31) rfl))) (by decide) (backOf (W := 0) (own_won l Z a0 hw [] z2 z0 z3 h174 n0 Zn S0' S3') hZ (hw _ (List.mem_of_getElem? (i := 33) rfl)) (hw _ (List.mem_of_getElem? (i := 3) rfl)) (by decide) (by decide)) q204a q204c (g := (mkF m 95 #[.val (.int p1), .val (.ref b102), .val (.ref z2), .unset, .unset, .unset] [(.ref z2)])) rfl (by rw [hml]; rfl) (Steps.refl _) (argsL := []) (rest := []) (lenOf pd___Z rfl) rfl (by show 2 * 0 + _ ≤ _; exact Nat.le_of_eq rfl) (hb hby at_95) (fun _ _ => ⟨rfl, e174, (by decide : 1 + 0 ≤ _), (by decide : 12 + 0 ≤ _)⟩)
    dsimp only [Pt.U, Pt.locs, Pt.cells, Pt.slots] at X204 l204 y204 z204 st204 hQ204
    subst l204 y204 z204
    obtain ⟨rfl, N204q, s204⟩ := hQ204
    have N204 := Fr.app N174 N204q
    have pp205 : ∀ t, Steps p.tables e below (T204.setTop (mkF m 98 #[.val (.int p1), .val (.ref b102), .val (.ref z2), .unset, .unset, .unset] [(.int (own_or z2 z0 z3))])) t → Steps p.tables e below (s₁.setTop (entryFrame m #[(.int p1)] maxLocals)) t := fun t k => pp203 t (st204.trans k)
    rw [own_or3 ne2_0 ne2_3] at pp205
    have pp206 : ∀ t, Steps p.tables e below (T204.setTop (mkF m 100 #[.val (.int p1), .val (.ref b102), .val (.ref z2), .val (.int (0 : Int32)), .unset, .unset] [(.ref z2)])) t → Steps p.tables e below (s₁.setTop (entryFrame m #[(.int p1)] maxLocals)) t := fun t k => pp205 t (by
      refine XS.istoreN X204.here hx rfl (hb hby at_98) rfl (l' := #[.val (.int p1), .val (.ref b102), .val (.ref z2), .val (.int (0 : Int32)), .unset, .unset]) rfl ?_
      show Steps p.tables e below (T204.setTop (mkF m 99 #[.val (.int p1), .val (.ref b102), .val (.ref z2), .val (.int (0 : Int32)), .unset, .unset] [])) _
      refine XS.aloadN X204.here hx rfl (hb hby at_99) rfl rfl ?_
      show Steps p.tables e below (T204.setTop (mkF m 100 #[.val (.int p1), .val (.ref b102), .val (.ref z2), .val (.int (0 : Int32)), .unset, .unset] [(.ref z2)])) _
      exact k)
    obtain ⟨cq207, kq207, q207a, q207b, q207c⟩ := isOf hZ s204 E2'
    obtain ⟨_, _, ⟨T207, L207, k207, n207⟩, -, X207, ⟨Lc207, hQ207, l207, y207, z207⟩, st207⟩ := X204.virtualBack hx (y := (⟨"com/example/pairwright/pairwright/model/Result", "code", "()C"⟩ : MethodName)) (z := (⟨"com/example/pairwright/pairwright/model/Result", "code", "()C"⟩ : MethodName)) hown (mvT hZ (hw _ (List.mem_of_getElem? (i := 35) rfl))) (mvT hZ (hw _ (List.mem_of_getElem? (i := 36) rfl))) (notFace_of_selects (args := #[]) (mvT hZ (hw _ (List.mem_of_getElem? (i := 38) rfl)))) (mvT hZ (hw _ (List.mem_of_getElem? (i := 38) rfl))) (mvT hZ (hw _ (List.mem_of_getElem? (i := 37) rfl))) (by decide) (backOf (W := 0) (own_code l Z a0 hw [] z2 (61 : Int32) h174 n0 Zn C2') hZ (hw _ (List.mem_of_getElem? (i := 39) rfl)) (hw _ (List.mem_of_getElem? (i := 3) rfl)) (by decide) (by decide)) q207a q207c (g := (mkF m 100 #[.val (.int p1), .val (.ref b102), .val (.ref z2), .val (.int (0 : Int32)), .unset, .unset] [(.ref z2)])) rfl (by rw [hml]; rfl) (Steps.refl _) (argsL := []) (rest := []) (lenOf pd___C rfl) rfl (by show 2 * 0 + _ ≤ _; exact Nat.le_of_eq rfl) (hb hby at_100) (fun _ _ => ⟨rfl, s204, (by decide : 1 + 0 ≤ _), (by decide : 12 + 0 ≤ _)⟩)
    dsimp only [Pt.U, Pt.locs, Pt.cells, Pt.slots] at X207 l207 y207 z207 st207 hQ207
    subst l207 y207 z207
    obtain ⟨rfl, N207q, s207⟩ := hQ207
    have N207 := Fr.app N204 N207q
    have pp208 : ∀ t, Steps p.tables e below (T207.setTop (mkF m 103 #[.val (.int p1), .val (.ref b102), .val (.ref z2), .val (.int (0 : Int32)), .unset, .unset] [(.int (nar .char (61 : Int32)))])) t → Steps p.tables e below (s₁.setTop (entryFrame m #[(.int p1)] maxLocals)) t := fun t k => pp206 t (st207.trans k)
    rw [show nar .char (61 : Int32) = (61 : Int32) from by decide] at pp208
    have pp209 : ∀ t, Steps p.tables e below (T207.setTop (mkF m 155 #[.val (.int p1), .val (.ref b102), .val (.ref z2), .val (.int (0 : Int32)), .val (.int (61 : Int32)), .val (.int (0 : Int32))] [(.int (1 : Int32))])) t → Steps p.tables e below (s₁.setTop (entryFrame m #[(.int p1)] maxLocals)) t := fun t k => pp208 t (by
      refine XS.istore X207.here hx rfl (hb hby at_103) rfl (l' := #[.val (.int p1), .val (.ref b102), .val (.ref z2), .val (.int (0 : Int32)), .val (.int (61 : Int32)), .unset]) rfl ?_
      show Steps p.tables e below (T207.setTop (mkF m 105 #[.val (.int p1), .val (.ref b102), .val (.ref z2), .val (.int (0 : Int32)), .val (.int (61 : Int32)), .unset] [])) _
      refine XS.iload X207.here hx rfl (hb hby at_105) rfl ?_
      show Steps p.tables e below (T207.setTop (mkF m 107 #[.val (.int p1), .val (.ref b102), .val (.ref z2), .val (.int (0 : Int32)), .val (.int (61 : Int32)), .unset] [(.int (61 : Int32))])) _
      refine XS.bipush X207.here hx rfl (hb hby at_107) ?_
      show Steps p.tables e below (T207.setTop (mkF m 109 #[.val (.int p1), .val (.ref b102), .val (.ref z2), .val (.int (0 : Int32)), .val (.int (61 : Int32)), .unset] [(.int (49 : Int32)), (.int (61 : Int32))])) _
      refine XS.icmpNo X207.here hx rfl (hb hby at_109) rfl (feq (by decide : ¬ ((61 : Int32) = (49 : Int32)))).1 ?_
      show Steps p.tables e below (T207.setTop (mkF m 112 #[.val (.int p1), .val (.ref b102), .val (.ref z2), .val (.int (0 : Int32)), .val (.int (61 : Int32)), .unset] [])) _
      refine XS.iload X207.here hx rfl (hb hby at_112) rfl ?_
      show Steps p.tables e below (T207.setTop (mkF m 114 #[.val (.int p1), .val (.ref b102), .val (.ref z2), .val (.int (0 : Int32)), .val (.int (61 : Int32)), .unset] [(.int (61 : Int32))])) _
      refine XS.bipush X207.here hx rfl (hb hby at_114) ?_
      show Steps p.tables e below (T207.setTop (mkF m 116 #[.val (.int p1), .val (.ref b102), .val (.ref z2), .val (.int (0 : Int32)), .val (.int (61 : Int32)), .unset] [(.int (87 : Int32)), (.int (61 : Int32))])) _
      refine XS.icmpYes X207.here hx rfl (pc0 := 116) (pc' := 123) rfl (hb hby at_116) rfl (feq (by decide : ¬ ((61 : Int32) = (87 : Int32)))).2 (by decide) (by decide) ?_
      show Steps p.tables e below (T207.setTop (mkF m 123 #[.val (.int p1), .val (.ref b102), .val (.ref z2), .val (.int (0 : Int32)), .val (.int (61 : Int32)), .unset] [])) _
      refine XS.iconst X207.here hx rfl (hb hby at_123) ?_
      show Steps p.tables e below (T207.setTop (mkF m 124 #[.val (.int p1), .val (.ref b102), .val (.ref z2), .val (.int (0 : Int32)), .val (.int (61 : Int32)), .unset] [(.int (0 : Int32))])) _
      refine XS.istore X207.here hx rfl (hb hby at_124) rfl (l' := #[.val (.int p1), .val (.ref b102), .val (.ref z2), .val (.int (0 : Int32)), .val (.int (61 : Int32)), .val (.int (0 : Int32))]) rfl ?_
      show Steps p.tables e below (T207.setTop (mkF m 126 #[.val (.int p1), .val (.ref b102), .val (.ref z2), .val (.int (0 : Int32)), .val (.int (61 : Int32)), .val (.int (0 : Int32))] [])) _
      refine XS.iloadN X207.here hx rfl (hb hby at_126) rfl ?_
      show Steps p.tables e below (T207.setTop (mkF m 127 #[.val (.int p1), .val (.ref b102), .val (.ref z2), .val (.int (0 : Int32)), .val (.int (61 : Int32)), .val (.int (0 : Int32))] [(.int (0 : Int32))])) _
      refine XS.iload X207.here hx rfl (hb hby at_127) rfl ?_
      show Steps p.tables e below (T207.setTop (mkF m 129 #[.val (.int p1), .val (.ref b102), .val (.ref z2), .val (.int (0 : Int32)), .val (.int (61 : Int32)), .val (.int (0 : Int32))] [(.int (0 : Int32)), (.int (0 : Int32))])) _
      refine XS.icmpYes X207.here hx rfl (pc0 := 129) (pc' := 134) rfl (hb hby at_129) rfl (teq (by decide : (0 : Int32) = (0 : Int32))).1 (by decide) (by decide) ?_
      show Steps p.tables e below (T207.setTop (mkF m 134 #[.val (.int p1), .val (.ref b102), .val (.ref z2), .val (.int (0 : Int32)), .val (.int (61 : Int32)), .val (.int (0 : Int32))] [])) _
      refine XS.iloadN X207.here hx rfl (hb hby at_134) rfl ?_
      show Steps p.tables e below (T207.setTop (mkF m 135 #[.val (.int p1), .val (.ref b102), .val (.ref z2), .val (.int (0 : Int32)), .val (.int (61 : Int32)), .val (.int (0 : Int32))] [(.int (0 : Int32))])) _
      refine XS.ifYes X207.here hx rfl (pc0 := 135) (pc' := 154) rfl (hb hby at_135) rfl ((if0 _ _).trans (teq (by decide : (0 : Int32) = (0 : Int32))).1) (by decide) (by decide) ?_
      show Steps p.tables e below (T207.setTop (mkF m 154 #[.val (.int p1), .val (.ref b102), .val (.ref z2), .val (.int (0 : Int32)), .val (.int (61 : Int32)), .val (.int (0 : Int32))] [])) _
      refine XS.iconst X207.here hx rfl (hb hby at_154) ?_
      show Steps p.tables e below (T207.setTop (mkF m 155 #[.val (.int p1), .val (.ref b102), .val (.ref z2), .val (.int (0 : Int32)), .val (.int (61 : Int32)), .val (.int (0 : Int32))] [(.int (1 : Int32))])) _
      exact k)
    obtain ⟨fs, hr, hrun, hended, hW, hsame⟩ := X207.leave (v := some (.int (1 : Int32))) (fun h => by rw [Bd.returns] at h; cases h)
    refine ⟨_, _, pp209 _ ?_, hrun, hended, _, _, rfl, ?_, ⟨_, rfl⟩, hW, hsame.mono (by decide) (by decide)⟩
    · exact retN X207 hx (t := .boolean) Bd.returns (by simp) (hb hby at_155) hr
    · show Q_own_law Z p1 z0 z1 z2 z3 z4 z5 z6 z7 z8 z9 z10 z11 h0 n0 _ T207.heap _
      rw [s207]
      exact ⟨rfl, N207⟩
  · obtain ⟨cl210, Ar210, q210, S210, N210', H210, G210⟩ := id V_b102_174
    have hin210 : ¬ ((3 : Int32) < 0 ∨ cl210.slots.size ≤ ((3 : Int32)).toNatClampNeg) := inb_of S210 ⟨by decide, by decide⟩
    have hat210 : cl210.slots[((3 : Int32)).toNatClampNeg]? = some (.ref z3) := H210 _ (Nat.lt_of_not_le fun q => hin210 (Or.inr q))
    have pp211 : ∀ t, Steps p.tables e below (T174.setTop (mkF m 93 #[.val (.int p1), .val (.ref b102), .unset, .unset, .unset, .unset] [(.ref z3)])) t → Steps p.tables e below (s₁.setTop (entryFrame m #[(.int p1)] maxLocals)) t := fun t k => pp176 t (X174.aaload hx (j := (3 : Int32)) (v := (.ref z3)) (by rw [e174]; exact Ar210.1) (State.isArrayOf_alike hZ.alike Ar210.2.1) rfl Ar210.2.2 hin210 hat210 (g := (mkF m 92 #[.val (.int p1), .val (.ref b102), .unset, .unset, .unset, .unset] [(.int (3 : Int32)), (.ref b102)])) rfl rfl (hb hby at_92) _ k)
    have pp212 : ∀ t, Steps p.tables e below (T174.setTop (mkF m 95 #[.val (.int p1), .val (.ref b102), .val (.ref z3), .unset, .unset, .unset] [(.ref z3)])) t → Steps p.tables e below (s₁.setTop (entryFrame m #[(.int p1)] maxLocals)) t := fun t k => pp211 t (by
      refine XS.astoreN X174.here hx rfl (hb hby at_93) rfl rfl (l' := #[.val (.int p1), .val (.ref b102), .val (.ref z3), .unset, .unset, .unset]) rfl ?_
      show Steps p.tables e below (T174.setTop (mkF m 94 #[.val (.int p1), .val (.ref b102), .val (.ref z3), .unset, .unset, .unset] [])) _
      refine XS.aloadN X174.here hx rfl (hb hby at_94) rfl rfl ?_
      show Steps p.tables e below (T174.setTop (mkF m 95 #[.val (.int p1), .val (.ref b102), .val (.ref z3), .unset, .unset, .unset] [(.ref z3)])) _
      exact k)
    obtain ⟨cq213, kq213, q213a, q213b, q213c⟩ := isOf hZ e174 E3'
    obtain ⟨_, _, ⟨T213, L213, k213, n213⟩, -, X213, ⟨Lc213, hQ213, l213, y213, z213⟩, st213⟩ := X174.virtualBack hx (y := (⟨"com/example/pairwright/pairwright/model/Result", "won", "()Z"⟩ : MethodName)) (z := (⟨"com/example/pairwright/pairwright/model/Result", "won", "()Z"⟩ : MethodName)) hown (mvT hZ (hw _ (List.mem_of_getElem? (i := 29) rfl))) (mvT hZ (hw _ (List.mem_of_getElem? (i := 30) rfl))) (notFace_of_selects (args := #[]) (mvT hZ (hw _ (List.mem_of_getElem? (i := 32) rfl)))) (mvT hZ (hw _ (List.mem_of_getElem? (i := 32) rfl))) (mvT hZ (hw _ (List.mem_of_getElem? (i := 31) rfl))) (by decide) (backOf (W := 0) (own_won l Z a0 hw [] z3 z0 z3 h174 n0 Zn S0' S3') hZ (hw _ (List.mem_of_getElem? (i := 33) rfl)) (hw _ (List.mem_of_getElem? (i := 3) rfl)) (by decide) (by decide)) q213a q213c (g := (mkF m 95 #[.val (.int p1), .val (.ref b102), .val (.ref z3), .unset, .unset, .unset] [(.ref z3)])) rfl (by rw [hml]; rfl) (Steps.refl _) (argsL := []) (rest := []) (lenOf pd___Z rfl) rfl (by show 2 * 0 + _ ≤ _; exact Nat.le_of_eq rfl) (hb hby at_95) (fun _ _ => ⟨rfl, e174, (by decide : 1 + 0 ≤ _), (by decide : 12 + 0 ≤ _)⟩)
    dsimp only [Pt.U, Pt.locs, Pt.cells, Pt.slots] at X213 l213 y213 z213 st213 hQ213
    subst l213 y213 z213
    obtain ⟨rfl, N213q, s213⟩ := hQ213
    have N213 := Fr.app N174 N213q
    have pp214 : ∀ t, Steps p.tables e below (T213.setTop (mkF m 98 #[.val (.int p1), .val (.ref b102), .val (.ref z3), .unset, .unset, .unset] [(.int (own_or z3 z0 z3))])) t → Steps p.tables e below (s₁.setTop (entryFrame m #[(.int p1)] maxLocals)) t := fun t k => pp212 t (st213.trans k)
    rw [own_or2 (ne3_0) (rfl : z3 = z3)] at pp214
    have pp215 : ∀ t, Steps p.tables e below (T213.setTop (mkF m 100 #[.val (.int p1), .val (.ref b102), .val (.ref z3), .val (.int (1 : Int32)), .unset, .unset] [(.ref z3)])) t → Steps p.tables e below (s₁.setTop (entryFrame m #[(.int p1)] maxLocals)) t := fun t k => pp214 t (by
      refine XS.istoreN X213.here hx rfl (hb hby at_98) rfl (l' := #[.val (.int p1), .val (.ref b102), .val (.ref z3), .val (.int (1 : Int32)), .unset, .unset]) rfl ?_
      show Steps p.tables e below (T213.setTop (mkF m 99 #[.val (.int p1), .val (.ref b102), .val (.ref z3), .val (.int (1 : Int32)), .unset, .unset] [])) _
      refine XS.aloadN X213.here hx rfl (hb hby at_99) rfl rfl ?_
      show Steps p.tables e below (T213.setTop (mkF m 100 #[.val (.int p1), .val (.ref b102), .val (.ref z3), .val (.int (1 : Int32)), .unset, .unset] [(.ref z3)])) _
      exact k)
    obtain ⟨cq216, kq216, q216a, q216b, q216c⟩ := isOf hZ s213 E3'
    obtain ⟨_, _, ⟨T216, L216, k216, n216⟩, -, X216, ⟨Lc216, hQ216, l216, y216, z216⟩, st216⟩ := X213.virtualBack hx (y := (⟨"com/example/pairwright/pairwright/model/Result", "code", "()C"⟩ : MethodName)) (z := (⟨"com/example/pairwright/pairwright/model/Result", "code", "()C"⟩ : MethodName)) hown (mvT hZ (hw _ (List.mem_of_getElem? (i := 35) rfl))) (mvT hZ (hw _ (List.mem_of_getElem? (i := 36) rfl))) (notFace_of_selects (args := #[]) (mvT hZ (hw _ (List.mem_of_getElem? (i := 38) rfl)))) (mvT hZ (hw _ (List.mem_of_getElem? (i := 38) rfl))) (mvT hZ (hw _ (List.mem_of_getElem? (i := 37) rfl))) (by decide) (backOf (W := 0) (own_code l Z a0 hw [] z3 (87 : Int32) h174 n0 Zn C3') hZ (hw _ (List.mem_of_getElem? (i := 39) rfl)) (hw _ (List.mem_of_getElem? (i := 3) rfl)) (by decide) (by decide)) q216a q216c (g := (mkF m 100 #[.val (.int p1), .val (.ref b102), .val (.ref z3), .val (.int (1 : Int32)), .unset, .unset] [(.ref z3)])) rfl (by rw [hml]; rfl) (Steps.refl _) (argsL := []) (rest := []) (lenOf pd___C rfl) rfl (by show 2 * 0 + _ ≤ _; exact Nat.le_of_eq rfl) (hb hby at_100) (fun _ _ => ⟨rfl, s213, (by decide : 1 + 0 ≤ _), (by decide : 12 + 0 ≤ _)⟩)
    dsimp only [Pt.U, Pt.locs, Pt.cells, Pt.slots] at X216 l216 y216 z216 st216 hQ216
    subst l216 y216 z216
    obtain ⟨rfl, N216q, s216⟩ := hQ216
    have N216 := Fr.app N213 N216q
    have pp217 : ∀ t, Steps p.tables e below (T216.setTop (mkF m 103 #[.val (.int p1), .val (.ref b102), .val (.ref z3), .val (.int (1 : Int32)), .unset, .unset] [(.int (nar .char (87 : Int32)))])) t → Steps p.tables e below (s₁.setTop (entryFrame m #[(.int p1)] maxLocals)) t := fun t k => pp215 t (st216.trans k)
    rw [show nar .char (87 : Int32) = (87 : Int32) from by decide] at pp217
    have pp218 : ∀ t, Steps p.tables e below (T216.setTop (mkF m 139 #[.val (.int p1), .val (.ref b102), .val (.ref z3), .val (.int (1 : Int32)), .val (.int (87 : Int32)), .val (.int (1 : Int32))] [(.ref z3)])) t → Steps p.tables e below (s₁.setTop (entryFrame m #[(.int p1)] maxLocals)) t := fun t k => pp217 t (by
      refine XS.istore X216.here hx rfl (hb hby at_103) rfl (l' := #[.val (.int p1), .val (.ref b102), .val (.ref z3), .val (.int (1 : Int32)), .val (.int (87 : Int32)), .unset]) rfl ?_
      show Steps p.tables e below (T216.setTop (mkF m 105 #[.val (.int p1), .val (.ref b102), .val (.ref z3), .val (.int (1 : Int32)), .val (.int (87 : Int32)), .unset] [])) _
      refine XS.iload X216.here hx rfl (hb hby at_105) rfl ?_
      show Steps p.tables e below (T216.setTop (mkF m 107 #[.val (.int p1), .val (.ref b102), .val (.ref z3), .val (.int (1 : Int32)), .val (.int (87 : Int32)), .unset] [(.int (87 : Int32))])) _
      refine XS.bipush X216.here hx rfl (hb hby at_107) ?_
      show Steps p.tables e below (T216.setTop (mkF m 109 #[.val (.int p1), .val (.ref b102), .val (.ref z3), .val (.int (1 : Int32)), .val (.int (87 : Int32)), .unset] [(.int (49 : Int32)), (.int (87 : Int32))])) _
      refine XS.icmpNo X216.here hx rfl (hb hby at_109) rfl (feq (by decide : ¬ ((87 : Int32) = (49 : Int32)))).1 ?_
      show Steps p.tables e below (T216.setTop (mkF m 112 #[.val (.int p1), .val (.ref b102), .val (.ref z3), .val (.int (1 : Int32)), .val (.int (87 : Int32)), .unset] [])) _
      refine XS.iload X216.here hx rfl (hb hby at_112) rfl ?_
      show Steps p.tables e below (T216.setTop (mkF m 114 #[.val (.int p1), .val (.ref b102), .val (.ref z3), .val (.int (1 : Int32)), .val (.int (87 : Int32)), .unset] [(.int (87 : Int32))])) _
      refine XS.bipush X216.here hx rfl (hb hby at_114) ?_
      show Steps p.tables e below (T216.setTop (mkF m 116 #[.val (.int p1), .val (.ref b102), .val (.ref z3), .val (.int (1 : Int32)), .val (.int (87 : Int32)), .unset] [(.int (87 : Int32)), (.int (87 : Int32))])) _
      refine XS.icmpNo X216.here hx rfl (hb hby at_116) rfl (teq (by decide : (87 : Int32) = (87 : Int32))).2 ?_
      show Steps p.tables e below (T216.setTop (mkF m 119 #[.val (.int p1), .val (.ref b102), .val (.ref z3), .val (.int (1 : Int32)), .val (.int (87 : Int32)), .unset] [])) _
      refine XS.iconst X216.here hx rfl (hb hby at_119) ?_
      show Steps p.tables e below (T216.setTop (mkF m 120 #[.val (.int p1), .val (.ref b102), .val (.ref z3), .val (.int (1 : Int32)), .val (.int (87 : Int32)), .unset] [(.int (1 : Int32))])) _
      refine XS.goto X216.here hx rfl (pc0 := 120) (pc' := 124) rfl (hb hby at_120) (by decide) (by decide) ?_
      show Steps p.tables e below (T216.setTop (mkF m 124 #[.val (.int p1), .val (.ref b102), .val (.ref z3), .val (.int (1 : Int32)), .val (.int (87 : Int32)), .unset] [(.int (1 : Int32))])) _
      refine XS.istore X216.here hx rfl (hb hby at_124) rfl (l' := #[.val (.int p1), .val (.ref b102), .val (.ref z3), .val (.int (1 : Int32)), .val (.int (87 : Int32)), .val (.int (1 : Int32))]) rfl ?_
      show Steps p.tables e below (T216.setTop (mkF m 126 #[.val (.int p1), .val (.ref b102), .val (.ref z3), .val (.int (1 : Int32)), .val (.int (87 : Int32)), .val (.int (1 : Int32))] [])) _
      refine XS.iloadN X216.here hx rfl (hb hby at_126) rfl ?_
      show Steps p.tables e below (T216.setTop (mkF m 127 #[.val (.int p1), .val (.ref b102), .val (.ref z3), .val (.int (1 : Int32)), .val (.int (87 : Int32)), .val (.int (1 : Int32))] [(.int (1 : Int32))])) _
      refine XS.iload X216.here hx rfl (hb hby at_127) rfl ?_
      show Steps p.tables e below (T216.setTop (mkF m 129 #[.val (.int p1), .val (.ref b102), .val (.ref z3), .val (.int (1 : Int32)), .val (.int (87 : Int32)), .val (.int (1 : Int32))] [(.int (1 : Int32)), (.int (1 : Int32))])) _
      refine XS.icmpYes X216.here hx rfl (pc0 := 129) (pc' := 134) rfl (hb hby at_129) rfl (teq (by decide : (1 : Int32) = (1 : Int32))).1 (by decide) (by decide) ?_
      show Steps p.tables e below (T216.setTop (mkF m 134 #[.val (.int p1), .val (.ref b102), .val (.ref z3), .val (.int (1 : Int32)), .val (.int (87 : Int32)), .val (.int (1 : Int32))] [])) _
      refine XS.iloadN X216.here hx rfl (hb hby at_134) rfl ?_
      show Steps p.tables e below (T216.setTop (mkF m 135 #[.val (.int p1), .val (.ref b102), .val (.ref z3), .val (.int (1 : Int32)), .val (.int (87 : Int32)), .val (.int (1 : Int32))] [(.int (1 : Int32))])) _
      refine XS.ifNo X216.here hx rfl (hb hby at_135) rfl ((if0 _ _).trans (feq (by decide : ¬ ((1 : Int32) = (0 : Int32)))).1) ?_
      show Steps p.tables e below (T216.setTop (mkF m 138 #[.val (.int p1), .val (.ref b102), .val (.ref z3), .val (.int (1 : Int32)), .val (.int (87 : Int32)), .val (.int (1 : Int32))] [])) _
      refine XS.aloadN X216.here hx rfl (hb hby at_138) rfl rfl ?_
      show Steps p.tables e below (T216.setTop (mkF m 139 #[.val (.int p1), .val (.ref b102), .val (.ref z3), .val (.int (1 : Int32)), .val (.int (87 : Int32)), .val (.int (1 : Int32))] [(.ref z3)])) _
      exact k)
    obtain ⟨cq219, kq219, q219a, q219b, q219c⟩ := isOf hZ s216 E3'
    obtain ⟨_, _, ⟨T219, L219, k219, n219⟩, -, X219, ⟨Lc219, hQ219, l219, y219, z219⟩, st219⟩ := X216.virtualBack hx (y := (⟨"com/example/pairwright/pairwright/model/Result", "played", "()Z"⟩ : MethodName)) (z := (⟨"com/example/pairwright/pairwright/model/Result", "played", "()Z"⟩ : MethodName)) hown (mvT hZ (hw _ (List.mem_of_getElem? (i := 42) rfl))) (mvT hZ (hw _ (List.mem_of_getElem? (i := 43) rfl))) (notFace_of_selects (args := #[]) (mvT hZ (hw _ (List.mem_of_getElem? (i := 45) rfl)))) (mvT hZ (hw _ (List.mem_of_getElem? (i := 45) rfl))) (mvT hZ (hw _ (List.mem_of_getElem? (i := 44) rfl))) (by decide) (backOf (W := 0) (own_played l Z a0 hw [] z3 (1 : Int32) h174 n0 Zn P3') hZ (hw _ (List.mem_of_getElem? (i := 46) rfl)) (hw _ (List.mem_of_getElem? (i := 3) rfl)) (by decide) (by decide)) q219a q219c (g := (mkF m 139 #[.val (.int p1), .val (.ref b102), .val (.ref z3), .val (.int (1 : Int32)), .val (.int (87 : Int32)), .val (.int (1 : Int32))] [(.ref z3)])) rfl (by rw [hml]; rfl) (Steps.refl _) (argsL := []) (rest := []) (lenOf pd___Z rfl) rfl (by show 2 * 0 + _ ≤ _; exact Nat.le_of_eq rfl) (hb hby at_139) (fun _ _ => ⟨rfl, s216, (by decide : 1 + 0 ≤ _), (by decide : 12 + 0 ≤ _)⟩)
    dsimp only [Pt.U, Pt.locs, Pt.cells, Pt.slots] at X219 l219 y219 z219 st219 hQ219
    subst l219 y219 z219
    obtain ⟨rfl, N219q, s219⟩ := hQ219
    have N219 := Fr.app N216 N219q
    have pp220 : ∀ t, Steps p.tables e below (T219.setTop (mkF m 142 #[.val (.int p1), .val (.ref b102), .val (.ref z3), .val (.int (1 : Int32)), .val (.int (87 : Int32)), .val (.int (1 : Int32))] [(.int (nar .boolean (1 : Int32)))])) t → Steps p.tables e below (s₁.setTop (entryFrame m #[(.int p1)] maxLocals)) t := fun t k => pp218 t (st219.trans k)
    rw [show nar .boolean (1 : Int32) = (1 : Int32) from by decide] at pp220
    have pp221 : ∀ t, Steps p.tables e below (T219.setTop (mkF m 146 #[.val (.int p1), .val (.ref b102), .val (.ref z3), .val (.int (1 : Int32)), .val (.int (87 : Int32)), .val (.int (1 : Int32))] [(.ref z3)])) t → Steps p.tables e below (s₁.setTop (entryFrame m #[(.int p1)] maxLocals)) t := fun t k => pp220 t (by
      refine XS.ifNo X219.here hx rfl (hb hby at_142) rfl ((if0 _ _).trans (feq (by decide : ¬ ((1 : Int32) = (0 : Int32)))).1) ?_
      show Steps p.tables e below (T219.setTop (mkF m 145 #[.val (.int p1), .val (.ref b102), .val (.ref z3), .val (.int (1 : Int32)), .val (.int (87 : Int32)), .val (.int (1 : Int32))] [])) _
      refine XS.aloadN X219.here hx rfl (hb hby at_145) rfl rfl ?_
      show Steps p.tables e below (T219.setTop (mkF m 146 #[.val (.int p1), .val (.ref b102), .val (.ref z3), .val (.int (1 : Int32)), .val (.int (87 : Int32)), .val (.int (1 : Int32))] [(.ref z3)])) _
      exact k)
    obtain ⟨cq222, kq222, q222a, q222b, q222c⟩ := isOf hZ s219 E3'
    obtain ⟨_, _, ⟨T222, L222, k222, n222⟩, -, X222, ⟨Lc222, hQ222, l222, y222, z222⟩, st222⟩ := X219.virtualBack hx (y := (⟨"com/example/pairwright/pairwright/model/Result", "lost", "()Z"⟩ : MethodName)) (z := (⟨"com/example/pairwright/pairwright/model/Result", "lost", "()Z"⟩ : MethodName)) hown (mvT hZ (hw _ (List.mem_of_getElem? (i := 49) rfl))) (mvT hZ (hw _ (List.mem_of_getElem? (i := 50) rfl))) (notFace_of_selects (args := #[]) (mvT hZ (hw _ (List.mem_of_getElem? (i := 52) rfl)))) (mvT hZ (hw _ (List.mem_of_getElem? (i := 52) rfl))) (mvT hZ (hw _ (List.mem_of_getElem? (i := 51) rfl))) (by decide) (backOf (W := 0) (own_lost l Z a0 hw [] z3 z1 z4 h174 n0 Zn S1' S4') hZ (hw _ (List.mem_of_getElem? (i := 53) rfl)) (hw _ (List.mem_of_getElem? (i := 3) rfl)) (by decide) (by decide)) q222a q222c (g := (mkF m 146 #[.val (.int p1), .val (.ref b102), .val (.ref z3), .val (.int (1 : Int32)), .val (.int (87 : Int32)), .val (.int (1 : Int32))] [(.ref z3)])) rfl (by rw [hml]; rfl) (Steps.refl _) (argsL := []) (rest := []) (lenOf pd___Z rfl) rfl (by show 2 * 0 + _ ≤ _; exact Nat.le_of_eq rfl) (hb hby at_146) (fun _ _ => ⟨rfl, s219, (by decide : 1 + 0 ≤ _), (by decide : 12 + 0 ≤ _)⟩)
    dsimp only [Pt.U, Pt.locs, Pt.cells, Pt.slots] at X222 l222 y222 z222 st222 hQ222
    subst l222 y222 z222
    obtain ⟨rfl, N222q, s222⟩ := hQ222
    have N222 := Fr.app N219 N222q
    have pp223 : ∀ t, Steps p.tables e below (T222.setTop (mkF m 149 #[.val (.int p1), .val (.ref b102), .val (.ref z3), .val (.int (1 : Int32)), .val (.int (87 : Int32)), .val (.int (1 : Int32))] [(.int (own_or z3 z1 z4))])) t → Steps p.tables e below (s₁.setTop (entryFrame m #[(.int p1)] maxLocals)) t := fun t k => pp221 t (st222.trans k)
    rw [own_or3 ne3_1 ne3_4] at pp223
    have pp224 : ∀ t, Steps p.tables e below (T222.setTop (mkF m 155 #[.val (.int p1), .val (.ref b102), .val (.ref z3), .val (.int (1 : Int32)), .val (.int (87 : Int32)), .val (.int (1 : Int32))] [(.int (1 : Int32))])) t → Steps p.tables e below (s₁.setTop (entryFrame m #[(.int p1)] maxLocals)) t := fun t k => pp223 t (by
      refine XS.ifYes X222.here hx rfl (pc0 := 149) (pc' := 154) rfl (hb hby at_149) rfl ((if0 _ _).trans (teq (by decide : (0 : Int32) = (0 : Int32))).1) (by decide) (by decide) ?_
      show Steps p.tables e below (T222.setTop (mkF m 154 #[.val (.int p1), .val (.ref b102), .val (.ref z3), .val (.int (1 : Int32)), .val (.int (87 : Int32)), .val (.int (1 : Int32))] [])) _
      refine XS.iconst X222.here hx rfl (hb hby at_154) ?_
      show Steps p.tables e below (T222.setTop (mkF m 155 #[.val (.int p1), .val (.ref b102), .val (.ref z3), .val (.int (1 : Int32)), .val (.int (87 : Int32)), .val (.int (1 : Int32))] [(.int (1 : Int32))])) _
      exact k)
    obtain ⟨fs, hr, hrun, hended, hW, hsame⟩ := X222.leave (v := some (.int (1 : Int32))) (fun h => by rw [Bd.returns] at h; cases h)
    refine ⟨_, _, pp224 _ ?_, hrun, hended, _, _, rfl, ?_, ⟨_, rfl⟩, hW, hsame.mono (by decide) (by decide)⟩
    · exact retN X222 hx (t := .boolean) Bd.returns (by simp) (hb hby at_155) hr
    · show Q_own_law Z p1 z0 z1 z2 z3 z4 z5 z6 z7 z8 z9 z10 z11 h0 n0 _ T222.heap _
      rw [s222]
      exact ⟨rfl, N222⟩
  · obtain ⟨cl225, Ar225, q225, S225, N225', H225, G225⟩ := id V_b102_174
    have hin225 : ¬ ((4 : Int32) < 0 ∨ cl225.slots.size ≤ ((4 : Int32)).toNatClampNeg) := inb_of S225 ⟨by decide, by decide⟩
    have hat225 : cl225.slots[((4 : Int32)).toNatClampNeg]? = some (.ref z4) := H225 _ (Nat.lt_of_not_le fun q => hin225 (Or.inr q))
    have pp226 : ∀ t, Steps p.tables e below (T174.setTop (mkF m 93 #[.val (.int p1), .val (.ref b102), .unset, .unset, .unset, .unset] [(.ref z4)])) t → Steps p.tables e below (s₁.setTop (entryFrame m #[(.int p1)] maxLocals)) t := fun t k => pp176 t (X174.aaload hx (j := (4 : Int32)) (v := (.ref z4)) (by rw [e174]; exact Ar225.1) (State.isArrayOf_alike hZ.alike Ar225.2.1) rfl Ar225.2.2 hin225 hat225 (g := (mkF m 92 #[.val (.int p1), .val (.ref b102), .unset, .unset, .unset, .unset] [(.int (4 : Int32)), (.ref b102)])) rfl rfl (hb hby at_92) _ k)
    have pp227 : ∀ t, Steps p.tables e below (T174.setTop (mkF m 95 #[.val (.int p1), .val (.ref b102), .val (.ref z4), .unset, .unset, .unset] [(.ref z4)])) t → Steps p.tables e below (s₁.setTop (entryFrame m #[(.int p1)] maxLocals)) t := fun t k => pp226 t (by
      refine XS.astoreN X174.here hx rfl (hb hby at_93) rfl rfl (l' := #[.val (.int p1), .val (.ref b102), .val (.ref z4), .unset, .unset, .unset]) rfl ?_
      show Steps p.tables e below (T174.setTop (mkF m 94 #[.val (.int p1), .val (.ref b102), .val (.ref z4), .unset, .unset, .unset] [])) _
      refine XS.aloadN X174.here hx rfl (hb hby at_94) rfl rfl ?_
      show Steps p.tables e below (T174.setTop (mkF m 95 #[.val (.int p1), .val (.ref b102), .val (.ref z4), .unset, .unset, .unset] [(.ref z4)])) _
      exact k)
    obtain ⟨cq228, kq228, q228a, q228b, q228c⟩ := isOf hZ e174 E4'
    obtain ⟨_, _, ⟨T228, L228, k228, n228⟩, -, X228, ⟨Lc228, hQ228, l228, y228, z228⟩, st228⟩ := X174.virtualBack hx (y := (⟨"com/example/pairwright/pairwright/model/Result", "won", "()Z"⟩ : MethodName)) (z := (⟨"com/example/pairwright/pairwright/model/Result", "won", "()Z"⟩ : MethodName)) hown (mvT hZ (hw _ (List.mem_of_getElem? (i := 29) rfl))) (mvT hZ (hw _ (List.mem_of_getElem? (i := 30) rfl))) (notFace_of_selects (args := #[]) (mvT hZ (hw _ (List.mem_of_getElem? (i := 32) rfl)))) (mvT hZ (hw _ (List.mem_of_getElem? (i := 32) rfl))) (mvT hZ (hw _ (List.mem_of_getElem? (i := 31) rfl))) (by decide) (backOf (W := 0) (own_won l Z a0 hw [] z4 z0 z3 h174 n0 Zn S0' S3') hZ (hw _ (List.mem_of_getElem? (i := 33) rfl)) (hw _ (List.mem_of_getElem? (i := 3) rfl)) (by decide) (by decide)) q228a q228c (g := (mkF m 95 #[.val (.int p1), .val (.ref b102), .val (.ref z4), .unset, .unset, .unset] [(.ref z4)])) rfl (by rw [hml]; rfl) (Steps.refl _) (argsL := []) (rest := []) (lenOf pd___Z rfl) rfl (by show 2 * 0 + _ ≤ _; exact Nat.le_of_eq rfl) (hb hby at_95) (fun _ _ => ⟨rfl, e174, (by decide : 1 + 0 ≤ _), (by decide : 12 + 0 ≤ _)⟩)
    dsimp only [Pt.U, Pt.locs, Pt.cells, Pt.slots] at X228 l228 y228 z228 st228 hQ228
    subst l228 y228 z228
    obtain ⟨rfl, N228q, s228⟩ := hQ228
    have N228 := Fr.app N174 N228q
    have pp229 : ∀ t, Steps p.tables e below (T228.setTop (mkF m 98 #[.val (.int p1), .val (.ref b102), .val (.ref z4), .unset, .unset, .unset] [(.int (own_or z4 z0 z3))])) t → Steps p.tables e below (s₁.setTop (entryFrame m #[(.int p1)] maxLocals)) t := fun t k => pp227 t (st228.trans k)
    rw [own_or3 ne4_0 ne4_3] at pp229
    have pp230 : ∀ t, Steps p.tables e below (T228.setTop (mkF m 100 #[.val (.int p1), .val (.ref b102), .val (.ref z4), .val (.int (0 : Int32)), .unset, .unset] [(.ref z4)])) t → Steps p.tables e below (s₁.setTop (entryFrame m #[(.int p1)] maxLocals)) t := fun t k => pp229 t (by
      refine XS.istoreN X228.here hx rfl (hb hby at_98) rfl (l' := #[.val (.int p1), .val (.ref b102), .val (.ref z4), .val (.int (0 : Int32)), .unset, .unset]) rfl ?_
      show Steps p.tables e below (T228.setTop (mkF m 99 #[.val (.int p1), .val (.ref b102), .val (.ref z4), .val (.int (0 : Int32)), .unset, .unset] [])) _
      refine XS.aloadN X228.here hx rfl (hb hby at_99) rfl rfl ?_
      show Steps p.tables e below (T228.setTop (mkF m 100 #[.val (.int p1), .val (.ref b102), .val (.ref z4), .val (.int (0 : Int32)), .unset, .unset] [(.ref z4)])) _
      exact k)
    obtain ⟨cq231, kq231, q231a, q231b, q231c⟩ := isOf hZ s228 E4'
    obtain ⟨_, _, ⟨T231, L231, k231, n231⟩, -, X231, ⟨Lc231, hQ231, l231, y231, z231⟩, st231⟩ := X228.virtualBack hx (y := (⟨"com/example/pairwright/pairwright/model/Result", "code", "()C"⟩ : MethodName)) (z := (⟨"com/example/pairwright/pairwright/model/Result", "code", "()C"⟩ : MethodName)) hown (mvT hZ (hw _ (List.mem_of_getElem? (i := 35) rfl))) (mvT hZ (hw _ (List.mem_of_getElem? (i := 36) rfl))) (notFace_of_selects (args := #[]) (mvT hZ (hw _ (List.mem_of_getElem? (i := 38) rfl)))) (mvT hZ (hw _ (List.mem_of_getElem? (i := 38) rfl))) (mvT hZ (hw _ (List.mem_of_getElem? (i := 37) rfl))) (by decide) (backOf (W := 0) (own_code l Z a0 hw [] z4 (76 : Int32) h174 n0 Zn C4') hZ (hw _ (List.mem_of_getElem? (i := 39) rfl)) (hw _ (List.mem_of_getElem? (i := 3) rfl)) (by decide) (by decide)) q231a q231c (g := (mkF m 100 #[.val (.int p1), .val (.ref b102), .val (.ref z4), .val (.int (0 : Int32)), .unset, .unset] [(.ref z4)])) rfl (by rw [hml]; rfl) (Steps.refl _) (argsL := []) (rest := []) (lenOf pd___C rfl) rfl (by show 2 * 0 + _ ≤ _; exact Nat.le_of_eq rfl) (hb hby at_100) (fun _ _ => ⟨rfl, s228, (by decide : 1 + 0 ≤ _), (by decide : 12 + 0 ≤ _)⟩)
    dsimp only [Pt.U, Pt.locs, Pt.cells, Pt.slots] at X231 l231 y231 z231 st231 hQ231
    subst l231 y231 z231
    obtain ⟨rfl, N231q, s231⟩ := hQ231
    have N231 := Fr.app N228 N231q
    have pp232 : ∀ t, Steps p.tables e below (T231.setTop (mkF m 103 #[.val (.int p1), .val (.ref b102), .val (.ref z4), .val (.int (0 : Int32)), .unset, .unset] [(.int (nar .char (76 : Int32)))])) t → Steps p.tables e below (s₁.setTop (entryFrame m #[(.int p1)] maxLocals)) t := fun t k => pp230 t (st231.trans k)
    rw [show nar .char (76 : Int32) = (76 : Int32) from by decide] at pp232
    have pp233 : ∀ t, Steps p.tables e below (T231.setTop (mkF m 155 #[.val (.int p1), .val (.ref b102), .val (.ref z4), .val (.int (0 : Int32)), .val (.int (76 : Int32)), .val (.int (0 : Int32))] [(.int (1 : Int32))])) t → Steps p.tables e below (s₁.setTop (entryFrame m #[(.int p1)] maxLocals)) t := fun t k => pp232 t (by
      refine XS.istore X231.here hx rfl (hb hby at_103) rfl (l' := #[.val (.int p1), .val (.ref b102), .val (.ref z4), .val (.int (0 : Int32)), .val (.int (76 : Int32)), .unset]) rfl ?_
      show Steps p.tables e below (T231.setTop (mkF m 105 #[.val (.int p1), .val (.ref b102), .val (.ref z4), .val (.int (0 : Int32)), .val (.int (76 : Int32)), .unset] [])) _
      refine XS.iload X231.here hx rfl (hb hby at_105) rfl ?_
      show Steps p.tables e below (T231.setTop (mkF m 107 #[.val (.int p1), .val (.ref b102), .val (.ref z4), .val (.int (0 : Int32)), .val (.int (76 : Int32)), .unset] [(.int (76 : Int32))])) _
      refine XS.bipush X231.here hx rfl (hb hby at_107) ?_
      show Steps p.tables e below (T231.setTop (mkF m 109 #[.val (.int p1), .val (.ref b102), .val (.ref z4), .val (.int (0 : Int32)), .val (.int (76 : Int32)), .unset] [(.int (49 : Int32)), (.int (76 : Int32))])) _
      refine XS.icmpNo X231.here hx rfl (hb hby at_109) rfl (feq (by decide : ¬ ((76 : Int32) = (49 : Int32)))).1 ?_
      show Steps p.tables e below (T231.setTop (mkF m 112 #[.val (.int p1), .val (.ref b102), .val (.ref z4), .val (.int (0 : Int32)), .val (.int (76 : Int32)), .unset] [])) _
      refine XS.iload X231.here hx rfl (hb hby at_112) rfl ?_
      show Steps p.tables e below (T231.setTop (mkF m 114 #[.val (.int p1), .val (.ref b102), .val (.ref z4), .val (.int (0 : Int32)), .val (.int (76 : Int32)), .unset] [(.int (76 : Int32))])) _
      refine XS.bipush X231.here hx rfl (hb hby at_114) ?_
      show Steps p.tables e below (T231.setTop (mkF m 116 #[.val (.int p1), .val (.ref b102), .val (.ref z4), .val (.int (0 : Int32)), .val (.int (76 : Int32)), .unset] [(.int (87 : Int32)), (.int (76 : Int32))])) _
      refine XS.icmpYes X231.here hx rfl (pc0 := 116) (pc' := 123) rfl (hb hby at_116) rfl (feq (by decide : ¬ ((76 : Int32) = (87 : Int32)))).2 (by decide) (by decide) ?_
      show Steps p.tables e below (T231.setTop (mkF m 123 #[.val (.int p1), .val (.ref b102), .val (.ref z4), .val (.int (0 : Int32)), .val (.int (76 : Int32)), .unset] [])) _
      refine XS.iconst X231.here hx rfl (hb hby at_123) ?_
      show Steps p.tables e below (T231.setTop (mkF m 124 #[.val (.int p1), .val (.ref b102), .val (.ref z4), .val (.int (0 : Int32)), .val (.int (76 : Int32)), .unset] [(.int (0 : Int32))])) _
      refine XS.istore X231.here hx rfl (hb hby at_124) rfl (l' := #[.val (.int p1), .val (.ref b102), .val (.ref z4), .val (.int (0 : Int32)), .val (.int (76 : Int32)), .val (.int (0 : Int32))]) rfl ?_
      show Steps p.tables e below (T231.setTop (mkF m 126 #[.val (.int p1), .val (.ref b102), .val (.ref z4), .val (.int (0 : Int32)), .val (.int (76 : Int32)), .val (.int (0 : Int32))] [])) _
      refine XS.iloadN X231.here hx rfl (hb hby at_126) rfl ?_
      show Steps p.tables e below (T231.setTop (mkF m 127 #[.val (.int p1), .val (.ref b102), .val (.ref z4), .val (.int (0 : Int32)), .val (.int (76 : Int32)), .val (.int (0 : Int32))] [(.int (0 : Int32))])) _
      refine XS.iload X231.here hx rfl (hb hby at_127) rfl ?_
      show Steps p.tables e below (T231.setTop (mkF m 129 #[.val (.int p1), .val (.ref b102), .val (.ref z4), .val (.int (0 : Int32)), .val (.int (76 : Int32)), .val (.int (0 : Int32))] [(.int (0 : Int32)), (.int (0 : Int32))])) _
      refine XS.icmpYes X231.here hx rfl (pc0 := 129) (pc' := 134) rfl (hb hby at_129) rfl (teq (by decide : (0 : Int32) = (0 : Int32))).1 (by decide) (by decide) ?_
      show Steps p.tables e below (T231.setTop (mkF m 134 #[.val (.int p1), .val (.ref b102), .val (.ref z4), .val (.int (0 : Int32)), .val (.int (76 : Int32)), .val (.int (0 : Int32))] [])) _
      refine XS.iloadN X231.here hx rfl (hb hby at_134) rfl ?_
      show Steps p.tables e below (T231.setTop (mkF m 135 #[.val (.int p1), .val (.ref b102), .val (.ref z4), .val (.int (0 : Int32)), .val (.int (76 : Int32)), .val (.int (0 : Int32))] [(.int (0 : Int32))])) _
      refine XS.ifYes X231.here hx rfl (pc0 := 135) (pc' := 154) rfl (hb hby at_135) rfl ((if0 _ _).trans (teq (by decide : (0 : Int32) = (0 : Int32))).1) (by decide) (by decide) ?_
      show Steps p.tables e below (T231.setTop (mkF m 154 #[.val (.int p1), .val (.ref b102), .val (.ref z4), .val (.int (0 : Int32)), .val (.int (76 : Int32)), .val (.int (0 : Int32))] [])) _
      refine XS.iconst X231.here hx rfl (hb hby at_154) ?_
      show Steps p.tables e below (T231.setTop (mkF m 155 #[.val (.int p1), .val (.ref b102), .val (.ref z4), .val (.int (0 : Int32)), .val (.int (76 : Int32)), .val (.int (0 : Int32))] [(.int (1 : Int32))])) _
      exact k)
    obtain ⟨fs, hr, hrun, hended, hW, hsame⟩ := X231.leave (v := some (.int (1 : Int32))) (fun h => by rw [Bd.returns] at h; cases h)
    refine ⟨_, _, pp233 _ ?_, hrun, hended, _, _, rfl, ?_, ⟨_, rfl⟩, hW, hsame.mono (by decide) (by decide)⟩
    · exact retN X231 hx (t := .boolean) Bd.returns (by simp) (hb hby at_155) hr
    · show Q_own_law Z p1 z0 z1 z2 z3 z4 z5 z6 z7 z8 z9 z10 z11 h0 n0 _ T231.heap _
      rw [s231]
      exact ⟨rfl, N231⟩
  · obtain ⟨cl234, Ar234, q234, S234, N234', H234, G234⟩ := id V_b102_174
    have hin234 : ¬ ((5 : Int32) < 0 ∨ cl234.slots.size ≤ ((5 : Int32)).toNatClampNeg) := inb_of S234 ⟨by decide, by decide⟩
    have hat234 : cl234.slots[((5 : Int32)).toNatClampNeg]? = some (.ref z5) := H234 _ (Nat.lt_of_not_le fun q => hin234 (Or.inr q))
    have pp235 : ∀ t, Steps p.tables e below (T174.setTop (mkF m 93 #[.val (.int p1), .val (.ref b102), .unset, .unset, .unset, .unset] [(.ref z5)])) t → Steps p.tables e below (s₁.setTop (entryFrame m #[(.int p1)] maxLocals)) t := fun t k => pp176 t (X174.aaload hx (j := (5 : Int32)) (v := (.ref z5)) (by rw [e174]; exact Ar234.1) (State.isArrayOf_alike hZ.alike Ar234.2.1) rfl Ar234.2.2 hin234 hat234 (g := (mkF m 92 #[.val (.int p1), .val (.ref b102), .unset, .unset, .unset, .unset] [(.int (5 : Int32)), (.ref b102)])) rfl rfl (hb hby at_92) _ k)
    have pp236 : ∀ t, Steps p.tables e below (T174.setTop (mkF m 95 #[.val (.int p1), .val (.ref b102), .val (.ref z5), .unset, .unset, .unset] [(.ref z5)])) t → Steps p.tables e below (s₁.setTop (entryFrame m #[(.int p1)] maxLocals)) t := fun t k => pp235 t (by
      refine XS.astoreN X174.here hx rfl (hb hby at_93) rfl rfl (l' := #[.val (.int p1), .val (.ref b102), .val (.ref z5), .unset, .unset, .unset]) rfl ?_
      show Steps p.tables e below (T174.setTop (mkF m 94 #[.val (.int p1), .val (.ref b102), .val (.ref z5), .unset, .unset, .unset] [])) _
      refine XS.aloadN X174.here hx rfl (hb hby at_94) rfl rfl ?_
      show Steps p.tables e below (T174.setTop (mkF m 95 #[.val (.int p1), .val (.ref b102), .val (.ref z5), .unset, .unset, .unset] [(.ref z5)])) _
      exact k)
    obtain ⟨cq237, kq237, q237a, q237b, q237c⟩ := isOf hZ e174 E5'
    obtain ⟨_, _, ⟨T237, L237, k237, n237⟩, -, X237, ⟨Lc237, hQ237, l237, y237, z237⟩, st237⟩ := X174.virtualBack hx (y := (⟨"com/example/pairwright/pairwright/model/Result", "won", "()Z"⟩ : MethodName)) (z := (⟨"com/example/pairwright/pairwright/model/Result", "won", "()Z"⟩ : MethodName)) hown (mvT hZ (hw _ (List.mem_of_getElem? (i := 29) rfl))) (mvT hZ (hw _ (List.mem_of_getElem? (i := 30) rfl))) (notFace_of_selects (args := #[]) (mvT hZ (hw _ (List.mem_of_getElem? (i := 32) rfl)))) (mvT hZ (hw _ (List.mem_of_getElem? (i := 32) rfl))) (mvT hZ (hw _ (List.mem_of_getElem? (i := 31) rfl))) (by decide) (backOf (W := 0) (own_won l Z a0 hw [] z5 z0 z3 h174 n0 Zn S0' S3') hZ (hw _ (List.mem_of_getElem? (i := 33) rfl)) (hw _ (List.mem_of_getElem? (i := 3) rfl)) (by decide) (by decide)) q237a q237c (g := (mkF m 95 #[.val (.int p1), .val (.ref b102), .val (.ref z5), .unset, .unset, .unset] [(.ref z5)])) rfl (by rw [hml]; rfl) (Steps.refl _) (argsL := []) (rest := []) (lenOf pd___Z rfl) rfl (by show 2 * 0 + _ ≤ _; exact Nat.le_of_eq rfl) (hb hby at_95) (fun _ _ => ⟨rfl, e174, (by decide : 1 + 0 ≤ _), (by decide : 12 + 0 ≤ _)⟩)
    dsimp only [Pt.U, Pt.locs, Pt.cells, Pt.slots] at X237 l237 y237 z237 st237 hQ237
    subst l237 y237 z237
    obtain ⟨rfl, N237q, s237⟩ := hQ237
    have N237 := Fr.app N174 N237q
    have pp238 : ∀ t, Steps p.tables e below (T237.setTop (mkF m 98 #[.val (.int p1), .val (.ref b102), .val (.ref z5), .unset, .unset, .unset] [(.int (own_or z5 z0 z3))])) t → Steps p.tables e below (s₁.setTop (entryFrame m #[(.int p1)] maxLocals)) t := fun t k => pp236 t (st237.trans k)
    rw [own_or3 ne5_0 ne5_3] at pp238
    have pp239 : ∀ t, Steps p.tables e below (T237.setTop (mkF m 100 #[.val (.int p1), .val (.ref b102), .val (.ref z5), .val (.int (0 : Int32)), .unset, .unset] [(.ref z5)])) t → Steps p.tables e below (s₁.setTop (entryFrame m #[(.int p1)] maxLocals)) t := fun t k => pp238 t (by
      refine XS.istoreN X237.here hx rfl (hb hby at_98) rfl (l' := #[.val (.int p1), .val (.ref b102), .val (.ref z5), .val (.int (0 : Int32)), .unset, .unset]) rfl ?_
      show Steps p.tables e below (T237.setTop (mkF m 99 #[.val (.int p1), .val (.ref b102), .val (.ref z5), .val (.int (0 : Int32)), .unset, .unset] [])) _
      refine XS.aloadN X237.here hx rfl (hb hby at_99) rfl rfl ?_
      show Steps p.tables e below (T237.setTop (mkF m 100 #[.val (.int p1), .val (.ref b102), .val (.ref z5), .val (.int (0 : Int32)), .unset, .unset] [(.ref z5)])) _
      exact k)
    obtain ⟨cq240, kq240, q240a, q240b, q240c⟩ := isOf hZ s237 E5'
    obtain ⟨_, _, ⟨T240, L240, k240, n240⟩, -, X240, ⟨Lc240, hQ240, l240, y240, z240⟩, st240⟩ := X237.virtualBack hx (y := (⟨"com/example/pairwright/pairwright/model/Result", "code", "()C"⟩ : MethodName)) (z := (⟨"com/example/pairwright/pairwright/model/Result", "code", "()C"⟩ : MethodName)) hown (mvT hZ (hw _ (List.mem_of_getElem? (i := 35) rfl))) (mvT hZ (hw _ (List.mem_of_getElem? (i := 36) rfl))) (notFace_of_selects (args := #[]) (mvT hZ (hw _ (List.mem_of_getElem? (i := 38) rfl)))) (mvT hZ (hw _ (List.mem_of_getElem? (i := 38) rfl))) (mvT hZ (hw _ (List.mem_of_getElem? (i := 37) rfl))) (by decide) (backOf (W := 0) (own_code l Z a0 hw [] z5 (68 : Int32) h174 n0 Zn C5') hZ (hw _ (List.mem_of_getElem? (i := 39) rfl)) (hw _ (List.mem_of_getElem? (i := 3) rfl)) (by decide) (by decide)) q240a q240c (g := (mkF m 100 #[.val (.int p1), .val (.ref b102), .val (.ref z5), .val (.int (0 : Int32)), .unset, .unset] [(.ref z5)])) rfl (by rw [hml]; rfl) (Steps.refl _) (argsL := []) (rest := []) (lenOf pd___C rfl) rfl (by show 2 * 0 + _ ≤ _; exact Nat.le_of_eq rfl) (hb hby at_100) (fun _ _ => ⟨rfl, s237, (by decide : 1 + 0 ≤ _), (by decide : 12 + 0 ≤ _)⟩)
    dsimp only [Pt.U, Pt.locs, Pt.cells, Pt.slots] at X240 l240 y240 z240 st240 hQ240
    subst l240 y240 z240
    obtain ⟨rfl, N240q, s240⟩ := hQ240
    have N240 := Fr.app N237 N240q
    have pp241 : ∀ t, Steps p.tables e below (T240.setTop (mkF m 103 #[.val (.int p1), .val (.ref b102), .val (.ref z5), .val (.int (0 : Int32)), .unset, .unset] [(.int (nar .char (68 : Int32)))])) t → Steps p.tables e below (s₁.setTop (entryFrame m #[(.int p1)] maxLocals)) t := fun t k => pp239 t (st240.trans k)
    rw [show nar .char (68 : Int32) = (68 : Int32) from by decide] at pp241
    have pp242 : ∀ t, Steps p.tables e below (T240.setTop (mkF m 155 #[.val (.int p1), .val (.ref b102), .val (.ref z5), .val (.int (0 : Int32)), .val (.int (68 : Int32)), .val (.int (0 : Int32))] [(.int (1 : Int32))])) t → Steps p.tables e below (s₁.setTop (entryFrame m #[(.int p1)] maxLocals)) t := fun t k => pp241 t (by
      refine XS.istore X240.here hx rfl (hb hby at_103) rfl (l' := #[.val (.int p1), .val (.ref b102), .val (.ref z5), .val (.int (0 : Int32)), .val (.int (68 : Int32)), .unset]) rfl ?_
      show Steps p.tables e below (T240.setTop (mkF m 105 #[.val (.int p1), .val (.ref b102), .val (.ref z5), .val (.int (0 : Int32)), .val (.int (68 : Int32)), .unset] [])) _
      refine XS.iload X240.here hx rfl (hb hby at_105) rfl ?_
      show Steps p.tables e below (T240.setTop (mkF m 107 #[.val (.int p1), .val (.ref b102), .val (.ref z5), .val (.int (0 : Int32)), .val (.int (68 : Int32)), .unset] [(.int (68 : Int32))])) _
      refine XS.bipush X240.here hx rfl (hb hby at_107) ?_
      show Steps p.tables e below (T240.setTop (mkF m 109 #[.val (.int p1), .val (.ref b102), .val (.ref z5), .val (.int (0 : Int32)), .val (.int (68 : Int32)), .unset] [(.int (49 : Int32)), (.int (68 : Int32))])) _
      refine XS.icmpNo X240.here hx rfl (hb hby at_109) rfl (feq (by decide : ¬ ((68 : Int32) = (49 : Int32)))).1 ?_
      show Steps p.tables e below (T240.setTop (mkF m 112 #[.val (.int p1), .val (.ref b102), .val (.ref z5), .val (.int (0 : Int32)), .val (.int (68 : Int32)), .unset] [])) _
      refine XS.iload X240.here hx rfl (hb hby at_112) rfl ?_
      show Steps p.tables e below (T240.setTop (mkF m 114 #[.val (.int p1), .val (.ref b102), .val (.ref z5), .val (.int (0 : Int32)), .val (.int (68 : Int32)), .unset] [(.int (68 : Int32))])) _
      refine XS.bipush X240.here hx rfl (hb hby at_114) ?_
      show Steps p.tables e below (T240.setTop (mkF m 116 #[.val (.int p1), .val (.ref b102), .val (.ref z5), .val (.int (0 : Int32)), .val (.int (68 : Int32)), .unset] [(.int (87 : Int32)), (.int (68 : Int32))])) _
      refine XS.icmpYes X240.here hx rfl (pc0 := 116) (pc' := 123) rfl (hb hby at_116) rfl (feq (by decide : ¬ ((68 : Int32) = (87 : Int32)))).2 (by decide) (by decide) ?_
      show Steps p.tables e below (T240.setTop (mkF m 123 #[.val (.int p1), .val (.ref b102), .val (.ref z5), .val (.int (0 : Int32)), .val (.int (68 : Int32)), .unset] [])) _
      refine XS.iconst X240.here hx rfl (hb hby at_123) ?_
      show Steps p.tables e below (T240.setTop (mkF m 124 #[.val (.int p1), .val (.ref b102), .val (.ref z5), .val (.int (0 : Int32)), .val (.int (68 : Int32)), .unset] [(.int (0 : Int32))])) _
      refine XS.istore X240.here hx rfl (hb hby at_124) rfl (l' := #[.val (.int p1), .val (.ref b102), .val (.ref z5), .val (.int (0 : Int32)), .val (.int (68 : Int32)), .val (.int (0 : Int32))]) rfl ?_
      show Steps p.tables e below (T240.setTop (mkF m 126 #[.val (.int p1), .val (.ref b102), .val (.ref z5), .val (.int (0 : Int32)), .val (.int (68 : Int32)), .val (.int (0 : Int32))] [])) _
      refine XS.iloadN X240.here hx rfl (hb hby at_126) rfl ?_
      show Steps p.tables e below (T240.setTop (mkF m 127 #[.val (.int p1), .val (.ref b102), .val (.ref z5), .val (.int (0 : Int32)), .val (.int (68 : Int32)), .val (.int (0 : Int32))] [(.int (0 : Int32))])) _
      refine XS.iload X240.here hx rfl (hb hby at_127) rfl ?_
      show Steps p.tables e below (T240.setTop (mkF m 129 #[.val (.int p1), .val (.ref b102), .val (.ref z5), .val (.int (0 : Int32)), .val (.int (68 : Int32)), .val (.int (0 : Int32))] [(.int (0 : Int32)), (.int (0 : Int32))])) _
      refine XS.icmpYes X240.here hx rfl (pc0 := 129) (pc' := 134) rfl (hb hby at_129) rfl (teq (by decide : (0 : Int32) = (0 : Int32))).1 (by decide) (by decide) ?_
      show Steps p.tables e below (T240.setTop (mkF m 134 #[.val (.int p1), .val (.ref b102), .val (.ref z5), .val (.int (0 : Int32)), .val (.int (68 : Int32)), .val (.int (0 : Int32))] [])) _
      refine XS.iloadN X240.here hx rfl (hb hby at_134) rfl ?_
      show Steps p.tables e below (T240.setTop (mkF m 135 #[.val (.int p1), .val (.ref b102), .val (.ref z5), .val (.int (0 : Int32)), .val (.int (68 : Int32)), .val (.int (0 : Int32))] [(.int (0 : Int32))])) _
      refine XS.ifYes X240.here hx rfl (pc0 := 135) (pc' := 154) rfl (hb hby at_135) rfl ((if0 _ _).trans (teq (by decide : (0 : Int32) = (0 : Int32))).1) (by decide) (by decide) ?_
      show Steps p.tables e below (T240.setTop (mkF m 154 #[.val (.int p1), .val (.ref b102), .val (.ref z5), .val (.int (0 : Int32)), .val (.int (68 : Int32)), .val (.int (0 : Int32))] [])) _
      refine XS.iconst X240.here hx rfl (hb hby at_154) ?_
      show Steps p.tables e below (T240.setTop (mkF m 155 #[.val (.int p1), .val (.ref b102), .val (.ref z5), .val (.int (0 : Int32)), .val (.int (68 : Int32)), .val (.int (0 : Int32))] [(.int (1 : Int32))])) _
      exact k)
    obtain ⟨fs, hr, hrun, hended, hW, hsame⟩ := X240.leave (v := some (.int (1 : Int32))) (fun h => by rw [Bd.returns] at h; cases h)
    refine ⟨_, _, pp242 _ ?_, hrun, hended, _, _, rfl, ?_, ⟨_, rfl⟩, hW, hsame.mono (by decide) (by decide)⟩
    · exact retN X240 hx (t := .boolean) Bd.returns (by simp) (hb hby at_155) hr
    · show Q_own_law Z p1 z0 z1 z2 z3 z4 z5 z6 z7 z8 z9 z10 z11 h0 n0 _ T240.heap _
      rw [s240]
      exact ⟨rfl, N240⟩
  · obtain ⟨cl243, Ar243, q243, S243, N243', H243, G243⟩ := id V_b102_174
    have hin243 : ¬ ((6 : Int32) < 0 ∨ cl243.slots.size ≤ ((6 : Int32)).toNatClampNeg) := inb_of S243 ⟨by decide, by decide⟩
    have hat243 : cl243.slots[((6 : Int32)).toNatClampNeg]? = some (.ref z6) := H243 _ (Nat.lt_of_not_le fun q => hin243 (Or.inr q))
    have pp244 : ∀ t, Steps p.tables e below (T174.setTop (mkF m 93 #[.val (.int p1), .val (.ref b102), .unset, .unset, .unset, .unset] [(.ref z6)])) t → Steps p.tables e below (s₁.setTop (entryFrame m #[(.int p1)] maxLocals)) t := fun t k => pp176 t (X174.aaload hx (j := (6 : Int32)) (v := (.ref z6)) (by rw [e174]; exact Ar243.1) (State.isArrayOf_alike hZ.alike Ar243.2.1) rfl Ar243.2.2 hin243 hat243 (g := (mkF m 92 #[.val (.int p1), .val (.ref b102), .unset, .unset, .unset, .unset] [(.int (6 : Int32)), (.ref b102)])) rfl rfl (hb hby at_92) _ k)
    have pp245 : ∀ t, Steps p.tables e below (T174.setTop (mkF m 95 #[.val (.int p1), .val (.ref b102), .val (.ref z6), .unset, .unset, .unset] [(.ref z6)])) t → Steps p.tables e below (s₁.setTop (entryFrame m #[(.int p1)] maxLocals)) t := fun t k => pp244 t (by
      refine XS.astoreN X174.here hx rfl (hb hby at_93) rfl rfl (l' := #[.val (.int p1), .val (.ref b102), .val (.ref z6), .unset, .unset, .unset]) rfl ?_
      show Steps p.tables e below (T174.setTop (mkF m 94 #[.val (.int p1), .val (.ref b102), .val (.ref z6), .unset, .unset, .unset] [])) _
      refine XS.aloadN X174.here hx rfl (hb hby at_94) rfl rfl ?_
      show Steps p.tables e below (T174.setTop (mkF m 95 #[.val (.int p1), .val (.ref b102), .val (.ref z6), .unset, .unset, .unset] [(.ref z6)])) _
      exact k)
    obtain ⟨cq246, kq246, q246a, q246b, q246c⟩ := isOf hZ e174 E6'
    obtain ⟨_, _, ⟨T246, L246, k246, n246⟩, -, X246, ⟨Lc246, hQ246, l246, y246, z246⟩, st246⟩ := X174.virtualBack hx (y := (⟨"com/example/pairwright/pairwright/model/Result", "won", "()Z"⟩ : MethodName)) (z := (⟨"com/example/pairwright/pairwright/model/Result", "won", "()Z"⟩ : MethodName)) hown (mvT hZ (hw _ (List.mem_of_getElem? (i := 29) rfl))) (mvT hZ (hw _ (List.mem_of_getElem? (i := 30) rfl))) (notFace_of_selects (args := #[]) (mvT hZ (hw _ (List.mem_of_getElem? (i := 32) rfl)))) (mvT hZ (hw _ (List.mem_of_getElem? (i := 32) rfl))) (mvT hZ (hw _ (List.mem_of_getElem? (i := 31) rfl))) (by decide) (backOf (W := 0) (own_won l Z a0 hw [] z6 z0 z3 h174 n0 Zn S0' S3') hZ (hw _ (List.mem_of_getElem? (i := 33) rfl)) (hw _ (List.mem_of_getElem? (i := 3) rfl)) (by decide) (by decide)) q246a q246c (g := (mkF m 95 #[.val (.int p1), .val (.ref b102), .val (.ref z6), .unset, .unset, .unset] [(.ref z6)])) rfl (by rw [hml]; rfl) (Steps.refl _) (argsL := []) (rest := []) (lenOf pd___Z rfl) rfl (by show 2 * 0 + _ ≤ _; exact Nat.le_of_eq rfl) (hb hby at_95) (fun _ _ => ⟨rfl, e174, (by decide : 1 + 0 ≤ _), (by decide : 12 + 0 ≤ _)⟩)
    dsimp only [Pt.U, Pt.locs, Pt.cells, Pt.slots] at X246 l246 y246 z246 st246 hQ246
    subst l246 y246 z246
    obtain ⟨rfl, N246q, s246⟩ := hQ246
    have N246 := Fr.app N174 N246q
    have pp247 : ∀ t, Steps p.tables e below (T246.setTop (mkF m 98 #[.val (.int p1), .val (.ref b102), .val (.ref z6), .unset, .unset, .unset] [(.int (own_or z6 z0 z3))])) t → Steps p.tables e below (s₁.setTop (entryFrame m #[(.int p1)] maxLocals)) t := fun t k => pp245 t (st246.trans k)
    rw [own_or3 ne6_0 ne6_3] at pp247
    have pp248 : ∀ t, Steps p.tables e below (T246.setTop (mkF m 100 #[.val (.int p1), .val (.ref b102), .val (.ref z6), .val (.int (0 : Int32)), .unset, .unset] [(.ref z6)])) t → Steps p.tables e below (s₁.setTop (entryFrame m #[(.int p1)] maxLocals)) t := fun t k => pp247 t (by
      refine XS.istoreN X246.here hx rfl (hb hby at_98) rfl (l' := #[.val (.int p1), .val (.ref b102), .val (.ref z6), .val (.int (0 : Int32)), .unset, .unset]) rfl ?_
      show Steps p.tables e below (T246.setTop (mkF m 99 #[.val (.int p1), .val (.ref b102), .val (.ref z6), .val (.int (0 : Int32)), .unset, .unset] [])) _
      refine XS.aloadN X246.here hx rfl (hb hby at_99) rfl rfl ?_
      show Steps p.tables e below (T246.setTop (mkF m 100 #[.val (.int p1), .val (.ref b102), .val (.ref z6), .val (.int (0 : Int32)), .unset, .unset] [(.ref z6)])) _
      exact k)
    obtain ⟨cq249, kq249, q249a, q249b, q249c⟩ := isOf hZ s246 E6'
    obtain ⟨_, _, ⟨T249, L249, k249, n249⟩, -, X249, ⟨Lc249, hQ249, l249, y249, z249⟩, st249⟩ := X246.virtualBack hx (y := (⟨"com/example/pairwright/pairwright/model/Result", "code", "()C"⟩ : MethodName)) (z := (⟨"com/example/pairwright/pairwright/model/Result", "code", "()C"⟩ : MethodName)) hown (mvT hZ (hw _ (List.mem_of_getElem? (i := 35) rfl))) (mvT hZ (hw _ (List.mem_of_getElem? (i := 36) rfl))) (notFace_of_selects (args := #[]) (mvT hZ (hw _ (List.mem_of_getElem? (i := 38) rfl)))) (mvT hZ (hw _ (List.mem_of_getElem? (i := 38) rfl))) (mvT hZ (hw _ (List.mem_of_getElem? (i := 37) rfl))) (by decide) (backOf (W := 0) (own_code l Z a0 hw [] z6 (43 : Int32) h174 n0 Zn C6') hZ (hw _ (List.mem_of_getElem? (i := 39) rfl)) (hw _ (List.mem_of_getElem? (i := 3) rfl)) (by decide) (by decide)) q249a q249c (g := (mkF m 100 #[.val (.int p1), .val (.ref b102), .val (.ref z6), .val (.int (0 : Int32)), .unset, .unset] [(.ref z6)])) rfl (by rw [hml]; rfl) (Steps.refl _) (argsL := []) (rest := []) (lenOf pd___C rfl) rfl (by show 2 * 0 + _ ≤ _; exact Nat.le_of_eq rfl) (hb hby at_100) (fun _ _ => ⟨rfl, s246, (by decide : 1 + 0 ≤ _), (by decide : 12 + 0 ≤ _)⟩)
    dsimp only [Pt.U, Pt.locs, Pt.cells, Pt.slots] at X249 l249 y249 z249 st249 hQ249
    subst l249 y249 z249
    obtain ⟨rfl, N249q, s249⟩ := hQ249
    have N249 := Fr.app N246 N249q
    have pp250 : ∀ t, Steps p.tables e below (T249.setTop (mkF m 103 #[.val (.int p1), .val (.ref b102), .val (.ref z6), .val (.int (0 : Int32)), .unset, .unset] [(.int (nar .char (43 : Int32)))])) t → Steps p.tables e below (s₁.setTop (entryFrame m #[(.int p1)] maxLocals)) t := fun t k => pp248 t (st249.trans k)
    rw [show nar .char (43 : Int32) = (43 : Int32) from by decide] at pp250
    have pp251 : ∀ t, Steps p.tables e below (T249.setTop (mkF m 155 #[.val (.int p1), .val (.ref b102), .val (.ref z6), .val (.int (0 : Int32)), .val (.int (43 : Int32)), .val (.int (0 : Int32))] [(.int (1 : Int32))])) t → Steps p.tables e below (s₁.setTop (entryFrame m #[(.int p1)] maxLocals)) t := fun t k => pp250 t (by
      refine XS.istore X249.here hx rfl (hb hby at_103) rfl (l' := #[.val (.int p1), .val (.ref b102), .val (.ref z6), .val (.int (0 : Int32)), .val (.int (43 : Int32)), .unset]) rfl ?_
      show Steps p.tables e below (T249.setTop (mkF m 105 #[.val (.int p1), .val (.ref b102), .val (.ref z6), .val (.int (0 : Int32)), .val (.int (43 : Int32)), .unset] [])) _
      refine XS.iload X249.here hx rfl (hb hby at_105) rfl ?_
      show Steps p.tables e below (T249.setTop (mkF m 107 #[.val (.int p1), .val (.ref b102), .val (.ref z6), .val (.int (0 : Int32)), .val (.int (43 : Int32)), .unset] [(.int (43 : Int32))])) _
      refine XS.bipush X249.here hx rfl (hb hby at_107) ?_
      show Steps p.tables e below (T249.setTop (mkF m 109 #[.val (.int p1), .val (.ref b102), .val (.ref z6), .val (.int (0 : Int32)), .val (.int (43 : Int32)), .unset] [(.int (49 : Int32)), (.int (43 : Int32))])) _
      refine XS.icmpNo X249.here hx rfl (hb hby at_109) rfl (feq (by decide : ¬ ((43 : Int32) = (49 : Int32)))).1 ?_
      show Steps p.tables e below (T249.setTop (mkF m 112 #[.val (.int p1), .val (.ref b102), .val (.ref z6), .val (.int (0 : Int32)), .val (.int (43 : Int32)), .unset] [])) _
      refine XS.iload X249.here hx rfl (hb hby at_112) rfl ?_
      show Steps p.tables e below (T249.setTop (mkF m 114 #[.val (.int p1), .val (.ref b102), .val (.ref z6), .val (.int (0 : Int32)), .val (.int (43 : Int32)), .unset] [(.int (43 : Int32))])) _
      refine XS.bipush X249.here hx rfl (hb hby at_114) ?_
      show Steps p.tables e below (T249.setTop (mkF m 116 #[.val (.int p1), .val (.ref b102), .val (.ref z6), .val (.int (0 : Int32)), .val (.int (43 : Int32)), .unset] [(.int (87 : Int32)), (.int (43 : Int32))])) _
      refine XS.icmpYes X249.here hx rfl (pc0 := 116) (pc' := 123) rfl (hb hby at_116) rfl (feq (by decide : ¬ ((43 : Int32) = (87 : Int32)))).2 (by decide) (by decide) ?_
      show Steps p.tables e below (T249.setTop (mkF m 123 #[.val (.int p1), .val (.ref b102), .val (.ref z6), .val (.int (0 : Int32)), .val (.int (43 : Int32)), .unset] [])) _
      refine XS.iconst X249.here hx rfl (hb hby at_123) ?_
      show Steps p.tables e below (T249.setTop (mkF m 124 #[.val (.int p1), .val (.ref b102), .val (.ref z6), .val (.int (0 : Int32)), .val (.int (43 : Int32)), .unset] [(.int (0 : Int32))])) _
      refine XS.istore X249.here hx rfl (hb hby at_124) rfl (l' := #[.val (.int p1), .val (.ref b102), .val (.ref z6), .val (.int (0 : Int32)), .val (.int (43 : Int32)), .val (.int (0 : Int32))]) rfl ?_
      show Steps p.tables e below (T249.setTop (mkF m 126 #[.val (.int p1), .val (.ref b102), .val (.ref z6), .val (.int (0 : Int32)), .val (.int (43 : Int32)), .val (.int (0 : Int32))] [])) _
      refine XS.iloadN X249.here hx rfl (hb hby at_126) rfl ?_
      show Steps p.tables e below (T249.setTop (mkF m 127 #[.val (.int p1), .val (.ref b102), .val (.ref z6), .val (.int (0 : Int32)), .val (.int (43 : Int32)), .val (.int (0 : Int32))] [(.int (0 : Int32))])) _
      refine XS.iload X249.here hx rfl (hb hby at_127) rfl ?_
      show Steps p.tables e below (T249.setTop (mkF m 129 #[.val (.int p1), .val (.ref b102), .val (.ref z6), .val (.int (0 : Int32)), .val (.int (43 : Int32)), .val (.int (0 : Int32))] [(.int (0 : Int32)), (.int (0 : Int32))])) _
      refine XS.icmpYes X249.here hx rfl (pc0 := 129) (pc' := 134) rfl (hb hby at_129) rfl (teq (by decide : (0 : Int32) = (0 : Int32))).1 (by decide) (by decide) ?_
      show Steps p.tables e below (T249.setTop (mkF m 134 #[.val (.int p1), .val (.ref b102), .val (.ref z6), .val (.int (0 : Int32)), .val (.int (43 : Int32)), .val (.int (0 : Int32))] [])) _
      refine XS.iloadN X249.here hx rfl (hb hby at_134) rfl ?_
      show Steps p.tables e below (T249.setTop (mkF m 135 #[.val (.int p1), .val (.ref b102), .val (.ref z6), .val (.int (0 : Int32)), .val (.int (43 : Int32)), .val (.int (0 : Int32))] [(.int (0 : Int32))])) _
      refine XS.ifYes X249.here hx rfl (pc0 := 135) (pc' := 154) rfl (hb hby at_135) rfl ((if0 _ _).trans (teq (by decide : (0 : Int32) = (0 : Int32))).1) (by decide) (by decide) ?_
      show Steps p.tables e below (T249.setTop (mkF m 154 #[.val (.int p1), .val (.ref b102), .val (.ref z6), .val (.int (0 : Int32)), .val (.int (43 : Int32)), .val (.int (0 : Int32))] [])) _
      refine XS.iconst X249.here hx rfl (hb hby at_154) ?_
      show Steps p.tables e below (T249.setTop (mkF m 155 #[.val (.int p1), .val (.ref b102), .val (.ref z6), .val (.int (0 : Int32)), .val (.int (43 : Int32)), .val (.int (0 : Int32))] [(.int (1 : Int32))])) _
      exact k)
    obtain ⟨fs, hr, hrun, hended, hW, hsame⟩ := X249.leave (v := some (.int (1 : Int32))) (fun h => by rw [Bd.returns] at h; cases h)
    refine ⟨_, _, pp251 _ ?_, hrun, hended, _, _, rfl, ?_, ⟨_, rfl⟩, hW, hsame.mono (by decide) (by decide)⟩
    · exact retN X249 hx (t := .boolean) Bd.returns (by simp) (hb hby at_155) hr
    · show Q_own_law Z p1 z0 z1 z2 z3 z4 z5 z6 z7 z8 z9 z10 z11 h0 n0 _ T249.heap _
      rw [s249]
      exact ⟨rfl, N249⟩
  · obtain ⟨cl252, Ar252, q252, S252, N252', H252, G252⟩ := id V_b102_174
    have hin252 : ¬ ((7 : Int32) < 0 ∨ cl252.slots.size ≤ ((7 : Int32)).toNatClampNeg) := inb_of S252 ⟨by decide, by decide⟩
    have hat252 : cl252.slots[((7 : Int32)).toNatClampNeg]? = some (.ref z7) := H252 _ (Nat.lt_of_not_le fun q => hin252 (Or.inr q))
    have pp253 : ∀ t, Steps p.tables e below (T174.setTop (mkF m 93 #[.val (.int p1), .val (.ref b102), .unset, .unset, .unset, .unset] [(.ref z7)])) t → Steps p.tables e below (s₁.setTop (entryFrame m #[(.int p1)] maxLocals)) t := fun t k => pp176 t (X174.aaload hx (j := (7 : Int32)) (v := (.ref z7)) (by rw [e174]; exact Ar252.1) (State.isArrayOf_alike hZ.alike Ar252.2.1) rfl Ar252.2.2 hin252 hat252 (g := (mkF m 92 #[.val (.int p1), .val (.ref b102), .unset, .unset, .unset, .unset] [(.int (7 : Int32)), (.ref b102)])) rfl rfl (hb hby at_92) _ k)
    have pp254 : ∀ t, Steps p.tables e below (T174.setTop (mkF m 95 #[.val (.int p1), .val (.ref b102), .val (.ref z7), .unset, .unset, .unset] [(.ref z7)])) t → Steps p.tables e below (s₁.setTop (entryFrame m #[(.int p1)] maxLocals)) t := fun t k => pp253 t (by
      refine XS.astoreN X174.here hx rfl (hb hby at_93) rfl rfl (l' := #[.val (.int p1), .val (.ref b102), .val (.ref z7), .unset, .unset, .unset]) rfl ?_
      show Steps p.tables e below (T174.setTop (mkF m 94 #[.val (.int p1), .val (.ref b102), .val (.ref z7), .unset, .unset, .unset] [])) _
      refine XS.aloadN X174.here hx rfl (hb hby at_94) rfl rfl ?_
      show Steps p.tables e below (T174.setTop (mkF m 95 #[.val (.int p1), .val (.ref b102), .val (.ref z7), .unset, .unset, .unset] [(.ref z7)])) _
      exact k)
    obtain ⟨cq255, kq255, q255a, q255b, q255c⟩ := isOf hZ e174 E7'
    obtain ⟨_, _, ⟨T255, L255, k255, n255⟩, -, X255, ⟨Lc255, hQ255, l255, y255, z255⟩, st255⟩ := X174.virtualBack hx (y := (⟨"com/example/pairwright/pairwright/model/Result", "won", "()Z"⟩ : MethodName)) (z := (⟨"com/example/pairwright/pairwright/model/Result", "won", "()Z"⟩ : MethodName)) hown (mvT hZ (hw _ (List.mem_of_getElem? (i := 29) rfl))) (mvT hZ (hw _ (List.mem_of_getElem? (i := 30) rfl))) (notFace_of_selects (args := #[]) (mvT hZ (hw _ (List.mem_of_getElem? (i := 32) rfl)))) (mvT hZ (hw _ (List.mem_of_getElem? (i := 32) rfl))) (mvT hZ (hw _ (List.mem_of_getElem? (i := 31) rfl))) (by decide) (backOf (W := 0) (own_won l Z a0 hw [] z7 z0 z3 h174 n0 Zn S0' S3') hZ (hw _ (List.mem_of_getElem? (i := 33) rfl)) (hw _ (List.mem_of_getElem? (i := 3) rfl)) (by decide) (by decide)) q255a q255c (g := (mkF m 95 #[.val (.int p1), .val (.ref b102), .val (.ref z7), .unset, .unset, .unset] [(.ref z7)])) rfl (by rw [hml]; rfl) (Steps.refl _) (argsL := []) (rest := []) (lenOf pd___Z rfl) rfl (by show 2 * 0 + _ ≤ _; exact Nat.le_of_eq rfl) (hb hby at_95) (fun _ _ => ⟨rfl, e174, (by decide : 1 + 0 ≤ _), (by decide : 12 + 0 ≤ _)⟩)
    dsimp only [Pt.U, Pt.locs, Pt.cells, Pt.slots] at X255 l255 y255 z255 st255 hQ255
    subst l255 y255 z255
    obtain ⟨rfl, N255q, s255⟩ := hQ255
    have N255 := Fr.app N174 N255q
    have pp256 : ∀ t, Steps p.tables e below (T255.setTop (mkF m 98 #[.val (.int p1), .val (.ref b102), .val (.ref z7), .unset, .unset, .unset] [(.int (own_or z7 z0 z3))])) t → Steps p.tables e below (s₁.setTop (entryFrame m #[(.int p1)] maxLocals)) t := fun t k => pp254 t (st255.trans k)
    rw [own_or3 ne7_0 ne7_3] at pp256
    have pp257 : ∀ t, Steps p.tables e below (T255.setTop (mkF m 100 #[.val (.int p1), .val (.ref b102), .val (.ref z7), .val (.int (0 : Int32)), .unset, .unset] [(.ref z7)])) t → Steps p.tables e below (s₁.setTop (entryFrame m #[(.int p1)] maxLocals)) t := fun t k => pp256 t (by
      refine XS.istoreN X255.here hx rfl (hb hby at_98) rfl (l' := #[.val (.int p1), .val (.ref b102), .val (.ref z7), .val (.int (0 : Int32)), .unset, .unset]) rfl ?_
      show Steps p.tables e below (T255.setTop (mkF m 99 #[.val (.int p1), .val (.ref b102), .val (.ref z7), .val (.int (0 : Int32)), .unset, .unset] [])) _
      refine XS.aloadN X255.here hx rfl (hb hby at_99) rfl rfl ?_
      show Steps p.tables e below (T255.setTop (mkF m 100 #[.val (.int p1), .val (.ref b102), .val (.ref z7), .val (.int (0 : Int32)), .unset, .unset] [(.ref z7)])) _
      exact k)
    obtain ⟨cq258, kq258, q258a, q258b, q258c⟩ := isOf hZ s255 E7'
    obtain ⟨_, _, ⟨T258, L258, k258, n258⟩, -, X258, ⟨Lc258, hQ258, l258, y258, z258⟩, st258⟩ := X255.virtualBack hx (y := (⟨"com/example/pairwright/pairwright/model/Result", "code", "()C"⟩ : MethodName)) (z := (⟨"com/example/pairwright/pairwright/model/Result", "code", "()C"⟩ : MethodName)) hown (mvT hZ (hw _ (List.mem_of_getElem? (i := 35) rfl))) (mvT hZ (hw _ (List.mem_of_getElem? (i := 36) rfl))) (notFace_of_selects (args := #[]) (mvT hZ (hw _ (List.mem_of_getElem? (i := 38) rfl)))) (mvT hZ (hw _ (List.mem_of_getElem? (i := 38) rfl))) (mvT hZ (hw _ (List.mem_of_getElem? (i := 37) rfl))) (by decide) (backOf (W := 0) (own_code l Z a0 hw [] z7 (45 : Int32) h174 n0 Zn C7') hZ (hw _ (List.mem_of_getElem? (i := 39) rfl)) (hw _ (List.mem_of_getElem? (i := 3) rfl)) (by decide) (by decide)) q258a q258c (g := (mkF m 100 #[.val (.int p1), .val (.ref b102), .val (.ref z7), .val (.int (0 : Int32)), .unset, .unset] [(.ref z7)])) rfl (by rw [hml]; rfl) (Steps.refl _) (argsL := []) (rest := []) (lenOf pd___C rfl) rfl (by show 2 * 0 + _ ≤ _; exact Nat.le_of_eq rfl) (hb hby at_100) (fun _ _ => ⟨rfl, s255, (by decide : 1 + 0 ≤ _), (by decide : 12 + 0 ≤ _)⟩)
    dsimp only [Pt.U, Pt.locs, Pt.cells, Pt.slots] at X258 l258 y258 z258 st258 hQ258
    subst l258 y258 z258
    obtain ⟨rfl, N258q, s258⟩ := hQ258
    have N258 := Fr.app N255 N258q
    have pp259 : ∀ t, Steps p.tables e below (T258.setTop (mkF m 103 #[.val (.int p1), .val (.ref b102), .val (.ref z7), .val (.int (0 : Int32)), .unset, .unset] [(.int (nar .char (45 : Int32)))])) t → Steps p.tables e below (s₁.setTop (entryFrame m #[(.int p1)] maxLocals)) t := fun t k => pp257 t (st258.trans k)
    rw [show nar .char (45 : Int32) = (45 : Int32) from by decide] at pp259
    have pp260 : ∀ t, Steps p.tables e below (T258.setTop (mkF m 155 #[.val (.int p1), .val (.ref b102), .val (.ref z7), .val (.int (0 : Int32)), .val (.int (45 : Int32)), .val (.int (0 : Int32))] [(.int (1 : Int32))])) t → Steps p.tables e below (s₁.setTop (entryFrame m #[(.int p1)] maxLocals)) t := fun t k => pp259 t (by
      refine XS.istore X258.here hx rfl (hb hby at_103) rfl (l' := #[.val (.int p1), .val (.ref b102), .val (.ref z7), .val (.int (0 : Int32)), .val (.int (45 : Int32)), .unset]) rfl ?_
      show Steps p.tables e below (T258.setTop (mkF m 105 #[.val (.int p1), .val (.ref b102), .val (.ref z7), .val (.int (0 : Int32)), .val (.int (45 : Int32)), .unset] [])) _
      refine XS.iload X258.here hx rfl (hb hby at_105) rfl ?_
      show Steps p.tables e below (T258.setTop (mkF m 107 #[.val (.int p1), .val (.ref b102), .val (.ref z7), .val (.int (0 : Int32)), .val (.int (45 : Int32)), .unset] [(.int (45 : Int32))])) _
      refine XS.bipush X258.here hx rfl (hb hby at_107) ?_
      show Steps p.tables e below (T258.setTop (mkF m 109 #[.val (.int p1), .val (.ref b102), .val (.ref z7), .val (.int (0 : Int32)), .val (.int (45 : Int32)), .unset] [(.int (49 : Int32)), (.int (45 : Int32))])) _
      refine XS.icmpNo X258.here hx rfl (hb hby at_109) rfl (feq (by decide : ¬ ((45 : Int32) = (49 : Int32)))).1 ?_
      show Steps p.tables e below (T258.setTop (mkF m 112 #[.val (.int p1), .val (.ref b102), .val (.ref z7), .val (.int (0 : Int32)), .val (.int (45 : Int32)), .unset] [])) _
      refine XS.iload X258.here hx rfl (hb hby at_112) rfl ?_
      show Steps p.tables e below (T258.setTop (mkF m 114 #[.val (.int p1), .val (.ref b102), .val (.ref z7), .val (.int (0 : Int32)), .val (.int (45 : Int32)), .unset] [(.int (45 : Int32))])) _
      refine XS.bipush X258.here hx rfl (hb hby at_114) ?_
      show Steps p.tables e below (T258.setTop (mkF m 116 #[.val (.int p1), .val (.ref b102), .val (.ref z7), .val (.int (0 : Int32)), .val (.int (45 : Int32)), .unset] [(.int (87 : Int32)), (.int (45 : Int32))])) _
      refine XS.icmpYes X258.here hx rfl (pc0 := 116) (pc' := 123) rfl (hb hby at_116) rfl (feq (by decide : ¬ ((45 : Int32) = (87 : Int32)))).2 (by decide) (by decide) ?_
      show Steps p.tables e below (T258.setTop (mkF m 123 #[.val (.int p1), .val (.ref b102), .val (.ref z7), .val (.int (0 : Int32)), .val (.int (45 : Int32)), .unset] [])) _
      refine XS.iconst X258.here hx rfl (hb hby at_123) ?_
      show Steps p.tables e below (T258.setTop (mkF m 124 #[.val (.int p1), .val (.ref b102), .val (.ref z7), .val (.int (0 : Int32)), .val (.int (45 : Int32)), .unset] [(.int (0 : Int32))])) _
      refine XS.istore X258.here hx rfl (hb hby at_124) rfl (l' := #[.val (.int p1), .val (.ref b102), .val (.ref z7), .val (.int (0 : Int32)), .val (.int (45 : Int32)), .val (.int (0 : Int32))]) rfl ?_
      show Steps p.tables e below (T258.setTop (mkF m 126 #[.val (.int p1), .val (.ref b102), .val (.ref z7), .val (.int (0 : Int32)), .val (.int (45 : Int32)), .val (.int (0 : Int32))] [])) _
      refine XS.iloadN X258.here hx rfl (hb hby at_126) rfl ?_
      show Steps p.tables e below (T258.setTop (mkF m 127 #[.val (.int p1), .val (.ref b102), .val (.ref z7), .val (.int (0 : Int32)), .val (.int (45 : Int32)), .val (.int (0 : Int32))] [(.int (0 : Int32))])) _
      refine XS.iload X258.here hx rfl (hb hby at_127) rfl ?_
      show Steps p.tables e below (T258.setTop (mkF m 129 #[.val (.int p1), .val (.ref b102), .val (.ref z7), .val (.int (0 : Int32)), .val (.int (45 : Int32)), .val (.int (0 : Int32))] [(.int (0 : Int32)), (.int (0 : Int32))])) _
      refine XS.icmpYes X258.here hx rfl (pc0 := 129) (pc' := 134) rfl (hb hby at_129) rfl (teq (by decide : (0 : Int32) = (0 : Int32))).1 (by decide) (by decide) ?_
      show Steps p.tables e below (T258.setTop (mkF m 134 #[.val (.int p1), .val (.ref b102), .val (.ref z7), .val (.int (0 : Int32)), .val (.int (45 : Int32)), .val (.int (0 : Int32))] [])) _
      refine XS.iloadN X258.here hx rfl (hb hby at_134) rfl ?_
      show Steps p.tables e below (T258.setTop (mkF m 135 #[.val (.int p1), .val (.ref b102), .val (.ref z7), .val (.int (0 : Int32)), .val (.int (45 : Int32)), .val (.int (0 : Int32))] [(.int (0 : Int32))])) _
      refine XS.ifYes X258.here hx rfl (pc0 := 135) (pc' := 154) rfl (hb hby at_135) rfl ((if0 _ _).trans (teq (by decide : (0 : Int32) = (0 : Int32))).1) (by decide) (by decide) ?_
      show Steps p.tables e below (T258.setTop (mkF m 154 #[.val (.int p1), .val (.ref b102), .val (.ref z7), .val (.int (0 : Int32)), .val (.int (45 : Int32)), .val (.int (0 : Int32))] [])) _
      refine XS.iconst X258.here hx rfl (hb hby at_154) ?_
      show Steps p.tables e below (T258.setTop (mkF m 155 #[.val (.int p1), .val (.ref b102), .val (.ref z7), .val (.int (0 : Int32)), .val (.int (45 : Int32)), .val (.int (0 : Int32))] [(.int (1 : Int32))])) _
      exact k)
    obtain ⟨fs, hr, hrun, hended, hW, hsame⟩ := X258.leave (v := some (.int (1 : Int32))) (fun h => by rw [Bd.returns] at h; cases h)
    refine ⟨_, _, pp260 _ ?_, hrun, hended, _, _, rfl, ?_, ⟨_, rfl⟩, hW, hsame.mono (by decide) (by decide)⟩
    · exact retN X258 hx (t := .boolean) Bd.returns (by simp) (hb hby at_155) hr
    · show Q_own_law Z p1 z0 z1 z2 z3 z4 z5 z6 z7 z8 z9 z10 z11 h0 n0 _ T258.heap _
      rw [s258]
      exact ⟨rfl, N258⟩
  · obtain ⟨cl261, Ar261, q261, S261, N261', H261, G261⟩ := id V_b102_174
    have hin261 : ¬ ((8 : Int32) < 0 ∨ cl261.slots.size ≤ ((8 : Int32)).toNatClampNeg) := inb_of S261 ⟨by decide, by decide⟩
    have hat261 : cl261.slots[((8 : Int32)).toNatClampNeg]? = some (.ref z8) := H261 _ (Nat.lt_of_not_le fun q => hin261 (Or.inr q))
    have pp262 : ∀ t, Steps p.tables e below (T174.setTop (mkF m 93 #[.val (.int p1), .val (.ref b102), .unset, .unset, .unset, .unset] [(.ref z8)])) t → Steps p.tables e below (s₁.setTop (entryFrame m #[(.int p1)] maxLocals)) t := fun t k => pp176 t (X174.aaload hx (j := (8 : Int32)) (v := (.ref z8)) (by rw [e174]; exact Ar261.1) (State.isArrayOf_alike hZ.alike Ar261.2.1) rfl Ar261.2.2 hin261 hat261 (g := (mkF m 92 #[.val (.int p1), .val (.ref b102), .unset, .unset, .unset, .unset] [(.int (8 : Int32)), (.ref b102)])) rfl rfl (hb hby at_92) _ k)
    have pp263 : ∀ t, Steps p.tables e below (T174.setTop (mkF m 95 #[.val (.int p1), .val (.ref b102), .val (.ref z8), .unset, .unset, .unset] [(.ref z8)])) t → Steps p.tables e below (s₁.setTop (entryFrame m #[(.int p1)] maxLocals)) t := fun t k => pp262 t (by
      refine XS.astoreN X174.here hx rfl (hb hby at_93) rfl rfl (l' := #[.val (.int p1), .val (.ref b102), .val (.ref z8), .unset, .unset, .unset]) rfl ?_
      show Steps p.tables e below (T174.setTop (mkF m 94 #[.val (.int p1), .val (.ref b102), .val (.ref z8), .unset, .unset, .unset] [])) _
      refine XS.aloadN X174.here hx rfl (hb hby at_94) rfl rfl ?_
      show Steps p.tables e below (T174.setTop (mkF m 95 #[.val (.int p1), .val (.ref b102), .val (.ref z8), .unset, .unset, .unset] [(.ref z8)])) _
      exact k)
    obtain ⟨cq264, kq264, q264a, q264b, q264c⟩ := isOf hZ e174 E8'
    obtain ⟨_, _, ⟨T264, L264, k264, n264⟩, -, X264, ⟨Lc264, hQ264, l264, y264, z264⟩, st264⟩ := X174.virtualBack hx (y := (⟨"com/example/pairwright/pairwright/model/Result", "won", "()Z"⟩ : MethodName)) (z := (⟨"com/example/pairwright/pairwright/model/Result", "won", "()Z"⟩ : MethodName)) hown (mvT hZ (hw _ (List.mem_of_getElem? (i := 29) rfl))) (mvT hZ (hw _ (List.mem_of_getElem? (i := 30) rfl))) (notFace_of_selects (args := #[]) (mvT hZ (hw _ (List.mem_of_getElem? (i := 32) rfl)))) (mvT hZ (hw _ (List.mem_of_getElem? (i := 32) rfl))) (mvT hZ (hw _ (List.mem_of_getElem? (i := 31) rfl))) (by decide) (backOf (W := 0) (own_won l Z a0 hw [] z8 z0 z3 h174 n0 Zn S0' S3') hZ (hw _ (List.mem_of_getElem? (i := 33) rfl)) (hw _ (List.mem_of_getElem? (i := 3) rfl)) (by decide) (by decide)) q264a q264c (g := (mkF m 95 #[.val (.int p1), .val (.ref b102), .val (.ref z8), .unset, .unset, .unset] [(.ref z8)])) rfl (by rw [hml]; rfl) (Steps.refl _) (argsL := []) (rest := []) (lenOf pd___Z rfl) rfl (by show 2 * 0 + _ ≤ _; exact Nat.le_of_eq rfl) (hb hby at_95) (fun _ _ => ⟨rfl, e174, (by decide : 1 + 0 ≤ _), (by decide : 12 + 0 ≤ _)⟩)
    dsimp only [Pt.U, Pt.locs, Pt.cells, Pt.slots] at X264 l264 y264 z264 st264 hQ264
    subst l264 y264 z264
    obtain ⟨rfl, N264q, s264⟩ := hQ264
    have N264 := Fr.app N174 N264q
    have pp265 : ∀ t, Steps p.tables e below (T264.setTop (mkF m 98 #[.val (.int p1), .val (.ref b102), .val (.ref z8), .unset, .unset, .unset] [(.int (own_or z8 z0 z3))])) t → Steps p.tables e below (s₁.setTop (entryFrame m #[(.int p1)] maxLocals)) t := fun t k => pp263 t (st264.trans k)
    rw [own_or3 ne8_0 ne8_3] at pp265
    have pp266 : ∀ t, Steps p.tables e below (T264.setTop (mkF m 100 #[.val (.int p1), .val (.ref b102), .val (.ref z8), .val (.int (0 : Int32)), .unset, .unset] [(.ref z8)])) t → Steps p.tables e below (s₁.setTop (entryFrame m #[(.int p1)] maxLocals)) t := fun t k => pp265 t (by
      refine XS.istoreN X264.here hx rfl (hb hby at_98) rfl (l' := #[.val (.int p1), .val (.ref b102), .val (.ref z8), .val (.int (0 : Int32)), .unset, .unset]) rfl ?_
      show Steps p.tables e below (T264.setTop (mkF m 99 #[.val (.int p1), .val (.ref b102), .val (.ref z8), .val (.int (0 : Int32)), .unset, .unset] [])) _
      refine XS.aloadN X264.here hx rfl (hb hby at_99) rfl rfl ?_
      show Steps p.tables e below (T264.setTop (mkF m 100 #[.val (.int p1), .val (.ref b102), .val (.ref z8), .val (.int (0 : Int32)), .unset, .unset] [(.ref z8)])) _
      exact k)
    obtain ⟨cq267, kq267, q267a, q267b, q267c⟩ := isOf hZ s264 E8'
    obtain ⟨_, _, ⟨T267, L267, k267, n267⟩, -, X267, ⟨Lc267, hQ267, l267, y267, z267⟩, st267⟩ := X264.virtualBack hx (y := (⟨"com/example/pairwright/pairwright/model/Result", "code", "()C"⟩ : MethodName)) (z := (⟨"com/example/pairwright/pairwright/model/Result", "code", "()C"⟩ : MethodName)) hown (mvT hZ (hw _ (List.mem_of_getElem? (i := 35) rfl))) (mvT hZ (hw _ (List.mem_of_getElem? (i := 36) rfl))) (notFace_of_selects (args := #[]) (mvT hZ (hw _ (List.mem_of_getElem? (i := 38) rfl)))) (mvT hZ (hw _ (List.mem_of_getElem? (i := 38) rfl))) (mvT hZ (hw _ (List.mem_of_getElem? (i := 37) rfl))) (by decide) (backOf (W := 0) (own_code l Z a0 hw [] z8 (72 : Int32) h174 n0 Zn C8') hZ (hw _ (List.mem_of_getElem? (i := 39) rfl)) (hw _ (List.mem_of_getElem? (i := 3) rfl)) (by decide) (by decide)) q267a q267c (g := (mkF m 100 #[.val (.int p1), .val (.ref b102), .val (.ref z8), .val (.int (0 : Int32)), .unset, .unset] [(.ref z8)])) rfl (by rw [hml]; rfl) (Steps.refl _) (argsL := []) (rest := []) (lenOf pd___C rfl) rfl (by show 2 * 0 + _ ≤ _; exact Nat.le_of_eq rfl) (hb hby at_100) (fun _ _ => ⟨rfl, s264, (by decide : 1 + 0 ≤ _), (by decide : 12 + 0 ≤ _)⟩)
    dsimp only [Pt.U, Pt.locs, Pt.cells, Pt.slots] at X267 l267 y267 z267 st267 hQ267
    subst l267 y267 z267
    obtain ⟨rfl, N267q, s267⟩ := hQ267
    have N267 := Fr.app N264 N267q
    have pp268 : ∀ t, Steps p.tables e below (T267.setTop (mkF m 103 #[.val (.int p1), .val (.ref b102), .val (.ref z8), .val (.int (0 : Int32)), .unset, .unset] [(.int (nar .char (72 : Int32)))])) t → Steps p.tables e below (s₁.setTop (entryFrame m #[(.int p1)] maxLocals)) t := fun t k => pp266 t (st267.trans k)
    rw [show nar .char (72 : Int32) = (72 : Int32) from by decide] at pp268
    have pp269 : ∀ t, Steps p.tables e below (T267.setTop (mkF m 155 #[.val (.int p1), .val (.ref b102), .val (.ref z8), .val (.int (0 : Int32)), .val (.int (72 : Int32)), .val (.int (0 : Int32))] [(.int (1 : Int32))])) t → Steps p.tables e below (s₁.setTop (entryFrame m #[(.int p1)] maxLocals)) t := fun t k => pp268 t (by
      refine XS.istore X267.here hx rfl (hb hby at_103) rfl (l' := #[.val (.int p1), .val (.ref b102), .val (.ref z8), .val (.int (0 : Int32)), .val (.int (72 : Int32)), .unset]) rfl ?_
      show Steps p.tables e below (T267.setTop (mkF m 105 #[.val (.int p1), .val (.ref b102), .val (.ref z8), .val (.int (0 : Int32)), .val (.int (72 : Int32)), .unset] [])) _
      refine XS.iload X267.here hx rfl (hb hby at_105) rfl ?_
      show Steps p.tables e below (T267.setTop (mkF m 107 #[.val (.int p1), .val (.ref b102), .val (.ref z8), .val (.int (0 : Int32)), .val (.int (72 : Int32)), .unset] [(.int (72 : Int32))])) _
      refine XS.bipush X267.here hx rfl (hb hby at_107) ?_
      show Steps p.tables e below (T267.setTop (mkF m 109 #[.val (.int p1), .val (.ref b102), .val (.ref z8), .val (.int (0 : Int32)), .val (.int (72 : Int32)), .unset] [(.int (49 : Int32)), (.int (72 : Int32))])) _
      refine XS.icmpNo X267.here hx rfl (hb hby at_109) rfl (feq (by decide : ¬ ((72 : Int32) = (49 : Int32)))).1 ?_
      show Steps p.tables e below (T267.setTop (mkF m 112 #[.val (.int p1), .val (.ref b102), .val (.ref z8), .val (.int (0 : Int32)), .val (.int (72 : Int32)), .unset] [])) _
      refine XS.iload X267.here hx rfl (hb hby at_112) rfl ?_
      show Steps p.tables e below (T267.setTop (mkF m 114 #[.val (.int p1), .val (.ref b102), .val (.ref z8), .val (.int (0 : Int32)), .val (.int (72 : Int32)), .unset] [(.int (72 : Int32))])) _
      refine XS.bipush X267.here hx rfl (hb hby at_114) ?_
      show Steps p.tables e below (T267.setTop (mkF m 116 #[.val (.int p1), .val (.ref b102), .val (.ref z8), .val (.int (0 : Int32)), .val (.int (72 : Int32)), .unset] [(.int (87 : Int32)), (.int (72 : Int32))])) _
      refine XS.icmpYes X267.here hx rfl (pc0 := 116) (pc' := 123) rfl (hb hby at_116) rfl (feq (by decide : ¬ ((72 : Int32) = (87 : Int32)))).2 (by decide) (by decide) ?_
      show Steps p.tables e below (T267.setTop (mkF m 123 #[.val (.int p1), .val (.ref b102), .val (.ref z8), .val (.int (0 : Int32)), .val (.int (72 : Int32)), .unset] [])) _
      refine XS.iconst X267.here hx rfl (hb hby at_123) ?_
      show Steps p.tables e below (T267.setTop (mkF m 124 #[.val (.int p1), .val (.ref b102), .val (.ref z8), .val (.int (0 : Int32)), .val (.int (72 : Int32)), .unset] [(.int (0 : Int32))])) _
      refine XS.istore X267.here hx rfl (hb hby at_124) rfl (l' := #[.val (.int p1), .val (.ref b102), .val (.ref z8), .val (.int (0 : Int32)), .val (.int (72 : Int32)), .val (.int (0 : Int32))]) rfl ?_
      show Steps p.tables e below (T267.setTop (mkF m 126 #[.val (.int p1), .val (.ref b102), .val (.ref z8), .val (.int (0 : Int32)), .val (.int (72 : Int32)), .val (.int (0 : Int32))] [])) _
      refine XS.iloadN X267.here hx rfl (hb hby at_126) rfl ?_
      show Steps p.tables e below (T267.setTop (mkF m 127 #[.val (.int p1), .val (.ref b102), .val (.ref z8), .val (.int (0 : Int32)), .val (.int (72 : Int32)), .val (.int (0 : Int32))] [(.int (0 : Int32))])) _
      refine XS.iload X267.here hx rfl (hb hby at_127) rfl ?_
      show Steps p.tables e below (T267.setTop (mkF m 129 #[.val (.int p1), .val (.ref b102), .val (.ref z8), .val (.int (0 : Int32)), .val (.int (72 : Int32)), .val (.int (0 : Int32))] [(.int (0 : Int32)), (.int (0 : Int32))])) _
      refine XS.icmpYes X267.here hx rfl (pc0 := 129) (pc' := 134) rfl (hb hby at_129) rfl (teq (by decide : (0 : Int32) = (0 : Int32))).1 (by decide) (by decide) ?_
      show Steps p.tables e below (T267.setTop (mkF m 134 #[.val (.int p1), .val (.ref b102), .val (.ref z8), .val (.int (0 : Int32)), .val (.int (72 : Int32)), .val (.int (0 : Int32))] [])) _
      refine XS.iloadN X267.here hx rfl (hb hby at_134) rfl ?_
      show Steps p.tables e below (T267.setTop (mkF m 135 #[.val (.int p1), .val (.ref b102), .val (.ref z8), .val (.int (0 : Int32)), .val (.int (72 : Int32)), .val (.int (0 : Int32))] [(.int (0 : Int32))])) _
      refine XS.ifYes X267.here hx rfl (pc0 := 135) (pc' := 154) rfl (hb hby at_135) rfl ((if0 _ _).trans (teq (by decide : (0 : Int32) = (0 : Int32))).1) (by decide) (by decide) ?_
      show Steps p.tables e below (T267.setTop (mkF m 154 #[.val (.int p1), .val (.ref b102), .val (.ref z8), .val (.int (0 : Int32)), .val (.int (72 : Int32)), .val (.int (0 : Int32))] [])) _
      refine XS.iconst X267.here hx rfl (hb hby at_154) ?_
      show Steps p.tables e below (T267.setTop (mkF m 155 #[.val (.int p1), .val (.ref b102), .val (.ref z8), .val (.int (0 : Int32)), .val (.int (72 : Int32)), .val (.int (0 : Int32))] [(.int (1 : Int32))])) _
      exact k)
    obtain ⟨fs, hr, hrun, hended, hW, hsame⟩ := X267.leave (v := some (.int (1 : Int32))) (fun h => by rw [Bd.returns] at h; cases h)
    refine ⟨_, _, pp269 _ ?_, hrun, hended, _, _, rfl, ?_, ⟨_, rfl⟩, hW, hsame.mono (by decide) (by decide)⟩
    · exact retN X267 hx (t := .boolean) Bd.returns (by simp) (hb hby at_155) hr
    · show Q_own_law Z p1 z0 z1 z2 z3 z4 z5 z6 z7 z8 z9 z10 z11 h0 n0 _ T267.heap _
      rw [s267]
      exact ⟨rfl, N267⟩
  · obtain ⟨cl270, Ar270, q270, S270, N270', H270, G270⟩ := id V_b102_174
    have hin270 : ¬ ((9 : Int32) < 0 ∨ cl270.slots.size ≤ ((9 : Int32)).toNatClampNeg) := inb_of S270 ⟨by decide, by decide⟩
    have hat270 : cl270.slots[((9 : Int32)).toNatClampNeg]? = some (.ref z9) := H270 _ (Nat.lt_of_not_le fun q => hin270 (Or.inr q))
    have pp271 : ∀ t, Steps p.tables e below (T174.setTop (mkF m 93 #[.val (.int p1), .val (.ref b102), .unset, .unset, .unset, .unset] [(.ref z9)])) t → Steps p.tables e below (s₁.setTop (entryFrame m #[(.int p1)] maxLocals)) t := fun t k => pp176 t (X174.aaload hx (j := (9 : Int32)) (v := (.ref z9)) (by rw [e174]; exact Ar270.1) (State.isArrayOf_alike hZ.alike Ar270.2.1) rfl Ar270.2.2 hin270 hat270 (g := (mkF m 92 #[.val (.int p1), .val (.ref b102), .unset, .unset, .unset, .unset] [(.int (9 : Int32)), (.ref b102)])) rfl rfl (hb hby at_92) _ k)
    have pp272 : ∀ t, Steps p.tables e below (T174.setTop (mkF m 95 #[.val (.int p1), .val (.ref b102), .val (.ref z9), .unset, .unset, .unset] [(.ref z9)])) t → Steps p.tables e below (s₁.setTop (entryFrame m #[(.int p1)] maxLocals)) t := fun t k => pp271 t (by
      refine XS.astoreN X174.here hx rfl (hb hby at_93) rfl rfl (l' := #[.val (.int p1), .val (.ref b102), .val (.ref z9), .unset, .unset, .unset]) rfl ?_
      show Steps p.tables e below (T174.setTop (mkF m 94 #[.val (.int p1), .val (.ref b102), .val (.ref z9), .unset, .unset, .unset] [])) _
      refine XS.aloadN X174.here hx rfl (hb hby at_94) rfl rfl ?_
      show Steps p.tables e below (T174.setTop (mkF m 95 #[.val (.int p1), .val (.ref b102), .val (.ref z9), .unset, .unset, .unset] [(.ref z9)])) _
      exact k)
    obtain ⟨cq273, kq273, q273a, q273b, q273c⟩ := isOf hZ e174 E9'
    obtain ⟨_, _, ⟨T273, L273, k273, n273⟩, -, X273, ⟨Lc273, hQ273, l273, y273, z273⟩, st273⟩ := X174.virtualBack hx (y := (⟨"com/example/pairwright/pairwright/model/Result", "won", "()Z"⟩ : MethodName)) (z := (⟨"com/example/pairwright/pairwright/model/Result", "won", "()Z"⟩ : MethodName)) hown (mvT hZ (hw _ (List.mem_of_getElem? (i := 29) rfl))) (mvT hZ (hw _ (List.mem_of_getElem? (i := 30) rfl))) (notFace_of_selects (args := #[]) (mvT hZ (hw _ (List.mem_of_getElem? (i := 32) rfl)))) (mvT hZ (hw _ (List.mem_of_getElem? (i := 32) rfl))) (mvT hZ (hw _ (List.mem_of_getElem? (i := 31) rfl))) (by decide) (backOf (W := 0) (own_won l Z a0 hw [] z9 z0 z3 h174 n0 Zn S0' S3') hZ (hw _ (List.mem_of_getElem? (i := 33) rfl)) (hw _ (List.mem_of_getElem? (i := 3) rfl)) (by decide) (by decide)) q273a q273c (g := (mkF m 95 #[.val (.int p1), .val (.ref b102), .val (.ref z9), .unset, .unset, .unset] [(.ref z9)])) rfl (by rw [hml]; rfl) (Steps.refl _) (argsL := []) (rest := []) (lenOf pd___Z rfl) rfl (by show 2 * 0 + _ ≤ _; exact Nat.le_of_eq rfl) (hb hby at_95) (fun _ _ => ⟨rfl, e174, (by decide : 1 + 0 ≤ _), (by decide : 12 + 0 ≤ _)⟩)
    dsimp only [Pt.U, Pt.locs, Pt.cells, Pt.slots] at X273 l273 y273 z273 st273 hQ273
    subst l273 y273 z273
    obtain ⟨rfl, N273q, s273⟩ := hQ273
    have N273 := Fr.app N174 N273q
    have pp274 : ∀ t, Steps p.tables e below (T273.setTop (mkF m 98 #[.val (.int p1), .val (.ref b102), .val (.ref z9), .unset, .unset, .unset] [(.int (own_or z9 z0 z3))])) t → Steps p.tables e below (s₁.setTop (entryFrame m #[(.int p1)] maxLocals)) t := fun t k => pp272 t (st273.trans k)
    rw [own_or3 ne9_0 ne9_3] at pp274
    have pp275 : ∀ t, Steps p.tables e below (T273.setTop (mkF m 100 #[.val (.int p1), .val (.ref b102), .val (.ref z9), .val (.int (0 : Int32)), .unset, .unset] [(.ref z9)])) t → Steps p.tables e below (s₁.setTop (entryFrame m #[(.int p1)] maxLocals)) t := fun t k => pp274 t (by
      refine XS.istoreN X273.here hx rfl (hb hby at_98) rfl (l' := #[.val (.int p1), .val (.ref b102), .val (.ref z9), .val (.int (0 : Int32)), .unset, .unset]) rfl ?_
      show Steps p.tables e below (T273.setTop (mkF m 99 #[.val (.int p1), .val (.ref b102), .val (.ref z9), .val (.int (0 : Int32)), .unset, .unset] [])) _
      refine XS.aloadN X273.here hx rfl (hb hby at_99) rfl rfl ?_
      show Steps p.tables e below (T273.setTop (mkF m 100 #[.val (.int p1), .val (.ref b102), .val (.ref z9), .val (.int (0 : Int32)), .unset, .unset] [(.ref z9)])) _
      exact k)
    obtain ⟨cq276, kq276, q276a, q276b, q276c⟩ := isOf hZ s273 E9'
    obtain ⟨_, _, ⟨T276, L276, k276, n276⟩, -, X276, ⟨Lc276, hQ276, l276, y276, z276⟩, st276⟩ := X273.virtualBack hx (y := (⟨"com/example/pairwright/pairwright/model/Result", "code", "()C"⟩ : MethodName)) (z := (⟨"com/example/pairwright/pairwright/model/Result", "code", "()C"⟩ : MethodName)) hown (mvT hZ (hw _ (List.mem_of_getElem? (i := 35) rfl))) (mvT hZ (hw _ (List.mem_of_getElem? (i := 36) rfl))) (notFace_of_selects (args := #[]) (mvT hZ (hw _ (List.mem_of_getElem? (i := 38) rfl)))) (mvT hZ (hw _ (List.mem_of_getElem? (i := 38) rfl))) (mvT hZ (hw _ (List.mem_of_getElem? (i := 37) rfl))) (by decide) (backOf (W := 0) (own_code l Z a0 hw [] z9 (70 : Int32) h174 n0 Zn C9') hZ (hw _ (List.mem_of_getElem? (i := 39) rfl)) (hw _ (List.mem_of_getElem? (i := 3) rfl)) (by decide) (by decide)) q276a q276c (g := (mkF m 100 #[.val (.int p1), .val (.ref b102), .val (.ref z9), .val (.int (0 : Int32)), .unset, .unset] [(.ref z9)])) rfl (by rw [hml]; rfl) (Steps.refl _) (argsL := []) (rest := []) (lenOf pd___C rfl) rfl (by show 2 * 0 + _ ≤ _; exact Nat.le_of_eq rfl) (hb hby at_100) (fun _ _ => ⟨rfl, s273, (by decide : 1 + 0 ≤ _), (by decide : 12 + 0 ≤ _)⟩)
    dsimp only [Pt.U, Pt.locs, Pt.cells, Pt.slots] at X276 l276 y276 z276 st276 hQ276
    subst l276 y276 z276
    obtain ⟨rfl, N276q, s276⟩ := hQ276
    have N276 := Fr.app N273 N276q
    have pp277 : ∀ t, Steps p.tables e below (T276.setTop (mkF m 103 #[.val (.int p1), .val (.ref b102), .val (.ref z9), .val (.int (0 : Int32)), .unset, .unset] [(.int (nar .char (70 : Int32)))])) t → Steps p.tables e below (s₁.setTop (entryFrame m #[(.int p1)] maxLocals)) t := fun t k => pp275 t (st276.trans k)
    rw [show nar .char (70 : Int32) = (70 : Int32) from by decide] at pp277
    have pp278 : ∀ t, Steps p.tables e below (T276.setTop (mkF m 155 #[.val (.int p1), .val (.ref b102), .val (.ref z9), .val (.int (0 : Int32)), .val (.int (70 : Int32)), .val (.int (0 : Int32))] [(.int (1 : Int32))])) t → Steps p.tables e below (s₁.setTop (entryFrame m #[(.int p1)] maxLocals)) t := fun t k => pp277 t (by
      refine XS.istore X276.here hx rfl (hb hby at_103) rfl (l' := #[.val (.int p1), .val (.ref b102), .val (.ref z9), .val (.int (0 : Int32)), .val (.int (70 : Int32)), .unset]) rfl ?_
      show Steps p.tables e below (T276.setTop (mkF m 105 #[.val (.int p1), .val (.ref b102), .val (.ref z9), .val (.int (0 : Int32)), .val (.int (70 : Int32)), .unset] [])) _
      refine XS.iload X276.here hx rfl (hb hby at_105) rfl ?_
      show Steps p.tables e below (T276.setTop (mkF m 107 #[.val (.int p1), .val (.ref b102), .val (.ref z9), .val (.int (0 : Int32)), .val (.int (70 : Int32)), .unset] [(.int (70 : Int32))])) _
      refine XS.bipush X276.here hx rfl (hb hby at_107) ?_
      show Steps p.tables e below (T276.setTop (mkF m 109 #[.val (.int p1), .val (.ref b102), .val (.ref z9), .val (.int (0 : Int32)), .val (.int (70 : Int32)), .unset] [(.int (49 : Int32)), (.int (70 : Int32))])) _
      refine XS.icmpNo X276.here hx rfl (hb hby at_109) rfl (feq (by decide : ¬ ((70 : Int32) = (49 : Int32)))).1 ?_
      show Steps p.tables e below (T276.setTop (mkF m 112 #[.val (.int p1), .val (.ref b102), .val (.ref z9), .val (.int (0 : Int32)), .val (.int (70 : Int32)), .unset] [])) _
      refine XS.iload X276.here hx rfl (hb hby at_112) rfl ?_
      show Steps p.tables e below (T276.setTop (mkF m 114 #[.val (.int p1), .val (.ref b102), .val (.ref z9), .val (.int (0 : Int32)), .val (.int (70 : Int32)), .unset] [(.int (70 : Int32))])) _
      refine XS.bipush X276.here hx rfl (hb hby at_114) ?_
      show Steps p.tables e below (T276.setTop (mkF m 116 #[.val (.int p1), .val (.ref b102), .val (.ref z9), .val (.int (0 : Int32)), .val (.int (70 : Int32)), .unset] [(.int (87 : Int32)), (.int (70 : Int32))])) _
      refine XS.icmpYes X276.here hx rfl (pc0 := 116) (pc' := 123) rfl (hb hby at_116) rfl (feq (by decide : ¬ ((70 : Int32) = (87 : Int32)))).2 (by decide) (by decide) ?_
      show Steps p.tables e below (T276.setTop (mkF m 123 #[.val (.int p1), .val (.ref b102), .val (.ref z9), .val (.int (0 : Int32)), .val (.int (70 : Int32)), .unset] [])) _
      refine XS.iconst X276.here hx rfl (hb hby at_123) ?_
      show Steps p.tables e below (T276.setTop (mkF m 124 #[.val (.int p1), .val (.ref b102), .val (.ref z9), .val (.int (0 : Int32)), .val (.int (70 : Int32)), .unset] [(.int (0 : Int32))])) _
      refine XS.istore X276.here hx rfl (hb hby at_124) rfl (l' := #[.val (.int p1), .val (.ref b102), .val (.ref z9), .val (.int (0 : Int32)), .val (.int (70 : Int32)), .val (.int (0 : Int32))]) rfl ?_
      show Steps p.tables e below (T276.setTop (mkF m 126 #[.val (.int p1), .val (.ref b102), .val (.ref z9), .val (.int (0 : Int32)), .val (.int (70 : Int32)), .val (.int (0 : Int32))] [])) _
      refine XS.iloadN X276.here hx rfl (hb hby at_126) rfl ?_
      show Steps p.tables e below (T276.setTop (mkF m 127 #[.val (.int p1), .val (.ref b102), .val (.ref z9), .val (.int (0 : Int32)), .val (.int (70 : Int32)), .val (.int (0 : Int32))] [(.int (0 : Int32))])) _
      refine XS.iload X276.here hx rfl (hb hby at_127) rfl ?_
      show Steps p.tables e below (T276.setTop (mkF m 129 #[.val (.int p1), .val (.ref b102), .val (.ref z9), .val (.int (0 : Int32)), .val (.int (70 : Int32)), .val (.int (0 : Int32))] [(.int (0 : Int32)), (.int (0 : Int32))])) _
      refine XS.icmpYes X276.here hx rfl (pc0 := 129) (pc' := 134) rfl (hb hby at_129) rfl (teq (by decide : (0 : Int32) = (0 : Int32))).1 (by decide) (by decide) ?_
      show Steps p.tables e below (T276.setTop (mkF m 134 #[.val (.int p1), .val (.ref b102), .val (.ref z9), .val (.int (0 : Int32)), .val (.int (70 : Int32)), .val (.int (0 : Int32))] [])) _
      refine XS.iloadN X276.here hx rfl (hb hby at_134) rfl ?_
      show Steps p.tables e below (T276.setTop (mkF m 135 #[.val (.int p1), .val (.ref b102), .val (.ref z9), .val (.int (0 : Int32)), .val (.int (70 : Int32)), .val (.int (0 : Int32))] [(.int (0 : Int32))])) _
      refine XS.ifYes X276.here hx rfl (pc0 := 135) (pc' := 154) rfl (hb hby at_135) rfl ((if0 _ _).trans (teq (by decide : (0 : Int32) = (0 : Int32))).1) (by decide) (by decide) ?_
      show Steps p.tables e below (T276.setTop (mkF m 154 #[.val (.int p1), .val (.ref b102), .val (.ref z9), .val (.int (0 : Int32)), .val (.int (70 : Int32)), .val (.int (0 : Int32))] [])) _
      refine XS.iconst X276.here hx rfl (hb hby at_154) ?_
      show Steps p.tables e below (T276.setTop (mkF m 155 #[.val (.int p1), .val (.ref b102), .val (.ref z9), .val (.int (0 : Int32)), .val (.int (70 : Int32)), .val (.int (0 : Int32))] [(.int (1 : Int32))])) _
      exact k)
    obtain ⟨fs, hr, hrun, hended, hW, hsame⟩ := X276.leave (v := some (.int (1 : Int32))) (fun h => by rw [Bd.returns] at h; cases h)
    refine ⟨_, _, pp278 _ ?_, hrun, hended, _, _, rfl, ?_, ⟨_, rfl⟩, hW, hsame.mono (by decide) (by decide)⟩
    · exact retN X276 hx (t := .boolean) Bd.returns (by simp) (hb hby at_155) hr
    · show Q_own_law Z p1 z0 z1 z2 z3 z4 z5 z6 z7 z8 z9 z10 z11 h0 n0 _ T276.heap _
      rw [s276]
      exact ⟨rfl, N276⟩
  · obtain ⟨cl279, Ar279, q279, S279, N279', H279, G279⟩ := id V_b102_174
    have hin279 : ¬ ((10 : Int32) < 0 ∨ cl279.slots.size ≤ ((10 : Int32)).toNatClampNeg) := inb_of S279 ⟨by decide, by decide⟩
    have hat279 : cl279.slots[((10 : Int32)).toNatClampNeg]? = some (.ref z10) := H279 _ (Nat.lt_of_not_le fun q => hin279 (Or.inr q))
    have pp280 : ∀ t, Steps p.tables e below (T174.setTop (mkF m 93 #[.val (.int p1), .val (.ref b102), .unset, .unset, .unset, .unset] [(.ref z10)])) t → Steps p.tables e below (s₁.setTop (entryFrame m #[(.int p1)] maxLocals)) t := fun t k => pp176 t (X174.aaload hx (j := (10 : Int32)) (v := (.ref z10)) (by rw [e174]; exact Ar279.1) (State.isArrayOf_alike hZ.alike Ar279.2.1) rfl Ar279.2.2 hin279 hat279 (g := (mkF m 92 #[.val (.int p1), .val (.ref b102), .unset, .unset, .unset, .unset] [(.int (10 : Int32)), (.ref b102)])) rfl rfl (hb hby at_92) _ k)
    have pp281 : ∀ t, Steps p.tables e below (T174.setTop (mkF m 95 #[.val (.int p1), .val (.ref b102), .val (.ref z10), .unset, .unset, .unset] [(.ref z10)])) t → Steps p.tables e below (s₁.setTop (entryFrame m #[(.int p1)] maxLocals)) t := fun t k => pp280 t (by
      refine XS.astoreN X174.here hx rfl (hb hby at_93) rfl rfl (l' := #[.val (.int p1), .val (.ref b102), .val (.ref z10), .unset, .unset, .unset]) rfl ?_
      show Steps p.tables e below (T174.setTop (mkF m 94 #[.val (.int p1), .val (.ref b102), .val (.ref z10), .unset, .unset, .unset] [])) _
      refine XS.aloadN X174.here hx rfl (hb hby at_94) rfl rfl ?_
      show Steps p.tables e below (T174.setTop (mkF m 95 #[.val (.int p1), .val (.ref b102), .val (.ref z10), .unset, .unset, .unset] [(.ref z10)])) _
      exact k)
    obtain ⟨cq282, kq282, q282a, q282b, q282c⟩ := isOf hZ e174 E10'
    obtain ⟨_, _, ⟨T282, L282, k282, n282⟩, -, X282, ⟨Lc282, hQ282, l282, y282, z282⟩, st282⟩ := X174.virtualBack hx (y := (⟨"com/example/pairwright/pairwright/model/Result", "won", "()Z"⟩ : MethodName)) (z := (⟨"com/example/pairwright/pairwright/model/Result", "won", "()Z"⟩ : MethodName)) hown (mvT hZ (hw _ (List.mem_of_getElem? (i := 29) rfl))) (mvT hZ (hw _ (List.mem_of_getElem? (i := 30) rfl))) (notFace_of_selects (args := #[]) (mvT hZ (hw _ (List.mem_of_getElem? (i := 32) rfl)))) (mvT hZ (hw _ (List.mem_of_getElem? (i := 32) rfl))) (mvT hZ (hw _ (List.mem_of_getElem? (i := 31) rfl))) (by decide) (backOf (W := 0) (own_won l Z a0 hw [] z10 z0 z3 h174 n0 Zn S0' S3') hZ (hw _ (List.mem_of_getElem? (i := 33) rfl)) (hw _ (List.mem_of_getElem? (i := 3) rfl)) (by decide) (by decide)) q282a q282c (g := (mkF m 95 #[.val (.int p1), .val (.ref b102), .val (.ref z10), .unset, .unset, .unset] [(.ref z10)])) rfl (by rw [hml]; rfl) (Steps.refl _) (argsL := []) (rest := []) (lenOf pd___Z rfl) rfl (by show 2 * 0 + _ ≤ _; exact Nat.le_of_eq rfl) (hb hby at_95) (fun _ _ => ⟨rfl, e174, (by decide : 1 + 0 ≤ _), (by decide : 12 + 0 ≤ _)⟩)
    dsimp only [Pt.U, Pt.locs, Pt.cells, Pt.slots] at X282 l282 y282 z282 st282 hQ282
    subst l282 y282 z282
    obtain ⟨rfl, N282q, s282⟩ := hQ282
    have N282 := Fr.app N174 N282q
    have pp283 : ∀ t, Steps p.tables e below (T282.setTop (mkF m 98 #[.val (.int p1), .val (.ref b102), .val (.ref z10), .unset, .unset, .unset] [(.int (own_or z10 z0 z3))])) t → Steps p.tables e below (s₁.setTop (entryFrame m #[(.int p1)] maxLocals)) t := fun t k => pp281 t (st282.trans k)
    rw [own_or3 ne10_0 ne10_3] at pp283
    have pp284 : ∀ t, Steps p.tables e below (T282.setTop (mkF m 100 #[.val (.int p1), .val (.ref b102), .val (.ref z10), .val (.int (0 : Int32)), .unset, .unset] [(.ref z10)])) t → Steps p.tables e below (s₁.setTop (entryFrame m #[(.int p1)] maxLocals)) t := fun t k => pp283 t (by
      refine XS.istoreN X282.here hx rfl (hb hby at_98) rfl (l' := #[.val (.int p1), .val (.ref b102), .val (.ref z10), .val (.int (0 : Int32)), .unset, .unset]) rfl ?_
      show Steps p.tables e below (T282.setTop (mkF m 99 #[.val (.int p1), .val (.ref b102), .val (.ref z10), .val (.int (0 : Int32)), .unset, .unset] [])) _
      refine XS.aloadN X282.here hx rfl (hb hby at_99) rfl rfl ?_
      show Steps p.tables e below (T282.setTop (mkF m 100 #[.val (.int p1), .val (.ref b102), .val (.ref z10), .val (.int (0 : Int32)), .unset, .unset] [(.ref z10)])) _
      exact k)
    obtain ⟨cq285, kq285, q285a, q285b, q285c⟩ := isOf hZ s282 E10'
    obtain ⟨_, _, ⟨T285, L285, k285, n285⟩, -, X285, ⟨Lc285, hQ285, l285, y285, z285⟩, st285⟩ := X282.virtualBack hx (y := (⟨"com/example/pairwright/pairwright/model/Result", "code", "()C"⟩ : MethodName)) (z := (⟨"com/example/pairwright/pairwright/model/Result", "code", "()C"⟩ : MethodName)) hown (mvT hZ (hw _ (List.mem_of_getElem? (i := 35) rfl))) (mvT hZ (hw _ (List.mem_of_getElem? (i := 36) rfl))) (notFace_of_selects (args := #[]) (mvT hZ (hw _ (List.mem_of_getElem? (i := 38) rfl)))) (mvT hZ (hw _ (List.mem_of_getElem? (i := 38) rfl))) (mvT hZ (hw _ (List.mem_of_getElem? (i := 37) rfl))) (by decide) (backOf (W := 0) (own_code l Z a0 hw [] z10 (85 : Int32) h174 n0 Zn C10') hZ (hw _ (List.mem_of_getElem? (i := 39) rfl)) (hw _ (List.mem_of_getElem? (i := 3) rfl)) (by decide) (by decide)) q285a q285c (g := (mkF m 100 #[.val (.int p1), .val (.ref b102), .val (.ref z10), .val (.int (0 : Int32)), .unset, .unset] [(.ref z10)])) rfl (by rw [hml]; rfl) (Steps.refl _) (argsL := []) (rest := []) (lenOf pd___C rfl) rfl (by show 2 * 0 + _ ≤ _; exact Nat.le_of_eq rfl) (hb hby at_100) (fun _ _ => ⟨rfl, s282, (by decide : 1 + 0 ≤ _), (by decide : 12 + 0 ≤ _)⟩)
    dsimp only [Pt.U, Pt.locs, Pt.cells, Pt.slots] at X285 l285 y285 z285 st285 hQ285
    subst l285 y285 z285
    obtain ⟨rfl, N285q, s285⟩ := hQ285
    have N285 := Fr.app N282 N285q
    have pp286 : ∀ t, Steps p.tables e below (T285.setTop (mkF m 103 #[.val (.int p1), .val (.ref b102), .val (.ref z10), .val (.int (0 : Int32)), .unset, .unset] [(.int (nar .char (85 : Int32)))])) t → Steps p.tables e below (s₁.setTop (entryFrame m #[(.int p1)] maxLocals)) t := fun t k => pp284 t (st285.trans k)
    rw [show nar .char (85 : Int32) = (85 : Int32) from by decide] at pp286
    have pp287 : ∀ t, Steps p.tables e below (T285.setTop (mkF m 155 #[.val (.int p1), .val (.ref b102), .val (.ref z10), .val (.int (0 : Int32)), .val (.int (85 : Int32)), .val (.int (0 : Int32))] [(.int (1 : Int32))])) t → Steps p.tables e below (s₁.setTop (entryFrame m #[(.int p1)] maxLocals)) t := fun t k => pp286 t (by
      refine XS.istore X285.here hx rfl (hb hby at_103) rfl (l' := #[.val (.int p1), .val (.ref b102), .val (.ref z10), .val (.int (0 : Int32)), .val (.int (85 : Int32)), .unset]) rfl ?_
      show Steps p.tables e below (T285.setTop (mkF m 105 #[.val (.int p1), .val (.ref b102), .val (.ref z10), .val (.int (0 : Int32)), .val (.int (85 : Int32)), .unset] [])) _
      refine XS.iload X285.here hx rfl (hb hby at_105) rfl ?_
      show Steps p.tables e below (T285.setTop (mkF m 107 #[.val (.int p1), .val (.ref b102), .val (.ref z10), .val (.int (0 : Int32)), .val (.int (85 : Int32)), .unset] [(.int (85 : Int32))])) _
      refine XS.bipush X285.here hx rfl (hb hby at_107) ?_
      show Steps p.tables e below (T285.setTop (mkF m 109 #[.val (.int p1), .val (.ref b102), .val (.ref z10), .val (.int (0 : Int32)), .val (.int (85 : Int32)), .unset] [(.int (49 : Int32)), (.int (85 : Int32))])) _
      refine XS.icmpNo X285.here hx rfl (hb hby at_109) rfl (feq (by decide : ¬ ((85 : Int32) = (49 : Int32)))).1 ?_
      show Steps p.tables e below (T285.setTop (mkF m 112 #[.val (.int p1), .val (.ref b102), .val (.ref z10), .val (.int (0 : Int32)), .val (.int (85 : Int32)), .unset] [])) _
      refine XS.iload X285.here hx rfl (hb hby at_112) rfl ?_
      show Steps p.tables e below (T285.setTop (mkF m 114 #[.val (.int p1), .val (.ref b102), .val (.ref z10), .val (.int (0 : Int32)), .val (.int (85 : Int32)), .unset] [(.int (85 : Int32))])) _
      refine XS.bipush X285.here hx rfl (hb hby at_114) ?_
      show Steps p.tables e below (T285.setTop (mkF m 116 #[.val (.int p1), .val (.ref b102), .val (.ref z10), .val (.int (0 : Int32)), .val (.int (85 : Int32)), .unset] [(.int (87 : Int32)), (.int (85 : Int32))])) _
      refine XS.icmpYes X285.here hx rfl (pc0 := 116) (pc' := 123) rfl (hb hby at_116) rfl (feq (by decide : ¬ ((85 : Int32) = (87 : Int32)))).2 (by decide) (by decide) ?_
      show Steps p.tables e below (T285.setTop (mkF m 123 #[.val (.int p1), .val (.ref b102), .val (.ref z10), .val (.int (0 : Int32)), .val (.int (85 : Int32)), .unset] [])) _
      refine XS.iconst X285.here hx rfl (hb hby at_123) ?_
      show Steps p.tables e below (T285.setTop (mkF m 124 #[.val (.int p1), .val (.ref b102), .val (.ref z10), .val (.int (0 : Int32)), .val (.int (85 : Int32)), .unset] [(.int (0 : Int32))])) _
      refine XS.istore X285.here hx rfl (hb hby at_124) rfl (l' := #[.val (.int p1), .val (.ref b102), .val (.ref z10), .val (.int (0 : Int32)), .val (.int (85 : Int32)), .val (.int (0 : Int32))]) rfl ?_
      show Steps p.tables e below (T285.setTop (mkF m 126 #[.val (.int p1), .val (.ref b102), .val (.ref z10), .val (.int (0 : Int32)), .val (.int (85 : Int32)), .val (.int (0 : Int32))] [])) _
      refine XS.iloadN X285.here hx rfl (hb hby at_126) rfl ?_
      show Steps p.tables e below (T285.setTop (mkF m 127 #[.val (.int p1), .val (.ref b102), .val (.ref z10), .val (.int (0 : Int32)), .val (.int (85 : Int32)), .val (.int (0 : Int32))] [(.int (0 : Int32))])) _
      refine XS.iload X285.here hx rfl (hb hby at_127) rfl ?_
      show Steps p.tables e below (T285.setTop (mkF m 129 #[.val (.int p1), .val (.ref b102), .val (.ref z10), .val (.int (0 : Int32)), .val (.int (85 : Int32)), .val (.int (0 : Int32))] [(.int (0 : Int32)), (.int (0 : Int32))])) _
      refine XS.icmpYes X285.here hx rfl (pc0 := 129) (pc' := 134) rfl (hb hby at_129) rfl (teq (by decide : (0 : Int32) = (0 : Int32))).1 (by decide) (by decide) ?_
      show Steps p.tables e below (T285.setTop (mkF m 134 #[.val (.int p1), .val (.ref b102), .val (.ref z10), .val (.int (0 : Int32)), .val (.int (85 : Int32)), .val (.int (0 : Int32))] [])) _
      refine XS.iloadN X285.here hx rfl (hb hby at_134) rfl ?_
      show Steps p.tables e below (T285.setTop (mkF m 135 #[.val (.int p1), .val (.ref b102), .val (.ref z10), .val (.int (0 : Int32)), .val (.int (85 : Int32)), .val (.int (0 : Int32))] [(.int (0 : Int32))])) _
      refine XS.ifYes X285.here hx rfl (pc0 := 135) (pc' := 154) rfl (hb hby at_135) rfl ((if0 _ _).trans (teq (by decide : (0 : Int32) = (0 : Int32))).1) (by decide) (by decide) ?_
      show Steps p.tables e below (T285.setTop (mkF m 154 #[.val (.int p1), .val (.ref b102), .val (.ref z10), .val (.int (0 : Int32)), .val (.int (85 : Int32)), .val (.int (0 : Int32))] [])) _
      refine XS.iconst X285.here hx rfl (hb hby at_154) ?_
      show Steps p.tables e below (T285.setTop (mkF m 155 #[.val (.int p1), .val (.ref b102), .val (.ref z10), .val (.int (0 : Int32)), .val (.int (85 : Int32)), .val (.int (0 : Int32))] [(.int (1 : Int32))])) _
      exact k)
    obtain ⟨fs, hr, hrun, hended, hW, hsame⟩ := X285.leave (v := some (.int (1 : Int32))) (fun h => by rw [Bd.returns] at h; cases h)
    refine ⟨_, _, pp287 _ ?_, hrun, hended, _, _, rfl, ?_, ⟨_, rfl⟩, hW, hsame.mono (by decide) (by decide)⟩
    · exact retN X285 hx (t := .boolean) Bd.returns (by simp) (hb hby at_155) hr
    · show Q_own_law Z p1 z0 z1 z2 z3 z4 z5 z6 z7 z8 z9 z10 z11 h0 n0 _ T285.heap _
      rw [s285]
      exact ⟨rfl, N285⟩
  · obtain ⟨cl288, Ar288, q288, S288, N288', H288, G288⟩ := id V_b102_174
    have hin288 : ¬ ((11 : Int32) < 0 ∨ cl288.slots.size ≤ ((11 : Int32)).toNatClampNeg) := inb_of S288 ⟨by decide, by decide⟩
    have hat288 : cl288.slots[((11 : Int32)).toNatClampNeg]? = some (.ref z11) := H288 _ (Nat.lt_of_not_le fun q => hin288 (Or.inr q))
    have pp289 : ∀ t, Steps p.tables e below (T174.setTop (mkF m 93 #[.val (.int p1), .val (.ref b102), .unset, .unset, .unset, .unset] [(.ref z11)])) t → Steps p.tables e below (s₁.setTop (entryFrame m #[(.int p1)] maxLocals)) t := fun t k => pp176 t (X174.aaload hx (j := (11 : Int32)) (v := (.ref z11)) (by rw [e174]; exact Ar288.1) (State.isArrayOf_alike hZ.alike Ar288.2.1) rfl Ar288.2.2 hin288 hat288 (g := (mkF m 92 #[.val (.int p1), .val (.ref b102), .unset, .unset, .unset, .unset] [(.int (11 : Int32)), (.ref b102)])) rfl rfl (hb hby at_92) _ k)
    have pp290 : ∀ t, Steps p.tables e below (T174.setTop (mkF m 95 #[.val (.int p1), .val (.ref b102), .val (.ref z11), .unset, .unset, .unset] [(.ref z11)])) t → Steps p.tables e below (s₁.setTop (entryFrame m #[(.int p1)] maxLocals)) t := fun t k => pp289 t (by
      refine XS.astoreN X174.here hx rfl (hb hby at_93) rfl rfl (l' := #[.val (.int p1), .val (.ref b102), .val (.ref z11), .unset, .unset, .unset]) rfl ?_
      show Steps p.tables e below (T174.setTop (mkF m 94 #[.val (.int p1), .val (.ref b102), .val (.ref z11), .unset, .unset, .unset] [])) _
      refine XS.aloadN X174.here hx rfl (hb hby at_94) rfl rfl ?_
      show Steps p.tables e below (T174.setTop (mkF m 95 #[.val (.int p1), .val (.ref b102), .val (.ref z11), .unset, .unset, .unset] [(.ref z11)])) _
      exact k)
    obtain ⟨cq291, kq291, q291a, q291b, q291c⟩ := isOf hZ e174 E11'
    obtain ⟨_, _, ⟨T291, L291, k291, n291⟩, -, X291, ⟨Lc291, hQ291, l291, y291, z291⟩, st291⟩ := X174.virtualBack hx (y := (⟨"com/example/pairwright/pairwright/model/Result", "won", "()Z"⟩ : MethodName)) (z := (⟨"com/example/pairwright/pairwright/model/Result", "won", "()Z"⟩ : MethodName)) hown (mvT hZ (hw _ (List.mem_of_getElem? (i := 29) rfl))) (mvT hZ (hw _ (List.mem_of_getElem? (i := 30) rfl))) (notFace_of_selects (args := #[]) (mvT hZ (hw _ (List.mem_of_getElem? (i := 32) rfl)))) (mvT hZ (hw _ (List.mem_of_getElem? (i := 32) rfl))) (mvT hZ (hw _ (List.mem_of_getElem? (i := 31) rfl))) (by decide) (backOf (W := 0) (own_won l Z a0 hw [] z11 z0 z3 h174 n0 Zn S0' S3') hZ (hw _ (List.mem_of_getElem? (i := 33) rfl)) (hw _ (List.mem_of_getElem? (i := 3) rfl)) (by decide) (by decide)) q291a q291c (g := (mkF m 95 #[.val (.int p1), .val (.ref b102), .val (.ref z11), .unset, .unset, .unset] [(.ref z11)])) rfl (by rw [hml]; rfl) (Steps.refl _) (argsL := []) (rest := []) (lenOf pd___Z rfl) rfl (by show 2 * 0 + _ ≤ _; exact Nat.le_of_eq rfl) (hb hby at_95) (fun _ _ => ⟨rfl, e174, (by decide : 1 + 0 ≤ _), (by decide : 12 + 0 ≤ _)⟩)
    dsimp only [Pt.U, Pt.locs, Pt.cells, Pt.slots] at X291 l291 y291 z291 st291 hQ291
    subst l291 y291 z291
    obtain ⟨rfl, N291q, s291⟩ := hQ291
    have N291 := Fr.app N174 N291q
    have pp292 : ∀ t, Steps p.tables e below (T291.setTop (mkF m 98 #[.val (.int p1), .val (.ref b102), .val (.ref z11), .unset, .unset, .unset] [(.int (own_or z11 z0 z3))])) t → Steps p.tables e below (s₁.setTop (entryFrame m #[(.int p1)] maxLocals)) t := fun t k => pp290 t (st291.trans k)
    rw [own_or3 ne11_0 ne11_3] at pp292
    have pp293 : ∀ t, Steps p.tables e below (T291.setTop (mkF m 100 #[.val (.int p1), .val (.ref b102), .val (.ref z11), .val (.int (0 : Int32)), .unset, .unset] [(.ref z11)])) t → Steps p.tables e below (s₁.setTop (entryFrame m #[(.int p1)] maxLocals)) t := fun t k => pp292 t (by
      refine XS.istoreN X291.here hx rfl (hb hby at_98) rfl (l' := #[.val (.int p1), .val (.ref b102), .val (.ref z11), .val (.int (0 : Int32)), .unset, .unset]) rfl ?_
      show Steps p.tables e below (T291.setTop (mkF m 99 #[.val (.int p1), .val (.ref b102), .val (.ref z11), .val (.int (0 : Int32)), .unset, .unset] [])) _
      refine XS.aloadN X291.here hx rfl (hb hby at_99) rfl rfl ?_
      show Steps p.tables e below (T291.setTop (mkF m 100 #[.val (.int p1), .val (.ref b102), .val (.ref z11), .val (.int (0 : Int32)), .unset, .unset] [(.ref z11)])) _
      exact k)
    obtain ⟨cq294, kq294, q294a, q294b, q294c⟩ := isOf hZ s291 E11'
    obtain ⟨_, _, ⟨T294, L294, k294, n294⟩, -, X294, ⟨Lc294, hQ294, l294, y294, z294⟩, st294⟩ := X291.virtualBack hx (y := (⟨"com/example/pairwright/pairwright/model/Result", "code", "()C"⟩ : MethodName)) (z := (⟨"com/example/pairwright/pairwright/model/Result", "code", "()C"⟩ : MethodName)) hown (mvT hZ (hw _ (List.mem_of_getElem? (i := 35) rfl))) (mvT hZ (hw _ (List.mem_of_getElem? (i := 36) rfl))) (notFace_of_selects (args := #[]) (mvT hZ (hw _ (List.mem_of_getElem? (i := 38) rfl)))) (mvT hZ (hw _ (List.mem_of_getElem? (i := 38) rfl))) (mvT hZ (hw _ (List.mem_of_getElem? (i := 37) rfl))) (by decide) (backOf (W := 0) (own_code l Z a0 hw [] z11 (90 : Int32) h174 n0 Zn C11') hZ (hw _ (List.mem_of_getElem? (i := 39) rfl)) (hw _ (List.mem_of_getElem? (i := 3) rfl)) (by decide) (by decide)) q294a q294c (g := (mkF m 100 #[.val (.int p1), .val (.ref b102), .val (.ref z11), .val (.int (0 : Int32)), .unset, .unset] [(.ref z11)])) rfl (by rw [hml]; rfl) (Steps.refl _) (argsL := []) (rest := []) (lenOf pd___C rfl) rfl (by show 2 * 0 + _ ≤ _; exact Nat.le_of_eq rfl) (hb hby at_100) (fun _ _ => ⟨rfl, s291, (by decide : 1 + 0 ≤ _), (by decide : 12 + 0 ≤ _)⟩)
    dsimp only [Pt.U, Pt.locs, Pt.cells, Pt.slots] at X294 l294 y294 z294 st294 hQ294
    subst l294 y294 z294
    obtain ⟨rfl, N294q, s294⟩ := hQ294
    have N294 := Fr.app N291 N294q
    have pp295 : ∀ t, Steps p.tables e below (T294.setTop (mkF m 103 #[.val (.int p1), .val (.ref b102), .val (.ref z11), .val (.int (0 : Int32)), .unset, .unset] [(.int (nar .char (90 : Int32)))])) t → Steps p.tables e below (s₁.setTop (entryFrame m #[(.int p1)] maxLocals)) t := fun t k => pp293 t (st294.trans k)
    rw [show nar .char (90 : Int32) = (90 : Int32) from by decide] at pp295
    have pp296 : ∀ t, Steps p.tables e below (T294.setTop (mkF m 155 #[.val (.int p1), .val (.ref b102), .val (.ref z11), .val (.int (0 : Int32)), .val (.int (90 : Int32)), .val (.int (0 : Int32))] [(.int (1 : Int32))])) t → Steps p.tables e below (s₁.setTop (entryFrame m #[(.int p1)] maxLocals)) t := fun t k => pp295 t (by
      refine XS.istore X294.here hx rfl (hb hby at_103) rfl (l' := #[.val (.int p1), .val (.ref b102), .val (.ref z11), .val (.int (0 : Int32)), .val (.int (90 : Int32)), .unset]) rfl ?_
      show Steps p.tables e below (T294.setTop (mkF m 105 #[.val (.int p1), .val (.ref b102), .val (.ref z11), .val (.int (0 : Int32)), .val (.int (90 : Int32)), .unset] [])) _
      refine XS.iload X294.here hx rfl (hb hby at_105) rfl ?_
      show Steps p.tables e below (T294.setTop (mkF m 107 #[.val (.int p1), .val (.ref b102), .val (.ref z11), .val (.int (0 : Int32)), .val (.int (90 : Int32)), .unset] [(.int (90 : Int32))])) _
      refine XS.bipush X294.here hx rfl (hb hby at_107) ?_
      show Steps p.tables e below (T294.setTop (mkF m 109 #[.val (.int p1), .val (.ref b102), .val (.ref z11), .val (.int (0 : Int32)), .val (.int (90 : Int32)), .unset] [(.int (49 : Int32)), (.int (90 : Int32))])) _
      refine XS.icmpNo X294.here hx rfl (hb hby at_109) rfl (feq (by decide : ¬ ((90 : Int32) = (49 : Int32)))).1 ?_
      show Steps p.tables e below (T294.setTop (mkF m 112 #[.val (.int p1), .val (.ref b102), .val (.ref z11), .val (.int (0 : Int32)), .val (.int (90 : Int32)), .unset] [])) _
      refine XS.iload X294.here hx rfl (hb hby at_112) rfl ?_
      show Steps p.tables e below (T294.setTop (mkF m 114 #[.val (.int p1), .val (.ref b102), .val (.ref z11), .val (.int (0 : Int32)), .val (.int (90 : Int32)), .unset] [(.int (90 : Int32))])) _
      refine XS.bipush X294.here hx rfl (hb hby at_114) ?_
      show Steps p.tables e below (T294.setTop (mkF m 116 #[.val (.int p1), .val (.ref b102), .val (.ref z11), .val (.int (0 : Int32)), .val (.int (90 : Int32)), .unset] [(.int (87 : Int32)), (.int (90 : Int32))])) _
      refine XS.icmpYes X294.here hx rfl (pc0 := 116) (pc' := 123) rfl (hb hby at_116) rfl (feq (by decide : ¬ ((90 : Int32) = (87 : Int32)))).2 (by decide) (by decide) ?_
      show Steps p.tables e below (T294.setTop (mkF m 123 #[.val (.int p1), .val (.ref b102), .val (.ref z11), .val (.int (0 : Int32)), .val (.int (90 : Int32)), .unset] [])) _
      refine XS.iconst X294.here hx rfl (hb hby at_123) ?_
      show Steps p.tables e below (T294.setTop (mkF m 124 #[.val (.int p1), .val (.ref b102), .val (.ref z11), .val (.int (0 : Int32)), .val (.int (90 : Int32)), .unset] [(.int (0 : Int32))])) _
      refine XS.istore X294.here hx rfl (hb hby at_124) rfl (l' := #[.val (.int p1), .val (.ref b102), .val (.ref z11), .val (.int (0 : Int32)), .val (.int (90 : Int32)), .val (.int (0 : Int32))]) rfl ?_
      show Steps p.tables e below (T294.setTop (mkF m 126 #[.val (.int p1), .val (.ref b102), .val (.ref z11), .val (.int (0 : Int32)), .val (.int (90 : Int32)), .val (.int (0 : Int32))] [])) _
      refine XS.iloadN X294.here hx rfl (hb hby at_126) rfl ?_
      show Steps p.tables e below (T294.setTop (mkF m 127 #[.val (.int p1), .val (.ref b102), .val (.ref z11), .val (.int (0 : Int32)), .val (.int (90 : Int32)), .val (.int (0 : Int32))] [(.int (0 : Int32))])) _
      refine XS.iload X294.here hx rfl (hb hby at_127) rfl ?_
      show Steps p.tables e below (T294.setTop (mkF m 129 #[.val (.int p1), .val (.ref b102), .val (.ref z11), .val (.int (0 : Int32)), .val (.int (90 : Int32)), .val (.int (0 : Int32))] [(.int (0 : Int32)), (.int (0 : Int32))])) _
      refine XS.icmpYes X294.here hx rfl (pc0 := 129) (pc' := 134) rfl (hb hby at_129) rfl (teq (by decide : (0 : Int32) = (0 : Int32))).1 (by decide) (by decide) ?_
      show Steps p.tables e below (T294.setTop (mkF m 134 #[.val (.int p1), .val (.ref b102), .val (.ref z11), .val (.int (0 : Int32)), .val (.int (90 : Int32)), .val (.int (0 : Int32))] [])) _
      refine XS.iloadN X294.here hx rfl (hb hby at_134) rfl ?_
      show Steps p.tables e below (T294.setTop (mkF m 135 #[.val (.int p1), .val (.ref b102), .val (.ref z11), .val (.int (0 : Int32)), .val (.int (90 : Int32)), .val (.int (0 : Int32))] [(.int (0 : Int32))])) _
      refine XS.ifYes X294.here hx rfl (pc0 := 135) (pc' := 154) rfl (hb hby at_135) rfl ((if0 _ _).trans (teq (by decide : (0 : Int32) = (0 : Int32))).1) (by decide) (by decide) ?_
      show Steps p.tables e below (T294.setTop (mkF m 154 #[.val (.int p1), .val (.ref b102), .val (.ref z11), .val (.int (0 : Int32)), .val (.int (90 : Int32)), .val (.int (0 : Int32))] [])) _
      refine XS.iconst X294.here hx rfl (hb hby at_154) ?_
      show Steps p.tables e below (T294.setTop (mkF m 155 #[.val (.int p1), .val (.ref b102), .val (.ref z11), .val (.int (0 : Int32)), .val (.int (90 : Int32)), .val (.int (0 : Int32))] [(.int (1 : Int32))])) _
      exact k)
    obtain ⟨fs, hr, hrun, hended, hW, hsame⟩ := X294.leave (v := some (.int (1 : Int32))) (fun h => by rw [Bd.returns] at h; cases h)
    refine ⟨_, _, pp296 _ ?_, hrun, hended, _, _, rfl, ?_, ⟨_, rfl⟩, hW, hsame.mono (by decide) (by decide)⟩
    · exact retN X294 hx (t := .boolean) Bd.returns (by simp) (hb hby at_155) hr
    · show Q_own_law Z p1 z0 z1 z2 z3 z4 z5 z6 z7 z8 z9 z10 z11 h0 n0 _ T294.heap _
      rw [s294]
      exact ⟨rfl, N294⟩
set_option maxRecDepth 65536 in
set_option maxHeartbeats 40000000 in
theorem comes_1 {Post : Tables → Env → Array Value → State → Outcome → State → Prop} (hpost : ∀ tb e args s v u, (limb_1_1.after args s (.returned v) u = true ∧ limb_1_2.after args s (.returned v) u = true ∧ True) → FrameEnd s (.returned v) u (Jvm.fieldLocs frame_1_writes args s ++ Jvm.arrayLocs frame_1_arrays args s ++ Jvm.staticLocs frame_1_statics s) 16 128 → Post tb e args s (.returned v) u) :
    ArmFor flags0 classFile x code maxLocals ret World_1 tables_1 room_1 Calls_1 rest_1 Pre_1 Post := by
  intro l hfl _ _ p e ha hc hk s m args below hf hA hF happ hP
  obtain ⟨hcalls, hrest, hpre⟩ := hP
  obtain ⟨-, -, -, hnamed, -, -, -, hat⟩ := (Spec.applies_iff hf).mp happ
  obtain ⟨hg, hn⟩ := and_e (Cond.before_iff.mp (show (Jvm.Cond.and given_1 narrow_1).before args s = true from hpre))
  obtain ⟨gg1, gg2⟩ := and_e hg
  obtain ⟨w0, rfl⟩ : ∃ w0 : Value, args = #[w0] := by
    have hs : args.size = 1 := by simpa [Cond.value, given_1] using gg1
    obtain ⟨L⟩ := args
    match L, hs with
    | [w0], _ => exact ⟨w0, rfl⟩
  have hw := fun d (hd : d ∈ tables_1) => atoms_spec (ws := Jvm.Cond.code x code maxLocals ret :: tables_1) hat d (List.mem_cons_of_mem _ hd)
  have hfit : Fit s := fun {y c} hc i hi => by
    obtain ⟨ha, rfl⟩ := Array.getElem?_eq_some_iff.mp hc
    have q := List.all_eq_true.mp ((Array.all_eq_true_iff_forall_mem.mp hF) _ (Array.getElem_mem ha)) i (List.mem_range.mpr hi)
    simpa [Array.getElem?_eq_getElem hi] using q
  obtain ⟨i0, ei0⟩ := is_v gg2
  obtain rfl : w0 = (.int i0) := Option.some.inj ei0
  obtain ⟨k0, r0⟩ := and_e hn
  obtain ⟨k1, r1⟩ := and_e r0
  obtain ⟨k2, r2⟩ := and_e r1
  obtain ⟨k3, r3⟩ := and_e r2
  obtain ⟨k4, r4⟩ := and_e r3
  obtain ⟨k5, r5⟩ := and_e r4
  obtain ⟨k6, r6⟩ := and_e r5
  obtain ⟨k7, r7⟩ := and_e r6
  obtain ⟨k8, r8⟩ := and_e r7
  obtain ⟨k9, r9⟩ := and_e r8
  obtain ⟨k10, r10⟩ := and_e r9
  obtain ⟨k11, r11⟩ := and_e r10
  obtain ⟨k12, r12⟩ := and_e r11
  obtain ⟨k13, r13⟩ := and_e r12
  obtain ⟨k14, r14⟩ := and_e r13
  obtain ⟨k15, r15⟩ := and_e r14
  obtain ⟨k16, r16⟩ := and_e r15
  obtain ⟨k17, r17⟩ := and_e r16
  obtain ⟨k18, r18⟩ := and_e r17
  obtain ⟨k19, r19⟩ := and_e r18
  obtain ⟨k20, r20⟩ := and_e r19
  obtain ⟨k21, r21⟩ := and_e r20
  obtain ⟨k22, r22⟩ := and_e r21
  obtain ⟨k23, r23⟩ := and_e r22
  obtain ⟨k24, r24⟩ := and_e r23
  obtain ⟨k25, r25⟩ := and_e r24
  obtain ⟨k26, r26⟩ := and_e r25
  obtain ⟨k27, r27⟩ := and_e r26
  obtain ⟨k28, r28⟩ := and_e r27
  obtain ⟨k29, r29⟩ := and_e r28
  obtain ⟨k30, r30⟩ := and_e r29
  obtain ⟨k31, r31⟩ := and_e r30
  obtain ⟨k32, r32⟩ := and_e r31
  obtain ⟨k33, r33⟩ := and_e r32
  obtain ⟨k34, r34⟩ := and_e r33
  obtain ⟨k35, r35⟩ := and_e r34
  obtain ⟨k36, r36⟩ := and_e r35
  obtain ⟨k37, r37⟩ := and_e r36
  obtain ⟨k38, r38⟩ := and_e r37
  obtain ⟨k39, r39⟩ := and_e r38
  obtain ⟨k40, r40⟩ := and_e r39
  obtain ⟨k41, r41⟩ := and_e r40
  obtain ⟨k42, r42⟩ := and_e r41
  obtain ⟨k43, r43⟩ := and_e r42
  obtain ⟨k44, r44⟩ := and_e r43
  obtain ⟨k45, r45⟩ := and_e r44
  obtain ⟨k46, r46⟩ := and_e r45
  obtain ⟨z0, ez0⟩ := exa_v k0
  have S0 := Sta.start ez0 (Or.inr ⟨(hw _ (List.mem_of_getElem? (i := 3) rfl)), (hw _ (List.mem_of_getElem? (i := 4) rfl))⟩)
  have E0 := Exa.start ez0 k0
  have C0 := Fld.start ((fld_at ez0).symm.trans (own_eqint k12))
  have P0 := Fld.start ((fld_at ez0).symm.trans (own_eqint k13))
  obtain ⟨z1, ez1⟩ := exa_v k1
  have S1 := Sta.start ez1 (Or.inr ⟨(hw _ (List.mem_of_getElem? (i := 3) rfl)), (hw _ (List.mem_of_getElem? (i := 7) rfl))⟩)
  have E1 := Exa.start ez1 k1
  have C1 := Fld.start ((fld_at ez1).symm.trans (own_eqint k29))
  have P1 := Fld.start ((fld_at ez1).symm.trans (own_eqint k38))
  obtain ⟨z2, ez2⟩ := exa_v k2
  have S2 := Sta.start ez2 (Or.inr ⟨(hw _ (List.mem_of_getElem? (i := 3) rfl)), (hw _ (List.mem_of_getElem? (i := 9) rfl))⟩)
  have E2 := Exa.start ez2 k2
  have C2 := Fld.start ((fld_at ez2).symm.trans (own_eqint k21))
  have P2 := Fld.start ((fld_at ez2).symm.trans (own_eqint k39))
  obtain ⟨z3, ez3⟩ := exa_v k3
  have S3 := Sta.start ez3 (Or.inr ⟨(hw _ (List.mem_of_getElem? (i := 3) rfl)), (hw _ (List.mem_of_getElem? (i := 11) rfl))⟩)
  have E3 := Exa.start ez3 k3
  have C3 := Fld.start ((fld_at ez3).symm.trans (own_eqint k18))
  have P3 := Fld.start ((fld_at ez3).symm.trans (own_eqint k19))
  obtain ⟨z4, ez4⟩ := exa_v k4
  have S4 := Sta.start ez4 (Or.inr ⟨(hw _ (List.mem_of_getElem? (i := 3) rfl)), (hw _ (List.mem_of_getElem? (i := 13) rfl))⟩)
  have E4 := Exa.start ez4 k4
  have C4 := Fld.start ((fld_at ez4).symm.trans (own_eqint k26))
  have P4 := Fld.start ((fld_at ez4).symm.trans (own_eqint k40))
  obtain ⟨z5, ez5⟩ := exa_v k5
  have S5 := Sta.start ez5 (Or.inr ⟨(hw _ (List.mem_of_getElem? (i := 3) rfl)), (hw _ (List.mem_of_getElem? (i := 15) rfl))⟩)
  have E5 := Exa.start ez5 k5
  have C5 := Fld.start ((fld_at ez5).symm.trans (own_eqint k37))
  have P5 := Fld.start ((fld_at ez5).symm.trans (own_eqint k41))
  obtain ⟨z6, ez6⟩ := exa_v k6
  have S6 := Sta.start ez6 (Or.inr ⟨(hw _ (List.mem_of_getElem? (i := 3) rfl)), (hw _ (List.mem_of_getElem? (i := 17) rfl))⟩)
  have E6 := Exa.start ez6 k6
  have C6 := Fld.start ((fld_at ez6).symm.trans (own_eqint k35))
  have P6 := Fld.start ((fld_at ez6).symm.trans (own_eqint k42))
  obtain ⟨z7, ez7⟩ := exa_v k7
  have S7 := Sta.start ez7 (Or.inr ⟨(hw _ (List.mem_of_getElem? (i := 3) rfl)), (hw _ (List.mem_of_getElem? (i := 19) rfl))⟩)
  have E7 := Exa.start ez7 k7
  have C7 := Fld.start ((fld_at ez7).symm.trans (own_eqint k23))
  have P7 := Fld.start ((fld_at ez7).symm.trans (own_eqint k43))
  obtain ⟨z8, ez8⟩ := exa_v k8
  have S8 := Sta.start ez8 (Or.inr ⟨(hw _ (List.mem_of_getElem? (i := 3) rfl)), (hw _ (List.mem_of_getElem? (i := 21) rfl))⟩)
  have E8 := Exa.start ez8 k8
  have C8 := Fld.start ((fld_at ez8).symm.trans (own_eqint k28))
  have P8 := Fld.start ((fld_at ez8).symm.trans (own_eqint k44))
  obtain ⟨z9, ez9⟩ := exa_v k9
  have S9 := Sta.start ez9 (Or.inr ⟨(hw _ (List.mem_of_getElem? (i := 3) rfl)), (hw _ (List.mem_of_getElem? (i := 23) rfl))⟩)
  have E9 := Exa.start ez9 k9
  have C9 := Fld.start ((fld_at ez9).symm.trans (own_eqint k33))
  have P9 := Fld.start ((fld_at ez9).symm.trans (own_eqint k45))
  obtain ⟨z10, ez10⟩ := exa_v k10
  have S10 := Sta.start ez10 (Or.inr ⟨(hw _ (List.mem_of_getElem? (i := 3) rfl)), (hw _ (List.mem_of_getElem? (i := 25) rfl))⟩)
  have E10 := Exa.start ez10 k10
  have C10 := Fld.start ((fld_at ez10).symm.trans (own_eqint k31))
  have P10 := Fld.start ((fld_at ez10).symm.trans (own_eqint k46))
  obtain ⟨z11, ez11⟩ := exa_v k11
  have S11 := Sta.start ez11 (Or.inr ⟨(hw _ (List.mem_of_getElem? (i := 3) rfl)), (hw _ (List.mem_of_getElem? (i := 27) rfl))⟩)
  have E11 := Exa.start ez11 k11
  have C11 := Fld.start ((fld_at ez11).symm.trans (own_eqint k25))
  have P11 := Fld.start ((fld_at ez11).symm.trans (own_eqint r46))
  obtain ⟨n, o, h1, h2, h3, _, L, rfl, ⟨rfl, N⟩, hq⟩ := own_law l s _ hw tables_1 i0 z0 z1 z2 z3 z4 z5 z6 z7 z8 z9 z10 z11 s.heap s.heap.size (Nat.le_refl _) S0 E0 C0 P0 S1 E1 C1 P1 S2 E2 C2 P2 S3 E3 C3 P3 S4 E4 C4 P4 S5 E5 C5 P5 S6 E6 C6 P6 S7 E7 C7 P7 S8 E8 C8 P8 S9 E9 C9 P9 S10 E10 C10 P10 S11 E11 C11 P11 p e ha hc hk s m _ below hf ((Spec.applies_iff_loose hf).mp happ).1 ⟨rfl, State.Warmed39.refl s, rfl⟩ trivial
  refine ⟨n, _, h1, h2, h3, hpost _ _ _ _ _ _ ⟨Cond.after_iff.mpr rfl, Cond.after_iff.mpr (eq_i res_at (Term.int_eval (1)) rfl), trivial⟩ ⟨hq.1, hq.2.1, (hq.2.2.sift fun y hy => Or.inr (N y hy)).mono (by decide) (by decide)⟩⟩
theorem main_1_1 : Claimed_1_1 := comes_1 fun _ _ _ _ _ _ h hF => ⟨h.1, hF⟩
theorem main_1_2 : Claimed_1_2 := comes_1 fun _ _ _ _ _ _ h hF => ⟨h.2.1, hF⟩
end Jvm.Pilot.@@N@@
namespace Jvm.Pilot.@@N@@
open Jvm Jvm.ClassFile Sem Op Lib Jvm.Free Jvm.Stand Jvm.Pilot.@@N@@.Jvm.D
/-! MADE BY PROGRAM (witnessworld.py) out of the Statement's table words and the real class files: 13 classes; the members and pool entries that the words name. The judged class is class 1, her method 1. -/
namespace start1
open Jvm.ClassFile
def u (s : String) : CpInfo := .utf8 (stringToUtf16 s)
/-- a pool by its gaps: so many unusable entries, then the entry; so many at the end -/
def gap : Nat → List CpInfo → List CpInfo
  | 0, r => r
  | n + 1, r => .unusable :: gap n r
def poolList (es : List (Nat × CpInfo)) (last : Nat) : List CpInfo := es.foldr (fun e r => gap e.1 (e.2 :: r)) (gap last [])
def pool (es : List (Nat × CpInfo)) (last : Nat) : Array CpInfo := ⟨poolList es last⟩
def fileOf (pool : Array CpInfo) (this : Nat) (attrs : Array Attribute := #[]) (ms : Array MethodInfo := #[]) (fl : Nat := 33) (sup : Nat := 0) (ifs : Array Nat := #[]) (fds : Array FieldInfo := #[]) : ClassFile where
  minorVersion := 0
  majorVersion := 65
  constantPool := pool
  accessFlags := fl
  thisClass := this
  superClass := sup
  interfaces := ifs
  fields := fds
  methods := ms
  attributes := attrs
def plain (name : String) (sup : Option ClassId) : Class where
  name := name
  kind := .ordinary
  loader := none
  accessFlags := 33
  super := sup
  interfaces := #[]
  cf := none
  fields := #[]
  methods := #[]
  instanceTypes := #[]
  staticTypes := #[]
  resolved := #[]
  callSites := []
  init := .initialized
  statics := none
  mirror := none

def pool0 : Array CpInfo := pool [(5, u "<init>"), (0, u "()V"), (1, .class_ 10), (1, u "java/lang/Object")] 113

def k0m0 : Method := { name := "<init>", desc := "()V", sig := { parameters := [], returnType := none }, accessFlags := 1, code := none }
/-- java/lang/Object -/
def k0 : Class := { plain "java/lang/Object" none with
  accessFlags := 33
  interfaces := #[]
  cf := some (fileOf pool0 8 #[] #[{ accessFlags := 1, nameIndex := 5, descriptorIndex := 6, attributes := #[] }] 33 0 #[] #[])
  fields := #[]
  methods := #[k0m0]
  instanceTypes := #[]
  staticTypes := #[]
  resolved := Array.replicate 124 none
  statics := none }

def pool1 : Array CpInfo := pool [(2, .class_ 4), (1, u "java/lang/Object"), (0, u "<init>"), (0, u "()V"), (0, .class_ 8), (0, u "com/example/pairwright/pairwright/model/Result"), (0, .fieldref 7 10), (0, .nameAndType 11 12), (0, u "WIN"), (0, u "Lcom/example/pairwright/pairwright/model/Result;"), (0, .fieldref 7 14), (0, .nameAndType 15 12), (0, u "LOSS"), (0, .fieldref 7 17), (0, .nameAndType 18 12), (0, u "DRAW"), (0, .fieldref 7 20), (0, .nameAndType 21 12), (0, u "SHORT_WIN"), (0, .fieldref 7 23), (0, .nameAndType 24 12), (0, u "SHORT_LOSS"), (0, .fieldref 7 26), (0, .nameAndType 27 12), (0, u "SHORT_DRAW"), (0, .fieldref 7 29), (0, .nameAndType 30 12), (0, u "FORFEIT_WIN"), (0, .fieldref 7 32), (0, .nameAndType 33 12), (0, u "FORFEIT_LOSS"), (0, .fieldref 7 35), (0, .nameAndType 36 12), (0, u "HALF_POINT_BYE"), (0, .fieldref 7 38), (0, .nameAndType 39 12), (0, u "FULL_POINT_BYE"), (0, .fieldref 7 41), (0, .nameAndType 42 12), (0, u "PAIRING_ALLOCATED_BYE"), (0, .fieldref 7 44), (0, .nameAndType 45 12), (0, u "NOT_PAIRED"), (0, .integer 2147483647), (0, .methodref 7 48), (0, .nameAndType 49 50), (0, u "won"), (0, u "()Z"), (0, .methodref 7 52), (0, .nameAndType 53 54), (0, u "code"), (0, u "()C"), (0, .methodref 7 56), (0, .nameAndType 57 50), (0, u "played"), (0, .methodref 7 59), (0, .nameAndType 60 50), (0, u "lost"), (0, .class_ 62), (0, u "com/example/pairwright/pairwright/model/ResultWonPinLaw"), (2, u "law"), (0, u "(I)Z")] 5

def k1m0 : Method := { name := "<init>", desc := "()V", sig := { parameters := [], returnType := none }, accessFlags := 1, code := none }
def k1c1 : Code := { maxStack := 4, maxLocals := 6, code := code, exceptionTable := #[], attributes := #[] }
def k1m1 : Method := { name := "law", desc := "(I)Z", sig := { parameters := [.int], returnType := some .boolean }, accessFlags := 9, code := some k1c1 }
/-- com/example/pairwright/pairwright/model/ResultWonPinLaw -/
def k1 : Class := { plain "com/example/pairwright/pairwright/model/ResultWonPinLaw" (some 0) with
  accessFlags := 49
  interfaces := #[]
  cf := some (fileOf pool1 61 #[] #[{ accessFlags := 1, nameIndex := 5, descriptorIndex := 6, attributes := #[] }, { accessFlags := 9, nameIndex := 65, descriptorIndex := 66, attributes := #[] }] 49 2 #[] #[])
  fields := #[]
  methods := #[k1m0, k1m1]
  instanceTypes := #[]
  staticTypes := #[]
  resolved := Array.replicate 72 none
  statics := none }

def pool2 : Array CpInfo := pool [(1, .class_ 2), (0, u "java/lang/constant/Constable"), (0, .class_ 4), (0, u "java/lang/Object")] 6

/-- java/lang/constant/Constable -/
def k2 : Class := { plain "java/lang/constant/Constable" (some 0) with
  accessFlags := 1537
  interfaces := #[]
  cf := some (fileOf pool2 1 #[] #[] 1537 3 #[] #[])
  fields := #[]
  methods := #[]
  instanceTypes := #[]
  staticTypes := #[]
  resolved := Array.replicate 11 none
  statics := none }

def pool3 : Array CpInfo := pool [(1, .class_ 2), (0, u "java/lang/Comparable"), (0, .class_ 4), (0, u "java/lang/Object")] 7

/-- java/lang/Comparable -/
def k3 : Class := { plain "java/lang/Comparable" (some 0) with
  accessFlags := 1537
  interfaces := #[]
  cf := some (fileOf pool3 1 #[] #[] 1537 3 #[] #[])
  fields := #[]
  methods := #[]
  instanceTypes := #[]
  staticTypes := #[]
  resolved := Array.replicate 12 none
  statics := none }

def pool4 : Array CpInfo := pool [(1, .class_ 2), (0, u "java/io/Serializable"), (0, .class_ 4), (0, u "java/lang/Object")] 2

/-- java/io/Serializable -/
def k4 : Class := { plain "java/io/Serializable" (some 0) with
  accessFlags := 1537
  interfaces := #[]
  cf := some (fileOf pool4 1 #[] #[] 1537 3 #[] #[])
  fields := #[]
  methods := #[]
  instanceTypes := #[]
  staticTypes := #[]
  resolved := Array.replicate 7 none
  statics := none }

def pool5 : Array CpInfo := pool [(2, .class_ 4), (1, u "java/lang/Enum"), (0, u "name"), (0, u "Ljava/lang/String;"), (2, u "ordinal"), (0, u "I"), (1, .class_ 14), (1, u "java/lang/Object"), (4, u "hash"), (86, .class_ 108), (1, u "java/lang/Enum$EnumDesc"), (2, .class_ 112), (0, u "java/lang/constant/Constable"), (0, .class_ 114), (0, u "java/lang/Comparable"), (0, .class_ 116), (0, u "java/io/Serializable")] 87

/-- java/lang/Enum -/
def k5 : Class := { plain "java/lang/Enum" (some 0) with
  accessFlags := 1057
  interfaces := #[2, 3, 4]
  cf := some (fileOf pool5 2 #[.nestMembers #[106]] #[] 1057 12 #[111, 113, 115] #[{ accessFlags := 18, nameIndex := 5, descriptorIndex := 6, attributes := #[] }, { accessFlags := 18, nameIndex := 9, descriptorIndex := 10, attributes := #[] }, { accessFlags := 2, nameIndex := 19, descriptorIndex := 10, attributes := #[] }])
  fields := #[{ name := "name", type := (.object "java/lang/String"), accessFlags := 18, slot := 0, constantValue := 0 }, { name := "ordinal", type := .int, accessFlags := 18, slot := 1, constantValue := 0 }, { name := "hash", type := .int, accessFlags := 2, slot := 2, constantValue := 0 }]
  methods := #[]
  instanceTypes := #[(.object "java/lang/String"), .int, .int]
  staticTypes := #[]
  resolved := Array.replicate 204 none
  statics := none }

def pool6 : Array CpInfo := pool [(1, .class_ 2), (0, u "com/example/pairwright/pairwright/model/Result"), (0, .fieldref 1 4), (0, .nameAndType 5 6), (0, u "WIN"), (0, u "Lcom/example/pairwright/pairwright/model/Result;"), (0, .fieldref 1 8), (0, .nameAndType 9 6), (0, u "LOSS"), (2, u "DRAW"), (0, .fieldref 1 14), (0, .nameAndType 15 6), (0, u "SHORT_WIN"), (0, .fieldref 1 17), (0, .nameAndType 18 6), (0, u "SHORT_LOSS"), (2, u "SHORT_DRAW"), (2, u "FORFEIT_WIN"), (2, u "FORFEIT_LOSS"), (2, u "HALF_POINT_BYE"), (2, u "FULL_POINT_BYE"), (2, u "PAIRING_ALLOCATED_BYE"), (2, u "NOT_PAIRED"), (2, u "$VALUES"), (0, u "[Lcom/example/pairwright/pairwright/model/Result;"), (6, .class_ 52), (1, u "java/lang/Enum"), (6, .fieldref 1 60), (0, .nameAndType 61 62), (0, u "code"), (0, u "C"), (0, .fieldref 1 64), (0, .nameAndType 65 66), (0, u "played"), (0, u "Z"), (42, u "()C"), (0, u "()Z"), (0, u "won"), (0, u "lost")] 5

def k6c0 : Code := { maxStack := 1, maxLocals := 1, code := prog_38_method_5_code, exceptionTable := #[], attributes := #[] }
def k6m0 : Method := { name := "code", desc := "()C", sig := { parameters := [], returnType := some .char }, accessFlags := 1, code := some k6c0 }
def k6c1 : Code := { maxStack := 1, maxLocals := 1, code := prog_38_method_6_code, exceptionTable := #[], attributes := #[] }
def k6m1 : Method := { name := "played", desc := "()Z", sig := { parameters := [], returnType := some .boolean }, accessFlags := 1, code := some k6c1 }
def k6c2 : Code := { maxStack := 2, maxLocals := 1, code := prog_38_method_7_code, exceptionTable := #[], attributes := #[] }
def k6m2 : Method := { name := "won", desc := "()Z", sig := { parameters := [], returnType := some .boolean }, accessFlags := 1, code := some k6c2 }
def k6c3 : Code := { maxStack := 2, maxLocals := 1, code := prog_38_method_8_code, exceptionTable := #[], attributes := #[] }
def k6m3 : Method := { name := "lost", desc := "()Z", sig := { parameters := [], returnType := some .boolean }, accessFlags := 1, code := some k6c3 }
/-- com/example/pairwright/pairwright/model/Result -/
def k6 : Class := { plain "com/example/pairwright/pairwright/model/Result" (some 5) with
  accessFlags := 16433
  interfaces := #[]
  cf := some (fileOf pool6 1 #[] #[{ accessFlags := 1, nameIndex := 61, descriptorIndex := 109, attributes := #[] }, { accessFlags := 1, nameIndex := 65, descriptorIndex := 110, attributes := #[] }, { accessFlags := 1, nameIndex := 111, descriptorIndex := 110, attributes := #[] }, { accessFlags := 1, nameIndex := 112, descriptorIndex := 110, attributes := #[] }] 16433 50 #[] #[{ accessFlags := 16409, nameIndex := 5, descriptorIndex := 6, attributes := #[] }, { accessFlags := 16409, nameIndex := 9, descriptorIndex := 6, attributes := #[] }, { accessFlags := 16409, nameIndex := 12, descriptorIndex := 6, attributes := #[] }, { accessFlags := 16409, nameIndex := 15, descriptorIndex := 6, attributes := #[] }, { accessFlags := 16409, nameIndex := 18, descriptorIndex := 6, attributes := #[] }, { accessFlags := 16409, nameIndex := 21, descriptorIndex := 6, attributes := #[] }, { accessFlags := 16409, nameIndex := 24, descriptorIndex := 6, attributes := #[] }, { accessFlags := 16409, nameIndex := 27, descriptorIndex := 6, attributes := #[] }, { accessFlags := 16409, nameIndex := 30, descriptorIndex := 6, attributes := #[] }, { accessFlags := 16409, nameIndex := 33, descriptorIndex := 6, attributes := #[] }, { accessFlags := 16409, nameIndex := 36, descriptorIndex := 6, attributes := #[] }, { accessFlags := 16409, nameIndex := 39, descriptorIndex := 6, attributes := #[] }, { accessFlags := 18, nameIndex := 61, descriptorIndex := 62, attributes := #[] }, { accessFlags := 18, nameIndex := 65, descriptorIndex := 66, attributes := #[] }, { accessFlags := 4122, nameIndex := 42, descriptorIndex := 43, attributes := #[] }])
  fields := #[{ name := "WIN", type := (.object "com/example/pairwright/pairwright/model/Result"), accessFlags := 16409, slot := 0, constantValue := 0 }, { name := "LOSS", type := (.object "com/example/pairwright/pairwright/model/Result"), accessFlags := 16409, slot := 1, constantValue := 0 }, { name := "DRAW", type := (.object "com/example/pairwright/pairwright/model/Result"), accessFlags := 16409, slot := 2, constantValue := 0 }, { name := "SHORT_WIN", type := (.object "com/example/pairwright/pairwright/model/Result"), accessFlags := 16409, slot := 3, constantValue := 0 }, { name := "SHORT_LOSS", type := (.object "com/example/pairwright/pairwright/model/Result"), accessFlags := 16409, slot := 4, constantValue := 0 }, { name := "SHORT_DRAW", type := (.object "com/example/pairwright/pairwright/model/Result"), accessFlags := 16409, slot := 5, constantValue := 0 }, { name := "FORFEIT_WIN", type := (.object "com/example/pairwright/pairwright/model/Result"), accessFlags := 16409, slot := 6, constantValue := 0 }, { name := "FORFEIT_LOSS", type := (.object "com/example/pairwright/pairwright/model/Result"), accessFlags := 16409, slot := 7, constantValue := 0 }, { name := "HALF_POINT_BYE", type := (.object "com/example/pairwright/pairwright/model/Result"), accessFlags := 16409, slot := 8, constantValue := 0 }, { name := "FULL_POINT_BYE", type := (.object "com/example/pairwright/pairwright/model/Result"), accessFlags := 16409, slot := 9, constantValue := 0 }, { name := "PAIRING_ALLOCATED_BYE", type := (.object "com/example/pairwright/pairwright/model/Result"), accessFlags := 16409, slot := 10, constantValue := 0 }, { name := "NOT_PAIRED", type := (.object "com/example/pairwright/pairwright/model/Result"), accessFlags := 16409, slot := 11, constantValue := 0 }, { name := "code", type := .char, accessFlags := 18, slot := 3, constantValue := 0 }, { name := "played", type := .boolean, accessFlags := 18, slot := 4, constantValue := 0 }, { name := "$VALUES", type := (.array (.object "com/example/pairwright/pairwright/model/Result")), accessFlags := 4122, slot := 12, constantValue := 0 }]
  methods := #[k6m0, k6m1, k6m2, k6m3]
  instanceTypes := #[(.object "java/lang/String"), .int, .int, .char, .boolean]
  staticTypes := #[(.object "com/example/pairwright/pairwright/model/Result"), (.object "com/example/pairwright/pairwright/model/Result"), (.object "com/example/pairwright/pairwright/model/Result"), (.object "com/example/pairwright/pairwright/model/Result"), (.object "com/example/pairwright/pairwright/model/Result"), (.object "com/example/pairwright/pairwright/model/Result"), (.object "com/example/pairwright/pairwright/model/Result"), (.object "com/example/pairwright/pairwright/model/Result"), (.object "com/example/pairwright/pairwright/model/Result"), (.object "com/example/pairwright/pairwright/model/Result"), (.object "com/example/pairwright/pairwright/model/Result"), (.object "com/example/pairwright/pairwright/model/Result"), (.array (.object "com/example/pairwright/pairwright/model/Result"))]
  resolved := Array.replicate 118 none
  statics := some 0 }

def pool7 : Array CpInfo := pool [(1, u "java/lang/Cloneable"), (0, .class_ 1), (0, u "java/lang/Object"), (0, .class_ 3)] 3

/-- java/lang/Cloneable -/
def k7 : Class := { plain "java/lang/Cloneable" (some 0) with
  accessFlags := 1537
  interfaces := #[]
  cf := some (fileOf pool7 2 #[] #[] 1537 4 #[] #[])
  fields := #[]
  methods := #[]
  instanceTypes := #[]
  staticTypes := #[]
  resolved := Array.replicate 8 none
  statics := none }

/-- the primitive byte -/
def k8 : Class := { plain "byte" none with kind := .primitive 'B', accessFlags := 0x411 }
/-- [B -/
def k9 : Class := { plain "[B" (some 0) with kind := .array 8 .byte, interfaces := #[7, 4], accessFlags := 1041 }

/-- the primitive int -/
def k10 : Class := { plain "int" none with kind := .primitive 'I', accessFlags := 0x411 }
/-- [I -/
def k11 : Class := { plain "[I" (some 0) with kind := .array 10 .int, interfaces := #[7, 4], accessFlags := 1041 }

/-- [Lcom/example/pairwright/pairwright/model/Result; -/
def k12 : Class := { plain "[Lcom/example/pairwright/pairwright/model/Result;" (some 0) with kind := .array 6 (.object "com/example/pairwright/pairwright/model/Result"), interfaces := #[7, 4], accessFlags := 1041 }

def heap : Heap := #[{ cls := 6, slots := #[.ref 1, .ref 2, .ref 3, .ref 4, .ref 5, .ref 6, .ref 7, .ref 8, .ref 9, .ref 10, .ref 11, .ref 12, .null], vm := .statics 6 },
  { cls := 6, slots := #[.null, .int 0, .int 0, .int 49, .int 1], vm := .none },
  { cls := 6, slots := #[.null, .int 1, .int 0, .int 48, .int 1], vm := .none },
  { cls := 6, slots := #[.null, .int 2, .int 0, .int 61, .int 1], vm := .none },
  { cls := 6, slots := #[.null, .int 3, .int 0, .int 87, .int 1], vm := .none },
  { cls := 6, slots := #[.null, .int 4, .int 0, .int 76, .int 1], vm := .none },
  { cls := 6, slots := #[.null, .int 5, .int 0, .int 68, .int 1], vm := .none },
  { cls := 6, slots := #[.null, .int 6, .int 0, .int 43, .int 0], vm := .none },
  { cls := 6, slots := #[.null, .int 7, .int 0, .int 45, .int 0], vm := .none },
  { cls := 6, slots := #[.null, .int 8, .int 0, .int 72, .int 0], vm := .none },
  { cls := 6, slots := #[.null, .int 9, .int 0, .int 70, .int 0], vm := .none },
  { cls := 6, slots := #[.null, .int 10, .int 0, .int 85, .int 0], vm := .none },
  { cls := 6, slots := #[.null, .int 11, .int 0, .int 90, .int 0], vm := .none }]
def classes : Array Class := #[k0, k1, k2, k3, k4, k5, k6, k7, k8, k9, k10, k11, k12]
def interned : List (Array UInt16 × Addr) := []
def slotsUsed : Nat := 73
def theMethod : MethodId := ⟨1, 1⟩
def args0 : Array Value := #[.int 5]
def aboutOver (below : List Frame) : State where
  vm := { classes := classes, interned := interned.toArray }
  heap := heap
  slotsUsed := slotsUsed
  threads := #[{ frames := .invoking theMethod args0 :: below }]
def below0 : List Frame := [.native { method := ⟨0, 0⟩, args := #[] }]
def about1 : State := aboutOver below0
def p0 : Program := .bare "" "" ""
def e0 : Env := launch0.env 0 0 0
theorem w_frames : about1.frames = Frame.invoking theMethod args0 :: below0 := rfl
set_option maxRecDepth 65536 in
theorem w_args : argsFit about1.vm theMethod args0 = true := by decide +kernel
set_option maxRecDepth 65536 in
theorem w_heap : heapFits about1 = true := by decide +kernel
set_option maxRecDepth 65536 in
theorem w_runnable : about1.curStatus? = some .runnable := by decide +kernel
set_option maxRecDepth 65536 in
theorem w_alone : about1.alone = true := by decide +kernel
set_option maxRecDepth 65536 in
theorem w_named : about1.methodNamed? x = some theMethod := by decide +kernel
set_option maxRecDepth 65536 in
theorem w_hears : about1.hears theMethod below0 = true := by decide +kernel
set_option maxRecDepth 65536 in
theorem w_ripe : about1.ripe theMethod args0 below0 = true := by decide +kernel
theorem w_running : about1.status = .running := rfl
set_option maxRecDepth 65536 in
theorem w_room : about1.hasRoom e0.platform room_1 = true :=
  launch0.hasRoom_least _ room_1 (by decide +kernel) (by decide +kernel) (by decide +kernel) (by decide +kernel) (by decide +kernel) (by decide +kernel)
theorem allAtoms_all (ts : List Jvm.Cond) (a : Array Jvm.Value) (st : Jvm.State) : (allAtoms ts).before a st = ts.all (fun c => c.before a st) := by
  induction ts with
  | nil => rfl
  | cons c t ih =>
    show (Jvm.Cond.and c (allAtoms t)).before a st = _
    rw [Jvm.Cond.before_and, ih, List.all_cons]
def words1 : List Jvm.Cond := Jvm.Cond.code x code maxLocals ret :: tables_1
/-- a 'code' word, met by the world's own term for the bytes: nothing is compared byte by byte -/
theorem code_word {y : MethodName} {bytes : ByteArray} {mx : Nat} {rt : Option FieldType} {a : Array Value} {s : State} {m : MethodId} {meth : Method} {c : Code} (h1 : s.methodNamed? y = some m) (h2 : s.vm.method? m = some meth) (h3 : meth.code = some c) (h4 : c.code = bytes)
    (h5 : (c.maxLocals == mx && c.exceptionTable.isEmpty && decide (c.maxStack ≤ mostOperands) && decide (meth.sig.returnType = rt) && !meth.locks && decide (parseMethodDescriptor y.desc = some meth.sig)) = true) : (Jvm.Cond.code y bytes mx rt).before a s = true := by
  simp only [Bool.and_eq_true, beq_iff_eq, Bool.not_eq_true', decide_eq_true_eq] at h5
  obtain ⟨⟨⟨⟨⟨g1, g2⟩, g3⟩, g4⟩, g5⟩, g6⟩ := h5
  simp [Cond.before, Cond.holds, Cond.value, h1, h2, h3, h4, g1, g2, g3, g4, g5, g6]
def isCode : Jvm.Cond → Bool
  | .code _ _ _ _ => true
  | _ => false
theorem all_split {L : List Jvm.Cond} {P : Jvm.Cond → Bool} (h1 : L.all (fun c => isCode c || P c) = true) (h2 : ∀ c ∈ L.filter isCode, P c = true) : L.all P = true := by
  refine List.all_eq_true.mpr fun c hc => ?_
  have h := List.all_eq_true.mp h1 c hc
  rcases Bool.eq_false_or_eq_true (isCode c) with hi | hi
  · exact h2 c (List.mem_filter.mpr ⟨hc, hi⟩)
  · simpa [hi] using h
set_option maxRecDepth 65536 in
theorem w_c0 : (Jvm.Cond.code x code maxLocals ret).before args0 about1 = true := code_word (m := ⟨1, 1⟩) (meth := k1m1) (c := k1c1) (by decide +kernel) rfl rfl rfl (by decide +kernel)
set_option maxRecDepth 65536 in
theorem w_c1 : (Jvm.Cond.code ({ cls := "com/example/pairwright/pairwright/model/Result", name := "won", desc := "()Z" } : Jvm.MethodName) prog_38_method_7_code (1 : Nat) (Option.some Jvm.ClassFile.FieldType.boolean)).before args0 about1 = true := code_word (m := ⟨6, 2⟩) (meth := k6m2) (c := k6c2) (by decide +kernel) rfl rfl rfl (by decide +kernel)
set_option maxRecDepth 65536 in
theorem w_c2 : (Jvm.Cond.code ({ cls := "com/example/pairwright/pairwright/model/Result", name := "code", desc := "()C" } : Jvm.MethodName) prog_38_method_5_code (1 : Nat) (Option.some Jvm.ClassFile.FieldType.char)).before args0 about1 = true := code_word (m := ⟨6, 0⟩) (meth := k6m0) (c := k6c0) (by decide +kernel) rfl rfl rfl (by decide +kernel)
set_option maxRecDepth 65536 in
theorem w_c3 : (Jvm.Cond.code ({ cls := "com/example/pairwright/pairwright/model/Result", name := "played", desc := "()Z" } : Jvm.MethodName) prog_38_method_6_code (1 : Nat) (Option.some Jvm.ClassFile.FieldType.boolean)).before args0 about1 = true := code_word (m := ⟨6, 1⟩) (meth := k6m1) (c := k6c1) (by decide +kernel) rfl rfl rfl (by decide +kernel)
set_option maxRecDepth 65536 in
theorem w_c4 : (Jvm.Cond.code ({ cls := "com/example/pairwright/pairwright/model/Result", name := "lost", desc := "()Z" } : Jvm.MethodName) prog_38_method_8_code (1 : Nat) (Option.some Jvm.ClassFile.FieldType.boolean)).before args0 about1 = true := code_word (m := ⟨6, 3⟩) (meth := k6m3) (c := k6c3) (by decide +kernel) rfl rfl rfl (by decide +kernel)
def codes1 : List Jvm.Cond := [Jvm.Cond.code x code maxLocals ret, Jvm.Cond.code ({ cls := "com/example/pairwright/pairwright/model/Result", name := "won", desc := "()Z" } : Jvm.MethodName) prog_38_method_7_code (1 : Nat) (Option.some Jvm.ClassFile.FieldType.boolean), Jvm.Cond.code ({ cls := "com/example/pairwright/pairwright/model/Result", name := "code", desc := "()C" } : Jvm.MethodName) prog_38_method_5_code (1 : Nat) (Option.some Jvm.ClassFile.FieldType.char), Jvm.Cond.code ({ cls := "com/example/pairwright/pairwright/model/Result", name := "played", desc := "()Z" } : Jvm.MethodName) prog_38_method_6_code (1 : Nat) (Option.some Jvm.ClassFile.FieldType.boolean), Jvm.Cond.code ({ cls := "com/example/pairwright/pairwright/model/Result", name := "lost", desc := "()Z" } : Jvm.MethodName) prog_38_method_8_code (1 : Nat) (Option.some Jvm.ClassFile.FieldType.boolean)]
set_option maxRecDepth 65536 in
theorem codes_eq : words1.filter isCode = codes1 := rfl
theorem w_codes : ∀ c ∈ words1.filter isCode, c.before args0 about1 = true := by
  rw [codes_eq]
  intro c hc
  simp only [codes1, List.mem_cons, List.not_mem_nil, or_false] at hc
  rcases hc with rfl | rfl | rfl | rfl | rfl
  · exact w_c0
  · exact w_c1
  · exact w_c2
  · exact w_c3
  · exact w_c4
set_option maxRecDepth 65536 in
theorem w_t1 : (words1.take 24).all (fun c => isCode c || c.before args0 about1) = true := by decide +kernel
set_option maxRecDepth 65536 in
theorem w_t2 : ((words1.drop 24).take 24).all (fun c => isCode c || c.before args0 about1) = true := by decide +kernel
set_option maxRecDepth 65536 in
theorem w_t3 : ((words1.drop 24).drop 24).all (fun c => isCode c || c.before args0 about1) = true := by decide +kernel
theorem w_tables : (allAtoms (Jvm.Cond.code x code maxLocals ret :: tables_1)).before args0 about1 = true := by
  rw [allAtoms_all]
  show words1.all (fun c => c.before args0 about1) = true
  refine all_split ?_ w_codes
  rw [← List.take_append_drop 24 words1, List.all_append, w_t1, ← List.take_append_drop 24 (words1.drop 24), List.all_append, w_t2, w_t3]
  rfl
set_option maxRecDepth 65536 in
theorem w_case : (Jvm.Cond.and given_1 narrow_1).before args0 about1 = true := by decide +kernel
theorem w_applies : (headSpec (Jvm.Cond.code x code maxLocals ret :: tables_1) room_1).applies x e0.platform about1 = true :=
  (Spec.applies_iff w_frames).mpr ⟨w_running, w_runnable, w_alone, w_named, w_hears, w_ripe, w_room, w_tables⟩
theorem atStart : AtStart classFile x code maxLocals ret World_1 tables_1 room_1 Calls_1 rest_1 Pre_1 launch0 p0 e0 about1 theMethod args0 below0 :=
  ⟨lists_1, trivial, launch0.admits_env _ _ _, launch0.least_env, fairChoices_fair.cas, fairChoices_fair.clock, w_frames, w_args, w_heap, w_applies, trivial, trivial, w_case⟩
end start1
theorem witness_1 : WitnessClaimed_1 := ⟨start1.p0, start1.e0, start1.about1, start1.theMethod, start1.args0, start1.below0, start1.atStart⟩
end Jvm.Pilot.@@N@@
