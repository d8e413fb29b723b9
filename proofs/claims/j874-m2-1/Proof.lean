import JvmDerived
import JvmDerived.Pilot.@@N@@Statement
import JvmDerived.Pilot.@@N@@Code
set_option linter.unusedVariables false
set_option linter.unusedSimpArgs false
namespace Jvm.RoadKit
open Sem ClassFile Op Lib Jvm.Stand Jvm.Free Jvm.LawKit
section New
variable {p : Program} {l : Launch} {e : Env} {R : Room} {s : State} {m : MethodId} {args : Array Value} {below : List Frame} {meth : Method} {c : Code} {T : State} {locs : List Loc} {cells slots : Nat}
theorem retI (X : Stand p l e R s m args below meth c T locs cells slots) (hx : p.tables.exec = Jvm.exec) {pc : Nat} {Ls : Array Slot} {z : Int32} {rest : List Value} (hret : meth.sig.returnType = some .int) (hd : decode c.code pc = .ok (.ireturn, 1)) {fs : List Frame}
    (hl : ∀ (f : JFrame) (acts : List Action), f.method = m → f.locked = none → f.entered = [] → (doReturn e (T.setTop f) acts (some (.int z))).1 = T.setFrames fs) : Steps p.tables e below (T.setTop (mkF m pc Ls (.int z :: rest))) (T.setFrames fs) := by
  have hm' : T.vm.method? m = some meth := X.method'
  have hn : narrow .int (.int z) = .int z := rfl
  show Steps p.tables e below (T.setTop { method := m, pc := pc, locals := Ls, stack := _ :: rest, locked := none }) _
  jvm_step X.here [X.here.top, hx, hd, hm', hret, hn]
  first | (intro acts; rw [hl _ acts rfl rfl rfl]) | rw [hl _ _ rfl rfl rfl]
  exact Steps.refl _
end New
end Jvm.RoadKit
namespace Jvm.Pilot.@@N@@
open Jvm Jvm.ClassFile Sem Op Lib Jvm.Free Jvm.Stand Jvm.LawKit Jvm.RoadKit Bundle Jvm.Pilot.@@N@@.Jvm.D
theorem own_fne {Z : State} {h : Heap} {a b : Addr} {C n d : String} {v w : Value} (F : Fld Z h a C n d v) (G : Fld Z h b C n d w) (hv : v ≠ w) : a ≠ b := fun e => by
  subst e
  obtain ⟨c1, cf1, k1, i1, f1, h1, h2, -, -, -, -, h7⟩ := F
  obtain ⟨c2, cf2, k2, i2, f2, g1, g2, -, -, -, -, g7⟩ := G
  cases h1.symm.trans g1
  cases h2.symm.trans g2
  exact hv (Option.some.inj (h7.symm.trans g7))
def own_or (r a b : Addr) : Int32 := if r = a then 1 else if r = b then 1 else 0
theorem own_or1 {r a b : Addr} (h : r = a) : own_or r a b = 1 := if_pos h
theorem own_or2 {r a b : Addr} (h : ¬ r = a) (h2 : r = b) : own_or r a b = 1 := by rw [own_or, if_neg h, if_pos h2]
theorem own_or3 {r a b : Addr} (h : ¬ r = a) (h2 : ¬ r = b) : own_or r a b = 0 := by rw [own_or, if_neg h, if_neg h2]
theorem own_12 (p : Int32) : (p &&& (2147483647 : Int32)) % (12 : Int32) = 0 ∨ (p &&& (2147483647 : Int32)) % (12 : Int32) = 1 ∨ (p &&& (2147483647 : Int32)) % (12 : Int32) = 2 ∨ (p &&& (2147483647 : Int32)) % (12 : Int32) = 3 ∨ (p &&& (2147483647 : Int32)) % (12 : Int32) = 4 ∨ (p &&& (2147483647 : Int32)) % (12 : Int32) = 5 ∨ (p &&& (2147483647 : Int32)) % (12 : Int32) = 6 ∨ (p &&& (2147483647 : Int32)) % (12 : Int32) = 7 ∨ (p &&& (2147483647 : Int32)) % (12 : Int32) = 8 ∨ (p &&& (2147483647 : Int32)) % (12 : Int32) = 9 ∨ (p &&& (2147483647 : Int32)) % (12 : Int32) = 10 ∨ (p &&& (2147483647 : Int32)) % (12 : Int32) = 11 := by
  have h1 := c_and p (2147483647 : Int32) (by decide)
  have h2 := (c_iremV (p &&& (2147483647 : Int32)) (12 : Int32)).1 h1.1 (by decide)
  have h3 : (12 : Int32).toInt = 12 := by decide
  rw [h3] at h2
  generalize (p &&& (2147483647 : Int32)) % (12 : Int32) = j at h2 ⊢
  simp only [← Int32.toInt_inj, Int32.reduceToInt]
  omega
theorem own_eqint {args : Array Value} {s : State} {t : Term} {k : Int32} (h : (Jvm.Cond.eq t (Jvm.Term.int k)).value args s none s [] = some true) : t.eval args s none [] s = some (.int k) := by
  cases ht : t.eval args s none [] s with
  | none => simp [Cond.value, Term.eval, ht] at h
  | some v =>
    cases v <;> simp [Cond.value, Term.eval, ht] at h
    rw [h]
theorem own_lost_d0 : decode prog_38_method_8_code 0 = .ok (.aload_n 0, 1) := by decide +kernel
theorem own_lost_d1 : decode prog_38_method_8_code 1 = .ok (.getstatic 7, 3) := by decide +kernel
theorem own_lost_d4 : decode prog_38_method_8_code 4 = .ok (.if_acmp .eq 10, 3) := by decide +kernel
theorem own_lost_d7 : decode prog_38_method_8_code 7 = .ok (.aload_n 0, 1) := by decide +kernel
theorem own_lost_d8 : decode prog_38_method_8_code 8 = .ok (.getstatic 16, 3) := by decide +kernel
theorem own_lost_d11 : decode prog_38_method_8_code 11 = .ok (.if_acmp .ne 7, 3) := by decide +kernel
theorem own_lost_d14 : decode prog_38_method_8_code 14 = .ok (.iconst 1, 1) := by decide +kernel
theorem own_lost_d15 : decode prog_38_method_8_code 15 = .ok (.goto 4, 3) := by decide +kernel
theorem own_lost_d18 : decode prog_38_method_8_code 18 = .ok (.iconst 0, 1) := by decide +kernel
theorem own_lost_d19 : decode prog_38_method_8_code 19 = .ok (.ireturn, 1) := by decide +kernel
theorem own_lost_pn : plainName "com/example/pairwright/pairwright/model/Result" = true := by first | (simp [plainName, overriddenIn]; done) | decide +kernel
theorem own_lost_ef (m : MethodId) (x0 : Addr) : entryFrame m #[(.ref x0)] 1 = mkF m 0 #[.val (.ref x0)] [] := by first | (simp [entryFrame, mkF, argsToLocals, Value.category]; done) | rfl
def Q_own_lost (Z : State) (a1 : Addr) (z1 : Addr) (z4 : Addr) (h0 : Heap) (n0 : Nat) (v : Option Value) (h : Heap) (L : List Loc) : Prop := v = some (.int (own_or a1 z1 z4)) ∧ Fr n0 L ∧ h = h0
set_option maxRecDepth 65536 in
set_option maxHeartbeats 40000000 in
theorem own_lost (l : Launch) (Z : State) (a0 : Array Value) (hw : ∀ d ∈ tables_1, d.before a0 Z = true) (ws : List Jvm.Cond) (a1 : Addr) (z1 : Addr) (z4 : Addr) (h0 : Heap) (n0 : Nat) (Z0 : n0 ≤ h0.size) (S1 : Sta Z h0 "com/example/pairwright/pairwright/model/Result" "LOSS" "Lcom/example/pairwright/pairwright/model/Result;" (.ref z1)) (S4 : Sta Z h0 "com/example/pairwright/pairwright/model/Result" "SHORT_LOSS" "Lcom/example/pairwright/pairwright/model/Result;" (.ref z4)) :
    MetFree l (⟨"com/example/pairwright/pairwright/model/Result", "lost", "()Z"⟩ : MethodName) (head1 (Jvm.Cond.code (⟨"com/example/pairwright/pairwright/model/Result", "lost", "()Z"⟩ : MethodName) prog_38_method_8_code 1 (some .boolean) :: ws) ({ frames := 0, cells := 0, slots := 0, locals := 0 } : Room)) (fun a U => a = #[(.ref a1)] ∧ Z.Warmed39 U.vm ∧ U.heap = h0) (fun _ _ _ _ _ => True) (fun _ U o U' => ∃ v L, o = .returned v ∧ Q_own_lost Z a1 z1 z4 h0 n0 v U'.heap L ∧ FrameEnd U o U' L ({ frames := 0, cells := 0, slots := 0, locals := 0 } : Room).cells ({ frames := 0, cells := 0, slots := 0, locals := 0 } : Room).slots) := by
  refine MetFree.of_bodySF (plainFor_of_name own_lost_pn) hisR ?_
  intro p e s m args below meth c s₁ Bd hml0 hP hK
  obtain ⟨rfl, hZ, hh⟩ := hP
  have hx := Bd.exec
  have hby := Bd.bytes
  have hml : c.maxLocals = 1 := hml0
  have hown : s.vm.findClass "com/example/pairwright/pairwright/model/Result" = some m.cls := findClass_of_methodNamed Bd.named
  have hnm := (name_of_methodNamed Bd.named Bd.method).1
  have X0 : Stand p l e ({ frames := 0, cells := 0, slots := 0, locals := 0 } : Room) s m #[(.ref a1)] below meth c s₁ [] 0 0 := Stand.of_body Bd
  have e0 : s₁.heap = h0 := by rw [← hh, Bd.state]; rfl
  have N0 := Fr.nil n0
  have pp0 : ∀ t, Steps p.tables e below (s₁.setTop (mkF m 0 #[.val (.ref a1)] [])) t → Steps p.tables e below (s₁.setTop (entryFrame m #[(.ref a1)] 1)) t := fun t k => castTop (own_lost_ef m a1) k
  have pp101 : ∀ t, Steps p.tables e below (s₁.setTop (mkF m 1 #[.val (.ref a1)] [(.ref a1)])) t → Steps p.tables e below (s₁.setTop (entryFrame m #[(.ref a1)] 1)) t := fun t k => pp0 t (by
    refine XS.aloadN X0.here hx rfl (hb hby own_lost_d0) rfl rfl ?_
    show Steps p.tables e below (s₁.setTop (mkF m 1 #[.val (.ref a1)] [(.ref a1)])) _
    exact k)
  obtain ⟨T102, X102, e102, st102⟩ := getS2 X0 hx hZ hown (host := "") (Or.inl (hw _ (List.mem_of_getElem? (i := 13) rfl))) Via.refl e0 S1 (g := (mkF m 1 #[.val (.ref a1)] [(.ref a1)])) rfl (hb hby own_lost_d1)
  have pp103 : ∀ t, Steps p.tables e below (T102.setTop (mkF m 4 #[.val (.ref a1)] [(.ref z1), (.ref a1)])) t → Steps p.tables e below (s₁.setTop (entryFrame m #[(.ref a1)] 1)) t := fun t k => pp101 t (st102 t k)
  by_cases hA : a1 = z1
  · have pp104 : ∀ t, Steps p.tables e below (T102.setTop (mkF m 19 #[.val (.ref a1)] [(.int (1 : Int32))])) t → Steps p.tables e below (s₁.setTop (entryFrame m #[(.ref a1)] 1)) t := fun t k => pp103 t (by
      refine Jvm.RoadKit.acmp (g := (mkF m 4 #[.val (.ref a1)] [(.ref z1), (.ref a1)])) X102 hx rfl rfl rfl (pc0 := 4) (pc' := 14) (same := true) rfl (hb hby own_lost_d4) rfl (decide_eq_true (congrArg Value.ref hA)) (by decide) (by decide) ?_
      show Steps p.tables e below (T102.setTop (mkF m 14 #[.val (.ref a1)] [])) _
      refine XS.iconst X102.here hx rfl (hb hby own_lost_d14) ?_
      show Steps p.tables e below (T102.setTop (mkF m 15 #[.val (.ref a1)] [(.int (1 : Int32))])) _
      refine XS.goto X102.here hx rfl (pc0 := 15) (pc' := 19) rfl (hb hby own_lost_d15) (by decide) (by decide) ?_
      show Steps p.tables e below (T102.setTop (mkF m 19 #[.val (.ref a1)] [(.int (1 : Int32))])) _
      exact k)
    obtain ⟨fs, hr, hrun, hended, hW, hsame⟩ := X102.leave (v := some (.int (1 : Int32))) (fun h => by rw [Bd.returns] at h; cases h)
    refine ⟨_, _, pp104 _ ?_, hrun, hended, _, _, rfl, ?_, ⟨_, rfl⟩, hW, hsame.mono (by decide) (by decide)⟩
    · exact retN X102 hx (t := .boolean) Bd.returns (by simp) (hb hby own_lost_d19) hr
    · show Q_own_lost Z a1 z1 z4 h0 n0 _ T102.heap _
      rw [e102]
      exact ⟨by rw [own_or1 hA], N0, rfl⟩
  · have pp105 : ∀ t, Steps p.tables e below (T102.setTop (mkF m 8 #[.val (.ref a1)] [(.ref a1)])) t → Steps p.tables e below (s₁.setTop (entryFrame m #[(.ref a1)] 1)) t := fun t k => pp103 t (by
      refine Jvm.RoadKit.acmp (g := (mkF m 4 #[.val (.ref a1)] [(.ref z1), (.ref a1)])) X102 hx rfl rfl rfl (pc0 := 4) (pc' := 7) (same := false) rfl (hb hby own_lost_d4) rfl (decide_eq_false fun q => hA (Value.ref.inj q)) (by decide) (by decide) ?_
      show Steps p.tables e below (T102.setTop (mkF m 7 #[.val (.ref a1)] [])) _
      refine XS.aloadN X102.here hx rfl (hb hby own_lost_d7) rfl rfl ?_
      show Steps p.tables e below (T102.setTop (mkF m 8 #[.val (.ref a1)] [(.ref a1)])) _
      exact k)
    obtain ⟨T106, X106, e106, st106⟩ := getS2 X102 hx hZ hown (host := "") (Or.inl (hw _ (List.mem_of_getElem? (i := 15) rfl))) Via.refl e102 S4 (g := (mkF m 8 #[.val (.ref a1)] [(.ref a1)])) rfl (hb hby own_lost_d8)
    have pp107 : ∀ t, Steps p.tables e below (T106.setTop (mkF m 11 #[.val (.ref a1)] [(.ref z4), (.ref a1)])) t → Steps p.tables e below (s₁.setTop (entryFrame m #[(.ref a1)] 1)) t := fun t k => pp105 t (st106 t k)
    by_cases hB : a1 = z4
    · have pp108 : ∀ t, Steps p.tables e below (T106.setTop (mkF m 19 #[.val (.ref a1)] [(.int (1 : Int32))])) t → Steps p.tables e below (s₁.setTop (entryFrame m #[(.ref a1)] 1)) t := fun t k => pp107 t (by
        refine Jvm.RoadKit.acmp (g := (mkF m 11 #[.val (.ref a1)] [(.ref z4), (.ref a1)])) X106 hx rfl rfl rfl (pc0 := 11) (pc' := 14) (same := true) rfl (hb hby own_lost_d11) rfl (decide_eq_true (congrArg Value.ref hB)) (by decide) (by decide) ?_
        show Steps p.tables e below (T106.setTop (mkF m 14 #[.val (.ref a1)] [])) _
        refine XS.iconst X106.here hx rfl (hb hby own_lost_d14) ?_
        show Steps p.tables e below (T106.setTop (mkF m 15 #[.val (.ref a1)] [(.int (1 : Int32))])) _
        refine XS.goto X106.here hx rfl (pc0 := 15) (pc' := 19) rfl (hb hby own_lost_d15) (by decide) (by decide) ?_
        show Steps p.tables e below (T106.setTop (mkF m 19 #[.val (.ref a1)] [(.int (1 : Int32))])) _
        exact k)
      obtain ⟨fs, hr, hrun, hended, hW, hsame⟩ := X106.leave (v := some (.int (1 : Int32))) (fun h => by rw [Bd.returns] at h; cases h)
      refine ⟨_, _, pp108 _ ?_, hrun, hended, _, _, rfl, ?_, ⟨_, rfl⟩, hW, hsame.mono (by decide) (by decide)⟩
      · exact retN X106 hx (t := .boolean) Bd.returns (by simp) (hb hby own_lost_d19) hr
      · show Q_own_lost Z a1 z1 z4 h0 n0 _ T106.heap _
        rw [e106]
        exact ⟨by rw [own_or2 hA hB], N0, rfl⟩
    · have pp109 : ∀ t, Steps p.tables e below (T106.setTop (mkF m 19 #[.val (.ref a1)] [(.int (0 : Int32))])) t → Steps p.tables e below (s₁.setTop (entryFrame m #[(.ref a1)] 1)) t := fun t k => pp107 t (by
        refine Jvm.RoadKit.acmp (g := (mkF m 11 #[.val (.ref a1)] [(.ref z4), (.ref a1)])) X106 hx rfl rfl rfl (pc0 := 11) (pc' := 18) (same := false) rfl (hb hby own_lost_d11) rfl (decide_eq_false fun q => hB (Value.ref.inj q)) (by decide) (by decide) ?_
        show Steps p.tables e below (T106.setTop (mkF m 18 #[.val (.ref a1)] [])) _
        refine XS.iconst X106.here hx rfl (hb hby own_lost_d18) ?_
        show Steps p.tables e below (T106.setTop (mkF m 19 #[.val (.ref a1)] [(.int (0 : Int32))])) _
        exact k)
      obtain ⟨fs, hr, hrun, hended, hW, hsame⟩ := X106.leave (v := some (.int (0 : Int32))) (fun h => by rw [Bd.returns] at h; cases h)
      refine ⟨_, _, pp109 _ ?_, hrun, hended, _, _, rfl, ?_, ⟨_, rfl⟩, hW, hsame.mono (by decide) (by decide)⟩
      · exact retN X106 hx (t := .boolean) Bd.returns (by simp) (hb hby own_lost_d19) hr
      · show Q_own_lost Z a1 z1 z4 h0 n0 _ T106.heap _
        rw [e106]
        exact ⟨by rw [own_or3 hA hB], N0, rfl⟩
theorem own_won_d0 : decode prog_38_method_7_code 0 = .ok (.aload_n 0, 1) := by decide +kernel
theorem own_won_d1 : decode prog_38_method_7_code 1 = .ok (.getstatic 3, 3) := by decide +kernel
theorem own_won_d4 : decode prog_38_method_7_code 4 = .ok (.if_acmp .eq 10, 3) := by decide +kernel
theorem own_won_d7 : decode prog_38_method_7_code 7 = .ok (.aload_n 0, 1) := by decide +kernel
theorem own_won_d8 : decode prog_38_method_7_code 8 = .ok (.getstatic 13, 3) := by decide +kernel
theorem own_won_d11 : decode prog_38_method_7_code 11 = .ok (.if_acmp .ne 7, 3) := by decide +kernel
theorem own_won_d14 : decode prog_38_method_7_code 14 = .ok (.iconst 1, 1) := by decide +kernel
theorem own_won_d15 : decode prog_38_method_7_code 15 = .ok (.goto 4, 3) := by decide +kernel
theorem own_won_d18 : decode prog_38_method_7_code 18 = .ok (.iconst 0, 1) := by decide +kernel
theorem own_won_d19 : decode prog_38_method_7_code 19 = .ok (.ireturn, 1) := by decide +kernel
theorem own_won_pn : plainName "com/example/pairwright/pairwright/model/Result" = true := by first | (simp [plainName, overriddenIn]; done) | decide +kernel
theorem own_won_ef (m : MethodId) (x0 : Addr) : entryFrame m #[(.ref x0)] 1 = mkF m 0 #[.val (.ref x0)] [] := by first | (simp [entryFrame, mkF, argsToLocals, Value.category]; done) | rfl
def Q_own_won (Z : State) (a1 : Addr) (z0 : Addr) (z3 : Addr) (h0 : Heap) (n0 : Nat) (v : Option Value) (h : Heap) (L : List Loc) : Prop := v = some (.int (own_or a1 z0 z3)) ∧ Fr n0 L ∧ h = h0
set_option maxRecDepth 65536 in
set_option maxHeartbeats 40000000 in
theorem own_won (l : Launch) (Z : State) (a0 : Array Value) (hw : ∀ d ∈ tables_1, d.before a0 Z = true) (ws : List Jvm.Cond) (a1 : Addr) (z0 : Addr) (z3 : Addr) (h0 : Heap) (n0 : Nat) (Z0 : n0 ≤ h0.size) (S0 : Sta Z h0 "com/example/pairwright/pairwright/model/Result" "WIN" "Lcom/example/pairwright/pairwright/model/Result;" (.ref z0)) (S3 : Sta Z h0 "com/example/pairwright/pairwright/model/Result" "SHORT_WIN" "Lcom/example/pairwright/pairwright/model/Result;" (.ref z3)) :
    MetFree l (⟨"com/example/pairwright/pairwright/model/Result", "won", "()Z"⟩ : MethodName) (head1 (Jvm.Cond.code (⟨"com/example/pairwright/pairwright/model/Result", "won", "()Z"⟩ : MethodName) prog_38_method_7_code 1 (some .boolean) :: ws) ({ frames := 0, cells := 0, slots := 0, locals := 0 } : Room)) (fun a U => a = #[(.ref a1)] ∧ Z.Warmed39 U.vm ∧ U.heap = h0) (fun _ _ _ _ _ => True) (fun _ U o U' => ∃ v L, o = .returned v ∧ Q_own_won Z a1 z0 z3 h0 n0 v U'.heap L ∧ FrameEnd U o U' L ({ frames := 0, cells := 0, slots := 0, locals := 0 } : Room).cells ({ frames := 0, cells := 0, slots := 0, locals := 0 } : Room).slots) := by
  refine MetFree.of_bodySF (plainFor_of_name own_won_pn) hisR ?_
  intro p e s m args below meth c s₁ Bd hml0 hP hK
  obtain ⟨rfl, hZ, hh⟩ := hP
  have hx := Bd.exec
  have hby := Bd.bytes
  have hml : c.maxLocals = 1 := hml0
  have hown : s.vm.findClass "com/example/pairwright/pairwright/model/Result" = some m.cls := findClass_of_methodNamed Bd.named
  have hnm := (name_of_methodNamed Bd.named Bd.method).1
  have X0 : Stand p l e ({ frames := 0, cells := 0, slots := 0, locals := 0 } : Room) s m #[(.ref a1)] below meth c s₁ [] 0 0 := Stand.of_body Bd
  have e0 : s₁.heap = h0 := by rw [← hh, Bd.state]; rfl
  have N0 := Fr.nil n0
  have pp0 : ∀ t, Steps p.tables e below (s₁.setTop (mkF m 0 #[.val (.ref a1)] [])) t → Steps p.tables e below (s₁.setTop (entryFrame m #[(.ref a1)] 1)) t := fun t k => castTop (own_won_ef m a1) k
  have pp101 : ∀ t, Steps p.tables e below (s₁.setTop (mkF m 1 #[.val (.ref a1)] [(.ref a1)])) t → Steps p.tables e below (s₁.setTop (entryFrame m #[(.ref a1)] 1)) t := fun t k => pp0 t (by
    refine XS.aloadN X0.here hx rfl (hb hby own_won_d0) rfl rfl ?_
    show Steps p.tables e below (s₁.setTop (mkF m 1 #[.val (.ref a1)] [(.ref a1)])) _
    exact k)
  obtain ⟨T102, X102, e102, st102⟩ := getS2 X0 hx hZ hown (host := "") (Or.inl (hw _ (List.mem_of_getElem? (i := 45) rfl))) Via.refl e0 S0 (g := (mkF m 1 #[.val (.ref a1)] [(.ref a1)])) rfl (hb hby own_won_d1)
  have pp103 : ∀ t, Steps p.tables e below (T102.setTop (mkF m 4 #[.val (.ref a1)] [(.ref z0), (.ref a1)])) t → Steps p.tables e below (s₁.setTop (entryFrame m #[(.ref a1)] 1)) t := fun t k => pp101 t (st102 t k)
  by_cases hA : a1 = z0
  · have pp104 : ∀ t, Steps p.tables e below (T102.setTop (mkF m 19 #[.val (.ref a1)] [(.int (1 : Int32))])) t → Steps p.tables e below (s₁.setTop (entryFrame m #[(.ref a1)] 1)) t := fun t k => pp103 t (by
      refine Jvm.RoadKit.acmp (g := (mkF m 4 #[.val (.ref a1)] [(.ref z0), (.ref a1)])) X102 hx rfl rfl rfl (pc0 := 4) (pc' := 14) (same := true) rfl (hb hby own_won_d4) rfl (decide_eq_true (congrArg Value.ref hA)) (by decide) (by decide) ?_
      show Steps p.tables e below (T102.setTop (mkF m 14 #[.val (.ref a1)] [])) _
      refine XS.iconst X102.here hx rfl (hb hby own_won_d14) ?_
      show Steps p.tables e below (T102.setTop (mkF m 15 #[.val (.ref a1)] [(.int (1 : Int32))])) _
      refine XS.goto X102.here hx rfl (pc0 := 15) (pc' := 19) rfl (hb hby own_won_d15) (by decide) (by decide) ?_
      show Steps p.tables e below (T102.setTop (mkF m 19 #[.val (.ref a1)] [(.int (1 : Int32))])) _
      exact k)
    obtain ⟨fs, hr, hrun, hended, hW, hsame⟩ := X102.leave (v := some (.int (1 : Int32))) (fun h => by rw [Bd.returns] at h; cases h)
    refine ⟨_, _, pp104 _ ?_, hrun, hended, _, _, rfl, ?_, ⟨_, rfl⟩, hW, hsame.mono (by decide) (by decide)⟩
    · exact retN X102 hx (t := .boolean) Bd.returns (by simp) (hb hby own_won_d19) hr
    · show Q_own_won Z a1 z0 z3 h0 n0 _ T102.heap _
      rw [e102]
      exact ⟨by rw [own_or1 hA], N0, rfl⟩
  · have pp105 : ∀ t, Steps p.tables e below (T102.setTop (mkF m 8 #[.val (.ref a1)] [(.ref a1)])) t → Steps p.tables e below (s₁.setTop (entryFrame m #[(.ref a1)] 1)) t := fun t k => pp103 t (by
      refine Jvm.RoadKit.acmp (g := (mkF m 4 #[.val (.ref a1)] [(.ref z0), (.ref a1)])) X102 hx rfl rfl rfl (pc0 := 4) (pc' := 7) (same := false) rfl (hb hby own_won_d4) rfl (decide_eq_false fun q => hA (Value.ref.inj q)) (by decide) (by decide) ?_
      show Steps p.tables e below (T102.setTop (mkF m 7 #[.val (.ref a1)] [])) _
      refine XS.aloadN X102.here hx rfl (hb hby own_won_d7) rfl rfl ?_
      show Steps p.tables e below (T102.setTop (mkF m 8 #[.val (.ref a1)] [(.ref a1)])) _
      exact k)
    obtain ⟨T106, X106, e106, st106⟩ := getS2 X102 hx hZ hown (host := "") (Or.inl (hw _ (List.mem_of_getElem? (i := 46) rfl))) Via.refl e102 S3 (g := (mkF m 8 #[.val (.ref a1)] [(.ref a1)])) rfl (hb hby own_won_d8)
    have pp107 : ∀ t, Steps p.tables e below (T106.setTop (mkF m 11 #[.val (.ref a1)] [(.ref z3), (.ref a1)])) t → Steps p.tables e below (s₁.setTop (entryFrame m #[(.ref a1)] 1)) t := fun t k => pp105 t (st106 t k)
    by_cases hB : a1 = z3
    · have pp108 : ∀ t, Steps p.tables e below (T106.setTop (mkF m 19 #[.val (.ref a1)] [(.int (1 : Int32))])) t → Steps p.tables e below (s₁.setTop (entryFrame m #[(.ref a1)] 1)) t := fun t k => pp107 t (by
        refine Jvm.RoadKit.acmp (g := (mkF m 11 #[.val (.ref a1)] [(.ref z3), (.ref a1)])) X106 hx rfl rfl rfl (pc0 := 11) (pc' := 14) (same := true) rfl (hb hby own_won_d11) rfl (decide_eq_true (congrArg Value.ref hB)) (by decide) (by decide) ?_
        show Steps p.tables e below (T106.setTop (mkF m 14 #[.val (.ref a1)] [])) _
        refine XS.iconst X106.here hx rfl (hb hby own_won_d14) ?_
        show Steps p.tables e below (T106.setTop (mkF m 15 #[.val (.ref a1)] [(.int (1 : Int32))])) _
        refine XS.goto X106.here hx rfl (pc0 := 15) (pc' := 19) rfl (hb hby own_won_d15) (by decide) (by decide) ?_
        show Steps p.tables e below (T106.setTop (mkF m 19 #[.val (.ref a1)] [(.int (1 : Int32))])) _
        exact k)
      obtain ⟨fs, hr, hrun, hended, hW, hsame⟩ := X106.leave (v := some (.int (1 : Int32))) (fun h => by rw [Bd.returns] at h; cases h)
      refine ⟨_, _, pp108 _ ?_, hrun, hended, _, _, rfl, ?_, ⟨_, rfl⟩, hW, hsame.mono (by decide) (by decide)⟩
      · exact retN X106 hx (t := .boolean) Bd.returns (by simp) (hb hby own_won_d19) hr
      · show Q_own_won Z a1 z0 z3 h0 n0 _ T106.heap _
        rw [e106]
        exact ⟨by rw [own_or2 hA hB], N0, rfl⟩
    · have pp109 : ∀ t, Steps p.tables e below (T106.setTop (mkF m 19 #[.val (.ref a1)] [(.int (0 : Int32))])) t → Steps p.tables e below (s₁.setTop (entryFrame m #[(.ref a1)] 1)) t := fun t k => pp107 t (by
        refine Jvm.RoadKit.acmp (g := (mkF m 11 #[.val (.ref a1)] [(.ref z3), (.ref a1)])) X106 hx rfl rfl rfl (pc0 := 11) (pc' := 18) (same := false) rfl (hb hby own_won_d11) rfl (decide_eq_false fun q => hB (Value.ref.inj q)) (by decide) (by decide) ?_
        show Steps p.tables e below (T106.setTop (mkF m 18 #[.val (.ref a1)] [])) _
        refine XS.iconst X106.here hx rfl (hb hby own_won_d18) ?_
        show Steps p.tables e below (T106.setTop (mkF m 19 #[.val (.ref a1)] [(.int (0 : Int32))])) _
        exact k)
      obtain ⟨fs, hr, hrun, hended, hW, hsame⟩ := X106.leave (v := some (.int (0 : Int32))) (fun h => by rw [Bd.returns] at h; cases h)
      refine ⟨_, _, pp109 _ ?_, hrun, hended, _, _, rfl, ?_, ⟨_, rfl⟩, hW, hsame.mono (by decide) (by decide)⟩
      · exact retN X106 hx (t := .boolean) Bd.returns (by simp) (hb hby own_won_d19) hr
      · show Q_own_won Z a1 z0 z3 h0 n0 _ T106.heap _
        rw [e106]
        exact ⟨by rw [own_or3 hA hB], N0, rfl⟩
theorem own_code_d0 : decode prog_38_method_5_code 0 = .ok (.aload_n 0, 1) := by decide +kernel
theorem own_code_d1 : decode prog_38_method_5_code 1 = .ok (.getfield 59, 3) := by decide +kernel
theorem own_code_d4 : decode prog_38_method_5_code 4 = .ok (.ireturn, 1) := by decide +kernel
theorem own_code_pn : plainName "com/example/pairwright/pairwright/model/Result" = true := by first | (simp [plainName, overriddenIn]; done) | decide +kernel
theorem own_code_ef (m : MethodId) (x0 : Addr) : entryFrame m #[(.ref x0)] 1 = mkF m 0 #[.val (.ref x0)] [] := by first | (simp [entryFrame, mkF, argsToLocals, Value.category]; done) | rfl
def Q_own_code (Z : State) (a1 : Addr) (w1 : Int32) (h0 : Heap) (n0 : Nat) (v : Option Value) (h : Heap) (L : List Loc) : Prop := v = some (.int (nar .char w1)) ∧ Fr n0 L ∧ h = h0
set_option maxRecDepth 65536 in
set_option maxHeartbeats 40000000 in
theorem own_code (l : Launch) (Z : State) (a0 : Array Value) (hw : ∀ d ∈ tables_1, d.before a0 Z = true) (ws : List Jvm.Cond) (a1 : Addr) (w1 : Int32) (h0 : Heap) (n0 : Nat) (Z0 : n0 ≤ h0.size) (F1 : Fld Z h0 a1 "com/example/pairwright/pairwright/model/Result" "code" "C" (.int w1)) :
    MetFree l (⟨"com/example/pairwright/pairwright/model/Result", "code", "()C"⟩ : MethodName) (head1 (Jvm.Cond.code (⟨"com/example/pairwright/pairwright/model/Result", "code", "()C"⟩ : MethodName) prog_38_method_5_code 1 (some .char) :: ws) ({ frames := 0, cells := 0, slots := 0, locals := 0 } : Room)) (fun a U => a = #[(.ref a1)] ∧ Z.Warmed39 U.vm ∧ U.heap = h0) (fun _ _ _ _ _ => True) (fun _ U o U' => ∃ v L, o = .returned v ∧ Q_own_code Z a1 w1 h0 n0 v U'.heap L ∧ FrameEnd U o U' L ({ frames := 0, cells := 0, slots := 0, locals := 0 } : Room).cells ({ frames := 0, cells := 0, slots := 0, locals := 0 } : Room).slots) := by
  refine MetFree.of_bodySF (plainFor_of_name own_code_pn) hisR ?_
  intro p e s m args below meth c s₁ Bd hml0 hP hK
  obtain ⟨rfl, hZ, hh⟩ := hP
  have hx := Bd.exec
  have hby := Bd.bytes
  have hml : c.maxLocals = 1 := hml0
  have hown : s.vm.findClass "com/example/pairwright/pairwright/model/Result" = some m.cls := findClass_of_methodNamed Bd.named
  have hnm := (name_of_methodNamed Bd.named Bd.method).1
  have X0 : Stand p l e ({ frames := 0, cells := 0, slots := 0, locals := 0 } : Room) s m #[(.ref a1)] below meth c s₁ [] 0 0 := Stand.of_body Bd
  have e0 : s₁.heap = h0 := by rw [← hh, Bd.state]; rfl
  have N0 := Fr.nil n0
  have pp0 : ∀ t, Steps p.tables e below (s₁.setTop (mkF m 0 #[.val (.ref a1)] [])) t → Steps p.tables e below (s₁.setTop (entryFrame m #[(.ref a1)] 1)) t := fun t k => castTop (own_code_ef m a1) k
  have pp101 : ∀ t, Steps p.tables e below (s₁.setTop (mkF m 1 #[.val (.ref a1)] [(.ref a1)])) t → Steps p.tables e below (s₁.setTop (entryFrame m #[(.ref a1)] 1)) t := fun t k => pp0 t (by
    refine XS.aloadN X0.here hx rfl (hb hby own_code_d0) rfl rfl ?_
    show Steps p.tables e below (s₁.setTop (mkF m 1 #[.val (.ref a1)] [(.ref a1)])) _
    exact k)
  obtain ⟨T102, X102, e102, st102⟩ := getF X0 hx hZ hown (host := "") (Or.inl (hw _ (List.mem_of_getElem? (i := 22) rfl))) Via.refl e0 F1 (g := (mkF m 1 #[.val (.ref a1)] [(.ref a1)])) rfl rfl (hb hby own_code_d1)
  have pp103 : ∀ t, Steps p.tables e below (T102.setTop (mkF m 4 #[.val (.ref a1)] [(.int w1)])) t → Steps p.tables e below (s₁.setTop (entryFrame m #[(.ref a1)] 1)) t := fun t k => pp101 t (st102 t k)
  obtain ⟨fs, hr, hrun, hended, hW, hsame⟩ := X102.leave (v := some (.int (nar .char w1))) (fun h => by rw [Bd.returns] at h; cases h)
  refine ⟨_, _, pp103 _ ?_, hrun, hended, _, _, rfl, ?_, ⟨_, rfl⟩, hW, hsame.mono (by decide) (by decide)⟩
  · exact retN X102 hx (t := .char) Bd.returns (by simp) (hb hby own_code_d4) hr
  · show Q_own_code Z a1 w1 h0 n0 _ T102.heap _
    rw [e102]
    exact ⟨rfl, N0, rfl⟩
theorem own_played_d0 : decode prog_38_method_6_code 0 = .ok (.aload_n 0, 1) := by decide +kernel
theorem own_played_d1 : decode prog_38_method_6_code 1 = .ok (.getfield 63, 3) := by decide +kernel
theorem own_played_d4 : decode prog_38_method_6_code 4 = .ok (.ireturn, 1) := by decide +kernel
theorem own_played_pn : plainName "com/example/pairwright/pairwright/model/Result" = true := by first | (simp [plainName, overriddenIn]; done) | decide +kernel
theorem own_played_ef (m : MethodId) (x0 : Addr) : entryFrame m #[(.ref x0)] 1 = mkF m 0 #[.val (.ref x0)] [] := by first | (simp [entryFrame, mkF, argsToLocals, Value.category]; done) | rfl
def Q_own_played (Z : State) (a1 : Addr) (w1 : Int32) (h0 : Heap) (n0 : Nat) (v : Option Value) (h : Heap) (L : List Loc) : Prop := v = some (.int (nar .boolean w1)) ∧ Fr n0 L ∧ h = h0
set_option maxRecDepth 65536 in
set_option maxHeartbeats 40000000 in
theorem own_played (l : Launch) (Z : State) (a0 : Array Value) (hw : ∀ d ∈ tables_1, d.before a0 Z = true) (ws : List Jvm.Cond) (a1 : Addr) (w1 : Int32) (h0 : Heap) (n0 : Nat) (Z0 : n0 ≤ h0.size) (F1 : Fld Z h0 a1 "com/example/pairwright/pairwright/model/Result" "played" "Z" (.int w1)) :
    MetFree l (⟨"com/example/pairwright/pairwright/model/Result", "played", "()Z"⟩ : MethodName) (head1 (Jvm.Cond.code (⟨"com/example/pairwright/pairwright/model/Result", "played", "()Z"⟩ : MethodName) prog_38_method_6_code 1 (some .boolean) :: ws) ({ frames := 0, cells := 0, slots := 0, locals := 0 } : Room)) (fun a U => a = #[(.ref a1)] ∧ Z.Warmed39 U.vm ∧ U.heap = h0) (fun _ _ _ _ _ => True) (fun _ U o U' => ∃ v L, o = .returned v ∧ Q_own_played Z a1 w1 h0 n0 v U'.heap L ∧ FrameEnd U o U' L ({ frames := 0, cells := 0, slots := 0, locals := 0 } : Room).cells ({ frames := 0, cells := 0, slots := 0, locals := 0 } : Room).slots) := by
  refine MetFree.of_bodySF (plainFor_of_name own_played_pn) hisR ?_
  intro p e s m args below meth c s₁ Bd hml0 hP hK
  obtain ⟨rfl, hZ, hh⟩ := hP
  have hx := Bd.exec
  have hby := Bd.bytes
  have hml : c.maxLocals = 1 := hml0
  have hown : s.vm.findClass "com/example/pairwright/pairwright/model/Result" = some m.cls := findClass_of_methodNamed Bd.named
  have hnm := (name_of_methodNamed Bd.named Bd.method).1
  have X0 : Stand p l e ({ frames := 0, cells := 0, slots := 0, locals := 0 } : Room) s m #[(.ref a1)] below meth c s₁ [] 0 0 := Stand.of_body Bd
  have e0 : s₁.heap = h0 := by rw [← hh, Bd.state]; rfl
  have N0 := Fr.nil n0
  have pp0 : ∀ t, Steps p.tables e below (s₁.setTop (mkF m 0 #[.val (.ref a1)] [])) t → Steps p.tables e below (s₁.setTop (entryFrame m #[(.ref a1)] 1)) t := fun t k => castTop (own_played_ef m a1) k
  have pp101 : ∀ t, Steps p.tables e below (s₁.setTop (mkF m 1 #[.val (.ref a1)] [(.ref a1)])) t → Steps p.tables e below (s₁.setTop (entryFrame m #[(.ref a1)] 1)) t := fun t k => pp0 t (by
    refine XS.aloadN X0.here hx rfl (hb hby own_played_d0) rfl rfl ?_
    show Steps p.tables e below (s₁.setTop (mkF m 1 #[.val (.ref a1)] [(.ref a1)])) _
    exact k)
  obtain ⟨T102, X102, e102, st102⟩ := getF X0 hx hZ hown (host := "") (Or.inl (hw _ (List.mem_of_getElem? (i := 38) rfl))) Via.refl e0 F1 (g := (mkF m 1 #[.val (.ref a1)] [(.ref a1)])) rfl rfl (hb hby own_played_d1)
  have pp103 : ∀ t, Steps p.tables e below (T102.setTop (mkF m 4 #[.val (.ref a1)] [(.int w1)])) t → Steps p.tables e below (s₁.setTop (entryFrame m #[(.ref a1)] 1)) t := fun t k => pp101 t (st102 t k)
  obtain ⟨fs, hr, hrun, hended, hW, hsame⟩ := X102.leave (v := some (.int (nar .boolean w1))) (fun h => by rw [Bd.returns] at h; cases h)
  refine ⟨_, _, pp103 _ ?_, hrun, hended, _, _, rfl, ?_, ⟨_, rfl⟩, hW, hsame.mono (by decide) (by decide)⟩
  · exact retN X102 hx (t := .boolean) Bd.returns (by simp) (hb hby own_played_d4) hr
  · show Q_own_played Z a1 w1 h0 n0 _ T102.heap _
    rw [e102]
    exact ⟨rfl, N0, rfl⟩
def own_sel (p1 : Int32) (z0 z1 z2 z3 z4 z5 z6 z7 z8 z9 z10 z11 : Addr) : Addr := if p1 = (0 : Int32) then z0 else if p1 = (1 : Int32) then z1 else if p1 = (2 : Int32) then z2 else if p1 = (3 : Int32) then z3 else if p1 = (4 : Int32) then z4 else if p1 = (5 : Int32) then z5 else if p1 = (6 : Int32) then z6 else if p1 = (7 : Int32) then z7 else if p1 = (8 : Int32) then z8 else if p1 = (9 : Int32) then z9 else if p1 = (10 : Int32) then z10 else z11
theorem own_pick_d0 : decode method_2_code 0 = .ok (.iload_n 0, 1) := by decide +kernel
theorem own_pick_d1 : decode method_2_code 1 = .ok (.ifCond .ne 7, 3) := by decide +kernel
theorem own_pick_d4 : decode method_2_code 4 = .ok (.getstatic 7, 3) := by decide +kernel
theorem own_pick_d7 : decode method_2_code 7 = .ok (.areturn, 1) := by decide +kernel
theorem own_pick_d8 : decode method_2_code 8 = .ok (.iload_n 0, 1) := by decide +kernel
theorem own_pick_d9 : decode method_2_code 9 = .ok (.iconst 1, 1) := by decide +kernel
theorem own_pick_d10 : decode method_2_code 10 = .ok (.if_icmp .ne 7, 3) := by decide +kernel
theorem own_pick_d13 : decode method_2_code 13 = .ok (.getstatic 13, 3) := by decide +kernel
theorem own_pick_d16 : decode method_2_code 16 = .ok (.areturn, 1) := by decide +kernel
theorem own_pick_d17 : decode method_2_code 17 = .ok (.iload_n 0, 1) := by decide +kernel
theorem own_pick_d18 : decode method_2_code 18 = .ok (.iconst 2, 1) := by decide +kernel
theorem own_pick_d19 : decode method_2_code 19 = .ok (.if_icmp .ne 7, 3) := by decide +kernel
theorem own_pick_d22 : decode method_2_code 22 = .ok (.getstatic 16, 3) := by decide +kernel
theorem own_pick_d25 : decode method_2_code 25 = .ok (.areturn, 1) := by decide +kernel
theorem own_pick_d26 : decode method_2_code 26 = .ok (.iload_n 0, 1) := by decide +kernel
theorem own_pick_d27 : decode method_2_code 27 = .ok (.iconst 3, 1) := by decide +kernel
theorem own_pick_d28 : decode method_2_code 28 = .ok (.if_icmp .ne 7, 3) := by decide +kernel
theorem own_pick_d31 : decode method_2_code 31 = .ok (.getstatic 19, 3) := by decide +kernel
theorem own_pick_d34 : decode method_2_code 34 = .ok (.areturn, 1) := by decide +kernel
theorem own_pick_d35 : decode method_2_code 35 = .ok (.iload_n 0, 1) := by decide +kernel
theorem own_pick_d36 : decode method_2_code 36 = .ok (.iconst 4, 1) := by decide +kernel
theorem own_pick_d37 : decode method_2_code 37 = .ok (.if_icmp .ne 7, 3) := by decide +kernel
theorem own_pick_d40 : decode method_2_code 40 = .ok (.getstatic 22, 3) := by decide +kernel
theorem own_pick_d43 : decode method_2_code 43 = .ok (.areturn, 1) := by decide +kernel
theorem own_pick_d44 : decode method_2_code 44 = .ok (.iload_n 0, 1) := by decide +kernel
theorem own_pick_d45 : decode method_2_code 45 = .ok (.iconst 5, 1) := by decide +kernel
theorem own_pick_d46 : decode method_2_code 46 = .ok (.if_icmp .ne 7, 3) := by decide +kernel
theorem own_pick_d49 : decode method_2_code 49 = .ok (.getstatic 25, 3) := by decide +kernel
theorem own_pick_d52 : decode method_2_code 52 = .ok (.areturn, 1) := by decide +kernel
theorem own_pick_d53 : decode method_2_code 53 = .ok (.iload_n 0, 1) := by decide +kernel
theorem own_pick_d54 : decode method_2_code 54 = .ok (.bipush 6, 2) := by decide +kernel
theorem own_pick_d56 : decode method_2_code 56 = .ok (.if_icmp .ne 7, 3) := by decide +kernel
theorem own_pick_d59 : decode method_2_code 59 = .ok (.getstatic 28, 3) := by decide +kernel
theorem own_pick_d62 : decode method_2_code 62 = .ok (.areturn, 1) := by decide +kernel
theorem own_pick_d63 : decode method_2_code 63 = .ok (.iload_n 0, 1) := by decide +kernel
theorem own_pick_d64 : decode method_2_code 64 = .ok (.bipush 7, 2) := by decide +kernel
theorem own_pick_d66 : decode method_2_code 66 = .ok (.if_icmp .ne 7, 3) := by decide +kernel
theorem own_pick_d69 : decode method_2_code 69 = .ok (.getstatic 31, 3) := by decide +kernel
theorem own_pick_d72 : decode method_2_code 72 = .ok (.areturn, 1) := by decide +kernel
theorem own_pick_d73 : decode method_2_code 73 = .ok (.iload_n 0, 1) := by decide +kernel
theorem own_pick_d74 : decode method_2_code 74 = .ok (.bipush 8, 2) := by decide +kernel
theorem own_pick_d76 : decode method_2_code 76 = .ok (.if_icmp .ne 7, 3) := by decide +kernel
theorem own_pick_d79 : decode method_2_code 79 = .ok (.getstatic 34, 3) := by decide +kernel
theorem own_pick_d82 : decode method_2_code 82 = .ok (.areturn, 1) := by decide +kernel
theorem own_pick_d83 : decode method_2_code 83 = .ok (.iload_n 0, 1) := by decide +kernel
theorem own_pick_d84 : decode method_2_code 84 = .ok (.bipush 9, 2) := by decide +kernel
theorem own_pick_d86 : decode method_2_code 86 = .ok (.if_icmp .ne 7, 3) := by decide +kernel
theorem own_pick_d89 : decode method_2_code 89 = .ok (.getstatic 37, 3) := by decide +kernel
theorem own_pick_d92 : decode method_2_code 92 = .ok (.areturn, 1) := by decide +kernel
theorem own_pick_d93 : decode method_2_code 93 = .ok (.iload_n 0, 1) := by decide +kernel
theorem own_pick_d94 : decode method_2_code 94 = .ok (.bipush 10, 2) := by decide +kernel
theorem own_pick_d96 : decode method_2_code 96 = .ok (.if_icmp .ne 7, 3) := by decide +kernel
theorem own_pick_d99 : decode method_2_code 99 = .ok (.getstatic 40, 3) := by decide +kernel
theorem own_pick_d102 : decode method_2_code 102 = .ok (.areturn, 1) := by decide +kernel
theorem own_pick_d103 : decode method_2_code 103 = .ok (.getstatic 43, 3) := by decide +kernel
theorem own_pick_d106 : decode method_2_code 106 = .ok (.areturn, 1) := by decide +kernel
theorem own_pick_pn : plainName "com/example/pairwright/pairwright/model/ResultLostPinLaw" = true := by first | (simp [plainName, overriddenIn]; done) | decide +kernel
theorem own_pick_ef (m : MethodId) (x0 : Int32) : entryFrame m #[(.int x0)] 1 = mkF m 0 #[.val (.int x0)] [] := by first | (simp [entryFrame, mkF, argsToLocals, Value.category]; done) | rfl
def Q_own_pick (Z : State) (p1 : Int32) (z0 : Addr) (z1 : Addr) (z2 : Addr) (z3 : Addr) (z4 : Addr) (z5 : Addr) (z6 : Addr) (z7 : Addr) (z8 : Addr) (z9 : Addr) (z10 : Addr) (z11 : Addr) (h0 : Heap) (n0 : Nat) (v : Option Value) (h : Heap) (L : List Loc) : Prop := v = some (.ref (own_sel p1 z0 z1 z2 z3 z4 z5 z6 z7 z8 z9 z10 z11)) ∧ Fr n0 L ∧ h = h0
set_option maxRecDepth 65536 in
set_option maxHeartbeats 40000000 in
theorem own_pick (l : Launch) (Z : State) (a0 : Array Value) (hw : ∀ d ∈ tables_1, d.before a0 Z = true) (ws : List Jvm.Cond) (p1 : Int32) (z0 : Addr) (z1 : Addr) (z2 : Addr) (z3 : Addr) (z4 : Addr) (z5 : Addr) (z6 : Addr) (z7 : Addr) (z8 : Addr) (z9 : Addr) (z10 : Addr) (z11 : Addr) (h0 : Heap) (n0 : Nat) (Z0 : n0 ≤ h0.size) (S0 : Sta Z h0 "com/example/pairwright/pairwright/model/Result" "WIN" "Lcom/example/pairwright/pairwright/model/Result;" (.ref z0)) (S1 : Sta Z h0 "com/example/pairwright/pairwright/model/Result" "LOSS" "Lcom/example/pairwright/pairwright/model/Result;" (.ref z1)) (S2 : Sta Z h0 "com/example/pairwright/pairwright/model/Result" "DRAW" "Lcom/example/pairwright/pairwright/model/Result;" (.ref z2)) (S3 : Sta Z h0 "com/example/pairwright/pairwright/model/Result" "SHORT_WIN" "Lcom/example/pairwright/pairwright/model/Result;" (.ref z3)) (S4 : Sta Z h0 "com/example/pairwright/pairwright/model/Result" "SHORT_LOSS" "Lcom/example/pairwright/pairwright/model/Result;" (.ref z4)) (S5 : Sta Z h0 "com/example/pairwright/pairwright/model/Result" "SHORT_DRAW" "Lcom/example/pairwright/pairwright/model/Result;" (.ref z5)) (S6 : Sta Z h0 "com/example/pairwright/pairwright/model/Result" "FORFEIT_WIN" "Lcom/example/pairwright/pairwright/model/Result;" (.ref z6)) (S7 : Sta Z h0 "com/example/pairwright/pairwright/model/Result" "FORFEIT_LOSS" "Lcom/example/pairwright/pairwright/model/Result;" (.ref z7)) (S8 : Sta Z h0 "com/example/pairwright/pairwright/model/Result" "HALF_POINT_BYE" "Lcom/example/pairwright/pairwright/model/Result;" (.ref z8)) (S9 : Sta Z h0 "com/example/pairwright/pairwright/model/Result" "FULL_POINT_BYE" "Lcom/example/pairwright/pairwright/model/Result;" (.ref z9)) (S10 : Sta Z h0 "com/example/pairwright/pairwright/model/Result" "PAIRING_ALLOCATED_BYE" "Lcom/example/pairwright/pairwright/model/Result;" (.ref z10)) (S11 : Sta Z h0 "com/example/pairwright/pairwright/model/Result" "NOT_PAIRED" "Lcom/example/pairwright/pairwright/model/Result;" (.ref z11)) :
    MetFree l (⟨"com/example/pairwright/pairwright/model/ResultLostPinLaw", "pick", "(I)Lcom/example/pairwright/pairwright/model/Result;"⟩ : MethodName) (head1 (Jvm.Cond.code (⟨"com/example/pairwright/pairwright/model/ResultLostPinLaw", "pick", "(I)Lcom/example/pairwright/pairwright/model/Result;"⟩ : MethodName) method_2_code 1 (some (.object "com/example/pairwright/pairwright/model/Result")) :: ws) ({ frames := 0, cells := 0, slots := 0, locals := 0 } : Room)) (fun a U => a = #[(.int p1)] ∧ Z.Warmed39 U.vm ∧ U.heap = h0) (fun _ _ _ _ _ => True) (fun _ U o U' => ∃ v L, o = .returned v ∧ Q_own_pick Z p1 z0 z1 z2 z3 z4 z5 z6 z7 z8 z9 z10 z11 h0 n0 v U'.heap L ∧ FrameEnd U o U' L ({ frames := 0, cells := 0, slots := 0, locals := 0 } : Room).cells ({ frames := 0, cells := 0, slots := 0, locals := 0 } : Room).slots) := by
  refine MetFree.of_bodySF (plainFor_of_name own_pick_pn) hisR ?_
  intro p e s m args below meth c s₁ Bd hml0 hP hK
  obtain ⟨rfl, hZ, hh⟩ := hP
  have hx := Bd.exec
  have hby := Bd.bytes
  have hml : c.maxLocals = 1 := hml0
  have hown : s.vm.findClass "com/example/pairwright/pairwright/model/ResultLostPinLaw" = some m.cls := findClass_of_methodNamed Bd.named
  have hnm := (name_of_methodNamed Bd.named Bd.method).1
  have X0 : Stand p l e ({ frames := 0, cells := 0, slots := 0, locals := 0 } : Room) s m #[(.int p1)] below meth c s₁ [] 0 0 := Stand.of_body Bd
  have e0 : s₁.heap = h0 := by rw [← hh, Bd.state]; rfl
  have N0 := Fr.nil n0
  have pp0 : ∀ t, Steps p.tables e below (s₁.setTop (mkF m 0 #[.val (.int p1)] [])) t → Steps p.tables e below (s₁.setTop (entryFrame m #[(.int p1)] 1)) t := fun t k => castTop (own_pick_ef m p1) k
  have pp101 : ∀ t, Steps p.tables e below (s₁.setTop (mkF m 1 #[.val (.int p1)] [(.int p1)])) t → Steps p.tables e below (s₁.setTop (entryFrame m #[(.int p1)] 1)) t := fun t k => pp0 t (by
    refine XS.iloadN X0.here hx rfl (hb hby own_pick_d0) rfl ?_
    show Steps p.tables e below (s₁.setTop (mkF m 1 #[.val (.int p1)] [(.int p1)])) _
    exact k)
  by_cases hc0 : p1 = (0 : Int32)
  · have pp102 : ∀ t, Steps p.tables e below (s₁.setTop (mkF m 4 #[.val (.int p1)] [])) t → Steps p.tables e below (s₁.setTop (entryFrame m #[(.int p1)] 1)) t := fun t k => pp101 t (by
      refine XS.ifNo X0.here hx rfl (hb hby own_pick_d1) rfl ((if0 _ _).trans (teq hc0).2) ?_
      show Steps p.tables e below (s₁.setTop (mkF m 4 #[.val (.int p1)] [])) _
      exact k)
    obtain ⟨T103, X103, e103, st103⟩ := getS2 X0 hx hZ hown (host := "") (Or.inl (hw _ (List.mem_of_getElem? (i := 5) rfl))) Via.refl e0 S0 (g := (mkF m 4 #[.val (.int p1)] [])) rfl (hb hby own_pick_d4)
    have pp104 : ∀ t, Steps p.tables e below (T103.setTop (mkF m 7 #[.val (.int p1)] [(.ref z0)])) t → Steps p.tables e below (s₁.setTop (entryFrame m #[(.int p1)] 1)) t := fun t k => pp102 t (st103 t k)
    obtain ⟨fs, hr, hrun, hended, hW, hsame⟩ := X103.leave (v := some (.ref z0)) (fun h => by rw [Bd.returns] at h; cases h)
    refine ⟨_, _, pp104 _ ?_, hrun, hended, _, _, rfl, ?_, ⟨_, rfl⟩, hW, hsame.mono (by decide) (by decide)⟩
    · exact retOut X103 hx Bd.returns rfl (Or.inr (Or.inr (Or.inr (Or.inr ⟨rfl, rfl, rfl⟩)))) (hb hby own_pick_d7) hr
    · show Q_own_pick Z p1 z0 z1 z2 z3 z4 z5 z6 z7 z8 z9 z10 z11 h0 n0 _ T103.heap _
      rw [e103]
      exact ⟨by rw [own_sel, if_pos hc0], N0, rfl⟩
  · have pp105 : ∀ t, Steps p.tables e below (s₁.setTop (mkF m 10 #[.val (.int p1)] [(.int (1 : Int32)), (.int p1)])) t → Steps p.tables e below (s₁.setTop (entryFrame m #[(.int p1)] 1)) t := fun t k => pp101 t (by
      refine XS.ifYes X0.here hx rfl (pc0 := 1) (pc' := 8) rfl (hb hby own_pick_d1) rfl ((if0 _ _).trans (feq hc0).2) (by decide) (by decide) ?_
      show Steps p.tables e below (s₁.setTop (mkF m 8 #[.val (.int p1)] [])) _
      refine XS.iloadN X0.here hx rfl (hb hby own_pick_d8) rfl ?_
      show Steps p.tables e below (s₁.setTop (mkF m 9 #[.val (.int p1)] [(.int p1)])) _
      refine XS.iconst X0.here hx rfl (hb hby own_pick_d9) ?_
      show Steps p.tables e below (s₁.setTop (mkF m 10 #[.val (.int p1)] [(.int (1 : Int32)), (.int p1)])) _
      exact k)
    by_cases hc1 : p1 = (1 : Int32)
    · have pp106 : ∀ t, Steps p.tables e below (s₁.setTop (mkF m 13 #[.val (.int p1)] [])) t → Steps p.tables e below (s₁.setTop (entryFrame m #[(.int p1)] 1)) t := fun t k => pp105 t (by
        refine XS.icmpNo X0.here hx rfl (hb hby own_pick_d10) rfl (teq hc1).2 ?_
        show Steps p.tables e below (s₁.setTop (mkF m 13 #[.val (.int p1)] [])) _
        exact k)
      obtain ⟨T107, X107, e107, st107⟩ := getS2 X0 hx hZ hown (host := "") (Or.inl (hw _ (List.mem_of_getElem? (i := 49) rfl))) Via.refl e0 S1 (g := (mkF m 13 #[.val (.int p1)] [])) rfl (hb hby own_pick_d13)
      have pp108 : ∀ t, Steps p.tables e below (T107.setTop (mkF m 16 #[.val (.int p1)] [(.ref z1)])) t → Steps p.tables e below (s₁.setTop (entryFrame m #[(.int p1)] 1)) t := fun t k => pp106 t (st107 t k)
      obtain ⟨fs, hr, hrun, hended, hW, hsame⟩ := X107.leave (v := some (.ref z1)) (fun h => by rw [Bd.returns] at h; cases h)
      refine ⟨_, _, pp108 _ ?_, hrun, hended, _, _, rfl, ?_, ⟨_, rfl⟩, hW, hsame.mono (by decide) (by decide)⟩
      · exact retOut X107 hx Bd.returns rfl (Or.inr (Or.inr (Or.inr (Or.inr ⟨rfl, rfl, rfl⟩)))) (hb hby own_pick_d16) hr
      · show Q_own_pick Z p1 z0 z1 z2 z3 z4 z5 z6 z7 z8 z9 z10 z11 h0 n0 _ T107.heap _
        rw [e107]
        exact ⟨by rw [own_sel, if_neg hc0, if_pos hc1], N0, rfl⟩
    · have pp109 : ∀ t, Steps p.tables e below (s₁.setTop (mkF m 19 #[.val (.int p1)] [(.int (2 : Int32)), (.int p1)])) t → Steps p.tables e below (s₁.setTop (entryFrame m #[(.int p1)] 1)) t := fun t k => pp105 t (by
        refine XS.icmpYes X0.here hx rfl (pc0 := 10) (pc' := 17) rfl (hb hby own_pick_d10) rfl (feq hc1).2 (by decide) (by decide) ?_
        show Steps p.tables e below (s₁.setTop (mkF m 17 #[.val (.int p1)] [])) _
        refine XS.iloadN X0.here hx rfl (hb hby own_pick_d17) rfl ?_
        show Steps p.tables e below (s₁.setTop (mkF m 18 #[.val (.int p1)] [(.int p1)])) _
        refine XS.iconst X0.here hx rfl (hb hby own_pick_d18) ?_
        show Steps p.tables e below (s₁.setTop (mkF m 19 #[.val (.int p1)] [(.int (2 : Int32)), (.int p1)])) _
        exact k)
      by_cases hc2 : p1 = (2 : Int32)
      · have pp110 : ∀ t, Steps p.tables e below (s₁.setTop (mkF m 22 #[.val (.int p1)] [])) t → Steps p.tables e below (s₁.setTop (entryFrame m #[(.int p1)] 1)) t := fun t k => pp109 t (by
          refine XS.icmpNo X0.here hx rfl (hb hby own_pick_d19) rfl (teq hc2).2 ?_
          show Steps p.tables e below (s₁.setTop (mkF m 22 #[.val (.int p1)] [])) _
          exact k)
        obtain ⟨T111, X111, e111, st111⟩ := getS2 X0 hx hZ hown (host := "") (Or.inl (hw _ (List.mem_of_getElem? (i := 26) rfl))) Via.refl e0 S2 (g := (mkF m 22 #[.val (.int p1)] [])) rfl (hb hby own_pick_d22)
        have pp112 : ∀ t, Steps p.tables e below (T111.setTop (mkF m 25 #[.val (.int p1)] [(.ref z2)])) t → Steps p.tables e below (s₁.setTop (entryFrame m #[(.int p1)] 1)) t := fun t k => pp110 t (st111 t k)
        obtain ⟨fs, hr, hrun, hended, hW, hsame⟩ := X111.leave (v := some (.ref z2)) (fun h => by rw [Bd.returns] at h; cases h)
        refine ⟨_, _, pp112 _ ?_, hrun, hended, _, _, rfl, ?_, ⟨_, rfl⟩, hW, hsame.mono (by decide) (by decide)⟩
        · exact retOut X111 hx Bd.returns rfl (Or.inr (Or.inr (Or.inr (Or.inr ⟨rfl, rfl, rfl⟩)))) (hb hby own_pick_d25) hr
        · show Q_own_pick Z p1 z0 z1 z2 z3 z4 z5 z6 z7 z8 z9 z10 z11 h0 n0 _ T111.heap _
          rw [e111]
          exact ⟨by rw [own_sel, if_neg hc0, if_neg hc1, if_pos hc2], N0, rfl⟩
      · have pp113 : ∀ t, Steps p.tables e below (s₁.setTop (mkF m 28 #[.val (.int p1)] [(.int (3 : Int32)), (.int p1)])) t → Steps p.tables e below (s₁.setTop (entryFrame m #[(.int p1)] 1)) t := fun t k => pp109 t (by
          refine XS.icmpYes X0.here hx rfl (pc0 := 19) (pc' := 26) rfl (hb hby own_pick_d19) rfl (feq hc2).2 (by decide) (by decide) ?_
          show Steps p.tables e below (s₁.setTop (mkF m 26 #[.val (.int p1)] [])) _
          refine XS.iloadN X0.here hx rfl (hb hby own_pick_d26) rfl ?_
          show Steps p.tables e below (s₁.setTop (mkF m 27 #[.val (.int p1)] [(.int p1)])) _
          refine XS.iconst X0.here hx rfl (hb hby own_pick_d27) ?_
          show Steps p.tables e below (s₁.setTop (mkF m 28 #[.val (.int p1)] [(.int (3 : Int32)), (.int p1)])) _
          exact k)
        by_cases hc3 : p1 = (3 : Int32)
        · have pp114 : ∀ t, Steps p.tables e below (s₁.setTop (mkF m 31 #[.val (.int p1)] [])) t → Steps p.tables e below (s₁.setTop (entryFrame m #[(.int p1)] 1)) t := fun t k => pp113 t (by
            refine XS.icmpNo X0.here hx rfl (hb hby own_pick_d28) rfl (teq hc3).2 ?_
            show Steps p.tables e below (s₁.setTop (mkF m 31 #[.val (.int p1)] [])) _
            exact k)
          obtain ⟨T115, X115, e115, st115⟩ := getS2 X0 hx hZ hown (host := "") (Or.inl (hw _ (List.mem_of_getElem? (i := 24) rfl))) Via.refl e0 S3 (g := (mkF m 31 #[.val (.int p1)] [])) rfl (hb hby own_pick_d31)
          have pp116 : ∀ t, Steps p.tables e below (T115.setTop (mkF m 34 #[.val (.int p1)] [(.ref z3)])) t → Steps p.tables e below (s₁.setTop (entryFrame m #[(.int p1)] 1)) t := fun t k => pp114 t (st115 t k)
          obtain ⟨fs, hr, hrun, hended, hW, hsame⟩ := X115.leave (v := some (.ref z3)) (fun h => by rw [Bd.returns] at h; cases h)
          refine ⟨_, _, pp116 _ ?_, hrun, hended, _, _, rfl, ?_, ⟨_, rfl⟩, hW, hsame.mono (by decide) (by decide)⟩
          · exact retOut X115 hx Bd.returns rfl (Or.inr (Or.inr (Or.inr (Or.inr ⟨rfl, rfl, rfl⟩)))) (hb hby own_pick_d34) hr
          · show Q_own_pick Z p1 z0 z1 z2 z3 z4 z5 z6 z7 z8 z9 z10 z11 h0 n0 _ T115.heap _
            rw [e115]
            exact ⟨by rw [own_sel, if_neg hc0, if_neg hc1, if_neg hc2, if_pos hc3], N0, rfl⟩
        · have pp117 : ∀ t, Steps p.tables e below (s₁.setTop (mkF m 37 #[.val (.int p1)] [(.int (4 : Int32)), (.int p1)])) t → Steps p.tables e below (s₁.setTop (entryFrame m #[(.int p1)] 1)) t := fun t k => pp113 t (by
            refine XS.icmpYes X0.here hx rfl (pc0 := 28) (pc' := 35) rfl (hb hby own_pick_d28) rfl (feq hc3).2 (by decide) (by decide) ?_
            show Steps p.tables e below (s₁.setTop (mkF m 35 #[.val (.int p1)] [])) _
            refine XS.iloadN X0.here hx rfl (hb hby own_pick_d35) rfl ?_
            show Steps p.tables e below (s₁.setTop (mkF m 36 #[.val (.int p1)] [(.int p1)])) _
            refine XS.iconst X0.here hx rfl (hb hby own_pick_d36) ?_
            show Steps p.tables e below (s₁.setTop (mkF m 37 #[.val (.int p1)] [(.int (4 : Int32)), (.int p1)])) _
            exact k)
          by_cases hc4 : p1 = (4 : Int32)
          · have pp118 : ∀ t, Steps p.tables e below (s₁.setTop (mkF m 40 #[.val (.int p1)] [])) t → Steps p.tables e below (s₁.setTop (entryFrame m #[(.int p1)] 1)) t := fun t k => pp117 t (by
              refine XS.icmpNo X0.here hx rfl (hb hby own_pick_d37) rfl (teq hc4).2 ?_
              show Steps p.tables e below (s₁.setTop (mkF m 40 #[.val (.int p1)] [])) _
              exact k)
            obtain ⟨T119, X119, e119, st119⟩ := getS2 X0 hx hZ hown (host := "") (Or.inl (hw _ (List.mem_of_getElem? (i := 32) rfl))) Via.refl e0 S4 (g := (mkF m 40 #[.val (.int p1)] [])) rfl (hb hby own_pick_d40)
            have pp120 : ∀ t, Steps p.tables e below (T119.setTop (mkF m 43 #[.val (.int p1)] [(.ref z4)])) t → Steps p.tables e below (s₁.setTop (entryFrame m #[(.int p1)] 1)) t := fun t k => pp118 t (st119 t k)
            obtain ⟨fs, hr, hrun, hended, hW, hsame⟩ := X119.leave (v := some (.ref z4)) (fun h => by rw [Bd.returns] at h; cases h)
            refine ⟨_, _, pp120 _ ?_, hrun, hended, _, _, rfl, ?_, ⟨_, rfl⟩, hW, hsame.mono (by decide) (by decide)⟩
            · exact retOut X119 hx Bd.returns rfl (Or.inr (Or.inr (Or.inr (Or.inr ⟨rfl, rfl, rfl⟩)))) (hb hby own_pick_d43) hr
            · show Q_own_pick Z p1 z0 z1 z2 z3 z4 z5 z6 z7 z8 z9 z10 z11 h0 n0 _ T119.heap _
              rw [e119]
              exact ⟨by rw [own_sel, if_neg hc0, if_neg hc1, if_neg hc2, if_neg hc3, if_pos hc4], N0, rfl⟩
          · have pp121 : ∀ t, Steps p.tables e below (s₁.setTop (mkF m 46 #[.val (.int p1)] [(.int (5 : Int32)), (.int p1)])) t → Steps p.tables e below (s₁.setTop (entryFrame m #[(.int p1)] 1)) t := fun t k => pp117 t (by
              refine XS.icmpYes X0.here hx rfl (pc0 := 37) (pc' := 44) rfl (hb hby own_pick_d37) rfl (feq hc4).2 (by decide) (by decide) ?_
              show Steps p.tables e below (s₁.setTop (mkF m 44 #[.val (.int p1)] [])) _
              refine XS.iloadN X0.here hx rfl (hb hby own_pick_d44) rfl ?_
              show Steps p.tables e below (s₁.setTop (mkF m 45 #[.val (.int p1)] [(.int p1)])) _
              refine XS.iconst X0.here hx rfl (hb hby own_pick_d45) ?_
              show Steps p.tables e below (s₁.setTop (mkF m 46 #[.val (.int p1)] [(.int (5 : Int32)), (.int p1)])) _
              exact k)
            by_cases hc5 : p1 = (5 : Int32)
            · have pp122 : ∀ t, Steps p.tables e below (s₁.setTop (mkF m 49 #[.val (.int p1)] [])) t → Steps p.tables e below (s₁.setTop (entryFrame m #[(.int p1)] 1)) t := fun t k => pp121 t (by
                refine XS.icmpNo X0.here hx rfl (hb hby own_pick_d46) rfl (teq hc5).2 ?_
                show Steps p.tables e below (s₁.setTop (mkF m 49 #[.val (.int p1)] [])) _
                exact k)
              obtain ⟨T123, X123, e123, st123⟩ := getS2 X0 hx hZ hown (host := "") (Or.inl (hw _ (List.mem_of_getElem? (i := 56) rfl))) Via.refl e0 S5 (g := (mkF m 49 #[.val (.int p1)] [])) rfl (hb hby own_pick_d49)
              have pp124 : ∀ t, Steps p.tables e below (T123.setTop (mkF m 52 #[.val (.int p1)] [(.ref z5)])) t → Steps p.tables e below (s₁.setTop (entryFrame m #[(.int p1)] 1)) t := fun t k => pp122 t (st123 t k)
              obtain ⟨fs, hr, hrun, hended, hW, hsame⟩ := X123.leave (v := some (.ref z5)) (fun h => by rw [Bd.returns] at h; cases h)
              refine ⟨_, _, pp124 _ ?_, hrun, hended, _, _, rfl, ?_, ⟨_, rfl⟩, hW, hsame.mono (by decide) (by decide)⟩
              · exact retOut X123 hx Bd.returns rfl (Or.inr (Or.inr (Or.inr (Or.inr ⟨rfl, rfl, rfl⟩)))) (hb hby own_pick_d52) hr
              · show Q_own_pick Z p1 z0 z1 z2 z3 z4 z5 z6 z7 z8 z9 z10 z11 h0 n0 _ T123.heap _
                rw [e123]
                exact ⟨by rw [own_sel, if_neg hc0, if_neg hc1, if_neg hc2, if_neg hc3, if_neg hc4, if_pos hc5], N0, rfl⟩
            · have pp125 : ∀ t, Steps p.tables e below (s₁.setTop (mkF m 56 #[.val (.int p1)] [(.int (6 : Int32)), (.int p1)])) t → Steps p.tables e below (s₁.setTop (entryFrame m #[(.int p1)] 1)) t := fun t k => pp121 t (by
                refine XS.icmpYes X0.here hx rfl (pc0 := 46) (pc' := 53) rfl (hb hby own_pick_d46) rfl (feq hc5).2 (by decide) (by decide) ?_
                show Steps p.tables e below (s₁.setTop (mkF m 53 #[.val (.int p1)] [])) _
                refine XS.iloadN X0.here hx rfl (hb hby own_pick_d53) rfl ?_
                show Steps p.tables e below (s₁.setTop (mkF m 54 #[.val (.int p1)] [(.int p1)])) _
                refine XS.bipush X0.here hx rfl (hb hby own_pick_d54) ?_
                show Steps p.tables e below (s₁.setTop (mkF m 56 #[.val (.int p1)] [(.int (6 : Int32)), (.int p1)])) _
                exact k)
              by_cases hc6 : p1 = (6 : Int32)
              · have pp126 : ∀ t, Steps p.tables e below (s₁.setTop (mkF m 59 #[.val (.int p1)] [])) t → Steps p.tables e below (s₁.setTop (entryFrame m #[(.int p1)] 1)) t := fun t k => pp125 t (by
                  refine XS.icmpNo X0.here hx rfl (hb hby own_pick_d56) rfl (teq hc6).2 ?_
                  show Steps p.tables e below (s₁.setTop (mkF m 59 #[.val (.int p1)] [])) _
                  exact k)
                obtain ⟨T127, X127, e127, st127⟩ := getS2 X0 hx hZ hown (host := "") (Or.inl (hw _ (List.mem_of_getElem? (i := 54) rfl))) Via.refl e0 S6 (g := (mkF m 59 #[.val (.int p1)] [])) rfl (hb hby own_pick_d59)
                have pp128 : ∀ t, Steps p.tables e below (T127.setTop (mkF m 62 #[.val (.int p1)] [(.ref z6)])) t → Steps p.tables e below (s₁.setTop (entryFrame m #[(.int p1)] 1)) t := fun t k => pp126 t (st127 t k)
                obtain ⟨fs, hr, hrun, hended, hW, hsame⟩ := X127.leave (v := some (.ref z6)) (fun h => by rw [Bd.returns] at h; cases h)
                refine ⟨_, _, pp128 _ ?_, hrun, hended, _, _, rfl, ?_, ⟨_, rfl⟩, hW, hsame.mono (by decide) (by decide)⟩
                · exact retOut X127 hx Bd.returns rfl (Or.inr (Or.inr (Or.inr (Or.inr ⟨rfl, rfl, rfl⟩)))) (hb hby own_pick_d62) hr
                · show Q_own_pick Z p1 z0 z1 z2 z3 z4 z5 z6 z7 z8 z9 z10 z11 h0 n0 _ T127.heap _
                  rw [e127]
                  exact ⟨by rw [own_sel, if_neg hc0, if_neg hc1, if_neg hc2, if_neg hc3, if_neg hc4, if_neg hc5, if_pos hc6], N0, rfl⟩
              · have pp129 : ∀ t, Steps p.tables e below (s₁.setTop (mkF m 66 #[.val (.int p1)] [(.int (7 : Int32)), (.int p1)])) t → Steps p.tables e below (s₁.setTop (entryFrame m #[(.int p1)] 1)) t := fun t k => pp125 t (by
                  refine XS.icmpYes X0.here hx rfl (pc0 := 56) (pc' := 63) rfl (hb hby own_pick_d56) rfl (feq hc6).2 (by decide) (by decide) ?_
                  show Steps p.tables e below (s₁.setTop (mkF m 63 #[.val (.int p1)] [])) _
                  refine XS.iloadN X0.here hx rfl (hb hby own_pick_d63) rfl ?_
                  show Steps p.tables e below (s₁.setTop (mkF m 64 #[.val (.int p1)] [(.int p1)])) _
                  refine XS.bipush X0.here hx rfl (hb hby own_pick_d64) ?_
                  show Steps p.tables e below (s₁.setTop (mkF m 66 #[.val (.int p1)] [(.int (7 : Int32)), (.int p1)])) _
                  exact k)
                by_cases hc7 : p1 = (7 : Int32)
                · have pp130 : ∀ t, Steps p.tables e below (s₁.setTop (mkF m 69 #[.val (.int p1)] [])) t → Steps p.tables e below (s₁.setTop (entryFrame m #[(.int p1)] 1)) t := fun t k => pp129 t (by
                    refine XS.icmpNo X0.here hx rfl (hb hby own_pick_d66) rfl (teq hc7).2 ?_
                    show Steps p.tables e below (s₁.setTop (mkF m 69 #[.val (.int p1)] [])) _
                    exact k)
                  obtain ⟨T131, X131, e131, st131⟩ := getS2 X0 hx hZ hown (host := "") (Or.inl (hw _ (List.mem_of_getElem? (i := 28) rfl))) Via.refl e0 S7 (g := (mkF m 69 #[.val (.int p1)] [])) rfl (hb hby own_pick_d69)
                  have pp132 : ∀ t, Steps p.tables e below (T131.setTop (mkF m 72 #[.val (.int p1)] [(.ref z7)])) t → Steps p.tables e below (s₁.setTop (entryFrame m #[(.int p1)] 1)) t := fun t k => pp130 t (st131 t k)
                  obtain ⟨fs, hr, hrun, hended, hW, hsame⟩ := X131.leave (v := some (.ref z7)) (fun h => by rw [Bd.returns] at h; cases h)
                  refine ⟨_, _, pp132 _ ?_, hrun, hended, _, _, rfl, ?_, ⟨_, rfl⟩, hW, hsame.mono (by decide) (by decide)⟩
                  · exact retOut X131 hx Bd.returns rfl (Or.inr (Or.inr (Or.inr (Or.inr ⟨rfl, rfl, rfl⟩)))) (hb hby own_pick_d72) hr
                  · show Q_own_pick Z p1 z0 z1 z2 z3 z4 z5 z6 z7 z8 z9 z10 z11 h0 n0 _ T131.heap _
                    rw [e131]
                    exact ⟨by rw [own_sel, if_neg hc0, if_neg hc1, if_neg hc2, if_neg hc3, if_neg hc4, if_neg hc5, if_neg hc6, if_pos hc7], N0, rfl⟩
                · have pp133 : ∀ t, Steps p.tables e below (s₁.setTop (mkF m 76 #[.val (.int p1)] [(.int (8 : Int32)), (.int p1)])) t → Steps p.tables e below (s₁.setTop (entryFrame m #[(.int p1)] 1)) t := fun t k => pp129 t (by
                    refine XS.icmpYes X0.here hx rfl (pc0 := 66) (pc' := 73) rfl (hb hby own_pick_d66) rfl (feq hc7).2 (by decide) (by decide) ?_
                    show Steps p.tables e below (s₁.setTop (mkF m 73 #[.val (.int p1)] [])) _
                    refine XS.iloadN X0.here hx rfl (hb hby own_pick_d73) rfl ?_
                    show Steps p.tables e below (s₁.setTop (mkF m 74 #[.val (.int p1)] [(.int p1)])) _
                    refine XS.bipush X0.here hx rfl (hb hby own_pick_d74) ?_
                    show Steps p.tables e below (s₁.setTop (mkF m 76 #[.val (.int p1)] [(.int (8 : Int32)), (.int p1)])) _
                    exact k)
                  by_cases hc8 : p1 = (8 : Int32)
                  · have pp134 : ∀ t, Steps p.tables e below (s₁.setTop (mkF m 79 #[.val (.int p1)] [])) t → Steps p.tables e below (s₁.setTop (entryFrame m #[(.int p1)] 1)) t := fun t k => pp133 t (by
                      refine XS.icmpNo X0.here hx rfl (hb hby own_pick_d76) rfl (teq hc8).2 ?_
                      show Steps p.tables e below (s₁.setTop (mkF m 79 #[.val (.int p1)] [])) _
                      exact k)
                    obtain ⟨T135, X135, e135, st135⟩ := getS2 X0 hx hZ hown (host := "") (Or.inl (hw _ (List.mem_of_getElem? (i := 47) rfl))) Via.refl e0 S8 (g := (mkF m 79 #[.val (.int p1)] [])) rfl (hb hby own_pick_d79)
                    have pp136 : ∀ t, Steps p.tables e below (T135.setTop (mkF m 82 #[.val (.int p1)] [(.ref z8)])) t → Steps p.tables e below (s₁.setTop (entryFrame m #[(.int p1)] 1)) t := fun t k => pp134 t (st135 t k)
                    obtain ⟨fs, hr, hrun, hended, hW, hsame⟩ := X135.leave (v := some (.ref z8)) (fun h => by rw [Bd.returns] at h; cases h)
                    refine ⟨_, _, pp136 _ ?_, hrun, hended, _, _, rfl, ?_, ⟨_, rfl⟩, hW, hsame.mono (by decide) (by decide)⟩
                    · exact retOut X135 hx Bd.returns rfl (Or.inr (Or.inr (Or.inr (Or.inr ⟨rfl, rfl, rfl⟩)))) (hb hby own_pick_d82) hr
                    · show Q_own_pick Z p1 z0 z1 z2 z3 z4 z5 z6 z7 z8 z9 z10 z11 h0 n0 _ T135.heap _
                      rw [e135]
                      exact ⟨by rw [own_sel, if_neg hc0, if_neg hc1, if_neg hc2, if_neg hc3, if_neg hc4, if_neg hc5, if_neg hc6, if_neg hc7, if_pos hc8], N0, rfl⟩
                  · have pp137 : ∀ t, Steps p.tables e below (s₁.setTop (mkF m 86 #[.val (.int p1)] [(.int (9 : Int32)), (.int p1)])) t → Steps p.tables e below (s₁.setTop (entryFrame m #[(.int p1)] 1)) t := fun t k => pp133 t (by
                      refine XS.icmpYes X0.here hx rfl (pc0 := 76) (pc' := 83) rfl (hb hby own_pick_d76) rfl (feq hc8).2 (by decide) (by decide) ?_
                      show Steps p.tables e below (s₁.setTop (mkF m 83 #[.val (.int p1)] [])) _
                      refine XS.iloadN X0.here hx rfl (hb hby own_pick_d83) rfl ?_
                      show Steps p.tables e below (s₁.setTop (mkF m 84 #[.val (.int p1)] [(.int p1)])) _
                      refine XS.bipush X0.here hx rfl (hb hby own_pick_d84) ?_
                      show Steps p.tables e below (s₁.setTop (mkF m 86 #[.val (.int p1)] [(.int (9 : Int32)), (.int p1)])) _
                      exact k)
                    by_cases hc9 : p1 = (9 : Int32)
                    · have pp138 : ∀ t, Steps p.tables e below (s₁.setTop (mkF m 89 #[.val (.int p1)] [])) t → Steps p.tables e below (s₁.setTop (entryFrame m #[(.int p1)] 1)) t := fun t k => pp137 t (by
                        refine XS.icmpNo X0.here hx rfl (hb hby own_pick_d86) rfl (teq hc9).2 ?_
                        show Steps p.tables e below (s₁.setTop (mkF m 89 #[.val (.int p1)] [])) _
                        exact k)
                      obtain ⟨T139, X139, e139, st139⟩ := getS2 X0 hx hZ hown (host := "") (Or.inl (hw _ (List.mem_of_getElem? (i := 52) rfl))) Via.refl e0 S9 (g := (mkF m 89 #[.val (.int p1)] [])) rfl (hb hby own_pick_d89)
                      have pp140 : ∀ t, Steps p.tables e below (T139.setTop (mkF m 92 #[.val (.int p1)] [(.ref z9)])) t → Steps p.tables e below (s₁.setTop (entryFrame m #[(.int p1)] 1)) t := fun t k => pp138 t (st139 t k)
                      obtain ⟨fs, hr, hrun, hended, hW, hsame⟩ := X139.leave (v := some (.ref z9)) (fun h => by rw [Bd.returns] at h; cases h)
                      refine ⟨_, _, pp140 _ ?_, hrun, hended, _, _, rfl, ?_, ⟨_, rfl⟩, hW, hsame.mono (by decide) (by decide)⟩
                      · exact retOut X139 hx Bd.returns rfl (Or.inr (Or.inr (Or.inr (Or.inr ⟨rfl, rfl, rfl⟩)))) (hb hby own_pick_d92) hr
                      · show Q_own_pick Z p1 z0 z1 z2 z3 z4 z5 z6 z7 z8 z9 z10 z11 h0 n0 _ T139.heap _
                        rw [e139]
                        exact ⟨by rw [own_sel, if_neg hc0, if_neg hc1, if_neg hc2, if_neg hc3, if_neg hc4, if_neg hc5, if_neg hc6, if_neg hc7, if_neg hc8, if_pos hc9], N0, rfl⟩
                    · have pp141 : ∀ t, Steps p.tables e below (s₁.setTop (mkF m 96 #[.val (.int p1)] [(.int (10 : Int32)), (.int p1)])) t → Steps p.tables e below (s₁.setTop (entryFrame m #[(.int p1)] 1)) t := fun t k => pp137 t (by
                        refine XS.icmpYes X0.here hx rfl (pc0 := 86) (pc' := 93) rfl (hb hby own_pick_d86) rfl (feq hc9).2 (by decide) (by decide) ?_
                        show Steps p.tables e below (s₁.setTop (mkF m 93 #[.val (.int p1)] [])) _
                        refine XS.iloadN X0.here hx rfl (hb hby own_pick_d93) rfl ?_
                        show Steps p.tables e below (s₁.setTop (mkF m 94 #[.val (.int p1)] [(.int p1)])) _
                        refine XS.bipush X0.here hx rfl (hb hby own_pick_d94) ?_
                        show Steps p.tables e below (s₁.setTop (mkF m 96 #[.val (.int p1)] [(.int (10 : Int32)), (.int p1)])) _
                        exact k)
                      by_cases hc10 : p1 = (10 : Int32)
                      · have pp142 : ∀ t, Steps p.tables e below (s₁.setTop (mkF m 99 #[.val (.int p1)] [])) t → Steps p.tables e below (s₁.setTop (entryFrame m #[(.int p1)] 1)) t := fun t k => pp141 t (by
                          refine XS.icmpNo X0.here hx rfl (hb hby own_pick_d96) rfl (teq hc10).2 ?_
                          show Steps p.tables e below (s₁.setTop (mkF m 99 #[.val (.int p1)] [])) _
                          exact k)
                        obtain ⟨T143, X143, e143, st143⟩ := getS2 X0 hx hZ hown (host := "") (Or.inl (hw _ (List.mem_of_getElem? (i := 50) rfl))) Via.refl e0 S10 (g := (mkF m 99 #[.val (.int p1)] [])) rfl (hb hby own_pick_d99)
                        have pp144 : ∀ t, Steps p.tables e below (T143.setTop (mkF m 102 #[.val (.int p1)] [(.ref z10)])) t → Steps p.tables e below (s₁.setTop (entryFrame m #[(.int p1)] 1)) t := fun t k => pp142 t (st143 t k)
                        obtain ⟨fs, hr, hrun, hended, hW, hsame⟩ := X143.leave (v := some (.ref z10)) (fun h => by rw [Bd.returns] at h; cases h)
                        refine ⟨_, _, pp144 _ ?_, hrun, hended, _, _, rfl, ?_, ⟨_, rfl⟩, hW, hsame.mono (by decide) (by decide)⟩
                        · exact retOut X143 hx Bd.returns rfl (Or.inr (Or.inr (Or.inr (Or.inr ⟨rfl, rfl, rfl⟩)))) (hb hby own_pick_d102) hr
                        · show Q_own_pick Z p1 z0 z1 z2 z3 z4 z5 z6 z7 z8 z9 z10 z11 h0 n0 _ T143.heap _
                          rw [e143]
                          exact ⟨by rw [own_sel, if_neg hc0, if_neg hc1, if_neg hc2, if_neg hc3, if_neg hc4, if_neg hc5, if_neg hc6, if_neg hc7, if_neg hc8, if_neg hc9, if_pos hc10], N0, rfl⟩
                      · have pp145 : ∀ t, Steps p.tables e below (s₁.setTop (mkF m 103 #[.val (.int p1)] [])) t → Steps p.tables e below (s₁.setTop (entryFrame m #[(.int p1)] 1)) t := fun t k => pp141 t (by
                          refine XS.icmpYes X0.here hx rfl (pc0 := 96) (pc' := 103) rfl (hb hby own_pick_d96) rfl (feq hc10).2 (by decide) (by decide) ?_
                          show Steps p.tables e below (s₁.setTop (mkF m 103 #[.val (.int p1)] [])) _
                          exact k)
                        obtain ⟨T146, X146, e146, st146⟩ := getS2 X0 hx hZ hown (host := "") (Or.inl (hw _ (List.mem_of_getElem? (i := 30) rfl))) Via.refl e0 S11 (g := (mkF m 103 #[.val (.int p1)] [])) rfl (hb hby own_pick_d103)
                        have pp147 : ∀ t, Steps p.tables e below (T146.setTop (mkF m 106 #[.val (.int p1)] [(.ref z11)])) t → Steps p.tables e below (s₁.setTop (entryFrame m #[(.int p1)] 1)) t := fun t k => pp145 t (st146 t k)
                        obtain ⟨fs, hr, hrun, hended, hW, hsame⟩ := X146.leave (v := some (.ref z11)) (fun h => by rw [Bd.returns] at h; cases h)
                        refine ⟨_, _, pp147 _ ?_, hrun, hended, _, _, rfl, ?_, ⟨_, rfl⟩, hW, hsame.mono (by decide) (by decide)⟩
                        · exact retOut X146 hx Bd.returns rfl (Or.inr (Or.inr (Or.inr (Or.inr ⟨rfl, rfl, rfl⟩)))) (hb hby own_pick_d106) hr
                        · show Q_own_pick Z p1 z0 z1 z2 z3 z4 z5 z6 z7 z8 z9 z10 z11 h0 n0 _ T146.heap _
                          rw [e146]
                          exact ⟨by rw [own_sel, if_neg hc0, if_neg hc1, if_neg hc2, if_neg hc3, if_neg hc4, if_neg hc5, if_neg hc6, if_neg hc7, if_neg hc8, if_neg hc9, if_neg hc10], N0, rfl⟩
theorem pd__I_Lcom_example_pairwright_pairwright_model_Result_ : parseMethodDescriptor "(I)Lcom/example/pairwright/pairwright/model/Result;" = some ⟨[.int], some (.object "com/example/pairwright/pairwright/model/Result")⟩ := by decide +kernel
theorem pd___Z : parseMethodDescriptor "()Z" = some ⟨[], some .boolean⟩ := by decide +kernel
theorem pd___C : parseMethodDescriptor "()C" = some ⟨[], some .char⟩ := by decide +kernel
theorem own_law_pn : plainName "com/example/pairwright/pairwright/model/ResultLostPinLaw" = true := by first | (simp [plainName, overriddenIn]; done) | decide +kernel
theorem own_law_ef (m : MethodId) (x0 : Int32) : entryFrame m #[(.int x0)] maxLocals = mkF m 0 #[.val (.int x0), .unset, .unset, .unset, .unset, .unset, .unset, .unset] [] := by first | (simp [entryFrame, mkF, argsToLocals, Value.category, maxLocals]; done) | rfl
def Q_own_law (Z : State) (p1 : Int32) (z0 : Addr) (z1 : Addr) (z2 : Addr) (z3 : Addr) (z4 : Addr) (z5 : Addr) (z6 : Addr) (z7 : Addr) (z8 : Addr) (z9 : Addr) (z10 : Addr) (z11 : Addr) (h0 : Heap) (n0 : Nat) (v : Option Value) (h : Heap) (L : List Loc) : Prop := v = some (.int 1) ∧ Fr n0 L
set_option maxRecDepth 65536 in
set_option maxHeartbeats 40000000 in
theorem own_law (l : Launch) (Z : State) (a0 : Array Value) (hw : ∀ d ∈ tables_1, d.before a0 Z = true) (ws : List Jvm.Cond) (p1 : Int32) (z0 : Addr) (z1 : Addr) (z2 : Addr) (z3 : Addr) (z4 : Addr) (z5 : Addr) (z6 : Addr) (z7 : Addr) (z8 : Addr) (z9 : Addr) (z10 : Addr) (z11 : Addr) (h0 : Heap) (n0 : Nat) (Z0 : n0 ≤ h0.size) (S0 : Sta Z h0 "com/example/pairwright/pairwright/model/Result" "WIN" "Lcom/example/pairwright/pairwright/model/Result;" (.ref z0)) (E0 : Exa Z h0 z0 "com/example/pairwright/pairwright/model/Result") (C0 : Fld Z h0 z0 "com/example/pairwright/pairwright/model/Result" "code" "C" (.int (49 : Int32))) (P0 : Fld Z h0 z0 "com/example/pairwright/pairwright/model/Result" "played" "Z" (.int (1 : Int32))) (S1 : Sta Z h0 "com/example/pairwright/pairwright/model/Result" "LOSS" "Lcom/example/pairwright/pairwright/model/Result;" (.ref z1)) (E1 : Exa Z h0 z1 "com/example/pairwright/pairwright/model/Result") (C1 : Fld Z h0 z1 "com/example/pairwright/pairwright/model/Result" "code" "C" (.int (48 : Int32))) (P1 : Fld Z h0 z1 "com/example/pairwright/pairwright/model/Result" "played" "Z" (.int (1 : Int32))) (S2 : Sta Z h0 "com/example/pairwright/pairwright/model/Result" "DRAW" "Lcom/example/pairwright/pairwright/model/Result;" (.ref z2)) (E2 : Exa Z h0 z2 "com/example/pairwright/pairwright/model/Result") (C2 : Fld Z h0 z2 "com/example/pairwright/pairwright/model/Result" "code" "C" (.int (61 : Int32))) (P2 : Fld Z h0 z2 "com/example/pairwright/pairwright/model/Result" "played" "Z" (.int (1 : Int32))) (S3 : Sta Z h0 "com/example/pairwright/pairwright/model/Result" "SHORT_WIN" "Lcom/example/pairwright/pairwright/model/Result;" (.ref z3)) (E3 : Exa Z h0 z3 "com/example/pairwright/pairwright/model/Result") (C3 : Fld Z h0 z3 "com/example/pairwright/pairwright/model/Result" "code" "C" (.int (87 : Int32))) (P3 : Fld Z h0 z3 "com/example/pairwright/pairwright/model/Result" "played" "Z" (.int (1 : Int32))) (S4 : Sta Z h0 "com/example/pairwright/pairwright/model/Result" "SHORT_LOSS" "Lcom/example/pairwright/pairwright/model/Result;" (.ref z4)) (E4 : Exa Z h0 z4 "com/example/pairwright/pairwright/model/Result") (C4 : Fld Z h0 z4 "com/example/pairwright/pairwright/model/Result" "code" "C" (.int (76 : Int32))) (P4 : Fld Z h0 z4 "com/example/pairwright/pairwright/model/Result" "played" "Z" (.int (1 : Int32))) (S5 : Sta Z h0 "com/example/pairwright/pairwright/model/Result" "SHORT_DRAW" "Lcom/example/pairwright/pairwright/model/Result;" (.ref z5)) (E5 : Exa Z h0 z5 "com/example/pairwright/pairwright/model/Result") (C5 : Fld Z h0 z5 "com/example/pairwright/pairwright/model/Result" "code" "C" (.int (68 : Int32))) (P5 : Fld Z h0 z5 "com/example/pairwright/pairwright/model/Result" "played" "Z" (.int (1 : Int32))) (S6 : Sta Z h0 "com/example/pairwright/pairwright/model/Result" "FORFEIT_WIN" "Lcom/example/pairwright/pairwright/model/Result;" (.ref z6)) (E6 : Exa Z h0 z6 "com/example/pairwright/pairwright/model/Result") (C6 : Fld Z h0 z6 "com/example/pairwright/pairwright/model/Result" "code" "C" (.int (43 : Int32))) (P6 : Fld Z h0 z6 "com/example/pairwright/pairwright/model/Result" "played" "Z" (.int (0 : Int32))) (S7 : Sta Z h0 "com/example/pairwright/pairwright/model/Result" "FORFEIT_LOSS" "Lcom/example/pairwright/pairwright/model/Result;" (.ref z7)) (E7 : Exa Z h0 z7 "com/example/pairwright/pairwright/model/Result") (C7 : Fld Z h0 z7 "com/example/pairwright/pairwright/model/Result" "code" "C" (.int (45 : Int32))) (P7 : Fld Z h0 z7 "com/example/pairwright/pairwright/model/Result" "played" "Z" (.int (0 : Int32))) (S8 : Sta Z h0 "com/example/pairwright/pairwright/model/Result" "HALF_POINT_BYE" "Lcom/example/pairwright/pairwright/model/Result;" (.ref z8)) (E8 : Exa Z h0 z8 "com/example/pairwright/pairwright/model/Result") (C8 : Fld Z h0 z8 "com/example/pairwright/pairwright/model/Result" "code" "C" (.int (72 : Int32))) (P8 : Fld Z h0 z8 "com/example/pairwright/pairwright/model/Result" "played" "Z" (.int (0 : Int32))) (S9 : Sta Z h0 "com/example/pairwright/pairwright/model/Result" "FULL_POINT_BYE" "Lcom/example/pairwright/pairwright/model/Result;" (.ref z9)) (E9 : Exa Z h0 z9 "com/example/pairwright/pairwright/model/Result") (C9 : Fld Z h0 z9 "com/example/pairwright/pairwright/model/Result" "code" "C" (.int (70 : Int32))) (P9 : Fld Z h0 z9 "com/example/pairwright/pairwright/model/Result" "played" "Z" (.int (0 : Int32))) (S10 : Sta Z h0 "com/example/pairwright/pairwright/model/Result" "PAIRING_ALLOCATED_BYE" "Lcom/example/pairwright/pairwright/model/Result;" (.ref z10)) (E10 : Exa Z h0 z10 "com/example/pairwright/pairwright/model/Result") (C10 : Fld Z h0 z10 "com/example/pairwright/pairwright/model/Result" "code" "C" (.int (85 : Int32))) (P10 : Fld Z h0 z10 "com/example/pairwright/pairwright/model/Result" "played" "Z" (.int (0 : Int32))) (S11 : Sta Z h0 "com/example/pairwright/pairwright/model/Result" "NOT_PAIRED" "Lcom/example/pairwright/pairwright/model/Result;" (.ref z11)) (E11 : Exa Z h0 z11 "com/example/pairwright/pairwright/model/Result") (C11 : Fld Z h0 z11 "com/example/pairwright/pairwright/model/Result" "code" "C" (.int (90 : Int32))) (P11 : Fld Z h0 z11 "com/example/pairwright/pairwright/model/Result" "played" "Z" (.int (0 : Int32))) :
    MetFree l x (head1 (Jvm.Cond.code x code maxLocals ret :: ws) room_1) (fun a U => a = #[(.int p1)] ∧ Z.Warmed39 U.vm ∧ U.heap = h0) (fun _ _ _ _ _ => True) (fun _ U o U' => ∃ v L, o = .returned v ∧ Q_own_law Z p1 z0 z1 z2 z3 z4 z5 z6 z7 z8 z9 z10 z11 h0 n0 v U'.heap L ∧ FrameEnd U o U' L room_1.cells room_1.slots) := by
  refine MetFree.of_bodySF (plainFor_of_name own_law_pn) hisR ?_
  intro p e s m args below meth c s₁ Bd hml0 hP hK
  obtain ⟨rfl, hZ, hh⟩ := hP
  have hx := Bd.exec
  have hby := Bd.bytes
  have hml : c.maxLocals = 8 := hml0
  have hown : s.vm.findClass "com/example/pairwright/pairwright/model/ResultLostPinLaw" = some m.cls := findClass_of_methodNamed Bd.named
  have hnm := (name_of_methodNamed Bd.named Bd.method).1
  have X0 : Stand p l e room_1 s m #[(.int p1)] below meth c s₁ [] 0 0 := Stand.of_body Bd
  have e0 : s₁.heap = h0 := by rw [← hh, Bd.state]; rfl
  have N0 := Fr.nil n0
  have pp0 : ∀ t, Steps p.tables e below (s₁.setTop (mkF m 0 #[.val (.int p1), .unset, .unset, .unset, .unset, .unset, .unset, .unset] [])) t → Steps p.tables e below (s₁.setTop (entryFrame m #[(.int p1)] maxLocals)) t := fun t k => castTop (own_law_ef m p1) k
  have ne1_0 : z1 ≠ z0 := own_fne C1 C0 (by decide)
  have ne2_0 : z2 ≠ z0 := own_fne C2 C0 (by decide)
  have ne3_0 : z3 ≠ z0 := own_fne C3 C0 (by decide)
  have ne4_0 : z4 ≠ z0 := own_fne C4 C0 (by decide)
  have ne5_0 : z5 ≠ z0 := own_fne C5 C0 (by decide)
  have ne6_0 : z6 ≠ z0 := own_fne C6 C0 (by decide)
  have ne7_0 : z7 ≠ z0 := own_fne C7 C0 (by decide)
  have ne8_0 : z8 ≠ z0 := own_fne C8 C0 (by decide)
  have ne9_0 : z9 ≠ z0 := own_fne C9 C0 (by decide)
  have ne10_0 : z10 ≠ z0 := own_fne C10 C0 (by decide)
  have ne11_0 : z11 ≠ z0 := own_fne C11 C0 (by decide)
  have ne0_1 : z0 ≠ z1 := own_fne C0 C1 (by decide)
  have ne2_1 : z2 ≠ z1 := own_fne C2 C1 (by decide)
  have ne3_1 : z3 ≠ z1 := own_fne C3 C1 (by decide)
  have ne4_1 : z4 ≠ z1 := own_fne C4 C1 (by decide)
  have ne5_1 : z5 ≠ z1 := own_fne C5 C1 (by decide)
  have ne6_1 : z6 ≠ z1 := own_fne C6 C1 (by decide)
  have ne7_1 : z7 ≠ z1 := own_fne C7 C1 (by decide)
  have ne8_1 : z8 ≠ z1 := own_fne C8 C1 (by decide)
  have ne9_1 : z9 ≠ z1 := own_fne C9 C1 (by decide)
  have ne10_1 : z10 ≠ z1 := own_fne C10 C1 (by decide)
  have ne11_1 : z11 ≠ z1 := own_fne C11 C1 (by decide)
  have ne0_3 : z0 ≠ z3 := own_fne C0 C3 (by decide)
  have ne1_3 : z1 ≠ z3 := own_fne C1 C3 (by decide)
  have ne2_3 : z2 ≠ z3 := own_fne C2 C3 (by decide)
  have ne4_3 : z4 ≠ z3 := own_fne C4 C3 (by decide)
  have ne5_3 : z5 ≠ z3 := own_fne C5 C3 (by decide)
  have ne6_3 : z6 ≠ z3 := own_fne C6 C3 (by decide)
  have ne7_3 : z7 ≠ z3 := own_fne C7 C3 (by decide)
  have ne8_3 : z8 ≠ z3 := own_fne C8 C3 (by decide)
  have ne9_3 : z9 ≠ z3 := own_fne C9 C3 (by decide)
  have ne10_3 : z10 ≠ z3 := own_fne C10 C3 (by decide)
  have ne11_3 : z11 ≠ z3 := own_fne C11 C3 (by decide)
  have ne0_4 : z0 ≠ z4 := own_fne C0 C4 (by decide)
  have ne1_4 : z1 ≠ z4 := own_fne C1 C4 (by decide)
  have ne2_4 : z2 ≠ z4 := own_fne C2 C4 (by decide)
  have ne3_4 : z3 ≠ z4 := own_fne C3 C4 (by decide)
  have ne5_4 : z5 ≠ z4 := own_fne C5 C4 (by decide)
  have ne6_4 : z6 ≠ z4 := own_fne C6 C4 (by decide)
  have ne7_4 : z7 ≠ z4 := own_fne C7 C4 (by decide)
  have ne8_4 : z8 ≠ z4 := own_fne C8 C4 (by decide)
  have ne9_4 : z9 ≠ z4 := own_fne C9 C4 (by decide)
  have ne10_4 : z10 ≠ z4 := own_fne C10 C4 (by decide)
  have ne11_4 : z11 ≠ z4 := own_fne C11 C4 (by decide)
  have pp101 : ∀ t, Steps p.tables e below (s₁.setTop (mkF m 9 #[.val (.int p1), .val (.int ((p1 &&& (2147483647 : Int32)) % (12 : Int32))), .unset, .unset, .unset, .unset, .unset, .unset] [(.int ((p1 &&& (2147483647 : Int32)) % (12 : Int32)))])) t → Steps p.tables e below (s₁.setTop (entryFrame m #[(.int p1)] maxLocals)) t := fun t k => pp0 t (by
    refine XS.iloadN X0.here hx rfl (hb hby at_0) rfl ?_
    show Steps p.tables e below (s₁.setTop (mkF m 1 #[.val (.int p1), .unset, .unset, .unset, .unset, .unset, .unset, .unset] [(.int p1)])) _
    refine X0.ldcInt hx hown (mvT hZ (hw _ (List.mem_of_getElem? (i := 0) rfl))) (g := (mkF m 1 #[.val (.int p1), .unset, .unset, .unset, .unset, .unset, .unset, .unset] [(.int p1)])) rfl (hb hby at_1) _ ?_
    show Steps p.tables e below (s₁.setTop (mkF m 3 #[.val (.int p1), .unset, .unset, .unset, .unset, .unset, .unset, .unset] [(.int (2147483647 : Int32)), (.int p1)])) _
    refine XS.iand X0.here hx rfl (hb hby at_3) rfl ?_
    show Steps p.tables e below (s₁.setTop (mkF m 4 #[.val (.int p1), .unset, .unset, .unset, .unset, .unset, .unset, .unset] [(.int (p1 &&& (2147483647 : Int32)))])) _
    refine XS.bipush X0.here hx rfl (hb hby at_4) ?_
    show Steps p.tables e below (s₁.setTop (mkF m 6 #[.val (.int p1), .unset, .unset, .unset, .unset, .unset, .unset, .unset] [(.int (12 : Int32)), (.int (p1 &&& (2147483647 : Int32)))])) _
    refine iremM (g := (mkF m 6 #[.val (.int p1), .unset, .unset, .unset, .unset, .unset, .unset, .unset] [(.int (12 : Int32)), (.int (p1 &&& (2147483647 : Int32)))])) X0 hx rfl (hb hby at_6) rfl (by decide) ?_
    show Steps p.tables e below (s₁.setTop (mkF m 7 #[.val (.int p1), .unset, .unset, .unset, .unset, .unset, .unset, .unset] [(.int ((p1 &&& (2147483647 : Int32)) % (12 : Int32)))])) _
    refine XS.istoreN X0.here hx rfl (hb hby at_7) rfl (l' := #[.val (.int p1), .val (.int ((p1 &&& (2147483647 : Int32)) % (12 : Int32))), .unset, .unset, .unset, .unset, .unset, .unset]) rfl ?_
    show Steps p.tables e below (s₁.setTop (mkF m 8 #[.val (.int p1), .val (.int ((p1 &&& (2147483647 : Int32)) % (12 : Int32))), .unset, .unset, .unset, .unset, .unset, .unset] [])) _
    refine XS.iloadN X0.here hx rfl (hb hby at_8) rfl ?_
    show Steps p.tables e below (s₁.setTop (mkF m 9 #[.val (.int p1), .val (.int ((p1 &&& (2147483647 : Int32)) % (12 : Int32))), .unset, .unset, .unset, .unset, .unset, .unset] [(.int ((p1 &&& (2147483647 : Int32)) % (12 : Int32)))])) _
    exact k)
  generalize hkk : ((p1 &&& (2147483647 : Int32)) % (12 : Int32)) = kk at pp101
  have h12 := own_12 p1
  rw [hkk] at h12
  rcases h12 with rfl | rfl | rfl | rfl | rfl | rfl | rfl | rfl | rfl | rfl | rfl | rfl
  · obtain ⟨_, _, ⟨T102, L102, k102, n102⟩, -, X102, ⟨Lc102, hQ102, l102, y102, z102⟩, st102⟩ := Jvm.LawKit.callS X0 hx (y := (⟨"com/example/pairwright/pairwright/model/ResultLostPinLaw", "pick", "(I)Lcom/example/pairwright/pairwright/model/Result;"⟩ : MethodName)) hown (mvT hZ (hw _ (List.mem_of_getElem? (i := 1) rfl))) (mvT hZ (hw _ (List.mem_of_getElem? (i := 2) rfl))) (mvT hZ (hw _ (List.mem_of_getElem? (i := 3) rfl))) (mvT hZ (hw _ (List.mem_of_getElem? (i := 4) rfl))) (by decide) (backOf (W := 0) (own_pick l Z a0 hw [] (0 : Int32) z0 z1 z2 z3 z4 z5 z6 z7 z8 z9 z10 z11 h0 n0 Z0 S0 S1 S2 S3 S4 S5 S6 S7 S8 S9 S10 S11) hZ (hw _ (List.mem_of_getElem? (i := 4) rfl)) (hw _ (List.mem_of_getElem? (i := 3) rfl)) (by decide) (by decide)) (g := (mkF m 9 #[.val (.int p1), .val (.int (0 : Int32)), .unset, .unset, .unset, .unset, .unset, .unset] [(.int (0 : Int32))])) rfl (by rw [hml]; rfl) (argsL := [(.int (0 : Int32))]) (rest := []) (lenOf pd__I_Lcom_example_pairwright_pairwright_model_Result_ rfl) rfl (by show 2 * 0 + _ ≤ _; exact Nat.le_of_eq rfl) (hb hby at_9) (fun _ _ => ⟨rfl, e0, (by decide : 0 + 0 ≤ _), (by decide : 0 + 0 ≤ _)⟩)
    dsimp only [Pt.U, Pt.locs, Pt.cells, Pt.slots] at X102 l102 y102 z102 st102 hQ102
    subst l102 y102 z102
    obtain ⟨rfl, N102q, s102⟩ := hQ102
    have N102 := Fr.app N0 N102q
    have pp103 : ∀ t, Steps p.tables e below (T102.setTop (mkF m 12 #[.val (.int p1), .val (.int (0 : Int32)), .unset, .unset, .unset, .unset, .unset, .unset] [(.ref z0)])) t → Steps p.tables e below (s₁.setTop (entryFrame m #[(.int p1)] maxLocals)) t := fun t k => pp101 t (st102 t k)
    have pp104 : ∀ t, Steps p.tables e below (T102.setTop (mkF m 14 #[.val (.int p1), .val (.int (0 : Int32)), .val (.ref z0), .unset, .unset, .unset, .unset, .unset] [(.ref z0)])) t → Steps p.tables e below (s₁.setTop (entryFrame m #[(.int p1)] maxLocals)) t := fun t k => pp103 t (by
      refine XS.astoreN X102.here hx rfl (hb hby at_12) rfl rfl (l' := #[.val (.int p1), .val (.int (0 : Int32)), .val (.ref z0), .unset, .unset, .unset, .unset, .unset]) rfl ?_
      show Steps p.tables e below (T102.setTop (mkF m 13 #[.val (.int p1), .val (.int (0 : Int32)), .val (.ref z0), .unset, .unset, .unset, .unset, .unset] [])) _
      refine XS.aloadN X102.here hx rfl (hb hby at_13) rfl rfl ?_
      show Steps p.tables e below (T102.setTop (mkF m 14 #[.val (.int p1), .val (.int (0 : Int32)), .val (.ref z0), .unset, .unset, .unset, .unset, .unset] [(.ref z0)])) _
      exact k)
    obtain ⟨cq105, kq105, q105a, q105b, q105c⟩ := isOf hZ s102 E0
    obtain ⟨_, _, ⟨T105, L105, k105, n105⟩, -, X105, ⟨Lc105, hQ105, l105, y105, z105⟩, st105⟩ := X102.virtualBack hx (y := (⟨"com/example/pairwright/pairwright/model/Result", "lost", "()Z"⟩ : MethodName)) (z := (⟨"com/example/pairwright/pairwright/model/Result", "lost", "()Z"⟩ : MethodName)) hown (mvT hZ (hw _ (List.mem_of_getElem? (i := 8) rfl))) (mvT hZ (hw _ (List.mem_of_getElem? (i := 9) rfl))) (notFace_of_selects (args := #[]) (mvT hZ (hw _ (List.mem_of_getElem? (i := 11) rfl)))) (mvT hZ (hw _ (List.mem_of_getElem? (i := 11) rfl))) (mvT hZ (hw _ (List.mem_of_getElem? (i := 10) rfl))) (by decide) (backOf (W := 0) (own_lost l Z a0 hw [] z0 z1 z4 h0 n0 Z0 S1 S4) hZ (hw _ (List.mem_of_getElem? (i := 12) rfl)) (hw _ (List.mem_of_getElem? (i := 6) rfl)) (by decide) (by decide)) q105a q105c (g := (mkF m 14 #[.val (.int p1), .val (.int (0 : Int32)), .val (.ref z0), .unset, .unset, .unset, .unset, .unset] [(.ref z0)])) rfl (by rw [hml]; rfl) (Steps.refl _) (argsL := []) (rest := []) (lenOf pd___Z rfl) rfl (by show 2 * 0 + _ ≤ _; exact Nat.le_of_eq rfl) (hb hby at_14) (fun _ _ => ⟨rfl, s102, (by decide : 0 + 0 ≤ _), (by decide : 0 + 0 ≤ _)⟩)
    dsimp only [Pt.U, Pt.locs, Pt.cells, Pt.slots] at X105 l105 y105 z105 st105 hQ105
    subst l105 y105 z105
    obtain ⟨rfl, N105q, s105⟩ := hQ105
    have N105 := Fr.app N102 N105q
    have pp106 : ∀ t, Steps p.tables e below (T105.setTop (mkF m 17 #[.val (.int p1), .val (.int (0 : Int32)), .val (.ref z0), .unset, .unset, .unset, .unset, .unset] [(.int (own_or z0 z1 z4))])) t → Steps p.tables e below (s₁.setTop (entryFrame m #[(.int p1)] maxLocals)) t := fun t k => pp104 t (st105.trans k)
    rw [own_or3 ne0_1 ne0_4] at pp106
    have pp107 : ∀ t, Steps p.tables e below (T105.setTop (mkF m 19 #[.val (.int p1), .val (.int (0 : Int32)), .val (.ref z0), .val (.int (0 : Int32)), .unset, .unset, .unset, .unset] [(.ref z0)])) t → Steps p.tables e below (s₁.setTop (entryFrame m #[(.int p1)] maxLocals)) t := fun t k => pp106 t (by
      refine XS.istoreN X105.here hx rfl (hb hby at_17) rfl (l' := #[.val (.int p1), .val (.int (0 : Int32)), .val (.ref z0), .val (.int (0 : Int32)), .unset, .unset, .unset, .unset]) rfl ?_
      show Steps p.tables e below (T105.setTop (mkF m 18 #[.val (.int p1), .val (.int (0 : Int32)), .val (.ref z0), .val (.int (0 : Int32)), .unset, .unset, .unset, .unset] [])) _
      refine XS.aloadN X105.here hx rfl (hb hby at_18) rfl rfl ?_
      show Steps p.tables e below (T105.setTop (mkF m 19 #[.val (.int p1), .val (.int (0 : Int32)), .val (.ref z0), .val (.int (0 : Int32)), .unset, .unset, .unset, .unset] [(.ref z0)])) _
      exact k)
    obtain ⟨cq108, kq108, q108a, q108b, q108c⟩ := isOf hZ s105 E0
    obtain ⟨_, _, ⟨T108, L108, k108, n108⟩, -, X108, ⟨Lc108, hQ108, l108, y108, z108⟩, st108⟩ := X105.virtualBack hx (y := (⟨"com/example/pairwright/pairwright/model/Result", "code", "()C"⟩ : MethodName)) (z := (⟨"com/example/pairwright/pairwright/model/Result", "code", "()C"⟩ : MethodName)) hown (mvT hZ (hw _ (List.mem_of_getElem? (i := 17) rfl))) (mvT hZ (hw _ (List.mem_of_getElem? (i := 18) rfl))) (notFace_of_selects (args := #[]) (mvT hZ (hw _ (List.mem_of_getElem? (i := 20) rfl)))) (mvT hZ (hw _ (List.mem_of_getElem? (i := 20) rfl))) (mvT hZ (hw _ (List.mem_of_getElem? (i := 19) rfl))) (by decide) (backOf (W := 0) (own_code l Z a0 hw [] z0 (49 : Int32) h0 n0 Z0 C0) hZ (hw _ (List.mem_of_getElem? (i := 21) rfl)) (hw _ (List.mem_of_getElem? (i := 6) rfl)) (by decide) (by decide)) q108a q108c (g := (mkF m 19 #[.val (.int p1), .val (.int (0 : Int32)), .val (.ref z0), .val (.int (0 : Int32)), .unset, .unset, .unset, .unset] [(.ref z0)])) rfl (by rw [hml]; rfl) (Steps.refl _) (argsL := []) (rest := []) (lenOf pd___C rfl) rfl (by show 2 * 0 + _ ≤ _; exact Nat.le_of_eq rfl) (hb hby at_19) (fun _ _ => ⟨rfl, s105, (by decide : 0 + 0 ≤ _), (by decide : 0 + 0 ≤ _)⟩)
    dsimp only [Pt.U, Pt.locs, Pt.cells, Pt.slots] at X108 l108 y108 z108 st108 hQ108
    subst l108 y108 z108
    obtain ⟨rfl, N108q, s108⟩ := hQ108
    have N108 := Fr.app N105 N108q
    have pp109 : ∀ t, Steps p.tables e below (T108.setTop (mkF m 22 #[.val (.int p1), .val (.int (0 : Int32)), .val (.ref z0), .val (.int (0 : Int32)), .unset, .unset, .unset, .unset] [(.int (nar .char (49 : Int32)))])) t → Steps p.tables e below (s₁.setTop (entryFrame m #[(.int p1)] maxLocals)) t := fun t k => pp107 t (st108.trans k)
    rw [show nar .char (49 : Int32) = (49 : Int32) from by decide] at pp109
    have pp110 : ∀ t, Steps p.tables e below (T108.setTop (mkF m 109 #[.val (.int p1), .val (.int (0 : Int32)), .val (.ref z0), .val (.int (0 : Int32)), .val (.int (49 : Int32)), .val (.int (0 : Int32)), .val (.int (0 : Int32)), .val (.int (1 : Int32))] [(.int (1 : Int32))])) t → Steps p.tables e below (s₁.setTop (entryFrame m #[(.int p1)] maxLocals)) t := fun t k => pp109 t (by
      refine XS.istore X108.here hx rfl (hb hby at_22) rfl (l' := #[.val (.int p1), .val (.int (0 : Int32)), .val (.ref z0), .val (.int (0 : Int32)), .val (.int (49 : Int32)), .unset, .unset, .unset]) rfl ?_
      show Steps p.tables e below (T108.setTop (mkF m 24 #[.val (.int p1), .val (.int (0 : Int32)), .val (.ref z0), .val (.int (0 : Int32)), .val (.int (49 : Int32)), .unset, .unset, .unset] [])) _
      refine XS.iload X108.here hx rfl (hb hby at_24) rfl ?_
      show Steps p.tables e below (T108.setTop (mkF m 26 #[.val (.int p1), .val (.int (0 : Int32)), .val (.ref z0), .val (.int (0 : Int32)), .val (.int (49 : Int32)), .unset, .unset, .unset] [(.int (49 : Int32))])) _
      refine XS.bipush X108.here hx rfl (hb hby at_26) ?_
      show Steps p.tables e below (T108.setTop (mkF m 28 #[.val (.int p1), .val (.int (0 : Int32)), .val (.ref z0), .val (.int (0 : Int32)), .val (.int (49 : Int32)), .unset, .unset, .unset] [(.int (48 : Int32)), (.int (49 : Int32))])) _
      refine XS.icmpNo X108.here hx rfl (hb hby at_28) rfl (feq (by decide : ¬ ((49 : Int32) = (48 : Int32)))).1 ?_
      show Steps p.tables e below (T108.setTop (mkF m 31 #[.val (.int p1), .val (.int (0 : Int32)), .val (.ref z0), .val (.int (0 : Int32)), .val (.int (49 : Int32)), .unset, .unset, .unset] [])) _
      refine XS.iload X108.here hx rfl (hb hby at_31) rfl ?_
      show Steps p.tables e below (T108.setTop (mkF m 33 #[.val (.int p1), .val (.int (0 : Int32)), .val (.ref z0), .val (.int (0 : Int32)), .val (.int (49 : Int32)), .unset, .unset, .unset] [(.int (49 : Int32))])) _
      refine XS.bipush X108.here hx rfl (hb hby at_33) ?_
      show Steps p.tables e below (T108.setTop (mkF m 35 #[.val (.int p1), .val (.int (0 : Int32)), .val (.ref z0), .val (.int (0 : Int32)), .val (.int (49 : Int32)), .unset, .unset, .unset] [(.int (76 : Int32)), (.int (49 : Int32))])) _
      refine XS.icmpYes X108.here hx rfl (pc0 := 35) (pc' := 42) rfl (hb hby at_35) rfl (feq (by decide : ¬ ((49 : Int32) = (76 : Int32)))).2 (by decide) (by decide) ?_
      show Steps p.tables e below (T108.setTop (mkF m 42 #[.val (.int p1), .val (.int (0 : Int32)), .val (.ref z0), .val (.int (0 : Int32)), .val (.int (49 : Int32)), .unset, .unset, .unset] [])) _
      refine XS.iconst X108.here hx rfl (hb hby at_42) ?_
      show Steps p.tables e below (T108.setTop (mkF m 43 #[.val (.int p1), .val (.int (0 : Int32)), .val (.ref z0), .val (.int (0 : Int32)), .val (.int (49 : Int32)), .unset, .unset, .unset] [(.int (0 : Int32))])) _
      refine XS.istore X108.here hx rfl (hb hby at_43) rfl (l' := #[.val (.int p1), .val (.int (0 : Int32)), .val (.ref z0), .val (.int (0 : Int32)), .val (.int (49 : Int32)), .val (.int (0 : Int32)), .unset, .unset]) rfl ?_
      show Steps p.tables e below (T108.setTop (mkF m 45 #[.val (.int p1), .val (.int (0 : Int32)), .val (.ref z0), .val (.int (0 : Int32)), .val (.int (49 : Int32)), .val (.int (0 : Int32)), .unset, .unset] [])) _
      refine XS.iloadN X108.here hx rfl (hb hby at_45) rfl ?_
      show Steps p.tables e below (T108.setTop (mkF m 46 #[.val (.int p1), .val (.int (0 : Int32)), .val (.ref z0), .val (.int (0 : Int32)), .val (.int (49 : Int32)), .val (.int (0 : Int32)), .unset, .unset] [(.int (0 : Int32))])) _
      refine XS.iconst X108.here hx rfl (hb hby at_46) ?_
      show Steps p.tables e below (T108.setTop (mkF m 47 #[.val (.int p1), .val (.int (0 : Int32)), .val (.ref z0), .val (.int (0 : Int32)), .val (.int (49 : Int32)), .val (.int (0 : Int32)), .unset, .unset] [(.int (1 : Int32)), (.int (0 : Int32))])) _
      refine XS.icmpNo X108.here hx rfl (hb hby at_47) rfl (feq (by decide : ¬ ((0 : Int32) = (1 : Int32)))).1 ?_
      show Steps p.tables e below (T108.setTop (mkF m 50 #[.val (.int p1), .val (.int (0 : Int32)), .val (.ref z0), .val (.int (0 : Int32)), .val (.int (49 : Int32)), .val (.int (0 : Int32)), .unset, .unset] [])) _
      refine XS.iloadN X108.here hx rfl (hb hby at_50) rfl ?_
      show Steps p.tables e below (T108.setTop (mkF m 51 #[.val (.int p1), .val (.int (0 : Int32)), .val (.ref z0), .val (.int (0 : Int32)), .val (.int (49 : Int32)), .val (.int (0 : Int32)), .unset, .unset] [(.int (0 : Int32))])) _
      refine XS.iconst X108.here hx rfl (hb hby at_51) ?_
      show Steps p.tables e below (T108.setTop (mkF m 52 #[.val (.int p1), .val (.int (0 : Int32)), .val (.ref z0), .val (.int (0 : Int32)), .val (.int (49 : Int32)), .val (.int (0 : Int32)), .unset, .unset] [(.int (4 : Int32)), (.int (0 : Int32))])) _
      refine XS.icmpYes X108.here hx rfl (pc0 := 52) (pc' := 59) rfl (hb hby at_52) rfl (feq (by decide : ¬ ((0 : Int32) = (4 : Int32)))).2 (by decide) (by decide) ?_
      show Steps p.tables e below (T108.setTop (mkF m 59 #[.val (.int p1), .val (.int (0 : Int32)), .val (.ref z0), .val (.int (0 : Int32)), .val (.int (49 : Int32)), .val (.int (0 : Int32)), .unset, .unset] [])) _
      refine XS.iconst X108.here hx rfl (hb hby at_59) ?_
      show Steps p.tables e below (T108.setTop (mkF m 60 #[.val (.int p1), .val (.int (0 : Int32)), .val (.ref z0), .val (.int (0 : Int32)), .val (.int (49 : Int32)), .val (.int (0 : Int32)), .unset, .unset] [(.int (0 : Int32))])) _
      refine XS.istore X108.here hx rfl (hb hby at_60) rfl (l' := #[.val (.int p1), .val (.int (0 : Int32)), .val (.ref z0), .val (.int (0 : Int32)), .val (.int (49 : Int32)), .val (.int (0 : Int32)), .val (.int (0 : Int32)), .unset]) rfl ?_
      show Steps p.tables e below (T108.setTop (mkF m 62 #[.val (.int p1), .val (.int (0 : Int32)), .val (.ref z0), .val (.int (0 : Int32)), .val (.int (49 : Int32)), .val (.int (0 : Int32)), .val (.int (0 : Int32)), .unset] [])) _
      refine XS.iloadN X108.here hx rfl (hb hby at_62) rfl ?_
      show Steps p.tables e below (T108.setTop (mkF m 63 #[.val (.int p1), .val (.int (0 : Int32)), .val (.ref z0), .val (.int (0 : Int32)), .val (.int (49 : Int32)), .val (.int (0 : Int32)), .val (.int (0 : Int32)), .unset] [(.int (0 : Int32))])) _
      refine XS.ifYes X108.here hx rfl (pc0 := 63) (pc' := 80) rfl (hb hby at_63) rfl ((if0 _ _).trans (teq (by decide : (0 : Int32) = (0 : Int32))).1) (by decide) (by decide) ?_
      show Steps p.tables e below (T108.setTop (mkF m 80 #[.val (.int p1), .val (.int (0 : Int32)), .val (.ref z0), .val (.int (0 : Int32)), .val (.int (49 : Int32)), .val (.int (0 : Int32)), .val (.int (0 : Int32)), .unset] [])) _
      refine XS.iconst X108.here hx rfl (hb hby at_80) ?_
      show Steps p.tables e below (T108.setTop (mkF m 81 #[.val (.int p1), .val (.int (0 : Int32)), .val (.ref z0), .val (.int (0 : Int32)), .val (.int (49 : Int32)), .val (.int (0 : Int32)), .val (.int (0 : Int32)), .unset] [(.int (1 : Int32))])) _
      refine XS.goto X108.here hx rfl (pc0 := 81) (pc' := 85) rfl (hb hby at_81) (by decide) (by decide) ?_
      show Steps p.tables e below (T108.setTop (mkF m 85 #[.val (.int p1), .val (.int (0 : Int32)), .val (.ref z0), .val (.int (0 : Int32)), .val (.int (49 : Int32)), .val (.int (0 : Int32)), .val (.int (0 : Int32)), .unset] [(.int (1 : Int32))])) _
      refine XS.istore X108.here hx rfl (hb hby at_85) rfl (l' := #[.val (.int p1), .val (.int (0 : Int32)), .val (.ref z0), .val (.int (0 : Int32)), .val (.int (49 : Int32)), .val (.int (0 : Int32)), .val (.int (0 : Int32)), .val (.int (1 : Int32))]) rfl ?_
      show Steps p.tables e below (T108.setTop (mkF m 87 #[.val (.int p1), .val (.int (0 : Int32)), .val (.ref z0), .val (.int (0 : Int32)), .val (.int (49 : Int32)), .val (.int (0 : Int32)), .val (.int (0 : Int32)), .val (.int (1 : Int32))] [])) _
      refine XS.iloadN X108.here hx rfl (hb hby at_87) rfl ?_
      show Steps p.tables e below (T108.setTop (mkF m 88 #[.val (.int p1), .val (.int (0 : Int32)), .val (.ref z0), .val (.int (0 : Int32)), .val (.int (49 : Int32)), .val (.int (0 : Int32)), .val (.int (0 : Int32)), .val (.int (1 : Int32))] [(.int (0 : Int32))])) _
      refine XS.iload X108.here hx rfl (hb hby at_88) rfl ?_
      show Steps p.tables e below (T108.setTop (mkF m 90 #[.val (.int p1), .val (.int (0 : Int32)), .val (.ref z0), .val (.int (0 : Int32)), .val (.int (49 : Int32)), .val (.int (0 : Int32)), .val (.int (0 : Int32)), .val (.int (1 : Int32))] [(.int (0 : Int32)), (.int (0 : Int32))])) _
      refine XS.icmpNo X108.here hx rfl (hb hby at_90) rfl (teq (by decide : (0 : Int32) = (0 : Int32))).2 ?_
      show Steps p.tables e below (T108.setTop (mkF m 93 #[.val (.int p1), .val (.int (0 : Int32)), .val (.ref z0), .val (.int (0 : Int32)), .val (.int (49 : Int32)), .val (.int (0 : Int32)), .val (.int (0 : Int32)), .val (.int (1 : Int32))] [])) _
      refine XS.iloadN X108.here hx rfl (hb hby at_93) rfl ?_
      show Steps p.tables e below (T108.setTop (mkF m 94 #[.val (.int p1), .val (.int (0 : Int32)), .val (.ref z0), .val (.int (0 : Int32)), .val (.int (49 : Int32)), .val (.int (0 : Int32)), .val (.int (0 : Int32)), .val (.int (1 : Int32))] [(.int (0 : Int32))])) _
      refine XS.iload X108.here hx rfl (hb hby at_94) rfl ?_
      show Steps p.tables e below (T108.setTop (mkF m 96 #[.val (.int p1), .val (.int (0 : Int32)), .val (.ref z0), .val (.int (0 : Int32)), .val (.int (49 : Int32)), .val (.int (0 : Int32)), .val (.int (0 : Int32)), .val (.int (1 : Int32))] [(.int (0 : Int32)), (.int (0 : Int32))])) _
      refine XS.icmpNo X108.here hx rfl (hb hby at_96) rfl (teq (by decide : (0 : Int32) = (0 : Int32))).2 ?_
      show Steps p.tables e below (T108.setTop (mkF m 99 #[.val (.int p1), .val (.int (0 : Int32)), .val (.ref z0), .val (.int (0 : Int32)), .val (.int (49 : Int32)), .val (.int (0 : Int32)), .val (.int (0 : Int32)), .val (.int (1 : Int32))] [])) _
      refine XS.iload X108.here hx rfl (hb hby at_99) rfl ?_
      show Steps p.tables e below (T108.setTop (mkF m 101 #[.val (.int p1), .val (.int (0 : Int32)), .val (.ref z0), .val (.int (0 : Int32)), .val (.int (49 : Int32)), .val (.int (0 : Int32)), .val (.int (0 : Int32)), .val (.int (1 : Int32))] [(.int (1 : Int32))])) _
      refine XS.ifNo X108.here hx rfl (hb hby at_101) rfl ((if0 _ _).trans (feq (by decide : ¬ ((1 : Int32) = (0 : Int32)))).1) ?_
      show Steps p.tables e below (T108.setTop (mkF m 104 #[.val (.int p1), .val (.int (0 : Int32)), .val (.ref z0), .val (.int (0 : Int32)), .val (.int (49 : Int32)), .val (.int (0 : Int32)), .val (.int (0 : Int32)), .val (.int (1 : Int32))] [])) _
      refine XS.iconst X108.here hx rfl (hb hby at_104) ?_
      show Steps p.tables e below (T108.setTop (mkF m 105 #[.val (.int p1), .val (.int (0 : Int32)), .val (.ref z0), .val (.int (0 : Int32)), .val (.int (49 : Int32)), .val (.int (0 : Int32)), .val (.int (0 : Int32)), .val (.int (1 : Int32))] [(.int (1 : Int32))])) _
      refine XS.goto X108.here hx rfl (pc0 := 105) (pc' := 109) rfl (hb hby at_105) (by decide) (by decide) ?_
      show Steps p.tables e below (T108.setTop (mkF m 109 #[.val (.int p1), .val (.int (0 : Int32)), .val (.ref z0), .val (.int (0 : Int32)), .val (.int (49 : Int32)), .val (.int (0 : Int32)), .val (.int (0 : Int32)), .val (.int (1 : Int32))] [(.int (1 : Int32))])) _
      exact k)
    obtain ⟨fs, hr, hrun, hended, hW, hsame⟩ := X108.leave (v := some (.int (1 : Int32))) (fun h => by rw [Bd.returns] at h; cases h)
    refine ⟨_, _, pp110 _ ?_, hrun, hended, _, _, rfl, ?_, ⟨_, rfl⟩, hW, hsame.mono (by decide) (by decide)⟩
    · exact retN X108 hx (t := .boolean) Bd.returns (by simp) (hb hby at_109) hr
    · show Q_own_law Z p1 z0 z1 z2 z3 z4 z5 z6 z7 z8 z9 z10 z11 h0 n0 _ T108.heap _
      rw [s108]
      exact ⟨rfl, N108⟩
  · obtain ⟨_, _, ⟨T111, L111, k111, n111⟩, -, X111, ⟨Lc111, hQ111, l111, y111, z111⟩, st111⟩ := Jvm.LawKit.callS X0 hx (y := (⟨"com/example/pairwright/pairwright/model/ResultLostPinLaw", "pick", "(I)Lcom/example/pairwright/pairwright/model/Result;"⟩ : MethodName)) hown (mvT hZ (hw _ (List.mem_of_getElem? (i := 1) rfl))) (mvT hZ (hw _ (List.mem_of_getElem? (i := 2) rfl))) (mvT hZ (hw _ (List.mem_of_getElem? (i := 3) rfl))) (mvT hZ (hw _ (List.mem_of_getElem? (i := 4) rfl))) (by decide) (backOf (W := 0) (own_pick l Z a0 hw [] (1 : Int32) z0 z1 z2 z3 z4 z5 z6 z7 z8 z9 z10 z11 h0 n0 Z0 S0 S1 S2 S3 S4 S5 S6 S7 S8 S9 S10 S11) hZ (hw _ (List.mem_of_getElem? (i := 4) rfl)) (hw _ (List.mem_of_getElem? (i := 3) rfl)) (by decide) (by decide)) (g := (mkF m 9 #[.val (.int p1), .val (.int (1 : Int32)), .unset, .unset, .unset, .unset, .unset, .unset] [(.int (1 : Int32))])) rfl (by rw [hml]; rfl) (argsL := [(.int (1 : Int32))]) (rest := []) (lenOf pd__I_Lcom_example_pairwright_pairwright_model_Result_ rfl) rfl (by show 2 * 0 + _ ≤ _; exact Nat.le_of_eq rfl) (hb hby at_9) (fun _ _ => ⟨rfl, e0, (by decide : 0 + 0 ≤ _), (by decide : 0 + 0 ≤ _)⟩)
    dsimp only [Pt.U, Pt.locs, Pt.cells, Pt.slots] at X111 l111 y111 z111 st111 hQ111
    subst l111 y111 z111
    obtain ⟨rfl, N111q, s111⟩ := hQ111
    have N111 := Fr.app N0 N111q
    have pp112 : ∀ t, Steps p.tables e below (T111.setTop (mkF m 12 #[.val (.int p1), .val (.int (1 : Int32)), .unset, .unset, .unset, .unset, .unset, .unset] [(.ref z1)])) t → Steps p.tables e below (s₁.setTop (entryFrame m #[(.int p1)] maxLocals)) t := fun t k => pp101 t (st111 t k)
    have pp113 : ∀ t, Steps p.tables e below (T111.setTop (mkF m 14 #[.val (.int p1), .val (.int (1 : Int32)), .val (.ref z1), .unset, .unset, .unset, .unset, .unset] [(.ref z1)])) t → Steps p.tables e below (s₁.setTop (entryFrame m #[(.int p1)] maxLocals)) t := fun t k => pp112 t (by
      refine XS.astoreN X111.here hx rfl (hb hby at_12) rfl rfl (l' := #[.val (.int p1), .val (.int (1 : Int32)), .val (.ref z1), .unset, .unset, .unset, .unset, .unset]) rfl ?_
      show Steps p.tables e below (T111.setTop (mkF m 13 #[.val (.int p1), .val (.int (1 : Int32)), .val (.ref z1), .unset, .unset, .unset, .unset, .unset] [])) _
      refine XS.aloadN X111.here hx rfl (hb hby at_13) rfl rfl ?_
      show Steps p.tables e below (T111.setTop (mkF m 14 #[.val (.int p1), .val (.int (1 : Int32)), .val (.ref z1), .unset, .unset, .unset, .unset, .unset] [(.ref z1)])) _
      exact k)
    obtain ⟨cq114, kq114, q114a, q114b, q114c⟩ := isOf hZ s111 E1
    obtain ⟨_, _, ⟨T114, L114, k114, n114⟩, -, X114, ⟨Lc114, hQ114, l114, y114, z114⟩, st114⟩ := X111.virtualBack hx (y := (⟨"com/example/pairwright/pairwright/model/Result", "lost", "()Z"⟩ : MethodName)) (z := (⟨"com/example/pairwright/pairwright/model/Result", "lost", "()Z"⟩ : MethodName)) hown (mvT hZ (hw _ (List.mem_of_getElem? (i := 8) rfl))) (mvT hZ (hw _ (List.mem_of_getElem? (i := 9) rfl))) (notFace_of_selects (args := #[]) (mvT hZ (hw _ (List.mem_of_getElem? (i := 11) rfl)))) (mvT hZ (hw _ (List.mem_of_getElem? (i := 11) rfl))) (mvT hZ (hw _ (List.mem_of_getElem? (i := 10) rfl))) (by decide) (backOf (W := 0) (own_lost l Z a0 hw [] z1 z1 z4 h0 n0 Z0 S1 S4) hZ (hw _ (List.mem_of_getElem? (i := 12) rfl)) (hw _ (List.mem_of_getElem? (i := 6) rfl)) (by decide) (by decide)) q114a q114c (g := (mkF m 14 #[.val (.int p1), .val (.int (1 : Int32)), .val (.ref z1), .unset, .unset, .unset, .unset, .unset] [(.ref z1)])) rfl (by rw [hml]; rfl) (Steps.refl _) (argsL := []) (rest := []) (lenOf pd___Z rfl) rfl (by show 2 * 0 + _ ≤ _; exact Nat.le_of_eq rfl) (hb hby at_14) (fun _ _ => ⟨rfl, s111, (by decide : 0 + 0 ≤ _), (by decide : 0 + 0 ≤ _)⟩)
    dsimp only [Pt.U, Pt.locs, Pt.cells, Pt.slots] at X114 l114 y114 z114 st114 hQ114
    subst l114 y114 z114
    obtain ⟨rfl, N114q, s114⟩ := hQ114
    have N114 := Fr.app N111 N114q
    have pp115 : ∀ t, Steps p.tables e below (T114.setTop (mkF m 17 #[.val (.int p1), .val (.int (1 : Int32)), .val (.ref z1), .unset, .unset, .unset, .unset, .unset] [(.int (own_or z1 z1 z4))])) t → Steps p.tables e below (s₁.setTop (entryFrame m #[(.int p1)] maxLocals)) t := fun t k => pp113 t (st114.trans k)
    rw [own_or1 (rfl : z1 = z1)] at pp115
    have pp116 : ∀ t, Steps p.tables e below (T114.setTop (mkF m 19 #[.val (.int p1), .val (.int (1 : Int32)), .val (.ref z1), .val (.int (1 : Int32)), .unset, .unset, .unset, .unset] [(.ref z1)])) t → Steps p.tables e below (s₁.setTop (entryFrame m #[(.int p1)] maxLocals)) t := fun t k => pp115 t (by
      refine XS.istoreN X114.here hx rfl (hb hby at_17) rfl (l' := #[.val (.int p1), .val (.int (1 : Int32)), .val (.ref z1), .val (.int (1 : Int32)), .unset, .unset, .unset, .unset]) rfl ?_
      show Steps p.tables e below (T114.setTop (mkF m 18 #[.val (.int p1), .val (.int (1 : Int32)), .val (.ref z1), .val (.int (1 : Int32)), .unset, .unset, .unset, .unset] [])) _
      refine XS.aloadN X114.here hx rfl (hb hby at_18) rfl rfl ?_
      show Steps p.tables e below (T114.setTop (mkF m 19 #[.val (.int p1), .val (.int (1 : Int32)), .val (.ref z1), .val (.int (1 : Int32)), .unset, .unset, .unset, .unset] [(.ref z1)])) _
      exact k)
    obtain ⟨cq117, kq117, q117a, q117b, q117c⟩ := isOf hZ s114 E1
    obtain ⟨_, _, ⟨T117, L117, k117, n117⟩, -, X117, ⟨Lc117, hQ117, l117, y117, z117⟩, st117⟩ := X114.virtualBack hx (y := (⟨"com/example/pairwright/pairwright/model/Result", "code", "()C"⟩ : MethodName)) (z := (⟨"com/example/pairwright/pairwright/model/Result", "code", "()C"⟩ : MethodName)) hown (mvT hZ (hw _ (List.mem_of_getElem? (i := 17) rfl))) (mvT hZ (hw _ (List.mem_of_getElem? (i := 18) rfl))) (notFace_of_selects (args := #[]) (mvT hZ (hw _ (List.mem_of_getElem? (i := 20) rfl)))) (mvT hZ (hw _ (List.mem_of_getElem? (i := 20) rfl))) (mvT hZ (hw _ (List.mem_of_getElem? (i := 19) rfl))) (by decide) (backOf (W := 0) (own_code l Z a0 hw [] z1 (48 : Int32) h0 n0 Z0 C1) hZ (hw _ (List.mem_of_getElem? (i := 21) rfl)) (hw _ (List.mem_of_getElem? (i := 6) rfl)) (by decide) (by decide)) q117a q117c (g := (mkF m 19 #[.val (.int p1), .val (.int (1 : Int32)), .val (.ref z1), .val (.int (1 : Int32)), .unset, .unset, .unset, .unset] [(.ref z1)])) rfl (by rw [hml]; rfl) (Steps.refl _) (argsL := []) (rest := []) (lenOf pd___C rfl) rfl (by show 2 * 0 + _ ≤ _; exact Nat.le_of_eq rfl) (hb hby at_19) (fun _ _ => ⟨rfl, s114, (by decide : 0 + 0 ≤ _), (by decide : 0 + 0 ≤ _)⟩)
    dsimp only [Pt.U, Pt.locs, Pt.cells, Pt.slots] at X117 l117 y117 z117 st117 hQ117
    subst l117 y117 z117
    obtain ⟨rfl, N117q, s117⟩ := hQ117
    have N117 := Fr.app N114 N117q
    have pp118 : ∀ t, Steps p.tables e below (T117.setTop (mkF m 22 #[.val (.int p1), .val (.int (1 : Int32)), .val (.ref z1), .val (.int (1 : Int32)), .unset, .unset, .unset, .unset] [(.int (nar .char (48 : Int32)))])) t → Steps p.tables e below (s₁.setTop (entryFrame m #[(.int p1)] maxLocals)) t := fun t k => pp116 t (st117.trans k)
    rw [show nar .char (48 : Int32) = (48 : Int32) from by decide] at pp118
    have pp119 : ∀ t, Steps p.tables e below (T117.setTop (mkF m 67 #[.val (.int p1), .val (.int (1 : Int32)), .val (.ref z1), .val (.int (1 : Int32)), .val (.int (48 : Int32)), .val (.int (1 : Int32)), .val (.int (1 : Int32)), .unset] [(.ref z1)])) t → Steps p.tables e below (s₁.setTop (entryFrame m #[(.int p1)] maxLocals)) t := fun t k => pp118 t (by
      refine XS.istore X117.here hx rfl (hb hby at_22) rfl (l' := #[.val (.int p1), .val (.int (1 : Int32)), .val (.ref z1), .val (.int (1 : Int32)), .val (.int (48 : Int32)), .unset, .unset, .unset]) rfl ?_
      show Steps p.tables e below (T117.setTop (mkF m 24 #[.val (.int p1), .val (.int (1 : Int32)), .val (.ref z1), .val (.int (1 : Int32)), .val (.int (48 : Int32)), .unset, .unset, .unset] [])) _
      refine XS.iload X117.here hx rfl (hb hby at_24) rfl ?_
      show Steps p.tables e below (T117.setTop (mkF m 26 #[.val (.int p1), .val (.int (1 : Int32)), .val (.ref z1), .val (.int (1 : Int32)), .val (.int (48 : Int32)), .unset, .unset, .unset] [(.int (48 : Int32))])) _
      refine XS.bipush X117.here hx rfl (hb hby at_26) ?_
      show Steps p.tables e below (T117.setTop (mkF m 28 #[.val (.int p1), .val (.int (1 : Int32)), .val (.ref z1), .val (.int (1 : Int32)), .val (.int (48 : Int32)), .unset, .unset, .unset] [(.int (48 : Int32)), (.int (48 : Int32))])) _
      refine XS.icmpYes X117.here hx rfl (pc0 := 28) (pc' := 38) rfl (hb hby at_28) rfl (teq (by decide : (48 : Int32) = (48 : Int32))).1 (by decide) (by decide) ?_
      show Steps p.tables e below (T117.setTop (mkF m 38 #[.val (.int p1), .val (.int (1 : Int32)), .val (.ref z1), .val (.int (1 : Int32)), .val (.int (48 : Int32)), .unset, .unset, .unset] [])) _
      refine XS.iconst X117.here hx rfl (hb hby at_38) ?_
      show Steps p.tables e below (T117.setTop (mkF m 39 #[.val (.int p1), .val (.int (1 : Int32)), .val (.ref z1), .val (.int (1 : Int32)), .val (.int (48 : Int32)), .unset, .unset, .unset] [(.int (1 : Int32))])) _
      refine XS.goto X117.here hx rfl (pc0 := 39) (pc' := 43) rfl (hb hby at_39) (by decide) (by decide) ?_
      show Steps p.tables e below (T117.setTop (mkF m 43 #[.val (.int p1), .val (.int (1 : Int32)), .val (.ref z1), .val (.int (1 : Int32)), .val (.int (48 : Int32)), .unset, .unset, .unset] [(.int (1 : Int32))])) _
      refine XS.istore X117.here hx rfl (hb hby at_43) rfl (l' := #[.val (.int p1), .val (.int (1 : Int32)), .val (.ref z1), .val (.int (1 : Int32)), .val (.int (48 : Int32)), .val (.int (1 : Int32)), .unset, .unset]) rfl ?_
      show Steps p.tables e below (T117.setTop (mkF m 45 #[.val (.int p1), .val (.int (1 : Int32)), .val (.ref z1), .val (.int (1 : Int32)), .val (.int (48 : Int32)), .val (.int (1 : Int32)), .unset, .unset] [])) _
      refine XS.iloadN X117.here hx rfl (hb hby at_45) rfl ?_
      show Steps p.tables e below (T117.setTop (mkF m 46 #[.val (.int p1), .val (.int (1 : Int32)), .val (.ref z1), .val (.int (1 : Int32)), .val (.int (48 : Int32)), .val (.int (1 : Int32)), .unset, .unset] [(.int (1 : Int32))])) _
      refine XS.iconst X117.here hx rfl (hb hby at_46) ?_
      show Steps p.tables e below (T117.setTop (mkF m 47 #[.val (.int p1), .val (.int (1 : Int32)), .val (.ref z1), .val (.int (1 : Int32)), .val (.int (48 : Int32)), .val (.int (1 : Int32)), .unset, .unset] [(.int (1 : Int32)), (.int (1 : Int32))])) _
      refine XS.icmpYes X117.here hx rfl (pc0 := 47) (pc' := 55) rfl (hb hby at_47) rfl (teq (by decide : (1 : Int32) = (1 : Int32))).1 (by decide) (by decide) ?_
      show Steps p.tables e below (T117.setTop (mkF m 55 #[.val (.int p1), .val (.int (1 : Int32)), .val (.ref z1), .val (.int (1 : Int32)), .val (.int (48 : Int32)), .val (.int (1 : Int32)), .unset, .unset] [])) _
      refine XS.iconst X117.here hx rfl (hb hby at_55) ?_
      show Steps p.tables e below (T117.setTop (mkF m 56 #[.val (.int p1), .val (.int (1 : Int32)), .val (.ref z1), .val (.int (1 : Int32)), .val (.int (48 : Int32)), .val (.int (1 : Int32)), .unset, .unset] [(.int (1 : Int32))])) _
      refine XS.goto X117.here hx rfl (pc0 := 56) (pc' := 60) rfl (hb hby at_56) (by decide) (by decide) ?_
      show Steps p.tables e below (T117.setTop (mkF m 60 #[.val (.int p1), .val (.int (1 : Int32)), .val (.ref z1), .val (.int (1 : Int32)), .val (.int (48 : Int32)), .val (.int (1 : Int32)), .unset, .unset] [(.int (1 : Int32))])) _
      refine XS.istore X117.here hx rfl (hb hby at_60) rfl (l' := #[.val (.int p1), .val (.int (1 : Int32)), .val (.ref z1), .val (.int (1 : Int32)), .val (.int (48 : Int32)), .val (.int (1 : Int32)), .val (.int (1 : Int32)), .unset]) rfl ?_
      show Steps p.tables e below (T117.setTop (mkF m 62 #[.val (.int p1), .val (.int (1 : Int32)), .val (.ref z1), .val (.int (1 : Int32)), .val (.int (48 : Int32)), .val (.int (1 : Int32)), .val (.int (1 : Int32)), .unset] [])) _
      refine XS.iloadN X117.here hx rfl (hb hby at_62) rfl ?_
      show Steps p.tables e below (T117.setTop (mkF m 63 #[.val (.int p1), .val (.int (1 : Int32)), .val (.ref z1), .val (.int (1 : Int32)), .val (.int (48 : Int32)), .val (.int (1 : Int32)), .val (.int (1 : Int32)), .unset] [(.int (1 : Int32))])) _
      refine XS.ifNo X117.here hx rfl (hb hby at_63) rfl ((if0 _ _).trans (feq (by decide : ¬ ((1 : Int32) = (0 : Int32)))).1) ?_
      show Steps p.tables e below (T117.setTop (mkF m 66 #[.val (.int p1), .val (.int (1 : Int32)), .val (.ref z1), .val (.int (1 : Int32)), .val (.int (48 : Int32)), .val (.int (1 : Int32)), .val (.int (1 : Int32)), .unset] [])) _
      refine XS.aloadN X117.here hx rfl (hb hby at_66) rfl rfl ?_
      show Steps p.tables e below (T117.setTop (mkF m 67 #[.val (.int p1), .val (.int (1 : Int32)), .val (.ref z1), .val (.int (1 : Int32)), .val (.int (48 : Int32)), .val (.int (1 : Int32)), .val (.int (1 : Int32)), .unset] [(.ref z1)])) _
      exact k)
    obtain ⟨cq120, kq120, q120a, q120b, q120c⟩ := isOf hZ s117 E1
    obtain ⟨_, _, ⟨T120, L120, k120, n120⟩, -, X120, ⟨Lc120, hQ120, l120, y120, z120⟩, st120⟩ := X117.virtualBack hx (y := (⟨"com/example/pairwright/pairwright/model/Result", "played", "()Z"⟩ : MethodName)) (z := (⟨"com/example/pairwright/pairwright/model/Result", "played", "()Z"⟩ : MethodName)) hown (mvT hZ (hw _ (List.mem_of_getElem? (i := 33) rfl))) (mvT hZ (hw _ (List.mem_of_getElem? (i := 34) rfl))) (notFace_of_selects (args := #[]) (mvT hZ (hw _ (List.mem_of_getElem? (i := 36) rfl)))) (mvT hZ (hw _ (List.mem_of_getElem? (i := 36) rfl))) (mvT hZ (hw _ (List.mem_of_getElem? (i := 35) rfl))) (by decide) (backOf (W := 0) (own_played l Z a0 hw [] z1 (1 : Int32) h0 n0 Z0 P1) hZ (hw _ (List.mem_of_getElem? (i := 37) rfl)) (hw _ (List.mem_of_getElem? (i := 6) rfl)) (by decide) (by decide)) q120a q120c (g := (mkF m 67 #[.val (.int p1), .val (.int (1 : Int32)), .val (.ref z1), .val (.int (1 : Int32)), .val (.int (48 : Int32)), .val (.int (1 : Int32)), .val (.int (1 : Int32)), .unset] [(.ref z1)])) rfl (by rw [hml]; rfl) (Steps.refl _) (argsL := []) (rest := []) (lenOf pd___Z rfl) rfl (by show 2 * 0 + _ ≤ _; exact Nat.le_of_eq rfl) (hb hby at_67) (fun _ _ => ⟨rfl, s117, (by decide : 0 + 0 ≤ _), (by decide : 0 + 0 ≤ _)⟩)
    dsimp only [Pt.U, Pt.locs, Pt.cells, Pt.slots] at X120 l120 y120 z120 st120 hQ120
    subst l120 y120 z120
    obtain ⟨rfl, N120q, s120⟩ := hQ120
    have N120 := Fr.app N117 N120q
    have pp121 : ∀ t, Steps p.tables e below (T120.setTop (mkF m 70 #[.val (.int p1), .val (.int (1 : Int32)), .val (.ref z1), .val (.int (1 : Int32)), .val (.int (48 : Int32)), .val (.int (1 : Int32)), .val (.int (1 : Int32)), .unset] [(.int (nar .boolean (1 : Int32)))])) t → Steps p.tables e below (s₁.setTop (entryFrame m #[(.int p1)] maxLocals)) t := fun t k => pp119 t (st120.trans k)
    rw [show nar .boolean (1 : Int32) = (1 : Int32) from by decide] at pp121
    have pp122 : ∀ t, Steps p.tables e below (T120.setTop (mkF m 74 #[.val (.int p1), .val (.int (1 : Int32)), .val (.ref z1), .val (.int (1 : Int32)), .val (.int (48 : Int32)), .val (.int (1 : Int32)), .val (.int (1 : Int32)), .unset] [(.ref z1)])) t → Steps p.tables e below (s₁.setTop (entryFrame m #[(.int p1)] maxLocals)) t := fun t k => pp121 t (by
      refine XS.ifNo X120.here hx rfl (hb hby at_70) rfl ((if0 _ _).trans (feq (by decide : ¬ ((1 : Int32) = (0 : Int32)))).1) ?_
      show Steps p.tables e below (T120.setTop (mkF m 73 #[.val (.int p1), .val (.int (1 : Int32)), .val (.ref z1), .val (.int (1 : Int32)), .val (.int (48 : Int32)), .val (.int (1 : Int32)), .val (.int (1 : Int32)), .unset] [])) _
      refine XS.aloadN X120.here hx rfl (hb hby at_73) rfl rfl ?_
      show Steps p.tables e below (T120.setTop (mkF m 74 #[.val (.int p1), .val (.int (1 : Int32)), .val (.ref z1), .val (.int (1 : Int32)), .val (.int (48 : Int32)), .val (.int (1 : Int32)), .val (.int (1 : Int32)), .unset] [(.ref z1)])) _
      exact k)
    obtain ⟨cq123, kq123, q123a, q123b, q123c⟩ := isOf hZ s120 E1
    obtain ⟨_, _, ⟨T123, L123, k123, n123⟩, -, X123, ⟨Lc123, hQ123, l123, y123, z123⟩, st123⟩ := X120.virtualBack hx (y := (⟨"com/example/pairwright/pairwright/model/Result", "won", "()Z"⟩ : MethodName)) (z := (⟨"com/example/pairwright/pairwright/model/Result", "won", "()Z"⟩ : MethodName)) hown (mvT hZ (hw _ (List.mem_of_getElem? (i := 40) rfl))) (mvT hZ (hw _ (List.mem_of_getElem? (i := 41) rfl))) (notFace_of_selects (args := #[]) (mvT hZ (hw _ (List.mem_of_getElem? (i := 43) rfl)))) (mvT hZ (hw _ (List.mem_of_getElem? (i := 43) rfl))) (mvT hZ (hw _ (List.mem_of_getElem? (i := 42) rfl))) (by decide) (backOf (W := 0) (own_won l Z a0 hw [] z1 z0 z3 h0 n0 Z0 S0 S3) hZ (hw _ (List.mem_of_getElem? (i := 44) rfl)) (hw _ (List.mem_of_getElem? (i := 6) rfl)) (by decide) (by decide)) q123a q123c (g := (mkF m 74 #[.val (.int p1), .val (.int (1 : Int32)), .val (.ref z1), .val (.int (1 : Int32)), .val (.int (48 : Int32)), .val (.int (1 : Int32)), .val (.int (1 : Int32)), .unset] [(.ref z1)])) rfl (by rw [hml]; rfl) (Steps.refl _) (argsL := []) (rest := []) (lenOf pd___Z rfl) rfl (by show 2 * 0 + _ ≤ _; exact Nat.le_of_eq rfl) (hb hby at_74) (fun _ _ => ⟨rfl, s120, (by decide : 0 + 0 ≤ _), (by decide : 0 + 0 ≤ _)⟩)
    dsimp only [Pt.U, Pt.locs, Pt.cells, Pt.slots] at X123 l123 y123 z123 st123 hQ123
    subst l123 y123 z123
    obtain ⟨rfl, N123q, s123⟩ := hQ123
    have N123 := Fr.app N120 N123q
    have pp124 : ∀ t, Steps p.tables e below (T123.setTop (mkF m 77 #[.val (.int p1), .val (.int (1 : Int32)), .val (.ref z1), .val (.int (1 : Int32)), .val (.int (48 : Int32)), .val (.int (1 : Int32)), .val (.int (1 : Int32)), .unset] [(.int (own_or z1 z0 z3))])) t → Steps p.tables e below (s₁.setTop (entryFrame m #[(.int p1)] maxLocals)) t := fun t k => pp122 t (st123.trans k)
    rw [own_or3 ne1_0 ne1_3] at pp124
    have pp125 : ∀ t, Steps p.tables e below (T123.setTop (mkF m 109 #[.val (.int p1), .val (.int (1 : Int32)), .val (.ref z1), .val (.int (1 : Int32)), .val (.int (48 : Int32)), .val (.int (1 : Int32)), .val (.int (1 : Int32)), .val (.int (1 : Int32))] [(.int (1 : Int32))])) t → Steps p.tables e below (s₁.setTop (entryFrame m #[(.int p1)] maxLocals)) t := fun t k => pp124 t (by
      refine XS.ifNo X123.here hx rfl (hb hby at_77) rfl ((if0 _ _).trans (teq (by decide : (0 : Int32) = (0 : Int32))).2) ?_
      show Steps p.tables e below (T123.setTop (mkF m 80 #[.val (.int p1), .val (.int (1 : Int32)), .val (.ref z1), .val (.int (1 : Int32)), .val (.int (48 : Int32)), .val (.int (1 : Int32)), .val (.int (1 : Int32)), .unset] [])) _
      refine XS.iconst X123.here hx rfl (hb hby at_80) ?_
      show Steps p.tables e below (T123.setTop (mkF m 81 #[.val (.int p1), .val (.int (1 : Int32)), .val (.ref z1), .val (.int (1 : Int32)), .val (.int (48 : Int32)), .val (.int (1 : Int32)), .val (.int (1 : Int32)), .unset] [(.int (1 : Int32))])) _
      refine XS.goto X123.here hx rfl (pc0 := 81) (pc' := 85) rfl (hb hby at_81) (by decide) (by decide) ?_
      show Steps p.tables e below (T123.setTop (mkF m 85 #[.val (.int p1), .val (.int (1 : Int32)), .val (.ref z1), .val (.int (1 : Int32)), .val (.int (48 : Int32)), .val (.int (1 : Int32)), .val (.int (1 : Int32)), .unset] [(.int (1 : Int32))])) _
      refine XS.istore X123.here hx rfl (hb hby at_85) rfl (l' := #[.val (.int p1), .val (.int (1 : Int32)), .val (.ref z1), .val (.int (1 : Int32)), .val (.int (48 : Int32)), .val (.int (1 : Int32)), .val (.int (1 : Int32)), .val (.int (1 : Int32))]) rfl ?_
      show Steps p.tables e below (T123.setTop (mkF m 87 #[.val (.int p1), .val (.int (1 : Int32)), .val (.ref z1), .val (.int (1 : Int32)), .val (.int (48 : Int32)), .val (.int (1 : Int32)), .val (.int (1 : Int32)), .val (.int (1 : Int32))] [])) _
      refine XS.iloadN X123.here hx rfl (hb hby at_87) rfl ?_
      show Steps p.tables e below (T123.setTop (mkF m 88 #[.val (.int p1), .val (.int (1 : Int32)), .val (.ref z1), .val (.int (1 : Int32)), .val (.int (48 : Int32)), .val (.int (1 : Int32)), .val (.int (1 : Int32)), .val (.int (1 : Int32))] [(.int (1 : Int32))])) _
      refine XS.iload X123.here hx rfl (hb hby at_88) rfl ?_
      show Steps p.tables e below (T123.setTop (mkF m 90 #[.val (.int p1), .val (.int (1 : Int32)), .val (.ref z1), .val (.int (1 : Int32)), .val (.int (48 : Int32)), .val (.int (1 : Int32)), .val (.int (1 : Int32)), .val (.int (1 : Int32))] [(.int (1 : Int32)), (.int (1 : Int32))])) _
      refine XS.icmpNo X123.here hx rfl (hb hby at_90) rfl (teq (by decide : (1 : Int32) = (1 : Int32))).2 ?_
      show Steps p.tables e below (T123.setTop (mkF m 93 #[.val (.int p1), .val (.int (1 : Int32)), .val (.ref z1), .val (.int (1 : Int32)), .val (.int (48 : Int32)), .val (.int (1 : Int32)), .val (.int (1 : Int32)), .val (.int (1 : Int32))] [])) _
      refine XS.iloadN X123.here hx rfl (hb hby at_93) rfl ?_
      show Steps p.tables e below (T123.setTop (mkF m 94 #[.val (.int p1), .val (.int (1 : Int32)), .val (.ref z1), .val (.int (1 : Int32)), .val (.int (48 : Int32)), .val (.int (1 : Int32)), .val (.int (1 : Int32)), .val (.int (1 : Int32))] [(.int (1 : Int32))])) _
      refine XS.iload X123.here hx rfl (hb hby at_94) rfl ?_
      show Steps p.tables e below (T123.setTop (mkF m 96 #[.val (.int p1), .val (.int (1 : Int32)), .val (.ref z1), .val (.int (1 : Int32)), .val (.int (48 : Int32)), .val (.int (1 : Int32)), .val (.int (1 : Int32)), .val (.int (1 : Int32))] [(.int (1 : Int32)), (.int (1 : Int32))])) _
      refine XS.icmpNo X123.here hx rfl (hb hby at_96) rfl (teq (by decide : (1 : Int32) = (1 : Int32))).2 ?_
      show Steps p.tables e below (T123.setTop (mkF m 99 #[.val (.int p1), .val (.int (1 : Int32)), .val (.ref z1), .val (.int (1 : Int32)), .val (.int (48 : Int32)), .val (.int (1 : Int32)), .val (.int (1 : Int32)), .val (.int (1 : Int32))] [])) _
      refine XS.iload X123.here hx rfl (hb hby at_99) rfl ?_
      show Steps p.tables e below (T123.setTop (mkF m 101 #[.val (.int p1), .val (.int (1 : Int32)), .val (.ref z1), .val (.int (1 : Int32)), .val (.int (48 : Int32)), .val (.int (1 : Int32)), .val (.int (1 : Int32)), .val (.int (1 : Int32))] [(.int (1 : Int32))])) _
      refine XS.ifNo X123.here hx rfl (hb hby at_101) rfl ((if0 _ _).trans (feq (by decide : ¬ ((1 : Int32) = (0 : Int32)))).1) ?_
      show Steps p.tables e below (T123.setTop (mkF m 104 #[.val (.int p1), .val (.int (1 : Int32)), .val (.ref z1), .val (.int (1 : Int32)), .val (.int (48 : Int32)), .val (.int (1 : Int32)), .val (.int (1 : Int32)), .val (.int (1 : Int32))] [])) _
      refine XS.iconst X123.here hx rfl (hb hby at_104) ?_
      show Steps p.tables e below (T123.setTop (mkF m 105 #[.val (.int p1), .val (.int (1 : Int32)), .val (.ref z1), .val (.int (1 : Int32)), .val (.int (48 : Int32)), .val (.int (1 : Int32)), .val (.int (1 : Int32)), .val (.int (1 : Int32))] [(.int (1 : Int32))])) _
      refine XS.goto X123.here hx rfl (pc0 := 105) (pc' := 109) rfl (hb hby at_105) (by decide) (by decide) ?_
      show Steps p.tables e below (T123.setTop (mkF m 109 #[.val (.int p1), .val (.int (1 : Int32)), .val (.ref z1), .val (.int (1 : Int32)), .val (.int (48 : Int32)), .val (.int (1 : Int32)), .val (.int (1 : Int32)), .val (.int (1 : Int32))] [(.int (1 : Int32))])) _
      exact k)
    obtain ⟨fs, hr, hrun, hended, hW, hsame⟩ := X123.leave (v := some (.int (1 : Int32))) (fun h => by rw [Bd.returns] at h; cases h)
    refine ⟨_, _, pp125 _ ?_, hrun, hended, _, _, rfl, ?_, ⟨_, rfl⟩, hW, hsame.mono (by decide) (by decide)⟩
    · exact retN X123 hx (t := .boolean) Bd.returns (by simp) (hb hby at_109) hr
    · show Q_own_law Z p1 z0 z1 z2 z3 z4 z5 z6 z7 z8 z9 z10 z11 h0 n0 _ T123.heap _
      rw [s123]
      exact ⟨rfl, N123⟩
  · obtain ⟨_, _, ⟨T126, L126, k126, n126⟩, -, X126, ⟨Lc126, hQ126, l126, y126, z126⟩, st126⟩ := Jvm.LawKit.callS X0 hx (y := (⟨"com/example/pairwright/pairwright/model/ResultLostPinLaw", "pick", "(I)Lcom/example/pairwright/pairwright/model/Result;"⟩ : MethodName)) hown (mvT hZ (hw _ (List.mem_of_getElem? (i := 1) rfl))) (mvT hZ (hw _ (List.mem_of_getElem? (i := 2) rfl))) (mvT hZ (hw _ (List.mem_of_getElem? (i := 3) rfl))) (mvT hZ (hw _ (List.mem_of_getElem? (i := 4) rfl))) (by decide) (backOf (W := 0) (own_pick l Z a0 hw [] (2 : Int32) z0 z1 z2 z3 z4 z5 z6 z7 z8 z9 z10 z11 h0 n0 Z0 S0 S1 S2 S3 S4 S5 S6 S7 S8 S9 S10 S11) hZ (hw _ (List.mem_of_getElem? (i := 4) rfl)) (hw _ (List.mem_of_getElem? (i := 3) rfl)) (by decide) (by decide)) (g := (mkF m 9 #[.val (.int p1), .val (.int (2 : Int32)), .unset, .unset, .unset, .unset, .unset, .unset] [(.int (2 : Int32))])) rfl (by rw [hml]; rfl) (argsL := [(.int (2 : Int32))]) (rest := []) (lenOf pd__I_Lcom_example_pairwright_pairwright_model_Result_ rfl) rfl (by show 2 * 0 + _ ≤ _; exact Nat.le_of_eq rfl) (hb hby at_9) (fun _ _ => ⟨rfl, e0, (by decide : 0 + 0 ≤ _), (by decide : 0 + 0 ≤ _)⟩)
    dsimp only [Pt.U, Pt.locs, Pt.cells, Pt.slots] at X126 l126 y126 z126 st126 hQ126
    subst l126 y126 z126
    obtain ⟨rfl, N126q, s126⟩ := hQ126
    have N126 := Fr.app N0 N126q
    have pp127 : ∀ t, Steps p.tables e below (T126.setTop (mkF m 12 #[.val (.int p1), .val (.int (2 : Int32)), .unset, .unset, .unset, .unset, .unset, .unset] [(.ref z2)])) t → Steps p.tables e below (s₁.setTop (entryFrame m #[(.int p1)] maxLocals)) t := fun t k => pp101 t (st126 t k)
    have pp128 : ∀ t, Steps p.tables e below (T126.setTop (mkF m 14 #[.val (.int p1), .val (.int (2 : Int32)), .val (.ref z2), .unset, .unset, .unset, .unset, .unset] [(.ref z2)])) t → Steps p.tables e below (s₁.setTop (entryFrame m #[(.int p1)] maxLocals)) t := fun t k => pp127 t (by
      refine XS.astoreN X126.here hx rfl (hb hby at_12) rfl rfl (l' := #[.val (.int p1), .val (.int (2 : Int32)), .val (.ref z2), .unset, .unset, .unset, .unset, .unset]) rfl ?_
      show Steps p.tables e below (T126.setTop (mkF m 13 #[.val (.int p1), .val (.int (2 : Int32)), .val (.ref z2), .unset, .unset, .unset, .unset, .unset] [])) _
      refine XS.aloadN X126.here hx rfl (hb hby at_13) rfl rfl ?_
      show Steps p.tables e below (T126.setTop (mkF m 14 #[.val (.int p1), .val (.int (2 : Int32)), .val (.ref z2), .unset, .unset, .unset, .unset, .unset] [(.ref z2)])) _
      exact k)
    obtain ⟨cq129, kq129, q129a, q129b, q129c⟩ := isOf hZ s126 E2
    obtain ⟨_, _, ⟨T129, L129, k129, n129⟩, -, X129, ⟨Lc129, hQ129, l129, y129, z129⟩, st129⟩ := X126.virtualBack hx (y := (⟨"com/example/pairwright/pairwright/model/Result", "lost", "()Z"⟩ : MethodName)) (z := (⟨"com/example/pairwright/pairwright/model/Result", "lost", "()Z"⟩ : MethodName)) hown (mvT hZ (hw _ (List.mem_of_getElem? (i := 8) rfl))) (mvT hZ (hw _ (List.mem_of_getElem? (i := 9) rfl))) (notFace_of_selects (args := #[]) (mvT hZ (hw _ (List.mem_of_getElem? (i := 11) rfl)))) (mvT hZ (hw _ (List.mem_of_getElem? (i := 11) rfl))) (mvT hZ (hw _ (List.mem_of_getElem? (i := 10) rfl))) (by decide) (backOf (W := 0) (own_lost l Z a0 hw [] z2 z1 z4 h0 n0 Z0 S1 S4) hZ (hw _ (List.mem_of_getElem? (i := 12) rfl)) (hw _ (List.mem_of_getElem? (i := 6) rfl)) (by decide) (by decide)) q129a q129c (g := (mkF m 14 #[.val (.int p1), .val (.int (2 : Int32)), .val (.ref z2), .unset, .unset, .unset, .unset, .unset] [(.ref z2)])) rfl (by rw [hml]; rfl) (Steps.refl _) (argsL := []) (rest := []) (lenOf pd___Z rfl) rfl (by show 2 * 0 + _ ≤ _; exact Nat.le_of_eq rfl) (hb hby at_14) (fun _ _ => ⟨rfl, s126, (by decide : 0 + 0 ≤ _), (by decide : 0 + 0 ≤ _)⟩)
    dsimp only [Pt.U, Pt.locs, Pt.cells, Pt.slots] at X129 l129 y129 z129 st129 hQ129
    subst l129 y129 z129
    obtain ⟨rfl, N129q, s129⟩ := hQ129
    have N129 := Fr.app N126 N129q
    have pp130 : ∀ t, Steps p.tables e below (T129.setTop (mkF m 17 #[.val (.int p1), .val (.int (2 : Int32)), .val (.ref z2), .unset, .unset, .unset, .unset, .unset] [(.int (own_or z2 z1 z4))])) t → Steps p.tables e below (s₁.setTop (entryFrame m #[(.int p1)] maxLocals)) t := fun t k => pp128 t (st129.trans k)
    rw [own_or3 ne2_1 ne2_4] at pp130
    have pp131 : ∀ t, Steps p.tables e below (T129.setTop (mkF m 19 #[.val (.int p1), .val (.int (2 : Int32)), .val (.ref z2), .val (.int (0 : Int32)), .unset, .unset, .unset, .unset] [(.ref z2)])) t → Steps p.tables e below (s₁.setTop (entryFrame m #[(.int p1)] maxLocals)) t := fun t k => pp130 t (by
      refine XS.istoreN X129.here hx rfl (hb hby at_17) rfl (l' := #[.val (.int p1), .val (.int (2 : Int32)), .val (.ref z2), .val (.int (0 : Int32)), .unset, .unset, .unset, .unset]) rfl ?_
      show Steps p.tables e below (T129.setTop (mkF m 18 #[.val (.int p1), .val (.int (2 : Int32)), .val (.ref z2), .val (.int (0 : Int32)), .unset, .unset, .unset, .unset] [])) _
      refine XS.aloadN X129.here hx rfl (hb hby at_18) rfl rfl ?_
      show Steps p.tables e below (T129.setTop (mkF m 19 #[.val (.int p1), .val (.int (2 : Int32)), .val (.ref z2), .val (.int (0 : Int32)), .unset, .unset, .unset, .unset] [(.ref z2)])) _
      exact k)
    obtain ⟨cq132, kq132, q132a, q132b, q132c⟩ := isOf hZ s129 E2
    obtain ⟨_, _, ⟨T132, L132, k132, n132⟩, -, X132, ⟨Lc132, hQ132, l132, y132, z132⟩, st132⟩ := X129.virtualBack hx (y := (⟨"com/example/pairwright/pairwright/model/Result", "code", "()C"⟩ : MethodName)) (z := (⟨"com/example/pairwright/pairwright/model/Result", "code", "()C"⟩ : MethodName)) hown (mvT hZ (hw _ (List.mem_of_getElem? (i := 17) rfl))) (mvT hZ (hw _ (List.mem_of_getElem? (i := 18) rfl))) (notFace_of_selects (args := #[]) (mvT hZ (hw _ (List.mem_of_getElem? (i := 20) rfl)))) (mvT hZ (hw _ (List.mem_of_getElem? (i := 20) rfl))) (mvT hZ (hw _ (List.mem_of_getElem? (i := 19) rfl))) (by decide) (backOf (W := 0) (own_code l Z a0 hw [] z2 (61 : Int32) h0 n0 Z0 C2) hZ (hw _ (List.mem_of_getElem? (i := 21) rfl)) (hw _ (List.mem_of_getElem? (i := 6) rfl)) (by decide) (by decide)) q132a q132c (g := (mkF m 19 #[.val (.int p1), .val (.int (2 : Int32)), .val (.ref z2), .val (.int (0 : Int32)), .unset, .unset, .unset, .unset] [(.ref z2)])) rfl (by rw [hml]; rfl) (Steps.refl _) (argsL := []) (rest := []) (lenOf pd___C rfl) rfl (by show 2 * 0 + _ ≤ _; exact Nat.le_of_eq rfl) (hb hby at_19) (fun _ _ => ⟨rfl, s129, (by decide : 0 + 0 ≤ _), (by decide : 0 + 0 ≤ _)⟩)
    dsimp only [Pt.U, Pt.locs, Pt.cells, Pt.slots] at X132 l132 y132 z132 st132 hQ132
    subst l132 y132 z132
    obtain ⟨rfl, N132q, s132⟩ := hQ132
    have N132 := Fr.app N129 N132q
    have pp133 : ∀ t, Steps p.tables e below (T132.setTop (mkF m 22 #[.val (.int p1), .val (.int (2 : Int32)), .val (.ref z2), .val (.int (0 : Int32)), .unset, .unset, .unset, .unset] [(.int (nar .char (61 : Int32)))])) t → Steps p.tables e below (s₁.setTop (entryFrame m #[(.int p1)] maxLocals)) t := fun t k => pp131 t (st132.trans k)
    rw [show nar .char (61 : Int32) = (61 : Int32) from by decide] at pp133
    have pp134 : ∀ t, Steps p.tables e below (T132.setTop (mkF m 109 #[.val (.int p1), .val (.int (2 : Int32)), .val (.ref z2), .val (.int (0 : Int32)), .val (.int (61 : Int32)), .val (.int (0 : Int32)), .val (.int (0 : Int32)), .val (.int (1 : Int32))] [(.int (1 : Int32))])) t → Steps p.tables e below (s₁.setTop (entryFrame m #[(.int p1)] maxLocals)) t := fun t k => pp133 t (by
      refine XS.istore X132.here hx rfl (hb hby at_22) rfl (l' := #[.val (.int p1), .val (.int (2 : Int32)), .val (.ref z2), .val (.int (0 : Int32)), .val (.int (61 : Int32)), .unset, .unset, .unset]) rfl ?_
      show Steps p.tables e below (T132.setTop (mkF m 24 #[.val (.int p1), .val (.int (2 : Int32)), .val (.ref z2), .val (.int (0 : Int32)), .val (.int (61 : Int32)), .unset, .unset, .unset] [])) _
      refine XS.iload X132.here hx rfl (hb hby at_24) rfl ?_
      show Steps p.tables e below (T132.setTop (mkF m 26 #[.val (.int p1), .val (.int (2 : Int32)), .val (.ref z2), .val (.int (0 : Int32)), .val (.int (61 : Int32)), .unset, .unset, .unset] [(.int (61 : Int32))])) _
      refine XS.bipush X132.here hx rfl (hb hby at_26) ?_
      show Steps p.tables e below (T132.setTop (mkF m 28 #[.val (.int p1), .val (.int (2 : Int32)), .val (.ref z2), .val (.int (0 : Int32)), .val (.int (61 : Int32)), .unset, .unset, .unset] [(.int (48 : Int32)), (.int (61 : Int32))])) _
      refine XS.icmpNo X132.here hx rfl (hb hby at_28) rfl (feq (by decide : ¬ ((61 : Int32) = (48 : Int32)))).1 ?_
      show Steps p.tables e below (T132.setTop (mkF m 31 #[.val (.int p1), .val (.int (2 : Int32)), .val (.ref z2), .val (.int (0 : Int32)), .val (.int (61 : Int32)), .unset, .unset, .unset] [])) _
      refine XS.iload X132.here hx rfl (hb hby at_31) rfl ?_
      show Steps p.tables e below (T132.setTop (mkF m 33 #[.val (.int p1), .val (.int (2 : Int32)), .val (.ref z2), .val (.int (0 : Int32)), .val (.int (61 : Int32)), .unset, .unset, .unset] [(.int (61 : Int32))])) _
      refine XS.bipush X132.here hx rfl (hb hby at_33) ?_
      show Steps p.tables e below (T132.setTop (mkF m 35 #[.val (.int p1), .val (.int (2 : Int32)), .val (.ref z2), .val (.int (0 : Int32)), .val (.int (61 : Int32)), .unset, .unset, .unset] [(.int (76 : Int32)), (.int (61 : Int32))])) _
      refine XS.icmpYes X132.here hx rfl (pc0 := 35) (pc' := 42) rfl (hb hby at_35) rfl (feq (by decide : ¬ ((61 : Int32) = (76 : Int32)))).2 (by decide) (by decide) ?_
      show Steps p.tables e below (T132.setTop (mkF m 42 #[.val (.int p1), .val (.int (2 : Int32)), .val (.ref z2), .val (.int (0 : Int32)), .val (.int (61 : Int32)), .unset, .unset, .unset] [])) _
      refine XS.iconst X132.here hx rfl (hb hby at_42) ?_
      show Steps p.tables e below (T132.setTop (mkF m 43 #[.val (.int p1), .val (.int (2 : Int32)), .val (.ref z2), .val (.int (0 : Int32)), .val (.int (61 : Int32)), .unset, .unset, .unset] [(.int (0 : Int32))])) _
      refine XS.istore X132.here hx rfl (hb hby at_43) rfl (l' := #[.val (.int p1), .val (.int (2 : Int32)), .val (.ref z2), .val (.int (0 : Int32)), .val (.int (61 : Int32)), .val (.int (0 : Int32)), .unset, .unset]) rfl ?_
      show Steps p.tables e below (T132.setTop (mkF m 45 #[.val (.int p1), .val (.int (2 : Int32)), .val (.ref z2), .val (.int (0 : Int32)), .val (.int (61 : Int32)), .val (.int (0 : Int32)), .unset, .unset] [])) _
      refine XS.iloadN X132.here hx rfl (hb hby at_45) rfl ?_
      show Steps p.tables e below (T132.setTop (mkF m 46 #[.val (.int p1), .val (.int (2 : Int32)), .val (.ref z2), .val (.int (0 : Int32)), .val (.int (61 : Int32)), .val (.int (0 : Int32)), .unset, .unset] [(.int (2 : Int32))])) _
      refine XS.iconst X132.here hx rfl (hb hby at_46) ?_
      show Steps p.tables e below (T132.setTop (mkF m 47 #[.val (.int p1), .val (.int (2 : Int32)), .val (.ref z2), .val (.int (0 : Int32)), .val (.int (61 : Int32)), .val (.int (0 : Int32)), .unset, .unset] [(.int (1 : Int32)), (.int (2 : Int32))])) _
      refine XS.icmpNo X132.here hx rfl (hb hby at_47) rfl (feq (by decide : ¬ ((2 : Int32) = (1 : Int32)))).1 ?_
      show Steps p.tables e below (T132.setTop (mkF m 50 #[.val (.int p1), .val (.int (2 : Int32)), .val (.ref z2), .val (.int (0 : Int32)), .val (.int (61 : Int32)), .val (.int (0 : Int32)), .unset, .unset] [])) _
      refine XS.iloadN X132.here hx rfl (hb hby at_50) rfl ?_
      show Steps p.tables e below (T132.setTop (mkF m 51 #[.val (.int p1), .val (.int (2 : Int32)), .val (.ref z2), .val (.int (0 : Int32)), .val (.int (61 : Int32)), .val (.int (0 : Int32)), .unset, .unset] [(.int (2 : Int32))])) _
      refine XS.iconst X132.here hx rfl (hb hby at_51) ?_
      show Steps p.tables e below (T132.setTop (mkF m 52 #[.val (.int p1), .val (.int (2 : Int32)), .val (.ref z2), .val (.int (0 : Int32)), .val (.int (61 : Int32)), .val (.int (0 : Int32)), .unset, .unset] [(.int (4 : Int32)), (.int (2 : Int32))])) _
      refine XS.icmpYes X132.here hx rfl (pc0 := 52) (pc' := 59) rfl (hb hby at_52) rfl (feq (by decide : ¬ ((2 : Int32) = (4 : Int32)))).2 (by decide) (by decide) ?_
      show Steps p.tables e below (T132.setTop (mkF m 59 #[.val (.int p1), .val (.int (2 : Int32)), .val (.ref z2), .val (.int (0 : Int32)), .val (.int (61 : Int32)), .val (.int (0 : Int32)), .unset, .unset] [])) _
      refine XS.iconst X132.here hx rfl (hb hby at_59) ?_
      show Steps p.tables e below (T132.setTop (mkF m 60 #[.val (.int p1), .val (.int (2 : Int32)), .val (.ref z2), .val (.int (0 : Int32)), .val (.int (61 : Int32)), .val (.int (0 : Int32)), .unset, .unset] [(.int (0 : Int32))])) _
      refine XS.istore X132.here hx rfl (hb hby at_60) rfl (l' := #[.val (.int p1), .val (.int (2 : Int32)), .val (.ref z2), .val (.int (0 : Int32)), .val (.int (61 : Int32)), .val (.int (0 : Int32)), .val (.int (0 : Int32)), .unset]) rfl ?_
      show Steps p.tables e below (T132.setTop (mkF m 62 #[.val (.int p1), .val (.int (2 : Int32)), .val (.ref z2), .val (.int (0 : Int32)), .val (.int (61 : Int32)), .val (.int (0 : Int32)), .val (.int (0 : Int32)), .unset] [])) _
      refine XS.iloadN X132.here hx rfl (hb hby at_62) rfl ?_
      show Steps p.tables e below (T132.setTop (mkF m 63 #[.val (.int p1), .val (.int (2 : Int32)), .val (.ref z2), .val (.int (0 : Int32)), .val (.int (61 : Int32)), .val (.int (0 : Int32)), .val (.int (0 : Int32)), .unset] [(.int (0 : Int32))])) _
      refine XS.ifYes X132.here hx rfl (pc0 := 63) (pc' := 80) rfl (hb hby at_63) rfl ((if0 _ _).trans (teq (by decide : (0 : Int32) = (0 : Int32))).1) (by decide) (by decide) ?_
      show Steps p.tables e below (T132.setTop (mkF m 80 #[.val (.int p1), .val (.int (2 : Int32)), .val (.ref z2), .val (.int (0 : Int32)), .val (.int (61 : Int32)), .val (.int (0 : Int32)), .val (.int (0 : Int32)), .unset] [])) _
      refine XS.iconst X132.here hx rfl (hb hby at_80) ?_
      show Steps p.tables e below (T132.setTop (mkF m 81 #[.val (.int p1), .val (.int (2 : Int32)), .val (.ref z2), .val (.int (0 : Int32)), .val (.int (61 : Int32)), .val (.int (0 : Int32)), .val (.int (0 : Int32)), .unset] [(.int (1 : Int32))])) _
      refine XS.goto X132.here hx rfl (pc0 := 81) (pc' := 85) rfl (hb hby at_81) (by decide) (by decide) ?_
      show Steps p.tables e below (T132.setTop (mkF m 85 #[.val (.int p1), .val (.int (2 : Int32)), .val (.ref z2), .val (.int (0 : Int32)), .val (.int (61 : Int32)), .val (.int (0 : Int32)), .val (.int (0 : Int32)), .unset] [(.int (1 : Int32))])) _
      refine XS.istore X132.here hx rfl (hb hby at_85) rfl (l' := #[.val (.int p1), .val (.int (2 : Int32)), .val (.ref z2), .val (.int (0 : Int32)), .val (.int (61 : Int32)), .val (.int (0 : Int32)), .val (.int (0 : Int32)), .val (.int (1 : Int32))]) rfl ?_
      show Steps p.tables e below (T132.setTop (mkF m 87 #[.val (.int p1), .val (.int (2 : Int32)), .val (.ref z2), .val (.int (0 : Int32)), .val (.int (61 : Int32)), .val (.int (0 : Int32)), .val (.int (0 : Int32)), .val (.int (1 : Int32))] [])) _
      refine XS.iloadN X132.here hx rfl (hb hby at_87) rfl ?_
      show Steps p.tables e below (T132.setTop (mkF m 88 #[.val (.int p1), .val (.int (2 : Int32)), .val (.ref z2), .val (.int (0 : Int32)), .val (.int (61 : Int32)), .val (.int (0 : Int32)), .val (.int (0 : Int32)), .val (.int (1 : Int32))] [(.int (0 : Int32))])) _
      refine XS.iload X132.here hx rfl (hb hby at_88) rfl ?_
      show Steps p.tables e below (T132.setTop (mkF m 90 #[.val (.int p1), .val (.int (2 : Int32)), .val (.ref z2), .val (.int (0 : Int32)), .val (.int (61 : Int32)), .val (.int (0 : Int32)), .val (.int (0 : Int32)), .val (.int (1 : Int32))] [(.int (0 : Int32)), (.int (0 : Int32))])) _
      refine XS.icmpNo X132.here hx rfl (hb hby at_90) rfl (teq (by decide : (0 : Int32) = (0 : Int32))).2 ?_
      show Steps p.tables e below (T132.setTop (mkF m 93 #[.val (.int p1), .val (.int (2 : Int32)), .val (.ref z2), .val (.int (0 : Int32)), .val (.int (61 : Int32)), .val (.int (0 : Int32)), .val (.int (0 : Int32)), .val (.int (1 : Int32))] [])) _
      refine XS.iloadN X132.here hx rfl (hb hby at_93) rfl ?_
      show Steps p.tables e below (T132.setTop (mkF m 94 #[.val (.int p1), .val (.int (2 : Int32)), .val (.ref z2), .val (.int (0 : Int32)), .val (.int (61 : Int32)), .val (.int (0 : Int32)), .val (.int (0 : Int32)), .val (.int (1 : Int32))] [(.int (0 : Int32))])) _
      refine XS.iload X132.here hx rfl (hb hby at_94) rfl ?_
      show Steps p.tables e below (T132.setTop (mkF m 96 #[.val (.int p1), .val (.int (2 : Int32)), .val (.ref z2), .val (.int (0 : Int32)), .val (.int (61 : Int32)), .val (.int (0 : Int32)), .val (.int (0 : Int32)), .val (.int (1 : Int32))] [(.int (0 : Int32)), (.int (0 : Int32))])) _
      refine XS.icmpNo X132.here hx rfl (hb hby at_96) rfl (teq (by decide : (0 : Int32) = (0 : Int32))).2 ?_
      show Steps p.tables e below (T132.setTop (mkF m 99 #[.val (.int p1), .val (.int (2 : Int32)), .val (.ref z2), .val (.int (0 : Int32)), .val (.int (61 : Int32)), .val (.int (0 : Int32)), .val (.int (0 : Int32)), .val (.int (1 : Int32))] [])) _
      refine XS.iload X132.here hx rfl (hb hby at_99) rfl ?_
      show Steps p.tables e below (T132.setTop (mkF m 101 #[.val (.int p1), .val (.int (2 : Int32)), .val (.ref z2), .val (.int (0 : Int32)), .val (.int (61 : Int32)), .val (.int (0 : Int32)), .val (.int (0 : Int32)), .val (.int (1 : Int32))] [(.int (1 : Int32))])) _
      refine XS.ifNo X132.here hx rfl (hb hby at_101) rfl ((if0 _ _).trans (feq (by decide : ¬ ((1 : Int32) = (0 : Int32)))).1) ?_
      show Steps p.tables e below (T132.setTop (mkF m 104 #[.val (.int p1), .val (.int (2 : Int32)), .val (.ref z2), .val (.int (0 : Int32)), .val (.int (61 : Int32)), .val (.int (0 : Int32)), .val (.int (0 : Int32)), .val (.int (1 : Int32))] [])) _
      refine XS.iconst X132.here hx rfl (hb hby at_104) ?_
      show Steps p.tables e below (T132.setTop (mkF m 105 #[.val (.int p1), .val (.int (2 : Int32)), .val (.ref z2), .val (.int (0 : Int32)), .val (.int (61 : Int32)), .val (.int (0 : Int32)), .val (.int (0 : Int32)), .val (.int (1 : Int32))] [(.int (1 : Int32))])) _
      refine XS.goto X132.here hx rfl (pc0 := 105) (pc' := 109) rfl (hb hby at_105) (by decide) (by decide) ?_
      show Steps p.tables e below (T132.setTop (mkF m 109 #[.val (.int p1), .val (.int (2 : Int32)), .val (.ref z2), .val (.int (0 : Int32)), .val (.int (61 : Int32)), .val (.int (0 : Int32)), .val (.int (0 : Int32)), .val (.int (1 : Int32))] [(.int (1 : Int32))])) _
      exact k)
    obtain ⟨fs, hr, hrun, hended, hW, hsame⟩ := X132.leave (v := some (.int (1 : Int32))) (fun h => by rw [Bd.returns] at h; cases h)
    refine ⟨_, _, pp134 _ ?_, hrun, hended, _, _, rfl, ?_, ⟨_, rfl⟩, hW, hsame.mono (by decide) (by decide)⟩
    · exact retN X132 hx (t := .boolean) Bd.returns (by simp) (hb hby at_109) hr
    · show Q_own_law Z p1 z0 z1 z2 z3 z4 z5 z6 z7 z8 z9 z10 z11 h0 n0 _ T132.heap _
      rw [s132]
      exact ⟨rfl, N132⟩
  · obtain ⟨_, _, ⟨T135, L135, k135, n135⟩, -, X135, ⟨Lc135, hQ135, l135, y135, z135⟩, st135⟩ := Jvm.LawKit.callS X0 hx (y := (⟨"com/example/pairwright/pairwright/model/ResultLostPinLaw", "pick", "(I)Lcom/example/pairwright/pairwright/model/Result;"⟩ : MethodName)) hown (mvT hZ (hw _ (List.mem_of_getElem? (i := 1) rfl))) (mvT hZ (hw _ (List.mem_of_getElem? (i := 2) rfl))) (mvT hZ (hw _ (List.mem_of_getElem? (i := 3) rfl))) (mvT hZ (hw _ (List.mem_of_getElem? (i := 4) rfl))) (by decide) (backOf (W := 0) (own_pick l Z a0 hw [] (3 : Int32) z0 z1 z2 z3 z4 z5 z6 z7 z8 z9 z10 z11 h0 n0 Z0 S0 S1 S2 S3 S4 S5 S6 S7 S8 S9 S10 S11) hZ (hw _ (List.mem_of_getElem? (i := 4) rfl)) (hw _ (List.mem_of_getElem? (i := 3) rfl)) (by decide) (by decide)) (g := (mkF m 9 #[.val (.int p1), .val (.int (3 : Int32)), .unset, .unset, .unset, .unset, .unset, .unset] [(.int (3 : Int32))])) rfl (by rw [hml]; rfl) (argsL := [(.int (3 : Int32))]) (rest := []) (lenOf pd__I_Lcom_example_pairwright_pairwright_model_Result_ rfl) rfl (by show 2 * 0 + _ ≤ _; exact Nat.le_of_eq rfl) (hb hby at_9) (fun _ _ => ⟨rfl, e0, (by decide : 0 + 0 ≤ _), (by decide : 0 + 0 ≤ _)⟩)
    dsimp only [Pt.U, Pt.locs, Pt.cells, Pt.slots] at X135 l135 y135 z135 st135 hQ135
    subst l135 y135 z135
    obtain ⟨rfl, N135q, s135⟩ := hQ135
    have N135 := Fr.app N0 N135q
    have pp136 : ∀ t, Steps p.tables e below (T135.setTop (mkF m 12 #[.val (.int p1), .val (.int (3 : Int32)), .unset, .unset, .unset, .unset, .unset, .unset] [(.ref z3)])) t → Steps p.tables e below (s₁.setTop (entryFrame m #[(.int p1)] maxLocals)) t := fun t k => pp101 t (st135 t k)
    have pp137 : ∀ t, Steps p.tables e below (T135.setTop (mkF m 14 #[.val (.int p1), .val (.int (3 : Int32)), .val (.ref z3), .unset, .unset, .unset, .unset, .unset] [(.ref z3)])) t → Steps p.tables e below (s₁.setTop (entryFrame m #[(.int p1)] maxLocals)) t := fun t k => pp136 t (by
      refine XS.astoreN X135.here hx rfl (hb hby at_12) rfl rfl (l' := #[.val (.int p1), .val (.int (3 : Int32)), .val (.ref z3), .unset, .unset, .unset, .unset, .unset]) rfl ?_
      show Steps p.tables e below (T135.setTop (mkF m 13 #[.val (.int p1), .val (.int (3 : Int32)), .val (.ref z3), .unset, .unset, .unset, .unset, .unset] [])) _
      refine XS.aloadN X135.here hx rfl (hb hby at_13) rfl rfl ?_
      show Steps p.tables e below (T135.setTop (mkF m 14 #[.val (.int p1), .val (.int (3 : Int32)), .val (.ref z3), .unset, .unset, .unset, .unset, .unset] [(.ref z3)])) _
      exact k)
    obtain ⟨cq138, kq138, q138a, q138b, q138c⟩ := isOf hZ s135 E3
    obtain ⟨_, _, ⟨T138, L138, k138, n138⟩, -, X138, ⟨Lc138, hQ138, l138, y138, z138⟩, st138⟩ := X135.virtualBack hx (y := (⟨"com/example/pairwright/pairwright/model/Result", "lost", "()Z"⟩ : MethodName)) (z := (⟨"com/example/pairwright/pairwright/model/Result", "lost", "()Z"⟩ : MethodName)) hown (mvT hZ (hw _ (List.mem_of_getElem? (i := 8) rfl))) (mvT hZ (hw _ (List.mem_of_getElem? (i := 9) rfl))) (notFace_of_selects (args := #[]) (mvT hZ (hw _ (List.mem_of_getElem? (i := 11) rfl)))) (mvT hZ (hw _ (List.mem_of_getElem? (i := 11) rfl))) (mvT hZ (hw _ (List.mem_of_getElem? (i := 10) rfl))) (by decide) (backOf (W := 0) (own_lost l Z a0 hw [] z3 z1 z4 h0 n0 Z0 S1 S4) hZ (hw _ (List.mem_of_getElem? (i := 12) rfl)) (hw _ (List.mem_of_getElem? (i := 6) rfl)) (by decide) (by decide)) q138a q138c (g := (mkF m 14 #[.val (.int p1), .val (.int (3 : Int32)), .val (.ref z3), .unset, .unset, .unset, .unset, .unset] [(.ref z3)])) rfl (by rw [hml]; rfl) (Steps.refl _) (argsL := []) (rest := []) (lenOf pd___Z rfl) rfl (by show 2 * 0 + _ ≤ _; exact Nat.le_of_eq rfl) (hb hby at_14) (fun _ _ => ⟨rfl, s135, (by decide : 0 + 0 ≤ _), (by decide : 0 + 0 ≤ _)⟩)
    dsimp only [Pt.U, Pt.locs, Pt.cells, Pt.slots] at X138 l138 y138 z138 st138 hQ138
    subst l138 y138 z138
    obtain ⟨rfl, N138q, s138⟩ := hQ138
    have N138 := Fr.app N135 N138q
    have pp139 : ∀ t, Steps p.tables e below (T138.setTop (mkF m 17 #[.val (.int p1), .val (.int (3 : Int32)), .val (.ref z3), .unset, .unset, .unset, .unset, .unset] [(.int (own_or z3 z1 z4))])) t → Steps p.tables e below (s₁.setTop (entryFrame m #[(.int p1)] maxLocals)) t := fun t k => pp137 t (st138.trans k)
    rw [own_or3 ne3_1 ne3_4] at pp139
    have pp140 : ∀ t, Steps p.tables e below (T138.setTop (mkF m 19 #[.val (.int p1), .val (.int (3 : Int32)), .val (.ref z3), .val (.int (0 : Int32)), .unset, .unset, .unset, .unset] [(.ref z3)])) t → Steps p.tables e below (s₁.setTop (entryFrame m #[(.int p1)] maxLocals)) t := fun t k => pp139 t (by
      refine XS.istoreN X138.here hx rfl (hb hby at_17) rfl (l' := #[.val (.int p1), .val (.int (3 : Int32)), .val (.ref z3), .val (.int (0 : Int32)), .unset, .unset, .unset, .unset]) rfl ?_
      show Steps p.tables e below (T138.setTop (mkF m 18 #[.val (.int p1), .val (.int (3 : Int32)), .val (.ref z3), .val (.int (0 : Int32)), .unset, .unset, .unset, .unset] [])) _
      refine XS.aloadN X138.here hx rfl (hb hby at_18) rfl rfl ?_
      show Steps p.tables e below (T138.setTop (mkF m 19 #[.val (.int p1), .val (.int (3 : Int32)), .val (.ref z3), .val (.int (0 : Int32)), .unset, .unset, .unset, .unset] [(.ref z3)])) _
      exact k)
    obtain ⟨cq141, kq141, q141a, q141b, q141c⟩ := isOf hZ s138 E3
    obtain ⟨_, _, ⟨T141, L141, k141, n141⟩, -, X141, ⟨Lc141, hQ141, l141, y141, z141⟩, st141⟩ := X138.virtualBack hx (y := (⟨"com/example/pairwright/pairwright/model/Result", "code", "()C"⟩ : MethodName)) (z := (⟨"com/example/pairwright/pairwright/model/Result", "code", "()C"⟩ : MethodName)) hown (mvT hZ (hw _ (List.mem_of_getElem? (i := 17) rfl))) (mvT hZ (hw _ (List.mem_of_getElem? (i := 18) rfl))) (notFace_of_selects (args := #[]) (mvT hZ (hw _ (List.mem_of_getElem? (i := 20) rfl)))) (mvT hZ (hw _ (List.mem_of_getElem? (i := 20) rfl))) (mvT hZ (hw _ (List.mem_of_getElem? (i := 19) rfl))) (by decide) (backOf (W := 0) (own_code l Z a0 hw [] z3 (87 : Int32) h0 n0 Z0 C3) hZ (hw _ (List.mem_of_getElem? (i := 21) rfl)) (hw _ (List.mem_of_getElem? (i := 6) rfl)) (by decide) (by decide)) q141a q141c (g := (mkF m 19 #[.val (.int p1), .val (.int (3 : Int32)), .val (.ref z3), .val (.int (0 : Int32)), .unset, .unset, .unset, .unset] [(.ref z3)])) rfl (by rw [hml]; rfl) (Steps.refl _) (argsL := []) (rest := []) (lenOf pd___C rfl) rfl (by show 2 * 0 + _ ≤ _; exact Nat.le_of_eq rfl) (hb hby at_19) (fun _ _ => ⟨rfl, s138, (by decide : 0 + 0 ≤ _), (by decide : 0 + 0 ≤ _)⟩)
    dsimp only [Pt.U, Pt.locs, Pt.cells, Pt.slots] at X141 l141 y141 z141 st141 hQ141
    subst l141 y141 z141
    obtain ⟨rfl, N141q, s141⟩ := hQ141
    have N141 := Fr.app N138 N141q
    have pp142 : ∀ t, Steps p.tables e below (T141.setTop (mkF m 22 #[.val (.int p1), .val (.int (3 : Int32)), .val (.ref z3), .val (.int (0 : Int32)), .unset, .unset, .unset, .unset] [(.int (nar .char (87 : Int32)))])) t → Steps p.tables e below (s₁.setTop (entryFrame m #[(.int p1)] maxLocals)) t := fun t k => pp140 t (st141.trans k)
    rw [show nar .char (87 : Int32) = (87 : Int32) from by decide] at pp142
    have pp143 : ∀ t, Steps p.tables e below (T141.setTop (mkF m 109 #[.val (.int p1), .val (.int (3 : Int32)), .val (.ref z3), .val (.int (0 : Int32)), .val (.int (87 : Int32)), .val (.int (0 : Int32)), .val (.int (0 : Int32)), .val (.int (1 : Int32))] [(.int (1 : Int32))])) t → Steps p.tables e below (s₁.setTop (entryFrame m #[(.int p1)] maxLocals)) t := fun t k => pp142 t (by
      refine XS.istore X141.here hx rfl (hb hby at_22) rfl (l' := #[.val (.int p1), .val (.int (3 : Int32)), .val (.ref z3), .val (.int (0 : Int32)), .val (.int (87 : Int32)), .unset, .unset, .unset]) rfl ?_
      show Steps p.tables e below (T141.setTop (mkF m 24 #[.val (.int p1), .val (.int (3 : Int32)), .val (.ref z3), .val (.int (0 : Int32)), .val (.int (87 : Int32)), .unset, .unset, .unset] [])) _
      refine XS.iload X141.here hx rfl (hb hby at_24) rfl ?_
      show Steps p.tables e below (T141.setTop (mkF m 26 #[.val (.int p1), .val (.int (3 : Int32)), .val (.ref z3), .val (.int (0 : Int32)), .val (.int (87 : Int32)), .unset, .unset, .unset] [(.int (87 : Int32))])) _
      refine XS.bipush X141.here hx rfl (hb hby at_26) ?_
      show Steps p.tables e below (T141.setTop (mkF m 28 #[.val (.int p1), .val (.int (3 : Int32)), .val (.ref z3), .val (.int (0 : Int32)), .val (.int (87 : Int32)), .unset, .unset, .unset] [(.int (48 : Int32)), (.int (87 : Int32))])) _
      refine XS.icmpNo X141.here hx rfl (hb hby at_28) rfl (feq (by decide : ¬ ((87 : Int32) = (48 : Int32)))).1 ?_
      show Steps p.tables e below (T141.setTop (mkF m 31 #[.val (.int p1), .val (.int (3 : Int32)), .val (.ref z3), .val (.int (0 : Int32)), .val (.int (87 : Int32)), .unset, .unset, .unset] [])) _
      refine XS.iload X141.here hx rfl (hb hby at_31) rfl ?_
      show Steps p.tables e below (T141.setTop (mkF m 33 #[.val (.int p1), .val (.int (3 : Int32)), .val (.ref z3), .val (.int (0 : Int32)), .val (.int (87 : Int32)), .unset, .unset, .unset] [(.int (87 : Int32))])) _
      refine XS.bipush X141.here hx rfl (hb hby at_33) ?_
      show Steps p.tables e below (T141.setTop (mkF m 35 #[.val (.int p1), .val (.int (3 : Int32)), .val (.ref z3), .val (.int (0 : Int32)), .val (.int (87 : Int32)), .unset, .unset, .unset] [(.int (76 : Int32)), (.int (87 : Int32))])) _
      refine XS.icmpYes X141.here hx rfl (pc0 := 35) (pc' := 42) rfl (hb hby at_35) rfl (feq (by decide : ¬ ((87 : Int32) = (76 : Int32)))).2 (by decide) (by decide) ?_
      show Steps p.tables e below (T141.setTop (mkF m 42 #[.val (.int p1), .val (.int (3 : Int32)), .val (.ref z3), .val (.int (0 : Int32)), .val (.int (87 : Int32)), .unset, .unset, .unset] [])) _
      refine XS.iconst X141.here hx rfl (hb hby at_42) ?_
      show Steps p.tables e below (T141.setTop (mkF m 43 #[.val (.int p1), .val (.int (3 : Int32)), .val (.ref z3), .val (.int (0 : Int32)), .val (.int (87 : Int32)), .unset, .unset, .unset] [(.int (0 : Int32))])) _
      refine XS.istore X141.here hx rfl (hb hby at_43) rfl (l' := #[.val (.int p1), .val (.int (3 : Int32)), .val (.ref z3), .val (.int (0 : Int32)), .val (.int (87 : Int32)), .val (.int (0 : Int32)), .unset, .unset]) rfl ?_
      show Steps p.tables e below (T141.setTop (mkF m 45 #[.val (.int p1), .val (.int (3 : Int32)), .val (.ref z3), .val (.int (0 : Int32)), .val (.int (87 : Int32)), .val (.int (0 : Int32)), .unset, .unset] [])) _
      refine XS.iloadN X141.here hx rfl (hb hby at_45) rfl ?_
      show Steps p.tables e below (T141.setTop (mkF m 46 #[.val (.int p1), .val (.int (3 : Int32)), .val (.ref z3), .val (.int (0 : Int32)), .val (.int (87 : Int32)), .val (.int (0 : Int32)), .unset, .unset] [(.int (3 : Int32))])) _
      refine XS.iconst X141.here hx rfl (hb hby at_46) ?_
      show Steps p.tables e below (T141.setTop (mkF m 47 #[.val (.int p1), .val (.int (3 : Int32)), .val (.ref z3), .val (.int (0 : Int32)), .val (.int (87 : Int32)), .val (.int (0 : Int32)), .unset, .unset] [(.int (1 : Int32)), (.int (3 : Int32))])) _
      refine XS.icmpNo X141.here hx rfl (hb hby at_47) rfl (feq (by decide : ¬ ((3 : Int32) = (1 : Int32)))).1 ?_
      show Steps p.tables e below (T141.setTop (mkF m 50 #[.val (.int p1), .val (.int (3 : Int32)), .val (.ref z3), .val (.int (0 : Int32)), .val (.int (87 : Int32)), .val (.int (0 : Int32)), .unset, .unset] [])) _
      refine XS.iloadN X141.here hx rfl (hb hby at_50) rfl ?_
      show Steps p.tables e below (T141.setTop (mkF m 51 #[.val (.int p1), .val (.int (3 : Int32)), .val (.ref z3), .val (.int (0 : Int32)), .val (.int (87 : Int32)), .val (.int (0 : Int32)), .unset, .unset] [(.int (3 : Int32))])) _
      refine XS.iconst X141.here hx rfl (hb hby at_51) ?_
      show Steps p.tables e below (T141.setTop (mkF m 52 #[.val (.int p1), .val (.int (3 : Int32)), .val (.ref z3), .val (.int (0 : Int32)), .val (.int (87 : Int32)), .val (.int (0 : Int32)), .unset, .unset] [(.int (4 : Int32)), (.int (3 : Int32))])) _
      refine XS.icmpYes X141.here hx rfl (pc0 := 52) (pc' := 59) rfl (hb hby at_52) rfl (feq (by decide : ¬ ((3 : Int32) = (4 : Int32)))).2 (by decide) (by decide) ?_
      show Steps p.tables e below (T141.setTop (mkF m 59 #[.val (.int p1), .val (.int (3 : Int32)), .val (.ref z3), .val (.int (0 : Int32)), .val (.int (87 : Int32)), .val (.int (0 : Int32)), .unset, .unset] [])) _
      refine XS.iconst X141.here hx rfl (hb hby at_59) ?_
      show Steps p.tables e below (T141.setTop (mkF m 60 #[.val (.int p1), .val (.int (3 : Int32)), .val (.ref z3), .val (.int (0 : Int32)), .val (.int (87 : Int32)), .val (.int (0 : Int32)), .unset, .unset] [(.int (0 : Int32))])) _
      refine XS.istore X141.here hx rfl (hb hby at_60) rfl (l' := #[.val (.int p1), .val (.int (3 : Int32)), .val (.ref z3), .val (.int (0 : Int32)), .val (.int (87 : Int32)), .val (.int (0 : Int32)), .val (.int (0 : Int32)), .unset]) rfl ?_
      show Steps p.tables e below (T141.setTop (mkF m 62 #[.val (.int p1), .val (.int (3 : Int32)), .val (.ref z3), .val (.int (0 : Int32)), .val (.int (87 : Int32)), .val (.int (0 : Int32)), .val (.int (0 : Int32)), .unset] [])) _
      refine XS.iloadN X141.here hx rfl (hb hby at_62) rfl ?_
      show Steps p.tables e below (T141.setTop (mkF m 63 #[.val (.int p1), .val (.int (3 : Int32)), .val (.ref z3), .val (.int (0 : Int32)), .val (.int (87 : Int32)), .val (.int (0 : Int32)), .val (.int (0 : Int32)), .unset] [(.int (0 : Int32))])) _
      refine XS.ifYes X141.here hx rfl (pc0 := 63) (pc' := 80) rfl (hb hby at_63) rfl ((if0 _ _).trans (teq (by decide : (0 : Int32) = (0 : Int32))).1) (by decide) (by decide) ?_
      show Steps p.tables e below (T141.setTop (mkF m 80 #[.val (.int p1), .val (.int (3 : Int32)), .val (.ref z3), .val (.int (0 : Int32)), .val (.int (87 : Int32)), .val (.int (0 : Int32)), .val (.int (0 : Int32)), .unset] [])) _
      refine XS.iconst X141.here hx rfl (hb hby at_80) ?_
      show Steps p.tables e below (T141.setTop (mkF m 81 #[.val (.int p1), .val (.int (3 : Int32)), .val (.ref z3), .val (.int (0 : Int32)), .val (.int (87 : Int32)), .val (.int (0 : Int32)), .val (.int (0 : Int32)), .unset] [(.int (1 : Int32))])) _
      refine XS.goto X141.here hx rfl (pc0 := 81) (pc' := 85) rfl (hb hby at_81) (by decide) (by decide) ?_
      show Steps p.tables e below (T141.setTop (mkF m 85 #[.val (.int p1), .val (.int (3 : Int32)), .val (.ref z3), .val (.int (0 : Int32)), .val (.int (87 : Int32)), .val (.int (0 : Int32)), .val (.int (0 : Int32)), .unset] [(.int (1 : Int32))])) _
      refine XS.istore X141.here hx rfl (hb hby at_85) rfl (l' := #[.val (.int p1), .val (.int (3 : Int32)), .val (.ref z3), .val (.int (0 : Int32)), .val (.int (87 : Int32)), .val (.int (0 : Int32)), .val (.int (0 : Int32)), .val (.int (1 : Int32))]) rfl ?_
      show Steps p.tables e below (T141.setTop (mkF m 87 #[.val (.int p1), .val (.int (3 : Int32)), .val (.ref z3), .val (.int (0 : Int32)), .val (.int (87 : Int32)), .val (.int (0 : Int32)), .val (.int (0 : Int32)), .val (.int (1 : Int32))] [])) _
      refine XS.iloadN X141.here hx rfl (hb hby at_87) rfl ?_
      show Steps p.tables e below (T141.setTop (mkF m 88 #[.val (.int p1), .val (.int (3 : Int32)), .val (.ref z3), .val (.int (0 : Int32)), .val (.int (87 : Int32)), .val (.int (0 : Int32)), .val (.int (0 : Int32)), .val (.int (1 : Int32))] [(.int (0 : Int32))])) _
      refine XS.iload X141.here hx rfl (hb hby at_88) rfl ?_
      show Steps p.tables e below (T141.setTop (mkF m 90 #[.val (.int p1), .val (.int (3 : Int32)), .val (.ref z3), .val (.int (0 : Int32)), .val (.int (87 : Int32)), .val (.int (0 : Int32)), .val (.int (0 : Int32)), .val (.int (1 : Int32))] [(.int (0 : Int32)), (.int (0 : Int32))])) _
      refine XS.icmpNo X141.here hx rfl (hb hby at_90) rfl (teq (by decide : (0 : Int32) = (0 : Int32))).2 ?_
      show Steps p.tables e below (T141.setTop (mkF m 93 #[.val (.int p1), .val (.int (3 : Int32)), .val (.ref z3), .val (.int (0 : Int32)), .val (.int (87 : Int32)), .val (.int (0 : Int32)), .val (.int (0 : Int32)), .val (.int (1 : Int32))] [])) _
      refine XS.iloadN X141.here hx rfl (hb hby at_93) rfl ?_
      show Steps p.tables e below (T141.setTop (mkF m 94 #[.val (.int p1), .val (.int (3 : Int32)), .val (.ref z3), .val (.int (0 : Int32)), .val (.int (87 : Int32)), .val (.int (0 : Int32)), .val (.int (0 : Int32)), .val (.int (1 : Int32))] [(.int (0 : Int32))])) _
      refine XS.iload X141.here hx rfl (hb hby at_94) rfl ?_
      show Steps p.tables e below (T141.setTop (mkF m 96 #[.val (.int p1), .val (.int (3 : Int32)), .val (.ref z3), .val (.int (0 : Int32)), .val (.int (87 : Int32)), .val (.int (0 : Int32)), .val (.int (0 : Int32)), .val (.int (1 : Int32))] [(.int (0 : Int32)), (.int (0 : Int32))])) _
      refine XS.icmpNo X141.here hx rfl (hb hby at_96) rfl (teq (by decide : (0 : Int32) = (0 : Int32))).2 ?_
      show Steps p.tables e below (T141.setTop (mkF m 99 #[.val (.int p1), .val (.int (3 : Int32)), .val (.ref z3), .val (.int (0 : Int32)), .val (.int (87 : Int32)), .val (.int (0 : Int32)), .val (.int (0 : Int32)), .val (.int (1 : Int32))] [])) _
      refine XS.iload X141.here hx rfl (hb hby at_99) rfl ?_
      show Steps p.tables e below (T141.setTop (mkF m 101 #[.val (.int p1), .val (.int (3 : Int32)), .val (.ref z3), .val (.int (0 : Int32)), .val (.int (87 : Int32)), .val (.int (0 : Int32)), .val (.int (0 : Int32)), .val (.int (1 : Int32))] [(.int (1 : Int32))])) _
      refine XS.ifNo X141.here hx rfl (hb hby at_101) rfl ((if0 _ _).trans (feq (by decide : ¬ ((1 : Int32) = (0 : Int32)))).1) ?_
      show Steps p.tables e below (T141.setTop (mkF m 104 #[.val (.int p1), .val (.int (3 : Int32)), .val (.ref z3), .val (.int (0 : Int32)), .val (.int (87 : Int32)), .val (.int (0 : Int32)), .val (.int (0 : Int32)), .val (.int (1 : Int32))] [])) _
      refine XS.iconst X141.here hx rfl (hb hby at_104) ?_
      show Steps p.tables e below (T141.setTop (mkF m 105 #[.val (.int p1), .val (.int (3 : Int32)), .val (.ref z3), .val (.int (0 : Int32)), .val (.int (87 : Int32)), .val (.int (0 : Int32)), .val (.int (0 : Int32)), .val (.int (1 : Int32))] [(.int (1 : Int32))])) _
      refine XS.goto X141.here hx rfl (pc0 := 105) (pc' := 109) rfl (hb hby at_105) (by decide) (by decide) ?_
      show Steps p.tables e below (T141.setTop (mkF m 109 #[.val (.int p1), .val (.int (3 : Int32)), .val (.ref z3), .val (.int (0 : Int32)), .val (.int (87 : Int32)), .val (.int (0 : Int32)), .val (.int (0 : Int32)), .val (.int (1 : Int32))] [(.int (1 : Int32))])) _
      exact k)
    obtain ⟨fs, hr, hrun, hended, hW, hsame⟩ := X141.leave (v := some (.int (1 : Int32))) (fun h => by rw [Bd.returns] at h; cases h)
    refine ⟨_, _, pp143 _ ?_, hrun, hended, _, _, rfl, ?_, ⟨_, rfl⟩, hW, hsame.mono (by decide) (by decide)⟩
    · exact retN X141 hx (t := .boolean) Bd.returns (by simp) (hb hby at_109) hr
    · show Q_own_law Z p1 z0 z1 z2 z3 z4 z5 z6 z7 z8 z9 z10 z11 h0 n0 _ T141.heap _
      rw [s141]
      exact ⟨rfl, N141⟩
  · obtain ⟨_, _, ⟨T144, L144, k144, n144⟩, -, X144, ⟨Lc144, hQ144, l144, y144, z144⟩, st144⟩ := Jvm.LawKit.callS X0 hx (y := (⟨"com/example/pairwright/pairwright/model/ResultLostPinLaw", "pick", "(I)Lcom/example/pairwright/pairwright/model/Result;"⟩ : MethodName)) hown (mvT hZ (hw _ (List.mem_of_getElem? (i := 1) rfl))) (mvT hZ (hw _ (List.mem_of_getElem? (i := 2) rfl))) (mvT hZ (hw _ (List.mem_of_getElem? (i := 3) rfl))) (mvT hZ (hw _ (List.mem_of_getElem? (i := 4) rfl))) (by decide) (backOf (W := 0) (own_pick l Z a0 hw [] (4 : Int32) z0 z1 z2 z3 z4 z5 z6 z7 z8 z9 z10 z11 h0 n0 Z0 S0 S1 S2 S3 S4 S5 S6 S7 S8 S9 S10 S11) hZ (hw _ (List.mem_of_getElem? (i := 4) rfl)) (hw _ (List.mem_of_getElem? (i := 3) rfl)) (by decide) (by decide)) (g := (mkF m 9 #[.val (.int p1), .val (.int (4 : Int32)), .unset, .unset, .unset, .unset, .unset, .unset] [(.int (4 : Int32))])) rfl (by rw [hml]; rfl) (argsL := [(.int (4 : Int32))]) (rest := []) (lenOf pd__I_Lcom_example_pairwright_pairwright_model_Result_ rfl) rfl (by show 2 * 0 + _ ≤ _; exact Nat.le_of_eq rfl) (hb hby at_9) (fun _ _ => ⟨rfl, e0, (by decide : 0 + 0 ≤ _), (by decide : 0 + 0 ≤ _)⟩)
    dsimp only [Pt.U, Pt.locs, Pt.cells, Pt.slots] at X144 l144 y144 z144 st144 hQ144
    subst l144 y144 z144
    obtain ⟨rfl, N144q, s144⟩ := hQ144
    have N144 := Fr.app N0 N144q
    have pp145 : ∀ t, Steps p.tables e below (T144.setTop (mkF m 12 #[.val (.int p1), .val (.int (4 : Int32)), .unset, .unset, .unset, .unset, .unset, .unset] [(.ref z4)])) t → Steps p.tables e below (s₁.setTop (entryFrame m #[(.int p1)] maxLocals)) t := fun t k => pp101 t (st144 t k)
    have pp146 : ∀ t, Steps p.tables e below (T144.setTop (mkF m 14 #[.val (.int p1), .val (.int (4 : Int32)), .val (.ref z4), .unset, .unset, .unset, .unset, .unset] [(.ref z4)])) t → Steps p.tables e below (s₁.setTop (entryFrame m #[(.int p1)] maxLocals)) t := fun t k => pp145 t (by
      refine XS.astoreN X144.here hx rfl (hb hby at_12) rfl rfl (l' := #[.val (.int p1), .val (.int (4 : Int32)), .val (.ref z4), .unset, .unset, .unset, .unset, .unset]) rfl ?_
      show Steps p.tables e below (T144.setTop (mkF m 13 #[.val (.int p1), .val (.int (4 : Int32)), .val (.ref z4), .unset, .unset, .unset, .unset, .unset] [])) _
      refine XS.aloadN X144.here hx rfl (hb hby at_13) rfl rfl ?_
      show Steps p.tables e below (T144.setTop (mkF m 14 #[.val (.int p1), .val (.int (4 : Int32)), .val (.ref z4), .unset, .unset, .unset, .unset, .unset] [(.ref z4)])) _
      exact k)
    obtain ⟨cq147, kq147, q147a, q147b, q147c⟩ := isOf hZ s144 E4
    obtain ⟨_, _, ⟨T147, L147, k147, n147⟩, -, X147, ⟨Lc147, hQ147, l147, y147, z147⟩, st147⟩ := X144.virtualBack hx (y := (⟨"com/example/pairwright/pairwright/model/Result", "lost", "()Z"⟩ : MethodName)) (z := (⟨"com/example/pairwright/pairwright/model/Result", "lost", "()Z"⟩ : MethodName)) hown (mvT hZ (hw _ (List.mem_of_getElem? (i := 8) rfl))) (mvT hZ (hw _ (List.mem_of_getElem? (i := 9) rfl))) (notFace_of_selects (args := #[]) (mvT hZ (hw _ (List.mem_of_getElem? (i := 11) rfl)))) (mvT hZ (hw _ (List.mem_of_getElem? (i := 11) rfl))) (mvT hZ (hw _ (List.mem_of_getElem? (i := 10) rfl))) (by decide) (backOf (W := 0) (own_lost l Z a0 hw [] z4 z1 z4 h0 n0 Z0 S1 S4) hZ (hw _ (List.mem_of_getElem? (i := 12) rfl)) (hw _ (List.mem_of_getElem? (i := 6) rfl)) (by decide) (by decide)) q147a q147c (g := (mkF m 14 #[.val (.int p1), .val (.int (4 : Int32)), .val (.ref z4), .unset, .unset, .unset, .unset, .unset] [(.ref z4)])) rfl (by rw [hml]; rfl) (Steps.refl _) (argsL := []) (rest := []) (lenOf pd___Z rfl) rfl (by show 2 * 0 + _ ≤ _; exact Nat.le_of_eq rfl) (hb hby at_14) (fun _ _ => ⟨rfl, s144, (by decide : 0 + 0 ≤ _), (by decide : 0 + 0 ≤ _)⟩)
    dsimp only [Pt.U, Pt.locs, Pt.cells, Pt.slots] at X147 l147 y147 z147 st147 hQ147
    subst l147 y147 z147
    obtain ⟨rfl, N147q, s147⟩ := hQ147
    have N147 := Fr.app N144 N147q
    have pp148 : ∀ t, Steps p.tables e below (T147.setTop (mkF m 17 #[.val (.int p1), .val (.int (4 : Int32)), .val (.ref z4), .unset, .unset, .unset, .unset, .unset] [(.int (own_or z4 z1 z4))])) t → Steps p.tables e below (s₁.setTop (entryFrame m #[(.int p1)] maxLocals)) t := fun t k => pp146 t (st147.trans k)
    rw [own_or2 (ne4_1) (rfl : z4 = z4)] at pp148
    have pp149 : ∀ t, Steps p.tables e below (T147.setTop (mkF m 19 #[.val (.int p1), .val (.int (4 : Int32)), .val (.ref z4), .val (.int (1 : Int32)), .unset, .unset, .unset, .unset] [(.ref z4)])) t → Steps p.tables e below (s₁.setTop (entryFrame m #[(.int p1)] maxLocals)) t := fun t k => pp148 t (by
      refine XS.istoreN X147.here hx rfl (hb hby at_17) rfl (l' := #[.val (.int p1), .val (.int (4 : Int32)), .val (.ref z4), .val (.int (1 : Int32)), .unset, .unset, .unset, .unset]) rfl ?_
      show Steps p.tables e below (T147.setTop (mkF m 18 #[.val (.int p1), .val (.int (4 : Int32)), .val (.ref z4), .val (.int (1 : Int32)), .unset, .unset, .unset, .unset] [])) _
      refine XS.aloadN X147.here hx rfl (hb hby at_18) rfl rfl ?_
      show Steps p.tables e below (T147.setTop (mkF m 19 #[.val (.int p1), .val (.int (4 : Int32)), .val (.ref z4), .val (.int (1 : Int32)), .unset, .unset, .unset, .unset] [(.ref z4)])) _
      exact k)
    obtain ⟨cq150, kq150, q150a, q150b, q150c⟩ := isOf hZ s147 E4
    obtain ⟨_, _, ⟨T150, L150, k150, n150⟩, -, X150, ⟨Lc150, hQ150, l150, y150, z150⟩, st150⟩ := X147.virtualBack hx (y := (⟨"com/example/pairwright/pairwright/model/Result", "code", "()C"⟩ : MethodName)) (z := (⟨"com/example/pairwright/pairwright/model/Result", "code", "()C"⟩ : MethodName)) hown (mvT hZ (hw _ (List.mem_of_getElem? (i := 17) rfl))) (mvT hZ (hw _ (List.mem_of_getElem? (i := 18) rfl))) (notFace_of_selects (args := #[]) (mvT hZ (hw _ (List.mem_of_getElem? (i := 20) rfl)))) (mvT hZ (hw _ (List.mem_of_getElem? (i := 20) rfl))) (mvT hZ (hw _ (List.mem_of_getElem? (i := 19) rfl))) (by decide) (backOf (W := 0) (own_code l Z a0 hw [] z4 (76 : Int32) h0 n0 Z0 C4) hZ (hw _ (List.mem_of_getElem? (i := 21) rfl)) (hw _ (List.mem_of_getElem? (i := 6) rfl)) (by decide) (by decide)) q150a q150c (g := (mkF m 19 #[.val (.int p1), .val (.int (4 : Int32)), .val (.ref z4), .val (.int (1 : Int32)), .unset, .unset, .unset, .unset] [(.ref z4)])) rfl (by rw [hml]; rfl) (Steps.refl _) (argsL := []) (rest := []) (lenOf pd___C rfl) rfl (by show 2 * 0 + _ ≤ _; exact Nat.le_of_eq rfl) (hb hby at_19) (fun _ _ => ⟨rfl, s147, (by decide : 0 + 0 ≤ _), (by decide : 0 + 0 ≤ _)⟩)
    dsimp only [Pt.U, Pt.locs, Pt.cells, Pt.slots] at X150 l150 y150 z150 st150 hQ150
    subst l150 y150 z150
    obtain ⟨rfl, N150q, s150⟩ := hQ150
    have N150 := Fr.app N147 N150q
    have pp151 : ∀ t, Steps p.tables e below (T150.setTop (mkF m 22 #[.val (.int p1), .val (.int (4 : Int32)), .val (.ref z4), .val (.int (1 : Int32)), .unset, .unset, .unset, .unset] [(.int (nar .char (76 : Int32)))])) t → Steps p.tables e below (s₁.setTop (entryFrame m #[(.int p1)] maxLocals)) t := fun t k => pp149 t (st150.trans k)
    rw [show nar .char (76 : Int32) = (76 : Int32) from by decide] at pp151
    have pp152 : ∀ t, Steps p.tables e below (T150.setTop (mkF m 67 #[.val (.int p1), .val (.int (4 : Int32)), .val (.ref z4), .val (.int (1 : Int32)), .val (.int (76 : Int32)), .val (.int (1 : Int32)), .val (.int (1 : Int32)), .unset] [(.ref z4)])) t → Steps p.tables e below (s₁.setTop (entryFrame m #[(.int p1)] maxLocals)) t := fun t k => pp151 t (by
      refine XS.istore X150.here hx rfl (hb hby at_22) rfl (l' := #[.val (.int p1), .val (.int (4 : Int32)), .val (.ref z4), .val (.int (1 : Int32)), .val (.int (76 : Int32)), .unset, .unset, .unset]) rfl ?_
      show Steps p.tables e below (T150.setTop (mkF m 24 #[.val (.int p1), .val (.int (4 : Int32)), .val (.ref z4), .val (.int (1 : Int32)), .val (.int (76 : Int32)), .unset, .unset, .unset] [])) _
      refine XS.iload X150.here hx rfl (hb hby at_24) rfl ?_
      show Steps p.tables e below (T150.setTop (mkF m 26 #[.val (.int p1), .val (.int (4 : Int32)), .val (.ref z4), .val (.int (1 : Int32)), .val (.int (76 : Int32)), .unset, .unset, .unset] [(.int (76 : Int32))])) _
      refine XS.bipush X150.here hx rfl (hb hby at_26) ?_
      show Steps p.tables e below (T150.setTop (mkF m 28 #[.val (.int p1), .val (.int (4 : Int32)), .val (.ref z4), .val (.int (1 : Int32)), .val (.int (76 : Int32)), .unset, .unset, .unset] [(.int (48 : Int32)), (.int (76 : Int32))])) _
      refine XS.icmpNo X150.here hx rfl (hb hby at_28) rfl (feq (by decide : ¬ ((76 : Int32) = (48 : Int32)))).1 ?_
      show Steps p.tables e below (T150.setTop (mkF m 31 #[.val (.int p1), .val (.int (4 : Int32)), .val (.ref z4), .val (.int (1 : Int32)), .val (.int (76 : Int32)), .unset, .unset, .unset] [])) _
      refine XS.iload X150.here hx rfl (hb hby at_31) rfl ?_
      show Steps p.tables e below (T150.setTop (mkF m 33 #[.val (.int p1), .val (.int (4 : Int32)), .val (.ref z4), .val (.int (1 : Int32)), .val (.int (76 : Int32)), .unset, .unset, .unset] [(.int (76 : Int32))])) _
      refine XS.bipush X150.here hx rfl (hb hby at_33) ?_
      show Steps p.tables e below (T150.setTop (mkF m 35 #[.val (.int p1), .val (.int (4 : Int32)), .val (.ref z4), .val (.int (1 : Int32)), .val (.int (76 : Int32)), .unset, .unset, .unset] [(.int (76 : Int32)), (.int (76 : Int32))])) _
      refine XS.icmpNo X150.here hx rfl (hb hby at_35) rfl (teq (by decide : (76 : Int32) = (76 : Int32))).2 ?_
      show Steps p.tables e below (T150.setTop (mkF m 38 #[.val (.int p1), .val (.int (4 : Int32)), .val (.ref z4), .val (.int (1 : Int32)), .val (.int (76 : Int32)), .unset, .unset, .unset] [])) _
      refine XS.iconst X150.here hx rfl (hb hby at_38) ?_
      show Steps p.tables e below (T150.setTop (mkF m 39 #[.val (.int p1), .val (.int (4 : Int32)), .val (.ref z4), .val (.int (1 : Int32)), .val (.int (76 : Int32)), .unset, .unset, .unset] [(.int (1 : Int32))])) _
      refine XS.goto X150.here hx rfl (pc0 := 39) (pc' := 43) rfl (hb hby at_39) (by decide) (by decide) ?_
      show Steps p.tables e below (T150.setTop (mkF m 43 #[.val (.int p1), .val (.int (4 : Int32)), .val (.ref z4), .val (.int (1 : Int32)), .val (.int (76 : Int32)), .unset, .unset, .unset] [(.int (1 : Int32))])) _
      refine XS.istore X150.here hx rfl (hb hby at_43) rfl (l' := #[.val (.int p1), .val (.int (4 : Int32)), .val (.ref z4), .val (.int (1 : Int32)), .val (.int (76 : Int32)), .val (.int (1 : Int32)), .unset, .unset]) rfl ?_
      show Steps p.tables e below (T150.setTop (mkF m 45 #[.val (.int p1), .val (.int (4 : Int32)), .val (.ref z4), .val (.int (1 : Int32)), .val (.int (76 : Int32)), .val (.int (1 : Int32)), .unset, .unset] [])) _
      refine XS.iloadN X150.here hx rfl (hb hby at_45) rfl ?_
      show Steps p.tables e below (T150.setTop (mkF m 46 #[.val (.int p1), .val (.int (4 : Int32)), .val (.ref z4), .val (.int (1 : Int32)), .val (.int (76 : Int32)), .val (.int (1 : Int32)), .unset, .unset] [(.int (4 : Int32))])) _
      refine XS.iconst X150.here hx rfl (hb hby at_46) ?_
      show Steps p.tables e below (T150.setTop (mkF m 47 #[.val (.int p1), .val (.int (4 : Int32)), .val (.ref z4), .val (.int (1 : Int32)), .val (.int (76 : Int32)), .val (.int (1 : Int32)), .unset, .unset] [(.int (1 : Int32)), (.int (4 : Int32))])) _
      refine XS.icmpNo X150.here hx rfl (hb hby at_47) rfl (feq (by decide : ¬ ((4 : Int32) = (1 : Int32)))).1 ?_
      show Steps p.tables e below (T150.setTop (mkF m 50 #[.val (.int p1), .val (.int (4 : Int32)), .val (.ref z4), .val (.int (1 : Int32)), .val (.int (76 : Int32)), .val (.int (1 : Int32)), .unset, .unset] [])) _
      refine XS.iloadN X150.here hx rfl (hb hby at_50) rfl ?_
      show Steps p.tables e below (T150.setTop (mkF m 51 #[.val (.int p1), .val (.int (4 : Int32)), .val (.ref z4), .val (.int (1 : Int32)), .val (.int (76 : Int32)), .val (.int (1 : Int32)), .unset, .unset] [(.int (4 : Int32))])) _
      refine XS.iconst X150.here hx rfl (hb hby at_51) ?_
      show Steps p.tables e below (T150.setTop (mkF m 52 #[.val (.int p1), .val (.int (4 : Int32)), .val (.ref z4), .val (.int (1 : Int32)), .val (.int (76 : Int32)), .val (.int (1 : Int32)), .unset, .unset] [(.int (4 : Int32)), (.int (4 : Int32))])) _
      refine XS.icmpNo X150.here hx rfl (hb hby at_52) rfl (teq (by decide : (4 : Int32) = (4 : Int32))).2 ?_
      show Steps p.tables e below (T150.setTop (mkF m 55 #[.val (.int p1), .val (.int (4 : Int32)), .val (.ref z4), .val (.int (1 : Int32)), .val (.int (76 : Int32)), .val (.int (1 : Int32)), .unset, .unset] [])) _
      refine XS.iconst X150.here hx rfl (hb hby at_55) ?_
      show Steps p.tables e below (T150.setTop (mkF m 56 #[.val (.int p1), .val (.int (4 : Int32)), .val (.ref z4), .val (.int (1 : Int32)), .val (.int (76 : Int32)), .val (.int (1 : Int32)), .unset, .unset] [(.int (1 : Int32))])) _
      refine XS.goto X150.here hx rfl (pc0 := 56) (pc' := 60) rfl (hb hby at_56) (by decide) (by decide) ?_
      show Steps p.tables e below (T150.setTop (mkF m 60 #[.val (.int p1), .val (.int (4 : Int32)), .val (.ref z4), .val (.int (1 : Int32)), .val (.int (76 : Int32)), .val (.int (1 : Int32)), .unset, .unset] [(.int (1 : Int32))])) _
      refine XS.istore X150.here hx rfl (hb hby at_60) rfl (l' := #[.val (.int p1), .val (.int (4 : Int32)), .val (.ref z4), .val (.int (1 : Int32)), .val (.int (76 : Int32)), .val (.int (1 : Int32)), .val (.int (1 : Int32)), .unset]) rfl ?_
      show Steps p.tables e below (T150.setTop (mkF m 62 #[.val (.int p1), .val (.int (4 : Int32)), .val (.ref z4), .val (.int (1 : Int32)), .val (.int (76 : Int32)), .val (.int (1 : Int32)), .val (.int (1 : Int32)), .unset] [])) _
      refine XS.iloadN X150.here hx rfl (hb hby at_62) rfl ?_
      show Steps p.tables e below (T150.setTop (mkF m 63 #[.val (.int p1), .val (.int (4 : Int32)), .val (.ref z4), .val (.int (1 : Int32)), .val (.int (76 : Int32)), .val (.int (1 : Int32)), .val (.int (1 : Int32)), .unset] [(.int (1 : Int32))])) _
      refine XS.ifNo X150.here hx rfl (hb hby at_63) rfl ((if0 _ _).trans (feq (by decide : ¬ ((1 : Int32) = (0 : Int32)))).1) ?_
      show Steps p.tables e below (T150.setTop (mkF m 66 #[.val (.int p1), .val (.int (4 : Int32)), .val (.ref z4), .val (.int (1 : Int32)), .val (.int (76 : Int32)), .val (.int (1 : Int32)), .val (.int (1 : Int32)), .unset] [])) _
      refine XS.aloadN X150.here hx rfl (hb hby at_66) rfl rfl ?_
      show Steps p.tables e below (T150.setTop (mkF m 67 #[.val (.int p1), .val (.int (4 : Int32)), .val (.ref z4), .val (.int (1 : Int32)), .val (.int (76 : Int32)), .val (.int (1 : Int32)), .val (.int (1 : Int32)), .unset] [(.ref z4)])) _
      exact k)
    obtain ⟨cq153, kq153, q153a, q153b, q153c⟩ := isOf hZ s150 E4
    obtain ⟨_, _, ⟨T153, L153, k153, n153⟩, -, X153, ⟨Lc153, hQ153, l153, y153, z153⟩, st153⟩ := X150.virtualBack hx (y := (⟨"com/example/pairwright/pairwright/model/Result", "played", "()Z"⟩ : MethodName)) (z := (⟨"com/example/pairwright/pairwright/model/Result", "played", "()Z"⟩ : MethodName)) hown (mvT hZ (hw _ (List.mem_of_getElem? (i := 33) rfl))) (mvT hZ (hw _ (List.mem_of_getElem? (i := 34) rfl))) (notFace_of_selects (args := #[]) (mvT hZ (hw _ (List.mem_of_getElem? (i := 36) rfl)))) (mvT hZ (hw _ (List.mem_of_getElem? (i := 36) rfl))) (mvT hZ (hw _ (List.mem_of_getElem? (i := 35) rfl))) (by decide) (backOf (W := 0) (own_played l Z a0 hw [] z4 (1 : Int32) h0 n0 Z0 P4) hZ (hw _ (List.mem_of_getElem? (i := 37) rfl)) (hw _ (List.mem_of_getElem? (i := 6) rfl)) (by decide) (by decide)) q153a q153c (g := (mkF m 67 #[.val (.int p1), .val (.int (4 : Int32)), .val (.ref z4), .val (.int (1 : Int32)), .val (.int (76 : Int32)), .val (.int (1 : Int32)), .val (.int (1 : Int32)), .unset] [(.ref z4)])) rfl (by rw [hml]; rfl) (Steps.refl _) (argsL := []) (rest := []) (lenOf pd___Z rfl) rfl (by show 2 * 0 + _ ≤ _; exact Nat.le_of_eq rfl) (hb hby at_67) (fun _ _ => ⟨rfl, s150, (by decide : 0 + 0 ≤ _), (by decide : 0 + 0 ≤ _)⟩)
    dsimp only [Pt.U, Pt.locs, Pt.cells, Pt.slots] at X153 l153 y153 z153 st153 hQ153
    subst l153 y153 z153
    obtain ⟨rfl, N153q, s153⟩ := hQ153
    have N153 := Fr.app N150 N153q
    have pp154 : ∀ t, Steps p.tables e below (T153.setTop (mkF m 70 #[.val (.int p1), .val (.int (4 : Int32)), .val (.ref z4), .val (.int (1 : Int32)), .val (.int (76 : Int32)), .val (.int (1 : Int32)), .val (.int (1 : Int32)), .unset] [(.int (nar .boolean (1 : Int32)))])) t → Steps p.tables e below (s₁.setTop (entryFrame m #[(.int p1)] maxLocals)) t := fun t k => pp152 t (st153.trans k)
    rw [show nar .boolean (1 : Int32) = (1 : Int32) from by decide] at pp154
    have pp155 : ∀ t, Steps p.tables e below (T153.setTop (mkF m 74 #[.val (.int p1), .val (.int (4 : Int32)), .val (.ref z4), .val (.int (1 : Int32)), .val (.int (76 : Int32)), .val (.int (1 : Int32)), .val (.int (1 : Int32)), .unset] [(.ref z4)])) t → Steps p.tables e below (s₁.setTop (entryFrame m #[(.int p1)] maxLocals)) t := fun t k => pp154 t (by
      refine XS.ifNo X153.here hx rfl (hb hby at_70) rfl ((if0 _ _).trans (feq (by decide : ¬ ((1 : Int32) = (0 : Int32)))).1) ?_
      show Steps p.tables e below (T153.setTop (mkF m 73 #[.val (.int p1), .val (.int (4 : Int32)), .val (.ref z4), .val (.int (1 : Int32)), .val (.int (76 : Int32)), .val (.int (1 : Int32)), .val (.int (1 : Int32)), .unset] [])) _
      refine XS.aloadN X153.here hx rfl (hb hby at_73) rfl rfl ?_
      show Steps p.tables e below (T153.setTop (mkF m 74 #[.val (.int p1), .val (.int (4 : Int32)), .val (.ref z4), .val (.int (1 : Int32)), .val (.int (76 : Int32)), .val (.int (1 : Int32)), .val (.int (1 : Int32)), .unset] [(.ref z4)])) _
      exact k)
    obtain ⟨cq156, kq156, q156a, q156b, q156c⟩ := isOf hZ s153 E4
    obtain ⟨_, _, ⟨T156, L156, k156, n156⟩, -, X156, ⟨Lc156, hQ156, l156, y156, z156⟩, st156⟩ := X153.virtualBack hx (y := (⟨"com/example/pairwright/pairwright/model/Result", "won", "()Z"⟩ : MethodName)) (z := (⟨"com/example/pairwright/pairwright/model/Result", "won", "()Z"⟩ : MethodName)) hown (mvT hZ (hw _ (List.mem_of_getElem? (i := 40) rfl))) (mvT hZ (hw _ (List.mem_of_getElem? (i := 41) rfl))) (notFace_of_selects (args := #[]) (mvT hZ (hw _ (List.mem_of_getElem? (i := 43) rfl)))) (mvT hZ (hw _ (List.mem_of_getElem? (i := 43) rfl))) (mvT hZ (hw _ (List.mem_of_getElem? (i := 42) rfl))) (by decide) (backOf (W := 0) (own_won l Z a0 hw [] z4 z0 z3 h0 n0 Z0 S0 S3) hZ (hw _ (List.mem_of_getElem? (i := 44) rfl)) (hw _ (List.mem_of_getElem? (i := 6) rfl)) (by decide) (by decide)) q156a q156c (g := (mkF m 74 #[.val (.int p1), .val (.int (4 : Int32)), .val (.ref z4), .val (.int (1 : Int32)), .val (.int (76 : Int32)), .val (.int (1 : Int32)), .val (.int (1 : Int32)), .unset] [(.ref z4)])) rfl (by rw [hml]; rfl) (Steps.refl _) (argsL := []) (rest := []) (lenOf pd___Z rfl) rfl (by show 2 * 0 + _ ≤ _; exact Nat.le_of_eq rfl) (hb hby at_74) (fun _ _ => ⟨rfl, s153, (by decide : 0 + 0 ≤ _), (by decide : 0 + 0 ≤ _)⟩)
    dsimp only [Pt.U, Pt.locs, Pt.cells, Pt.slots] at X156 l156 y156 z156 st156 hQ156
    subst l156 y156 z156
    obtain ⟨rfl, N156q, s156⟩ := hQ156
    have N156 := Fr.app N153 N156q
    have pp157 : ∀ t, Steps p.tables e below (T156.setTop (mkF m 77 #[.val (.int p1), .val (.int (4 : Int32)), .val (.ref z4), .val (.int (1 : Int32)), .val (.int (76 : Int32)), .val (.int (1 : Int32)), .val (.int (1 : Int32)), .unset] [(.int (own_or z4 z0 z3))])) t → Steps p.tables e below (s₁.setTop (entryFrame m #[(.int p1)] maxLocals)) t := fun t k => pp155 t (st156.trans k)
    rw [own_or3 ne4_0 ne4_3] at pp157
    have pp158 : ∀ t, Steps p.tables e below (T156.setTop (mkF m 109 #[.val (.int p1), .val (.int (4 : Int32)), .val (.ref z4), .val (.int (1 : Int32)), .val (.int (76 : Int32)), .val (.int (1 : Int32)), .val (.int (1 : Int32)), .val (.int (1 : Int32))] [(.int (1 : Int32))])) t → Steps p.tables e below (s₁.setTop (entryFrame m #[(.int p1)] maxLocals)) t := fun t k => pp157 t (by
      refine XS.ifNo X156.here hx rfl (hb hby at_77) rfl ((if0 _ _).trans (teq (by decide : (0 : Int32) = (0 : Int32))).2) ?_
      show Steps p.tables e below (T156.setTop (mkF m 80 #[.val (.int p1), .val (.int (4 : Int32)), .val (.ref z4), .val (.int (1 : Int32)), .val (.int (76 : Int32)), .val (.int (1 : Int32)), .val (.int (1 : Int32)), .unset] [])) _
      refine XS.iconst X156.here hx rfl (hb hby at_80) ?_
      show Steps p.tables e below (T156.setTop (mkF m 81 #[.val (.int p1), .val (.int (4 : Int32)), .val (.ref z4), .val (.int (1 : Int32)), .val (.int (76 : Int32)), .val (.int (1 : Int32)), .val (.int (1 : Int32)), .unset] [(.int (1 : Int32))])) _
      refine XS.goto X156.here hx rfl (pc0 := 81) (pc' := 85) rfl (hb hby at_81) (by decide) (by decide) ?_
      show Steps p.tables e below (T156.setTop (mkF m 85 #[.val (.int p1), .val (.int (4 : Int32)), .val (.ref z4), .val (.int (1 : Int32)), .val (.int (76 : Int32)), .val (.int (1 : Int32)), .val (.int (1 : Int32)), .unset] [(.int (1 : Int32))])) _
      refine XS.istore X156.here hx rfl (hb hby at_85) rfl (l' := #[.val (.int p1), .val (.int (4 : Int32)), .val (.ref z4), .val (.int (1 : Int32)), .val (.int (76 : Int32)), .val (.int (1 : Int32)), .val (.int (1 : Int32)), .val (.int (1 : Int32))]) rfl ?_
      show Steps p.tables e below (T156.setTop (mkF m 87 #[.val (.int p1), .val (.int (4 : Int32)), .val (.ref z4), .val (.int (1 : Int32)), .val (.int (76 : Int32)), .val (.int (1 : Int32)), .val (.int (1 : Int32)), .val (.int (1 : Int32))] [])) _
      refine XS.iloadN X156.here hx rfl (hb hby at_87) rfl ?_
      show Steps p.tables e below (T156.setTop (mkF m 88 #[.val (.int p1), .val (.int (4 : Int32)), .val (.ref z4), .val (.int (1 : Int32)), .val (.int (76 : Int32)), .val (.int (1 : Int32)), .val (.int (1 : Int32)), .val (.int (1 : Int32))] [(.int (1 : Int32))])) _
      refine XS.iload X156.here hx rfl (hb hby at_88) rfl ?_
      show Steps p.tables e below (T156.setTop (mkF m 90 #[.val (.int p1), .val (.int (4 : Int32)), .val (.ref z4), .val (.int (1 : Int32)), .val (.int (76 : Int32)), .val (.int (1 : Int32)), .val (.int (1 : Int32)), .val (.int (1 : Int32))] [(.int (1 : Int32)), (.int (1 : Int32))])) _
      refine XS.icmpNo X156.here hx rfl (hb hby at_90) rfl (teq (by decide : (1 : Int32) = (1 : Int32))).2 ?_
      show Steps p.tables e below (T156.setTop (mkF m 93 #[.val (.int p1), .val (.int (4 : Int32)), .val (.ref z4), .val (.int (1 : Int32)), .val (.int (76 : Int32)), .val (.int (1 : Int32)), .val (.int (1 : Int32)), .val (.int (1 : Int32))] [])) _
      refine XS.iloadN X156.here hx rfl (hb hby at_93) rfl ?_
      show Steps p.tables e below (T156.setTop (mkF m 94 #[.val (.int p1), .val (.int (4 : Int32)), .val (.ref z4), .val (.int (1 : Int32)), .val (.int (76 : Int32)), .val (.int (1 : Int32)), .val (.int (1 : Int32)), .val (.int (1 : Int32))] [(.int (1 : Int32))])) _
      refine XS.iload X156.here hx rfl (hb hby at_94) rfl ?_
      show Steps p.tables e below (T156.setTop (mkF m 96 #[.val (.int p1), .val (.int (4 : Int32)), .val (.ref z4), .val (.int (1 : Int32)), .val (.int (76 : Int32)), .val (.int (1 : Int32)), .val (.int (1 : Int32)), .val (.int (1 : Int32))] [(.int (1 : Int32)), (.int (1 : Int32))])) _
      refine XS.icmpNo X156.here hx rfl (hb hby at_96) rfl (teq (by decide : (1 : Int32) = (1 : Int32))).2 ?_
      show Steps p.tables e below (T156.setTop (mkF m 99 #[.val (.int p1), .val (.int (4 : Int32)), .val (.ref z4), .val (.int (1 : Int32)), .val (.int (76 : Int32)), .val (.int (1 : Int32)), .val (.int (1 : Int32)), .val (.int (1 : Int32))] [])) _
      refine XS.iload X156.here hx rfl (hb hby at_99) rfl ?_
      show Steps p.tables e below (T156.setTop (mkF m 101 #[.val (.int p1), .val (.int (4 : Int32)), .val (.ref z4), .val (.int (1 : Int32)), .val (.int (76 : Int32)), .val (.int (1 : Int32)), .val (.int (1 : Int32)), .val (.int (1 : Int32))] [(.int (1 : Int32))])) _
      refine XS.ifNo X156.here hx rfl (hb hby at_101) rfl ((if0 _ _).trans (feq (by decide : ¬ ((1 : Int32) = (0 : Int32)))).1) ?_
      show Steps p.tables e below (T156.setTop (mkF m 104 #[.val (.int p1), .val (.int (4 : Int32)), .val (.ref z4), .val (.int (1 : Int32)), .val (.int (76 : Int32)), .val (.int (1 : Int32)), .val (.int (1 : Int32)), .val (.int (1 : Int32))] [])) _
      refine XS.iconst X156.here hx rfl (hb hby at_104) ?_
      show Steps p.tables e below (T156.setTop (mkF m 105 #[.val (.int p1), .val (.int (4 : Int32)), .val (.ref z4), .val (.int (1 : Int32)), .val (.int (76 : Int32)), .val (.int (1 : Int32)), .val (.int (1 : Int32)), .val (.int (1 : Int32))] [(.int (1 : Int32))])) _
      refine XS.goto X156.here hx rfl (pc0 := 105) (pc' := 109) rfl (hb hby at_105) (by decide) (by decide) ?_
      show Steps p.tables e below (T156.setTop (mkF m 109 #[.val (.int p1), .val (.int (4 : Int32)), .val (.ref z4), .val (.int (1 : Int32)), .val (.int (76 : Int32)), .val (.int (1 : Int32)), .val (.int (1 : Int32)), .val (.int (1 : Int32))] [(.int (1 : Int32))])) _
      exact k)
    obtain ⟨fs, hr, hrun, hended, hW, hsame⟩ := X156.leave (v := some (.int (1 : Int32))) (fun h => by rw [Bd.returns] at h; cases h)
    refine ⟨_, _, pp158 _ ?_, hrun, hended, _, _, rfl, ?_, ⟨_, rfl⟩, hW, hsame.mono (by decide) (by decide)⟩
    · exact retN X156 hx (t := .boolean) Bd.returns (by simp) (hb hby at_109) hr
    · show Q_own_law Z p1 z0 z1 z2 z3 z4 z5 z6 z7 z8 z9 z10 z11 h0 n0 _ T156.heap _
      rw [s156]
      exact ⟨rfl, N156⟩
  · obtain ⟨_, _, ⟨T159, L159, k159, n159⟩, -, X159, ⟨Lc159, hQ159, l159, y159, z159⟩, st159⟩ := Jvm.LawKit.callS X0 hx (y := (⟨"com/example/pairwright/pairwright/model/ResultLostPinLaw", "pick", "(I)Lcom/example/pairwright/pairwright/model/Result;"⟩ : MethodName)) hown (mvT hZ (hw _ (List.mem_of_getElem? (i := 1) rfl))) (mvT hZ (hw _ (List.mem_of_getElem? (i := 2) rfl))) (mvT hZ (hw _ (List.mem_of_getElem? (i := 3) rfl))) (mvT hZ (hw _ (List.mem_of_getElem? (i := 4) rfl))) (by decide) (backOf (W := 0) (own_pick l Z a0 hw [] (5 : Int32) z0 z1 z2 z3 z4 z5 z6 z7 z8 z9 z10 z11 h0 n0 Z0 S0 S1 S2 S3 S4 S5 S6 S7 S8 S9 S10 S11) hZ (hw _ (List.mem_of_getElem? (i := 4) rfl)) (hw _ (List.mem_of_getElem? (i := 3) rfl)) (by decide) (by decide)) (g := (mkF m 9 #[.val (.int p1), .val (.int (5 : Int32)), .unset, .unset, .unset, .unset, .unset, .unset] [(.int (5 : Int32))])) rfl (by rw [hml]; rfl) (argsL := [(.int (5 : Int32))]) (rest := []) (lenOf pd__I_Lcom_example_pairwright_pairwright_model_Result_ rfl) rfl (by show 2 * 0 + _ ≤ _; exact Nat.le_of_eq rfl) (hb hby at_9) (fun _ _ => ⟨rfl, e0, (by decide : 0 + 0 ≤ _), (by decide : 0 + 0 ≤ _)⟩)
    dsimp only [Pt.U, Pt.locs, Pt.cells, Pt.slots] at X159 l159 y159 z159 st159 hQ159
    subst l159 y159 z159
    obtain ⟨rfl, N159q, s159⟩ := hQ159
    have N159 := Fr.app N0 N159q
    have pp160 : ∀ t, Steps p.tables e below (T159.setTop (mkF m 12 #[.val (.int p1), .val (.int (5 : Int32)), .unset, .unset, .unset, .unset, .unset, .unset] [(.ref z5)])) t → Steps p.tables e below (s₁.setTop (entryFrame m #[(.int p1)] maxLocals)) t := fun t k => pp101 t (st159 t k)
    have pp161 : ∀ t, Steps p.tables e below (T159.setTop (mkF m 14 #[.val (.int p1), .val (.int (5 : Int32)), .val (.ref z5), .unset, .unset, .unset, .unset, .unset] [(.ref z5)])) t → Steps p.tables e below (s₁.setTop (entryFrame m #[(.int p1)] maxLocals)) t := fun t k => pp160 t (by
      refine XS.astoreN X159.here hx rfl (hb hby at_12) rfl rfl (l' := #[.val (.int p1), .val (.int (5 : Int32)), .val (.ref z5), .unset, .unset, .unset, .unset, .unset]) rfl ?_
      show Steps p.tables e below (T159.setTop (mkF m 13 #[.val (.int p1), .val (.int (5 : Int32)), .val (.ref z5), .unset, .unset, .unset, .unset, .unset] [])) _
      refine XS.aloadN X159.here hx rfl (hb hby at_13) rfl rfl ?_
      show Steps p.tables e below (T159.setTop (mkF m 14 #[.val (.int p1), .val (.int (5 : Int32)), .val (.ref z5), .unset, .unset, .unset, .unset, .unset] [(.ref z5)])) _
      exact k)
    obtain ⟨cq162, kq162, q162a, q162b, q162c⟩ := isOf hZ s159 E5
    obtain ⟨_, _, ⟨T162, L162, k162, n162⟩, -, X162, ⟨Lc162, hQ162, l162, y162, z162⟩, st162⟩ := X159.virtualBack hx (y := (⟨"com/example/pairwright/pairwright/model/Result", "lost", "()Z"⟩ : MethodName)) (z := (⟨"com/example/pairwright/pairwright/model/Result", "lost", "()Z"⟩ : MethodName)) hown (mvT hZ (hw _ (List.mem_of_getElem? (i := 8) rfl))) (mvT hZ (hw _ (List.mem_of_getElem? (i := 9) rfl))) (notFace_of_selects (args := #[]) (mvT hZ (hw _ (List.mem_of_getElem? (i := 11) rfl)))) (mvT hZ (hw _ (List.mem_of_getElem? (i := 11) rfl))) (mvT hZ (hw _ (List.mem_of_getElem? (i := 10) rfl))) (by decide) (backOf (W := 0) (own_lost l Z a0 hw [] z5 z1 z4 h0 n0 Z0 S1 S4) hZ (hw _ (List.mem_of_getElem? (i := 12) rfl)) (hw _ (List.mem_of_getElem? (i := 6) rfl)) (by decide) (by decide)) q162a q162c (g := (mkF m 14 #[.val (.int p1), .val (.int (5 : Int32)), .val (.ref z5), .unset, .unset, .unset, .unset, .unset] [(.ref z5)])) rfl (by rw [hml]; rfl) (Steps.refl _) (argsL := []) (rest := []) (lenOf pd___Z rfl) rfl (by show 2 * 0 + _ ≤ _; exact Nat.le_of_eq rfl) (hb hby at_14) (fun _ _ => ⟨rfl, s159, (by decide : 0 + 0 ≤ _), (by decide : 0 + 0 ≤ _)⟩)
    dsimp only [Pt.U, Pt.locs, Pt.cells, Pt.slots] at X162 l162 y162 z162 st162 hQ162
    subst l162 y162 z162
    obtain ⟨rfl, N162q, s162⟩ := hQ162
    have N162 := Fr.app N159 N162q
    have pp163 : ∀ t, Steps p.tables e below (T162.setTop (mkF m 17 #[.val (.int p1), .val (.int (5 : Int32)), .val (.ref z5), .unset, .unset, .unset, .unset, .unset] [(.int (own_or z5 z1 z4))])) t → Steps p.tables e below (s₁.setTop (entryFrame m #[(.int p1)] maxLocals)) t := fun t k => pp161 t (st162.trans k)
    rw [own_or3 ne5_1 ne5_4] at pp163
    have pp164 : ∀ t, Steps p.tables e below (T162.setTop (mkF m 19 #[.val (.int p1), .val (.int (5 : Int32)), .val (.ref z5), .val (.int (0 : Int32)), .unset, .unset, .unset, .unset] [(.ref z5)])) t → Steps p.tables e below (s₁.setTop (entryFrame m #[(.int p1)] maxLocals)) t := fun t k => pp163 t (by
      refine XS.istoreN X162.here hx rfl (hb hby at_17) rfl (l' := #[.val (.int p1), .val (.int (5 : Int32)), .val (.ref z5), .val (.int (0 : Int32)), .unset, .unset, .unset, .unset]) rfl ?_
      show Steps p.tables e below (T162.setTop (mkF m 18 #[.val (.int p1), .val (.int (5 : Int32)), .val (.ref z5), .val (.int (0 : Int32)), .unset, .unset, .unset, .unset] [])) _
      refine XS.aloadN X162.here hx rfl (hb hby at_18) rfl rfl ?_
      show Steps p.tables e below (T162.setTop (mkF m 19 #[.val (.int p1), .val (.int (5 : Int32)), .val (.ref z5), .val (.int (0 : Int32)), .unset, .unset, .unset, .unset] [(.ref z5)])) _
      exact k)
    obtain ⟨cq165, kq165, q165a, q165b, q165c⟩ := isOf hZ s162 E5
    obtain ⟨_, _, ⟨T165, L165, k165, n165⟩, -, X165, ⟨Lc165, hQ165, l165, y165, z165⟩, st165⟩ := X162.virtualBack hx (y := (⟨"com/example/pairwright/pairwright/model/Result", "code", "()C"⟩ : MethodName)) (z := (⟨"com/example/pairwright/pairwright/model/Result", "code", "()C"⟩ : MethodName)) hown (mvT hZ (hw _ (List.mem_of_getElem? (i := 17) rfl))) (mvT hZ (hw _ (List.mem_of_getElem? (i := 18) rfl))) (notFace_of_selects (args := #[]) (mvT hZ (hw _ (List.mem_of_getElem? (i := 20) rfl)))) (mvT hZ (hw _ (List.mem_of_getElem? (i := 20) rfl))) (mvT hZ (hw _ (List.mem_of_getElem? (i := 19) rfl))) (by decide) (backOf (W := 0) (own_code l Z a0 hw [] z5 (68 : Int32) h0 n0 Z0 C5) hZ (hw _ (List.mem_of_getElem? (i := 21) rfl)) (hw _ (List.mem_of_getElem? (i := 6) rfl)) (by decide) (by decide)) q165a q165c (g := (mkF m 19 #[.val (.int p1), .val (.int (5 : Int32)), .val (.ref z5), .val (.int (0 : Int32)), .unset, .unset, .unset, .unset] [(.ref z5)])) rfl (by rw [hml]; rfl) (Steps.refl _) (argsL := []) (rest := []) (lenOf pd___C rfl) rfl (by show 2 * 0 + _ ≤ _; exact Nat.le_of_eq rfl) (hb hby at_19) (fun _ _ => ⟨rfl, s162, (by decide : 0 + 0 ≤ _), (by decide : 0 + 0 ≤ _)⟩)
    dsimp only [Pt.U, Pt.locs, Pt.cells, Pt.slots] at X165 l165 y165 z165 st165 hQ165
    subst l165 y165 z165
    obtain ⟨rfl, N165q, s165⟩ := hQ165
    have N165 := Fr.app N162 N165q
    have pp166 : ∀ t, Steps p.tables e below (T165.setTop (mkF m 22 #[.val (.int p1), .val (.int (5 : Int32)), .val (.ref z5), .val (.int (0 : Int32)), .unset, .unset, .unset, .unset] [(.int (nar .char (68 : Int32)))])) t → Steps p.tables e below (s₁.setTop (entryFrame m #[(.int p1)] maxLocals)) t := fun t k => pp164 t (st165.trans k)
    rw [show nar .char (68 : Int32) = (68 : Int32) from by decide] at pp166
    have pp167 : ∀ t, Steps p.tables e below (T165.setTop (mkF m 109 #[.val (.int p1), .val (.int (5 : Int32)), .val (.ref z5), .val (.int (0 : Int32)), .val (.int (68 : Int32)), .val (.int (0 : Int32)), .val (.int (0 : Int32)), .val (.int (1 : Int32))] [(.int (1 : Int32))])) t → Steps p.tables e below (s₁.setTop (entryFrame m #[(.int p1)] maxLocals)) t := fun t k => pp166 t (by
      refine XS.istore X165.here hx rfl (hb hby at_22) rfl (l' := #[.val (.int p1), .val (.int (5 : Int32)), .val (.ref z5), .val (.int (0 : Int32)), .val (.int (68 : Int32)), .unset, .unset, .unset]) rfl ?_
      show Steps p.tables e below (T165.setTop (mkF m 24 #[.val (.int p1), .val (.int (5 : Int32)), .val (.ref z5), .val (.int (0 : Int32)), .val (.int (68 : Int32)), .unset, .unset, .unset] [])) _
      refine XS.iload X165.here hx rfl (hb hby at_24) rfl ?_
      show Steps p.tables e below (T165.setTop (mkF m 26 #[.val (.int p1), .val (.int (5 : Int32)), .val (.ref z5), .val (.int (0 : Int32)), .val (.int (68 : Int32)), .unset, .unset, .unset] [(.int (68 : Int32))])) _
      refine XS.bipush X165.here hx rfl (hb hby at_26) ?_
      show Steps p.tables e below (T165.setTop (mkF m 28 #[.val (.int p1), .val (.int (5 : Int32)), .val (.ref z5), .val (.int (0 : Int32)), .val (.int (68 : Int32)), .unset, .unset, .unset] [(.int (48 : Int32)), (.int (68 : Int32))])) _
      refine XS.icmpNo X165.here hx rfl (hb hby at_28) rfl (feq (by decide : ¬ ((68 : Int32) = (48 : Int32)))).1 ?_
      show Steps p.tables e below (T165.setTop (mkF m 31 #[.val (.int p1), .val (.int (5 : Int32)), .val (.ref z5), .val (.int (0 : Int32)), .val (.int (68 : Int32)), .unset, .unset, .unset] [])) _
      refine XS.iload X165.here hx rfl (hb hby at_31) rfl ?_
      show Steps p.tables e below (T165.setTop (mkF m 33 #[.val (.int p1), .val (.int (5 : Int32)), .val (.ref z5), .val (.int (0 : Int32)), .val (.int (68 : Int32)), .unset, .unset, .unset] [(.int (68 : Int32))])) _
      refine XS.bipush X165.here hx rfl (hb hby at_33) ?_
      show Steps p.tables e below (T165.setTop (mkF m 35 #[.val (.int p1), .val (.int (5 : Int32)), .val (.ref z5), .val (.int (0 : Int32)), .val (.int (68 : Int32)), .unset, .unset, .unset] [(.int (76 : Int32)), (.int (68 : Int32))])) _
      refine XS.icmpYes X165.here hx rfl (pc0 := 35) (pc' := 42) rfl (hb hby at_35) rfl (feq (by decide : ¬ ((68 : Int32) = (76 : Int32)))).2 (by decide) (by decide) ?_
      show Steps p.tables e below (T165.setTop (mkF m 42 #[.val (.int p1), .val (.int (5 : Int32)), .val (.ref z5), .val (.int (0 : Int32)), .val (.int (68 : Int32)), .unset, .unset, .unset] [])) _
      refine XS.iconst X165.here hx rfl (hb hby at_42) ?_
      show Steps p.tables e below (T165.setTop (mkF m 43 #[.val (.int p1), .val (.int (5 : Int32)), .val (.ref z5), .val (.int (0 : Int32)), .val (.int (68 : Int32)), .unset, .unset, .unset] [(.int (0 : Int32))])) _
      refine XS.istore X165.here hx rfl (hb hby at_43) rfl (l' := #[.val (.int p1), .val (.int (5 : Int32)), .val (.ref z5), .val (.int (0 : Int32)), .val (.int (68 : Int32)), .val (.int (0 : Int32)), .unset, .unset]) rfl ?_
      show Steps p.tables e below (T165.setTop (mkF m 45 #[.val (.int p1), .val (.int (5 : Int32)), .val (.ref z5), .val (.int (0 : Int32)), .val (.int (68 : Int32)), .val (.int (0 : Int32)), .unset, .unset] [])) _
      refine XS.iloadN X165.here hx rfl (hb hby at_45) rfl ?_
      show Steps p.tables e below (T165.setTop (mkF m 46 #[.val (.int p1), .val (.int (5 : Int32)), .val (.ref z5), .val (.int (0 : Int32)), .val (.int (68 : Int32)), .val (.int (0 : Int32)), .unset, .unset] [(.int (5 : Int32))])) _
      refine XS.iconst X165.here hx rfl (hb hby at_46) ?_
      show Steps p.tables e below (T165.setTop (mkF m 47 #[.val (.int p1), .val (.int (5 : Int32)), .val (.ref z5), .val (.int (0 : Int32)), .val (.int (68 : Int32)), .val (.int (0 : Int32)), .unset, .unset] [(.int (1 : Int32)), (.int (5 : Int32))])) _
      refine XS.icmpNo X165.here hx rfl (hb hby at_47) rfl (feq (by decide : ¬ ((5 : Int32) = (1 : Int32)))).1 ?_
      show Steps p.tables e below (T165.setTop (mkF m 50 #[.val (.int p1), .val (.int (5 : Int32)), .val (.ref z5), .val (.int (0 : Int32)), .val (.int (68 : Int32)), .val (.int (0 : Int32)), .unset, .unset] [])) _
      refine XS.iloadN X165.here hx rfl (hb hby at_50) rfl ?_
      show Steps p.tables e below (T165.setTop (mkF m 51 #[.val (.int p1), .val (.int (5 : Int32)), .val (.ref z5), .val (.int (0 : Int32)), .val (.int (68 : Int32)), .val (.int (0 : Int32)), .unset, .unset] [(.int (5 : Int32))])) _
      refine XS.iconst X165.here hx rfl (hb hby at_51) ?_
      show Steps p.tables e below (T165.setTop (mkF m 52 #[.val (.int p1), .val (.int (5 : Int32)), .val (.ref z5), .val (.int (0 : Int32)), .val (.int (68 : Int32)), .val (.int (0 : Int32)), .unset, .unset] [(.int (4 : Int32)), (.int (5 : Int32))])) _
      refine XS.icmpYes X165.here hx rfl (pc0 := 52) (pc' := 59) rfl (hb hby at_52) rfl (feq (by decide : ¬ ((5 : Int32) = (4 : Int32)))).2 (by decide) (by decide) ?_
      show Steps p.tables e below (T165.setTop (mkF m 59 #[.val (.int p1), .val (.int (5 : Int32)), .val (.ref z5), .val (.int (0 : Int32)), .val (.int (68 : Int32)), .val (.int (0 : Int32)), .unset, .unset] [])) _
      refine XS.iconst X165.here hx rfl (hb hby at_59) ?_
      show Steps p.tables e below (T165.setTop (mkF m 60 #[.val (.int p1), .val (.int (5 : Int32)), .val (.ref z5), .val (.int (0 : Int32)), .val (.int (68 : Int32)), .val (.int (0 : Int32)), .unset, .unset] [(.int (0 : Int32))])) _
      refine XS.istore X165.here hx rfl (hb hby at_60) rfl (l' := #[.val (.int p1), .val (.int (5 : Int32)), .val (.ref z5), .val (.int (0 : Int32)), .val (.int (68 : Int32)), .val (.int (0 : Int32)), .val (.int (0 : Int32)), .unset]) rfl ?_
      show Steps p.tables e below (T165.setTop (mkF m 62 #[.val (.int p1), .val (.int (5 : Int32)), .val (.ref z5), .val (.int (0 : Int32)), .val (.int (68 : Int32)), .val (.int (0 : Int32)), .val (.int (0 : Int32)), .unset] [])) _
      refine XS.iloadN X165.here hx rfl (hb hby at_62) rfl ?_
      show Steps p.tables e below (T165.setTop (mkF m 63 #[.val (.int p1), .val (.int (5 : Int32)), .val (.ref z5), .val (.int (0 : Int32)), .val (.int (68 : Int32)), .val (.int (0 : Int32)), .val (.int (0 : Int32)), .unset] [(.int (0 : Int32))])) _
      refine XS.ifYes X165.here hx rfl (pc0 := 63) (pc' := 80) rfl (hb hby at_63) rfl ((if0 _ _).trans (teq (by decide : (0 : Int32) = (0 : Int32))).1) (by decide) (by decide) ?_
      show Steps p.tables e below (T165.setTop (mkF m 80 #[.val (.int p1), .val (.int (5 : Int32)), .val (.ref z5), .val (.int (0 : Int32)), .val (.int (68 : Int32)), .val (.int (0 : Int32)), .val (.int (0 : Int32)), .unset] [])) _
      refine XS.iconst X165.here hx rfl (hb hby at_80) ?_
      show Steps p.tables e below (T165.setTop (mkF m 81 #[.val (.int p1), .val (.int (5 : Int32)), .val (.ref z5), .val (.int (0 : Int32)), .val (.int (68 : Int32)), .val (.int (0 : Int32)), .val (.int (0 : Int32)), .unset] [(.int (1 : Int32))])) _
      refine XS.goto X165.here hx rfl (pc0 := 81) (pc' := 85) rfl (hb hby at_81) (by decide) (by decide) ?_
      show Steps p.tables e below (T165.setTop (mkF m 85 #[.val (.int p1), .val (.int (5 : Int32)), .val (.ref z5), .val (.int (0 : Int32)), .val (.int (68 : Int32)), .val (.int (0 : Int32)), .val (.int (0 : Int32)), .unset] [(.int (1 : Int32))])) _
      refine XS.istore X165.here hx rfl (hb hby at_85) rfl (l' := #[.val (.int p1), .val (.int (5 : Int32)), .val (.ref z5), .val (.int (0 : Int32)), .val (.int (68 : Int32)), .val (.int (0 : Int32)), .val (.int (0 : Int32)), .val (.int (1 : Int32))]) rfl ?_
      show Steps p.tables e below (T165.setTop (mkF m 87 #[.val (.int p1), .val (.int (5 : Int32)), .val (.ref z5), .val (.int (0 : Int32)), .val (.int (68 : Int32)), .val (.int (0 : Int32)), .val (.int (0 : Int32)), .val (.int (1 : Int32))] [])) _
      refine XS.iloadN X165.here hx rfl (hb hby at_87) rfl ?_
      show Steps p.tables e below (T165.setTop (mkF m 88 #[.val (.int p1), .val (.int (5 : Int32)), .val (.ref z5), .val (.int (0 : Int32)), .val (.int (68 : Int32)), .val (.int (0 : Int32)), .val (.int (0 : Int32)), .val (.int (1 : Int32))] [(.int (0 : Int32))])) _
      refine XS.iload X165.here hx rfl (hb hby at_88) rfl ?_
      show Steps p.tables e below (T165.setTop (mkF m 90 #[.val (.int p1), .val (.int (5 : Int32)), .val (.ref z5), .val (.int (0 : Int32)), .val (.int (68 : Int32)), .val (.int (0 : Int32)), .val (.int (0 : Int32)), .val (.int (1 : Int32))] [(.int (0 : Int32)), (.int (0 : Int32))])) _
      refine XS.icmpNo X165.here hx rfl (hb hby at_90) rfl (teq (by decide : (0 : Int32) = (0 : Int32))).2 ?_
      show Steps p.tables e below (T165.setTop (mkF m 93 #[.val (.int p1), .val (.int (5 : Int32)), .val (.ref z5), .val (.int (0 : Int32)), .val (.int (68 : Int32)), .val (.int (0 : Int32)), .val (.int (0 : Int32)), .val (.int (1 : Int32))] [])) _
      refine XS.iloadN X165.here hx rfl (hb hby at_93) rfl ?_
      show Steps p.tables e below (T165.setTop (mkF m 94 #[.val (.int p1), .val (.int (5 : Int32)), .val (.ref z5), .val (.int (0 : Int32)), .val (.int (68 : Int32)), .val (.int (0 : Int32)), .val (.int (0 : Int32)), .val (.int (1 : Int32))] [(.int (0 : Int32))])) _
      refine XS.iload X165.here hx rfl (hb hby at_94) rfl ?_
      show Steps p.tables e below (T165.setTop (mkF m 96 #[.val (.int p1), .val (.int (5 : Int32)), .val (.ref z5), .val (.int (0 : Int32)), .val (.int (68 : Int32)), .val (.int (0 : Int32)), .val (.int (0 : Int32)), .val (.int (1 : Int32))] [(.int (0 : Int32)), (.int (0 : Int32))])) _
      refine XS.icmpNo X165.here hx rfl (hb hby at_96) rfl (teq (by decide : (0 : Int32) = (0 : Int32))).2 ?_
      show Steps p.tables e below (T165.setTop (mkF m 99 #[.val (.int p1), .val (.int (5 : Int32)), .val (.ref z5), .val (.int (0 : Int32)), .val (.int (68 : Int32)), .val (.int (0 : Int32)), .val (.int (0 : Int32)), .val (.int (1 : Int32))] [])) _
      refine XS.iload X165.here hx rfl (hb hby at_99) rfl ?_
      show Steps p.tables e below (T165.setTop (mkF m 101 #[.val (.int p1), .val (.int (5 : Int32)), .val (.ref z5), .val (.int (0 : Int32)), .val (.int (68 : Int32)), .val (.int (0 : Int32)), .val (.int (0 : Int32)), .val (.int (1 : Int32))] [(.int (1 : Int32))])) _
      refine XS.ifNo X165.here hx rfl (hb hby at_101) rfl ((if0 _ _).trans (feq (by decide : ¬ ((1 : Int32) = (0 : Int32)))).1) ?_
      show Steps p.tables e below (T165.setTop (mkF m 104 #[.val (.int p1), .val (.int (5 : Int32)), .val (.ref z5), .val (.int (0 : Int32)), .val (.int (68 : Int32)), .val (.int (0 : Int32)), .val (.int (0 : Int32)), .val (.int (1 : Int32))] [])) _
      refine XS.iconst X165.here hx rfl (hb hby at_104) ?_
      show Steps p.tables e below (T165.setTop (mkF m 105 #[.val (.int p1), .val (.int (5 : Int32)), .val (.ref z5), .val (.int (0 : Int32)), .val (.int (68 : Int32)), .val (.int (0 : Int32)), .val (.int (0 : Int32)), .val (.int (1 : Int32))] [(.int (1 : Int32))])) _
      refine XS.goto X165.here hx rfl (pc0 := 105) (pc' := 109) rfl (hb hby at_105) (by decide) (by decide) ?_
      show Steps p.tables e below (T165.setTop (mkF m 109 #[.val (.int p1), .val (.int (5 : Int32)), .val (.ref z5), .val (.int (0 : Int32)), .val (.int (68 : Int32)), .val (.int (0 : Int32)), .val (.int (0 : Int32)), .val (.int (1 : Int32))] [(.int (1 : Int32))])) _
      exact k)
    obtain ⟨fs, hr, hrun, hended, hW, hsame⟩ := X165.leave (v := some (.int (1 : Int32))) (fun h => by rw [Bd.returns] at h; cases h)
    refine ⟨_, _, pp167 _ ?_, hrun, hended, _, _, rfl, ?_, ⟨_, rfl⟩, hW, hsame.mono (by decide) (by decide)⟩
    · exact retN X165 hx (t := .boolean) Bd.returns (by simp) (hb hby at_109) hr
    · show Q_own_law Z p1 z0 z1 z2 z3 z4 z5 z6 z7 z8 z9 z10 z11 h0 n0 _ T165.heap _
      rw [s165]
      exact ⟨rfl, N165⟩
  · obtain ⟨_, _, ⟨T168, L168, k168, n168⟩, -, X168, ⟨Lc168, hQ168, l168, y168, z168⟩, st168⟩ := Jvm.LawKit.callS X0 hx (y := (⟨"com/example/pairwright/pairwright/model/ResultLostPinLaw", "pick", "(I)Lcom/example/pairwright/pairwright/model/Result;"⟩ : MethodName)) hown (mvT hZ (hw _ (List.mem_of_getElem? (i := 1) rfl))) (mvT hZ (hw _ (List.mem_of_getElem? (i := 2) rfl))) (mvT hZ (hw _ (List.mem_of_getElem? (i := 3) rfl))) (mvT hZ (hw _ (List.mem_of_getElem? (i := 4) rfl))) (by decide) (backOf (W := 0) (own_pick l Z a0 hw [] (6 : Int32) z0 z1 z2 z3 z4 z5 z6 z7 z8 z9 z10 z11 h0 n0 Z0 S0 S1 S2 S3 S4 S5 S6 S7 S8 S9 S10 S11) hZ (hw _ (List.mem_of_getElem? (i := 4) rfl)) (hw _ (List.mem_of_getElem? (i := 3) rfl)) (by decide) (by decide)) (g := (mkF m 9 #[.val (.int p1), .val (.int (6 : Int32)), .unset, .unset, .unset, .unset, .unset, .unset] [(.int (6 : Int32))])) rfl (by rw [hml]; rfl) (argsL := [(.int (6 : Int32))]) (rest := []) (lenOf pd__I_Lcom_example_pairwright_pairwright_model_Result_ rfl) rfl (by show 2 * 0 + _ ≤ _; exact Nat.le_of_eq rfl) (hb hby at_9) (fun _ _ => ⟨rfl, e0, (by decide : 0 + 0 ≤ _), (by decide : 0 + 0 ≤ _)⟩)
    dsimp only [Pt.U, Pt.locs, Pt.cells, Pt.slots] at X168 l168 y168 z168 st168 hQ168
    subst l168 y168 z168
    obtain ⟨rfl, N168q, s168⟩ := hQ168
    have N168 := Fr.app N0 N168q
    have pp169 : ∀ t, Steps p.tables e below (T168.setTop (mkF m 12 #[.val (.int p1), .val (.int (6 : Int32)), .unset, .unset, .unset, .unset, .unset, .unset] [(.ref z6)])) t → Steps p.tables e below (s₁.setTop (entryFrame m #[(.int p1)] maxLocals)) t := fun t k => pp101 t (st168 t k)
    have pp170 : ∀ t, Steps p.tables e below (T168.setTop (mkF m 14 #[.val (.int p1), .val (.int (6 : Int32)), .val (.ref z6), .unset, .unset, .unset, .unset, .unset] [(.ref z6)])) t → Steps p.tables e below (s₁.setTop (entryFrame m #[(.int p1)] maxLocals)) t := fun t k => pp169 t (by
      refine XS.astoreN X168.here hx rfl (hb hby at_12) rfl rfl (l' := #[.val (.int p1), .val (.int (6 : Int32)), .val (.ref z6), .unset, .unset, .unset, .unset, .unset]) rfl ?_
      show Steps p.tables e below (T168.setTop (mkF m 13 #[.val (.int p1), .val (.int (6 : Int32)), .val (.ref z6), .unset, .unset, .unset, .unset, .unset] [])) _
      refine XS.aloadN X168.here hx rfl (hb hby at_13) rfl rfl ?_
      show Steps p.tables e below (T168.setTop (mkF m 14 #[.val (.int p1), .val (.int (6 : Int32)), .val (.ref z6), .unset, .unset, .unset, .unset, .unset] [(.ref z6)])) _
      exact k)
    obtain ⟨cq171, kq171, q171a, q171b, q171c⟩ := isOf hZ s168 E6
    obtain ⟨_, _, ⟨T171, L171, k171, n171⟩, -, X171, ⟨Lc171, hQ171, l171, y171, z171⟩, st171⟩ := X168.virtualBack hx (y := (⟨"com/example/pairwright/pairwright/model/Result", "lost", "()Z"⟩ : MethodName)) (z := (⟨"com/example/pairwright/pairwright/model/Result", "lost", "()Z"⟩ : MethodName)) hown (mvT hZ (hw _ (List.mem_of_getElem? (i := 8) rfl))) (mvT hZ (hw _ (List.mem_of_getElem? (i := 9) rfl))) (notFace_of_selects (args := #[]) (mvT hZ (hw _ (List.mem_of_getElem? (i := 11) rfl)))) (mvT hZ (hw _ (List.mem_of_getElem? (i := 11) rfl))) (mvT hZ (hw _ (List.mem_of_getElem? (i := 10) rfl))) (by decide) (backOf (W := 0) (own_lost l Z a0 hw [] z6 z1 z4 h0 n0 Z0 S1 S4) hZ (hw _ (List.mem_of_getElem? (i := 12) rfl)) (hw _ (List.mem_of_getElem? (i := 6) rfl)) (by decide) (by decide)) q171a q171c (g := (mkF m 14 #[.val (.int p1), .val (.int (6 : Int32)), .val (.ref z6), .unset, .unset, .unset, .unset, .unset] [(.ref z6)])) rfl (by rw [hml]; rfl) (Steps.refl _) (argsL := []) (rest := []) (lenOf pd___Z rfl) rfl (by show 2 * 0 + _ ≤ _; exact Nat.le_of_eq rfl) (hb hby at_14) (fun _ _ => ⟨rfl, s168, (by decide : 0 + 0 ≤ _), (by decide : 0 + 0 ≤ _)⟩)
    dsimp only [Pt.U, Pt.locs, Pt.cells, Pt.slots] at X171 l171 y171 z171 st171 hQ171
    subst l171 y171 z171
    obtain ⟨rfl, N171q, s171⟩ := hQ171
    have N171 := Fr.app N168 N171q
    have pp172 : ∀ t, Steps p.tables e below (T171.setTop (mkF m 17 #[.val (.int p1), .val (.int (6 : Int32)), .val (.ref z6), .unset, .unset, .unset, .unset, .unset] [(.int (own_or z6 z1 z4))])) t → Steps p.tables e below (s₁.setTop (entryFrame m #[(.int p1)] maxLocals)) t := fun t k => pp170 t (st171.trans k)
    rw [own_or3 ne6_1 ne6_4] at pp172
    have pp173 : ∀ t, Steps p.tables e below (T171.setTop (mkF m 19 #[.val (.int p1), .val (.int (6 : Int32)), .val (.ref z6), .val (.int (0 : Int32)), .unset, .unset, .unset, .unset] [(.ref z6)])) t → Steps p.tables e below (s₁.setTop (entryFrame m #[(.int p1)] maxLocals)) t := fun t k => pp172 t (by
      refine XS.istoreN X171.here hx rfl (hb hby at_17) rfl (l' := #[.val (.int p1), .val (.int (6 : Int32)), .val (.ref z6), .val (.int (0 : Int32)), .unset, .unset, .unset, .unset]) rfl ?_
      show Steps p.tables e below (T171.setTop (mkF m 18 #[.val (.int p1), .val (.int (6 : Int32)), .val (.ref z6), .val (.int (0 : Int32)), .unset, .unset, .unset, .unset] [])) _
      refine XS.aloadN X171.here hx rfl (hb hby at_18) rfl rfl ?_
      show Steps p.tables e below (T171.setTop (mkF m 19 #[.val (.int p1), .val (.int (6 : Int32)), .val (.ref z6), .val (.int (0 : Int32)), .unset, .unset, .unset, .unset] [(.ref z6)])) _
      exact k)
    obtain ⟨cq174, kq174, q174a, q174b, q174c⟩ := isOf hZ s171 E6
    obtain ⟨_, _, ⟨T174, L174, k174, n174⟩, -, X174, ⟨Lc174, hQ174, l174, y174, z174⟩, st174⟩ := X171.virtualBack hx (y := (⟨"com/example/pairwright/pairwright/model/Result", "code", "()C"⟩ : MethodName)) (z := (⟨"com/example/pairwright/pairwright/model/Result", "code", "()C"⟩ : MethodName)) hown (mvT hZ (hw _ (List.mem_of_getElem? (i := 17) rfl))) (mvT hZ (hw _ (List.mem_of_getElem? (i := 18) rfl))) (notFace_of_selects (args := #[]) (mvT hZ (hw _ (List.mem_of_getElem? (i := 20) rfl)))) (mvT hZ (hw _ (List.mem_of_getElem? (i := 20) rfl))) (mvT hZ (hw _ (List.mem_of_getElem? (i := 19) rfl))) (by decide) (backOf (W := 0) (own_code l Z a0 hw [] z6 (43 : Int32) h0 n0 Z0 C6) hZ (hw _ (List.mem_of_getElem? (i := 21) rfl)) (hw _ (List.mem_of_getElem? (i := 6) rfl)) (by decide) (by decide)) q174a q174c (g := (mkF m 19 #[.val (.int p1), .val (.int (6 : Int32)), .val (.ref z6), .val (.int (0 : Int32)), .unset, .unset, .unset, .unset] [(.ref z6)])) rfl (by rw [hml]; rfl) (Steps.refl _) (argsL := []) (rest := []) (lenOf pd___C rfl) rfl (by show 2 * 0 + _ ≤ _; exact Nat.le_of_eq rfl) (hb hby at_19) (fun _ _ => ⟨rfl, s171, (by decide : 0 + 0 ≤ _), (by decide : 0 + 0 ≤ _)⟩)
    dsimp only [Pt.U, Pt.locs, Pt.cells, Pt.slots] at X174 l174 y174 z174 st174 hQ174
    subst l174 y174 z174
    obtain ⟨rfl, N174q, s174⟩ := hQ174
    have N174 := Fr.app N171 N174q
    have pp175 : ∀ t, Steps p.tables e below (T174.setTop (mkF m 22 #[.val (.int p1), .val (.int (6 : Int32)), .val (.ref z6), .val (.int (0 : Int32)), .unset, .unset, .unset, .unset] [(.int (nar .char (43 : Int32)))])) t → Steps p.tables e below (s₁.setTop (entryFrame m #[(.int p1)] maxLocals)) t := fun t k => pp173 t (st174.trans k)
    rw [show nar .char (43 : Int32) = (43 : Int32) from by decide] at pp175
    have pp176 : ∀ t, Steps p.tables e below (T174.setTop (mkF m 109 #[.val (.int p1), .val (.int (6 : Int32)), .val (.ref z6), .val (.int (0 : Int32)), .val (.int (43 : Int32)), .val (.int (0 : Int32)), .val (.int (0 : Int32)), .val (.int (1 : Int32))] [(.int (1 : Int32))])) t → Steps p.tables e below (s₁.setTop (entryFrame m #[(.int p1)] maxLocals)) t := fun t k => pp175 t (by
      refine XS.istore X174.here hx rfl (hb hby at_22) rfl (l' := #[.val (.int p1), .val (.int (6 : Int32)), .val (.ref z6), .val (.int (0 : Int32)), .val (.int (43 : Int32)), .unset, .unset, .unset]) rfl ?_
      show Steps p.tables e below (T174.setTop (mkF m 24 #[.val (.int p1), .val (.int (6 : Int32)), .val (.ref z6), .val (.int (0 : Int32)), .val (.int (43 : Int32)), .unset, .unset, .unset] [])) _
      refine XS.iload X174.here hx rfl (hb hby at_24) rfl ?_
      show Steps p.tables e below (T174.setTop (mkF m 26 #[.val (.int p1), .val (.int (6 : Int32)), .val (.ref z6), .val (.int (0 : Int32)), .val (.int (43 : Int32)), .unset, .unset, .unset] [(.int (43 : Int32))])) _
      refine XS.bipush X174.here hx rfl (hb hby at_26) ?_
      show Steps p.tables e below (T174.setTop (mkF m 28 #[.val (.int p1), .val (.int (6 : Int32)), .val (.ref z6), .val (.int (0 : Int32)), .val (.int (43 : Int32)), .unset, .unset, .unset] [(.int (48 : Int32)), (.int (43 : Int32))])) _
      refine XS.icmpNo X174.here hx rfl (hb hby at_28) rfl (feq (by decide : ¬ ((43 : Int32) = (48 : Int32)))).1 ?_
      show Steps p.tables e below (T174.setTop (mkF m 31 #[.val (.int p1), .val (.int (6 : Int32)), .val (.ref z6), .val (.int (0 : Int32)), .val (.int (43 : Int32)), .unset, .unset, .unset] [])) _
      refine XS.iload X174.here hx rfl (hb hby at_31) rfl ?_
      show Steps p.tables e below (T174.setTop (mkF m 33 #[.val (.int p1), .val (.int (6 : Int32)), .val (.ref z6), .val (.int (0 : Int32)), .val (.int (43 : Int32)), .unset, .unset, .unset] [(.int (43 : Int32))])) _
      refine XS.bipush X174.here hx rfl (hb hby at_33) ?_
      show Steps p.tables e below (T174.setTop (mkF m 35 #[.val (.int p1), .val (.int (6 : Int32)), .val (.ref z6), .val (.int (0 : Int32)), .val (.int (43 : Int32)), .unset, .unset, .unset] [(.int (76 : Int32)), (.int (43 : Int32))])) _
      refine XS.icmpYes X174.here hx rfl (pc0 := 35) (pc' := 42) rfl (hb hby at_35) rfl (feq (by decide : ¬ ((43 : Int32) = (76 : Int32)))).2 (by decide) (by decide) ?_
      show Steps p.tables e below (T174.setTop (mkF m 42 #[.val (.int p1), .val (.int (6 : Int32)), .val (.ref z6), .val (.int (0 : Int32)), .val (.int (43 : Int32)), .unset, .unset, .unset] [])) _
      refine XS.iconst X174.here hx rfl (hb hby at_42) ?_
      show Steps p.tables e below (T174.setTop (mkF m 43 #[.val (.int p1), .val (.int (6 : Int32)), .val (.ref z6), .val (.int (0 : Int32)), .val (.int (43 : Int32)), .unset, .unset, .unset] [(.int (0 : Int32))])) _
      refine XS.istore X174.here hx rfl (hb hby at_43) rfl (l' := #[.val (.int p1), .val (.int (6 : Int32)), .val (.ref z6), .val (.int (0 : Int32)), .val (.int (43 : Int32)), .val (.int (0 : Int32)), .unset, .unset]) rfl ?_
      show Steps p.tables e below (T174.setTop (mkF m 45 #[.val (.int p1), .val (.int (6 : Int32)), .val (.ref z6), .val (.int (0 : Int32)), .val (.int (43 : Int32)), .val (.int (0 : Int32)), .unset, .unset] [])) _
      refine XS.iloadN X174.here hx rfl (hb hby at_45) rfl ?_
      show Steps p.tables e below (T174.setTop (mkF m 46 #[.val (.int p1), .val (.int (6 : Int32)), .val (.ref z6), .val (.int (0 : Int32)), .val (.int (43 : Int32)), .val (.int (0 : Int32)), .unset, .unset] [(.int (6 : Int32))])) _
      refine XS.iconst X174.here hx rfl (hb hby at_46) ?_
      show Steps p.tables e below (T174.setTop (mkF m 47 #[.val (.int p1), .val (.int (6 : Int32)), .val (.ref z6), .val (.int (0 : Int32)), .val (.int (43 : Int32)), .val (.int (0 : Int32)), .unset, .unset] [(.int (1 : Int32)), (.int (6 : Int32))])) _
      refine XS.icmpNo X174.here hx rfl (hb hby at_47) rfl (feq (by decide : ¬ ((6 : Int32) = (1 : Int32)))).1 ?_
      show Steps p.tables e below (T174.setTop (mkF m 50 #[.val (.int p1), .val (.int (6 : Int32)), .val (.ref z6), .val (.int (0 : Int32)), .val (.int (43 : Int32)), .val (.int (0 : Int32)), .unset, .unset] [])) _
      refine XS.iloadN X174.here hx rfl (hb hby at_50) rfl ?_
      show Steps p.tables e below (T174.setTop (mkF m 51 #[.val (.int p1), .val (.int (6 : Int32)), .val (.ref z6), .val (.int (0 : Int32)), .val (.int (43 : Int32)), .val (.int (0 : Int32)), .unset, .unset] [(.int (6 : Int32))])) _
      refine XS.iconst X174.here hx rfl (hb hby at_51) ?_
      show Steps p.tables e below (T174.setTop (mkF m 52 #[.val (.int p1), .val (.int (6 : Int32)), .val (.ref z6), .val (.int (0 : Int32)), .val (.int (43 : Int32)), .val (.int (0 : Int32)), .unset, .unset] [(.int (4 : Int32)), (.int (6 : Int32))])) _
      refine XS.icmpYes X174.here hx rfl (pc0 := 52) (pc' := 59) rfl (hb hby at_52) rfl (feq (by decide : ¬ ((6 : Int32) = (4 : Int32)))).2 (by decide) (by decide) ?_
      show Steps p.tables e below (T174.setTop (mkF m 59 #[.val (.int p1), .val (.int (6 : Int32)), .val (.ref z6), .val (.int (0 : Int32)), .val (.int (43 : Int32)), .val (.int (0 : Int32)), .unset, .unset] [])) _
      refine XS.iconst X174.here hx rfl (hb hby at_59) ?_
      show Steps p.tables e below (T174.setTop (mkF m 60 #[.val (.int p1), .val (.int (6 : Int32)), .val (.ref z6), .val (.int (0 : Int32)), .val (.int (43 : Int32)), .val (.int (0 : Int32)), .unset, .unset] [(.int (0 : Int32))])) _
      refine XS.istore X174.here hx rfl (hb hby at_60) rfl (l' := #[.val (.int p1), .val (.int (6 : Int32)), .val (.ref z6), .val (.int (0 : Int32)), .val (.int (43 : Int32)), .val (.int (0 : Int32)), .val (.int (0 : Int32)), .unset]) rfl ?_
      show Steps p.tables e below (T174.setTop (mkF m 62 #[.val (.int p1), .val (.int (6 : Int32)), .val (.ref z6), .val (.int (0 : Int32)), .val (.int (43 : Int32)), .val (.int (0 : Int32)), .val (.int (0 : Int32)), .unset] [])) _
      refine XS.iloadN X174.here hx rfl (hb hby at_62) rfl ?_
      show Steps p.tables e below (T174.setTop (mkF m 63 #[.val (.int p1), .val (.int (6 : Int32)), .val (.ref z6), .val (.int (0 : Int32)), .val (.int (43 : Int32)), .val (.int (0 : Int32)), .val (.int (0 : Int32)), .unset] [(.int (0 : Int32))])) _
      refine XS.ifYes X174.here hx rfl (pc0 := 63) (pc' := 80) rfl (hb hby at_63) rfl ((if0 _ _).trans (teq (by decide : (0 : Int32) = (0 : Int32))).1) (by decide) (by decide) ?_
      show Steps p.tables e below (T174.setTop (mkF m 80 #[.val (.int p1), .val (.int (6 : Int32)), .val (.ref z6), .val (.int (0 : Int32)), .val (.int (43 : Int32)), .val (.int (0 : Int32)), .val (.int (0 : Int32)), .unset] [])) _
      refine XS.iconst X174.here hx rfl (hb hby at_80) ?_
      show Steps p.tables e below (T174.setTop (mkF m 81 #[.val (.int p1), .val (.int (6 : Int32)), .val (.ref z6), .val (.int (0 : Int32)), .val (.int (43 : Int32)), .val (.int (0 : Int32)), .val (.int (0 : Int32)), .unset] [(.int (1 : Int32))])) _
      refine XS.goto X174.here hx rfl (pc0 := 81) (pc' := 85) rfl (hb hby at_81) (by decide) (by decide) ?_
      show Steps p.tables e below (T174.setTop (mkF m 85 #[.val (.int p1), .val (.int (6 : Int32)), .val (.ref z6), .val (.int (0 : Int32)), .val (.int (43 : Int32)), .val (.int (0 : Int32)), .val (.int (0 : Int32)), .unset] [(.int (1 : Int32))])) _
      refine XS.istore X174.here hx rfl (hb hby at_85) rfl (l' := #[.val (.int p1), .val (.int (6 : Int32)), .val (.ref z6), .val (.int (0 : Int32)), .val (.int (43 : Int32)), .val (.int (0 : Int32)), .val (.int (0 : Int32)), .val (.int (1 : Int32))]) rfl ?_
      show Steps p.tables e below (T174.setTop (mkF m 87 #[.val (.int p1), .val (.int (6 : Int32)), .val (.ref z6), .val (.int (0 : Int32)), .val (.int (43 : Int32)), .val (.int (0 : Int32)), .val (.int (0 : Int32)), .val (.int (1 : Int32))] [])) _
      refine XS.iloadN X174.here hx rfl (hb hby at_87) rfl ?_
      show Steps p.tables e below (T174.setTop (mkF m 88 #[.val (.int p1), .val (.int (6 : Int32)), .val (.ref z6), .val (.int (0 : Int32)), .val (.int (43 : Int32)), .val (.int (0 : Int32)), .val (.int (0 : Int32)), .val (.int (1 : Int32))] [(.int (0 : Int32))])) _
      refine XS.iload X174.here hx rfl (hb hby at_88) rfl ?_
      show Steps p.tables e below (T174.setTop (mkF m 90 #[.val (.int p1), .val (.int (6 : Int32)), .val (.ref z6), .val (.int (0 : Int32)), .val (.int (43 : Int32)), .val (.int (0 : Int32)), .val (.int (0 : Int32)), .val (.int (1 : Int32))] [(.int (0 : Int32)), (.int (0 : Int32))])) _
      refine XS.icmpNo X174.here hx rfl (hb hby at_90) rfl (teq (by decide : (0 : Int32) = (0 : Int32))).2 ?_
      show Steps p.tables e below (T174.setTop (mkF m 93 #[.val (.int p1), .val (.int (6 : Int32)), .val (.ref z6), .val (.int (0 : Int32)), .val (.int (43 : Int32)), .val (.int (0 : Int32)), .val (.int (0 : Int32)), .val (.int (1 : Int32))] [])) _
      refine XS.iloadN X174.here hx rfl (hb hby at_93) rfl ?_
      show Steps p.tables e below (T174.setTop (mkF m 94 #[.val (.int p1), .val (.int (6 : Int32)), .val (.ref z6), .val (.int (0 : Int32)), .val (.int (43 : Int32)), .val (.int (0 : Int32)), .val (.int (0 : Int32)), .val (.int (1 : Int32))] [(.int (0 : Int32))])) _
      refine XS.iload X174.here hx rfl (hb hby at_94) rfl ?_
      show Steps p.tables e below (T174.setTop (mkF m 96 #[.val (.int p1), .val (.int (6 : Int32)), .val (.ref z6), .val (.int (0 : Int32)), .val (.int (43 : Int32)), .val (.int (0 : Int32)), .val (.int (0 : Int32)), .val (.int (1 : Int32))] [(.int (0 : Int32)), (.int (0 : Int32))])) _
      refine XS.icmpNo X174.here hx rfl (hb hby at_96) rfl (teq (by decide : (0 : Int32) = (0 : Int32))).2 ?_
      show Steps p.tables e below (T174.setTop (mkF m 99 #[.val (.int p1), .val (.int (6 : Int32)), .val (.ref z6), .val (.int (0 : Int32)), .val (.int (43 : Int32)), .val (.int (0 : Int32)), .val (.int (0 : Int32)), .val (.int (1 : Int32))] [])) _
      refine XS.iload X174.here hx rfl (hb hby at_99) rfl ?_
      show Steps p.tables e below (T174.setTop (mkF m 101 #[.val (.int p1), .val (.int (6 : Int32)), .val (.ref z6), .val (.int (0 : Int32)), .val (.int (43 : Int32)), .val (.int (0 : Int32)), .val (.int (0 : Int32)), .val (.int (1 : Int32))] [(.int (1 : Int32))])) _
      refine XS.ifNo X174.here hx rfl (hb hby at_101) rfl ((if0 _ _).trans (feq (by decide : ¬ ((1 : Int32) = (0 : Int32)))).1) ?_
      show Steps p.tables e below (T174.setTop (mkF m 104 #[.val (.int p1), .val (.int (6 : Int32)), .val (.ref z6), .val (.int (0 : Int32)), .val (.int (43 : Int32)), .val (.int (0 : Int32)), .val (.int (0 : Int32)), .val (.int (1 : Int32))] [])) _
      refine XS.iconst X174.here hx rfl (hb hby at_104) ?_
      show Steps p.tables e below (T174.setTop (mkF m 105 #[.val (.int p1), .val (.int (6 : Int32)), .val (.ref z6), .val (.int (0 : Int32)), .val (.int (43 : Int32)), .val (.int (0 : Int32)), .val (.int (0 : Int32)), .val (.int (1 : Int32))] [(.int (1 : Int32))])) _
      refine XS.goto X174.here hx rfl (pc0 := 105) (pc' := 109) rfl (hb hby at_105) (by decide) (by decide) ?_
      show Steps p.tables e below (T174.setTop (mkF m 109 #[.val (.int p1), .val (.int (6 : Int32)), .val (.ref z6), .val (.int (0 : Int32)), .val (.int (43 : Int32)), .val (.int (0 : Int32)), .val (.int (0 : Int32)), .val (.int (1 : Int32))] [(.int (1 : Int32))])) _
      exact k)
    obtain ⟨fs, hr, hrun, hended, hW, hsame⟩ := X174.leave (v := some (.int (1 : Int32))) (fun h => by rw [Bd.returns] at h; cases h)
    refine ⟨_, _, pp176 _ ?_, hrun, hended, _, _, rfl, ?_, ⟨_, rfl⟩, hW, hsame.mono (by decide) (by decide)⟩
    · exact retN X174 hx (t := .boolean) Bd.returns (by simp) (hb hby at_109) hr
    · show Q_own_law Z p1 z0 z1 z2 z3 z4 z5 z6 z7 z8 z9 z10 z11 h0 n0 _ T174.heap _
      rw [s174]
      exact ⟨rfl, N174⟩
  · obtain ⟨_, _, ⟨T177, L177, k177, n177⟩, -, X177, ⟨Lc177, hQ177, l177, y177, z177⟩, st177⟩ := Jvm.LawKit.callS X0 hx (y := (⟨"com/example/pairwright/pairwright/model/ResultLostPinLaw", "pick", "(I)Lcom/example/pairwright/pairwright/model/Result;"⟩ : MethodName)) hown (mvT hZ (hw _ (List.mem_of_getElem? (i := 1) rfl))) (mvT hZ (hw _ (List.mem_of_getElem? (i := 2) rfl))) (mvT hZ (hw _ (List.mem_of_getElem? (i := 3) rfl))) (mvT hZ (hw _ (List.mem_of_getElem? (i := 4) rfl))) (by decide) (backOf (W := 0) (own_pick l Z a0 hw [] (7 : Int32) z0 z1 z2 z3 z4 z5 z6 z7 z8 z9 z10 z11 h0 n0 Z0 S0 S1 S2 S3 S4 S5 S6 S7 S8 S9 S10 S11) hZ (hw _ (List.mem_of_getElem? (i := 4) rfl)) (hw _ (List.mem_of_getElem? (i := 3) rfl)) (by decide) (by decide)) (g := (mkF m 9 #[.val (.int p1), .val (.int (7 : Int32)), .unset, .unset, .unset, .unset, .unset, .unset] [(.int (7 : Int32))])) rfl (by rw [hml]; rfl) (argsL := [(.int (7 : Int32))]) (rest := []) (lenOf pd__I_Lcom_example_pairwright_pairwright_model_Result_ rfl) rfl (by show 2 * 0 + _ ≤ _; exact Nat.le_of_eq rfl) (hb hby at_9) (fun _ _ => ⟨rfl, e0, (by decide : 0 + 0 ≤ _), (by decide : 0 + 0 ≤ _)⟩)
    dsimp only [Pt.U, Pt.locs, Pt.cells, Pt.slots] at X177 l177 y177 z177 st177 hQ177
    subst l177 y177 z177
    obtain ⟨rfl, N177q, s177⟩ := hQ177
    have N177 := Fr.app N0 N177q
    have pp178 : ∀ t, Steps p.tables e below (T177.setTop (mkF m 12 #[.val (.int p1), .val (.int (7 : Int32)), .unset, .unset, .unset, .unset, .unset, .unset] [(.ref z7)])) t → Steps p.tables e below (s₁.setTop (entryFrame m #[(.int p1)] maxLocals)) t := fun t k => pp101 t (st177 t k)
    have pp179 : ∀ t, Steps p.tables e below (T177.setTop (mkF m 14 #[.val (.int p1), .val (.int (7 : Int32)), .val (.ref z7), .unset, .unset, .unset, .unset, .unset] [(.ref z7)])) t → Steps p.tables e below (s₁.setTop (entryFrame m #[(.int p1)] maxLocals)) t := fun t k => pp178 t (by
      refine XS.astoreN X177.here hx rfl (hb hby at_12) rfl rfl (l' := #[.val (.int p1), .val (.int (7 : Int32)), .val (.ref z7), .unset, .unset, .unset, .unset, .unset]) rfl ?_
      show Steps p.tables e below (T177.setTop (mkF m 13 #[.val (.int p1), .val (.int (7 : Int32)), .val (.ref z7), .unset, .unset, .unset, .unset, .unset] [])) _
      refine XS.aloadN X177.here hx rfl (hb hby at_13) rfl rfl ?_
      show Steps p.tables e below (T177.setTop (mkF m 14 #[.val (.int p1), .val (.int (7 : Int32)), .val (.ref z7), .unset, .unset, .unset, .unset, .unset] [(.ref z7)])) _
      exact k)
    obtain ⟨cq180, kq180, q180a, q180b, q180c⟩ := isOf hZ s177 E7
    obtain ⟨_, _, ⟨T180, L180, k180, n180⟩, -, X180, ⟨Lc180, hQ180, l180, y180, z180⟩, st180⟩ := X177.virtualBack hx (y := (⟨"com/example/pairwright/pairwright/model/Result", "lost", "()Z"⟩ : MethodName)) (z := (⟨"com/example/pairwright/pairwright/model/Result", "lost", "()Z"⟩ : MethodName)) hown (mvT hZ (hw _ (List.mem_of_getElem? (i := 8) rfl))) (mvT hZ (hw _ (List.mem_of_getElem? (i := 9) rfl))) (notFace_of_selects (args := #[]) (mvT hZ (hw _ (List.mem_of_getElem? (i := 11) rfl)))) (mvT hZ (hw _ (List.mem_of_getElem? (i := 11) rfl))) (mvT hZ (hw _ (List.mem_of_getElem? (i := 10) rfl))) (by decide) (backOf (W := 0) (own_lost l Z a0 hw [] z7 z1 z4 h0 n0 Z0 S1 S4) hZ (hw _ (List.mem_of_getElem? (i := 12) rfl)) (hw _ (List.mem_of_getElem? (i := 6) rfl)) (by decide) (by decide)) q180a q180c (g := (mkF m 14 #[.val (.int p1), .val (.int (7 : Int32)), .val (.ref z7), .unset, .unset, .unset, .unset, .unset] [(.ref z7)])) rfl (by rw [hml]; rfl) (Steps.refl _) (argsL := []) (rest := []) (lenOf pd___Z rfl) rfl (by show 2 * 0 + _ ≤ _; exact Nat.le_of_eq rfl) (hb hby at_14) (fun _ _ => ⟨rfl, s177, (by decide : 0 + 0 ≤ _), (by decide : 0 + 0 ≤ _)⟩)
    dsimp only [Pt.U, Pt.locs, Pt.cells, Pt.slots] at X180 l180 y180 z180 st180 hQ180
    subst l180 y180 z180
    obtain ⟨rfl, N180q, s180⟩ := hQ180
    have N180 := Fr.app N177 N180q
    have pp181 : ∀ t, Steps p.tables e below (T180.setTop (mkF m 17 #[.val (.int p1), .val (.int (7 : Int32)), .val (.ref z7), .unset, .unset, .unset, .unset, .unset] [(.int (own_or z7 z1 z4))])) t → Steps p.tables e below (s₁.setTop (entryFrame m #[(.int p1)] maxLocals)) t := fun t k => pp179 t (st180.trans k)
    rw [own_or3 ne7_1 ne7_4] at pp181
    have pp182 : ∀ t, Steps p.tables e below (T180.setTop (mkF m 19 #[.val (.int p1), .val (.int (7 : Int32)), .val (.ref z7), .val (.int (0 : Int32)), .unset, .unset, .unset, .unset] [(.ref z7)])) t → Steps p.tables e below (s₁.setTop (entryFrame m #[(.int p1)] maxLocals)) t := fun t k => pp181 t (by
      refine XS.istoreN X180.here hx rfl (hb hby at_17) rfl (l' := #[.val (.int p1), .val (.int (7 : Int32)), .val (.ref z7), .val (.int (0 : Int32)), .unset, .unset, .unset, .unset]) rfl ?_
      show Steps p.tables e below (T180.setTop (mkF m 18 #[.val (.int p1), .val (.int (7 : Int32)), .val (.ref z7), .val (.int (0 : Int32)), .unset, .unset, .unset, .unset] [])) _
      refine XS.aloadN X180.here hx rfl (hb hby at_18) rfl rfl ?_
      show Steps p.tables e below (T180.setTop (mkF m 19 #[.val (.int p1), .val (.int (7 : Int32)), .val (.ref z7), .val (.int (0 : Int32)), .unset, .unset, .unset, .unset] [(.ref z7)])) _
      exact k)
    obtain ⟨cq183, kq183, q183a, q183b, q183c⟩ := isOf hZ s180 E7
    obtain ⟨_, _, ⟨T183, L183, k183, n183⟩, -, X183, ⟨Lc183, hQ183, l183, y183, z183⟩, st183⟩ := X180.virtualBack hx (y := (⟨"com/example/pairwright/pairwright/model/Result", "code", "()C"⟩ : MethodName)) (z := (⟨"com/example/pairwright/pairwright/model/Result", "code", "()C"⟩ : MethodName)) hown (mvT hZ (hw _ (List.mem_of_getElem? (i := 17) rfl))) (mvT hZ (hw _ (List.mem_of_getElem? (i := 18) rfl))) (notFace_of_selects (args := #[]) (mvT hZ (hw _ (List.mem_of_getElem? (i := 20) rfl)))) (mvT hZ (hw _ (List.mem_of_getElem? (i := 20) rfl))) (mvT hZ (hw _ (List.mem_of_getElem? (i := 19) rfl))) (by decide) (backOf (W := 0) (own_code l Z a0 hw [] z7 (45 : Int32) h0 n0 Z0 C7) hZ (hw _ (List.mem_of_getElem? (i := 21) rfl)) (hw _ (List.mem_of_getElem? (i := 6) rfl)) (by decide) (by decide)) q183a q183c (g := (mkF m 19 #[.val (.int p1), .val (.int (7 : Int32)), .val (.ref z7), .val (.int (0 : Int32)), .unset, .unset, .unset, .unset] [(.ref z7)])) rfl (by rw [hml]; rfl) (Steps.refl _) (argsL := []) (rest := []) (lenOf pd___C rfl) rfl (by show 2 * 0 + _ ≤ _; exact Nat.le_of_eq rfl) (hb hby at_19) (fun _ _ => ⟨rfl, s180, (by decide : 0 + 0 ≤ _), (by decide : 0 + 0 ≤ _)⟩)
    dsimp only [Pt.U, Pt.locs, Pt.cells, Pt.slots] at X183 l183 y183 z183 st183 hQ183
    subst l183 y183 z183
    obtain ⟨rfl, N183q, s183⟩ := hQ183
    have N183 := Fr.app N180 N183q
    have pp184 : ∀ t, Steps p.tables e below (T183.setTop (mkF m 22 #[.val (.int p1), .val (.int (7 : Int32)), .val (.ref z7), .val (.int (0 : Int32)), .unset, .unset, .unset, .unset] [(.int (nar .char (45 : Int32)))])) t → Steps p.tables e below (s₁.setTop (entryFrame m #[(.int p1)] maxLocals)) t := fun t k => pp182 t (st183.trans k)
    rw [show nar .char (45 : Int32) = (45 : Int32) from by decide] at pp184
    have pp185 : ∀ t, Steps p.tables e below (T183.setTop (mkF m 109 #[.val (.int p1), .val (.int (7 : Int32)), .val (.ref z7), .val (.int (0 : Int32)), .val (.int (45 : Int32)), .val (.int (0 : Int32)), .val (.int (0 : Int32)), .val (.int (1 : Int32))] [(.int (1 : Int32))])) t → Steps p.tables e below (s₁.setTop (entryFrame m #[(.int p1)] maxLocals)) t := fun t k => pp184 t (by
      refine XS.istore X183.here hx rfl (hb hby at_22) rfl (l' := #[.val (.int p1), .val (.int (7 : Int32)), .val (.ref z7), .val (.int (0 : Int32)), .val (.int (45 : Int32)), .unset, .unset, .unset]) rfl ?_
      show Steps p.tables e below (T183.setTop (mkF m 24 #[.val (.int p1), .val (.int (7 : Int32)), .val (.ref z7), .val (.int (0 : Int32)), .val (.int (45 : Int32)), .unset, .unset, .unset] [])) _
      refine XS.iload X183.here hx rfl (hb hby at_24) rfl ?_
      show Steps p.tables e below (T183.setTop (mkF m 26 #[.val (.int p1), .val (.int (7 : Int32)), .val (.ref z7), .val (.int (0 : Int32)), .val (.int (45 : Int32)), .unset, .unset, .unset] [(.int (45 : Int32))])) _
      refine XS.bipush X183.here hx rfl (hb hby at_26) ?_
      show Steps p.tables e below (T183.setTop (mkF m 28 #[.val (.int p1), .val (.int (7 : Int32)), .val (.ref z7), .val (.int (0 : Int32)), .val (.int (45 : Int32)), .unset, .unset, .unset] [(.int (48 : Int32)), (.int (45 : Int32))])) _
      refine XS.icmpNo X183.here hx rfl (hb hby at_28) rfl (feq (by decide : ¬ ((45 : Int32) = (48 : Int32)))).1 ?_
      show Steps p.tables e below (T183.setTop (mkF m 31 #[.val (.int p1), .val (.int (7 : Int32)), .val (.ref z7), .val (.int (0 : Int32)), .val (.int (45 : Int32)), .unset, .unset, .unset] [])) _
      refine XS.iload X183.here hx rfl (hb hby at_31) rfl ?_
      show Steps p.tables e below (T183.setTop (mkF m 33 #[.val (.int p1), .val (.int (7 : Int32)), .val (.ref z7), .val (.int (0 : Int32)), .val (.int (45 : Int32)), .unset, .unset, .unset] [(.int (45 : Int32))])) _
      refine XS.bipush X183.here hx rfl (hb hby at_33) ?_
      show Steps p.tables e below (T183.setTop (mkF m 35 #[.val (.int p1), .val (.int (7 : Int32)), .val (.ref z7), .val (.int (0 : Int32)), .val (.int (45 : Int32)), .unset, .unset, .unset] [(.int (76 : Int32)), (.int (45 : Int32))])) _
      refine XS.icmpYes X183.here hx rfl (pc0 := 35) (pc' := 42) rfl (hb hby at_35) rfl (feq (by decide : ¬ ((45 : Int32) = (76 : Int32)))).2 (by decide) (by decide) ?_
      show Steps p.tables e below (T183.setTop (mkF m 42 #[.val (.int p1), .val (.int (7 : Int32)), .val (.ref z7), .val (.int (0 : Int32)), .val (.int (45 : Int32)), .unset, .unset, .unset] [])) _
      refine XS.iconst X183.here hx rfl (hb hby at_42) ?_
      show Steps p.tables e below (T183.setTop (mkF m 43 #[.val (.int p1), .val (.int (7 : Int32)), .val (.ref z7), .val (.int (0 : Int32)), .val (.int (45 : Int32)), .unset, .unset, .unset] [(.int (0 : Int32))])) _
      refine XS.istore X183.here hx rfl (hb hby at_43) rfl (l' := #[.val (.int p1), .val (.int (7 : Int32)), .val (.ref z7), .val (.int (0 : Int32)), .val (.int (45 : Int32)), .val (.int (0 : Int32)), .unset, .unset]) rfl ?_
      show Steps p.tables e below (T183.setTop (mkF m 45 #[.val (.int p1), .val (.int (7 : Int32)), .val (.ref z7), .val (.int (0 : Int32)), .val (.int (45 : Int32)), .val (.int (0 : Int32)), .unset, .unset] [])) _
      refine XS.iloadN X183.here hx rfl (hb hby at_45) rfl ?_
      show Steps p.tables e below (T183.setTop (mkF m 46 #[.val (.int p1), .val (.int (7 : Int32)), .val (.ref z7), .val (.int (0 : Int32)), .val (.int (45 : Int32)), .val (.int (0 : Int32)), .unset, .unset] [(.int (7 : Int32))])) _
      refine XS.iconst X183.here hx rfl (hb hby at_46) ?_
      show Steps p.tables e below (T183.setTop (mkF m 47 #[.val (.int p1), .val (.int (7 : Int32)), .val (.ref z7), .val (.int (0 : Int32)), .val (.int (45 : Int32)), .val (.int (0 : Int32)), .unset, .unset] [(.int (1 : Int32)), (.int (7 : Int32))])) _
      refine XS.icmpNo X183.here hx rfl (hb hby at_47) rfl (feq (by decide : ¬ ((7 : Int32) = (1 : Int32)))).1 ?_
      show Steps p.tables e below (T183.setTop (mkF m 50 #[.val (.int p1), .val (.int (7 : Int32)), .val (.ref z7), .val (.int (0 : Int32)), .val (.int (45 : Int32)), .val (.int (0 : Int32)), .unset, .unset] [])) _
      refine XS.iloadN X183.here hx rfl (hb hby at_50) rfl ?_
      show Steps p.tables e below (T183.setTop (mkF m 51 #[.val (.int p1), .val (.int (7 : Int32)), .val (.ref z7), .val (.int (0 : Int32)), .val (.int (45 : Int32)), .val (.int (0 : Int32)), .unset, .unset] [(.int (7 : Int32))])) _
      refine XS.iconst X183.here hx rfl (hb hby at_51) ?_
      show Steps p.tables e below (T183.setTop (mkF m 52 #[.val (.int p1), .val (.int (7 : Int32)), .val (.ref z7), .val (.int (0 : Int32)), .val (.int (45 : Int32)), .val (.int (0 : Int32)), .unset, .unset] [(.int (4 : Int32)), (.int (7 : Int32))])) _
      refine XS.icmpYes X183.here hx rfl (pc0 := 52) (pc' := 59) rfl (hb hby at_52) rfl (feq (by decide : ¬ ((7 : Int32) = (4 : Int32)))).2 (by decide) (by decide) ?_
      show Steps p.tables e below (T183.setTop (mkF m 59 #[.val (.int p1), .val (.int (7 : Int32)), .val (.ref z7), .val (.int (0 : Int32)), .val (.int (45 : Int32)), .val (.int (0 : Int32)), .unset, .unset] [])) _
      refine XS.iconst X183.here hx rfl (hb hby at_59) ?_
      show Steps p.tables e below (T183.setTop (mkF m 60 #[.val (.int p1), .val (.int (7 : Int32)), .val (.ref z7), .val (.int (0 : Int32)), .val (.int (45 : Int32)), .val (.int (0 : Int32)), .unset, .unset] [(.int (0 : Int32))])) _
      refine XS.istore X183.here hx rfl (hb hby at_60) rfl (l' := #[.val (.int p1), .val (.int (7 : Int32)), .val (.ref z7), .val (.int (0 : Int32)), .val (.int (45 : Int32)), .val (.int (0 : Int32)), .val (.int (0 : Int32)), .unset]) rfl ?_
      show Steps p.tables e below (T183.setTop (mkF m 62 #[.val (.int p1), .val (.int (7 : Int32)), .val (.ref z7), .val (.int (0 : Int32)), .val (.int (45 : Int32)), .val (.int (0 : Int32)), .val (.int (0 : Int32)), .unset] [])) _
      refine XS.iloadN X183.here hx rfl (hb hby at_62) rfl ?_
      show Steps p.tables e below (T183.setTop (mkF m 63 #[.val (.int p1), .val (.int (7 : Int32)), .val (.ref z7), .val (.int (0 : Int32)), .val (.int (45 : Int32)), .val (.int (0 : Int32)), .val (.int (0 : Int32)), .unset] [(.int (0 : Int32))])) _
      refine XS.ifYes X183.here hx rfl (pc0 := 63) (pc' := 80) rfl (hb hby at_63) rfl ((if0 _ _).trans (teq (by decide : (0 : Int32) = (0 : Int32))).1) (by decide) (by decide) ?_
      show Steps p.tables e below (T183.setTop (mkF m 80 #[.val (.int p1), .val (.int (7 : Int32)), .val (.ref z7), .val (.int (0 : Int32)), .val (.int (45 : Int32)), .val (.int (0 : Int32)), .val (.int (0 : Int32)), .unset] [])) _
      refine XS.iconst X183.here hx rfl (hb hby at_80) ?_
      show Steps p.tables e below (T183.setTop (mkF m 81 #[.val (.int p1), .val (.int (7 : Int32)), .val (.ref z7), .val (.int (0 : Int32)), .val (.int (45 : Int32)), .val (.int (0 : Int32)), .val (.int (0 : Int32)), .unset] [(.int (1 : Int32))])) _
      refine XS.goto X183.here hx rfl (pc0 := 81) (pc' := 85) rfl (hb hby at_81) (by decide) (by decide) ?_
      show Steps p.tables e below (T183.setTop (mkF m 85 #[.val (.int p1), .val (.int (7 : Int32)), .val (.ref z7), .val (.int (0 : Int32)), .val (.int (45 : Int32)), .val (.int (0 : Int32)), .val (.int (0 : Int32)), .unset] [(.int (1 : Int32))])) _
      refine XS.istore X183.here hx rfl (hb hby at_85) rfl (l' := #[.val (.int p1), .val (.int (7 : Int32)), .val (.ref z7), .val (.int (0 : Int32)), .val (.int (45 : Int32)), .val (.int (0 : Int32)), .val (.int (0 : Int32)), .val (.int (1 : Int32))]) rfl ?_
      show Steps p.tables e below (T183.setTop (mkF m 87 #[.val (.int p1), .val (.int (7 : Int32)), .val (.ref z7), .val (.int (0 : Int32)), .val (.int (45 : Int32)), .val (.int (0 : Int32)), .val (.int (0 : Int32)), .val (.int (1 : Int32))] [])) _
      refine XS.iloadN X183.here hx rfl (hb hby at_87) rfl ?_
      show Steps p.tables e below (T183.setTop (mkF m 88 #[.val (.int p1), .val (.int (7 : Int32)), .val (.ref z7), .val (.int (0 : Int32)), .val (.int (45 : Int32)), .val (.int (0 : Int32)), .val (.int (0 : Int32)), .val (.int (1 : Int32))] [(.int (0 : Int32))])) _
      refine XS.iload X183.here hx rfl (hb hby at_88) rfl ?_
      show Steps p.tables e below (T183.setTop (mkF m 90 #[.val (.int p1), .val (.int (7 : Int32)), .val (.ref z7), .val (.int (0 : Int32)), .val (.int (45 : Int32)), .val (.int (0 : Int32)), .val (.int (0 : Int32)), .val (.int (1 : Int32))] [(.int (0 : Int32)), (.int (0 : Int32))])) _
      refine XS.icmpNo X183.here hx rfl (hb hby at_90) rfl (teq (by decide : (0 : Int32) = (0 : Int32))).2 ?_
      show Steps p.tables e below (T183.setTop (mkF m 93 #[.val (.int p1), .val (.int (7 : Int32)), .val (.ref z7), .val (.int (0 : Int32)), .val (.int (45 : Int32)), .val (.int (0 : Int32)), .val (.int (0 : Int32)), .val (.int (1 : Int32))] [])) _
      refine XS.iloadN X183.here hx rfl (hb hby at_93) rfl ?_
      show Steps p.tables e below (T183.setTop (mkF m 94 #[.val (.int p1), .val (.int (7 : Int32)), .val (.ref z7), .val (.int (0 : Int32)), .val (.int (45 : Int32)), .val (.int (0 : Int32)), .val (.int (0 : Int32)), .val (.int (1 : Int32))] [(.int (0 : Int32))])) _
      refine XS.iload X183.here hx rfl (hb hby at_94) rfl ?_
      show Steps p.tables e below (T183.setTop (mkF m 96 #[.val (.int p1), .val (.int (7 : Int32)), .val (.ref z7), .val (.int (0 : Int32)), .val (.int (45 : Int32)), .val (.int (0 : Int32)), .val (.int (0 : Int32)), .val (.int (1 : Int32))] [(.int (0 : Int32)), (.int (0 : Int32))])) _
      refine XS.icmpNo X183.here hx rfl (hb hby at_96) rfl (teq (by decide : (0 : Int32) = (0 : Int32))).2 ?_
      show Steps p.tables e below (T183.setTop (mkF m 99 #[.val (.int p1), .val (.int (7 : Int32)), .val (.ref z7), .val (.int (0 : Int32)), .val (.int (45 : Int32)), .val (.int (0 : Int32)), .val (.int (0 : Int32)), .val (.int (1 : Int32))] [])) _
      refine XS.iload X183.here hx rfl (hb hby at_99) rfl ?_
      show Steps p.tables e below (T183.setTop (mkF m 101 #[.val (.int p1), .val (.int (7 : Int32)), .val (.ref z7), .val (.int (0 : Int32)), .val (.int (45 : Int32)), .val (.int (0 : Int32)), .val (.int (0 : Int32)), .val (.int (1 : Int32))] [(.int (1 : Int32))])) _
      refine XS.ifNo X183.here hx rfl (hb hby at_101) rfl ((if0 _ _).trans (feq (by decide : ¬ ((1 : Int32) = (0 : Int32)))).1) ?_
      show Steps p.tables e below (T183.setTop (mkF m 104 #[.val (.int p1), .val (.int (7 : Int32)), .val (.ref z7), .val (.int (0 : Int32)), .val (.int (45 : Int32)), .val (.int (0 : Int32)), .val (.int (0 : Int32)), .val (.int (1 : Int32))] [])) _
      refine XS.iconst X183.here hx rfl (hb hby at_104) ?_
      show Steps p.tables e below (T183.setTop (mkF m 105 #[.val (.int p1), .val (.int (7 : Int32)), .val (.ref z7), .val (.int (0 : Int32)), .val (.int (45 : Int32)), .val (.int (0 : Int32)), .val (.int (0 : Int32)), .val (.int (1 : Int32))] [(.int (1 : Int32))])) _
      refine XS.goto X183.here hx rfl (pc0 := 105) (pc' := 109) rfl (hb hby at_105) (by decide) (by decide) ?_
      show Steps p.tables e below (T183.setTop (mkF m 109 #[.val (.int p1), .val (.int (7 : Int32)), .val (.ref z7), .val (.int (0 : Int32)), .val (.int (45 : Int32)), .val (.int (0 : Int32)), .val (.int (0 : Int32)), .val (.int (1 : Int32))] [(.int (1 : Int32))])) _
      exact k)
    obtain ⟨fs, hr, hrun, hended, hW, hsame⟩ := X183.leave (v := some (.int (1 : Int32))) (fun h => by rw [Bd.returns] at h; cases h)
    refine ⟨_, _, pp185 _ ?_, hrun, hended, _, _, rfl, ?_, ⟨_, rfl⟩, hW, hsame.mono (by decide) (by decide)⟩
    · exact retN X183 hx (t := .boolean) Bd.returns (by simp) (hb hby at_109) hr
    · show Q_own_law Z p1 z0 z1 z2 z3 z4 z5 z6 z7 z8 z9 z10 z11 h0 n0 _ T183.heap _
      rw [s183]
      exact ⟨rfl, N183⟩
  · obtain ⟨_, _, ⟨T186, L186, k186, n186⟩, -, X186, ⟨Lc186, hQ186, l186, y186, z186⟩, st186⟩ := Jvm.LawKit.callS X0 hx (y := (⟨"com/example/pairwright/pairwright/model/ResultLostPinLaw", "pick", "(I)Lcom/example/pairwright/pairwright/model/Result;"⟩ : MethodName)) hown (mvT hZ (hw _ (List.mem_of_getElem? (i := 1) rfl))) (mvT hZ (hw _ (List.mem_of_getElem? (i := 2) rfl))) (mvT hZ (hw _ (List.mem_of_getElem? (i := 3) rfl))) (mvT hZ (hw _ (List.mem_of_getElem? (i := 4) rfl))) (by decide) (backOf (W := 0) (own_pick l Z a0 hw [] (8 : Int32) z0 z1 z2 z3 z4 z5 z6 z7 z8 z9 z10 z11 h0 n0 Z0 S0 S1 S2 S3 S4 S5 S6 S7 S8 S9 S10 S11) hZ (hw _ (List.mem_of_getElem? (i := 4) rfl)) (hw _ (List.mem_of_getElem? (i := 3) rfl)) (by decide) (by decide)) (g := (mkF m 9 #[.val (.int p1), .val (.int (8 : Int32)), .unset, .unset, .unset, .unset, .unset, .unset] [(.int (8 : Int32))])) rfl (by rw [hml]; rfl) (argsL := [(.int (8 : Int32))]) (rest := []) (lenOf pd__I_Lcom_example_pairwright_pairwright_model_Result_ rfl) rfl (by show 2 * 0 + _ ≤ _; exact Nat.le_of_eq rfl) (hb hby at_9) (fun _ _ => ⟨rfl, e0, (by decide : 0 + 0 ≤ _), (by decide : 0 + 0 ≤ _)⟩)
    dsimp only [Pt.U, Pt.locs, Pt.cells, Pt.slots] at X186 l186 y186 z186 st186 hQ186
    subst l186 y186 z186
    obtain ⟨rfl, N186q, s186⟩ := hQ186
    have N186 := Fr.app N0 N186q
    have pp187 : ∀ t, Steps p.tables e below (T186.setTop (mkF m 12 #[.val (.int p1), .val (.int (8 : Int32)), .unset, .unset, .unset, .unset, .unset, .unset] [(.ref z8)])) t → Steps p.tables e below (s₁.setTop (entryFrame m #[(.int p1)] maxLocals)) t := fun t k => pp101 t (st186 t k)
    have pp188 : ∀ t, Steps p.tables e below (T186.setTop (mkF m 14 #[.val (.int p1), .val (.int (8 : Int32)), .val (.ref z8), .unset, .unset, .unset, .unset, .unset] [(.ref z8)])) t → Steps p.tables e below (s₁.setTop (entryFrame m #[(.int p1)] maxLocals)) t := fun t k => pp187 t (by
      refine XS.astoreN X186.here hx rfl (hb hby at_12) rfl rfl (l' := #[.val (.int p1), .val (.int (8 : Int32)), .val (.ref z8), .unset, .unset, .unset, .unset, .unset]) rfl ?_
      show Steps p.tables e below (T186.setTop (mkF m 13 #[.val (.int p1), .val (.int (8 : Int32)), .val (.ref z8), .unset, .unset, .unset, .unset, .unset] [])) _
      refine XS.aloadN X186.here hx rfl (hb hby at_13) rfl rfl ?_
      show Steps p.tables e below (T186.setTop (mkF m 14 #[.val (.int p1), .val (.int (8 : Int32)), .val (.ref z8), .unset, .unset, .unset, .unset, .unset] [(.ref z8)])) _
      exact k)
    obtain ⟨cq189, kq189, q189a, q189b, q189c⟩ := isOf hZ s186 E8
    obtain ⟨_, _, ⟨T189, L189, k189, n189⟩, -, X189, ⟨Lc189, hQ189, l189, y189, z189⟩, st189⟩ := X186.virtualBack hx (y := (⟨"com/example/pairwright/pairwright/model/Result", "lost", "()Z"⟩ : MethodName)) (z := (⟨"com/example/pairwright/pairwright/model/Result", "lost", "()Z"⟩ : MethodName)) hown (mvT hZ (hw _ (List.mem_of_getElem? (i := 8) rfl))) (mvT hZ (hw _ (List.mem_of_getElem? (i := 9) rfl))) (notFace_of_selects (args := #[]) (mvT hZ (hw _ (List.mem_of_getElem? (i := 11) rfl)))) (mvT hZ (hw _ (List.mem_of_getElem? (i := 11) rfl))) (mvT hZ (hw _ (List.mem_of_getElem? (i := 10) rfl))) (by decide) (backOf (W := 0) (own_lost l Z a0 hw [] z8 z1 z4 h0 n0 Z0 S1 S4) hZ (hw _ (List.mem_of_getElem? (i := 12) rfl)) (hw _ (List.mem_of_getElem? (i := 6) rfl)) (by decide) (by decide)) q189a q189c (g := (mkF m 14 #[.val (.int p1), .val (.int (8 : Int32)), .val (.ref z8), .unset, .unset, .unset, .unset, .unset] [(.ref z8)])) rfl (by rw [hml]; rfl) (Steps.refl _) (argsL := []) (rest := []) (lenOf pd___Z rfl) rfl (by show 2 * 0 + _ ≤ _; exact Nat.le_of_eq rfl) (hb hby at_14) (fun _ _ => ⟨rfl, s186, (by decide : 0 + 0 ≤ _), (by decide : 0 + 0 ≤ _)⟩)
    dsimp only [Pt.U, Pt.locs, Pt.cells, Pt.slots] at X189 l189 y189 z189 st189 hQ189
    subst l189 y189 z189
    obtain ⟨rfl, N189q, s189⟩ := hQ189
    have N189 := Fr.app N186 N189q
    have pp190 : ∀ t, Steps p.tables e below (T189.setTop (mkF m 17 #[.val (.int p1), .val (.int (8 : Int32)), .val (.ref z8), .unset, .unset, .unset, .unset, .unset] [(.int (own_or z8 z1 z4))])) t → Steps p.tables e below (s₁.setTop (entryFrame m #[(.int p1)] maxLocals)) t := fun t k => pp188 t (st189.trans k)
    rw [own_or3 ne8_1 ne8_4] at pp190
    have pp191 : ∀ t, Steps p.tables e below (T189.setTop (mkF m 19 #[.val (.int p1), .val (.int (8 : Int32)), .val (.ref z8), .val (.int (0 : Int32)), .unset, .unset, .unset, .unset] [(.ref z8)])) t → Steps p.tables e below (s₁.setTop (entryFrame m #[(.int p1)] maxLocals)) t := fun t k => pp190 t (by
      refine XS.istoreN X189.here hx rfl (hb hby at_17) rfl (l' := #[.val (.int p1), .val (.int (8 : Int32)), .val (.ref z8), .val (.int (0 : Int32)), .unset, .unset, .unset, .unset]) rfl ?_
      show Steps p.tables e below (T189.setTop (mkF m 18 #[.val (.int p1), .val (.int (8 : Int32)), .val (.ref z8), .val (.int (0 : Int32)), .unset, .unset, .unset, .unset] [])) _
      refine XS.aloadN X189.here hx rfl (hb hby at_18) rfl rfl ?_
      show Steps p.tables e below (T189.setTop (mkF m 19 #[.val (.int p1), .val (.int (8 : Int32)), .val (.ref z8), .val (.int (0 : Int32)), .unset, .unset, .unset, .unset] [(.ref z8)])) _
      exact k)
    obtain ⟨cq192, kq192, q192a, q192b, q192c⟩ := isOf hZ s189 E8
    obtain ⟨_, _, ⟨T192, L192, k192, n192⟩, -, X192, ⟨Lc192, hQ192, l192, y192, z192⟩, st192⟩ := X189.virtualBack hx (y := (⟨"com/example/pairwright/pairwright/model/Result", "code", "()C"⟩ : MethodName)) (z := (⟨"com/example/pairwright/pairwright/model/Result", "code", "()C"⟩ : MethodName)) hown (mvT hZ (hw _ (List.mem_of_getElem? (i := 17) rfl))) (mvT hZ (hw _ (List.mem_of_getElem? (i := 18) rfl))) (notFace_of_selects (args := #[]) (mvT hZ (hw _ (List.mem_of_getElem? (i := 20) rfl)))) (mvT hZ (hw _ (List.mem_of_getElem? (i := 20) rfl))) (mvT hZ (hw _ (List.mem_of_getElem? (i := 19) rfl))) (by decide) (backOf (W := 0) (own_code l Z a0 hw [] z8 (72 : Int32) h0 n0 Z0 C8) hZ (hw _ (List.mem_of_getElem? (i := 21) rfl)) (hw _ (List.mem_of_getElem? (i := 6) rfl)) (by decide) (by decide)) q192a q192c (g := (mkF m 19 #[.val (.int p1), .val (.int (8 : Int32)), .val (.ref z8), .val (.int (0 : Int32)), .unset, .unset, .unset, .unset] [(.ref z8)])) rfl (by rw [hml]; rfl) (Steps.refl _) (argsL := []) (rest := []) (lenOf pd___C rfl) rfl (by show 2 * 0 + _ ≤ _; exact Nat.le_of_eq rfl) (hb hby at_19) (fun _ _ => ⟨rfl, s189, (by decide : 0 + 0 ≤ _), (by decide : 0 + 0 ≤ _)⟩)
    dsimp only [Pt.U, Pt.locs, Pt.cells, Pt.slots] at X192 l192 y192 z192 st192 hQ192
    subst l192 y192 z192
    obtain ⟨rfl, N192q, s192⟩ := hQ192
    have N192 := Fr.app N189 N192q
    have pp193 : ∀ t, Steps p.tables e below (T192.setTop (mkF m 22 #[.val (.int p1), .val (.int (8 : Int32)), .val (.ref z8), .val (.int (0 : Int32)), .unset, .unset, .unset, .unset] [(.int (nar .char (72 : Int32)))])) t → Steps p.tables e below (s₁.setTop (entryFrame m #[(.int p1)] maxLocals)) t := fun t k => pp191 t (st192.trans k)
    rw [show nar .char (72 : Int32) = (72 : Int32) from by decide] at pp193
    have pp194 : ∀ t, Steps p.tables e below (T192.setTop (mkF m 109 #[.val (.int p1), .val (.int (8 : Int32)), .val (.ref z8), .val (.int (0 : Int32)), .val (.int (72 : Int32)), .val (.int (0 : Int32)), .val (.int (0 : Int32)), .val (.int (1 : Int32))] [(.int (1 : Int32))])) t → Steps p.tables e below (s₁.setTop (entryFrame m #[(.int p1)] maxLocals)) t := fun t k => pp193 t (by
      refine XS.istore X192.here hx rfl (hb hby at_22) rfl (l' := #[.val (.int p1), .val (.int (8 : Int32)), .val (.ref z8), .val (.int (0 : Int32)), .val (.int (72 : Int32)), .unset, .unset, .unset]) rfl ?_
      show Steps p.tables e below (T192.setTop (mkF m 24 #[.val (.int p1), .val (.int (8 : Int32)), .val (.ref z8), .val (.int (0 : Int32)), .val (.int (72 : Int32)), .unset, .unset, .unset] [])) _
      refine XS.iload X192.here hx rfl (hb hby at_24) rfl ?_
      show Steps p.tables e below (T192.setTop (mkF m 26 #[.val (.int p1), .val (.int (8 : Int32)), .val (.ref z8), .val (.int (0 : Int32)), .val (.int (72 : Int32)), .unset, .unset, .unset] [(.int (72 : Int32))])) _
      refine XS.bipush X192.here hx rfl (hb hby at_26) ?_
      show Steps p.tables e below (T192.setTop (mkF m 28 #[.val (.int p1), .val (.int (8 : Int32)), .val (.ref z8), .val (.int (0 : Int32)), .val (.int (72 : Int32)), .unset, .unset, .unset] [(.int (48 : Int32)), (.int (72 : Int32))])) _
      refine XS.icmpNo X192.here hx rfl (hb hby at_28) rfl (feq (by decide : ¬ ((72 : Int32) = (48 : Int32)))).1 ?_
      show Steps p.tables e below (T192.setTop (mkF m 31 #[.val (.int p1), .val (.int (8 : Int32)), .val (.ref z8), .val (.int (0 : Int32)), .val (.int (72 : Int32)), .unset, .unset, .unset] [])) _
      refine XS.iload X192.here hx rfl (hb hby at_31) rfl ?_
      show Steps p.tables e below (T192.setTop (mkF m 33 #[.val (.int p1), .val (.int (8 : Int32)), .val (.ref z8), .val (.int (0 : Int32)), .val (.int (72 : Int32)), .unset, .unset, .unset] [(.int (72 : Int32))])) _
      refine XS.bipush X192.here hx rfl (hb hby at_33) ?_
      show Steps p.tables e below (T192.setTop (mkF m 35 #[.val (.int p1), .val (.int (8 : Int32)), .val (.ref z8), .val (.int (0 : Int32)), .val (.int (72 : Int32)), .unset, .unset, .unset] [(.int (76 : Int32)), (.int (72 : Int32))])) _
      refine XS.icmpYes X192.here hx rfl (pc0 := 35) (pc' := 42) rfl (hb hby at_35) rfl (feq (by decide : ¬ ((72 : Int32) = (76 : Int32)))).2 (by decide) (by decide) ?_
      show Steps p.tables e below (T192.setTop (mkF m 42 #[.val (.int p1), .val (.int (8 : Int32)), .val (.ref z8), .val (.int (0 : Int32)), .val (.int (72 : Int32)), .unset, .unset, .unset] [])) _
      refine XS.iconst X192.here hx rfl (hb hby at_42) ?_
      show Steps p.tables e below (T192.setTop (mkF m 43 #[.val (.int p1), .val (.int (8 : Int32)), .val (.ref z8), .val (.int (0 : Int32)), .val (.int (72 : Int32)), .unset, .unset, .unset] [(.int (0 : Int32))])) _
      refine XS.istore X192.here hx rfl (hb hby at_43) rfl (l' := #[.val (.int p1), .val (.int (8 : Int32)), .val (.ref z8), .val (.int (0 : Int32)), .val (.int (72 : Int32)), .val (.int (0 : Int32)), .unset, .unset]) rfl ?_
      show Steps p.tables e below (T192.setTop (mkF m 45 #[.val (.int p1), .val (.int (8 : Int32)), .val (.ref z8), .val (.int (0 : Int32)), .val (.int (72 : Int32)), .val (.int (0 : Int32)), .unset, .unset] [])) _
      refine XS.iloadN X192.here hx rfl (hb hby at_45) rfl ?_
      show Steps p.tables e below (T192.setTop (mkF m 46 #[.val (.int p1), .val (.int (8 : Int32)), .val (.ref z8), .val (.int (0 : Int32)), .val (.int (72 : Int32)), .val (.int (0 : Int32)), .unset, .unset] [(.int (8 : Int32))])) _
      refine XS.iconst X192.here hx rfl (hb hby at_46) ?_
      show Steps p.tables e below (T192.setTop (mkF m 47 #[.val (.int p1), .val (.int (8 : Int32)), .val (.ref z8), .val (.int (0 : Int32)), .val (.int (72 : Int32)), .val (.int (0 : Int32)), .unset, .unset] [(.int (1 : Int32)), (.int (8 : Int32))])) _
      refine XS.icmpNo X192.here hx rfl (hb hby at_47) rfl (feq (by decide : ¬ ((8 : Int32) = (1 : Int32)))).1 ?_
      show Steps p.tables e below (T192.setTop (mkF m 50 #[.val (.int p1), .val (.int (8 : Int32)), .val (.ref z8), .val (.int (0 : Int32)), .val (.int (72 : Int32)), .val (.int (0 : Int32)), .unset, .unset] [])) _
      refine XS.iloadN X192.here hx rfl (hb hby at_50) rfl ?_
      show Steps p.tables e below (T192.setTop (mkF m 51 #[.val (.int p1), .val (.int (8 : Int32)), .val (.ref z8), .val (.int (0 : Int32)), .val (.int (72 : Int32)), .val (.int (0 : Int32)), .unset, .unset] [(.int (8 : Int32))])) _
      refine XS.iconst X192.here hx rfl (hb hby at_51) ?_
      show Steps p.tables e below (T192.setTop (mkF m 52 #[.val (.int p1), .val (.int (8 : Int32)), .val (.ref z8), .val (.int (0 : Int32)), .val (.int (72 : Int32)), .val (.int (0 : Int32)), .unset, .unset] [(.int (4 : Int32)), (.int (8 : Int32))])) _
      refine XS.icmpYes X192.here hx rfl (pc0 := 52) (pc' := 59) rfl (hb hby at_52) rfl (feq (by decide : ¬ ((8 : Int32) = (4 : Int32)))).2 (by decide) (by decide) ?_
      show Steps p.tables e below (T192.setTop (mkF m 59 #[.val (.int p1), .val (.int (8 : Int32)), .val (.ref z8), .val (.int (0 : Int32)), .val (.int (72 : Int32)), .val (.int (0 : Int32)), .unset, .unset] [])) _
      refine XS.iconst X192.here hx rfl (hb hby at_59) ?_
      show Steps p.tables e below (T192.setTop (mkF m 60 #[.val (.int p1), .val (.int (8 : Int32)), .val (.ref z8), .val (.int (0 : Int32)), .val (.int (72 : Int32)), .val (.int (0 : Int32)), .unset, .unset] [(.int (0 : Int32))])) _
      refine XS.istore X192.here hx rfl (hb hby at_60) rfl (l' := #[.val (.int p1), .val (.int (8 : Int32)), .val (.ref z8), .val (.int (0 : Int32)), .val (.int (72 : Int32)), .val (.int (0 : Int32)), .val (.int (0 : Int32)), .unset]) rfl ?_
      show Steps p.tables e below (T192.setTop (mkF m 62 #[.val (.int p1), .val (.int (8 : Int32)), .val (.ref z8), .val (.int (0 : Int32)), .val (.int (72 : Int32)), .val (.int (0 : Int32)), .val (.int (0 : Int32)), .unset] [])) _
      refine XS.iloadN X192.here hx rfl (hb hby at_62) rfl ?_
      show Steps p.tables e below (T192.setTop (mkF m 63 #[.val (.int p1), .val (.int (8 : Int32)), .val (.ref z8), .val (.int (0 : Int32)), .val (.int (72 : Int32)), .val (.int (0 : Int32)), .val (.int (0 : Int32)), .unset] [(.int (0 : Int32))])) _
      refine XS.ifYes X192.here hx rfl (pc0 := 63) (pc' := 80) rfl (hb hby at_63) rfl ((if0 _ _).trans (teq (by decide : (0 : Int32) = (0 : Int32))).1) (by decide) (by decide) ?_
      show Steps p.tables e below (T192.setTop (mkF m 80 #[.val (.int p1), .val (.int (8 : Int32)), .val (.ref z8), .val (.int (0 : Int32)), .val (.int (72 : Int32)), .val (.int (0 : Int32)), .val (.int (0 : Int32)), .unset] [])) _
      refine XS.iconst X192.here hx rfl (hb hby at_80) ?_
      show Steps p.tables e below (T192.setTop (mkF m 81 #[.val (.int p1), .val (.int (8 : Int32)), .val (.ref z8), .val (.int (0 : Int32)), .val (.int (72 : Int32)), .val (.int (0 : Int32)), .val (.int (0 : Int32)), .unset] [(.int (1 : Int32))])) _
      refine XS.goto X192.here hx rfl (pc0 := 81) (pc' := 85) rfl (hb hby at_81) (by decide) (by decide) ?_
      show Steps p.tables e below (T192.setTop (mkF m 85 #[.val (.int p1), .val (.int (8 : Int32)), .val (.ref z8), .val (.int (0 : Int32)), .val (.int (72 : Int32)), .val (.int (0 : Int32)), .val (.int (0 : Int32)), .unset] [(.int (1 : Int32))])) _
      refine XS.istore X192.here hx rfl (hb hby at_85) rfl (l' := #[.val (.int p1), .val (.int (8 : Int32)), .val (.ref z8), .val (.int (0 : Int32)), .val (.int (72 : Int32)), .val (.int (0 : Int32)), .val (.int (0 : Int32)), .val (.int (1 : Int32))]) rfl ?_
      show Steps p.tables e below (T192.setTop (mkF m 87 #[.val (.int p1), .val (.int (8 : Int32)), .val (.ref z8), .val (.int (0 : Int32)), .val (.int (72 : Int32)), .val (.int (0 : Int32)), .val (.int (0 : Int32)), .val (.int (1 : Int32))] [])) _
      refine XS.iloadN X192.here hx rfl (hb hby at_87) rfl ?_
      show Steps p.tables e below (T192.setTop (mkF m 88 #[.val (.int p1), .val (.int (8 : Int32)), .val (.ref z8), .val (.int (0 : Int32)), .val (.int (72 : Int32)), .val (.int (0 : Int32)), .val (.int (0 : Int32)), .val (.int (1 : Int32))] [(.int (0 : Int32))])) _
      refine XS.iload X192.here hx rfl (hb hby at_88) rfl ?_
      show Steps p.tables e below (T192.setTop (mkF m 90 #[.val (.int p1), .val (.int (8 : Int32)), .val (.ref z8), .val (.int (0 : Int32)), .val (.int (72 : Int32)), .val (.int (0 : Int32)), .val (.int (0 : Int32)), .val (.int (1 : Int32))] [(.int (0 : Int32)), (.int (0 : Int32))])) _
      refine XS.icmpNo X192.here hx rfl (hb hby at_90) rfl (teq (by decide : (0 : Int32) = (0 : Int32))).2 ?_
      show Steps p.tables e below (T192.setTop (mkF m 93 #[.val (.int p1), .val (.int (8 : Int32)), .val (.ref z8), .val (.int (0 : Int32)), .val (.int (72 : Int32)), .val (.int (0 : Int32)), .val (.int (0 : Int32)), .val (.int (1 : Int32))] [])) _
      refine XS.iloadN X192.here hx rfl (hb hby at_93) rfl ?_
      show Steps p.tables e below (T192.setTop (mkF m 94 #[.val (.int p1), .val (.int (8 : Int32)), .val (.ref z8), .val (.int (0 : Int32)), .val (.int (72 : Int32)), .val (.int (0 : Int32)), .val (.int (0 : Int32)), .val (.int (1 : Int32))] [(.int (0 : Int32))])) _
      refine XS.iload X192.here hx rfl (hb hby at_94) rfl ?_
      show Steps p.tables e below (T192.setTop (mkF m 96 #[.val (.int p1), .val (.int (8 : Int32)), .val (.ref z8), .val (.int (0 : Int32)), .val (.int (72 : Int32)), .val (.int (0 : Int32)), .val (.int (0 : Int32)), .val (.int (1 : Int32))] [(.int (0 : Int32)), (.int (0 : Int32))])) _
      refine XS.icmpNo X192.here hx rfl (hb hby at_96) rfl (teq (by decide : (0 : Int32) = (0 : Int32))).2 ?_
      show Steps p.tables e below (T192.setTop (mkF m 99 #[.val (.int p1), .val (.int (8 : Int32)), .val (.ref z8), .val (.int (0 : Int32)), .val (.int (72 : Int32)), .val (.int (0 : Int32)), .val (.int (0 : Int32)), .val (.int (1 : Int32))] [])) _
      refine XS.iload X192.here hx rfl (hb hby at_99) rfl ?_
      show Steps p.tables e below (T192.setTop (mkF m 101 #[.val (.int p1), .val (.int (8 : Int32)), .val (.ref z8), .val (.int (0 : Int32)), .val (.int (72 : Int32)), .val (.int (0 : Int32)), .val (.int (0 : Int32)), .val (.int (1 : Int32))] [(.int (1 : Int32))])) _
      refine XS.ifNo X192.here hx rfl (hb hby at_101) rfl ((if0 _ _).trans (feq (by decide : ¬ ((1 : Int32) = (0 : Int32)))).1) ?_
      show Steps p.tables e below (T192.setTop (mkF m 104 #[.val (.int p1), .val (.int (8 : Int32)), .val (.ref z8), .val (.int (0 : Int32)), .val (.int (72 : Int32)), .val (.int (0 : Int32)), .val (.int (0 : Int32)), .val (.int (1 : Int32))] [])) _
      refine XS.iconst X192.here hx rfl (hb hby at_104) ?_
      show Steps p.tables e below (T192.setTop (mkF m 105 #[.val (.int p1), .val (.int (8 : Int32)), .val (.ref z8), .val (.int (0 : Int32)), .val (.int (72 : Int32)), .val (.int (0 : Int32)), .val (.int (0 : Int32)), .val (.int (1 : Int32))] [(.int (1 : Int32))])) _
      refine XS.goto X192.here hx rfl (pc0 := 105) (pc' := 109) rfl (hb hby at_105) (by decide) (by decide) ?_
      show Steps p.tables e below (T192.setTop (mkF m 109 #[.val (.int p1), .val (.int (8 : Int32)), .val (.ref z8), .val (.int (0 : Int32)), .val (.int (72 : Int32)), .val (.int (0 : Int32)), .val (.int (0 : Int32)), .val (.int (1 : Int32))] [(.int (1 : Int32))])) _
      exact k)
    obtain ⟨fs, hr, hrun, hended, hW, hsame⟩ := X192.leave (v := some (.int (1 : Int32))) (fun h => by rw [Bd.returns] at h; cases h)
    refine ⟨_, _, pp194 _ ?_, hrun, hended, _, _, rfl, ?_, ⟨_, rfl⟩, hW, hsame.mono (by decide) (by decide)⟩
    · exact retN X192 hx (t := .boolean) Bd.returns (by simp) (hb hby at_109) hr
    · show Q_own_law Z p1 z0 z1 z2 z3 z4 z5 z6 z7 z8 z9 z10 z11 h0 n0 _ T192.heap _
      rw [s192]
      exact ⟨rfl, N192⟩
  · obtain ⟨_, _, ⟨T195, L195, k195, n195⟩, -, X195, ⟨Lc195, hQ195, l195, y195, z195⟩, st195⟩ := Jvm.LawKit.callS X0 hx (y := (⟨"com/example/pairwright/pairwright/model/ResultLostPinLaw", "pick", "(I)Lcom/example/pairwright/pairwright/model/Result;"⟩ : MethodName)) hown (mvT hZ (hw _ (List.mem_of_getElem? (i := 1) rfl))) (mvT hZ (hw _ (List.mem_of_getElem? (i := 2) rfl))) (mvT hZ (hw _ (List.mem_of_getElem? (i := 3) rfl))) (mvT hZ (hw _ (List.mem_of_getElem? (i := 4) rfl))) (by decide) (backOf (W := 0) (own_pick l Z a0 hw [] (9 : Int32) z0 z1 z2 z3 z4 z5 z6 z7 z8 z9 z10 z11 h0 n0 Z0 S0 S1 S2 S3 S4 S5 S6 S7 S8 S9 S10 S11) hZ (hw _ (List.mem_of_getElem? (i := 4) rfl)) (hw _ (List.mem_of_getElem? (i := 3) rfl)) (by decide) (by decide)) (g := (mkF m 9 #[.val (.int p1), .val (.int (9 : Int32)), .unset, .unset, .unset, .unset, .unset, .unset] [(.int (9 : Int32))])) rfl (by rw [hml]; rfl) (argsL := [(.int (9 : Int32))]) (rest := []) (lenOf pd__I_Lcom_example_pairwright_pairwright_model_Result_ rfl) rfl (by show 2 * 0 + _ ≤ _; exact Nat.le_of_eq rfl) (hb hby at_9) (fun _ _ => ⟨rfl, e0, (by decide : 0 + 0 ≤ _), (by decide : 0 + 0 ≤ _)⟩)
    dsimp only [Pt.U, Pt.locs, Pt.cells, Pt.slots] at X195 l195 y195 z195 st195 hQ195
    subst l195 y195 z195
    obtain ⟨rfl, N195q, s195⟩ := hQ195
    have N195 := Fr.app N0 N195q
    have pp196 : ∀ t, Steps p.tables e below (T195.setTop (mkF m 12 #[.val (.int p1), .val (.int (9 : Int32)), .unset, .unset, .unset, .unset, .unset, .unset] [(.ref z9)])) t → Steps p.tables e below (s₁.setTop (entryFrame m #[(.int p1)] maxLocals)) t := fun t k => pp101 t (st195 t k)
    have pp197 : ∀ t, Steps p.tables e below (T195.setTop (mkF m 14 #[.val (.int p1), .val (.int (9 : Int32)), .val (.ref z9), .unset, .unset, .unset, .unset, .unset] [(.ref z9)])) t → Steps p.tables e below (s₁.setTop (entryFrame m #[(.int p1)] maxLocals)) t := fun t k => pp196 t (by
      refine XS.astoreN X195.here hx rfl (hb hby at_12) rfl rfl (l' := #[.val (.int p1), .val (.int (9 : Int32)), .val (.ref z9), .unset, .unset, .unset, .unset, .unset]) rfl ?_
      show Steps p.tables e below (T195.setTop (mkF m 13 #[.val (.int p1), .val (.int (9 : Int32)), .val (.ref z9), .unset, .unset, .unset, .unset, .unset] [])) _
      refine XS.aloadN X195.here hx rfl (hb hby at_13) rfl rfl ?_
      show Steps p.tables e below (T195.setTop (mkF m 14 #[.val (.int p1), .val (.int (9 : Int32)), .val (.ref z9), .unset, .unset, .unset, .unset, .unset] [(.ref z9)])) _
      exact k)
    obtain ⟨cq198, kq198, q198a, q198b, q198c⟩ := isOf hZ s195 E9
    obtain ⟨_, _, ⟨T198, L198, k198, n198⟩, -, X198, ⟨Lc198, hQ198, l198, y198, z198⟩, st198⟩ := X195.virtualBack hx (y := (⟨"com/example/pairwright/pairwright/model/Result", "lost", "()Z"⟩ : MethodName)) (z := (⟨"com/example/pairwright/pairwright/model/Result", "lost", "()Z"⟩ : MethodName)) hown (mvT hZ (hw _ (List.mem_of_getElem? (i := 8) rfl))) (mvT hZ (hw _ (List.mem_of_getElem? (i := 9) rfl))) (notFace_of_selects (args := #[]) (mvT hZ (hw _ (List.mem_of_getElem? (i := 11) rfl)))) (mvT hZ (hw _ (List.mem_of_getElem? (i := 11) rfl))) (mvT hZ (hw _ (List.mem_of_getElem? (i := 10) rfl))) (by decide) (backOf (W := 0) (own_lost l Z a0 hw [] z9 z1 z4 h0 n0 Z0 S1 S4) hZ (hw _ (List.mem_of_getElem? (i := 12) rfl)) (hw _ (List.mem_of_getElem? (i := 6) rfl)) (by decide) (by decide)) q198a q198c (g := (mkF m 14 #[.val (.int p1), .val (.int (9 : Int32)), .val (.ref z9), .unset, .unset, .unset, .unset, .unset] [(.ref z9)])) rfl (by rw [hml]; rfl) (Steps.refl _) (argsL := []) (rest := []) (lenOf pd___Z rfl) rfl (by show 2 * 0 + _ ≤ _; exact Nat.le_of_eq rfl) (hb hby at_14) (fun _ _ => ⟨rfl, s195, (by decide : 0 + 0 ≤ _), (by decide : 0 + 0 ≤ _)⟩)
    dsimp only [Pt.U, Pt.locs, Pt.cells, Pt.slots] at X198 l198 y198 z198 st198 hQ198
    subst l198 y198 z198
    obtain ⟨rfl, N198q, s198⟩ := hQ198
    have N198 := Fr.app N195 N198q
    have pp199 : ∀ t, Steps p.tables e below (T198.setTop (mkF m 17 #[.val (.int p1), .val (.int (9 : Int32)), .val (.ref z9), .unset, .unset, .unset, .unset, .unset] [(.int (own_or z9 z1 z4))])) t → Steps p.tables e below (s₁.setTop (entryFrame m #[(.int p1)] maxLocals)) t := fun t k => pp197 t (st198.trans k)
    rw [own_or3 ne9_1 ne9_4] at pp199
    have pp200 : ∀ t, Steps p.tables e below (T198.setTop (mkF m 19 #[.val (.int p1), .val (.int (9 : Int32)), .val (.ref z9), .val (.int (0 : Int32)), .unset, .unset, .unset, .unset] [(.ref z9)])) t → Steps p.tables e below (s₁.setTop (entryFrame m #[(.int p1)] maxLocals)) t := fun t k => pp199 t (by
      refine XS.istoreN X198.here hx rfl (hb hby at_17) rfl (l' := #[.val (.int p1), .val (.int (9 : Int32)), .val (.ref z9), .val (.int (0 : Int32)), .unset, .unset, .unset, .unset]) rfl ?_
      show Steps p.tables e below (T198.setTop (mkF m 18 #[.val (.int p1), .val (.int (9 : Int32)), .val (.ref z9), .val (.int (0 : Int32)), .unset, .unset, .unset, .unset] [])) _
      refine XS.aloadN X198.here hx rfl (hb hby at_18) rfl rfl ?_
      show Steps p.tables e below (T198.setTop (mkF m 19 #[.val (.int p1), .val (.int (9 : Int32)), .val (.ref z9), .val (.int (0 : Int32)), .unset, .unset, .unset, .unset] [(.ref z9)])) _
      exact k)
    obtain ⟨cq201, kq201, q201a, q201b, q201c⟩ := isOf hZ s198 E9
    obtain ⟨_, _, ⟨T201, L201, k201, n201⟩, -, X201, ⟨Lc201, hQ201, l201, y201, z201⟩, st201⟩ := X198.virtualBack hx (y := (⟨"com/example/pairwright/pairwright/model/Result", "code", "()C"⟩ : MethodName)) (z := (⟨"com/example/pairwright/pairwright/model/Result", "code", "()C"⟩ : MethodName)) hown (mvT hZ (hw _ (List.mem_of_getElem? (i := 17) rfl))) (mvT hZ (hw _ (List.mem_of_getElem? (i := 18) rfl))) (notFace_of_selects (args := #[]) (mvT hZ (hw _ (List.mem_of_getElem? (i := 20) rfl)))) (mvT hZ (hw _ (List.mem_of_getElem? (i := 20) rfl))) (mvT hZ (hw _ (List.mem_of_getElem? (i := 19) rfl))) (by decide) (backOf (W := 0) (own_code l Z a0 hw [] z9 (70 : Int32) h0 n0 Z0 C9) hZ (hw _ (List.mem_of_getElem? (i := 21) rfl)) (hw _ (List.mem_of_getElem? (i := 6) rfl)) (by decide) (by decide)) q201a q201c (g := (mkF m 19 #[.val (.int p1), .val (.int (9 : Int32)), .val (.ref z9), .val (.int (0 : Int32)), .unset, .unset, .unset, .unset] [(.ref z9)])) rfl (by rw [hml]; rfl) (Steps.refl _) (argsL := []) (rest := []) (lenOf pd___C rfl) rfl (by show 2 * 0 + _ ≤ _; exact Nat.le_of_eq rfl) (hb hby at_19) (fun _ _ => ⟨rfl, s198, (by decide : 0 + 0 ≤ _), (by decide : 0 + 0 ≤ _)⟩)
    dsimp only [Pt.U, Pt.locs, Pt.cells, Pt.slots] at X201 l201 y201 z201 st201 hQ201
    subst l201 y201 z201
    obtain ⟨rfl, N201q, s201⟩ := hQ201
    have N201 := Fr.app N198 N201q
    have pp202 : ∀ t, Steps p.tables e below (T201.setTop (mkF m 22 #[.val (.int p1), .val (.int (9 : Int32)), .val (.ref z9), .val (.int (0 : Int32)), .unset, .unset, .unset, .unset] [(.int (nar .char (70 : Int32)))])) t → Steps p.tables e below (s₁.setTop (entryFrame m #[(.int p1)] maxLocals)) t := fun t k => pp200 t (st201.trans k)
    rw [show nar .char (70 : Int32) = (70 : Int32) from by decide] at pp202
    have pp203 : ∀ t, Steps p.tables e below (T201.setTop (mkF m 109 #[.val (.int p1), .val (.int (9 : Int32)), .val (.ref z9), .val (.int (0 : Int32)), .val (.int (70 : Int32)), .val (.int (0 : Int32)), .val (.int (0 : Int32)), .val (.int (1 : Int32))] [(.int (1 : Int32))])) t → Steps p.tables e below (s₁.setTop (entryFrame m #[(.int p1)] maxLocals)) t := fun t k => pp202 t (by
      refine XS.istore X201.here hx rfl (hb hby at_22) rfl (l' := #[.val (.int p1), .val (.int (9 : Int32)), .val (.ref z9), .val (.int (0 : Int32)), .val (.int (70 : Int32)), .unset, .unset, .unset]) rfl ?_
      show Steps p.tables e below (T201.setTop (mkF m 24 #[.val (.int p1), .val (.int (9 : Int32)), .val (.ref z9), .val (.int (0 : Int32)), .val (.int (70 : Int32)), .unset, .unset, .unset] [])) _
      refine XS.iload X201.here hx rfl (hb hby at_24) rfl ?_
      show Steps p.tables e below (T201.setTop (mkF m 26 #[.val (.int p1), .val (.int (9 : Int32)), .val (.ref z9), .val (.int (0 : Int32)), .val (.int (70 : Int32)), .unset, .unset, .unset] [(.int (70 : Int32))])) _
      refine XS.bipush X201.here hx rfl (hb hby at_26) ?_
      show Steps p.tables e below (T201.setTop (mkF m 28 #[.val (.int p1), .val (.int (9 : Int32)), .val (.ref z9), .val (.int (0 : Int32)), .val (.int (70 : Int32)), .unset, .unset, .unset] [(.int (48 : Int32)), (.int (70 : Int32))])) _
      refine XS.icmpNo X201.here hx rfl (hb hby at_28) rfl (feq (by decide : ¬ ((70 : Int32) = (48 : Int32)))).1 ?_
      show Steps p.tables e below (T201.setTop (mkF m 31 #[.val (.int p1), .val (.int (9 : Int32)), .val (.ref z9), .val (.int (0 : Int32)), .val (.int (70 : Int32)), .unset, .unset, .unset] [])) _
      refine XS.iload X201.here hx rfl (hb hby at_31) rfl ?_
      show Steps p.tables e below (T201.setTop (mkF m 33 #[.val (.int p1), .val (.int (9 : Int32)), .val (.ref z9), .val (.int (0 : Int32)), .val (.int (70 : Int32)), .unset, .unset, .unset] [(.int (70 : Int32))])) _
      refine XS.bipush X201.here hx rfl (hb hby at_33) ?_
      show Steps p.tables e below (T201.setTop (mkF m 35 #[.val (.int p1), .val (.int (9 : Int32)), .val (.ref z9), .val (.int (0 : Int32)), .val (.int (70 : Int32)), .unset, .unset, .unset] [(.int (76 : Int32)), (.int (70 : Int32))])) _
      refine XS.icmpYes X201.here hx rfl (pc0 := 35) (pc' := 42) rfl (hb hby at_35) rfl (feq (by decide : ¬ ((70 : Int32) = (76 : Int32)))).2 (by decide) (by decide) ?_
      show Steps p.tables e below (T201.setTop (mkF m 42 #[.val (.int p1), .val (.int (9 : Int32)), .val (.ref z9), .val (.int (0 : Int32)), .val (.int (70 : Int32)), .unset, .unset, .unset] [])) _
      refine XS.iconst X201.here hx rfl (hb hby at_42) ?_
      show Steps p.tables e below (T201.setTop (mkF m 43 #[.val (.int p1), .val (.int (9 : Int32)), .val (.ref z9), .val (.int (0 : Int32)), .val (.int (70 : Int32)), .unset, .unset, .unset] [(.int (0 : Int32))])) _
      refine XS.istore X201.here hx rfl (hb hby at_43) rfl (l' := #[.val (.int p1), .val (.int (9 : Int32)), .val (.ref z9), .val (.int (0 : Int32)), .val (.int (70 : Int32)), .val (.int (0 : Int32)), .unset, .unset]) rfl ?_
      show Steps p.tables e below (T201.setTop (mkF m 45 #[.val (.int p1), .val (.int (9 : Int32)), .val (.ref z9), .val (.int (0 : Int32)), .val (.int (70 : Int32)), .val (.int (0 : Int32)), .unset, .unset] [])) _
      refine XS.iloadN X201.here hx rfl (hb hby at_45) rfl ?_
      show Steps p.tables e below (T201.setTop (mkF m 46 #[.val (.int p1), .val (.int (9 : Int32)), .val (.ref z9), .val (.int (0 : Int32)), .val (.int (70 : Int32)), .val (.int (0 : Int32)), .unset, .unset] [(.int (9 : Int32))])) _
      refine XS.iconst X201.here hx rfl (hb hby at_46) ?_
      show Steps p.tables e below (T201.setTop (mkF m 47 #[.val (.int p1), .val (.int (9 : Int32)), .val (.ref z9), .val (.int (0 : Int32)), .val (.int (70 : Int32)), .val (.int (0 : Int32)), .unset, .unset] [(.int (1 : Int32)), (.int (9 : Int32))])) _
      refine XS.icmpNo X201.here hx rfl (hb hby at_47) rfl (feq (by decide : ¬ ((9 : Int32) = (1 : Int32)))).1 ?_
      show Steps p.tables e below (T201.setTop (mkF m 50 #[.val (.int p1), .val (.int (9 : Int32)), .val (.ref z9), .val (.int (0 : Int32)), .val (.int (70 : Int32)), .val (.int (0 : Int32)), .unset, .unset] [])) _
      refine XS.iloadN X201.here hx rfl (hb hby at_50) rfl ?_
      show Steps p.tables e below (T201.setTop (mkF m 51 #[.val (.int p1), .val (.int (9 : Int32)), .val (.ref z9), .val (.int (0 : Int32)), .val (.int (70 : Int32)), .val (.int (0 : Int32)), .unset, .unset] [(.int (9 : Int32))])) _
      refine XS.iconst X201.here hx rfl (hb hby at_51) ?_
      show Steps p.tables e below (T201.setTop (mkF m 52 #[.val (.int p1), .val (.int (9 : Int32)), .val (.ref z9), .val (.int (0 : Int32)), .val (.int (70 : Int32)), .val (.int (0 : Int32)), .unset, .unset] [(.int (4 : Int32)), (.int (9 : Int32))])) _
      refine XS.icmpYes X201.here hx rfl (pc0 := 52) (pc' := 59) rfl (hb hby at_52) rfl (feq (by decide : ¬ ((9 : Int32) = (4 : Int32)))).2 (by decide) (by decide) ?_
      show Steps p.tables e below (T201.setTop (mkF m 59 #[.val (.int p1), .val (.int (9 : Int32)), .val (.ref z9), .val (.int (0 : Int32)), .val (.int (70 : Int32)), .val (.int (0 : Int32)), .unset, .unset] [])) _
      refine XS.iconst X201.here hx rfl (hb hby at_59) ?_
      show Steps p.tables e below (T201.setTop (mkF m 60 #[.val (.int p1), .val (.int (9 : Int32)), .val (.ref z9), .val (.int (0 : Int32)), .val (.int (70 : Int32)), .val (.int (0 : Int32)), .unset, .unset] [(.int (0 : Int32))])) _
      refine XS.istore X201.here hx rfl (hb hby at_60) rfl (l' := #[.val (.int p1), .val (.int (9 : Int32)), .val (.ref z9), .val (.int (0 : Int32)), .val (.int (70 : Int32)), .val (.int (0 : Int32)), .val (.int (0 : Int32)), .unset]) rfl ?_
      show Steps p.tables e below (T201.setTop (mkF m 62 #[.val (.int p1), .val (.int (9 : Int32)), .val (.ref z9), .val (.int (0 : Int32)), .val (.int (70 : Int32)), .val (.int (0 : Int32)), .val (.int (0 : Int32)), .unset] [])) _
      refine XS.iloadN X201.here hx rfl (hb hby at_62) rfl ?_
      show Steps p.tables e below (T201.setTop (mkF m 63 #[.val (.int p1), .val (.int (9 : Int32)), .val (.ref z9), .val (.int (0 : Int32)), .val (.int (70 : Int32)), .val (.int (0 : Int32)), .val (.int (0 : Int32)), .unset] [(.int (0 : Int32))])) _
      refine XS.ifYes X201.here hx rfl (pc0 := 63) (pc' := 80) rfl (hb hby at_63) rfl ((if0 _ _).trans (teq (by decide : (0 : Int32) = (0 : Int32))).1) (by decide) (by decide) ?_
      show Steps p.tables e below (T201.setTop (mkF m 80 #[.val (.int p1), .val (.int (9 : Int32)), .val (.ref z9), .val (.int (0 : Int32)), .val (.int (70 : Int32)), .val (.int (0 : Int32)), .val (.int (0 : Int32)), .unset] [])) _
      refine XS.iconst X201.here hx rfl (hb hby at_80) ?_
      show Steps p.tables e below (T201.setTop (mkF m 81 #[.val (.int p1), .val (.int (9 : Int32)), .val (.ref z9), .val (.int (0 : Int32)), .val (.int (70 : Int32)), .val (.int (0 : Int32)), .val (.int (0 : Int32)), .unset] [(.int (1 : Int32))])) _
      refine XS.goto X201.here hx rfl (pc0 := 81) (pc' := 85) rfl (hb hby at_81) (by decide) (by decide) ?_
      show Steps p.tables e below (T201.setTop (mkF m 85 #[.val (.int p1), .val (.int (9 : Int32)), .val (.ref z9), .val (.int (0 : Int32)), .val (.int (70 : Int32)), .val (.int (0 : Int32)), .val (.int (0 : Int32)), .unset] [(.int (1 : Int32))])) _
      refine XS.istore X201.here hx rfl (hb hby at_85) rfl (l' := #[.val (.int p1), .val (.int (9 : Int32)), .val (.ref z9), .val (.int (0 : Int32)), .val (.int (70 : Int32)), .val (.int (0 : Int32)), .val (.int (0 : Int32)), .val (.int (1 : Int32))]) rfl ?_
      show Steps p.tables e below (T201.setTop (mkF m 87 #[.val (.int p1), .val (.int (9 : Int32)), .val (.ref z9), .val (.int (0 : Int32)), .val (.int (70 : Int32)), .val (.int (0 : Int32)), .val (.int (0 : Int32)), .val (.int (1 : Int32))] [])) _
      refine XS.iloadN X201.here hx rfl (hb hby at_87) rfl ?_
      show Steps p.tables e below (T201.setTop (mkF m 88 #[.val (.int p1), .val (.int (9 : Int32)), .val (.ref z9), .val (.int (0 : Int32)), .val (.int (70 : Int32)), .val (.int (0 : Int32)), .val (.int (0 : Int32)), .val (.int (1 : Int32))] [(.int (0 : Int32))])) _
      refine XS.iload X201.here hx rfl (hb hby at_88) rfl ?_
      show Steps p.tables e below (T201.setTop (mkF m 90 #[.val (.int p1), .val (.int (9 : Int32)), .val (.ref z9), .val (.int (0 : Int32)), .val (.int (70 : Int32)), .val (.int (0 : Int32)), .val (.int (0 : Int32)), .val (.int (1 : Int32))] [(.int (0 : Int32)), (.int (0 : Int32))])) _
      refine XS.icmpNo X201.here hx rfl (hb hby at_90) rfl (teq (by decide : (0 : Int32) = (0 : Int32))).2 ?_
      show Steps p.tables e below (T201.setTop (mkF m 93 #[.val (.int p1), .val (.int (9 : Int32)), .val (.ref z9), .val (.int (0 : Int32)), .val (.int (70 : Int32)), .val (.int (0 : Int32)), .val (.int (0 : Int32)), .val (.int (1 : Int32))] [])) _
      refine XS.iloadN X201.here hx rfl (hb hby at_93) rfl ?_
      show Steps p.tables e below (T201.setTop (mkF m 94 #[.val (.int p1), .val (.int (9 : Int32)), .val (.ref z9), .val (.int (0 : Int32)), .val (.int (70 : Int32)), .val (.int (0 : Int32)), .val (.int (0 : Int32)), .val (.int (1 : Int32))] [(.int (0 : Int32))])) _
      refine XS.iload X201.here hx rfl (hb hby at_94) rfl ?_
      show Steps p.tables e below (T201.setTop (mkF m 96 #[.val (.int p1), .val (.int (9 : Int32)), .val (.ref z9), .val (.int (0 : Int32)), .val (.int (70 : Int32)), .val (.int (0 : Int32)), .val (.int (0 : Int32)), .val (.int (1 : Int32))] [(.int (0 : Int32)), (.int (0 : Int32))])) _
      refine XS.icmpNo X201.here hx rfl (hb hby at_96) rfl (teq (by decide : (0 : Int32) = (0 : Int32))).2 ?_
      show Steps p.tables e below (T201.setTop (mkF m 99 #[.val (.int p1), .val (.int (9 : Int32)), .val (.ref z9), .val (.int (0 : Int32)), .val (.int (70 : Int32)), .val (.int (0 : Int32)), .val (.int (0 : Int32)), .val (.int (1 : Int32))] [])) _
      refine XS.iload X201.here hx rfl (hb hby at_99) rfl ?_
      show Steps p.tables e below (T201.setTop (mkF m 101 #[.val (.int p1), .val (.int (9 : Int32)), .val (.ref z9), .val (.int (0 : Int32)), .val (.int (70 : Int32)), .val (.int (0 : Int32)), .val (.int (0 : Int32)), .val (.int (1 : Int32))] [(.int (1 : Int32))])) _
      refine XS.ifNo X201.here hx rfl (hb hby at_101) rfl ((if0 _ _).trans (feq (by decide : ¬ ((1 : Int32) = (0 : Int32)))).1) ?_
      show Steps p.tables e below (T201.setTop (mkF m 104 #[.val (.int p1), .val (.int (9 : Int32)), .val (.ref z9), .val (.int (0 : Int32)), .val (.int (70 : Int32)), .val (.int (0 : Int32)), .val (.int (0 : Int32)), .val (.int (1 : Int32))] [])) _
      refine XS.iconst X201.here hx rfl (hb hby at_104) ?_
      show Steps p.tables e below (T201.setTop (mkF m 105 #[.val (.int p1), .val (.int (9 : Int32)), .val (.ref z9), .val (.int (0 : Int32)), .val (.int (70 : Int32)), .val (.int (0 : Int32)), .val (.int (0 : Int32)), .val (.int (1 : Int32))] [(.int (1 : Int32))])) _
      refine XS.goto X201.here hx rfl (pc0 := 105) (pc' := 109) rfl (hb hby at_105) (by decide) (by decide) ?_
      show Steps p.tables e below (T201.setTop (mkF m 109 #[.val (.int p1), .val (.int (9 : Int32)), .val (.ref z9), .val (.int (0 : Int32)), .val (.int (70 : Int32)), .val (.int (0 : Int32)), .val (.int (0 : Int32)), .val (.int (1 : Int32))] [(.int (1 : Int32))])) _
      exact k)
    obtain ⟨fs, hr, hrun, hended, hW, hsame⟩ := X201.leave (v := some (.int (1 : Int32))) (fun h => by rw [Bd.returns] at h; cases h)
    refine ⟨_, _, pp203 _ ?_, hrun, hended, _, _, rfl, ?_, ⟨_, rfl⟩, hW, hsame.mono (by decide) (by decide)⟩
    · exact retN X201 hx (t := .boolean) Bd.returns (by simp) (hb hby at_109) hr
    · show Q_own_law Z p1 z0 z1 z2 z3 z4 z5 z6 z7 z8 z9 z10 z11 h0 n0 _ T201.heap _
      rw [s201]
      exact ⟨rfl, N201⟩
  · obtain ⟨_, _, ⟨T204, L204, k204, n204⟩, -, X204, ⟨Lc204, hQ204, l204, y204, z204⟩, st204⟩ := Jvm.LawKit.callS X0 hx (y := (⟨"com/example/pairwright/pairwright/model/ResultLostPinLaw", "pick", "(I)Lcom/example/pairwright/pairwright/model/Result;"⟩ : MethodName)) hown (mvT hZ (hw _ (List.mem_of_getElem? (i := 1) rfl))) (mvT hZ (hw _ (List.mem_of_getElem? (i := 2) rfl))) (mvT hZ (hw _ (List.mem_of_getElem? (i := 3) rfl))) (mvT hZ (hw _ (List.mem_of_getElem? (i := 4) rfl))) (by decide) (backOf (W := 0) (own_pick l Z a0 hw [] (10 : Int32) z0 z1 z2 z3 z4 z5 z6 z7 z8 z9 z10 z11 h0 n0 Z0 S0 S1 S2 S3 S4 S5 S6 S7 S8 S9 S10 S11) hZ (hw _ (List.mem_of_getElem? (i := 4) rfl)) (hw _ (List.mem_of_getElem? (i := 3) rfl)) (by decide) (by decide)) (g := (mkF m 9 #[.val (.int p1), .val (.int (10 : Int32)), .unset, .unset, .unset, .unset, .unset, .unset] [(.int (10 : Int32))])) rfl (by rw [hml]; rfl) (argsL := [(.int (10 : Int32))]) (rest := []) (lenOf pd__I_Lcom_example_pairwright_pairwright_model_Result_ rfl) rfl (by show 2 * 0 + _ ≤ _; exact Nat.le_of_eq rfl) (hb hby at_9) (fun _ _ => ⟨rfl, e0, (by decide : 0 + 0 ≤ _), (by decide : 0 + 0 ≤ _)⟩)
    dsimp only [Pt.U, Pt.locs, Pt.cells, Pt.slots] at X204 l204 y204 z204 st204 hQ204
    subst l204 y204 z204
    obtain ⟨rfl, N204q, s204⟩ := hQ204
    have N204 := Fr.app N0 N204q
    have pp205 : ∀ t, Steps p.tables e below (T204.setTop (mkF m 12 #[.val (.int p1), .val (.int (10 : Int32)), .unset, .unset, .unset, .unset, .unset, .unset] [(.ref z10)])) t → Steps p.tables e below (s₁.setTop (entryFrame m #[(.int p1)] maxLocals)) t := fun t k => pp101 t (st204 t k)
    have pp206 : ∀ t, Steps p.tables e below (T204.setTop (mkF m 14 #[.val (.int p1), .val (.int (10 : Int32)), .val (.ref z10), .unset, .unset, .unset, .unset, .unset] [(.ref z10)])) t → Steps p.tables e below (s₁.setTop (entryFrame m #[(.int p1)] maxLocals)) t := fun t k => pp205 t (by
      refine XS.astoreN X204.here hx rfl (hb hby at_12) rfl rfl (l' := #[.val (.int p1), .val (.int (10 : Int32)), .val (.ref z10), .unset, .unset, .unset, .unset, .unset]) rfl ?_
      show Steps p.tables e below (T204.setTop (mkF m 13 #[.val (.int p1), .val (.int (10 : Int32)), .val (.ref z10), .unset, .unset, .unset, .unset, .unset] [])) _
      refine XS.aloadN X204.here hx rfl (hb hby at_13) rfl rfl ?_
      show Steps p.tables e below (T204.setTop (mkF m 14 #[.val (.int p1), .val (.int (10 : Int32)), .val (.ref z10), .unset, .unset, .unset, .unset, .unset] [(.ref z10)])) _
      exact k)
    obtain ⟨cq207, kq207, q207a, q207b, q207c⟩ := isOf hZ s204 E10
    obtain ⟨_, _, ⟨T207, L207, k207, n207⟩, -, X207, ⟨Lc207, hQ207, l207, y207, z207⟩, st207⟩ := X204.virtualBack hx (y := (⟨"com/example/pairwright/pairwright/model/Result", "lost", "()Z"⟩ : MethodName)) (z := (⟨"com/example/pairwright/pairwright/model/Result", "lost", "()Z"⟩ : MethodName)) hown (mvT hZ (hw _ (List.mem_of_getElem? (i := 8) rfl))) (mvT hZ (hw _ (List.mem_of_getElem? (i := 9) rfl))) (notFace_of_selects (args := #[]) (mvT hZ (hw _ (List.mem_of_getElem? (i := 11) rfl)))) (mvT hZ (hw _ (List.mem_of_getElem? (i := 11) rfl))) (mvT hZ (hw _ (List.mem_of_getElem? (i := 10) rfl))) (by decide) (backOf (W := 0) (own_lost l Z a0 hw [] z10 z1 z4 h0 n0 Z0 S1 S4) hZ (hw _ (List.mem_of_getElem? (i := 12) rfl)) (hw _ (List.mem_of_getElem? (i := 6) rfl)) (by decide) (by decide)) q207a q207c (g := (mkF m 14 #[.val (.int p1), .val (.int (10 : Int32)), .val (.ref z10), .unset, .unset, .unset, .unset, .unset] [(.ref z10)])) rfl (by rw [hml]; rfl) (Steps.refl _) (argsL := []) (rest := []) (lenOf pd___Z rfl) rfl (by show 2 * 0 + _ ≤ _; exact Nat.le_of_eq rfl) (hb hby at_14) (fun _ _ => ⟨rfl, s204, (by decide : 0 + 0 ≤ _), (by decide : 0 + 0 ≤ _)⟩)
    dsimp only [Pt.U, Pt.locs, Pt.cells, Pt.slots] at X207 l207 y207 z207 st207 hQ207
    subst l207 y207 z207
    obtain ⟨rfl, N207q, s207⟩ := hQ207
    have N207 := Fr.app N204 N207q
    have pp208 : ∀ t, Steps p.tables e below (T207.setTop (mkF m 17 #[.val (.int p1), .val (.int (10 : Int32)), .val (.ref z10), .unset, .unset, .unset, .unset, .unset] [(.int (own_or z10 z1 z4))])) t → Steps p.tables e below (s₁.setTop (entryFrame m #[(.int p1)] maxLocals)) t := fun t k => pp206 t (st207.trans k)
    rw [own_or3 ne10_1 ne10_4] at pp208
    have pp209 : ∀ t, Steps p.tables e below (T207.setTop (mkF m 19 #[.val (.int p1), .val (.int (10 : Int32)), .val (.ref z10), .val (.int (0 : Int32)), .unset, .unset, .unset, .unset] [(.ref z10)])) t → Steps p.tables e below (s₁.setTop (entryFrame m #[(.int p1)] maxLocals)) t := fun t k => pp208 t (by
      refine XS.istoreN X207.here hx rfl (hb hby at_17) rfl (l' := #[.val (.int p1), .val (.int (10 : Int32)), .val (.ref z10), .val (.int (0 : Int32)), .unset, .unset, .unset, .unset]) rfl ?_
      show Steps p.tables e below (T207.setTop (mkF m 18 #[.val (.int p1), .val (.int (10 : Int32)), .val (.ref z10), .val (.int (0 : Int32)), .unset, .unset, .unset, .unset] [])) _
      refine XS.aloadN X207.here hx rfl (hb hby at_18) rfl rfl ?_
      show Steps p.tables e below (T207.setTop (mkF m 19 #[.val (.int p1), .val (.int (10 : Int32)), .val (.ref z10), .val (.int (0 : Int32)), .unset, .unset, .unset, .unset] [(.ref z10)])) _
      exact k)
    obtain ⟨cq210, kq210, q210a, q210b, q210c⟩ := isOf hZ s207 E10
    obtain ⟨_, _, ⟨T210, L210, k210, n210⟩, -, X210, ⟨Lc210, hQ210, l210, y210, z210⟩, st210⟩ := X207.virtualBack hx (y := (⟨"com/example/pairwright/pairwright/model/Result", "code", "()C"⟩ : MethodName)) (z := (⟨"com/example/pairwright/pairwright/model/Result", "code", "()C"⟩ : MethodName)) hown (mvT hZ (hw _ (List.mem_of_getElem? (i := 17) rfl))) (mvT hZ (hw _ (List.mem_of_getElem? (i := 18) rfl))) (notFace_of_selects (args := #[]) (mvT hZ (hw _ (List.mem_of_getElem? (i := 20) rfl)))) (mvT hZ (hw _ (List.mem_of_getElem? (i := 20) rfl))) (mvT hZ (hw _ (List.mem_of_getElem? (i := 19) rfl))) (by decide) (backOf (W := 0) (own_code l Z a0 hw [] z10 (85 : Int32) h0 n0 Z0 C10) hZ (hw _ (List.mem_of_getElem? (i := 21) rfl)) (hw _ (List.mem_of_getElem? (i := 6) rfl)) (by decide) (by decide)) q210a q210c (g := (mkF m 19 #[.val (.int p1), .val (.int (10 : Int32)), .val (.ref z10), .val (.int (0 : Int32)), .unset, .unset, .unset, .unset] [(.ref z10)])) rfl (by rw [hml]; rfl) (Steps.refl _) (argsL := []) (rest := []) (lenOf pd___C rfl) rfl (by show 2 * 0 + _ ≤ _; exact Nat.le_of_eq rfl) (hb hby at_19) (fun _ _ => ⟨rfl, s207, (by decide : 0 + 0 ≤ _), (by decide : 0 + 0 ≤ _)⟩)
    dsimp only [Pt.U, Pt.locs, Pt.cells, Pt.slots] at X210 l210 y210 z210 st210 hQ210
    subst l210 y210 z210
    obtain ⟨rfl, N210q, s210⟩ := hQ210
    have N210 := Fr.app N207 N210q
    have pp211 : ∀ t, Steps p.tables e below (T210.setTop (mkF m 22 #[.val (.int p1), .val (.int (10 : Int32)), .val (.ref z10), .val (.int (0 : Int32)), .unset, .unset, .unset, .unset] [(.int (nar .char (85 : Int32)))])) t → Steps p.tables e below (s₁.setTop (entryFrame m #[(.int p1)] maxLocals)) t := fun t k => pp209 t (st210.trans k)
    rw [show nar .char (85 : Int32) = (85 : Int32) from by decide] at pp211
    have pp212 : ∀ t, Steps p.tables e below (T210.setTop (mkF m 109 #[.val (.int p1), .val (.int (10 : Int32)), .val (.ref z10), .val (.int (0 : Int32)), .val (.int (85 : Int32)), .val (.int (0 : Int32)), .val (.int (0 : Int32)), .val (.int (1 : Int32))] [(.int (1 : Int32))])) t → Steps p.tables e below (s₁.setTop (entryFrame m #[(.int p1)] maxLocals)) t := fun t k => pp211 t (by
      refine XS.istore X210.here hx rfl (hb hby at_22) rfl (l' := #[.val (.int p1), .val (.int (10 : Int32)), .val (.ref z10), .val (.int (0 : Int32)), .val (.int (85 : Int32)), .unset, .unset, .unset]) rfl ?_
      show Steps p.tables e below (T210.setTop (mkF m 24 #[.val (.int p1), .val (.int (10 : Int32)), .val (.ref z10), .val (.int (0 : Int32)), .val (.int (85 : Int32)), .unset, .unset, .unset] [])) _
      refine XS.iload X210.here hx rfl (hb hby at_24) rfl ?_
      show Steps p.tables e below (T210.setTop (mkF m 26 #[.val (.int p1), .val (.int (10 : Int32)), .val (.ref z10), .val (.int (0 : Int32)), .val (.int (85 : Int32)), .unset, .unset, .unset] [(.int (85 : Int32))])) _
      refine XS.bipush X210.here hx rfl (hb hby at_26) ?_
      show Steps p.tables e below (T210.setTop (mkF m 28 #[.val (.int p1), .val (.int (10 : Int32)), .val (.ref z10), .val (.int (0 : Int32)), .val (.int (85 : Int32)), .unset, .unset, .unset] [(.int (48 : Int32)), (.int (85 : Int32))])) _
      refine XS.icmpNo X210.here hx rfl (hb hby at_28) rfl (feq (by decide : ¬ ((85 : Int32) = (48 : Int32)))).1 ?_
      show Steps p.tables e below (T210.setTop (mkF m 31 #[.val (.int p1), .val (.int (10 : Int32)), .val (.ref z10), .val (.int (0 : Int32)), .val (.int (85 : Int32)), .unset, .unset, .unset] [])) _
      refine XS.iload X210.here hx rfl (hb hby at_31) rfl ?_
      show Steps p.tables e below (T210.setTop (mkF m 33 #[.val (.int p1), .val (.int (10 : Int32)), .val (.ref z10), .val (.int (0 : Int32)), .val (.int (85 : Int32)), .unset, .unset, .unset] [(.int (85 : Int32))])) _
      refine XS.bipush X210.here hx rfl (hb hby at_33) ?_
      show Steps p.tables e below (T210.setTop (mkF m 35 #[.val (.int p1), .val (.int (10 : Int32)), .val (.ref z10), .val (.int (0 : Int32)), .val (.int (85 : Int32)), .unset, .unset, .unset] [(.int (76 : Int32)), (.int (85 : Int32))])) _
      refine XS.icmpYes X210.here hx rfl (pc0 := 35) (pc' := 42) rfl (hb hby at_35) rfl (feq (by decide : ¬ ((85 : Int32) = (76 : Int32)))).2 (by decide) (by decide) ?_
      show Steps p.tables e below (T210.setTop (mkF m 42 #[.val (.int p1), .val (.int (10 : Int32)), .val (.ref z10), .val (.int (0 : Int32)), .val (.int (85 : Int32)), .unset, .unset, .unset] [])) _
      refine XS.iconst X210.here hx rfl (hb hby at_42) ?_
      show Steps p.tables e below (T210.setTop (mkF m 43 #[.val (.int p1), .val (.int (10 : Int32)), .val (.ref z10), .val (.int (0 : Int32)), .val (.int (85 : Int32)), .unset, .unset, .unset] [(.int (0 : Int32))])) _
      refine XS.istore X210.here hx rfl (hb hby at_43) rfl (l' := #[.val (.int p1), .val (.int (10 : Int32)), .val (.ref z10), .val (.int (0 : Int32)), .val (.int (85 : Int32)), .val (.int (0 : Int32)), .unset, .unset]) rfl ?_
      show Steps p.tables e below (T210.setTop (mkF m 45 #[.val (.int p1), .val (.int (10 : Int32)), .val (.ref z10), .val (.int (0 : Int32)), .val (.int (85 : Int32)), .val (.int (0 : Int32)), .unset, .unset] [])) _
      refine XS.iloadN X210.here hx rfl (hb hby at_45) rfl ?_
      show Steps p.tables e below (T210.setTop (mkF m 46 #[.val (.int p1), .val (.int (10 : Int32)), .val (.ref z10), .val (.int (0 : Int32)), .val (.int (85 : Int32)), .val (.int (0 : Int32)), .unset, .unset] [(.int (10 : Int32))])) _
      refine XS.iconst X210.here hx rfl (hb hby at_46) ?_
      show Steps p.tables e below (T210.setTop (mkF m 47 #[.val (.int p1), .val (.int (10 : Int32)), .val (.ref z10), .val (.int (0 : Int32)), .val (.int (85 : Int32)), .val (.int (0 : Int32)), .unset, .unset] [(.int (1 : Int32)), (.int (10 : Int32))])) _
      refine XS.icmpNo X210.here hx rfl (hb hby at_47) rfl (feq (by decide : ¬ ((10 : Int32) = (1 : Int32)))).1 ?_
      show Steps p.tables e below (T210.setTop (mkF m 50 #[.val (.int p1), .val (.int (10 : Int32)), .val (.ref z10), .val (.int (0 : Int32)), .val (.int (85 : Int32)), .val (.int (0 : Int32)), .unset, .unset] [])) _
      refine XS.iloadN X210.here hx rfl (hb hby at_50) rfl ?_
      show Steps p.tables e below (T210.setTop (mkF m 51 #[.val (.int p1), .val (.int (10 : Int32)), .val (.ref z10), .val (.int (0 : Int32)), .val (.int (85 : Int32)), .val (.int (0 : Int32)), .unset, .unset] [(.int (10 : Int32))])) _
      refine XS.iconst X210.here hx rfl (hb hby at_51) ?_
      show Steps p.tables e below (T210.setTop (mkF m 52 #[.val (.int p1), .val (.int (10 : Int32)), .val (.ref z10), .val (.int (0 : Int32)), .val (.int (85 : Int32)), .val (.int (0 : Int32)), .unset, .unset] [(.int (4 : Int32)), (.int (10 : Int32))])) _
      refine XS.icmpYes X210.here hx rfl (pc0 := 52) (pc' := 59) rfl (hb hby at_52) rfl (feq (by decide : ¬ ((10 : Int32) = (4 : Int32)))).2 (by decide) (by decide) ?_
      show Steps p.tables e below (T210.setTop (mkF m 59 #[.val (.int p1), .val (.int (10 : Int32)), .val (.ref z10), .val (.int (0 : Int32)), .val (.int (85 : Int32)), .val (.int (0 : Int32)), .unset, .unset] [])) _
      refine XS.iconst X210.here hx rfl (hb hby at_59) ?_
      show Steps p.tables e below (T210.setTop (mkF m 60 #[.val (.int p1), .val (.int (10 : Int32)), .val (.ref z10), .val (.int (0 : Int32)), .val (.int (85 : Int32)), .val (.int (0 : Int32)), .unset, .unset] [(.int (0 : Int32))])) _
      refine XS.istore X210.here hx rfl (hb hby at_60) rfl (l' := #[.val (.int p1), .val (.int (10 : Int32)), .val (.ref z10), .val (.int (0 : Int32)), .val (.int (85 : Int32)), .val (.int (0 : Int32)), .val (.int (0 : Int32)), .unset]) rfl ?_
      show Steps p.tables e below (T210.setTop (mkF m 62 #[.val (.int p1), .val (.int (10 : Int32)), .val (.ref z10), .val (.int (0 : Int32)), .val (.int (85 : Int32)), .val (.int (0 : Int32)), .val (.int (0 : Int32)), .unset] [])) _
      refine XS.iloadN X210.here hx rfl (hb hby at_62) rfl ?_
      show Steps p.tables e below (T210.setTop (mkF m 63 #[.val (.int p1), .val (.int (10 : Int32)), .val (.ref z10), .val (.int (0 : Int32)), .val (.int (85 : Int32)), .val (.int (0 : Int32)), .val (.int (0 : Int32)), .unset] [(.int (0 : Int32))])) _
      refine XS.ifYes X210.here hx rfl (pc0 := 63) (pc' := 80) rfl (hb hby at_63) rfl ((if0 _ _).trans (teq (by decide : (0 : Int32) = (0 : Int32))).1) (by decide) (by decide) ?_
      show Steps p.tables e below (T210.setTop (mkF m 80 #[.val (.int p1), .val (.int (10 : Int32)), .val (.ref z10), .val (.int (0 : Int32)), .val (.int (85 : Int32)), .val (.int (0 : Int32)), .val (.int (0 : Int32)), .unset] [])) _
      refine XS.iconst X210.here hx rfl (hb hby at_80) ?_
      show Steps p.tables e below (T210.setTop (mkF m 81 #[.val (.int p1), .val (.int (10 : Int32)), .val (.ref z10), .val (.int (0 : Int32)), .val (.int (85 : Int32)), .val (.int (0 : Int32)), .val (.int (0 : Int32)), .unset] [(.int (1 : Int32))])) _
      refine XS.goto X210.here hx rfl (pc0 := 81) (pc' := 85) rfl (hb hby at_81) (by decide) (by decide) ?_
      show Steps p.tables e below (T210.setTop (mkF m 85 #[.val (.int p1), .val (.int (10 : Int32)), .val (.ref z10), .val (.int (0 : Int32)), .val (.int (85 : Int32)), .val (.int (0 : Int32)), .val (.int (0 : Int32)), .unset] [(.int (1 : Int32))])) _
      refine XS.istore X210.here hx rfl (hb hby at_85) rfl (l' := #[.val (.int p1), .val (.int (10 : Int32)), .val (.ref z10), .val (.int (0 : Int32)), .val (.int (85 : Int32)), .val (.int (0 : Int32)), .val (.int (0 : Int32)), .val (.int (1 : Int32))]) rfl ?_
      show Steps p.tables e below (T210.setTop (mkF m 87 #[.val (.int p1), .val (.int (10 : Int32)), .val (.ref z10), .val (.int (0 : Int32)), .val (.int (85 : Int32)), .val (.int (0 : Int32)), .val (.int (0 : Int32)), .val (.int (1 : Int32))] [])) _
      refine XS.iloadN X210.here hx rfl (hb hby at_87) rfl ?_
      show Steps p.tables e below (T210.setTop (mkF m 88 #[.val (.int p1), .val (.int (10 : Int32)), .val (.ref z10), .val (.int (0 : Int32)), .val (.int (85 : Int32)), .val (.int (0 : Int32)), .val (.int (0 : Int32)), .val (.int (1 : Int32))] [(.int (0 : Int32))])) _
      refine XS.iload X210.here hx rfl (hb hby at_88) rfl ?_
      show Steps p.tables e below (T210.setTop (mkF m 90 #[.val (.int p1), .val (.int (10 : Int32)), .val (.ref z10), .val (.int (0 : Int32)), .val (.int (85 : Int32)), .val (.int (0 : Int32)), .val (.int (0 : Int32)), .val (.int (1 : Int32))] [(.int (0 : Int32)), (.int (0 : Int32))])) _
      refine XS.icmpNo X210.here hx rfl (hb hby at_90) rfl (teq (by decide : (0 : Int32) = (0 : Int32))).2 ?_
      show Steps p.tables e below (T210.setTop (mkF m 93 #[.val (.int p1), .val (.int (10 : Int32)), .val (.ref z10), .val (.int (0 : Int32)), .val (.int (85 : Int32)), .val (.int (0 : Int32)), .val (.int (0 : Int32)), .val (.int (1 : Int32))] [])) _
      refine XS.iloadN X210.here hx rfl (hb hby at_93) rfl ?_
      show Steps p.tables e below (T210.setTop (mkF m 94 #[.val (.int p1), .val (.int (10 : Int32)), .val (.ref z10), .val (.int (0 : Int32)), .val (.int (85 : Int32)), .val (.int (0 : Int32)), .val (.int (0 : Int32)), .val (.int (1 : Int32))] [(.int (0 : Int32))])) _
      refine XS.iload X210.here hx rfl (hb hby at_94) rfl ?_
      show Steps p.tables e below (T210.setTop (mkF m 96 #[.val (.int p1), .val (.int (10 : Int32)), .val (.ref z10), .val (.int (0 : Int32)), .val (.int (85 : Int32)), .val (.int (0 : Int32)), .val (.int (0 : Int32)), .val (.int (1 : Int32))] [(.int (0 : Int32)), (.int (0 : Int32))])) _
      refine XS.icmpNo X210.here hx rfl (hb hby at_96) rfl (teq (by decide : (0 : Int32) = (0 : Int32))).2 ?_
      show Steps p.tables e below (T210.setTop (mkF m 99 #[.val (.int p1), .val (.int (10 : Int32)), .val (.ref z10), .val (.int (0 : Int32)), .val (.int (85 : Int32)), .val (.int (0 : Int32)), .val (.int (0 : Int32)), .val (.int (1 : Int32))] [])) _
      refine XS.iload X210.here hx rfl (hb hby at_99) rfl ?_
      show Steps p.tables e below (T210.setTop (mkF m 101 #[.val (.int p1), .val (.int (10 : Int32)), .val (.ref z10), .val (.int (0 : Int32)), .val (.int (85 : Int32)), .val (.int (0 : Int32)), .val (.int (0 : Int32)), .val (.int (1 : Int32))] [(.int (1 : Int32))])) _
      refine XS.ifNo X210.here hx rfl (hb hby at_101) rfl ((if0 _ _).trans (feq (by decide : ¬ ((1 : Int32) = (0 : Int32)))).1) ?_
      show Steps p.tables e below (T210.setTop (mkF m 104 #[.val (.int p1), .val (.int (10 : Int32)), .val (.ref z10), .val (.int (0 : Int32)), .val (.int (85 : Int32)), .val (.int (0 : Int32)), .val (.int (0 : Int32)), .val (.int (1 : Int32))] [])) _
      refine XS.iconst X210.here hx rfl (hb hby at_104) ?_
      show Steps p.tables e below (T210.setTop (mkF m 105 #[.val (.int p1), .val (.int (10 : Int32)), .val (.ref z10), .val (.int (0 : Int32)), .val (.int (85 : Int32)), .val (.int (0 : Int32)), .val (.int (0 : Int32)), .val (.int (1 : Int32))] [(.int (1 : Int32))])) _
      refine XS.goto X210.here hx rfl (pc0 := 105) (pc' := 109) rfl (hb hby at_105) (by decide) (by decide) ?_
      show Steps p.tables e below (T210.setTop (mkF m 109 #[.val (.int p1), .val (.int (10 : Int32)), .val (.ref z10), .val (.int (0 : Int32)), .val (.int (85 : Int32)), .val (.int (0 : Int32)), .val (.int (0 : Int32)), .val (.int (1 : Int32))] [(.int (1 : Int32))])) _
      exact k)
    obtain ⟨fs, hr, hrun, hended, hW, hsame⟩ := X210.leave (v := some (.int (1 : Int32))) (fun h => by rw [Bd.returns] at h; cases h)
    refine ⟨_, _, pp212 _ ?_, hrun, hended, _, _, rfl, ?_, ⟨_, rfl⟩, hW, hsame.mono (by decide) (by decide)⟩
    · exact retN X210 hx (t := .boolean) Bd.returns (by simp) (hb hby at_109) hr
    · show Q_own_law Z p1 z0 z1 z2 z3 z4 z5 z6 z7 z8 z9 z10 z11 h0 n0 _ T210.heap _
      rw [s210]
      exact ⟨rfl, N210⟩
  · obtain ⟨_, _, ⟨T213, L213, k213, n213⟩, -, X213, ⟨Lc213, hQ213, l213, y213, z213⟩, st213⟩ := Jvm.LawKit.callS X0 hx (y := (⟨"com/example/pairwright/pairwright/model/ResultLostPinLaw", "pick", "(I)Lcom/example/pairwright/pairwright/model/Result;"⟩ : MethodName)) hown (mvT hZ (hw _ (List.mem_of_getElem? (i := 1) rfl))) (mvT hZ (hw _ (List.mem_of_getElem? (i := 2) rfl))) (mvT hZ (hw _ (List.mem_of_getElem? (i := 3) rfl))) (mvT hZ (hw _ (List.mem_of_getElem? (i := 4) rfl))) (by decide) (backOf (W := 0) (own_pick l Z a0 hw [] (11 : Int32) z0 z1 z2 z3 z4 z5 z6 z7 z8 z9 z10 z11 h0 n0 Z0 S0 S1 S2 S3 S4 S5 S6 S7 S8 S9 S10 S11) hZ (hw _ (List.mem_of_getElem? (i := 4) rfl)) (hw _ (List.mem_of_getElem? (i := 3) rfl)) (by decide) (by decide)) (g := (mkF m 9 #[.val (.int p1), .val (.int (11 : Int32)), .unset, .unset, .unset, .unset, .unset, .unset] [(.int (11 : Int32))])) rfl (by rw [hml]; rfl) (argsL := [(.int (11 : Int32))]) (rest := []) (lenOf pd__I_Lcom_example_pairwright_pairwright_model_Result_ rfl) rfl (by show 2 * 0 + _ ≤ _; exact Nat.le_of_eq rfl) (hb hby at_9) (fun _ _ => ⟨rfl, e0, (by decide : 0 + 0 ≤ _), (by decide : 0 + 0 ≤ _)⟩)
    dsimp only [Pt.U, Pt.locs, Pt.cells, Pt.slots] at X213 l213 y213 z213 st213 hQ213
    subst l213 y213 z213
    obtain ⟨rfl, N213q, s213⟩ := hQ213
    have N213 := Fr.app N0 N213q
    have pp214 : ∀ t, Steps p.tables e below (T213.setTop (mkF m 12 #[.val (.int p1), .val (.int (11 : Int32)), .unset, .unset, .unset, .unset, .unset, .unset] [(.ref z11)])) t → Steps p.tables e below (s₁.setTop (entryFrame m #[(.int p1)] maxLocals)) t := fun t k => pp101 t (st213 t k)
    have pp215 : ∀ t, Steps p.tables e below (T213.setTop (mkF m 14 #[.val (.int p1), .val (.int (11 : Int32)), .val (.ref z11), .unset, .unset, .unset, .unset, .unset] [(.ref z11)])) t → Steps p.tables e below (s₁.setTop (entryFrame m #[(.int p1)] maxLocals)) t := fun t k => pp214 t (by
      refine XS.astoreN X213.here hx rfl (hb hby at_12) rfl rfl (l' := #[.val (.int p1), .val (.int (11 : Int32)), .val (.ref z11), .unset, .unset, .unset, .unset, .unset]) rfl ?_
      show Steps p.tables e below (T213.setTop (mkF m 13 #[.val (.int p1), .val (.int (11 : Int32)), .val (.ref z11), .unset, .unset, .unset, .unset, .unset] [])) _
      refine XS.aloadN X213.here hx rfl (hb hby at_13) rfl rfl ?_
      show Steps p.tables e below (T213.setTop (mkF m 14 #[.val (.int p1), .val (.int (11 : Int32)), .val (.ref z11), .unset, .unset, .unset, .unset, .unset] [(.ref z11)])) _
      exact k)
    obtain ⟨cq216, kq216, q216a, q216b, q216c⟩ := isOf hZ s213 E11
    obtain ⟨_, _, ⟨T216, L216, k216, n216⟩, -, X216, ⟨Lc216, hQ216, l216, y216, z216⟩, st216⟩ := X213.virtualBack hx (y := (⟨"com/example/pairwright/pairwright/model/Result", "lost", "()Z"⟩ : MethodName)) (z := (⟨"com/example/pairwright/pairwright/model/Result", "lost", "()Z"⟩ : MethodName)) hown (mvT hZ (hw _ (List.mem_of_getElem? (i := 8) rfl))) (mvT hZ (hw _ (List.mem_of_getElem? (i := 9) rfl))) (notFace_of_selects (args := #[]) (mvT hZ (hw _ (List.mem_of_getElem? (i := 11) rfl)))) (mvT hZ (hw _ (List.mem_of_getElem? (i := 11) rfl))) (mvT hZ (hw _ (List.mem_of_getElem? (i := 10) rfl))) (by decide) (backOf (W := 0) (own_lost l Z a0 hw [] z11 z1 z4 h0 n0 Z0 S1 S4) hZ (hw _ (List.mem_of_getElem? (i := 12) rfl)) (hw _ (List.mem_of_getElem? (i := 6) rfl)) (by decide) (by decide)) q216a q216c (g := (mkF m 14 #[.val (.int p1), .val (.int (11 : Int32)), .val (.ref z11), .unset, .unset, .unset, .unset, .unset] [(.ref z11)])) rfl (by rw [hml]; rfl) (Steps.refl _) (argsL := []) (rest := []) (lenOf pd___Z rfl) rfl (by show 2 * 0 + _ ≤ _; exact Nat.le_of_eq rfl) (hb hby at_14) (fun _ _ => ⟨rfl, s213, (by decide : 0 + 0 ≤ _), (by decide : 0 + 0 ≤ _)⟩)
    dsimp only [Pt.U, Pt.locs, Pt.cells, Pt.slots] at X216 l216 y216 z216 st216 hQ216
    subst l216 y216 z216
    obtain ⟨rfl, N216q, s216⟩ := hQ216
    have N216 := Fr.app N213 N216q
    have pp217 : ∀ t, Steps p.tables e below (T216.setTop (mkF m 17 #[.val (.int p1), .val (.int (11 : Int32)), .val (.ref z11), .unset, .unset, .unset, .unset, .unset] [(.int (own_or z11 z1 z4))])) t → Steps p.tables e below (s₁.setTop (entryFrame m #[(.int p1)] maxLocals)) t := fun t k => pp215 t (st216.trans k)
    rw [own_or3 ne11_1 ne11_4] at pp217
    have pp218 : ∀ t, Steps p.tables e below (T216.setTop (mkF m 19 #[.val (.int p1), .val (.int (11 : Int32)), .val (.ref z11), .val (.int (0 : Int32)), .unset, .unset, .unset, .unset] [(.ref z11)])) t → Steps p.tables e below (s₁.setTop (entryFrame m #[(.int p1)] maxLocals)) t := fun t k => pp217 t (by
      refine XS.istoreN X216.here hx rfl (hb hby at_17) rfl (l' := #[.val (.int p1), .val (.int (11 : Int32)), .val (.ref z11), .val (.int (0 : Int32)), .unset, .unset, .unset, .unset]) rfl ?_
      show Steps p.tables e below (T216.setTop (mkF m 18 #[.val (.int p1), .val (.int (11 : Int32)), .val (.ref z11), .val (.int (0 : Int32)), .unset, .unset, .unset, .unset] [])) _
      refine XS.aloadN X216.here hx rfl (hb hby at_18) rfl rfl ?_
      show Steps p.tables e below (T216.setTop (mkF m 19 #[.val (.int p1), .val (.int (11 : Int32)), .val (.ref z11), .val (.int (0 : Int32)), .unset, .unset, .unset, .unset] [(.ref z11)])) _
      exact k)
    obtain ⟨cq219, kq219, q219a, q219b, q219c⟩ := isOf hZ s216 E11
    obtain ⟨_, _, ⟨T219, L219, k219, n219⟩, -, X219, ⟨Lc219, hQ219, l219, y219, z219⟩, st219⟩ := X216.virtualBack hx (y := (⟨"com/example/pairwright/pairwright/model/Result", "code", "()C"⟩ : MethodName)) (z := (⟨"com/example/pairwright/pairwright/model/Result", "code", "()C"⟩ : MethodName)) hown (mvT hZ (hw _ (List.mem_of_getElem? (i := 17) rfl))) (mvT hZ (hw _ (List.mem_of_getElem? (i := 18) rfl))) (notFace_of_selects (args := #[]) (mvT hZ (hw _ (List.mem_of_getElem? (i := 20) rfl)))) (mvT hZ (hw _ (List.mem_of_getElem? (i := 20) rfl))) (mvT hZ (hw _ (List.mem_of_getElem? (i := 19) rfl))) (by decide) (backOf (W := 0) (own_code l Z a0 hw [] z11 (90 : Int32) h0 n0 Z0 C11) hZ (hw _ (List.mem_of_getElem? (i := 21) rfl)) (hw _ (List.mem_of_getElem? (i := 6) rfl)) (by decide) (by decide)) q219a q219c (g := (mkF m 19 #[.val (.int p1), .val (.int (11 : Int32)), .val (.ref z11), .val (.int (0 : Int32)), .unset, .unset, .unset, .unset] [(.ref z11)])) rfl (by rw [hml]; rfl) (Steps.refl _) (argsL := []) (rest := []) (lenOf pd___C rfl) rfl (by show 2 * 0 + _ ≤ _; exact Nat.le_of_eq rfl) (hb hby at_19) (fun _ _ => ⟨rfl, s216, (by decide : 0 + 0 ≤ _), (by decide : 0 + 0 ≤ _)⟩)
    dsimp only [Pt.U, Pt.locs, Pt.cells, Pt.slots] at X219 l219 y219 z219 st219 hQ219
    subst l219 y219 z219
    obtain ⟨rfl, N219q, s219⟩ := hQ219
    have N219 := Fr.app N216 N219q
    have pp220 : ∀ t, Steps p.tables e below (T219.setTop (mkF m 22 #[.val (.int p1), .val (.int (11 : Int32)), .val (.ref z11), .val (.int (0 : Int32)), .unset, .unset, .unset, .unset] [(.int (nar .char (90 : Int32)))])) t → Steps p.tables e below (s₁.setTop (entryFrame m #[(.int p1)] maxLocals)) t := fun t k => pp218 t (st219.trans k)
    rw [show nar .char (90 : Int32) = (90 : Int32) from by decide] at pp220
    have pp221 : ∀ t, Steps p.tables e below (T219.setTop (mkF m 109 #[.val (.int p1), .val (.int (11 : Int32)), .val (.ref z11), .val (.int (0 : Int32)), .val (.int (90 : Int32)), .val (.int (0 : Int32)), .val (.int (0 : Int32)), .val (.int (1 : Int32))] [(.int (1 : Int32))])) t → Steps p.tables e below (s₁.setTop (entryFrame m #[(.int p1)] maxLocals)) t := fun t k => pp220 t (by
      refine XS.istore X219.here hx rfl (hb hby at_22) rfl (l' := #[.val (.int p1), .val (.int (11 : Int32)), .val (.ref z11), .val (.int (0 : Int32)), .val (.int (90 : Int32)), .unset, .unset, .unset]) rfl ?_
      show Steps p.tables e below (T219.setTop (mkF m 24 #[.val (.int p1), .val (.int (11 : Int32)), .val (.ref z11), .val (.int (0 : Int32)), .val (.int (90 : Int32)), .unset, .unset, .unset] [])) _
      refine XS.iload X219.here hx rfl (hb hby at_24) rfl ?_
      show Steps p.tables e below (T219.setTop (mkF m 26 #[.val (.int p1), .val (.int (11 : Int32)), .val (.ref z11), .val (.int (0 : Int32)), .val (.int (90 : Int32)), .unset, .unset, .unset] [(.int (90 : Int32))])) _
      refine XS.bipush X219.here hx rfl (hb hby at_26) ?_
      show Steps p.tables e below (T219.setTop (mkF m 28 #[.val (.int p1), .val (.int (11 : Int32)), .val (.ref z11), .val (.int (0 : Int32)), .val (.int (90 : Int32)), .unset, .unset, .unset] [(.int (48 : Int32)), (.int (90 : Int32))])) _
      refine XS.icmpNo X219.here hx rfl (hb hby at_28) rfl (feq (by decide : ¬ ((90 : Int32) = (48 : Int32)))).1 ?_
      show Steps p.tables e below (T219.setTop (mkF m 31 #[.val (.int p1), .val (.int (11 : Int32)), .val (.ref z11), .val (.int (0 : Int32)), .val (.int (90 : Int32)), .unset, .unset, .unset] [])) _
      refine XS.iload X219.here hx rfl (hb hby at_31) rfl ?_
      show Steps p.tables e below (T219.setTop (mkF m 33 #[.val (.int p1), .val (.int (11 : Int32)), .val (.ref z11), .val (.int (0 : Int32)), .val (.int (90 : Int32)), .unset, .unset, .unset] [(.int (90 : Int32))])) _
      refine XS.bipush X219.here hx rfl (hb hby at_33) ?_
      show Steps p.tables e below (T219.setTop (mkF m 35 #[.val (.int p1), .val (.int (11 : Int32)), .val (.ref z11), .val (.int (0 : Int32)), .val (.int (90 : Int32)), .unset, .unset, .unset] [(.int (76 : Int32)), (.int (90 : Int32))])) _
      refine XS.icmpYes X219.here hx rfl (pc0 := 35) (pc' := 42) rfl (hb hby at_35) rfl (feq (by decide : ¬ ((90 : Int32) = (76 : Int32)))).2 (by decide) (by decide) ?_
      show Steps p.tables e below (T219.setTop (mkF m 42 #[.val (.int p1), .val (.int (11 : Int32)), .val (.ref z11), .val (.int (0 : Int32)), .val (.int (90 : Int32)), .unset, .unset, .unset] [])) _
      refine XS.iconst X219.here hx rfl (hb hby at_42) ?_
      show Steps p.tables e below (T219.setTop (mkF m 43 #[.val (.int p1), .val (.int (11 : Int32)), .val (.ref z11), .val (.int (0 : Int32)), .val (.int (90 : Int32)), .unset, .unset, .unset] [(.int (0 : Int32))])) _
      refine XS.istore X219.here hx rfl (hb hby at_43) rfl (l' := #[.val (.int p1), .val (.int (11 : Int32)), .val (.ref z11), .val (.int (0 : Int32)), .val (.int (90 : Int32)), .val (.int (0 : Int32)), .unset, .unset]) rfl ?_
      show Steps p.tables e below (T219.setTop (mkF m 45 #[.val (.int p1), .val (.int (11 : Int32)), .val (.ref z11), .val (.int (0 : Int32)), .val (.int (90 : Int32)), .val (.int (0 : Int32)), .unset, .unset] [])) _
      refine XS.iloadN X219.here hx rfl (hb hby at_45) rfl ?_
      show Steps p.tables e below (T219.setTop (mkF m 46 #[.val (.int p1), .val (.int (11 : Int32)), .val (.ref z11), .val (.int (0 : Int32)), .val (.int (90 : Int32)), .val (.int (0 : Int32)), .unset, .unset] [(.int (11 : Int32))])) _
      refine XS.iconst X219.here hx rfl (hb hby at_46) ?_
      show Steps p.tables e below (T219.setTop (mkF m 47 #[.val (.int p1), .val (.int (11 : Int32)), .val (.ref z11), .val (.int (0 : Int32)), .val (.int (90 : Int32)), .val (.int (0 : Int32)), .unset, .unset] [(.int (1 : Int32)), (.int (11 : Int32))])) _
      refine XS.icmpNo X219.here hx rfl (hb hby at_47) rfl (feq (by decide : ¬ ((11 : Int32) = (1 : Int32)))).1 ?_
      show Steps p.tables e below (T219.setTop (mkF m 50 #[.val (.int p1), .val (.int (11 : Int32)), .val (.ref z11), .val (.int (0 : Int32)), .val (.int (90 : Int32)), .val (.int (0 : Int32)), .unset, .unset] [])) _
      refine XS.iloadN X219.here hx rfl (hb hby at_50) rfl ?_
      show Steps p.tables e below (T219.setTop (mkF m 51 #[.val (.int p1), .val (.int (11 : Int32)), .val (.ref z11), .val (.int (0 : Int32)), .val (.int (90 : Int32)), .val (.int (0 : Int32)), .unset, .unset] [(.int (11 : Int32))])) _
      refine XS.iconst X219.here hx rfl (hb hby at_51) ?_
      show Steps p.tables e below (T219.setTop (mkF m 52 #[.val (.int p1), .val (.int (11 : Int32)), .val (.ref z11), .val (.int (0 : Int32)), .val (.int (90 : Int32)), .val (.int (0 : Int32)), .unset, .unset] [(.int (4 : Int32)), (.int (11 : Int32))])) _
      refine XS.icmpYes X219.here hx rfl (pc0 := 52) (pc' := 59) rfl (hb hby at_52) rfl (feq (by decide : ¬ ((11 : Int32) = (4 : Int32)))).2 (by decide) (by decide) ?_
      show Steps p.tables e below (T219.setTop (mkF m 59 #[.val (.int p1), .val (.int (11 : Int32)), .val (.ref z11), .val (.int (0 : Int32)), .val (.int (90 : Int32)), .val (.int (0 : Int32)), .unset, .unset] [])) _
      refine XS.iconst X219.here hx rfl (hb hby at_59) ?_
      show Steps p.tables e below (T219.setTop (mkF m 60 #[.val (.int p1), .val (.int (11 : Int32)), .val (.ref z11), .val (.int (0 : Int32)), .val (.int (90 : Int32)), .val (.int (0 : Int32)), .unset, .unset] [(.int (0 : Int32))])) _
      refine XS.istore X219.here hx rfl (hb hby at_60) rfl (l' := #[.val (.int p1), .val (.int (11 : Int32)), .val (.ref z11), .val (.int (0 : Int32)), .val (.int (90 : Int32)), .val (.int (0 : Int32)), .val (.int (0 : Int32)), .unset]) rfl ?_
      show Steps p.tables e below (T219.setTop (mkF m 62 #[.val (.int p1), .val (.int (11 : Int32)), .val (.ref z11), .val (.int (0 : Int32)), .val (.int (90 : Int32)), .val (.int (0 : Int32)), .val (.int (0 : Int32)), .unset] [])) _
      refine XS.iloadN X219.here hx rfl (hb hby at_62) rfl ?_
      show Steps p.tables e below (T219.setTop (mkF m 63 #[.val (.int p1), .val (.int (11 : Int32)), .val (.ref z11), .val (.int (0 : Int32)), .val (.int (90 : Int32)), .val (.int (0 : Int32)), .val (.int (0 : Int32)), .unset] [(.int (0 : Int32))])) _
      refine XS.ifYes X219.here hx rfl (pc0 := 63) (pc' := 80) rfl (hb hby at_63) rfl ((if0 _ _).trans (teq (by decide : (0 : Int32) = (0 : Int32))).1) (by decide) (by decide) ?_
      show Steps p.tables e below (T219.setTop (mkF m 80 #[.val (.int p1), .val (.int (11 : Int32)), .val (.ref z11), .val (.int (0 : Int32)), .val (.int (90 : Int32)), .val (.int (0 : Int32)), .val (.int (0 : Int32)), .unset] [])) _
      refine XS.iconst X219.here hx rfl (hb hby at_80) ?_
      show Steps p.tables e below (T219.setTop (mkF m 81 #[.val (.int p1), .val (.int (11 : Int32)), .val (.ref z11), .val (.int (0 : Int32)), .val (.int (90 : Int32)), .val (.int (0 : Int32)), .val (.int (0 : Int32)), .unset] [(.int (1 : Int32))])) _
      refine XS.goto X219.here hx rfl (pc0 := 81) (pc' := 85) rfl (hb hby at_81) (by decide) (by decide) ?_
      show Steps p.tables e below (T219.setTop (mkF m 85 #[.val (.int p1), .val (.int (11 : Int32)), .val (.ref z11), .val (.int (0 : Int32)), .val (.int (90 : Int32)), .val (.int (0 : Int32)), .val (.int (0 : Int32)), .unset] [(.int (1 : Int32))])) _
      refine XS.istore X219.here hx rfl (hb hby at_85) rfl (l' := #[.val (.int p1), .val (.int (11 : Int32)), .val (.ref z11), .val (.int (0 : Int32)), .val (.int (90 : Int32)), .val (.int (0 : Int32)), .val (.int (0 : Int32)), .val (.int (1 : Int32))]) rfl ?_
      show Steps p.tables e below (T219.setTop (mkF m 87 #[.val (.int p1), .val (.int (11 : Int32)), .val (.ref z11), .val (.int (0 : Int32)), .val (.int (90 : Int32)), .val (.int (0 : Int32)), .val (.int (0 : Int32)), .val (.int (1 : Int32))] [])) _
      refine XS.iloadN X219.here hx rfl (hb hby at_87) rfl ?_
      show Steps p.tables e below (T219.setTop (mkF m 88 #[.val (.int p1), .val (.int (11 : Int32)), .val (.ref z11), .val (.int (0 : Int32)), .val (.int (90 : Int32)), .val (.int (0 : Int32)), .val (.int (0 : Int32)), .val (.int (1 : Int32))] [(.int (0 : Int32))])) _
      refine XS.iload X219.here hx rfl (hb hby at_88) rfl ?_
      show Steps p.tables e below (T219.setTop (mkF m 90 #[.val (.int p1), .val (.int (11 : Int32)), .val (.ref z11), .val (.int (0 : Int32)), .val (.int (90 : Int32)), .val (.int (0 : Int32)), .val (.int (0 : Int32)), .val (.int (1 : Int32))] [(.int (0 : Int32)), (.int (0 : Int32))])) _
      refine XS.icmpNo X219.here hx rfl (hb hby at_90) rfl (teq (by decide : (0 : Int32) = (0 : Int32))).2 ?_
      show Steps p.tables e below (T219.setTop (mkF m 93 #[.val (.int p1), .val (.int (11 : Int32)), .val (.ref z11), .val (.int (0 : Int32)), .val (.int (90 : Int32)), .val (.int (0 : Int32)), .val (.int (0 : Int32)), .val (.int (1 : Int32))] [])) _
      refine XS.iloadN X219.here hx rfl (hb hby at_93) rfl ?_
      show Steps p.tables e below (T219.setTop (mkF m 94 #[.val (.int p1), .val (.int (11 : Int32)), .val (.ref z11), .val (.int (0 : Int32)), .val (.int (90 : Int32)), .val (.int (0 : Int32)), .val (.int (0 : Int32)), .val (.int (1 : Int32))] [(.int (0 : Int32))])) _
      refine XS.iload X219.here hx rfl (hb hby at_94) rfl ?_
      show Steps p.tables e below (T219.setTop (mkF m 96 #[.val (.int p1), .val (.int (11 : Int32)), .val (.ref z11), .val (.int (0 : Int32)), .val (.int (90 : Int32)), .val (.int (0 : Int32)), .val (.int (0 : Int32)), .val (.int (1 : Int32))] [(.int (0 : Int32)), (.int (0 : Int32))])) _
      refine XS.icmpNo X219.here hx rfl (hb hby at_96) rfl (teq (by decide : (0 : Int32) = (0 : Int32))).2 ?_
      show Steps p.tables e below (T219.setTop (mkF m 99 #[.val (.int p1), .val (.int (11 : Int32)), .val (.ref z11), .val (.int (0 : Int32)), .val (.int (90 : Int32)), .val (.int (0 : Int32)), .val (.int (0 : Int32)), .val (.int (1 : Int32))] [])) _
      refine XS.iload X219.here hx rfl (hb hby at_99) rfl ?_
      show Steps p.tables e below (T219.setTop (mkF m 101 #[.val (.int p1), .val (.int (11 : Int32)), .val (.ref z11), .val (.int (0 : Int32)), .val (.int (90 : Int32)), .val (.int (0 : Int32)), .val (.int (0 : Int32)), .val (.int (1 : Int32))] [(.int (1 : Int32))])) _
      refine XS.ifNo X219.here hx rfl (hb hby at_101) rfl ((if0 _ _).trans (feq (by decide : ¬ ((1 : Int32) = (0 : Int32)))).1) ?_
      show Steps p.tables e below (T219.setTop (mkF m 104 #[.val (.int p1), .val (.int (11 : Int32)), .val (.ref z11), .val (.int (0 : Int32)), .val (.int (90 : Int32)), .val (.int (0 : Int32)), .val (.int (0 : Int32)), .val (.int (1 : Int32))] [])) _
      refine XS.iconst X219.here hx rfl (hb hby at_104) ?_
      show Steps p.tables e below (T219.setTop (mkF m 105 #[.val (.int p1), .val (.int (11 : Int32)), .val (.ref z11), .val (.int (0 : Int32)), .val (.int (90 : Int32)), .val (.int (0 : Int32)), .val (.int (0 : Int32)), .val (.int (1 : Int32))] [(.int (1 : Int32))])) _
      refine XS.goto X219.here hx rfl (pc0 := 105) (pc' := 109) rfl (hb hby at_105) (by decide) (by decide) ?_
      show Steps p.tables e below (T219.setTop (mkF m 109 #[.val (.int p1), .val (.int (11 : Int32)), .val (.ref z11), .val (.int (0 : Int32)), .val (.int (90 : Int32)), .val (.int (0 : Int32)), .val (.int (0 : Int32)), .val (.int (1 : Int32))] [(.int (1 : Int32))])) _
      exact k)
    obtain ⟨fs, hr, hrun, hended, hW, hsame⟩ := X219.leave (v := some (.int (1 : Int32))) (fun h => by rw [Bd.returns] at h; cases h)
    refine ⟨_, _, pp221 _ ?_, hrun, hended, _, _, rfl, ?_, ⟨_, rfl⟩, hW, hsame.mono (by decide) (by decide)⟩
    · exact retN X219 hx (t := .boolean) Bd.returns (by simp) (hb hby at_109) hr
    · show Q_own_law Z p1 z0 z1 z2 z3 z4 z5 z6 z7 z8 z9 z10 z11 h0 n0 _ T219.heap _
      rw [s219]
      exact ⟨rfl, N219⟩
set_option maxRecDepth 65536 in
set_option maxHeartbeats 40000000 in
theorem comes_1 {Post : Tables → Env → Array Value → State → Outcome → State → Prop} (hpost : ∀ tb e args s v u, (limb_1_1.after args s (.returned v) u = true ∧ limb_1_2.after args s (.returned v) u = true ∧ True) → FrameEnd s (.returned v) u (Jvm.fieldLocs frame_1_writes args s ++ Jvm.arrayLocs frame_1_arrays args s ++ Jvm.staticLocs frame_1_statics s) 0 0 → Post tb e args s (.returned v) u) :
    ArmFor flags0 classFile x code maxLocals ret World_1 tables_1 room_1 Calls_1 rest_1 Pre_1 Post := by
  intro l hfl _ _ p e ha hc hk s m args below hf hA hF happ hP
  obtain ⟨hcalls, hrest, hpre⟩ := hP
  obtain ⟨-, -, -, hnamed, -, -, -, hat⟩ := (Spec.applies_iff hf).mp happ
  obtain ⟨hg, hn⟩ := and_e (Cond.before_iff.mp (show (Jvm.Cond.and given_1 narrow_1).before args s = true from hpre))
  obtain ⟨gg1, gg2⟩ := and_e hg
  obtain ⟨w0, rfl⟩ : ∃ w0 : Value, args = #[w0] := by
    have hs : args.size = 1 := by simpa [Cond.value, given_1] using gg1
    obtain ⟨L⟩ := args
    match L, hs with
    | [w0], _ => exact ⟨w0, rfl⟩
  have hw := fun d (hd : d ∈ tables_1) => atoms_spec (ws := Jvm.Cond.code x code maxLocals ret :: tables_1) hat d (List.mem_cons_of_mem _ hd)
  have hfit : Fit s := fun {y c} hc i hi => by
    obtain ⟨ha, rfl⟩ := Array.getElem?_eq_some_iff.mp hc
    have q := List.all_eq_true.mp ((Array.all_eq_true_iff_forall_mem.mp hF) _ (Array.getElem_mem ha)) i (List.mem_range.mpr hi)
    simpa [Array.getElem?_eq_getElem hi] using q
  obtain ⟨i0, ei0⟩ := is_v gg2
  obtain rfl : w0 = (.int i0) := Option.some.inj ei0
  obtain ⟨k0, r0⟩ := and_e hn
  obtain ⟨k1, r1⟩ := and_e r0
  obtain ⟨k2, r2⟩ := and_e r1
  obtain ⟨k3, r3⟩ := and_e r2
  obtain ⟨k4, r4⟩ := and_e r3
  obtain ⟨k5, r5⟩ := and_e r4
  obtain ⟨k6, r6⟩ := and_e r5
  obtain ⟨k7, r7⟩ := and_e r6
  obtain ⟨k8, r8⟩ := and_e r7
  obtain ⟨k9, r9⟩ := and_e r8
  obtain ⟨k10, r10⟩ := and_e r9
  obtain ⟨k11, r11⟩ := and_e r10
  obtain ⟨k12, r12⟩ := and_e r11
  obtain ⟨k13, r13⟩ := and_e r12
  obtain ⟨k14, r14⟩ := and_e r13
  obtain ⟨k15, r15⟩ := and_e r14
  obtain ⟨k16, r16⟩ := and_e r15
  obtain ⟨k17, r17⟩ := and_e r16
  obtain ⟨k18, r18⟩ := and_e r17
  obtain ⟨k19, r19⟩ := and_e r18
  obtain ⟨k20, r20⟩ := and_e r19
  obtain ⟨k21, r21⟩ := and_e r20
  obtain ⟨k22, r22⟩ := and_e r21
  obtain ⟨k23, r23⟩ := and_e r22
  obtain ⟨k24, r24⟩ := and_e r23
  obtain ⟨k25, r25⟩ := and_e r24
  obtain ⟨k26, r26⟩ := and_e r25
  obtain ⟨k27, r27⟩ := and_e r26
  obtain ⟨k28, r28⟩ := and_e r27
  obtain ⟨k29, r29⟩ := and_e r28
  obtain ⟨k30, r30⟩ := and_e r29
  obtain ⟨k31, r31⟩ := and_e r30
  obtain ⟨k32, r32⟩ := and_e r31
  obtain ⟨k33, r33⟩ := and_e r32
  obtain ⟨k34, r34⟩ := and_e r33
  obtain ⟨k35, r35⟩ := and_e r34
  obtain ⟨k36, r36⟩ := and_e r35
  obtain ⟨k37, r37⟩ := and_e r36
  obtain ⟨k38, r38⟩ := and_e r37
  obtain ⟨k39, r39⟩ := and_e r38
  obtain ⟨k40, r40⟩ := and_e r39
  obtain ⟨k41, r41⟩ := and_e r40
  obtain ⟨k42, r42⟩ := and_e r41
  obtain ⟨k43, r43⟩ := and_e r42
  obtain ⟨k44, r44⟩ := and_e r43
  obtain ⟨k45, r45⟩ := and_e r44
  obtain ⟨k46, r46⟩ := and_e r45
  obtain ⟨z0, ez0⟩ := exa_v k0
  have S0 := Sta.start ez0 (Or.inr ⟨(hw _ (List.mem_of_getElem? (i := 6) rfl)), (hw _ (List.mem_of_getElem? (i := 7) rfl))⟩)
  have E0 := Exa.start ez0 k0
  have C0 := Fld.start ((fld_at ez0).symm.trans (own_eqint k6))
  have P0 := Fld.start ((fld_at ez0).symm.trans (own_eqint k38))
  obtain ⟨z1, ez1⟩ := exa_v k1
  have S1 := Sta.start ez1 (Or.inr ⟨(hw _ (List.mem_of_getElem? (i := 6) rfl)), (hw _ (List.mem_of_getElem? (i := 14) rfl))⟩)
  have E1 := Exa.start ez1 k1
  have C1 := Fld.start ((fld_at ez1).symm.trans (own_eqint k24))
  have P1 := Fld.start ((fld_at ez1).symm.trans (own_eqint k25))
  obtain ⟨z2, ez2⟩ := exa_v k10
  have S2 := Sta.start ez2 (Or.inr ⟨(hw _ (List.mem_of_getElem? (i := 6) rfl)), (hw _ (List.mem_of_getElem? (i := 27) rfl))⟩)
  have E2 := Exa.start ez2 k10
  have C2 := Fld.start ((fld_at ez2).symm.trans (own_eqint k12))
  have P2 := Fld.start ((fld_at ez2).symm.trans (own_eqint k40))
  obtain ⟨z3, ez3⟩ := exa_v k7
  have S3 := Sta.start ez3 (Or.inr ⟨(hw _ (List.mem_of_getElem? (i := 6) rfl)), (hw _ (List.mem_of_getElem? (i := 25) rfl))⟩)
  have E3 := Exa.start ez3 k7
  have C3 := Fld.start ((fld_at ez3).symm.trans (own_eqint k9))
  have P3 := Fld.start ((fld_at ez3).symm.trans (own_eqint k39))
  obtain ⟨z4, ez4⟩ := exa_v k4
  have S4 := Sta.start ez4 (Or.inr ⟨(hw _ (List.mem_of_getElem? (i := 6) rfl)), (hw _ (List.mem_of_getElem? (i := 16) rfl))⟩)
  have E4 := Exa.start ez4 k4
  have C4 := Fld.start ((fld_at ez4).symm.trans (own_eqint k19))
  have P4 := Fld.start ((fld_at ez4).symm.trans (own_eqint k20))
  obtain ⟨z5, ez5⟩ := exa_v k35
  have S5 := Sta.start ez5 (Or.inr ⟨(hw _ (List.mem_of_getElem? (i := 6) rfl)), (hw _ (List.mem_of_getElem? (i := 57) rfl))⟩)
  have E5 := Exa.start ez5 k35
  have C5 := Fld.start ((fld_at ez5).symm.trans (own_eqint k37))
  have P5 := Fld.start ((fld_at ez5).symm.trans (own_eqint r46))
  obtain ⟨z6, ez6⟩ := exa_v k32
  have S6 := Sta.start ez6 (Or.inr ⟨(hw _ (List.mem_of_getElem? (i := 6) rfl)), (hw _ (List.mem_of_getElem? (i := 55) rfl))⟩)
  have E6 := Exa.start ez6 k32
  have C6 := Fld.start ((fld_at ez6).symm.trans (own_eqint k34))
  have P6 := Fld.start ((fld_at ez6).symm.trans (own_eqint k46))
  obtain ⟨z7, ez7⟩ := exa_v k13
  have S7 := Sta.start ez7 (Or.inr ⟨(hw _ (List.mem_of_getElem? (i := 6) rfl)), (hw _ (List.mem_of_getElem? (i := 29) rfl))⟩)
  have E7 := Exa.start ez7 k13
  have C7 := Fld.start ((fld_at ez7).symm.trans (own_eqint k15))
  have P7 := Fld.start ((fld_at ez7).symm.trans (own_eqint k41))
  obtain ⟨z8, ez8⟩ := exa_v k21
  have S8 := Sta.start ez8 (Or.inr ⟨(hw _ (List.mem_of_getElem? (i := 6) rfl)), (hw _ (List.mem_of_getElem? (i := 48) rfl))⟩)
  have E8 := Exa.start ez8 k21
  have C8 := Fld.start ((fld_at ez8).symm.trans (own_eqint k23))
  have P8 := Fld.start ((fld_at ez8).symm.trans (own_eqint k43))
  obtain ⟨z9, ez9⟩ := exa_v k29
  have S9 := Sta.start ez9 (Or.inr ⟨(hw _ (List.mem_of_getElem? (i := 6) rfl)), (hw _ (List.mem_of_getElem? (i := 53) rfl))⟩)
  have E9 := Exa.start ez9 k29
  have C9 := Fld.start ((fld_at ez9).symm.trans (own_eqint k31))
  have P9 := Fld.start ((fld_at ez9).symm.trans (own_eqint k45))
  obtain ⟨z10, ez10⟩ := exa_v k26
  have S10 := Sta.start ez10 (Or.inr ⟨(hw _ (List.mem_of_getElem? (i := 6) rfl)), (hw _ (List.mem_of_getElem? (i := 51) rfl))⟩)
  have E10 := Exa.start ez10 k26
  have C10 := Fld.start ((fld_at ez10).symm.trans (own_eqint k28))
  have P10 := Fld.start ((fld_at ez10).symm.trans (own_eqint k44))
  obtain ⟨z11, ez11⟩ := exa_v k16
  have S11 := Sta.start ez11 (Or.inr ⟨(hw _ (List.mem_of_getElem? (i := 6) rfl)), (hw _ (List.mem_of_getElem? (i := 31) rfl))⟩)
  have E11 := Exa.start ez11 k16
  have C11 := Fld.start ((fld_at ez11).symm.trans (own_eqint k18))
  have P11 := Fld.start ((fld_at ez11).symm.trans (own_eqint k42))
  obtain ⟨n, o, h1, h2, h3, _, L, rfl, ⟨rfl, N⟩, hq⟩ := own_law l s _ hw tables_1 i0 z0 z1 z2 z3 z4 z5 z6 z7 z8 z9 z10 z11 s.heap s.heap.size (Nat.le_refl _) S0 E0 C0 P0 S1 E1 C1 P1 S2 E2 C2 P2 S3 E3 C3 P3 S4 E4 C4 P4 S5 E5 C5 P5 S6 E6 C6 P6 S7 E7 C7 P7 S8 E8 C8 P8 S9 E9 C9 P9 S10 E10 C10 P10 S11 E11 C11 P11 p e ha hc hk s m _ below hf ((Spec.applies_iff_loose hf).mp happ).1 ⟨rfl, State.Warmed39.refl s, rfl⟩ trivial
  refine ⟨n, _, h1, h2, h3, hpost _ _ _ _ _ _ ⟨Cond.after_iff.mpr rfl, Cond.after_iff.mpr (eq_i res_at (Term.int_eval (1)) rfl), trivial⟩ ⟨hq.1, hq.2.1, (hq.2.2.sift fun y hy => Or.inr (N y hy)).mono (by decide) (by decide)⟩⟩
theorem main_1_1 : Claimed_1_1 := comes_1 fun _ _ _ _ _ _ h hF => ⟨h.1, hF⟩
theorem main_1_2 : Claimed_1_2 := comes_1 fun _ _ _ _ _ _ h hF => ⟨h.2.1, hF⟩
end Jvm.Pilot.@@N@@
namespace Jvm.Pilot.@@N@@
open Jvm Jvm.ClassFile Sem Op Lib Jvm.Free Jvm.Stand Jvm.Pilot.@@N@@.Jvm.D
/-! MADE BY PROGRAM (witnessworld.py) out of the Statement's table words and the real class files: 12 classes; the members and pool entries that the words name. The judged class is class 1, her method 2. -/
namespace start1
open Jvm.ClassFile
def u (s : String) : CpInfo := .utf8 (stringToUtf16 s)
/-- a pool by its gaps: so many unusable entries, then the entry; so many at the end -/
def gap : Nat → List CpInfo → List CpInfo
  | 0, r => r
  | n + 1, r => .unusable :: gap n r
def poolList (es : List (Nat × CpInfo)) (last : Nat) : List CpInfo := es.foldr (fun e r => gap e.1 (e.2 :: r)) (gap last [])
def pool (es : List (Nat × CpInfo)) (last : Nat) : Array CpInfo := ⟨poolList es last⟩
def fileOf (pool : Array CpInfo) (this : Nat) (attrs : Array Attribute := #[]) (ms : Array MethodInfo := #[]) (fl : Nat := 33) (sup : Nat := 0) (ifs : Array Nat := #[]) (fds : Array FieldInfo := #[]) : ClassFile where
  minorVersion := 0
  majorVersion := 65
  constantPool := pool
  accessFlags := fl
  thisClass := this
  superClass := sup
  interfaces := ifs
  fields := fds
  methods := ms
  attributes := attrs
def plain (name : String) (sup : Option ClassId) : Class where
  name := name
  kind := .ordinary
  loader := none
  accessFlags := 33
  super := sup
  interfaces := #[]
  cf := none
  fields := #[]
  methods := #[]
  instanceTypes := #[]
  staticTypes := #[]
  resolved := #[]
  callSites := []
  init := .initialized
  statics := none
  mirror := none

def pool0 : Array CpInfo := pool [(5, u "<init>"), (0, u "()V"), (1, .class_ 10), (1, u "java/lang/Object")] 113

def k0m0 : Method := { name := "<init>", desc := "()V", sig := { parameters := [], returnType := none }, accessFlags := 1, code := none }
/-- java/lang/Object -/
def k0 : Class := { plain "java/lang/Object" none with
  accessFlags := 33
  interfaces := #[]
  cf := some (fileOf pool0 8 #[] #[{ accessFlags := 1, nameIndex := 5, descriptorIndex := 6, attributes := #[] }] 33 0 #[] #[])
  fields := #[]
  methods := #[k0m0]
  instanceTypes := #[]
  staticTypes := #[]
  resolved := Array.replicate 124 none
  statics := none }

def pool1 : Array CpInfo := pool [(2, .class_ 4), (1, u "java/lang/Object"), (0, u "<init>"), (0, u "()V"), (0, .fieldref 8 9), (0, .class_ 10), (0, .nameAndType 11 12), (0, u "com/example/pairwright/pairwright/model/Result"), (0, u "WIN"), (0, u "Lcom/example/pairwright/pairwright/model/Result;"), (0, .fieldref 8 14), (0, .nameAndType 15 12), (0, u "LOSS"), (0, .fieldref 8 17), (0, .nameAndType 18 12), (0, u "DRAW"), (0, .fieldref 8 20), (0, .nameAndType 21 12), (0, u "SHORT_WIN"), (0, .fieldref 8 23), (0, .nameAndType 24 12), (0, u "SHORT_LOSS"), (0, .fieldref 8 26), (0, .nameAndType 27 12), (0, u "SHORT_DRAW"), (0, .fieldref 8 29), (0, .nameAndType 30 12), (0, u "FORFEIT_WIN"), (0, .fieldref 8 32), (0, .nameAndType 33 12), (0, u "FORFEIT_LOSS"), (0, .fieldref 8 35), (0, .nameAndType 36 12), (0, u "HALF_POINT_BYE"), (0, .fieldref 8 38), (0, .nameAndType 39 12), (0, u "FULL_POINT_BYE"), (0, .fieldref 8 41), (0, .nameAndType 42 12), (0, u "PAIRING_ALLOCATED_BYE"), (0, .fieldref 8 44), (0, .nameAndType 45 12), (0, u "NOT_PAIRED"), (0, .integer 2147483647), (0, .methodref 48 49), (0, .class_ 50), (0, .nameAndType 51 52), (0, u "com/example/pairwright/pairwright/model/ResultLostPinLaw"), (0, u "pick"), (0, u "(I)Lcom/example/pairwright/pairwright/model/Result;"), (0, .methodref 8 54), (0, .nameAndType 55 56), (0, u "lost"), (0, u "()Z"), (0, .methodref 8 58), (0, .nameAndType 59 60), (0, u "code"), (0, u "()C"), (0, .methodref 8 62), (0, .nameAndType 63 56), (0, u "played"), (0, .methodref 8 65), (0, .nameAndType 66 56), (0, u "won"), (3, u "law"), (0, u "(I)Z")] 2

def k1m0 : Method := { name := "<init>", desc := "()V", sig := { parameters := [], returnType := none }, accessFlags := 2, code := none }
def k1c1 : Code := { maxStack := 2, maxLocals := 1, code := method_2_code, exceptionTable := #[], attributes := #[] }
def k1m1 : Method := { name := "pick", desc := "(I)Lcom/example/pairwright/pairwright/model/Result;", sig := { parameters := [.int], returnType := some (.object "com/example/pairwright/pairwright/model/Result") }, accessFlags := 10, code := some k1c1 }
def k1c2 : Code := { maxStack := 2, maxLocals := 8, code := code, exceptionTable := #[], attributes := #[] }
def k1m2 : Method := { name := "law", desc := "(I)Z", sig := { parameters := [.int], returnType := some .boolean }, accessFlags := 9, code := some k1c2 }
/-- com/example/pairwright/pairwright/model/ResultLostPinLaw -/
def k1 : Class := { plain "com/example/pairwright/pairwright/model/ResultLostPinLaw" (some 0) with
  accessFlags := 49
  interfaces := #[]
  cf := some (fileOf pool1 48 #[] #[{ accessFlags := 2, nameIndex := 5, descriptorIndex := 6, attributes := #[] }, { accessFlags := 10, nameIndex := 51, descriptorIndex := 52, attributes := #[] }, { accessFlags := 9, nameIndex := 70, descriptorIndex := 71, attributes := #[] }] 49 2 #[] #[])
  fields := #[]
  methods := #[k1m0, k1m1, k1m2]
  instanceTypes := #[]
  staticTypes := #[]
  resolved := Array.replicate 74 none
  statics := none }

def pool2 : Array CpInfo := pool [(1, .class_ 2), (0, u "java/lang/constant/Constable"), (0, .class_ 4), (0, u "java/lang/Object")] 6

/-- java/lang/constant/Constable -/
def k2 : Class := { plain "java/lang/constant/Constable" (some 0) with
  accessFlags := 1537
  interfaces := #[]
  cf := some (fileOf pool2 1 #[] #[] 1537 3 #[] #[])
  fields := #[]
  methods := #[]
  instanceTypes := #[]
  staticTypes := #[]
  resolved := Array.replicate 11 none
  statics := none }

def pool3 : Array CpInfo := pool [(1, .class_ 2), (0, u "java/lang/Comparable"), (0, .class_ 4), (0, u "java/lang/Object")] 7

/-- java/lang/Comparable -/
def k3 : Class := { plain "java/lang/Comparable" (some 0) with
  accessFlags := 1537
  interfaces := #[]
  cf := some (fileOf pool3 1 #[] #[] 1537 3 #[] #[])
  fields := #[]
  methods := #[]
  instanceTypes := #[]
  staticTypes := #[]
  resolved := Array.replicate 12 none
  statics := none }

def pool4 : Array CpInfo := pool [(1, .class_ 2), (0, u "java/io/Serializable"), (0, .class_ 4), (0, u "java/lang/Object")] 2

/-- java/io/Serializable -/
def k4 : Class := { plain "java/io/Serializable" (some 0) with
  accessFlags := 1537
  interfaces := #[]
  cf := some (fileOf pool4 1 #[] #[] 1537 3 #[] #[])
  fields := #[]
  methods := #[]
  instanceTypes := #[]
  staticTypes := #[]
  resolved := Array.replicate 7 none
  statics := none }

def pool5 : Array CpInfo := pool [(2, .class_ 4), (1, u "java/lang/Enum"), (0, u "name"), (0, u "Ljava/lang/String;"), (2, u "ordinal"), (0, u "I"), (1, .class_ 14), (1, u "java/lang/Object"), (4, u "hash"), (86, .class_ 108), (1, u "java/lang/Enum$EnumDesc"), (2, .class_ 112), (0, u "java/lang/constant/Constable"), (0, .class_ 114), (0, u "java/lang/Comparable"), (0, .class_ 116), (0, u "java/io/Serializable")] 87

/-- java/lang/Enum -/
def k5 : Class := { plain "java/lang/Enum" (some 0) with
  accessFlags := 1057
  interfaces := #[2, 3, 4]
  cf := some (fileOf pool5 2 #[.nestMembers #[106]] #[] 1057 12 #[111, 113, 115] #[{ accessFlags := 18, nameIndex := 5, descriptorIndex := 6, attributes := #[] }, { accessFlags := 18, nameIndex := 9, descriptorIndex := 10, attributes := #[] }, { accessFlags := 2, nameIndex := 19, descriptorIndex := 10, attributes := #[] }])
  fields := #[{ name := "name", type := (.object "java/lang/String"), accessFlags := 18, slot := 0, constantValue := 0 }, { name := "ordinal", type := .int, accessFlags := 18, slot := 1, constantValue := 0 }, { name := "hash", type := .int, accessFlags := 2, slot := 2, constantValue := 0 }]
  methods := #[]
  instanceTypes := #[(.object "java/lang/String"), .int, .int]
  staticTypes := #[]
  resolved := Array.replicate 204 none
  statics := none }

def pool6 : Array CpInfo := pool [(1, .class_ 2), (0, u "com/example/pairwright/pairwright/model/Result"), (0, .fieldref 1 4), (0, .nameAndType 5 6), (0, u "WIN"), (0, u "Lcom/example/pairwright/pairwright/model/Result;"), (0, .fieldref 1 8), (0, .nameAndType 9 6), (0, u "LOSS"), (2, u "DRAW"), (0, .fieldref 1 14), (0, .nameAndType 15 6), (0, u "SHORT_WIN"), (0, .fieldref 1 17), (0, .nameAndType 18 6), (0, u "SHORT_LOSS"), (2, u "SHORT_DRAW"), (2, u "FORFEIT_WIN"), (2, u "FORFEIT_LOSS"), (2, u "HALF_POINT_BYE"), (2, u "FULL_POINT_BYE"), (2, u "PAIRING_ALLOCATED_BYE"), (2, u "NOT_PAIRED"), (2, u "$VALUES"), (0, u "[Lcom/example/pairwright/pairwright/model/Result;"), (6, .class_ 52), (1, u "java/lang/Enum"), (6, .fieldref 1 60), (0, .nameAndType 61 62), (0, u "code"), (0, u "C"), (0, .fieldref 1 64), (0, .nameAndType 65 66), (0, u "played"), (0, u "Z"), (42, u "()C"), (0, u "()Z"), (0, u "won"), (0, u "lost")] 5

def k6c0 : Code := { maxStack := 1, maxLocals := 1, code := prog_38_method_5_code, exceptionTable := #[], attributes := #[] }
def k6m0 : Method := { name := "code", desc := "()C", sig := { parameters := [], returnType := some .char }, accessFlags := 1, code := some k6c0 }
def k6c1 : Code := { maxStack := 1, maxLocals := 1, code := prog_38_method_6_code, exceptionTable := #[], attributes := #[] }
def k6m1 : Method := { name := "played", desc := "()Z", sig := { parameters := [], returnType := some .boolean }, accessFlags := 1, code := some k6c1 }
def k6c2 : Code := { maxStack := 2, maxLocals := 1, code := prog_38_method_7_code, exceptionTable := #[], attributes := #[] }
def k6m2 : Method := { name := "won", desc := "()Z", sig := { parameters := [], returnType := some .boolean }, accessFlags := 1, code := some k6c2 }
def k6c3 : Code := { maxStack := 2, maxLocals := 1, code := prog_38_method_8_code, exceptionTable := #[], attributes := #[] }
def k6m3 : Method := { name := "lost", desc := "()Z", sig := { parameters := [], returnType := some .boolean }, accessFlags := 1, code := some k6c3 }
/-- com/example/pairwright/pairwright/model/Result -/
def k6 : Class := { plain "com/example/pairwright/pairwright/model/Result" (some 5) with
  accessFlags := 16433
  interfaces := #[]
  cf := some (fileOf pool6 1 #[] #[{ accessFlags := 1, nameIndex := 61, descriptorIndex := 109, attributes := #[] }, { accessFlags := 1, nameIndex := 65, descriptorIndex := 110, attributes := #[] }, { accessFlags := 1, nameIndex := 111, descriptorIndex := 110, attributes := #[] }, { accessFlags := 1, nameIndex := 112, descriptorIndex := 110, attributes := #[] }] 16433 50 #[] #[{ accessFlags := 16409, nameIndex := 5, descriptorIndex := 6, attributes := #[] }, { accessFlags := 16409, nameIndex := 9, descriptorIndex := 6, attributes := #[] }, { accessFlags := 16409, nameIndex := 12, descriptorIndex := 6, attributes := #[] }, { accessFlags := 16409, nameIndex := 15, descriptorIndex := 6, attributes := #[] }, { accessFlags := 16409, nameIndex := 18, descriptorIndex := 6, attributes := #[] }, { accessFlags := 16409, nameIndex := 21, descriptorIndex := 6, attributes := #[] }, { accessFlags := 16409, nameIndex := 24, descriptorIndex := 6, attributes := #[] }, { accessFlags := 16409, nameIndex := 27, descriptorIndex := 6, attributes := #[] }, { accessFlags := 16409, nameIndex := 30, descriptorIndex := 6, attributes := #[] }, { accessFlags := 16409, nameIndex := 33, descriptorIndex := 6, attributes := #[] }, { accessFlags := 16409, nameIndex := 36, descriptorIndex := 6, attributes := #[] }, { accessFlags := 16409, nameIndex := 39, descriptorIndex := 6, attributes := #[] }, { accessFlags := 18, nameIndex := 61, descriptorIndex := 62, attributes := #[] }, { accessFlags := 18, nameIndex := 65, descriptorIndex := 66, attributes := #[] }, { accessFlags := 4122, nameIndex := 42, descriptorIndex := 43, attributes := #[] }])
  fields := #[{ name := "WIN", type := (.object "com/example/pairwright/pairwright/model/Result"), accessFlags := 16409, slot := 0, constantValue := 0 }, { name := "LOSS", type := (.object "com/example/pairwright/pairwright/model/Result"), accessFlags := 16409, slot := 1, constantValue := 0 }, { name := "DRAW", type := (.object "com/example/pairwright/pairwright/model/Result"), accessFlags := 16409, slot := 2, constantValue := 0 }, { name := "SHORT_WIN", type := (.object "com/example/pairwright/pairwright/model/Result"), accessFlags := 16409, slot := 3, constantValue := 0 }, { name := "SHORT_LOSS", type := (.object "com/example/pairwright/pairwright/model/Result"), accessFlags := 16409, slot := 4, constantValue := 0 }, { name := "SHORT_DRAW", type := (.object "com/example/pairwright/pairwright/model/Result"), accessFlags := 16409, slot := 5, constantValue := 0 }, { name := "FORFEIT_WIN", type := (.object "com/example/pairwright/pairwright/model/Result"), accessFlags := 16409, slot := 6, constantValue := 0 }, { name := "FORFEIT_LOSS", type := (.object "com/example/pairwright/pairwright/model/Result"), accessFlags := 16409, slot := 7, constantValue := 0 }, { name := "HALF_POINT_BYE", type := (.object "com/example/pairwright/pairwright/model/Result"), accessFlags := 16409, slot := 8, constantValue := 0 }, { name := "FULL_POINT_BYE", type := (.object "com/example/pairwright/pairwright/model/Result"), accessFlags := 16409, slot := 9, constantValue := 0 }, { name := "PAIRING_ALLOCATED_BYE", type := (.object "com/example/pairwright/pairwright/model/Result"), accessFlags := 16409, slot := 10, constantValue := 0 }, { name := "NOT_PAIRED", type := (.object "com/example/pairwright/pairwright/model/Result"), accessFlags := 16409, slot := 11, constantValue := 0 }, { name := "code", type := .char, accessFlags := 18, slot := 3, constantValue := 0 }, { name := "played", type := .boolean, accessFlags := 18, slot := 4, constantValue := 0 }, { name := "$VALUES", type := (.array (.object "com/example/pairwright/pairwright/model/Result")), accessFlags := 4122, slot := 12, constantValue := 0 }]
  methods := #[k6m0, k6m1, k6m2, k6m3]
  instanceTypes := #[(.object "java/lang/String"), .int, .int, .char, .boolean]
  staticTypes := #[(.object "com/example/pairwright/pairwright/model/Result"), (.object "com/example/pairwright/pairwright/model/Result"), (.object "com/example/pairwright/pairwright/model/Result"), (.object "com/example/pairwright/pairwright/model/Result"), (.object "com/example/pairwright/pairwright/model/Result"), (.object "com/example/pairwright/pairwright/model/Result"), (.object "com/example/pairwright/pairwright/model/Result"), (.object "com/example/pairwright/pairwright/model/Result"), (.object "com/example/pairwright/pairwright/model/Result"), (.object "com/example/pairwright/pairwright/model/Result"), (.object "com/example/pairwright/pairwright/model/Result"), (.object "com/example/pairwright/pairwright/model/Result"), (.array (.object "com/example/pairwright/pairwright/model/Result"))]
  resolved := Array.replicate 118 none
  statics := some 0 }

def pool7 : Array CpInfo := pool [(1, u "java/lang/Cloneable"), (0, .class_ 1), (0, u "java/lang/Object"), (0, .class_ 3)] 3

/-- java/lang/Cloneable -/
def k7 : Class := { plain "java/lang/Cloneable" (some 0) with
  accessFlags := 1537
  interfaces := #[]
  cf := some (fileOf pool7 2 #[] #[] 1537 4 #[] #[])
  fields := #[]
  methods := #[]
  instanceTypes := #[]
  staticTypes := #[]
  resolved := Array.replicate 8 none
  statics := none }

/-- the primitive byte -/
def k8 : Class := { plain "byte" none with kind := .primitive 'B', accessFlags := 0x411 }
/-- [B -/
def k9 : Class := { plain "[B" (some 0) with kind := .array 8 .byte, interfaces := #[7, 4], accessFlags := 1041 }

/-- the primitive int -/
def k10 : Class := { plain "int" none with kind := .primitive 'I', accessFlags := 0x411 }
/-- [I -/
def k11 : Class := { plain "[I" (some 0) with kind := .array 10 .int, interfaces := #[7, 4], accessFlags := 1041 }

def heap : Heap := #[{ cls := 6, slots := #[.ref 1, .ref 2, .ref 3, .ref 4, .ref 5, .ref 6, .ref 7, .ref 8, .ref 9, .ref 10, .ref 11, .ref 12, .null], vm := .statics 6 },
  { cls := 6, slots := #[.null, .int 0, .int 0, .int 49, .int 1], vm := .none },
  { cls := 6, slots := #[.null, .int 1, .int 0, .int 48, .int 1], vm := .none },
  { cls := 6, slots := #[.null, .int 2, .int 0, .int 61, .int 1], vm := .none },
  { cls := 6, slots := #[.null, .int 3, .int 0, .int 87, .int 1], vm := .none },
  { cls := 6, slots := #[.null, .int 4, .int 0, .int 76, .int 1], vm := .none },
  { cls := 6, slots := #[.null, .int 5, .int 0, .int 68, .int 1], vm := .none },
  { cls := 6, slots := #[.null, .int 6, .int 0, .int 43, .int 0], vm := .none },
  { cls := 6, slots := #[.null, .int 7, .int 0, .int 45, .int 0], vm := .none },
  { cls := 6, slots := #[.null, .int 8, .int 0, .int 72, .int 0], vm := .none },
  { cls := 6, slots := #[.null, .int 9, .int 0, .int 70, .int 0], vm := .none },
  { cls := 6, slots := #[.null, .int 10, .int 0, .int 85, .int 0], vm := .none },
  { cls := 6, slots := #[.null, .int 11, .int 0, .int 90, .int 0], vm := .none }]
def classes : Array Class := #[k0, k1, k2, k3, k4, k5, k6, k7, k8, k9, k10, k11]
def interned : List (Array UInt16 × Addr) := []
def slotsUsed : Nat := 73
def theMethod : MethodId := ⟨1, 2⟩
def args0 : Array Value := #[.int 5]
def aboutOver (below : List Frame) : State where
  vm := { classes := classes, interned := interned.toArray }
  heap := heap
  slotsUsed := slotsUsed
  threads := #[{ frames := .invoking theMethod args0 :: below }]
def below0 : List Frame := [.native { method := ⟨0, 0⟩, args := #[] }]
def about1 : State := aboutOver below0
def p0 : Program := .bare "" "" ""
def e0 : Env := launch0.env 0 0 0
theorem w_frames : about1.frames = Frame.invoking theMethod args0 :: below0 := rfl
set_option maxRecDepth 65536 in
theorem w_args : argsFit about1.vm theMethod args0 = true := by decide +kernel
set_option maxRecDepth 65536 in
theorem w_heap : heapFits about1 = true := by decide +kernel
set_option maxRecDepth 65536 in
theorem w_runnable : about1.curStatus? = some .runnable := by decide +kernel
set_option maxRecDepth 65536 in
theorem w_alone : about1.alone = true := by decide +kernel
set_option maxRecDepth 65536 in
theorem w_named : about1.methodNamed? x = some theMethod := by decide +kernel
set_option maxRecDepth 65536 in
theorem w_hears : about1.hears theMethod below0 = true := by decide +kernel
set_option maxRecDepth 65536 in
theorem w_ripe : about1.ripe theMethod args0 below0 = true := by decide +kernel
theorem w_running : about1.status = .running := rfl
set_option maxRecDepth 65536 in
theorem w_room : about1.hasRoom e0.platform room_1 = true :=
  launch0.hasRoom_least _ room_1 (by decide +kernel) (by decide +kernel) (by decide +kernel) (by decide +kernel) (by decide +kernel) (by decide +kernel)
theorem allAtoms_all (ts : List Jvm.Cond) (a : Array Jvm.Value) (st : Jvm.State) : (allAtoms ts).before a st = ts.all (fun c => c.before a st) := by
  induction ts with
  | nil => rfl
  | cons c t ih =>
    show (Jvm.Cond.and c (allAtoms t)).before a st = _
    rw [Jvm.Cond.before_and, ih, List.all_cons]
def words1 : List Jvm.Cond := Jvm.Cond.code x code maxLocals ret :: tables_1
/-- a 'code' word, met by the world's own term for the bytes: nothing is compared byte by byte -/
theorem code_word {y : MethodName} {bytes : ByteArray} {mx : Nat} {rt : Option FieldType} {a : Array Value} {s : State} {m : MethodId} {meth : Method} {c : Code} (h1 : s.methodNamed? y = some m) (h2 : s.vm.method? m = some meth) (h3 : meth.code = some c) (h4 : c.code = bytes)
    (h5 : (c.maxLocals == mx && c.exceptionTable.isEmpty && decide (c.maxStack ≤ mostOperands) && decide (meth.sig.returnType = rt) && !meth.locks && decide (parseMethodDescriptor y.desc = some meth.sig)) = true) : (Jvm.Cond.code y bytes mx rt).before a s = true := by
  simp only [Bool.and_eq_true, beq_iff_eq, Bool.not_eq_true', decide_eq_true_eq] at h5
  obtain ⟨⟨⟨⟨⟨g1, g2⟩, g3⟩, g4⟩, g5⟩, g6⟩ := h5
  simp [Cond.before, Cond.holds, Cond.value, h1, h2, h3, h4, g1, g2, g3, g4, g5, g6]
def isCode : Jvm.Cond → Bool
  | .code _ _ _ _ => true
  | _ => false
theorem all_split {L : List Jvm.Cond} {P : Jvm.Cond → Bool} (h1 : L.all (fun c => isCode c || P c) = true) (h2 : ∀ c ∈ L.filter isCode, P c = true) : L.all P = true := by
  refine List.all_eq_true.mpr fun c hc => ?_
  have h := List.all_eq_true.mp h1 c hc
  rcases Bool.eq_false_or_eq_true (isCode c) with hi | hi
  · exact h2 c (List.mem_filter.mpr ⟨hc, hi⟩)
  · simpa [hi] using h
set_option maxRecDepth 65536 in
theorem w_c0 : (Jvm.Cond.code x code maxLocals ret).before args0 about1 = true := code_word (m := ⟨1, 2⟩) (meth := k1m2) (c := k1c2) (by decide +kernel) rfl rfl rfl (by decide +kernel)
set_option maxRecDepth 65536 in
theorem w_c1 : (Jvm.Cond.code ({ cls := "com/example/pairwright/pairwright/model/ResultLostPinLaw", name := "pick", desc := "(I)Lcom/example/pairwright/pairwright/model/Result;" } : Jvm.MethodName) method_2_code (1 : Nat) (Option.some (Jvm.ClassFile.FieldType.object "com/example/pairwright/pairwright/model/Result"))).before args0 about1 = true := code_word (m := ⟨1, 1⟩) (meth := k1m1) (c := k1c1) (by decide +kernel) rfl rfl rfl (by decide +kernel)
set_option maxRecDepth 65536 in
theorem w_c2 : (Jvm.Cond.code ({ cls := "com/example/pairwright/pairwright/model/Result", name := "lost", desc := "()Z" } : Jvm.MethodName) prog_38_method_8_code (1 : Nat) (Option.some Jvm.ClassFile.FieldType.boolean)).before args0 about1 = true := code_word (m := ⟨6, 3⟩) (meth := k6m3) (c := k6c3) (by decide +kernel) rfl rfl rfl (by decide +kernel)
set_option maxRecDepth 65536 in
theorem w_c3 : (Jvm.Cond.code ({ cls := "com/example/pairwright/pairwright/model/Result", name := "code", desc := "()C" } : Jvm.MethodName) prog_38_method_5_code (1 : Nat) (Option.some Jvm.ClassFile.FieldType.char)).before args0 about1 = true := code_word (m := ⟨6, 0⟩) (meth := k6m0) (c := k6c0) (by decide +kernel) rfl rfl rfl (by decide +kernel)
set_option maxRecDepth 65536 in
theorem w_c4 : (Jvm.Cond.code ({ cls := "com/example/pairwright/pairwright/model/Result", name := "played", desc := "()Z" } : Jvm.MethodName) prog_38_method_6_code (1 : Nat) (Option.some Jvm.ClassFile.FieldType.boolean)).before args0 about1 = true := code_word (m := ⟨6, 1⟩) (meth := k6m1) (c := k6c1) (by decide +kernel) rfl rfl rfl (by decide +kernel)
set_option maxRecDepth 65536 in
theorem w_c5 : (Jvm.Cond.code ({ cls := "com/example/pairwright/pairwright/model/Result", name := "won", desc := "()Z" } : Jvm.MethodName) prog_38_method_7_code (1 : Nat) (Option.some Jvm.ClassFile.FieldType.boolean)).before args0 about1 = true := code_word (m := ⟨6, 2⟩) (meth := k6m2) (c := k6c2) (by decide +kernel) rfl rfl rfl (by decide +kernel)
def codes1 : List Jvm.Cond := [Jvm.Cond.code x code maxLocals ret, Jvm.Cond.code ({ cls := "com/example/pairwright/pairwright/model/ResultLostPinLaw", name := "pick", desc := "(I)Lcom/example/pairwright/pairwright/model/Result;" } : Jvm.MethodName) method_2_code (1 : Nat) (Option.some (Jvm.ClassFile.FieldType.object "com/example/pairwright/pairwright/model/Result")), Jvm.Cond.code ({ cls := "com/example/pairwright/pairwright/model/Result", name := "lost", desc := "()Z" } : Jvm.MethodName) prog_38_method_8_code (1 : Nat) (Option.some Jvm.ClassFile.FieldType.boolean), Jvm.Cond.code ({ cls := "com/example/pairwright/pairwright/model/Result", name := "code", desc := "()C" } : Jvm.MethodName) prog_38_method_5_code (1 : Nat) (Option.some Jvm.ClassFile.FieldType.char), Jvm.Cond.code ({ cls := "com/example/pairwright/pairwright/model/Result", name := "played", desc := "()Z" } : Jvm.MethodName) prog_38_method_6_code (1 : Nat) (Option.some Jvm.ClassFile.FieldType.boolean), Jvm.Cond.code ({ cls := "com/example/pairwright/pairwright/model/Result", name := "won", desc := "()Z" } : Jvm.MethodName) prog_38_method_7_code (1 : Nat) (Option.some Jvm.ClassFile.FieldType.boolean)]
set_option maxRecDepth 65536 in
theorem codes_eq : words1.filter isCode = codes1 := rfl
theorem w_codes : ∀ c ∈ words1.filter isCode, c.before args0 about1 = true := by
  rw [codes_eq]
  intro c hc
  simp only [codes1, List.mem_cons, List.not_mem_nil, or_false] at hc
  rcases hc with rfl | rfl | rfl | rfl | rfl | rfl
  · exact w_c0
  · exact w_c1
  · exact w_c2
  · exact w_c3
  · exact w_c4
  · exact w_c5
set_option maxRecDepth 65536 in
theorem w_t1 : (words1.take 24).all (fun c => isCode c || c.before args0 about1) = true := by decide +kernel
set_option maxRecDepth 65536 in
theorem w_t2 : ((words1.drop 24).take 24).all (fun c => isCode c || c.before args0 about1) = true := by decide +kernel
set_option maxRecDepth 65536 in
theorem w_t3 : ((words1.drop 24).drop 24).all (fun c => isCode c || c.before args0 about1) = true := by decide +kernel
theorem w_tables : (allAtoms (Jvm.Cond.code x code maxLocals ret :: tables_1)).before args0 about1 = true := by
  rw [allAtoms_all]
  show words1.all (fun c => c.before args0 about1) = true
  refine all_split ?_ w_codes
  rw [← List.take_append_drop 24 words1, List.all_append, w_t1, ← List.take_append_drop 24 (words1.drop 24), List.all_append, w_t2, w_t3]
  rfl
set_option maxRecDepth 65536 in
theorem w_case : (Jvm.Cond.and given_1 narrow_1).before args0 about1 = true := by decide +kernel
theorem w_applies : (headSpec (Jvm.Cond.code x code maxLocals ret :: tables_1) room_1).applies x e0.platform about1 = true :=
  (Spec.applies_iff w_frames).mpr ⟨w_running, w_runnable, w_alone, w_named, w_hears, w_ripe, w_room, w_tables⟩
theorem atStart : AtStart classFile x code maxLocals ret World_1 tables_1 room_1 Calls_1 rest_1 Pre_1 launch0 p0 e0 about1 theMethod args0 below0 :=
  ⟨lists_1, trivial, launch0.admits_env _ _ _, launch0.least_env, fairChoices_fair.cas, fairChoices_fair.clock, w_frames, w_args, w_heap, w_applies, trivial, trivial, w_case⟩
end start1
theorem witness_1 : WitnessClaimed_1 := ⟨start1.p0, start1.e0, start1.about1, start1.theMethod, start1.args0, start1.below0, start1.atStart⟩
end Jvm.Pilot.@@N@@
