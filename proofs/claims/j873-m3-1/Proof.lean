import JvmDerived
import JvmDerived.Pilot.@@N@@Statement
import JvmDerived.Pilot.@@N@@Code
set_option linter.unusedVariables false
set_option linter.unusedSimpArgs false
namespace Jvm.RoadKit
open Sem ClassFile Op Lib Jvm.Stand Jvm.Free Jvm.LawKit
section New
variable {p : Program} {l : Launch} {e : Env} {R : Room} {s : State} {m : MethodId} {args : Array Value} {below : List Frame} {meth : Method} {c : Code} {T : State} {locs : List Loc} {cells slots : Nat}
theorem retI (X : Stand p l e R s m args below meth c T locs cells slots) (hx : p.tables.exec = Jvm.exec) {pc : Nat} {Ls : Array Slot} {z : Int32} {rest : List Value} (hret : meth.sig.returnType = some .int) (hd : decode c.code pc = .ok (.ireturn, 1)) {fs : List Frame}
    (hl : ∀ (f : JFrame) (acts : List Action), f.method = m → f.locked = none → f.entered = [] → (doReturn e (T.setTop f) acts (some (.int z))).1 = T.setFrames fs) : Steps p.tables e below (T.setTop (mkF m pc Ls (.int z :: rest))) (T.setFrames fs) := by
  have hm' : T.vm.method? m = some meth := X.method'
  have hn : narrow .int (.int z) = .int z := rfl
  show Steps p.tables e below (T.setTop { method := m, pc := pc, locals := Ls, stack := _ :: rest, locked := none }) _
  jvm_step X.here [X.here.top, hx, hd, hm', hret, hn]
  first | (intro acts; rw [hl _ acts rfl rfl rfl]) | rw [hl _ _ rfl rfl rfl]
  exact Steps.refl _
end New
end Jvm.RoadKit
namespace Jvm.Pilot.@@N@@
open Jvm Jvm.ClassFile Sem Op Lib Jvm.Free Jvm.Stand Jvm.LawKit Jvm.RoadKit Bundle Jvm.Pilot.@@N@@.Jvm.D
def own_max (a b : Int64) : Int64 := if a < b then b else a
def own_pa (age r now : Int64) : Int32 := if age = (9223372036854775807 : Int64) then 0 else if r < now - age then 1 else 0
theorem own_z (x : Int64) : 0 ≤ (x &&& (9223372036854775807 : Int64)).toInt := (c_andSL _ _).2.2 (by decide)
theorem own_max1 (x : Int64) : 1 ≤ (own_max (1 : Int64) x).toInt := by
  unfold own_max
  have h1 : (1 : Int64).toInt = 1 := by decide
  split
  · rename_i h; rw [Int64.lt_iff_toInt_lt] at h; omega
  · omega
theorem own_nlt (a : Int64) (h : 1 ≤ a.toInt) : ¬ lcmpW a (1 : Int64) < 0 := by
  rw [lw_lt, Int64.lt_iff_toInt_lt]
  have h1 : (1 : Int64).toInt = 1 := by decide
  omega
theorem own_neg (age r now : Int64) (h1 : 1 ≤ age.toInt) (h2 : 0 ≤ now.toInt) (hr : lcmpW r (0 : Int64) < 0) : lcmpW (r + age) now < 0 ↔ r < now - age := by
  rw [lw_lt, Int64.lt_iff_toInt_lt] at *
  rw [Int64.lt_iff_toInt_lt]
  have a := c_ladd r age
  have b := c_lsub now age
  have c1 := rng64 r; have c2 := rng64 age; have c3 := rng64 now; have c4 := rng64 (r + age); have c5 := rng64 (now - age)
  have h0 : (0 : Int64).toInt = 0 := by decide
  omega
theorem own_pos (age r now : Int64) (h1 : 1 ≤ age.toInt) (h2 : 0 ≤ now.toInt) (hr : ¬ lcmpW r (0 : Int64) < 0) : (0 : Int32) < lcmpW (now - r) age ↔ r < now - age := by
  rw [lw_lt, Int64.lt_iff_toInt_lt] at hr
  rw [lw_gt, Int64.lt_iff_toInt_lt, Int64.lt_iff_toInt_lt]
  have a := c_lsub now r
  have b := c_lsub now age
  have c1 := rng64 r; have c2 := rng64 age; have c3 := rng64 now; have c4 := rng64 (now - r); have c5 := rng64 (now - age)
  have h0 : (0 : Int64).toInt = 0 := by decide
  omega
theorem own_pa0 {age r now : Int64} (h : lcmpW age (9223372036854775807 : Int64) = 0) : own_pa age r now = 0 := by
  rw [lw_eq] at h; unfold own_pa; rw [if_pos h]
theorem own_pa1 {age r now : Int64} (h : ¬ lcmpW age (9223372036854775807 : Int64) = 0) (q : r < now - age) : own_pa age r now = 1 := by
  rw [lw_eq] at h; unfold own_pa; rw [if_neg h, if_pos q]
theorem own_pa2 {age r now : Int64} (h : ¬ lcmpW age (9223372036854775807 : Int64) = 0) (q : ¬ r < now - age) : own_pa age r now = 0 := by
  rw [lw_eq] at h; unfold own_pa; rw [if_neg h, if_neg q]
theorem own_nar01 {z : Int32} (h : z = 0 ∨ z = 1) : nar .boolean z = z := by rcases h with rfl | rfl <;> decide
theorem own_mmax_d0 : decode jdk_29_method_66_code 0 = .ok (.lload_n 0, 1) := by decide +kernel
theorem own_mmax_d1 : decode jdk_29_method_66_code 1 = .ok (.lload_n 2, 1) := by decide +kernel
theorem own_mmax_d2 : decode jdk_29_method_66_code 2 = .ok (.lcmp, 1) := by decide +kernel
theorem own_mmax_d3 : decode jdk_29_method_66_code 3 = .ok (.ifCond .lt 7, 3) := by decide +kernel
theorem own_mmax_d6 : decode jdk_29_method_66_code 6 = .ok (.lload_n 0, 1) := by decide +kernel
theorem own_mmax_d7 : decode jdk_29_method_66_code 7 = .ok (.goto 4, 3) := by decide +kernel
theorem own_mmax_d10 : decode jdk_29_method_66_code 10 = .ok (.lload_n 2, 1) := by decide +kernel
theorem own_mmax_d11 : decode jdk_29_method_66_code 11 = .ok (.lreturn, 1) := by decide +kernel
theorem own_mmax_ef (m : MethodId) (x0 : Int64) (x1 : Int64) : entryFrame m #[(.long x0), (.long x1)] 4 = mkF m 0 #[.val (.long x0), .second, .val (.long x1), .second] [] := by first | (simp [entryFrame, mkF, argsToLocals, Value.category]; done) | rfl
def Q_own_mmax (Z : State) (q1 : Int64) (q2 : Int64) (h0 : Heap) (n0 : Nat) (v : Option Value) (h : Heap) (L : List Loc) : Prop := v = some (.long (own_max q1 q2)) ∧ Fr n0 L ∧ h = h0
set_option maxRecDepth 65536 in
set_option maxHeartbeats 40000000 in
theorem own_mmax (l : Launch) (Z : State) (a0 : Array Value) (hw : ∀ d ∈ tables_1, d.before a0 Z = true) (ws : List Jvm.Cond) (q1 : Int64) (q2 : Int64) (h0 : Heap) (n0 : Nat) (Z0 : n0 ≤ h0.size) :
    MetFree l (⟨"java/lang/Math", "max", "(JJ)J"⟩ : MethodName) (head1 (Jvm.Cond.code (⟨"java/lang/Math", "max", "(JJ)J"⟩ : MethodName) jdk_29_method_66_code 4 (some .long) :: ws) ({ frames := 0, cells := 0, slots := 0, locals := 0 } : Room)) (fun a U => a = #[(.long q1), (.long q2)] ∧ Z.Warmed39 U.vm ∧ U.heap = h0) (fun _ _ _ _ _ => True) (fun _ U o U' => ∃ v L, o = .returned v ∧ Q_own_mmax Z q1 q2 h0 n0 v U'.heap L ∧ FrameEnd U o U' L ({ frames := 0, cells := 0, slots := 0, locals := 0 } : Room).cells ({ frames := 0, cells := 0, slots := 0, locals := 0 } : Room).slots) := by
  refine MetFree.of_bodySF (Jvm.Free.JP.mathPlain rfl (by decide +kernel)) hisR ?_
  intro p e s m args below meth c s₁ Bd hml0 hP hK
  obtain ⟨rfl, hZ, hh⟩ := hP
  have hx := Bd.exec
  have hby := Bd.bytes
  have hml : c.maxLocals = 4 := hml0
  have hown : s.vm.findClass "java/lang/Math" = some m.cls := findClass_of_methodNamed Bd.named
  have hnm := (name_of_methodNamed Bd.named Bd.method).1
  have X0 : Stand p l e ({ frames := 0, cells := 0, slots := 0, locals := 0 } : Room) s m #[(.long q1), (.long q2)] below meth c s₁ [] 0 0 := Stand.of_body Bd
  have e0 : s₁.heap = h0 := by rw [← hh, Bd.state]; rfl
  have N0 := Fr.nil n0
  have pp0 : ∀ t, Steps p.tables e below (s₁.setTop (mkF m 0 #[.val (.long q1), .second, .val (.long q2), .second] [])) t → Steps p.tables e below (s₁.setTop (entryFrame m #[(.long q1), (.long q2)] 4)) t := fun t k => castTop (own_mmax_ef m q1 q2) k
  have pp1 : ∀ t, Steps p.tables e below (s₁.setTop (mkF m 3 #[.val (.long q1), .second, .val (.long q2), .second] [(.int (lcmpW q1 q2))])) t → Steps p.tables e below (s₁.setTop (entryFrame m #[(.long q1), (.long q2)] 4)) t := fun t k => pp0 t (by
    refine XS.lloadN X0.here hx rfl (hb hby own_mmax_d0) rfl ?_
    show Steps p.tables e below (s₁.setTop (mkF m 1 #[.val (.long q1), .second, .val (.long q2), .second] [(.long q1)])) _
    refine XS.lloadN X0.here hx rfl (hb hby own_mmax_d1) rfl ?_
    show Steps p.tables e below (s₁.setTop (mkF m 2 #[.val (.long q1), .second, .val (.long q2), .second] [(.long q2), (.long q1)])) _
    refine XS.lcmp X0.here hx rfl (hb hby own_mmax_d2) rfl ?_
    show Steps p.tables e below (s₁.setTop (mkF m 3 #[.val (.long q1), .second, .val (.long q2), .second] [(.int (lcmpW q1 q2))])) _
    exact k)
  by_cases hc3 : (lcmpW q1 q2) < (0 : Int32)
  · have pp2 : ∀ t, Steps p.tables e below (s₁.setTop (mkF m 11 #[.val (.long q1), .second, .val (.long q2), .second] [(.long q2)])) t → Steps p.tables e below (s₁.setTop (entryFrame m #[(.long q1), (.long q2)] 4)) t := fun t k => pp1 t (by
      refine XS.ifYes X0.here hx rfl (pc0 := 3) (pc' := 10) rfl (hb hby own_mmax_d3) rfl ((if0 _ _).trans (tlt hc3).1) (by decide) (by decide) ?_
      show Steps p.tables e below (s₁.setTop (mkF m 10 #[.val (.long q1), .second, .val (.long q2), .second] [])) _
      refine XS.lloadN X0.here hx rfl (hb hby own_mmax_d10) rfl ?_
      show Steps p.tables e below (s₁.setTop (mkF m 11 #[.val (.long q1), .second, .val (.long q2), .second] [(.long q2)])) _
      exact k)
    obtain ⟨fs, hr, hrun, hended, hW, hsame⟩ := X0.leave (v := some (.long q2)) (fun h => by rw [Bd.returns] at h; cases h)
    refine ⟨_, _, pp2 _ ?_, hrun, hended, _, _, rfl, ?_, ⟨_, rfl⟩, hW, hsame.mono (by decide) (by decide)⟩
    · exact retOut X0 hx Bd.returns rfl (Or.inr (Or.inl ⟨rfl, rfl, _, rfl⟩)) (hb hby own_mmax_d11) hr
    · show Q_own_mmax Z q1 q2 h0 n0 _ s₁.heap _
      rw [e0]
      exact ⟨by rw [own_max, if_pos ((lw_lt _ _).mp hc3)], N0, rfl⟩
  · have pp3 : ∀ t, Steps p.tables e below (s₁.setTop (mkF m 11 #[.val (.long q1), .second, .val (.long q2), .second] [(.long q1)])) t → Steps p.tables e below (s₁.setTop (entryFrame m #[(.long q1), (.long q2)] 4)) t := fun t k => pp1 t (by
      refine XS.ifNo X0.here hx rfl (hb hby own_mmax_d3) rfl ((if0 _ _).trans (flt hc3).1) ?_
      show Steps p.tables e below (s₁.setTop (mkF m 6 #[.val (.long q1), .second, .val (.long q2), .second] [])) _
      refine XS.lloadN X0.here hx rfl (hb hby own_mmax_d6) rfl ?_
      show Steps p.tables e below (s₁.setTop (mkF m 7 #[.val (.long q1), .second, .val (.long q2), .second] [(.long q1)])) _
      refine XS.goto X0.here hx rfl (pc0 := 7) (pc' := 11) rfl (hb hby own_mmax_d7) (by decide) (by decide) ?_
      show Steps p.tables e below (s₁.setTop (mkF m 11 #[.val (.long q1), .second, .val (.long q2), .second] [(.long q1)])) _
      exact k)
    obtain ⟨fs, hr, hrun, hended, hW, hsame⟩ := X0.leave (v := some (.long q1)) (fun h => by rw [Bd.returns] at h; cases h)
    refine ⟨_, _, pp3 _ ?_, hrun, hended, _, _, rfl, ?_, ⟨_, rfl⟩, hW, hsame.mono (by decide) (by decide)⟩
    · exact retOut X0 hx Bd.returns rfl (Or.inr (Or.inl ⟨rfl, rfl, _, rfl⟩)) (hb hby own_mmax_d11) hr
    · show Q_own_mmax Z q1 q2 h0 n0 _ s₁.heap _
      rw [e0]
      exact ⟨by rw [own_max, if_neg (fun q => hc3 ((lw_lt _ _).mpr q))], N0, rfl⟩
theorem own_init_d0 : decode prog_99_method_1_code 0 = .ok (.aload_n 0, 1) := by decide +kernel
theorem own_init_d1 : decode prog_99_method_1_code 1 = .ok (.invokespecial 5, 3) := by decide +kernel
theorem own_init_d4 : decode prog_99_method_1_code 4 = .ok (.lload_n 1, 1) := by decide +kernel
theorem own_init_d5 : decode prog_99_method_1_code 5 = .ok (.lconst 1, 1) := by decide +kernel
theorem own_init_d6 : decode prog_99_method_1_code 6 = .ok (.lcmp, 1) := by decide +kernel
theorem own_init_d7 : decode prog_99_method_1_code 7 = .ok (.ifCond .lt 9, 3) := by decide +kernel
theorem own_init_d10 : decode prog_99_method_1_code 10 = .ok (.lload_n 3, 1) := by decide +kernel
theorem own_init_d11 : decode prog_99_method_1_code 11 = .ok (.lconst 0, 1) := by decide +kernel
theorem own_init_d12 : decode prog_99_method_1_code 12 = .ok (.lcmp, 1) := by decide +kernel
theorem own_init_d13 : decode prog_99_method_1_code 13 = .ok (.ifCond .ge 18, 3) := by decide +kernel
theorem own_init_d31 : decode prog_99_method_1_code 31 = .ok (.aload_n 0, 1) := by decide +kernel
theorem own_init_d32 : decode prog_99_method_1_code 32 = .ok (.lload_n 1, 1) := by decide +kernel
theorem own_init_d33 : decode prog_99_method_1_code 33 = .ok (.putfield 20, 3) := by decide +kernel
theorem own_init_d36 : decode prog_99_method_1_code 36 = .ok (.aload_n 0, 1) := by decide +kernel
theorem own_init_d37 : decode prog_99_method_1_code 37 = .ok (.lload_n 3, 1) := by decide +kernel
theorem own_init_d38 : decode prog_99_method_1_code 38 = .ok (.putfield 26, 3) := by decide +kernel
theorem own_init_d41 : decode prog_99_method_1_code 41 = .ok (.return_, 1) := by decide +kernel
theorem own_init_pn : plainName "com/example/keen_broker/keenbroker/store/Retention" = true := by first | (simp [plainName, overriddenIn]; done) | decide +kernel
theorem own_init_ef (m : MethodId) (x0 : Addr) (x1 : Int64) (x2 : Int64) : entryFrame m #[(.ref x0), (.long x1), (.long x2)] 5 = mkF m 0 #[.val (.ref x0), .val (.long x1), .second, .val (.long x2), .second] [] := by first | (simp [entryFrame, mkF, argsToLocals, Value.category]; done) | rfl
def Q_own_init (Z : State) (a1 : Addr) (q1 : Int64) (q2 : Int64) (u1 : Value) (u2 : Value) (h0 : Heap) (n0 : Nat) (v : Option Value) (h : Heap) (L : List Loc) : Prop := v = none ∧ Fr n0 L ∧ Keep h0 h [a1] ∧ Exa Z h a1 "com/example/keen_broker/keenbroker/store/Retention" ∧ Fld Z h a1 "com/example/keen_broker/keenbroker/store/Retention" "ageMillis" "J" (.long q1)
set_option maxRecDepth 65536 in
set_option maxHeartbeats 40000000 in
theorem own_init (l : Launch) (Z : State) (a0 : Array Value) (hw : ∀ d ∈ tables_1, d.before a0 Z = true) (ws : List Jvm.Cond) (a1 : Addr) (q1 : Int64) (q2 : Int64) (u1 : Value) (u2 : Value) (h0 : Heap) (n0 : Nat) (Z0 : n0 ≤ h0.size) (E_a1 : Exa Z h0 a1 "com/example/keen_broker/keenbroker/store/Retention") (FA : Fld Z h0 a1 "com/example/keen_broker/keenbroker/store/Retention" "ageMillis" "J" u1) (FB : Fld Z h0 a1 "com/example/keen_broker/keenbroker/store/Retention" "bytes" "J" u2) (g_a1 : n0 ≤ a1) (hq1 : ¬ lcmpW q1 (1 : Int64) < 0) (hq2 : ¬ lcmpW q2 (0 : Int64) < 0) :
    MetFree l (⟨"com/example/keen_broker/keenbroker/store/Retention", "<init>", "(JJ)V"⟩ : MethodName) (head1 (Jvm.Cond.code (⟨"com/example/keen_broker/keenbroker/store/Retention", "<init>", "(JJ)V"⟩ : MethodName) prog_99_method_1_code 5 none :: ws) ({ frames := 1, cells := 0, slots := 0, locals := 12 } : Room)) (fun a U => a = #[(.ref a1), (.long q1), (.long q2)] ∧ Z.Warmed39 U.vm ∧ U.heap = h0) (fun _ _ _ _ _ => True) (fun _ U o U' => ∃ v L, o = .returned v ∧ Q_own_init Z a1 q1 q2 u1 u2 h0 n0 v U'.heap L ∧ FrameEnd U o U' L ({ frames := 1, cells := 0, slots := 0, locals := 12 } : Room).cells ({ frames := 1, cells := 0, slots := 0, locals := 12 } : Room).slots) := by
  refine MetFree.of_bodySF (plainFor_of_name own_init_pn) hisR ?_
  intro p e s m args below meth c s₁ Bd hml0 hP hK
  obtain ⟨rfl, hZ, hh⟩ := hP
  have hx := Bd.exec
  have hby := Bd.bytes
  have hml : c.maxLocals = 5 := hml0
  have hown : s.vm.findClass "com/example/keen_broker/keenbroker/store/Retention" = some m.cls := findClass_of_methodNamed Bd.named
  have hnm := (name_of_methodNamed Bd.named Bd.method).1
  have X0 : Stand p l e ({ frames := 1, cells := 0, slots := 0, locals := 12 } : Room) s m #[(.ref a1), (.long q1), (.long q2)] below meth c s₁ [] 0 0 := Stand.of_body Bd
  have e0 : s₁.heap = h0 := by rw [← hh, Bd.state]; rfl
  have N0 := Fr.nil n0
  have pp0 : ∀ t, Steps p.tables e below (s₁.setTop (mkF m 0 #[.val (.ref a1), .val (.long q1), .second, .val (.long q2), .second] [])) t → Steps p.tables e below (s₁.setTop (entryFrame m #[(.ref a1), (.long q1), (.long q2)] 5)) t := fun t k => castTop (own_init_ef m a1 q1 q2) k
  have pp1 : ∀ t, Steps p.tables e below (s₁.setTop (mkF m 1 #[.val (.ref a1), .val (.long q1), .second, .val (.long q2), .second] [(.ref a1)])) t → Steps p.tables e below (s₁.setTop (entryFrame m #[(.ref a1), (.long q1), (.long q2)] 5)) t := fun t k => pp0 t (by
    refine XS.aloadN X0.here hx rfl (hb hby own_init_d0) rfl rfl ?_
    show Steps p.tables e below (s₁.setTop (mkF m 1 #[.val (.ref a1), .val (.long q1), .second, .val (.long q2), .second] [(.ref a1)])) _
    exact k)
  obtain ⟨T2, X2, e2, st2⟩ := initO X0 hx hZ hown (hw _ (List.mem_of_getElem? (i := 11) rfl)) (hw _ (List.mem_of_getElem? (i := 12) rfl)) (hw _ (List.mem_of_getElem? (i := 13) rfl)) e0 (g := (mkF m 1 #[.val (.ref a1), .val (.long q1), .second, .val (.long q2), .second] [(.ref a1)])) rfl (by rw [hml]; rfl) rfl (hb hby own_init_d1) (by decide) (W := 0) (by show 2 * 0 + _ ≤ _; exact Nat.le_of_eq rfl) (by decide)
  have pp3 : ∀ t, Steps p.tables e below (T2.setTop (mkF m 4 #[.val (.ref a1), .val (.long q1), .second, .val (.long q2), .second] [])) t → Steps p.tables e below (s₁.setTop (entryFrame m #[(.ref a1), (.long q1), (.long q2)] 5)) t := fun t k => pp1 t (st2 t k)
  have pp4 : ∀ t, Steps p.tables e below (T2.setTop (mkF m 33 #[.val (.ref a1), .val (.long q1), .second, .val (.long q2), .second] [(.long q1), (.ref a1)])) t → Steps p.tables e below (s₁.setTop (entryFrame m #[(.ref a1), (.long q1), (.long q2)] 5)) t := fun t k => pp3 t (by
    refine XS.lloadN X2.here hx rfl (hb hby own_init_d4) rfl ?_
    show Steps p.tables e below (T2.setTop (mkF m 5 #[.val (.ref a1), .val (.long q1), .second, .val (.long q2), .second] [(.long q1)])) _
    refine XS.lconst X2.here hx rfl (hb hby own_init_d5) ?_
    show Steps p.tables e below (T2.setTop (mkF m 6 #[.val (.ref a1), .val (.long q1), .second, .val (.long q2), .second] [(.long (1 : Int64)), (.long q1)])) _
    refine XS.lcmp X2.here hx rfl (hb hby own_init_d6) rfl ?_
    show Steps p.tables e below (T2.setTop (mkF m 7 #[.val (.ref a1), .val (.long q1), .second, .val (.long q2), .second] [(.int (lcmpW q1 (1 : Int64)))])) _
    refine XS.ifNo X2.here hx rfl (hb hby own_init_d7) rfl ((if0 _ _).trans (flt hq1).1) ?_
    show Steps p.tables e below (T2.setTop (mkF m 10 #[.val (.ref a1), .val (.long q1), .second, .val (.long q2), .second] [])) _
    refine XS.lloadN X2.here hx rfl (hb hby own_init_d10) rfl ?_
    show Steps p.tables e below (T2.setTop (mkF m 11 #[.val (.ref a1), .val (.long q1), .second, .val (.long q2), .second] [(.long q2)])) _
    refine XS.lconst X2.here hx rfl (hb hby own_init_d11) ?_
    show Steps p.tables e below (T2.setTop (mkF m 12 #[.val (.ref a1), .val (.long q1), .second, .val (.long q2), .second] [(.long (0 : Int64)), (.long q2)])) _
    refine XS.lcmp X2.here hx rfl (hb hby own_init_d12) rfl ?_
    show Steps p.tables e below (T2.setTop (mkF m 13 #[.val (.ref a1), .val (.long q1), .second, .val (.long q2), .second] [(.int (lcmpW q2 (0 : Int64)))])) _
    refine XS.ifYes X2.here hx rfl (pc0 := 13) (pc' := 31) rfl (hb hby own_init_d13) rfl ((if0 _ _).trans (flt hq2).2.1) (by decide) (by decide) ?_
    show Steps p.tables e below (T2.setTop (mkF m 31 #[.val (.ref a1), .val (.long q1), .second, .val (.long q2), .second] [])) _
    refine XS.aloadN X2.here hx rfl (hb hby own_init_d31) rfl rfl ?_
    show Steps p.tables e below (T2.setTop (mkF m 32 #[.val (.ref a1), .val (.long q1), .second, .val (.long q2), .second] [(.ref a1)])) _
    refine XS.lloadN X2.here hx rfl (hb hby own_init_d32) rfl ?_
    show Steps p.tables e below (T2.setTop (mkF m 33 #[.val (.ref a1), .val (.long q1), .second, .val (.long q2), .second] [(.long q1), (.ref a1)])) _
    exact k)
  obtain ⟨T5, h5, X5, e5, W5, st5⟩ := putF X2 hx hZ hown (host := "") (Or.inl (hw _ (List.mem_of_getElem? (i := 14) rfl))) Via.refl e2 FA E_a1 (Or.inr ⟨(hw _ (List.mem_of_getElem? (i := 15) rfl)), rfl, hnm⟩) (hw _ (List.mem_of_getElem? (i := 6) rfl)) (ty := .long) (by decide) rfl rfl (g := (mkF m 33 #[.val (.ref a1), .val (.long q1), .second, .val (.long q2), .second] [(.long q1), (.ref a1)])) rfl rfl (hb hby own_init_d33)
  have Fw5 := FA.same W5
  have N5 := Fr.snoc X5 N0 g_a1
  have pp6 : ∀ t, Steps p.tables e below (T5.setTop (mkF m 36 #[.val (.ref a1), .val (.long q1), .second, .val (.long q2), .second] [])) t → Steps p.tables e below (s₁.setTop (entryFrame m #[(.ref a1), (.long q1), (.long q2)] 5)) t := fun t k => pp4 t (st5 t k)
  have pp7 : ∀ t, Steps p.tables e below (T5.setTop (mkF m 38 #[.val (.ref a1), .val (.long q1), .second, .val (.long q2), .second] [(.long q2), (.ref a1)])) t → Steps p.tables e below (s₁.setTop (entryFrame m #[(.ref a1), (.long q1), (.long q2)] 5)) t := fun t k => pp6 t (by
    refine XS.aloadN X5.here hx rfl (hb hby own_init_d36) rfl rfl ?_
    show Steps p.tables e below (T5.setTop (mkF m 37 #[.val (.ref a1), .val (.long q1), .second, .val (.long q2), .second] [(.ref a1)])) _
    refine XS.lloadN X5.here hx rfl (hb hby own_init_d37) rfl ?_
    show Steps p.tables e below (T5.setTop (mkF m 38 #[.val (.ref a1), .val (.long q1), .second, .val (.long q2), .second] [(.long q2), (.ref a1)])) _
    exact k)
  obtain ⟨T8, h8, X8, e8, W8, st8⟩ := putF X5 hx hZ hown (host := "") (Or.inl (hw _ (List.mem_of_getElem? (i := 16) rfl))) Via.refl e5 (FB.other W5 (Or.inr (slot_ne (Or.inr (hw _ (List.mem_of_getElem? (i := 17) rfl))) (Or.inr (hw _ (List.mem_of_getElem? (i := 15) rfl))) (by decide) (t := .long) (t' := .long) (by decide) (by decide)))) (E_a1.wr W5) (Or.inr ⟨(hw _ (List.mem_of_getElem? (i := 17) rfl)), rfl, hnm⟩) (hw _ (List.mem_of_getElem? (i := 6) rfl)) (ty := .long) (by decide) rfl rfl (g := (mkF m 38 #[.val (.ref a1), .val (.long q1), .second, .val (.long q2), .second] [(.long q2), (.ref a1)])) rfl rfl (hb hby own_init_d38)
  have Fw8 := (FB.other W5 (Or.inr (slot_ne (Or.inr (hw _ (List.mem_of_getElem? (i := 17) rfl))) (Or.inr (hw _ (List.mem_of_getElem? (i := 15) rfl))) (by decide) (t := .long) (t' := .long) (by decide) (by decide)))).same W8
  have N8 := Fr.snoc X8 N5 g_a1
  have pp9 : ∀ t, Steps p.tables e below (T8.setTop (mkF m 41 #[.val (.ref a1), .val (.long q1), .second, .val (.long q2), .second] [])) t → Steps p.tables e below (s₁.setTop (entryFrame m #[(.ref a1), (.long q1), (.long q2)] 5)) t := fun t k => pp7 t (st8 t k)
  obtain ⟨fs, hr, hrun, hended, hW, hsame⟩ := X8.leave (v := none) (fun _ => rfl)
  refine ⟨_, _, pp9 _ ?_, hrun, hended, _, _, rfl, ?_, ⟨_, rfl⟩, hW, hsame.mono (by decide) (by decide)⟩
  · exact X8.returnOut hx Bd.returns (hb hby own_init_d41) hr
  · show Q_own_init Z a1 q1 q2 u1 u2 h0 n0 _ T8.heap _
    rw [e8]
    exact ⟨rfl, N8, (((Keep.refl h0 [a1]).wr W5 (Or.inl (List.mem_of_getElem? (i := 0) rfl))).wr W8 (Or.inl (List.mem_of_getElem? (i := 0) rfl))), ((E_a1.wr W5).wr W8), (Fw5.other W8 (Or.inr (slot_ne (Or.inr (hw _ (List.mem_of_getElem? (i := 15) rfl))) (Or.inr (hw _ (List.mem_of_getElem? (i := 17) rfl))) (by decide) (t := .long) (t' := .long) (by decide) (by decide))))⟩
theorem own_past_d0 : decode prog_99_method_4_code 0 = .ok (.aload_n 0, 1) := by decide +kernel
theorem own_past_d1 : decode prog_99_method_4_code 1 = .ok (.getfield 20, 3) := by decide +kernel
theorem own_past_d4 : decode prog_99_method_4_code 4 = .ok (.ldc2_w 29, 3) := by decide +kernel
theorem own_past_d7 : decode prog_99_method_4_code 7 = .ok (.lcmp, 1) := by decide +kernel
theorem own_past_d8 : decode prog_99_method_4_code 8 = .ok (.ifCond .eq 18, 3) := by decide +kernel
theorem own_past_d11 : decode prog_99_method_4_code 11 = .ok (.lload_n 1, 1) := by decide +kernel
theorem own_past_d12 : decode prog_99_method_4_code 12 = .ok (.lload_n 3, 1) := by decide +kernel
theorem own_past_d13 : decode prog_99_method_4_code 13 = .ok (.aload_n 0, 1) := by decide +kernel
theorem own_past_d14 : decode prog_99_method_4_code 14 = .ok (.getfield 20, 3) := by decide +kernel
theorem own_past_d17 : decode prog_99_method_4_code 17 = .ok (.lsub, 1) := by decide +kernel
theorem own_past_d18 : decode prog_99_method_4_code 18 = .ok (.lcmp, 1) := by decide +kernel
theorem own_past_d19 : decode prog_99_method_4_code 19 = .ok (.ifCond .ge 7, 3) := by decide +kernel
theorem own_past_d22 : decode prog_99_method_4_code 22 = .ok (.iconst 1, 1) := by decide +kernel
theorem own_past_d23 : decode prog_99_method_4_code 23 = .ok (.goto 4, 3) := by decide +kernel
theorem own_past_d26 : decode prog_99_method_4_code 26 = .ok (.iconst 0, 1) := by decide +kernel
theorem own_past_d27 : decode prog_99_method_4_code 27 = .ok (.ireturn, 1) := by decide +kernel
theorem own_past_pn : plainName "com/example/keen_broker/keenbroker/store/Retention" = true := by first | (simp [plainName, overriddenIn]; done) | decide +kernel
theorem own_past_ef (m : MethodId) (x0 : Addr) (x1 : Int64) (x2 : Int64) : entryFrame m #[(.ref x0), (.long x1), (.long x2)] 5 = mkF m 0 #[.val (.ref x0), .val (.long x1), .second, .val (.long x2), .second] [] := by first | (simp [entryFrame, mkF, argsToLocals, Value.category]; done) | rfl
def Q_own_past (Z : State) (a1 : Addr) (q1 : Int64) (q2 : Int64) (w1 : Int64) (h0 : Heap) (n0 : Nat) (v : Option Value) (h : Heap) (L : List Loc) : Prop := v = some (.int (own_pa w1 q1 q2)) ∧ Fr n0 L ∧ h = h0
set_option maxRecDepth 65536 in
set_option maxHeartbeats 40000000 in
theorem own_past (l : Launch) (Z : State) (a0 : Array Value) (hw : ∀ d ∈ tables_1, d.before a0 Z = true) (ws : List Jvm.Cond) (a1 : Addr) (q1 : Int64) (q2 : Int64) (w1 : Int64) (h0 : Heap) (n0 : Nat) (Z0 : n0 ≤ h0.size) (FA : Fld Z h0 a1 "com/example/keen_broker/keenbroker/store/Retention" "ageMillis" "J" (.long w1)) :
    MetFree l (⟨"com/example/keen_broker/keenbroker/store/Retention", "pastAge", "(JJ)Z"⟩ : MethodName) (head1 (Jvm.Cond.code (⟨"com/example/keen_broker/keenbroker/store/Retention", "pastAge", "(JJ)Z"⟩ : MethodName) prog_99_method_4_code 5 (some .boolean) :: ws) ({ frames := 0, cells := 0, slots := 0, locals := 0 } : Room)) (fun a U => a = #[(.ref a1), (.long q1), (.long q2)] ∧ Z.Warmed39 U.vm ∧ U.heap = h0) (fun _ _ _ _ _ => True) (fun _ U o U' => ∃ v L, o = .returned v ∧ Q_own_past Z a1 q1 q2 w1 h0 n0 v U'.heap L ∧ FrameEnd U o U' L ({ frames := 0, cells := 0, slots := 0, locals := 0 } : Room).cells ({ frames := 0, cells := 0, slots := 0, locals := 0 } : Room).slots) := by
  refine MetFree.of_bodySF (plainFor_of_name own_past_pn) hisR ?_
  intro p e s m args below meth c s₁ Bd hml0 hP hK
  obtain ⟨rfl, hZ, hh⟩ := hP
  have hx := Bd.exec
  have hby := Bd.bytes
  have hml : c.maxLocals = 5 := hml0
  have hown : s.vm.findClass "com/example/keen_broker/keenbroker/store/Retention" = some m.cls := findClass_of_methodNamed Bd.named
  have hnm := (name_of_methodNamed Bd.named Bd.method).1
  have X0 : Stand p l e ({ frames := 0, cells := 0, slots := 0, locals := 0 } : Room) s m #[(.ref a1), (.long q1), (.long q2)] below meth c s₁ [] 0 0 := Stand.of_body Bd
  have e0 : s₁.heap = h0 := by rw [← hh, Bd.state]; rfl
  have N0 := Fr.nil n0
  have pp0 : ∀ t, Steps p.tables e below (s₁.setTop (mkF m 0 #[.val (.ref a1), .val (.long q1), .second, .val (.long q2), .second] [])) t → Steps p.tables e below (s₁.setTop (entryFrame m #[(.ref a1), (.long q1), (.long q2)] 5)) t := fun t k => castTop (own_past_ef m a1 q1 q2) k
  have pp1 : ∀ t, Steps p.tables e below (s₁.setTop (mkF m 1 #[.val (.ref a1), .val (.long q1), .second, .val (.long q2), .second] [(.ref a1)])) t → Steps p.tables e below (s₁.setTop (entryFrame m #[(.ref a1), (.long q1), (.long q2)] 5)) t := fun t k => pp0 t (by
    refine XS.aloadN X0.here hx rfl (hb hby own_past_d0) rfl rfl ?_
    show Steps p.tables e below (s₁.setTop (mkF m 1 #[.val (.ref a1), .val (.long q1), .second, .val (.long q2), .second] [(.ref a1)])) _
    exact k)
  obtain ⟨T2, X2, e2, st2⟩ := getF X0 hx hZ hown (host := "") (Or.inl (hw _ (List.mem_of_getElem? (i := 14) rfl))) Via.refl e0 FA (g := (mkF m 1 #[.val (.ref a1), .val (.long q1), .second, .val (.long q2), .second] [(.ref a1)])) rfl rfl (hb hby own_past_d1)
  have pp3 : ∀ t, Steps p.tables e below (T2.setTop (mkF m 4 #[.val (.ref a1), .val (.long q1), .second, .val (.long q2), .second] [(.long w1)])) t → Steps p.tables e below (s₁.setTop (entryFrame m #[(.ref a1), (.long q1), (.long q2)] 5)) t := fun t k => pp1 t (st2 t k)
  have pp4 : ∀ t, Steps p.tables e below (T2.setTop (mkF m 8 #[.val (.ref a1), .val (.long q1), .second, .val (.long q2), .second] [(.int (lcmpW w1 (9223372036854775807 : Int64)))])) t → Steps p.tables e below (s₁.setTop (entryFrame m #[(.ref a1), (.long q1), (.long q2)] 5)) t := fun t k => pp3 t (by
    refine X2.ldc2Long hx hown (mvT hZ (hw _ (List.mem_of_getElem? (i := 23) rfl))) (g := (mkF m 4 #[.val (.ref a1), .val (.long q1), .second, .val (.long q2), .second] [(.long w1)])) rfl (hb hby own_past_d4) _ ?_
    show Steps p.tables e below (T2.setTop (mkF m 7 #[.val (.ref a1), .val (.long q1), .second, .val (.long q2), .second] [(.long (9223372036854775807 : Int64)), (.long w1)])) _
    refine XS.lcmp X2.here hx rfl (hb hby own_past_d7) rfl ?_
    show Steps p.tables e below (T2.setTop (mkF m 8 #[.val (.ref a1), .val (.long q1), .second, .val (.long q2), .second] [(.int (lcmpW w1 (9223372036854775807 : Int64)))])) _
    exact k)
  by_cases hc8 : (lcmpW w1 (9223372036854775807 : Int64)) = (0 : Int32)
  · have pp5 : ∀ t, Steps p.tables e below (T2.setTop (mkF m 27 #[.val (.ref a1), .val (.long q1), .second, .val (.long q2), .second] [(.int (0 : Int32))])) t → Steps p.tables e below (s₁.setTop (entryFrame m #[(.ref a1), (.long q1), (.long q2)] 5)) t := fun t k => pp4 t (by
      refine XS.ifYes X2.here hx rfl (pc0 := 8) (pc' := 26) rfl (hb hby own_past_d8) rfl ((if0 _ _).trans (teq hc8).1) (by decide) (by decide) ?_
      show Steps p.tables e below (T2.setTop (mkF m 26 #[.val (.ref a1), .val (.long q1), .second, .val (.long q2), .second] [])) _
      refine XS.iconst X2.here hx rfl (hb hby own_past_d26) ?_
      show Steps p.tables e below (T2.setTop (mkF m 27 #[.val (.ref a1), .val (.long q1), .second, .val (.long q2), .second] [(.int (0 : Int32))])) _
      exact k)
    obtain ⟨fs, hr, hrun, hended, hW, hsame⟩ := X2.leave (v := some (.int (0 : Int32))) (fun h => by rw [Bd.returns] at h; cases h)
    refine ⟨_, _, pp5 _ ?_, hrun, hended, _, _, rfl, ?_, ⟨_, rfl⟩, hW, hsame.mono (by decide) (by decide)⟩
    · exact retN X2 hx (t := .boolean) Bd.returns (by simp) (hb hby own_past_d27) hr
    · show Q_own_past Z a1 q1 q2 w1 h0 n0 _ T2.heap _
      rw [e2]
      exact ⟨by rw [own_pa0 hc8], N0, rfl⟩
  · have pp6 : ∀ t, Steps p.tables e below (T2.setTop (mkF m 14 #[.val (.ref a1), .val (.long q1), .second, .val (.long q2), .second] [(.ref a1), (.long q2), (.long q1)])) t → Steps p.tables e below (s₁.setTop (entryFrame m #[(.ref a1), (.long q1), (.long q2)] 5)) t := fun t k => pp4 t (by
      refine XS.ifNo X2.here hx rfl (hb hby own_past_d8) rfl ((if0 _ _).trans (feq hc8).1) ?_
      show Steps p.tables e below (T2.setTop (mkF m 11 #[.val (.ref a1), .val (.long q1), .second, .val (.long q2), .second] [])) _
      refine XS.lloadN X2.here hx rfl (hb hby own_past_d11) rfl ?_
      show Steps p.tables e below (T2.setTop (mkF m 12 #[.val (.ref a1), .val (.long q1), .second, .val (.long q2), .second] [(.long q1)])) _
      refine XS.lloadN X2.here hx rfl (hb hby own_past_d12) rfl ?_
      show Steps p.tables e below (T2.setTop (mkF m 13 #[.val (.ref a1), .val (.long q1), .second, .val (.long q2), .second] [(.long q2), (.long q1)])) _
      refine XS.aloadN X2.here hx rfl (hb hby own_past_d13) rfl rfl ?_
      show Steps p.tables e below (T2.setTop (mkF m 14 #[.val (.ref a1), .val (.long q1), .second, .val (.long q2), .second] [(.ref a1), (.long q2), (.long q1)])) _
      exact k)
    obtain ⟨T7, X7, e7, st7⟩ := getF X2 hx hZ hown (host := "") (Or.inl (hw _ (List.mem_of_getElem? (i := 14) rfl))) Via.refl e2 FA (g := (mkF m 14 #[.val (.ref a1), .val (.long q1), .second, .val (.long q2), .second] [(.ref a1), (.long q2), (.long q1)])) rfl rfl (hb hby own_past_d14)
    have pp8 : ∀ t, Steps p.tables e below (T7.setTop (mkF m 17 #[.val (.ref a1), .val (.long q1), .second, .val (.long q2), .second] [(.long w1), (.long q2), (.long q1)])) t → Steps p.tables e below (s₁.setTop (entryFrame m #[(.ref a1), (.long q1), (.long q2)] 5)) t := fun t k => pp6 t (st7 t k)
    have pp9 : ∀ t, Steps p.tables e below (T7.setTop (mkF m 19 #[.val (.ref a1), .val (.long q1), .second, .val (.long q2), .second] [(.int (lcmpW q1 (q2 - w1)))])) t → Steps p.tables e below (s₁.setTop (entryFrame m #[(.ref a1), (.long q1), (.long q2)] 5)) t := fun t k => pp8 t (by
      refine XS.lsub X7.here hx rfl (hb hby own_past_d17) rfl ?_
      show Steps p.tables e below (T7.setTop (mkF m 18 #[.val (.ref a1), .val (.long q1), .second, .val (.long q2), .second] [(.long (q2 - w1)), (.long q1)])) _
      refine XS.lcmp X7.here hx rfl (hb hby own_past_d18) rfl ?_
      show Steps p.tables e below (T7.setTop (mkF m 19 #[.val (.ref a1), .val (.long q1), .second, .val (.long q2), .second] [(.int (lcmpW q1 (q2 - w1)))])) _
      exact k)
    by_cases hc19 : (lcmpW q1 (q2 - w1)) < (0 : Int32)
    · have pp10 : ∀ t, Steps p.tables e below (T7.setTop (mkF m 27 #[.val (.ref a1), .val (.long q1), .second, .val (.long q2), .second] [(.int (1 : Int32))])) t → Steps p.tables e below (s₁.setTop (entryFrame m #[(.ref a1), (.long q1), (.long q2)] 5)) t := fun t k => pp9 t (by
        refine XS.ifNo X7.here hx rfl (hb hby own_past_d19) rfl ((if0 _ _).trans (tlt hc19).2.1) ?_
        show Steps p.tables e below (T7.setTop (mkF m 22 #[.val (.ref a1), .val (.long q1), .second, .val (.long q2), .second] [])) _
        refine XS.iconst X7.here hx rfl (hb hby own_past_d22) ?_
        show Steps p.tables e below (T7.setTop (mkF m 23 #[.val (.ref a1), .val (.long q1), .second, .val (.long q2), .second] [(.int (1 : Int32))])) _
        refine XS.goto X7.here hx rfl (pc0 := 23) (pc' := 27) rfl (hb hby own_past_d23) (by decide) (by decide) ?_
        show Steps p.tables e below (T7.setTop (mkF m 27 #[.val (.ref a1), .val (.long q1), .second, .val (.long q2), .second] [(.int (1 : Int32))])) _
        exact k)
      obtain ⟨fs, hr, hrun, hended, hW, hsame⟩ := X7.leave (v := some (.int (1 : Int32))) (fun h => by rw [Bd.returns] at h; cases h)
      refine ⟨_, _, pp10 _ ?_, hrun, hended, _, _, rfl, ?_, ⟨_, rfl⟩, hW, hsame.mono (by decide) (by decide)⟩
      · exact retN X7 hx (t := .boolean) Bd.returns (by simp) (hb hby own_past_d27) hr
      · show Q_own_past Z a1 q1 q2 w1 h0 n0 _ T7.heap _
        rw [e7]
        exact ⟨by rw [own_pa1 hc8 ((lw_lt _ _).mp hc19)], N0, rfl⟩
    · have pp11 : ∀ t, Steps p.tables e below (T7.setTop (mkF m 27 #[.val (.ref a1), .val (.long q1), .second, .val (.long q2), .second] [(.int (0 : Int32))])) t → Steps p.tables e below (s₁.setTop (entryFrame m #[(.ref a1), (.long q1), (.long q2)] 5)) t := fun t k => pp9 t (by
        refine XS.ifYes X7.here hx rfl (pc0 := 19) (pc' := 26) rfl (hb hby own_past_d19) rfl ((if0 _ _).trans (flt hc19).2.1) (by decide) (by decide) ?_
        show Steps p.tables e below (T7.setTop (mkF m 26 #[.val (.ref a1), .val (.long q1), .second, .val (.long q2), .second] [])) _
        refine XS.iconst X7.here hx rfl (hb hby own_past_d26) ?_
        show Steps p.tables e below (T7.setTop (mkF m 27 #[.val (.ref a1), .val (.long q1), .second, .val (.long q2), .second] [(.int (0 : Int32))])) _
        exact k)
      obtain ⟨fs, hr, hrun, hended, hW, hsame⟩ := X7.leave (v := some (.int (0 : Int32))) (fun h => by rw [Bd.returns] at h; cases h)
      refine ⟨_, _, pp11 _ ?_, hrun, hended, _, _, rfl, ?_, ⟨_, rfl⟩, hW, hsame.mono (by decide) (by decide)⟩
      · exact retN X7 hx (t := .boolean) Bd.returns (by simp) (hb hby own_past_d27) hr
      · show Q_own_past Z a1 q1 q2 w1 h0 n0 _ T7.heap _
        rw [e7]
        exact ⟨by rw [own_pa2 hc8 (fun q => hc19 ((lw_lt _ _).mpr q))], N0, rfl⟩
theorem pd__JJ_J : parseMethodDescriptor "(JJ)J" = some ⟨[.long, .long], some .long⟩ := by decide +kernel
theorem pd__JJ_V : parseMethodDescriptor "(JJ)V" = some ⟨[.long, .long], none⟩ := by decide +kernel
theorem pd__JJ_Z : parseMethodDescriptor "(JJ)Z" = some ⟨[.long, .long], some .boolean⟩ := by decide +kernel
theorem own_law_pn : plainName "com/example/keen_broker/keenbroker/store/RetentionPastAgePinLaw" = true := by first | (simp [plainName, overriddenIn]; done) | decide +kernel
theorem own_law_ef (m : MethodId) (x0 : Int64) (x1 : Int64) (x2 : Int64) (x3 : Int32) : entryFrame m #[(.long x0), (.long x1), (.long x2), (.int x3)] maxLocals = mkF m 0 #[.val (.long x0), .second, .val (.long x1), .second, .val (.long x2), .second, .val (.int x3), .unset, .unset, .unset, .unset, .unset, .unset, .unset, .unset, .unset] [] := by first | (simp [entryFrame, mkF, argsToLocals, Value.category, maxLocals]; done) | rfl
def Q_own_law (Z : State) (q1 : Int64) (q2 : Int64) (q3 : Int64) (p4 : Int32) (h0 : Heap) (n0 : Nat) (v : Option Value) (h : Heap) (L : List Loc) : Prop := v = some (.int 1) ∧ Fr n0 L
set_option maxRecDepth 65536 in
set_option maxHeartbeats 40000000 in
theorem own_law (l : Launch) (Z : State) (a0 : Array Value) (hw : ∀ d ∈ tables_1, d.before a0 Z = true) (ws : List Jvm.Cond) (q1 : Int64) (q2 : Int64) (q3 : Int64) (p4 : Int32) (h0 : Heap) (n0 : Nat) (Z0 : n0 ≤ h0.size) :
    MetFree l x (head1 (Jvm.Cond.code x code maxLocals ret :: ws) room_1) (fun a U => a = #[(.long q1), (.long q2), (.long q3), (.int p4)] ∧ Z.Warmed39 U.vm ∧ U.heap = h0) (fun _ _ _ _ _ => True) (fun _ U o U' => ∃ v L, o = .returned v ∧ Q_own_law Z q1 q2 q3 p4 h0 n0 v U'.heap L ∧ FrameEnd U o U' L room_1.cells room_1.slots) := by
  refine MetFree.of_bodySF (plainFor_of_name own_law_pn) hisR ?_
  intro p e s m args below meth c s₁ Bd hml0 hP hK
  obtain ⟨rfl, hZ, hh⟩ := hP
  have hx := Bd.exec
  have hby := Bd.bytes
  have hml : c.maxLocals = 16 := hml0
  have hown : s.vm.findClass "com/example/keen_broker/keenbroker/store/RetentionPastAgePinLaw" = some m.cls := findClass_of_methodNamed Bd.named
  have hnm := (name_of_methodNamed Bd.named Bd.method).1
  have X0 : Stand p l e room_1 s m #[(.long q1), (.long q2), (.long q3), (.int p4)] below meth c s₁ [] 0 0 := Stand.of_body Bd
  have e0 : s₁.heap = h0 := by rw [← hh, Bd.state]; rfl
  have N0 := Fr.nil n0
  have pp0 : ∀ t, Steps p.tables e below (s₁.setTop (mkF m 0 #[.val (.long q1), .second, .val (.long q2), .second, .val (.long q3), .second, .val (.int p4), .unset, .unset, .unset, .unset, .unset, .unset, .unset, .unset, .unset] [])) t → Steps p.tables e below (s₁.setTop (entryFrame m #[(.long q1), (.long q2), (.long q3), (.int p4)] maxLocals)) t := fun t k => castTop (own_law_ef m q1 q2 q3 p4) k
  have pp1 : ∀ t, Steps p.tables e below (s₁.setTop (mkF m 11 #[.val (.long q1), .second, .val (.long q2), .second, .val (.long q3), .second, .val (.int p4), .val (.long (q1 &&& (9223372036854775807 : Int64))), .second, .unset, .unset, .unset, .unset, .unset, .unset, .unset] [(.int (p4 &&& (1 : Int32)))])) t → Steps p.tables e below (s₁.setTop (entryFrame m #[(.long q1), (.long q2), (.long q3), (.int p4)] maxLocals)) t := fun t k => pp0 t (by
    refine XS.lloadN X0.here hx rfl (hb hby at_0) rfl ?_
    show Steps p.tables e below (s₁.setTop (mkF m 1 #[.val (.long q1), .second, .val (.long q2), .second, .val (.long q3), .second, .val (.int p4), .unset, .unset, .unset, .unset, .unset, .unset, .unset, .unset, .unset] [(.long q1)])) _
    refine X0.ldc2Long hx hown (mvT hZ (hw _ (List.mem_of_getElem? (i := 0) rfl))) (g := (mkF m 1 #[.val (.long q1), .second, .val (.long q2), .second, .val (.long q3), .second, .val (.int p4), .unset, .unset, .unset, .unset, .unset, .unset, .unset, .unset, .unset] [(.long q1)])) rfl (hb hby at_1) _ ?_
    show Steps p.tables e below (s₁.setTop (mkF m 4 #[.val (.long q1), .second, .val (.long q2), .second, .val (.long q3), .second, .val (.int p4), .unset, .unset, .unset, .unset, .unset, .unset, .unset, .unset, .unset] [(.long (9223372036854775807 : Int64)), (.long q1)])) _
    refine XS.land X0.here hx rfl (hb hby at_4) rfl ?_
    show Steps p.tables e below (s₁.setTop (mkF m 5 #[.val (.long q1), .second, .val (.long q2), .second, .val (.long q3), .second, .val (.int p4), .unset, .unset, .unset, .unset, .unset, .unset, .unset, .unset, .unset] [(.long (q1 &&& (9223372036854775807 : Int64)))])) _
    refine XS.lstore X0.here hx rfl (hb hby at_5) rfl (l' := #[.val (.long q1), .second, .val (.long q2), .second, .val (.long q3), .second, .val (.int p4), .val (.long (q1 &&& (9223372036854775807 : Int64))), .second, .unset, .unset, .unset, .unset, .unset, .unset, .unset]) rfl ?_
    show Steps p.tables e below (s₁.setTop (mkF m 7 #[.val (.long q1), .second, .val (.long q2), .second, .val (.long q3), .second, .val (.int p4), .val (.long (q1 &&& (9223372036854775807 : Int64))), .second, .unset, .unset, .unset, .unset, .unset, .unset, .unset] [])) _
    refine XS.iload X0.here hx rfl (hb hby at_7) rfl ?_
    show Steps p.tables e below (s₁.setTop (mkF m 9 #[.val (.long q1), .second, .val (.long q2), .second, .val (.long q3), .second, .val (.int p4), .val (.long (q1 &&& (9223372036854775807 : Int64))), .second, .unset, .unset, .unset, .unset, .unset, .unset, .unset] [(.int p4)])) _
    refine XS.iconst X0.here hx rfl (hb hby at_9) ?_
    show Steps p.tables e below (s₁.setTop (mkF m 10 #[.val (.long q1), .second, .val (.long q2), .second, .val (.long q3), .second, .val (.int p4), .val (.long (q1 &&& (9223372036854775807 : Int64))), .second, .unset, .unset, .unset, .unset, .unset, .unset, .unset] [(.int (1 : Int32)), (.int p4)])) _
    refine XS.iand X0.here hx rfl (hb hby at_10) rfl ?_
    show Steps p.tables e below (s₁.setTop (mkF m 11 #[.val (.long q1), .second, .val (.long q2), .second, .val (.long q3), .second, .val (.int p4), .val (.long (q1 &&& (9223372036854775807 : Int64))), .second, .unset, .unset, .unset, .unset, .unset, .unset, .unset] [(.int (p4 &&& (1 : Int32)))])) _
    exact k)
  generalize hnw : (q1 &&& (9223372036854775807 : Int64)) = nw at pp1
  have hnw0 : 0 ≤ nw.toInt := by rw [← hnw]; exact own_z q1
  obtain ⟨ag, T2, Lx2, X2, e2, N2, hag, pp2⟩ : ∃ (ag : Int64) (T' : State) (Lx : List Loc), Stand p l e room_1 s m #[(.long q1), (.long q2), (.long q3), (.int p4)] below meth c T' Lx 0 0 ∧ T'.heap = h0 ∧ Fr n0 Lx ∧ (1 ≤ ag.toInt) ∧ ∀ t, Steps p.tables e below (T'.setTop (mkF m 30 #[.val (.long q1), .second, .val (.long q2), .second, .val (.long q3), .second, .val (.int p4), .val (.long nw), .second, .unset, .unset, .unset, .unset, .unset, .unset, .unset] [(.long ag)])) t → Steps p.tables e below (s₁.setTop (entryFrame m #[(.long q1), (.long q2), (.long q3), (.int p4)] maxLocals)) t := by
    by_cases hc11 : (p4 &&& (1 : Int32)) = (0 : Int32)
    · have pp3 : ∀ t, Steps p.tables e below (s₁.setTop (mkF m 27 #[.val (.long q1), .second, .val (.long q2), .second, .val (.long q3), .second, .val (.int p4), .val (.long nw), .second, .unset, .unset, .unset, .unset, .unset, .unset, .unset] [(.long (q3 &&& (9223372036854775807 : Int64))), (.long (1 : Int64))])) t → Steps p.tables e below (s₁.setTop (entryFrame m #[(.long q1), (.long q2), (.long q3), (.int p4)] maxLocals)) t := fun t k => pp1 t (by
        refine XS.ifYes X0.here hx rfl (pc0 := 11) (pc' := 20) rfl (hb hby at_11) rfl ((if0 _ _).trans (teq hc11).1) (by decide) (by decide) ?_
        show Steps p.tables e below (s₁.setTop (mkF m 20 #[.val (.long q1), .second, .val (.long q2), .second, .val (.long q3), .second, .val (.int p4), .val (.long nw), .second, .unset, .unset, .unset, .unset, .unset, .unset, .unset] [])) _
        refine XS.lconst X0.here hx rfl (hb hby at_20) ?_
        show Steps p.tables e below (s₁.setTop (mkF m 21 #[.val (.long q1), .second, .val (.long q2), .second, .val (.long q3), .second, .val (.int p4), .val (.long nw), .second, .unset, .unset, .unset, .unset, .unset, .unset, .unset] [(.long (1 : Int64))])) _
        refine XS.lload X0.here hx rfl (hb hby at_21) rfl ?_
        show Steps p.tables e below (s₁.setTop (mkF m 23 #[.val (.long q1), .second, .val (.long q2), .second, .val (.long q3), .second, .val (.int p4), .val (.long nw), .second, .unset, .unset, .unset, .unset, .unset, .unset, .unset] [(.long q3), (.long (1 : Int64))])) _
        refine X0.ldc2Long hx hown (mvT hZ (hw _ (List.mem_of_getElem? (i := 0) rfl))) (g := (mkF m 23 #[.val (.long q1), .second, .val (.long q2), .second, .val (.long q3), .second, .val (.int p4), .val (.long nw), .second, .unset, .unset, .unset, .unset, .unset, .unset, .unset] [(.long q3), (.long (1 : Int64))])) rfl (hb hby at_23) _ ?_
        show Steps p.tables e below (s₁.setTop (mkF m 26 #[.val (.long q1), .second, .val (.long q2), .second, .val (.long q3), .second, .val (.int p4), .val (.long nw), .second, .unset, .unset, .unset, .unset, .unset, .unset, .unset] [(.long (9223372036854775807 : Int64)), (.long q3), (.long (1 : Int64))])) _
        refine XS.land X0.here hx rfl (hb hby at_26) rfl ?_
        show Steps p.tables e below (s₁.setTop (mkF m 27 #[.val (.long q1), .second, .val (.long q2), .second, .val (.long q3), .second, .val (.int p4), .val (.long nw), .second, .unset, .unset, .unset, .unset, .unset, .unset, .unset] [(.long (q3 &&& (9223372036854775807 : Int64))), (.long (1 : Int64))])) _
        exact k)
      obtain ⟨_, _, ⟨T4, L4, k4, n4⟩, -, X4, ⟨Lc4, hQ4, l4, y4, z4⟩, st4⟩ := Jvm.LawKit.callS X0 hx (y := (⟨"java/lang/Math", "max", "(JJ)J"⟩ : MethodName)) hown (mvT hZ (hw _ (List.mem_of_getElem? (i := 1) rfl))) (mvT hZ (hw _ (List.mem_of_getElem? (i := 2) rfl))) (mvT hZ (hw _ (List.mem_of_getElem? (i := 3) rfl))) (mvT hZ (hw _ (List.mem_of_getElem? (i := 4) rfl))) (by decide) (backOf (W := 0) (own_mmax l Z a0 hw [] (1 : Int64) (q3 &&& (9223372036854775807 : Int64)) h0 n0 Z0) hZ (hw _ (List.mem_of_getElem? (i := 4) rfl)) (hw _ (List.mem_of_getElem? (i := 3) rfl)) (by decide) (by decide)) (g := (mkF m 27 #[.val (.long q1), .second, .val (.long q2), .second, .val (.long q3), .second, .val (.int p4), .val (.long nw), .second, .unset, .unset, .unset, .unset, .unset, .unset, .unset] [(.long (q3 &&& (9223372036854775807 : Int64))), (.long (1 : Int64))])) rfl (by rw [hml]; rfl) (argsL := [(.long (1 : Int64)), (.long (q3 &&& (9223372036854775807 : Int64)))]) (rest := []) (lenOf pd__JJ_J rfl) rfl (by show 2 * 0 + _ ≤ _; exact Nat.le_of_eq rfl) (hb hby at_27) (fun _ _ => ⟨rfl, e0, (by decide : 0 + 0 ≤ _), (by decide : 0 + 0 ≤ _)⟩)
      dsimp only [Pt.U, Pt.locs, Pt.cells, Pt.slots] at X4 l4 y4 z4 st4 hQ4
      subst l4 y4 z4
      obtain ⟨rfl, N4q, s4⟩ := hQ4
      have N4 := Fr.app N0 N4q
      have pp5 : ∀ t, Steps p.tables e below (T4.setTop (mkF m 30 #[.val (.long q1), .second, .val (.long q2), .second, .val (.long q3), .second, .val (.int p4), .val (.long nw), .second, .unset, .unset, .unset, .unset, .unset, .unset, .unset] [(.long (own_max (1 : Int64) (q3 &&& (9223372036854775807 : Int64))))])) t → Steps p.tables e below (s₁.setTop (entryFrame m #[(.long q1), (.long q2), (.long q3), (.int p4)] maxLocals)) t := fun t k => pp3 t (st4 t k)
      exact ⟨(own_max (1 : Int64) (q3 &&& (9223372036854775807 : Int64))), _, _, X4, s4, N4, own_max1 _, pp5⟩
    · have pp6 : ∀ t, Steps p.tables e below (s₁.setTop (mkF m 30 #[.val (.long q1), .second, .val (.long q2), .second, .val (.long q3), .second, .val (.int p4), .val (.long nw), .second, .unset, .unset, .unset, .unset, .unset, .unset, .unset] [(.long (9223372036854775807 : Int64))])) t → Steps p.tables e below (s₁.setTop (entryFrame m #[(.long q1), (.long q2), (.long q3), (.int p4)] maxLocals)) t := fun t k => pp1 t (by
        refine XS.ifNo X0.here hx rfl (hb hby at_11) rfl ((if0 _ _).trans (feq hc11).1) ?_
        show Steps p.tables e below (s₁.setTop (mkF m 14 #[.val (.long q1), .second, .val (.long q2), .second, .val (.long q3), .second, .val (.int p4), .val (.long nw), .second, .unset, .unset, .unset, .unset, .unset, .unset, .unset] [])) _
        refine X0.ldc2Long hx hown (mvT hZ (hw _ (List.mem_of_getElem? (i := 0) rfl))) (g := (mkF m 14 #[.val (.long q1), .second, .val (.long q2), .second, .val (.long q3), .second, .val (.int p4), .val (.long nw), .second, .unset, .unset, .unset, .unset, .unset, .unset, .unset] [])) rfl (hb hby at_14) _ ?_
        show Steps p.tables e below (s₁.setTop (mkF m 17 #[.val (.long q1), .second, .val (.long q2), .second, .val (.long q3), .second, .val (.int p4), .val (.long nw), .second, .unset, .unset, .unset, .unset, .unset, .unset, .unset] [(.long (9223372036854775807 : Int64))])) _
        refine XS.goto X0.here hx rfl (pc0 := 17) (pc' := 30) rfl (hb hby at_17) (by decide) (by decide) ?_
        show Steps p.tables e below (s₁.setTop (mkF m 30 #[.val (.long q1), .second, .val (.long q2), .second, .val (.long q3), .second, .val (.int p4), .val (.long nw), .second, .unset, .unset, .unset, .unset, .unset, .unset, .unset] [(.long (9223372036854775807 : Int64))])) _
        exact k)
      exact ⟨(9223372036854775807 : Int64), _, _, X0, e0, N0, by decide, pp6⟩
  have pp7 : ∀ t, Steps p.tables e below (T2.setTop (mkF m 39 #[.val (.long q1), .second, .val (.long q2), .second, .val (.long q3), .second, .val (.int p4), .val (.long nw), .second, .val (.long ag), .second, .val (.long q2), .second, .unset, .unset, .unset] [(.int (p4 &&& (2 : Int32)))])) t → Steps p.tables e below (s₁.setTop (entryFrame m #[(.long q1), (.long q2), (.long q3), (.int p4)] maxLocals)) t := fun t k => pp2 t (by
    refine XS.lstore X2.here hx rfl (hb hby at_30) rfl (l' := #[.val (.long q1), .second, .val (.long q2), .second, .val (.long q3), .second, .val (.int p4), .val (.long nw), .second, .val (.long ag), .second, .unset, .unset, .unset, .unset, .unset]) rfl ?_
    show Steps p.tables e below (T2.setTop (mkF m 32 #[.val (.long q1), .second, .val (.long q2), .second, .val (.long q3), .second, .val (.int p4), .val (.long nw), .second, .val (.long ag), .second, .unset, .unset, .unset, .unset, .unset] [])) _
    refine XS.lloadN X2.here hx rfl (hb hby at_32) rfl ?_
    show Steps p.tables e below (T2.setTop (mkF m 33 #[.val (.long q1), .second, .val (.long q2), .second, .val (.long q3), .second, .val (.int p4), .val (.long nw), .second, .val (.long ag), .second, .unset, .unset, .unset, .unset, .unset] [(.long q2)])) _
    refine XS.lstore X2.here hx rfl (hb hby at_33) rfl (l' := #[.val (.long q1), .second, .val (.long q2), .second, .val (.long q3), .second, .val (.int p4), .val (.long nw), .second, .val (.long ag), .second, .val (.long q2), .second, .unset, .unset, .unset]) rfl ?_
    show Steps p.tables e below (T2.setTop (mkF m 35 #[.val (.long q1), .second, .val (.long q2), .second, .val (.long q3), .second, .val (.int p4), .val (.long nw), .second, .val (.long ag), .second, .val (.long q2), .second, .unset, .unset, .unset] [])) _
    refine XS.iload X2.here hx rfl (hb hby at_35) rfl ?_
    show Steps p.tables e below (T2.setTop (mkF m 37 #[.val (.long q1), .second, .val (.long q2), .second, .val (.long q3), .second, .val (.int p4), .val (.long nw), .second, .val (.long ag), .second, .val (.long q2), .second, .unset, .unset, .unset] [(.int p4)])) _
    refine XS.iconst X2.here hx rfl (hb hby at_37) ?_
    show Steps p.tables e below (T2.setTop (mkF m 38 #[.val (.long q1), .second, .val (.long q2), .second, .val (.long q3), .second, .val (.int p4), .val (.long nw), .second, .val (.long ag), .second, .val (.long q2), .second, .unset, .unset, .unset] [(.int (2 : Int32)), (.int p4)])) _
    refine XS.iand X2.here hx rfl (hb hby at_38) rfl ?_
    show Steps p.tables e below (T2.setTop (mkF m 39 #[.val (.long q1), .second, .val (.long q2), .second, .val (.long q3), .second, .val (.int p4), .val (.long nw), .second, .val (.long ag), .second, .val (.long q2), .second, .unset, .unset, .unset] [(.int (p4 &&& (2 : Int32)))])) _
    exact k)
  by_cases hc39 : (p4 &&& (2 : Int32)) = (0 : Int32)
  · have pp8 : ∀ t, Steps p.tables e below (T2.setTop (mkF m 86 #[.val (.long q1), .second, .val (.long q2), .second, .val (.long q3), .second, .val (.int p4), .val (.long nw), .second, .val (.long ag), .second, .val (.long q2), .second, .unset, .unset, .unset] [])) t → Steps p.tables e below (s₁.setTop (entryFrame m #[(.long q1), (.long q2), (.long q3), (.int p4)] maxLocals)) t := fun t k => pp7 t (by
      refine XS.ifYes X2.here hx rfl (pc0 := 39) (pc' := 86) rfl (hb hby at_39) rfl ((if0 _ _).trans (teq hc39).1) (by decide) (by decide) ?_
      show Steps p.tables e below (T2.setTop (mkF m 86 #[.val (.long q1), .second, .val (.long q2), .second, .val (.long q3), .second, .val (.int p4), .val (.long nw), .second, .val (.long ag), .second, .val (.long q2), .second, .unset, .unset, .unset] [])) _
      exact k)
    obtain ⟨T9, h9, X9, e9, E9, A9, D9, M9, st9⟩ := newO X2 hx hZ hown (hw _ (List.mem_of_getElem? (i := 5) rfl)) (hw _ (List.mem_of_getElem? (i := 6) rfl)) (hw _ (List.mem_of_getElem? (i := 7) rfl)) e2 (g := (mkF m 86 #[.val (.long q1), .second, .val (.long q2), .second, .val (.long q3), .second, .val (.int p4), .val (.long nw), .second, .val (.long ag), .second, .val (.long q2), .second, .unset, .unset, .unset] [])) rfl (hb hby at_86) (by decide) (by decide)
    obtain ⟨b9, g9⟩ : ∃ z, z = h0.size := ⟨_, rfl⟩
    rw [← g9] at A9 D9 M9 st9
    have g_b9 : n0 ≤ b9 := Nat.le_trans Z0 (Nat.le_of_eq g9.symm)
    have sz_b9 : h0.size ≤ b9 := Nat.le_trans (Keep.refl h0 []).1 (Nat.le_of_eq g9.symm)
    have F_ageMillis_b9 : Fld Z h9 b9 "com/example/keen_broker/keenbroker/store/Retention" "ageMillis" "J" (.long (0 : Int64)) := D9 (Or.inr (hw _ (List.mem_of_getElem? (i := 15) rfl))) (ty := .long) (by decide)
    have F_bytes_b9 : Fld Z h9 b9 "com/example/keen_broker/keenbroker/store/Retention" "bytes" "J" (.long (0 : Int64)) := D9 (Or.inr (hw _ (List.mem_of_getElem? (i := 17) rfl))) (ty := .long) (by decide)
    have pp10 : ∀ t, Steps p.tables e below (T9.setTop (mkF m 89 #[.val (.long q1), .second, .val (.long q2), .second, .val (.long q3), .second, .val (.int p4), .val (.long nw), .second, .val (.long ag), .second, .val (.long q2), .second, .unset, .unset, .unset] [(.ref b9)])) t → Steps p.tables e below (s₁.setTop (entryFrame m #[(.long q1), (.long q2), (.long q3), (.int p4)] maxLocals)) t := fun t k => pp8 t (st9 t k)
    have pp11 : ∀ t, Steps p.tables e below (T9.setTop (mkF m 93 #[.val (.long q1), .second, .val (.long q2), .second, .val (.long q3), .second, .val (.int p4), .val (.long nw), .second, .val (.long ag), .second, .val (.long q2), .second, .unset, .unset, .unset] [(.long (0 : Int64)), (.long ag), (.ref b9), (.ref b9)])) t → Steps p.tables e below (s₁.setTop (entryFrame m #[(.long q1), (.long q2), (.long q3), (.int p4)] maxLocals)) t := fun t k => pp10 t (by
      refine XS.dup X9.here hx rfl (hb hby at_89) rfl rfl ?_
      show Steps p.tables e below (T9.setTop (mkF m 90 #[.val (.long q1), .second, .val (.long q2), .second, .val (.long q3), .second, .val (.int p4), .val (.long nw), .second, .val (.long ag), .second, .val (.long q2), .second, .unset, .unset, .unset] [(.ref b9), (.ref b9)])) _
      refine XS.lload X9.here hx rfl (hb hby at_90) rfl ?_
      show Steps p.tables e below (T9.setTop (mkF m 92 #[.val (.long q1), .second, .val (.long q2), .second, .val (.long q3), .second, .val (.int p4), .val (.long nw), .second, .val (.long ag), .second, .val (.long q2), .second, .unset, .unset, .unset] [(.long ag), (.ref b9), (.ref b9)])) _
      refine XS.lconst X9.here hx rfl (hb hby at_92) ?_
      show Steps p.tables e below (T9.setTop (mkF m 93 #[.val (.long q1), .second, .val (.long q2), .second, .val (.long q3), .second, .val (.int p4), .val (.long nw), .second, .val (.long ag), .second, .val (.long q2), .second, .unset, .unset, .unset] [(.long (0 : Int64)), (.long ag), (.ref b9), (.ref b9)])) _
      exact k)
    obtain ⟨_, _, ⟨T12, L12, k12, n12⟩, -, X12, ⟨Lc12, hQ12, l12, y12, z12⟩, st12⟩ := X9.specialBack hx (y := (⟨"com/example/keen_broker/keenbroker/store/Retention", "<init>", "(JJ)V"⟩ : MethodName)) rfl hown (mvT hZ (hw _ (List.mem_of_getElem? (i := 8) rfl))) (mvT hZ (hw _ (List.mem_of_getElem? (i := 9) rfl))) (mvT hZ (hw _ (List.mem_of_getElem? (i := 10) rfl))) (by decide) (backOf (W := 1) (own_init l Z a0 hw [] b9 ag (0 : Int64) (.long (0 : Int64)) (.long (0 : Int64)) h9 n0 (Nat.le_trans Z0 E9.1) A9 F_ageMillis_b9 F_bytes_b9 g_b9 (own_nlt _ hag) (by decide)) hZ (hw _ (List.mem_of_getElem? (i := 10) rfl)) (hw _ (List.mem_of_getElem? (i := 7) rfl)) (by decide) (by decide)) (g := (mkF m 93 #[.val (.long q1), .second, .val (.long q2), .second, .val (.long q3), .second, .val (.int p4), .val (.long nw), .second, .val (.long ag), .second, .val (.long q2), .second, .unset, .unset, .unset] [(.long (0 : Int64)), (.long ag), (.ref b9), (.ref b9)])) rfl (by rw [hml]; rfl) (Steps.refl _) (a := b9) (argsL := [(.long ag), (.long (0 : Int64))]) (rest := [(.ref b9)]) (lenOf pd__JJ_V rfl) rfl (by show 2 * 0 + _ ≤ _; exact Nat.le_of_eq rfl) (hb hby at_93) (fun _ _ => ⟨rfl, e9, (by decide : 1 + 0 ≤ _), (by decide : 2 + 0 ≤ _)⟩)
    dsimp only [Pt.U, Pt.locs, Pt.cells, Pt.slots] at X12 l12 y12 z12 st12 hQ12
    subst l12 y12 z12
    obtain ⟨rfl, N12q, K12, EE12, F12⟩ := hQ12
    have N12 := Fr.app N2 N12q
    have pp13 : ∀ t, Steps p.tables e below (T12.setTop (mkF m 96 #[.val (.long q1), .second, .val (.long q2), .second, .val (.long q3), .second, .val (.int p4), .val (.long nw), .second, .val (.long ag), .second, .val (.long q2), .second, .unset, .unset, .unset] [(.ref b9)])) t → Steps p.tables e below (s₁.setTop (entryFrame m #[(.long q1), (.long q2), (.long q3), (.int p4)] maxLocals)) t := fun t k => pp11 t (st12.trans k)
    have pp14 : ∀ t, Steps p.tables e below (T12.setTop (mkF m 104 #[.val (.long q1), .second, .val (.long q2), .second, .val (.long q3), .second, .val (.int p4), .val (.long nw), .second, .val (.long ag), .second, .val (.long q2), .second, .val (.ref b9), .unset, .unset] [(.int (lcmpW ag (9223372036854775807 : Int64)))])) t → Steps p.tables e below (s₁.setTop (entryFrame m #[(.long q1), (.long q2), (.long q3), (.int p4)] maxLocals)) t := fun t k => pp13 t (by
      refine XS.astore X12.here hx rfl (hb hby at_96) rfl rfl (l' := #[.val (.long q1), .second, .val (.long q2), .second, .val (.long q3), .second, .val (.int p4), .val (.long nw), .second, .val (.long ag), .second, .val (.long q2), .second, .val (.ref b9), .unset, .unset]) rfl ?_
      show Steps p.tables e below (T12.setTop (mkF m 98 #[.val (.long q1), .second, .val (.long q2), .second, .val (.long q3), .second, .val (.int p4), .val (.long nw), .second, .val (.long ag), .second, .val (.long q2), .second, .val (.ref b9), .unset, .unset] [])) _
      refine XS.lload X12.here hx rfl (hb hby at_98) rfl ?_
      show Steps p.tables e below (T12.setTop (mkF m 100 #[.val (.long q1), .second, .val (.long q2), .second, .val (.long q3), .second, .val (.int p4), .val (.long nw), .second, .val (.long ag), .second, .val (.long q2), .second, .val (.ref b9), .unset, .unset] [(.long ag)])) _
      refine X12.ldc2Long hx hown (mvT hZ (hw _ (List.mem_of_getElem? (i := 0) rfl))) (g := (mkF m 100 #[.val (.long q1), .second, .val (.long q2), .second, .val (.long q3), .second, .val (.int p4), .val (.long nw), .second, .val (.long ag), .second, .val (.long q2), .second, .val (.ref b9), .unset, .unset] [(.long ag)])) rfl (hb hby at_100) _ ?_
      show Steps p.tables e below (T12.setTop (mkF m 103 #[.val (.long q1), .second, .val (.long q2), .second, .val (.long q3), .second, .val (.int p4), .val (.long nw), .second, .val (.long ag), .second, .val (.long q2), .second, .val (.ref b9), .unset, .unset] [(.long (9223372036854775807 : Int64)), (.long ag)])) _
      refine XS.lcmp X12.here hx rfl (hb hby at_103) rfl ?_
      show Steps p.tables e below (T12.setTop (mkF m 104 #[.val (.long q1), .second, .val (.long q2), .second, .val (.long q3), .second, .val (.int p4), .val (.long nw), .second, .val (.long ag), .second, .val (.long q2), .second, .val (.ref b9), .unset, .unset] [(.int (lcmpW ag (9223372036854775807 : Int64)))])) _
      exact k)
    by_cases hc104 : (lcmpW ag (9223372036854775807 : Int64)) = (0 : Int32)
    · have pp15 : ∀ t, Steps p.tables e below (T12.setTop (mkF m 165 #[.val (.long q1), .second, .val (.long q2), .second, .val (.long q3), .second, .val (.int p4), .val (.long nw), .second, .val (.long ag), .second, .val (.long q2), .second, .val (.ref b9), .val (.int (0 : Int32)), .unset] [(.long nw), (.long q2), (.ref b9)])) t → Steps p.tables e below (s₁.setTop (entryFrame m #[(.long q1), (.long q2), (.long q3), (.int p4)] maxLocals)) t := fun t k => pp14 t (by
        refine XS.ifNo X12.here hx rfl (hb hby at_104) rfl ((if0 _ _).trans (teq hc104).2) ?_
        show Steps p.tables e below (T12.setTop (mkF m 107 #[.val (.long q1), .second, .val (.long q2), .second, .val (.long q3), .second, .val (.int p4), .val (.long nw), .second, .val (.long ag), .second, .val (.long q2), .second, .val (.ref b9), .unset, .unset] [])) _
        refine XS.iconst X12.here hx rfl (hb hby at_107) ?_
        show Steps p.tables e below (T12.setTop (mkF m 108 #[.val (.long q1), .second, .val (.long q2), .second, .val (.long q3), .second, .val (.int p4), .val (.long nw), .second, .val (.long ag), .second, .val (.long q2), .second, .val (.ref b9), .unset, .unset] [(.int (0 : Int32))])) _
        refine XS.istore X12.here hx rfl (hb hby at_108) rfl (l' := #[.val (.long q1), .second, .val (.long q2), .second, .val (.long q3), .second, .val (.int p4), .val (.long nw), .second, .val (.long ag), .second, .val (.long q2), .second, .val (.ref b9), .val (.int (0 : Int32)), .unset]) rfl ?_
        show Steps p.tables e below (T12.setTop (mkF m 110 #[.val (.long q1), .second, .val (.long q2), .second, .val (.long q3), .second, .val (.int p4), .val (.long nw), .second, .val (.long ag), .second, .val (.long q2), .second, .val (.ref b9), .val (.int (0 : Int32)), .unset] [])) _
        refine XS.goto X12.here hx rfl (pc0 := 110) (pc' := 159) rfl (hb hby at_110) (by decide) (by decide) ?_
        show Steps p.tables e below (T12.setTop (mkF m 159 #[.val (.long q1), .second, .val (.long q2), .second, .val (.long q3), .second, .val (.int p4), .val (.long nw), .second, .val (.long ag), .second, .val (.long q2), .second, .val (.ref b9), .val (.int (0 : Int32)), .unset] [])) _
        refine XS.aload X12.here hx rfl (hb hby at_159) rfl rfl ?_
        show Steps p.tables e below (T12.setTop (mkF m 161 #[.val (.long q1), .second, .val (.long q2), .second, .val (.long q3), .second, .val (.int p4), .val (.long nw), .second, .val (.long ag), .second, .val (.long q2), .second, .val (.ref b9), .val (.int (0 : Int32)), .unset] [(.ref b9)])) _
        refine XS.lload X12.here hx rfl (hb hby at_161) rfl ?_
        show Steps p.tables e below (T12.setTop (mkF m 163 #[.val (.long q1), .second, .val (.long q2), .second, .val (.long q3), .second, .val (.int p4), .val (.long nw), .second, .val (.long ag), .second, .val (.long q2), .second, .val (.ref b9), .val (.int (0 : Int32)), .unset] [(.long q2), (.ref b9)])) _
        refine XS.lload X12.here hx rfl (hb hby at_163) rfl ?_
        show Steps p.tables e below (T12.setTop (mkF m 165 #[.val (.long q1), .second, .val (.long q2), .second, .val (.long q3), .second, .val (.int p4), .val (.long nw), .second, .val (.long ag), .second, .val (.long q2), .second, .val (.ref b9), .val (.int (0 : Int32)), .unset] [(.long nw), (.long q2), (.ref b9)])) _
        exact k)
      obtain ⟨cq16, kq16, q16a, q16b, q16c⟩ := isOf hZ rfl (A9.keep K12)
      obtain ⟨_, _, ⟨T16, L16, k16, n16⟩, -, X16, ⟨Lc16, hQ16, l16, y16, z16⟩, st16⟩ := X12.virtualBack hx (y := (⟨"com/example/keen_broker/keenbroker/store/Retention", "pastAge", "(JJ)Z"⟩ : MethodName)) (z := (⟨"com/example/keen_broker/keenbroker/store/Retention", "pastAge", "(JJ)Z"⟩ : MethodName)) hown (mvT hZ (hw _ (List.mem_of_getElem? (i := 18) rfl))) (mvT hZ (hw _ (List.mem_of_getElem? (i := 19) rfl))) (notFace_of_selects (args := #[]) (mvT hZ (hw _ (List.mem_of_getElem? (i := 21) rfl)))) (mvT hZ (hw _ (List.mem_of_getElem? (i := 21) rfl))) (mvT hZ (hw _ (List.mem_of_getElem? (i := 20) rfl))) (by decide) (backOf (W := 0) (own_past l Z a0 hw [] b9 q2 nw ag T12.heap n0 (Nat.le_trans (Nat.le_trans Z0 E9.1) K12.1) F12) hZ (hw _ (List.mem_of_getElem? (i := 22) rfl)) (hw _ (List.mem_of_getElem? (i := 7) rfl)) (by decide) (by decide)) q16a q16c (g := (mkF m 165 #[.val (.long q1), .second, .val (.long q2), .second, .val (.long q3), .second, .val (.int p4), .val (.long nw), .second, .val (.long ag), .second, .val (.long q2), .second, .val (.ref b9), .val (.int (0 : Int32)), .unset] [(.long nw), (.long q2), (.ref b9)])) rfl (by rw [hml]; rfl) (Steps.refl _) (argsL := [(.long q2), (.long nw)]) (rest := []) (lenOf pd__JJ_Z rfl) rfl (by show 2 * 0 + _ ≤ _; exact Nat.le_of_eq rfl) (hb hby at_165) (fun _ _ => ⟨rfl, rfl, (by decide : 1 + 0 ≤ _), (by decide : 2 + 0 ≤ _)⟩)
      dsimp only [Pt.U, Pt.locs, Pt.cells, Pt.slots] at X16 l16 y16 z16 st16 hQ16
      subst l16 y16 z16
      obtain ⟨rfl, N16q, s16⟩ := hQ16
      have N16 := Fr.app N12 N16q
      have pp17 : ∀ t, Steps p.tables e below (T16.setTop (mkF m 168 #[.val (.long q1), .second, .val (.long q2), .second, .val (.long q3), .second, .val (.int p4), .val (.long nw), .second, .val (.long ag), .second, .val (.long q2), .second, .val (.ref b9), .val (.int (0 : Int32)), .unset] [(.int (own_pa ag q2 nw))])) t → Steps p.tables e below (s₁.setTop (entryFrame m #[(.long q1), (.long q2), (.long q3), (.int p4)] maxLocals)) t := fun t k => pp15 t (st16.trans k)
      have pp18 : ∀ t, Steps p.tables e below (T16.setTop (mkF m 178 #[.val (.long q1), .second, .val (.long q2), .second, .val (.long q3), .second, .val (.int p4), .val (.long nw), .second, .val (.long ag), .second, .val (.long q2), .second, .val (.ref b9), .val (.int (0 : Int32)), .unset] [(.int (1 : Int32))])) t → Steps p.tables e below (s₁.setTop (entryFrame m #[(.long q1), (.long q2), (.long q3), (.int p4)] maxLocals)) t := fun t k => pp17 t (by
        refine XS.iload X16.here hx rfl (hb hby at_168) rfl ?_
        show Steps p.tables e below (T16.setTop (mkF m 170 #[.val (.long q1), .second, .val (.long q2), .second, .val (.long q3), .second, .val (.int p4), .val (.long nw), .second, .val (.long ag), .second, .val (.long q2), .second, .val (.ref b9), .val (.int (0 : Int32)), .unset] [(.int (0 : Int32)), (.int (own_pa ag q2 nw))])) _
        refine XS.icmpNo X16.here hx rfl (hb hby at_170) rfl (teq (own_pa0 hc104)).2 ?_
        show Steps p.tables e below (T16.setTop (mkF m 173 #[.val (.long q1), .second, .val (.long q2), .second, .val (.long q3), .second, .val (.int p4), .val (.long nw), .second, .val (.long ag), .second, .val (.long q2), .second, .val (.ref b9), .val (.int (0 : Int32)), .unset] [])) _
        refine XS.iconst X16.here hx rfl (hb hby at_173) ?_
        show Steps p.tables e below (T16.setTop (mkF m 174 #[.val (.long q1), .second, .val (.long q2), .second, .val (.long q3), .second, .val (.int p4), .val (.long nw), .second, .val (.long ag), .second, .val (.long q2), .second, .val (.ref b9), .val (.int (0 : Int32)), .unset] [(.int (1 : Int32))])) _
        refine XS.goto X16.here hx rfl (pc0 := 174) (pc' := 178) rfl (hb hby at_174) (by decide) (by decide) ?_
        show Steps p.tables e below (T16.setTop (mkF m 178 #[.val (.long q1), .second, .val (.long q2), .second, .val (.long q3), .second, .val (.int p4), .val (.long nw), .second, .val (.long ag), .second, .val (.long q2), .second, .val (.ref b9), .val (.int (0 : Int32)), .unset] [(.int (1 : Int32))])) _
        exact k)
      obtain ⟨fs, hr, hrun, hended, hW, hsame⟩ := X16.leave (v := some (.int (1 : Int32))) (fun h => by rw [Bd.returns] at h; cases h)
      refine ⟨_, _, pp18 _ ?_, hrun, hended, _, _, rfl, ?_, ⟨_, rfl⟩, hW, hsame.mono (by decide) (by decide)⟩
      · exact retN X16 hx (t := .boolean) Bd.returns (by simp) (hb hby at_178) hr
      · show Q_own_law Z q1 q2 q3 p4 h0 n0 _ T16.heap _
        rw [s16]
        exact ⟨rfl, N16⟩
    · have pp19 : ∀ t, Steps p.tables e below (T12.setTop (mkF m 117 #[.val (.long q1), .second, .val (.long q2), .second, .val (.long q3), .second, .val (.int p4), .val (.long nw), .second, .val (.long ag), .second, .val (.long q2), .second, .val (.ref b9), .unset, .unset] [(.int (lcmpW q2 (0 : Int64)))])) t → Steps p.tables e below (s₁.setTop (entryFrame m #[(.long q1), (.long q2), (.long q3), (.int p4)] maxLocals)) t := fun t k => pp14 t (by
        refine XS.ifYes X12.here hx rfl (pc0 := 104) (pc' := 113) rfl (hb hby at_104) rfl ((if0 _ _).trans (feq hc104).2) (by decide) (by decide) ?_
        show Steps p.tables e below (T12.setTop (mkF m 113 #[.val (.long q1), .second, .val (.long q2), .second, .val (.long q3), .second, .val (.int p4), .val (.long nw), .second, .val (.long ag), .second, .val (.long q2), .second, .val (.ref b9), .unset, .unset] [])) _
        refine XS.lload X12.here hx rfl (hb hby at_113) rfl ?_
        show Steps p.tables e below (T12.setTop (mkF m 115 #[.val (.long q1), .second, .val (.long q2), .second, .val (.long q3), .second, .val (.int p4), .val (.long nw), .second, .val (.long ag), .second, .val (.long q2), .second, .val (.ref b9), .unset, .unset] [(.long q2)])) _
        refine XS.lconst X12.here hx rfl (hb hby at_115) ?_
        show Steps p.tables e below (T12.setTop (mkF m 116 #[.val (.long q1), .second, .val (.long q2), .second, .val (.long q3), .second, .val (.int p4), .val (.long nw), .second, .val (.long ag), .second, .val (.long q2), .second, .val (.ref b9), .unset, .unset] [(.long (0 : Int64)), (.long q2)])) _
        refine XS.lcmp X12.here hx rfl (hb hby at_116) rfl ?_
        show Steps p.tables e below (T12.setTop (mkF m 117 #[.val (.long q1), .second, .val (.long q2), .second, .val (.long q3), .second, .val (.int p4), .val (.long nw), .second, .val (.long ag), .second, .val (.long q2), .second, .val (.ref b9), .unset, .unset] [(.int (lcmpW q2 (0 : Int64)))])) _
        exact k)
      by_cases hc117 : (lcmpW q2 (0 : Int64)) < (0 : Int32)
      · have pp20 : ∀ t, Steps p.tables e below (T12.setTop (mkF m 128 #[.val (.long q1), .second, .val (.long q2), .second, .val (.long q3), .second, .val (.int p4), .val (.long nw), .second, .val (.long ag), .second, .val (.long q2), .second, .val (.ref b9), .unset, .unset] [(.int (lcmpW (q2 + ag) nw))])) t → Steps p.tables e below (s₁.setTop (entryFrame m #[(.long q1), (.long q2), (.long q3), (.int p4)] maxLocals)) t := fun t k => pp19 t (by
          refine XS.ifNo X12.here hx rfl (hb hby at_117) rfl ((if0 _ _).trans (tlt hc117).2.1) ?_
          show Steps p.tables e below (T12.setTop (mkF m 120 #[.val (.long q1), .second, .val (.long q2), .second, .val (.long q3), .second, .val (.int p4), .val (.long nw), .second, .val (.long ag), .second, .val (.long q2), .second, .val (.ref b9), .unset, .unset] [])) _
          refine XS.lload X12.here hx rfl (hb hby at_120) rfl ?_
          show Steps p.tables e below (T12.setTop (mkF m 122 #[.val (.long q1), .second, .val (.long q2), .second, .val (.long q3), .second, .val (.int p4), .val (.long nw), .second, .val (.long ag), .second, .val (.long q2), .second, .val (.ref b9), .unset, .unset] [(.long q2)])) _
          refine XS.lload X12.here hx rfl (hb hby at_122) rfl ?_
          show Steps p.tables e below (T12.setTop (mkF m 124 #[.val (.long q1), .second, .val (.long q2), .second, .val (.long q3), .second, .val (.int p4), .val (.long nw), .second, .val (.long ag), .second, .val (.long q2), .second, .val (.ref b9), .unset, .unset] [(.long ag), (.long q2)])) _
          refine XS.ladd X12.here hx rfl (hb hby at_124) rfl ?_
          show Steps p.tables e below (T12.setTop (mkF m 125 #[.val (.long q1), .second, .val (.long q2), .second, .val (.long q3), .second, .val (.int p4), .val (.long nw), .second, .val (.long ag), .second, .val (.long q2), .second, .val (.ref b9), .unset, .unset] [(.long (q2 + ag))])) _
          refine XS.lload X12.here hx rfl (hb hby at_125) rfl ?_
          show Steps p.tables e below (T12.setTop (mkF m 127 #[.val (.long q1), .second, .val (.long q2), .second, .val (.long q3), .second, .val (.int p4), .val (.long nw), .second, .val (.long ag), .second, .val (.long q2), .second, .val (.ref b9), .unset, .unset] [(.long nw), (.long (q2 + ag))])) _
          refine XS.lcmp X12.here hx rfl (hb hby at_127) rfl ?_
          show Steps p.tables e below (T12.setTop (mkF m 128 #[.val (.long q1), .second, .val (.long q2), .second, .val (.long q3), .second, .val (.int p4), .val (.long nw), .second, .val (.long ag), .second, .val (.long q2), .second, .val (.ref b9), .unset, .unset] [(.int (lcmpW (q2 + ag) nw))])) _
          exact k)
        by_cases hc128 : (lcmpW (q2 + ag) nw) < (0 : Int32)
        · have pp21 : ∀ t, Steps p.tables e below (T12.setTop (mkF m 165 #[.val (.long q1), .second, .val (.long q2), .second, .val (.long q3), .second, .val (.int p4), .val (.long nw), .second, .val (.long ag), .second, .val (.long q2), .second, .val (.ref b9), .val (.int (1 : Int32)), .unset] [(.long nw), (.long q2), (.ref b9)])) t → Steps p.tables e below (s₁.setTop (entryFrame m #[(.long q1), (.long q2), (.long q3), (.int p4)] maxLocals)) t := fun t k => pp20 t (by
            refine XS.ifNo X12.here hx rfl (hb hby at_128) rfl ((if0 _ _).trans (tlt hc128).2.1) ?_
            show Steps p.tables e below (T12.setTop (mkF m 131 #[.val (.long q1), .second, .val (.long q2), .second, .val (.long q3), .second, .val (.int p4), .val (.long nw), .second, .val (.long ag), .second, .val (.long q2), .second, .val (.ref b9), .unset, .unset] [])) _
            refine XS.iconst X12.here hx rfl (hb hby at_131) ?_
            show Steps p.tables e below (T12.setTop (mkF m 132 #[.val (.long q1), .second, .val (.long q2), .second, .val (.long q3), .second, .val (.int p4), .val (.long nw), .second, .val (.long ag), .second, .val (.long q2), .second, .val (.ref b9), .unset, .unset] [(.int (1 : Int32))])) _
            refine XS.goto X12.here hx rfl (pc0 := 132) (pc' := 136) rfl (hb hby at_132) (by decide) (by decide) ?_
            show Steps p.tables e below (T12.setTop (mkF m 136 #[.val (.long q1), .second, .val (.long q2), .second, .val (.long q3), .second, .val (.int p4), .val (.long nw), .second, .val (.long ag), .second, .val (.long q2), .second, .val (.ref b9), .unset, .unset] [(.int (1 : Int32))])) _
            refine XS.istore X12.here hx rfl (hb hby at_136) rfl (l' := #[.val (.long q1), .second, .val (.long q2), .second, .val (.long q3), .second, .val (.int p4), .val (.long nw), .second, .val (.long ag), .second, .val (.long q2), .second, .val (.ref b9), .val (.int (1 : Int32)), .unset]) rfl ?_
            show Steps p.tables e below (T12.setTop (mkF m 138 #[.val (.long q1), .second, .val (.long q2), .second, .val (.long q3), .second, .val (.int p4), .val (.long nw), .second, .val (.long ag), .second, .val (.long q2), .second, .val (.ref b9), .val (.int (1 : Int32)), .unset] [])) _
            refine XS.goto X12.here hx rfl (pc0 := 138) (pc' := 159) rfl (hb hby at_138) (by decide) (by decide) ?_
            show Steps p.tables e below (T12.setTop (mkF m 159 #[.val (.long q1), .second, .val (.long q2), .second, .val (.long q3), .second, .val (.int p4), .val (.long nw), .second, .val (.long ag), .second, .val (.long q2), .second, .val (.ref b9), .val (.int (1 : Int32)), .unset] [])) _
            refine XS.aload X12.here hx rfl (hb hby at_159) rfl rfl ?_
            show Steps p.tables e below (T12.setTop (mkF m 161 #[.val (.long q1), .second, .val (.long q2), .second, .val (.long q3), .second, .val (.int p4), .val (.long nw), .second, .val (.long ag), .second, .val (.long q2), .second, .val (.ref b9), .val (.int (1 : Int32)), .unset] [(.ref b9)])) _
            refine XS.lload X12.here hx rfl (hb hby at_161) rfl ?_
            show Steps p.tables e below (T12.setTop (mkF m 163 #[.val (.long q1), .second, .val (.long q2), .second, .val (.long q3), .second, .val (.int p4), .val (.long nw), .second, .val (.long ag), .second, .val (.long q2), .second, .val (.ref b9), .val (.int (1 : Int32)), .unset] [(.long q2), (.ref b9)])) _
            refine XS.lload X12.here hx rfl (hb hby at_163) rfl ?_
            show Steps p.tables e below (T12.setTop (mkF m 165 #[.val (.long q1), .second, .val (.long q2), .second, .val (.long q3), .second, .val (.int p4), .val (.long nw), .second, .val (.long ag), .second, .val (.long q2), .second, .val (.ref b9), .val (.int (1 : Int32)), .unset] [(.long nw), (.long q2), (.ref b9)])) _
            exact k)
          obtain ⟨cq22, kq22, q22a, q22b, q22c⟩ := isOf hZ rfl (A9.keep K12)
          obtain ⟨_, _, ⟨T22, L22, k22, n22⟩, -, X22, ⟨Lc22, hQ22, l22, y22, z22⟩, st22⟩ := X12.virtualBack hx (y := (⟨"com/example/keen_broker/keenbroker/store/Retention", "pastAge", "(JJ)Z"⟩ : MethodName)) (z := (⟨"com/example/keen_broker/keenbroker/store/Retention", "pastAge", "(JJ)Z"⟩ : MethodName)) hown (mvT hZ (hw _ (List.mem_of_getElem? (i := 18) rfl))) (mvT hZ (hw _ (List.mem_of_getElem? (i := 19) rfl))) (notFace_of_selects (args := #[]) (mvT hZ (hw _ (List.mem_of_getElem? (i := 21) rfl)))) (mvT hZ (hw _ (List.mem_of_getElem? (i := 21) rfl))) (mvT hZ (hw _ (List.mem_of_getElem? (i := 20) rfl))) (by decide) (backOf (W := 0) (own_past l Z a0 hw [] b9 q2 nw ag T12.heap n0 (Nat.le_trans (Nat.le_trans Z0 E9.1) K12.1) F12) hZ (hw _ (List.mem_of_getElem? (i := 22) rfl)) (hw _ (List.mem_of_getElem? (i := 7) rfl)) (by decide) (by decide)) q22a q22c (g := (mkF m 165 #[.val (.long q1), .second, .val (.long q2), .second, .val (.long q3), .second, .val (.int p4), .val (.long nw), .second, .val (.long ag), .second, .val (.long q2), .second, .val (.ref b9), .val (.int (1 : Int32)), .unset] [(.long nw), (.long q2), (.ref b9)])) rfl (by rw [hml]; rfl) (Steps.refl _) (argsL := [(.long q2), (.long nw)]) (rest := []) (lenOf pd__JJ_Z rfl) rfl (by show 2 * 0 + _ ≤ _; exact Nat.le_of_eq rfl) (hb hby at_165) (fun _ _ => ⟨rfl, rfl, (by decide : 1 + 0 ≤ _), (by decide : 2 + 0 ≤ _)⟩)
          dsimp only [Pt.U, Pt.locs, Pt.cells, Pt.slots] at X22 l22 y22 z22 st22 hQ22
          subst l22 y22 z22
          obtain ⟨rfl, N22q, s22⟩ := hQ22
          have N22 := Fr.app N12 N22q
          have pp23 : ∀ t, Steps p.tables e below (T22.setTop (mkF m 168 #[.val (.long q1), .second, .val (.long q2), .second, .val (.long q3), .second, .val (.int p4), .val (.long nw), .second, .val (.long ag), .second, .val (.long q2), .second, .val (.ref b9), .val (.int (1 : Int32)), .unset] [(.int (own_pa ag q2 nw))])) t → Steps p.tables e below (s₁.setTop (entryFrame m #[(.long q1), (.long q2), (.long q3), (.int p4)] maxLocals)) t := fun t k => pp21 t (st22.trans k)
          have pp24 : ∀ t, Steps p.tables e below (T22.setTop (mkF m 178 #[.val (.long q1), .second, .val (.long q2), .second, .val (.long q3), .second, .val (.int p4), .val (.long nw), .second, .val (.long ag), .second, .val (.long q2), .second, .val (.ref b9), .val (.int (1 : Int32)), .unset] [(.int (1 : Int32))])) t → Steps p.tables e below (s₁.setTop (entryFrame m #[(.long q1), (.long q2), (.long q3), (.int p4)] maxLocals)) t := fun t k => pp23 t (by
            refine XS.iload X22.here hx rfl (hb hby at_168) rfl ?_
            show Steps p.tables e below (T22.setTop (mkF m 170 #[.val (.long q1), .second, .val (.long q2), .second, .val (.long q3), .second, .val (.int p4), .val (.long nw), .second, .val (.long ag), .second, .val (.long q2), .second, .val (.ref b9), .val (.int (1 : Int32)), .unset] [(.int (1 : Int32)), (.int (own_pa ag q2 nw))])) _
            refine XS.icmpNo X22.here hx rfl (hb hby at_170) rfl (teq (own_pa1 hc104 ((own_neg ag _ nw hag hnw0 hc117).mp hc128))).2 ?_
            show Steps p.tables e below (T22.setTop (mkF m 173 #[.val (.long q1), .second, .val (.long q2), .second, .val (.long q3), .second, .val (.int p4), .val (.long nw), .second, .val (.long ag), .second, .val (.long q2), .second, .val (.ref b9), .val (.int (1 : Int32)), .unset] [])) _
            refine XS.iconst X22.here hx rfl (hb hby at_173) ?_
            show Steps p.tables e below (T22.setTop (mkF m 174 #[.val (.long q1), .second, .val (.long q2), .second, .val (.long q3), .second, .val (.int p4), .val (.long nw), .second, .val (.long ag), .second, .val (.long q2), .second, .val (.ref b9), .val (.int (1 : Int32)), .unset] [(.int (1 : Int32))])) _
            refine XS.goto X22.here hx rfl (pc0 := 174) (pc' := 178) rfl (hb hby at_174) (by decide) (by decide) ?_
            show Steps p.tables e below (T22.setTop (mkF m 178 #[.val (.long q1), .second, .val (.long q2), .second, .val (.long q3), .second, .val (.int p4), .val (.long nw), .second, .val (.long ag), .second, .val (.long q2), .second, .val (.ref b9), .val (.int (1 : Int32)), .unset] [(.int (1 : Int32))])) _
            exact k)
          obtain ⟨fs, hr, hrun, hended, hW, hsame⟩ := X22.leave (v := some (.int (1 : Int32))) (fun h => by rw [Bd.returns] at h; cases h)
          refine ⟨_, _, pp24 _ ?_, hrun, hended, _, _, rfl, ?_, ⟨_, rfl⟩, hW, hsame.mono (by decide) (by decide)⟩
          · exact retN X22 hx (t := .boolean) Bd.returns (by simp) (hb hby at_178) hr
          · show Q_own_law Z q1 q2 q3 p4 h0 n0 _ T22.heap _
            rw [s22]
            exact ⟨rfl, N22⟩
        · have pp25 : ∀ t, Steps p.tables e below (T12.setTop (mkF m 165 #[.val (.long q1), .second, .val (.long q2), .second, .val (.long q3), .second, .val (.int p4), .val (.long nw), .second, .val (.long ag), .second, .val (.long q2), .second, .val (.ref b9), .val (.int (0 : Int32)), .unset] [(.long nw), (.long q2), (.ref b9)])) t → Steps p.tables e below (s₁.setTop (entryFrame m #[(.long q1), (.long q2), (.long q3), (.int p4)] maxLocals)) t := fun t k => pp20 t (by
            refine XS.ifYes X12.here hx rfl (pc0 := 128) (pc' := 135) rfl (hb hby at_128) rfl ((if0 _ _).trans (flt hc128).2.1) (by decide) (by decide) ?_
            show Steps p.tables e below (T12.setTop (mkF m 135 #[.val (.long q1), .second, .val (.long q2), .second, .val (.long q3), .second, .val (.int p4), .val (.long nw), .second, .val (.long ag), .second, .val (.long q2), .second, .val (.ref b9), .unset, .unset] [])) _
            refine XS.iconst X12.here hx rfl (hb hby at_135) ?_
            show Steps p.tables e below (T12.setTop (mkF m 136 #[.val (.long q1), .second, .val (.long q2), .second, .val (.long q3), .second, .val (.int p4), .val (.long nw), .second, .val (.long ag), .second, .val (.long q2), .second, .val (.ref b9), .unset, .unset] [(.int (0 : Int32))])) _
            refine XS.istore X12.here hx rfl (hb hby at_136) rfl (l' := #[.val (.long q1), .second, .val (.long q2), .second, .val (.long q3), .second, .val (.int p4), .val (.long nw), .second, .val (.long ag), .second, .val (.long q2), .second, .val (.ref b9), .val (.int (0 : Int32)), .unset]) rfl ?_
            show Steps p.tables e below (T12.setTop (mkF m 138 #[.val (.long q1), .second, .val (.long q2), .second, .val (.long q3), .second, .val (.int p4), .val (.long nw), .second, .val (.long ag), .second, .val (.long q2), .second, .val (.ref b9), .val (.int (0 : Int32)), .unset] [])) _
            refine XS.goto X12.here hx rfl (pc0 := 138) (pc' := 159) rfl (hb hby at_138) (by decide) (by decide) ?_
            show Steps p.tables e below (T12.setTop (mkF m 159 #[.val (.long q1), .second, .val (.long q2), .second, .val (.long q3), .second, .val (.int p4), .val (.long nw), .second, .val (.long ag), .second, .val (.long q2), .second, .val (.ref b9), .val (.int (0 : Int32)), .unset] [])) _
            refine XS.aload X12.here hx rfl (hb hby at_159) rfl rfl ?_
            show Steps p.tables e below (T12.setTop (mkF m 161 #[.val (.long q1), .second, .val (.long q2), .second, .val (.long q3), .second, .val (.int p4), .val (.long nw), .second, .val (.long ag), .second, .val (.long q2), .second, .val (.ref b9), .val (.int (0 : Int32)), .unset] [(.ref b9)])) _
            refine XS.lload X12.here hx rfl (hb hby at_161) rfl ?_
            show Steps p.tables e below (T12.setTop (mkF m 163 #[.val (.long q1), .second, .val (.long q2), .second, .val (.long q3), .second, .val (.int p4), .val (.long nw), .second, .val (.long ag), .second, .val (.long q2), .second, .val (.ref b9), .val (.int (0 : Int32)), .unset] [(.long q2), (.ref b9)])) _
            refine XS.lload X12.here hx rfl (hb hby at_163) rfl ?_
            show Steps p.tables e below (T12.setTop (mkF m 165 #[.val (.long q1), .second, .val (.long q2), .second, .val (.long q3), .second, .val (.int p4), .val (.long nw), .second, .val (.long ag), .second, .val (.long q2), .second, .val (.ref b9), .val (.int (0 : Int32)), .unset] [(.long nw), (.long q2), (.ref b9)])) _
            exact k)
          obtain ⟨cq26, kq26, q26a, q26b, q26c⟩ := isOf hZ rfl (A9.keep K12)
          obtain ⟨_, _, ⟨T26, L26, k26, n26⟩, -, X26, ⟨Lc26, hQ26, l26, y26, z26⟩, st26⟩ := X12.virtualBack hx (y := (⟨"com/example/keen_broker/keenbroker/store/Retention", "pastAge", "(JJ)Z"⟩ : MethodName)) (z := (⟨"com/example/keen_broker/keenbroker/store/Retention", "pastAge", "(JJ)Z"⟩ : MethodName)) hown (mvT hZ (hw _ (List.mem_of_getElem? (i := 18) rfl))) (mvT hZ (hw _ (List.mem_of_getElem? (i := 19) rfl))) (notFace_of_selects (args := #[]) (mvT hZ (hw _ (List.mem_of_getElem? (i := 21) rfl)))) (mvT hZ (hw _ (List.mem_of_getElem? (i := 21) rfl))) (mvT hZ (hw _ (List.mem_of_getElem? (i := 20) rfl))) (by decide) (backOf (W := 0) (own_past l Z a0 hw [] b9 q2 nw ag T12.heap n0 (Nat.le_trans (Nat.le_trans Z0 E9.1) K12.1) F12) hZ (hw _ (List.mem_of_getElem? (i := 22) rfl)) (hw _ (List.mem_of_getElem? (i := 7) rfl)) (by decide) (by decide)) q26a q26c (g := (mkF m 165 #[.val (.long q1), .second, .val (.long q2), .second, .val (.long q3), .second, .val (.int p4), .val (.long nw), .second, .val (.long ag), .second, .val (.long q2), .second, .val (.ref b9), .val (.int (0 : Int32)), .unset] [(.long nw), (.long q2), (.ref b9)])) rfl (by rw [hml]; rfl) (Steps.refl _) (argsL := [(.long q2), (.long nw)]) (rest := []) (lenOf pd__JJ_Z rfl) rfl (by show 2 * 0 + _ ≤ _; exact Nat.le_of_eq rfl) (hb hby at_165) (fun _ _ => ⟨rfl, rfl, (by decide : 1 + 0 ≤ _), (by decide : 2 + 0 ≤ _)⟩)
          dsimp only [Pt.U, Pt.locs, Pt.cells, Pt.slots] at X26 l26 y26 z26 st26 hQ26
          subst l26 y26 z26
          obtain ⟨rfl, N26q, s26⟩ := hQ26
          have N26 := Fr.app N12 N26q
          have pp27 : ∀ t, Steps p.tables e below (T26.setTop (mkF m 168 #[.val (.long q1), .second, .val (.long q2), .second, .val (.long q3), .second, .val (.int p4), .val (.long nw), .second, .val (.long ag), .second, .val (.long q2), .second, .val (.ref b9), .val (.int (0 : Int32)), .unset] [(.int (own_pa ag q2 nw))])) t → Steps p.tables e below (s₁.setTop (entryFrame m #[(.long q1), (.long q2), (.long q3), (.int p4)] maxLocals)) t := fun t k => pp25 t (st26.trans k)
          have pp28 : ∀ t, Steps p.tables e below (T26.setTop (mkF m 178 #[.val (.long q1), .second, .val (.long q2), .second, .val (.long q3), .second, .val (.int p4), .val (.long nw), .second, .val (.long ag), .second, .val (.long q2), .second, .val (.ref b9), .val (.int (0 : Int32)), .unset] [(.int (1 : Int32))])) t → Steps p.tables e below (s₁.setTop (entryFrame m #[(.long q1), (.long q2), (.long q3), (.int p4)] maxLocals)) t := fun t k => pp27 t (by
            refine XS.iload X26.here hx rfl (hb hby at_168) rfl ?_
            show Steps p.tables e below (T26.setTop (mkF m 170 #[.val (.long q1), .second, .val (.long q2), .second, .val (.long q3), .second, .val (.int p4), .val (.long nw), .second, .val (.long ag), .second, .val (.long q2), .second, .val (.ref b9), .val (.int (0 : Int32)), .unset] [(.int (0 : Int32)), (.int (own_pa ag q2 nw))])) _
            refine XS.icmpNo X26.here hx rfl (hb hby at_170) rfl (teq (own_pa2 hc104 (fun q => hc128 ((own_neg ag _ nw hag hnw0 hc117).mpr q)))).2 ?_
            show Steps p.tables e below (T26.setTop (mkF m 173 #[.val (.long q1), .second, .val (.long q2), .second, .val (.long q3), .second, .val (.int p4), .val (.long nw), .second, .val (.long ag), .second, .val (.long q2), .second, .val (.ref b9), .val (.int (0 : Int32)), .unset] [])) _
            refine XS.iconst X26.here hx rfl (hb hby at_173) ?_
            show Steps p.tables e below (T26.setTop (mkF m 174 #[.val (.long q1), .second, .val (.long q2), .second, .val (.long q3), .second, .val (.int p4), .val (.long nw), .second, .val (.long ag), .second, .val (.long q2), .second, .val (.ref b9), .val (.int (0 : Int32)), .unset] [(.int (1 : Int32))])) _
            refine XS.goto X26.here hx rfl (pc0 := 174) (pc' := 178) rfl (hb hby at_174) (by decide) (by decide) ?_
            show Steps p.tables e below (T26.setTop (mkF m 178 #[.val (.long q1), .second, .val (.long q2), .second, .val (.long q3), .second, .val (.int p4), .val (.long nw), .second, .val (.long ag), .second, .val (.long q2), .second, .val (.ref b9), .val (.int (0 : Int32)), .unset] [(.int (1 : Int32))])) _
            exact k)
          obtain ⟨fs, hr, hrun, hended, hW, hsame⟩ := X26.leave (v := some (.int (1 : Int32))) (fun h => by rw [Bd.returns] at h; cases h)
          refine ⟨_, _, pp28 _ ?_, hrun, hended, _, _, rfl, ?_, ⟨_, rfl⟩, hW, hsame.mono (by decide) (by decide)⟩
          · exact retN X26 hx (t := .boolean) Bd.returns (by simp) (hb hby at_178) hr
          · show Q_own_law Z q1 q2 q3 p4 h0 n0 _ T26.heap _
            rw [s26]
            exact ⟨rfl, N26⟩
      · have pp29 : ∀ t, Steps p.tables e below (T12.setTop (mkF m 149 #[.val (.long q1), .second, .val (.long q2), .second, .val (.long q3), .second, .val (.int p4), .val (.long nw), .second, .val (.long ag), .second, .val (.long q2), .second, .val (.ref b9), .unset, .unset] [(.int (lcmpW (nw - q2) ag))])) t → Steps p.tables e below (s₁.setTop (entryFrame m #[(.long q1), (.long q2), (.long q3), (.int p4)] maxLocals)) t := fun t k => pp19 t (by
          refine XS.ifYes X12.here hx rfl (pc0 := 117) (pc' := 141) rfl (hb hby at_117) rfl ((if0 _ _).trans (flt hc117).2.1) (by decide) (by decide) ?_
          show Steps p.tables e below (T12.setTop (mkF m 141 #[.val (.long q1), .second, .val (.long q2), .second, .val (.long q3), .second, .val (.int p4), .val (.long nw), .second, .val (.long ag), .second, .val (.long q2), .second, .val (.ref b9), .unset, .unset] [])) _
          refine XS.lload X12.here hx rfl (hb hby at_141) rfl ?_
          show Steps p.tables e below (T12.setTop (mkF m 143 #[.val (.long q1), .second, .val (.long q2), .second, .val (.long q3), .second, .val (.int p4), .val (.long nw), .second, .val (.long ag), .second, .val (.long q2), .second, .val (.ref b9), .unset, .unset] [(.long nw)])) _
          refine XS.lload X12.here hx rfl (hb hby at_143) rfl ?_
          show Steps p.tables e below (T12.setTop (mkF m 145 #[.val (.long q1), .second, .val (.long q2), .second, .val (.long q3), .second, .val (.int p4), .val (.long nw), .second, .val (.long ag), .second, .val (.long q2), .second, .val (.ref b9), .unset, .unset] [(.long q2), (.long nw)])) _
          refine XS.lsub X12.here hx rfl (hb hby at_145) rfl ?_
          show Steps p.tables e below (T12.setTop (mkF m 146 #[.val (.long q1), .second, .val (.long q2), .second, .val (.long q3), .second, .val (.int p4), .val (.long nw), .second, .val (.long ag), .second, .val (.long q2), .second, .val (.ref b9), .unset, .unset] [(.long (nw - q2))])) _
          refine XS.lload X12.here hx rfl (hb hby at_146) rfl ?_
          show Steps p.tables e below (T12.setTop (mkF m 148 #[.val (.long q1), .second, .val (.long q2), .second, .val (.long q3), .second, .val (.int p4), .val (.long nw), .second, .val (.long ag), .second, .val (.long q2), .second, .val (.ref b9), .unset, .unset] [(.long ag), (.long (nw - q2))])) _
          refine XS.lcmp X12.here hx rfl (hb hby at_148) rfl ?_
          show Steps p.tables e below (T12.setTop (mkF m 149 #[.val (.long q1), .second, .val (.long q2), .second, .val (.long q3), .second, .val (.int p4), .val (.long nw), .second, .val (.long ag), .second, .val (.long q2), .second, .val (.ref b9), .unset, .unset] [(.int (lcmpW (nw - q2) ag))])) _
          exact k)
        by_cases hc149 : (0 : Int32) < (lcmpW (nw - q2) ag)
        · have pp30 : ∀ t, Steps p.tables e below (T12.setTop (mkF m 165 #[.val (.long q1), .second, .val (.long q2), .second, .val (.long q3), .second, .val (.int p4), .val (.long nw), .second, .val (.long ag), .second, .val (.long q2), .second, .val (.ref b9), .val (.int (1 : Int32)), .unset] [(.long nw), (.long q2), (.ref b9)])) t → Steps p.tables e below (s₁.setTop (entryFrame m #[(.long q1), (.long q2), (.long q3), (.int p4)] maxLocals)) t := fun t k => pp29 t (by
            refine XS.ifNo X12.here hx rfl (hb hby at_149) rfl ((if0 _ _).trans (tlt hc149).2.2.2) ?_
            show Steps p.tables e below (T12.setTop (mkF m 152 #[.val (.long q1), .second, .val (.long q2), .second, .val (.long q3), .second, .val (.int p4), .val (.long nw), .second, .val (.long ag), .second, .val (.long q2), .second, .val (.ref b9), .unset, .unset] [])) _
            refine XS.iconst X12.here hx rfl (hb hby at_152) ?_
            show Steps p.tables e below (T12.setTop (mkF m 153 #[.val (.long q1), .second, .val (.long q2), .second, .val (.long q3), .second, .val (.int p4), .val (.long nw), .second, .val (.long ag), .second, .val (.long q2), .second, .val (.ref b9), .unset, .unset] [(.int (1 : Int32))])) _
            refine XS.goto X12.here hx rfl (pc0 := 153) (pc' := 157) rfl (hb hby at_153) (by decide) (by decide) ?_
            show Steps p.tables e below (T12.setTop (mkF m 157 #[.val (.long q1), .second, .val (.long q2), .second, .val (.long q3), .second, .val (.int p4), .val (.long nw), .second, .val (.long ag), .second, .val (.long q2), .second, .val (.ref b9), .unset, .unset] [(.int (1 : Int32))])) _
            refine XS.istore X12.here hx rfl (hb hby at_157) rfl (l' := #[.val (.long q1), .second, .val (.long q2), .second, .val (.long q3), .second, .val (.int p4), .val (.long nw), .second, .val (.long ag), .second, .val (.long q2), .second, .val (.ref b9), .val (.int (1 : Int32)), .unset]) rfl ?_
            show Steps p.tables e below (T12.setTop (mkF m 159 #[.val (.long q1), .second, .val (.long q2), .second, .val (.long q3), .second, .val (.int p4), .val (.long nw), .second, .val (.long ag), .second, .val (.long q2), .second, .val (.ref b9), .val (.int (1 : Int32)), .unset] [])) _
            refine XS.aload X12.here hx rfl (hb hby at_159) rfl rfl ?_
            show Steps p.tables e below (T12.setTop (mkF m 161 #[.val (.long q1), .second, .val (.long q2), .second, .val (.long q3), .second, .val (.int p4), .val (.long nw), .second, .val (.long ag), .second, .val (.long q2), .second, .val (.ref b9), .val (.int (1 : Int32)), .unset] [(.ref b9)])) _
            refine XS.lload X12.here hx rfl (hb hby at_161) rfl ?_
            show Steps p.tables e below (T12.setTop (mkF m 163 #[.val (.long q1), .second, .val (.long q2), .second, .val (.long q3), .second, .val (.int p4), .val (.long nw), .second, .val (.long ag), .second, .val (.long q2), .second, .val (.ref b9), .val (.int (1 : Int32)), .unset] [(.long q2), (.ref b9)])) _
            refine XS.lload X12.here hx rfl (hb hby at_163) rfl ?_
            show Steps p.tables e below (T12.setTop (mkF m 165 #[.val (.long q1), .second, .val (.long q2), .second, .val (.long q3), .second, .val (.int p4), .val (.long nw), .second, .val (.long ag), .second, .val (.long q2), .second, .val (.ref b9), .val (.int (1 : Int32)), .unset] [(.long nw), (.long q2), (.ref b9)])) _
            exact k)
          obtain ⟨cq31, kq31, q31a, q31b, q31c⟩ := isOf hZ rfl (A9.keep K12)
          obtain ⟨_, _, ⟨T31, L31, k31, n31⟩, -, X31, ⟨Lc31, hQ31, l31, y31, z31⟩, st31⟩ := X12.virtualBack hx (y := (⟨"com/example/keen_broker/keenbroker/store/Retention", "pastAge", "(JJ)Z"⟩ : MethodName)) (z := (⟨"com/example/keen_broker/keenbroker/store/Retention", "pastAge", "(JJ)Z"⟩ : MethodName)) hown (mvT hZ (hw _ (List.mem_of_getElem? (i := 18) rfl))) (mvT hZ (hw _ (List.mem_of_getElem? (i := 19) rfl))) (notFace_of_selects (args := #[]) (mvT hZ (hw _ (List.mem_of_getElem? (i := 21) rfl)))) (mvT hZ (hw _ (List.mem_of_getElem? (i := 21) rfl))) (mvT hZ (hw _ (List.mem_of_getElem? (i := 20) rfl))) (by decide) (backOf (W := 0) (own_past l Z a0 hw [] b9 q2 nw ag T12.heap n0 (Nat.le_trans (Nat.le_trans Z0 E9.1) K12.1) F12) hZ (hw _ (List.mem_of_getElem? (i := 22) rfl)) (hw _ (List.mem_of_getElem? (i := 7) rfl)) (by decide) (by decide)) q31a q31c (g := (mkF m 165 #[.val (.long q1), .second, .val (.long q2), .second, .val (.long q3), .second, .val (.int p4), .val (.long nw), .second, .val (.long ag), .second, .val (.long q2), .second, .val (.ref b9), .val (.int (1 : Int32)), .unset] [(.long nw), (.long q2), (.ref b9)])) rfl (by rw [hml]; rfl) (Steps.refl _) (argsL := [(.long q2), (.long nw)]) (rest := []) (lenOf pd__JJ_Z rfl) rfl (by show 2 * 0 + _ ≤ _; exact Nat.le_of_eq rfl) (hb hby at_165) (fun _ _ => ⟨rfl, rfl, (by decide : 1 + 0 ≤ _), (by decide : 2 + 0 ≤ _)⟩)
          dsimp only [Pt.U, Pt.locs, Pt.cells, Pt.slots] at X31 l31 y31 z31 st31 hQ31
          subst l31 y31 z31
          obtain ⟨rfl, N31q, s31⟩ := hQ31
          have N31 := Fr.app N12 N31q
          have pp32 : ∀ t, Steps p.tables e below (T31.setTop (mkF m 168 #[.val (.long q1), .second, .val (.long q2), .second, .val (.long q3), .second, .val (.int p4), .val (.long nw), .second, .val (.long ag), .second, .val (.long q2), .second, .val (.ref b9), .val (.int (1 : Int32)), .unset] [(.int (own_pa ag q2 nw))])) t → Steps p.tables e below (s₁.setTop (entryFrame m #[(.long q1), (.long q2), (.long q3), (.int p4)] maxLocals)) t := fun t k => pp30 t (st31.trans k)
          have pp33 : ∀ t, Steps p.tables e below (T31.setTop (mkF m 178 #[.val (.long q1), .second, .val (.long q2), .second, .val (.long q3), .second, .val (.int p4), .val (.long nw), .second, .val (.long ag), .second, .val (.long q2), .second, .val (.ref b9), .val (.int (1 : Int32)), .unset] [(.int (1 : Int32))])) t → Steps p.tables e below (s₁.setTop (entryFrame m #[(.long q1), (.long q2), (.long q3), (.int p4)] maxLocals)) t := fun t k => pp32 t (by
            refine XS.iload X31.here hx rfl (hb hby at_168) rfl ?_
            show Steps p.tables e below (T31.setTop (mkF m 170 #[.val (.long q1), .second, .val (.long q2), .second, .val (.long q3), .second, .val (.int p4), .val (.long nw), .second, .val (.long ag), .second, .val (.long q2), .second, .val (.ref b9), .val (.int (1 : Int32)), .unset] [(.int (1 : Int32)), (.int (own_pa ag q2 nw))])) _
            refine XS.icmpNo X31.here hx rfl (hb hby at_170) rfl (teq (own_pa1 hc104 ((own_pos ag _ nw hag hnw0 hc117).mp hc149))).2 ?_
            show Steps p.tables e below (T31.setTop (mkF m 173 #[.val (.long q1), .second, .val (.long q2), .second, .val (.long q3), .second, .val (.int p4), .val (.long nw), .second, .val (.long ag), .second, .val (.long q2), .second, .val (.ref b9), .val (.int (1 : Int32)), .unset] [])) _
            refine XS.iconst X31.here hx rfl (hb hby at_173) ?_
            show Steps p.tables e below (T31.setTop (mkF m 174 #[.val (.long q1), .second, .val (.long q2), .second, .val (.long q3), .second, .val (.int p4), .val (.long nw), .second, .val (.long ag), .second, .val (.long q2), .second, .val (.ref b9), .val (.int (1 : Int32)), .unset] [(.int (1 : Int32))])) _
            refine XS.goto X31.here hx rfl (pc0 := 174) (pc' := 178) rfl (hb hby at_174) (by decide) (by decide) ?_
            show Steps p.tables e below (T31.setTop (mkF m 178 #[.val (.long q1), .second, .val (.long q2), .second, .val (.long q3), .second, .val (.int p4), .val (.long nw), .second, .val (.long ag), .second, .val (.long q2), .second, .val (.ref b9), .val (.int (1 : Int32)), .unset] [(.int (1 : Int32))])) _
            exact k)
          obtain ⟨fs, hr, hrun, hended, hW, hsame⟩ := X31.leave (v := some (.int (1 : Int32))) (fun h => by rw [Bd.returns] at h; cases h)
          refine ⟨_, _, pp33 _ ?_, hrun, hended, _, _, rfl, ?_, ⟨_, rfl⟩, hW, hsame.mono (by decide) (by decide)⟩
          · exact retN X31 hx (t := .boolean) Bd.returns (by simp) (hb hby at_178) hr
          · show Q_own_law Z q1 q2 q3 p4 h0 n0 _ T31.heap _
            rw [s31]
            exact ⟨rfl, N31⟩
        · have pp34 : ∀ t, Steps p.tables e below (T12.setTop (mkF m 165 #[.val (.long q1), .second, .val (.long q2), .second, .val (.long q3), .second, .val (.int p4), .val (.long nw), .second, .val (.long ag), .second, .val (.long q2), .second, .val (.ref b9), .val (.int (0 : Int32)), .unset] [(.long nw), (.long q2), (.ref b9)])) t → Steps p.tables e below (s₁.setTop (entryFrame m #[(.long q1), (.long q2), (.long q3), (.int p4)] maxLocals)) t := fun t k => pp29 t (by
            refine XS.ifYes X12.here hx rfl (pc0 := 149) (pc' := 156) rfl (hb hby at_149) rfl ((if0 _ _).trans (flt hc149).2.2.2) (by decide) (by decide) ?_
            show Steps p.tables e below (T12.setTop (mkF m 156 #[.val (.long q1), .second, .val (.long q2), .second, .val (.long q3), .second, .val (.int p4), .val (.long nw), .second, .val (.long ag), .second, .val (.long q2), .second, .val (.ref b9), .unset, .unset] [])) _
            refine XS.iconst X12.here hx rfl (hb hby at_156) ?_
            show Steps p.tables e below (T12.setTop (mkF m 157 #[.val (.long q1), .second, .val (.long q2), .second, .val (.long q3), .second, .val (.int p4), .val (.long nw), .second, .val (.long ag), .second, .val (.long q2), .second, .val (.ref b9), .unset, .unset] [(.int (0 : Int32))])) _
            refine XS.istore X12.here hx rfl (hb hby at_157) rfl (l' := #[.val (.long q1), .second, .val (.long q2), .second, .val (.long q3), .second, .val (.int p4), .val (.long nw), .second, .val (.long ag), .second, .val (.long q2), .second, .val (.ref b9), .val (.int (0 : Int32)), .unset]) rfl ?_
            show Steps p.tables e below (T12.setTop (mkF m 159 #[.val (.long q1), .second, .val (.long q2), .second, .val (.long q3), .second, .val (.int p4), .val (.long nw), .second, .val (.long ag), .second, .val (.long q2), .second, .val (.ref b9), .val (.int (0 : Int32)), .unset] [])) _
            refine XS.aload X12.here hx rfl (hb hby at_159) rfl rfl ?_
            show Steps p.tables e below (T12.setTop (mkF m 161 #[.val (.long q1), .second, .val (.long q2), .second, .val (.long q3), .second, .val (.int p4), .val (.long nw), .second, .val (.long ag), .second, .val (.long q2), .second, .val (.ref b9), .val (.int (0 : Int32)), .unset] [(.ref b9)])) _
            refine XS.lload X12.here hx rfl (hb hby at_161) rfl ?_
            show Steps p.tables e below (T12.setTop (mkF m 163 #[.val (.long q1), .second, .val (.long q2), .second, .val (.long q3), .second, .val (.int p4), .val (.long nw), .second, .val (.long ag), .second, .val (.long q2), .second, .val (.ref b9), .val (.int (0 : Int32)), .unset] [(.long q2), (.ref b9)])) _
            refine XS.lload X12.here hx rfl (hb hby at_163) rfl ?_
            show Steps p.tables e below (T12.setTop (mkF m 165 #[.val (.long q1), .second, .val (.long q2), .second, .val (.long q3), .second, .val (.int p4), .val (.long nw), .second, .val (.long ag), .second, .val (.long q2), .second, .val (.ref b9), .val (.int (0 : Int32)), .unset] [(.long nw), (.long q2), (.ref b9)])) _
            exact k)
          obtain ⟨cq35, kq35, q35a, q35b, q35c⟩ := isOf hZ rfl (A9.keep K12)
          obtain ⟨_, _, ⟨T35, L35, k35, n35⟩, -, X35, ⟨Lc35, hQ35, l35, y35, z35⟩, st35⟩ := X12.virtualBack hx (y := (⟨"com/example/keen_broker/keenbroker/store/Retention", "pastAge", "(JJ)Z"⟩ : MethodName)) (z := (⟨"com/example/keen_broker/keenbroker/store/Retention", "pastAge", "(JJ)Z"⟩ : MethodName)) hown (mvT hZ (hw _ (List.mem_of_getElem? (i := 18) rfl))) (mvT hZ (hw _ (List.mem_of_getElem? (i := 19) rfl))) (notFace_of_selects (args := #[]) (mvT hZ (hw _ (List.mem_of_getElem? (i := 21) rfl)))) (mvT hZ (hw _ (List.mem_of_getElem? (i := 21) rfl))) (mvT hZ (hw _ (List.mem_of_getElem? (i := 20) rfl))) (by decide) (backOf (W := 0) (own_past l Z a0 hw [] b9 q2 nw ag T12.heap n0 (Nat.le_trans (Nat.le_trans Z0 E9.1) K12.1) F12) hZ (hw _ (List.mem_of_getElem? (i := 22) rfl)) (hw _ (List.mem_of_getElem? (i := 7) rfl)) (by decide) (by decide)) q35a q35c (g := (mkF m 165 #[.val (.long q1), .second, .val (.long q2), .second, .val (.long q3), .second, .val (.int p4), .val (.long nw), .second, .val (.long ag), .second, .val (.long q2), .second, .val (.ref b9), .val (.int (0 : Int32)), .unset] [(.long nw), (.long q2), (.ref b9)])) rfl (by rw [hml]; rfl) (Steps.refl _) (argsL := [(.long q2), (.long nw)]) (rest := []) (lenOf pd__JJ_Z rfl) rfl (by show 2 * 0 + _ ≤ _; exact Nat.le_of_eq rfl) (hb hby at_165) (fun _ _ => ⟨rfl, rfl, (by decide : 1 + 0 ≤ _), (by decide : 2 + 0 ≤ _)⟩)
          dsimp only [Pt.U, Pt.locs, Pt.cells, Pt.slots] at X35 l35 y35 z35 st35 hQ35
          subst l35 y35 z35
          obtain ⟨rfl, N35q, s35⟩ := hQ35
          have N35 := Fr.app N12 N35q
          have pp36 : ∀ t, Steps p.tables e below (T35.setTop (mkF m 168 #[.val (.long q1), .second, .val (.long q2), .second, .val (.long q3), .second, .val (.int p4), .val (.long nw), .second, .val (.long ag), .second, .val (.long q2), .second, .val (.ref b9), .val (.int (0 : Int32)), .unset] [(.int (own_pa ag q2 nw))])) t → Steps p.tables e below (s₁.setTop (entryFrame m #[(.long q1), (.long q2), (.long q3), (.int p4)] maxLocals)) t := fun t k => pp34 t (st35.trans k)
          have pp37 : ∀ t, Steps p.tables e below (T35.setTop (mkF m 178 #[.val (.long q1), .second, .val (.long q2), .second, .val (.long q3), .second, .val (.int p4), .val (.long nw), .second, .val (.long ag), .second, .val (.long q2), .second, .val (.ref b9), .val (.int (0 : Int32)), .unset] [(.int (1 : Int32))])) t → Steps p.tables e below (s₁.setTop (entryFrame m #[(.long q1), (.long q2), (.long q3), (.int p4)] maxLocals)) t := fun t k => pp36 t (by
            refine XS.iload X35.here hx rfl (hb hby at_168) rfl ?_
            show Steps p.tables e below (T35.setTop (mkF m 170 #[.val (.long q1), .second, .val (.long q2), .second, .val (.long q3), .second, .val (.int p4), .val (.long nw), .second, .val (.long ag), .second, .val (.long q2), .second, .val (.ref b9), .val (.int (0 : Int32)), .unset] [(.int (0 : Int32)), (.int (own_pa ag q2 nw))])) _
            refine XS.icmpNo X35.here hx rfl (hb hby at_170) rfl (teq (own_pa2 hc104 (fun q => hc149 ((own_pos ag _ nw hag hnw0 hc117).mpr q)))).2 ?_
            show Steps p.tables e below (T35.setTop (mkF m 173 #[.val (.long q1), .second, .val (.long q2), .second, .val (.long q3), .second, .val (.int p4), .val (.long nw), .second, .val (.long ag), .second, .val (.long q2), .second, .val (.ref b9), .val (.int (0 : Int32)), .unset] [])) _
            refine XS.iconst X35.here hx rfl (hb hby at_173) ?_
            show Steps p.tables e below (T35.setTop (mkF m 174 #[.val (.long q1), .second, .val (.long q2), .second, .val (.long q3), .second, .val (.int p4), .val (.long nw), .second, .val (.long ag), .second, .val (.long q2), .second, .val (.ref b9), .val (.int (0 : Int32)), .unset] [(.int (1 : Int32))])) _
            refine XS.goto X35.here hx rfl (pc0 := 174) (pc' := 178) rfl (hb hby at_174) (by decide) (by decide) ?_
            show Steps p.tables e below (T35.setTop (mkF m 178 #[.val (.long q1), .second, .val (.long q2), .second, .val (.long q3), .second, .val (.int p4), .val (.long nw), .second, .val (.long ag), .second, .val (.long q2), .second, .val (.ref b9), .val (.int (0 : Int32)), .unset] [(.int (1 : Int32))])) _
            exact k)
          obtain ⟨fs, hr, hrun, hended, hW, hsame⟩ := X35.leave (v := some (.int (1 : Int32))) (fun h => by rw [Bd.returns] at h; cases h)
          refine ⟨_, _, pp37 _ ?_, hrun, hended, _, _, rfl, ?_, ⟨_, rfl⟩, hW, hsame.mono (by decide) (by decide)⟩
          · exact retN X35 hx (t := .boolean) Bd.returns (by simp) (hb hby at_178) hr
          · show Q_own_law Z q1 q2 q3 p4 h0 n0 _ T35.heap _
            rw [s35]
            exact ⟨rfl, N35⟩
  · have pp38 : ∀ t, Steps p.tables e below (T2.setTop (mkF m 48 #[.val (.long q1), .second, .val (.long q2), .second, .val (.long q3), .second, .val (.int p4), .val (.long nw), .second, .val (.long ag), .second, .val (.long q2), .second, .unset, .unset, .unset] [(.int (lcmpW ag (9223372036854775807 : Int64)))])) t → Steps p.tables e below (s₁.setTop (entryFrame m #[(.long q1), (.long q2), (.long q3), (.int p4)] maxLocals)) t := fun t k => pp7 t (by
      refine XS.ifNo X2.here hx rfl (hb hby at_39) rfl ((if0 _ _).trans (feq hc39).1) ?_
      show Steps p.tables e below (T2.setTop (mkF m 42 #[.val (.long q1), .second, .val (.long q2), .second, .val (.long q3), .second, .val (.int p4), .val (.long nw), .second, .val (.long ag), .second, .val (.long q2), .second, .unset, .unset, .unset] [])) _
      refine XS.lload X2.here hx rfl (hb hby at_42) rfl ?_
      show Steps p.tables e below (T2.setTop (mkF m 44 #[.val (.long q1), .second, .val (.long q2), .second, .val (.long q3), .second, .val (.int p4), .val (.long nw), .second, .val (.long ag), .second, .val (.long q2), .second, .unset, .unset, .unset] [(.long ag)])) _
      refine X2.ldc2Long hx hown (mvT hZ (hw _ (List.mem_of_getElem? (i := 0) rfl))) (g := (mkF m 44 #[.val (.long q1), .second, .val (.long q2), .second, .val (.long q3), .second, .val (.int p4), .val (.long nw), .second, .val (.long ag), .second, .val (.long q2), .second, .unset, .unset, .unset] [(.long ag)])) rfl (hb hby at_44) _ ?_
      show Steps p.tables e below (T2.setTop (mkF m 47 #[.val (.long q1), .second, .val (.long q2), .second, .val (.long q3), .second, .val (.int p4), .val (.long nw), .second, .val (.long ag), .second, .val (.long q2), .second, .unset, .unset, .unset] [(.long (9223372036854775807 : Int64)), (.long ag)])) _
      refine XS.lcmp X2.here hx rfl (hb hby at_47) rfl ?_
      show Steps p.tables e below (T2.setTop (mkF m 48 #[.val (.long q1), .second, .val (.long q2), .second, .val (.long q3), .second, .val (.int p4), .val (.long nw), .second, .val (.long ag), .second, .val (.long q2), .second, .unset, .unset, .unset] [(.int (lcmpW ag (9223372036854775807 : Int64)))])) _
      exact k)
    by_cases hc48 : (lcmpW ag (9223372036854775807 : Int64)) = (0 : Int32)
    · have pp39 : ∀ t, Steps p.tables e below (T2.setTop (mkF m 86 #[.val (.long q1), .second, .val (.long q2), .second, .val (.long q3), .second, .val (.int p4), .val (.long nw), .second, .val (.long ag), .second, .val (.long q2), .second, .unset, .unset, .unset] [])) t → Steps p.tables e below (s₁.setTop (entryFrame m #[(.long q1), (.long q2), (.long q3), (.int p4)] maxLocals)) t := fun t k => pp38 t (by
        refine XS.ifYes X2.here hx rfl (pc0 := 48) (pc' := 86) rfl (hb hby at_48) rfl ((if0 _ _).trans (teq hc48).1) (by decide) (by decide) ?_
        show Steps p.tables e below (T2.setTop (mkF m 86 #[.val (.long q1), .second, .val (.long q2), .second, .val (.long q3), .second, .val (.int p4), .val (.long nw), .second, .val (.long ag), .second, .val (.long q2), .second, .unset, .unset, .unset] [])) _
        exact k)
      obtain ⟨T40, h40, X40, e40, E40, A40, D40, M40, st40⟩ := newO X2 hx hZ hown (hw _ (List.mem_of_getElem? (i := 5) rfl)) (hw _ (List.mem_of_getElem? (i := 6) rfl)) (hw _ (List.mem_of_getElem? (i := 7) rfl)) e2 (g := (mkF m 86 #[.val (.long q1), .second, .val (.long q2), .second, .val (.long q3), .second, .val (.int p4), .val (.long nw), .second, .val (.long ag), .second, .val (.long q2), .second, .unset, .unset, .unset] [])) rfl (hb hby at_86) (by decide) (by decide)
      obtain ⟨b40, g40⟩ : ∃ z, z = h0.size := ⟨_, rfl⟩
      rw [← g40] at A40 D40 M40 st40
      have g_b40 : n0 ≤ b40 := Nat.le_trans Z0 (Nat.le_of_eq g40.symm)
      have sz_b40 : h0.size ≤ b40 := Nat.le_trans (Keep.refl h0 []).1 (Nat.le_of_eq g40.symm)
      have F_ageMillis_b40 : Fld Z h40 b40 "com/example/keen_broker/keenbroker/store/Retention" "ageMillis" "J" (.long (0 : Int64)) := D40 (Or.inr (hw _ (List.mem_of_getElem? (i := 15) rfl))) (ty := .long) (by decide)
      have F_bytes_b40 : Fld Z h40 b40 "com/example/keen_broker/keenbroker/store/Retention" "bytes" "J" (.long (0 : Int64)) := D40 (Or.inr (hw _ (List.mem_of_getElem? (i := 17) rfl))) (ty := .long) (by decide)
      have pp41 : ∀ t, Steps p.tables e below (T40.setTop (mkF m 89 #[.val (.long q1), .second, .val (.long q2), .second, .val (.long q3), .second, .val (.int p4), .val (.long nw), .second, .val (.long ag), .second, .val (.long q2), .second, .unset, .unset, .unset] [(.ref b40)])) t → Steps p.tables e below (s₁.setTop (entryFrame m #[(.long q1), (.long q2), (.long q3), (.int p4)] maxLocals)) t := fun t k => pp39 t (st40 t k)
      have pp42 : ∀ t, Steps p.tables e below (T40.setTop (mkF m 93 #[.val (.long q1), .second, .val (.long q2), .second, .val (.long q3), .second, .val (.int p4), .val (.long nw), .second, .val (.long ag), .second, .val (.long q2), .second, .unset, .unset, .unset] [(.long (0 : Int64)), (.long ag), (.ref b40), (.ref b40)])) t → Steps p.tables e below (s₁.setTop (entryFrame m #[(.long q1), (.long q2), (.long q3), (.int p4)] maxLocals)) t := fun t k => pp41 t (by
        refine XS.dup X40.here hx rfl (hb hby at_89) rfl rfl ?_
        show Steps p.tables e below (T40.setTop (mkF m 90 #[.val (.long q1), .second, .val (.long q2), .second, .val (.long q3), .second, .val (.int p4), .val (.long nw), .second, .val (.long ag), .second, .val (.long q2), .second, .unset, .unset, .unset] [(.ref b40), (.ref b40)])) _
        refine XS.lload X40.here hx rfl (hb hby at_90) rfl ?_
        show Steps p.tables e below (T40.setTop (mkF m 92 #[.val (.long q1), .second, .val (.long q2), .second, .val (.long q3), .second, .val (.int p4), .val (.long nw), .second, .val (.long ag), .second, .val (.long q2), .second, .unset, .unset, .unset] [(.long ag), (.ref b40), (.ref b40)])) _
        refine XS.lconst X40.here hx rfl (hb hby at_92) ?_
        show Steps p.tables e below (T40.setTop (mkF m 93 #[.val (.long q1), .second, .val (.long q2), .second, .val (.long q3), .second, .val (.int p4), .val (.long nw), .second, .val (.long ag), .second, .val (.long q2), .second, .unset, .unset, .unset] [(.long (0 : Int64)), (.long ag), (.ref b40), (.ref b40)])) _
        exact k)
      obtain ⟨_, _, ⟨T43, L43, k43, n43⟩, -, X43, ⟨Lc43, hQ43, l43, y43, z43⟩, st43⟩ := X40.specialBack hx (y := (⟨"com/example/keen_broker/keenbroker/store/Retention", "<init>", "(JJ)V"⟩ : MethodName)) rfl hown (mvT hZ (hw _ (List.mem_of_getElem? (i := 8) rfl))) (mvT hZ (hw _ (List.mem_of_getElem? (i := 9) rfl))) (mvT hZ (hw _ (List.mem_of_getElem? (i := 10) rfl))) (by decide) (backOf (W := 1) (own_init l Z a0 hw [] b40 ag (0 : Int64) (.long (0 : Int64)) (.long (0 : Int64)) h40 n0 (Nat.le_trans Z0 E40.1) A40 F_ageMillis_b40 F_bytes_b40 g_b40 (own_nlt _ hag) (by decide)) hZ (hw _ (List.mem_of_getElem? (i := 10) rfl)) (hw _ (List.mem_of_getElem? (i := 7) rfl)) (by decide) (by decide)) (g := (mkF m 93 #[.val (.long q1), .second, .val (.long q2), .second, .val (.long q3), .second, .val (.int p4), .val (.long nw), .second, .val (.long ag), .second, .val (.long q2), .second, .unset, .unset, .unset] [(.long (0 : Int64)), (.long ag), (.ref b40), (.ref b40)])) rfl (by rw [hml]; rfl) (Steps.refl _) (a := b40) (argsL := [(.long ag), (.long (0 : Int64))]) (rest := [(.ref b40)]) (lenOf pd__JJ_V rfl) rfl (by show 2 * 0 + _ ≤ _; exact Nat.le_of_eq rfl) (hb hby at_93) (fun _ _ => ⟨rfl, e40, (by decide : 1 + 0 ≤ _), (by decide : 2 + 0 ≤ _)⟩)
      dsimp only [Pt.U, Pt.locs, Pt.cells, Pt.slots] at X43 l43 y43 z43 st43 hQ43
      subst l43 y43 z43
      obtain ⟨rfl, N43q, K43, EE43, F43⟩ := hQ43
      have N43 := Fr.app N2 N43q
      have pp44 : ∀ t, Steps p.tables e below (T43.setTop (mkF m 96 #[.val (.long q1), .second, .val (.long q2), .second, .val (.long q3), .second, .val (.int p4), .val (.long nw), .second, .val (.long ag), .second, .val (.long q2), .second, .unset, .unset, .unset] [(.ref b40)])) t → Steps p.tables e below (s₁.setTop (entryFrame m #[(.long q1), (.long q2), (.long q3), (.int p4)] maxLocals)) t := fun t k => pp42 t (st43.trans k)
      have hc104 := hc48
      have pp45 : ∀ t, Steps p.tables e below (T43.setTop (mkF m 165 #[.val (.long q1), .second, .val (.long q2), .second, .val (.long q3), .second, .val (.int p4), .val (.long nw), .second, .val (.long ag), .second, .val (.long q2), .second, .val (.ref b40), .val (.int (0 : Int32)), .unset] [(.long nw), (.long q2), (.ref b40)])) t → Steps p.tables e below (s₁.setTop (entryFrame m #[(.long q1), (.long q2), (.long q3), (.int p4)] maxLocals)) t := fun t k => pp44 t (by
        refine XS.astore X43.here hx rfl (hb hby at_96) rfl rfl (l' := #[.val (.long q1), .second, .val (.long q2), .second, .val (.long q3), .second, .val (.int p4), .val (.long nw), .second, .val (.long ag), .second, .val (.long q2), .second, .val (.ref b40), .unset, .unset]) rfl ?_
        show Steps p.tables e below (T43.setTop (mkF m 98 #[.val (.long q1), .second, .val (.long q2), .second, .val (.long q3), .second, .val (.int p4), .val (.long nw), .second, .val (.long ag), .second, .val (.long q2), .second, .val (.ref b40), .unset, .unset] [])) _
        refine XS.lload X43.here hx rfl (hb hby at_98) rfl ?_
        show Steps p.tables e below (T43.setTop (mkF m 100 #[.val (.long q1), .second, .val (.long q2), .second, .val (.long q3), .second, .val (.int p4), .val (.long nw), .second, .val (.long ag), .second, .val (.long q2), .second, .val (.ref b40), .unset, .unset] [(.long ag)])) _
        refine X43.ldc2Long hx hown (mvT hZ (hw _ (List.mem_of_getElem? (i := 0) rfl))) (g := (mkF m 100 #[.val (.long q1), .second, .val (.long q2), .second, .val (.long q3), .second, .val (.int p4), .val (.long nw), .second, .val (.long ag), .second, .val (.long q2), .second, .val (.ref b40), .unset, .unset] [(.long ag)])) rfl (hb hby at_100) _ ?_
        show Steps p.tables e below (T43.setTop (mkF m 103 #[.val (.long q1), .second, .val (.long q2), .second, .val (.long q3), .second, .val (.int p4), .val (.long nw), .second, .val (.long ag), .second, .val (.long q2), .second, .val (.ref b40), .unset, .unset] [(.long (9223372036854775807 : Int64)), (.long ag)])) _
        refine XS.lcmp X43.here hx rfl (hb hby at_103) rfl ?_
        show Steps p.tables e below (T43.setTop (mkF m 104 #[.val (.long q1), .second, .val (.long q2), .second, .val (.long q3), .second, .val (.int p4), .val (.long nw), .second, .val (.long ag), .second, .val (.long q2), .second, .val (.ref b40), .unset, .unset] [(.int (lcmpW ag (9223372036854775807 : Int64)))])) _
        refine XS.ifNo X43.here hx rfl (hb hby at_104) rfl ((if0 _ _).trans (teq hc104).2) ?_
        show Steps p.tables e below (T43.setTop (mkF m 107 #[.val (.long q1), .second, .val (.long q2), .second, .val (.long q3), .second, .val (.int p4), .val (.long nw), .second, .val (.long ag), .second, .val (.long q2), .second, .val (.ref b40), .unset, .unset] [])) _
        refine XS.iconst X43.here hx rfl (hb hby at_107) ?_
        show Steps p.tables e below (T43.setTop (mkF m 108 #[.val (.long q1), .second, .val (.long q2), .second, .val (.long q3), .second, .val (.int p4), .val (.long nw), .second, .val (.long ag), .second, .val (.long q2), .second, .val (.ref b40), .unset, .unset] [(.int (0 : Int32))])) _
        refine XS.istore X43.here hx rfl (hb hby at_108) rfl (l' := #[.val (.long q1), .second, .val (.long q2), .second, .val (.long q3), .second, .val (.int p4), .val (.long nw), .second, .val (.long ag), .second, .val (.long q2), .second, .val (.ref b40), .val (.int (0 : Int32)), .unset]) rfl ?_
        show Steps p.tables e below (T43.setTop (mkF m 110 #[.val (.long q1), .second, .val (.long q2), .second, .val (.long q3), .second, .val (.int p4), .val (.long nw), .second, .val (.long ag), .second, .val (.long q2), .second, .val (.ref b40), .val (.int (0 : Int32)), .unset] [])) _
        refine XS.goto X43.here hx rfl (pc0 := 110) (pc' := 159) rfl (hb hby at_110) (by decide) (by decide) ?_
        show Steps p.tables e below (T43.setTop (mkF m 159 #[.val (.long q1), .second, .val (.long q2), .second, .val (.long q3), .second, .val (.int p4), .val (.long nw), .second, .val (.long ag), .second, .val (.long q2), .second, .val (.ref b40), .val (.int (0 : Int32)), .unset] [])) _
        refine XS.aload X43.here hx rfl (hb hby at_159) rfl rfl ?_
        show Steps p.tables e below (T43.setTop (mkF m 161 #[.val (.long q1), .second, .val (.long q2), .second, .val (.long q3), .second, .val (.int p4), .val (.long nw), .second, .val (.long ag), .second, .val (.long q2), .second, .val (.ref b40), .val (.int (0 : Int32)), .unset] [(.ref b40)])) _
        refine XS.lload X43.here hx rfl (hb hby at_161) rfl ?_
        show Steps p.tables e below (T43.setTop (mkF m 163 #[.val (.long q1), .second, .val (.long q2), .second, .val (.long q3), .second, .val (.int p4), .val (.long nw), .second, .val (.long ag), .second, .val (.long q2), .second, .val (.ref b40), .val (.int (0 : Int32)), .unset] [(.long q2), (.ref b40)])) _
        refine XS.lload X43.here hx rfl (hb hby at_163) rfl ?_
        show Steps p.tables e below (T43.setTop (mkF m 165 #[.val (.long q1), .second, .val (.long q2), .second, .val (.long q3), .second, .val (.int p4), .val (.long nw), .second, .val (.long ag), .second, .val (.long q2), .second, .val (.ref b40), .val (.int (0 : Int32)), .unset] [(.long nw), (.long q2), (.ref b40)])) _
        exact k)
      obtain ⟨cq46, kq46, q46a, q46b, q46c⟩ := isOf hZ rfl (A40.keep K43)
      obtain ⟨_, _, ⟨T46, L46, k46, n46⟩, -, X46, ⟨Lc46, hQ46, l46, y46, z46⟩, st46⟩ := X43.virtualBack hx (y := (⟨"com/example/keen_broker/keenbroker/store/Retention", "pastAge", "(JJ)Z"⟩ : MethodName)) (z := (⟨"com/example/keen_broker/keenbroker/store/Retention", "pastAge", "(JJ)Z"⟩ : MethodName)) hown (mvT hZ (hw _ (List.mem_of_getElem? (i := 18) rfl))) (mvT hZ (hw _ (List.mem_of_getElem? (i := 19) rfl))) (notFace_of_selects (args := #[]) (mvT hZ (hw _ (List.mem_of_getElem? (i := 21) rfl)))) (mvT hZ (hw _ (List.mem_of_getElem? (i := 21) rfl))) (mvT hZ (hw _ (List.mem_of_getElem? (i := 20) rfl))) (by decide) (backOf (W := 0) (own_past l Z a0 hw [] b40 q2 nw ag T43.heap n0 (Nat.le_trans (Nat.le_trans Z0 E40.1) K43.1) F43) hZ (hw _ (List.mem_of_getElem? (i := 22) rfl)) (hw _ (List.mem_of_getElem? (i := 7) rfl)) (by decide) (by decide)) q46a q46c (g := (mkF m 165 #[.val (.long q1), .second, .val (.long q2), .second, .val (.long q3), .second, .val (.int p4), .val (.long nw), .second, .val (.long ag), .second, .val (.long q2), .second, .val (.ref b40), .val (.int (0 : Int32)), .unset] [(.long nw), (.long q2), (.ref b40)])) rfl (by rw [hml]; rfl) (Steps.refl _) (argsL := [(.long q2), (.long nw)]) (rest := []) (lenOf pd__JJ_Z rfl) rfl (by show 2 * 0 + _ ≤ _; exact Nat.le_of_eq rfl) (hb hby at_165) (fun _ _ => ⟨rfl, rfl, (by decide : 1 + 0 ≤ _), (by decide : 2 + 0 ≤ _)⟩)
      dsimp only [Pt.U, Pt.locs, Pt.cells, Pt.slots] at X46 l46 y46 z46 st46 hQ46
      subst l46 y46 z46
      obtain ⟨rfl, N46q, s46⟩ := hQ46
      have N46 := Fr.app N43 N46q
      have pp47 : ∀ t, Steps p.tables e below (T46.setTop (mkF m 168 #[.val (.long q1), .second, .val (.long q2), .second, .val (.long q3), .second, .val (.int p4), .val (.long nw), .second, .val (.long ag), .second, .val (.long q2), .second, .val (.ref b40), .val (.int (0 : Int32)), .unset] [(.int (own_pa ag q2 nw))])) t → Steps p.tables e below (s₁.setTop (entryFrame m #[(.long q1), (.long q2), (.long q3), (.int p4)] maxLocals)) t := fun t k => pp45 t (st46.trans k)
      have pp48 : ∀ t, Steps p.tables e below (T46.setTop (mkF m 178 #[.val (.long q1), .second, .val (.long q2), .second, .val (.long q3), .second, .val (.int p4), .val (.long nw), .second, .val (.long ag), .second, .val (.long q2), .second, .val (.ref b40), .val (.int (0 : Int32)), .unset] [(.int (1 : Int32))])) t → Steps p.tables e below (s₁.setTop (entryFrame m #[(.long q1), (.long q2), (.long q3), (.int p4)] maxLocals)) t := fun t k => pp47 t (by
        refine XS.iload X46.here hx rfl (hb hby at_168) rfl ?_
        show Steps p.tables e below (T46.setTop (mkF m 170 #[.val (.long q1), .second, .val (.long q2), .second, .val (.long q3), .second, .val (.int p4), .val (.long nw), .second, .val (.long ag), .second, .val (.long q2), .second, .val (.ref b40), .val (.int (0 : Int32)), .unset] [(.int (0 : Int32)), (.int (own_pa ag q2 nw))])) _
        refine XS.icmpNo X46.here hx rfl (hb hby at_170) rfl (teq (own_pa0 hc104)).2 ?_
        show Steps p.tables e below (T46.setTop (mkF m 173 #[.val (.long q1), .second, .val (.long q2), .second, .val (.long q3), .second, .val (.int p4), .val (.long nw), .second, .val (.long ag), .second, .val (.long q2), .second, .val (.ref b40), .val (.int (0 : Int32)), .unset] [])) _
        refine XS.iconst X46.here hx rfl (hb hby at_173) ?_
        show Steps p.tables e below (T46.setTop (mkF m 174 #[.val (.long q1), .second, .val (.long q2), .second, .val (.long q3), .second, .val (.int p4), .val (.long nw), .second, .val (.long ag), .second, .val (.long q2), .second, .val (.ref b40), .val (.int (0 : Int32)), .unset] [(.int (1 : Int32))])) _
        refine XS.goto X46.here hx rfl (pc0 := 174) (pc' := 178) rfl (hb hby at_174) (by decide) (by decide) ?_
        show Steps p.tables e below (T46.setTop (mkF m 178 #[.val (.long q1), .second, .val (.long q2), .second, .val (.long q3), .second, .val (.int p4), .val (.long nw), .second, .val (.long ag), .second, .val (.long q2), .second, .val (.ref b40), .val (.int (0 : Int32)), .unset] [(.int (1 : Int32))])) _
        exact k)
      obtain ⟨fs, hr, hrun, hended, hW, hsame⟩ := X46.leave (v := some (.int (1 : Int32))) (fun h => by rw [Bd.returns] at h; cases h)
      refine ⟨_, _, pp48 _ ?_, hrun, hended, _, _, rfl, ?_, ⟨_, rfl⟩, hW, hsame.mono (by decide) (by decide)⟩
      · exact retN X46 hx (t := .boolean) Bd.returns (by simp) (hb hby at_178) hr
      · show Q_own_law Z q1 q2 q3 p4 h0 n0 _ T46.heap _
        rw [s46]
        exact ⟨rfl, N46⟩
    · have pp49 : ∀ t, Steps p.tables e below (T2.setTop (mkF m 62 #[.val (.long q1), .second, .val (.long q2), .second, .val (.long q3), .second, .val (.int p4), .val (.long nw), .second, .val (.long ag), .second, .val (.long q2), .second, .val (.int (((p4.toUInt32 >>> ((2 : Int32) &&& 31).toUInt32).toInt32) &&& (3 : Int32))), .unset, .unset] [(.int (3 : Int32)), (.int (((p4.toUInt32 >>> ((2 : Int32) &&& 31).toUInt32).toInt32) &&& (3 : Int32)))])) t → Steps p.tables e below (s₁.setTop (entryFrame m #[(.long q1), (.long q2), (.long q3), (.int p4)] maxLocals)) t := fun t k => pp38 t (by
        refine XS.ifNo X2.here hx rfl (hb hby at_48) rfl ((if0 _ _).trans (feq hc48).1) ?_
        show Steps p.tables e below (T2.setTop (mkF m 51 #[.val (.long q1), .second, .val (.long q2), .second, .val (.long q3), .second, .val (.int p4), .val (.long nw), .second, .val (.long ag), .second, .val (.long q2), .second, .unset, .unset, .unset] [])) _
        refine XS.iload X2.here hx rfl (hb hby at_51) rfl ?_
        show Steps p.tables e below (T2.setTop (mkF m 53 #[.val (.long q1), .second, .val (.long q2), .second, .val (.long q3), .second, .val (.int p4), .val (.long nw), .second, .val (.long ag), .second, .val (.long q2), .second, .unset, .unset, .unset] [(.int p4)])) _
        refine XS.iconst X2.here hx rfl (hb hby at_53) ?_
        show Steps p.tables e below (T2.setTop (mkF m 54 #[.val (.long q1), .second, .val (.long q2), .second, .val (.long q3), .second, .val (.int p4), .val (.long nw), .second, .val (.long ag), .second, .val (.long q2), .second, .unset, .unset, .unset] [(.int (2 : Int32)), (.int p4)])) _
        refine XS.iushr X2.here hx rfl (hb hby at_54) rfl ?_
        show Steps p.tables e below (T2.setTop (mkF m 55 #[.val (.long q1), .second, .val (.long q2), .second, .val (.long q3), .second, .val (.int p4), .val (.long nw), .second, .val (.long ag), .second, .val (.long q2), .second, .unset, .unset, .unset] [(.int ((p4.toUInt32 >>> ((2 : Int32) &&& 31).toUInt32).toInt32))])) _
        refine XS.iconst X2.here hx rfl (hb hby at_55) ?_
        show Steps p.tables e below (T2.setTop (mkF m 56 #[.val (.long q1), .second, .val (.long q2), .second, .val (.long q3), .second, .val (.int p4), .val (.long nw), .second, .val (.long ag), .second, .val (.long q2), .second, .unset, .unset, .unset] [(.int (3 : Int32)), (.int ((p4.toUInt32 >>> ((2 : Int32) &&& 31).toUInt32).toInt32))])) _
        refine XS.iand X2.here hx rfl (hb hby at_56) rfl ?_
        show Steps p.tables e below (T2.setTop (mkF m 57 #[.val (.long q1), .second, .val (.long q2), .second, .val (.long q3), .second, .val (.int p4), .val (.long nw), .second, .val (.long ag), .second, .val (.long q2), .second, .unset, .unset, .unset] [(.int (((p4.toUInt32 >>> ((2 : Int32) &&& 31).toUInt32).toInt32) &&& (3 : Int32)))])) _
        refine XS.istore X2.here hx rfl (hb hby at_57) rfl (l' := #[.val (.long q1), .second, .val (.long q2), .second, .val (.long q3), .second, .val (.int p4), .val (.long nw), .second, .val (.long ag), .second, .val (.long q2), .second, .val (.int (((p4.toUInt32 >>> ((2 : Int32) &&& 31).toUInt32).toInt32) &&& (3 : Int32))), .unset, .unset]) rfl ?_
        show Steps p.tables e below (T2.setTop (mkF m 59 #[.val (.long q1), .second, .val (.long q2), .second, .val (.long q3), .second, .val (.int p4), .val (.long nw), .second, .val (.long ag), .second, .val (.long q2), .second, .val (.int (((p4.toUInt32 >>> ((2 : Int32) &&& 31).toUInt32).toInt32) &&& (3 : Int32))), .unset, .unset] [])) _
        refine XS.iload X2.here hx rfl (hb hby at_59) rfl ?_
        show Steps p.tables e below (T2.setTop (mkF m 61 #[.val (.long q1), .second, .val (.long q2), .second, .val (.long q3), .second, .val (.int p4), .val (.long nw), .second, .val (.long ag), .second, .val (.long q2), .second, .val (.int (((p4.toUInt32 >>> ((2 : Int32) &&& 31).toUInt32).toInt32) &&& (3 : Int32))), .unset, .unset] [(.int (((p4.toUInt32 >>> ((2 : Int32) &&& 31).toUInt32).toInt32) &&& (3 : Int32)))])) _
        refine XS.iconst X2.here hx rfl (hb hby at_61) ?_
        show Steps p.tables e below (T2.setTop (mkF m 62 #[.val (.long q1), .second, .val (.long q2), .second, .val (.long q3), .second, .val (.int p4), .val (.long nw), .second, .val (.long ag), .second, .val (.long q2), .second, .val (.int (((p4.toUInt32 >>> ((2 : Int32) &&& 31).toUInt32).toInt32) &&& (3 : Int32))), .unset, .unset] [(.int (3 : Int32)), (.int (((p4.toUInt32 >>> ((2 : Int32) &&& 31).toUInt32).toInt32) &&& (3 : Int32)))])) _
        exact k)
      generalize hdd : (((p4.toUInt32 >>> ((2 : Int32) &&& 31).toUInt32).toInt32) &&& (3 : Int32)) = dd at pp49
      obtain ⟨dl, T50, Lx50, X50, e50, N50, pp50⟩ : ∃ (dl : Int64) (T' : State) (Lx : List Loc), Stand p l e room_1 s m #[(.long q1), (.long q2), (.long q3), (.int p4)] below meth c T' Lx 0 0 ∧ T'.heap = h0 ∧ Fr n0 Lx ∧ ∀ t, Steps p.tables e below (T'.setTop (mkF m 74 #[.val (.long q1), .second, .val (.long q2), .second, .val (.long q3), .second, .val (.int p4), .val (.long nw), .second, .val (.long ag), .second, .val (.long q2), .second, .val (.int dd), .unset, .unset] [(.long dl)])) t → Steps p.tables e below (s₁.setTop (entryFrame m #[(.long q1), (.long q2), (.long q3), (.int p4)] maxLocals)) t := by
        by_cases hc62 : dd = (3 : Int32)
        · have pp51 : ∀ t, Steps p.tables e below (T2.setTop (mkF m 74 #[.val (.long q1), .second, .val (.long q2), .second, .val (.long q3), .second, .val (.int p4), .val (.long nw), .second, .val (.long ag), .second, .val (.long q2), .second, .val (.int dd), .unset, .unset] [(.long (0 : Int64))])) t → Steps p.tables e below (s₁.setTop (entryFrame m #[(.long q1), (.long q2), (.long q3), (.int p4)] maxLocals)) t := fun t k => pp49 t (by
            refine XS.icmpNo X2.here hx rfl (hb hby at_62) rfl (teq hc62).2 ?_
            show Steps p.tables e below (T2.setTop (mkF m 65 #[.val (.long q1), .second, .val (.long q2), .second, .val (.long q3), .second, .val (.int p4), .val (.long nw), .second, .val (.long ag), .second, .val (.long q2), .second, .val (.int dd), .unset, .unset] [])) _
            refine XS.lconst X2.here hx rfl (hb hby at_65) ?_
            show Steps p.tables e below (T2.setTop (mkF m 66 #[.val (.long q1), .second, .val (.long q2), .second, .val (.long q3), .second, .val (.int p4), .val (.long nw), .second, .val (.long ag), .second, .val (.long q2), .second, .val (.int dd), .unset, .unset] [(.long (0 : Int64))])) _
            refine XS.goto X2.here hx rfl (pc0 := 66) (pc' := 74) rfl (hb hby at_66) (by decide) (by decide) ?_
            show Steps p.tables e below (T2.setTop (mkF m 74 #[.val (.long q1), .second, .val (.long q2), .second, .val (.long q3), .second, .val (.int p4), .val (.long nw), .second, .val (.long ag), .second, .val (.long q2), .second, .val (.int dd), .unset, .unset] [(.long (0 : Int64))])) _
            exact k)
          exact ⟨(0 : Int64), _, _, X2, e2, N2, pp51⟩
        · have pp52 : ∀ t, Steps p.tables e below (T2.setTop (mkF m 74 #[.val (.long q1), .second, .val (.long q2), .second, .val (.long q3), .second, .val (.int p4), .val (.long nw), .second, .val (.long ag), .second, .val (.long q2), .second, .val (.int dd), .unset, .unset] [(.long ((dd - (1 : Int32)).toInt64))])) t → Steps p.tables e below (s₁.setTop (entryFrame m #[(.long q1), (.long q2), (.long q3), (.int p4)] maxLocals)) t := fun t k => pp49 t (by
            refine XS.icmpYes X2.here hx rfl (pc0 := 62) (pc' := 69) rfl (hb hby at_62) rfl (feq hc62).2 (by decide) (by decide) ?_
            show Steps p.tables e below (T2.setTop (mkF m 69 #[.val (.long q1), .second, .val (.long q2), .second, .val (.long q3), .second, .val (.int p4), .val (.long nw), .second, .val (.long ag), .second, .val (.long q2), .second, .val (.int dd), .unset, .unset] [])) _
            refine XS.iload X2.here hx rfl (hb hby at_69) rfl ?_
            show Steps p.tables e below (T2.setTop (mkF m 71 #[.val (.long q1), .second, .val (.long q2), .second, .val (.long q3), .second, .val (.int p4), .val (.long nw), .second, .val (.long ag), .second, .val (.long q2), .second, .val (.int dd), .unset, .unset] [(.int dd)])) _
            refine XS.iconst X2.here hx rfl (hb hby at_71) ?_
            show Steps p.tables e below (T2.setTop (mkF m 72 #[.val (.long q1), .second, .val (.long q2), .second, .val (.long q3), .second, .val (.int p4), .val (.long nw), .second, .val (.long ag), .second, .val (.long q2), .second, .val (.int dd), .unset, .unset] [(.int (1 : Int32)), (.int dd)])) _
            refine XS.isub X2.here hx rfl (hb hby at_72) rfl ?_
            show Steps p.tables e below (T2.setTop (mkF m 73 #[.val (.long q1), .second, .val (.long q2), .second, .val (.long q3), .second, .val (.int p4), .val (.long nw), .second, .val (.long ag), .second, .val (.long q2), .second, .val (.int dd), .unset, .unset] [(.int (dd - (1 : Int32)))])) _
            refine XS.i2l X2.here hx rfl (hb hby at_73) rfl ?_
            show Steps p.tables e below (T2.setTop (mkF m 74 #[.val (.long q1), .second, .val (.long q2), .second, .val (.long q3), .second, .val (.int p4), .val (.long nw), .second, .val (.long ag), .second, .val (.long q2), .second, .val (.int dd), .unset, .unset] [(.long ((dd - (1 : Int32)).toInt64))])) _
            exact k)
          exact ⟨((dd - (1 : Int32)).toInt64), _, _, X2, e2, N2, pp52⟩
      have pp53 : ∀ t, Steps p.tables e below (T50.setTop (mkF m 86 #[.val (.long q1), .second, .val (.long q2), .second, .val (.long q3), .second, .val (.int p4), .val (.long nw), .second, .val (.long ag), .second, .val (.long ((nw - ag) + dl)), .second, .val (.int dd), .val (.long dl), .second] [])) t → Steps p.tables e below (s₁.setTop (entryFrame m #[(.long q1), (.long q2), (.long q3), (.int p4)] maxLocals)) t := fun t k => pp50 t (by
        refine XS.lstore X50.here hx rfl (hb hby at_74) rfl (l' := #[.val (.long q1), .second, .val (.long q2), .second, .val (.long q3), .second, .val (.int p4), .val (.long nw), .second, .val (.long ag), .second, .val (.long q2), .second, .val (.int dd), .val (.long dl), .second]) rfl ?_
        show Steps p.tables e below (T50.setTop (mkF m 76 #[.val (.long q1), .second, .val (.long q2), .second, .val (.long q3), .second, .val (.int p4), .val (.long nw), .second, .val (.long ag), .second, .val (.long q2), .second, .val (.int dd), .val (.long dl), .second] [])) _
        refine XS.lload X50.here hx rfl (hb hby at_76) rfl ?_
        show Steps p.tables e below (T50.setTop (mkF m 78 #[.val (.long q1), .second, .val (.long q2), .second, .val (.long q3), .second, .val (.int p4), .val (.long nw), .second, .val (.long ag), .second, .val (.long q2), .second, .val (.int dd), .val (.long dl), .second] [(.long nw)])) _
        refine XS.lload X50.here hx rfl (hb hby at_78) rfl ?_
        show Steps p.tables e below (T50.setTop (mkF m 80 #[.val (.long q1), .second, .val (.long q2), .second, .val (.long q3), .second, .val (.int p4), .val (.long nw), .second, .val (.long ag), .second, .val (.long q2), .second, .val (.int dd), .val (.long dl), .second] [(.long ag), (.long nw)])) _
        refine XS.lsub X50.here hx rfl (hb hby at_80) rfl ?_
        show Steps p.tables e below (T50.setTop (mkF m 81 #[.val (.long q1), .second, .val (.long q2), .second, .val (.long q3), .second, .val (.int p4), .val (.long nw), .second, .val (.long ag), .second, .val (.long q2), .second, .val (.int dd), .val (.long dl), .second] [(.long (nw - ag))])) _
        refine XS.lload X50.here hx rfl (hb hby at_81) rfl ?_
        show Steps p.tables e below (T50.setTop (mkF m 83 #[.val (.long q1), .second, .val (.long q2), .second, .val (.long q3), .second, .val (.int p4), .val (.long nw), .second, .val (.long ag), .second, .val (.long q2), .second, .val (.int dd), .val (.long dl), .second] [(.long dl), (.long (nw - ag))])) _
        refine XS.ladd X50.here hx rfl (hb hby at_83) rfl ?_
        show Steps p.tables e below (T50.setTop (mkF m 84 #[.val (.long q1), .second, .val (.long q2), .second, .val (.long q3), .second, .val (.int p4), .val (.long nw), .second, .val (.long ag), .second, .val (.long q2), .second, .val (.int dd), .val (.long dl), .second] [(.long ((nw - ag) + dl))])) _
        refine XS.lstore X50.here hx rfl (hb hby at_84) rfl (l' := #[.val (.long q1), .second, .val (.long q2), .second, .val (.long q3), .second, .val (.int p4), .val (.long nw), .second, .val (.long ag), .second, .val (.long ((nw - ag) + dl)), .second, .val (.int dd), .val (.long dl), .second]) rfl ?_
        show Steps p.tables e below (T50.setTop (mkF m 86 #[.val (.long q1), .second, .val (.long q2), .second, .val (.long q3), .second, .val (.int p4), .val (.long nw), .second, .val (.long ag), .second, .val (.long ((nw - ag) + dl)), .second, .val (.int dd), .val (.long dl), .second] [])) _
        exact k)
      obtain ⟨T54, h54, X54, e54, E54, A54, D54, M54, st54⟩ := newO X50 hx hZ hown (hw _ (List.mem_of_getElem? (i := 5) rfl)) (hw _ (List.mem_of_getElem? (i := 6) rfl)) (hw _ (List.mem_of_getElem? (i := 7) rfl)) e50 (g := (mkF m 86 #[.val (.long q1), .second, .val (.long q2), .second, .val (.long q3), .second, .val (.int p4), .val (.long nw), .second, .val (.long ag), .second, .val (.long ((nw - ag) + dl)), .second, .val (.int dd), .val (.long dl), .second] [])) rfl (hb hby at_86) (by decide) (by decide)
      obtain ⟨b54, g54⟩ : ∃ z, z = h0.size := ⟨_, rfl⟩
      rw [← g54] at A54 D54 M54 st54
      have g_b54 : n0 ≤ b54 := Nat.le_trans Z0 (Nat.le_of_eq g54.symm)
      have sz_b54 : h0.size ≤ b54 := Nat.le_trans (Keep.refl h0 []).1 (Nat.le_of_eq g54.symm)
      have F_ageMillis_b54 : Fld Z h54 b54 "com/example/keen_broker/keenbroker/store/Retention" "ageMillis" "J" (.long (0 : Int64)) := D54 (Or.inr (hw _ (List.mem_of_getElem? (i := 15) rfl))) (ty := .long) (by decide)
      have F_bytes_b54 : Fld Z h54 b54 "com/example/keen_broker/keenbroker/store/Retention" "bytes" "J" (.long (0 : Int64)) := D54 (Or.inr (hw _ (List.mem_of_getElem? (i := 17) rfl))) (ty := .long) (by decide)
      have pp55 : ∀ t, Steps p.tables e below (T54.setTop (mkF m 89 #[.val (.long q1), .second, .val (.long q2), .second, .val (.long q3), .second, .val (.int p4), .val (.long nw), .second, .val (.long ag), .second, .val (.long ((nw - ag) + dl)), .second, .val (.int dd), .val (.long dl), .second] [(.ref b54)])) t → Steps p.tables e below (s₁.setTop (entryFrame m #[(.long q1), (.long q2), (.long q3), (.int p4)] maxLocals)) t := fun t k => pp53 t (st54 t k)
      have pp56 : ∀ t, Steps p.tables e below (T54.setTop (mkF m 93 #[.val (.long q1), .second, .val (.long q2), .second, .val (.long q3), .second, .val (.int p4), .val (.long nw), .second, .val (.long ag), .second, .val (.long ((nw - ag) + dl)), .second, .val (.int dd), .val (.long dl), .second] [(.long (0 : Int64)), (.long ag), (.ref b54), (.ref b54)])) t → Steps p.tables e below (s₁.setTop (entryFrame m #[(.long q1), (.long q2), (.long q3), (.int p4)] maxLocals)) t := fun t k => pp55 t (by
        refine XS.dup X54.here hx rfl (hb hby at_89) rfl rfl ?_
        show Steps p.tables e below (T54.setTop (mkF m 90 #[.val (.long q1), .second, .val (.long q2), .second, .val (.long q3), .second, .val (.int p4), .val (.long nw), .second, .val (.long ag), .second, .val (.long ((nw - ag) + dl)), .second, .val (.int dd), .val (.long dl), .second] [(.ref b54), (.ref b54)])) _
        refine XS.lload X54.here hx rfl (hb hby at_90) rfl ?_
        show Steps p.tables e below (T54.setTop (mkF m 92 #[.val (.long q1), .second, .val (.long q2), .second, .val (.long q3), .second, .val (.int p4), .val (.long nw), .second, .val (.long ag), .second, .val (.long ((nw - ag) + dl)), .second, .val (.int dd), .val (.long dl), .second] [(.long ag), (.ref b54), (.ref b54)])) _
        refine XS.lconst X54.here hx rfl (hb hby at_92) ?_
        show Steps p.tables e below (T54.setTop (mkF m 93 #[.val (.long q1), .second, .val (.long q2), .second, .val (.long q3), .second, .val (.int p4), .val (.long nw), .second, .val (.long ag), .second, .val (.long ((nw - ag) + dl)), .second, .val (.int dd), .val (.long dl), .second] [(.long (0 : Int64)), (.long ag), (.ref b54), (.ref b54)])) _
        exact k)
      obtain ⟨_, _, ⟨T57, L57, k57, n57⟩, -, X57, ⟨Lc57, hQ57, l57, y57, z57⟩, st57⟩ := X54.specialBack hx (y := (⟨"com/example/keen_broker/keenbroker/store/Retention", "<init>", "(JJ)V"⟩ : MethodName)) rfl hown (mvT hZ (hw _ (List.mem_of_getElem? (i := 8) rfl))) (mvT hZ (hw _ (List.mem_of_getElem? (i := 9) rfl))) (mvT hZ (hw _ (List.mem_of_getElem? (i := 10) rfl))) (by decide) (backOf (W := 1) (own_init l Z a0 hw [] b54 ag (0 : Int64) (.long (0 : Int64)) (.long (0 : Int64)) h54 n0 (Nat.le_trans Z0 E54.1) A54 F_ageMillis_b54 F_bytes_b54 g_b54 (own_nlt _ hag) (by decide)) hZ (hw _ (List.mem_of_getElem? (i := 10) rfl)) (hw _ (List.mem_of_getElem? (i := 7) rfl)) (by decide) (by decide)) (g := (mkF m 93 #[.val (.long q1), .second, .val (.long q2), .second, .val (.long q3), .second, .val (.int p4), .val (.long nw), .second, .val (.long ag), .second, .val (.long ((nw - ag) + dl)), .second, .val (.int dd), .val (.long dl), .second] [(.long (0 : Int64)), (.long ag), (.ref b54), (.ref b54)])) rfl (by rw [hml]; rfl) (Steps.refl _) (a := b54) (argsL := [(.long ag), (.long (0 : Int64))]) (rest := [(.ref b54)]) (lenOf pd__JJ_V rfl) rfl (by show 2 * 0 + _ ≤ _; exact Nat.le_of_eq rfl) (hb hby at_93) (fun _ _ => ⟨rfl, e54, (by decide : 1 + 0 ≤ _), (by decide : 2 + 0 ≤ _)⟩)
      dsimp only [Pt.U, Pt.locs, Pt.cells, Pt.slots] at X57 l57 y57 z57 st57 hQ57
      subst l57 y57 z57
      obtain ⟨rfl, N57q, K57, EE57, F57⟩ := hQ57
      have N57 := Fr.app N50 N57q
      have pp58 : ∀ t, Steps p.tables e below (T57.setTop (mkF m 96 #[.val (.long q1), .second, .val (.long q2), .second, .val (.long q3), .second, .val (.int p4), .val (.long nw), .second, .val (.long ag), .second, .val (.long ((nw - ag) + dl)), .second, .val (.int dd), .val (.long dl), .second] [(.ref b54)])) t → Steps p.tables e below (s₁.setTop (entryFrame m #[(.long q1), (.long q2), (.long q3), (.int p4)] maxLocals)) t := fun t k => pp56 t (st57.trans k)
      have pp59 : ∀ t, Steps p.tables e below (T57.setTop (mkF m 104 #[.val (.long q1), .second, .val (.long q2), .second, .val (.long q3), .second, .val (.int p4), .val (.long nw), .second, .val (.long ag), .second, .val (.long ((nw - ag) + dl)), .second, .val (.ref b54), .val (.long dl), .second] [(.int (lcmpW ag (9223372036854775807 : Int64)))])) t → Steps p.tables e below (s₁.setTop (entryFrame m #[(.long q1), (.long q2), (.long q3), (.int p4)] maxLocals)) t := fun t k => pp58 t (by
        refine XS.astore X57.here hx rfl (hb hby at_96) rfl rfl (l' := #[.val (.long q1), .second, .val (.long q2), .second, .val (.long q3), .second, .val (.int p4), .val (.long nw), .second, .val (.long ag), .second, .val (.long ((nw - ag) + dl)), .second, .val (.ref b54), .val (.long dl), .second]) rfl ?_
        show Steps p.tables e below (T57.setTop (mkF m 98 #[.val (.long q1), .second, .val (.long q2), .second, .val (.long q3), .second, .val (.int p4), .val (.long nw), .second, .val (.long ag), .second, .val (.long ((nw - ag) + dl)), .second, .val (.ref b54), .val (.long dl), .second] [])) _
        refine XS.lload X57.here hx rfl (hb hby at_98) rfl ?_
        show Steps p.tables e below (T57.setTop (mkF m 100 #[.val (.long q1), .second, .val (.long q2), .second, .val (.long q3), .second, .val (.int p4), .val (.long nw), .second, .val (.long ag), .second, .val (.long ((nw - ag) + dl)), .second, .val (.ref b54), .val (.long dl), .second] [(.long ag)])) _
        refine X57.ldc2Long hx hown (mvT hZ (hw _ (List.mem_of_getElem? (i := 0) rfl))) (g := (mkF m 100 #[.val (.long q1), .second, .val (.long q2), .second, .val (.long q3), .second, .val (.int p4), .val (.long nw), .second, .val (.long ag), .second, .val (.long ((nw - ag) + dl)), .second, .val (.ref b54), .val (.long dl), .second] [(.long ag)])) rfl (hb hby at_100) _ ?_
        show Steps p.tables e below (T57.setTop (mkF m 103 #[.val (.long q1), .second, .val (.long q2), .second, .val (.long q3), .second, .val (.int p4), .val (.long nw), .second, .val (.long ag), .second, .val (.long ((nw - ag) + dl)), .second, .val (.ref b54), .val (.long dl), .second] [(.long (9223372036854775807 : Int64)), (.long ag)])) _
        refine XS.lcmp X57.here hx rfl (hb hby at_103) rfl ?_
        show Steps p.tables e below (T57.setTop (mkF m 104 #[.val (.long q1), .second, .val (.long q2), .second, .val (.long q3), .second, .val (.int p4), .val (.long nw), .second, .val (.long ag), .second, .val (.long ((nw - ag) + dl)), .second, .val (.ref b54), .val (.long dl), .second] [(.int (lcmpW ag (9223372036854775807 : Int64)))])) _
        exact k)
      by_cases hc104 : (lcmpW ag (9223372036854775807 : Int64)) = (0 : Int32)
      · have pp60 : ∀ t, Steps p.tables e below (T57.setTop (mkF m 165 #[.val (.long q1), .second, .val (.long q2), .second, .val (.long q3), .second, .val (.int p4), .val (.long nw), .second, .val (.long ag), .second, .val (.long ((nw - ag) + dl)), .second, .val (.ref b54), .val (.int (0 : Int32)), .unset] [(.long nw), (.long ((nw - ag) + dl)), (.ref b54)])) t → Steps p.tables e below (s₁.setTop (entryFrame m #[(.long q1), (.long q2), (.long q3), (.int p4)] maxLocals)) t := fun t k => pp59 t (by
          refine XS.ifNo X57.here hx rfl (hb hby at_104) rfl ((if0 _ _).trans (teq hc104).2) ?_
          show Steps p.tables e below (T57.setTop (mkF m 107 #[.val (.long q1), .second, .val (.long q2), .second, .val (.long q3), .second, .val (.int p4), .val (.long nw), .second, .val (.long ag), .second, .val (.long ((nw - ag) + dl)), .second, .val (.ref b54), .val (.long dl), .second] [])) _
          refine XS.iconst X57.here hx rfl (hb hby at_107) ?_
          show Steps p.tables e below (T57.setTop (mkF m 108 #[.val (.long q1), .second, .val (.long q2), .second, .val (.long q3), .second, .val (.int p4), .val (.long nw), .second, .val (.long ag), .second, .val (.long ((nw - ag) + dl)), .second, .val (.ref b54), .val (.long dl), .second] [(.int (0 : Int32))])) _
          refine XS.istore X57.here hx rfl (hb hby at_108) rfl (l' := #[.val (.long q1), .second, .val (.long q2), .second, .val (.long q3), .second, .val (.int p4), .val (.long nw), .second, .val (.long ag), .second, .val (.long ((nw - ag) + dl)), .second, .val (.ref b54), .val (.int (0 : Int32)), .unset]) rfl ?_
          show Steps p.tables e below (T57.setTop (mkF m 110 #[.val (.long q1), .second, .val (.long q2), .second, .val (.long q3), .second, .val (.int p4), .val (.long nw), .second, .val (.long ag), .second, .val (.long ((nw - ag) + dl)), .second, .val (.ref b54), .val (.int (0 : Int32)), .unset] [])) _
          refine XS.goto X57.here hx rfl (pc0 := 110) (pc' := 159) rfl (hb hby at_110) (by decide) (by decide) ?_
          show Steps p.tables e below (T57.setTop (mkF m 159 #[.val (.long q1), .second, .val (.long q2), .second, .val (.long q3), .second, .val (.int p4), .val (.long nw), .second, .val (.long ag), .second, .val (.long ((nw - ag) + dl)), .second, .val (.ref b54), .val (.int (0 : Int32)), .unset] [])) _
          refine XS.aload X57.here hx rfl (hb hby at_159) rfl rfl ?_
          show Steps p.tables e below (T57.setTop (mkF m 161 #[.val (.long q1), .second, .val (.long q2), .second, .val (.long q3), .second, .val (.int p4), .val (.long nw), .second, .val (.long ag), .second, .val (.long ((nw - ag) + dl)), .second, .val (.ref b54), .val (.int (0 : Int32)), .unset] [(.ref b54)])) _
          refine XS.lload X57.here hx rfl (hb hby at_161) rfl ?_
          show Steps p.tables e below (T57.setTop (mkF m 163 #[.val (.long q1), .second, .val (.long q2), .second, .val (.long q3), .second, .val (.int p4), .val (.long nw), .second, .val (.long ag), .second, .val (.long ((nw - ag) + dl)), .second, .val (.ref b54), .val (.int (0 : Int32)), .unset] [(.long ((nw - ag) + dl)), (.ref b54)])) _
          refine XS.lload X57.here hx rfl (hb hby at_163) rfl ?_
          show Steps p.tables e below (T57.setTop (mkF m 165 #[.val (.long q1), .second, .val (.long q2), .second, .val (.long q3), .second, .val (.int p4), .val (.long nw), .second, .val (.long ag), .second, .val (.long ((nw - ag) + dl)), .second, .val (.ref b54), .val (.int (0 : Int32)), .unset] [(.long nw), (.long ((nw - ag) + dl)), (.ref b54)])) _
          exact k)
        obtain ⟨cq61, kq61, q61a, q61b, q61c⟩ := isOf hZ rfl (A54.keep K57)
        obtain ⟨_, _, ⟨T61, L61, k61, n61⟩, -, X61, ⟨Lc61, hQ61, l61, y61, z61⟩, st61⟩ := X57.virtualBack hx (y := (⟨"com/example/keen_broker/keenbroker/store/Retention", "pastAge", "(JJ)Z"⟩ : MethodName)) (z := (⟨"com/example/keen_broker/keenbroker/store/Retention", "pastAge", "(JJ)Z"⟩ : MethodName)) hown (mvT hZ (hw _ (List.mem_of_getElem? (i := 18) rfl))) (mvT hZ (hw _ (List.mem_of_getElem? (i := 19) rfl))) (notFace_of_selects (args := #[]) (mvT hZ (hw _ (List.mem_of_getElem? (i := 21) rfl)))) (mvT hZ (hw _ (List.mem_of_getElem? (i := 21) rfl))) (mvT hZ (hw _ (List.mem_of_getElem? (i := 20) rfl))) (by decide) (backOf (W := 0) (own_past l Z a0 hw [] b54 ((nw - ag) + dl) nw ag T57.heap n0 (Nat.le_trans (Nat.le_trans Z0 E54.1) K57.1) F57) hZ (hw _ (List.mem_of_getElem? (i := 22) rfl)) (hw _ (List.mem_of_getElem? (i := 7) rfl)) (by decide) (by decide)) q61a q61c (g := (mkF m 165 #[.val (.long q1), .second, .val (.long q2), .second, .val (.long q3), .second, .val (.int p4), .val (.long nw), .second, .val (.long ag), .second, .val (.long ((nw - ag) + dl)), .second, .val (.ref b54), .val (.int (0 : Int32)), .unset] [(.long nw), (.long ((nw - ag) + dl)), (.ref b54)])) rfl (by rw [hml]; rfl) (Steps.refl _) (argsL := [(.long ((nw - ag) + dl)), (.long nw)]) (rest := []) (lenOf pd__JJ_Z rfl) rfl (by show 2 * 0 + _ ≤ _; exact Nat.le_of_eq rfl) (hb hby at_165) (fun _ _ => ⟨rfl, rfl, (by decide : 1 + 0 ≤ _), (by decide : 2 + 0 ≤ _)⟩)
        dsimp only [Pt.U, Pt.locs, Pt.cells, Pt.slots] at X61 l61 y61 z61 st61 hQ61
        subst l61 y61 z61
        obtain ⟨rfl, N61q, s61⟩ := hQ61
        have N61 := Fr.app N57 N61q
        have pp62 : ∀ t, Steps p.tables e below (T61.setTop (mkF m 168 #[.val (.long q1), .second, .val (.long q2), .second, .val (.long q3), .second, .val (.int p4), .val (.long nw), .second, .val (.long ag), .second, .val (.long ((nw - ag) + dl)), .second, .val (.ref b54), .val (.int (0 : Int32)), .unset] [(.int (own_pa ag ((nw - ag) + dl) nw))])) t → Steps p.tables e below (s₁.setTop (entryFrame m #[(.long q1), (.long q2), (.long q3), (.int p4)] maxLocals)) t := fun t k => pp60 t (st61.trans k)
        have pp63 : ∀ t, Steps p.tables e below (T61.setTop (mkF m 178 #[.val (.long q1), .second, .val (.long q2), .second, .val (.long q3), .second, .val (.int p4), .val (.long nw), .second, .val (.long ag), .second, .val (.long ((nw - ag) + dl)), .second, .val (.ref b54), .val (.int (0 : Int32)), .unset] [(.int (1 : Int32))])) t → Steps p.tables e below (s₁.setTop (entryFrame m #[(.long q1), (.long q2), (.long q3), (.int p4)] maxLocals)) t := fun t k => pp62 t (by
          refine XS.iload X61.here hx rfl (hb hby at_168) rfl ?_
          show Steps p.tables e below (T61.setTop (mkF m 170 #[.val (.long q1), .second, .val (.long q2), .second, .val (.long q3), .second, .val (.int p4), .val (.long nw), .second, .val (.long ag), .second, .val (.long ((nw - ag) + dl)), .second, .val (.ref b54), .val (.int (0 : Int32)), .unset] [(.int (0 : Int32)), (.int (own_pa ag ((nw - ag) + dl) nw))])) _
          refine XS.icmpNo X61.here hx rfl (hb hby at_170) rfl (teq (own_pa0 hc104)).2 ?_
          show Steps p.tables e below (T61.setTop (mkF m 173 #[.val (.long q1), .second, .val (.long q2), .second, .val (.long q3), .second, .val (.int p4), .val (.long nw), .second, .val (.long ag), .second, .val (.long ((nw - ag) + dl)), .second, .val (.ref b54), .val (.int (0 : Int32)), .unset] [])) _
          refine XS.iconst X61.here hx rfl (hb hby at_173) ?_
          show Steps p.tables e below (T61.setTop (mkF m 174 #[.val (.long q1), .second, .val (.long q2), .second, .val (.long q3), .second, .val (.int p4), .val (.long nw), .second, .val (.long ag), .second, .val (.long ((nw - ag) + dl)), .second, .val (.ref b54), .val (.int (0 : Int32)), .unset] [(.int (1 : Int32))])) _
          refine XS.goto X61.here hx rfl (pc0 := 174) (pc' := 178) rfl (hb hby at_174) (by decide) (by decide) ?_
          show Steps p.tables e below (T61.setTop (mkF m 178 #[.val (.long q1), .second, .val (.long q2), .second, .val (.long q3), .second, .val (.int p4), .val (.long nw), .second, .val (.long ag), .second, .val (.long ((nw - ag) + dl)), .second, .val (.ref b54), .val (.int (0 : Int32)), .unset] [(.int (1 : Int32))])) _
          exact k)
        obtain ⟨fs, hr, hrun, hended, hW, hsame⟩ := X61.leave (v := some (.int (1 : Int32))) (fun h => by rw [Bd.returns] at h; cases h)
        refine ⟨_, _, pp63 _ ?_, hrun, hended, _, _, rfl, ?_, ⟨_, rfl⟩, hW, hsame.mono (by decide) (by decide)⟩
        · exact retN X61 hx (t := .boolean) Bd.returns (by simp) (hb hby at_178) hr
        · show Q_own_law Z q1 q2 q3 p4 h0 n0 _ T61.heap _
          rw [s61]
          exact ⟨rfl, N61⟩
      · have pp64 : ∀ t, Steps p.tables e below (T57.setTop (mkF m 117 #[.val (.long q1), .second, .val (.long q2), .second, .val (.long q3), .second, .val (.int p4), .val (.long nw), .second, .val (.long ag), .second, .val (.long ((nw - ag) + dl)), .second, .val (.ref b54), .val (.long dl), .second] [(.int (lcmpW ((nw - ag) + dl) (0 : Int64)))])) t → Steps p.tables e below (s₁.setTop (entryFrame m #[(.long q1), (.long q2), (.long q3), (.int p4)] maxLocals)) t := fun t k => pp59 t (by
          refine XS.ifYes X57.here hx rfl (pc0 := 104) (pc' := 113) rfl (hb hby at_104) rfl ((if0 _ _).trans (feq hc104).2) (by decide) (by decide) ?_
          show Steps p.tables e below (T57.setTop (mkF m 113 #[.val (.long q1), .second, .val (.long q2), .second, .val (.long q3), .second, .val (.int p4), .val (.long nw), .second, .val (.long ag), .second, .val (.long ((nw - ag) + dl)), .second, .val (.ref b54), .val (.long dl), .second] [])) _
          refine XS.lload X57.here hx rfl (hb hby at_113) rfl ?_
          show Steps p.tables e below (T57.setTop (mkF m 115 #[.val (.long q1), .second, .val (.long q2), .second, .val (.long q3), .second, .val (.int p4), .val (.long nw), .second, .val (.long ag), .second, .val (.long ((nw - ag) + dl)), .second, .val (.ref b54), .val (.long dl), .second] [(.long ((nw - ag) + dl))])) _
          refine XS.lconst X57.here hx rfl (hb hby at_115) ?_
          show Steps p.tables e below (T57.setTop (mkF m 116 #[.val (.long q1), .second, .val (.long q2), .second, .val (.long q3), .second, .val (.int p4), .val (.long nw), .second, .val (.long ag), .second, .val (.long ((nw - ag) + dl)), .second, .val (.ref b54), .val (.long dl), .second] [(.long (0 : Int64)), (.long ((nw - ag) + dl))])) _
          refine XS.lcmp X57.here hx rfl (hb hby at_116) rfl ?_
          show Steps p.tables e below (T57.setTop (mkF m 117 #[.val (.long q1), .second, .val (.long q2), .second, .val (.long q3), .second, .val (.int p4), .val (.long nw), .second, .val (.long ag), .second, .val (.long ((nw - ag) + dl)), .second, .val (.ref b54), .val (.long dl), .second] [(.int (lcmpW ((nw - ag) + dl) (0 : Int64)))])) _
          exact k)
        by_cases hc117 : (lcmpW ((nw - ag) + dl) (0 : Int64)) < (0 : Int32)
        · have pp65 : ∀ t, Steps p.tables e below (T57.setTop (mkF m 128 #[.val (.long q1), .second, .val (.long q2), .second, .val (.long q3), .second, .val (.int p4), .val (.long nw), .second, .val (.long ag), .second, .val (.long ((nw - ag) + dl)), .second, .val (.ref b54), .val (.long dl), .second] [(.int (lcmpW (((nw - ag) + dl) + ag) nw))])) t → Steps p.tables e below (s₁.setTop (entryFrame m #[(.long q1), (.long q2), (.long q3), (.int p4)] maxLocals)) t := fun t k => pp64 t (by
            refine XS.ifNo X57.here hx rfl (hb hby at_117) rfl ((if0 _ _).trans (tlt hc117).2.1) ?_
            show Steps p.tables e below (T57.setTop (mkF m 120 #[.val (.long q1), .second, .val (.long q2), .second, .val (.long q3), .second, .val (.int p4), .val (.long nw), .second, .val (.long ag), .second, .val (.long ((nw - ag) + dl)), .second, .val (.ref b54), .val (.long dl), .second] [])) _
            refine XS.lload X57.here hx rfl (hb hby at_120) rfl ?_
            show Steps p.tables e below (T57.setTop (mkF m 122 #[.val (.long q1), .second, .val (.long q2), .second, .val (.long q3), .second, .val (.int p4), .val (.long nw), .second, .val (.long ag), .second, .val (.long ((nw - ag) + dl)), .second, .val (.ref b54), .val (.long dl), .second] [(.long ((nw - ag) + dl))])) _
            refine XS.lload X57.here hx rfl (hb hby at_122) rfl ?_
            show Steps p.tables e below (T57.setTop (mkF m 124 #[.val (.long q1), .second, .val (.long q2), .second, .val (.long q3), .second, .val (.int p4), .val (.long nw), .second, .val (.long ag), .second, .val (.long ((nw - ag) + dl)), .second, .val (.ref b54), .val (.long dl), .second] [(.long ag), (.long ((nw - ag) + dl))])) _
            refine XS.ladd X57.here hx rfl (hb hby at_124) rfl ?_
            show Steps p.tables e below (T57.setTop (mkF m 125 #[.val (.long q1), .second, .val (.long q2), .second, .val (.long q3), .second, .val (.int p4), .val (.long nw), .second, .val (.long ag), .second, .val (.long ((nw - ag) + dl)), .second, .val (.ref b54), .val (.long dl), .second] [(.long (((nw - ag) + dl) + ag))])) _
            refine XS.lload X57.here hx rfl (hb hby at_125) rfl ?_
            show Steps p.tables e below (T57.setTop (mkF m 127 #[.val (.long q1), .second, .val (.long q2), .second, .val (.long q3), .second, .val (.int p4), .val (.long nw), .second, .val (.long ag), .second, .val (.long ((nw - ag) + dl)), .second, .val (.ref b54), .val (.long dl), .second] [(.long nw), (.long (((nw - ag) + dl) + ag))])) _
            refine XS.lcmp X57.here hx rfl (hb hby at_127) rfl ?_
            show Steps p.tables e below (T57.setTop (mkF m 128 #[.val (.long q1), .second, .val (.long q2), .second, .val (.long q3), .second, .val (.int p4), .val (.long nw), .second, .val (.long ag), .second, .val (.long ((nw - ag) + dl)), .second, .val (.ref b54), .val (.long dl), .second] [(.int (lcmpW (((nw - ag) + dl) + ag) nw))])) _
            exact k)
          by_cases hc128 : (lcmpW (((nw - ag) + dl) + ag) nw) < (0 : Int32)
          · have pp66 : ∀ t, Steps p.tables e below (T57.setTop (mkF m 165 #[.val (.long q1), .second, .val (.long q2), .second, .val (.long q3), .second, .val (.int p4), .val (.long nw), .second, .val (.long ag), .second, .val (.long ((nw - ag) + dl)), .second, .val (.ref b54), .val (.int (1 : Int32)), .unset] [(.long nw), (.long ((nw - ag) + dl)), (.ref b54)])) t → Steps p.tables e below (s₁.setTop (entryFrame m #[(.long q1), (.long q2), (.long q3), (.int p4)] maxLocals)) t := fun t k => pp65 t (by
              refine XS.ifNo X57.here hx rfl (hb hby at_128) rfl ((if0 _ _).trans (tlt hc128).2.1) ?_
              show Steps p.tables e below (T57.setTop (mkF m 131 #[.val (.long q1), .second, .val (.long q2), .second, .val (.long q3), .second, .val (.int p4), .val (.long nw), .second, .val (.long ag), .second, .val (.long ((nw - ag) + dl)), .second, .val (.ref b54), .val (.long dl), .second] [])) _
              refine XS.iconst X57.here hx rfl (hb hby at_131) ?_
              show Steps p.tables e below (T57.setTop (mkF m 132 #[.val (.long q1), .second, .val (.long q2), .second, .val (.long q3), .second, .val (.int p4), .val (.long nw), .second, .val (.long ag), .second, .val (.long ((nw - ag) + dl)), .second, .val (.ref b54), .val (.long dl), .second] [(.int (1 : Int32))])) _
              refine XS.goto X57.here hx rfl (pc0 := 132) (pc' := 136) rfl (hb hby at_132) (by decide) (by decide) ?_
              show Steps p.tables e below (T57.setTop (mkF m 136 #[.val (.long q1), .second, .val (.long q2), .second, .val (.long q3), .second, .val (.int p4), .val (.long nw), .second, .val (.long ag), .second, .val (.long ((nw - ag) + dl)), .second, .val (.ref b54), .val (.long dl), .second] [(.int (1 : Int32))])) _
              refine XS.istore X57.here hx rfl (hb hby at_136) rfl (l' := #[.val (.long q1), .second, .val (.long q2), .second, .val (.long q3), .second, .val (.int p4), .val (.long nw), .second, .val (.long ag), .second, .val (.long ((nw - ag) + dl)), .second, .val (.ref b54), .val (.int (1 : Int32)), .unset]) rfl ?_
              show Steps p.tables e below (T57.setTop (mkF m 138 #[.val (.long q1), .second, .val (.long q2), .second, .val (.long q3), .second, .val (.int p4), .val (.long nw), .second, .val (.long ag), .second, .val (.long ((nw - ag) + dl)), .second, .val (.ref b54), .val (.int (1 : Int32)), .unset] [])) _
              refine XS.goto X57.here hx rfl (pc0 := 138) (pc' := 159) rfl (hb hby at_138) (by decide) (by decide) ?_
              show Steps p.tables e below (T57.setTop (mkF m 159 #[.val (.long q1), .second, .val (.long q2), .second, .val (.long q3), .second, .val (.int p4), .val (.long nw), .second, .val (.long ag), .second, .val (.long ((nw - ag) + dl)), .second, .val (.ref b54), .val (.int (1 : Int32)), .unset] [])) _
              refine XS.aload X57.here hx rfl (hb hby at_159) rfl rfl ?_
              show Steps p.tables e below (T57.setTop (mkF m 161 #[.val (.long q1), .second, .val (.long q2), .second, .val (.long q3), .second, .val (.int p4), .val (.long nw), .second, .val (.long ag), .second, .val (.long ((nw - ag) + dl)), .second, .val (.ref b54), .val (.int (1 : Int32)), .unset] [(.ref b54)])) _
              refine XS.lload X57.here hx rfl (hb hby at_161) rfl ?_
              show Steps p.tables e below (T57.setTop (mkF m 163 #[.val (.long q1), .second, .val (.long q2), .second, .val (.long q3), .second, .val (.int p4), .val (.long nw), .second, .val (.long ag), .second, .val (.long ((nw - ag) + dl)), .second, .val (.ref b54), .val (.int (1 : Int32)), .unset] [(.long ((nw - ag) + dl)), (.ref b54)])) _
              refine XS.lload X57.here hx rfl (hb hby at_163) rfl ?_
              show Steps p.tables e below (T57.setTop (mkF m 165 #[.val (.long q1), .second, .val (.long q2), .second, .val (.long q3), .second, .val (.int p4), .val (.long nw), .second, .val (.long ag), .second, .val (.long ((nw - ag) + dl)), .second, .val (.ref b54), .val (.int (1 : Int32)), .unset] [(.long nw), (.long ((nw - ag) + dl)), (.ref b54)])) _
              exact k)
            obtain ⟨cq67, kq67, q67a, q67b, q67c⟩ := isOf hZ rfl (A54.keep K57)
            obtain ⟨_, _, ⟨T67, L67, k67, n67⟩, -, X67, ⟨Lc67, hQ67, l67, y67, z67⟩, st67⟩ := X57.virtualBack hx (y := (⟨"com/example/keen_broker/keenbroker/store/Retention", "pastAge", "(JJ)Z"⟩ : MethodName)) (z := (⟨"com/example/keen_broker/keenbroker/store/Retention", "pastAge", "(JJ)Z"⟩ : MethodName)) hown (mvT hZ (hw _ (List.mem_of_getElem? (i := 18) rfl))) (mvT hZ (hw _ (List.mem_of_getElem? (i := 19) rfl))) (notFace_of_selects (args := #[]) (mvT hZ (hw _ (List.mem_of_getElem? (i := 21) rfl)))) (mvT hZ (hw _ (List.mem_of_getElem? (i := 21) rfl))) (mvT hZ (hw _ (List.mem_of_getElem? (i := 20) rfl))) (by decide) (backOf (W := 0) (own_past l Z a0 hw [] b54 ((nw - ag) + dl) nw ag T57.heap n0 (Nat.le_trans (Nat.le_trans Z0 E54.1) K57.1) F57) hZ (hw _ (List.mem_of_getElem? (i := 22) rfl)) (hw _ (List.mem_of_getElem? (i := 7) rfl)) (by decide) (by decide)) q67a q67c (g := (mkF m 165 #[.val (.long q1), .second, .val (.long q2), .second, .val (.long q3), .second, .val (.int p4), .val (.long nw), .second, .val (.long ag), .second, .val (.long ((nw - ag) + dl)), .second, .val (.ref b54), .val (.int (1 : Int32)), .unset] [(.long nw), (.long ((nw - ag) + dl)), (.ref b54)])) rfl (by rw [hml]; rfl) (Steps.refl _) (argsL := [(.long ((nw - ag) + dl)), (.long nw)]) (rest := []) (lenOf pd__JJ_Z rfl) rfl (by show 2 * 0 + _ ≤ _; exact Nat.le_of_eq rfl) (hb hby at_165) (fun _ _ => ⟨rfl, rfl, (by decide : 1 + 0 ≤ _), (by decide : 2 + 0 ≤ _)⟩)
            dsimp only [Pt.U, Pt.locs, Pt.cells, Pt.slots] at X67 l67 y67 z67 st67 hQ67
            subst l67 y67 z67
            obtain ⟨rfl, N67q, s67⟩ := hQ67
            have N67 := Fr.app N57 N67q
            have pp68 : ∀ t, Steps p.tables e below (T67.setTop (mkF m 168 #[.val (.long q1), .second, .val (.long q2), .second, .val (.long q3), .second, .val (.int p4), .val (.long nw), .second, .val (.long ag), .second, .val (.long ((nw - ag) + dl)), .second, .val (.ref b54), .val (.int (1 : Int32)), .unset] [(.int (own_pa ag ((nw - ag) + dl) nw))])) t → Steps p.tables e below (s₁.setTop (entryFrame m #[(.long q1), (.long q2), (.long q3), (.int p4)] maxLocals)) t := fun t k => pp66 t (st67.trans k)
            have pp69 : ∀ t, Steps p.tables e below (T67.setTop (mkF m 178 #[.val (.long q1), .second, .val (.long q2), .second, .val (.long q3), .second, .val (.int p4), .val (.long nw), .second, .val (.long ag), .second, .val (.long ((nw - ag) + dl)), .second, .val (.ref b54), .val (.int (1 : Int32)), .unset] [(.int (1 : Int32))])) t → Steps p.tables e below (s₁.setTop (entryFrame m #[(.long q1), (.long q2), (.long q3), (.int p4)] maxLocals)) t := fun t k => pp68 t (by
              refine XS.iload X67.here hx rfl (hb hby at_168) rfl ?_
              show Steps p.tables e below (T67.setTop (mkF m 170 #[.val (.long q1), .second, .val (.long q2), .second, .val (.long q3), .second, .val (.int p4), .val (.long nw), .second, .val (.long ag), .second, .val (.long ((nw - ag) + dl)), .second, .val (.ref b54), .val (.int (1 : Int32)), .unset] [(.int (1 : Int32)), (.int (own_pa ag ((nw - ag) + dl) nw))])) _
              refine XS.icmpNo X67.here hx rfl (hb hby at_170) rfl (teq (own_pa1 hc104 ((own_neg ag _ nw hag hnw0 hc117).mp hc128))).2 ?_
              show Steps p.tables e below (T67.setTop (mkF m 173 #[.val (.long q1), .second, .val (.long q2), .second, .val (.long q3), .second, .val (.int p4), .val (.long nw), .second, .val (.long ag), .second, .val (.long ((nw - ag) + dl)), .second, .val (.ref b54), .val (.int (1 : Int32)), .unset] [])) _
              refine XS.iconst X67.here hx rfl (hb hby at_173) ?_
              show Steps p.tables e below (T67.setTop (mkF m 174 #[.val (.long q1), .second, .val (.long q2), .second, .val (.long q3), .second, .val (.int p4), .val (.long nw), .second, .val (.long ag), .second, .val (.long ((nw - ag) + dl)), .second, .val (.ref b54), .val (.int (1 : Int32)), .unset] [(.int (1 : Int32))])) _
              refine XS.goto X67.here hx rfl (pc0 := 174) (pc' := 178) rfl (hb hby at_174) (by decide) (by decide) ?_
              show Steps p.tables e below (T67.setTop (mkF m 178 #[.val (.long q1), .second, .val (.long q2), .second, .val (.long q3), .second, .val (.int p4), .val (.long nw), .second, .val (.long ag), .second, .val (.long ((nw - ag) + dl)), .second, .val (.ref b54), .val (.int (1 : Int32)), .unset] [(.int (1 : Int32))])) _
              exact k)
            obtain ⟨fs, hr, hrun, hended, hW, hsame⟩ := X67.leave (v := some (.int (1 : Int32))) (fun h => by rw [Bd.returns] at h; cases h)
            refine ⟨_, _, pp69 _ ?_, hrun, hended, _, _, rfl, ?_, ⟨_, rfl⟩, hW, hsame.mono (by decide) (by decide)⟩
            · exact retN X67 hx (t := .boolean) Bd.returns (by simp) (hb hby at_178) hr
            · show Q_own_law Z q1 q2 q3 p4 h0 n0 _ T67.heap _
              rw [s67]
              exact ⟨rfl, N67⟩
          · have pp70 : ∀ t, Steps p.tables e below (T57.setTop (mkF m 165 #[.val (.long q1), .second, .val (.long q2), .second, .val (.long q3), .second, .val (.int p4), .val (.long nw), .second, .val (.long ag), .second, .val (.long ((nw - ag) + dl)), .second, .val (.ref b54), .val (.int (0 : Int32)), .unset] [(.long nw), (.long ((nw - ag) + dl)), (.ref b54)])) t → Steps p.tables e below (s₁.setTop (entryFrame m #[(.long q1), (.long q2), (.long q3), (.int p4)] maxLocals)) t := fun t k => pp65 t (by
              refine XS.ifYes X57.here hx rfl (pc0 := 128) (pc' := 135) rfl (hb hby at_128) rfl ((if0 _ _).trans (flt hc128).2.1) (by decide) (by decide) ?_
              show Steps p.tables e below (T57.setTop (mkF m 135 #[.val (.long q1), .second, .val (.long q2), .second, .val (.long q3), .second, .val (.int p4), .val (.long nw), .second, .val (.long ag), .second, .val (.long ((nw - ag) + dl)), .second, .val (.ref b54), .val (.long dl), .second] [])) _
              refine XS.iconst X57.here hx rfl (hb hby at_135) ?_
              show Steps p.tables e below (T57.setTop (mkF m 136 #[.val (.long q1), .second, .val (.long q2), .second, .val (.long q3), .second, .val (.int p4), .val (.long nw), .second, .val (.long ag), .second, .val (.long ((nw - ag) + dl)), .second, .val (.ref b54), .val (.long dl), .second] [(.int (0 : Int32))])) _
              refine XS.istore X57.here hx rfl (hb hby at_136) rfl (l' := #[.val (.long q1), .second, .val (.long q2), .second, .val (.long q3), .second, .val (.int p4), .val (.long nw), .second, .val (.long ag), .second, .val (.long ((nw - ag) + dl)), .second, .val (.ref b54), .val (.int (0 : Int32)), .unset]) rfl ?_
              show Steps p.tables e below (T57.setTop (mkF m 138 #[.val (.long q1), .second, .val (.long q2), .second, .val (.long q3), .second, .val (.int p4), .val (.long nw), .second, .val (.long ag), .second, .val (.long ((nw - ag) + dl)), .second, .val (.ref b54), .val (.int (0 : Int32)), .unset] [])) _
              refine XS.goto X57.here hx rfl (pc0 := 138) (pc' := 159) rfl (hb hby at_138) (by decide) (by decide) ?_
              show Steps p.tables e below (T57.setTop (mkF m 159 #[.val (.long q1), .second, .val (.long q2), .second, .val (.long q3), .second, .val (.int p4), .val (.long nw), .second, .val (.long ag), .second, .val (.long ((nw - ag) + dl)), .second, .val (.ref b54), .val (.int (0 : Int32)), .unset] [])) _
              refine XS.aload X57.here hx rfl (hb hby at_159) rfl rfl ?_
              show Steps p.tables e below (T57.setTop (mkF m 161 #[.val (.long q1), .second, .val (.long q2), .second, .val (.long q3), .second, .val (.int p4), .val (.long nw), .second, .val (.long ag), .second, .val (.long ((nw - ag) + dl)), .second, .val (.ref b54), .val (.int (0 : Int32)), .unset] [(.ref b54)])) _
              refine XS.lload X57.here hx rfl (hb hby at_161) rfl ?_
              show Steps p.tables e below (T57.setTop (mkF m 163 #[.val (.long q1), .second, .val (.long q2), .second, .val (.long q3), .second, .val (.int p4), .val (.long nw), .second, .val (.long ag), .second, .val (.long ((nw - ag) + dl)), .second, .val (.ref b54), .val (.int (0 : Int32)), .unset] [(.long ((nw - ag) + dl)), (.ref b54)])) _
              refine XS.lload X57.here hx rfl (hb hby at_163) rfl ?_
              show Steps p.tables e below (T57.setTop (mkF m 165 #[.val (.long q1), .second, .val (.long q2), .second, .val (.long q3), .second, .val (.int p4), .val (.long nw), .second, .val (.long ag), .second, .val (.long ((nw - ag) + dl)), .second, .val (.ref b54), .val (.int (0 : Int32)), .unset] [(.long nw), (.long ((nw - ag) + dl)), (.ref b54)])) _
              exact k)
            obtain ⟨cq71, kq71, q71a, q71b, q71c⟩ := isOf hZ rfl (A54.keep K57)
            obtain ⟨_, _, ⟨T71, L71, k71, n71⟩, -, X71, ⟨Lc71, hQ71, l71, y71, z71⟩, st71⟩ := X57.virtualBack hx (y := (⟨"com/example/keen_broker/keenbroker/store/Retention", "pastAge", "(JJ)Z"⟩ : MethodName)) (z := (⟨"com/example/keen_broker/keenbroker/store/Retention", "pastAge", "(JJ)Z"⟩ : MethodName)) hown (mvT hZ (hw _ (List.mem_of_getElem? (i := 18) rfl))) (mvT hZ (hw _ (List.mem_of_getElem? (i := 19) rfl))) (notFace_of_selects (args := #[]) (mvT hZ (hw _ (List.mem_of_getElem? (i := 21) rfl)))) (mvT hZ (hw _ (List.mem_of_getElem? (i := 21) rfl))) (mvT hZ (hw _ (List.mem_of_getElem? (i := 20) rfl))) (by decide) (backOf (W := 0) (own_past l Z a0 hw [] b54 ((nw - ag) + dl) nw ag T57.heap n0 (Nat.le_trans (Nat.le_trans Z0 E54.1) K57.1) F57) hZ (hw _ (List.mem_of_getElem? (i := 22) rfl)) (hw _ (List.mem_of_getElem? (i := 7) rfl)) (by decide) (by decide)) q71a q71c (g := (mkF m 165 #[.val (.long q1), .second, .val (.long q2), .second, .val (.long q3), .second, .val (.int p4), .val (.long nw), .second, .val (.long ag), .second, .val (.long ((nw - ag) + dl)), .second, .val (.ref b54), .val (.int (0 : Int32)), .unset] [(.long nw), (.long ((nw - ag) + dl)), (.ref b54)])) rfl (by rw [hml]; rfl) (Steps.refl _) (argsL := [(.long ((nw - ag) + dl)), (.long nw)]) (rest := []) (lenOf pd__JJ_Z rfl) rfl (by show 2 * 0 + _ ≤ _; exact Nat.le_of_eq rfl) (hb hby at_165) (fun _ _ => ⟨rfl, rfl, (by decide : 1 + 0 ≤ _), (by decide : 2 + 0 ≤ _)⟩)
            dsimp only [Pt.U, Pt.locs, Pt.cells, Pt.slots] at X71 l71 y71 z71 st71 hQ71
            subst l71 y71 z71
            obtain ⟨rfl, N71q, s71⟩ := hQ71
            have N71 := Fr.app N57 N71q
            have pp72 : ∀ t, Steps p.tables e below (T71.setTop (mkF m 168 #[.val (.long q1), .second, .val (.long q2), .second, .val (.long q3), .second, .val (.int p4), .val (.long nw), .second, .val (.long ag), .second, .val (.long ((nw - ag) + dl)), .second, .val (.ref b54), .val (.int (0 : Int32)), .unset] [(.int (own_pa ag ((nw - ag) + dl) nw))])) t → Steps p.tables e below (s₁.setTop (entryFrame m #[(.long q1), (.long q2), (.long q3), (.int p4)] maxLocals)) t := fun t k => pp70 t (st71.trans k)
            have pp73 : ∀ t, Steps p.tables e below (T71.setTop (mkF m 178 #[.val (.long q1), .second, .val (.long q2), .second, .val (.long q3), .second, .val (.int p4), .val (.long nw), .second, .val (.long ag), .second, .val (.long ((nw - ag) + dl)), .second, .val (.ref b54), .val (.int (0 : Int32)), .unset] [(.int (1 : Int32))])) t → Steps p.tables e below (s₁.setTop (entryFrame m #[(.long q1), (.long q2), (.long q3), (.int p4)] maxLocals)) t := fun t k => pp72 t (by
              refine XS.iload X71.here hx rfl (hb hby at_168) rfl ?_
              show Steps p.tables e below (T71.setTop (mkF m 170 #[.val (.long q1), .second, .val (.long q2), .second, .val (.long q3), .second, .val (.int p4), .val (.long nw), .second, .val (.long ag), .second, .val (.long ((nw - ag) + dl)), .second, .val (.ref b54), .val (.int (0 : Int32)), .unset] [(.int (0 : Int32)), (.int (own_pa ag ((nw - ag) + dl) nw))])) _
              refine XS.icmpNo X71.here hx rfl (hb hby at_170) rfl (teq (own_pa2 hc104 (fun q => hc128 ((own_neg ag _ nw hag hnw0 hc117).mpr q)))).2 ?_
              show Steps p.tables e below (T71.setTop (mkF m 173 #[.val (.long q1), .second, .val (.long q2), .second, .val (.long q3), .second, .val (.int p4), .val (.long nw), .second, .val (.long ag), .second, .val (.long ((nw - ag) + dl)), .second, .val (.ref b54), .val (.int (0 : Int32)), .unset] [])) _
              refine XS.iconst X71.here hx rfl (hb hby at_173) ?_
              show Steps p.tables e below (T71.setTop (mkF m 174 #[.val (.long q1), .second, .val (.long q2), .second, .val (.long q3), .second, .val (.int p4), .val (.long nw), .second, .val (.long ag), .second, .val (.long ((nw - ag) + dl)), .second, .val (.ref b54), .val (.int (0 : Int32)), .unset] [(.int (1 : Int32))])) _
              refine XS.goto X71.here hx rfl (pc0 := 174) (pc' := 178) rfl (hb hby at_174) (by decide) (by decide) ?_
              show Steps p.tables e below (T71.setTop (mkF m 178 #[.val (.long q1), .second, .val (.long q2), .second, .val (.long q3), .second, .val (.int p4), .val (.long nw), .second, .val (.long ag), .second, .val (.long ((nw - ag) + dl)), .second, .val (.ref b54), .val (.int (0 : Int32)), .unset] [(.int (1 : Int32))])) _
              exact k)
            obtain ⟨fs, hr, hrun, hended, hW, hsame⟩ := X71.leave (v := some (.int (1 : Int32))) (fun h => by rw [Bd.returns] at h; cases h)
            refine ⟨_, _, pp73 _ ?_, hrun, hended, _, _, rfl, ?_, ⟨_, rfl⟩, hW, hsame.mono (by decide) (by decide)⟩
            · exact retN X71 hx (t := .boolean) Bd.returns (by simp) (hb hby at_178) hr
            · show Q_own_law Z q1 q2 q3 p4 h0 n0 _ T71.heap _
              rw [s71]
              exact ⟨rfl, N71⟩
        · have pp74 : ∀ t, Steps p.tables e below (T57.setTop (mkF m 149 #[.val (.long q1), .second, .val (.long q2), .second, .val (.long q3), .second, .val (.int p4), .val (.long nw), .second, .val (.long ag), .second, .val (.long ((nw - ag) + dl)), .second, .val (.ref b54), .val (.long dl), .second] [(.int (lcmpW (nw - ((nw - ag) + dl)) ag))])) t → Steps p.tables e below (s₁.setTop (entryFrame m #[(.long q1), (.long q2), (.long q3), (.int p4)] maxLocals)) t := fun t k => pp64 t (by
            refine XS.ifYes X57.here hx rfl (pc0 := 117) (pc' := 141) rfl (hb hby at_117) rfl ((if0 _ _).trans (flt hc117).2.1) (by decide) (by decide) ?_
            show Steps p.tables e below (T57.setTop (mkF m 141 #[.val (.long q1), .second, .val (.long q2), .second, .val (.long q3), .second, .val (.int p4), .val (.long nw), .second, .val (.long ag), .second, .val (.long ((nw - ag) + dl)), .second, .val (.ref b54), .val (.long dl), .second] [])) _
            refine XS.lload X57.here hx rfl (hb hby at_141) rfl ?_
            show Steps p.tables e below (T57.setTop (mkF m 143 #[.val (.long q1), .second, .val (.long q2), .second, .val (.long q3), .second, .val (.int p4), .val (.long nw), .second, .val (.long ag), .second, .val (.long ((nw - ag) + dl)), .second, .val (.ref b54), .val (.long dl), .second] [(.long nw)])) _
            refine XS.lload X57.here hx rfl (hb hby at_143) rfl ?_
            show Steps p.tables e below (T57.setTop (mkF m 145 #[.val (.long q1), .second, .val (.long q2), .second, .val (.long q3), .second, .val (.int p4), .val (.long nw), .second, .val (.long ag), .second, .val (.long ((nw - ag) + dl)), .second, .val (.ref b54), .val (.long dl), .second] [(.long ((nw - ag) + dl)), (.long nw)])) _
            refine XS.lsub X57.here hx rfl (hb hby at_145) rfl ?_
            show Steps p.tables e below (T57.setTop (mkF m 146 #[.val (.long q1), .second, .val (.long q2), .second, .val (.long q3), .second, .val (.int p4), .val (.long nw), .second, .val (.long ag), .second, .val (.long ((nw - ag) + dl)), .second, .val (.ref b54), .val (.long dl), .second] [(.long (nw - ((nw - ag) + dl)))])) _
            refine XS.lload X57.here hx rfl (hb hby at_146) rfl ?_
            show Steps p.tables e below (T57.setTop (mkF m 148 #[.val (.long q1), .second, .val (.long q2), .second, .val (.long q3), .second, .val (.int p4), .val (.long nw), .second, .val (.long ag), .second, .val (.long ((nw - ag) + dl)), .second, .val (.ref b54), .val (.long dl), .second] [(.long ag), (.long (nw - ((nw - ag) + dl)))])) _
            refine XS.lcmp X57.here hx rfl (hb hby at_148) rfl ?_
            show Steps p.tables e below (T57.setTop (mkF m 149 #[.val (.long q1), .second, .val (.long q2), .second, .val (.long q3), .second, .val (.int p4), .val (.long nw), .second, .val (.long ag), .second, .val (.long ((nw - ag) + dl)), .second, .val (.ref b54), .val (.long dl), .second] [(.int (lcmpW (nw - ((nw - ag) + dl)) ag))])) _
            exact k)
          by_cases hc149 : (0 : Int32) < (lcmpW (nw - ((nw - ag) + dl)) ag)
          · have pp75 : ∀ t, Steps p.tables e below (T57.setTop (mkF m 165 #[.val (.long q1), .second, .val (.long q2), .second, .val (.long q3), .second, .val (.int p4), .val (.long nw), .second, .val (.long ag), .second, .val (.long ((nw - ag) + dl)), .second, .val (.ref b54), .val (.int (1 : Int32)), .unset] [(.long nw), (.long ((nw - ag) + dl)), (.ref b54)])) t → Steps p.tables e below (s₁.setTop (entryFrame m #[(.long q1), (.long q2), (.long q3), (.int p4)] maxLocals)) t := fun t k => pp74 t (by
              refine XS.ifNo X57.here hx rfl (hb hby at_149) rfl ((if0 _ _).trans (tlt hc149).2.2.2) ?_
              show Steps p.tables e below (T57.setTop (mkF m 152 #[.val (.long q1), .second, .val (.long q2), .second, .val (.long q3), .second, .val (.int p4), .val (.long nw), .second, .val (.long ag), .second, .val (.long ((nw - ag) + dl)), .second, .val (.ref b54), .val (.long dl), .second] [])) _
              refine XS.iconst X57.here hx rfl (hb hby at_152) ?_
              show Steps p.tables e below (T57.setTop (mkF m 153 #[.val (.long q1), .second, .val (.long q2), .second, .val (.long q3), .second, .val (.int p4), .val (.long nw), .second, .val (.long ag), .second, .val (.long ((nw - ag) + dl)), .second, .val (.ref b54), .val (.long dl), .second] [(.int (1 : Int32))])) _
              refine XS.goto X57.here hx rfl (pc0 := 153) (pc' := 157) rfl (hb hby at_153) (by decide) (by decide) ?_
              show Steps p.tables e below (T57.setTop (mkF m 157 #[.val (.long q1), .second, .val (.long q2), .second, .val (.long q3), .second, .val (.int p4), .val (.long nw), .second, .val (.long ag), .second, .val (.long ((nw - ag) + dl)), .second, .val (.ref b54), .val (.long dl), .second] [(.int (1 : Int32))])) _
              refine XS.istore X57.here hx rfl (hb hby at_157) rfl (l' := #[.val (.long q1), .second, .val (.long q2), .second, .val (.long q3), .second, .val (.int p4), .val (.long nw), .second, .val (.long ag), .second, .val (.long ((nw - ag) + dl)), .second, .val (.ref b54), .val (.int (1 : Int32)), .unset]) rfl ?_
              show Steps p.tables e below (T57.setTop (mkF m 159 #[.val (.long q1), .second, .val (.long q2), .second, .val (.long q3), .second, .val (.int p4), .val (.long nw), .second, .val (.long ag), .second, .val (.long ((nw - ag) + dl)), .second, .val (.ref b54), .val (.int (1 : Int32)), .unset] [])) _
              refine XS.aload X57.here hx rfl (hb hby at_159) rfl rfl ?_
              show Steps p.tables e below (T57.setTop (mkF m 161 #[.val (.long q1), .second, .val (.long q2), .second, .val (.long q3), .second, .val (.int p4), .val (.long nw), .second, .val (.long ag), .second, .val (.long ((nw - ag) + dl)), .second, .val (.ref b54), .val (.int (1 : Int32)), .unset] [(.ref b54)])) _
              refine XS.lload X57.here hx rfl (hb hby at_161) rfl ?_
              show Steps p.tables e below (T57.setTop (mkF m 163 #[.val (.long q1), .second, .val (.long q2), .second, .val (.long q3), .second, .val (.int p4), .val (.long nw), .second, .val (.long ag), .second, .val (.long ((nw - ag) + dl)), .second, .val (.ref b54), .val (.int (1 : Int32)), .unset] [(.long ((nw - ag) + dl)), (.ref b54)])) _
              refine XS.lload X57.here hx rfl (hb hby at_163) rfl ?_
              show Steps p.tables e below (T57.setTop (mkF m 165 #[.val (.long q1), .second, .val (.long q2), .second, .val (.long q3), .second, .val (.int p4), .val (.long nw), .second, .val (.long ag), .second, .val (.long ((nw - ag) + dl)), .second, .val (.ref b54), .val (.int (1 : Int32)), .unset] [(.long nw), (.long ((nw - ag) + dl)), (.ref b54)])) _
              exact k)
            obtain ⟨cq76, kq76, q76a, q76b, q76c⟩ := isOf hZ rfl (A54.keep K57)
            obtain ⟨_, _, ⟨T76, L76, k76, n76⟩, -, X76, ⟨Lc76, hQ76, l76, y76, z76⟩, st76⟩ := X57.virtualBack hx (y := (⟨"com/example/keen_broker/keenbroker/store/Retention", "pastAge", "(JJ)Z"⟩ : MethodName)) (z := (⟨"com/example/keen_broker/keenbroker/store/Retention", "pastAge", "(JJ)Z"⟩ : MethodName)) hown (mvT hZ (hw _ (List.mem_of_getElem? (i := 18) rfl))) (mvT hZ (hw _ (List.mem_of_getElem? (i := 19) rfl))) (notFace_of_selects (args := #[]) (mvT hZ (hw _ (List.mem_of_getElem? (i := 21) rfl)))) (mvT hZ (hw _ (List.mem_of_getElem? (i := 21) rfl))) (mvT hZ (hw _ (List.mem_of_getElem? (i := 20) rfl))) (by decide) (backOf (W := 0) (own_past l Z a0 hw [] b54 ((nw - ag) + dl) nw ag T57.heap n0 (Nat.le_trans (Nat.le_trans Z0 E54.1) K57.1) F57) hZ (hw _ (List.mem_of_getElem? (i := 22) rfl)) (hw _ (List.mem_of_getElem? (i := 7) rfl)) (by decide) (by decide)) q76a q76c (g := (mkF m 165 #[.val (.long q1), .second, .val (.long q2), .second, .val (.long q3), .second, .val (.int p4), .val (.long nw), .second, .val (.long ag), .second, .val (.long ((nw - ag) + dl)), .second, .val (.ref b54), .val (.int (1 : Int32)), .unset] [(.long nw), (.long ((nw - ag) + dl)), (.ref b54)])) rfl (by rw [hml]; rfl) (Steps.refl _) (argsL := [(.long ((nw - ag) + dl)), (.long nw)]) (rest := []) (lenOf pd__JJ_Z rfl) rfl (by show 2 * 0 + _ ≤ _; exact Nat.le_of_eq rfl) (hb hby at_165) (fun _ _ => ⟨rfl, rfl, (by decide : 1 + 0 ≤ _), (by decide : 2 + 0 ≤ _)⟩)
            dsimp only [Pt.U, Pt.locs, Pt.cells, Pt.slots] at X76 l76 y76 z76 st76 hQ76
            subst l76 y76 z76
            obtain ⟨rfl, N76q, s76⟩ := hQ76
            have N76 := Fr.app N57 N76q
            have pp77 : ∀ t, Steps p.tables e below (T76.setTop (mkF m 168 #[.val (.long q1), .second, .val (.long q2), .second, .val (.long q3), .second, .val (.int p4), .val (.long nw), .second, .val (.long ag), .second, .val (.long ((nw - ag) + dl)), .second, .val (.ref b54), .val (.int (1 : Int32)), .unset] [(.int (own_pa ag ((nw - ag) + dl) nw))])) t → Steps p.tables e below (s₁.setTop (entryFrame m #[(.long q1), (.long q2), (.long q3), (.int p4)] maxLocals)) t := fun t k => pp75 t (st76.trans k)
            have pp78 : ∀ t, Steps p.tables e below (T76.setTop (mkF m 178 #[.val (.long q1), .second, .val (.long q2), .second, .val (.long q3), .second, .val (.int p4), .val (.long nw), .second, .val (.long ag), .second, .val (.long ((nw - ag) + dl)), .second, .val (.ref b54), .val (.int (1 : Int32)), .unset] [(.int (1 : Int32))])) t → Steps p.tables e below (s₁.setTop (entryFrame m #[(.long q1), (.long q2), (.long q3), (.int p4)] maxLocals)) t := fun t k => pp77 t (by
              refine XS.iload X76.here hx rfl (hb hby at_168) rfl ?_
              show Steps p.tables e below (T76.setTop (mkF m 170 #[.val (.long q1), .second, .val (.long q2), .second, .val (.long q3), .second, .val (.int p4), .val (.long nw), .second, .val (.long ag), .second, .val (.long ((nw - ag) + dl)), .second, .val (.ref b54), .val (.int (1 : Int32)), .unset] [(.int (1 : Int32)), (.int (own_pa ag ((nw - ag) + dl) nw))])) _
              refine XS.icmpNo X76.here hx rfl (hb hby at_170) rfl (teq (own_pa1 hc104 ((own_pos ag _ nw hag hnw0 hc117).mp hc149))).2 ?_
              show Steps p.tables e below (T76.setTop (mkF m 173 #[.val (.long q1), .second, .val (.long q2), .second, .val (.long q3), .second, .val (.int p4), .val (.long nw), .second, .val (.long ag), .second, .val (.long ((nw - ag) + dl)), .second, .val (.ref b54), .val (.int (1 : Int32)), .unset] [])) _
              refine XS.iconst X76.here hx rfl (hb hby at_173) ?_
              show Steps p.tables e below (T76.setTop (mkF m 174 #[.val (.long q1), .second, .val (.long q2), .second, .val (.long q3), .second, .val (.int p4), .val (.long nw), .second, .val (.long ag), .second, .val (.long ((nw - ag) + dl)), .second, .val (.ref b54), .val (.int (1 : Int32)), .unset] [(.int (1 : Int32))])) _
              refine XS.goto X76.here hx rfl (pc0 := 174) (pc' := 178) rfl (hb hby at_174) (by decide) (by decide) ?_
              show Steps p.tables e below (T76.setTop (mkF m 178 #[.val (.long q1), .second, .val (.long q2), .second, .val (.long q3), .second, .val (.int p4), .val (.long nw), .second, .val (.long ag), .second, .val (.long ((nw - ag) + dl)), .second, .val (.ref b54), .val (.int (1 : Int32)), .unset] [(.int (1 : Int32))])) _
              exact k)
            obtain ⟨fs, hr, hrun, hended, hW, hsame⟩ := X76.leave (v := some (.int (1 : Int32))) (fun h => by rw [Bd.returns] at h; cases h)
            refine ⟨_, _, pp78 _ ?_, hrun, hended, _, _, rfl, ?_, ⟨_, rfl⟩, hW, hsame.mono (by decide) (by decide)⟩
            · exact retN X76 hx (t := .boolean) Bd.returns (by simp) (hb hby at_178) hr
            · show Q_own_law Z q1 q2 q3 p4 h0 n0 _ T76.heap _
              rw [s76]
              exact ⟨rfl, N76⟩
          · have pp79 : ∀ t, Steps p.tables e below (T57.setTop (mkF m 165 #[.val (.long q1), .second, .val (.long q2), .second, .val (.long q3), .second, .val (.int p4), .val (.long nw), .second, .val (.long ag), .second, .val (.long ((nw - ag) + dl)), .second, .val (.ref b54), .val (.int (0 : Int32)), .unset] [(.long nw), (.long ((nw - ag) + dl)), (.ref b54)])) t → Steps p.tables e below (s₁.setTop (entryFrame m #[(.long q1), (.long q2), (.long q3), (.int p4)] maxLocals)) t := fun t k => pp74 t (by
              refine XS.ifYes X57.here hx rfl (pc0 := 149) (pc' := 156) rfl (hb hby at_149) rfl ((if0 _ _).trans (flt hc149).2.2.2) (by decide) (by decide) ?_
              show Steps p.tables e below (T57.setTop (mkF m 156 #[.val (.long q1), .second, .val (.long q2), .second, .val (.long q3), .second, .val (.int p4), .val (.long nw), .second, .val (.long ag), .second, .val (.long ((nw - ag) + dl)), .second, .val (.ref b54), .val (.long dl), .second] [])) _
              refine XS.iconst X57.here hx rfl (hb hby at_156) ?_
              show Steps p.tables e below (T57.setTop (mkF m 157 #[.val (.long q1), .second, .val (.long q2), .second, .val (.long q3), .second, .val (.int p4), .val (.long nw), .second, .val (.long ag), .second, .val (.long ((nw - ag) + dl)), .second, .val (.ref b54), .val (.long dl), .second] [(.int (0 : Int32))])) _
              refine XS.istore X57.here hx rfl (hb hby at_157) rfl (l' := #[.val (.long q1), .second, .val (.long q2), .second, .val (.long q3), .second, .val (.int p4), .val (.long nw), .second, .val (.long ag), .second, .val (.long ((nw - ag) + dl)), .second, .val (.ref b54), .val (.int (0 : Int32)), .unset]) rfl ?_
              show Steps p.tables e below (T57.setTop (mkF m 159 #[.val (.long q1), .second, .val (.long q2), .second, .val (.long q3), .second, .val (.int p4), .val (.long nw), .second, .val (.long ag), .second, .val (.long ((nw - ag) + dl)), .second, .val (.ref b54), .val (.int (0 : Int32)), .unset] [])) _
              refine XS.aload X57.here hx rfl (hb hby at_159) rfl rfl ?_
              show Steps p.tables e below (T57.setTop (mkF m 161 #[.val (.long q1), .second, .val (.long q2), .second, .val (.long q3), .second, .val (.int p4), .val (.long nw), .second, .val (.long ag), .second, .val (.long ((nw - ag) + dl)), .second, .val (.ref b54), .val (.int (0 : Int32)), .unset] [(.ref b54)])) _
              refine XS.lload X57.here hx rfl (hb hby at_161) rfl ?_
              show Steps p.tables e below (T57.setTop (mkF m 163 #[.val (.long q1), .second, .val (.long q2), .second, .val (.long q3), .second, .val (.int p4), .val (.long nw), .second, .val (.long ag), .second, .val (.long ((nw - ag) + dl)), .second, .val (.ref b54), .val (.int (0 : Int32)), .unset] [(.long ((nw - ag) + dl)), (.ref b54)])) _
              refine XS.lload X57.here hx rfl (hb hby at_163) rfl ?_
              show Steps p.tables e below (T57.setTop (mkF m 165 #[.val (.long q1), .second, .val (.long q2), .second, .val (.long q3), .second, .val (.int p4), .val (.long nw), .second, .val (.long ag), .second, .val (.long ((nw - ag) + dl)), .second, .val (.ref b54), .val (.int (0 : Int32)), .unset] [(.long nw), (.long ((nw - ag) + dl)), (.ref b54)])) _
              exact k)
            obtain ⟨cq80, kq80, q80a, q80b, q80c⟩ := isOf hZ rfl (A54.keep K57)
            obtain ⟨_, _, ⟨T80, L80, k80, n80⟩, -, X80, ⟨Lc80, hQ80, l80, y80, z80⟩, st80⟩ := X57.virtualBack hx (y := (⟨"com/example/keen_broker/keenbroker/store/Retention", "pastAge", "(JJ)Z"⟩ : MethodName)) (z := (⟨"com/example/keen_broker/keenbroker/store/Retention", "pastAge", "(JJ)Z"⟩ : MethodName)) hown (mvT hZ (hw _ (List.mem_of_getElem? (i := 18) rfl))) (mvT hZ (hw _ (List.mem_of_getElem? (i := 19) rfl))) (notFace_of_selects (args := #[]) (mvT hZ (hw _ (List.mem_of_getElem? (i := 21) rfl)))) (mvT hZ (hw _ (List.mem_of_getElem? (i := 21) rfl))) (mvT hZ (hw _ (List.mem_of_getElem? (i := 20) rfl))) (by decide) (backOf (W := 0) (own_past l Z a0 hw [] b54 ((nw - ag) + dl) nw ag T57.heap n0 (Nat.le_trans (Nat.le_trans Z0 E54.1) K57.1) F57) hZ (hw _ (List.mem_of_getElem? (i := 22) rfl)) (hw _ (List.mem_of_getElem? (i := 7) rfl)) (by decide) (by decide)) q80a q80c (g := (mkF m 165 #[.val (.long q1), .second, .val (.long q2), .second, .val (.long q3), .second, .val (.int p4), .val (.long nw), .second, .val (.long ag), .second, .val (.long ((nw - ag) + dl)), .second, .val (.ref b54), .val (.int (0 : Int32)), .unset] [(.long nw), (.long ((nw - ag) + dl)), (.ref b54)])) rfl (by rw [hml]; rfl) (Steps.refl _) (argsL := [(.long ((nw - ag) + dl)), (.long nw)]) (rest := []) (lenOf pd__JJ_Z rfl) rfl (by show 2 * 0 + _ ≤ _; exact Nat.le_of_eq rfl) (hb hby at_165) (fun _ _ => ⟨rfl, rfl, (by decide : 1 + 0 ≤ _), (by decide : 2 + 0 ≤ _)⟩)
            dsimp only [Pt.U, Pt.locs, Pt.cells, Pt.slots] at X80 l80 y80 z80 st80 hQ80
            subst l80 y80 z80
            obtain ⟨rfl, N80q, s80⟩ := hQ80
            have N80 := Fr.app N57 N80q
            have pp81 : ∀ t, Steps p.tables e below (T80.setTop (mkF m 168 #[.val (.long q1), .second, .val (.long q2), .second, .val (.long q3), .second, .val (.int p4), .val (.long nw), .second, .val (.long ag), .second, .val (.long ((nw - ag) + dl)), .second, .val (.ref b54), .val (.int (0 : Int32)), .unset] [(.int (own_pa ag ((nw - ag) + dl) nw))])) t → Steps p.tables e below (s₁.setTop (entryFrame m #[(.long q1), (.long q2), (.long q3), (.int p4)] maxLocals)) t := fun t k => pp79 t (st80.trans k)
            have pp82 : ∀ t, Steps p.tables e below (T80.setTop (mkF m 178 #[.val (.long q1), .second, .val (.long q2), .second, .val (.long q3), .second, .val (.int p4), .val (.long nw), .second, .val (.long ag), .second, .val (.long ((nw - ag) + dl)), .second, .val (.ref b54), .val (.int (0 : Int32)), .unset] [(.int (1 : Int32))])) t → Steps p.tables e below (s₁.setTop (entryFrame m #[(.long q1), (.long q2), (.long q3), (.int p4)] maxLocals)) t := fun t k => pp81 t (by
              refine XS.iload X80.here hx rfl (hb hby at_168) rfl ?_
              show Steps p.tables e below (T80.setTop (mkF m 170 #[.val (.long q1), .second, .val (.long q2), .second, .val (.long q3), .second, .val (.int p4), .val (.long nw), .second, .val (.long ag), .second, .val (.long ((nw - ag) + dl)), .second, .val (.ref b54), .val (.int (0 : Int32)), .unset] [(.int (0 : Int32)), (.int (own_pa ag ((nw - ag) + dl) nw))])) _
              refine XS.icmpNo X80.here hx rfl (hb hby at_170) rfl (teq (own_pa2 hc104 (fun q => hc149 ((own_pos ag _ nw hag hnw0 hc117).mpr q)))).2 ?_
              show Steps p.tables e below (T80.setTop (mkF m 173 #[.val (.long q1), .second, .val (.long q2), .second, .val (.long q3), .second, .val (.int p4), .val (.long nw), .second, .val (.long ag), .second, .val (.long ((nw - ag) + dl)), .second, .val (.ref b54), .val (.int (0 : Int32)), .unset] [])) _
              refine XS.iconst X80.here hx rfl (hb hby at_173) ?_
              show Steps p.tables e below (T80.setTop (mkF m 174 #[.val (.long q1), .second, .val (.long q2), .second, .val (.long q3), .second, .val (.int p4), .val (.long nw), .second, .val (.long ag), .second, .val (.long ((nw - ag) + dl)), .second, .val (.ref b54), .val (.int (0 : Int32)), .unset] [(.int (1 : Int32))])) _
              refine XS.goto X80.here hx rfl (pc0 := 174) (pc' := 178) rfl (hb hby at_174) (by decide) (by decide) ?_
              show Steps p.tables e below (T80.setTop (mkF m 178 #[.val (.long q1), .second, .val (.long q2), .second, .val (.long q3), .second, .val (.int p4), .val (.long nw), .second, .val (.long ag), .second, .val (.long ((nw - ag) + dl)), .second, .val (.ref b54), .val (.int (0 : Int32)), .unset] [(.int (1 : Int32))])) _
              exact k)
            obtain ⟨fs, hr, hrun, hended, hW, hsame⟩ := X80.leave (v := some (.int (1 : Int32))) (fun h => by rw [Bd.returns] at h; cases h)
            refine ⟨_, _, pp82 _ ?_, hrun, hended, _, _, rfl, ?_, ⟨_, rfl⟩, hW, hsame.mono (by decide) (by decide)⟩
            · exact retN X80 hx (t := .boolean) Bd.returns (by simp) (hb hby at_178) hr
            · show Q_own_law Z q1 q2 q3 p4 h0 n0 _ T80.heap _
              rw [s80]
              exact ⟨rfl, N80⟩
set_option maxRecDepth 65536 in
set_option maxHeartbeats 40000000 in
theorem comes_1 {Post : Tables → Env → Array Value → State → Outcome → State → Prop} (hpost : ∀ tb e args s v u, (limb_1_1.after args s (.returned v) u = true ∧ limb_1_2.after args s (.returned v) u = true ∧ True) → FrameEnd s (.returned v) u (Jvm.fieldLocs frame_1_writes args s ++ Jvm.arrayLocs frame_1_arrays args s ++ Jvm.staticLocs frame_1_statics s) 16 128 → Post tb e args s (.returned v) u) :
    ArmFor flags0 classFile x code maxLocals ret World_1 tables_1 room_1 Calls_1 rest_1 Pre_1 Post := by
  intro l hfl _ _ p e ha hc hk s m args below hf hA hF happ hP
  obtain ⟨hcalls, hrest, hpre⟩ := hP
  obtain ⟨-, -, -, hnamed, -, -, -, hat⟩ := (Spec.applies_iff hf).mp happ
  obtain ⟨hg, hn⟩ := and_e (Cond.before_iff.mp (show (Jvm.Cond.and given_1 narrow_1).before args s = true from hpre))
  obtain ⟨gg1, gg2⟩ := and_e hg
  obtain ⟨gg3, gg4⟩ := and_e gg2
  obtain ⟨gg5, gg6⟩ := and_e gg4
  obtain ⟨gg7, gg8⟩ := and_e gg6
  obtain ⟨w0, w1, w2, w3, rfl⟩ : ∃ w0 w1 w2 w3 : Value, args = #[w0, w1, w2, w3] := by
    have hs : args.size = 4 := by simpa [Cond.value, given_1] using gg1
    obtain ⟨L⟩ := args
    match L, hs with
    | [w0, w1, w2, w3], _ => exact ⟨w0, w1, w2, w3, rfl⟩
  have hw := fun d (hd : d ∈ tables_1) => atoms_spec (ws := Jvm.Cond.code x code maxLocals ret :: tables_1) hat d (List.mem_cons_of_mem _ hd)
  have hfit : Fit s := fun {y c} hc i hi => by
    obtain ⟨ha, rfl⟩ := Array.getElem?_eq_some_iff.mp hc
    have q := List.all_eq_true.mp ((Array.all_eq_true_iff_forall_mem.mp hF) _ (Array.getElem_mem ha)) i (List.mem_range.mpr hi)
    simpa [Array.getElem?_eq_getElem hi] using q
  obtain ⟨i0, ei0⟩ := isL_v gg3
  obtain rfl : w0 = (.long i0) := Option.some.inj ei0
  obtain ⟨i1, ei1⟩ := isL_v gg5
  obtain rfl : w1 = (.long i1) := Option.some.inj ei1
  obtain ⟨i2, ei2⟩ := isL_v gg7
  obtain rfl : w2 = (.long i2) := Option.some.inj ei2
  obtain ⟨i3, ei3⟩ := is_v gg8
  obtain rfl : w3 = (.int i3) := Option.some.inj ei3
  obtain ⟨n, o, h1, h2, h3, _, L, rfl, ⟨rfl, N⟩, hq⟩ := own_law l s _ hw tables_1 i0 i1 i2 i3  s.heap s.heap.size (Nat.le_refl _)  p e ha hc hk s m _ below hf ((Spec.applies_iff_loose hf).mp happ).1 ⟨rfl, State.Warmed39.refl s, rfl⟩ trivial
  refine ⟨n, _, h1, h2, h3, hpost _ _ _ _ _ _ ⟨Cond.after_iff.mpr rfl, Cond.after_iff.mpr (eq_i res_at (Term.int_eval (1)) rfl), trivial⟩ ⟨hq.1, hq.2.1, (hq.2.2.sift fun y hy => Or.inr (N y hy)).mono (by decide) (by decide)⟩⟩
theorem main_1_1 : Claimed_1_1 := comes_1 fun _ _ _ _ _ _ h hF => ⟨h.1, hF⟩
theorem main_1_2 : Claimed_1_2 := comes_1 fun _ _ _ _ _ _ h hF => ⟨h.2.1, hF⟩
end Jvm.Pilot.@@N@@
namespace Jvm.Pilot.@@N@@
open Jvm Jvm.ClassFile Sem Op Lib Jvm.Free Jvm.Stand Jvm.Pilot.@@N@@.Jvm.D
/-! MADE BY PROGRAM (witnessworld.py) out of the Statement's table words and the real class files: 10 classes; the members and pool entries that the words name. The judged class is class 1, her method 1. -/
namespace start1
open Jvm.ClassFile
def u (s : String) : CpInfo := .utf8 (stringToUtf16 s)
/-- a pool by its gaps: so many unusable entries, then the entry; so many at the end -/
def gap : Nat → List CpInfo → List CpInfo
  | 0, r => r
  | n + 1, r => .unusable :: gap n r
def poolList (es : List (Nat × CpInfo)) (last : Nat) : List CpInfo := es.foldr (fun e r => gap e.1 (e.2 :: r)) (gap last [])
def pool (es : List (Nat × CpInfo)) (last : Nat) : Array CpInfo := ⟨poolList es last⟩
def fileOf (pool : Array CpInfo) (this : Nat) (attrs : Array Attribute := #[]) (ms : Array MethodInfo := #[]) (fl : Nat := 33) (sup : Nat := 0) (ifs : Array Nat := #[]) (fds : Array FieldInfo := #[]) : ClassFile where
  minorVersion := 0
  majorVersion := 65
  constantPool := pool
  accessFlags := fl
  thisClass := this
  superClass := sup
  interfaces := ifs
  fields := fds
  methods := ms
  attributes := attrs
def plain (name : String) (sup : Option ClassId) : Class where
  name := name
  kind := .ordinary
  loader := none
  accessFlags := 33
  super := sup
  interfaces := #[]
  cf := none
  fields := #[]
  methods := #[]
  instanceTypes := #[]
  staticTypes := #[]
  resolved := #[]
  callSites := []
  init := .initialized
  statics := none
  mirror := none

def pool0 : Array CpInfo := pool [(5, u "<init>"), (0, u "()V"), (1, .class_ 10), (1, u "java/lang/Object")] 113

def k0c0 : Code := { maxStack := 0, maxLocals := 1, code := object_method_1_code, exceptionTable := #[], attributes := #[] }
def k0m0 : Method := { name := "<init>", desc := "()V", sig := { parameters := [], returnType := none }, accessFlags := 1, code := some k0c0 }
/-- java/lang/Object -/
def k0 : Class := { plain "java/lang/Object" none with
  accessFlags := 33
  interfaces := #[]
  cf := some (fileOf pool0 8 #[] #[{ accessFlags := 1, nameIndex := 5, descriptorIndex := 6, attributes := #[] }] 33 0 #[] #[])
  fields := #[]
  methods := #[k0m0]
  instanceTypes := #[]
  staticTypes := #[]
  resolved := Array.replicate 124 none
  statics := none }

def pool1 : Array CpInfo := pool [(2, .class_ 4), (1, u "java/lang/Object"), (0, u "<init>"), (0, u "()V"), (2, .long 9223372036854775807), (1, .class_ 12), (0, u "com/example/keen_broker/keenbroker/store/Retention"), (0, .methodref 14 15), (0, .class_ 16), (0, .nameAndType 17 18), (0, u "java/lang/Math"), (0, u "max"), (0, u "(JJ)J"), (0, .methodref 11 20), (0, .nameAndType 5 21), (0, u "(JJ)V"), (0, .methodref 11 23), (0, .nameAndType 24 25), (0, u "pastAge"), (0, u "(JJ)Z"), (0, .class_ 27), (0, u "com/example/keen_broker/keenbroker/store/RetentionPastAgePinLaw"), (2, u "law"), (0, u "(JJJI)Z")] 3

def k1m0 : Method := { name := "<init>", desc := "()V", sig := { parameters := [], returnType := none }, accessFlags := 1, code := none }
def k1c1 : Code := { maxStack := 6, maxLocals := 16, code := code, exceptionTable := #[], attributes := #[] }
def k1m1 : Method := { name := "law", desc := "(JJJI)Z", sig := { parameters := [.long, .long, .long, .int], returnType := some .boolean }, accessFlags := 9, code := some k1c1 }
/-- com/example/keen_broker/keenbroker/store/RetentionPastAgePinLaw -/
def k1 : Class := { plain "com/example/keen_broker/keenbroker/store/RetentionPastAgePinLaw" (some 0) with
  accessFlags := 49
  interfaces := #[]
  cf := some (fileOf pool1 26 #[] #[{ accessFlags := 1, nameIndex := 5, descriptorIndex := 6, attributes := #[] }, { accessFlags := 9, nameIndex := 30, descriptorIndex := 31, attributes := #[] }] 49 2 #[] #[])
  fields := #[]
  methods := #[k1m0, k1m1]
  instanceTypes := #[]
  staticTypes := #[]
  resolved := Array.replicate 35 none
  statics := none }

def pool2 : Array CpInfo := pool [(1, .class_ 2), (0, u "java/lang/Math"), (1, .class_ 6), (1, u "java/lang/Object"), (0, u "<init>"), (0, u "()V"), (89, .class_ 100), (1, u "java/lang/Math$RandomNumberGeneratorHolder"), (20, u "(JJ)J"), (50, u "negativeZeroFloatBits"), (0, u "J"), (2, u "negativeZeroDoubleBits"), (21, u "max"), (46, u "$assertionsDisabled"), (0, u "Z"), (91, u "twoToTheDoubleScaleDown"), (0, u "D"), (4, u "twoToTheDoubleScaleUp"), (9, u "E"), (3, u "PI"), (2, u "TAU"), (2, u "DEGREES_TO_RADIANS"), (0, u "RADIANS_TO_DEGREES")] 94

def k2m0 : Method := { name := "<init>", desc := "()V", sig := { parameters := [], returnType := none }, accessFlags := 2, code := none }
def k2c1 : Code := { maxStack := 4, maxLocals := 4, code := jdk_29_method_66_code, exceptionTable := #[], attributes := #[] }
def k2m1 : Method := { name := "max", desc := "(JJ)J", sig := { parameters := [.long, .long], returnType := some .long }, accessFlags := 9, code := some k2c1 }
/-- java/lang/Math -/
def k2 : Class := { plain "java/lang/Math" (some 0) with
  accessFlags := 49
  interfaces := #[]
  cf := some (fileOf pool2 1 #[.nestMembers #[98]] #[{ accessFlags := 2, nameIndex := 7, descriptorIndex := 8, attributes := #[] }, { accessFlags := 9, nameIndex := 198, descriptorIndex := 121, attributes := #[] }] 49 4 #[] #[{ accessFlags := 25, nameIndex := 354, descriptorIndex := 339, attributes := #[] }, { accessFlags := 25, nameIndex := 358, descriptorIndex := 339, attributes := #[] }, { accessFlags := 25, nameIndex := 361, descriptorIndex := 339, attributes := #[] }, { accessFlags := 26, nameIndex := 364, descriptorIndex := 339, attributes := #[] }, { accessFlags := 26, nameIndex := 365, descriptorIndex := 339, attributes := #[] }, { accessFlags := 26, nameIndex := 172, descriptorIndex := 173, attributes := #[] }, { accessFlags := 26, nameIndex := 176, descriptorIndex := 173, attributes := #[] }, { accessFlags := 8, nameIndex := 344, descriptorIndex := 339, attributes := #[] }, { accessFlags := 8, nameIndex := 338, descriptorIndex := 339, attributes := #[] }, { accessFlags := 4120, nameIndex := 245, descriptorIndex := 246, attributes := #[] }])
  fields := #[{ name := "E", type := .double, accessFlags := 25, slot := 0, constantValue := 0 }, { name := "PI", type := .double, accessFlags := 25, slot := 1, constantValue := 0 }, { name := "TAU", type := .double, accessFlags := 25, slot := 2, constantValue := 0 }, { name := "DEGREES_TO_RADIANS", type := .double, accessFlags := 26, slot := 3, constantValue := 0 }, { name := "RADIANS_TO_DEGREES", type := .double, accessFlags := 26, slot := 4, constantValue := 0 }, { name := "negativeZeroFloatBits", type := .long, accessFlags := 26, slot := 5, constantValue := 0 }, { name := "negativeZeroDoubleBits", type := .long, accessFlags := 26, slot := 6, constantValue := 0 }, { name := "twoToTheDoubleScaleUp", type := .double, accessFlags := 8, slot := 7, constantValue := 0 }, { name := "twoToTheDoubleScaleDown", type := .double, accessFlags := 8, slot := 8, constantValue := 0 }, { name := "$assertionsDisabled", type := .boolean, accessFlags := 4120, slot := 9, constantValue := 0 }]
  methods := #[k2m0, k2m1]
  instanceTypes := #[]
  staticTypes := #[.double, .double, .double, .double, .double, .long, .long, .double, .double, .boolean]
  resolved := Array.replicate 460 none
  statics := none }

def pool3 : Array CpInfo := pool [(5, .methodref 6 7), (0, .class_ 8), (0, .nameAndType 9 10), (0, u "java/lang/Object"), (0, u "<init>"), (0, u "()V"), (9, .fieldref 21 22), (0, .class_ 23), (0, .nameAndType 24 25), (0, u "com/example/keen_broker/keenbroker/store/Retention"), (0, u "ageMillis"), (0, u "J"), (0, .fieldref 21 27), (0, .nameAndType 28 25), (0, u "bytes"), (0, .long 9223372036854775807), (30, u "(JJ)V"), (2, u "DEFAULT"), (0, u "Lcom/example/keen_broker/keenbroker/store/Retention;"), (0, u "NO_LIMIT"), (1, u "DEFAULT_HOURS"), (0, u "MAX_SEGMENT_BYTES"), (0, u "MIN_SEGMENT_BYTES"), (6, u "pastAge"), (0, u "(JJ)Z")] 20

def k3c0 : Code := { maxStack := 6, maxLocals := 5, code := prog_99_method_1_code, exceptionTable := #[], attributes := #[] }
def k3m0 : Method := { name := "<init>", desc := "(JJ)V", sig := { parameters := [.long, .long], returnType := none }, accessFlags := 1, code := some k3c0 }
def k3c1 : Code := { maxStack := 6, maxLocals := 5, code := prog_99_method_4_code, exceptionTable := #[], attributes := #[] }
def k3m1 : Method := { name := "pastAge", desc := "(JJ)Z", sig := { parameters := [.long, .long], returnType := some .boolean }, accessFlags := 0, code := some k3c1 }
/-- com/example/keen_broker/keenbroker/store/Retention -/
def k3 : Class := { plain "com/example/keen_broker/keenbroker/store/Retention" (some 0) with
  accessFlags := 49
  interfaces := #[]
  cf := some (fileOf pool3 21 #[] #[{ accessFlags := 1, nameIndex := 9, descriptorIndex := 60, attributes := #[] }, { accessFlags := 0, nameIndex := 76, descriptorIndex := 77, attributes := #[] }] 49 6 #[] #[{ accessFlags := 25, nameIndex := 65, descriptorIndex := 25, attributes := #[] }, { accessFlags := 25, nameIndex := 67, descriptorIndex := 25, attributes := #[] }, { accessFlags := 25, nameIndex := 63, descriptorIndex := 64, attributes := #[] }, { accessFlags := 24, nameIndex := 68, descriptorIndex := 25, attributes := #[] }, { accessFlags := 24, nameIndex := 69, descriptorIndex := 25, attributes := #[] }, { accessFlags := 18, nameIndex := 24, descriptorIndex := 25, attributes := #[] }, { accessFlags := 18, nameIndex := 28, descriptorIndex := 25, attributes := #[] }])
  fields := #[{ name := "NO_LIMIT", type := .long, accessFlags := 25, slot := 0, constantValue := 0 }, { name := "DEFAULT_HOURS", type := .long, accessFlags := 25, slot := 1, constantValue := 0 }, { name := "DEFAULT", type := (.object "com/example/keen_broker/keenbroker/store/Retention"), accessFlags := 25, slot := 2, constantValue := 0 }, { name := "MAX_SEGMENT_BYTES", type := .long, accessFlags := 24, slot := 3, constantValue := 0 }, { name := "MIN_SEGMENT_BYTES", type := .long, accessFlags := 24, slot := 4, constantValue := 0 }, { name := "ageMillis", type := .long, accessFlags := 18, slot := 0, constantValue := 0 }, { name := "bytes", type := .long, accessFlags := 18, slot := 1, constantValue := 0 }]
  methods := #[k3m0, k3m1]
  instanceTypes := #[.long, .long]
  staticTypes := #[.long, .long, (.object "com/example/keen_broker/keenbroker/store/Retention"), .long, .long]
  resolved := Array.replicate 98 none
  statics := none }

def pool4 : Array CpInfo := pool [(1, u "java/lang/Cloneable"), (0, .class_ 1), (0, u "java/lang/Object"), (0, .class_ 3)] 3

/-- java/lang/Cloneable -/
def k4 : Class := { plain "java/lang/Cloneable" (some 0) with
  accessFlags := 1537
  interfaces := #[]
  cf := some (fileOf pool4 2 #[] #[] 1537 4 #[] #[])
  fields := #[]
  methods := #[]
  instanceTypes := #[]
  staticTypes := #[]
  resolved := Array.replicate 8 none
  statics := none }

def pool5 : Array CpInfo := pool [(1, u "java/io/Serializable"), (0, .class_ 1), (0, u "java/lang/Object"), (0, .class_ 3)] 3

/-- java/io/Serializable -/
def k5 : Class := { plain "java/io/Serializable" (some 0) with
  accessFlags := 1537
  interfaces := #[]
  cf := some (fileOf pool5 2 #[] #[] 1537 4 #[] #[])
  fields := #[]
  methods := #[]
  instanceTypes := #[]
  staticTypes := #[]
  resolved := Array.replicate 8 none
  statics := none }

/-- the primitive byte -/
def k6 : Class := { plain "byte" none with kind := .primitive 'B', accessFlags := 0x411 }
/-- [B -/
def k7 : Class := { plain "[B" (some 0) with kind := .array 6 .byte, interfaces := #[4, 5], accessFlags := 1041 }

/-- the primitive int -/
def k8 : Class := { plain "int" none with kind := .primitive 'I', accessFlags := 0x411 }
/-- [I -/
def k9 : Class := { plain "[I" (some 0) with kind := .array 8 .int, interfaces := #[4, 5], accessFlags := 1041 }

def heap : Heap := #[]
def classes : Array Class := #[k0, k1, k2, k3, k4, k5, k6, k7, k8, k9]
def interned : List (Array UInt16 × Addr) := []
def slotsUsed : Nat := 0
def theMethod : MethodId := ⟨1, 1⟩
def args0 : Array Value := #[.long 50, .long 7, .long 3, .int 0]
def aboutOver (below : List Frame) : State where
  vm := { classes := classes, interned := interned.toArray }
  heap := heap
  slotsUsed := slotsUsed
  threads := #[{ frames := .invoking theMethod args0 :: below }]
def below0 : List Frame := [.native { method := ⟨0, 0⟩, args := #[] }]
def about1 : State := aboutOver below0
def p0 : Program := .bare "" "" ""
def e0 : Env := launch0.env 0 0 0
theorem w_frames : about1.frames = Frame.invoking theMethod args0 :: below0 := rfl
set_option maxRecDepth 65536 in
theorem w_args : argsFit about1.vm theMethod args0 = true := by decide +kernel
set_option maxRecDepth 65536 in
theorem w_heap : heapFits about1 = true := by decide +kernel
set_option maxRecDepth 65536 in
theorem w_runnable : about1.curStatus? = some .runnable := by decide +kernel
set_option maxRecDepth 65536 in
theorem w_alone : about1.alone = true := by decide +kernel
set_option maxRecDepth 65536 in
theorem w_named : about1.methodNamed? x = some theMethod := by decide +kernel
set_option maxRecDepth 65536 in
theorem w_hears : about1.hears theMethod below0 = true := by decide +kernel
set_option maxRecDepth 65536 in
theorem w_ripe : about1.ripe theMethod args0 below0 = true := by decide +kernel
theorem w_running : about1.status = .running := rfl
set_option maxRecDepth 65536 in
theorem w_room : about1.hasRoom e0.platform room_1 = true :=
  launch0.hasRoom_least _ room_1 (by decide +kernel) (by decide +kernel) (by decide +kernel) (by decide +kernel) (by decide +kernel) (by decide +kernel)
theorem allAtoms_all (ts : List Jvm.Cond) (a : Array Jvm.Value) (st : Jvm.State) : (allAtoms ts).before a st = ts.all (fun c => c.before a st) := by
  induction ts with
  | nil => rfl
  | cons c t ih =>
    show (Jvm.Cond.and c (allAtoms t)).before a st = _
    rw [Jvm.Cond.before_and, ih, List.all_cons]
def words1 : List Jvm.Cond := Jvm.Cond.code x code maxLocals ret :: tables_1
/-- a 'code' word, met by the world's own term for the bytes: nothing is compared byte by byte -/
theorem code_word {y : MethodName} {bytes : ByteArray} {mx : Nat} {rt : Option FieldType} {a : Array Value} {s : State} {m : MethodId} {meth : Method} {c : Code} (h1 : s.methodNamed? y = some m) (h2 : s.vm.method? m = some meth) (h3 : meth.code = some c) (h4 : c.code = bytes)
    (h5 : (c.maxLocals == mx && c.exceptionTable.isEmpty && decide (c.maxStack ≤ mostOperands) && decide (meth.sig.returnType = rt) && !meth.locks && decide (parseMethodDescriptor y.desc = some meth.sig)) = true) : (Jvm.Cond.code y bytes mx rt).before a s = true := by
  simp only [Bool.and_eq_true, beq_iff_eq, Bool.not_eq_true', decide_eq_true_eq] at h5
  obtain ⟨⟨⟨⟨⟨g1, g2⟩, g3⟩, g4⟩, g5⟩, g6⟩ := h5
  simp [Cond.before, Cond.holds, Cond.value, h1, h2, h3, h4, g1, g2, g3, g4, g5, g6]
def isCode : Jvm.Cond → Bool
  | .code _ _ _ _ => true
  | _ => false
theorem all_split {L : List Jvm.Cond} {P : Jvm.Cond → Bool} (h1 : L.all (fun c => isCode c || P c) = true) (h2 : ∀ c ∈ L.filter isCode, P c = true) : L.all P = true := by
  refine List.all_eq_true.mpr fun c hc => ?_
  have h := List.all_eq_true.mp h1 c hc
  rcases Bool.eq_false_or_eq_true (isCode c) with hi | hi
  · exact h2 c (List.mem_filter.mpr ⟨hc, hi⟩)
  · simpa [hi] using h
set_option maxRecDepth 65536 in
theorem w_c0 : (Jvm.Cond.code x code maxLocals ret).before args0 about1 = true := code_word (m := ⟨1, 1⟩) (meth := k1m1) (c := k1c1) (by decide +kernel) rfl rfl rfl (by decide +kernel)
set_option maxRecDepth 65536 in
theorem w_c1 : (Jvm.Cond.code ({ cls := "java/lang/Math", name := "max", desc := "(JJ)J" } : Jvm.MethodName) jdk_29_method_66_code (4 : Nat) (Option.some Jvm.ClassFile.FieldType.long)).before args0 about1 = true := code_word (m := ⟨2, 1⟩) (meth := k2m1) (c := k2c1) (by decide +kernel) rfl rfl rfl (by decide +kernel)
set_option maxRecDepth 65536 in
theorem w_c2 : (Jvm.Cond.code ({ cls := "com/example/keen_broker/keenbroker/store/Retention", name := "<init>", desc := "(JJ)V" } : Jvm.MethodName) prog_99_method_1_code (5 : Nat) (Option.none : Option Jvm.ClassFile.FieldType)).before args0 about1 = true := code_word (m := ⟨3, 0⟩) (meth := k3m0) (c := k3c0) (by decide +kernel) rfl rfl rfl (by decide +kernel)
set_option maxRecDepth 65536 in
theorem w_c3 : (Jvm.Cond.code ({ cls := "java/lang/Object", name := "<init>", desc := "()V" } : Jvm.MethodName) object_method_1_code (1 : Nat) (Option.none : Option Jvm.ClassFile.FieldType)).before args0 about1 = true := code_word (m := ⟨0, 0⟩) (meth := k0m0) (c := k0c0) (by decide +kernel) rfl rfl rfl (by decide +kernel)
set_option maxRecDepth 65536 in
theorem w_c4 : (Jvm.Cond.code ({ cls := "com/example/keen_broker/keenbroker/store/Retention", name := "pastAge", desc := "(JJ)Z" } : Jvm.MethodName) prog_99_method_4_code (5 : Nat) (Option.some Jvm.ClassFile.FieldType.boolean)).before args0 about1 = true := code_word (m := ⟨3, 1⟩) (meth := k3m1) (c := k3c1) (by decide +kernel) rfl rfl rfl (by decide +kernel)
def codes1 : List Jvm.Cond := [Jvm.Cond.code x code maxLocals ret, Jvm.Cond.code ({ cls := "java/lang/Math", name := "max", desc := "(JJ)J" } : Jvm.MethodName) jdk_29_method_66_code (4 : Nat) (Option.some Jvm.ClassFile.FieldType.long), Jvm.Cond.code ({ cls := "com/example/keen_broker/keenbroker/store/Retention", name := "<init>", desc := "(JJ)V" } : Jvm.MethodName) prog_99_method_1_code (5 : Nat) (Option.none : Option Jvm.ClassFile.FieldType), Jvm.Cond.code ({ cls := "java/lang/Object", name := "<init>", desc := "()V" } : Jvm.MethodName) object_method_1_code (1 : Nat) (Option.none : Option Jvm.ClassFile.FieldType), Jvm.Cond.code ({ cls := "com/example/keen_broker/keenbroker/store/Retention", name := "pastAge", desc := "(JJ)Z" } : Jvm.MethodName) prog_99_method_4_code (5 : Nat) (Option.some Jvm.ClassFile.FieldType.boolean)]
set_option maxRecDepth 65536 in
theorem codes_eq : words1.filter isCode = codes1 := rfl
theorem w_codes : ∀ c ∈ words1.filter isCode, c.before args0 about1 = true := by
  rw [codes_eq]
  intro c hc
  simp only [codes1, List.mem_cons, List.not_mem_nil, or_false] at hc
  rcases hc with rfl | rfl | rfl | rfl | rfl
  · exact w_c0
  · exact w_c1
  · exact w_c2
  · exact w_c3
  · exact w_c4
set_option maxRecDepth 65536 in
theorem w_t1 : (words1.take 24).all (fun c => isCode c || c.before args0 about1) = true := by decide +kernel
set_option maxRecDepth 65536 in
theorem w_t2 : (words1.drop 24).all (fun c => isCode c || c.before args0 about1) = true := by decide +kernel
theorem w_tables : (allAtoms (Jvm.Cond.code x code maxLocals ret :: tables_1)).before args0 about1 = true := by
  rw [allAtoms_all]
  show words1.all (fun c => c.before args0 about1) = true
  refine all_split ?_ w_codes
  rw [← List.take_append_drop 24 words1, List.all_append, w_t1, w_t2]
  rfl
set_option maxRecDepth 65536 in
theorem w_case : (Jvm.Cond.and given_1 narrow_1).before args0 about1 = true := by decide +kernel
theorem w_applies : (headSpec (Jvm.Cond.code x code maxLocals ret :: tables_1) room_1).applies x e0.platform about1 = true :=
  (Spec.applies_iff w_frames).mpr ⟨w_running, w_runnable, w_alone, w_named, w_hears, w_ripe, w_room, w_tables⟩
theorem atStart : AtStart classFile x code maxLocals ret World_1 tables_1 room_1 Calls_1 rest_1 Pre_1 launch0 p0 e0 about1 theMethod args0 below0 :=
  ⟨lists_1, trivial, launch0.admits_env _ _ _, launch0.least_env, fairChoices_fair.cas, fairChoices_fair.clock, w_frames, w_args, w_heap, w_applies, trivial, trivial, w_case⟩
end start1
theorem witness_1 : WitnessClaimed_1 := ⟨start1.p0, start1.e0, start1.about1, start1.theMethod, start1.args0, start1.below0, start1.atStart⟩
end Jvm.Pilot.@@N@@
