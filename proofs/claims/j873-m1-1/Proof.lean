import JvmDerived
import JvmDerived.Pilot.@@N@@Statement
import JvmDerived.Pilot.@@N@@Code
set_option linter.unusedVariables false
set_option linter.unusedSimpArgs false
namespace Jvm.RoadKit
open Sem ClassFile Op Lib Jvm.Stand Jvm.Free Jvm.LawKit
section New
variable {p : Program} {l : Launch} {e : Env} {R : Room} {s : State} {m : MethodId} {args : Array Value} {below : List Frame} {meth : Method} {c : Code} {T : State} {locs : List Loc} {cells slots : Nat}
theorem retI (X : Stand p l e R s m args below meth c T locs cells slots) (hx : p.tables.exec = Jvm.exec) {pc : Nat} {Ls : Array Slot} {z : Int32} {rest : List Value} (hret : meth.sig.returnType = some .int) (hd : decode c.code pc = .ok (.ireturn, 1)) {fs : List Frame}
    (hl : ∀ (f : JFrame) (acts : List Action), f.method = m → f.locked = none → f.entered = [] → (doReturn e (T.setTop f) acts (some (.int z))).1 = T.setFrames fs) : Steps p.tables e below (T.setTop (mkF m pc Ls (.int z :: rest))) (T.setFrames fs) := by
  have hm' : T.vm.method? m = some meth := X.method'
  have hn : narrow .int (.int z) = .int z := rfl
  show Steps p.tables e below (T.setTop { method := m, pc := pc, locals := Ls, stack := _ :: rest, locked := none }) _
  jvm_step X.here [X.here.top, hx, hd, hm', hret, hn]
  first | (intro acts; rw [hl _ acts rfl rfl rfl]) | rw [hl _ _ rfl rfl rfl]
  exact Steps.refl _
end New
end Jvm.RoadKit
namespace Jvm.Pilot.@@N@@
open Jvm Jvm.ClassFile Sem Op Lib Jvm.Free Jvm.Stand Jvm.LawKit Jvm.RoadKit Bundle Jvm.Pilot.@@N@@.Jvm.D
def own_me (t1 : Int32) (s1 : Int64) (t2 : Int32) (s2 : Int64) : Int32 := if t2 = t1 then (if lcmpW s2 s1 = 0 then 1 else 0) else 0
theorem own_me_self (t : Int32) (s : Int64) : own_me t s t s = 1 := by
  unfold own_me; rw [if_pos rfl, if_pos ((lw_eq _ _).mpr rfl)]
theorem own_me_sym (t1 : Int32) (s1 : Int64) (t2 : Int32) (s2 : Int64) : own_me t1 s1 t2 s2 = own_me t2 s2 t1 s1 := by
  unfold own_me
  simp only [lw_eq]
  by_cases h1 : t2 = t1
  · subst h1
    by_cases h2 : s2 = s1
    · subst h2; rfl
    · rw [if_pos rfl, if_pos rfl, if_neg h2, if_neg (Ne.symm h2)]
  · rw [if_neg h1, if_neg (Ne.symm h1)]
theorem own_ext {h0 h : Heap} (K : Keep h0 h []) : Ext h0 h := ⟨K.1, fun a c q => K.2.1 a c q (by simp)⟩
theorem own_no {Z : State} {a0 : Array Value} {C S S2 O K : String} {n : Nat} (w : (Jvm.Cond.superclass C S).before a0 Z = true) (w2 : (Jvm.Cond.superclass S O).before a0 Z = true) (w3 : (Jvm.Cond.noSuperclass O).before a0 Z = true) (wk : (Jvm.Cond.instantiable K n).before a0 Z = true) (h1 : C ≠ K) (h2 : S ≠ K) (h3 : O ≠ K) :
    ∃ c t, Z.vm.findClass C = some c ∧ Z.vm.findClass K = some t ∧ Z.vm.assignable c t = false := by
  obtain ⟨t, kt, g0, g2, g5, g7, -⟩ := Cond.instantiable_spec wk
  obtain ⟨o, ko, o1, o2, o3, -, -⟩ := Cond.noSuperclass_spec w3
  have g7' : kt.isInterface = false := (Bool.or_eq_false_iff.mp g7).1
  have nO : NS Z O K := ⟨o, t, o1, g0, fun fuel => by
    cases fuel with
    | zero => rfl
    | succ f => simp [Vm.isSubclassAux, ids_ne o1 g0 h3, o2, o3]⟩
  have nS : NS Z S K := NS.step w2 nO h2
  obtain ⟨c, t', h0, g0', n3⟩ := NS.step w nS h1
  cases g0.symm.trans g0'
  obtain ⟨p, k, kp, q1, q2, q3, q4, q5, -, q7⟩ := Cond.superclass_spec h0 w
  have ne := ids_ne h0 g0 h1
  refine ⟨c, t, h0, g0, ?_⟩
  show Z.vm.assignableAux (255 + 1) c t = false
  simp [Vm.assignableAux, ne, q2, g2, q5, g5, g7', Vm.isSubclass, n3]
theorem own_num_d0 : decode jdk_18_method_1_code 0 = .ok (.aload_n 0, 1) := by decide +kernel
theorem own_num_d1 : decode jdk_18_method_1_code 1 = .ok (.invokespecial 1, 3) := by decide +kernel
theorem own_num_d4 : decode jdk_18_method_1_code 4 = .ok (.return_, 1) := by decide +kernel
theorem own_num_pn : plainName "java/lang/Number" = true := by first | (simp [plainName, overriddenIn]; done) | decide +kernel
theorem own_num_ef (m : MethodId) (x0 : Addr) : entryFrame m #[(.ref x0)] 1 = mkF m 0 #[.val (.ref x0)] [] := by first | (simp [entryFrame, mkF, argsToLocals, Value.category]; done) | rfl
def Q_own_num (Z : State) (a1 : Addr) (h0 : Heap) (n0 : Nat) (v : Option Value) (h : Heap) (L : List Loc) : Prop := v = none ∧ Fr n0 L ∧ h = h0
set_option maxRecDepth 65536 in
set_option maxHeartbeats 40000000 in
theorem own_num (l : Launch) (Z : State) (a0 : Array Value) (hw : ∀ d ∈ tables_1, d.before a0 Z = true) (ws : List Jvm.Cond) (a1 : Addr) (h0 : Heap) (n0 : Nat) (Z0 : n0 ≤ h0.size) :
    MetFree l (⟨"java/lang/Number", "<init>", "()V"⟩ : MethodName) (head1 (Jvm.Cond.code (⟨"java/lang/Number", "<init>", "()V"⟩ : MethodName) jdk_18_method_1_code 1 none :: ws) ({ frames := 1, cells := 0, slots := 0, locals := 12 } : Room)) (fun a U => a = #[(.ref a1)] ∧ Z.Warmed39 U.vm ∧ U.heap = h0) (fun _ _ _ _ _ => True) (fun _ U o U' => ∃ v L, o = .returned v ∧ Q_own_num Z a1 h0 n0 v U'.heap L ∧ FrameEnd U o U' L ({ frames := 1, cells := 0, slots := 0, locals := 12 } : Room).cells ({ frames := 1, cells := 0, slots := 0, locals := 12 } : Room).slots) := by
  refine MetFree.of_bodySF (plainFor_of_name own_num_pn) hisR ?_
  intro p e s m args below meth c s₁ Bd hml0 hP hK
  obtain ⟨rfl, hZ, hh⟩ := hP
  have hx := Bd.exec
  have hby := Bd.bytes
  have hml : c.maxLocals = 1 := hml0
  have hown : s.vm.findClass "java/lang/Number" = some m.cls := findClass_of_methodNamed Bd.named
  have hnm := (name_of_methodNamed Bd.named Bd.method).1
  have X0 : Stand p l e ({ frames := 1, cells := 0, slots := 0, locals := 12 } : Room) s m #[(.ref a1)] below meth c s₁ [] 0 0 := Stand.of_body Bd
  have e0 : s₁.heap = h0 := by rw [← hh, Bd.state]; rfl
  have N0 := Fr.nil n0
  have pp0 : ∀ t, Steps p.tables e below (s₁.setTop (mkF m 0 #[.val (.ref a1)] [])) t → Steps p.tables e below (s₁.setTop (entryFrame m #[(.ref a1)] 1)) t := fun t k => castTop (own_num_ef m a1) k
  have pp101 : ∀ t, Steps p.tables e below (s₁.setTop (mkF m 1 #[.val (.ref a1)] [(.ref a1)])) t → Steps p.tables e below (s₁.setTop (entryFrame m #[(.ref a1)] 1)) t := fun t k => pp0 t (by
    refine XS.aloadN X0.here hx rfl (hb hby own_num_d0) rfl rfl ?_
    show Steps p.tables e below (s₁.setTop (mkF m 1 #[.val (.ref a1)] [(.ref a1)])) _
    exact k)
  obtain ⟨T102, X102, e102, st102⟩ := initO X0 hx hZ hown (hw _ (List.mem_of_getElem? (i := 49) rfl)) (hw _ (List.mem_of_getElem? (i := 7) rfl)) (hw _ (List.mem_of_getElem? (i := 8) rfl)) e0 (g := (mkF m 1 #[.val (.ref a1)] [(.ref a1)])) rfl (by rw [hml]; rfl) rfl (hb hby own_num_d1) (by decide) (W := 0) (by show 2 * 0 + _ ≤ _; exact Nat.le_of_eq rfl) (by decide)
  have pp103 : ∀ t, Steps p.tables e below (T102.setTop (mkF m 4 #[.val (.ref a1)] [])) t → Steps p.tables e below (s₁.setTop (entryFrame m #[(.ref a1)] 1)) t := fun t k => pp101 t (st102 t k)
  obtain ⟨fs, hr, hrun, hended, hW, hsame⟩ := X102.leave (v := none) (fun _ => rfl)
  refine ⟨_, _, pp103 _ ?_, hrun, hended, _, _, rfl, ?_, ⟨_, rfl⟩, hW, hsame.mono (by decide) (by decide)⟩
  · exact X102.returnOut hx Bd.returns (hb hby own_num_d4) hr
  · show Q_own_num Z a1 h0 n0 _ T102.heap _
    rw [e102]
    exact ⟨rfl, N0, rfl⟩
theorem pd___V : parseMethodDescriptor "()V" = some ⟨[], none⟩ := by decide +kernel
theorem own_linit_d0 : decode jdk_35_method_26_code 0 = .ok (.aload_n 0, 1) := by decide +kernel
theorem own_linit_d1 : decode jdk_35_method_26_code 1 = .ok (.invokespecial 270, 3) := by decide +kernel
theorem own_linit_d4 : decode jdk_35_method_26_code 4 = .ok (.aload_n 0, 1) := by decide +kernel
theorem own_linit_d5 : decode jdk_35_method_26_code 5 = .ok (.lload_n 1, 1) := by decide +kernel
theorem own_linit_d6 : decode jdk_35_method_26_code 6 = .ok (.putfield 273, 3) := by decide +kernel
theorem own_linit_d9 : decode jdk_35_method_26_code 9 = .ok (.return_, 1) := by decide +kernel
theorem own_linit_pn : plainName "java/lang/Long" = true := by first | (simp [plainName, overriddenIn]; done) | decide +kernel
theorem own_linit_ef (m : MethodId) (x0 : Addr) (x1 : Int64) : entryFrame m #[(.ref x0), (.long x1)] 3 = mkF m 0 #[.val (.ref x0), .val (.long x1), .second] [] := by first | (simp [entryFrame, mkF, argsToLocals, Value.category]; done) | rfl
def Q_own_linit (Z : State) (a1 : Addr) (q2 : Int64) (u1 : Value) (h0 : Heap) (n0 : Nat) (v : Option Value) (h : Heap) (L : List Loc) : Prop := v = none ∧ Fr n0 L ∧ Keep h0 h [a1] ∧ Exa Z h a1 "java/lang/Long"
set_option maxRecDepth 65536 in
set_option maxHeartbeats 40000000 in
theorem own_linit (l : Launch) (Z : State) (a0 : Array Value) (hw : ∀ d ∈ tables_1, d.before a0 Z = true) (ws : List Jvm.Cond) (a1 : Addr) (q2 : Int64) (u1 : Value) (h0 : Heap) (n0 : Nat) (Z0 : n0 ≤ h0.size) (E1 : Exa Z h0 a1 "java/lang/Long") (F1 : Fld Z h0 a1 "java/lang/Long" "value" "J" u1) (g_a1 : n0 ≤ a1) :
    MetFree l (⟨"java/lang/Long", "<init>", "(J)V"⟩ : MethodName) (head1 (Jvm.Cond.code (⟨"java/lang/Long", "<init>", "(J)V"⟩ : MethodName) jdk_35_method_26_code 3 none :: ws) ({ frames := 2, cells := 0, slots := 0, locals := 24 } : Room)) (fun a U => a = #[(.ref a1), (.long q2)] ∧ Z.Warmed39 U.vm ∧ U.heap = h0) (fun _ _ _ _ _ => True) (fun _ U o U' => ∃ v L, o = .returned v ∧ Q_own_linit Z a1 q2 u1 h0 n0 v U'.heap L ∧ FrameEnd U o U' L ({ frames := 2, cells := 0, slots := 0, locals := 24 } : Room).cells ({ frames := 2, cells := 0, slots := 0, locals := 24 } : Room).slots) := by
  refine MetFree.of_bodySF (plainFor_of_name own_linit_pn) hisR ?_
  intro p e s m args below meth c s₁ Bd hml0 hP hK
  obtain ⟨rfl, hZ, hh⟩ := hP
  have hx := Bd.exec
  have hby := Bd.bytes
  have hml : c.maxLocals = 3 := hml0
  have hown : s.vm.findClass "java/lang/Long" = some m.cls := findClass_of_methodNamed Bd.named
  have hnm := (name_of_methodNamed Bd.named Bd.method).1
  have X0 : Stand p l e ({ frames := 2, cells := 0, slots := 0, locals := 24 } : Room) s m #[(.ref a1), (.long q2)] below meth c s₁ [] 0 0 := Stand.of_body Bd
  have e0 : s₁.heap = h0 := by rw [← hh, Bd.state]; rfl
  have N0 := Fr.nil n0
  have pp0 : ∀ t, Steps p.tables e below (s₁.setTop (mkF m 0 #[.val (.ref a1), .val (.long q2), .second] [])) t → Steps p.tables e below (s₁.setTop (entryFrame m #[(.ref a1), (.long q2)] 3)) t := fun t k => castTop (own_linit_ef m a1 q2) k
  have pp101 : ∀ t, Steps p.tables e below (s₁.setTop (mkF m 1 #[.val (.ref a1), .val (.long q2), .second] [(.ref a1)])) t → Steps p.tables e below (s₁.setTop (entryFrame m #[(.ref a1), (.long q2)] 3)) t := fun t k => pp0 t (by
    refine XS.aloadN X0.here hx rfl (hb hby own_linit_d0) rfl rfl ?_
    show Steps p.tables e below (s₁.setTop (mkF m 1 #[.val (.ref a1), .val (.long q2), .second] [(.ref a1)])) _
    exact k)
  obtain ⟨_, _, ⟨T102, L102, k102, n102⟩, -, X102, ⟨Lc102, hQ102, l102, y102, z102⟩, st102⟩ := X0.specialBack hx (y := (⟨"java/lang/Number", "<init>", "()V"⟩ : MethodName)) rfl hown (mvT hZ (hw _ (List.mem_of_getElem? (i := 59) rfl))) (mvT hZ (hw _ (List.mem_of_getElem? (i := 44) rfl))) (mvT hZ (hw _ (List.mem_of_getElem? (i := 48) rfl))) (by decide) (backOf (W := 0) (own_num l Z a0 hw [] a1 h0 n0 Z0) hZ (hw _ (List.mem_of_getElem? (i := 48) rfl)) (hw _ (List.mem_of_getElem? (i := 47) rfl)) (by decide) (by decide)) (g := (mkF m 1 #[.val (.ref a1), .val (.long q2), .second] [(.ref a1)])) rfl (by rw [hml]; rfl) (Steps.refl _) (a := a1) (argsL := []) (rest := []) (lenOf pd___V rfl) rfl (by show 2 * 0 + _ ≤ _; exact Nat.le_of_eq rfl) (hb hby own_linit_d1) (fun _ _ => ⟨rfl, e0, (by decide : 0 + 0 ≤ _), (by decide : 0 + 0 ≤ _)⟩)
  dsimp only [Pt.U, Pt.locs, Pt.cells, Pt.slots] at X102 l102 y102 z102 st102 hQ102
  subst l102 y102 z102
  obtain ⟨rfl, N102q, s102⟩ := hQ102
  have N102 := Fr.app N0 N102q
  have pp103 : ∀ t, Steps p.tables e below (T102.setTop (mkF m 4 #[.val (.ref a1), .val (.long q2), .second] [])) t → Steps p.tables e below (s₁.setTop (entryFrame m #[(.ref a1), (.long q2)] 3)) t := fun t k => pp101 t (st102.trans k)
  have pp104 : ∀ t, Steps p.tables e below (T102.setTop (mkF m 6 #[.val (.ref a1), .val (.long q2), .second] [(.long q2), (.ref a1)])) t → Steps p.tables e below (s₁.setTop (entryFrame m #[(.ref a1), (.long q2)] 3)) t := fun t k => pp103 t (by
    refine XS.aloadN X102.here hx rfl (hb hby own_linit_d4) rfl rfl ?_
    show Steps p.tables e below (T102.setTop (mkF m 5 #[.val (.ref a1), .val (.long q2), .second] [(.ref a1)])) _
    refine XS.lloadN X102.here hx rfl (hb hby own_linit_d5) rfl ?_
    show Steps p.tables e below (T102.setTop (mkF m 6 #[.val (.ref a1), .val (.long q2), .second] [(.long q2), (.ref a1)])) _
    exact k)
  obtain ⟨T105, h105, X105, e105, W105, st105⟩ := putF X102 hx hZ hown (host := "") (Or.inl (hw _ (List.mem_of_getElem? (i := 61) rfl))) Via.refl s102 F1 E1 (Or.inr ⟨(hw _ (List.mem_of_getElem? (i := 62) rfl)), rfl, hnm⟩) (hw _ (List.mem_of_getElem? (i := 54) rfl)) (ty := .long) (by decide) rfl rfl (g := (mkF m 6 #[.val (.ref a1), .val (.long q2), .second] [(.long q2), (.ref a1)])) rfl rfl (hb hby own_linit_d6)
  have Fw105 := F1.same W105
  have N105 := Fr.snoc X105 N102 g_a1
  have pp106 : ∀ t, Steps p.tables e below (T105.setTop (mkF m 9 #[.val (.ref a1), .val (.long q2), .second] [])) t → Steps p.tables e below (s₁.setTop (entryFrame m #[(.ref a1), (.long q2)] 3)) t := fun t k => pp104 t (st105 t k)
  obtain ⟨fs, hr, hrun, hended, hW, hsame⟩ := X105.leave (v := none) (fun _ => rfl)
  refine ⟨_, _, pp106 _ ?_, hrun, hended, _, _, rfl, ?_, ⟨_, rfl⟩, hW, hsame.mono (by decide) (by decide)⟩
  · exact X105.returnOut hx Bd.returns (hb hby own_linit_d9) hr
  · show Q_own_linit Z a1 q2 u1 h0 n0 _ T105.heap _
    rw [e105]
    exact ⟨rfl, N105, ((Keep.refl h0 [a1]).wr W105 (Or.inl (List.mem_of_getElem? (i := 0) rfl))), (E1.wr W105)⟩
theorem own_iinit_d0 : decode jdk_33_method_23_code 0 = .ok (.aload_n 0, 1) := by decide +kernel
theorem own_iinit_d1 : decode jdk_33_method_23_code 1 = .ok (.invokespecial 202, 3) := by decide +kernel
theorem own_iinit_d4 : decode jdk_33_method_23_code 4 = .ok (.aload_n 0, 1) := by decide +kernel
theorem own_iinit_d5 : decode jdk_33_method_23_code 5 = .ok (.iload_n 1, 1) := by decide +kernel
theorem own_iinit_d6 : decode jdk_33_method_23_code 6 = .ok (.putfield 205, 3) := by decide +kernel
theorem own_iinit_d9 : decode jdk_33_method_23_code 9 = .ok (.return_, 1) := by decide +kernel
theorem own_iinit_pn : plainName "java/lang/Integer" = true := by first | (simp [plainName, overriddenIn]; done) | decide +kernel
theorem own_iinit_ef (m : MethodId) (x0 : Addr) (x1 : Int32) : entryFrame m #[(.ref x0), (.int x1)] 2 = mkF m 0 #[.val (.ref x0), .val (.int x1)] [] := by first | (simp [entryFrame, mkF, argsToLocals, Value.category]; done) | rfl
def Q_own_iinit (Z : State) (a1 : Addr) (q2 : Int32) (u1 : Value) (h0 : Heap) (n0 : Nat) (v : Option Value) (h : Heap) (L : List Loc) : Prop := v = none ∧ Fr n0 L ∧ Keep h0 h [a1] ∧ Exa Z h a1 "java/lang/Integer"
set_option maxRecDepth 65536 in
set_option maxHeartbeats 40000000 in
theorem own_iinit (l : Launch) (Z : State) (a0 : Array Value) (hw : ∀ d ∈ tables_1, d.before a0 Z = true) (ws : List Jvm.Cond) (a1 : Addr) (q2 : Int32) (u1 : Value) (h0 : Heap) (n0 : Nat) (Z0 : n0 ≤ h0.size) (E1 : Exa Z h0 a1 "java/lang/Integer") (F1 : Fld Z h0 a1 "java/lang/Integer" "value" "I" u1) (g_a1 : n0 ≤ a1) :
    MetFree l (⟨"java/lang/Integer", "<init>", "(I)V"⟩ : MethodName) (head1 (Jvm.Cond.code (⟨"java/lang/Integer", "<init>", "(I)V"⟩ : MethodName) jdk_33_method_23_code 2 none :: ws) ({ frames := 2, cells := 0, slots := 0, locals := 24 } : Room)) (fun a U => a = #[(.ref a1), (.int q2)] ∧ Z.Warmed39 U.vm ∧ U.heap = h0) (fun _ _ _ _ _ => True) (fun _ U o U' => ∃ v L, o = .returned v ∧ Q_own_iinit Z a1 q2 u1 h0 n0 v U'.heap L ∧ FrameEnd U o U' L ({ frames := 2, cells := 0, slots := 0, locals := 24 } : Room).cells ({ frames := 2, cells := 0, slots := 0, locals := 24 } : Room).slots) := by
  refine MetFree.of_bodySF (plainFor_of_name own_iinit_pn) hisR ?_
  intro p e s m args below meth c s₁ Bd hml0 hP hK
  obtain ⟨rfl, hZ, hh⟩ := hP
  have hx := Bd.exec
  have hby := Bd.bytes
  have hml : c.maxLocals = 2 := hml0
  have hown : s.vm.findClass "java/lang/Integer" = some m.cls := findClass_of_methodNamed Bd.named
  have hnm := (name_of_methodNamed Bd.named Bd.method).1
  have X0 : Stand p l e ({ frames := 2, cells := 0, slots := 0, locals := 24 } : Room) s m #[(.ref a1), (.int q2)] below meth c s₁ [] 0 0 := Stand.of_body Bd
  have e0 : s₁.heap = h0 := by rw [← hh, Bd.state]; rfl
  have N0 := Fr.nil n0
  have pp0 : ∀ t, Steps p.tables e below (s₁.setTop (mkF m 0 #[.val (.ref a1), .val (.int q2)] [])) t → Steps p.tables e below (s₁.setTop (entryFrame m #[(.ref a1), (.int q2)] 2)) t := fun t k => castTop (own_iinit_ef m a1 q2) k
  have pp101 : ∀ t, Steps p.tables e below (s₁.setTop (mkF m 1 #[.val (.ref a1), .val (.int q2)] [(.ref a1)])) t → Steps p.tables e below (s₁.setTop (entryFrame m #[(.ref a1), (.int q2)] 2)) t := fun t k => pp0 t (by
    refine XS.aloadN X0.here hx rfl (hb hby own_iinit_d0) rfl rfl ?_
    show Steps p.tables e below (s₁.setTop (mkF m 1 #[.val (.ref a1), .val (.int q2)] [(.ref a1)])) _
    exact k)
  obtain ⟨_, _, ⟨T102, L102, k102, n102⟩, -, X102, ⟨Lc102, hQ102, l102, y102, z102⟩, st102⟩ := X0.specialBack hx (y := (⟨"java/lang/Number", "<init>", "()V"⟩ : MethodName)) rfl hown (mvT hZ (hw _ (List.mem_of_getElem? (i := 43) rfl))) (mvT hZ (hw _ (List.mem_of_getElem? (i := 44) rfl))) (mvT hZ (hw _ (List.mem_of_getElem? (i := 48) rfl))) (by decide) (backOf (W := 0) (own_num l Z a0 hw [] a1 h0 n0 Z0) hZ (hw _ (List.mem_of_getElem? (i := 48) rfl)) (hw _ (List.mem_of_getElem? (i := 47) rfl)) (by decide) (by decide)) (g := (mkF m 1 #[.val (.ref a1), .val (.int q2)] [(.ref a1)])) rfl (by rw [hml]; rfl) (Steps.refl _) (a := a1) (argsL := []) (rest := []) (lenOf pd___V rfl) rfl (by show 2 * 0 + _ ≤ _; exact Nat.le_of_eq rfl) (hb hby own_iinit_d1) (fun _ _ => ⟨rfl, e0, (by decide : 0 + 0 ≤ _), (by decide : 0 + 0 ≤ _)⟩)
  dsimp only [Pt.U, Pt.locs, Pt.cells, Pt.slots] at X102 l102 y102 z102 st102 hQ102
  subst l102 y102 z102
  obtain ⟨rfl, N102q, s102⟩ := hQ102
  have N102 := Fr.app N0 N102q
  have pp103 : ∀ t, Steps p.tables e below (T102.setTop (mkF m 4 #[.val (.ref a1), .val (.int q2)] [])) t → Steps p.tables e below (s₁.setTop (entryFrame m #[(.ref a1), (.int q2)] 2)) t := fun t k => pp101 t (st102.trans k)
  have pp104 : ∀ t, Steps p.tables e below (T102.setTop (mkF m 6 #[.val (.ref a1), .val (.int q2)] [(.int q2), (.ref a1)])) t → Steps p.tables e below (s₁.setTop (entryFrame m #[(.ref a1), (.int q2)] 2)) t := fun t k => pp103 t (by
    refine XS.aloadN X102.here hx rfl (hb hby own_iinit_d4) rfl rfl ?_
    show Steps p.tables e below (T102.setTop (mkF m 5 #[.val (.ref a1), .val (.int q2)] [(.ref a1)])) _
    refine XS.iloadN X102.here hx rfl (hb hby own_iinit_d5) rfl ?_
    show Steps p.tables e below (T102.setTop (mkF m 6 #[.val (.ref a1), .val (.int q2)] [(.int q2), (.ref a1)])) _
    exact k)
  obtain ⟨T105, h105, X105, e105, W105, st105⟩ := putF X102 hx hZ hown (host := "") (Or.inl (hw _ (List.mem_of_getElem? (i := 50) rfl))) Via.refl s102 F1 E1 (Or.inr ⟨(hw _ (List.mem_of_getElem? (i := 51) rfl)), rfl, hnm⟩) (hw _ (List.mem_of_getElem? (i := 38) rfl)) (ty := .int) (by decide) rfl rfl (g := (mkF m 6 #[.val (.ref a1), .val (.int q2)] [(.int q2), (.ref a1)])) rfl rfl (hb hby own_iinit_d6)
  have Fw105 := F1.same W105
  have N105 := Fr.snoc X105 N102 g_a1
  have pp106 : ∀ t, Steps p.tables e below (T105.setTop (mkF m 9 #[.val (.ref a1), .val (.int q2)] [])) t → Steps p.tables e below (s₁.setTop (entryFrame m #[(.ref a1), (.int q2)] 2)) t := fun t k => pp104 t (st105 t k)
  obtain ⟨fs, hr, hrun, hended, hW, hsame⟩ := X105.leave (v := none) (fun _ => rfl)
  refine ⟨_, _, pp106 _ ?_, hrun, hended, _, _, rfl, ?_, ⟨_, rfl⟩, hW, hsame.mono (by decide) (by decide)⟩
  · exact X105.returnOut hx Bd.returns (hb hby own_iinit_d9) hr
  · show Q_own_iinit Z a1 q2 u1 h0 n0 _ T105.heap _
    rw [e105]
    exact ⟨rfl, N105, ((Keep.refl h0 [a1]).wr W105 (Or.inl (List.mem_of_getElem? (i := 0) rfl))), (E1.wr W105)⟩
theorem own_init_d0 : decode prog_92_method_1_code 0 = .ok (.aload_n 0, 1) := by decide +kernel
theorem own_init_d1 : decode prog_92_method_1_code 1 = .ok (.invokespecial 1, 3) := by decide +kernel
theorem own_init_d4 : decode prog_92_method_1_code 4 = .ok (.aload_n 0, 1) := by decide +kernel
theorem own_init_d5 : decode prog_92_method_1_code 5 = .ok (.iload_n 1, 1) := by decide +kernel
theorem own_init_d6 : decode prog_92_method_1_code 6 = .ok (.putfield 7, 3) := by decide +kernel
theorem own_init_d9 : decode prog_92_method_1_code 9 = .ok (.aload_n 0, 1) := by decide +kernel
theorem own_init_d10 : decode prog_92_method_1_code 10 = .ok (.lload_n 2, 1) := by decide +kernel
theorem own_init_d11 : decode prog_92_method_1_code 11 = .ok (.putfield 13, 3) := by decide +kernel
theorem own_init_d14 : decode prog_92_method_1_code 14 = .ok (.return_, 1) := by decide +kernel
theorem own_init_pn : plainName "com/example/keen_broker/keenbroker/store/MessageRef" = true := by first | (simp [plainName, overriddenIn]; done) | decide +kernel
theorem own_init_ef (m : MethodId) (x0 : Addr) (x1 : Int32) (x2 : Int64) : entryFrame m #[(.ref x0), (.int x1), (.long x2)] 4 = mkF m 0 #[.val (.ref x0), .val (.int x1), .val (.long x2), .second] [] := by first | (simp [entryFrame, mkF, argsToLocals, Value.category]; done) | rfl
def Q_own_init (Z : State) (a1 : Addr) (p2 : Int32) (q3 : Int64) (u1 : Value) (u2 : Value) (h0 : Heap) (n0 : Nat) (v : Option Value) (h : Heap) (L : List Loc) : Prop := v = none ∧ Fr n0 L ∧ Keep h0 h [a1] ∧ Exa Z h a1 "com/example/keen_broker/keenbroker/store/MessageRef" ∧ Fld Z h a1 "com/example/keen_broker/keenbroker/store/MessageRef" "topicLog" "I" (.int p2) ∧ Fld Z h a1 "com/example/keen_broker/keenbroker/store/MessageRef" "sequence" "J" (.long q3)
set_option maxRecDepth 65536 in
set_option maxHeartbeats 40000000 in
theorem own_init (l : Launch) (Z : State) (a0 : Array Value) (hw : ∀ d ∈ tables_1, d.before a0 Z = true) (ws : List Jvm.Cond) (a1 : Addr) (p2 : Int32) (q3 : Int64) (u1 : Value) (u2 : Value) (h0 : Heap) (n0 : Nat) (Z0 : n0 ≤ h0.size) (E1 : Exa Z h0 a1 "com/example/keen_broker/keenbroker/store/MessageRef") (F1 : Fld Z h0 a1 "com/example/keen_broker/keenbroker/store/MessageRef" "topicLog" "I" u1) (F2 : Fld Z h0 a1 "com/example/keen_broker/keenbroker/store/MessageRef" "sequence" "J" u2) (g_a1 : n0 ≤ a1) :
    MetFree l (⟨"com/example/keen_broker/keenbroker/store/MessageRef", "<init>", "(IJ)V"⟩ : MethodName) (head1 (Jvm.Cond.code (⟨"com/example/keen_broker/keenbroker/store/MessageRef", "<init>", "(IJ)V"⟩ : MethodName) prog_92_method_1_code 4 none :: ws) ({ frames := 1, cells := 0, slots := 0, locals := 12 } : Room)) (fun a U => a = #[(.ref a1), (.int p2), (.long q3)] ∧ Z.Warmed39 U.vm ∧ U.heap = h0) (fun _ _ _ _ _ => True) (fun _ U o U' => ∃ v L, o = .returned v ∧ Q_own_init Z a1 p2 q3 u1 u2 h0 n0 v U'.heap L ∧ FrameEnd U o U' L ({ frames := 1, cells := 0, slots := 0, locals := 12 } : Room).cells ({ frames := 1, cells := 0, slots := 0, locals := 12 } : Room).slots) := by
  refine MetFree.of_bodySF (plainFor_of_name own_init_pn) hisR ?_
  intro p e s m args below meth c s₁ Bd hml0 hP hK
  obtain ⟨rfl, hZ, hh⟩ := hP
  have hx := Bd.exec
  have hby := Bd.bytes
  have hml : c.maxLocals = 4 := hml0
  have hown : s.vm.findClass "com/example/keen_broker/keenbroker/store/MessageRef" = some m.cls := findClass_of_methodNamed Bd.named
  have hnm := (name_of_methodNamed Bd.named Bd.method).1
  have X0 : Stand p l e ({ frames := 1, cells := 0, slots := 0, locals := 12 } : Room) s m #[(.ref a1), (.int p2), (.long q3)] below meth c s₁ [] 0 0 := Stand.of_body Bd
  have e0 : s₁.heap = h0 := by rw [← hh, Bd.state]; rfl
  have N0 := Fr.nil n0
  have pp0 : ∀ t, Steps p.tables e below (s₁.setTop (mkF m 0 #[.val (.ref a1), .val (.int p2), .val (.long q3), .second] [])) t → Steps p.tables e below (s₁.setTop (entryFrame m #[(.ref a1), (.int p2), (.long q3)] 4)) t := fun t k => castTop (own_init_ef m a1 p2 q3) k
  have pp101 : ∀ t, Steps p.tables e below (s₁.setTop (mkF m 1 #[.val (.ref a1), .val (.int p2), .val (.long q3), .second] [(.ref a1)])) t → Steps p.tables e below (s₁.setTop (entryFrame m #[(.ref a1), (.int p2), (.long q3)] 4)) t := fun t k => pp0 t (by
    refine XS.aloadN X0.here hx rfl (hb hby own_init_d0) rfl rfl ?_
    show Steps p.tables e below (s₁.setTop (mkF m 1 #[.val (.ref a1), .val (.int p2), .val (.long q3), .second] [(.ref a1)])) _
    exact k)
  obtain ⟨T102, X102, e102, st102⟩ := initO X0 hx hZ hown (hw _ (List.mem_of_getElem? (i := 6) rfl)) (hw _ (List.mem_of_getElem? (i := 7) rfl)) (hw _ (List.mem_of_getElem? (i := 8) rfl)) e0 (g := (mkF m 1 #[.val (.ref a1), .val (.int p2), .val (.long q3), .second] [(.ref a1)])) rfl (by rw [hml]; rfl) rfl (hb hby own_init_d1) (by decide) (W := 0) (by show 2 * 0 + _ ≤ _; exact Nat.le_of_eq rfl) (by decide)
  have pp103 : ∀ t, Steps p.tables e below (T102.setTop (mkF m 4 #[.val (.ref a1), .val (.int p2), .val (.long q3), .second] [])) t → Steps p.tables e below (s₁.setTop (entryFrame m #[(.ref a1), (.int p2), (.long q3)] 4)) t := fun t k => pp101 t (st102 t k)
  have pp104 : ∀ t, Steps p.tables e below (T102.setTop (mkF m 6 #[.val (.ref a1), .val (.int p2), .val (.long q3), .second] [(.int p2), (.ref a1)])) t → Steps p.tables e below (s₁.setTop (entryFrame m #[(.ref a1), (.int p2), (.long q3)] 4)) t := fun t k => pp103 t (by
    refine XS.aloadN X102.here hx rfl (hb hby own_init_d4) rfl rfl ?_
    show Steps p.tables e below (T102.setTop (mkF m 5 #[.val (.ref a1), .val (.int p2), .val (.long q3), .second] [(.ref a1)])) _
    refine XS.iloadN X102.here hx rfl (hb hby own_init_d5) rfl ?_
    show Steps p.tables e below (T102.setTop (mkF m 6 #[.val (.ref a1), .val (.int p2), .val (.long q3), .second] [(.int p2), (.ref a1)])) _
    exact k)
  obtain ⟨T105, h105, X105, e105, W105, st105⟩ := putF X102 hx hZ hown (host := "") (Or.inl (hw _ (List.mem_of_getElem? (i := 9) rfl))) Via.refl e102 F1 E1 (Or.inr ⟨(hw _ (List.mem_of_getElem? (i := 10) rfl)), rfl, hnm⟩) (hw _ (List.mem_of_getElem? (i := 1) rfl)) (ty := .int) (by decide) rfl rfl (g := (mkF m 6 #[.val (.ref a1), .val (.int p2), .val (.long q3), .second] [(.int p2), (.ref a1)])) rfl rfl (hb hby own_init_d6)
  have Fw105 := F1.same W105
  have N105 := Fr.snoc X105 N0 g_a1
  have pp106 : ∀ t, Steps p.tables e below (T105.setTop (mkF m 9 #[.val (.ref a1), .val (.int p2), .val (.long q3), .second] [])) t → Steps p.tables e below (s₁.setTop (entryFrame m #[(.ref a1), (.int p2), (.long q3)] 4)) t := fun t k => pp104 t (st105 t k)
  have pp107 : ∀ t, Steps p.tables e below (T105.setTop (mkF m 11 #[.val (.ref a1), .val (.int p2), .val (.long q3), .second] [(.long q3), (.ref a1)])) t → Steps p.tables e below (s₁.setTop (entryFrame m #[(.ref a1), (.int p2), (.long q3)] 4)) t := fun t k => pp106 t (by
    refine XS.aloadN X105.here hx rfl (hb hby own_init_d9) rfl rfl ?_
    show Steps p.tables e below (T105.setTop (mkF m 10 #[.val (.ref a1), .val (.int p2), .val (.long q3), .second] [(.ref a1)])) _
    refine XS.lloadN X105.here hx rfl (hb hby own_init_d10) rfl ?_
    show Steps p.tables e below (T105.setTop (mkF m 11 #[.val (.ref a1), .val (.int p2), .val (.long q3), .second] [(.long q3), (.ref a1)])) _
    exact k)
  obtain ⟨T108, h108, X108, e108, W108, st108⟩ := putF X105 hx hZ hown (host := "") (Or.inl (hw _ (List.mem_of_getElem? (i := 11) rfl))) Via.refl e105 (F2.other W105 (Or.inr (slot_ne (Or.inr (hw _ (List.mem_of_getElem? (i := 12) rfl))) (Or.inr (hw _ (List.mem_of_getElem? (i := 10) rfl))) (by decide) (t := .long) (t' := .int) (by decide) (by decide)))) (E1.wr W105) (Or.inr ⟨(hw _ (List.mem_of_getElem? (i := 12) rfl)), rfl, hnm⟩) (hw _ (List.mem_of_getElem? (i := 1) rfl)) (ty := .long) (by decide) rfl rfl (g := (mkF m 11 #[.val (.ref a1), .val (.int p2), .val (.long q3), .second] [(.long q3), (.ref a1)])) rfl rfl (hb hby own_init_d11)
  have Fw108 := (F2.other W105 (Or.inr (slot_ne (Or.inr (hw _ (List.mem_of_getElem? (i := 12) rfl))) (Or.inr (hw _ (List.mem_of_getElem? (i := 10) rfl))) (by decide) (t := .long) (t' := .int) (by decide) (by decide)))).same W108
  have N108 := Fr.snoc X108 N105 g_a1
  have pp109 : ∀ t, Steps p.tables e below (T108.setTop (mkF m 14 #[.val (.ref a1), .val (.int p2), .val (.long q3), .second] [])) t → Steps p.tables e below (s₁.setTop (entryFrame m #[(.ref a1), (.int p2), (.long q3)] 4)) t := fun t k => pp107 t (st108 t k)
  obtain ⟨fs, hr, hrun, hended, hW, hsame⟩ := X108.leave (v := none) (fun _ => rfl)
  refine ⟨_, _, pp109 _ ?_, hrun, hended, _, _, rfl, ?_, ⟨_, rfl⟩, hW, hsame.mono (by decide) (by decide)⟩
  · exact X108.returnOut hx Bd.returns (hb hby own_init_d14) hr
  · show Q_own_init Z a1 p2 q3 u1 u2 h0 n0 _ T108.heap _
    rw [e108]
    exact ⟨rfl, N108, (((Keep.refl h0 [a1]).wr W105 (Or.inl (List.mem_of_getElem? (i := 0) rfl))).wr W108 (Or.inl (List.mem_of_getElem? (i := 0) rfl))), ((E1.wr W105).wr W108), (Fw105.other W108 (Or.inr (slot_ne (Or.inr (hw _ (List.mem_of_getElem? (i := 10) rfl))) (Or.inr (hw _ (List.mem_of_getElem? (i := 12) rfl))) (by decide) (t := .int) (t' := .long) (by decide) (by decide)))), Fw108⟩
theorem own_ixL {q : Int64} (h1 : ¬ lcmpW q (-128 : Int64) < 0) (h2 : ¬ (0 : Int32) < lcmpW q (127 : Int64)) : ¬ ((q.toInt32) + (128 : Int32)) < 0 ∧ ((q.toInt32) + (128 : Int32)) < (256 : Int32) := by
  rw [lw_lt, Int64.lt_iff_toInt_lt] at h1
  rw [lw_gt, Int64.lt_iff_toInt_lt] at h2
  rw [Int32.lt_iff_toInt_lt, Int32.lt_iff_toInt_lt]
  have a := c_iadd q.toInt32 (128 : Int32); have b := c_l2i q; have r1 := rng32 (q.toInt32 + (128 : Int32)); have r2 := rng32 q.toInt32
  have e1 : (128 : Int32).toInt = 128 := by decide
  have e2 : (256 : Int32).toInt = 256 := by decide
  have e3 : (0 : Int32).toInt = 0 := by decide
  have e4 : (-128 : Int64).toInt = -128 := by decide
  have e5 : (127 : Int64).toInt = 127 := by decide
  omega
theorem own_ixI {q : Int32} (h1 : ¬ q < (-128 : Int32)) (h2 : ¬ (127 : Int32) < q) : ¬ (q + (128 : Int32)) < 0 ∧ (q + (128 : Int32)) < (256 : Int32) := by
  rw [Int32.lt_iff_toInt_lt] at h1 h2
  rw [Int32.lt_iff_toInt_lt, Int32.lt_iff_toInt_lt]
  have a := c_iadd q (128 : Int32); have r1 := rng32 (q + (128 : Int32))
  have e1 : (128 : Int32).toInt = 128 := by decide
  have e2 : (256 : Int32).toInt = 256 := by decide
  have e3 : (0 : Int32).toInt = 0 := by decide
  have e4 : (-128 : Int32).toInt = -128 := by decide
  have e5 : (127 : Int32).toInt = 127 := by decide
  omega
theorem pd__J_V : parseMethodDescriptor "(J)V" = some ⟨[.long], none⟩ := by decide +kernel
theorem own_lvo_d0 : decode jdk_35_method_24_code 0 = .ok (.sipush 128, 3) := by decide +kernel
theorem own_lvo_d3 : decode jdk_35_method_24_code 3 = .ok (.istore_n 2, 1) := by decide +kernel
theorem own_lvo_d4 : decode jdk_35_method_24_code 4 = .ok (.lload_n 0, 1) := by decide +kernel
theorem own_lvo_d5 : decode jdk_35_method_24_code 5 = .ok (.ldc2_w 230, 3) := by decide +kernel
theorem own_lvo_d8 : decode jdk_35_method_24_code 8 = .ok (.lcmp, 1) := by decide +kernel
theorem own_lvo_d9 : decode jdk_35_method_24_code 9 = .ok (.ifCond .lt 22, 3) := by decide +kernel
theorem own_lvo_d12 : decode jdk_35_method_24_code 12 = .ok (.lload_n 0, 1) := by decide +kernel
theorem own_lvo_d13 : decode jdk_35_method_24_code 13 = .ok (.ldc2_w 232, 3) := by decide +kernel
theorem own_lvo_d16 : decode jdk_35_method_24_code 16 = .ok (.lcmp, 1) := by decide +kernel
theorem own_lvo_d17 : decode jdk_35_method_24_code 17 = .ok (.ifCond .gt 14, 3) := by decide +kernel
theorem own_lvo_d20 : decode jdk_35_method_24_code 20 = .ok (.getstatic 234, 3) := by decide +kernel
theorem own_lvo_d23 : decode jdk_35_method_24_code 23 = .ok (.lload_n 0, 1) := by decide +kernel
theorem own_lvo_d24 : decode jdk_35_method_24_code 24 = .ok (.l2i, 1) := by decide +kernel
theorem own_lvo_d25 : decode jdk_35_method_24_code 25 = .ok (.sipush 128, 3) := by decide +kernel
theorem own_lvo_d28 : decode jdk_35_method_24_code 28 = .ok (.iadd, 1) := by decide +kernel
theorem own_lvo_d29 : decode jdk_35_method_24_code 29 = .ok (.aaload, 1) := by decide +kernel
theorem own_lvo_d30 : decode jdk_35_method_24_code 30 = .ok (.areturn, 1) := by decide +kernel
theorem own_lvo_d31 : decode jdk_35_method_24_code 31 = .ok (.new 1, 3) := by decide +kernel
theorem own_lvo_d34 : decode jdk_35_method_24_code 34 = .ok (.dup, 1) := by decide +kernel
theorem own_lvo_d35 : decode jdk_35_method_24_code 35 = .ok (.lload_n 0, 1) := by decide +kernel
theorem own_lvo_d36 : decode jdk_35_method_24_code 36 = .ok (.invokespecial 240, 3) := by decide +kernel
theorem own_lvo_d39 : decode jdk_35_method_24_code 39 = .ok (.areturn, 1) := by decide +kernel
theorem own_lvo_pn : plainName "java/lang/Long" = true := by first | (simp [plainName, overriddenIn]; done) | decide +kernel
theorem own_lvo_ef (m : MethodId) (x0 : Int64) : entryFrame m #[(.long x0)] 3 = mkF m 0 #[.val (.long x0), .second, .unset] [] := by first | (simp [entryFrame, mkF, argsToLocals, Value.category]; done) | rfl
def Q_own_lvo (Z : State) (q1 : Int64) (ca : Addr) (cl : Cell) (val : Int32 → Value) (h0 : Heap) (n0 : Nat) (v : Option Value) (h : Heap) (L : List Loc) : Prop := ∃ a : Addr, v = some (.ref a) ∧ Fr n0 L ∧ Keep h0 h [] ∧ Exa Z h a "java/lang/Long"
set_option maxRecDepth 65536 in
set_option maxHeartbeats 40000000 in
theorem own_lvo (l : Launch) (Z : State) (a0 : Array Value) (hw : ∀ d ∈ tables_1, d.before a0 Z = true) (ws : List Jvm.Cond) (q1 : Int64) (ca : Addr) (cl : Cell) (val : Int32 → Value) (h0 : Heap) (n0 : Nat) (Z0 : n0 ≤ h0.size) (B : Bxs Z ca cl "java/lang/Long" "J" (256 : Int32) val) (S1 : Sta Z Z.heap "java/lang/Long$LongCache" "cache" "[Ljava/lang/Long;" (.ref ca)) (O : Ext Z.heap h0) :
    MetFree l (⟨"java/lang/Long", "valueOf", "(J)Ljava/lang/Long;"⟩ : MethodName) (head1 (Jvm.Cond.code (⟨"java/lang/Long", "valueOf", "(J)Ljava/lang/Long;"⟩ : MethodName) jdk_35_method_24_code 3 (some (.object "java/lang/Long")) :: ws) ({ frames := 3, cells := 1, slots := 1, locals := 39 } : Room)) (fun a U => a = #[(.long q1)] ∧ Z.Warmed39 U.vm ∧ U.heap = h0) (fun _ _ _ _ _ => True) (fun _ U o U' => ∃ v L, o = .returned v ∧ Q_own_lvo Z q1 ca cl val h0 n0 v U'.heap L ∧ FrameEnd U o U' L ({ frames := 3, cells := 1, slots := 1, locals := 39 } : Room).cells ({ frames := 3, cells := 1, slots := 1, locals := 39 } : Room).slots) := by
  refine MetFree.of_bodySF (plainFor_of_name own_lvo_pn) hisR ?_
  intro p e s m args below meth c s₁ Bd hml0 hP hK
  obtain ⟨rfl, hZ, hh⟩ := hP
  have hx := Bd.exec
  have hby := Bd.bytes
  have hml : c.maxLocals = 3 := hml0
  have hown : s.vm.findClass "java/lang/Long" = some m.cls := findClass_of_methodNamed Bd.named
  have hnm := (name_of_methodNamed Bd.named Bd.method).1
  have X0 : Stand p l e ({ frames := 3, cells := 1, slots := 1, locals := 39 } : Room) s m #[(.long q1)] below meth c s₁ [] 0 0 := Stand.of_body Bd
  have e0 : s₁.heap = h0 := by rw [← hh, Bd.state]; rfl
  have N0 := Fr.nil n0
  have pp0 : ∀ t, Steps p.tables e below (s₁.setTop (mkF m 0 #[.val (.long q1), .second, .unset] [])) t → Steps p.tables e below (s₁.setTop (entryFrame m #[(.long q1)] 3)) t := fun t k => castTop (own_lvo_ef m q1) k
  have pp101 : ∀ t, Steps p.tables e below (s₁.setTop (mkF m 9 #[.val (.long q1), .second, .val (.int (128 : Int32))] [(.int (lcmpW q1 (-128 : Int64)))])) t → Steps p.tables e below (s₁.setTop (entryFrame m #[(.long q1)] 3)) t := fun t k => pp0 t (by
    refine XS.sipush X0.here hx rfl (hb hby own_lvo_d0) ?_
    show Steps p.tables e below (s₁.setTop (mkF m 3 #[.val (.long q1), .second, .unset] [(.int (128 : Int32))])) _
    refine XS.istoreN X0.here hx rfl (hb hby own_lvo_d3) rfl (l' := #[.val (.long q1), .second, .val (.int (128 : Int32))]) rfl ?_
    show Steps p.tables e below (s₁.setTop (mkF m 4 #[.val (.long q1), .second, .val (.int (128 : Int32))] [])) _
    refine XS.lloadN X0.here hx rfl (hb hby own_lvo_d4) rfl ?_
    show Steps p.tables e below (s₁.setTop (mkF m 5 #[.val (.long q1), .second, .val (.int (128 : Int32))] [(.long q1)])) _
    refine X0.ldc2Long hx hown (mvT hZ (hw _ (List.mem_of_getElem? (i := 24) rfl))) (g := (mkF m 5 #[.val (.long q1), .second, .val (.int (128 : Int32))] [(.long q1)])) rfl (hb hby own_lvo_d5) _ ?_
    show Steps p.tables e below (s₁.setTop (mkF m 8 #[.val (.long q1), .second, .val (.int (128 : Int32))] [(.long (-128 : Int64)), (.long q1)])) _
    refine XS.lcmp X0.here hx rfl (hb hby own_lvo_d8) rfl ?_
    show Steps p.tables e below (s₁.setTop (mkF m 9 #[.val (.long q1), .second, .val (.int (128 : Int32))] [(.int (lcmpW q1 (-128 : Int64)))])) _
    exact k)
  by_cases hc1 : (lcmpW q1 (-128 : Int64)) < (0 : Int32)
  · have pp102 : ∀ t, Steps p.tables e below (s₁.setTop (mkF m 31 #[.val (.long q1), .second, .val (.int (128 : Int32))] [])) t → Steps p.tables e below (s₁.setTop (entryFrame m #[(.long q1)] 3)) t := fun t k => pp101 t (by
      refine XS.ifYes X0.here hx rfl (pc0 := 9) (pc' := 31) rfl (hb hby own_lvo_d9) rfl ((if0 _ _).trans (tlt hc1).1) (by decide) (by decide) ?_
      show Steps p.tables e below (s₁.setTop (mkF m 31 #[.val (.long q1), .second, .val (.int (128 : Int32))] [])) _
      exact k)
    obtain ⟨T103, h103, X103, e103, E103, A103, D103, M103, st103⟩ := newO X0 hx hZ hown (hw _ (List.mem_of_getElem? (i := 53) rfl)) (hw _ (List.mem_of_getElem? (i := 54) rfl)) (hw _ (List.mem_of_getElem? (i := 22) rfl)) e0 (g := (mkF m 31 #[.val (.long q1), .second, .val (.int (128 : Int32))] [])) rfl (hb hby own_lvo_d31) (by decide) (by decide)
    obtain ⟨b103, g103⟩ : ∃ z, z = h0.size := ⟨_, rfl⟩
    rw [← g103] at A103 D103 M103 st103
    have g_b103 : n0 ≤ b103 := Nat.le_trans Z0 (Nat.le_of_eq g103.symm)
    have sz_b103 : h0.size ≤ b103 := Nat.le_trans (Keep.refl h0 []).1 (Nat.le_of_eq g103.symm)
    have F_value_b103 : Fld Z h103 b103 "java/lang/Long" "value" "J" (.long (0 : Int64)) := D103 (Or.inr (hw _ (List.mem_of_getElem? (i := 62) rfl))) (ty := .long) (by decide)
    have pp104 : ∀ t, Steps p.tables e below (T103.setTop (mkF m 34 #[.val (.long q1), .second, .val (.int (128 : Int32))] [(.ref b103)])) t → Steps p.tables e below (s₁.setTop (entryFrame m #[(.long q1)] 3)) t := fun t k => pp102 t (st103 t k)
    have pp105 : ∀ t, Steps p.tables e below (T103.setTop (mkF m 36 #[.val (.long q1), .second, .val (.int (128 : Int32))] [(.long q1), (.ref b103), (.ref b103)])) t → Steps p.tables e below (s₁.setTop (entryFrame m #[(.long q1)] 3)) t := fun t k => pp104 t (by
      refine XS.dup X103.here hx rfl (hb hby own_lvo_d34) rfl rfl ?_
      show Steps p.tables e below (T103.setTop (mkF m 35 #[.val (.long q1), .second, .val (.int (128 : Int32))] [(.ref b103), (.ref b103)])) _
      refine XS.lloadN X103.here hx rfl (hb hby own_lvo_d35) rfl ?_
      show Steps p.tables e below (T103.setTop (mkF m 36 #[.val (.long q1), .second, .val (.int (128 : Int32))] [(.long q1), (.ref b103), (.ref b103)])) _
      exact k)
    obtain ⟨_, _, ⟨T106, L106, k106, n106⟩, -, X106, ⟨Lc106, hQ106, l106, y106, z106⟩, st106⟩ := X103.specialBack hx (y := (⟨"java/lang/Long", "<init>", "(J)V"⟩ : MethodName)) rfl hown (mvT hZ (hw _ (List.mem_of_getElem? (i := 55) rfl))) (mvT hZ (hw _ (List.mem_of_getElem? (i := 56) rfl))) (mvT hZ (hw _ (List.mem_of_getElem? (i := 58) rfl))) (by decide) (backOf (W := 1) (own_linit l Z a0 hw [] b103 q1 (.long (0 : Int64)) h103 n0 (Nat.le_trans Z0 E103.1) A103 F_value_b103 g_b103) hZ (hw _ (List.mem_of_getElem? (i := 58) rfl)) (hw _ (List.mem_of_getElem? (i := 22) rfl)) (by decide) (by decide)) (g := (mkF m 36 #[.val (.long q1), .second, .val (.int (128 : Int32))] [(.long q1), (.ref b103), (.ref b103)])) rfl (by rw [hml]; rfl) (Steps.refl _) (a := b103) (argsL := [(.long q1)]) (rest := [(.ref b103)]) (lenOf pd__J_V rfl) rfl (by show 2 * 0 + _ ≤ _; exact Nat.le_of_eq rfl) (hb hby own_lvo_d36) (fun _ _ => ⟨rfl, e103, (by decide : 1 + 0 ≤ _), (by decide : 1 + 0 ≤ _)⟩)
    dsimp only [Pt.U, Pt.locs, Pt.cells, Pt.slots] at X106 l106 y106 z106 st106 hQ106
    subst l106 y106 z106
    obtain ⟨rfl, N106q, K106, EE106⟩ := hQ106
    have N106 := Fr.app N0 N106q
    have pp107 : ∀ t, Steps p.tables e below (T106.setTop (mkF m 39 #[.val (.long q1), .second, .val (.int (128 : Int32))] [(.ref b103)])) t → Steps p.tables e below (s₁.setTop (entryFrame m #[(.long q1)] 3)) t := fun t k => pp105 t (st106.trans k)
    obtain ⟨fs, hr, hrun, hended, hW, hsame⟩ := X106.leave (v := some (.ref b103)) (fun h => by rw [Bd.returns] at h; cases h)
    refine ⟨_, _, pp107 _ ?_, hrun, hended, _, _, rfl, ?_, ⟨_, rfl⟩, hW, hsame.mono (by decide) (by decide)⟩
    · exact retOut X106 hx Bd.returns rfl (Or.inr (Or.inr (Or.inr (Or.inr ⟨rfl, rfl, rfl⟩)))) (hb hby own_lvo_d39) hr
    · show Q_own_lvo Z q1 ca cl val h0 n0 _ T106.heap _
      exact ⟨b103, rfl, N106, (((Keep.refl h0 []).ext E103).trans K106 (fun x hx => by cases List.mem_singleton.mp hx; exact Or.inr sz_b103)), (A103.keep K106)⟩
  · have pp108 : ∀ t, Steps p.tables e below (s₁.setTop (mkF m 17 #[.val (.long q1), .second, .val (.int (128 : Int32))] [(.int (lcmpW q1 (127 : Int64)))])) t → Steps p.tables e below (s₁.setTop (entryFrame m #[(.long q1)] 3)) t := fun t k => pp101 t (by
      refine XS.ifNo X0.here hx rfl (hb hby own_lvo_d9) rfl ((if0 _ _).trans (flt hc1).1) ?_
      show Steps p.tables e below (s₁.setTop (mkF m 12 #[.val (.long q1), .second, .val (.int (128 : Int32))] [])) _
      refine XS.lloadN X0.here hx rfl (hb hby own_lvo_d12) rfl ?_
      show Steps p.tables e below (s₁.setTop (mkF m 13 #[.val (.long q1), .second, .val (.int (128 : Int32))] [(.long q1)])) _
      refine X0.ldc2Long hx hown (mvT hZ (hw _ (List.mem_of_getElem? (i := 25) rfl))) (g := (mkF m 13 #[.val (.long q1), .second, .val (.int (128 : Int32))] [(.long q1)])) rfl (hb hby own_lvo_d13) _ ?_
      show Steps p.tables e below (s₁.setTop (mkF m 16 #[.val (.long q1), .second, .val (.int (128 : Int32))] [(.long (127 : Int64)), (.long q1)])) _
      refine XS.lcmp X0.here hx rfl (hb hby own_lvo_d16) rfl ?_
      show Steps p.tables e below (s₁.setTop (mkF m 17 #[.val (.long q1), .second, .val (.int (128 : Int32))] [(.int (lcmpW q1 (127 : Int64)))])) _
      exact k)
    by_cases hc2 : (0 : Int32) < (lcmpW q1 (127 : Int64))
    · have pp109 : ∀ t, Steps p.tables e below (s₁.setTop (mkF m 31 #[.val (.long q1), .second, .val (.int (128 : Int32))] [])) t → Steps p.tables e below (s₁.setTop (entryFrame m #[(.long q1)] 3)) t := fun t k => pp108 t (by
        refine XS.ifYes X0.here hx rfl (pc0 := 17) (pc' := 31) rfl (hb hby own_lvo_d17) rfl ((if0 _ _).trans (tlt hc2).2.2.1) (by decide) (by decide) ?_
        show Steps p.tables e below (s₁.setTop (mkF m 31 #[.val (.long q1), .second, .val (.int (128 : Int32))] [])) _
        exact k)
      obtain ⟨T110, h110, X110, e110, E110, A110, D110, M110, st110⟩ := newO X0 hx hZ hown (hw _ (List.mem_of_getElem? (i := 53) rfl)) (hw _ (List.mem_of_getElem? (i := 54) rfl)) (hw _ (List.mem_of_getElem? (i := 22) rfl)) e0 (g := (mkF m 31 #[.val (.long q1), .second, .val (.int (128 : Int32))] [])) rfl (hb hby own_lvo_d31) (by decide) (by decide)
      obtain ⟨b110, g110⟩ : ∃ z, z = h0.size := ⟨_, rfl⟩
      rw [← g110] at A110 D110 M110 st110
      have g_b110 : n0 ≤ b110 := Nat.le_trans Z0 (Nat.le_of_eq g110.symm)
      have sz_b110 : h0.size ≤ b110 := Nat.le_trans (Keep.refl h0 []).1 (Nat.le_of_eq g110.symm)
      have F_value_b110 : Fld Z h110 b110 "java/lang/Long" "value" "J" (.long (0 : Int64)) := D110 (Or.inr (hw _ (List.mem_of_getElem? (i := 62) rfl))) (ty := .long) (by decide)
      have pp111 : ∀ t, Steps p.tables e below (T110.setTop (mkF m 34 #[.val (.long q1), .second, .val (.int (128 : Int32))] [(.ref b110)])) t → Steps p.tables e below (s₁.setTop (entryFrame m #[(.long q1)] 3)) t := fun t k => pp109 t (st110 t k)
      have pp112 : ∀ t, Steps p.tables e below (T110.setTop (mkF m 36 #[.val (.long q1), .second, .val (.int (128 : Int32))] [(.long q1), (.ref b110), (.ref b110)])) t → Steps p.tables e below (s₁.setTop (entryFrame m #[(.long q1)] 3)) t := fun t k => pp111 t (by
        refine XS.dup X110.here hx rfl (hb hby own_lvo_d34) rfl rfl ?_
        show Steps p.tables e below (T110.setTop (mkF m 35 #[.val (.long q1), .second, .val (.int (128 : Int32))] [(.ref b110), (.ref b110)])) _
        refine XS.lloadN X110.here hx rfl (hb hby own_lvo_d35) rfl ?_
        show Steps p.tables e below (T110.setTop (mkF m 36 #[.val (.long q1), .second, .val (.int (128 : Int32))] [(.long q1), (.ref b110), (.ref b110)])) _
        exact k)
      obtain ⟨_, _, ⟨T113, L113, k113, n113⟩, -, X113, ⟨Lc113, hQ113, l113, y113, z113⟩, st113⟩ := X110.specialBack hx (y := (⟨"java/lang/Long", "<init>", "(J)V"⟩ : MethodName)) rfl hown (mvT hZ (hw _ (List.mem_of_getElem? (i := 55) rfl))) (mvT hZ (hw _ (List.mem_of_getElem? (i := 56) rfl))) (mvT hZ (hw _ (List.mem_of_getElem? (i := 58) rfl))) (by decide) (backOf (W := 1) (own_linit l Z a0 hw [] b110 q1 (.long (0 : Int64)) h110 n0 (Nat.le_trans Z0 E110.1) A110 F_value_b110 g_b110) hZ (hw _ (List.mem_of_getElem? (i := 58) rfl)) (hw _ (List.mem_of_getElem? (i := 22) rfl)) (by decide) (by decide)) (g := (mkF m 36 #[.val (.long q1), .second, .val (.int (128 : Int32))] [(.long q1), (.ref b110), (.ref b110)])) rfl (by rw [hml]; rfl) (Steps.refl _) (a := b110) (argsL := [(.long q1)]) (rest := [(.ref b110)]) (lenOf pd__J_V rfl) rfl (by show 2 * 0 + _ ≤ _; exact Nat.le_of_eq rfl) (hb hby own_lvo_d36) (fun _ _ => ⟨rfl, e110, (by decide : 1 + 0 ≤ _), (by decide : 1 + 0 ≤ _)⟩)
      dsimp only [Pt.U, Pt.locs, Pt.cells, Pt.slots] at X113 l113 y113 z113 st113 hQ113
      subst l113 y113 z113
      obtain ⟨rfl, N113q, K113, EE113⟩ := hQ113
      have N113 := Fr.app N0 N113q
      have pp114 : ∀ t, Steps p.tables e below (T113.setTop (mkF m 39 #[.val (.long q1), .second, .val (.int (128 : Int32))] [(.ref b110)])) t → Steps p.tables e below (s₁.setTop (entryFrame m #[(.long q1)] 3)) t := fun t k => pp112 t (st113.trans k)
      obtain ⟨fs, hr, hrun, hended, hW, hsame⟩ := X113.leave (v := some (.ref b110)) (fun h => by rw [Bd.returns] at h; cases h)
      refine ⟨_, _, pp114 _ ?_, hrun, hended, _, _, rfl, ?_, ⟨_, rfl⟩, hW, hsame.mono (by decide) (by decide)⟩
      · exact retOut X113 hx Bd.returns rfl (Or.inr (Or.inr (Or.inr (Or.inr ⟨rfl, rfl, rfl⟩)))) (hb hby own_lvo_d39) hr
      · show Q_own_lvo Z q1 ca cl val h0 n0 _ T113.heap _
        exact ⟨b110, rfl, N113, (((Keep.refl h0 []).ext E110).trans K113 (fun x hx => by cases List.mem_singleton.mp hx; exact Or.inr sz_b110)), (A110.keep K113)⟩
    · have pp115 : ∀ t, Steps p.tables e below (s₁.setTop (mkF m 20 #[.val (.long q1), .second, .val (.int (128 : Int32))] [])) t → Steps p.tables e below (s₁.setTop (entryFrame m #[(.long q1)] 3)) t := fun t k => pp108 t (by
        refine XS.ifNo X0.here hx rfl (hb hby own_lvo_d17) rfl ((if0 _ _).trans (flt hc2).2.2.1) ?_
        show Steps p.tables e below (s₁.setTop (mkF m 20 #[.val (.long q1), .second, .val (.int (128 : Int32))] [])) _
        exact k)
      obtain ⟨T116, X116, e116, st116⟩ := getS2 X0 hx hZ hown (host := "") (Or.inl (hw _ (List.mem_of_getElem? (i := 26) rfl))) Via.refl e0 (S1.ext O) (g := (mkF m 20 #[.val (.long q1), .second, .val (.int (128 : Int32))] [])) rfl (hb hby own_lvo_d20)
      have pp117 : ∀ t, Steps p.tables e below (T116.setTop (mkF m 23 #[.val (.long q1), .second, .val (.int (128 : Int32))] [(.ref ca)])) t → Steps p.tables e below (s₁.setTop (entryFrame m #[(.long q1)] 3)) t := fun t k => pp115 t (st116 t k)
      have pp118 : ∀ t, Steps p.tables e below (T116.setTop (mkF m 29 #[.val (.long q1), .second, .val (.int (128 : Int32))] [(.int ((q1.toInt32) + (128 : Int32))), (.ref ca)])) t → Steps p.tables e below (s₁.setTop (entryFrame m #[(.long q1)] 3)) t := fun t k => pp117 t (by
        refine XS.lloadN X116.here hx rfl (hb hby own_lvo_d23) rfl ?_
        show Steps p.tables e below (T116.setTop (mkF m 24 #[.val (.long q1), .second, .val (.int (128 : Int32))] [(.long q1), (.ref ca)])) _
        refine XS.l2i X116.here hx rfl (hb hby own_lvo_d24) rfl ?_
        show Steps p.tables e below (T116.setTop (mkF m 25 #[.val (.long q1), .second, .val (.int (128 : Int32))] [(.int (q1.toInt32)), (.ref ca)])) _
        refine XS.sipush X116.here hx rfl (hb hby own_lvo_d25) ?_
        show Steps p.tables e below (T116.setTop (mkF m 28 #[.val (.long q1), .second, .val (.int (128 : Int32))] [(.int (128 : Int32)), (.int (q1.toInt32)), (.ref ca)])) _
        refine XS.iadd X116.here hx rfl (hb hby own_lvo_d28) rfl ?_
        show Steps p.tables e below (T116.setTop (mkF m 29 #[.val (.long q1), .second, .val (.int (128 : Int32))] [(.int ((q1.toInt32) + (128 : Int32))), (.ref ca)])) _
        exact k)
      obtain ⟨Ar, Sz, -⟩ := B.ext O
      have hin : ¬ (((q1.toInt32) + (128 : Int32)) < 0 ∨ cl.slots.size ≤ (((q1.toInt32) + (128 : Int32))).toNatClampNeg) := inb_of Sz (own_ixL hc1 hc2)
      obtain ⟨bx, hat, Eb, -⟩ := B.2.2.2 _ hin
      have pp119 : ∀ t, Steps p.tables e below (T116.setTop (mkF m 30 #[.val (.long q1), .second, .val (.int (128 : Int32))] [(.ref bx)])) t → Steps p.tables e below (s₁.setTop (entryFrame m #[(.long q1)] 3)) t := fun t k => pp118 t (X116.aaload hx (j := ((q1.toInt32) + (128 : Int32))) (v := .ref bx) (by rw [e116]; exact Ar.1) (State.isArrayOf_alike hZ.alike Ar.2.1) rfl Ar.2.2 hin hat (g := (mkF m 29 #[.val (.long q1), .second, .val (.int (128 : Int32))] [(.int ((q1.toInt32) + (128 : Int32))), (.ref ca)])) rfl rfl (hb hby own_lvo_d29) _ k)
      obtain ⟨fs, hr, hrun, hended, hW, hsame⟩ := X116.leave (v := some (.ref bx)) (fun h => by rw [Bd.returns] at h; cases h)
      refine ⟨_, _, pp119 _ ?_, hrun, hended, _, _, rfl, ?_, ⟨_, rfl⟩, hW, hsame.mono (by decide) (by decide)⟩
      · exact retOut X116 hx Bd.returns rfl (Or.inr (Or.inr (Or.inr (Or.inr ⟨rfl, rfl, rfl⟩)))) (hb hby own_lvo_d30) hr
      · show Q_own_lvo Z q1 ca cl val h0 n0 _ T116.heap _
        rw [e116]
        exact ⟨bx, rfl, N0, (Keep.refl h0 []), Eb.ext O⟩
theorem pd__I_V : parseMethodDescriptor "(I)V" = some ⟨[.int], none⟩ := by decide +kernel
theorem own_ivo_d0 : decode jdk_33_method_22_code 0 = .ok (.iload_n 0, 1) := by decide +kernel
theorem own_ivo_d1 : decode jdk_33_method_22_code 1 = .ok (.bipush (-128), 2) := by decide +kernel
theorem own_ivo_d3 : decode jdk_33_method_22_code 3 = .ok (.if_icmp .lt 20, 3) := by decide +kernel
theorem own_ivo_d6 : decode jdk_33_method_22_code 6 = .ok (.iload_n 0, 1) := by decide +kernel
theorem own_ivo_d7 : decode jdk_33_method_22_code 7 = .ok (.getstatic 191, 3) := by decide +kernel
theorem own_ivo_d10 : decode jdk_33_method_22_code 10 = .ok (.if_icmp .gt 13, 3) := by decide +kernel
theorem own_ivo_d13 : decode jdk_33_method_22_code 13 = .ok (.getstatic 195, 3) := by decide +kernel
theorem own_ivo_d16 : decode jdk_33_method_22_code 16 = .ok (.iload_n 0, 1) := by decide +kernel
theorem own_ivo_d17 : decode jdk_33_method_22_code 17 = .ok (.sipush 128, 3) := by decide +kernel
theorem own_ivo_d20 : decode jdk_33_method_22_code 20 = .ok (.iadd, 1) := by decide +kernel
theorem own_ivo_d21 : decode jdk_33_method_22_code 21 = .ok (.aaload, 1) := by decide +kernel
theorem own_ivo_d22 : decode jdk_33_method_22_code 22 = .ok (.areturn, 1) := by decide +kernel
theorem own_ivo_d23 : decode jdk_33_method_22_code 23 = .ok (.new 1, 3) := by decide +kernel
theorem own_ivo_d26 : decode jdk_33_method_22_code 26 = .ok (.dup, 1) := by decide +kernel
theorem own_ivo_d27 : decode jdk_33_method_22_code 27 = .ok (.iload_n 0, 1) := by decide +kernel
theorem own_ivo_d28 : decode jdk_33_method_22_code 28 = .ok (.invokespecial 199, 3) := by decide +kernel
theorem own_ivo_d31 : decode jdk_33_method_22_code 31 = .ok (.areturn, 1) := by decide +kernel
theorem own_ivo_pn : plainName "java/lang/Integer" = true := by first | (simp [plainName, overriddenIn]; done) | decide +kernel
theorem own_ivo_ef (m : MethodId) (x0 : Int32) : entryFrame m #[(.int x0)] 1 = mkF m 0 #[.val (.int x0)] [] := by first | (simp [entryFrame, mkF, argsToLocals, Value.category]; done) | rfl
def Q_own_ivo (Z : State) (q1 : Int32) (ca : Addr) (cl : Cell) (val : Int32 → Value) (h0 : Heap) (n0 : Nat) (v : Option Value) (h : Heap) (L : List Loc) : Prop := ∃ a : Addr, v = some (.ref a) ∧ Fr n0 L ∧ Keep h0 h [] ∧ Exa Z h a "java/lang/Integer"
set_option maxRecDepth 65536 in
set_option maxHeartbeats 40000000 in
theorem own_ivo (l : Launch) (Z : State) (a0 : Array Value) (hw : ∀ d ∈ tables_1, d.before a0 Z = true) (ws : List Jvm.Cond) (q1 : Int32) (ca : Addr) (cl : Cell) (val : Int32 → Value) (h0 : Heap) (n0 : Nat) (Z0 : n0 ≤ h0.size) (B : Bxs Z ca cl "java/lang/Integer" "I" (256 : Int32) val) (S1 : Sta Z Z.heap "java/lang/Integer$IntegerCache" "cache" "[Ljava/lang/Integer;" (.ref ca)) (O : Ext Z.heap h0) (S2 : Sta Z Z.heap "java/lang/Integer$IntegerCache" "high" "I" (.int (127 : Int32))) :
    MetFree l (⟨"java/lang/Integer", "valueOf", "(I)Ljava/lang/Integer;"⟩ : MethodName) (head1 (Jvm.Cond.code (⟨"java/lang/Integer", "valueOf", "(I)Ljava/lang/Integer;"⟩ : MethodName) jdk_33_method_22_code 1 (some (.object "java/lang/Integer")) :: ws) ({ frames := 3, cells := 1, slots := 1, locals := 39 } : Room)) (fun a U => a = #[(.int q1)] ∧ Z.Warmed39 U.vm ∧ U.heap = h0) (fun _ _ _ _ _ => True) (fun _ U o U' => ∃ v L, o = .returned v ∧ Q_own_ivo Z q1 ca cl val h0 n0 v U'.heap L ∧ FrameEnd U o U' L ({ frames := 3, cells := 1, slots := 1, locals := 39 } : Room).cells ({ frames := 3, cells := 1, slots := 1, locals := 39 } : Room).slots) := by
  refine MetFree.of_bodySF (plainFor_of_name own_ivo_pn) hisR ?_
  intro p e s m args below meth c s₁ Bd hml0 hP hK
  obtain ⟨rfl, hZ, hh⟩ := hP
  have hx := Bd.exec
  have hby := Bd.bytes
  have hml : c.maxLocals = 1 := hml0
  have hown : s.vm.findClass "java/lang/Integer" = some m.cls := findClass_of_methodNamed Bd.named
  have hnm := (name_of_methodNamed Bd.named Bd.method).1
  have X0 : Stand p l e ({ frames := 3, cells := 1, slots := 1, locals := 39 } : Room) s m #[(.int q1)] below meth c s₁ [] 0 0 := Stand.of_body Bd
  have e0 : s₁.heap = h0 := by rw [← hh, Bd.state]; rfl
  have N0 := Fr.nil n0
  have pp0 : ∀ t, Steps p.tables e below (s₁.setTop (mkF m 0 #[.val (.int q1)] [])) t → Steps p.tables e below (s₁.setTop (entryFrame m #[(.int q1)] 1)) t := fun t k => castTop (own_ivo_ef m q1) k
  have pp101 : ∀ t, Steps p.tables e below (s₁.setTop (mkF m 3 #[.val (.int q1)] [(.int (-128 : Int32)), (.int q1)])) t → Steps p.tables e below (s₁.setTop (entryFrame m #[(.int q1)] 1)) t := fun t k => pp0 t (by
    refine XS.iloadN X0.here hx rfl (hb hby own_ivo_d0) rfl ?_
    show Steps p.tables e below (s₁.setTop (mkF m 1 #[.val (.int q1)] [(.int q1)])) _
    refine XS.bipush X0.here hx rfl (hb hby own_ivo_d1) ?_
    show Steps p.tables e below (s₁.setTop (mkF m 3 #[.val (.int q1)] [(.int (-128 : Int32)), (.int q1)])) _
    exact k)
  by_cases hc1 : q1 < (-128 : Int32)
  · have pp102 : ∀ t, Steps p.tables e below (s₁.setTop (mkF m 23 #[.val (.int q1)] [])) t → Steps p.tables e below (s₁.setTop (entryFrame m #[(.int q1)] 1)) t := fun t k => pp101 t (by
      refine XS.icmpYes X0.here hx rfl (pc0 := 3) (pc' := 23) rfl (hb hby own_ivo_d3) rfl (tlt hc1).1 (by decide) (by decide) ?_
      show Steps p.tables e below (s₁.setTop (mkF m 23 #[.val (.int q1)] [])) _
      exact k)
    obtain ⟨T103, h103, X103, e103, E103, A103, D103, M103, st103⟩ := newO X0 hx hZ hown (hw _ (List.mem_of_getElem? (i := 37) rfl)) (hw _ (List.mem_of_getElem? (i := 38) rfl)) (hw _ (List.mem_of_getElem? (i := 33) rfl)) e0 (g := (mkF m 23 #[.val (.int q1)] [])) rfl (hb hby own_ivo_d23) (by decide) (by decide)
    obtain ⟨b103, g103⟩ : ∃ z, z = h0.size := ⟨_, rfl⟩
    rw [← g103] at A103 D103 M103 st103
    have g_b103 : n0 ≤ b103 := Nat.le_trans Z0 (Nat.le_of_eq g103.symm)
    have sz_b103 : h0.size ≤ b103 := Nat.le_trans (Keep.refl h0 []).1 (Nat.le_of_eq g103.symm)
    have F_value_b103 : Fld Z h103 b103 "java/lang/Integer" "value" "I" (.int (0 : Int32)) := D103 (Or.inr (hw _ (List.mem_of_getElem? (i := 51) rfl))) (ty := .int) (by decide)
    have pp104 : ∀ t, Steps p.tables e below (T103.setTop (mkF m 26 #[.val (.int q1)] [(.ref b103)])) t → Steps p.tables e below (s₁.setTop (entryFrame m #[(.int q1)] 1)) t := fun t k => pp102 t (st103 t k)
    have pp105 : ∀ t, Steps p.tables e below (T103.setTop (mkF m 28 #[.val (.int q1)] [(.int q1), (.ref b103), (.ref b103)])) t → Steps p.tables e below (s₁.setTop (entryFrame m #[(.int q1)] 1)) t := fun t k => pp104 t (by
      refine XS.dup X103.here hx rfl (hb hby own_ivo_d26) rfl rfl ?_
      show Steps p.tables e below (T103.setTop (mkF m 27 #[.val (.int q1)] [(.ref b103), (.ref b103)])) _
      refine XS.iloadN X103.here hx rfl (hb hby own_ivo_d27) rfl ?_
      show Steps p.tables e below (T103.setTop (mkF m 28 #[.val (.int q1)] [(.int q1), (.ref b103), (.ref b103)])) _
      exact k)
    obtain ⟨_, _, ⟨T106, L106, k106, n106⟩, -, X106, ⟨Lc106, hQ106, l106, y106, z106⟩, st106⟩ := X103.specialBack hx (y := (⟨"java/lang/Integer", "<init>", "(I)V"⟩ : MethodName)) rfl hown (mvT hZ (hw _ (List.mem_of_getElem? (i := 39) rfl))) (mvT hZ (hw _ (List.mem_of_getElem? (i := 40) rfl))) (mvT hZ (hw _ (List.mem_of_getElem? (i := 42) rfl))) (by decide) (backOf (W := 1) (own_iinit l Z a0 hw [] b103 q1 (.int (0 : Int32)) h103 n0 (Nat.le_trans Z0 E103.1) A103 F_value_b103 g_b103) hZ (hw _ (List.mem_of_getElem? (i := 42) rfl)) (hw _ (List.mem_of_getElem? (i := 33) rfl)) (by decide) (by decide)) (g := (mkF m 28 #[.val (.int q1)] [(.int q1), (.ref b103), (.ref b103)])) rfl (by rw [hml]; rfl) (Steps.refl _) (a := b103) (argsL := [(.int q1)]) (rest := [(.ref b103)]) (lenOf pd__I_V rfl) rfl (by show 2 * 0 + _ ≤ _; exact Nat.le_of_eq rfl) (hb hby own_ivo_d28) (fun _ _ => ⟨rfl, e103, (by decide : 1 + 0 ≤ _), (by decide : 1 + 0 ≤ _)⟩)
    dsimp only [Pt.U, Pt.locs, Pt.cells, Pt.slots] at X106 l106 y106 z106 st106 hQ106
    subst l106 y106 z106
    obtain ⟨rfl, N106q, K106, EE106⟩ := hQ106
    have N106 := Fr.app N0 N106q
    have pp107 : ∀ t, Steps p.tables e below (T106.setTop (mkF m 31 #[.val (.int q1)] [(.ref b103)])) t → Steps p.tables e below (s₁.setTop (entryFrame m #[(.int q1)] 1)) t := fun t k => pp105 t (st106.trans k)
    obtain ⟨fs, hr, hrun, hended, hW, hsame⟩ := X106.leave (v := some (.ref b103)) (fun h => by rw [Bd.returns] at h; cases h)
    refine ⟨_, _, pp107 _ ?_, hrun, hended, _, _, rfl, ?_, ⟨_, rfl⟩, hW, hsame.mono (by decide) (by decide)⟩
    · exact retOut X106 hx Bd.returns rfl (Or.inr (Or.inr (Or.inr (Or.inr ⟨rfl, rfl, rfl⟩)))) (hb hby own_ivo_d31) hr
    · show Q_own_ivo Z q1 ca cl val h0 n0 _ T106.heap _
      exact ⟨b103, rfl, N106, (((Keep.refl h0 []).ext E103).trans K106 (fun x hx => by cases List.mem_singleton.mp hx; exact Or.inr sz_b103)), (A103.keep K106)⟩
  · have pp108 : ∀ t, Steps p.tables e below (s₁.setTop (mkF m 7 #[.val (.int q1)] [(.int q1)])) t → Steps p.tables e below (s₁.setTop (entryFrame m #[(.int q1)] 1)) t := fun t k => pp101 t (by
      refine XS.icmpNo X0.here hx rfl (hb hby own_ivo_d3) rfl (flt hc1).1 ?_
      show Steps p.tables e below (s₁.setTop (mkF m 6 #[.val (.int q1)] [])) _
      refine XS.iloadN X0.here hx rfl (hb hby own_ivo_d6) rfl ?_
      show Steps p.tables e below (s₁.setTop (mkF m 7 #[.val (.int q1)] [(.int q1)])) _
      exact k)
    obtain ⟨T109, X109, e109, st109⟩ := getS2 X0 hx hZ hown (host := "") (Or.inl (hw _ (List.mem_of_getElem? (i := 35) rfl))) Via.refl e0 (S2.ext O) (g := (mkF m 7 #[.val (.int q1)] [(.int q1)])) rfl (hb hby own_ivo_d7)
    have pp110 : ∀ t, Steps p.tables e below (T109.setTop (mkF m 10 #[.val (.int q1)] [(.int (127 : Int32)), (.int q1)])) t → Steps p.tables e below (s₁.setTop (entryFrame m #[(.int q1)] 1)) t := fun t k => pp108 t (st109 t k)
    by_cases hc2 : (127 : Int32) < q1
    · have pp111 : ∀ t, Steps p.tables e below (T109.setTop (mkF m 23 #[.val (.int q1)] [])) t → Steps p.tables e below (s₁.setTop (entryFrame m #[(.int q1)] 1)) t := fun t k => pp110 t (by
        refine XS.icmpYes X109.here hx rfl (pc0 := 10) (pc' := 23) rfl (hb hby own_ivo_d10) rfl (tlt hc2).2.2.1 (by decide) (by decide) ?_
        show Steps p.tables e below (T109.setTop (mkF m 23 #[.val (.int q1)] [])) _
        exact k)
      obtain ⟨T112, h112, X112, e112, E112, A112, D112, M112, st112⟩ := newO X109 hx hZ hown (hw _ (List.mem_of_getElem? (i := 37) rfl)) (hw _ (List.mem_of_getElem? (i := 38) rfl)) (hw _ (List.mem_of_getElem? (i := 33) rfl)) e109 (g := (mkF m 23 #[.val (.int q1)] [])) rfl (hb hby own_ivo_d23) (by decide) (by decide)
      obtain ⟨b112, g112⟩ : ∃ z, z = h0.size := ⟨_, rfl⟩
      rw [← g112] at A112 D112 M112 st112
      have g_b112 : n0 ≤ b112 := Nat.le_trans Z0 (Nat.le_of_eq g112.symm)
      have sz_b112 : h0.size ≤ b112 := Nat.le_trans (Keep.refl h0 []).1 (Nat.le_of_eq g112.symm)
      have F_value_b112 : Fld Z h112 b112 "java/lang/Integer" "value" "I" (.int (0 : Int32)) := D112 (Or.inr (hw _ (List.mem_of_getElem? (i := 51) rfl))) (ty := .int) (by decide)
      have pp113 : ∀ t, Steps p.tables e below (T112.setTop (mkF m 26 #[.val (.int q1)] [(.ref b112)])) t → Steps p.tables e below (s₁.setTop (entryFrame m #[(.int q1)] 1)) t := fun t k => pp111 t (st112 t k)
      have pp114 : ∀ t, Steps p.tables e below (T112.setTop (mkF m 28 #[.val (.int q1)] [(.int q1), (.ref b112), (.ref b112)])) t → Steps p.tables e below (s₁.setTop (entryFrame m #[(.int q1)] 1)) t := fun t k => pp113 t (by
        refine XS.dup X112.here hx rfl (hb hby own_ivo_d26) rfl rfl ?_
        show Steps p.tables e below (T112.setTop (mkF m 27 #[.val (.int q1)] [(.ref b112), (.ref b112)])) _
        refine XS.iloadN X112.here hx rfl (hb hby own_ivo_d27) rfl ?_
        show Steps p.tables e below (T112.setTop (mkF m 28 #[.val (.int q1)] [(.int q1), (.ref b112), (.ref b112)])) _
        exact k)
      obtain ⟨_, _, ⟨T115, L115, k115, n115⟩, -, X115, ⟨Lc115, hQ115, l115, y115, z115⟩, st115⟩ := X112.specialBack hx (y := (⟨"java/lang/Integer", "<init>", "(I)V"⟩ : MethodName)) rfl hown (mvT hZ (hw _ (List.mem_of_getElem? (i := 39) rfl))) (mvT hZ (hw _ (List.mem_of_getElem? (i := 40) rfl))) (mvT hZ (hw _ (List.mem_of_getElem? (i := 42) rfl))) (by decide) (backOf (W := 1) (own_iinit l Z a0 hw [] b112 q1 (.int (0 : Int32)) h112 n0 (Nat.le_trans Z0 E112.1) A112 F_value_b112 g_b112) hZ (hw _ (List.mem_of_getElem? (i := 42) rfl)) (hw _ (List.mem_of_getElem? (i := 33) rfl)) (by decide) (by decide)) (g := (mkF m 28 #[.val (.int q1)] [(.int q1), (.ref b112), (.ref b112)])) rfl (by rw [hml]; rfl) (Steps.refl _) (a := b112) (argsL := [(.int q1)]) (rest := [(.ref b112)]) (lenOf pd__I_V rfl) rfl (by show 2 * 0 + _ ≤ _; exact Nat.le_of_eq rfl) (hb hby own_ivo_d28) (fun _ _ => ⟨rfl, e112, (by decide : 1 + 0 ≤ _), (by decide : 1 + 0 ≤ _)⟩)
      dsimp only [Pt.U, Pt.locs, Pt.cells, Pt.slots] at X115 l115 y115 z115 st115 hQ115
      subst l115 y115 z115
      obtain ⟨rfl, N115q, K115, EE115⟩ := hQ115
      have N115 := Fr.app N0 N115q
      have pp116 : ∀ t, Steps p.tables e below (T115.setTop (mkF m 31 #[.val (.int q1)] [(.ref b112)])) t → Steps p.tables e below (s₁.setTop (entryFrame m #[(.int q1)] 1)) t := fun t k => pp114 t (st115.trans k)
      obtain ⟨fs, hr, hrun, hended, hW, hsame⟩ := X115.leave (v := some (.ref b112)) (fun h => by rw [Bd.returns] at h; cases h)
      refine ⟨_, _, pp116 _ ?_, hrun, hended, _, _, rfl, ?_, ⟨_, rfl⟩, hW, hsame.mono (by decide) (by decide)⟩
      · exact retOut X115 hx Bd.returns rfl (Or.inr (Or.inr (Or.inr (Or.inr ⟨rfl, rfl, rfl⟩)))) (hb hby own_ivo_d31) hr
      · show Q_own_ivo Z q1 ca cl val h0 n0 _ T115.heap _
        exact ⟨b112, rfl, N115, (((Keep.refl h0 []).ext E112).trans K115 (fun x hx => by cases List.mem_singleton.mp hx; exact Or.inr sz_b112)), (A112.keep K115)⟩
    · have pp117 : ∀ t, Steps p.tables e below (T109.setTop (mkF m 13 #[.val (.int q1)] [])) t → Steps p.tables e below (s₁.setTop (entryFrame m #[(.int q1)] 1)) t := fun t k => pp110 t (by
        refine XS.icmpNo X109.here hx rfl (hb hby own_ivo_d10) rfl (flt hc2).2.2.1 ?_
        show Steps p.tables e below (T109.setTop (mkF m 13 #[.val (.int q1)] [])) _
        exact k)
      obtain ⟨T118, X118, e118, st118⟩ := getS2 X109 hx hZ hown (host := "") (Or.inl (hw _ (List.mem_of_getElem? (i := 63) rfl))) Via.refl e109 (S1.ext O) (g := (mkF m 13 #[.val (.int q1)] [])) rfl (hb hby own_ivo_d13)
      have pp119 : ∀ t, Steps p.tables e below (T118.setTop (mkF m 16 #[.val (.int q1)] [(.ref ca)])) t → Steps p.tables e below (s₁.setTop (entryFrame m #[(.int q1)] 1)) t := fun t k => pp117 t (st118 t k)
      have pp120 : ∀ t, Steps p.tables e below (T118.setTop (mkF m 21 #[.val (.int q1)] [(.int (q1 + (128 : Int32))), (.ref ca)])) t → Steps p.tables e below (s₁.setTop (entryFrame m #[(.int q1)] 1)) t := fun t k => pp119 t (by
        refine XS.iloadN X118.here hx rfl (hb hby own_ivo_d16) rfl ?_
        show Steps p.tables e below (T118.setTop (mkF m 17 #[.val (.int q1)] [(.int q1), (.ref ca)])) _
        refine XS.sipush X118.here hx rfl (hb hby own_ivo_d17) ?_
        show Steps p.tables e below (T118.setTop (mkF m 20 #[.val (.int q1)] [(.int (128 : Int32)), (.int q1), (.ref ca)])) _
        refine XS.iadd X118.here hx rfl (hb hby own_ivo_d20) rfl ?_
        show Steps p.tables e below (T118.setTop (mkF m 21 #[.val (.int q1)] [(.int (q1 + (128 : Int32))), (.ref ca)])) _
        exact k)
      obtain ⟨Ar, Sz, -⟩ := B.ext O
      have hin : ¬ ((q1 + (128 : Int32)) < 0 ∨ cl.slots.size ≤ ((q1 + (128 : Int32))).toNatClampNeg) := inb_of Sz (own_ixI hc1 hc2)
      obtain ⟨bx, hat, Eb, -⟩ := B.2.2.2 _ hin
      have pp121 : ∀ t, Steps p.tables e below (T118.setTop (mkF m 22 #[.val (.int q1)] [(.ref bx)])) t → Steps p.tables e below (s₁.setTop (entryFrame m #[(.int q1)] 1)) t := fun t k => pp120 t (X118.aaload hx (j := (q1 + (128 : Int32))) (v := .ref bx) (by rw [e118]; exact Ar.1) (State.isArrayOf_alike hZ.alike Ar.2.1) rfl Ar.2.2 hin hat (g := (mkF m 21 #[.val (.int q1)] [(.int (q1 + (128 : Int32))), (.ref ca)])) rfl rfl (hb hby own_ivo_d21) _ k)
      obtain ⟨fs, hr, hrun, hended, hW, hsame⟩ := X118.leave (v := some (.ref bx)) (fun h => by rw [Bd.returns] at h; cases h)
      refine ⟨_, _, pp121 _ ?_, hrun, hended, _, _, rfl, ?_, ⟨_, rfl⟩, hW, hsame.mono (by decide) (by decide)⟩
      · exact retOut X118 hx Bd.returns rfl (Or.inr (Or.inr (Or.inr (Or.inr ⟨rfl, rfl, rfl⟩)))) (hb hby own_ivo_d22) hr
      · show Q_own_ivo Z q1 ca cl val h0 n0 _ T118.heap _
        rw [e118]
        exact ⟨bx, rfl, N0, (Keep.refl h0 []), Eb.ext O⟩
theorem own_eqr_d0 : decode prog_92_method_4_code 0 = .ok (.aload_n 1, 1) := by decide +kernel
theorem own_eqr_d1 : decode prog_92_method_4_code 1 = .ok (.instanceof 8, 3) := by decide +kernel
theorem own_eqr_d4 : decode prog_92_method_4_code 4 = .ok (.ifCond .eq 35, 3) := by decide +kernel
theorem own_eqr_d7 : decode prog_92_method_4_code 7 = .ok (.aload_n 1, 1) := by decide +kernel
theorem own_eqr_d8 : decode prog_92_method_4_code 8 = .ok (.checkcast 8, 3) := by decide +kernel
theorem own_eqr_d11 : decode prog_92_method_4_code 11 = .ok (.astore_n 2, 1) := by decide +kernel
theorem own_eqr_d12 : decode prog_92_method_4_code 12 = .ok (.aload_n 2, 1) := by decide +kernel
theorem own_eqr_d13 : decode prog_92_method_4_code 13 = .ok (.getfield 7, 3) := by decide +kernel
theorem own_eqr_d16 : decode prog_92_method_4_code 16 = .ok (.aload_n 0, 1) := by decide +kernel
theorem own_eqr_d17 : decode prog_92_method_4_code 17 = .ok (.getfield 7, 3) := by decide +kernel
theorem own_eqr_d20 : decode prog_92_method_4_code 20 = .ok (.if_icmp .ne 19, 3) := by decide +kernel
theorem own_eqr_d23 : decode prog_92_method_4_code 23 = .ok (.aload_n 2, 1) := by decide +kernel
theorem own_eqr_d24 : decode prog_92_method_4_code 24 = .ok (.getfield 13, 3) := by decide +kernel
theorem own_eqr_d27 : decode prog_92_method_4_code 27 = .ok (.aload_n 0, 1) := by decide +kernel
theorem own_eqr_d28 : decode prog_92_method_4_code 28 = .ok (.getfield 13, 3) := by decide +kernel
theorem own_eqr_d31 : decode prog_92_method_4_code 31 = .ok (.lcmp, 1) := by decide +kernel
theorem own_eqr_d32 : decode prog_92_method_4_code 32 = .ok (.ifCond .ne 7, 3) := by decide +kernel
theorem own_eqr_d35 : decode prog_92_method_4_code 35 = .ok (.iconst 1, 1) := by decide +kernel
theorem own_eqr_d36 : decode prog_92_method_4_code 36 = .ok (.goto 4, 3) := by decide +kernel
theorem own_eqr_d39 : decode prog_92_method_4_code 39 = .ok (.iconst 0, 1) := by decide +kernel
theorem own_eqr_d40 : decode prog_92_method_4_code 40 = .ok (.ireturn, 1) := by decide +kernel
theorem own_eqr_pn : plainName "com/example/keen_broker/keenbroker/store/MessageRef" = true := by first | (simp [plainName, overriddenIn]; done) | decide +kernel
theorem own_eqr_ef (m : MethodId) (x0 : Addr) (x1 : Addr) : entryFrame m #[(.ref x0), (.ref x1)] 3 = mkF m 0 #[.val (.ref x0), .val (.ref x1), .unset] [] := by first | (simp [entryFrame, mkF, argsToLocals, Value.category]; done) | rfl
def Q_own_eqr (Z : State) (a1 : Addr) (a2 : Addr) (w1 : Int32) (w2 : Int64) (w3 : Int32) (w4 : Int64) (h0 : Heap) (n0 : Nat) (v : Option Value) (h : Heap) (L : List Loc) : Prop := v = some (.int (own_me w1 w2 w3 w4)) ∧ Fr n0 L ∧ h = h0
set_option maxRecDepth 65536 in
set_option maxHeartbeats 40000000 in
theorem own_eqr (l : Launch) (Z : State) (a0 : Array Value) (hw : ∀ d ∈ tables_1, d.before a0 Z = true) (ws : List Jvm.Cond) (a1 : Addr) (a2 : Addr) (w1 : Int32) (w2 : Int64) (w3 : Int32) (w4 : Int64) (h0 : Heap) (n0 : Nat) (Z0 : n0 ≤ h0.size) (Fa1t : Fld Z h0 a1 "com/example/keen_broker/keenbroker/store/MessageRef" "topicLog" "I" (.int w1)) (Fa1s : Fld Z h0 a1 "com/example/keen_broker/keenbroker/store/MessageRef" "sequence" "J" (.long w2)) (Fa2t : Fld Z h0 a2 "com/example/keen_broker/keenbroker/store/MessageRef" "topicLog" "I" (.int w3)) (Fa2s : Fld Z h0 a2 "com/example/keen_broker/keenbroker/store/MessageRef" "sequence" "J" (.long w4)) (Ea2 : Exa Z h0 a2 "com/example/keen_broker/keenbroker/store/MessageRef") :
    MetFree l (⟨"com/example/keen_broker/keenbroker/store/MessageRef", "equals", "(Ljava/lang/Object;)Z"⟩ : MethodName) (head1 (Jvm.Cond.code (⟨"com/example/keen_broker/keenbroker/store/MessageRef", "equals", "(Ljava/lang/Object;)Z"⟩ : MethodName) prog_92_method_4_code 3 (some .boolean) :: ws) ({ frames := 0, cells := 0, slots := 0, locals := 0 } : Room)) (fun a U => a = #[(.ref a1), (.ref a2)] ∧ Z.Warmed39 U.vm ∧ U.heap = h0) (fun _ _ _ _ _ => True) (fun _ U o U' => ∃ v L, o = .returned v ∧ Q_own_eqr Z a1 a2 w1 w2 w3 w4 h0 n0 v U'.heap L ∧ FrameEnd U o U' L ({ frames := 0, cells := 0, slots := 0, locals := 0 } : Room).cells ({ frames := 0, cells := 0, slots := 0, locals := 0 } : Room).slots) := by
  refine MetFree.of_bodySF (plainFor_of_name own_eqr_pn) hisR ?_
  intro p e s m args below meth c s₁ Bd hml0 hP hK
  obtain ⟨rfl, hZ, hh⟩ := hP
  have hx := Bd.exec
  have hby := Bd.bytes
  have hml : c.maxLocals = 3 := hml0
  have hown : s.vm.findClass "com/example/keen_broker/keenbroker/store/MessageRef" = some m.cls := findClass_of_methodNamed Bd.named
  have hnm := (name_of_methodNamed Bd.named Bd.method).1
  have X0 : Stand p l e ({ frames := 0, cells := 0, slots := 0, locals := 0 } : Room) s m #[(.ref a1), (.ref a2)] below meth c s₁ [] 0 0 := Stand.of_body Bd
  have e0 : s₁.heap = h0 := by rw [← hh, Bd.state]; rfl
  have N0 := Fr.nil n0
  have pp0 : ∀ t, Steps p.tables e below (s₁.setTop (mkF m 0 #[.val (.ref a1), .val (.ref a2), .unset] [])) t → Steps p.tables e below (s₁.setTop (entryFrame m #[(.ref a1), (.ref a2)] 3)) t := fun t k => castTop (own_eqr_ef m a1 a2) k
  have pp101 : ∀ t, Steps p.tables e below (s₁.setTop (mkF m 1 #[.val (.ref a1), .val (.ref a2), .unset] [(.ref a2)])) t → Steps p.tables e below (s₁.setTop (entryFrame m #[(.ref a1), (.ref a2)] 3)) t := fun t k => pp0 t (by
    refine XS.aloadN X0.here hx rfl (hb hby own_eqr_d0) rfl rfl ?_
    show Steps p.tables e below (s₁.setTop (mkF m 1 #[.val (.ref a1), .val (.ref a2), .unset] [(.ref a2)])) _
    exact k)
  obtain ⟨T102, X102, e102, st102⟩ := instY X0 hx hZ hown (hw _ (List.mem_of_getElem? (i := 18) rfl)) e0 (Ins.self Ea2) (g := (mkF m 1 #[.val (.ref a1), .val (.ref a2), .unset] [(.ref a2)])) rfl rfl (hb hby own_eqr_d1)
  have pp103 : ∀ t, Steps p.tables e below (T102.setTop (mkF m 4 #[.val (.ref a1), .val (.ref a2), .unset] [(.int (1 : Int32))])) t → Steps p.tables e below (s₁.setTop (entryFrame m #[(.ref a1), (.ref a2)] 3)) t := fun t k => pp101 t (st102 t k)
  have pp104 : ∀ t, Steps p.tables e below (T102.setTop (mkF m 8 #[.val (.ref a1), .val (.ref a2), .unset] [(.ref a2)])) t → Steps p.tables e below (s₁.setTop (entryFrame m #[(.ref a1), (.ref a2)] 3)) t := fun t k => pp103 t (by
    refine XS.ifNo X102.here hx rfl (hb hby own_eqr_d4) rfl ((if0 _ _).trans (feq (by decide : ¬ ((1 : Int32) = (0 : Int32)))).1) ?_
    show Steps p.tables e below (T102.setTop (mkF m 7 #[.val (.ref a1), .val (.ref a2), .unset] [])) _
    refine XS.aloadN X102.here hx rfl (hb hby own_eqr_d7) rfl rfl ?_
    show Steps p.tables e below (T102.setTop (mkF m 8 #[.val (.ref a1), .val (.ref a2), .unset] [(.ref a2)])) _
    exact k)
  obtain ⟨T105, X105, e105, st105⟩ := castY X102 hx hZ hown (hw _ (List.mem_of_getElem? (i := 18) rfl)) e102 (Ins.self Ea2) (g := (mkF m 8 #[.val (.ref a1), .val (.ref a2), .unset] [(.ref a2)])) rfl rfl (hb hby own_eqr_d8)
  have pp106 : ∀ t, Steps p.tables e below (T105.setTop (mkF m 11 #[.val (.ref a1), .val (.ref a2), .unset] [(.ref a2)])) t → Steps p.tables e below (s₁.setTop (entryFrame m #[(.ref a1), (.ref a2)] 3)) t := fun t k => pp104 t (st105 t k)
  have pp107 : ∀ t, Steps p.tables e below (T105.setTop (mkF m 13 #[.val (.ref a1), .val (.ref a2), .val (.ref a2)] [(.ref a2)])) t → Steps p.tables e below (s₁.setTop (entryFrame m #[(.ref a1), (.ref a2)] 3)) t := fun t k => pp106 t (by
    refine XS.astoreN X105.here hx rfl (hb hby own_eqr_d11) rfl rfl (l' := #[.val (.ref a1), .val (.ref a2), .val (.ref a2)]) rfl ?_
    show Steps p.tables e below (T105.setTop (mkF m 12 #[.val (.ref a1), .val (.ref a2), .val (.ref a2)] [])) _
    refine XS.aloadN X105.here hx rfl (hb hby own_eqr_d12) rfl rfl ?_
    show Steps p.tables e below (T105.setTop (mkF m 13 #[.val (.ref a1), .val (.ref a2), .val (.ref a2)] [(.ref a2)])) _
    exact k)
  obtain ⟨T108, X108, e108, st108⟩ := getF X105 hx hZ hown (host := "") (Or.inl (hw _ (List.mem_of_getElem? (i := 9) rfl))) Via.refl e105 Fa2t (g := (mkF m 13 #[.val (.ref a1), .val (.ref a2), .val (.ref a2)] [(.ref a2)])) rfl rfl (hb hby own_eqr_d13)
  have pp109 : ∀ t, Steps p.tables e below (T108.setTop (mkF m 16 #[.val (.ref a1), .val (.ref a2), .val (.ref a2)] [(.int w3)])) t → Steps p.tables e below (s₁.setTop (entryFrame m #[(.ref a1), (.ref a2)] 3)) t := fun t k => pp107 t (st108 t k)
  have pp110 : ∀ t, Steps p.tables e below (T108.setTop (mkF m 17 #[.val (.ref a1), .val (.ref a2), .val (.ref a2)] [(.ref a1), (.int w3)])) t → Steps p.tables e below (s₁.setTop (entryFrame m #[(.ref a1), (.ref a2)] 3)) t := fun t k => pp109 t (by
    refine XS.aloadN X108.here hx rfl (hb hby own_eqr_d16) rfl rfl ?_
    show Steps p.tables e below (T108.setTop (mkF m 17 #[.val (.ref a1), .val (.ref a2), .val (.ref a2)] [(.ref a1), (.int w3)])) _
    exact k)
  obtain ⟨T111, X111, e111, st111⟩ := getF X108 hx hZ hown (host := "") (Or.inl (hw _ (List.mem_of_getElem? (i := 9) rfl))) Via.refl e108 Fa1t (g := (mkF m 17 #[.val (.ref a1), .val (.ref a2), .val (.ref a2)] [(.ref a1), (.int w3)])) rfl rfl (hb hby own_eqr_d17)
  have pp112 : ∀ t, Steps p.tables e below (T111.setTop (mkF m 20 #[.val (.ref a1), .val (.ref a2), .val (.ref a2)] [(.int w1), (.int w3)])) t → Steps p.tables e below (s₁.setTop (entryFrame m #[(.ref a1), (.ref a2)] 3)) t := fun t k => pp110 t (st111 t k)
  by_cases hc1 : w3 = w1
  · have pp113 : ∀ t, Steps p.tables e below (T111.setTop (mkF m 24 #[.val (.ref a1), .val (.ref a2), .val (.ref a2)] [(.ref a2)])) t → Steps p.tables e below (s₁.setTop (entryFrame m #[(.ref a1), (.ref a2)] 3)) t := fun t k => pp112 t (by
      refine XS.icmpNo X111.here hx rfl (hb hby own_eqr_d20) rfl (teq hc1).2 ?_
      show Steps p.tables e below (T111.setTop (mkF m 23 #[.val (.ref a1), .val (.ref a2), .val (.ref a2)] [])) _
      refine XS.aloadN X111.here hx rfl (hb hby own_eqr_d23) rfl rfl ?_
      show Steps p.tables e below (T111.setTop (mkF m 24 #[.val (.ref a1), .val (.ref a2), .val (.ref a2)] [(.ref a2)])) _
      exact k)
    obtain ⟨T114, X114, e114, st114⟩ := getF X111 hx hZ hown (host := "") (Or.inl (hw _ (List.mem_of_getElem? (i := 11) rfl))) Via.refl e111 Fa2s (g := (mkF m 24 #[.val (.ref a1), .val (.ref a2), .val (.ref a2)] [(.ref a2)])) rfl rfl (hb hby own_eqr_d24)
    have pp115 : ∀ t, Steps p.tables e below (T114.setTop (mkF m 27 #[.val (.ref a1), .val (.ref a2), .val (.ref a2)] [(.long w4)])) t → Steps p.tables e below (s₁.setTop (entryFrame m #[(.ref a1), (.ref a2)] 3)) t := fun t k => pp113 t (st114 t k)
    have pp116 : ∀ t, Steps p.tables e below (T114.setTop (mkF m 28 #[.val (.ref a1), .val (.ref a2), .val (.ref a2)] [(.ref a1), (.long w4)])) t → Steps p.tables e below (s₁.setTop (entryFrame m #[(.ref a1), (.ref a2)] 3)) t := fun t k => pp115 t (by
      refine XS.aloadN X114.here hx rfl (hb hby own_eqr_d27) rfl rfl ?_
      show Steps p.tables e below (T114.setTop (mkF m 28 #[.val (.ref a1), .val (.ref a2), .val (.ref a2)] [(.ref a1), (.long w4)])) _
      exact k)
    obtain ⟨T117, X117, e117, st117⟩ := getF X114 hx hZ hown (host := "") (Or.inl (hw _ (List.mem_of_getElem? (i := 11) rfl))) Via.refl e114 Fa1s (g := (mkF m 28 #[.val (.ref a1), .val (.ref a2), .val (.ref a2)] [(.ref a1), (.long w4)])) rfl rfl (hb hby own_eqr_d28)
    have pp118 : ∀ t, Steps p.tables e below (T117.setTop (mkF m 31 #[.val (.ref a1), .val (.ref a2), .val (.ref a2)] [(.long w2), (.long w4)])) t → Steps p.tables e below (s₁.setTop (entryFrame m #[(.ref a1), (.ref a2)] 3)) t := fun t k => pp116 t (st117 t k)
    have pp119 : ∀ t, Steps p.tables e below (T117.setTop (mkF m 32 #[.val (.ref a1), .val (.ref a2), .val (.ref a2)] [(.int (lcmpW w4 w2))])) t → Steps p.tables e below (s₁.setTop (entryFrame m #[(.ref a1), (.ref a2)] 3)) t := fun t k => pp118 t (by
      refine XS.lcmp X117.here hx rfl (hb hby own_eqr_d31) rfl ?_
      show Steps p.tables e below (T117.setTop (mkF m 32 #[.val (.ref a1), .val (.ref a2), .val (.ref a2)] [(.int (lcmpW w4 w2))])) _
      exact k)
    by_cases hc2 : (lcmpW w4 w2) = (0 : Int32)
    · have pp120 : ∀ t, Steps p.tables e below (T117.setTop (mkF m 40 #[.val (.ref a1), .val (.ref a2), .val (.ref a2)] [(.int (1 : Int32))])) t → Steps p.tables e below (s₁.setTop (entryFrame m #[(.ref a1), (.ref a2)] 3)) t := fun t k => pp119 t (by
        refine XS.ifNo X117.here hx rfl (hb hby own_eqr_d32) rfl ((if0 _ _).trans (teq hc2).2) ?_
        show Steps p.tables e below (T117.setTop (mkF m 35 #[.val (.ref a1), .val (.ref a2), .val (.ref a2)] [])) _
        refine XS.iconst X117.here hx rfl (hb hby own_eqr_d35) ?_
        show Steps p.tables e below (T117.setTop (mkF m 36 #[.val (.ref a1), .val (.ref a2), .val (.ref a2)] [(.int (1 : Int32))])) _
        refine XS.goto X117.here hx rfl (pc0 := 36) (pc' := 40) rfl (hb hby own_eqr_d36) (by decide) (by decide) ?_
        show Steps p.tables e below (T117.setTop (mkF m 40 #[.val (.ref a1), .val (.ref a2), .val (.ref a2)] [(.int (1 : Int32))])) _
        exact k)
      obtain ⟨fs, hr, hrun, hended, hW, hsame⟩ := X117.leave (v := some (.int (1 : Int32))) (fun h => by rw [Bd.returns] at h; cases h)
      refine ⟨_, _, pp120 _ ?_, hrun, hended, _, _, rfl, ?_, ⟨_, rfl⟩, hW, hsame.mono (by decide) (by decide)⟩
      · exact retN X117 hx (t := .boolean) Bd.returns (by simp) (hb hby own_eqr_d40) hr
      · show Q_own_eqr Z a1 a2 w1 w2 w3 w4 h0 n0 _ T117.heap _
        rw [e117]
        exact ⟨by rw [own_me, if_pos hc1, if_pos hc2], N0, rfl⟩
    · have pp121 : ∀ t, Steps p.tables e below (T117.setTop (mkF m 40 #[.val (.ref a1), .val (.ref a2), .val (.ref a2)] [(.int (0 : Int32))])) t → Steps p.tables e below (s₁.setTop (entryFrame m #[(.ref a1), (.ref a2)] 3)) t := fun t k => pp119 t (by
        refine XS.ifYes X117.here hx rfl (pc0 := 32) (pc' := 39) rfl (hb hby own_eqr_d32) rfl ((if0 _ _).trans (feq hc2).2) (by decide) (by decide) ?_
        show Steps p.tables e below (T117.setTop (mkF m 39 #[.val (.ref a1), .val (.ref a2), .val (.ref a2)] [])) _
        refine XS.iconst X117.here hx rfl (hb hby own_eqr_d39) ?_
        show Steps p.tables e below (T117.setTop (mkF m 40 #[.val (.ref a1), .val (.ref a2), .val (.ref a2)] [(.int (0 : Int32))])) _
        exact k)
      obtain ⟨fs, hr, hrun, hended, hW, hsame⟩ := X117.leave (v := some (.int (0 : Int32))) (fun h => by rw [Bd.returns] at h; cases h)
      refine ⟨_, _, pp121 _ ?_, hrun, hended, _, _, rfl, ?_, ⟨_, rfl⟩, hW, hsame.mono (by decide) (by decide)⟩
      · exact retN X117 hx (t := .boolean) Bd.returns (by simp) (hb hby own_eqr_d40) hr
      · show Q_own_eqr Z a1 a2 w1 w2 w3 w4 h0 n0 _ T117.heap _
        rw [e117]
        exact ⟨by rw [own_me, if_pos hc1, if_neg hc2], N0, rfl⟩
  · have pp122 : ∀ t, Steps p.tables e below (T111.setTop (mkF m 40 #[.val (.ref a1), .val (.ref a2), .val (.ref a2)] [(.int (0 : Int32))])) t → Steps p.tables e below (s₁.setTop (entryFrame m #[(.ref a1), (.ref a2)] 3)) t := fun t k => pp112 t (by
      refine XS.icmpYes X111.here hx rfl (pc0 := 20) (pc' := 39) rfl (hb hby own_eqr_d20) rfl (feq hc1).2 (by decide) (by decide) ?_
      show Steps p.tables e below (T111.setTop (mkF m 39 #[.val (.ref a1), .val (.ref a2), .val (.ref a2)] [])) _
      refine XS.iconst X111.here hx rfl (hb hby own_eqr_d39) ?_
      show Steps p.tables e below (T111.setTop (mkF m 40 #[.val (.ref a1), .val (.ref a2), .val (.ref a2)] [(.int (0 : Int32))])) _
      exact k)
    obtain ⟨fs, hr, hrun, hended, hW, hsame⟩ := X111.leave (v := some (.int (0 : Int32))) (fun h => by rw [Bd.returns] at h; cases h)
    refine ⟨_, _, pp122 _ ?_, hrun, hended, _, _, rfl, ?_, ⟨_, rfl⟩, hW, hsame.mono (by decide) (by decide)⟩
    · exact retN X111 hx (t := .boolean) Bd.returns (by simp) (hb hby own_eqr_d40) hr
    · show Q_own_eqr Z a1 a2 w1 w2 w3 w4 h0 n0 _ T111.heap _
      rw [e111]
      exact ⟨by rw [own_me, if_neg hc1], N0, rfl⟩
theorem own_eqn_d0 : decode prog_92_method_4_code 0 = .ok (.aload_n 1, 1) := by decide +kernel
theorem own_eqn_d1 : decode prog_92_method_4_code 1 = .ok (.instanceof 8, 3) := by decide +kernel
theorem own_eqn_d4 : decode prog_92_method_4_code 4 = .ok (.ifCond .eq 35, 3) := by decide +kernel
theorem own_eqn_d39 : decode prog_92_method_4_code 39 = .ok (.iconst 0, 1) := by decide +kernel
theorem own_eqn_d40 : decode prog_92_method_4_code 40 = .ok (.ireturn, 1) := by decide +kernel
theorem own_eqn_pn : plainName "com/example/keen_broker/keenbroker/store/MessageRef" = true := by first | (simp [plainName, overriddenIn]; done) | decide +kernel
theorem own_eqn_ef (m : MethodId) (x0 : Addr) : entryFrame m #[(.ref x0), .null] 3 = mkF m 0 #[.val (.ref x0), .val .null, .unset] [] := by first | (simp [entryFrame, mkF, argsToLocals, Value.category]; done) | rfl
def Q_own_eqn (Z : State) (a1 : Addr) (h0 : Heap) (n0 : Nat) (v : Option Value) (h : Heap) (L : List Loc) : Prop := v = some (.int 0) ∧ Fr n0 L ∧ h = h0
set_option maxRecDepth 65536 in
set_option maxHeartbeats 40000000 in
theorem own_eqn (l : Launch) (Z : State) (a0 : Array Value) (hw : ∀ d ∈ tables_1, d.before a0 Z = true) (ws : List Jvm.Cond) (a1 : Addr) (h0 : Heap) (n0 : Nat) (Z0 : n0 ≤ h0.size) :
    MetFree l (⟨"com/example/keen_broker/keenbroker/store/MessageRef", "equals", "(Ljava/lang/Object;)Z"⟩ : MethodName) (head1 (Jvm.Cond.code (⟨"com/example/keen_broker/keenbroker/store/MessageRef", "equals", "(Ljava/lang/Object;)Z"⟩ : MethodName) prog_92_method_4_code 3 (some .boolean) :: ws) ({ frames := 0, cells := 0, slots := 0, locals := 0 } : Room)) (fun a U => a = #[(.ref a1), .null] ∧ Z.Warmed39 U.vm ∧ U.heap = h0) (fun _ _ _ _ _ => True) (fun _ U o U' => ∃ v L, o = .returned v ∧ Q_own_eqn Z a1 h0 n0 v U'.heap L ∧ FrameEnd U o U' L ({ frames := 0, cells := 0, slots := 0, locals := 0 } : Room).cells ({ frames := 0, cells := 0, slots := 0, locals := 0 } : Room).slots) := by
  refine MetFree.of_bodySF (plainFor_of_name own_eqn_pn) hisR ?_
  intro p e s m args below meth c s₁ Bd hml0 hP hK
  obtain ⟨rfl, hZ, hh⟩ := hP
  have hx := Bd.exec
  have hby := Bd.bytes
  have hml : c.maxLocals = 3 := hml0
  have hown : s.vm.findClass "com/example/keen_broker/keenbroker/store/MessageRef" = some m.cls := findClass_of_methodNamed Bd.named
  have hnm := (name_of_methodNamed Bd.named Bd.method).1
  have X0 : Stand p l e ({ frames := 0, cells := 0, slots := 0, locals := 0 } : Room) s m #[(.ref a1), .null] below meth c s₁ [] 0 0 := Stand.of_body Bd
  have e0 : s₁.heap = h0 := by rw [← hh, Bd.state]; rfl
  have N0 := Fr.nil n0
  have pp0 : ∀ t, Steps p.tables e below (s₁.setTop (mkF m 0 #[.val (.ref a1), .val .null, .unset] [])) t → Steps p.tables e below (s₁.setTop (entryFrame m #[(.ref a1), .null] 3)) t := fun t k => castTop (own_eqn_ef m a1) k
  have pp101 : ∀ t, Steps p.tables e below (s₁.setTop (mkF m 40 #[.val (.ref a1), .val .null, .unset] [(.int (0 : Int32))])) t → Steps p.tables e below (s₁.setTop (entryFrame m #[(.ref a1), .null] 3)) t := fun t k => pp0 t (by
    refine XS.aloadN X0.here hx rfl (hb hby own_eqn_d0) rfl rfl ?_
    show Steps p.tables e below (s₁.setTop (mkF m 1 #[.val (.ref a1), .val .null, .unset] [.null])) _
    refine X0.instanceofNull hx (g := (mkF m 1 #[.val (.ref a1), .val .null, .unset] [.null])) rfl rfl (hb hby own_eqn_d1) _ ?_
    show Steps p.tables e below (s₁.setTop (mkF m 4 #[.val (.ref a1), .val .null, .unset] [(.int (0 : Int32))])) _
    refine XS.ifYes X0.here hx rfl (pc0 := 4) (pc' := 39) rfl (hb hby own_eqn_d4) rfl ((if0 _ _).trans (teq (by decide : (0 : Int32) = (0 : Int32))).1) (by decide) (by decide) ?_
    show Steps p.tables e below (s₁.setTop (mkF m 39 #[.val (.ref a1), .val .null, .unset] [])) _
    refine XS.iconst X0.here hx rfl (hb hby own_eqn_d39) ?_
    show Steps p.tables e below (s₁.setTop (mkF m 40 #[.val (.ref a1), .val .null, .unset] [(.int (0 : Int32))])) _
    exact k)
  obtain ⟨fs, hr, hrun, hended, hW, hsame⟩ := X0.leave (v := some (.int (0 : Int32))) (fun h => by rw [Bd.returns] at h; cases h)
  refine ⟨_, _, pp101 _ ?_, hrun, hended, _, _, rfl, ?_, ⟨_, rfl⟩, hW, hsame.mono (by decide) (by decide)⟩
  · exact retN X0 hx (t := .boolean) Bd.returns (by simp) (hb hby own_eqn_d40) hr
  · show Q_own_eqn Z a1 h0 n0 _ s₁.heap _
    rw [e0]
    exact ⟨rfl, N0, rfl⟩
theorem own_eqo_d0 : decode prog_92_method_4_code 0 = .ok (.aload_n 1, 1) := by decide +kernel
theorem own_eqo_d1 : decode prog_92_method_4_code 1 = .ok (.instanceof 8, 3) := by decide +kernel
theorem own_eqo_d4 : decode prog_92_method_4_code 4 = .ok (.ifCond .eq 35, 3) := by decide +kernel
theorem own_eqo_d39 : decode prog_92_method_4_code 39 = .ok (.iconst 0, 1) := by decide +kernel
theorem own_eqo_d40 : decode prog_92_method_4_code 40 = .ok (.ireturn, 1) := by decide +kernel
theorem own_eqo_pn : plainName "com/example/keen_broker/keenbroker/store/MessageRef" = true := by first | (simp [plainName, overriddenIn]; done) | decide +kernel
theorem own_eqo_ef (m : MethodId) (x0 : Addr) (x1 : Addr) : entryFrame m #[(.ref x0), (.ref x1)] 3 = mkF m 0 #[.val (.ref x0), .val (.ref x1), .unset] [] := by first | (simp [entryFrame, mkF, argsToLocals, Value.category]; done) | rfl
def Q_own_eqo (Z : State) (a1 : Addr) (a2 : Addr) (C : String) (h0 : Heap) (n0 : Nat) (v : Option Value) (h : Heap) (L : List Loc) : Prop := v = some (.int 0) ∧ Fr n0 L ∧ h = h0
set_option maxRecDepth 65536 in
set_option maxHeartbeats 40000000 in
theorem own_eqo (l : Launch) (Z : State) (a0 : Array Value) (hw : ∀ d ∈ tables_1, d.before a0 Z = true) (ws : List Jvm.Cond) (a1 : Addr) (a2 : Addr) (C : String) (h0 : Heap) (n0 : Nat) (Z0 : n0 ≤ h0.size) (E2 : Exa Z h0 a2 C) (NA : ∃ c t, Z.vm.findClass C = some c ∧ Z.vm.findClass "com/example/keen_broker/keenbroker/store/MessageRef" = some t ∧ Z.vm.assignable c t = false) :
    MetFree l (⟨"com/example/keen_broker/keenbroker/store/MessageRef", "equals", "(Ljava/lang/Object;)Z"⟩ : MethodName) (head1 (Jvm.Cond.code (⟨"com/example/keen_broker/keenbroker/store/MessageRef", "equals", "(Ljava/lang/Object;)Z"⟩ : MethodName) prog_92_method_4_code 3 (some .boolean) :: ws) ({ frames := 0, cells := 0, slots := 0, locals := 0 } : Room)) (fun a U => a = #[(.ref a1), (.ref a2)] ∧ Z.Warmed39 U.vm ∧ U.heap = h0) (fun _ _ _ _ _ => True) (fun _ U o U' => ∃ v L, o = .returned v ∧ Q_own_eqo Z a1 a2 C h0 n0 v U'.heap L ∧ FrameEnd U o U' L ({ frames := 0, cells := 0, slots := 0, locals := 0 } : Room).cells ({ frames := 0, cells := 0, slots := 0, locals := 0 } : Room).slots) := by
  refine MetFree.of_bodySF (plainFor_of_name own_eqo_pn) hisR ?_
  intro p e s m args below meth c s₁ Bd hml0 hP hK
  obtain ⟨rfl, hZ, hh⟩ := hP
  have hx := Bd.exec
  have hby := Bd.bytes
  have hml : c.maxLocals = 3 := hml0
  have hown : s.vm.findClass "com/example/keen_broker/keenbroker/store/MessageRef" = some m.cls := findClass_of_methodNamed Bd.named
  have hnm := (name_of_methodNamed Bd.named Bd.method).1
  have X0 : Stand p l e ({ frames := 0, cells := 0, slots := 0, locals := 0 } : Room) s m #[(.ref a1), (.ref a2)] below meth c s₁ [] 0 0 := Stand.of_body Bd
  have e0 : s₁.heap = h0 := by rw [← hh, Bd.state]; rfl
  have N0 := Fr.nil n0
  have pp0 : ∀ t, Steps p.tables e below (s₁.setTop (mkF m 0 #[.val (.ref a1), .val (.ref a2), .unset] [])) t → Steps p.tables e below (s₁.setTop (entryFrame m #[(.ref a1), (.ref a2)] 3)) t := fun t k => castTop (own_eqo_ef m a1 a2) k
  have pp101 : ∀ t, Steps p.tables e below (s₁.setTop (mkF m 1 #[.val (.ref a1), .val (.ref a2), .unset] [(.ref a2)])) t → Steps p.tables e below (s₁.setTop (entryFrame m #[(.ref a1), (.ref a2)] 3)) t := fun t k => pp0 t (by
    refine XS.aloadN X0.here hx rfl (hb hby own_eqo_d0) rfl rfl ?_
    show Steps p.tables e below (s₁.setTop (mkF m 1 #[.val (.ref a1), .val (.ref a2), .unset] [(.ref a2)])) _
    exact k)
  obtain ⟨T102, X102, e102, st102⟩ := instNo X0 hx hZ hown (hw _ (List.mem_of_getElem? (i := 18) rfl)) e0 E2 NA (g := (mkF m 1 #[.val (.ref a1), .val (.ref a2), .unset] [(.ref a2)])) rfl rfl (hb hby own_eqo_d1)
  have pp103 : ∀ t, Steps p.tables e below (T102.setTop (mkF m 4 #[.val (.ref a1), .val (.ref a2), .unset] [(.int (0 : Int32))])) t → Steps p.tables e below (s₁.setTop (entryFrame m #[(.ref a1), (.ref a2)] 3)) t := fun t k => pp101 t (st102 t k)
  have pp104 : ∀ t, Steps p.tables e below (T102.setTop (mkF m 40 #[.val (.ref a1), .val (.ref a2), .unset] [(.int (0 : Int32))])) t → Steps p.tables e below (s₁.setTop (entryFrame m #[(.ref a1), (.ref a2)] 3)) t := fun t k => pp103 t (by
    refine XS.ifYes X102.here hx rfl (pc0 := 4) (pc' := 39) rfl (hb hby own_eqo_d4) rfl ((if0 _ _).trans (teq (by decide : (0 : Int32) = (0 : Int32))).1) (by decide) (by decide) ?_
    show Steps p.tables e below (T102.setTop (mkF m 39 #[.val (.ref a1), .val (.ref a2), .unset] [])) _
    refine XS.iconst X102.here hx rfl (hb hby own_eqo_d39) ?_
    show Steps p.tables e below (T102.setTop (mkF m 40 #[.val (.ref a1), .val (.ref a2), .unset] [(.int (0 : Int32))])) _
    exact k)
  obtain ⟨fs, hr, hrun, hended, hW, hsame⟩ := X102.leave (v := some (.int (0 : Int32))) (fun h => by rw [Bd.returns] at h; cases h)
  refine ⟨_, _, pp104 _ ?_, hrun, hended, _, _, rfl, ?_, ⟨_, rfl⟩, hW, hsame.mono (by decide) (by decide)⟩
  · exact retN X102 hx (t := .boolean) Bd.returns (by simp) (hb hby own_eqo_d40) hr
  · show Q_own_eqo Z a1 a2 C h0 n0 _ T102.heap _
    rw [e102]
    exact ⟨rfl, N0, rfl⟩
theorem pd__IJ_V : parseMethodDescriptor "(IJ)V" = some ⟨[.int, .long], none⟩ := by decide +kernel
theorem pd__Ljava_lang_Object__Z : parseMethodDescriptor "(Ljava/lang/Object;)Z" = some ⟨[(.object "java/lang/Object")], some .boolean⟩ := by decide +kernel
theorem pd__J_Ljava_lang_Long_ : parseMethodDescriptor "(J)Ljava/lang/Long;" = some ⟨[.long], some (.object "java/lang/Long")⟩ := by decide +kernel
theorem pd__I_Ljava_lang_Integer_ : parseMethodDescriptor "(I)Ljava/lang/Integer;" = some ⟨[.int], some (.object "java/lang/Integer")⟩ := by decide +kernel
theorem own_law_pn : plainName "com/example/keen_broker/keenbroker/store/MessageRefEqualsPinLaw" = true := by first | (simp [plainName, overriddenIn]; done) | decide +kernel
theorem own_law_ef (m : MethodId) (x0 : Int32) (x1 : Int64) (x2 : Int32) (x3 : Int64) (x4 : Int32) : entryFrame m #[(.int x0), (.long x1), (.int x2), (.long x3), (.int x4)] maxLocals = mkF m 0 #[.val (.int x0), .val (.long x1), .second, .val (.int x2), .val (.long x3), .second, .val (.int x4), .unset, .unset, .unset, .unset, .unset, .unset, .unset, .unset, .unset] [] := by first | (simp [entryFrame, mkF, argsToLocals, Value.category, maxLocals]; done) | rfl
def Q_own_law (Z : State) (p0 : Int32) (q1 : Int64) (p3 : Int32) (q4 : Int64) (p6 : Int32) (ca : Addr) (cl : Cell) (val : Int32 → Value) (cb : Addr) (cm : Cell) (val2 : Int32 → Value) (h0 : Heap) (n0 : Nat) (v : Option Value) (h : Heap) (L : List Loc) : Prop := v = some (.int 1) ∧ Fr n0 L
set_option maxRecDepth 65536 in
set_option maxHeartbeats 40000000 in
theorem own_law (l : Launch) (Z : State) (a0 : Array Value) (hw : ∀ d ∈ tables_1, d.before a0 Z = true) (ws : List Jvm.Cond) (p0 : Int32) (q1 : Int64) (p3 : Int32) (q4 : Int64) (p6 : Int32) (ca : Addr) (cl : Cell) (val : Int32 → Value) (cb : Addr) (cm : Cell) (val2 : Int32 → Value) (h0 : Heap) (n0 : Nat) (Z0 : n0 ≤ h0.size) (B1 : Bxs Z ca cl "java/lang/Long" "J" (256 : Int32) val) (S1 : Sta Z Z.heap "java/lang/Long$LongCache" "cache" "[Ljava/lang/Long;" (.ref ca)) (B2 : Bxs Z cb cm "java/lang/Integer" "I" (256 : Int32) val2) (S2 : Sta Z Z.heap "java/lang/Integer$IntegerCache" "cache" "[Ljava/lang/Integer;" (.ref cb)) (S3 : Sta Z Z.heap "java/lang/Integer$IntegerCache" "high" "I" (.int (127 : Int32))) (O : Ext Z.heap h0) :
    MetFree l x (head1 (Jvm.Cond.code x code maxLocals ret :: ws) room_1) (fun a U => a = #[(.int p0), (.long q1), (.int p3), (.long q4), (.int p6)] ∧ Z.Warmed39 U.vm ∧ U.heap = h0) (fun _ _ _ _ _ => True) (fun _ U o U' => ∃ v L, o = .returned v ∧ Q_own_law Z p0 q1 p3 q4 p6 ca cl val cb cm val2 h0 n0 v U'.heap L ∧ FrameEnd U o U' L room_1.cells room_1.slots) := by
  refine MetFree.of_bodySF (plainFor_of_name own_law_pn) hisR ?_
  intro p e s m args below meth c s₁ Bd hml0 hP hK
  obtain ⟨rfl, hZ, hh⟩ := hP
  have hx := Bd.exec
  have hby := Bd.bytes
  have hml : c.maxLocals = 16 := hml0
  have hown : s.vm.findClass "com/example/keen_broker/keenbroker/store/MessageRefEqualsPinLaw" = some m.cls := findClass_of_methodNamed Bd.named
  have hnm := (name_of_methodNamed Bd.named Bd.method).1
  have X0 : Stand p l e room_1 s m #[(.int p0), (.long q1), (.int p3), (.long q4), (.int p6)] below meth c s₁ [] 0 0 := Stand.of_body Bd
  have e0 : s₁.heap = h0 := by rw [← hh, Bd.state]; rfl
  have N0 := Fr.nil n0
  have pp0 : ∀ t, Steps p.tables e below (s₁.setTop (mkF m 0 #[.val (.int p0), .val (.long q1), .second, .val (.int p3), .val (.long q4), .second, .val (.int p6), .unset, .unset, .unset, .unset, .unset, .unset, .unset, .unset, .unset] [])) t → Steps p.tables e below (s₁.setTop (entryFrame m #[(.int p0), (.long q1), (.int p3), (.long q4), (.int p6)] maxLocals)) t := fun t k => castTop (own_law_ef m p0 q1 p3 q4 p6) k
  have pp101 : ∀ t, Steps p.tables e below (s₁.setTop (mkF m 4 #[.val (.int p0), .val (.long q1), .second, .val (.int p3), .val (.long q4), .second, .val (.int p6), .unset, .unset, .unset, .unset, .unset, .unset, .unset, .unset, .unset] [(.int (p6 &&& (1 : Int32)))])) t → Steps p.tables e below (s₁.setTop (entryFrame m #[(.int p0), (.long q1), (.int p3), (.long q4), (.int p6)] maxLocals)) t := fun t k => pp0 t (by
    refine XS.iload X0.here hx rfl (hb hby at_0) rfl ?_
    show Steps p.tables e below (s₁.setTop (mkF m 2 #[.val (.int p0), .val (.long q1), .second, .val (.int p3), .val (.long q4), .second, .val (.int p6), .unset, .unset, .unset, .unset, .unset, .unset, .unset, .unset, .unset] [(.int p6)])) _
    refine XS.iconst X0.here hx rfl (hb hby at_2) ?_
    show Steps p.tables e below (s₁.setTop (mkF m 3 #[.val (.int p0), .val (.long q1), .second, .val (.int p3), .val (.long q4), .second, .val (.int p6), .unset, .unset, .unset, .unset, .unset, .unset, .unset, .unset, .unset] [(.int (1 : Int32)), (.int p6)])) _
    refine XS.iand X0.here hx rfl (hb hby at_3) rfl ?_
    show Steps p.tables e below (s₁.setTop (mkF m 4 #[.val (.int p0), .val (.long q1), .second, .val (.int p3), .val (.long q4), .second, .val (.int p6), .unset, .unset, .unset, .unset, .unset, .unset, .unset, .unset, .unset] [(.int (p6 &&& (1 : Int32)))])) _
    exact k)
  obtain ⟨t2, T102, Lx102, X102, e102, N102, pp102⟩ : ∃ (t2 : Int32) (T' : State) (Lx : List Loc), Stand p l e room_1 s m #[(.int p0), (.long q1), (.int p3), (.long q4), (.int p6)] below meth c T' Lx 0 0 ∧ T'.heap = h0 ∧ Fr n0 Lx ∧ ∀ t, Steps p.tables e below (T'.setTop (mkF m 12 #[.val (.int p0), .val (.long q1), .second, .val (.int p3), .val (.long q4), .second, .val (.int p6), .unset, .unset, .unset, .unset, .unset, .unset, .unset, .unset, .unset] [(.int t2)])) t → Steps p.tables e below (s₁.setTop (entryFrame m #[(.int p0), (.long q1), (.int p3), (.long q4), (.int p6)] maxLocals)) t := by
    by_cases hc4 : (p6 &&& (1 : Int32)) = (0 : Int32)
    · have pp103 : ∀ t, Steps p.tables e below (s₁.setTop (mkF m 12 #[.val (.int p0), .val (.long q1), .second, .val (.int p3), .val (.long q4), .second, .val (.int p6), .unset, .unset, .unset, .unset, .unset, .unset, .unset, .unset, .unset] [(.int p3)])) t → Steps p.tables e below (s₁.setTop (entryFrame m #[(.int p0), (.long q1), (.int p3), (.long q4), (.int p6)] maxLocals)) t := fun t k => pp101 t (by
        refine XS.ifYes X0.here hx rfl (pc0 := 4) (pc' := 11) rfl (hb hby at_4) rfl ((if0 _ _).trans (teq hc4).1) (by decide) (by decide) ?_
        show Steps p.tables e below (s₁.setTop (mkF m 11 #[.val (.int p0), .val (.long q1), .second, .val (.int p3), .val (.long q4), .second, .val (.int p6), .unset, .unset, .unset, .unset, .unset, .unset, .unset, .unset, .unset] [])) _
        refine XS.iloadN X0.here hx rfl (hb hby at_11) rfl ?_
        show Steps p.tables e below (s₁.setTop (mkF m 12 #[.val (.int p0), .val (.long q1), .second, .val (.int p3), .val (.long q4), .second, .val (.int p6), .unset, .unset, .unset, .unset, .unset, .unset, .unset, .unset, .unset] [(.int p3)])) _
        exact k)
      exact ⟨p3, _, _, X0, e0, N0, pp103⟩
    · have pp104 : ∀ t, Steps p.tables e below (s₁.setTop (mkF m 12 #[.val (.int p0), .val (.long q1), .second, .val (.int p3), .val (.long q4), .second, .val (.int p6), .unset, .unset, .unset, .unset, .unset, .unset, .unset, .unset, .unset] [(.int p0)])) t → Steps p.tables e below (s₁.setTop (entryFrame m #[(.int p0), (.long q1), (.int p3), (.long q4), (.int p6)] maxLocals)) t := fun t k => pp101 t (by
        refine XS.ifNo X0.here hx rfl (hb hby at_4) rfl ((if0 _ _).trans (feq hc4).1) ?_
        show Steps p.tables e below (s₁.setTop (mkF m 7 #[.val (.int p0), .val (.long q1), .second, .val (.int p3), .val (.long q4), .second, .val (.int p6), .unset, .unset, .unset, .unset, .unset, .unset, .unset, .unset, .unset] [])) _
        refine XS.iloadN X0.here hx rfl (hb hby at_7) rfl ?_
        show Steps p.tables e below (s₁.setTop (mkF m 8 #[.val (.int p0), .val (.long q1), .second, .val (.int p3), .val (.long q4), .second, .val (.int p6), .unset, .unset, .unset, .unset, .unset, .unset, .unset, .unset, .unset] [(.int p0)])) _
        refine XS.goto X0.here hx rfl (pc0 := 8) (pc' := 12) rfl (hb hby at_8) (by decide) (by decide) ?_
        show Steps p.tables e below (s₁.setTop (mkF m 12 #[.val (.int p0), .val (.long q1), .second, .val (.int p3), .val (.long q4), .second, .val (.int p6), .unset, .unset, .unset, .unset, .unset, .unset, .unset, .unset, .unset] [(.int p0)])) _
        exact k)
      exact ⟨p0, _, _, X0, e0, N0, pp104⟩
  have pp105 : ∀ t, Steps p.tables e below (T102.setTop (mkF m 18 #[.val (.int p0), .val (.long q1), .second, .val (.int p3), .val (.long q4), .second, .val (.int p6), .val (.int t2), .unset, .unset, .unset, .unset, .unset, .unset, .unset, .unset] [(.int (p6 &&& (2 : Int32)))])) t → Steps p.tables e below (s₁.setTop (entryFrame m #[(.int p0), (.long q1), (.int p3), (.long q4), (.int p6)] maxLocals)) t := fun t k => pp102 t (by
    refine XS.istore X102.here hx rfl (hb hby at_12) rfl (l' := #[.val (.int p0), .val (.long q1), .second, .val (.int p3), .val (.long q4), .second, .val (.int p6), .val (.int t2), .unset, .unset, .unset, .unset, .unset, .unset, .unset, .unset]) rfl ?_
    show Steps p.tables e below (T102.setTop (mkF m 14 #[.val (.int p0), .val (.long q1), .second, .val (.int p3), .val (.long q4), .second, .val (.int p6), .val (.int t2), .unset, .unset, .unset, .unset, .unset, .unset, .unset, .unset] [])) _
    refine XS.iload X102.here hx rfl (hb hby at_14) rfl ?_
    show Steps p.tables e below (T102.setTop (mkF m 16 #[.val (.int p0), .val (.long q1), .second, .val (.int p3), .val (.long q4), .second, .val (.int p6), .val (.int t2), .unset, .unset, .unset, .unset, .unset, .unset, .unset, .unset] [(.int p6)])) _
    refine XS.iconst X102.here hx rfl (hb hby at_16) ?_
    show Steps p.tables e below (T102.setTop (mkF m 17 #[.val (.int p0), .val (.long q1), .second, .val (.int p3), .val (.long q4), .second, .val (.int p6), .val (.int t2), .unset, .unset, .unset, .unset, .unset, .unset, .unset, .unset] [(.int (2 : Int32)), (.int p6)])) _
    refine XS.iand X102.here hx rfl (hb hby at_17) rfl ?_
    show Steps p.tables e below (T102.setTop (mkF m 18 #[.val (.int p0), .val (.long q1), .second, .val (.int p3), .val (.long q4), .second, .val (.int p6), .val (.int t2), .unset, .unset, .unset, .unset, .unset, .unset, .unset, .unset] [(.int (p6 &&& (2 : Int32)))])) _
    exact k)
  obtain ⟨s2, T106, Lx106, X106, e106, N106, pp106⟩ : ∃ (s2 : Int64) (T' : State) (Lx : List Loc), Stand p l e room_1 s m #[(.int p0), (.long q1), (.int p3), (.long q4), (.int p6)] below meth c T' Lx 0 0 ∧ T'.heap = h0 ∧ Fr n0 Lx ∧ ∀ t, Steps p.tables e below (T'.setTop (mkF m 27 #[.val (.int p0), .val (.long q1), .second, .val (.int p3), .val (.long q4), .second, .val (.int p6), .val (.int t2), .unset, .unset, .unset, .unset, .unset, .unset, .unset, .unset] [(.long s2)])) t → Steps p.tables e below (s₁.setTop (entryFrame m #[(.int p0), (.long q1), (.int p3), (.long q4), (.int p6)] maxLocals)) t := by
    by_cases hc18 : (p6 &&& (2 : Int32)) = (0 : Int32)
    · have pp107 : ∀ t, Steps p.tables e below (T102.setTop (mkF m 27 #[.val (.int p0), .val (.long q1), .second, .val (.int p3), .val (.long q4), .second, .val (.int p6), .val (.int t2), .unset, .unset, .unset, .unset, .unset, .unset, .unset, .unset] [(.long q4)])) t → Steps p.tables e below (s₁.setTop (entryFrame m #[(.int p0), (.long q1), (.int p3), (.long q4), (.int p6)] maxLocals)) t := fun t k => pp105 t (by
        refine XS.ifYes X102.here hx rfl (pc0 := 18) (pc' := 25) rfl (hb hby at_18) rfl ((if0 _ _).trans (teq hc18).1) (by decide) (by decide) ?_
        show Steps p.tables e below (T102.setTop (mkF m 25 #[.val (.int p0), .val (.long q1), .second, .val (.int p3), .val (.long q4), .second, .val (.int p6), .val (.int t2), .unset, .unset, .unset, .unset, .unset, .unset, .unset, .unset] [])) _
        refine XS.lload X102.here hx rfl (hb hby at_25) rfl ?_
        show Steps p.tables e below (T102.setTop (mkF m 27 #[.val (.int p0), .val (.long q1), .second, .val (.int p3), .val (.long q4), .second, .val (.int p6), .val (.int t2), .unset, .unset, .unset, .unset, .unset, .unset, .unset, .unset] [(.long q4)])) _
        exact k)
      exact ⟨q4, _, _, X102, e102, N102, pp107⟩
    · have pp108 : ∀ t, Steps p.tables e below (T102.setTop (mkF m 27 #[.val (.int p0), .val (.long q1), .second, .val (.int p3), .val (.long q4), .second, .val (.int p6), .val (.int t2), .unset, .unset, .unset, .unset, .unset, .unset, .unset, .unset] [(.long q1)])) t → Steps p.tables e below (s₁.setTop (entryFrame m #[(.int p0), (.long q1), (.int p3), (.long q4), (.int p6)] maxLocals)) t := fun t k => pp105 t (by
        refine XS.ifNo X102.here hx rfl (hb hby at_18) rfl ((if0 _ _).trans (feq hc18).1) ?_
        show Steps p.tables e below (T102.setTop (mkF m 21 #[.val (.int p0), .val (.long q1), .second, .val (.int p3), .val (.long q4), .second, .val (.int p6), .val (.int t2), .unset, .unset, .unset, .unset, .unset, .unset, .unset, .unset] [])) _
        refine XS.lloadN X102.here hx rfl (hb hby at_21) rfl ?_
        show Steps p.tables e below (T102.setTop (mkF m 22 #[.val (.int p0), .val (.long q1), .second, .val (.int p3), .val (.long q4), .second, .val (.int p6), .val (.int t2), .unset, .unset, .unset, .unset, .unset, .unset, .unset, .unset] [(.long q1)])) _
        refine XS.goto X102.here hx rfl (pc0 := 22) (pc' := 27) rfl (hb hby at_22) (by decide) (by decide) ?_
        show Steps p.tables e below (T102.setTop (mkF m 27 #[.val (.int p0), .val (.long q1), .second, .val (.int p3), .val (.long q4), .second, .val (.int p6), .val (.int t2), .unset, .unset, .unset, .unset, .unset, .unset, .unset, .unset] [(.long q1)])) _
        exact k)
      exact ⟨q1, _, _, X102, e102, N102, pp108⟩
  have pp109 : ∀ t, Steps p.tables e below (T106.setTop (mkF m 29 #[.val (.int p0), .val (.long q1), .second, .val (.int p3), .val (.long q4), .second, .val (.int p6), .val (.int t2), .val (.long s2), .second, .unset, .unset, .unset, .unset, .unset, .unset] [])) t → Steps p.tables e below (s₁.setTop (entryFrame m #[(.int p0), (.long q1), (.int p3), (.long q4), (.int p6)] maxLocals)) t := fun t k => pp106 t (by
    refine XS.lstore X106.here hx rfl (hb hby at_27) rfl (l' := #[.val (.int p0), .val (.long q1), .second, .val (.int p3), .val (.long q4), .second, .val (.int p6), .val (.int t2), .val (.long s2), .second, .unset, .unset, .unset, .unset, .unset, .unset]) rfl ?_
    show Steps p.tables e below (T106.setTop (mkF m 29 #[.val (.int p0), .val (.long q1), .second, .val (.int p3), .val (.long q4), .second, .val (.int p6), .val (.int t2), .val (.long s2), .second, .unset, .unset, .unset, .unset, .unset, .unset] [])) _
    exact k)
  obtain ⟨T110, h110, X110, e110, E110, A110, D110, M110, st110⟩ := newO X106 hx hZ hown (hw _ (List.mem_of_getElem? (i := 0) rfl)) (hw _ (List.mem_of_getElem? (i := 1) rfl)) (hw _ (List.mem_of_getElem? (i := 2) rfl)) e106 (g := (mkF m 29 #[.val (.int p0), .val (.long q1), .second, .val (.int p3), .val (.long q4), .second, .val (.int p6), .val (.int t2), .val (.long s2), .second, .unset, .unset, .unset, .unset, .unset, .unset] [])) rfl (hb hby at_29) (by decide) (by decide)
  obtain ⟨b110, g110⟩ : ∃ z, z = h0.size := ⟨_, rfl⟩
  rw [← g110] at A110 D110 M110 st110
  have g_b110 : n0 ≤ b110 := Nat.le_trans Z0 (Nat.le_of_eq g110.symm)
  have sz_b110 : h0.size ≤ b110 := Nat.le_trans (Keep.refl h0 []).1 (Nat.le_of_eq g110.symm)
  have F_topicLog_b110 : Fld Z h110 b110 "com/example/keen_broker/keenbroker/store/MessageRef" "topicLog" "I" (.int (0 : Int32)) := D110 (Or.inr (hw _ (List.mem_of_getElem? (i := 10) rfl))) (ty := .int) (by decide)
  have F_sequence_b110 : Fld Z h110 b110 "com/example/keen_broker/keenbroker/store/MessageRef" "sequence" "J" (.long (0 : Int64)) := D110 (Or.inr (hw _ (List.mem_of_getElem? (i := 12) rfl))) (ty := .long) (by decide)
  have pp111 : ∀ t, Steps p.tables e below (T110.setTop (mkF m 32 #[.val (.int p0), .val (.long q1), .second, .val (.int p3), .val (.long q4), .second, .val (.int p6), .val (.int t2), .val (.long s2), .second, .unset, .unset, .unset, .unset, .unset, .unset] [(.ref b110)])) t → Steps p.tables e below (s₁.setTop (entryFrame m #[(.int p0), (.long q1), (.int p3), (.long q4), (.int p6)] maxLocals)) t := fun t k => pp109 t (st110 t k)
  have pp112 : ∀ t, Steps p.tables e below (T110.setTop (mkF m 35 #[.val (.int p0), .val (.long q1), .second, .val (.int p3), .val (.long q4), .second, .val (.int p6), .val (.int t2), .val (.long s2), .second, .unset, .unset, .unset, .unset, .unset, .unset] [(.long q1), (.int p0), (.ref b110), (.ref b110)])) t → Steps p.tables e below (s₁.setTop (entryFrame m #[(.int p0), (.long q1), (.int p3), (.long q4), (.int p6)] maxLocals)) t := fun t k => pp111 t (by
    refine XS.dup X110.here hx rfl (hb hby at_32) rfl rfl ?_
    show Steps p.tables e below (T110.setTop (mkF m 33 #[.val (.int p0), .val (.long q1), .second, .val (.int p3), .val (.long q4), .second, .val (.int p6), .val (.int t2), .val (.long s2), .second, .unset, .unset, .unset, .unset, .unset, .unset] [(.ref b110), (.ref b110)])) _
    refine XS.iloadN X110.here hx rfl (hb hby at_33) rfl ?_
    show Steps p.tables e below (T110.setTop (mkF m 34 #[.val (.int p0), .val (.long q1), .second, .val (.int p3), .val (.long q4), .second, .val (.int p6), .val (.int t2), .val (.long s2), .second, .unset, .unset, .unset, .unset, .unset, .unset] [(.int p0), (.ref b110), (.ref b110)])) _
    refine XS.lloadN X110.here hx rfl (hb hby at_34) rfl ?_
    show Steps p.tables e below (T110.setTop (mkF m 35 #[.val (.int p0), .val (.long q1), .second, .val (.int p3), .val (.long q4), .second, .val (.int p6), .val (.int t2), .val (.long s2), .second, .unset, .unset, .unset, .unset, .unset, .unset] [(.long q1), (.int p0), (.ref b110), (.ref b110)])) _
    exact k)
  obtain ⟨_, _, ⟨T113, L113, k113, n113⟩, -, X113, ⟨Lc113, hQ113, l113, y113, z113⟩, st113⟩ := X110.specialBack hx (y := (⟨"com/example/keen_broker/keenbroker/store/MessageRef", "<init>", "(IJ)V"⟩ : MethodName)) rfl hown (mvT hZ (hw _ (List.mem_of_getElem? (i := 3) rfl))) (mvT hZ (hw _ (List.mem_of_getElem? (i := 4) rfl))) (mvT hZ (hw _ (List.mem_of_getElem? (i := 5) rfl))) (by decide) (backOf (W := 1) (own_init l Z a0 hw [] b110 p0 q1 (.int (0 : Int32)) (.long (0 : Int64)) h110 n0 (Nat.le_trans Z0 E110.1) A110 F_topicLog_b110 F_sequence_b110 g_b110) hZ (hw _ (List.mem_of_getElem? (i := 5) rfl)) (hw _ (List.mem_of_getElem? (i := 2) rfl)) (by decide) (by decide)) (g := (mkF m 35 #[.val (.int p0), .val (.long q1), .second, .val (.int p3), .val (.long q4), .second, .val (.int p6), .val (.int t2), .val (.long s2), .second, .unset, .unset, .unset, .unset, .unset, .unset] [(.long q1), (.int p0), (.ref b110), (.ref b110)])) rfl (by rw [hml]; rfl) (Steps.refl _) (a := b110) (argsL := [(.int p0), (.long q1)]) (rest := [(.ref b110)]) (lenOf pd__IJ_V rfl) rfl (by show 2 * 0 + _ ≤ _; exact Nat.le_of_eq rfl) (hb hby at_35) (fun _ _ => ⟨rfl, e110, (by decide : 1 + 0 ≤ _), (by decide : 2 + 0 ≤ _)⟩)
  dsimp only [Pt.U, Pt.locs, Pt.cells, Pt.slots] at X113 l113 y113 z113 st113 hQ113
  subst l113 y113 z113
  obtain ⟨rfl, N113q, K113, EE113, Ft113, Fs113⟩ := hQ113
  have N113 := Fr.app N106 N113q
  have pp114 : ∀ t, Steps p.tables e below (T113.setTop (mkF m 38 #[.val (.int p0), .val (.long q1), .second, .val (.int p3), .val (.long q4), .second, .val (.int p6), .val (.int t2), .val (.long s2), .second, .unset, .unset, .unset, .unset, .unset, .unset] [(.ref b110)])) t → Steps p.tables e below (s₁.setTop (entryFrame m #[(.int p0), (.long q1), (.int p3), (.long q4), (.int p6)] maxLocals)) t := fun t k => pp112 t (st113.trans k)
  have pp115 : ∀ t, Steps p.tables e below (T113.setTop (mkF m 40 #[.val (.int p0), .val (.long q1), .second, .val (.int p3), .val (.long q4), .second, .val (.int p6), .val (.int t2), .val (.long s2), .second, .val (.ref b110), .unset, .unset, .unset, .unset, .unset] [])) t → Steps p.tables e below (s₁.setTop (entryFrame m #[(.int p0), (.long q1), (.int p3), (.long q4), (.int p6)] maxLocals)) t := fun t k => pp114 t (by
    refine XS.astore X113.here hx rfl (hb hby at_38) rfl rfl (l' := #[.val (.int p0), .val (.long q1), .second, .val (.int p3), .val (.long q4), .second, .val (.int p6), .val (.int t2), .val (.long s2), .second, .val (.ref b110), .unset, .unset, .unset, .unset, .unset]) rfl ?_
    show Steps p.tables e below (T113.setTop (mkF m 40 #[.val (.int p0), .val (.long q1), .second, .val (.int p3), .val (.long q4), .second, .val (.int p6), .val (.int t2), .val (.long s2), .second, .val (.ref b110), .unset, .unset, .unset, .unset, .unset] [])) _
    exact k)
  obtain ⟨T116, h116, X116, e116, E116, A116, D116, M116, st116⟩ := newO X113 hx hZ hown (hw _ (List.mem_of_getElem? (i := 0) rfl)) (hw _ (List.mem_of_getElem? (i := 1) rfl)) (hw _ (List.mem_of_getElem? (i := 2) rfl)) rfl (g := (mkF m 40 #[.val (.int p0), .val (.long q1), .second, .val (.int p3), .val (.long q4), .second, .val (.int p6), .val (.int t2), .val (.long s2), .second, .val (.ref b110), .unset, .unset, .unset, .unset, .unset] [])) rfl (hb hby at_40) (by decide) (by decide)
  obtain ⟨b116, g116⟩ : ∃ z, z = T113.heap.size := ⟨_, rfl⟩
  rw [← g116] at A116 D116 M116 st116
  have g_b116 : n0 ≤ b116 := Nat.le_trans (Nat.le_trans (Nat.le_trans Z0 E110.1) K113.1) (Nat.le_of_eq g116.symm)
  have sz_b116 : h0.size ≤ b116 := Nat.le_trans (((Keep.refl h0 []).ext E110).trans K113 (fun x hx => by cases List.mem_singleton.mp hx; exact Or.inr sz_b110)).1 (Nat.le_of_eq g116.symm)
  have F_topicLog_b116 : Fld Z h116 b116 "com/example/keen_broker/keenbroker/store/MessageRef" "topicLog" "I" (.int (0 : Int32)) := D116 (Or.inr (hw _ (List.mem_of_getElem? (i := 10) rfl))) (ty := .int) (by decide)
  have F_sequence_b116 : Fld Z h116 b116 "com/example/keen_broker/keenbroker/store/MessageRef" "sequence" "J" (.long (0 : Int64)) := D116 (Or.inr (hw _ (List.mem_of_getElem? (i := 12) rfl))) (ty := .long) (by decide)
  have pp117 : ∀ t, Steps p.tables e below (T116.setTop (mkF m 43 #[.val (.int p0), .val (.long q1), .second, .val (.int p3), .val (.long q4), .second, .val (.int p6), .val (.int t2), .val (.long s2), .second, .val (.ref b110), .unset, .unset, .unset, .unset, .unset] [(.ref b116)])) t → Steps p.tables e below (s₁.setTop (entryFrame m #[(.int p0), (.long q1), (.int p3), (.long q4), (.int p6)] maxLocals)) t := fun t k => pp115 t (st116 t k)
  have pp118 : ∀ t, Steps p.tables e below (T116.setTop (mkF m 48 #[.val (.int p0), .val (.long q1), .second, .val (.int p3), .val (.long q4), .second, .val (.int p6), .val (.int t2), .val (.long s2), .second, .val (.ref b110), .unset, .unset, .unset, .unset, .unset] [(.long s2), (.int t2), (.ref b116), (.ref b116)])) t → Steps p.tables e below (s₁.setTop (entryFrame m #[(.int p0), (.long q1), (.int p3), (.long q4), (.int p6)] maxLocals)) t := fun t k => pp117 t (by
    refine XS.dup X116.here hx rfl (hb hby at_43) rfl rfl ?_
    show Steps p.tables e below (T116.setTop (mkF m 44 #[.val (.int p0), .val (.long q1), .second, .val (.int p3), .val (.long q4), .second, .val (.int p6), .val (.int t2), .val (.long s2), .second, .val (.ref b110), .unset, .unset, .unset, .unset, .unset] [(.ref b116), (.ref b116)])) _
    refine XS.iload X116.here hx rfl (hb hby at_44) rfl ?_
    show Steps p.tables e below (T116.setTop (mkF m 46 #[.val (.int p0), .val (.long q1), .second, .val (.int p3), .val (.long q4), .second, .val (.int p6), .val (.int t2), .val (.long s2), .second, .val (.ref b110), .unset, .unset, .unset, .unset, .unset] [(.int t2), (.ref b116), (.ref b116)])) _
    refine XS.lload X116.here hx rfl (hb hby at_46) rfl ?_
    show Steps p.tables e below (T116.setTop (mkF m 48 #[.val (.int p0), .val (.long q1), .second, .val (.int p3), .val (.long q4), .second, .val (.int p6), .val (.int t2), .val (.long s2), .second, .val (.ref b110), .unset, .unset, .unset, .unset, .unset] [(.long s2), (.int t2), (.ref b116), (.ref b116)])) _
    exact k)
  obtain ⟨_, _, ⟨T119, L119, k119, n119⟩, -, X119, ⟨Lc119, hQ119, l119, y119, z119⟩, st119⟩ := X116.specialBack hx (y := (⟨"com/example/keen_broker/keenbroker/store/MessageRef", "<init>", "(IJ)V"⟩ : MethodName)) rfl hown (mvT hZ (hw _ (List.mem_of_getElem? (i := 3) rfl))) (mvT hZ (hw _ (List.mem_of_getElem? (i := 4) rfl))) (mvT hZ (hw _ (List.mem_of_getElem? (i := 5) rfl))) (by decide) (backOf (W := 1) (own_init l Z a0 hw [] b116 t2 s2 (.int (0 : Int32)) (.long (0 : Int64)) h116 n0 (Nat.le_trans (Nat.le_trans (Nat.le_trans Z0 E110.1) K113.1) E116.1) A116 F_topicLog_b116 F_sequence_b116 g_b116) hZ (hw _ (List.mem_of_getElem? (i := 5) rfl)) (hw _ (List.mem_of_getElem? (i := 2) rfl)) (by decide) (by decide)) (g := (mkF m 48 #[.val (.int p0), .val (.long q1), .second, .val (.int p3), .val (.long q4), .second, .val (.int p6), .val (.int t2), .val (.long s2), .second, .val (.ref b110), .unset, .unset, .unset, .unset, .unset] [(.long s2), (.int t2), (.ref b116), (.ref b116)])) rfl (by rw [hml]; rfl) (Steps.refl _) (a := b116) (argsL := [(.int t2), (.long s2)]) (rest := [(.ref b116)]) (lenOf pd__IJ_V rfl) rfl (by show 2 * 0 + _ ≤ _; exact Nat.le_of_eq rfl) (hb hby at_48) (fun _ _ => ⟨rfl, e116, (by decide : 2 + 0 ≤ _), (by decide : 4 + 0 ≤ _)⟩)
  dsimp only [Pt.U, Pt.locs, Pt.cells, Pt.slots] at X119 l119 y119 z119 st119 hQ119
  subst l119 y119 z119
  obtain ⟨rfl, N119q, K119, EE119, Ft119, Fs119⟩ := hQ119
  have N119 := Fr.app N113 N119q
  have pp120 : ∀ t, Steps p.tables e below (T119.setTop (mkF m 51 #[.val (.int p0), .val (.long q1), .second, .val (.int p3), .val (.long q4), .second, .val (.int p6), .val (.int t2), .val (.long s2), .second, .val (.ref b110), .unset, .unset, .unset, .unset, .unset] [(.ref b116)])) t → Steps p.tables e below (s₁.setTop (entryFrame m #[(.int p0), (.long q1), (.int p3), (.long q4), (.int p6)] maxLocals)) t := fun t k => pp118 t (st119.trans k)
  have pp121 : ∀ t, Steps p.tables e below (T119.setTop (mkF m 56 #[.val (.int p0), .val (.long q1), .second, .val (.int p3), .val (.long q4), .second, .val (.int p6), .val (.int t2), .val (.long s2), .second, .val (.ref b110), .val (.ref b116), .unset, .unset, .unset, .unset] [(.int t2), (.int p0)])) t → Steps p.tables e below (s₁.setTop (entryFrame m #[(.int p0), (.long q1), (.int p3), (.long q4), (.int p6)] maxLocals)) t := fun t k => pp120 t (by
    refine XS.astore X119.here hx rfl (hb hby at_51) rfl rfl (l' := #[.val (.int p0), .val (.long q1), .second, .val (.int p3), .val (.long q4), .second, .val (.int p6), .val (.int t2), .val (.long s2), .second, .val (.ref b110), .val (.ref b116), .unset, .unset, .unset, .unset]) rfl ?_
    show Steps p.tables e below (T119.setTop (mkF m 53 #[.val (.int p0), .val (.long q1), .second, .val (.int p3), .val (.long q4), .second, .val (.int p6), .val (.int t2), .val (.long s2), .second, .val (.ref b110), .val (.ref b116), .unset, .unset, .unset, .unset] [])) _
    refine XS.iloadN X119.here hx rfl (hb hby at_53) rfl ?_
    show Steps p.tables e below (T119.setTop (mkF m 54 #[.val (.int p0), .val (.long q1), .second, .val (.int p3), .val (.long q4), .second, .val (.int p6), .val (.int t2), .val (.long s2), .second, .val (.ref b110), .val (.ref b116), .unset, .unset, .unset, .unset] [(.int p0)])) _
    refine XS.iload X119.here hx rfl (hb hby at_54) rfl ?_
    show Steps p.tables e below (T119.setTop (mkF m 56 #[.val (.int p0), .val (.long q1), .second, .val (.int p3), .val (.long q4), .second, .val (.int p6), .val (.int t2), .val (.long s2), .second, .val (.ref b110), .val (.ref b116), .unset, .unset, .unset, .unset] [(.int t2), (.int p0)])) _
    exact k)
  obtain ⟨ex, T122, Lx122, X122, e122, N122, hex, pp122⟩ : ∃ (ex : Int32) (T' : State) (Lx : List Loc), Stand p l e room_1 s m #[(.int p0), (.long q1), (.int p3), (.long q4), (.int p6)] below meth c T' Lx 2 4 ∧ T'.heap = T119.heap ∧ Fr n0 Lx ∧ (own_me t2 s2 p0 q1 = ex) ∧ ∀ t, Steps p.tables e below (T'.setTop (mkF m 71 #[.val (.int p0), .val (.long q1), .second, .val (.int p3), .val (.long q4), .second, .val (.int p6), .val (.int t2), .val (.long s2), .second, .val (.ref b110), .val (.ref b116), .unset, .unset, .unset, .unset] [(.int ex)])) t → Steps p.tables e below (s₁.setTop (entryFrame m #[(.int p0), (.long q1), (.int p3), (.long q4), (.int p6)] maxLocals)) t := by
    by_cases hc56 : p0 = t2
    · have pp123 : ∀ t, Steps p.tables e below (T119.setTop (mkF m 63 #[.val (.int p0), .val (.long q1), .second, .val (.int p3), .val (.long q4), .second, .val (.int p6), .val (.int t2), .val (.long s2), .second, .val (.ref b110), .val (.ref b116), .unset, .unset, .unset, .unset] [(.int (lcmpW q1 s2))])) t → Steps p.tables e below (s₁.setTop (entryFrame m #[(.int p0), (.long q1), (.int p3), (.long q4), (.int p6)] maxLocals)) t := fun t k => pp121 t (by
        refine XS.icmpNo X119.here hx rfl (hb hby at_56) rfl (teq hc56).2 ?_
        show Steps p.tables e below (T119.setTop (mkF m 59 #[.val (.int p0), .val (.long q1), .second, .val (.int p3), .val (.long q4), .second, .val (.int p6), .val (.int t2), .val (.long s2), .second, .val (.ref b110), .val (.ref b116), .unset, .unset, .unset, .unset] [])) _
        refine XS.lloadN X119.here hx rfl (hb hby at_59) rfl ?_
        show Steps p.tables e below (T119.setTop (mkF m 60 #[.val (.int p0), .val (.long q1), .second, .val (.int p3), .val (.long q4), .second, .val (.int p6), .val (.int t2), .val (.long s2), .second, .val (.ref b110), .val (.ref b116), .unset, .unset, .unset, .unset] [(.long q1)])) _
        refine XS.lload X119.here hx rfl (hb hby at_60) rfl ?_
        show Steps p.tables e below (T119.setTop (mkF m 62 #[.val (.int p0), .val (.long q1), .second, .val (.int p3), .val (.long q4), .second, .val (.int p6), .val (.int t2), .val (.long s2), .second, .val (.ref b110), .val (.ref b116), .unset, .unset, .unset, .unset] [(.long s2), (.long q1)])) _
        refine XS.lcmp X119.here hx rfl (hb hby at_62) rfl ?_
        show Steps p.tables e below (T119.setTop (mkF m 63 #[.val (.int p0), .val (.long q1), .second, .val (.int p3), .val (.long q4), .second, .val (.int p6), .val (.int t2), .val (.long s2), .second, .val (.ref b110), .val (.ref b116), .unset, .unset, .unset, .unset] [(.int (lcmpW q1 s2))])) _
        exact k)
      by_cases hc63 : (lcmpW q1 s2) = (0 : Int32)
      · have pp124 : ∀ t, Steps p.tables e below (T119.setTop (mkF m 71 #[.val (.int p0), .val (.long q1), .second, .val (.int p3), .val (.long q4), .second, .val (.int p6), .val (.int t2), .val (.long s2), .second, .val (.ref b110), .val (.ref b116), .unset, .unset, .unset, .unset] [(.int (1 : Int32))])) t → Steps p.tables e below (s₁.setTop (entryFrame m #[(.int p0), (.long q1), (.int p3), (.long q4), (.int p6)] maxLocals)) t := fun t k => pp123 t (by
          refine XS.ifNo X119.here hx rfl (hb hby at_63) rfl ((if0 _ _).trans (teq hc63).2) ?_
          show Steps p.tables e below (T119.setTop (mkF m 66 #[.val (.int p0), .val (.long q1), .second, .val (.int p3), .val (.long q4), .second, .val (.int p6), .val (.int t2), .val (.long s2), .second, .val (.ref b110), .val (.ref b116), .unset, .unset, .unset, .unset] [])) _
          refine XS.iconst X119.here hx rfl (hb hby at_66) ?_
          show Steps p.tables e below (T119.setTop (mkF m 67 #[.val (.int p0), .val (.long q1), .second, .val (.int p3), .val (.long q4), .second, .val (.int p6), .val (.int t2), .val (.long s2), .second, .val (.ref b110), .val (.ref b116), .unset, .unset, .unset, .unset] [(.int (1 : Int32))])) _
          refine XS.goto X119.here hx rfl (pc0 := 67) (pc' := 71) rfl (hb hby at_67) (by decide) (by decide) ?_
          show Steps p.tables e below (T119.setTop (mkF m 71 #[.val (.int p0), .val (.long q1), .second, .val (.int p3), .val (.long q4), .second, .val (.int p6), .val (.int t2), .val (.long s2), .second, .val (.ref b110), .val (.ref b116), .unset, .unset, .unset, .unset] [(.int (1 : Int32))])) _
          exact k)
        exact ⟨(1 : Int32), _, _, X119, rfl, N119, by unfold own_me; rw [if_pos hc56, if_pos hc63], pp124⟩
      · have pp125 : ∀ t, Steps p.tables e below (T119.setTop (mkF m 71 #[.val (.int p0), .val (.long q1), .second, .val (.int p3), .val (.long q4), .second, .val (.int p6), .val (.int t2), .val (.long s2), .second, .val (.ref b110), .val (.ref b116), .unset, .unset, .unset, .unset] [(.int (0 : Int32))])) t → Steps p.tables e below (s₁.setTop (entryFrame m #[(.int p0), (.long q1), (.int p3), (.long q4), (.int p6)] maxLocals)) t := fun t k => pp123 t (by
          refine XS.ifYes X119.here hx rfl (pc0 := 63) (pc' := 70) rfl (hb hby at_63) rfl ((if0 _ _).trans (feq hc63).2) (by decide) (by decide) ?_
          show Steps p.tables e below (T119.setTop (mkF m 70 #[.val (.int p0), .val (.long q1), .second, .val (.int p3), .val (.long q4), .second, .val (.int p6), .val (.int t2), .val (.long s2), .second, .val (.ref b110), .val (.ref b116), .unset, .unset, .unset, .unset] [])) _
          refine XS.iconst X119.here hx rfl (hb hby at_70) ?_
          show Steps p.tables e below (T119.setTop (mkF m 71 #[.val (.int p0), .val (.long q1), .second, .val (.int p3), .val (.long q4), .second, .val (.int p6), .val (.int t2), .val (.long s2), .second, .val (.ref b110), .val (.ref b116), .unset, .unset, .unset, .unset] [(.int (0 : Int32))])) _
          exact k)
        exact ⟨(0 : Int32), _, _, X119, rfl, N119, by unfold own_me; rw [if_pos hc56, if_neg hc63], pp125⟩
    · have pp126 : ∀ t, Steps p.tables e below (T119.setTop (mkF m 71 #[.val (.int p0), .val (.long q1), .second, .val (.int p3), .val (.long q4), .second, .val (.int p6), .val (.int t2), .val (.long s2), .second, .val (.ref b110), .val (.ref b116), .unset, .unset, .unset, .unset] [(.int (0 : Int32))])) t → Steps p.tables e below (s₁.setTop (entryFrame m #[(.int p0), (.long q1), (.int p3), (.long q4), (.int p6)] maxLocals)) t := fun t k => pp121 t (by
        refine XS.icmpYes X119.here hx rfl (pc0 := 56) (pc' := 70) rfl (hb hby at_56) rfl (feq hc56).2 (by decide) (by decide) ?_
        show Steps p.tables e below (T119.setTop (mkF m 70 #[.val (.int p0), .val (.long q1), .second, .val (.int p3), .val (.long q4), .second, .val (.int p6), .val (.int t2), .val (.long s2), .second, .val (.ref b110), .val (.ref b116), .unset, .unset, .unset, .unset] [])) _
        refine XS.iconst X119.here hx rfl (hb hby at_70) ?_
        show Steps p.tables e below (T119.setTop (mkF m 71 #[.val (.int p0), .val (.long q1), .second, .val (.int p3), .val (.long q4), .second, .val (.int p6), .val (.int t2), .val (.long s2), .second, .val (.ref b110), .val (.ref b116), .unset, .unset, .unset, .unset] [(.int (0 : Int32))])) _
        exact k)
      exact ⟨(0 : Int32), _, _, X119, rfl, N119, by unfold own_me; rw [if_neg hc56], pp126⟩
  have pp127 : ∀ t, Steps p.tables e below (T122.setTop (mkF m 83 #[.val (.int p0), .val (.long q1), .second, .val (.int p3), .val (.long q4), .second, .val (.int p6), .val (.int t2), .val (.long s2), .second, .val (.ref b110), .val (.ref b116), .val (.int ex), .val (.int (((p6.toUInt32 >>> ((2 : Int32) &&& 31).toUInt32).toInt32) &&& (3 : Int32))), .unset, .unset] [(.int (((p6.toUInt32 >>> ((2 : Int32) &&& 31).toUInt32).toInt32) &&& (3 : Int32)))])) t → Steps p.tables e below (s₁.setTop (entryFrame m #[(.int p0), (.long q1), (.int p3), (.long q4), (.int p6)] maxLocals)) t := fun t k => pp122 t (by
    refine XS.istore X122.here hx rfl (hb hby at_71) rfl (l' := #[.val (.int p0), .val (.long q1), .second, .val (.int p3), .val (.long q4), .second, .val (.int p6), .val (.int t2), .val (.long s2), .second, .val (.ref b110), .val (.ref b116), .val (.int ex), .unset, .unset, .unset]) rfl ?_
    show Steps p.tables e below (T122.setTop (mkF m 73 #[.val (.int p0), .val (.long q1), .second, .val (.int p3), .val (.long q4), .second, .val (.int p6), .val (.int t2), .val (.long s2), .second, .val (.ref b110), .val (.ref b116), .val (.int ex), .unset, .unset, .unset] [])) _
    refine XS.iload X122.here hx rfl (hb hby at_73) rfl ?_
    show Steps p.tables e below (T122.setTop (mkF m 75 #[.val (.int p0), .val (.long q1), .second, .val (.int p3), .val (.long q4), .second, .val (.int p6), .val (.int t2), .val (.long s2), .second, .val (.ref b110), .val (.ref b116), .val (.int ex), .unset, .unset, .unset] [(.int p6)])) _
    refine XS.iconst X122.here hx rfl (hb hby at_75) ?_
    show Steps p.tables e below (T122.setTop (mkF m 76 #[.val (.int p0), .val (.long q1), .second, .val (.int p3), .val (.long q4), .second, .val (.int p6), .val (.int t2), .val (.long s2), .second, .val (.ref b110), .val (.ref b116), .val (.int ex), .unset, .unset, .unset] [(.int (2 : Int32)), (.int p6)])) _
    refine XS.iushr X122.here hx rfl (hb hby at_76) rfl ?_
    show Steps p.tables e below (T122.setTop (mkF m 77 #[.val (.int p0), .val (.long q1), .second, .val (.int p3), .val (.long q4), .second, .val (.int p6), .val (.int t2), .val (.long s2), .second, .val (.ref b110), .val (.ref b116), .val (.int ex), .unset, .unset, .unset] [(.int ((p6.toUInt32 >>> ((2 : Int32) &&& 31).toUInt32).toInt32))])) _
    refine XS.iconst X122.here hx rfl (hb hby at_77) ?_
    show Steps p.tables e below (T122.setTop (mkF m 78 #[.val (.int p0), .val (.long q1), .second, .val (.int p3), .val (.long q4), .second, .val (.int p6), .val (.int t2), .val (.long s2), .second, .val (.ref b110), .val (.ref b116), .val (.int ex), .unset, .unset, .unset] [(.int (3 : Int32)), (.int ((p6.toUInt32 >>> ((2 : Int32) &&& 31).toUInt32).toInt32))])) _
    refine XS.iand X122.here hx rfl (hb hby at_78) rfl ?_
    show Steps p.tables e below (T122.setTop (mkF m 79 #[.val (.int p0), .val (.long q1), .second, .val (.int p3), .val (.long q4), .second, .val (.int p6), .val (.int t2), .val (.long s2), .second, .val (.ref b110), .val (.ref b116), .val (.int ex), .unset, .unset, .unset] [(.int (((p6.toUInt32 >>> ((2 : Int32) &&& 31).toUInt32).toInt32) &&& (3 : Int32)))])) _
    refine XS.istore X122.here hx rfl (hb hby at_79) rfl (l' := #[.val (.int p0), .val (.long q1), .second, .val (.int p3), .val (.long q4), .second, .val (.int p6), .val (.int t2), .val (.long s2), .second, .val (.ref b110), .val (.ref b116), .val (.int ex), .val (.int (((p6.toUInt32 >>> ((2 : Int32) &&& 31).toUInt32).toInt32) &&& (3 : Int32))), .unset, .unset]) rfl ?_
    show Steps p.tables e below (T122.setTop (mkF m 81 #[.val (.int p0), .val (.long q1), .second, .val (.int p3), .val (.long q4), .second, .val (.int p6), .val (.int t2), .val (.long s2), .second, .val (.ref b110), .val (.ref b116), .val (.int ex), .val (.int (((p6.toUInt32 >>> ((2 : Int32) &&& 31).toUInt32).toInt32) &&& (3 : Int32))), .unset, .unset] [])) _
    refine XS.iload X122.here hx rfl (hb hby at_81) rfl ?_
    show Steps p.tables e below (T122.setTop (mkF m 83 #[.val (.int p0), .val (.long q1), .second, .val (.int p3), .val (.long q4), .second, .val (.int p6), .val (.int t2), .val (.long s2), .second, .val (.ref b110), .val (.ref b116), .val (.int ex), .val (.int (((p6.toUInt32 >>> ((2 : Int32) &&& 31).toUInt32).toInt32) &&& (3 : Int32))), .unset, .unset] [(.int (((p6.toUInt32 >>> ((2 : Int32) &&& 31).toUInt32).toInt32) &&& (3 : Int32)))])) _
    exact k)
  generalize hkk : (((p6.toUInt32 >>> ((2 : Int32) &&& 31).toUInt32).toInt32) &&& (3 : Int32)) = kk at pp127
  by_cases hc83 : kk = (0 : Int32)
  · have pp128 : ∀ t, Steps p.tables e below (T122.setTop (mkF m 143 #[.val (.int p0), .val (.long q1), .second, .val (.int p3), .val (.long q4), .second, .val (.int p6), .val (.int t2), .val (.long s2), .second, .val (.ref b110), .val (.ref b116), .val (.int ex), .val (.int kk), .val (.ref b116), .val (.int ex)] [(.ref b116), (.ref b110)])) t → Steps p.tables e below (s₁.setTop (entryFrame m #[(.int p0), (.long q1), (.int p3), (.long q4), (.int p6)] maxLocals)) t := fun t k => pp127 t (by
      refine XS.ifNo X122.here hx rfl (hb hby at_83) rfl ((if0 _ _).trans (teq hc83).2) ?_
      show Steps p.tables e below (T122.setTop (mkF m 86 #[.val (.int p0), .val (.long q1), .second, .val (.int p3), .val (.long q4), .second, .val (.int p6), .val (.int t2), .val (.long s2), .second, .val (.ref b110), .val (.ref b116), .val (.int ex), .val (.int kk), .unset, .unset] [])) _
      refine XS.aload X122.here hx rfl (hb hby at_86) rfl rfl ?_
      show Steps p.tables e below (T122.setTop (mkF m 88 #[.val (.int p0), .val (.long q1), .second, .val (.int p3), .val (.long q4), .second, .val (.int p6), .val (.int t2), .val (.long s2), .second, .val (.ref b110), .val (.ref b116), .val (.int ex), .val (.int kk), .unset, .unset] [(.ref b116)])) _
      refine XS.astore X122.here hx rfl (hb hby at_88) rfl rfl (l' := #[.val (.int p0), .val (.long q1), .second, .val (.int p3), .val (.long q4), .second, .val (.int p6), .val (.int t2), .val (.long s2), .second, .val (.ref b110), .val (.ref b116), .val (.int ex), .val (.int kk), .val (.ref b116), .unset]) rfl ?_
      show Steps p.tables e below (T122.setTop (mkF m 90 #[.val (.int p0), .val (.long q1), .second, .val (.int p3), .val (.long q4), .second, .val (.int p6), .val (.int t2), .val (.long s2), .second, .val (.ref b110), .val (.ref b116), .val (.int ex), .val (.int kk), .val (.ref b116), .unset] [])) _
      refine XS.goto X122.here hx rfl (pc0 := 90) (pc' := 126) rfl (hb hby at_90) (by decide) (by decide) ?_
      show Steps p.tables e below (T122.setTop (mkF m 126 #[.val (.int p0), .val (.long q1), .second, .val (.int p3), .val (.long q4), .second, .val (.int p6), .val (.int t2), .val (.long s2), .second, .val (.ref b110), .val (.ref b116), .val (.int ex), .val (.int kk), .val (.ref b116), .unset] [])) _
      refine XS.iload X122.here hx rfl (hb hby at_126) rfl ?_
      show Steps p.tables e below (T122.setTop (mkF m 128 #[.val (.int p0), .val (.long q1), .second, .val (.int p3), .val (.long q4), .second, .val (.int p6), .val (.int t2), .val (.long s2), .second, .val (.ref b110), .val (.ref b116), .val (.int ex), .val (.int kk), .val (.ref b116), .unset] [(.int kk)])) _
      refine XS.ifNo X122.here hx rfl (hb hby at_128) rfl ((if0 _ _).trans (teq hc83).2) ?_
      show Steps p.tables e below (T122.setTop (mkF m 131 #[.val (.int p0), .val (.long q1), .second, .val (.int p3), .val (.long q4), .second, .val (.int p6), .val (.int t2), .val (.long s2), .second, .val (.ref b110), .val (.ref b116), .val (.int ex), .val (.int kk), .val (.ref b116), .unset] [])) _
      refine XS.iload X122.here hx rfl (hb hby at_131) rfl ?_
      show Steps p.tables e below (T122.setTop (mkF m 133 #[.val (.int p0), .val (.long q1), .second, .val (.int p3), .val (.long q4), .second, .val (.int p6), .val (.int t2), .val (.long s2), .second, .val (.ref b110), .val (.ref b116), .val (.int ex), .val (.int kk), .val (.ref b116), .unset] [(.int ex)])) _
      refine XS.goto X122.here hx rfl (pc0 := 133) (pc' := 137) rfl (hb hby at_133) (by decide) (by decide) ?_
      show Steps p.tables e below (T122.setTop (mkF m 137 #[.val (.int p0), .val (.long q1), .second, .val (.int p3), .val (.long q4), .second, .val (.int p6), .val (.int t2), .val (.long s2), .second, .val (.ref b110), .val (.ref b116), .val (.int ex), .val (.int kk), .val (.ref b116), .unset] [(.int ex)])) _
      refine XS.istore X122.here hx rfl (hb hby at_137) rfl (l' := #[.val (.int p0), .val (.long q1), .second, .val (.int p3), .val (.long q4), .second, .val (.int p6), .val (.int t2), .val (.long s2), .second, .val (.ref b110), .val (.ref b116), .val (.int ex), .val (.int kk), .val (.ref b116), .val (.int ex)]) rfl ?_
      show Steps p.tables e below (T122.setTop (mkF m 139 #[.val (.int p0), .val (.long q1), .second, .val (.int p3), .val (.long q4), .second, .val (.int p6), .val (.int t2), .val (.long s2), .second, .val (.ref b110), .val (.ref b116), .val (.int ex), .val (.int kk), .val (.ref b116), .val (.int ex)] [])) _
      refine XS.aload X122.here hx rfl (hb hby at_139) rfl rfl ?_
      show Steps p.tables e below (T122.setTop (mkF m 141 #[.val (.int p0), .val (.long q1), .second, .val (.int p3), .val (.long q4), .second, .val (.int p6), .val (.int t2), .val (.long s2), .second, .val (.ref b110), .val (.ref b116), .val (.int ex), .val (.int kk), .val (.ref b116), .val (.int ex)] [(.ref b110)])) _
      refine XS.aload X122.here hx rfl (hb hby at_141) rfl rfl ?_
      show Steps p.tables e below (T122.setTop (mkF m 143 #[.val (.int p0), .val (.long q1), .second, .val (.int p3), .val (.long q4), .second, .val (.int p6), .val (.int t2), .val (.long s2), .second, .val (.ref b110), .val (.ref b116), .val (.int ex), .val (.int kk), .val (.ref b116), .val (.int ex)] [(.ref b116), (.ref b110)])) _
      exact k)
    obtain ⟨cq129, kq129, q129a, q129b, q129c⟩ := isOf hZ e122 (((A110.keep K113).ext E116).keep K119)
    obtain ⟨_, _, ⟨T129, L129, k129, n129⟩, -, X129, ⟨Lc129, hQ129, l129, y129, z129⟩, st129⟩ := X122.virtualBack hx (y := (⟨"com/example/keen_broker/keenbroker/store/MessageRef", "equals", "(Ljava/lang/Object;)Z"⟩ : MethodName)) (z := (⟨"com/example/keen_broker/keenbroker/store/MessageRef", "equals", "(Ljava/lang/Object;)Z"⟩ : MethodName)) hown (mvT hZ (hw _ (List.mem_of_getElem? (i := 13) rfl))) (mvT hZ (hw _ (List.mem_of_getElem? (i := 14) rfl))) (notFace_of_selects (args := #[]) (mvT hZ (hw _ (List.mem_of_getElem? (i := 16) rfl)))) (mvT hZ (hw _ (List.mem_of_getElem? (i := 16) rfl))) (mvT hZ (hw _ (List.mem_of_getElem? (i := 15) rfl))) (by decide) (backOf (W := 0) (own_eqr l Z a0 hw [] b110 b116 p0 q1 t2 s2 T119.heap n0 (Nat.le_trans (Nat.le_trans (Nat.le_trans (Nat.le_trans Z0 E110.1) K113.1) E116.1) K119.1) ((Ft113.ext E116).keep K119 (fun q => (Nat.ne_of_lt (Nat.lt_of_lt_of_le (A110.keep K113).lt (Nat.le_of_eq g116.symm))) (List.mem_singleton.mp q))) ((Fs113.ext E116).keep K119 (fun q => (Nat.ne_of_lt (Nat.lt_of_lt_of_le (A110.keep K113).lt (Nat.le_of_eq g116.symm))) (List.mem_singleton.mp q))) Ft119 Fs119 (A116.keep K119)) hZ (hw _ (List.mem_of_getElem? (i := 17) rfl)) (hw _ (List.mem_of_getElem? (i := 2) rfl)) (by decide) (by decide)) q129a q129c (g := (mkF m 143 #[.val (.int p0), .val (.long q1), .second, .val (.int p3), .val (.long q4), .second, .val (.int p6), .val (.int t2), .val (.long s2), .second, .val (.ref b110), .val (.ref b116), .val (.int ex), .val (.int kk), .val (.ref b116), .val (.int ex)] [(.ref b116), (.ref b110)])) rfl (by rw [hml]; rfl) (Steps.refl _) (argsL := [(.ref b116)]) (rest := []) (lenOf pd__Ljava_lang_Object__Z rfl) rfl (by show 2 * 0 + _ ≤ _; exact Nat.le_of_eq rfl) (hb hby at_143) (fun _ _ => ⟨rfl, e122, (by decide : 2 + 0 ≤ _), (by decide : 4 + 0 ≤ _)⟩)
    dsimp only [Pt.U, Pt.locs, Pt.cells, Pt.slots] at X129 l129 y129 z129 st129 hQ129
    subst l129 y129 z129
    obtain ⟨rfl, N129q, s129⟩ := hQ129
    have N129 := Fr.app N122 N129q
    have pp130 : ∀ t, Steps p.tables e below (T129.setTop (mkF m 146 #[.val (.int p0), .val (.long q1), .second, .val (.int p3), .val (.long q4), .second, .val (.int p6), .val (.int t2), .val (.long s2), .second, .val (.ref b110), .val (.ref b116), .val (.int ex), .val (.int kk), .val (.ref b116), .val (.int ex)] [(.int (own_me p0 q1 t2 s2))])) t → Steps p.tables e below (s₁.setTop (entryFrame m #[(.int p0), (.long q1), (.int p3), (.long q4), (.int p6)] maxLocals)) t := fun t k => pp128 t (st129.trans k)
    have pp131 : ∀ t, Steps p.tables e below (T129.setTop (mkF m 155 #[.val (.int p0), .val (.long q1), .second, .val (.int p3), .val (.long q4), .second, .val (.int p6), .val (.int t2), .val (.long s2), .second, .val (.ref b110), .val (.ref b116), .val (.int ex), .val (.int kk), .val (.ref b116), .val (.int ex)] [(.ref b110), (.ref b116)])) t → Steps p.tables e below (s₁.setTop (entryFrame m #[(.int p0), (.long q1), (.int p3), (.long q4), (.int p6)] maxLocals)) t := fun t k => pp130 t (by
      refine XS.iload X129.here hx rfl (hb hby at_146) rfl ?_
      show Steps p.tables e below (T129.setTop (mkF m 148 #[.val (.int p0), .val (.long q1), .second, .val (.int p3), .val (.long q4), .second, .val (.int p6), .val (.int t2), .val (.long s2), .second, .val (.ref b110), .val (.ref b116), .val (.int ex), .val (.int kk), .val (.ref b116), .val (.int ex)] [(.int ex), (.int (own_me p0 q1 t2 s2))])) _
      refine XS.icmpNo X129.here hx rfl (hb hby at_148) rfl (teq ((own_me_sym _ _ _ _).trans hex)).2 ?_
      show Steps p.tables e below (T129.setTop (mkF m 151 #[.val (.int p0), .val (.long q1), .second, .val (.int p3), .val (.long q4), .second, .val (.int p6), .val (.int t2), .val (.long s2), .second, .val (.ref b110), .val (.ref b116), .val (.int ex), .val (.int kk), .val (.ref b116), .val (.int ex)] [])) _
      refine XS.aload X129.here hx rfl (hb hby at_151) rfl rfl ?_
      show Steps p.tables e below (T129.setTop (mkF m 153 #[.val (.int p0), .val (.long q1), .second, .val (.int p3), .val (.long q4), .second, .val (.int p6), .val (.int t2), .val (.long s2), .second, .val (.ref b110), .val (.ref b116), .val (.int ex), .val (.int kk), .val (.ref b116), .val (.int ex)] [(.ref b116)])) _
      refine XS.aload X129.here hx rfl (hb hby at_153) rfl rfl ?_
      show Steps p.tables e below (T129.setTop (mkF m 155 #[.val (.int p0), .val (.long q1), .second, .val (.int p3), .val (.long q4), .second, .val (.int p6), .val (.int t2), .val (.long s2), .second, .val (.ref b110), .val (.ref b116), .val (.int ex), .val (.int kk), .val (.ref b116), .val (.int ex)] [(.ref b110), (.ref b116)])) _
      exact k)
    obtain ⟨cq132, kq132, q132a, q132b, q132c⟩ := isOf hZ s129 (A116.keep K119)
    obtain ⟨_, _, ⟨T132, L132, k132, n132⟩, -, X132, ⟨Lc132, hQ132, l132, y132, z132⟩, st132⟩ := X129.virtualBack hx (y := (⟨"com/example/keen_broker/keenbroker/store/MessageRef", "equals", "(Ljava/lang/Object;)Z"⟩ : MethodName)) (z := (⟨"com/example/keen_broker/keenbroker/store/MessageRef", "equals", "(Ljava/lang/Object;)Z"⟩ : MethodName)) hown (mvT hZ (hw _ (List.mem_of_getElem? (i := 13) rfl))) (mvT hZ (hw _ (List.mem_of_getElem? (i := 14) rfl))) (notFace_of_selects (args := #[]) (mvT hZ (hw _ (List.mem_of_getElem? (i := 16) rfl)))) (mvT hZ (hw _ (List.mem_of_getElem? (i := 16) rfl))) (mvT hZ (hw _ (List.mem_of_getElem? (i := 15) rfl))) (by decide) (backOf (W := 0) (own_eqr l Z a0 hw [] b116 b110 t2 s2 p0 q1 T119.heap n0 (Nat.le_trans (Nat.le_trans (Nat.le_trans (Nat.le_trans Z0 E110.1) K113.1) E116.1) K119.1) Ft119 Fs119 ((Ft113.ext E116).keep K119 (fun q => (Nat.ne_of_lt (Nat.lt_of_lt_of_le (A110.keep K113).lt (Nat.le_of_eq g116.symm))) (List.mem_singleton.mp q))) ((Fs113.ext E116).keep K119 (fun q => (Nat.ne_of_lt (Nat.lt_of_lt_of_le (A110.keep K113).lt (Nat.le_of_eq g116.symm))) (List.mem_singleton.mp q))) (((A110.keep K113).ext E116).keep K119)) hZ (hw _ (List.mem_of_getElem? (i := 17) rfl)) (hw _ (List.mem_of_getElem? (i := 2) rfl)) (by decide) (by decide)) q132a q132c (g := (mkF m 155 #[.val (.int p0), .val (.long q1), .second, .val (.int p3), .val (.long q4), .second, .val (.int p6), .val (.int t2), .val (.long s2), .second, .val (.ref b110), .val (.ref b116), .val (.int ex), .val (.int kk), .val (.ref b116), .val (.int ex)] [(.ref b110), (.ref b116)])) rfl (by rw [hml]; rfl) (Steps.refl _) (argsL := [(.ref b110)]) (rest := []) (lenOf pd__Ljava_lang_Object__Z rfl) rfl (by show 2 * 0 + _ ≤ _; exact Nat.le_of_eq rfl) (hb hby at_155) (fun _ _ => ⟨rfl, s129, (by decide : 2 + 0 ≤ _), (by decide : 4 + 0 ≤ _)⟩)
    dsimp only [Pt.U, Pt.locs, Pt.cells, Pt.slots] at X132 l132 y132 z132 st132 hQ132
    subst l132 y132 z132
    obtain ⟨rfl, N132q, s132⟩ := hQ132
    have N132 := Fr.app N129 N132q
    have pp133 : ∀ t, Steps p.tables e below (T132.setTop (mkF m 158 #[.val (.int p0), .val (.long q1), .second, .val (.int p3), .val (.long q4), .second, .val (.int p6), .val (.int t2), .val (.long s2), .second, .val (.ref b110), .val (.ref b116), .val (.int ex), .val (.int kk), .val (.ref b116), .val (.int ex)] [(.int (own_me t2 s2 p0 q1))])) t → Steps p.tables e below (s₁.setTop (entryFrame m #[(.int p0), (.long q1), (.int p3), (.long q4), (.int p6)] maxLocals)) t := fun t k => pp131 t (st132.trans k)
    have pp134 : ∀ t, Steps p.tables e below (T132.setTop (mkF m 167 #[.val (.int p0), .val (.long q1), .second, .val (.int p3), .val (.long q4), .second, .val (.int p6), .val (.int t2), .val (.long s2), .second, .val (.ref b110), .val (.ref b116), .val (.int ex), .val (.int kk), .val (.ref b116), .val (.int ex)] [(.ref b110), (.ref b110)])) t → Steps p.tables e below (s₁.setTop (entryFrame m #[(.int p0), (.long q1), (.int p3), (.long q4), (.int p6)] maxLocals)) t := fun t k => pp133 t (by
      refine XS.iload X132.here hx rfl (hb hby at_158) rfl ?_
      show Steps p.tables e below (T132.setTop (mkF m 160 #[.val (.int p0), .val (.long q1), .second, .val (.int p3), .val (.long q4), .second, .val (.int p6), .val (.int t2), .val (.long s2), .second, .val (.ref b110), .val (.ref b116), .val (.int ex), .val (.int kk), .val (.ref b116), .val (.int ex)] [(.int ex), (.int (own_me t2 s2 p0 q1))])) _
      refine XS.icmpNo X132.here hx rfl (hb hby at_160) rfl (teq hex).2 ?_
      show Steps p.tables e below (T132.setTop (mkF m 163 #[.val (.int p0), .val (.long q1), .second, .val (.int p3), .val (.long q4), .second, .val (.int p6), .val (.int t2), .val (.long s2), .second, .val (.ref b110), .val (.ref b116), .val (.int ex), .val (.int kk), .val (.ref b116), .val (.int ex)] [])) _
      refine XS.aload X132.here hx rfl (hb hby at_163) rfl rfl ?_
      show Steps p.tables e below (T132.setTop (mkF m 165 #[.val (.int p0), .val (.long q1), .second, .val (.int p3), .val (.long q4), .second, .val (.int p6), .val (.int t2), .val (.long s2), .second, .val (.ref b110), .val (.ref b116), .val (.int ex), .val (.int kk), .val (.ref b116), .val (.int ex)] [(.ref b110)])) _
      refine XS.aload X132.here hx rfl (hb hby at_165) rfl rfl ?_
      show Steps p.tables e below (T132.setTop (mkF m 167 #[.val (.int p0), .val (.long q1), .second, .val (.int p3), .val (.long q4), .second, .val (.int p6), .val (.int t2), .val (.long s2), .second, .val (.ref b110), .val (.ref b116), .val (.int ex), .val (.int kk), .val (.ref b116), .val (.int ex)] [(.ref b110), (.ref b110)])) _
      exact k)
    obtain ⟨cq135, kq135, q135a, q135b, q135c⟩ := isOf hZ s132 (((A110.keep K113).ext E116).keep K119)
    obtain ⟨_, _, ⟨T135, L135, k135, n135⟩, -, X135, ⟨Lc135, hQ135, l135, y135, z135⟩, st135⟩ := X132.virtualBack hx (y := (⟨"com/example/keen_broker/keenbroker/store/MessageRef", "equals", "(Ljava/lang/Object;)Z"⟩ : MethodName)) (z := (⟨"com/example/keen_broker/keenbroker/store/MessageRef", "equals", "(Ljava/lang/Object;)Z"⟩ : MethodName)) hown (mvT hZ (hw _ (List.mem_of_getElem? (i := 13) rfl))) (mvT hZ (hw _ (List.mem_of_getElem? (i := 14) rfl))) (notFace_of_selects (args := #[]) (mvT hZ (hw _ (List.mem_of_getElem? (i := 16) rfl)))) (mvT hZ (hw _ (List.mem_of_getElem? (i := 16) rfl))) (mvT hZ (hw _ (List.mem_of_getElem? (i := 15) rfl))) (by decide) (backOf (W := 0) (own_eqr l Z a0 hw [] b110 b110 p0 q1 p0 q1 T119.heap n0 (Nat.le_trans (Nat.le_trans (Nat.le_trans (Nat.le_trans Z0 E110.1) K113.1) E116.1) K119.1) ((Ft113.ext E116).keep K119 (fun q => (Nat.ne_of_lt (Nat.lt_of_lt_of_le (A110.keep K113).lt (Nat.le_of_eq g116.symm))) (List.mem_singleton.mp q))) ((Fs113.ext E116).keep K119 (fun q => (Nat.ne_of_lt (Nat.lt_of_lt_of_le (A110.keep K113).lt (Nat.le_of_eq g116.symm))) (List.mem_singleton.mp q))) ((Ft113.ext E116).keep K119 (fun q => (Nat.ne_of_lt (Nat.lt_of_lt_of_le (A110.keep K113).lt (Nat.le_of_eq g116.symm))) (List.mem_singleton.mp q))) ((Fs113.ext E116).keep K119 (fun q => (Nat.ne_of_lt (Nat.lt_of_lt_of_le (A110.keep K113).lt (Nat.le_of_eq g116.symm))) (List.mem_singleton.mp q))) (((A110.keep K113).ext E116).keep K119)) hZ (hw _ (List.mem_of_getElem? (i := 17) rfl)) (hw _ (List.mem_of_getElem? (i := 2) rfl)) (by decide) (by decide)) q135a q135c (g := (mkF m 167 #[.val (.int p0), .val (.long q1), .second, .val (.int p3), .val (.long q4), .second, .val (.int p6), .val (.int t2), .val (.long s2), .second, .val (.ref b110), .val (.ref b116), .val (.int ex), .val (.int kk), .val (.ref b116), .val (.int ex)] [(.ref b110), (.ref b110)])) rfl (by rw [hml]; rfl) (Steps.refl _) (argsL := [(.ref b110)]) (rest := []) (lenOf pd__Ljava_lang_Object__Z rfl) rfl (by show 2 * 0 + _ ≤ _; exact Nat.le_of_eq rfl) (hb hby at_167) (fun _ _ => ⟨rfl, s132, (by decide : 2 + 0 ≤ _), (by decide : 4 + 0 ≤ _)⟩)
    dsimp only [Pt.U, Pt.locs, Pt.cells, Pt.slots] at X135 l135 y135 z135 st135 hQ135
    subst l135 y135 z135
    obtain ⟨rfl, N135q, s135⟩ := hQ135
    have N135 := Fr.app N132 N135q
    have pp136 : ∀ t, Steps p.tables e below (T135.setTop (mkF m 170 #[.val (.int p0), .val (.long q1), .second, .val (.int p3), .val (.long q4), .second, .val (.int p6), .val (.int t2), .val (.long s2), .second, .val (.ref b110), .val (.ref b116), .val (.int ex), .val (.int kk), .val (.ref b116), .val (.int ex)] [(.int (own_me p0 q1 p0 q1))])) t → Steps p.tables e below (s₁.setTop (entryFrame m #[(.int p0), (.long q1), (.int p3), (.long q4), (.int p6)] maxLocals)) t := fun t k => pp134 t (st135.trans k)
    have pp137 : ∀ t, Steps p.tables e below (T135.setTop (mkF m 178 #[.val (.int p0), .val (.long q1), .second, .val (.int p3), .val (.long q4), .second, .val (.int p6), .val (.int t2), .val (.long s2), .second, .val (.ref b110), .val (.ref b116), .val (.int ex), .val (.int kk), .val (.ref b116), .val (.int ex)] [(.int (1 : Int32))])) t → Steps p.tables e below (s₁.setTop (entryFrame m #[(.int p0), (.long q1), (.int p3), (.long q4), (.int p6)] maxLocals)) t := fun t k => pp136 t (by
      refine XS.ifNo X135.here hx rfl (hb hby at_170) rfl ((if0 _ _).trans (feq (by rw [own_me_self]; decide)).1) ?_
      show Steps p.tables e below (T135.setTop (mkF m 173 #[.val (.int p0), .val (.long q1), .second, .val (.int p3), .val (.long q4), .second, .val (.int p6), .val (.int t2), .val (.long s2), .second, .val (.ref b110), .val (.ref b116), .val (.int ex), .val (.int kk), .val (.ref b116), .val (.int ex)] [])) _
      refine XS.iconst X135.here hx rfl (hb hby at_173) ?_
      show Steps p.tables e below (T135.setTop (mkF m 174 #[.val (.int p0), .val (.long q1), .second, .val (.int p3), .val (.long q4), .second, .val (.int p6), .val (.int t2), .val (.long s2), .second, .val (.ref b110), .val (.ref b116), .val (.int ex), .val (.int kk), .val (.ref b116), .val (.int ex)] [(.int (1 : Int32))])) _
      refine XS.goto X135.here hx rfl (pc0 := 174) (pc' := 178) rfl (hb hby at_174) (by decide) (by decide) ?_
      show Steps p.tables e below (T135.setTop (mkF m 178 #[.val (.int p0), .val (.long q1), .second, .val (.int p3), .val (.long q4), .second, .val (.int p6), .val (.int t2), .val (.long s2), .second, .val (.ref b110), .val (.ref b116), .val (.int ex), .val (.int kk), .val (.ref b116), .val (.int ex)] [(.int (1 : Int32))])) _
      exact k)
    obtain ⟨fs, hr, hrun, hended, hW, hsame⟩ := X135.leave (v := some (.int (1 : Int32))) (fun h => by rw [Bd.returns] at h; cases h)
    refine ⟨_, _, pp137 _ ?_, hrun, hended, _, _, rfl, ?_, ⟨_, rfl⟩, hW, hsame.mono (by decide) (by decide)⟩
    · exact retN X135 hx (t := .boolean) Bd.returns (by simp) (hb hby at_178) hr
    · show Q_own_law Z p0 q1 p3 q4 p6 ca cl val cb cm val2 h0 n0 _ T135.heap _
      rw [s135]
      exact ⟨rfl, N135⟩
  · have pp138 : ∀ t, Steps p.tables e below (T122.setTop (mkF m 96 #[.val (.int p0), .val (.long q1), .second, .val (.int p3), .val (.long q4), .second, .val (.int p6), .val (.int t2), .val (.long s2), .second, .val (.ref b110), .val (.ref b116), .val (.int ex), .val (.int kk), .unset, .unset] [(.int (1 : Int32)), (.int kk)])) t → Steps p.tables e below (s₁.setTop (entryFrame m #[(.int p0), (.long q1), (.int p3), (.long q4), (.int p6)] maxLocals)) t := fun t k => pp127 t (by
      refine XS.ifYes X122.here hx rfl (pc0 := 83) (pc' := 93) rfl (hb hby at_83) rfl ((if0 _ _).trans (feq hc83).2) (by decide) (by decide) ?_
      show Steps p.tables e below (T122.setTop (mkF m 93 #[.val (.int p0), .val (.long q1), .second, .val (.int p3), .val (.long q4), .second, .val (.int p6), .val (.int t2), .val (.long s2), .second, .val (.ref b110), .val (.ref b116), .val (.int ex), .val (.int kk), .unset, .unset] [])) _
      refine XS.iload X122.here hx rfl (hb hby at_93) rfl ?_
      show Steps p.tables e below (T122.setTop (mkF m 95 #[.val (.int p0), .val (.long q1), .second, .val (.int p3), .val (.long q4), .second, .val (.int p6), .val (.int t2), .val (.long s2), .second, .val (.ref b110), .val (.ref b116), .val (.int ex), .val (.int kk), .unset, .unset] [(.int kk)])) _
      refine XS.iconst X122.here hx rfl (hb hby at_95) ?_
      show Steps p.tables e below (T122.setTop (mkF m 96 #[.val (.int p0), .val (.long q1), .second, .val (.int p3), .val (.long q4), .second, .val (.int p6), .val (.int t2), .val (.long s2), .second, .val (.ref b110), .val (.ref b116), .val (.int ex), .val (.int kk), .unset, .unset] [(.int (1 : Int32)), (.int kk)])) _
      exact k)
    by_cases hc96 : kk = (1 : Int32)
    · have pp139 : ∀ t, Steps p.tables e below (T122.setTop (mkF m 143 #[.val (.int p0), .val (.long q1), .second, .val (.int p3), .val (.long q4), .second, .val (.int p6), .val (.int t2), .val (.long s2), .second, .val (.ref b110), .val (.ref b116), .val (.int ex), .val (.int kk), .val .null, .val (.int (0 : Int32))] [.null, (.ref b110)])) t → Steps p.tables e below (s₁.setTop (entryFrame m #[(.int p0), (.long q1), (.int p3), (.long q4), (.int p6)] maxLocals)) t := fun t k => pp138 t (by
        refine XS.icmpNo X122.here hx rfl (hb hby at_96) rfl (teq hc96).2 ?_
        show Steps p.tables e below (T122.setTop (mkF m 99 #[.val (.int p0), .val (.long q1), .second, .val (.int p3), .val (.long q4), .second, .val (.int p6), .val (.int t2), .val (.long s2), .second, .val (.ref b110), .val (.ref b116), .val (.int ex), .val (.int kk), .unset, .unset] [])) _
        refine XS.aconstNull X122.here hx rfl (hb hby at_99) ?_
        show Steps p.tables e below (T122.setTop (mkF m 100 #[.val (.int p0), .val (.long q1), .second, .val (.int p3), .val (.long q4), .second, .val (.int p6), .val (.int t2), .val (.long s2), .second, .val (.ref b110), .val (.ref b116), .val (.int ex), .val (.int kk), .unset, .unset] [.null])) _
        refine XS.astore X122.here hx rfl (hb hby at_100) rfl rfl (l' := #[.val (.int p0), .val (.long q1), .second, .val (.int p3), .val (.long q4), .second, .val (.int p6), .val (.int t2), .val (.long s2), .second, .val (.ref b110), .val (.ref b116), .val (.int ex), .val (.int kk), .val .null, .unset]) rfl ?_
        show Steps p.tables e below (T122.setTop (mkF m 102 #[.val (.int p0), .val (.long q1), .second, .val (.int p3), .val (.long q4), .second, .val (.int p6), .val (.int t2), .val (.long s2), .second, .val (.ref b110), .val (.ref b116), .val (.int ex), .val (.int kk), .val .null, .unset] [])) _
        refine XS.goto X122.here hx rfl (pc0 := 102) (pc' := 126) rfl (hb hby at_102) (by decide) (by decide) ?_
        show Steps p.tables e below (T122.setTop (mkF m 126 #[.val (.int p0), .val (.long q1), .second, .val (.int p3), .val (.long q4), .second, .val (.int p6), .val (.int t2), .val (.long s2), .second, .val (.ref b110), .val (.ref b116), .val (.int ex), .val (.int kk), .val .null, .unset] [])) _
        refine XS.iload X122.here hx rfl (hb hby at_126) rfl ?_
        show Steps p.tables e below (T122.setTop (mkF m 128 #[.val (.int p0), .val (.long q1), .second, .val (.int p3), .val (.long q4), .second, .val (.int p6), .val (.int t2), .val (.long s2), .second, .val (.ref b110), .val (.ref b116), .val (.int ex), .val (.int kk), .val .null, .unset] [(.int kk)])) _
        refine XS.ifYes X122.here hx rfl (pc0 := 128) (pc' := 136) rfl (hb hby at_128) rfl ((if0 _ _).trans (feq hc83).2) (by decide) (by decide) ?_
        show Steps p.tables e below (T122.setTop (mkF m 136 #[.val (.int p0), .val (.long q1), .second, .val (.int p3), .val (.long q4), .second, .val (.int p6), .val (.int t2), .val (.long s2), .second, .val (.ref b110), .val (.ref b116), .val (.int ex), .val (.int kk), .val .null, .unset] [])) _
        refine XS.iconst X122.here hx rfl (hb hby at_136) ?_
        show Steps p.tables e below (T122.setTop (mkF m 137 #[.val (.int p0), .val (.long q1), .second, .val (.int p3), .val (.long q4), .second, .val (.int p6), .val (.int t2), .val (.long s2), .second, .val (.ref b110), .val (.ref b116), .val (.int ex), .val (.int kk), .val .null, .unset] [(.int (0 : Int32))])) _
        refine XS.istore X122.here hx rfl (hb hby at_137) rfl (l' := #[.val (.int p0), .val (.long q1), .second, .val (.int p3), .val (.long q4), .second, .val (.int p6), .val (.int t2), .val (.long s2), .second, .val (.ref b110), .val (.ref b116), .val (.int ex), .val (.int kk), .val .null, .val (.int (0 : Int32))]) rfl ?_
        show Steps p.tables e below (T122.setTop (mkF m 139 #[.val (.int p0), .val (.long q1), .second, .val (.int p3), .val (.long q4), .second, .val (.int p6), .val (.int t2), .val (.long s2), .second, .val (.ref b110), .val (.ref b116), .val (.int ex), .val (.int kk), .val .null, .val (.int (0 : Int32))] [])) _
        refine XS.aload X122.here hx rfl (hb hby at_139) rfl rfl ?_
        show Steps p.tables e below (T122.setTop (mkF m 141 #[.val (.int p0), .val (.long q1), .second, .val (.int p3), .val (.long q4), .second, .val (.int p6), .val (.int t2), .val (.long s2), .second, .val (.ref b110), .val (.ref b116), .val (.int ex), .val (.int kk), .val .null, .val (.int (0 : Int32))] [(.ref b110)])) _
        refine XS.aload X122.here hx rfl (hb hby at_141) rfl rfl ?_
        show Steps p.tables e below (T122.setTop (mkF m 143 #[.val (.int p0), .val (.long q1), .second, .val (.int p3), .val (.long q4), .second, .val (.int p6), .val (.int t2), .val (.long s2), .second, .val (.ref b110), .val (.ref b116), .val (.int ex), .val (.int kk), .val .null, .val (.int (0 : Int32))] [.null, (.ref b110)])) _
        exact k)
      obtain ⟨cq140, kq140, q140a, q140b, q140c⟩ := isOf hZ e122 (((A110.keep K113).ext E116).keep K119)
      obtain ⟨_, _, ⟨T140, L140, k140, n140⟩, -, X140, ⟨Lc140, hQ140, l140, y140, z140⟩, st140⟩ := X122.virtualBack hx (y := (⟨"com/example/keen_broker/keenbroker/store/MessageRef", "equals", "(Ljava/lang/Object;)Z"⟩ : MethodName)) (z := (⟨"com/example/keen_broker/keenbroker/store/MessageRef", "equals", "(Ljava/lang/Object;)Z"⟩ : MethodName)) hown (mvT hZ (hw _ (List.mem_of_getElem? (i := 13) rfl))) (mvT hZ (hw _ (List.mem_of_getElem? (i := 14) rfl))) (notFace_of_selects (args := #[]) (mvT hZ (hw _ (List.mem_of_getElem? (i := 16) rfl)))) (mvT hZ (hw _ (List.mem_of_getElem? (i := 16) rfl))) (mvT hZ (hw _ (List.mem_of_getElem? (i := 15) rfl))) (by decide) (backOf (W := 0) (own_eqn l Z a0 hw [] b110 T119.heap n0 (Nat.le_trans (Nat.le_trans (Nat.le_trans (Nat.le_trans Z0 E110.1) K113.1) E116.1) K119.1)) hZ (hw _ (List.mem_of_getElem? (i := 17) rfl)) (hw _ (List.mem_of_getElem? (i := 2) rfl)) (by decide) (by decide)) q140a q140c (g := (mkF m 143 #[.val (.int p0), .val (.long q1), .second, .val (.int p3), .val (.long q4), .second, .val (.int p6), .val (.int t2), .val (.long s2), .second, .val (.ref b110), .val (.ref b116), .val (.int ex), .val (.int kk), .val .null, .val (.int (0 : Int32))] [.null, (.ref b110)])) rfl (by rw [hml]; rfl) (Steps.refl _) (argsL := [.null]) (rest := []) (lenOf pd__Ljava_lang_Object__Z rfl) rfl (by show 2 * 0 + _ ≤ _; exact Nat.le_of_eq rfl) (hb hby at_143) (fun _ _ => ⟨rfl, e122, (by decide : 2 + 0 ≤ _), (by decide : 4 + 0 ≤ _)⟩)
      dsimp only [Pt.U, Pt.locs, Pt.cells, Pt.slots] at X140 l140 y140 z140 st140 hQ140
      subst l140 y140 z140
      obtain ⟨rfl, N140q, s140⟩ := hQ140
      have N140 := Fr.app N122 N140q
      have pp141 : ∀ t, Steps p.tables e below (T140.setTop (mkF m 146 #[.val (.int p0), .val (.long q1), .second, .val (.int p3), .val (.long q4), .second, .val (.int p6), .val (.int t2), .val (.long s2), .second, .val (.ref b110), .val (.ref b116), .val (.int ex), .val (.int kk), .val .null, .val (.int (0 : Int32))] [(.int (0 : Int32))])) t → Steps p.tables e below (s₁.setTop (entryFrame m #[(.int p0), (.long q1), (.int p3), (.long q4), (.int p6)] maxLocals)) t := fun t k => pp139 t (st140.trans k)
      have pp142 : ∀ t, Steps p.tables e below (T140.setTop (mkF m 155 #[.val (.int p0), .val (.long q1), .second, .val (.int p3), .val (.long q4), .second, .val (.int p6), .val (.int t2), .val (.long s2), .second, .val (.ref b110), .val (.ref b116), .val (.int ex), .val (.int kk), .val .null, .val (.int (0 : Int32))] [(.ref b110), (.ref b116)])) t → Steps p.tables e below (s₁.setTop (entryFrame m #[(.int p0), (.long q1), (.int p3), (.long q4), (.int p6)] maxLocals)) t := fun t k => pp141 t (by
        refine XS.iload X140.here hx rfl (hb hby at_146) rfl ?_
        show Steps p.tables e below (T140.setTop (mkF m 148 #[.val (.int p0), .val (.long q1), .second, .val (.int p3), .val (.long q4), .second, .val (.int p6), .val (.int t2), .val (.long s2), .second, .val (.ref b110), .val (.ref b116), .val (.int ex), .val (.int kk), .val .null, .val (.int (0 : Int32))] [(.int (0 : Int32)), (.int (0 : Int32))])) _
        refine XS.icmpNo X140.here hx rfl (hb hby at_148) rfl (teq (by decide : (0 : Int32) = (0 : Int32))).2 ?_
        show Steps p.tables e below (T140.setTop (mkF m 151 #[.val (.int p0), .val (.long q1), .second, .val (.int p3), .val (.long q4), .second, .val (.int p6), .val (.int t2), .val (.long s2), .second, .val (.ref b110), .val (.ref b116), .val (.int ex), .val (.int kk), .val .null, .val (.int (0 : Int32))] [])) _
        refine XS.aload X140.here hx rfl (hb hby at_151) rfl rfl ?_
        show Steps p.tables e below (T140.setTop (mkF m 153 #[.val (.int p0), .val (.long q1), .second, .val (.int p3), .val (.long q4), .second, .val (.int p6), .val (.int t2), .val (.long s2), .second, .val (.ref b110), .val (.ref b116), .val (.int ex), .val (.int kk), .val .null, .val (.int (0 : Int32))] [(.ref b116)])) _
        refine XS.aload X140.here hx rfl (hb hby at_153) rfl rfl ?_
        show Steps p.tables e below (T140.setTop (mkF m 155 #[.val (.int p0), .val (.long q1), .second, .val (.int p3), .val (.long q4), .second, .val (.int p6), .val (.int t2), .val (.long s2), .second, .val (.ref b110), .val (.ref b116), .val (.int ex), .val (.int kk), .val .null, .val (.int (0 : Int32))] [(.ref b110), (.ref b116)])) _
        exact k)
      obtain ⟨cq143, kq143, q143a, q143b, q143c⟩ := isOf hZ s140 (A116.keep K119)
      obtain ⟨_, _, ⟨T143, L143, k143, n143⟩, -, X143, ⟨Lc143, hQ143, l143, y143, z143⟩, st143⟩ := X140.virtualBack hx (y := (⟨"com/example/keen_broker/keenbroker/store/MessageRef", "equals", "(Ljava/lang/Object;)Z"⟩ : MethodName)) (z := (⟨"com/example/keen_broker/keenbroker/store/MessageRef", "equals", "(Ljava/lang/Object;)Z"⟩ : MethodName)) hown (mvT hZ (hw _ (List.mem_of_getElem? (i := 13) rfl))) (mvT hZ (hw _ (List.mem_of_getElem? (i := 14) rfl))) (notFace_of_selects (args := #[]) (mvT hZ (hw _ (List.mem_of_getElem? (i := 16) rfl)))) (mvT hZ (hw _ (List.mem_of_getElem? (i := 16) rfl))) (mvT hZ (hw _ (List.mem_of_getElem? (i := 15) rfl))) (by decide) (backOf (W := 0) (own_eqr l Z a0 hw [] b116 b110 t2 s2 p0 q1 T119.heap n0 (Nat.le_trans (Nat.le_trans (Nat.le_trans (Nat.le_trans Z0 E110.1) K113.1) E116.1) K119.1) Ft119 Fs119 ((Ft113.ext E116).keep K119 (fun q => (Nat.ne_of_lt (Nat.lt_of_lt_of_le (A110.keep K113).lt (Nat.le_of_eq g116.symm))) (List.mem_singleton.mp q))) ((Fs113.ext E116).keep K119 (fun q => (Nat.ne_of_lt (Nat.lt_of_lt_of_le (A110.keep K113).lt (Nat.le_of_eq g116.symm))) (List.mem_singleton.mp q))) (((A110.keep K113).ext E116).keep K119)) hZ (hw _ (List.mem_of_getElem? (i := 17) rfl)) (hw _ (List.mem_of_getElem? (i := 2) rfl)) (by decide) (by decide)) q143a q143c (g := (mkF m 155 #[.val (.int p0), .val (.long q1), .second, .val (.int p3), .val (.long q4), .second, .val (.int p6), .val (.int t2), .val (.long s2), .second, .val (.ref b110), .val (.ref b116), .val (.int ex), .val (.int kk), .val .null, .val (.int (0 : Int32))] [(.ref b110), (.ref b116)])) rfl (by rw [hml]; rfl) (Steps.refl _) (argsL := [(.ref b110)]) (rest := []) (lenOf pd__Ljava_lang_Object__Z rfl) rfl (by show 2 * 0 + _ ≤ _; exact Nat.le_of_eq rfl) (hb hby at_155) (fun _ _ => ⟨rfl, s140, (by decide : 2 + 0 ≤ _), (by decide : 4 + 0 ≤ _)⟩)
      dsimp only [Pt.U, Pt.locs, Pt.cells, Pt.slots] at X143 l143 y143 z143 st143 hQ143
      subst l143 y143 z143
      obtain ⟨rfl, N143q, s143⟩ := hQ143
      have N143 := Fr.app N140 N143q
      have pp144 : ∀ t, Steps p.tables e below (T143.setTop (mkF m 158 #[.val (.int p0), .val (.long q1), .second, .val (.int p3), .val (.long q4), .second, .val (.int p6), .val (.int t2), .val (.long s2), .second, .val (.ref b110), .val (.ref b116), .val (.int ex), .val (.int kk), .val .null, .val (.int (0 : Int32))] [(.int (own_me t2 s2 p0 q1))])) t → Steps p.tables e below (s₁.setTop (entryFrame m #[(.int p0), (.long q1), (.int p3), (.long q4), (.int p6)] maxLocals)) t := fun t k => pp142 t (st143.trans k)
      have pp145 : ∀ t, Steps p.tables e below (T143.setTop (mkF m 167 #[.val (.int p0), .val (.long q1), .second, .val (.int p3), .val (.long q4), .second, .val (.int p6), .val (.int t2), .val (.long s2), .second, .val (.ref b110), .val (.ref b116), .val (.int ex), .val (.int kk), .val .null, .val (.int (0 : Int32))] [(.ref b110), (.ref b110)])) t → Steps p.tables e below (s₁.setTop (entryFrame m #[(.int p0), (.long q1), (.int p3), (.long q4), (.int p6)] maxLocals)) t := fun t k => pp144 t (by
        refine XS.iload X143.here hx rfl (hb hby at_158) rfl ?_
        show Steps p.tables e below (T143.setTop (mkF m 160 #[.val (.int p0), .val (.long q1), .second, .val (.int p3), .val (.long q4), .second, .val (.int p6), .val (.int t2), .val (.long s2), .second, .val (.ref b110), .val (.ref b116), .val (.int ex), .val (.int kk), .val .null, .val (.int (0 : Int32))] [(.int ex), (.int (own_me t2 s2 p0 q1))])) _
        refine XS.icmpNo X143.here hx rfl (hb hby at_160) rfl (teq hex).2 ?_
        show Steps p.tables e below (T143.setTop (mkF m 163 #[.val (.int p0), .val (.long q1), .second, .val (.int p3), .val (.long q4), .second, .val (.int p6), .val (.int t2), .val (.long s2), .second, .val (.ref b110), .val (.ref b116), .val (.int ex), .val (.int kk), .val .null, .val (.int (0 : Int32))] [])) _
        refine XS.aload X143.here hx rfl (hb hby at_163) rfl rfl ?_
        show Steps p.tables e below (T143.setTop (mkF m 165 #[.val (.int p0), .val (.long q1), .second, .val (.int p3), .val (.long q4), .second, .val (.int p6), .val (.int t2), .val (.long s2), .second, .val (.ref b110), .val (.ref b116), .val (.int ex), .val (.int kk), .val .null, .val (.int (0 : Int32))] [(.ref b110)])) _
        refine XS.aload X143.here hx rfl (hb hby at_165) rfl rfl ?_
        show Steps p.tables e below (T143.setTop (mkF m 167 #[.val (.int p0), .val (.long q1), .second, .val (.int p3), .val (.long q4), .second, .val (.int p6), .val (.int t2), .val (.long s2), .second, .val (.ref b110), .val (.ref b116), .val (.int ex), .val (.int kk), .val .null, .val (.int (0 : Int32))] [(.ref b110), (.ref b110)])) _
        exact k)
      obtain ⟨cq146, kq146, q146a, q146b, q146c⟩ := isOf hZ s143 (((A110.keep K113).ext E116).keep K119)
      obtain ⟨_, _, ⟨T146, L146, k146, n146⟩, -, X146, ⟨Lc146, hQ146, l146, y146, z146⟩, st146⟩ := X143.virtualBack hx (y := (⟨"com/example/keen_broker/keenbroker/store/MessageRef", "equals", "(Ljava/lang/Object;)Z"⟩ : MethodName)) (z := (⟨"com/example/keen_broker/keenbroker/store/MessageRef", "equals", "(Ljava/lang/Object;)Z"⟩ : MethodName)) hown (mvT hZ (hw _ (List.mem_of_getElem? (i := 13) rfl))) (mvT hZ (hw _ (List.mem_of_getElem? (i := 14) rfl))) (notFace_of_selects (args := #[]) (mvT hZ (hw _ (List.mem_of_getElem? (i := 16) rfl)))) (mvT hZ (hw _ (List.mem_of_getElem? (i := 16) rfl))) (mvT hZ (hw _ (List.mem_of_getElem? (i := 15) rfl))) (by decide) (backOf (W := 0) (own_eqr l Z a0 hw [] b110 b110 p0 q1 p0 q1 T119.heap n0 (Nat.le_trans (Nat.le_trans (Nat.le_trans (Nat.le_trans Z0 E110.1) K113.1) E116.1) K119.1) ((Ft113.ext E116).keep K119 (fun q => (Nat.ne_of_lt (Nat.lt_of_lt_of_le (A110.keep K113).lt (Nat.le_of_eq g116.symm))) (List.mem_singleton.mp q))) ((Fs113.ext E116).keep K119 (fun q => (Nat.ne_of_lt (Nat.lt_of_lt_of_le (A110.keep K113).lt (Nat.le_of_eq g116.symm))) (List.mem_singleton.mp q))) ((Ft113.ext E116).keep K119 (fun q => (Nat.ne_of_lt (Nat.lt_of_lt_of_le (A110.keep K113).lt (Nat.le_of_eq g116.symm))) (List.mem_singleton.mp q))) ((Fs113.ext E116).keep K119 (fun q => (Nat.ne_of_lt (Nat.lt_of_lt_of_le (A110.keep K113).lt (Nat.le_of_eq g116.symm))) (List.mem_singleton.mp q))) (((A110.keep K113).ext E116).keep K119)) hZ (hw _ (List.mem_of_getElem? (i := 17) rfl)) (hw _ (List.mem_of_getElem? (i := 2) rfl)) (by decide) (by decide)) q146a q146c (g := (mkF m 167 #[.val (.int p0), .val (.long q1), .second, .val (.int p3), .val (.long q4), .second, .val (.int p6), .val (.int t2), .val (.long s2), .second, .val (.ref b110), .val (.ref b116), .val (.int ex), .val (.int kk), .val .null, .val (.int (0 : Int32))] [(.ref b110), (.ref b110)])) rfl (by rw [hml]; rfl) (Steps.refl _) (argsL := [(.ref b110)]) (rest := []) (lenOf pd__Ljava_lang_Object__Z rfl) rfl (by show 2 * 0 + _ ≤ _; exact Nat.le_of_eq rfl) (hb hby at_167) (fun _ _ => ⟨rfl, s143, (by decide : 2 + 0 ≤ _), (by decide : 4 + 0 ≤ _)⟩)
      dsimp only [Pt.U, Pt.locs, Pt.cells, Pt.slots] at X146 l146 y146 z146 st146 hQ146
      subst l146 y146 z146
      obtain ⟨rfl, N146q, s146⟩ := hQ146
      have N146 := Fr.app N143 N146q
      have pp147 : ∀ t, Steps p.tables e below (T146.setTop (mkF m 170 #[.val (.int p0), .val (.long q1), .second, .val (.int p3), .val (.long q4), .second, .val (.int p6), .val (.int t2), .val (.long s2), .second, .val (.ref b110), .val (.ref b116), .val (.int ex), .val (.int kk), .val .null, .val (.int (0 : Int32))] [(.int (own_me p0 q1 p0 q1))])) t → Steps p.tables e below (s₁.setTop (entryFrame m #[(.int p0), (.long q1), (.int p3), (.long q4), (.int p6)] maxLocals)) t := fun t k => pp145 t (st146.trans k)
      have pp148 : ∀ t, Steps p.tables e below (T146.setTop (mkF m 178 #[.val (.int p0), .val (.long q1), .second, .val (.int p3), .val (.long q4), .second, .val (.int p6), .val (.int t2), .val (.long s2), .second, .val (.ref b110), .val (.ref b116), .val (.int ex), .val (.int kk), .val .null, .val (.int (0 : Int32))] [(.int (1 : Int32))])) t → Steps p.tables e below (s₁.setTop (entryFrame m #[(.int p0), (.long q1), (.int p3), (.long q4), (.int p6)] maxLocals)) t := fun t k => pp147 t (by
        refine XS.ifNo X146.here hx rfl (hb hby at_170) rfl ((if0 _ _).trans (feq (by rw [own_me_self]; decide)).1) ?_
        show Steps p.tables e below (T146.setTop (mkF m 173 #[.val (.int p0), .val (.long q1), .second, .val (.int p3), .val (.long q4), .second, .val (.int p6), .val (.int t2), .val (.long s2), .second, .val (.ref b110), .val (.ref b116), .val (.int ex), .val (.int kk), .val .null, .val (.int (0 : Int32))] [])) _
        refine XS.iconst X146.here hx rfl (hb hby at_173) ?_
        show Steps p.tables e below (T146.setTop (mkF m 174 #[.val (.int p0), .val (.long q1), .second, .val (.int p3), .val (.long q4), .second, .val (.int p6), .val (.int t2), .val (.long s2), .second, .val (.ref b110), .val (.ref b116), .val (.int ex), .val (.int kk), .val .null, .val (.int (0 : Int32))] [(.int (1 : Int32))])) _
        refine XS.goto X146.here hx rfl (pc0 := 174) (pc' := 178) rfl (hb hby at_174) (by decide) (by decide) ?_
        show Steps p.tables e below (T146.setTop (mkF m 178 #[.val (.int p0), .val (.long q1), .second, .val (.int p3), .val (.long q4), .second, .val (.int p6), .val (.int t2), .val (.long s2), .second, .val (.ref b110), .val (.ref b116), .val (.int ex), .val (.int kk), .val .null, .val (.int (0 : Int32))] [(.int (1 : Int32))])) _
        exact k)
      obtain ⟨fs, hr, hrun, hended, hW, hsame⟩ := X146.leave (v := some (.int (1 : Int32))) (fun h => by rw [Bd.returns] at h; cases h)
      refine ⟨_, _, pp148 _ ?_, hrun, hended, _, _, rfl, ?_, ⟨_, rfl⟩, hW, hsame.mono (by decide) (by decide)⟩
      · exact retN X146 hx (t := .boolean) Bd.returns (by simp) (hb hby at_178) hr
      · show Q_own_law Z p0 q1 p3 q4 p6 ca cl val cb cm val2 h0 n0 _ T146.heap _
        rw [s146]
        exact ⟨rfl, N146⟩
    · have pp149 : ∀ t, Steps p.tables e below (T122.setTop (mkF m 108 #[.val (.int p0), .val (.long q1), .second, .val (.int p3), .val (.long q4), .second, .val (.int p6), .val (.int t2), .val (.long s2), .second, .val (.ref b110), .val (.ref b116), .val (.int ex), .val (.int kk), .unset, .unset] [(.int (2 : Int32)), (.int kk)])) t → Steps p.tables e below (s₁.setTop (entryFrame m #[(.int p0), (.long q1), (.int p3), (.long q4), (.int p6)] maxLocals)) t := fun t k => pp138 t (by
        refine XS.icmpYes X122.here hx rfl (pc0 := 96) (pc' := 105) rfl (hb hby at_96) rfl (feq hc96).2 (by decide) (by decide) ?_
        show Steps p.tables e below (T122.setTop (mkF m 105 #[.val (.int p0), .val (.long q1), .second, .val (.int p3), .val (.long q4), .second, .val (.int p6), .val (.int t2), .val (.long s2), .second, .val (.ref b110), .val (.ref b116), .val (.int ex), .val (.int kk), .unset, .unset] [])) _
        refine XS.iload X122.here hx rfl (hb hby at_105) rfl ?_
        show Steps p.tables e below (T122.setTop (mkF m 107 #[.val (.int p0), .val (.long q1), .second, .val (.int p3), .val (.long q4), .second, .val (.int p6), .val (.int t2), .val (.long s2), .second, .val (.ref b110), .val (.ref b116), .val (.int ex), .val (.int kk), .unset, .unset] [(.int kk)])) _
        refine XS.iconst X122.here hx rfl (hb hby at_107) ?_
        show Steps p.tables e below (T122.setTop (mkF m 108 #[.val (.int p0), .val (.long q1), .second, .val (.int p3), .val (.long q4), .second, .val (.int p6), .val (.int t2), .val (.long s2), .second, .val (.ref b110), .val (.ref b116), .val (.int ex), .val (.int kk), .unset, .unset] [(.int (2 : Int32)), (.int kk)])) _
        exact k)
      by_cases hc108 : kk = (2 : Int32)
      · have pp150 : ∀ t, Steps p.tables e below (T122.setTop (mkF m 112 #[.val (.int p0), .val (.long q1), .second, .val (.int p3), .val (.long q4), .second, .val (.int p6), .val (.int t2), .val (.long s2), .second, .val (.ref b110), .val (.ref b116), .val (.int ex), .val (.int kk), .unset, .unset] [(.long q1)])) t → Steps p.tables e below (s₁.setTop (entryFrame m #[(.int p0), (.long q1), (.int p3), (.long q4), (.int p6)] maxLocals)) t := fun t k => pp149 t (by
          refine XS.icmpNo X122.here hx rfl (hb hby at_108) rfl (teq hc108).2 ?_
          show Steps p.tables e below (T122.setTop (mkF m 111 #[.val (.int p0), .val (.long q1), .second, .val (.int p3), .val (.long q4), .second, .val (.int p6), .val (.int t2), .val (.long s2), .second, .val (.ref b110), .val (.ref b116), .val (.int ex), .val (.int kk), .unset, .unset] [])) _
          refine XS.lloadN X122.here hx rfl (hb hby at_111) rfl ?_
          show Steps p.tables e below (T122.setTop (mkF m 112 #[.val (.int p0), .val (.long q1), .second, .val (.int p3), .val (.long q4), .second, .val (.int p6), .val (.int t2), .val (.long s2), .second, .val (.ref b110), .val (.ref b116), .val (.int ex), .val (.int kk), .unset, .unset] [(.long q1)])) _
          exact k)
        have O_ext : Ext Z.heap T119.heap := ⟨Nat.le_trans O.1 (own_ext (((((Keep.refl h0 []).ext E110).trans K113 (fun x hx => by cases List.mem_singleton.mp hx; exact Or.inr sz_b110)).ext E116).trans K119 (fun x hx => by cases List.mem_singleton.mp hx; exact Or.inr sz_b116))).1, fun a c q => (own_ext (((((Keep.refl h0 []).ext E110).trans K113 (fun x hx => by cases List.mem_singleton.mp hx; exact Or.inr sz_b110)).ext E116).trans K119 (fun x hx => by cases List.mem_singleton.mp hx; exact Or.inr sz_b116))).2 a c (O.2 a c q)⟩
        obtain ⟨_, _, ⟨T151, L151, k151, n151⟩, -, X151, ⟨Lc151, hQ151, l151, y151, z151⟩, st151⟩ := Jvm.LawKit.callS X122 hx (y := (⟨"java/lang/Long", "valueOf", "(J)Ljava/lang/Long;"⟩ : MethodName)) hown (mvT hZ (hw _ (List.mem_of_getElem? (i := 20) rfl))) (mvT hZ (hw _ (List.mem_of_getElem? (i := 21) rfl))) (mvT hZ (hw _ (List.mem_of_getElem? (i := 22) rfl))) (mvT hZ (hw _ (List.mem_of_getElem? (i := 23) rfl))) (by decide) (backOf (W := 0) (own_lvo l Z a0 hw [] q1 ca cl val T119.heap n0 (Nat.le_trans (Nat.le_trans (Nat.le_trans (Nat.le_trans Z0 E110.1) K113.1) E116.1) K119.1) B1 S1 (O_ext)) hZ (hw _ (List.mem_of_getElem? (i := 23) rfl)) (hw _ (List.mem_of_getElem? (i := 22) rfl)) (by decide) (by decide)) (g := (mkF m 112 #[.val (.int p0), .val (.long q1), .second, .val (.int p3), .val (.long q4), .second, .val (.int p6), .val (.int t2), .val (.long s2), .second, .val (.ref b110), .val (.ref b116), .val (.int ex), .val (.int kk), .unset, .unset] [(.long q1)])) rfl (by rw [hml]; rfl) (argsL := [(.long q1)]) (rest := []) (lenOf pd__J_Ljava_lang_Long_ rfl) rfl (by show 2 * 0 + _ ≤ _; exact Nat.le_of_eq rfl) (hb hby at_112) (fun _ _ => ⟨rfl, e122, (by decide : 2 + 1 ≤ _), (by decide : 4 + 1 ≤ _)⟩)
        dsimp only [Pt.U, Pt.locs, Pt.cells, Pt.slots] at X151 l151 y151 z151 st151 hQ151
        subst l151 y151 z151
        obtain ⟨vb151, rfl, N151q, K151, EE151⟩ := hQ151
        have N151 := Fr.app N122 N151q
        have pp152 : ∀ t, Steps p.tables e below (T151.setTop (mkF m 115 #[.val (.int p0), .val (.long q1), .second, .val (.int p3), .val (.long q4), .second, .val (.int p6), .val (.int t2), .val (.long s2), .second, .val (.ref b110), .val (.ref b116), .val (.int ex), .val (.int kk), .unset, .unset] [(.ref vb151)])) t → Steps p.tables e below (s₁.setTop (entryFrame m #[(.int p0), (.long q1), (.int p3), (.long q4), (.int p6)] maxLocals)) t := fun t k => pp150 t (st151 t k)
        have pp153 : ∀ t, Steps p.tables e below (T151.setTop (mkF m 143 #[.val (.int p0), .val (.long q1), .second, .val (.int p3), .val (.long q4), .second, .val (.int p6), .val (.int t2), .val (.long s2), .second, .val (.ref b110), .val (.ref b116), .val (.int ex), .val (.int kk), .val (.ref vb151), .val (.int (0 : Int32))] [(.ref vb151), (.ref b110)])) t → Steps p.tables e below (s₁.setTop (entryFrame m #[(.int p0), (.long q1), (.int p3), (.long q4), (.int p6)] maxLocals)) t := fun t k => pp152 t (by
          refine XS.astore X151.here hx rfl (hb hby at_115) rfl rfl (l' := #[.val (.int p0), .val (.long q1), .second, .val (.int p3), .val (.long q4), .second, .val (.int p6), .val (.int t2), .val (.long s2), .second, .val (.ref b110), .val (.ref b116), .val (.int ex), .val (.int kk), .val (.ref vb151), .unset]) rfl ?_
          show Steps p.tables e below (T151.setTop (mkF m 117 #[.val (.int p0), .val (.long q1), .second, .val (.int p3), .val (.long q4), .second, .val (.int p6), .val (.int t2), .val (.long s2), .second, .val (.ref b110), .val (.ref b116), .val (.int ex), .val (.int kk), .val (.ref vb151), .unset] [])) _
          refine XS.goto X151.here hx rfl (pc0 := 117) (pc' := 126) rfl (hb hby at_117) (by decide) (by decide) ?_
          show Steps p.tables e below (T151.setTop (mkF m 126 #[.val (.int p0), .val (.long q1), .second, .val (.int p3), .val (.long q4), .second, .val (.int p6), .val (.int t2), .val (.long s2), .second, .val (.ref b110), .val (.ref b116), .val (.int ex), .val (.int kk), .val (.ref vb151), .unset] [])) _
          refine XS.iload X151.here hx rfl (hb hby at_126) rfl ?_
          show Steps p.tables e below (T151.setTop (mkF m 128 #[.val (.int p0), .val (.long q1), .second, .val (.int p3), .val (.long q4), .second, .val (.int p6), .val (.int t2), .val (.long s2), .second, .val (.ref b110), .val (.ref b116), .val (.int ex), .val (.int kk), .val (.ref vb151), .unset] [(.int kk)])) _
          refine XS.ifYes X151.here hx rfl (pc0 := 128) (pc' := 136) rfl (hb hby at_128) rfl ((if0 _ _).trans (feq hc83).2) (by decide) (by decide) ?_
          show Steps p.tables e below (T151.setTop (mkF m 136 #[.val (.int p0), .val (.long q1), .second, .val (.int p3), .val (.long q4), .second, .val (.int p6), .val (.int t2), .val (.long s2), .second, .val (.ref b110), .val (.ref b116), .val (.int ex), .val (.int kk), .val (.ref vb151), .unset] [])) _
          refine XS.iconst X151.here hx rfl (hb hby at_136) ?_
          show Steps p.tables e below (T151.setTop (mkF m 137 #[.val (.int p0), .val (.long q1), .second, .val (.int p3), .val (.long q4), .second, .val (.int p6), .val (.int t2), .val (.long s2), .second, .val (.ref b110), .val (.ref b116), .val (.int ex), .val (.int kk), .val (.ref vb151), .unset] [(.int (0 : Int32))])) _
          refine XS.istore X151.here hx rfl (hb hby at_137) rfl (l' := #[.val (.int p0), .val (.long q1), .second, .val (.int p3), .val (.long q4), .second, .val (.int p6), .val (.int t2), .val (.long s2), .second, .val (.ref b110), .val (.ref b116), .val (.int ex), .val (.int kk), .val (.ref vb151), .val (.int (0 : Int32))]) rfl ?_
          show Steps p.tables e below (T151.setTop (mkF m 139 #[.val (.int p0), .val (.long q1), .second, .val (.int p3), .val (.long q4), .second, .val (.int p6), .val (.int t2), .val (.long s2), .second, .val (.ref b110), .val (.ref b116), .val (.int ex), .val (.int kk), .val (.ref vb151), .val (.int (0 : Int32))] [])) _
          refine XS.aload X151.here hx rfl (hb hby at_139) rfl rfl ?_
          show Steps p.tables e below (T151.setTop (mkF m 141 #[.val (.int p0), .val (.long q1), .second, .val (.int p3), .val (.long q4), .second, .val (.int p6), .val (.int t2), .val (.long s2), .second, .val (.ref b110), .val (.ref b116), .val (.int ex), .val (.int kk), .val (.ref vb151), .val (.int (0 : Int32))] [(.ref b110)])) _
          refine XS.aload X151.here hx rfl (hb hby at_141) rfl rfl ?_
          show Steps p.tables e below (T151.setTop (mkF m 143 #[.val (.int p0), .val (.long q1), .second, .val (.int p3), .val (.long q4), .second, .val (.int p6), .val (.int t2), .val (.long s2), .second, .val (.ref b110), .val (.ref b116), .val (.int ex), .val (.int kk), .val (.ref vb151), .val (.int (0 : Int32))] [(.ref vb151), (.ref b110)])) _
          exact k)
        obtain ⟨cq154, kq154, q154a, q154b, q154c⟩ := isOf hZ rfl ((((A110.keep K113).ext E116).keep K119).keep K151)
        obtain ⟨_, _, ⟨T154, L154, k154, n154⟩, -, X154, ⟨Lc154, hQ154, l154, y154, z154⟩, st154⟩ := X151.virtualBack hx (y := (⟨"com/example/keen_broker/keenbroker/store/MessageRef", "equals", "(Ljava/lang/Object;)Z"⟩ : MethodName)) (z := (⟨"com/example/keen_broker/keenbroker/store/MessageRef", "equals", "(Ljava/lang/Object;)Z"⟩ : MethodName)) hown (mvT hZ (hw _ (List.mem_of_getElem? (i := 13) rfl))) (mvT hZ (hw _ (List.mem_of_getElem? (i := 14) rfl))) (notFace_of_selects (args := #[]) (mvT hZ (hw _ (List.mem_of_getElem? (i := 16) rfl)))) (mvT hZ (hw _ (List.mem_of_getElem? (i := 16) rfl))) (mvT hZ (hw _ (List.mem_of_getElem? (i := 15) rfl))) (by decide) (backOf (W := 0) (own_eqo l Z a0 hw [] b110 vb151 "java/lang/Long" T151.heap n0 (Nat.le_trans (Nat.le_trans (Nat.le_trans (Nat.le_trans (Nat.le_trans Z0 E110.1) K113.1) E116.1) K119.1) K151.1) EE151 (own_no (S2 := "") (hw _ (List.mem_of_getElem? (i := 28) rfl)) (hw _ (List.mem_of_getElem? (i := 29) rfl)) (hw _ (List.mem_of_getElem? (i := 30) rfl)) (hw _ (List.mem_of_getElem? (i := 1) rfl)) (by decide) (by decide) (by decide))) hZ (hw _ (List.mem_of_getElem? (i := 17) rfl)) (hw _ (List.mem_of_getElem? (i := 2) rfl)) (by decide) (by decide)) q154a q154c (g := (mkF m 143 #[.val (.int p0), .val (.long q1), .second, .val (.int p3), .val (.long q4), .second, .val (.int p6), .val (.int t2), .val (.long s2), .second, .val (.ref b110), .val (.ref b116), .val (.int ex), .val (.int kk), .val (.ref vb151), .val (.int (0 : Int32))] [(.ref vb151), (.ref b110)])) rfl (by rw [hml]; rfl) (Steps.refl _) (argsL := [(.ref vb151)]) (rest := []) (lenOf pd__Ljava_lang_Object__Z rfl) rfl (by show 2 * 0 + _ ≤ _; exact Nat.le_of_eq rfl) (hb hby at_143) (fun _ _ => ⟨rfl, rfl, (by decide : 3 + 0 ≤ _), (by decide : 5 + 0 ≤ _)⟩)
        dsimp only [Pt.U, Pt.locs, Pt.cells, Pt.slots] at X154 l154 y154 z154 st154 hQ154
        subst l154 y154 z154
        obtain ⟨rfl, N154q, s154⟩ := hQ154
        have N154 := Fr.app N151 N154q
        have pp155 : ∀ t, Steps p.tables e below (T154.setTop (mkF m 146 #[.val (.int p0), .val (.long q1), .second, .val (.int p3), .val (.long q4), .second, .val (.int p6), .val (.int t2), .val (.long s2), .second, .val (.ref b110), .val (.ref b116), .val (.int ex), .val (.int kk), .val (.ref vb151), .val (.int (0 : Int32))] [(.int (0 : Int32))])) t → Steps p.tables e below (s₁.setTop (entryFrame m #[(.int p0), (.long q1), (.int p3), (.long q4), (.int p6)] maxLocals)) t := fun t k => pp153 t (st154.trans k)
        have pp156 : ∀ t, Steps p.tables e below (T154.setTop (mkF m 155 #[.val (.int p0), .val (.long q1), .second, .val (.int p3), .val (.long q4), .second, .val (.int p6), .val (.int t2), .val (.long s2), .second, .val (.ref b110), .val (.ref b116), .val (.int ex), .val (.int kk), .val (.ref vb151), .val (.int (0 : Int32))] [(.ref b110), (.ref b116)])) t → Steps p.tables e below (s₁.setTop (entryFrame m #[(.int p0), (.long q1), (.int p3), (.long q4), (.int p6)] maxLocals)) t := fun t k => pp155 t (by
          refine XS.iload X154.here hx rfl (hb hby at_146) rfl ?_
          show Steps p.tables e below (T154.setTop (mkF m 148 #[.val (.int p0), .val (.long q1), .second, .val (.int p3), .val (.long q4), .second, .val (.int p6), .val (.int t2), .val (.long s2), .second, .val (.ref b110), .val (.ref b116), .val (.int ex), .val (.int kk), .val (.ref vb151), .val (.int (0 : Int32))] [(.int (0 : Int32)), (.int (0 : Int32))])) _
          refine XS.icmpNo X154.here hx rfl (hb hby at_148) rfl (teq (by decide : (0 : Int32) = (0 : Int32))).2 ?_
          show Steps p.tables e below (T154.setTop (mkF m 151 #[.val (.int p0), .val (.long q1), .second, .val (.int p3), .val (.long q4), .second, .val (.int p6), .val (.int t2), .val (.long s2), .second, .val (.ref b110), .val (.ref b116), .val (.int ex), .val (.int kk), .val (.ref vb151), .val (.int (0 : Int32))] [])) _
          refine XS.aload X154.here hx rfl (hb hby at_151) rfl rfl ?_
          show Steps p.tables e below (T154.setTop (mkF m 153 #[.val (.int p0), .val (.long q1), .second, .val (.int p3), .val (.long q4), .second, .val (.int p6), .val (.int t2), .val (.long s2), .second, .val (.ref b110), .val (.ref b116), .val (.int ex), .val (.int kk), .val (.ref vb151), .val (.int (0 : Int32))] [(.ref b116)])) _
          refine XS.aload X154.here hx rfl (hb hby at_153) rfl rfl ?_
          show Steps p.tables e below (T154.setTop (mkF m 155 #[.val (.int p0), .val (.long q1), .second, .val (.int p3), .val (.long q4), .second, .val (.int p6), .val (.int t2), .val (.long s2), .second, .val (.ref b110), .val (.ref b116), .val (.int ex), .val (.int kk), .val (.ref vb151), .val (.int (0 : Int32))] [(.ref b110), (.ref b116)])) _
          exact k)
        obtain ⟨cq157, kq157, q157a, q157b, q157c⟩ := isOf hZ s154 ((A116.keep K119).keep K151)
        obtain ⟨_, _, ⟨T157, L157, k157, n157⟩, -, X157, ⟨Lc157, hQ157, l157, y157, z157⟩, st157⟩ := X154.virtualBack hx (y := (⟨"com/example/keen_broker/keenbroker/store/MessageRef", "equals", "(Ljava/lang/Object;)Z"⟩ : MethodName)) (z := (⟨"com/example/keen_broker/keenbroker/store/MessageRef", "equals", "(Ljava/lang/Object;)Z"⟩ : MethodName)) hown (mvT hZ (hw _ (List.mem_of_getElem? (i := 13) rfl))) (mvT hZ (hw _ (List.mem_of_getElem? (i := 14) rfl))) (notFace_of_selects (args := #[]) (mvT hZ (hw _ (List.mem_of_getElem? (i := 16) rfl)))) (mvT hZ (hw _ (List.mem_of_getElem? (i := 16) rfl))) (mvT hZ (hw _ (List.mem_of_getElem? (i := 15) rfl))) (by decide) (backOf (W := 0) (own_eqr l Z a0 hw [] b116 b110 t2 s2 p0 q1 T151.heap n0 (Nat.le_trans (Nat.le_trans (Nat.le_trans (Nat.le_trans (Nat.le_trans Z0 E110.1) K113.1) E116.1) K119.1) K151.1) (Ft119.keep K151 (by simp)) (Fs119.keep K151 (by simp)) (((Ft113.ext E116).keep K119 (fun q => (Nat.ne_of_lt (Nat.lt_of_lt_of_le (A110.keep K113).lt (Nat.le_of_eq g116.symm))) (List.mem_singleton.mp q))).keep K151 (by simp)) (((Fs113.ext E116).keep K119 (fun q => (Nat.ne_of_lt (Nat.lt_of_lt_of_le (A110.keep K113).lt (Nat.le_of_eq g116.symm))) (List.mem_singleton.mp q))).keep K151 (by simp)) ((((A110.keep K113).ext E116).keep K119).keep K151)) hZ (hw _ (List.mem_of_getElem? (i := 17) rfl)) (hw _ (List.mem_of_getElem? (i := 2) rfl)) (by decide) (by decide)) q157a q157c (g := (mkF m 155 #[.val (.int p0), .val (.long q1), .second, .val (.int p3), .val (.long q4), .second, .val (.int p6), .val (.int t2), .val (.long s2), .second, .val (.ref b110), .val (.ref b116), .val (.int ex), .val (.int kk), .val (.ref vb151), .val (.int (0 : Int32))] [(.ref b110), (.ref b116)])) rfl (by rw [hml]; rfl) (Steps.refl _) (argsL := [(.ref b110)]) (rest := []) (lenOf pd__Ljava_lang_Object__Z rfl) rfl (by show 2 * 0 + _ ≤ _; exact Nat.le_of_eq rfl) (hb hby at_155) (fun _ _ => ⟨rfl, s154, (by decide : 3 + 0 ≤ _), (by decide : 5 + 0 ≤ _)⟩)
        dsimp only [Pt.U, Pt.locs, Pt.cells, Pt.slots] at X157 l157 y157 z157 st157 hQ157
        subst l157 y157 z157
        obtain ⟨rfl, N157q, s157⟩ := hQ157
        have N157 := Fr.app N154 N157q
        have pp158 : ∀ t, Steps p.tables e below (T157.setTop (mkF m 158 #[.val (.int p0), .val (.long q1), .second, .val (.int p3), .val (.long q4), .second, .val (.int p6), .val (.int t2), .val (.long s2), .second, .val (.ref b110), .val (.ref b116), .val (.int ex), .val (.int kk), .val (.ref vb151), .val (.int (0 : Int32))] [(.int (own_me t2 s2 p0 q1))])) t → Steps p.tables e below (s₁.setTop (entryFrame m #[(.int p0), (.long q1), (.int p3), (.long q4), (.int p6)] maxLocals)) t := fun t k => pp156 t (st157.trans k)
        have pp159 : ∀ t, Steps p.tables e below (T157.setTop (mkF m 167 #[.val (.int p0), .val (.long q1), .second, .val (.int p3), .val (.long q4), .second, .val (.int p6), .val (.int t2), .val (.long s2), .second, .val (.ref b110), .val (.ref b116), .val (.int ex), .val (.int kk), .val (.ref vb151), .val (.int (0 : Int32))] [(.ref b110), (.ref b110)])) t → Steps p.tables e below (s₁.setTop (entryFrame m #[(.int p0), (.long q1), (.int p3), (.long q4), (.int p6)] maxLocals)) t := fun t k => pp158 t (by
          refine XS.iload X157.here hx rfl (hb hby at_158) rfl ?_
          show Steps p.tables e below (T157.setTop (mkF m 160 #[.val (.int p0), .val (.long q1), .second, .val (.int p3), .val (.long q4), .second, .val (.int p6), .val (.int t2), .val (.long s2), .second, .val (.ref b110), .val (.ref b116), .val (.int ex), .val (.int kk), .val (.ref vb151), .val (.int (0 : Int32))] [(.int ex), (.int (own_me t2 s2 p0 q1))])) _
          refine XS.icmpNo X157.here hx rfl (hb hby at_160) rfl (teq hex).2 ?_
          show Steps p.tables e below (T157.setTop (mkF m 163 #[.val (.int p0), .val (.long q1), .second, .val (.int p3), .val (.long q4), .second, .val (.int p6), .val (.int t2), .val (.long s2), .second, .val (.ref b110), .val (.ref b116), .val (.int ex), .val (.int kk), .val (.ref vb151), .val (.int (0 : Int32))] [])) _
          refine XS.aload X157.here hx rfl (hb hby at_163) rfl rfl ?_
          show Steps p.tables e below (T157.setTop (mkF m 165 #[.val (.int p0), .val (.long q1), .second, .val (.int p3), .val (.long q4), .second, .val (.int p6), .val (.int t2), .val (.long s2), .second, .val (.ref b110), .val (.ref b116), .val (.int ex), .val (.int kk), .val (.ref vb151), .val (.int (0 : Int32))] [(.ref b110)])) _
          refine XS.aload X157.here hx rfl (hb hby at_165) rfl rfl ?_
          show Steps p.tables e below (T157.setTop (mkF m 167 #[.val (.int p0), .val (.long q1), .second, .val (.int p3), .val (.long q4), .second, .val (.int p6), .val (.int t2), .val (.long s2), .second, .val (.ref b110), .val (.ref b116), .val (.int ex), .val (.int kk), .val (.ref vb151), .val (.int (0 : Int32))] [(.ref b110), (.ref b110)])) _
          exact k)
        obtain ⟨cq160, kq160, q160a, q160b, q160c⟩ := isOf hZ s157 ((((A110.keep K113).ext E116).keep K119).keep K151)
        obtain ⟨_, _, ⟨T160, L160, k160, n160⟩, -, X160, ⟨Lc160, hQ160, l160, y160, z160⟩, st160⟩ := X157.virtualBack hx (y := (⟨"com/example/keen_broker/keenbroker/store/MessageRef", "equals", "(Ljava/lang/Object;)Z"⟩ : MethodName)) (z := (⟨"com/example/keen_broker/keenbroker/store/MessageRef", "equals", "(Ljava/lang/Object;)Z"⟩ : MethodName)) hown (mvT hZ (hw _ (List.mem_of_getElem? (i := 13) rfl))) (mvT hZ (hw _ (List.mem_of_getElem? (i := 14) rfl))) (notFace_of_selects (args := #[]) (mvT hZ (hw _ (List.mem_of_getElem? (i := 16) rfl)))) (mvT hZ (hw _ (List.mem_of_getElem? (i := 16) rfl))) (mvT hZ (hw _ (List.mem_of_getElem? (i := 15) rfl))) (by decide) (backOf (W := 0) (own_eqr l Z a0 hw [] b110 b110 p0 q1 p0 q1 T151.heap n0 (Nat.le_trans (Nat.le_trans (Nat.le_trans (Nat.le_trans (Nat.le_trans Z0 E110.1) K113.1) E116.1) K119.1) K151.1) (((Ft113.ext E116).keep K119 (fun q => (Nat.ne_of_lt (Nat.lt_of_lt_of_le (A110.keep K113).lt (Nat.le_of_eq g116.symm))) (List.mem_singleton.mp q))).keep K151 (by simp)) (((Fs113.ext E116).keep K119 (fun q => (Nat.ne_of_lt (Nat.lt_of_lt_of_le (A110.keep K113).lt (Nat.le_of_eq g116.symm))) (List.mem_singleton.mp q))).keep K151 (by simp)) (((Ft113.ext E116).keep K119 (fun q => (Nat.ne_of_lt (Nat.lt_of_lt_of_le (A110.keep K113).lt (Nat.le_of_eq g116.symm))) (List.mem_singleton.mp q))).keep K151 (by simp)) (((Fs113.ext E116).keep K119 (fun q => (Nat.ne_of_lt (Nat.lt_of_lt_of_le (A110.keep K113).lt (Nat.le_of_eq g116.symm))) (List.mem_singleton.mp q))).keep K151 (by simp)) ((((A110.keep K113).ext E116).keep K119).keep K151)) hZ (hw _ (List.mem_of_getElem? (i := 17) rfl)) (hw _ (List.mem_of_getElem? (i := 2) rfl)) (by decide) (by decide)) q160a q160c (g := (mkF m 167 #[.val (.int p0), .val (.long q1), .second, .val (.int p3), .val (.long q4), .second, .val (.int p6), .val (.int t2), .val (.long s2), .second, .val (.ref b110), .val (.ref b116), .val (.int ex), .val (.int kk), .val (.ref vb151), .val (.int (0 : Int32))] [(.ref b110), (.ref b110)])) rfl (by rw [hml]; rfl) (Steps.refl _) (argsL := [(.ref b110)]) (rest := []) (lenOf pd__Ljava_lang_Object__Z rfl) rfl (by show 2 * 0 + _ ≤ _; exact Nat.le_of_eq rfl) (hb hby at_167) (fun _ _ => ⟨rfl, s157, (by decide : 3 + 0 ≤ _), (by decide : 5 + 0 ≤ _)⟩)
        dsimp only [Pt.U, Pt.locs, Pt.cells, Pt.slots] at X160 l160 y160 z160 st160 hQ160
        subst l160 y160 z160
        obtain ⟨rfl, N160q, s160⟩ := hQ160
        have N160 := Fr.app N157 N160q
        have pp161 : ∀ t, Steps p.tables e below (T160.setTop (mkF m 170 #[.val (.int p0), .val (.long q1), .second, .val (.int p3), .val (.long q4), .second, .val (.int p6), .val (.int t2), .val (.long s2), .second, .val (.ref b110), .val (.ref b116), .val (.int ex), .val (.int kk), .val (.ref vb151), .val (.int (0 : Int32))] [(.int (own_me p0 q1 p0 q1))])) t → Steps p.tables e below (s₁.setTop (entryFrame m #[(.int p0), (.long q1), (.int p3), (.long q4), (.int p6)] maxLocals)) t := fun t k => pp159 t (st160.trans k)
        have pp162 : ∀ t, Steps p.tables e below (T160.setTop (mkF m 178 #[.val (.int p0), .val (.long q1), .second, .val (.int p3), .val (.long q4), .second, .val (.int p6), .val (.int t2), .val (.long s2), .second, .val (.ref b110), .val (.ref b116), .val (.int ex), .val (.int kk), .val (.ref vb151), .val (.int (0 : Int32))] [(.int (1 : Int32))])) t → Steps p.tables e below (s₁.setTop (entryFrame m #[(.int p0), (.long q1), (.int p3), (.long q4), (.int p6)] maxLocals)) t := fun t k => pp161 t (by
          refine XS.ifNo X160.here hx rfl (hb hby at_170) rfl ((if0 _ _).trans (feq (by rw [own_me_self]; decide)).1) ?_
          show Steps p.tables e below (T160.setTop (mkF m 173 #[.val (.int p0), .val (.long q1), .second, .val (.int p3), .val (.long q4), .second, .val (.int p6), .val (.int t2), .val (.long s2), .second, .val (.ref b110), .val (.ref b116), .val (.int ex), .val (.int kk), .val (.ref vb151), .val (.int (0 : Int32))] [])) _
          refine XS.iconst X160.here hx rfl (hb hby at_173) ?_
          show Steps p.tables e below (T160.setTop (mkF m 174 #[.val (.int p0), .val (.long q1), .second, .val (.int p3), .val (.long q4), .second, .val (.int p6), .val (.int t2), .val (.long s2), .second, .val (.ref b110), .val (.ref b116), .val (.int ex), .val (.int kk), .val (.ref vb151), .val (.int (0 : Int32))] [(.int (1 : Int32))])) _
          refine XS.goto X160.here hx rfl (pc0 := 174) (pc' := 178) rfl (hb hby at_174) (by decide) (by decide) ?_
          show Steps p.tables e below (T160.setTop (mkF m 178 #[.val (.int p0), .val (.long q1), .second, .val (.int p3), .val (.long q4), .second, .val (.int p6), .val (.int t2), .val (.long s2), .second, .val (.ref b110), .val (.ref b116), .val (.int ex), .val (.int kk), .val (.ref vb151), .val (.int (0 : Int32))] [(.int (1 : Int32))])) _
          exact k)
        obtain ⟨fs, hr, hrun, hended, hW, hsame⟩ := X160.leave (v := some (.int (1 : Int32))) (fun h => by rw [Bd.returns] at h; cases h)
        refine ⟨_, _, pp162 _ ?_, hrun, hended, _, _, rfl, ?_, ⟨_, rfl⟩, hW, hsame.mono (by decide) (by decide)⟩
        · exact retN X160 hx (t := .boolean) Bd.returns (by simp) (hb hby at_178) hr
        · show Q_own_law Z p0 q1 p3 q4 p6 ca cl val cb cm val2 h0 n0 _ T160.heap _
          rw [s160]
          exact ⟨rfl, N160⟩
      · have pp163 : ∀ t, Steps p.tables e below (T122.setTop (mkF m 121 #[.val (.int p0), .val (.long q1), .second, .val (.int p3), .val (.long q4), .second, .val (.int p6), .val (.int t2), .val (.long s2), .second, .val (.ref b110), .val (.ref b116), .val (.int ex), .val (.int kk), .unset, .unset] [(.int p0)])) t → Steps p.tables e below (s₁.setTop (entryFrame m #[(.int p0), (.long q1), (.int p3), (.long q4), (.int p6)] maxLocals)) t := fun t k => pp149 t (by
          refine XS.icmpYes X122.here hx rfl (pc0 := 108) (pc' := 120) rfl (hb hby at_108) rfl (feq hc108).2 (by decide) (by decide) ?_
          show Steps p.tables e below (T122.setTop (mkF m 120 #[.val (.int p0), .val (.long q1), .second, .val (.int p3), .val (.long q4), .second, .val (.int p6), .val (.int t2), .val (.long s2), .second, .val (.ref b110), .val (.ref b116), .val (.int ex), .val (.int kk), .unset, .unset] [])) _
          refine XS.iloadN X122.here hx rfl (hb hby at_120) rfl ?_
          show Steps p.tables e below (T122.setTop (mkF m 121 #[.val (.int p0), .val (.long q1), .second, .val (.int p3), .val (.long q4), .second, .val (.int p6), .val (.int t2), .val (.long s2), .second, .val (.ref b110), .val (.ref b116), .val (.int ex), .val (.int kk), .unset, .unset] [(.int p0)])) _
          exact k)
        have O_ext : Ext Z.heap T119.heap := ⟨Nat.le_trans O.1 (own_ext (((((Keep.refl h0 []).ext E110).trans K113 (fun x hx => by cases List.mem_singleton.mp hx; exact Or.inr sz_b110)).ext E116).trans K119 (fun x hx => by cases List.mem_singleton.mp hx; exact Or.inr sz_b116))).1, fun a c q => (own_ext (((((Keep.refl h0 []).ext E110).trans K113 (fun x hx => by cases List.mem_singleton.mp hx; exact Or.inr sz_b110)).ext E116).trans K119 (fun x hx => by cases List.mem_singleton.mp hx; exact Or.inr sz_b116))).2 a c (O.2 a c q)⟩
        obtain ⟨_, _, ⟨T164, L164, k164, n164⟩, -, X164, ⟨Lc164, hQ164, l164, y164, z164⟩, st164⟩ := Jvm.LawKit.callS X122 hx (y := (⟨"java/lang/Integer", "valueOf", "(I)Ljava/lang/Integer;"⟩ : MethodName)) hown (mvT hZ (hw _ (List.mem_of_getElem? (i := 31) rfl))) (mvT hZ (hw _ (List.mem_of_getElem? (i := 32) rfl))) (mvT hZ (hw _ (List.mem_of_getElem? (i := 33) rfl))) (mvT hZ (hw _ (List.mem_of_getElem? (i := 34) rfl))) (by decide) (backOf (W := 0) (own_ivo l Z a0 hw [] p0 cb cm val2 T119.heap n0 (Nat.le_trans (Nat.le_trans (Nat.le_trans (Nat.le_trans Z0 E110.1) K113.1) E116.1) K119.1) B2 S2 (O_ext) S3) hZ (hw _ (List.mem_of_getElem? (i := 34) rfl)) (hw _ (List.mem_of_getElem? (i := 33) rfl)) (by decide) (by decide)) (g := (mkF m 121 #[.val (.int p0), .val (.long q1), .second, .val (.int p3), .val (.long q4), .second, .val (.int p6), .val (.int t2), .val (.long s2), .second, .val (.ref b110), .val (.ref b116), .val (.int ex), .val (.int kk), .unset, .unset] [(.int p0)])) rfl (by rw [hml]; rfl) (argsL := [(.int p0)]) (rest := []) (lenOf pd__I_Ljava_lang_Integer_ rfl) rfl (by show 2 * 0 + _ ≤ _; exact Nat.le_of_eq rfl) (hb hby at_121) (fun _ _ => ⟨rfl, e122, (by decide : 2 + 1 ≤ _), (by decide : 4 + 1 ≤ _)⟩)
        dsimp only [Pt.U, Pt.locs, Pt.cells, Pt.slots] at X164 l164 y164 z164 st164 hQ164
        subst l164 y164 z164
        obtain ⟨vb164, rfl, N164q, K164, EE164⟩ := hQ164
        have N164 := Fr.app N122 N164q
        have pp165 : ∀ t, Steps p.tables e below (T164.setTop (mkF m 124 #[.val (.int p0), .val (.long q1), .second, .val (.int p3), .val (.long q4), .second, .val (.int p6), .val (.int t2), .val (.long s2), .second, .val (.ref b110), .val (.ref b116), .val (.int ex), .val (.int kk), .unset, .unset] [(.ref vb164)])) t → Steps p.tables e below (s₁.setTop (entryFrame m #[(.int p0), (.long q1), (.int p3), (.long q4), (.int p6)] maxLocals)) t := fun t k => pp163 t (st164 t k)
        have pp166 : ∀ t, Steps p.tables e below (T164.setTop (mkF m 143 #[.val (.int p0), .val (.long q1), .second, .val (.int p3), .val (.long q4), .second, .val (.int p6), .val (.int t2), .val (.long s2), .second, .val (.ref b110), .val (.ref b116), .val (.int ex), .val (.int kk), .val (.ref vb164), .val (.int (0 : Int32))] [(.ref vb164), (.ref b110)])) t → Steps p.tables e below (s₁.setTop (entryFrame m #[(.int p0), (.long q1), (.int p3), (.long q4), (.int p6)] maxLocals)) t := fun t k => pp165 t (by
          refine XS.astore X164.here hx rfl (hb hby at_124) rfl rfl (l' := #[.val (.int p0), .val (.long q1), .second, .val (.int p3), .val (.long q4), .second, .val (.int p6), .val (.int t2), .val (.long s2), .second, .val (.ref b110), .val (.ref b116), .val (.int ex), .val (.int kk), .val (.ref vb164), .unset]) rfl ?_
          show Steps p.tables e below (T164.setTop (mkF m 126 #[.val (.int p0), .val (.long q1), .second, .val (.int p3), .val (.long q4), .second, .val (.int p6), .val (.int t2), .val (.long s2), .second, .val (.ref b110), .val (.ref b116), .val (.int ex), .val (.int kk), .val (.ref vb164), .unset] [])) _
          refine XS.iload X164.here hx rfl (hb hby at_126) rfl ?_
          show Steps p.tables e below (T164.setTop (mkF m 128 #[.val (.int p0), .val (.long q1), .second, .val (.int p3), .val (.long q4), .second, .val (.int p6), .val (.int t2), .val (.long s2), .second, .val (.ref b110), .val (.ref b116), .val (.int ex), .val (.int kk), .val (.ref vb164), .unset] [(.int kk)])) _
          refine XS.ifYes X164.here hx rfl (pc0 := 128) (pc' := 136) rfl (hb hby at_128) rfl ((if0 _ _).trans (feq hc83).2) (by decide) (by decide) ?_
          show Steps p.tables e below (T164.setTop (mkF m 136 #[.val (.int p0), .val (.long q1), .second, .val (.int p3), .val (.long q4), .second, .val (.int p6), .val (.int t2), .val (.long s2), .second, .val (.ref b110), .val (.ref b116), .val (.int ex), .val (.int kk), .val (.ref vb164), .unset] [])) _
          refine XS.iconst X164.here hx rfl (hb hby at_136) ?_
          show Steps p.tables e below (T164.setTop (mkF m 137 #[.val (.int p0), .val (.long q1), .second, .val (.int p3), .val (.long q4), .second, .val (.int p6), .val (.int t2), .val (.long s2), .second, .val (.ref b110), .val (.ref b116), .val (.int ex), .val (.int kk), .val (.ref vb164), .unset] [(.int (0 : Int32))])) _
          refine XS.istore X164.here hx rfl (hb hby at_137) rfl (l' := #[.val (.int p0), .val (.long q1), .second, .val (.int p3), .val (.long q4), .second, .val (.int p6), .val (.int t2), .val (.long s2), .second, .val (.ref b110), .val (.ref b116), .val (.int ex), .val (.int kk), .val (.ref vb164), .val (.int (0 : Int32))]) rfl ?_
          show Steps p.tables e below (T164.setTop (mkF m 139 #[.val (.int p0), .val (.long q1), .second, .val (.int p3), .val (.long q4), .second, .val (.int p6), .val (.int t2), .val (.long s2), .second, .val (.ref b110), .val (.ref b116), .val (.int ex), .val (.int kk), .val (.ref vb164), .val (.int (0 : Int32))] [])) _
          refine XS.aload X164.here hx rfl (hb hby at_139) rfl rfl ?_
          show Steps p.tables e below (T164.setTop (mkF m 141 #[.val (.int p0), .val (.long q1), .second, .val (.int p3), .val (.long q4), .second, .val (.int p6), .val (.int t2), .val (.long s2), .second, .val (.ref b110), .val (.ref b116), .val (.int ex), .val (.int kk), .val (.ref vb164), .val (.int (0 : Int32))] [(.ref b110)])) _
          refine XS.aload X164.here hx rfl (hb hby at_141) rfl rfl ?_
          show Steps p.tables e below (T164.setTop (mkF m 143 #[.val (.int p0), .val (.long q1), .second, .val (.int p3), .val (.long q4), .second, .val (.int p6), .val (.int t2), .val (.long s2), .second, .val (.ref b110), .val (.ref b116), .val (.int ex), .val (.int kk), .val (.ref vb164), .val (.int (0 : Int32))] [(.ref vb164), (.ref b110)])) _
          exact k)
        obtain ⟨cq167, kq167, q167a, q167b, q167c⟩ := isOf hZ rfl ((((A110.keep K113).ext E116).keep K119).keep K164)
        obtain ⟨_, _, ⟨T167, L167, k167, n167⟩, -, X167, ⟨Lc167, hQ167, l167, y167, z167⟩, st167⟩ := X164.virtualBack hx (y := (⟨"com/example/keen_broker/keenbroker/store/MessageRef", "equals", "(Ljava/lang/Object;)Z"⟩ : MethodName)) (z := (⟨"com/example/keen_broker/keenbroker/store/MessageRef", "equals", "(Ljava/lang/Object;)Z"⟩ : MethodName)) hown (mvT hZ (hw _ (List.mem_of_getElem? (i := 13) rfl))) (mvT hZ (hw _ (List.mem_of_getElem? (i := 14) rfl))) (notFace_of_selects (args := #[]) (mvT hZ (hw _ (List.mem_of_getElem? (i := 16) rfl)))) (mvT hZ (hw _ (List.mem_of_getElem? (i := 16) rfl))) (mvT hZ (hw _ (List.mem_of_getElem? (i := 15) rfl))) (by decide) (backOf (W := 0) (own_eqo l Z a0 hw [] b110 vb164 "java/lang/Integer" T164.heap n0 (Nat.le_trans (Nat.le_trans (Nat.le_trans (Nat.le_trans (Nat.le_trans Z0 E110.1) K113.1) E116.1) K119.1) K164.1) EE164 (own_no (S2 := "") (hw _ (List.mem_of_getElem? (i := 52) rfl)) (hw _ (List.mem_of_getElem? (i := 29) rfl)) (hw _ (List.mem_of_getElem? (i := 30) rfl)) (hw _ (List.mem_of_getElem? (i := 1) rfl)) (by decide) (by decide) (by decide))) hZ (hw _ (List.mem_of_getElem? (i := 17) rfl)) (hw _ (List.mem_of_getElem? (i := 2) rfl)) (by decide) (by decide)) q167a q167c (g := (mkF m 143 #[.val (.int p0), .val (.long q1), .second, .val (.int p3), .val (.long q4), .second, .val (.int p6), .val (.int t2), .val (.long s2), .second, .val (.ref b110), .val (.ref b116), .val (.int ex), .val (.int kk), .val (.ref vb164), .val (.int (0 : Int32))] [(.ref vb164), (.ref b110)])) rfl (by rw [hml]; rfl) (Steps.refl _) (argsL := [(.ref vb164)]) (rest := []) (lenOf pd__Ljava_lang_Object__Z rfl) rfl (by show 2 * 0 + _ ≤ _; exact Nat.le_of_eq rfl) (hb hby at_143) (fun _ _ => ⟨rfl, rfl, (by decide : 3 + 0 ≤ _), (by decide : 5 + 0 ≤ _)⟩)
        dsimp only [Pt.U, Pt.locs, Pt.cells, Pt.slots] at X167 l167 y167 z167 st167 hQ167
        subst l167 y167 z167
        obtain ⟨rfl, N167q, s167⟩ := hQ167
        have N167 := Fr.app N164 N167q
        have pp168 : ∀ t, Steps p.tables e below (T167.setTop (mkF m 146 #[.val (.int p0), .val (.long q1), .second, .val (.int p3), .val (.long q4), .second, .val (.int p6), .val (.int t2), .val (.long s2), .second, .val (.ref b110), .val (.ref b116), .val (.int ex), .val (.int kk), .val (.ref vb164), .val (.int (0 : Int32))] [(.int (0 : Int32))])) t → Steps p.tables e below (s₁.setTop (entryFrame m #[(.int p0), (.long q1), (.int p3), (.long q4), (.int p6)] maxLocals)) t := fun t k => pp166 t (st167.trans k)
        have pp169 : ∀ t, Steps p.tables e below (T167.setTop (mkF m 155 #[.val (.int p0), .val (.long q1), .second, .val (.int p3), .val (.long q4), .second, .val (.int p6), .val (.int t2), .val (.long s2), .second, .val (.ref b110), .val (.ref b116), .val (.int ex), .val (.int kk), .val (.ref vb164), .val (.int (0 : Int32))] [(.ref b110), (.ref b116)])) t → Steps p.tables e below (s₁.setTop (entryFrame m #[(.int p0), (.long q1), (.int p3), (.long q4), (.int p6)] maxLocals)) t := fun t k => pp168 t (by
          refine XS.iload X167.here hx rfl (hb hby at_146) rfl ?_
          show Steps p.tables e below (T167.setTop (mkF m 148 #[.val (.int p0), .val (.long q1), .second, .val (.int p3), .val (.long q4), .second, .val (.int p6), .val (.int t2), .val (.long s2), .second, .val (.ref b110), .val (.ref b116), .val (.int ex), .val (.int kk), .val (.ref vb164), .val (.int (0 : Int32))] [(.int (0 : Int32)), (.int (0 : Int32))])) _
          refine XS.icmpNo X167.here hx rfl (hb hby at_148) rfl (teq (by decide : (0 : Int32) = (0 : Int32))).2 ?_
          show Steps p.tables e below (T167.setTop (mkF m 151 #[.val (.int p0), .val (.long q1), .second, .val (.int p3), .val (.long q4), .second, .val (.int p6), .val (.int t2), .val (.long s2), .second, .val (.ref b110), .val (.ref b116), .val (.int ex), .val (.int kk), .val (.ref vb164), .val (.int (0 : Int32))] [])) _
          refine XS.aload X167.here hx rfl (hb hby at_151) rfl rfl ?_
          show Steps p.tables e below (T167.setTop (mkF m 153 #[.val (.int p0), .val (.long q1), .second, .val (.int p3), .val (.long q4), .second, .val (.int p6), .val (.int t2), .val (.long s2), .second, .val (.ref b110), .val (.ref b116), .val (.int ex), .val (.int kk), .val (.ref vb164), .val (.int (0 : Int32))] [(.ref b116)])) _
          refine XS.aload X167.here hx rfl (hb hby at_153) rfl rfl ?_
          show Steps p.tables e below (T167.setTop (mkF m 155 #[.val (.int p0), .val (.long q1), .second, .val (.int p3), .val (.long q4), .second, .val (.int p6), .val (.int t2), .val (.long s2), .second, .val (.ref b110), .val (.ref b116), .val (.int ex), .val (.int kk), .val (.ref vb164), .val (.int (0 : Int32))] [(.ref b110), (.ref b116)])) _
          exact k)
        obtain ⟨cq170, kq170, q170a, q170b, q170c⟩ := isOf hZ s167 ((A116.keep K119).keep K164)
        obtain ⟨_, _, ⟨T170, L170, k170, n170⟩, -, X170, ⟨Lc170, hQ170, l170, y170, z170⟩, st170⟩ := X167.virtualBack hx (y := (⟨"com/example/keen_broker/keenbroker/store/MessageRef", "equals", "(Ljava/lang/Object;)Z"⟩ : MethodName)) (z := (⟨"com/example/keen_broker/keenbroker/store/MessageRef", "equals", "(Ljava/lang/Object;)Z"⟩ : MethodName)) hown (mvT hZ (hw _ (List.mem_of_getElem? (i := 13) rfl))) (mvT hZ (hw _ (List.mem_of_getElem? (i := 14) rfl))) (notFace_of_selects (args := #[]) (mvT hZ (hw _ (List.mem_of_getElem? (i := 16) rfl)))) (mvT hZ (hw _ (List.mem_of_getElem? (i := 16) rfl))) (mvT hZ (hw _ (List.mem_of_getElem? (i := 15) rfl))) (by decide) (backOf (W := 0) (own_eqr l Z a0 hw [] b116 b110 t2 s2 p0 q1 T164.heap n0 (Nat.le_trans (Nat.le_trans (Nat.le_trans (Nat.le_trans (Nat.le_trans Z0 E110.1) K113.1) E116.1) K119.1) K164.1) (Ft119.keep K164 (by simp)) (Fs119.keep K164 (by simp)) (((Ft113.ext E116).keep K119 (fun q => (Nat.ne_of_lt (Nat.lt_of_lt_of_le (A110.keep K113).lt (Nat.le_of_eq g116.symm))) (List.mem_singleton.mp q))).keep K164 (by simp)) (((Fs113.ext E116).keep K119 (fun q => (Nat.ne_of_lt (Nat.lt_of_lt_of_le (A110.keep K113).lt (Nat.le_of_eq g116.symm))) (List.mem_singleton.mp q))).keep K164 (by simp)) ((((A110.keep K113).ext E116).keep K119).keep K164)) hZ (hw _ (List.mem_of_getElem? (i := 17) rfl)) (hw _ (List.mem_of_getElem? (i := 2) rfl)) (by decide) (by decide)) q170a q170c (g := (mkF m 155 #[.val (.int p0), .val (.long q1), .second, .val (.int p3), .val (.long q4), .second, .val (.int p6), .val (.int t2), .val (.long s2), .second, .val (.ref b110), .val (.ref b116), .val (.int ex), .val (.int kk), .val (.ref vb164), .val (.int (0 : Int32))] [(.ref b110), (.ref b116)])) rfl (by rw [hml]; rfl) (Steps.refl _) (argsL := [(.ref b110)]) (rest := []) (lenOf pd__Ljava_lang_Object__Z rfl) rfl (by show 2 * 0 + _ ≤ _; exact Nat.le_of_eq rfl) (hb hby at_155) (fun _ _ => ⟨rfl, s167, (by decide : 3 + 0 ≤ _), (by decide : 5 + 0 ≤ _)⟩)
        dsimp only [Pt.U, Pt.locs, Pt.cells, Pt.slots] at X170 l170 y170 z170 st170 hQ170
        subst l170 y170 z170
        obtain ⟨rfl, N170q, s170⟩ := hQ170
        have N170 := Fr.app N167 N170q
        have pp171 : ∀ t, Steps p.tables e below (T170.setTop (mkF m 158 #[.val (.int p0), .val (.long q1), .second, .val (.int p3), .val (.long q4), .second, .val (.int p6), .val (.int t2), .val (.long s2), .second, .val (.ref b110), .val (.ref b116), .val (.int ex), .val (.int kk), .val (.ref vb164), .val (.int (0 : Int32))] [(.int (own_me t2 s2 p0 q1))])) t → Steps p.tables e below (s₁.setTop (entryFrame m #[(.int p0), (.long q1), (.int p3), (.long q4), (.int p6)] maxLocals)) t := fun t k => pp169 t (st170.trans k)
        have pp172 : ∀ t, Steps p.tables e below (T170.setTop (mkF m 167 #[.val (.int p0), .val (.long q1), .second, .val (.int p3), .val (.long q4), .second, .val (.int p6), .val (.int t2), .val (.long s2), .second, .val (.ref b110), .val (.ref b116), .val (.int ex), .val (.int kk), .val (.ref vb164), .val (.int (0 : Int32))] [(.ref b110), (.ref b110)])) t → Steps p.tables e below (s₁.setTop (entryFrame m #[(.int p0), (.long q1), (.int p3), (.long q4), (.int p6)] maxLocals)) t := fun t k => pp171 t (by
          refine XS.iload X170.here hx rfl (hb hby at_158) rfl ?_
          show Steps p.tables e below (T170.setTop (mkF m 160 #[.val (.int p0), .val (.long q1), .second, .val (.int p3), .val (.long q4), .second, .val (.int p6), .val (.int t2), .val (.long s2), .second, .val (.ref b110), .val (.ref b116), .val (.int ex), .val (.int kk), .val (.ref vb164), .val (.int (0 : Int32))] [(.int ex), (.int (own_me t2 s2 p0 q1))])) _
          refine XS.icmpNo X170.here hx rfl (hb hby at_160) rfl (teq hex).2 ?_
          show Steps p.tables e below (T170.setTop (mkF m 163 #[.val (.int p0), .val (.long q1), .second, .val (.int p3), .val (.long q4), .second, .val (.int p6), .val (.int t2), .val (.long s2), .second, .val (.ref b110), .val (.ref b116), .val (.int ex), .val (.int kk), .val (.ref vb164), .val (.int (0 : Int32))] [])) _
          refine XS.aload X170.here hx rfl (hb hby at_163) rfl rfl ?_
          show Steps p.tables e below (T170.setTop (mkF m 165 #[.val (.int p0), .val (.long q1), .second, .val (.int p3), .val (.long q4), .second, .val (.int p6), .val (.int t2), .val (.long s2), .second, .val (.ref b110), .val (.ref b116), .val (.int ex), .val (.int kk), .val (.ref vb164), .val (.int (0 : Int32))] [(.ref b110)])) _
          refine XS.aload X170.here hx rfl (hb hby at_165) rfl rfl ?_
          show Steps p.tables e below (T170.setTop (mkF m 167 #[.val (.int p0), .val (.long q1), .second, .val (.int p3), .val (.long q4), .second, .val (.int p6), .val (.int t2), .val (.long s2), .second, .val (.ref b110), .val (.ref b116), .val (.int ex), .val (.int kk), .val (.ref vb164), .val (.int (0 : Int32))] [(.ref b110), (.ref b110)])) _
          exact k)
        obtain ⟨cq173, kq173, q173a, q173b, q173c⟩ := isOf hZ s170 ((((A110.keep K113).ext E116).keep K119).keep K164)
        obtain ⟨_, _, ⟨T173, L173, k173, n173⟩, -, X173, ⟨Lc173, hQ173, l173, y173, z173⟩, st173⟩ := X170.virtualBack hx (y := (⟨"com/example/keen_broker/keenbroker/store/MessageRef", "equals", "(Ljava/lang/Object;)Z"⟩ : MethodName)) (z := (⟨"com/example/keen_broker/keenbroker/store/MessageRef", "equals", "(Ljava/lang/Object;)Z"⟩ : MethodName)) hown (mvT hZ (hw _ (List.mem_of_getElem? (i := 13) rfl))) (mvT hZ (hw _ (List.mem_of_getElem? (i := 14) rfl))) (notFace_of_selects (args := #[]) (mvT hZ (hw _ (List.mem_of_getElem? (i := 16) rfl)))) (mvT hZ (hw _ (List.mem_of_getElem? (i := 16) rfl))) (mvT hZ (hw _ (List.mem_of_getElem? (i := 15) rfl))) (by decide) (backOf (W := 0) (own_eqr l Z a0 hw [] b110 b110 p0 q1 p0 q1 T164.heap n0 (Nat.le_trans (Nat.le_trans (Nat.le_trans (Nat.le_trans (Nat.le_trans Z0 E110.1) K113.1) E116.1) K119.1) K164.1) (((Ft113.ext E116).keep K119 (fun q => (Nat.ne_of_lt (Nat.lt_of_lt_of_le (A110.keep K113).lt (Nat.le_of_eq g116.symm))) (List.mem_singleton.mp q))).keep K164 (by simp)) (((Fs113.ext E116).keep K119 (fun q => (Nat.ne_of_lt (Nat.lt_of_lt_of_le (A110.keep K113).lt (Nat.le_of_eq g116.symm))) (List.mem_singleton.mp q))).keep K164 (by simp)) (((Ft113.ext E116).keep K119 (fun q => (Nat.ne_of_lt (Nat.lt_of_lt_of_le (A110.keep K113).lt (Nat.le_of_eq g116.symm))) (List.mem_singleton.mp q))).keep K164 (by simp)) (((Fs113.ext E116).keep K119 (fun q => (Nat.ne_of_lt (Nat.lt_of_lt_of_le (A110.keep K113).lt (Nat.le_of_eq g116.symm))) (List.mem_singleton.mp q))).keep K164 (by simp)) ((((A110.keep K113).ext E116).keep K119).keep K164)) hZ (hw _ (List.mem_of_getElem? (i := 17) rfl)) (hw _ (List.mem_of_getElem? (i := 2) rfl)) (by decide) (by decide)) q173a q173c (g := (mkF m 167 #[.val (.int p0), .val (.long q1), .second, .val (.int p3), .val (.long q4), .second, .val (.int p6), .val (.int t2), .val (.long s2), .second, .val (.ref b110), .val (.ref b116), .val (.int ex), .val (.int kk), .val (.ref vb164), .val (.int (0 : Int32))] [(.ref b110), (.ref b110)])) rfl (by rw [hml]; rfl) (Steps.refl _) (argsL := [(.ref b110)]) (rest := []) (lenOf pd__Ljava_lang_Object__Z rfl) rfl (by show 2 * 0 + _ ≤ _; exact Nat.le_of_eq rfl) (hb hby at_167) (fun _ _ => ⟨rfl, s170, (by decide : 3 + 0 ≤ _), (by decide : 5 + 0 ≤ _)⟩)
        dsimp only [Pt.U, Pt.locs, Pt.cells, Pt.slots] at X173 l173 y173 z173 st173 hQ173
        subst l173 y173 z173
        obtain ⟨rfl, N173q, s173⟩ := hQ173
        have N173 := Fr.app N170 N173q
        have pp174 : ∀ t, Steps p.tables e below (T173.setTop (mkF m 170 #[.val (.int p0), .val (.long q1), .second, .val (.int p3), .val (.long q4), .second, .val (.int p6), .val (.int t2), .val (.long s2), .second, .val (.ref b110), .val (.ref b116), .val (.int ex), .val (.int kk), .val (.ref vb164), .val (.int (0 : Int32))] [(.int (own_me p0 q1 p0 q1))])) t → Steps p.tables e below (s₁.setTop (entryFrame m #[(.int p0), (.long q1), (.int p3), (.long q4), (.int p6)] maxLocals)) t := fun t k => pp172 t (st173.trans k)
        have pp175 : ∀ t, Steps p.tables e below (T173.setTop (mkF m 178 #[.val (.int p0), .val (.long q1), .second, .val (.int p3), .val (.long q4), .second, .val (.int p6), .val (.int t2), .val (.long s2), .second, .val (.ref b110), .val (.ref b116), .val (.int ex), .val (.int kk), .val (.ref vb164), .val (.int (0 : Int32))] [(.int (1 : Int32))])) t → Steps p.tables e below (s₁.setTop (entryFrame m #[(.int p0), (.long q1), (.int p3), (.long q4), (.int p6)] maxLocals)) t := fun t k => pp174 t (by
          refine XS.ifNo X173.here hx rfl (hb hby at_170) rfl ((if0 _ _).trans (feq (by rw [own_me_self]; decide)).1) ?_
          show Steps p.tables e below (T173.setTop (mkF m 173 #[.val (.int p0), .val (.long q1), .second, .val (.int p3), .val (.long q4), .second, .val (.int p6), .val (.int t2), .val (.long s2), .second, .val (.ref b110), .val (.ref b116), .val (.int ex), .val (.int kk), .val (.ref vb164), .val (.int (0 : Int32))] [])) _
          refine XS.iconst X173.here hx rfl (hb hby at_173) ?_
          show Steps p.tables e below (T173.setTop (mkF m 174 #[.val (.int p0), .val (.long q1), .second, .val (.int p3), .val (.long q4), .second, .val (.int p6), .val (.int t2), .val (.long s2), .second, .val (.ref b110), .val (.ref b116), .val (.int ex), .val (.int kk), .val (.ref vb164), .val (.int (0 : Int32))] [(.int (1 : Int32))])) _
          refine XS.goto X173.here hx rfl (pc0 := 174) (pc' := 178) rfl (hb hby at_174) (by decide) (by decide) ?_
          show Steps p.tables e below (T173.setTop (mkF m 178 #[.val (.int p0), .val (.long q1), .second, .val (.int p3), .val (.long q4), .second, .val (.int p6), .val (.int t2), .val (.long s2), .second, .val (.ref b110), .val (.ref b116), .val (.int ex), .val (.int kk), .val (.ref vb164), .val (.int (0 : Int32))] [(.int (1 : Int32))])) _
          exact k)
        obtain ⟨fs, hr, hrun, hended, hW, hsame⟩ := X173.leave (v := some (.int (1 : Int32))) (fun h => by rw [Bd.returns] at h; cases h)
        refine ⟨_, _, pp175 _ ?_, hrun, hended, _, _, rfl, ?_, ⟨_, rfl⟩, hW, hsame.mono (by decide) (by decide)⟩
        · exact retN X173 hx (t := .boolean) Bd.returns (by simp) (hb hby at_178) hr
        · show Q_own_law Z p0 q1 p3 q4 p6 ca cl val cb cm val2 h0 n0 _ T173.heap _
          rw [s173]
          exact ⟨rfl, N173⟩
theorem own_eqint {args : Array Value} {s : State} {t : Term} {k : Int32} (h : (Jvm.Cond.eq t (Jvm.Term.int k)).value args s none s [] = some true) : t.eval args s none [] s = some (.int k) := eqv_i (by simp [Term.eval]) h
theorem own_sub {args : Array Value} {s : State} {idx : List Nat} {j : Int32} (h : (Term.index 0).eval args s none idx s = some (.int j)) : (Term.sub (Term.index 0) (Term.int (128 : Int32))).eval args s none idx s = some (.int (j - 128)) := Term.sub_int h (Term.int_eval 128)
set_option maxRecDepth 65536 in
set_option maxHeartbeats 40000000 in
theorem comes_1 {Post : Tables → Env → Array Value → State → Outcome → State → Prop} (hpost : ∀ tb e args s v u, (limb_1_1.after args s (.returned v) u = true ∧ limb_1_2.after args s (.returned v) u = true ∧ True) → FrameEnd s (.returned v) u (Jvm.fieldLocs frame_1_writes args s ++ Jvm.arrayLocs frame_1_arrays args s ++ Jvm.staticLocs frame_1_statics s) 16 128 → Post tb e args s (.returned v) u) :
    ArmFor flags0 classFile x code maxLocals ret World_1 tables_1 room_1 Calls_1 rest_1 Pre_1 Post := by
  intro l hfl _ _ p e ha hc hk s m args below hf hA hF happ hP
  obtain ⟨hcalls, hrest, hpre⟩ := hP
  obtain ⟨-, -, -, hnamed, -, -, -, hat⟩ := (Spec.applies_iff hf).mp happ
  obtain ⟨hg, hn⟩ := and_e (Cond.before_iff.mp (show (Jvm.Cond.and given_1 narrow_1).before args s = true from hpre))
  obtain ⟨gg1, gg2⟩ := and_e hg
  obtain ⟨gg3, gg4⟩ := and_e gg2
  obtain ⟨gg5, gg6⟩ := and_e gg4
  obtain ⟨gg7, gg8⟩ := and_e gg6
  obtain ⟨gg9, gg10⟩ := and_e gg8
  obtain ⟨w0, w1, w2, w3, w4, rfl⟩ : ∃ w0 w1 w2 w3 w4 : Value, args = #[w0, w1, w2, w3, w4] := by
    have hs : args.size = 5 := by simpa [Cond.value, given_1] using gg1
    obtain ⟨L⟩ := args
    match L, hs with
    | [w0, w1, w2, w3, w4], _ => exact ⟨w0, w1, w2, w3, w4, rfl⟩
  have hw := fun d (hd : d ∈ tables_1) => atoms_spec (ws := Jvm.Cond.code x code maxLocals ret :: tables_1) hat d (List.mem_cons_of_mem _ hd)
  have hfit : Fit s := fun {y c} hc i hi => by
    obtain ⟨ha, rfl⟩ := Array.getElem?_eq_some_iff.mp hc
    have q := List.all_eq_true.mp ((Array.all_eq_true_iff_forall_mem.mp hF) _ (Array.getElem_mem ha)) i (List.mem_range.mpr hi)
    simpa [Array.getElem?_eq_getElem hi] using q
  obtain ⟨hsets, hown0⟩ := atoms_of _ (rest_1_c_eq ▸ (show rest_1_c.before _ s = true from hrest))
  have hr0 := Cond.before_iff.mp hown0
  obtain ⟨i0, ei0⟩ := is_v gg3
  obtain rfl : w0 = (.int i0) := Option.some.inj ei0
  obtain ⟨i1, ei1⟩ := isL_v gg5
  obtain rfl : w1 = (.long i1) := Option.some.inj ei1
  obtain ⟨i2, ei2⟩ := is_v gg7
  obtain rfl : w2 = (.int i2) := Option.some.inj ei2
  obtain ⟨i3, ei3⟩ := isL_v gg9
  obtain rfl : w3 = (.long i3) := Option.some.inj ei3
  obtain ⟨i4, ei4⟩ := is_v gg10
  obtain rfl : w4 = (.int i4) := Option.some.inj ei4
  obtain ⟨ca1, et1⟩ := exa_v (Cond.before_iff.mp (hsets _ (List.mem_of_getElem? (i := 3) rfl)))
  obtain ⟨cl1, A1⟩ := Arr.start et1 (Cond.before_iff.mp (hsets _ (List.mem_of_getElem? (i := 2) rfl)))
  have SS1 := Sta.start et1 (Or.inl (hsets _ (List.mem_of_getElem? (i := 1) rfl)))
  have lq1 := own_eqint (Cond.before_iff.mp (hsets _ (List.mem_of_getElem? (i := 4) rfl)))
  obtain ⟨bq1, cq1, l11, l21, l41⟩ := Term.length_spec lq1
  have l31 := SBG.length_lt l11 l21 lq1
  cases et1.symm.trans l11
  cases (A1.fin (Vm.Alike.refl _)).symm.trans l21
  have B1 := Bxs.start (fun _ => et1) A1 l31 (Value.int.inj l41.symm) (by decide) (Cond.before_iff.mp (hsets _ (List.mem_of_getElem? (i := 5) rfl))) (val := fun j => .long (j - (128 : Int32)).toInt64) (fun X j nn h => eqv_l (i2l_at (own_sub (idx_at nn))) h)
  obtain ⟨ca2, et2⟩ := exa_v (Cond.before_iff.mp (hsets _ (List.mem_of_getElem? (i := 11) rfl)))
  obtain ⟨cl2, A2⟩ := Arr.start et2 (Cond.before_iff.mp (hsets _ (List.mem_of_getElem? (i := 10) rfl)))
  have SS2 := Sta.start et2 (Or.inr ⟨(hw _ (List.mem_of_getElem? (i := 36) rfl)), (hsets _ (List.mem_of_getElem? (i := 8) rfl))⟩)
  have lq2 := own_eqint (Cond.before_iff.mp (hsets _ (List.mem_of_getElem? (i := 12) rfl)))
  obtain ⟨bq2, cq2, l12, l22, l42⟩ := Term.length_spec lq2
  have l32 := SBG.length_lt l12 l22 lq2
  cases et2.symm.trans l12
  cases (A2.fin (Vm.Alike.refl _)).symm.trans l22
  have B2 := Bxs.start (fun _ => et2) A2 l32 (Value.int.inj l42.symm) (by decide) (Cond.before_iff.mp (hsets _ (List.mem_of_getElem? (i := 13) rfl))) (val := fun j => .int (j - (128 : Int32))) (fun X j nn h => eqv_i (own_sub (idx_at nn)) h)
  have S3 := Sta.start (own_eqint (Cond.before_iff.mp (hsets _ (List.mem_of_getElem? (i := 9) rfl)))) (Or.inl (hsets _ (List.mem_of_getElem? (i := 7) rfl)))
  obtain ⟨n, o, h1, h2, h3, _, L, rfl, ⟨rfl, N⟩, hq⟩ := own_law l s _ hw tables_1 i0 i1 i2 i3 i4 ca1 cl1 _ ca2 cl2 _ s.heap s.heap.size (Nat.le_refl _) B1 SS1 B2 SS2 S3 ⟨Nat.le_refl _, fun _ _ q => q⟩ p e ha hc hk s m _ below hf ((Spec.applies_iff_loose hf).mp happ).1 ⟨rfl, State.Warmed39.refl s, rfl⟩ trivial
  refine ⟨n, _, h1, h2, h3, hpost _ _ _ _ _ _ ⟨Cond.after_iff.mpr rfl, Cond.after_iff.mpr (eq_i res_at (Term.int_eval (1)) rfl), trivial⟩ ⟨hq.1, hq.2.1, (hq.2.2.sift fun y hy => Or.inr (N y hy)).mono (by decide) (by decide)⟩⟩
theorem main_1_1 : Claimed_1_1 := comes_1 fun _ _ _ _ _ _ h hF => ⟨h.1, hF⟩
theorem main_1_2 : Claimed_1_2 := comes_1 fun _ _ _ _ _ _ h hF => ⟨h.2.1, hF⟩
end Jvm.Pilot.@@N@@
namespace Jvm.Pilot.@@N@@
open Jvm Jvm.ClassFile Sem Op Lib Jvm.Free Jvm.Stand Jvm.Pilot.@@N@@.Jvm.D
/-! MADE BY PROGRAM (witnessworld.py) out of the Statement's table words and the real class files: 19 classes; the members and pool entries that the words name. The judged class is class 1, her method 1. -/
namespace start1
open Jvm.ClassFile
def u (s : String) : CpInfo := .utf8 (stringToUtf16 s)
/-- a pool by its gaps: so many unusable entries, then the entry; so many at the end -/
def gap : Nat → List CpInfo → List CpInfo
  | 0, r => r
  | n + 1, r => .unusable :: gap n r
def poolList (es : List (Nat × CpInfo)) (last : Nat) : List CpInfo := es.foldr (fun e r => gap e.1 (e.2 :: r)) (gap last [])
def pool (es : List (Nat × CpInfo)) (last : Nat) : Array CpInfo := ⟨poolList es last⟩
def fileOf (pool : Array CpInfo) (this : Nat) (attrs : Array Attribute := #[]) (ms : Array MethodInfo := #[]) (fl : Nat := 33) (sup : Nat := 0) (ifs : Array Nat := #[]) (fds : Array FieldInfo := #[]) : ClassFile where
  minorVersion := 0
  majorVersion := 65
  constantPool := pool
  accessFlags := fl
  thisClass := this
  superClass := sup
  interfaces := ifs
  fields := fds
  methods := ms
  attributes := attrs
def plain (name : String) (sup : Option ClassId) : Class where
  name := name
  kind := .ordinary
  loader := none
  accessFlags := 33
  super := sup
  interfaces := #[]
  cf := none
  fields := #[]
  methods := #[]
  instanceTypes := #[]
  staticTypes := #[]
  resolved := #[]
  callSites := []
  init := .initialized
  statics := none
  mirror := none

def pool0 : Array CpInfo := pool [(5, u "<init>"), (0, u "()V"), (1, .class_ 10), (1, u "java/lang/Object")] 113

def k0c0 : Code := { maxStack := 0, maxLocals := 1, code := object_method_1_code, exceptionTable := #[], attributes := #[] }
def k0m0 : Method := { name := "<init>", desc := "()V", sig := { parameters := [], returnType := none }, accessFlags := 1, code := some k0c0 }
/-- java/lang/Object -/
def k0 : Class := { plain "java/lang/Object" none with
  accessFlags := 33
  interfaces := #[]
  cf := some (fileOf pool0 8 #[] #[{ accessFlags := 1, nameIndex := 5, descriptorIndex := 6, attributes := #[] }] 33 0 #[] #[])
  fields := #[]
  methods := #[k0m0]
  instanceTypes := #[]
  staticTypes := #[]
  resolved := Array.replicate 124 none
  statics := none }

def pool1 : Array CpInfo := pool [(2, .class_ 4), (1, u "java/lang/Object"), (0, u "<init>"), (0, u "()V"), (0, .class_ 8), (0, u "com/example/keen_broker/keenbroker/store/MessageRef"), (0, .methodref 7 10), (0, .nameAndType 5 11), (0, u "(IJ)V"), (0, .methodref 13 14), (0, .class_ 15), (0, .nameAndType 16 17), (0, u "java/lang/Long"), (0, u "valueOf"), (0, u "(J)Ljava/lang/Long;"), (0, .methodref 19 20), (0, .class_ 21), (0, .nameAndType 16 22), (0, u "java/lang/Integer"), (0, u "(I)Ljava/lang/Integer;"), (0, .methodref 7 24), (0, .nameAndType 25 26), (0, u "equals"), (0, u "(Ljava/lang/Object;)Z"), (0, .class_ 28), (0, u "com/example/keen_broker/keenbroker/store/MessageRefEqualsPinLaw"), (2, u "law"), (0, u "(IJIJI)Z")] 3

def k1m0 : Method := { name := "<init>", desc := "()V", sig := { parameters := [], returnType := none }, accessFlags := 1, code := none }
def k1c1 : Code := { maxStack := 5, maxLocals := 16, code := code, exceptionTable := #[], attributes := #[] }
def k1m1 : Method := { name := "law", desc := "(IJIJI)Z", sig := { parameters := [.int, .long, .int, .long, .int], returnType := some .boolean }, accessFlags := 9, code := some k1c1 }
/-- com/example/keen_broker/keenbroker/store/MessageRefEqualsPinLaw -/
def k1 : Class := { plain "com/example/keen_broker/keenbroker/store/MessageRefEqualsPinLaw" (some 0) with
  accessFlags := 49
  interfaces := #[]
  cf := some (fileOf pool1 27 #[] #[{ accessFlags := 1, nameIndex := 5, descriptorIndex := 6, attributes := #[] }, { accessFlags := 9, nameIndex := 31, descriptorIndex := 32, attributes := #[] }] 49 2 #[] #[])
  fields := #[]
  methods := #[k1m0, k1m1]
  instanceTypes := #[]
  staticTypes := #[]
  resolved := Array.replicate 36 none
  statics := none }

def pool2 : Array CpInfo := pool [(1, .methodref 2 3), (0, .class_ 4), (0, .nameAndType 5 6), (0, u "java/lang/Object"), (0, u "<init>"), (0, u "()V"), (0, .fieldref 8 9), (0, .class_ 10), (0, .nameAndType 11 12), (0, u "com/example/keen_broker/keenbroker/store/MessageRef"), (0, u "topicLog"), (0, u "I"), (0, .fieldref 8 14), (0, .nameAndType 15 16), (0, u "sequence"), (0, u "J"), (10, u "NO_SEQUENCE"), (3, u "(IJ)V"), (4, u "equals"), (0, u "(Ljava/lang/Object;)Z")] 20

def k2c0 : Code := { maxStack := 3, maxLocals := 4, code := prog_92_method_1_code, exceptionTable := #[], attributes := #[] }
def k2m0 : Method := { name := "<init>", desc := "(IJ)V", sig := { parameters := [.int, .long], returnType := none }, accessFlags := 1, code := some k2c0 }
def k2c1 : Code := { maxStack := 4, maxLocals := 3, code := prog_92_method_4_code, exceptionTable := #[], attributes := #[] }
def k2m1 : Method := { name := "equals", desc := "(Ljava/lang/Object;)Z", sig := { parameters := [(.object "java/lang/Object")], returnType := some .boolean }, accessFlags := 1, code := some k2c1 }
/-- com/example/keen_broker/keenbroker/store/MessageRef -/
def k2 : Class := { plain "com/example/keen_broker/keenbroker/store/MessageRef" (some 0) with
  accessFlags := 49
  interfaces := #[]
  cf := some (fileOf pool2 8 #[] #[{ accessFlags := 1, nameIndex := 5, descriptorIndex := 31, attributes := #[] }, { accessFlags := 1, nameIndex := 36, descriptorIndex := 37, attributes := #[] }] 49 2 #[] #[{ accessFlags := 25, nameIndex := 27, descriptorIndex := 16, attributes := #[] }, { accessFlags := 18, nameIndex := 11, descriptorIndex := 12, attributes := #[] }, { accessFlags := 18, nameIndex := 15, descriptorIndex := 16, attributes := #[] }])
  fields := #[{ name := "NO_SEQUENCE", type := .long, accessFlags := 25, slot := 0, constantValue := 0 }, { name := "topicLog", type := .int, accessFlags := 18, slot := 0, constantValue := 0 }, { name := "sequence", type := .long, accessFlags := 18, slot := 1, constantValue := 0 }]
  methods := #[k2m0, k2m1]
  instanceTypes := #[.int, .long]
  staticTypes := #[.long]
  resolved := Array.replicate 58 none
  statics := none }

def pool3 : Array CpInfo := pool [(1, .class_ 2), (0, u "java/io/Serializable"), (0, .class_ 4), (0, u "java/lang/Object")] 2

/-- java/io/Serializable -/
def k3 : Class := { plain "java/io/Serializable" (some 0) with
  accessFlags := 1537
  interfaces := #[]
  cf := some (fileOf pool3 1 #[] #[] 1537 3 #[] #[])
  fields := #[]
  methods := #[]
  instanceTypes := #[]
  staticTypes := #[]
  resolved := Array.replicate 7 none
  statics := none }

def pool4 : Array CpInfo := pool [(1, .methodref 2 3), (0, .class_ 4), (0, .nameAndType 5 6), (0, u "java/lang/Object"), (0, u "<init>"), (0, u "()V"), (1, .class_ 10), (1, u "java/lang/Number"), (2, .class_ 14), (0, u "java/io/Serializable"), (0, u "serialVersionUID"), (0, u "J")] 20

def k4c0 : Code := { maxStack := 1, maxLocals := 1, code := jdk_18_method_1_code, exceptionTable := #[], attributes := #[] }
def k4m0 : Method := { name := "<init>", desc := "()V", sig := { parameters := [], returnType := none }, accessFlags := 1, code := some k4c0 }
/-- java/lang/Number -/
def k4 : Class := { plain "java/lang/Number" (some 0) with
  accessFlags := 1057
  interfaces := #[3]
  cf := some (fileOf pool4 8 #[] #[{ accessFlags := 1, nameIndex := 5, descriptorIndex := 6, attributes := #[] }] 1057 2 #[13] #[{ accessFlags := 26, nameIndex := 15, descriptorIndex := 16, attributes := #[] }])
  fields := #[{ name := "serialVersionUID", type := .long, accessFlags := 26, slot := 0, constantValue := 0 }]
  methods := #[k4m0]
  instanceTypes := #[]
  staticTypes := #[.long]
  resolved := Array.replicate 37 none
  statics := none }

def pool5 : Array CpInfo := pool [(1, .class_ 2), (0, u "java/lang/Comparable"), (0, .class_ 4), (0, u "java/lang/Object")] 7

/-- java/lang/Comparable -/
def k5 : Class := { plain "java/lang/Comparable" (some 0) with
  accessFlags := 1537
  interfaces := #[]
  cf := some (fileOf pool5 1 #[] #[] 1537 3 #[] #[])
  fields := #[]
  methods := #[]
  instanceTypes := #[]
  staticTypes := #[]
  resolved := Array.replicate 12 none
  statics := none }

def pool6 : Array CpInfo := pool [(1, .class_ 2), (0, u "java/lang/constant/Constable"), (0, .class_ 4), (0, u "java/lang/Object")] 6

/-- java/lang/constant/Constable -/
def k6 : Class := { plain "java/lang/constant/Constable" (some 0) with
  accessFlags := 1537
  interfaces := #[]
  cf := some (fileOf pool6 1 #[] #[] 1537 3 #[] #[])
  fields := #[]
  methods := #[]
  instanceTypes := #[]
  staticTypes := #[]
  resolved := Array.replicate 11 none
  statics := none }

def pool7 : Array CpInfo := pool [(1, .class_ 2), (0, u "java/lang/constant/ConstantDesc"), (0, .class_ 4), (0, u "java/lang/Object")] 32

/-- java/lang/constant/ConstantDesc -/
def k7 : Class := { plain "java/lang/constant/ConstantDesc" (some 0) with
  accessFlags := 1537
  interfaces := #[]
  cf := some (fileOf pool7 1 #[] #[] 1537 3 #[] #[])
  fields := #[]
  methods := #[]
  instanceTypes := #[]
  staticTypes := #[]
  resolved := Array.replicate 37 none
  statics := none }

def pool8 : Array CpInfo := pool [(1, .class_ 2), (0, u "java/lang/Long"), (55, .nameAndType 59 60), (0, u "<init>"), (0, u "()V"), (24, u "valueOf"), (143, u "(J)Ljava/lang/Long;"), (0, .long 18446744073709551488), (1, .long 127), (1, .fieldref 235 236), (0, .class_ 237), (0, .nameAndType 238 239), (0, u "java/lang/Long$LongCache"), (0, u "cache"), (0, u "[Ljava/lang/Long;"), (0, .methodref 1 241), (0, .nameAndType 59 242), (0, u "(J)V"), (27, .methodref 271 58), (0, .class_ 272), (0, u "java/lang/Number"), (0, .fieldref 1 274), (0, .nameAndType 275 276), (0, u "value"), (0, u "J"), (84, u "TYPE"), (0, u "Ljava/lang/Class;"), (0, .class_ 364), (0, u "java/lang/Comparable"), (0, .class_ 366), (0, u "java/lang/constant/Constable"), (0, .class_ 368), (0, u "java/lang/constant/ConstantDesc"), (0, u "MIN_VALUE"), (1, u "MAX_VALUE"), (4, u "SIZE"), (0, u "I"), (1, u "BYTES"), (1, u "serialVersionUID")] 142

def k8c0 : Code := { maxStack := 4, maxLocals := 3, code := jdk_35_method_24_code, exceptionTable := #[], attributes := #[] }
def k8m0 : Method := { name := "valueOf", desc := "(J)Ljava/lang/Long;", sig := { parameters := [.long], returnType := some (.object "java/lang/Long") }, accessFlags := 9, code := some k8c0 }
def k8c1 : Code := { maxStack := 3, maxLocals := 3, code := jdk_35_method_26_code, exceptionTable := #[], attributes := #[] }
def k8m1 : Method := { name := "<init>", desc := "(J)V", sig := { parameters := [.long], returnType := none }, accessFlags := 1, code := some k8c1 }
/-- java/lang/Long -/
def k8 : Class := { plain "java/lang/Long" (some 4) with
  accessFlags := 49
  interfaces := #[5, 6, 7]
  cf := some (fileOf pool8 1 #[.nestMembers #[235]] #[{ accessFlags := 9, nameIndex := 85, descriptorIndex := 229, attributes := #[] }, { accessFlags := 1, nameIndex := 59, descriptorIndex := 242, attributes := #[] }] 49 271 #[363, 365, 367] #[{ accessFlags := 25, nameIndex := 369, descriptorIndex := 276, attributes := #[] }, { accessFlags := 25, nameIndex := 371, descriptorIndex := 276, attributes := #[] }, { accessFlags := 25, nameIndex := 361, descriptorIndex := 362, attributes := #[] }, { accessFlags := 18, nameIndex := 275, descriptorIndex := 276, attributes := #[] }, { accessFlags := 25, nameIndex := 376, descriptorIndex := 377, attributes := #[] }, { accessFlags := 25, nameIndex := 379, descriptorIndex := 377, attributes := #[] }, { accessFlags := 26, nameIndex := 381, descriptorIndex := 276, attributes := #[] }])
  fields := #[{ name := "MIN_VALUE", type := .long, accessFlags := 25, slot := 0, constantValue := 0 }, { name := "MAX_VALUE", type := .long, accessFlags := 25, slot := 1, constantValue := 0 }, { name := "TYPE", type := (.object "java/lang/Class"), accessFlags := 25, slot := 2, constantValue := 0 }, { name := "value", type := .long, accessFlags := 18, slot := 0, constantValue := 0 }, { name := "SIZE", type := .int, accessFlags := 25, slot := 3, constantValue := 0 }, { name := "BYTES", type := .int, accessFlags := 25, slot := 4, constantValue := 0 }, { name := "serialVersionUID", type := .long, accessFlags := 26, slot := 5, constantValue := 0 }]
  methods := #[k8m0, k8m1]
  instanceTypes := #[.long]
  staticTypes := #[.long, .long, (.object "java/lang/Class"), .int, .int, .long]
  resolved := Array.replicate 524 none
  statics := none }

def pool9 : Array CpInfo := pool [(2, .class_ 4), (1, u "java/lang/Object"), (0, u "<init>"), (0, u "()V"), (0, .class_ 8), (0, u "java/lang/Long"), (7, .class_ 18), (1, u "java/lang/Long$LongCache"), (0, u "$assertionsDisabled"), (0, u "Z"), (8, u "archivedCache"), (0, u "[Ljava/lang/Long;"), (7, u "cache")] 24

def k9m0 : Method := { name := "<init>", desc := "()V", sig := { parameters := [], returnType := none }, accessFlags := 2, code := none }
/-- java/lang/Long$LongCache -/
def k9 : Class := { plain "java/lang/Long$LongCache" (some 0) with
  accessFlags := 48
  interfaces := #[]
  cf := some (fileOf pool9 16 #[.nestHost 7] #[{ accessFlags := 2, nameIndex := 5, descriptorIndex := 6, attributes := #[] }] 48 2 #[] #[{ accessFlags := 24, nameIndex := 38, descriptorIndex := 30, attributes := #[] }, { accessFlags := 8, nameIndex := 29, descriptorIndex := 30, attributes := #[] }, { accessFlags := 4120, nameIndex := 19, descriptorIndex := 20, attributes := #[] }])
  fields := #[{ name := "cache", type := (.array (.object "java/lang/Long")), accessFlags := 24, slot := 0, constantValue := 0 }, { name := "archivedCache", type := (.array (.object "java/lang/Long")), accessFlags := 8, slot := 1, constantValue := 0 }, { name := "$assertionsDisabled", type := .boolean, accessFlags := 4120, slot := 2, constantValue := 0 }]
  methods := #[k9m0]
  instanceTypes := #[]
  staticTypes := #[(.array (.object "java/lang/Long")), (.array (.object "java/lang/Long")), .boolean]
  resolved := Array.replicate 63 none
  statics := some 0 }

def pool10 : Array CpInfo := pool [(1, .class_ 2), (0, u "java/lang/Integer"), (16, u "digits"), (0, u "[C"), (46, u "<init>"), (17, u "DigitOnes"), (0, u "[B"), (2, u "DigitTens"), (10, .nameAndType 67 101), (0, u "()V"), (85, u "valueOf"), (0, u "(I)Ljava/lang/Integer;"), (0, .class_ 190), (0, u "java/lang/Integer$IntegerCache"), (0, .fieldref 189 192), (0, .nameAndType 193 194), (0, u "high"), (0, u "I"), (0, .fieldref 189 196), (0, .nameAndType 197 198), (0, u "cache"), (0, u "[Ljava/lang/Integer;"), (0, .methodref 1 200), (0, .nameAndType 67 201), (0, u "(I)V"), (0, .methodref 203 100), (0, .class_ 204), (0, u "java/lang/Number"), (0, .fieldref 1 206), (0, .nameAndType 207 194), (0, u "value"), (94, u "TYPE"), (0, u "Ljava/lang/Class;"), (0, .class_ 305), (0, u "java/lang/Comparable"), (0, .class_ 307), (0, u "java/lang/constant/Constable"), (0, .class_ 309), (0, u "java/lang/constant/ConstantDesc"), (0, u "MIN_VALUE"), (1, u "MAX_VALUE"), (3, u "SIZE"), (1, u "BYTES"), (1, u "serialVersionUID"), (0, u "J")] 131

def k10c0 : Code := { maxStack := 3, maxLocals := 1, code := jdk_33_method_22_code, exceptionTable := #[], attributes := #[] }
def k10m0 : Method := { name := "valueOf", desc := "(I)Ljava/lang/Integer;", sig := { parameters := [.int], returnType := some (.object "java/lang/Integer") }, accessFlags := 9, code := some k10c0 }
def k10c1 : Code := { maxStack := 2, maxLocals := 2, code := jdk_33_method_23_code, exceptionTable := #[], attributes := #[] }
def k10m1 : Method := { name := "<init>", desc := "(I)V", sig := { parameters := [.int], returnType := none }, accessFlags := 1, code := some k10c1 }
/-- java/lang/Integer -/
def k10 : Class := { plain "java/lang/Integer" (some 4) with
  accessFlags := 49
  interfaces := #[5, 6, 7]
  cf := some (fileOf pool10 1 #[.nestMembers #[189]] #[{ accessFlags := 9, nameIndex := 187, descriptorIndex := 188, attributes := #[] }, { accessFlags := 1, nameIndex := 67, descriptorIndex := 201, attributes := #[] }] 49 203 #[304, 306, 308] #[{ accessFlags := 25, nameIndex := 310, descriptorIndex := 194, attributes := #[] }, { accessFlags := 25, nameIndex := 312, descriptorIndex := 194, attributes := #[] }, { accessFlags := 25, nameIndex := 302, descriptorIndex := 303, attributes := #[] }, { accessFlags := 24, nameIndex := 19, descriptorIndex := 20, attributes := #[] }, { accessFlags := 24, nameIndex := 89, descriptorIndex := 86, attributes := #[] }, { accessFlags := 24, nameIndex := 85, descriptorIndex := 86, attributes := #[] }, { accessFlags := 18, nameIndex := 207, descriptorIndex := 194, attributes := #[] }, { accessFlags := 25, nameIndex := 316, descriptorIndex := 194, attributes := #[] }, { accessFlags := 25, nameIndex := 318, descriptorIndex := 194, attributes := #[] }, { accessFlags := 26, nameIndex := 320, descriptorIndex := 321, attributes := #[] }])
  fields := #[{ name := "MIN_VALUE", type := .int, accessFlags := 25, slot := 0, constantValue := 0 }, { name := "MAX_VALUE", type := .int, accessFlags := 25, slot := 1, constantValue := 0 }, { name := "TYPE", type := (.object "java/lang/Class"), accessFlags := 25, slot := 2, constantValue := 0 }, { name := "digits", type := (.array .char), accessFlags := 24, slot := 3, constantValue := 0 }, { name := "DigitTens", type := (.array .byte), accessFlags := 24, slot := 4, constantValue := 0 }, { name := "DigitOnes", type := (.array .byte), accessFlags := 24, slot := 5, constantValue := 0 }, { name := "value", type := .int, accessFlags := 18, slot := 0, constantValue := 0 }, { name := "SIZE", type := .int, accessFlags := 25, slot := 6, constantValue := 0 }, { name := "BYTES", type := .int, accessFlags := 25, slot := 7, constantValue := 0 }, { name := "serialVersionUID", type := .long, accessFlags := 26, slot := 8, constantValue := 0 }]
  methods := #[k10m0, k10m1]
  instanceTypes := #[.int]
  staticTypes := #[.int, .int, (.object "java/lang/Class"), (.array .char), (.array .byte), (.array .byte), .int, .int, .long]
  resolved := Array.replicate 453 none
  statics := none }

def pool11 : Array CpInfo := pool [(2, .class_ 4), (1, u "java/lang/Object"), (0, u "<init>"), (0, u "()V"), (0, .class_ 8), (0, u "java/lang/Integer"), (7, .class_ 18), (1, u "java/lang/Integer$IntegerCache"), (0, u "$assertionsDisabled"), (0, u "Z"), (26, u "high"), (0, u "I"), (8, u "archivedCache"), (0, u "[Ljava/lang/Integer;"), (12, u "cache"), (0, u "low")] 27

def k11m0 : Method := { name := "<init>", desc := "()V", sig := { parameters := [], returnType := none }, accessFlags := 2, code := none }
/-- java/lang/Integer$IntegerCache -/
def k11 : Class := { plain "java/lang/Integer$IntegerCache" (some 0) with
  accessFlags := 48
  interfaces := #[]
  cf := some (fileOf pool11 16 #[.nestHost 7] #[{ accessFlags := 2, nameIndex := 5, descriptorIndex := 6, attributes := #[] }] 48 2 #[] #[{ accessFlags := 24, nameIndex := 72, descriptorIndex := 48, attributes := #[] }, { accessFlags := 24, nameIndex := 47, descriptorIndex := 48, attributes := #[] }, { accessFlags := 24, nameIndex := 71, descriptorIndex := 58, attributes := #[] }, { accessFlags := 8, nameIndex := 57, descriptorIndex := 58, attributes := #[] }, { accessFlags := 4120, nameIndex := 19, descriptorIndex := 20, attributes := #[] }])
  fields := #[{ name := "low", type := .int, accessFlags := 24, slot := 0, constantValue := 0 }, { name := "high", type := .int, accessFlags := 24, slot := 1, constantValue := 0 }, { name := "cache", type := (.array (.object "java/lang/Integer")), accessFlags := 24, slot := 2, constantValue := 0 }, { name := "archivedCache", type := (.array (.object "java/lang/Integer")), accessFlags := 8, slot := 3, constantValue := 0 }, { name := "$assertionsDisabled", type := .boolean, accessFlags := 4120, slot := 4, constantValue := 0 }]
  methods := #[k11m0]
  instanceTypes := #[]
  staticTypes := #[.int, .int, (.array (.object "java/lang/Integer")), (.array (.object "java/lang/Integer")), .boolean]
  resolved := Array.replicate 100 none
  statics := some 1 }

def pool12 : Array CpInfo := pool [(1, u "java/lang/Cloneable"), (0, .class_ 1), (0, u "java/lang/Object"), (0, .class_ 3)] 3

/-- java/lang/Cloneable -/
def k12 : Class := { plain "java/lang/Cloneable" (some 0) with
  accessFlags := 1537
  interfaces := #[]
  cf := some (fileOf pool12 2 #[] #[] 1537 4 #[] #[])
  fields := #[]
  methods := #[]
  instanceTypes := #[]
  staticTypes := #[]
  resolved := Array.replicate 8 none
  statics := none }

/-- the primitive byte -/
def k13 : Class := { plain "byte" none with kind := .primitive 'B', accessFlags := 0x411 }
/-- [B -/
def k14 : Class := { plain "[B" (some 0) with kind := .array 13 .byte, interfaces := #[12, 3], accessFlags := 1041 }

/-- the primitive int -/
def k15 : Class := { plain "int" none with kind := .primitive 'I', accessFlags := 0x411 }
/-- [I -/
def k16 : Class := { plain "[I" (some 0) with kind := .array 15 .int, interfaces := #[12, 3], accessFlags := 1041 }

/-- [Ljava/lang/Integer; -/
def k17 : Class := { plain "[Ljava/lang/Integer;" (some 0) with kind := .array 10 (.object "java/lang/Integer"), interfaces := #[12, 3], accessFlags := 1041 }

/-- [Ljava/lang/Long; -/
def k18 : Class := { plain "[Ljava/lang/Long;" (some 0) with kind := .array 8 (.object "java/lang/Long"), interfaces := #[12, 3], accessFlags := 1041 }

def heap : Heap := #[{ cls := 9, slots := #[.ref 2, .null, .int 0], vm := .statics 9 },
  { cls := 11, slots := #[.int 0, .int 127, .ref 3, .null, .int 0], vm := .statics 11 },
  { cls := 18, slots := #[.ref 4, .ref 5, .ref 6, .ref 7, .ref 8, .ref 9, .ref 10, .ref 11, .ref 12, .ref 13, .ref 14, .ref 15, .ref 16, .ref 17, .ref 18, .ref 19, .ref 20, .ref 21, .ref 22, .ref 23, .ref 24, .ref 25, .ref 26, .ref 27, .ref 28, .ref 29, .ref 30, .ref 31, .ref 32, .ref 33, .ref 34, .ref 35, .ref 36, .ref 37, .ref 38, .ref 39, .ref 40, .ref 41, .ref 42, .ref 43, .ref 44, .ref 45, .ref 46, .ref 47, .ref 48, .ref 49, .ref 50, .ref 51, .ref 52, .ref 53, .ref 54, .ref 55, .ref 56, .ref 57, .ref 58, .ref 59, .ref 60, .ref 61, .ref 62, .ref 63, .ref 64, .ref 65, .ref 66, .ref 67, .ref 68, .ref 69, .ref 70, .ref 71, .ref 72, .ref 73, .ref 74, .ref 75, .ref 76, .ref 77, .ref 78, .ref 79, .ref 80, .ref 81, .ref 82, .ref 83, .ref 84, .ref 85, .ref 86, .ref 87, .ref 88, .ref 89, .ref 90, .ref 91, .ref 92, .ref 93, .ref 94, .ref 95, .ref 96, .ref 97, .ref 98, .ref 99, .ref 100, .ref 101, .ref 102, .ref 103, .ref 104, .ref 105, .ref 106, .ref 107, .ref 108, .ref 109, .ref 110, .ref 111, .ref 112, .ref 113, .ref 114, .ref 115, .ref 116, .ref 117, .ref 118, .ref 119, .ref 120, .ref 121, .ref 122, .ref 123, .ref 124, .ref 125, .ref 126, .ref 127, .ref 128, .ref 129, .ref 130, .ref 131, .ref 132, .ref 133, .ref 134, .ref 135, .ref 136, .ref 137, .ref 138, .ref 139, .ref 140, .ref 141, .ref 142, .ref 143, .ref 144, .ref 145, .ref 146, .ref 147, .ref 148, .ref 149, .ref 150, .ref 151, .ref 152, .ref 153, .ref 154, .ref 155, .ref 156, .ref 157, .ref 158, .ref 159, .ref 160, .ref 161, .ref 162, .ref 163, .ref 164, .ref 165, .ref 166, .ref 167, .ref 168, .ref 169, .ref 170, .ref 171, .ref 172, .ref 173, .ref 174, .ref 175, .ref 176, .ref 177, .ref 178, .ref 179, .ref 180, .ref 181, .ref 182, .ref 183, .ref 184, .ref 185, .ref 186, .ref 187, .ref 188, .ref 189, .ref 190, .ref 191, .ref 192, .ref 193, .ref 194, .ref 195, .ref 196, .ref 197, .ref 198, .ref 199, .ref 200, .ref 201, .ref 202, .ref 203, .ref 204, .ref 205, .ref 206, .ref 207, .ref 208, .ref 209, .ref 210, .ref 211, .ref 212, .ref 213, .ref 214, .ref 215, .ref 216, .ref 217, .ref 218, .ref 219, .ref 220, .ref 221, .ref 222, .ref 223, .ref 224, .ref 225, .ref 226, .ref 227, .ref 228, .ref 229, .ref 230, .ref 231, .ref 232, .ref 233, .ref 234, .ref 235, .ref 236, .ref 237, .ref 238, .ref 239, .ref 240, .ref 241, .ref 242, .ref 243, .ref 244, .ref 245, .ref 246, .ref 247, .ref 248, .ref 249, .ref 250, .ref 251, .ref 252, .ref 253, .ref 254, .ref 255, .ref 256, .ref 257, .ref 258, .ref 259], vm := .none },
  { cls := 17, slots := #[.ref 260, .ref 261, .ref 262, .ref 263, .ref 264, .ref 265, .ref 266, .ref 267, .ref 268, .ref 269, .ref 270, .ref 271, .ref 272, .ref 273, .ref 274, .ref 275, .ref 276, .ref 277, .ref 278, .ref 279, .ref 280, .ref 281, .ref 282, .ref 283, .ref 284, .ref 285, .ref 286, .ref 287, .ref 288, .ref 289, .ref 290, .ref 291, .ref 292, .ref 293, .ref 294, .ref 295, .ref 296, .ref 297, .ref 298, .ref 299, .ref 300, .ref 301, .ref 302, .ref 303, .ref 304, .ref 305, .ref 306, .ref 307, .ref 308, .ref 309, .ref 310, .ref 311, .ref 312, .ref 313, .ref 314, .ref 315, .ref 316, .ref 317, .ref 318, .ref 319, .ref 320, .ref 321, .ref 322, .ref 323, .ref 324, .ref 325, .ref 326, .ref 327, .ref 328, .ref 329, .ref 330, .ref 331, .ref 332, .ref 333, .ref 334, .ref 335, .ref 336, .ref 337, .ref 338, .ref 339, .ref 340, .ref 341, .ref 342, .ref 343, .ref 344, .ref 345, .ref 346, .ref 347, .ref 348, .ref 349, .ref 350, .ref 351, .ref 352, .ref 353, .ref 354, .ref 355, .ref 356, .ref 357, .ref 358, .ref 359, .ref 360, .ref 361, .ref 362, .ref 363, .ref 364, .ref 365, .ref 366, .ref 367, .ref 368, .ref 369, .ref 370, .ref 371, .ref 372, .ref 373, .ref 374, .ref 375, .ref 376, .ref 377, .ref 378, .ref 379, .ref 380, .ref 381, .ref 382, .ref 383, .ref 384, .ref 385, .ref 386, .ref 387, .ref 388, .ref 389, .ref 390, .ref 391, .ref 392, .ref 393, .ref 394, .ref 395, .ref 396, .ref 397, .ref 398, .ref 399, .ref 400, .ref 401, .ref 402, .ref 403, .ref 404, .ref 405, .ref 406, .ref 407, .ref 408, .ref 409, .ref 410, .ref 411, .ref 412, .ref 413, .ref 414, .ref 415, .ref 416, .ref 417, .ref 418, .ref 419, .ref 420, .ref 421, .ref 422, .ref 423, .ref 424, .ref 425, .ref 426, .ref 427, .ref 428, .ref 429, .ref 430, .ref 431, .ref 432, .ref 433, .ref 434, .ref 435, .ref 436, .ref 437, .ref 438, .ref 439, .ref 440, .ref 441, .ref 442, .ref 443, .ref 444, .ref 445, .ref 446, .ref 447, .ref 448, .ref 449, .ref 450, .ref 451, .ref 452, .ref 453, .ref 454, .ref 455, .ref 456, .ref 457, .ref 458, .ref 459, .ref 460, .ref 461, .ref 462, .ref 463, .ref 464, .ref 465, .ref 466, .ref 467, .ref 468, .ref 469, .ref 470, .ref 471, .ref 472, .ref 473, .ref 474, .ref 475, .ref 476, .ref 477, .ref 478, .ref 479, .ref 480, .ref 481, .ref 482, .ref 483, .ref 484, .ref 485, .ref 486, .ref 487, .ref 488, .ref 489, .ref 490, .ref 491, .ref 492, .ref 493, .ref 494, .ref 495, .ref 496, .ref 497, .ref 498, .ref 499, .ref 500, .ref 501, .ref 502, .ref 503, .ref 504, .ref 505, .ref 506, .ref 507, .ref 508, .ref 509, .ref 510, .ref 511, .ref 512, .ref 513, .ref 514, .ref 515], vm := .none },
  { cls := 8, slots := #[.long (-128)], vm := .none },
  { cls := 8, slots := #[.long (-127)], vm := .none },
  { cls := 8, slots := #[.long (-126)], vm := .none },
  { cls := 8, slots := #[.long (-125)], vm := .none },
  { cls := 8, slots := #[.long (-124)], vm := .none },
  { cls := 8, slots := #[.long (-123)], vm := .none },
  { cls := 8, slots := #[.long (-122)], vm := .none },
  { cls := 8, slots := #[.long (-121)], vm := .none },
  { cls := 8, slots := #[.long (-120)], vm := .none },
  { cls := 8, slots := #[.long (-119)], vm := .none },
  { cls := 8, slots := #[.long (-118)], vm := .none },
  { cls := 8, slots := #[.long (-117)], vm := .none },
  { cls := 8, slots := #[.long (-116)], vm := .none },
  { cls := 8, slots := #[.long (-115)], vm := .none },
  { cls := 8, slots := #[.long (-114)], vm := .none },
  { cls := 8, slots := #[.long (-113)], vm := .none },
  { cls := 8, slots := #[.long (-112)], vm := .none },
  { cls := 8, slots := #[.long (-111)], vm := .none },
  { cls := 8, slots := #[.long (-110)], vm := .none },
  { cls := 8, slots := #[.long (-109)], vm := .none },
  { cls := 8, slots := #[.long (-108)], vm := .none },
  { cls := 8, slots := #[.long (-107)], vm := .none },
  { cls := 8, slots := #[.long (-106)], vm := .none },
  { cls := 8, slots := #[.long (-105)], vm := .none },
  { cls := 8, slots := #[.long (-104)], vm := .none },
  { cls := 8, slots := #[.long (-103)], vm := .none },
  { cls := 8, slots := #[.long (-102)], vm := .none },
  { cls := 8, slots := #[.long (-101)], vm := .none },
  { cls := 8, slots := #[.long (-100)], vm := .none },
  { cls := 8, slots := #[.long (-99)], vm := .none },
  { cls := 8, slots := #[.long (-98)], vm := .none },
  { cls := 8, slots := #[.long (-97)], vm := .none },
  { cls := 8, slots := #[.long (-96)], vm := .none },
  { cls := 8, slots := #[.long (-95)], vm := .none },
  { cls := 8, slots := #[.long (-94)], vm := .none },
  { cls := 8, slots := #[.long (-93)], vm := .none },
  { cls := 8, slots := #[.long (-92)], vm := .none },
  { cls := 8, slots := #[.long (-91)], vm := .none },
  { cls := 8, slots := #[.long (-90)], vm := .none },
  { cls := 8, slots := #[.long (-89)], vm := .none },
  { cls := 8, slots := #[.long (-88)], vm := .none },
  { cls := 8, slots := #[.long (-87)], vm := .none },
  { cls := 8, slots := #[.long (-86)], vm := .none },
  { cls := 8, slots := #[.long (-85)], vm := .none },
  { cls := 8, slots := #[.long (-84)], vm := .none },
  { cls := 8, slots := #[.long (-83)], vm := .none },
  { cls := 8, slots := #[.long (-82)], vm := .none },
  { cls := 8, slots := #[.long (-81)], vm := .none },
  { cls := 8, slots := #[.long (-80)], vm := .none },
  { cls := 8, slots := #[.long (-79)], vm := .none },
  { cls := 8, slots := #[.long (-78)], vm := .none },
  { cls := 8, slots := #[.long (-77)], vm := .none },
  { cls := 8, slots := #[.long (-76)], vm := .none },
  { cls := 8, slots := #[.long (-75)], vm := .none },
  { cls := 8, slots := #[.long (-74)], vm := .none },
  { cls := 8, slots := #[.long (-73)], vm := .none },
  { cls := 8, slots := #[.long (-72)], vm := .none },
  { cls := 8, slots := #[.long (-71)], vm := .none },
  { cls := 8, slots := #[.long (-70)], vm := .none },
  { cls := 8, slots := #[.long (-69)], vm := .none },
  { cls := 8, slots := #[.long (-68)], vm := .none },
  { cls := 8, slots := #[.long (-67)], vm := .none },
  { cls := 8, slots := #[.long (-66)], vm := .none },
  { cls := 8, slots := #[.long (-65)], vm := .none },
  { cls := 8, slots := #[.long (-64)], vm := .none },
  { cls := 8, slots := #[.long (-63)], vm := .none },
  { cls := 8, slots := #[.long (-62)], vm := .none },
  { cls := 8, slots := #[.long (-61)], vm := .none },
  { cls := 8, slots := #[.long (-60)], vm := .none },
  { cls := 8, slots := #[.long (-59)], vm := .none },
  { cls := 8, slots := #[.long (-58)], vm := .none },
  { cls := 8, slots := #[.long (-57)], vm := .none },
  { cls := 8, slots := #[.long (-56)], vm := .none },
  { cls := 8, slots := #[.long (-55)], vm := .none },
  { cls := 8, slots := #[.long (-54)], vm := .none },
  { cls := 8, slots := #[.long (-53)], vm := .none },
  { cls := 8, slots := #[.long (-52)], vm := .none },
  { cls := 8, slots := #[.long (-51)], vm := .none },
  { cls := 8, slots := #[.long (-50)], vm := .none },
  { cls := 8, slots := #[.long (-49)], vm := .none },
  { cls := 8, slots := #[.long (-48)], vm := .none },
  { cls := 8, slots := #[.long (-47)], vm := .none },
  { cls := 8, slots := #[.long (-46)], vm := .none },
  { cls := 8, slots := #[.long (-45)], vm := .none },
  { cls := 8, slots := #[.long (-44)], vm := .none },
  { cls := 8, slots := #[.long (-43)], vm := .none },
  { cls := 8, slots := #[.long (-42)], vm := .none },
  { cls := 8, slots := #[.long (-41)], vm := .none },
  { cls := 8, slots := #[.long (-40)], vm := .none },
  { cls := 8, slots := #[.long (-39)], vm := .none },
  { cls := 8, slots := #[.long (-38)], vm := .none },
  { cls := 8, slots := #[.long (-37)], vm := .none },
  { cls := 8, slots := #[.long (-36)], vm := .none },
  { cls := 8, slots := #[.long (-35)], vm := .none },
  { cls := 8, slots := #[.long (-34)], vm := .none },
  { cls := 8, slots := #[.long (-33)], vm := .none },
  { cls := 8, slots := #[.long (-32)], vm := .none },
  { cls := 8, slots := #[.long (-31)], vm := .none },
  { cls := 8, slots := #[.long (-30)], vm := .none },
  { cls := 8, slots := #[.long (-29)], vm := .none },
  { cls := 8, slots := #[.long (-28)], vm := .none },
  { cls := 8, slots := #[.long (-27)], vm := .none },
  { cls := 8, slots := #[.long (-26)], vm := .none },
  { cls := 8, slots := #[.long (-25)], vm := .none },
  { cls := 8, slots := #[.long (-24)], vm := .none },
  { cls := 8, slots := #[.long (-23)], vm := .none },
  { cls := 8, slots := #[.long (-22)], vm := .none },
  { cls := 8, slots := #[.long (-21)], vm := .none },
  { cls := 8, slots := #[.long (-20)], vm := .none },
  { cls := 8, slots := #[.long (-19)], vm := .none },
  { cls := 8, slots := #[.long (-18)], vm := .none },
  { cls := 8, slots := #[.long (-17)], vm := .none },
  { cls := 8, slots := #[.long (-16)], vm := .none },
  { cls := 8, slots := #[.long (-15)], vm := .none },
  { cls := 8, slots := #[.long (-14)], vm := .none },
  { cls := 8, slots := #[.long (-13)], vm := .none },
  { cls := 8, slots := #[.long (-12)], vm := .none },
  { cls := 8, slots := #[.long (-11)], vm := .none },
  { cls := 8, slots := #[.long (-10)], vm := .none },
  { cls := 8, slots := #[.long (-9)], vm := .none },
  { cls := 8, slots := #[.long (-8)], vm := .none },
  { cls := 8, slots := #[.long (-7)], vm := .none },
  { cls := 8, slots := #[.long (-6)], vm := .none },
  { cls := 8, slots := #[.long (-5)], vm := .none },
  { cls := 8, slots := #[.long (-4)], vm := .none },
  { cls := 8, slots := #[.long (-3)], vm := .none },
  { cls := 8, slots := #[.long (-2)], vm := .none },
  { cls := 8, slots := #[.long (-1)], vm := .none },
  { cls := 8, slots := #[.long (0)], vm := .none },
  { cls := 8, slots := #[.long (1)], vm := .none },
  { cls := 8, slots := #[.long (2)], vm := .none },
  { cls := 8, slots := #[.long (3)], vm := .none },
  { cls := 8, slots := #[.long (4)], vm := .none },
  { cls := 8, slots := #[.long (5)], vm := .none },
  { cls := 8, slots := #[.long (6)], vm := .none },
  { cls := 8, slots := #[.long (7)], vm := .none },
  { cls := 8, slots := #[.long (8)], vm := .none },
  { cls := 8, slots := #[.long (9)], vm := .none },
  { cls := 8, slots := #[.long (10)], vm := .none },
  { cls := 8, slots := #[.long (11)], vm := .none },
  { cls := 8, slots := #[.long (12)], vm := .none },
  { cls := 8, slots := #[.long (13)], vm := .none },
  { cls := 8, slots := #[.long (14)], vm := .none },
  { cls := 8, slots := #[.long (15)], vm := .none },
  { cls := 8, slots := #[.long (16)], vm := .none },
  { cls := 8, slots := #[.long (17)], vm := .none },
  { cls := 8, slots := #[.long (18)], vm := .none },
  { cls := 8, slots := #[.long (19)], vm := .none },
  { cls := 8, slots := #[.long (20)], vm := .none },
  { cls := 8, slots := #[.long (21)], vm := .none },
  { cls := 8, slots := #[.long (22)], vm := .none },
  { cls := 8, slots := #[.long (23)], vm := .none },
  { cls := 8, slots := #[.long (24)], vm := .none },
  { cls := 8, slots := #[.long (25)], vm := .none },
  { cls := 8, slots := #[.long (26)], vm := .none },
  { cls := 8, slots := #[.long (27)], vm := .none },
  { cls := 8, slots := #[.long (28)], vm := .none },
  { cls := 8, slots := #[.long (29)], vm := .none },
  { cls := 8, slots := #[.long (30)], vm := .none },
  { cls := 8, slots := #[.long (31)], vm := .none },
  { cls := 8, slots := #[.long (32)], vm := .none },
  { cls := 8, slots := #[.long (33)], vm := .none },
  { cls := 8, slots := #[.long (34)], vm := .none },
  { cls := 8, slots := #[.long (35)], vm := .none },
  { cls := 8, slots := #[.long (36)], vm := .none },
  { cls := 8, slots := #[.long (37)], vm := .none },
  { cls := 8, slots := #[.long (38)], vm := .none },
  { cls := 8, slots := #[.long (39)], vm := .none },
  { cls := 8, slots := #[.long (40)], vm := .none },
  { cls := 8, slots := #[.long (41)], vm := .none },
  { cls := 8, slots := #[.long (42)], vm := .none },
  { cls := 8, slots := #[.long (43)], vm := .none },
  { cls := 8, slots := #[.long (44)], vm := .none },
  { cls := 8, slots := #[.long (45)], vm := .none },
  { cls := 8, slots := #[.long (46)], vm := .none },
  { cls := 8, slots := #[.long (47)], vm := .none },
  { cls := 8, slots := #[.long (48)], vm := .none },
  { cls := 8, slots := #[.long (49)], vm := .none },
  { cls := 8, slots := #[.long (50)], vm := .none },
  { cls := 8, slots := #[.long (51)], vm := .none },
  { cls := 8, slots := #[.long (52)], vm := .none },
  { cls := 8, slots := #[.long (53)], vm := .none },
  { cls := 8, slots := #[.long (54)], vm := .none },
  { cls := 8, slots := #[.long (55)], vm := .none },
  { cls := 8, slots := #[.long (56)], vm := .none },
  { cls := 8, slots := #[.long (57)], vm := .none },
  { cls := 8, slots := #[.long (58)], vm := .none },
  { cls := 8, slots := #[.long (59)], vm := .none },
  { cls := 8, slots := #[.long (60)], vm := .none },
  { cls := 8, slots := #[.long (61)], vm := .none },
  { cls := 8, slots := #[.long (62)], vm := .none },
  { cls := 8, slots := #[.long (63)], vm := .none },
  { cls := 8, slots := #[.long (64)], vm := .none },
  { cls := 8, slots := #[.long (65)], vm := .none },
  { cls := 8, slots := #[.long (66)], vm := .none },
  { cls := 8, slots := #[.long (67)], vm := .none },
  { cls := 8, slots := #[.long (68)], vm := .none },
  { cls := 8, slots := #[.long (69)], vm := .none },
  { cls := 8, slots := #[.long (70)], vm := .none },
  { cls := 8, slots := #[.long (71)], vm := .none },
  { cls := 8, slots := #[.long (72)], vm := .none },
  { cls := 8, slots := #[.long (73)], vm := .none },
  { cls := 8, slots := #[.long (74)], vm := .none },
  { cls := 8, slots := #[.long (75)], vm := .none },
  { cls := 8, slots := #[.long (76)], vm := .none },
  { cls := 8, slots := #[.long (77)], vm := .none },
  { cls := 8, slots := #[.long (78)], vm := .none },
  { cls := 8, slots := #[.long (79)], vm := .none },
  { cls := 8, slots := #[.long (80)], vm := .none },
  { cls := 8, slots := #[.long (81)], vm := .none },
  { cls := 8, slots := #[.long (82)], vm := .none },
  { cls := 8, slots := #[.long (83)], vm := .none },
  { cls := 8, slots := #[.long (84)], vm := .none },
  { cls := 8, slots := #[.long (85)], vm := .none },
  { cls := 8, slots := #[.long (86)], vm := .none },
  { cls := 8, slots := #[.long (87)], vm := .none },
  { cls := 8, slots := #[.long (88)], vm := .none },
  { cls := 8, slots := #[.long (89)], vm := .none },
  { cls := 8, slots := #[.long (90)], vm := .none },
  { cls := 8, slots := #[.long (91)], vm := .none },
  { cls := 8, slots := #[.long (92)], vm := .none },
  { cls := 8, slots := #[.long (93)], vm := .none },
  { cls := 8, slots := #[.long (94)], vm := .none },
  { cls := 8, slots := #[.long (95)], vm := .none },
  { cls := 8, slots := #[.long (96)], vm := .none },
  { cls := 8, slots := #[.long (97)], vm := .none },
  { cls := 8, slots := #[.long (98)], vm := .none },
  { cls := 8, slots := #[.long (99)], vm := .none },
  { cls := 8, slots := #[.long (100)], vm := .none },
  { cls := 8, slots := #[.long (101)], vm := .none },
  { cls := 8, slots := #[.long (102)], vm := .none },
  { cls := 8, slots := #[.long (103)], vm := .none },
  { cls := 8, slots := #[.long (104)], vm := .none },
  { cls := 8, slots := #[.long (105)], vm := .none },
  { cls := 8, slots := #[.long (106)], vm := .none },
  { cls := 8, slots := #[.long (107)], vm := .none },
  { cls := 8, slots := #[.long (108)], vm := .none },
  { cls := 8, slots := #[.long (109)], vm := .none },
  { cls := 8, slots := #[.long (110)], vm := .none },
  { cls := 8, slots := #[.long (111)], vm := .none },
  { cls := 8, slots := #[.long (112)], vm := .none },
  { cls := 8, slots := #[.long (113)], vm := .none },
  { cls := 8, slots := #[.long (114)], vm := .none },
  { cls := 8, slots := #[.long (115)], vm := .none },
  { cls := 8, slots := #[.long (116)], vm := .none },
  { cls := 8, slots := #[.long (117)], vm := .none },
  { cls := 8, slots := #[.long (118)], vm := .none },
  { cls := 8, slots := #[.long (119)], vm := .none },
  { cls := 8, slots := #[.long (120)], vm := .none },
  { cls := 8, slots := #[.long (121)], vm := .none },
  { cls := 8, slots := #[.long (122)], vm := .none },
  { cls := 8, slots := #[.long (123)], vm := .none },
  { cls := 8, slots := #[.long (124)], vm := .none },
  { cls := 8, slots := #[.long (125)], vm := .none },
  { cls := 8, slots := #[.long (126)], vm := .none },
  { cls := 8, slots := #[.long (127)], vm := .none },
  { cls := 10, slots := #[.int (-128)], vm := .none },
  { cls := 10, slots := #[.int (-127)], vm := .none },
  { cls := 10, slots := #[.int (-126)], vm := .none },
  { cls := 10, slots := #[.int (-125)], vm := .none },
  { cls := 10, slots := #[.int (-124)], vm := .none },
  { cls := 10, slots := #[.int (-123)], vm := .none },
  { cls := 10, slots := #[.int (-122)], vm := .none },
  { cls := 10, slots := #[.int (-121)], vm := .none },
  { cls := 10, slots := #[.int (-120)], vm := .none },
  { cls := 10, slots := #[.int (-119)], vm := .none },
  { cls := 10, slots := #[.int (-118)], vm := .none },
  { cls := 10, slots := #[.int (-117)], vm := .none },
  { cls := 10, slots := #[.int (-116)], vm := .none },
  { cls := 10, slots := #[.int (-115)], vm := .none },
  { cls := 10, slots := #[.int (-114)], vm := .none },
  { cls := 10, slots := #[.int (-113)], vm := .none },
  { cls := 10, slots := #[.int (-112)], vm := .none },
  { cls := 10, slots := #[.int (-111)], vm := .none },
  { cls := 10, slots := #[.int (-110)], vm := .none },
  { cls := 10, slots := #[.int (-109)], vm := .none },
  { cls := 10, slots := #[.int (-108)], vm := .none },
  { cls := 10, slots := #[.int (-107)], vm := .none },
  { cls := 10, slots := #[.int (-106)], vm := .none },
  { cls := 10, slots := #[.int (-105)], vm := .none },
  { cls := 10, slots := #[.int (-104)], vm := .none },
  { cls := 10, slots := #[.int (-103)], vm := .none },
  { cls := 10, slots := #[.int (-102)], vm := .none },
  { cls := 10, slots := #[.int (-101)], vm := .none },
  { cls := 10, slots := #[.int (-100)], vm := .none },
  { cls := 10, slots := #[.int (-99)], vm := .none },
  { cls := 10, slots := #[.int (-98)], vm := .none },
  { cls := 10, slots := #[.int (-97)], vm := .none },
  { cls := 10, slots := #[.int (-96)], vm := .none },
  { cls := 10, slots := #[.int (-95)], vm := .none },
  { cls := 10, slots := #[.int (-94)], vm := .none },
  { cls := 10, slots := #[.int (-93)], vm := .none },
  { cls := 10, slots := #[.int (-92)], vm := .none },
  { cls := 10, slots := #[.int (-91)], vm := .none },
  { cls := 10, slots := #[.int (-90)], vm := .none },
  { cls := 10, slots := #[.int (-89)], vm := .none },
  { cls := 10, slots := #[.int (-88)], vm := .none },
  { cls := 10, slots := #[.int (-87)], vm := .none },
  { cls := 10, slots := #[.int (-86)], vm := .none },
  { cls := 10, slots := #[.int (-85)], vm := .none },
  { cls := 10, slots := #[.int (-84)], vm := .none },
  { cls := 10, slots := #[.int (-83)], vm := .none },
  { cls := 10, slots := #[.int (-82)], vm := .none },
  { cls := 10, slots := #[.int (-81)], vm := .none },
  { cls := 10, slots := #[.int (-80)], vm := .none },
  { cls := 10, slots := #[.int (-79)], vm := .none },
  { cls := 10, slots := #[.int (-78)], vm := .none },
  { cls := 10, slots := #[.int (-77)], vm := .none },
  { cls := 10, slots := #[.int (-76)], vm := .none },
  { cls := 10, slots := #[.int (-75)], vm := .none },
  { cls := 10, slots := #[.int (-74)], vm := .none },
  { cls := 10, slots := #[.int (-73)], vm := .none },
  { cls := 10, slots := #[.int (-72)], vm := .none },
  { cls := 10, slots := #[.int (-71)], vm := .none },
  { cls := 10, slots := #[.int (-70)], vm := .none },
  { cls := 10, slots := #[.int (-69)], vm := .none },
  { cls := 10, slots := #[.int (-68)], vm := .none },
  { cls := 10, slots := #[.int (-67)], vm := .none },
  { cls := 10, slots := #[.int (-66)], vm := .none },
  { cls := 10, slots := #[.int (-65)], vm := .none },
  { cls := 10, slots := #[.int (-64)], vm := .none },
  { cls := 10, slots := #[.int (-63)], vm := .none },
  { cls := 10, slots := #[.int (-62)], vm := .none },
  { cls := 10, slots := #[.int (-61)], vm := .none },
  { cls := 10, slots := #[.int (-60)], vm := .none },
  { cls := 10, slots := #[.int (-59)], vm := .none },
  { cls := 10, slots := #[.int (-58)], vm := .none },
  { cls := 10, slots := #[.int (-57)], vm := .none },
  { cls := 10, slots := #[.int (-56)], vm := .none },
  { cls := 10, slots := #[.int (-55)], vm := .none },
  { cls := 10, slots := #[.int (-54)], vm := .none },
  { cls := 10, slots := #[.int (-53)], vm := .none },
  { cls := 10, slots := #[.int (-52)], vm := .none },
  { cls := 10, slots := #[.int (-51)], vm := .none },
  { cls := 10, slots := #[.int (-50)], vm := .none },
  { cls := 10, slots := #[.int (-49)], vm := .none },
  { cls := 10, slots := #[.int (-48)], vm := .none },
  { cls := 10, slots := #[.int (-47)], vm := .none },
  { cls := 10, slots := #[.int (-46)], vm := .none },
  { cls := 10, slots := #[.int (-45)], vm := .none },
  { cls := 10, slots := #[.int (-44)], vm := .none },
  { cls := 10, slots := #[.int (-43)], vm := .none },
  { cls := 10, slots := #[.int (-42)], vm := .none },
  { cls := 10, slots := #[.int (-41)], vm := .none },
  { cls := 10, slots := #[.int (-40)], vm := .none },
  { cls := 10, slots := #[.int (-39)], vm := .none },
  { cls := 10, slots := #[.int (-38)], vm := .none },
  { cls := 10, slots := #[.int (-37)], vm := .none },
  { cls := 10, slots := #[.int (-36)], vm := .none },
  { cls := 10, slots := #[.int (-35)], vm := .none },
  { cls := 10, slots := #[.int (-34)], vm := .none },
  { cls := 10, slots := #[.int (-33)], vm := .none },
  { cls := 10, slots := #[.int (-32)], vm := .none },
  { cls := 10, slots := #[.int (-31)], vm := .none },
  { cls := 10, slots := #[.int (-30)], vm := .none },
  { cls := 10, slots := #[.int (-29)], vm := .none },
  { cls := 10, slots := #[.int (-28)], vm := .none },
  { cls := 10, slots := #[.int (-27)], vm := .none },
  { cls := 10, slots := #[.int (-26)], vm := .none },
  { cls := 10, slots := #[.int (-25)], vm := .none },
  { cls := 10, slots := #[.int (-24)], vm := .none },
  { cls := 10, slots := #[.int (-23)], vm := .none },
  { cls := 10, slots := #[.int (-22)], vm := .none },
  { cls := 10, slots := #[.int (-21)], vm := .none },
  { cls := 10, slots := #[.int (-20)], vm := .none },
  { cls := 10, slots := #[.int (-19)], vm := .none },
  { cls := 10, slots := #[.int (-18)], vm := .none },
  { cls := 10, slots := #[.int (-17)], vm := .none },
  { cls := 10, slots := #[.int (-16)], vm := .none },
  { cls := 10, slots := #[.int (-15)], vm := .none },
  { cls := 10, slots := #[.int (-14)], vm := .none },
  { cls := 10, slots := #[.int (-13)], vm := .none },
  { cls := 10, slots := #[.int (-12)], vm := .none },
  { cls := 10, slots := #[.int (-11)], vm := .none },
  { cls := 10, slots := #[.int (-10)], vm := .none },
  { cls := 10, slots := #[.int (-9)], vm := .none },
  { cls := 10, slots := #[.int (-8)], vm := .none },
  { cls := 10, slots := #[.int (-7)], vm := .none },
  { cls := 10, slots := #[.int (-6)], vm := .none },
  { cls := 10, slots := #[.int (-5)], vm := .none },
  { cls := 10, slots := #[.int (-4)], vm := .none },
  { cls := 10, slots := #[.int (-3)], vm := .none },
  { cls := 10, slots := #[.int (-2)], vm := .none },
  { cls := 10, slots := #[.int (-1)], vm := .none },
  { cls := 10, slots := #[.int (0)], vm := .none },
  { cls := 10, slots := #[.int (1)], vm := .none },
  { cls := 10, slots := #[.int (2)], vm := .none },
  { cls := 10, slots := #[.int (3)], vm := .none },
  { cls := 10, slots := #[.int (4)], vm := .none },
  { cls := 10, slots := #[.int (5)], vm := .none },
  { cls := 10, slots := #[.int (6)], vm := .none },
  { cls := 10, slots := #[.int (7)], vm := .none },
  { cls := 10, slots := #[.int (8)], vm := .none },
  { cls := 10, slots := #[.int (9)], vm := .none },
  { cls := 10, slots := #[.int (10)], vm := .none },
  { cls := 10, slots := #[.int (11)], vm := .none },
  { cls := 10, slots := #[.int (12)], vm := .none },
  { cls := 10, slots := #[.int (13)], vm := .none },
  { cls := 10, slots := #[.int (14)], vm := .none },
  { cls := 10, slots := #[.int (15)], vm := .none },
  { cls := 10, slots := #[.int (16)], vm := .none },
  { cls := 10, slots := #[.int (17)], vm := .none },
  { cls := 10, slots := #[.int (18)], vm := .none },
  { cls := 10, slots := #[.int (19)], vm := .none },
  { cls := 10, slots := #[.int (20)], vm := .none },
  { cls := 10, slots := #[.int (21)], vm := .none },
  { cls := 10, slots := #[.int (22)], vm := .none },
  { cls := 10, slots := #[.int (23)], vm := .none },
  { cls := 10, slots := #[.int (24)], vm := .none },
  { cls := 10, slots := #[.int (25)], vm := .none },
  { cls := 10, slots := #[.int (26)], vm := .none },
  { cls := 10, slots := #[.int (27)], vm := .none },
  { cls := 10, slots := #[.int (28)], vm := .none },
  { cls := 10, slots := #[.int (29)], vm := .none },
  { cls := 10, slots := #[.int (30)], vm := .none },
  { cls := 10, slots := #[.int (31)], vm := .none },
  { cls := 10, slots := #[.int (32)], vm := .none },
  { cls := 10, slots := #[.int (33)], vm := .none },
  { cls := 10, slots := #[.int (34)], vm := .none },
  { cls := 10, slots := #[.int (35)], vm := .none },
  { cls := 10, slots := #[.int (36)], vm := .none },
  { cls := 10, slots := #[.int (37)], vm := .none },
  { cls := 10, slots := #[.int (38)], vm := .none },
  { cls := 10, slots := #[.int (39)], vm := .none },
  { cls := 10, slots := #[.int (40)], vm := .none },
  { cls := 10, slots := #[.int (41)], vm := .none },
  { cls := 10, slots := #[.int (42)], vm := .none },
  { cls := 10, slots := #[.int (43)], vm := .none },
  { cls := 10, slots := #[.int (44)], vm := .none },
  { cls := 10, slots := #[.int (45)], vm := .none },
  { cls := 10, slots := #[.int (46)], vm := .none },
  { cls := 10, slots := #[.int (47)], vm := .none },
  { cls := 10, slots := #[.int (48)], vm := .none },
  { cls := 10, slots := #[.int (49)], vm := .none },
  { cls := 10, slots := #[.int (50)], vm := .none },
  { cls := 10, slots := #[.int (51)], vm := .none },
  { cls := 10, slots := #[.int (52)], vm := .none },
  { cls := 10, slots := #[.int (53)], vm := .none },
  { cls := 10, slots := #[.int (54)], vm := .none },
  { cls := 10, slots := #[.int (55)], vm := .none },
  { cls := 10, slots := #[.int (56)], vm := .none },
  { cls := 10, slots := #[.int (57)], vm := .none },
  { cls := 10, slots := #[.int (58)], vm := .none },
  { cls := 10, slots := #[.int (59)], vm := .none },
  { cls := 10, slots := #[.int (60)], vm := .none },
  { cls := 10, slots := #[.int (61)], vm := .none },
  { cls := 10, slots := #[.int (62)], vm := .none },
  { cls := 10, slots := #[.int (63)], vm := .none },
  { cls := 10, slots := #[.int (64)], vm := .none },
  { cls := 10, slots := #[.int (65)], vm := .none },
  { cls := 10, slots := #[.int (66)], vm := .none },
  { cls := 10, slots := #[.int (67)], vm := .none },
  { cls := 10, slots := #[.int (68)], vm := .none },
  { cls := 10, slots := #[.int (69)], vm := .none },
  { cls := 10, slots := #[.int (70)], vm := .none },
  { cls := 10, slots := #[.int (71)], vm := .none },
  { cls := 10, slots := #[.int (72)], vm := .none },
  { cls := 10, slots := #[.int (73)], vm := .none },
  { cls := 10, slots := #[.int (74)], vm := .none },
  { cls := 10, slots := #[.int (75)], vm := .none },
  { cls := 10, slots := #[.int (76)], vm := .none },
  { cls := 10, slots := #[.int (77)], vm := .none },
  { cls := 10, slots := #[.int (78)], vm := .none },
  { cls := 10, slots := #[.int (79)], vm := .none },
  { cls := 10, slots := #[.int (80)], vm := .none },
  { cls := 10, slots := #[.int (81)], vm := .none },
  { cls := 10, slots := #[.int (82)], vm := .none },
  { cls := 10, slots := #[.int (83)], vm := .none },
  { cls := 10, slots := #[.int (84)], vm := .none },
  { cls := 10, slots := #[.int (85)], vm := .none },
  { cls := 10, slots := #[.int (86)], vm := .none },
  { cls := 10, slots := #[.int (87)], vm := .none },
  { cls := 10, slots := #[.int (88)], vm := .none },
  { cls := 10, slots := #[.int (89)], vm := .none },
  { cls := 10, slots := #[.int (90)], vm := .none },
  { cls := 10, slots := #[.int (91)], vm := .none },
  { cls := 10, slots := #[.int (92)], vm := .none },
  { cls := 10, slots := #[.int (93)], vm := .none },
  { cls := 10, slots := #[.int (94)], vm := .none },
  { cls := 10, slots := #[.int (95)], vm := .none },
  { cls := 10, slots := #[.int (96)], vm := .none },
  { cls := 10, slots := #[.int (97)], vm := .none },
  { cls := 10, slots := #[.int (98)], vm := .none },
  { cls := 10, slots := #[.int (99)], vm := .none },
  { cls := 10, slots := #[.int (100)], vm := .none },
  { cls := 10, slots := #[.int (101)], vm := .none },
  { cls := 10, slots := #[.int (102)], vm := .none },
  { cls := 10, slots := #[.int (103)], vm := .none },
  { cls := 10, slots := #[.int (104)], vm := .none },
  { cls := 10, slots := #[.int (105)], vm := .none },
  { cls := 10, slots := #[.int (106)], vm := .none },
  { cls := 10, slots := #[.int (107)], vm := .none },
  { cls := 10, slots := #[.int (108)], vm := .none },
  { cls := 10, slots := #[.int (109)], vm := .none },
  { cls := 10, slots := #[.int (110)], vm := .none },
  { cls := 10, slots := #[.int (111)], vm := .none },
  { cls := 10, slots := #[.int (112)], vm := .none },
  { cls := 10, slots := #[.int (113)], vm := .none },
  { cls := 10, slots := #[.int (114)], vm := .none },
  { cls := 10, slots := #[.int (115)], vm := .none },
  { cls := 10, slots := #[.int (116)], vm := .none },
  { cls := 10, slots := #[.int (117)], vm := .none },
  { cls := 10, slots := #[.int (118)], vm := .none },
  { cls := 10, slots := #[.int (119)], vm := .none },
  { cls := 10, slots := #[.int (120)], vm := .none },
  { cls := 10, slots := #[.int (121)], vm := .none },
  { cls := 10, slots := #[.int (122)], vm := .none },
  { cls := 10, slots := #[.int (123)], vm := .none },
  { cls := 10, slots := #[.int (124)], vm := .none },
  { cls := 10, slots := #[.int (125)], vm := .none },
  { cls := 10, slots := #[.int (126)], vm := .none },
  { cls := 10, slots := #[.int (127)], vm := .none }]
def classes : Array Class := #[k0, k1, k2, k3, k4, k5, k6, k7, k8, k9, k10, k11, k12, k13, k14, k15, k16, k17, k18]
def interned : List (Array UInt16 × Addr) := []
def slotsUsed : Nat := 1032
def theMethod : MethodId := ⟨1, 1⟩
def args0 : Array Value := #[.int 5, .long 6, .int 7, .long 8, .int 9]
def aboutOver (below : List Frame) : State where
  vm := { classes := classes, interned := interned.toArray }
  heap := heap
  slotsUsed := slotsUsed
  threads := #[{ frames := .invoking theMethod args0 :: below }]
def below0 : List Frame := [.native { method := ⟨0, 0⟩, args := #[] }]
def about1 : State := aboutOver below0
def p0 : Program := .bare "" "" ""
def e0 : Env := launch0.env 0 0 0
theorem w_frames : about1.frames = Frame.invoking theMethod args0 :: below0 := rfl
set_option maxRecDepth 65536 in
theorem w_args : argsFit about1.vm theMethod args0 = true := by decide +kernel
set_option maxRecDepth 65536 in
theorem w_heap : heapFits about1 = true := by decide +kernel
set_option maxRecDepth 65536 in
theorem w_runnable : about1.curStatus? = some .runnable := by decide +kernel
set_option maxRecDepth 65536 in
theorem w_alone : about1.alone = true := by decide +kernel
set_option maxRecDepth 65536 in
theorem w_named : about1.methodNamed? x = some theMethod := by decide +kernel
set_option maxRecDepth 65536 in
theorem w_hears : about1.hears theMethod below0 = true := by decide +kernel
set_option maxRecDepth 65536 in
theorem w_ripe : about1.ripe theMethod args0 below0 = true := by decide +kernel
theorem w_running : about1.status = .running := rfl
set_option maxRecDepth 65536 in
theorem w_room : about1.hasRoom e0.platform room_1 = true :=
  launch0.hasRoom_least _ room_1 (by decide +kernel) (by decide +kernel) (by decide +kernel) (by decide +kernel) (by decide +kernel) (by decide +kernel)
theorem allAtoms_all (ts : List Jvm.Cond) (a : Array Jvm.Value) (st : Jvm.State) : (allAtoms ts).before a st = ts.all (fun c => c.before a st) := by
  induction ts with
  | nil => rfl
  | cons c t ih =>
    show (Jvm.Cond.and c (allAtoms t)).before a st = _
    rw [Jvm.Cond.before_and, ih, List.all_cons]
def words1 : List Jvm.Cond := Jvm.Cond.code x code maxLocals ret :: tables_1
/-- a 'code' word, met by the world's own term for the bytes: nothing is compared byte by byte -/
theorem code_word {y : MethodName} {bytes : ByteArray} {mx : Nat} {rt : Option FieldType} {a : Array Value} {s : State} {m : MethodId} {meth : Method} {c : Code} (h1 : s.methodNamed? y = some m) (h2 : s.vm.method? m = some meth) (h3 : meth.code = some c) (h4 : c.code = bytes)
    (h5 : (c.maxLocals == mx && c.exceptionTable.isEmpty && decide (c.maxStack ≤ mostOperands) && decide (meth.sig.returnType = rt) && !meth.locks && decide (parseMethodDescriptor y.desc = some meth.sig)) = true) : (Jvm.Cond.code y bytes mx rt).before a s = true := by
  simp only [Bool.and_eq_true, beq_iff_eq, Bool.not_eq_true', decide_eq_true_eq] at h5
  obtain ⟨⟨⟨⟨⟨g1, g2⟩, g3⟩, g4⟩, g5⟩, g6⟩ := h5
  simp [Cond.before, Cond.holds, Cond.value, h1, h2, h3, h4, g1, g2, g3, g4, g5, g6]
def isCode : Jvm.Cond → Bool
  | .code _ _ _ _ => true
  | _ => false
theorem all_split {L : List Jvm.Cond} {P : Jvm.Cond → Bool} (h1 : L.all (fun c => isCode c || P c) = true) (h2 : ∀ c ∈ L.filter isCode, P c = true) : L.all P = true := by
  refine List.all_eq_true.mpr fun c hc => ?_
  have h := List.all_eq_true.mp h1 c hc
  rcases Bool.eq_false_or_eq_true (isCode c) with hi | hi
  · exact h2 c (List.mem_filter.mpr ⟨hc, hi⟩)
  · simpa [hi] using h
set_option maxRecDepth 65536 in
theorem w_c0 : (Jvm.Cond.code x code maxLocals ret).before args0 about1 = true := code_word (m := ⟨1, 1⟩) (meth := k1m1) (c := k1c1) (by decide +kernel) rfl rfl rfl (by decide +kernel)
set_option maxRecDepth 65536 in
theorem w_c1 : (Jvm.Cond.code ({ cls := "com/example/keen_broker/keenbroker/store/MessageRef", name := "<init>", desc := "(IJ)V" } : Jvm.MethodName) prog_92_method_1_code (4 : Nat) (Option.none : Option Jvm.ClassFile.FieldType)).before args0 about1 = true := code_word (m := ⟨2, 0⟩) (meth := k2m0) (c := k2c0) (by decide +kernel) rfl rfl rfl (by decide +kernel)
set_option maxRecDepth 65536 in
theorem w_c2 : (Jvm.Cond.code ({ cls := "java/lang/Object", name := "<init>", desc := "()V" } : Jvm.MethodName) object_method_1_code (1 : Nat) (Option.none : Option Jvm.ClassFile.FieldType)).before args0 about1 = true := code_word (m := ⟨0, 0⟩) (meth := k0m0) (c := k0c0) (by decide +kernel) rfl rfl rfl (by decide +kernel)
set_option maxRecDepth 65536 in
theorem w_c3 : (Jvm.Cond.code ({ cls := "com/example/keen_broker/keenbroker/store/MessageRef", name := "equals", desc := "(Ljava/lang/Object;)Z" } : Jvm.MethodName) prog_92_method_4_code (3 : Nat) (Option.some Jvm.ClassFile.FieldType.boolean)).before args0 about1 = true := code_word (m := ⟨2, 1⟩) (meth := k2m1) (c := k2c1) (by decide +kernel) rfl rfl rfl (by decide +kernel)
set_option maxRecDepth 65536 in
theorem w_c4 : (Jvm.Cond.code ({ cls := "java/lang/Long", name := "valueOf", desc := "(J)Ljava/lang/Long;" } : Jvm.MethodName) jdk_35_method_24_code (3 : Nat) (Option.some (Jvm.ClassFile.FieldType.object "java/lang/Long"))).before args0 about1 = true := code_word (m := ⟨8, 0⟩) (meth := k8m0) (c := k8c0) (by decide +kernel) rfl rfl rfl (by decide +kernel)
set_option maxRecDepth 65536 in
theorem w_c5 : (Jvm.Cond.code ({ cls := "java/lang/Integer", name := "valueOf", desc := "(I)Ljava/lang/Integer;" } : Jvm.MethodName) jdk_33_method_22_code (1 : Nat) (Option.some (Jvm.ClassFile.FieldType.object "java/lang/Integer"))).before args0 about1 = true := code_word (m := ⟨10, 0⟩) (meth := k10m0) (c := k10c0) (by decide +kernel) rfl rfl rfl (by decide +kernel)
set_option maxRecDepth 65536 in
theorem w_c6 : (Jvm.Cond.code ({ cls := "java/lang/Integer", name := "<init>", desc := "(I)V" } : Jvm.MethodName) jdk_33_method_23_code (2 : Nat) (Option.none : Option Jvm.ClassFile.FieldType)).before args0 about1 = true := code_word (m := ⟨10, 1⟩) (meth := k10m1) (c := k10c1) (by decide +kernel) rfl rfl rfl (by decide +kernel)
set_option maxRecDepth 65536 in
theorem w_c7 : (Jvm.Cond.code ({ cls := "java/lang/Number", name := "<init>", desc := "()V" } : Jvm.MethodName) jdk_18_method_1_code (1 : Nat) (Option.none : Option Jvm.ClassFile.FieldType)).before args0 about1 = true := code_word (m := ⟨4, 0⟩) (meth := k4m0) (c := k4c0) (by decide +kernel) rfl rfl rfl (by decide +kernel)
set_option maxRecDepth 65536 in
theorem w_c8 : (Jvm.Cond.code ({ cls := "java/lang/Long", name := "<init>", desc := "(J)V" } : Jvm.MethodName) jdk_35_method_26_code (3 : Nat) (Option.none : Option Jvm.ClassFile.FieldType)).before args0 about1 = true := code_word (m := ⟨8, 1⟩) (meth := k8m1) (c := k8c1) (by decide +kernel) rfl rfl rfl (by decide +kernel)
def codes1 : List Jvm.Cond := [Jvm.Cond.code x code maxLocals ret, Jvm.Cond.code ({ cls := "com/example/keen_broker/keenbroker/store/MessageRef", name := "<init>", desc := "(IJ)V" } : Jvm.MethodName) prog_92_method_1_code (4 : Nat) (Option.none : Option Jvm.ClassFile.FieldType), Jvm.Cond.code ({ cls := "java/lang/Object", name := "<init>", desc := "()V" } : Jvm.MethodName) object_method_1_code (1 : Nat) (Option.none : Option Jvm.ClassFile.FieldType), Jvm.Cond.code ({ cls := "com/example/keen_broker/keenbroker/store/MessageRef", name := "equals", desc := "(Ljava/lang/Object;)Z" } : Jvm.MethodName) prog_92_method_4_code (3 : Nat) (Option.some Jvm.ClassFile.FieldType.boolean), Jvm.Cond.code ({ cls := "java/lang/Long", name := "valueOf", desc := "(J)Ljava/lang/Long;" } : Jvm.MethodName) jdk_35_method_24_code (3 : Nat) (Option.some (Jvm.ClassFile.FieldType.object "java/lang/Long")), Jvm.Cond.code ({ cls := "java/lang/Integer", name := "valueOf", desc := "(I)Ljava/lang/Integer;" } : Jvm.MethodName) jdk_33_method_22_code (1 : Nat) (Option.some (Jvm.ClassFile.FieldType.object "java/lang/Integer")), Jvm.Cond.code ({ cls := "java/lang/Integer", name := "<init>", desc := "(I)V" } : Jvm.MethodName) jdk_33_method_23_code (2 : Nat) (Option.none : Option Jvm.ClassFile.FieldType), Jvm.Cond.code ({ cls := "java/lang/Number", name := "<init>", desc := "()V" } : Jvm.MethodName) jdk_18_method_1_code (1 : Nat) (Option.none : Option Jvm.ClassFile.FieldType), Jvm.Cond.code ({ cls := "java/lang/Long", name := "<init>", desc := "(J)V" } : Jvm.MethodName) jdk_35_method_26_code (3 : Nat) (Option.none : Option Jvm.ClassFile.FieldType)]
set_option maxRecDepth 65536 in
theorem codes_eq : words1.filter isCode = codes1 := rfl
theorem w_codes : ∀ c ∈ words1.filter isCode, c.before args0 about1 = true := by
  rw [codes_eq]
  intro c hc
  simp only [codes1, List.mem_cons, List.not_mem_nil, or_false] at hc
  rcases hc with rfl | rfl | rfl | rfl | rfl | rfl | rfl | rfl | rfl
  · exact w_c0
  · exact w_c1
  · exact w_c2
  · exact w_c3
  · exact w_c4
  · exact w_c5
  · exact w_c6
  · exact w_c7
  · exact w_c8
set_option maxRecDepth 65536 in
theorem w_t1 : (words1.take 24).all (fun c => isCode c || c.before args0 about1) = true := by decide +kernel
set_option maxRecDepth 65536 in
theorem w_t2 : ((words1.drop 24).take 24).all (fun c => isCode c || c.before args0 about1) = true := by decide +kernel
set_option maxRecDepth 65536 in
theorem w_t3 : ((words1.drop 24).drop 24).all (fun c => isCode c || c.before args0 about1) = true := by decide +kernel
theorem w_tables : (allAtoms (Jvm.Cond.code x code maxLocals ret :: tables_1)).before args0 about1 = true := by
  rw [allAtoms_all]
  show words1.all (fun c => c.before args0 about1) = true
  refine all_split ?_ w_codes
  rw [← List.take_append_drop 24 words1, List.all_append, w_t1, ← List.take_append_drop 24 (words1.drop 24), List.all_append, w_t2, w_t3]
  rfl
set_option maxRecDepth 65536 in
theorem w_rest : rest_1_c.before args0 about1 = true := by decide +kernel
set_option maxRecDepth 65536 in
theorem w_case : (Jvm.Cond.and given_1 narrow_1).before args0 about1 = true := by decide +kernel
theorem w_applies : (headSpec (Jvm.Cond.code x code maxLocals ret :: tables_1) room_1).applies x e0.platform about1 = true :=
  (Spec.applies_iff w_frames).mpr ⟨w_running, w_runnable, w_alone, w_named, w_hears, w_ripe, w_room, w_tables⟩
theorem atStart : AtStart classFile x code maxLocals ret World_1 tables_1 room_1 Calls_1 rest_1 Pre_1 launch0 p0 e0 about1 theMethod args0 below0 :=
  ⟨lists_1, trivial, launch0.admits_env _ _ _, launch0.least_env, fairChoices_fair.cas, fairChoices_fair.clock, w_frames, w_args, w_heap, w_applies, trivial, w_rest, w_case⟩
end start1
theorem witness_1 : WitnessClaimed_1 := ⟨start1.p0, start1.e0, start1.about1, start1.theMethod, start1.args0, start1.below0, start1.atStart⟩
end Jvm.Pilot.@@N@@
