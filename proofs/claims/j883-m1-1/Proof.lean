import JvmDerived
import JvmDerived.Pilot.@@N@@Statement
import JvmDerived.Pilot.@@N@@Code
set_option linter.unusedVariables false
set_option linter.unusedSimpArgs false
namespace Jvm.RoadKit
open Sem ClassFile Op Lib Jvm.Stand Jvm.Free Jvm.LawKit
section New
variable {p : Program} {l : Launch} {e : Env} {R : Room} {s : State} {m : MethodId} {args : Array Value} {below : List Frame} {meth : Method} {c : Code} {T : State} {locs : List Loc} {cells slots : Nat}
theorem retI (X : Stand p l e R s m args below meth c T locs cells slots) (hx : p.tables.exec = Jvm.exec) {pc : Nat} {Ls : Array Slot} {z : Int32} {rest : List Value} (hret : meth.sig.returnType = some .int) (hd : decode c.code pc = .ok (.ireturn, 1)) {fs : List Frame}
    (hl : ∀ (f : JFrame) (acts : List Action), f.method = m → f.locked = none → f.entered = [] → (doReturn e (T.setTop f) acts (some (.int z))).1 = T.setFrames fs) : Steps p.tables e below (T.setTop (mkF m pc Ls (.int z :: rest))) (T.setFrames fs) := by
  have hm' : T.vm.method? m = some meth := X.method'
  have hn : narrow .int (.int z) = .int z := rfl
  show Steps p.tables e below (T.setTop { method := m, pc := pc, locals := Ls, stack := _ :: rest, locked := none }) _
  jvm_step X.here [X.here.top, hx, hd, hm', hret, hn]
  first | (intro acts; rw [hl _ acts rfl rfl rfl]) | rw [hl _ _ rfl rfl rfl]
  exact Steps.refl _
end New
end Jvm.RoadKit
namespace Jvm.Pilot.@@N@@
open Jvm Jvm.ClassFile Sem Op Lib Jvm.Free Jvm.Stand Jvm.LawKit Jvm.RoadKit Bundle Jvm.Pilot.@@N@@.Jvm.D
def own_max (a b : Int64) : Int64 := if a < b then b else a
theorem own_add0 (q : Int64) : q + (0 : Int64) = q := Int64.add_zero q
theorem own_untx {h h' : Heap} {a : Addr} (E : Ext h h') (U : Unt h a) : Unt h' a := by
  obtain ⟨cl, u1, u2, u3⟩ := U
  exact ⟨cl, E.2 _ _ u1, u2, u3⟩
theorem own_untw {h h' : Heap} {a : Addr} {sl : Nat} {v : Value} (W : Wr h h' a sl v) (U : Unt h a) : Unt h' a := by
  obtain ⟨cl, u1, u2, u3⟩ := U
  obtain ⟨c', e1, -, e3, -, -, -, e7⟩ := wr_at W u1
  exact ⟨c', e1, e3.trans u2, by rw [(e7 rfl).1]; exact u3⟩
theorem own_unto {h h' : Heap} {a b : Addr} {sl : Nat} {v : Value} (W : Wr h h' a sl v) (ne : b ≠ a) (U : Unt h b) : Unt h' b := by
  obtain ⟨cl, u1, u2, u3⟩ := U
  obtain ⟨c', e1, -, -, -, e5, -⟩ := wr_at W u1
  rw [e5 ne] at e1
  exact ⟨cl, e1, u2, u3⟩
theorem own_selfsel {s : State} {args : Array Value} {y : MethodName} {n : Nat} (wi : (Jvm.Cond.instantiable y.cls n).before args s = true) (hp : s.PrivateAt y) (hinst : (Jvm.Cond.instanceMethod y).before args s = true)
    (hy : y.cls ≠ "java/lang/invoke/MethodHandle" ∧ y.cls ≠ "java/lang/invoke/VarHandle") : (Jvm.Cond.selects y.cls y y).before args s = true := by
  obtain ⟨c, k, h1, h2, -, h4, -⟩ := Cond.instantiable_spec wi
  exact selects_self_of_private h1 h2 (Bool.or_eq_false_iff.mp h4).1 hp hinst hy
theorem own_backS {p : Program} {l : Launch} {e : Env} {R : Room} {s : State} {args : Array Value} {below : List Frame} {Z : State} {a0 : Array Value} {h : Heap} {y : MethodName} {bytes : ByteArray} {maxL : Nat} {ret : Option FieldType} {rm : Room} {len W : Nat} {as' : Array Value} {a : Addr} {Q : Option Value → Heap → List Loc → Prop}
    (hM : MetFree l y (head1 [Jvm.Cond.codeSync y bytes maxL ret, Jvm.Cond.instanceMethod y] rm) (fun as U => as = as' ∧ Z.Warmed39 U.vm ∧ U.heap = h ∧ ∃ cell : Cell, h[a]? = some cell ∧ cell.enterable U.cur) (fun _ _ _ _ _ => True) (fun _ U o U' => ∃ v L, o = .returned v ∧ Q v U'.heap L ∧ FrameEnd U o U' L rm.cells rm.slots))
    (hZ : Z.Warmed39 s.vm) (wc : (Jvm.Cond.codeSync y bytes maxL ret).before a0 Z = true) (wi : (Jvm.Cond.instanceMethod y).before a0 Z = true) (wz : (Jvm.Cond.initialized y.cls).before a0 Z = true) (N : Unt h a) (hf : rm.frames + 1 ≤ R.frames) (hl : W + (maxL + 11) + rm.locals ≤ R.locals) :
    Back l R p e below s args y len W (fun A as => as = as' ∧ A.U.heap = h ∧ A.cells + rm.cells ≤ R.cells ∧ A.slots + rm.slots ≤ R.slots)
      (fun A _ v B => ∃ L, Q v B.U.heap L ∧ B.locs = A.locs ++ L ∧ B.cells = A.cells + rm.cells ∧ B.slots = A.slots + rm.slots) :=
  Jvm.Free.XT.back_of_sync (bytes := bytes) (maxL := maxL) (ret := ret) (E := fun _ _ o t L k n => k = rm.cells ∧ n = rm.slots ∧ ∃ v, o = .returned v ∧ Q v t.heap L) hM hf hl
    (fun m meth c A as Y hp => have hU : Z.Warmed39 A.U.vm := wtrans hZ Y.warmed
      ⟨by show (Jvm.Cond.and _ (Jvm.Cond.and _ .tt)).before as A.U = true; rw [Cond.before_and, Cond.before_and, mv hU wc, mv hU wi]; rfl, mv hU wc, mv hU wz, hp.2.2.1, hp.2.2.2⟩)
    (fun m meth c A as g mk Y hp => ⟨hp.1, wtrans hZ Y.warmed, hp.2.1, by obtain ⟨cl, u1, -, u3⟩ := N; exact ⟨cl, u1, by rw [Cell.enterable, u3]; simp⟩⟩)
    (fun _ _ _ _ _ _ _ _ _ => trivial)
    (fun _ _ _ _ ⟨v, L, h1, h2, h3⟩ => ⟨L, _, _, h3, rfl, rfl, v, h1, h2⟩)
    (fun m meth c A as g mk v t L k n Y hp _ _ ⟨e1, e2, v', e3, e4⟩ => by cases e3; subst e1 e2; exact ⟨L, e4, rfl, rfl, rfl⟩)
theorem own_links {args : Array Value} {s : State} {cls : String} {x : MethodName} {index d c : Nat} {ck ok : Class} {meth : Method} {mf : MethodId}
    (hd : s.vm.findClass cls = some d) (hc : s.vm.findClass x.cls = some c) (hck : s.vm.classes[c]? = some ck) (hvi : ck.isInterface = true) (hnone : ck.findMethod x.name x.desc = none)
    (hf : s.methodFound? x.cls x.name x.desc = some mf) (hok : s.vm.classes[mf.cls]? = some ok) (hm : ok.methods[mf.idx]? = some meth)
    (hx : x.cls ≠ "java/lang/invoke/MethodHandle" ∧ x.cls ≠ "java/lang/invoke/VarHandle") (hcn : x.name ≠ "clone")
    (h : (Jvm.Cond.methodLink cls index x).before args s = true) (pl : Platform) (hpl : pl.magicAccessors = ({} : Platform).magicAccessors) :
    ∃ ci, s.vm.MethodLinksFF pl d index ci c mf ∧ s.rightAt d index (.method mf) = true := by
  by_cases hpub : hasFlag meth.accessFlags Acc.public_ = true
  · exact Cond.methodLink_specFF hd hc hck hvi hnone hf hok hm hpub hx h pl hpl
  obtain ⟨k₀, hk₀, hname⟩ := Vm.findClass_spec hc
  cases hck.symm.trans hk₀
  have hpoly : ∀ y, signaturePolymorphic ck y = false := fun y => by simp [signaturePolymorphic, hname, hx.1, hx.2]
  have hmeth : s.vm.method? mf = some meth := by simp [Vm.method?, hok, hm]
  simp only [Cond.before, Cond.holds, Cond.value, hd, hc, hf, hck, hok, hmeth] at h
  obtain ⟨⟨ci, via⟩, hme⟩ : ∃ me, s.memberEntry? cls index = some me := by
    cases q : s.memberEntry? cls index with
    | none => simp [q] at h
    | some me => exact ⟨me, rfl⟩
  obtain ⟨linked, hcl⟩ : ∃ b, s.classLinks cls ci x.cls = some b := by
    cases q : s.classLinks cls ci x.cls with
    | none => simp [hme, q] at h
    | some b => exact ⟨b, rfl⟩
  obtain ⟨dk, hdk⟩ : ∃ k, s.vm.classes[d]? = some k := by
    cases q : s.vm.classes[d]? with
    | none => simp [hme, hcl, q] at h
    | some k => exact ⟨k, rfl⟩
  simp only [hme, hcl, hdk, hck, hok, hmeth, Option.bind_eq_bind, Option.bind_some, Option.pure_def, beq_iff_eq, bne_iff_ne, ne_eq, Option.some.injEq, Bool.and_eq_true, Option.isNone_iff_eq_none, Bool.or_eq_true] at h
  obtain ⟨⟨⟨⟨⟨⟨⟨rfl, hnm⟩, hopen⟩, hvia⟩, -⟩, -⟩, hml⟩, hacc⟩ := h
  rw [hvi] at hvia
  subst hvia
  have hpl' : s.vm.Plain meth.accessFlags mf.cls ok c d dk := by
    rcases hacc with hacc | hacc
    · simp only [plainAccess, Bool.or_eq_true, Bool.and_eq_true, beq_iff_eq, Bool.not_eq_true'] at hacc
      rcases hacc with ((q | q) | q) | q
      · exact Or.inl q
      · exact Or.inr (Or.inl q)
      · exact Or.inr (Or.inr (Or.inl q))
      · exact Or.inr (Or.inr (Or.inr ⟨q.1.1.1, q.1.1.2, q.1.2, or_assoc.mp q.2⟩))
    · exact absurd hacc.1.2 hcn
  obtain ⟨cr, hcr, hlinks⟩ := State.classLinks_spec hd hcl pl hpl
  cases hc.symm.trans hcr
  obtain ⟨cp, hcp, hnames⟩ := State.names_spec hnm
  obtain ⟨dk', cf, hdk', hcf, rfl⟩ := State.poolOf?_spec hd hcp
  cases hdk.symm.trans hdk'
  obtain ⟨ci', nt, hent, hnt, -⟩ := namesOf?_method hnames
  have he2 : ci' = ci ∧ cf.constantPool[index]? = some (.interfaceMethodref ci nt) := by
    rcases hent with hent | hent <;> simp [State.memberEntry?, hcp, hent] at hme
    subst hme
    exact ⟨rfl, hent⟩
  obtain ⟨rfl, he3⟩ := he2
  obtain ⟨dq, cf', name', _, hd', hcf', hl', hname', _⟩ := hlinks.here
  cases hdk.symm.trans hd'
  cases hcf.symm.trans hcf'
  have hne : ci' ≠ index := by
    intro he
    subst he
    simp [ConstantPool.className?, he3] at hname'
  refine ⟨ci', ⟨dk, cf, nt, x.name, x.desc, ck, ok, meth, hdk, hcf, he3, hnt, hlinks, hne, hck, hvi, hpoly, hnone, State.faceFind_of_found hc hck hvi hpoly hnone hf, hok, hm, hl'.trans hml.symm, hpl', State.openOr_spec hd hdk hopen⟩, ?_⟩
  simp [State.rightAt, hdk, hcf, hnames, hf]
theorem own_faceUp {p : Program} {l : Launch} {e : Env} {R : Room} {s : State} {m : MethodId} {args : Array Value} {below : List Frame} {meth : Method} {c : Code} {T : State} {locs : List Loc} {cells slots : Nat}
    (X : Stand p l e R s m args below meth c T locs cells slots) (hexec : p.tables.exec = Jvm.exec) {own C J : String} {index count : Nat} {xi y : MethodName}
    (hown : s.vm.findClass own = some m.cls) (hlink : (Jvm.Cond.methodLink own index xi).before args s = true) (hdecl : (Jvm.Cond.declares ⟨J, xi.name, xi.desc⟩).before args s = true)
    (hface : (Jvm.Cond.interfaceMethod xi.cls J xi.name xi.desc).before args s = true) (hxo : xi.cls ≠ J) (hcn : xi.name ≠ "clone") (hsel : (Jvm.Cond.selects C xi y).before args s = true) (hinst : (Jvm.Cond.instanceMethod y).before args s = true)
    (hpub : (Jvm.Cond.publicMethod y).before args s = true) (hunh : (Jvm.Cond.unhidden C xi.name xi.desc).before args s = true) (hcast : (Jvm.Cond.castable C xi.cls).before args s = true)
    (hx : xi.cls ≠ "java/lang/invoke/MethodHandle" ∧ xi.cls ≠ "java/lang/invoke/VarHandle")
    {W : Nat} {Pre : Pt → Array Value → Prop} {Post : Pt → Array Value → Option Value → Pt → Prop} (hK : Back l R p e below s args y 5 W Pre Post)
    {b : Addr} {cB : ClassId} {kB : Class} (hcB : s.vm.findClass C = some cB) (hkB : s.vm.classes[cB]? = some kB) (hrecv : IsOf cB T b)
    {g : JFrame} (hg : g.method = m) (hsize : g.locals.size = c.maxLocals) {s₀ : State} (hcome : Steps p.tables e below s₀ (T.setTop g)) {argsL rest : List Value}
    (hlen : ∀ sig, parseMethodDescriptor xi.desc = some sig → argsL.length = sig.parameters.length) (hstack : g.stack = argsL.reverse ++ .ref b :: rest) (hW : 2 * g.monitorRoom + (rest.map fun v => v.category).sum ≤ W)
    (hdg : decode c.code g.pc = .ok (.invokeinterface index count, 5)) (hpre : ∀ vm₁, s.WarmedH vm₁ → Pre ⟨T.setVm vm₁, locs, cells, slots⟩ (.ref b :: argsL).toArray) :
    ∃ (v : Option Value) (vm₁ : Vm) (B : Pt), s.WarmedH vm₁ ∧ Stand p l e R s m args below meth c B.U B.locs B.cells B.slots ∧ Post ⟨T.setVm vm₁, locs, cells, slots⟩ (.ref b :: argsL).toArray v B ∧
      Steps p.tables e below s₀ (B.U.setTop { g with pc := g.pc + 5, stack := v.toList ++ rest }) := by
  -- what the words say
  obtain ⟨cellB, hcell, hclsB, hstatB⟩ := hrecv
  obtain ⟨r0, r, hn, hrm, hstR, hsigR⟩ := Cond.declares_spec hdecl
  obtain ⟨cI, kI, r1, hcI, hkI, hiI, hfound, hn1⟩ := Cond.interfaceMethod_spec hface
  cases hn.symm.trans hn1
  obtain ⟨hnameR, hdescR⟩ := name_of_methodNamed hn hrm
  obtain ⟨mk, methM, hnamed, hmethM, -, habM⟩ := Cond.instanceMethod_spec hinst
  obtain ⟨c2, r2, m2, q1, q2, q3, q4, -⟩ := Cond.selects_spec hsel
  cases hcB.symm.trans q1
  cases hfound.symm.trans q2
  cases hnamed.symm.trans q3
  obtain ⟨c3, t3, w1, w2, w3⟩ := Cond.castable_spec hcast
  cases hcB.symm.trans w1
  cases hcI.symm.trans w2
  have hselP : selectMethod e.platform s.vm cellB.cls r0 = .method mk := by rw [Launch.admits_selectMethod X.admits, hclsB]; exact q4
  have hpubM : hasFlag methM.accessFlags Acc.public_ = true := Cond.publicMethod_spec hnamed hmethM hpub
  have hway : ((cellB.cls :: s.vm.superclasses cellB.cls).any fun k => (declaredIn s.vm r.name r.desc k).any fun (_, z) => z.isPrivate || z.isStatic) = false := by
    rw [hnameR, hdescR, hclsB]; exact Cond.unhidden_spec hcB hunh
  obtain ⟨ok, hok, hokname⟩ := className_of_methodNamed hn
  have hmO : ok.methods[r0.idx]? = some r := by simpa [Vm.method?, hok] using hrm
  obtain ⟨kI', hkI', hnameI⟩ := Vm.findClass_spec hcI
  cases hkI.symm.trans hkI'
  have hpolyI : ∀ z, signaturePolymorphic kI z = false := fun z => by simp [signaturePolymorphic, hnameI, hx.1, hx.2]
  -- the named interface itself declares no such method
  have hnone : kI.findMethod xi.name xi.desc = none := by
    cases hj : kI.findMethod xi.name xi.desc with
    | none => rfl
    | some j =>
      have hsome : (kI.methods[j]?).isSome := by
        obtain ⟨hlt, -, -⟩ := Array.findIdx?_eq_some_iff_getElem.mp hj
        simp [hlt]
      have e1 : r0 = ⟨cI, j⟩ := Option.some.inj (hfound.symm.trans (State.methodFound?_declared hcI hkI hpolyI hj hsome))
      rw [e1] at hok
      cases hkI.symm.trans hok
      exact absurd (hnameI.symm.trans hokname) hxo
  have hpl : e.platform.magicAccessors = ({} : Platform).magicAccessors := by rw [X.admits.platform]
  obtain ⟨ci, hl, hright⟩ := own_links hown hcI hkI hiI hnone hfound hok hmO hx hcn hlink e.platform hpl
  have hE : s.MethodEntryUp e T.vm m.cls index cI r0 ci := State.methodEntryFF X.warmed hl hright
  obtain ⟨dk, cfile, nt, _, _, kI2, _, _, hd, hcf, hcp, -, -, -, hkI2, hvia, -⟩ := hl.here
  cases hkI.symm.trans hkI2
  have al := hE.warmed.alike
  obtain ⟨dk2, hdk2, hres⟩ := hE.classReady
  obtain ⟨dk3, hdk3, hed⟩ := al.2.2 _ _ hd
  cases hdk2.symm.trans hdk3
  obtain ⟨ki2, hki2, hec⟩ := al.2.2 _ _ hkI
  obtain ⟨kb2, hkb2, -⟩ := al.2.2 _ _ (show s.vm.classes[cellB.cls]? = some kB by rw [hclsB]; exact hkB)
  have X₁ : Stand p l e R s m args below meth c (T.setVm (T.vm.calledUp m.cls ci index cI r0)) locs cells slots := X.noted hE.warmed
  obtain ⟨v, B, X', hpost, hsteps⟩ := hK m meth c ⟨T.setVm (T.vm.calledUp m.cls ci index cI r0), locs, cells, slots⟩ { g with stack := rest } (.invokeinterface index count) mk (.ref b :: argsL).toArray X₁ hg hsize hdg hW (X₁.named hnamed) (hpre (T.vm.calledUp m.cls ci index cI r0) X₁.warmed)
  refine ⟨v, _, B, X₁.warmed, X', hpost, hcome.trans ?_⟩
  subst hg
  have hlenR := hlen _ hsigR
  jvm_step X.here [hexec, hdg, invokeinterface.wp_coldFace (e := e) (s := T) (s₀ := s) (f := g) (count := count) X.here.top X.warmed hE hd hcf (Or.inr hcp) hkI hvia,
    invokeinterface.wp_ready (e := e) (s := T.setVm (T.vm.calledUp g.method.cls ci index cI r0)) (f := g) (count := count) (r := r) (meth := methM) (m := mk) (args := argsL) (rest := rest) (cell := cellB) (kcell := kb2) (ck := dk2) (nk := ki2) (cf := cfile) (ci := ci) (nt := nt) (named := cI)
      X.here.top hE.ready (by show (T.vm.calledUp g.method.cls ci index cI r0).method? r0 = some r; rw [al.method?]; exact hrm) hstR hlenR hstack hcell (fun z q => by rw [q] at hstatB; cases hstatB) hkb2 hdk2 (by rw [hed]; exact hcf) hcp hres hki2 (by rw [hec]; exact hvia)
      (by show (T.vm.calledUp g.method.cls ci index cI r0).assignable cellB.cls cI = true; rw [al.assignable, hclsB]; exact w3)
      (by show selectMethod e.platform (T.vm.calledUp g.method.cls ci index cI r0) cellB.cls r0 = .method mk; rw [al.selectMethod]; exact hselP)
      (by show (T.vm.calledUp g.method.cls ci index cI r0).method? mk = some methM; rw [al.method?]; exact hmethM)
      (Or.inr (Or.inr (by show ((cellB.cls :: (T.vm.calledUp g.method.cls ci index cI r0).superclasses cellB.cls).any fun k => (declaredIn (T.vm.calledUp g.method.cls ci index cI r0) r.name r.desc k).any fun (_, z) => z.isPrivate || z.isStatic) = false; simp only [al.superclasses, al.declaredIn]; exact hway)))
      (Or.inl hpubM) habM]
  first
    | (intro acts; rw [doInvoke_state]; exact hsteps)
    | (rw [doInvoke_state]; exact hsteps)
    | exact hsteps
theorem own_mvI {Z s : State} {a0 args : Array Value} {r o n d : String} (hZ : Z.Warmed39 s.vm) (w : (Jvm.Cond.interfaceMethod r o n d).before a0 Z = true) : (Jvm.Cond.interfaceMethod r o n d).before args s = true := by
  have q : (Jvm.Cond.interfaceMethod r o n d).before args (Z.setVm s.vm) = true := by
    simp only [Cond.before, Cond.holds, Cond.value, State.vm_setVm, hZ.alike.findClass, State.methodFound?_setVm hZ.alike, State.methodNamed?_setVm hZ.alike, arm_isInterface_setVm hZ.alike] at w ⊢
    exact w
  simp only [Cond.before, Cond.holds, Cond.value] at q ⊢
  exact q

theorem own_mmax_d0 : decode jdk_29_method_66_code 0 = .ok (.lload_n 0, 1) := by decide +kernel
theorem own_mmax_d1 : decode jdk_29_method_66_code 1 = .ok (.lload_n 2, 1) := by decide +kernel
theorem own_mmax_d2 : decode jdk_29_method_66_code 2 = .ok (.lcmp, 1) := by decide +kernel
theorem own_mmax_d3 : decode jdk_29_method_66_code 3 = .ok (.ifCond .lt 7, 3) := by decide +kernel
theorem own_mmax_d6 : decode jdk_29_method_66_code 6 = .ok (.lload_n 0, 1) := by decide +kernel
theorem own_mmax_d7 : decode jdk_29_method_66_code 7 = .ok (.goto 4, 3) := by decide +kernel
theorem own_mmax_d10 : decode jdk_29_method_66_code 10 = .ok (.lload_n 2, 1) := by decide +kernel
theorem own_mmax_d11 : decode jdk_29_method_66_code 11 = .ok (.lreturn, 1) := by decide +kernel
theorem own_mmax_ef (m : MethodId) (x0 : Int64) (x1 : Int64) : entryFrame m #[(.long x0), (.long x1)] 4 = mkF m 0 #[.val (.long x0), .second, .val (.long x1), .second] [] := by first | (simp [entryFrame, mkF, argsToLocals, Value.category]; done) | rfl
def Q_own_mmax (Z : State) (q1 : Int64) (q2 : Int64) (h0 : Heap) (n0 : Nat) (v : Option Value) (h : Heap) (L : List Loc) : Prop := v = some (.long (own_max q1 q2)) ∧ Fr n0 L ∧ h = h0
set_option maxRecDepth 65536 in
set_option maxHeartbeats 40000000 in
theorem own_mmax (l : Launch) (Z : State) (a0 : Array Value) (hw : ∀ d ∈ tables_1, d.before a0 Z = true) (ws : List Jvm.Cond) (q1 : Int64) (q2 : Int64) (h0 : Heap) (n0 : Nat) (Z0 : n0 ≤ h0.size) :
    MetFree l (⟨"java/lang/Math", "max", "(JJ)J"⟩ : MethodName) (head1 (Jvm.Cond.code (⟨"java/lang/Math", "max", "(JJ)J"⟩ : MethodName) jdk_29_method_66_code 4 (some .long) :: ws) ({ frames := 0, cells := 0, slots := 0, locals := 0 } : Room)) (fun a U => a = #[(.long q1), (.long q2)] ∧ Z.Warmed39 U.vm ∧ U.heap = h0) (fun _ _ _ _ _ => True) (fun _ U o U' => ∃ v L, o = .returned v ∧ Q_own_mmax Z q1 q2 h0 n0 v U'.heap L ∧ FrameEnd U o U' L ({ frames := 0, cells := 0, slots := 0, locals := 0 } : Room).cells ({ frames := 0, cells := 0, slots := 0, locals := 0 } : Room).slots) := by
  refine MetFree.of_bodySF (Jvm.Free.JP.mathPlain rfl (by decide +kernel)) hisR ?_
  intro p e s m args below meth c s₁ Bd hml0 hP hK
  obtain ⟨rfl, hZ, hh⟩ := hP
  have hx := Bd.exec
  have hby := Bd.bytes
  have hml : c.maxLocals = 4 := hml0
  have hown : s.vm.findClass "java/lang/Math" = some m.cls := findClass_of_methodNamed Bd.named
  have hnm := (name_of_methodNamed Bd.named Bd.method).1
  have X0 : Stand p l e ({ frames := 0, cells := 0, slots := 0, locals := 0 } : Room) s m #[(.long q1), (.long q2)] below meth c s₁ [] 0 0 := Stand.of_body Bd
  have e0 : s₁.heap = h0 := by rw [← hh, Bd.state]; rfl
  have N0 := Fr.nil n0
  have pp0 : ∀ t, Steps p.tables e below (s₁.setTop (mkF m 0 #[.val (.long q1), .second, .val (.long q2), .second] [])) t → Steps p.tables e below (s₁.setTop (entryFrame m #[(.long q1), (.long q2)] 4)) t := fun t k => castTop (own_mmax_ef m q1 q2) k
  have pp101 : ∀ t, Steps p.tables e below (s₁.setTop (mkF m 3 #[.val (.long q1), .second, .val (.long q2), .second] [(.int (lcmpW q1 q2))])) t → Steps p.tables e below (s₁.setTop (entryFrame m #[(.long q1), (.long q2)] 4)) t := fun t k => pp0 t (by
    refine XS.lloadN X0.here hx rfl (hb hby own_mmax_d0) rfl ?_
    show Steps p.tables e below (s₁.setTop (mkF m 1 #[.val (.long q1), .second, .val (.long q2), .second] [(.long q1)])) _
    refine XS.lloadN X0.here hx rfl (hb hby own_mmax_d1) rfl ?_
    show Steps p.tables e below (s₁.setTop (mkF m 2 #[.val (.long q1), .second, .val (.long q2), .second] [(.long q2), (.long q1)])) _
    refine XS.lcmp X0.here hx rfl (hb hby own_mmax_d2) rfl ?_
    show Steps p.tables e below (s₁.setTop (mkF m 3 #[.val (.long q1), .second, .val (.long q2), .second] [(.int (lcmpW q1 q2))])) _
    exact k)
  by_cases hc3 : (lcmpW q1 q2) < (0 : Int32)
  · have pp102 : ∀ t, Steps p.tables e below (s₁.setTop (mkF m 11 #[.val (.long q1), .second, .val (.long q2), .second] [(.long q2)])) t → Steps p.tables e below (s₁.setTop (entryFrame m #[(.long q1), (.long q2)] 4)) t := fun t k => pp101 t (by
      refine XS.ifYes X0.here hx rfl (pc0 := 3) (pc' := 10) rfl (hb hby own_mmax_d3) rfl ((if0 _ _).trans (tlt hc3).1) (by decide) (by decide) ?_
      show Steps p.tables e below (s₁.setTop (mkF m 10 #[.val (.long q1), .second, .val (.long q2), .second] [])) _
      refine XS.lloadN X0.here hx rfl (hb hby own_mmax_d10) rfl ?_
      show Steps p.tables e below (s₁.setTop (mkF m 11 #[.val (.long q1), .second, .val (.long q2), .second] [(.long q2)])) _
      exact k)
    obtain ⟨fs, hr, hrun, hended, hW, hsame⟩ := X0.leave (v := some (.long q2)) (fun h => by rw [Bd.returns] at h; cases h)
    refine ⟨_, _, pp102 _ ?_, hrun, hended, _, _, rfl, ?_, ⟨_, rfl⟩, hW, hsame.mono (by decide) (by decide)⟩
    · exact retOut X0 hx Bd.returns rfl (Or.inr (Or.inl ⟨rfl, rfl, _, rfl⟩)) (hb hby own_mmax_d11) hr
    · show Q_own_mmax Z q1 q2 h0 n0 _ s₁.heap _
      rw [e0]
      exact ⟨by rw [own_max, if_pos ((lw_lt _ _).mp hc3)], N0, rfl⟩
  · have pp103 : ∀ t, Steps p.tables e below (s₁.setTop (mkF m 11 #[.val (.long q1), .second, .val (.long q2), .second] [(.long q1)])) t → Steps p.tables e below (s₁.setTop (entryFrame m #[(.long q1), (.long q2)] 4)) t := fun t k => pp101 t (by
      refine XS.ifNo X0.here hx rfl (hb hby own_mmax_d3) rfl ((if0 _ _).trans (flt hc3).1) ?_
      show Steps p.tables e below (s₁.setTop (mkF m 6 #[.val (.long q1), .second, .val (.long q2), .second] [])) _
      refine XS.lloadN X0.here hx rfl (hb hby own_mmax_d6) rfl ?_
      show Steps p.tables e below (s₁.setTop (mkF m 7 #[.val (.long q1), .second, .val (.long q2), .second] [(.long q1)])) _
      refine XS.goto X0.here hx rfl (pc0 := 7) (pc' := 11) rfl (hb hby own_mmax_d7) (by decide) (by decide) ?_
      show Steps p.tables e below (s₁.setTop (mkF m 11 #[.val (.long q1), .second, .val (.long q2), .second] [(.long q1)])) _
      exact k)
    obtain ⟨fs, hr, hrun, hended, hW, hsame⟩ := X0.leave (v := some (.long q1)) (fun h => by rw [Bd.returns] at h; cases h)
    refine ⟨_, _, pp103 _ ?_, hrun, hended, _, _, rfl, ?_, ⟨_, rfl⟩, hW, hsame.mono (by decide) (by decide)⟩
    · exact retOut X0 hx Bd.returns rfl (Or.inr (Or.inl ⟨rfl, rfl, _, rfl⟩)) (hb hby own_mmax_d11) hr
    · show Q_own_mmax Z q1 q2 h0 n0 _ s₁.heap _
      rw [e0]
      exact ⟨by rw [own_max, if_neg (fun q => hc3 ((lw_lt _ _).mpr q))], N0, rfl⟩
theorem own_ac_d0 : decode jdk_22_method_1_code 0 = .ok (.aload_n 0, 1) := by decide +kernel
theorem own_ac_d1 : decode jdk_22_method_1_code 1 = .ok (.invokespecial 1, 3) := by decide +kernel
theorem own_ac_d4 : decode jdk_22_method_1_code 4 = .ok (.return_, 1) := by decide +kernel
theorem own_ac_pn : plainName "java/util/AbstractCollection" = true := by first | (simp [plainName, overriddenIn]; done) | decide +kernel
theorem own_ac_ef (m : MethodId) (x0 : Addr) : entryFrame m #[(.ref x0)] 1 = mkF m 0 #[.val (.ref x0)] [] := by first | (simp [entryFrame, mkF, argsToLocals, Value.category]; done) | rfl
def Q_own_ac (Z : State) (a1 : Addr) (h0 : Heap) (n0 : Nat) (v : Option Value) (h : Heap) (L : List Loc) : Prop := v = none ∧ Fr n0 L ∧ h = h0
set_option maxRecDepth 65536 in
set_option maxHeartbeats 40000000 in
theorem own_ac (l : Launch) (Z : State) (a0 : Array Value) (hw : ∀ d ∈ tables_1, d.before a0 Z = true) (ws : List Jvm.Cond) (a1 : Addr) (h0 : Heap) (n0 : Nat) (Z0 : n0 ≤ h0.size) :
    MetFree l (⟨"java/util/AbstractCollection", "<init>", "()V"⟩ : MethodName) (head1 (Jvm.Cond.code (⟨"java/util/AbstractCollection", "<init>", "()V"⟩ : MethodName) jdk_22_method_1_code 1 none :: ws) ({ frames := 1, cells := 0, slots := 0, locals := 12 } : Room)) (fun a U => a = #[(.ref a1)] ∧ Z.Warmed39 U.vm ∧ U.heap = h0) (fun _ _ _ _ _ => True) (fun _ U o U' => ∃ v L, o = .returned v ∧ Q_own_ac Z a1 h0 n0 v U'.heap L ∧ FrameEnd U o U' L ({ frames := 1, cells := 0, slots := 0, locals := 12 } : Room).cells ({ frames := 1, cells := 0, slots := 0, locals := 12 } : Room).slots) := by
  refine MetFree.of_bodySF (plainFor_of_name own_ac_pn) hisR ?_
  intro p e s m args below meth c s₁ Bd hml0 hP hK
  obtain ⟨rfl, hZ, hh⟩ := hP
  have hx := Bd.exec
  have hby := Bd.bytes
  have hml : c.maxLocals = 1 := hml0
  have hown : s.vm.findClass "java/util/AbstractCollection" = some m.cls := findClass_of_methodNamed Bd.named
  have hnm := (name_of_methodNamed Bd.named Bd.method).1
  have X0 : Stand p l e ({ frames := 1, cells := 0, slots := 0, locals := 12 } : Room) s m #[(.ref a1)] below meth c s₁ [] 0 0 := Stand.of_body Bd
  have e0 : s₁.heap = h0 := by rw [← hh, Bd.state]; rfl
  have N0 := Fr.nil n0
  have pp0 : ∀ t, Steps p.tables e below (s₁.setTop (mkF m 0 #[.val (.ref a1)] [])) t → Steps p.tables e below (s₁.setTop (entryFrame m #[(.ref a1)] 1)) t := fun t k => castTop (own_ac_ef m a1) k
  have pp101 : ∀ t, Steps p.tables e below (s₁.setTop (mkF m 1 #[.val (.ref a1)] [(.ref a1)])) t → Steps p.tables e below (s₁.setTop (entryFrame m #[(.ref a1)] 1)) t := fun t k => pp0 t (by
    refine XS.aloadN X0.here hx rfl (hb hby own_ac_d0) rfl rfl ?_
    show Steps p.tables e below (s₁.setTop (mkF m 1 #[.val (.ref a1)] [(.ref a1)])) _
    exact k)
  obtain ⟨T102, X102, e102, st102⟩ := initO X0 hx hZ hown (hw _ (List.mem_of_getElem? (i := 24) rfl)) (hw _ (List.mem_of_getElem? (i := 10) rfl)) (hw _ (List.mem_of_getElem? (i := 11) rfl)) e0 (g := (mkF m 1 #[.val (.ref a1)] [(.ref a1)])) rfl (by rw [hml]; rfl) rfl (hb hby own_ac_d1) (by decide) (W := 0) (by show 2 * 0 + _ ≤ _; exact Nat.le_of_eq rfl) (by decide)
  have pp103 : ∀ t, Steps p.tables e below (T102.setTop (mkF m 4 #[.val (.ref a1)] [])) t → Steps p.tables e below (s₁.setTop (entryFrame m #[(.ref a1)] 1)) t := fun t k => pp101 t (st102 t k)
  obtain ⟨fs, hr, hrun, hended, hW, hsame⟩ := X102.leave (v := none) (fun _ => rfl)
  refine ⟨_, _, pp103 _ ?_, hrun, hended, _, _, rfl, ?_, ⟨_, rfl⟩, hW, hsame.mono (by decide) (by decide)⟩
  · exact X102.returnOut hx Bd.returns (hb hby own_ac_d4) hr
  · show Q_own_ac Z a1 h0 n0 _ T102.heap _
    rw [e102]
    exact ⟨rfl, N0, rfl⟩
theorem pd___V : parseMethodDescriptor "()V" = some ⟨[], none⟩ := by decide +kernel
theorem own_adinit_d0 : decode jdk_21_method_3_code 0 = .ok (.aload_n 0, 1) := by decide +kernel
theorem own_adinit_d1 : decode jdk_21_method_3_code 1 = .ok (.invokespecial 42, 3) := by decide +kernel
theorem own_adinit_d4 : decode jdk_21_method_3_code 4 = .ok (.aload_n 0, 1) := by decide +kernel
theorem own_adinit_d5 : decode jdk_21_method_3_code 5 = .ok (.bipush 17, 2) := by decide +kernel
theorem own_adinit_d7 : decode jdk_21_method_3_code 7 = .ok (.anewarray 47, 3) := by decide +kernel
theorem own_adinit_d10 : decode jdk_21_method_3_code 10 = .ok (.putfield 3, 3) := by decide +kernel
theorem own_adinit_d13 : decode jdk_21_method_3_code 13 = .ok (.return_, 1) := by decide +kernel
theorem own_adinit_pn : plainName "java/util/ArrayDeque" = true := by first | (simp [plainName, overriddenIn]; done) | decide +kernel
theorem own_adinit_ef (m : MethodId) (x0 : Addr) : entryFrame m #[(.ref x0)] 1 = mkF m 0 #[.val (.ref x0)] [] := by first | (simp [entryFrame, mkF, argsToLocals, Value.category]; done) | rfl
def Q_own_adinit (Z : State) (a1 : Addr) (u1 : Value) (h0 : Heap) (n0 : Nat) (v : Option Value) (h : Heap) (L : List Loc) : Prop := v = none ∧ Fr n0 L ∧ Keep h0 h [a1] ∧ Exa Z h a1 "java/util/ArrayDeque" ∧ Fld Z h a1 "java/util/ArrayDeque" "head" "I" (.int (0 : Int32)) ∧ Fld Z h a1 "java/util/ArrayDeque" "tail" "I" (.int (0 : Int32))
set_option maxRecDepth 65536 in
set_option maxHeartbeats 40000000 in
theorem own_adinit (l : Launch) (Z : State) (a0 : Array Value) (hw : ∀ d ∈ tables_1, d.before a0 Z = true) (ws : List Jvm.Cond) (a1 : Addr) (u1 : Value) (h0 : Heap) (n0 : Nat) (Z0 : n0 ≤ h0.size) (E1 : Exa Z h0 a1 "java/util/ArrayDeque") (F1 : Fld Z h0 a1 "java/util/ArrayDeque" "elements" "[Ljava/lang/Object;" u1) (F2 : Fld Z h0 a1 "java/util/ArrayDeque" "head" "I" (.int (0 : Int32))) (F3 : Fld Z h0 a1 "java/util/ArrayDeque" "tail" "I" (.int (0 : Int32))) (g_a1 : n0 ≤ a1) :
    MetFree l (⟨"java/util/ArrayDeque", "<init>", "()V"⟩ : MethodName) (head1 (Jvm.Cond.code (⟨"java/util/ArrayDeque", "<init>", "()V"⟩ : MethodName) jdk_21_method_3_code 1 none :: ws) ({ frames := 2, cells := 1, slots := 17, locals := 24 } : Room)) (fun a U => a = #[(.ref a1)] ∧ Z.Warmed39 U.vm ∧ U.heap = h0) (fun _ _ _ _ _ => True) (fun _ U o U' => ∃ v L, o = .returned v ∧ Q_own_adinit Z a1 u1 h0 n0 v U'.heap L ∧ FrameEnd U o U' L ({ frames := 2, cells := 1, slots := 17, locals := 24 } : Room).cells ({ frames := 2, cells := 1, slots := 17, locals := 24 } : Room).slots) := by
  refine MetFree.of_bodySF (plainFor_of_name own_adinit_pn) hisR ?_
  intro p e s m args below meth c s₁ Bd hml0 hP hK
  obtain ⟨rfl, hZ, hh⟩ := hP
  have hx := Bd.exec
  have hby := Bd.bytes
  have hml : c.maxLocals = 1 := hml0
  have hown : s.vm.findClass "java/util/ArrayDeque" = some m.cls := findClass_of_methodNamed Bd.named
  have hnm := (name_of_methodNamed Bd.named Bd.method).1
  have X0 : Stand p l e ({ frames := 2, cells := 1, slots := 17, locals := 24 } : Room) s m #[(.ref a1)] below meth c s₁ [] 0 0 := Stand.of_body Bd
  have e0 : s₁.heap = h0 := by rw [← hh, Bd.state]; rfl
  have N0 := Fr.nil n0
  have pp0 : ∀ t, Steps p.tables e below (s₁.setTop (mkF m 0 #[.val (.ref a1)] [])) t → Steps p.tables e below (s₁.setTop (entryFrame m #[(.ref a1)] 1)) t := fun t k => castTop (own_adinit_ef m a1) k
  have pp101 : ∀ t, Steps p.tables e below (s₁.setTop (mkF m 1 #[.val (.ref a1)] [(.ref a1)])) t → Steps p.tables e below (s₁.setTop (entryFrame m #[(.ref a1)] 1)) t := fun t k => pp0 t (by
    refine XS.aloadN X0.here hx rfl (hb hby own_adinit_d0) rfl rfl ?_
    show Steps p.tables e below (s₁.setTop (mkF m 1 #[.val (.ref a1)] [(.ref a1)])) _
    exact k)
  obtain ⟨_, _, ⟨T102, L102, k102, n102⟩, -, X102, ⟨Lc102, hQ102, l102, y102, z102⟩, st102⟩ := X0.specialBack hx (y := (⟨"java/util/AbstractCollection", "<init>", "()V"⟩ : MethodName)) rfl hown (mvT hZ (hw _ (List.mem_of_getElem? (i := 18) rfl))) (mvT hZ (hw _ (List.mem_of_getElem? (i := 19) rfl))) (mvT hZ (hw _ (List.mem_of_getElem? (i := 23) rfl))) (by decide) (backOf (W := 0) (own_ac l Z a0 hw [] a1 h0 n0 Z0) hZ (hw _ (List.mem_of_getElem? (i := 23) rfl)) (hw _ (List.mem_of_getElem? (i := 22) rfl)) (by decide) (by decide)) (g := (mkF m 1 #[.val (.ref a1)] [(.ref a1)])) rfl (by rw [hml]; rfl) (Steps.refl _) (a := a1) (argsL := []) (rest := []) (lenOf pd___V rfl) rfl (by show 2 * 0 + _ ≤ _; exact Nat.le_of_eq rfl) (hb hby own_adinit_d1) (fun _ _ => ⟨rfl, e0, (by decide : 0 + 0 ≤ _), (by decide : 0 + 0 ≤ _)⟩)
  dsimp only [Pt.U, Pt.locs, Pt.cells, Pt.slots] at X102 l102 y102 z102 st102 hQ102
  subst l102 y102 z102
  obtain ⟨rfl, N102q, s102⟩ := hQ102
  have N102 := Fr.app N0 N102q
  have pp103 : ∀ t, Steps p.tables e below (T102.setTop (mkF m 4 #[.val (.ref a1)] [])) t → Steps p.tables e below (s₁.setTop (entryFrame m #[(.ref a1)] 1)) t := fun t k => pp101 t (st102.trans k)
  have pp104 : ∀ t, Steps p.tables e below (T102.setTop (mkF m 7 #[.val (.ref a1)] [(.int (17 : Int32)), (.ref a1)])) t → Steps p.tables e below (s₁.setTop (entryFrame m #[(.ref a1)] 1)) t := fun t k => pp103 t (by
    refine XS.aloadN X102.here hx rfl (hb hby own_adinit_d4) rfl rfl ?_
    show Steps p.tables e below (T102.setTop (mkF m 5 #[.val (.ref a1)] [(.ref a1)])) _
    refine XS.bipush X102.here hx rfl (hb hby own_adinit_d5) ?_
    show Steps p.tables e below (T102.setTop (mkF m 7 #[.val (.ref a1)] [(.int (17 : Int32)), (.ref a1)])) _
    exact k)
  obtain ⟨T105, h105, k105, X105, e105, E105, A105, O105, st105⟩ := newR X102 hx hZ hown (hw _ (List.mem_of_getElem? (i := 25) rfl)) (hw _ (List.mem_of_getElem? (i := 26) rfl)) s102 (g := (mkF m 7 #[.val (.ref a1)] [(.int (17 : Int32)), (.ref a1)])) rfl (hb hby own_adinit_d7) rfl (by decide) (cap := 17) (by decide) (by decide) (by decide) (by decide)
  obtain ⟨b105, g105⟩ : ∃ z, z = h0.size := ⟨_, rfl⟩
  rw [← g105] at A105 st105
  have g_b105 : n0 ≤ b105 := Nat.le_trans Z0 (Nat.le_of_eq g105.symm)
  have sz_b105 : h0.size ≤ b105 := Nat.le_trans (Keep.refl h0 [a1]).1 (Nat.le_of_eq g105.symm)
  have V_b105 : Arv Z h105 b105 k105 (.object "java/lang/Object") (17 : Int32) [.null, .null, .null, .null, .null, .null, .null, .null, .null, .null, .null, .null, .null, .null, .null, .null, .null] .null := (Arv.new A105 (by decide)).pad (pad_rep [] .null 17)
  have pp106 : ∀ t, Steps p.tables e below (T105.setTop (mkF m 10 #[.val (.ref a1)] [(.ref b105), (.ref a1)])) t → Steps p.tables e below (s₁.setTop (entryFrame m #[(.ref a1)] 1)) t := fun t k => pp104 t (st105 t k)
  obtain ⟨T107, h107, X107, e107, W107, st107⟩ := putF X105 hx hZ hown (host := "") (Or.inl (hw _ (List.mem_of_getElem? (i := 27) rfl))) Via.refl e105 (F1.ext E105) (E1.ext E105) (Or.inl (hw _ (List.mem_of_getElem? (i := 28) rfl))) (hw _ (List.mem_of_getElem? (i := 13) rfl)) (ty := (.array (.object "java/lang/Object"))) (by decide) rfl rfl (g := (mkF m 10 #[.val (.ref a1)] [(.ref b105), (.ref a1)])) rfl rfl (hb hby own_adinit_d10)
  have Fw107 := (F1.ext E105).same W107
  have N107 := Fr.snoc X107 N102 g_a1
  have pp108 : ∀ t, Steps p.tables e below (T107.setTop (mkF m 13 #[.val (.ref a1)] [])) t → Steps p.tables e below (s₁.setTop (entryFrame m #[(.ref a1)] 1)) t := fun t k => pp106 t (st107 t k)
  obtain ⟨fs, hr, hrun, hended, hW, hsame⟩ := X107.leave (v := none) (fun _ => rfl)
  refine ⟨_, _, pp108 _ ?_, hrun, hended, _, _, rfl, ?_, ⟨_, rfl⟩, hW, hsame.mono (by decide) (by decide)⟩
  · exact X107.returnOut hx Bd.returns (hb hby own_adinit_d13) hr
  · show Q_own_adinit Z a1 u1 h0 n0 _ T107.heap _
    rw [e107]
    exact ⟨rfl, N107, (((Keep.refl h0 [a1]).ext E105).wr W107 (Or.inl (List.mem_of_getElem? (i := 0) rfl))), ((E1.ext E105).wr W107), ((F2.ext E105).other W107 (Or.inr (slot_ne (Or.inl (hw _ (List.mem_of_getElem? (i := 65) rfl))) (Or.inl (hw _ (List.mem_of_getElem? (i := 28) rfl))) (by decide) (t := .int) (t' := (.array (.object "java/lang/Object"))) (by decide) (by decide)))), ((F3.ext E105).other W107 (Or.inr (slot_ne (Or.inl (hw _ (List.mem_of_getElem? (i := 67) rfl))) (Or.inl (hw _ (List.mem_of_getElem? (i := 28) rfl))) (by decide) (t := .int) (t' := (.array (.object "java/lang/Object"))) (by decide) (by decide))))⟩
theorem own_init2_d0 : decode prog_6_method_2_code 0 = .ok (.aload_n 0, 1) := by decide +kernel
theorem own_init2_d1 : decode prog_6_method_2_code 1 = .ok (.invokespecial 7, 3) := by decide +kernel
theorem own_init2_d4 : decode prog_6_method_2_code 4 = .ok (.aload_n 0, 1) := by decide +kernel
theorem own_init2_d5 : decode prog_6_method_2_code 5 = .ok (.new 12, 3) := by decide +kernel
theorem own_init2_d8 : decode prog_6_method_2_code 8 = .ok (.dup, 1) := by decide +kernel
theorem own_init2_d9 : decode prog_6_method_2_code 9 = .ok (.invokespecial 14, 3) := by decide +kernel
theorem own_init2_d12 : decode prog_6_method_2_code 12 = .ok (.putfield 15, 3) := by decide +kernel
theorem own_init2_d15 : decode prog_6_method_2_code 15 = .ok (.aload_n 0, 1) := by decide +kernel
theorem own_init2_d16 : decode prog_6_method_2_code 16 = .ok (.lload_n 1, 1) := by decide +kernel
theorem own_init2_d17 : decode prog_6_method_2_code 17 = .ok (.putfield 19, 3) := by decide +kernel
theorem own_init2_d20 : decode prog_6_method_2_code 20 = .ok (.aload_n 0, 1) := by decide +kernel
theorem own_init2_d21 : decode prog_6_method_2_code 21 = .ok (.aload_n 3, 1) := by decide +kernel
theorem own_init2_d22 : decode prog_6_method_2_code 22 = .ok (.putfield 23, 3) := by decide +kernel
theorem own_init2_d25 : decode prog_6_method_2_code 25 = .ok (.return_, 1) := by decide +kernel
theorem own_init2_pn : plainName "com/example/ackd/ackd/budget/BodyBudget" = true := by first | (simp [plainName, overriddenIn]; done) | decide +kernel
theorem own_init2_ef (m : MethodId) (x0 : Addr) (x1 : Int64) : entryFrame m #[(.ref x0), (.long x1), .null] 4 = mkF m 0 #[.val (.ref x0), .val (.long x1), .second, .val .null] [] := by first | (simp [entryFrame, mkF, argsToLocals, Value.category]; done) | rfl
def Q_own_init2 (Z : State) (a1 : Addr) (q2 : Int64) (u1 : Value) (u2 : Value) (u4 : Value) (h0 : Heap) (n0 : Nat) (v : Option Value) (h : Heap) (L : List Loc) : Prop := v = none ∧ Fr n0 L ∧ Keep h0 h [a1] ∧ Exa Z h a1 "com/example/ackd/ackd/budget/BodyBudget" ∧ Fld Z h a1 "com/example/ackd/ackd/budget/BodyBudget" "own" "J" (.long q2) ∧ Fld Z h a1 "com/example/ackd/ackd/budget/BodyBudget" "shared" "Lcom/example/ackd/ackd/budget/BodyBudget;" .null ∧ Fld Z h a1 "com/example/ackd/ackd/budget/BodyBudget" "taken" "J" (.long (0 : Int64)) ∧ Unt h a1 ∧ ∃ dq : Addr, Fld Z h a1 "com/example/ackd/ackd/budget/BodyBudget" "kept" "Ljava/util/Deque;" (.ref dq) ∧ Exa Z h dq "java/util/ArrayDeque" ∧ Fld Z h dq "java/util/ArrayDeque" "head" "I" (.int (0 : Int32)) ∧ Fld Z h dq "java/util/ArrayDeque" "tail" "I" (.int (0 : Int32))
set_option maxRecDepth 65536 in
set_option maxHeartbeats 40000000 in
theorem own_init2 (l : Launch) (Z : State) (a0 : Array Value) (hw : ∀ d ∈ tables_1, d.before a0 Z = true) (ws : List Jvm.Cond) (a1 : Addr) (q2 : Int64) (u1 : Value) (u2 : Value) (u4 : Value) (h0 : Heap) (n0 : Nat) (Z0 : n0 ≤ h0.size) (E1 : Exa Z h0 a1 "com/example/ackd/ackd/budget/BodyBudget") (F1 : Fld Z h0 a1 "com/example/ackd/ackd/budget/BodyBudget" "own" "J" u1) (F2 : Fld Z h0 a1 "com/example/ackd/ackd/budget/BodyBudget" "shared" "Lcom/example/ackd/ackd/budget/BodyBudget;" u2) (F3 : Fld Z h0 a1 "com/example/ackd/ackd/budget/BodyBudget" "taken" "J" (.long (0 : Int64))) (F4 : Fld Z h0 a1 "com/example/ackd/ackd/budget/BodyBudget" "kept" "Ljava/util/Deque;" u4) (U1 : Unt h0 a1) (g_a1 : n0 ≤ a1) :
    MetFree l (⟨"com/example/ackd/ackd/budget/BodyBudget", "<init>", "(JLcom/example/ackd/ackd/budget/BodyBudget;)V"⟩ : MethodName) (head1 (Jvm.Cond.code (⟨"com/example/ackd/ackd/budget/BodyBudget", "<init>", "(JLcom/example/ackd/ackd/budget/BodyBudget;)V"⟩ : MethodName) prog_6_method_2_code 4 none :: ws) ({ frames := 3, cells := 2, slots := 20, locals := 38 } : Room)) (fun a U => a = #[(.ref a1), (.long q2), .null] ∧ Z.Warmed39 U.vm ∧ U.heap = h0) (fun _ _ _ _ _ => True) (fun _ U o U' => ∃ v L, o = .returned v ∧ Q_own_init2 Z a1 q2 u1 u2 u4 h0 n0 v U'.heap L ∧ FrameEnd U o U' L ({ frames := 3, cells := 2, slots := 20, locals := 38 } : Room).cells ({ frames := 3, cells := 2, slots := 20, locals := 38 } : Room).slots) := by
  refine MetFree.of_bodySF (plainFor_of_name own_init2_pn) hisR ?_
  intro p e s m args below meth c s₁ Bd hml0 hP hK
  obtain ⟨rfl, hZ, hh⟩ := hP
  have hx := Bd.exec
  have hby := Bd.bytes
  have hml : c.maxLocals = 4 := hml0
  have hown : s.vm.findClass "com/example/ackd/ackd/budget/BodyBudget" = some m.cls := findClass_of_methodNamed Bd.named
  have hnm := (name_of_methodNamed Bd.named Bd.method).1
  have X0 : Stand p l e ({ frames := 3, cells := 2, slots := 20, locals := 38 } : Room) s m #[(.ref a1), (.long q2), .null] below meth c s₁ [] 0 0 := Stand.of_body Bd
  have e0 : s₁.heap = h0 := by rw [← hh, Bd.state]; rfl
  have N0 := Fr.nil n0
  have pp0 : ∀ t, Steps p.tables e below (s₁.setTop (mkF m 0 #[.val (.ref a1), .val (.long q2), .second, .val .null] [])) t → Steps p.tables e below (s₁.setTop (entryFrame m #[(.ref a1), (.long q2), .null] 4)) t := fun t k => castTop (own_init2_ef m a1 q2) k
  have pp101 : ∀ t, Steps p.tables e below (s₁.setTop (mkF m 1 #[.val (.ref a1), .val (.long q2), .second, .val .null] [(.ref a1)])) t → Steps p.tables e below (s₁.setTop (entryFrame m #[(.ref a1), (.long q2), .null] 4)) t := fun t k => pp0 t (by
    refine XS.aloadN X0.here hx rfl (hb hby own_init2_d0) rfl rfl ?_
    show Steps p.tables e below (s₁.setTop (mkF m 1 #[.val (.ref a1), .val (.long q2), .second, .val .null] [(.ref a1)])) _
    exact k)
  obtain ⟨T102, X102, e102, st102⟩ := initO X0 hx hZ hown (hw _ (List.mem_of_getElem? (i := 9) rfl)) (hw _ (List.mem_of_getElem? (i := 10) rfl)) (hw _ (List.mem_of_getElem? (i := 11) rfl)) e0 (g := (mkF m 1 #[.val (.ref a1), .val (.long q2), .second, .val .null] [(.ref a1)])) rfl (by rw [hml]; rfl) rfl (hb hby own_init2_d1) (by decide) (W := 0) (by show 2 * 0 + _ ≤ _; exact Nat.le_of_eq rfl) (by decide)
  have pp103 : ∀ t, Steps p.tables e below (T102.setTop (mkF m 4 #[.val (.ref a1), .val (.long q2), .second, .val .null] [])) t → Steps p.tables e below (s₁.setTop (entryFrame m #[(.ref a1), (.long q2), .null] 4)) t := fun t k => pp101 t (st102 t k)
  have pp104 : ∀ t, Steps p.tables e below (T102.setTop (mkF m 5 #[.val (.ref a1), .val (.long q2), .second, .val .null] [(.ref a1)])) t → Steps p.tables e below (s₁.setTop (entryFrame m #[(.ref a1), (.long q2), .null] 4)) t := fun t k => pp103 t (by
    refine XS.aloadN X102.here hx rfl (hb hby own_init2_d4) rfl rfl ?_
    show Steps p.tables e below (T102.setTop (mkF m 5 #[.val (.ref a1), .val (.long q2), .second, .val .null] [(.ref a1)])) _
    exact k)
  obtain ⟨T105, h105, X105, e105, E105, A105, D105, M105, st105⟩ := newO X102 hx hZ hown (hw _ (List.mem_of_getElem? (i := 12) rfl)) (hw _ (List.mem_of_getElem? (i := 13) rfl)) (hw _ (List.mem_of_getElem? (i := 14) rfl)) e102 (g := (mkF m 5 #[.val (.ref a1), .val (.long q2), .second, .val .null] [(.ref a1)])) rfl (hb hby own_init2_d5) (by decide) (by decide)
  obtain ⟨b105, g105⟩ : ∃ z, z = h0.size := ⟨_, rfl⟩
  rw [← g105] at A105 D105 M105 st105
  have g_b105 : n0 ≤ b105 := Nat.le_trans Z0 (Nat.le_of_eq g105.symm)
  have sz_b105 : h0.size ≤ b105 := Nat.le_trans (Keep.refl h0 [a1]).1 (Nat.le_of_eq g105.symm)
  have F_elements_b105 : Fld Z h105 b105 "java/util/ArrayDeque" "elements" "[Ljava/lang/Object;" .null := D105 (Or.inl (hw _ (List.mem_of_getElem? (i := 28) rfl))) (ty := (.array (.object "java/lang/Object"))) (by decide)
  have F_head_b105 : Fld Z h105 b105 "java/util/ArrayDeque" "head" "I" (.int (0 : Int32)) := D105 (Or.inl (hw _ (List.mem_of_getElem? (i := 65) rfl))) (ty := .int) (by decide)
  have F_tail_b105 : Fld Z h105 b105 "java/util/ArrayDeque" "tail" "I" (.int (0 : Int32)) := D105 (Or.inl (hw _ (List.mem_of_getElem? (i := 67) rfl))) (ty := .int) (by decide)
  have pp106 : ∀ t, Steps p.tables e below (T105.setTop (mkF m 8 #[.val (.ref a1), .val (.long q2), .second, .val .null] [(.ref b105), (.ref a1)])) t → Steps p.tables e below (s₁.setTop (entryFrame m #[(.ref a1), (.long q2), .null] 4)) t := fun t k => pp104 t (st105 t k)
  have pp107 : ∀ t, Steps p.tables e below (T105.setTop (mkF m 9 #[.val (.ref a1), .val (.long q2), .second, .val .null] [(.ref b105), (.ref b105), (.ref a1)])) t → Steps p.tables e below (s₁.setTop (entryFrame m #[(.ref a1), (.long q2), .null] 4)) t := fun t k => pp106 t (by
    refine XS.dup X105.here hx rfl (hb hby own_init2_d8) rfl rfl ?_
    show Steps p.tables e below (T105.setTop (mkF m 9 #[.val (.ref a1), .val (.long q2), .second, .val .null] [(.ref b105), (.ref b105), (.ref a1)])) _
    exact k)
  obtain ⟨_, _, ⟨T108, L108, k108, n108⟩, -, X108, ⟨Lc108, hQ108, l108, y108, z108⟩, st108⟩ := X105.specialBack hx (y := (⟨"java/util/ArrayDeque", "<init>", "()V"⟩ : MethodName)) rfl hown (mvT hZ (hw _ (List.mem_of_getElem? (i := 15) rfl))) (mvT hZ (hw _ (List.mem_of_getElem? (i := 16) rfl))) (mvT hZ (hw _ (List.mem_of_getElem? (i := 17) rfl))) (by decide) (backOf (W := 2) (own_adinit l Z a0 hw [] b105 .null h105 n0 (Nat.le_trans Z0 E105.1) A105 F_elements_b105 F_head_b105 F_tail_b105 g_b105) hZ (hw _ (List.mem_of_getElem? (i := 17) rfl)) (hw _ (List.mem_of_getElem? (i := 14) rfl)) (by decide) (by decide)) (g := (mkF m 9 #[.val (.ref a1), .val (.long q2), .second, .val .null] [(.ref b105), (.ref b105), (.ref a1)])) rfl (by rw [hml]; rfl) (Steps.refl _) (a := b105) (argsL := []) (rest := [(.ref b105), (.ref a1)]) (lenOf pd___V rfl) rfl (by show 2 * 0 + _ ≤ _; exact Nat.le_of_eq rfl) (hb hby own_init2_d9) (fun _ _ => ⟨rfl, e105, (by decide : 1 + 1 ≤ _), (by decide : 3 + 17 ≤ _)⟩)
  dsimp only [Pt.U, Pt.locs, Pt.cells, Pt.slots] at X108 l108 y108 z108 st108 hQ108
  subst l108 y108 z108
  obtain ⟨rfl, N108q, K108, EE108, Fh108, Ft108⟩ := hQ108
  have N108 := Fr.app N0 N108q
  have pp109 : ∀ t, Steps p.tables e below (T108.setTop (mkF m 12 #[.val (.ref a1), .val (.long q2), .second, .val .null] [(.ref b105), (.ref a1)])) t → Steps p.tables e below (s₁.setTop (entryFrame m #[(.ref a1), (.long q2), .null] 4)) t := fun t k => pp107 t (st108.trans k)
  obtain ⟨T110, h110, X110, e110, W110, st110⟩ := putF X108 hx hZ hown (host := "") (Or.inl (hw _ (List.mem_of_getElem? (i := 29) rfl))) Via.refl rfl ((F4.ext E105).keep K108 (fun q => (Nat.ne_of_lt (Nat.lt_of_lt_of_le E1.lt (Nat.le_of_eq g105.symm))) (List.mem_singleton.mp q))) ((E1.ext E105).keep K108) (Or.inr ⟨(hw _ (List.mem_of_getElem? (i := 30) rfl)), rfl, hnm⟩) (hw _ (List.mem_of_getElem? (i := 1) rfl)) (ty := (.object "java/util/Deque")) (by decide) rfl rfl (g := (mkF m 12 #[.val (.ref a1), .val (.long q2), .second, .val .null] [(.ref b105), (.ref a1)])) rfl rfl (hb hby own_init2_d12)
  have Fw110 := ((F4.ext E105).keep K108 (fun q => (Nat.ne_of_lt (Nat.lt_of_lt_of_le E1.lt (Nat.le_of_eq g105.symm))) (List.mem_singleton.mp q))).same W110
  have N110 := Fr.snoc X110 N108 g_a1
  have pp111 : ∀ t, Steps p.tables e below (T110.setTop (mkF m 15 #[.val (.ref a1), .val (.long q2), .second, .val .null] [])) t → Steps p.tables e below (s₁.setTop (entryFrame m #[(.ref a1), (.long q2), .null] 4)) t := fun t k => pp109 t (st110 t k)
  have pp112 : ∀ t, Steps p.tables e below (T110.setTop (mkF m 17 #[.val (.ref a1), .val (.long q2), .second, .val .null] [(.long q2), (.ref a1)])) t → Steps p.tables e below (s₁.setTop (entryFrame m #[(.ref a1), (.long q2), .null] 4)) t := fun t k => pp111 t (by
    refine XS.aloadN X110.here hx rfl (hb hby own_init2_d15) rfl rfl ?_
    show Steps p.tables e below (T110.setTop (mkF m 16 #[.val (.ref a1), .val (.long q2), .second, .val .null] [(.ref a1)])) _
    refine XS.lloadN X110.here hx rfl (hb hby own_init2_d16) rfl ?_
    show Steps p.tables e below (T110.setTop (mkF m 17 #[.val (.ref a1), .val (.long q2), .second, .val .null] [(.long q2), (.ref a1)])) _
    exact k)
  obtain ⟨T113, h113, X113, e113, W113, st113⟩ := putF X110 hx hZ hown (host := "") (Or.inl (hw _ (List.mem_of_getElem? (i := 31) rfl))) Via.refl e110 (((F1.ext E105).keep K108 (fun q => (Nat.ne_of_lt (Nat.lt_of_lt_of_le E1.lt (Nat.le_of_eq g105.symm))) (List.mem_singleton.mp q))).other W110 (Or.inr (slot_ne (Or.inr (hw _ (List.mem_of_getElem? (i := 32) rfl))) (Or.inr (hw _ (List.mem_of_getElem? (i := 30) rfl))) (by decide) (t := .long) (t' := (.object "java/util/Deque")) (by decide) (by decide)))) (((E1.ext E105).keep K108).wr W110) (Or.inr ⟨(hw _ (List.mem_of_getElem? (i := 32) rfl)), rfl, hnm⟩) (hw _ (List.mem_of_getElem? (i := 1) rfl)) (ty := .long) (by decide) rfl rfl (g := (mkF m 17 #[.val (.ref a1), .val (.long q2), .second, .val .null] [(.long q2), (.ref a1)])) rfl rfl (hb hby own_init2_d17)
  have Fw113 := (((F1.ext E105).keep K108 (fun q => (Nat.ne_of_lt (Nat.lt_of_lt_of_le E1.lt (Nat.le_of_eq g105.symm))) (List.mem_singleton.mp q))).other W110 (Or.inr (slot_ne (Or.inr (hw _ (List.mem_of_getElem? (i := 32) rfl))) (Or.inr (hw _ (List.mem_of_getElem? (i := 30) rfl))) (by decide) (t := .long) (t' := (.object "java/util/Deque")) (by decide) (by decide)))).same W113
  have N113 := Fr.snoc X113 N110 g_a1
  have pp114 : ∀ t, Steps p.tables e below (T113.setTop (mkF m 20 #[.val (.ref a1), .val (.long q2), .second, .val .null] [])) t → Steps p.tables e below (s₁.setTop (entryFrame m #[(.ref a1), (.long q2), .null] 4)) t := fun t k => pp112 t (st113 t k)
  have pp115 : ∀ t, Steps p.tables e below (T113.setTop (mkF m 22 #[.val (.ref a1), .val (.long q2), .second, .val .null] [.null, (.ref a1)])) t → Steps p.tables e below (s₁.setTop (entryFrame m #[(.ref a1), (.long q2), .null] 4)) t := fun t k => pp114 t (by
    refine XS.aloadN X113.here hx rfl (hb hby own_init2_d20) rfl rfl ?_
    show Steps p.tables e below (T113.setTop (mkF m 21 #[.val (.ref a1), .val (.long q2), .second, .val .null] [(.ref a1)])) _
    refine XS.aloadN X113.here hx rfl (hb hby own_init2_d21) rfl rfl ?_
    show Steps p.tables e below (T113.setTop (mkF m 22 #[.val (.ref a1), .val (.long q2), .second, .val .null] [.null, (.ref a1)])) _
    exact k)
  obtain ⟨T116, h116, X116, e116, W116, st116⟩ := putF X113 hx hZ hown (host := "") (Or.inl (hw _ (List.mem_of_getElem? (i := 33) rfl))) Via.refl e113 ((((F2.ext E105).keep K108 (fun q => (Nat.ne_of_lt (Nat.lt_of_lt_of_le E1.lt (Nat.le_of_eq g105.symm))) (List.mem_singleton.mp q))).other W110 (Or.inr (slot_ne (Or.inr (hw _ (List.mem_of_getElem? (i := 34) rfl))) (Or.inr (hw _ (List.mem_of_getElem? (i := 30) rfl))) (by decide) (t := (.object "com/example/ackd/ackd/budget/BodyBudget")) (t' := (.object "java/util/Deque")) (by decide) (by decide)))).other W113 (Or.inr (slot_ne (Or.inr (hw _ (List.mem_of_getElem? (i := 34) rfl))) (Or.inr (hw _ (List.mem_of_getElem? (i := 32) rfl))) (by decide) (t := (.object "com/example/ackd/ackd/budget/BodyBudget")) (t' := .long) (by decide) (by decide)))) ((((E1.ext E105).keep K108).wr W110).wr W113) (Or.inr ⟨(hw _ (List.mem_of_getElem? (i := 34) rfl)), rfl, hnm⟩) (hw _ (List.mem_of_getElem? (i := 1) rfl)) (ty := (.object "com/example/ackd/ackd/budget/BodyBudget")) (by decide) rfl rfl (g := (mkF m 22 #[.val (.ref a1), .val (.long q2), .second, .val .null] [.null, (.ref a1)])) rfl rfl (hb hby own_init2_d22)
  have Fw116 := ((((F2.ext E105).keep K108 (fun q => (Nat.ne_of_lt (Nat.lt_of_lt_of_le E1.lt (Nat.le_of_eq g105.symm))) (List.mem_singleton.mp q))).other W110 (Or.inr (slot_ne (Or.inr (hw _ (List.mem_of_getElem? (i := 34) rfl))) (Or.inr (hw _ (List.mem_of_getElem? (i := 30) rfl))) (by decide) (t := (.object "com/example/ackd/ackd/budget/BodyBudget")) (t' := (.object "java/util/Deque")) (by decide) (by decide)))).other W113 (Or.inr (slot_ne (Or.inr (hw _ (List.mem_of_getElem? (i := 34) rfl))) (Or.inr (hw _ (List.mem_of_getElem? (i := 32) rfl))) (by decide) (t := (.object "com/example/ackd/ackd/budget/BodyBudget")) (t' := .long) (by decide) (by decide)))).same W116
  have N116 := Fr.snoc X116 N113 g_a1
  have pp117 : ∀ t, Steps p.tables e below (T116.setTop (mkF m 25 #[.val (.ref a1), .val (.long q2), .second, .val .null] [])) t → Steps p.tables e below (s₁.setTop (entryFrame m #[(.ref a1), (.long q2), .null] 4)) t := fun t k => pp115 t (st116 t k)
  obtain ⟨fs, hr, hrun, hended, hW, hsame⟩ := X116.leave (v := none) (fun _ => rfl)
  refine ⟨_, _, pp117 _ ?_, hrun, hended, _, _, rfl, ?_, ⟨_, rfl⟩, hW, hsame.mono (by decide) (by decide)⟩
  · exact X116.returnOut hx Bd.returns (hb hby own_init2_d25) hr
  · show Q_own_init2 Z a1 q2 u1 u2 u4 h0 n0 _ T116.heap _
    rw [e116]
    exact ⟨rfl, N116, ((((((Keep.refl h0 [a1]).ext E105).trans K108 (fun x hx => by cases List.mem_singleton.mp hx; exact Or.inr sz_b105)).wr W110 (Or.inl (List.mem_of_getElem? (i := 0) rfl))).wr W113 (Or.inl (List.mem_of_getElem? (i := 0) rfl))).wr W116 (Or.inl (List.mem_of_getElem? (i := 0) rfl))), (((((E1.ext E105).keep K108).wr W110).wr W113).wr W116), (Fw113.other W116 (Or.inr (slot_ne (Or.inr (hw _ (List.mem_of_getElem? (i := 32) rfl))) (Or.inr (hw _ (List.mem_of_getElem? (i := 34) rfl))) (by decide) (t := .long) (t' := (.object "com/example/ackd/ackd/budget/BodyBudget")) (by decide) (by decide)))), Fw116, (((((F3.ext E105).keep K108 (fun q => (Nat.ne_of_lt (Nat.lt_of_lt_of_le E1.lt (Nat.le_of_eq g105.symm))) (List.mem_singleton.mp q))).other W110 (Or.inr (slot_ne (Or.inl (hw _ (List.mem_of_getElem? (i := 46) rfl))) (Or.inr (hw _ (List.mem_of_getElem? (i := 30) rfl))) (by decide) (t := .long) (t' := (.object "java/util/Deque")) (by decide) (by decide)))).other W113 (Or.inr (slot_ne (Or.inl (hw _ (List.mem_of_getElem? (i := 46) rfl))) (Or.inr (hw _ (List.mem_of_getElem? (i := 32) rfl))) (by decide) (t := .long) (t' := .long) (by decide) (by decide)))).other W116 (Or.inr (slot_ne (Or.inl (hw _ (List.mem_of_getElem? (i := 46) rfl))) (Or.inr (hw _ (List.mem_of_getElem? (i := 34) rfl))) (by decide) (t := .long) (t' := (.object "com/example/ackd/ackd/budget/BodyBudget")) (by decide) (by decide)))), (own_untw W116 (own_untw W113 (own_untw W110 (Unt.keep K108 (fun q => (Nat.ne_of_lt (Nat.lt_of_lt_of_le E1.lt (Nat.le_of_eq g105.symm))) (List.mem_singleton.mp q)) (own_untx E105 U1))))), b105, ((Fw110.other W113 (Or.inr (slot_ne (Or.inr (hw _ (List.mem_of_getElem? (i := 30) rfl))) (Or.inr (hw _ (List.mem_of_getElem? (i := 32) rfl))) (by decide) (t := (.object "java/util/Deque")) (t' := .long) (by decide) (by decide)))).other W116 (Or.inr (slot_ne (Or.inr (hw _ (List.mem_of_getElem? (i := 30) rfl))) (Or.inr (hw _ (List.mem_of_getElem? (i := 34) rfl))) (by decide) (t := (.object "java/util/Deque")) (t' := (.object "com/example/ackd/ackd/budget/BodyBudget")) (by decide) (by decide)))), ((((A105.keep K108).wr W110).wr W113).wr W116), (((Fh108.other W110 (Or.inl (Ne.symm (Nat.ne_of_lt (Nat.lt_of_lt_of_le E1.lt (Nat.le_of_eq g105.symm)))))).other W113 (Or.inl (Ne.symm (Nat.ne_of_lt (Nat.lt_of_lt_of_le E1.lt (Nat.le_of_eq g105.symm)))))).other W116 (Or.inl (Ne.symm (Nat.ne_of_lt (Nat.lt_of_lt_of_le E1.lt (Nat.le_of_eq g105.symm)))))), (((Ft108.other W110 (Or.inl (Ne.symm (Nat.ne_of_lt (Nat.lt_of_lt_of_le E1.lt (Nat.le_of_eq g105.symm)))))).other W113 (Or.inl (Ne.symm (Nat.ne_of_lt (Nat.lt_of_lt_of_le E1.lt (Nat.le_of_eq g105.symm)))))).other W116 (Or.inl (Ne.symm (Nat.ne_of_lt (Nat.lt_of_lt_of_le E1.lt (Nat.le_of_eq g105.symm))))))⟩
theorem pd__JLcom_example_ackd_ackd_budget_BodyBudget__V : parseMethodDescriptor "(JLcom/example/ackd/ackd/budget/BodyBudget;)V" = some ⟨[.long, (.object "com/example/ackd/ackd/budget/BodyBudget")], none⟩ := by decide +kernel
theorem own_init1_d0 : decode prog_6_method_1_code 0 = .ok (.aload_n 0, 1) := by decide +kernel
theorem own_init1_d1 : decode prog_6_method_1_code 1 = .ok (.lload_n 1, 1) := by decide +kernel
theorem own_init1_d2 : decode prog_6_method_1_code 2 = .ok (.aconst_null, 1) := by decide +kernel
theorem own_init1_d3 : decode prog_6_method_1_code 3 = .ok (.invokespecial 1, 3) := by decide +kernel
theorem own_init1_d6 : decode prog_6_method_1_code 6 = .ok (.return_, 1) := by decide +kernel
theorem own_init1_pn : plainName "com/example/ackd/ackd/budget/BodyBudget" = true := by first | (simp [plainName, overriddenIn]; done) | decide +kernel
theorem own_init1_ef (m : MethodId) (x0 : Addr) (x1 : Int64) : entryFrame m #[(.ref x0), (.long x1)] 3 = mkF m 0 #[.val (.ref x0), .val (.long x1), .second] [] := by first | (simp [entryFrame, mkF, argsToLocals, Value.category]; done) | rfl
def Q_own_init1 (Z : State) (a1 : Addr) (q2 : Int64) (u1 : Value) (u2 : Value) (u4 : Value) (h0 : Heap) (n0 : Nat) (v : Option Value) (h : Heap) (L : List Loc) : Prop := v = none ∧ Fr n0 L ∧ Keep h0 h [a1] ∧ Exa Z h a1 "com/example/ackd/ackd/budget/BodyBudget" ∧ Fld Z h a1 "com/example/ackd/ackd/budget/BodyBudget" "own" "J" (.long q2) ∧ Fld Z h a1 "com/example/ackd/ackd/budget/BodyBudget" "shared" "Lcom/example/ackd/ackd/budget/BodyBudget;" .null ∧ Fld Z h a1 "com/example/ackd/ackd/budget/BodyBudget" "taken" "J" (.long (0 : Int64)) ∧ Unt h a1 ∧ ∃ dq : Addr, Fld Z h a1 "com/example/ackd/ackd/budget/BodyBudget" "kept" "Ljava/util/Deque;" (.ref dq) ∧ Exa Z h dq "java/util/ArrayDeque" ∧ Fld Z h dq "java/util/ArrayDeque" "head" "I" (.int (0 : Int32)) ∧ Fld Z h dq "java/util/ArrayDeque" "tail" "I" (.int (0 : Int32))
set_option maxRecDepth 65536 in
set_option maxHeartbeats 40000000 in
theorem own_init1 (l : Launch) (Z : State) (a0 : Array Value) (hw : ∀ d ∈ tables_1, d.before a0 Z = true) (ws : List Jvm.Cond) (a1 : Addr) (q2 : Int64) (u1 : Value) (u2 : Value) (u4 : Value) (h0 : Heap) (n0 : Nat) (Z0 : n0 ≤ h0.size) (E1 : Exa Z h0 a1 "com/example/ackd/ackd/budget/BodyBudget") (F1 : Fld Z h0 a1 "com/example/ackd/ackd/budget/BodyBudget" "own" "J" u1) (F2 : Fld Z h0 a1 "com/example/ackd/ackd/budget/BodyBudget" "shared" "Lcom/example/ackd/ackd/budget/BodyBudget;" u2) (F3 : Fld Z h0 a1 "com/example/ackd/ackd/budget/BodyBudget" "taken" "J" (.long (0 : Int64))) (F4 : Fld Z h0 a1 "com/example/ackd/ackd/budget/BodyBudget" "kept" "Ljava/util/Deque;" u4) (U1 : Unt h0 a1) (g_a1 : n0 ≤ a1) :
    MetFree l (⟨"com/example/ackd/ackd/budget/BodyBudget", "<init>", "(J)V"⟩ : MethodName) (head1 (Jvm.Cond.code (⟨"com/example/ackd/ackd/budget/BodyBudget", "<init>", "(J)V"⟩ : MethodName) prog_6_method_1_code 3 none :: ws) ({ frames := 4, cells := 2, slots := 20, locals := 53 } : Room)) (fun a U => a = #[(.ref a1), (.long q2)] ∧ Z.Warmed39 U.vm ∧ U.heap = h0) (fun _ _ _ _ _ => True) (fun _ U o U' => ∃ v L, o = .returned v ∧ Q_own_init1 Z a1 q2 u1 u2 u4 h0 n0 v U'.heap L ∧ FrameEnd U o U' L ({ frames := 4, cells := 2, slots := 20, locals := 53 } : Room).cells ({ frames := 4, cells := 2, slots := 20, locals := 53 } : Room).slots) := by
  refine MetFree.of_bodySF (plainFor_of_name own_init1_pn) hisR ?_
  intro p e s m args below meth c s₁ Bd hml0 hP hK
  obtain ⟨rfl, hZ, hh⟩ := hP
  have hx := Bd.exec
  have hby := Bd.bytes
  have hml : c.maxLocals = 3 := hml0
  have hown : s.vm.findClass "com/example/ackd/ackd/budget/BodyBudget" = some m.cls := findClass_of_methodNamed Bd.named
  have hnm := (name_of_methodNamed Bd.named Bd.method).1
  have X0 : Stand p l e ({ frames := 4, cells := 2, slots := 20, locals := 53 } : Room) s m #[(.ref a1), (.long q2)] below meth c s₁ [] 0 0 := Stand.of_body Bd
  have e0 : s₁.heap = h0 := by rw [← hh, Bd.state]; rfl
  have N0 := Fr.nil n0
  have pp0 : ∀ t, Steps p.tables e below (s₁.setTop (mkF m 0 #[.val (.ref a1), .val (.long q2), .second] [])) t → Steps p.tables e below (s₁.setTop (entryFrame m #[(.ref a1), (.long q2)] 3)) t := fun t k => castTop (own_init1_ef m a1 q2) k
  have pp101 : ∀ t, Steps p.tables e below (s₁.setTop (mkF m 3 #[.val (.ref a1), .val (.long q2), .second] [.null, (.long q2), (.ref a1)])) t → Steps p.tables e below (s₁.setTop (entryFrame m #[(.ref a1), (.long q2)] 3)) t := fun t k => pp0 t (by
    refine XS.aloadN X0.here hx rfl (hb hby own_init1_d0) rfl rfl ?_
    show Steps p.tables e below (s₁.setTop (mkF m 1 #[.val (.ref a1), .val (.long q2), .second] [(.ref a1)])) _
    refine XS.lloadN X0.here hx rfl (hb hby own_init1_d1) rfl ?_
    show Steps p.tables e below (s₁.setTop (mkF m 2 #[.val (.ref a1), .val (.long q2), .second] [(.long q2), (.ref a1)])) _
    refine XS.aconstNull X0.here hx rfl (hb hby own_init1_d2) ?_
    show Steps p.tables e below (s₁.setTop (mkF m 3 #[.val (.ref a1), .val (.long q2), .second] [.null, (.long q2), (.ref a1)])) _
    exact k)
  obtain ⟨_, _, ⟨T102, L102, k102, n102⟩, -, X102, ⟨Lc102, hQ102, l102, y102, z102⟩, st102⟩ := X0.specialBack hx (y := (⟨"com/example/ackd/ackd/budget/BodyBudget", "<init>", "(JLcom/example/ackd/ackd/budget/BodyBudget;)V"⟩ : MethodName)) rfl hown (mvT hZ (hw _ (List.mem_of_getElem? (i := 6) rfl))) (mvT hZ (hw _ (List.mem_of_getElem? (i := 7) rfl))) (mvT hZ (hw _ (List.mem_of_getElem? (i := 8) rfl))) (by decide) (backOf (W := 0) (own_init2 l Z a0 hw [] a1 q2 u1 u2 u4 h0 n0 Z0 E1 F1 F2 F3 F4 U1 g_a1) hZ (hw _ (List.mem_of_getElem? (i := 8) rfl)) (hw _ (List.mem_of_getElem? (i := 2) rfl)) (by decide) (by decide)) (g := (mkF m 3 #[.val (.ref a1), .val (.long q2), .second] [.null, (.long q2), (.ref a1)])) rfl (by rw [hml]; rfl) (Steps.refl _) (a := a1) (argsL := [(.long q2), .null]) (rest := []) (lenOf pd__JLcom_example_ackd_ackd_budget_BodyBudget__V rfl) rfl (by show 2 * 0 + _ ≤ _; exact Nat.le_of_eq rfl) (hb hby own_init1_d3) (fun _ _ => ⟨rfl, e0, (by decide : 0 + 2 ≤ _), (by decide : 0 + 20 ≤ _)⟩)
  dsimp only [Pt.U, Pt.locs, Pt.cells, Pt.slots] at X102 l102 y102 z102 st102 hQ102
  subst l102 y102 z102
  obtain ⟨rfl, N102q, K102, EE102, Fo102, Fs102, Ft102, U102, L102⟩ := hQ102
  have N102 := Fr.app N0 N102q
  have pp103 : ∀ t, Steps p.tables e below (T102.setTop (mkF m 6 #[.val (.ref a1), .val (.long q2), .second] [])) t → Steps p.tables e below (s₁.setTop (entryFrame m #[(.ref a1), (.long q2)] 3)) t := fun t k => pp101 t (st102.trans k)
  obtain ⟨fs, hr, hrun, hended, hW, hsame⟩ := X102.leave (v := none) (fun _ => rfl)
  refine ⟨_, _, pp103 _ ?_, hrun, hended, _, _, rfl, ?_, ⟨_, rfl⟩, hW, hsame.mono (by decide) (by decide)⟩
  · exact X102.returnOut hx Bd.returns (hb hby own_init1_d6) hr
  · show Q_own_init1 Z a1 q2 u1 u2 u4 h0 n0 _ T102.heap _
    exact ⟨rfl, N102, K102, EE102, Fo102, Fs102, Ft102, U102, L102⟩
theorem own_room_d0 : decode prog_6_method_5_code 0 = .ok (.aload_n 0, 1) := by decide +kernel
theorem own_room_d1 : decode prog_6_method_5_code 1 = .ok (.getfield 19, 3) := by decide +kernel
theorem own_room_d4 : decode prog_6_method_5_code 4 = .ok (.aload_n 0, 1) := by decide +kernel
theorem own_room_d5 : decode prog_6_method_5_code 5 = .ok (.getfield 23, 3) := by decide +kernel
theorem own_room_d8 : decode prog_6_method_5_code 8 = .ok (.ifnonnull 7, 3) := by decide +kernel
theorem own_room_d11 : decode prog_6_method_5_code 11 = .ok (.lconst 0, 1) := by decide +kernel
theorem own_room_d12 : decode prog_6_method_5_code 12 = .ok (.goto 10, 3) := by decide +kernel
theorem own_room_d22 : decode prog_6_method_5_code 22 = .ok (.ladd, 1) := by decide +kernel
theorem own_room_d23 : decode prog_6_method_5_code 23 = .ok (.lreturn, 1) := by decide +kernel
theorem own_room_pn : plainName "com/example/ackd/ackd/budget/BodyBudget" = true := by first | (simp [plainName, overriddenIn]; done) | decide +kernel
theorem own_room_ef (m : MethodId) (x0 : Addr) : entryFrame m #[(.ref x0)] 1 = mkF m 0 #[.val (.ref x0)] [] := by first | (simp [entryFrame, mkF, argsToLocals, Value.category]; done) | rfl
def Q_own_room (Z : State) (a1 : Addr) (w1 : Int64) (h0 : Heap) (n0 : Nat) (v : Option Value) (h : Heap) (L : List Loc) : Prop := v = some (.long (w1 + (0 : Int64))) ∧ Fr n0 L ∧ h = h0
set_option maxRecDepth 65536 in
set_option maxHeartbeats 40000000 in
theorem own_room (l : Launch) (Z : State) (a0 : Array Value) (hw : ∀ d ∈ tables_1, d.before a0 Z = true) (ws : List Jvm.Cond) (a1 : Addr) (w1 : Int64) (h0 : Heap) (n0 : Nat) (Z0 : n0 ≤ h0.size) (F1 : Fld Z h0 a1 "com/example/ackd/ackd/budget/BodyBudget" "own" "J" (.long w1)) (F2 : Fld Z h0 a1 "com/example/ackd/ackd/budget/BodyBudget" "shared" "Lcom/example/ackd/ackd/budget/BodyBudget;" .null) :
    MetFree l (⟨"com/example/ackd/ackd/budget/BodyBudget", "room", "()J"⟩ : MethodName) (head1 (Jvm.Cond.code (⟨"com/example/ackd/ackd/budget/BodyBudget", "room", "()J"⟩ : MethodName) prog_6_method_5_code 1 (some .long) :: ws) ({ frames := 0, cells := 0, slots := 0, locals := 0 } : Room)) (fun a U => a = #[(.ref a1)] ∧ Z.Warmed39 U.vm ∧ U.heap = h0) (fun _ _ _ _ _ => True) (fun _ U o U' => ∃ v L, o = .returned v ∧ Q_own_room Z a1 w1 h0 n0 v U'.heap L ∧ FrameEnd U o U' L ({ frames := 0, cells := 0, slots := 0, locals := 0 } : Room).cells ({ frames := 0, cells := 0, slots := 0, locals := 0 } : Room).slots) := by
  refine MetFree.of_bodySF (plainFor_of_name own_room_pn) hisR ?_
  intro p e s m args below meth c s₁ Bd hml0 hP hK
  obtain ⟨rfl, hZ, hh⟩ := hP
  have hx := Bd.exec
  have hby := Bd.bytes
  have hml : c.maxLocals = 1 := hml0
  have hown : s.vm.findClass "com/example/ackd/ackd/budget/BodyBudget" = some m.cls := findClass_of_methodNamed Bd.named
  have hnm := (name_of_methodNamed Bd.named Bd.method).1
  have X0 : Stand p l e ({ frames := 0, cells := 0, slots := 0, locals := 0 } : Room) s m #[(.ref a1)] below meth c s₁ [] 0 0 := Stand.of_body Bd
  have e0 : s₁.heap = h0 := by rw [← hh, Bd.state]; rfl
  have N0 := Fr.nil n0
  have pp0 : ∀ t, Steps p.tables e below (s₁.setTop (mkF m 0 #[.val (.ref a1)] [])) t → Steps p.tables e below (s₁.setTop (entryFrame m #[(.ref a1)] 1)) t := fun t k => castTop (own_room_ef m a1) k
  have pp101 : ∀ t, Steps p.tables e below (s₁.setTop (mkF m 1 #[.val (.ref a1)] [(.ref a1)])) t → Steps p.tables e below (s₁.setTop (entryFrame m #[(.ref a1)] 1)) t := fun t k => pp0 t (by
    refine XS.aloadN X0.here hx rfl (hb hby own_room_d0) rfl rfl ?_
    show Steps p.tables e below (s₁.setTop (mkF m 1 #[.val (.ref a1)] [(.ref a1)])) _
    exact k)
  obtain ⟨T102, X102, e102, st102⟩ := getF X0 hx hZ hown (host := "") (Or.inl (hw _ (List.mem_of_getElem? (i := 31) rfl))) Via.refl e0 F1 (g := (mkF m 1 #[.val (.ref a1)] [(.ref a1)])) rfl rfl (hb hby own_room_d1)
  have pp103 : ∀ t, Steps p.tables e below (T102.setTop (mkF m 4 #[.val (.ref a1)] [(.long w1)])) t → Steps p.tables e below (s₁.setTop (entryFrame m #[(.ref a1)] 1)) t := fun t k => pp101 t (st102 t k)
  have pp104 : ∀ t, Steps p.tables e below (T102.setTop (mkF m 5 #[.val (.ref a1)] [(.ref a1), (.long w1)])) t → Steps p.tables e below (s₁.setTop (entryFrame m #[(.ref a1)] 1)) t := fun t k => pp103 t (by
    refine XS.aloadN X102.here hx rfl (hb hby own_room_d4) rfl rfl ?_
    show Steps p.tables e below (T102.setTop (mkF m 5 #[.val (.ref a1)] [(.ref a1), (.long w1)])) _
    exact k)
  obtain ⟨T105, X105, e105, st105⟩ := getF X102 hx hZ hown (host := "") (Or.inl (hw _ (List.mem_of_getElem? (i := 33) rfl))) Via.refl e102 F2 (g := (mkF m 5 #[.val (.ref a1)] [(.ref a1), (.long w1)])) rfl rfl (hb hby own_room_d5)
  have pp106 : ∀ t, Steps p.tables e below (T105.setTop (mkF m 8 #[.val (.ref a1)] [.null, (.long w1)])) t → Steps p.tables e below (s₁.setTop (entryFrame m #[(.ref a1)] 1)) t := fun t k => pp104 t (st105 t k)
  have pp107 : ∀ t, Steps p.tables e below (T105.setTop (mkF m 23 #[.val (.ref a1)] [(.long (w1 + (0 : Int64)))])) t → Steps p.tables e below (s₁.setTop (entryFrame m #[(.ref a1)] 1)) t := fun t k => pp106 t (by
    refine XS.ifnonnullNo X105.here hx rfl (hb hby own_room_d8) rfl ?_
    show Steps p.tables e below (T105.setTop (mkF m 11 #[.val (.ref a1)] [(.long w1)])) _
    refine XS.lconst X105.here hx rfl (hb hby own_room_d11) ?_
    show Steps p.tables e below (T105.setTop (mkF m 12 #[.val (.ref a1)] [(.long (0 : Int64)), (.long w1)])) _
    refine XS.goto X105.here hx rfl (pc0 := 12) (pc' := 22) rfl (hb hby own_room_d12) (by decide) (by decide) ?_
    show Steps p.tables e below (T105.setTop (mkF m 22 #[.val (.ref a1)] [(.long (0 : Int64)), (.long w1)])) _
    refine XS.ladd X105.here hx rfl (hb hby own_room_d22) rfl ?_
    show Steps p.tables e below (T105.setTop (mkF m 23 #[.val (.ref a1)] [(.long (w1 + (0 : Int64)))])) _
    exact k)
  obtain ⟨fs, hr, hrun, hended, hW, hsame⟩ := X105.leave (v := some (.long (w1 + (0 : Int64)))) (fun h => by rw [Bd.returns] at h; cases h)
  refine ⟨_, _, pp107 _ ?_, hrun, hended, _, _, rfl, ?_, ⟨_, rfl⟩, hW, hsame.mono (by decide) (by decide)⟩
  · exact retOut X105 hx Bd.returns rfl (Or.inr (Or.inl ⟨rfl, rfl, _, rfl⟩)) (hb hby own_room_d23) hr
  · show Q_own_room Z a1 w1 h0 n0 _ T105.heap _
    rw [e105]
    exact ⟨rfl, N0, rfl⟩
theorem pd__JJ_J : parseMethodDescriptor "(JJ)J" = some ⟨[.long, .long], some .long⟩ := by decide +kernel
theorem own_beyond_d0 : decode prog_6_method_12_code 0 = .ok (.lconst 0, 1) := by decide +kernel
theorem own_beyond_d1 : decode prog_6_method_12_code 1 = .ok (.lload_n 1, 1) := by decide +kernel
theorem own_beyond_d2 : decode prog_6_method_12_code 2 = .ok (.aload_n 0, 1) := by decide +kernel
theorem own_beyond_d3 : decode prog_6_method_12_code 3 = .ok (.getfield 19, 3) := by decide +kernel
theorem own_beyond_d6 : decode prog_6_method_12_code 6 = .ok (.lsub, 1) := by decide +kernel
theorem own_beyond_d7 : decode prog_6_method_12_code 7 = .ok (.invokestatic 143, 3) := by decide +kernel
theorem own_beyond_d10 : decode prog_6_method_12_code 10 = .ok (.lreturn, 1) := by decide +kernel
theorem own_beyond_pn : plainName "com/example/ackd/ackd/budget/BodyBudget" = true := by first | (simp [plainName, overriddenIn]; done) | decide +kernel
theorem own_beyond_ef (m : MethodId) (x0 : Addr) (x1 : Int64) : entryFrame m #[(.ref x0), (.long x1)] 3 = mkF m 0 #[.val (.ref x0), .val (.long x1), .second] [] := by first | (simp [entryFrame, mkF, argsToLocals, Value.category]; done) | rfl
def Q_own_beyond (Z : State) (a1 : Addr) (q2 : Int64) (w1 : Int64) (h0 : Heap) (n0 : Nat) (v : Option Value) (h : Heap) (L : List Loc) : Prop := v = some (.long (own_max (0 : Int64) (q2 - w1))) ∧ Fr n0 L ∧ h = h0
set_option maxRecDepth 65536 in
set_option maxHeartbeats 40000000 in
theorem own_beyond (l : Launch) (Z : State) (a0 : Array Value) (hw : ∀ d ∈ tables_1, d.before a0 Z = true) (ws : List Jvm.Cond) (a1 : Addr) (q2 : Int64) (w1 : Int64) (h0 : Heap) (n0 : Nat) (Z0 : n0 ≤ h0.size) (F1 : Fld Z h0 a1 "com/example/ackd/ackd/budget/BodyBudget" "own" "J" (.long w1)) :
    MetFree l (⟨"com/example/ackd/ackd/budget/BodyBudget", "beyondOwn", "(J)J"⟩ : MethodName) (head1 (Jvm.Cond.code (⟨"com/example/ackd/ackd/budget/BodyBudget", "beyondOwn", "(J)J"⟩ : MethodName) prog_6_method_12_code 3 (some .long) :: ws) ({ frames := 1, cells := 0, slots := 0, locals := 15 } : Room)) (fun a U => a = #[(.ref a1), (.long q2)] ∧ Z.Warmed39 U.vm ∧ U.heap = h0) (fun _ _ _ _ _ => True) (fun _ U o U' => ∃ v L, o = .returned v ∧ Q_own_beyond Z a1 q2 w1 h0 n0 v U'.heap L ∧ FrameEnd U o U' L ({ frames := 1, cells := 0, slots := 0, locals := 15 } : Room).cells ({ frames := 1, cells := 0, slots := 0, locals := 15 } : Room).slots) := by
  refine MetFree.of_bodySF (plainFor_of_name own_beyond_pn) hisR ?_
  intro p e s m args below meth c s₁ Bd hml0 hP hK
  obtain ⟨rfl, hZ, hh⟩ := hP
  have hx := Bd.exec
  have hby := Bd.bytes
  have hml : c.maxLocals = 3 := hml0
  have hown : s.vm.findClass "com/example/ackd/ackd/budget/BodyBudget" = some m.cls := findClass_of_methodNamed Bd.named
  have hnm := (name_of_methodNamed Bd.named Bd.method).1
  have X0 : Stand p l e ({ frames := 1, cells := 0, slots := 0, locals := 15 } : Room) s m #[(.ref a1), (.long q2)] below meth c s₁ [] 0 0 := Stand.of_body Bd
  have e0 : s₁.heap = h0 := by rw [← hh, Bd.state]; rfl
  have N0 := Fr.nil n0
  have pp0 : ∀ t, Steps p.tables e below (s₁.setTop (mkF m 0 #[.val (.ref a1), .val (.long q2), .second] [])) t → Steps p.tables e below (s₁.setTop (entryFrame m #[(.ref a1), (.long q2)] 3)) t := fun t k => castTop (own_beyond_ef m a1 q2) k
  have pp101 : ∀ t, Steps p.tables e below (s₁.setTop (mkF m 3 #[.val (.ref a1), .val (.long q2), .second] [(.ref a1), (.long q2), (.long (0 : Int64))])) t → Steps p.tables e below (s₁.setTop (entryFrame m #[(.ref a1), (.long q2)] 3)) t := fun t k => pp0 t (by
    refine XS.lconst X0.here hx rfl (hb hby own_beyond_d0) ?_
    show Steps p.tables e below (s₁.setTop (mkF m 1 #[.val (.ref a1), .val (.long q2), .second] [(.long (0 : Int64))])) _
    refine XS.lloadN X0.here hx rfl (hb hby own_beyond_d1) rfl ?_
    show Steps p.tables e below (s₁.setTop (mkF m 2 #[.val (.ref a1), .val (.long q2), .second] [(.long q2), (.long (0 : Int64))])) _
    refine XS.aloadN X0.here hx rfl (hb hby own_beyond_d2) rfl rfl ?_
    show Steps p.tables e below (s₁.setTop (mkF m 3 #[.val (.ref a1), .val (.long q2), .second] [(.ref a1), (.long q2), (.long (0 : Int64))])) _
    exact k)
  obtain ⟨T102, X102, e102, st102⟩ := getF X0 hx hZ hown (host := "") (Or.inl (hw _ (List.mem_of_getElem? (i := 31) rfl))) Via.refl e0 F1 (g := (mkF m 3 #[.val (.ref a1), .val (.long q2), .second] [(.ref a1), (.long q2), (.long (0 : Int64))])) rfl rfl (hb hby own_beyond_d3)
  have pp103 : ∀ t, Steps p.tables e below (T102.setTop (mkF m 6 #[.val (.ref a1), .val (.long q2), .second] [(.long w1), (.long q2), (.long (0 : Int64))])) t → Steps p.tables e below (s₁.setTop (entryFrame m #[(.ref a1), (.long q2)] 3)) t := fun t k => pp101 t (st102 t k)
  have pp104 : ∀ t, Steps p.tables e below (T102.setTop (mkF m 7 #[.val (.ref a1), .val (.long q2), .second] [(.long (q2 - w1)), (.long (0 : Int64))])) t → Steps p.tables e below (s₁.setTop (entryFrame m #[(.ref a1), (.long q2)] 3)) t := fun t k => pp103 t (by
    refine XS.lsub X102.here hx rfl (hb hby own_beyond_d6) rfl ?_
    show Steps p.tables e below (T102.setTop (mkF m 7 #[.val (.ref a1), .val (.long q2), .second] [(.long (q2 - w1)), (.long (0 : Int64))])) _
    exact k)
  obtain ⟨_, _, ⟨T105, L105, k105, n105⟩, -, X105, ⟨Lc105, hQ105, l105, y105, z105⟩, st105⟩ := Jvm.LawKit.callS X102 hx (y := (⟨"java/lang/Math", "max", "(JJ)J"⟩ : MethodName)) hown (mvT hZ (hw _ (List.mem_of_getElem? (i := 51) rfl))) (mvT hZ (hw _ (List.mem_of_getElem? (i := 52) rfl))) (mvT hZ (hw _ (List.mem_of_getElem? (i := 53) rfl))) (mvT hZ (hw _ (List.mem_of_getElem? (i := 54) rfl))) (by decide) (backOf (W := 0) (own_mmax l Z a0 hw [] (0 : Int64) (q2 - w1) h0 n0 Z0) hZ (hw _ (List.mem_of_getElem? (i := 54) rfl)) (hw _ (List.mem_of_getElem? (i := 53) rfl)) (by decide) (by decide)) (g := (mkF m 7 #[.val (.ref a1), .val (.long q2), .second] [(.long (q2 - w1)), (.long (0 : Int64))])) rfl (by rw [hml]; rfl) (argsL := [(.long (0 : Int64)), (.long (q2 - w1))]) (rest := []) (lenOf pd__JJ_J rfl) rfl (by show 2 * 0 + _ ≤ _; exact Nat.le_of_eq rfl) (hb hby own_beyond_d7) (fun _ _ => ⟨rfl, e102, (by decide : 0 + 0 ≤ _), (by decide : 0 + 0 ≤ _)⟩)
  dsimp only [Pt.U, Pt.locs, Pt.cells, Pt.slots] at X105 l105 y105 z105 st105 hQ105
  subst l105 y105 z105
  obtain ⟨rfl, N105q, s105⟩ := hQ105
  have N105 := Fr.app N0 N105q
  have pp106 : ∀ t, Steps p.tables e below (T105.setTop (mkF m 10 #[.val (.ref a1), .val (.long q2), .second] [(.long (own_max (0 : Int64) (q2 - w1)))])) t → Steps p.tables e below (s₁.setTop (entryFrame m #[(.ref a1), (.long q2)] 3)) t := fun t k => pp104 t (st105 t k)
  obtain ⟨fs, hr, hrun, hended, hW, hsame⟩ := X105.leave (v := some (.long (own_max (0 : Int64) (q2 - w1)))) (fun h => by rw [Bd.returns] at h; cases h)
  refine ⟨_, _, pp106 _ ?_, hrun, hended, _, _, rfl, ?_, ⟨_, rfl⟩, hW, hsame.mono (by decide) (by decide)⟩
  · exact retOut X105 hx Bd.returns rfl (Or.inr (Or.inl ⟨rfl, rfl, _, rfl⟩)) (hb hby own_beyond_d10) hr
  · show Q_own_beyond Z a1 q2 w1 h0 n0 _ T105.heap _
    rw [s105]
    exact ⟨rfl, N105, rfl⟩
theorem own_isemp_d0 : decode jdk_21_method_38_code 0 = .ok (.aload_n 0, 1) := by decide +kernel
theorem own_isemp_d1 : decode jdk_21_method_38_code 1 = .ok (.getfield 24, 3) := by decide +kernel
theorem own_isemp_d4 : decode jdk_21_method_38_code 4 = .ok (.aload_n 0, 1) := by decide +kernel
theorem own_isemp_d5 : decode jdk_21_method_38_code 5 = .ok (.getfield 20, 3) := by decide +kernel
theorem own_isemp_d8 : decode jdk_21_method_38_code 8 = .ok (.if_icmp .ne 7, 3) := by decide +kernel
theorem own_isemp_d11 : decode jdk_21_method_38_code 11 = .ok (.iconst 1, 1) := by decide +kernel
theorem own_isemp_d12 : decode jdk_21_method_38_code 12 = .ok (.goto 4, 3) := by decide +kernel
theorem own_isemp_d16 : decode jdk_21_method_38_code 16 = .ok (.ireturn, 1) := by decide +kernel
theorem own_isemp_pn : plainName "java/util/ArrayDeque" = true := by first | (simp [plainName, overriddenIn]; done) | decide +kernel
theorem own_isemp_ef (m : MethodId) (x0 : Addr) : entryFrame m #[(.ref x0)] 1 = mkF m 0 #[.val (.ref x0)] [] := by first | (simp [entryFrame, mkF, argsToLocals, Value.category]; done) | rfl
def Q_own_isemp (Z : State) (a1 : Addr) (h0 : Heap) (n0 : Nat) (v : Option Value) (h : Heap) (L : List Loc) : Prop := v = some (.int 1) ∧ Fr n0 L ∧ h = h0
set_option maxRecDepth 65536 in
set_option maxHeartbeats 40000000 in
theorem own_isemp (l : Launch) (Z : State) (a0 : Array Value) (hw : ∀ d ∈ tables_1, d.before a0 Z = true) (ws : List Jvm.Cond) (a1 : Addr) (h0 : Heap) (n0 : Nat) (Z0 : n0 ≤ h0.size) (F1 : Fld Z h0 a1 "java/util/ArrayDeque" "head" "I" (.int (0 : Int32))) (F2 : Fld Z h0 a1 "java/util/ArrayDeque" "tail" "I" (.int (0 : Int32))) :
    MetFree l (⟨"java/util/ArrayDeque", "isEmpty", "()Z"⟩ : MethodName) (head1 (Jvm.Cond.code (⟨"java/util/ArrayDeque", "isEmpty", "()Z"⟩ : MethodName) jdk_21_method_38_code 1 (some .boolean) :: ws) ({ frames := 0, cells := 0, slots := 0, locals := 0 } : Room)) (fun a U => a = #[(.ref a1)] ∧ Z.Warmed39 U.vm ∧ U.heap = h0) (fun _ _ _ _ _ => True) (fun _ U o U' => ∃ v L, o = .returned v ∧ Q_own_isemp Z a1 h0 n0 v U'.heap L ∧ FrameEnd U o U' L ({ frames := 0, cells := 0, slots := 0, locals := 0 } : Room).cells ({ frames := 0, cells := 0, slots := 0, locals := 0 } : Room).slots) := by
  refine MetFree.of_bodySF (plainFor_of_name own_isemp_pn) hisR ?_
  intro p e s m args below meth c s₁ Bd hml0 hP hK
  obtain ⟨rfl, hZ, hh⟩ := hP
  have hx := Bd.exec
  have hby := Bd.bytes
  have hml : c.maxLocals = 1 := hml0
  have hown : s.vm.findClass "java/util/ArrayDeque" = some m.cls := findClass_of_methodNamed Bd.named
  have hnm := (name_of_methodNamed Bd.named Bd.method).1
  have X0 : Stand p l e ({ frames := 0, cells := 0, slots := 0, locals := 0 } : Room) s m #[(.ref a1)] below meth c s₁ [] 0 0 := Stand.of_body Bd
  have e0 : s₁.heap = h0 := by rw [← hh, Bd.state]; rfl
  have N0 := Fr.nil n0
  have pp0 : ∀ t, Steps p.tables e below (s₁.setTop (mkF m 0 #[.val (.ref a1)] [])) t → Steps p.tables e below (s₁.setTop (entryFrame m #[(.ref a1)] 1)) t := fun t k => castTop (own_isemp_ef m a1) k
  have pp101 : ∀ t, Steps p.tables e below (s₁.setTop (mkF m 1 #[.val (.ref a1)] [(.ref a1)])) t → Steps p.tables e below (s₁.setTop (entryFrame m #[(.ref a1)] 1)) t := fun t k => pp0 t (by
    refine XS.aloadN X0.here hx rfl (hb hby own_isemp_d0) rfl rfl ?_
    show Steps p.tables e below (s₁.setTop (mkF m 1 #[.val (.ref a1)] [(.ref a1)])) _
    exact k)
  obtain ⟨T102, X102, e102, st102⟩ := getF X0 hx hZ hown (host := "") (Or.inl (hw _ (List.mem_of_getElem? (i := 64) rfl))) Via.refl e0 F1 (g := (mkF m 1 #[.val (.ref a1)] [(.ref a1)])) rfl rfl (hb hby own_isemp_d1)
  have pp103 : ∀ t, Steps p.tables e below (T102.setTop (mkF m 4 #[.val (.ref a1)] [(.int (0 : Int32))])) t → Steps p.tables e below (s₁.setTop (entryFrame m #[(.ref a1)] 1)) t := fun t k => pp101 t (st102 t k)
  have pp104 : ∀ t, Steps p.tables e below (T102.setTop (mkF m 5 #[.val (.ref a1)] [(.ref a1), (.int (0 : Int32))])) t → Steps p.tables e below (s₁.setTop (entryFrame m #[(.ref a1)] 1)) t := fun t k => pp103 t (by
    refine XS.aloadN X102.here hx rfl (hb hby own_isemp_d4) rfl rfl ?_
    show Steps p.tables e below (T102.setTop (mkF m 5 #[.val (.ref a1)] [(.ref a1), (.int (0 : Int32))])) _
    exact k)
  obtain ⟨T105, X105, e105, st105⟩ := getF X102 hx hZ hown (host := "") (Or.inl (hw _ (List.mem_of_getElem? (i := 66) rfl))) Via.refl e102 F2 (g := (mkF m 5 #[.val (.ref a1)] [(.ref a1), (.int (0 : Int32))])) rfl rfl (hb hby own_isemp_d5)
  have pp106 : ∀ t, Steps p.tables e below (T105.setTop (mkF m 8 #[.val (.ref a1)] [(.int (0 : Int32)), (.int (0 : Int32))])) t → Steps p.tables e below (s₁.setTop (entryFrame m #[(.ref a1)] 1)) t := fun t k => pp104 t (st105 t k)
  have pp107 : ∀ t, Steps p.tables e below (T105.setTop (mkF m 16 #[.val (.ref a1)] [(.int (1 : Int32))])) t → Steps p.tables e below (s₁.setTop (entryFrame m #[(.ref a1)] 1)) t := fun t k => pp106 t (by
    refine XS.icmpNo X105.here hx rfl (hb hby own_isemp_d8) rfl (teq (by decide : (0 : Int32) = (0 : Int32))).2 ?_
    show Steps p.tables e below (T105.setTop (mkF m 11 #[.val (.ref a1)] [])) _
    refine XS.iconst X105.here hx rfl (hb hby own_isemp_d11) ?_
    show Steps p.tables e below (T105.setTop (mkF m 12 #[.val (.ref a1)] [(.int (1 : Int32))])) _
    refine XS.goto X105.here hx rfl (pc0 := 12) (pc' := 16) rfl (hb hby own_isemp_d12) (by decide) (by decide) ?_
    show Steps p.tables e below (T105.setTop (mkF m 16 #[.val (.ref a1)] [(.int (1 : Int32))])) _
    exact k)
  obtain ⟨fs, hr, hrun, hended, hW, hsame⟩ := X105.leave (v := some (.int (1 : Int32))) (fun h => by rw [Bd.returns] at h; cases h)
  refine ⟨_, _, pp107 _ ?_, hrun, hended, _, _, rfl, ?_, ⟨_, rfl⟩, hW, hsame.mono (by decide) (by decide)⟩
  · exact retN X105 hx (t := .boolean) Bd.returns (by simp) (hb hby own_isemp_d16) hr
  · show Q_own_isemp Z a1 h0 n0 _ T105.heap _
    rw [e105]
    exact ⟨rfl, N0, rfl⟩
theorem pd__J_J : parseMethodDescriptor "(J)J" = some ⟨[.long], some .long⟩ := by decide +kernel
theorem pd___Z : parseMethodDescriptor "()Z" = some ⟨[], some .boolean⟩ := by decide +kernel
theorem own_take_d0 : decode prog_6_method_6_code 0 = .ok (.aload_n 0, 1) := by decide +kernel
theorem own_take_d1 : decode prog_6_method_6_code 1 = .ok (.aload_n 0, 1) := by decide +kernel
theorem own_take_d2 : decode prog_6_method_6_code 2 = .ok (.getfield 82, 3) := by decide +kernel
theorem own_take_d5 : decode prog_6_method_6_code 5 = .ok (.lload_n 1, 1) := by decide +kernel
theorem own_take_d6 : decode prog_6_method_6_code 6 = .ok (.ladd, 1) := by decide +kernel
theorem own_take_d7 : decode prog_6_method_6_code 7 = .ok (.invokevirtual 85, 3) := by decide +kernel
theorem own_take_d10 : decode prog_6_method_6_code 10 = .ok (.aload_n 0, 1) := by decide +kernel
theorem own_take_d11 : decode prog_6_method_6_code 11 = .ok (.aload_n 0, 1) := by decide +kernel
theorem own_take_d12 : decode prog_6_method_6_code 12 = .ok (.getfield 82, 3) := by decide +kernel
theorem own_take_d15 : decode prog_6_method_6_code 15 = .ok (.invokevirtual 85, 3) := by decide +kernel
theorem own_take_d18 : decode prog_6_method_6_code 18 = .ok (.lsub, 1) := by decide +kernel
theorem own_take_d19 : decode prog_6_method_6_code 19 = .ok (.lstore_n 3, 1) := by decide +kernel
theorem own_take_d20 : decode prog_6_method_6_code 20 = .ok (.lload_n 3, 1) := by decide +kernel
theorem own_take_d21 : decode prog_6_method_6_code 21 = .ok (.lconst 0, 1) := by decide +kernel
theorem own_take_d22 : decode prog_6_method_6_code 22 = .ok (.lcmp, 1) := by decide +kernel
theorem own_take_d23 : decode prog_6_method_6_code 23 = .ok (.ifCond .eq 21, 3) := by decide +kernel
theorem own_take_d26 : decode prog_6_method_6_code 26 = .ok (.aload_n 0, 1) := by decide +kernel
theorem own_take_d27 : decode prog_6_method_6_code 27 = .ok (.getfield 23, 3) := by decide +kernel
theorem own_take_d30 : decode prog_6_method_6_code 30 = .ok (.ifnull 18, 3) := by decide +kernel
theorem own_take_d44 : decode prog_6_method_6_code 44 = .ok (.iconst 1, 1) := by decide +kernel
theorem own_take_d45 : decode prog_6_method_6_code 45 = .ok (.goto 4, 3) := by decide +kernel
theorem own_take_d48 : decode prog_6_method_6_code 48 = .ok (.iconst 0, 1) := by decide +kernel
theorem own_take_d49 : decode prog_6_method_6_code 49 = .ok (.istore 5, 2) := by decide +kernel
theorem own_take_d51 : decode prog_6_method_6_code 51 = .ok (.iload 5, 2) := by decide +kernel
theorem own_take_d53 : decode prog_6_method_6_code 53 = .ok (.ifCond .eq 58, 3) := by decide +kernel
theorem own_take_d56 : decode prog_6_method_6_code 56 = .ok (.aload_n 0, 1) := by decide +kernel
theorem own_take_d57 : decode prog_6_method_6_code 57 = .ok (.dup, 1) := by decide +kernel
theorem own_take_d58 : decode prog_6_method_6_code 58 = .ok (.getfield 82, 3) := by decide +kernel
theorem own_take_d61 : decode prog_6_method_6_code 61 = .ok (.lload_n 1, 1) := by decide +kernel
theorem own_take_d62 : decode prog_6_method_6_code 62 = .ok (.ladd, 1) := by decide +kernel
theorem own_take_d63 : decode prog_6_method_6_code 63 = .ok (.putfield 82, 3) := by decide +kernel
theorem own_take_d66 : decode prog_6_method_6_code 66 = .ok (.aload_n 0, 1) := by decide +kernel
theorem own_take_d67 : decode prog_6_method_6_code 67 = .ok (.getfield 15, 3) := by decide +kernel
theorem own_take_d70 : decode prog_6_method_6_code 70 = .ok (.invokeinterface 93 1, 5) := by decide +kernel
theorem own_take_d75 : decode prog_6_method_6_code 75 = .ok (.ifCond .ne 36, 3) := by decide +kernel
theorem own_take_d111 : decode prog_6_method_6_code 111 = .ok (.iload 5, 2) := by decide +kernel
theorem own_take_d113 : decode prog_6_method_6_code 113 = .ok (.ireturn, 1) := by decide +kernel
theorem own_take_pn : plainName "com/example/ackd/ackd/budget/BodyBudget" = true := by first | (simp [plainName, overriddenIn]; done) | decide +kernel
theorem own_take_ef (m : MethodId) (x0 : Addr) (x1 : Int64) : entryFrameSync m #[(.ref x0), (.long x1)] 6 x0 = mkL x0 m 0 #[.val (.ref x0), .val (.long x1), .second, .unset, .unset, .unset] [] := by first | rfl | (simp [entryFrameSync, mkL, argsToLocals, Value.category]; done)
def Q_own_take (Z : State) (a1 : Addr) (q2 : Int64) (w1 : Int64) (dq : Addr) (h0 : Heap) (n0 : Nat) (v : Option Value) (h : Heap) (L : List Loc) : Prop := ∃ z : Int32, v = some (.int z) ∧ Fr n0 L ∧ n0 ≤ h.size ∧ Exa Z h a1 "com/example/ackd/ackd/budget/BodyBudget" ∧ Fld Z h a1 "com/example/ackd/ackd/budget/BodyBudget" "own" "J" (.long w1) ∧ Fld Z h a1 "com/example/ackd/ackd/budget/BodyBudget" "shared" "Lcom/example/ackd/ackd/budget/BodyBudget;" .null
set_option maxRecDepth 65536 in
set_option maxHeartbeats 40000000 in
theorem own_take (l : Launch) (Z : State) (a0 : Array Value) (hw : ∀ d ∈ tables_1, d.before a0 Z = true) (a1 : Addr) (q2 : Int64) (w1 : Int64) (dq : Addr) (h0 : Heap) (n0 : Nat) (Z0 : n0 ≤ h0.size) (E1 : Exa Z h0 a1 "com/example/ackd/ackd/budget/BodyBudget") (F1 : Fld Z h0 a1 "com/example/ackd/ackd/budget/BodyBudget" "own" "J" (.long w1)) (F2 : Fld Z h0 a1 "com/example/ackd/ackd/budget/BodyBudget" "shared" "Lcom/example/ackd/ackd/budget/BodyBudget;" .null) (F3 : Fld Z h0 a1 "com/example/ackd/ackd/budget/BodyBudget" "taken" "J" (.long (0 : Int64))) (F4 : Fld Z h0 a1 "com/example/ackd/ackd/budget/BodyBudget" "kept" "Ljava/util/Deque;" (.ref dq)) (E2 : Exa Z h0 dq "java/util/ArrayDeque") (F5 : Fld Z h0 dq "java/util/ArrayDeque" "head" "I" (.int (0 : Int32))) (F6 : Fld Z h0 dq "java/util/ArrayDeque" "tail" "I" (.int (0 : Int32))) (g_a1 : n0 ≤ a1) :
    MetFree l (⟨"com/example/ackd/ackd/budget/BodyBudget", "take", "(J)Z"⟩ : MethodName) (head1 [Jvm.Cond.codeSync (⟨"com/example/ackd/ackd/budget/BodyBudget", "take", "(J)Z"⟩ : MethodName) prog_6_method_6_code 6 (some .boolean), Jvm.Cond.instanceMethod (⟨"com/example/ackd/ackd/budget/BodyBudget", "take", "(J)Z"⟩ : MethodName)] ({ frames := 2, cells := 0, slots := 0, locals := 40 } : Room)) (fun a U => a = #[(.ref a1), (.long q2)] ∧ Z.Warmed39 U.vm ∧ U.heap = h0 ∧ ∃ cell : Cell, h0[a1]? = some cell ∧ cell.enterable U.cur) (fun _ _ _ _ _ => True) (fun _ U o U' => ∃ v L, o = .returned v ∧ Q_own_take Z a1 q2 w1 dq h0 n0 v U'.heap L ∧ FrameEnd U o U' L ({ frames := 2, cells := 0, slots := 0, locals := 40 } : Room).cells ({ frames := 2, cells := 0, slots := 0, locals := 40 } : Room).slots) := by
  refine MetFree.of_bodySync (plainFor_of_name own_take_pn) (hisS (List.mem_cons_self ..)) (fun _ s _ ⟨h1, _, h2, cl, h3, h4⟩ => ⟨a1, cl, by rw [h1]; rfl, by rw [h2]; exact h3, h4⟩) ?_
  intro p e s0 m args below meth c a' cell s₁ Bd hml0 hP _
  obtain ⟨rfl, hZ0, hh0, -⟩ := hP
  cases Bd.receiver
  subst hh0
  have hx := Bd.exec
  have hby := Bd.bytes
  have hml : c.maxLocals = 6 := hml0
  have X0 : Stand p l e ({ frames := 2, cells := 0, slots := 0, locals := 40 } : Room) (s0.setCell a1 (cell.withEntry s0.cur)) m #[(.ref a1), (.long q2)] below meth c s₁ [] 0 0 := Stand.of_bodySync Bd
  have hZ : Z.Warmed39 (s0.setCell a1 (cell.withEntry s0.cur)).vm := hZ0
  have hown : (s0.setCell a1 (cell.withEntry s0.cur)).vm.findClass "com/example/ackd/ackd/budget/BodyBudget" = some m.cls := (findClass_of_methodNamed Bd.named :)
  have M0 : Mon s0.heap s₁.heap := by rw [Bd.state]; exact mon_set Bd.object _
  obtain ⟨h1, e0⟩ : ∃ z, s₁.heap = z := ⟨_, rfl⟩
  rw [e0] at M0
  have N0 := Fr.nil n0
  have pp0 : ∀ t, Steps p.tables e below (s₁.setTop (mkL a1 m 0 #[.val (.ref a1), .val (.long q2), .second, .unset, .unset, .unset] [])) t → Steps p.tables e below (s₁.setTop (entryFrameSync m #[(.ref a1), (.long q2)] 6 a1)) t := fun t k => castTop (own_take_ef m a1 q2) k
  have hne : dq ≠ a1 := ne_exa E2 E1 (by decide)
  have pp101 : ∀ t, Steps p.tables e below (s₁.setTop (mkL a1 m 2 #[.val (.ref a1), .val (.long q2), .second, .unset, .unset, .unset] [(.ref a1), (.ref a1)])) t → Steps p.tables e below (s₁.setTop (entryFrameSync m #[(.ref a1), (.long q2)] 6 a1)) t := fun t k => pp0 t (by
    refine XS.aloadN X0.here hx rfl (hb hby own_take_d0) rfl rfl ?_
    show Steps p.tables e below (s₁.setTop (mkL a1 m 1 #[.val (.ref a1), .val (.long q2), .second, .unset, .unset, .unset] [(.ref a1)])) _
    refine XS.aloadN X0.here hx rfl (hb hby own_take_d1) rfl rfl ?_
    show Steps p.tables e below (s₁.setTop (mkL a1 m 2 #[.val (.ref a1), .val (.long q2), .second, .unset, .unset, .unset] [(.ref a1), (.ref a1)])) _
    exact k)
  obtain ⟨T102, X102, e102, st102⟩ := getF X0 hx hZ hown (host := "") (Or.inl (hw _ (List.mem_of_getElem? (i := 45) rfl))) Via.refl e0 (F3.mon M0) (g := (mkL a1 m 2 #[.val (.ref a1), .val (.long q2), .second, .unset, .unset, .unset] [(.ref a1), (.ref a1)])) rfl rfl (hb hby own_take_d2)
  have pp103 : ∀ t, Steps p.tables e below (T102.setTop (mkL a1 m 5 #[.val (.ref a1), .val (.long q2), .second, .unset, .unset, .unset] [(.long (0 : Int64)), (.ref a1)])) t → Steps p.tables e below (s₁.setTop (entryFrameSync m #[(.ref a1), (.long q2)] 6 a1)) t := fun t k => pp101 t (st102 t k)
  have pp104 : ∀ t, Steps p.tables e below (T102.setTop (mkL a1 m 7 #[.val (.ref a1), .val (.long q2), .second, .unset, .unset, .unset] [(.long ((0 : Int64) + q2)), (.ref a1)])) t → Steps p.tables e below (s₁.setTop (entryFrameSync m #[(.ref a1), (.long q2)] 6 a1)) t := fun t k => pp103 t (by
    refine XS.lloadN X102.here hx rfl (hb hby own_take_d5) rfl ?_
    show Steps p.tables e below (T102.setTop (mkL a1 m 6 #[.val (.ref a1), .val (.long q2), .second, .unset, .unset, .unset] [(.long q2), (.long (0 : Int64)), (.ref a1)])) _
    refine XS.ladd X102.here hx rfl (hb hby own_take_d6) rfl ?_
    show Steps p.tables e below (T102.setTop (mkL a1 m 7 #[.val (.ref a1), .val (.long q2), .second, .unset, .unset, .unset] [(.long ((0 : Int64) + q2)), (.ref a1)])) _
    exact k)
  obtain ⟨cq105, q105, q105'⟩ := Exa.cell (E1.mon M0)
  obtain ⟨_, _, ⟨T105, L105, k105, n105⟩, -, X105, ⟨Lc105, hQ105, l105, y105, z105⟩, st105⟩ := X102.privateBack hx (y := (⟨"com/example/ackd/ackd/budget/BodyBudget", "beyondOwn", "(J)J"⟩ : MethodName)) hown (mvT hZ (hw _ (List.mem_of_getElem? (i := 47) rfl))) (mvT hZ (hw _ (List.mem_of_getElem? (i := 48) rfl))) (own_selfsel (mvT hZ (hw _ (List.mem_of_getElem? (i := 1) rfl))) (Cond.privateMethod_at (mvP hZ (hw _ (List.mem_of_getElem? (i := 49) rfl)) (args := #[]))) (mvT hZ (hw _ (List.mem_of_getElem? (i := 48) rfl))) (by decide)) (Cond.privateMethod_at (mvP hZ (hw _ (List.mem_of_getElem? (i := 49) rfl)) (args := #[]))) (mvT hZ (hw _ (List.mem_of_getElem? (i := 50) rfl))) (by decide) (backOf (W := 2) (own_beyond l Z a0 hw [] a1 ((0 : Int64) + q2) w1 h1 n0 (Nat.le_trans Z0 (Nat.le_of_eq (Mon.size M0).symm)) (F1.mon M0)) hZ (hw _ (List.mem_of_getElem? (i := 50) rfl)) (hw _ (List.mem_of_getElem? (i := 2) rfl)) (by decide) (by decide)) (g := (mkL a1 m 7 #[.val (.ref a1), .val (.long q2), .second, .unset, .unset, .unset] [(.long ((0 : Int64) + q2)), (.ref a1)])) rfl (by rw [hml]; rfl) (Steps.refl _) (a := a1) (by rw [e102]; exact q105) q105' (argsL := [(.long ((0 : Int64) + q2))]) (rest := []) (lenOf pd__J_J rfl) rfl (by show 2 * 1 + _ ≤ _; exact Nat.le_of_eq rfl) (hb hby own_take_d7) (fun _ _ => ⟨rfl, e102, (by decide : 0 + 0 ≤ _), (by decide : 0 + 0 ≤ _)⟩)
  dsimp only [Pt.U, Pt.locs, Pt.cells, Pt.slots] at X105 l105 y105 z105 st105 hQ105
  subst l105 y105 z105
  obtain ⟨rfl, N105q, s105⟩ := hQ105
  have N105 := Fr.app N0 N105q
  have pp106 : ∀ t, Steps p.tables e below (T105.setTop (mkL a1 m 10 #[.val (.ref a1), .val (.long q2), .second, .unset, .unset, .unset] [(.long (own_max (0 : Int64) (((0 : Int64) + q2) - w1)))])) t → Steps p.tables e below (s₁.setTop (entryFrameSync m #[(.ref a1), (.long q2)] 6 a1)) t := fun t k => pp104 t (st105.trans k)
  have pp107 : ∀ t, Steps p.tables e below (T105.setTop (mkL a1 m 12 #[.val (.ref a1), .val (.long q2), .second, .unset, .unset, .unset] [(.ref a1), (.ref a1), (.long (own_max (0 : Int64) (((0 : Int64) + q2) - w1)))])) t → Steps p.tables e below (s₁.setTop (entryFrameSync m #[(.ref a1), (.long q2)] 6 a1)) t := fun t k => pp106 t (by
    refine XS.aloadN X105.here hx rfl (hb hby own_take_d10) rfl rfl ?_
    show Steps p.tables e below (T105.setTop (mkL a1 m 11 #[.val (.ref a1), .val (.long q2), .second, .unset, .unset, .unset] [(.ref a1), (.long (own_max (0 : Int64) (((0 : Int64) + q2) - w1)))])) _
    refine XS.aloadN X105.here hx rfl (hb hby own_take_d11) rfl rfl ?_
    show Steps p.tables e below (T105.setTop (mkL a1 m 12 #[.val (.ref a1), .val (.long q2), .second, .unset, .unset, .unset] [(.ref a1), (.ref a1), (.long (own_max (0 : Int64) (((0 : Int64) + q2) - w1)))])) _
    exact k)
  obtain ⟨T108, X108, e108, st108⟩ := getF X105 hx hZ hown (host := "") (Or.inl (hw _ (List.mem_of_getElem? (i := 45) rfl))) Via.refl s105 (F3.mon M0) (g := (mkL a1 m 12 #[.val (.ref a1), .val (.long q2), .second, .unset, .unset, .unset] [(.ref a1), (.ref a1), (.long (own_max (0 : Int64) (((0 : Int64) + q2) - w1)))])) rfl rfl (hb hby own_take_d12)
  have pp109 : ∀ t, Steps p.tables e below (T108.setTop (mkL a1 m 15 #[.val (.ref a1), .val (.long q2), .second, .unset, .unset, .unset] [(.long (0 : Int64)), (.ref a1), (.long (own_max (0 : Int64) (((0 : Int64) + q2) - w1)))])) t → Steps p.tables e below (s₁.setTop (entryFrameSync m #[(.ref a1), (.long q2)] 6 a1)) t := fun t k => pp107 t (st108 t k)
  obtain ⟨cq110, q110, q110'⟩ := Exa.cell (E1.mon M0)
  obtain ⟨_, _, ⟨T110, L110, k110, n110⟩, -, X110, ⟨Lc110, hQ110, l110, y110, z110⟩, st110⟩ := X108.privateBack hx (y := (⟨"com/example/ackd/ackd/budget/BodyBudget", "beyondOwn", "(J)J"⟩ : MethodName)) hown (mvT hZ (hw _ (List.mem_of_getElem? (i := 47) rfl))) (mvT hZ (hw _ (List.mem_of_getElem? (i := 48) rfl))) (own_selfsel (mvT hZ (hw _ (List.mem_of_getElem? (i := 1) rfl))) (Cond.privateMethod_at (mvP hZ (hw _ (List.mem_of_getElem? (i := 49) rfl)) (args := #[]))) (mvT hZ (hw _ (List.mem_of_getElem? (i := 48) rfl))) (by decide)) (Cond.privateMethod_at (mvP hZ (hw _ (List.mem_of_getElem? (i := 49) rfl)) (args := #[]))) (mvT hZ (hw _ (List.mem_of_getElem? (i := 50) rfl))) (by decide) (backOf (W := 4) (own_beyond l Z a0 hw [] a1 (0 : Int64) w1 h1 n0 (Nat.le_trans Z0 (Nat.le_of_eq (Mon.size M0).symm)) (F1.mon M0)) hZ (hw _ (List.mem_of_getElem? (i := 50) rfl)) (hw _ (List.mem_of_getElem? (i := 2) rfl)) (by decide) (by decide)) (g := (mkL a1 m 15 #[.val (.ref a1), .val (.long q2), .second, .unset, .unset, .unset] [(.long (0 : Int64)), (.ref a1), (.long (own_max (0 : Int64) (((0 : Int64) + q2) - w1)))])) rfl (by rw [hml]; rfl) (Steps.refl _) (a := a1) (by rw [e108]; exact q110) q110' (argsL := [(.long (0 : Int64))]) (rest := [(.long (own_max (0 : Int64) (((0 : Int64) + q2) - w1)))]) (lenOf pd__J_J rfl) rfl (by show 2 * 1 + _ ≤ _; exact Nat.le_of_eq rfl) (hb hby own_take_d15) (fun _ _ => ⟨rfl, e108, (by decide : 0 + 0 ≤ _), (by decide : 0 + 0 ≤ _)⟩)
  dsimp only [Pt.U, Pt.locs, Pt.cells, Pt.slots] at X110 l110 y110 z110 st110 hQ110
  subst l110 y110 z110
  obtain ⟨rfl, N110q, s110⟩ := hQ110
  have N110 := Fr.app N105 N110q
  have pp111 : ∀ t, Steps p.tables e below (T110.setTop (mkL a1 m 18 #[.val (.ref a1), .val (.long q2), .second, .unset, .unset, .unset] [(.long (own_max (0 : Int64) ((0 : Int64) - w1))), (.long (own_max (0 : Int64) (((0 : Int64) + q2) - w1)))])) t → Steps p.tables e below (s₁.setTop (entryFrameSync m #[(.ref a1), (.long q2)] 6 a1)) t := fun t k => pp109 t (st110.trans k)
  have pp112 : ∀ t, Steps p.tables e below (T110.setTop (mkL a1 m 20 #[.val (.ref a1), .val (.long q2), .second, .val (.long ((own_max (0 : Int64) (((0 : Int64) + q2) - w1)) - (own_max (0 : Int64) ((0 : Int64) - w1)))), .second, .unset] [])) t → Steps p.tables e below (s₁.setTop (entryFrameSync m #[(.ref a1), (.long q2)] 6 a1)) t := fun t k => pp111 t (by
    refine XS.lsub X110.here hx rfl (hb hby own_take_d18) rfl ?_
    show Steps p.tables e below (T110.setTop (mkL a1 m 19 #[.val (.ref a1), .val (.long q2), .second, .unset, .unset, .unset] [(.long ((own_max (0 : Int64) (((0 : Int64) + q2) - w1)) - (own_max (0 : Int64) ((0 : Int64) - w1))))])) _
    refine XS.lstoreN X110.here hx rfl (hb hby own_take_d19) rfl (l' := #[.val (.ref a1), .val (.long q2), .second, .val (.long ((own_max (0 : Int64) (((0 : Int64) + q2) - w1)) - (own_max (0 : Int64) ((0 : Int64) - w1)))), .second, .unset]) rfl ?_
    show Steps p.tables e below (T110.setTop (mkL a1 m 20 #[.val (.ref a1), .val (.long q2), .second, .val (.long ((own_max (0 : Int64) (((0 : Int64) + q2) - w1)) - (own_max (0 : Int64) ((0 : Int64) - w1)))), .second, .unset] [])) _
    exact k)
  generalize hbyd : ((own_max (0 : Int64) (((0 : Int64) + q2) - w1)) - (own_max (0 : Int64) ((0 : Int64) - w1))) = byd at pp112
  have pp113 : ∀ t, Steps p.tables e below (T110.setTop (mkL a1 m 23 #[.val (.ref a1), .val (.long q2), .second, .val (.long byd), .second, .unset] [(.int (lcmpW byd (0 : Int64)))])) t → Steps p.tables e below (s₁.setTop (entryFrameSync m #[(.ref a1), (.long q2)] 6 a1)) t := fun t k => pp112 t (by
    refine XS.lloadN X110.here hx rfl (hb hby own_take_d20) rfl ?_
    show Steps p.tables e below (T110.setTop (mkL a1 m 21 #[.val (.ref a1), .val (.long q2), .second, .val (.long byd), .second, .unset] [(.long byd)])) _
    refine XS.lconst X110.here hx rfl (hb hby own_take_d21) ?_
    show Steps p.tables e below (T110.setTop (mkL a1 m 22 #[.val (.ref a1), .val (.long q2), .second, .val (.long byd), .second, .unset] [(.long (0 : Int64)), (.long byd)])) _
    refine XS.lcmp X110.here hx rfl (hb hby own_take_d22) rfl ?_
    show Steps p.tables e below (T110.setTop (mkL a1 m 23 #[.val (.ref a1), .val (.long q2), .second, .val (.long byd), .second, .unset] [(.int (lcmpW byd (0 : Int64)))])) _
    exact k)
  by_cases hc23 : (lcmpW byd (0 : Int64)) = (0 : Int32)
  · have pp114 : ∀ t, Steps p.tables e below (T110.setTop (mkL a1 m 58 #[.val (.ref a1), .val (.long q2), .second, .val (.long byd), .second, .val (.int (1 : Int32))] [(.ref a1), (.ref a1)])) t → Steps p.tables e below (s₁.setTop (entryFrameSync m #[(.ref a1), (.long q2)] 6 a1)) t := fun t k => pp113 t (by
      refine XS.ifYes X110.here hx rfl (pc0 := 23) (pc' := 44) rfl (hb hby own_take_d23) rfl ((if0 _ _).trans (teq hc23).1) (by decide) (by decide) ?_
      show Steps p.tables e below (T110.setTop (mkL a1 m 44 #[.val (.ref a1), .val (.long q2), .second, .val (.long byd), .second, .unset] [])) _
      refine XS.iconst X110.here hx rfl (hb hby own_take_d44) ?_
      show Steps p.tables e below (T110.setTop (mkL a1 m 45 #[.val (.ref a1), .val (.long q2), .second, .val (.long byd), .second, .unset] [(.int (1 : Int32))])) _
      refine XS.goto X110.here hx rfl (pc0 := 45) (pc' := 49) rfl (hb hby own_take_d45) (by decide) (by decide) ?_
      show Steps p.tables e below (T110.setTop (mkL a1 m 49 #[.val (.ref a1), .val (.long q2), .second, .val (.long byd), .second, .unset] [(.int (1 : Int32))])) _
      refine XS.istore X110.here hx rfl (hb hby own_take_d49) rfl (l' := #[.val (.ref a1), .val (.long q2), .second, .val (.long byd), .second, .val (.int (1 : Int32))]) rfl ?_
      show Steps p.tables e below (T110.setTop (mkL a1 m 51 #[.val (.ref a1), .val (.long q2), .second, .val (.long byd), .second, .val (.int (1 : Int32))] [])) _
      refine XS.iload X110.here hx rfl (hb hby own_take_d51) rfl ?_
      show Steps p.tables e below (T110.setTop (mkL a1 m 53 #[.val (.ref a1), .val (.long q2), .second, .val (.long byd), .second, .val (.int (1 : Int32))] [(.int (1 : Int32))])) _
      refine XS.ifNo X110.here hx rfl (hb hby own_take_d53) rfl ((if0 _ _).trans (feq (by decide : ¬ ((1 : Int32) = (0 : Int32)))).1) ?_
      show Steps p.tables e below (T110.setTop (mkL a1 m 56 #[.val (.ref a1), .val (.long q2), .second, .val (.long byd), .second, .val (.int (1 : Int32))] [])) _
      refine XS.aloadN X110.here hx rfl (hb hby own_take_d56) rfl rfl ?_
      show Steps p.tables e below (T110.setTop (mkL a1 m 57 #[.val (.ref a1), .val (.long q2), .second, .val (.long byd), .second, .val (.int (1 : Int32))] [(.ref a1)])) _
      refine XS.dup X110.here hx rfl (hb hby own_take_d57) rfl rfl ?_
      show Steps p.tables e below (T110.setTop (mkL a1 m 58 #[.val (.ref a1), .val (.long q2), .second, .val (.long byd), .second, .val (.int (1 : Int32))] [(.ref a1), (.ref a1)])) _
      exact k)
    obtain ⟨T115, X115, e115, st115⟩ := getF X110 hx hZ hown (host := "") (Or.inl (hw _ (List.mem_of_getElem? (i := 45) rfl))) Via.refl s110 (F3.mon M0) (g := (mkL a1 m 58 #[.val (.ref a1), .val (.long q2), .second, .val (.long byd), .second, .val (.int (1 : Int32))] [(.ref a1), (.ref a1)])) rfl rfl (hb hby own_take_d58)
    have pp116 : ∀ t, Steps p.tables e below (T115.setTop (mkL a1 m 61 #[.val (.ref a1), .val (.long q2), .second, .val (.long byd), .second, .val (.int (1 : Int32))] [(.long (0 : Int64)), (.ref a1)])) t → Steps p.tables e below (s₁.setTop (entryFrameSync m #[(.ref a1), (.long q2)] 6 a1)) t := fun t k => pp114 t (st115 t k)
    have pp117 : ∀ t, Steps p.tables e below (T115.setTop (mkL a1 m 63 #[.val (.ref a1), .val (.long q2), .second, .val (.long byd), .second, .val (.int (1 : Int32))] [(.long ((0 : Int64) + q2)), (.ref a1)])) t → Steps p.tables e below (s₁.setTop (entryFrameSync m #[(.ref a1), (.long q2)] 6 a1)) t := fun t k => pp116 t (by
      refine XS.lloadN X115.here hx rfl (hb hby own_take_d61) rfl ?_
      show Steps p.tables e below (T115.setTop (mkL a1 m 62 #[.val (.ref a1), .val (.long q2), .second, .val (.long byd), .second, .val (.int (1 : Int32))] [(.long q2), (.long (0 : Int64)), (.ref a1)])) _
      refine XS.ladd X115.here hx rfl (hb hby own_take_d62) rfl ?_
      show Steps p.tables e below (T115.setTop (mkL a1 m 63 #[.val (.ref a1), .val (.long q2), .second, .val (.long byd), .second, .val (.int (1 : Int32))] [(.long ((0 : Int64) + q2)), (.ref a1)])) _
      exact k)
    obtain ⟨T118, h118, X118, e118, W118, st118⟩ := putF X115 hx hZ hown (host := "") (Or.inl (hw _ (List.mem_of_getElem? (i := 45) rfl))) Via.refl e115 (F3.mon M0) (E1.mon M0) (Or.inl (hw _ (List.mem_of_getElem? (i := 46) rfl))) (hw _ (List.mem_of_getElem? (i := 1) rfl)) (ty := .long) (by decide) rfl rfl (g := (mkL a1 m 63 #[.val (.ref a1), .val (.long q2), .second, .val (.long byd), .second, .val (.int (1 : Int32))] [(.long ((0 : Int64) + q2)), (.ref a1)])) rfl rfl (hb hby own_take_d63)
    have Fw118 := (F3.mon M0).same W118
    have N118 := Fr.snoc X118 N110 g_a1
    have pp119 : ∀ t, Steps p.tables e below (T118.setTop (mkL a1 m 66 #[.val (.ref a1), .val (.long q2), .second, .val (.long byd), .second, .val (.int (1 : Int32))] [])) t → Steps p.tables e below (s₁.setTop (entryFrameSync m #[(.ref a1), (.long q2)] 6 a1)) t := fun t k => pp117 t (st118 t k)
    have pp120 : ∀ t, Steps p.tables e below (T118.setTop (mkL a1 m 67 #[.val (.ref a1), .val (.long q2), .second, .val (.long byd), .second, .val (.int (1 : Int32))] [(.ref a1)])) t → Steps p.tables e below (s₁.setTop (entryFrameSync m #[(.ref a1), (.long q2)] 6 a1)) t := fun t k => pp119 t (by
      refine XS.aloadN X118.here hx rfl (hb hby own_take_d66) rfl rfl ?_
      show Steps p.tables e below (T118.setTop (mkL a1 m 67 #[.val (.ref a1), .val (.long q2), .second, .val (.long byd), .second, .val (.int (1 : Int32))] [(.ref a1)])) _
      exact k)
    obtain ⟨T121, X121, e121, st121⟩ := getF X118 hx hZ hown (host := "") (Or.inl (hw _ (List.mem_of_getElem? (i := 29) rfl))) Via.refl e118 ((F4.mon M0).other W118 (Or.inr (slot_ne (Or.inr (hw _ (List.mem_of_getElem? (i := 30) rfl))) (Or.inl (hw _ (List.mem_of_getElem? (i := 46) rfl))) (by decide) (t := (.object "java/util/Deque")) (t' := .long) (by decide) (by decide)))) (g := (mkL a1 m 67 #[.val (.ref a1), .val (.long q2), .second, .val (.long byd), .second, .val (.int (1 : Int32))] [(.ref a1)])) rfl rfl (hb hby own_take_d67)
    have pp122 : ∀ t, Steps p.tables e below (T121.setTop (mkL a1 m 70 #[.val (.ref a1), .val (.long q2), .second, .val (.long byd), .second, .val (.int (1 : Int32))] [(.ref dq)])) t → Steps p.tables e below (s₁.setTop (entryFrameSync m #[(.ref a1), (.long q2)] 6 a1)) t := fun t k => pp120 t (st121 t k)
    obtain ⟨Lg123, X123, N123⟩ : ∃ Lg, Stand p l e ({ frames := 2, cells := 0, slots := 0, locals := 40 } : Room) (s0.setCell a1 (cell.withEntry s0.cur)) m #[(.ref a1), (.long q2)] below meth c T121 Lg 0 0 ∧ Fr n0 Lg := ⟨_, X121, N118⟩
    obtain ⟨cq124, kq124, q124a, q124b, q124c⟩ := isOf hZ e121 ((E2.mon M0).wr W118)
    obtain ⟨_, _, ⟨T124, L124, k124, n124⟩, -, X124, ⟨Lc124, hQ124, l124, y124, z124⟩, st124⟩ := own_faceUp X123 hx (J := "java/util/Collection") (xi := (⟨"java/util/Deque", "isEmpty", "()Z"⟩ : MethodName)) (y := (⟨"java/util/ArrayDeque", "isEmpty", "()Z"⟩ : MethodName)) hown (mvT hZ (hw _ (List.mem_of_getElem? (i := 55) rfl))) (mvT hZ (hw _ (List.mem_of_getElem? (i := 56) rfl))) (own_mvI hZ (hw _ (List.mem_of_getElem? (i := 57) rfl))) (by decide) (by decide) (mvT hZ (hw _ (List.mem_of_getElem? (i := 58) rfl))) (mvT hZ (hw _ (List.mem_of_getElem? (i := 59) rfl))) (mvT hZ (hw _ (List.mem_of_getElem? (i := 60) rfl))) (mvT hZ (hw _ (List.mem_of_getElem? (i := 61) rfl))) (mvT hZ (hw _ (List.mem_of_getElem? (i := 62) rfl))) (by decide) (backOf (W := 2) (own_isemp l Z a0 hw [] dq h118 n0 (Nat.le_trans (Nat.le_trans Z0 (Nat.le_of_eq (Mon.size M0).symm)) (Keep.of_wr W118).1) ((F5.mon M0).other W118 (Or.inl hne)) ((F6.mon M0).other W118 (Or.inl hne))) hZ (hw _ (List.mem_of_getElem? (i := 63) rfl)) (hw _ (List.mem_of_getElem? (i := 14) rfl)) (by decide) (by decide)) q124a q124b q124c (g := (mkL a1 m 70 #[.val (.ref a1), .val (.long q2), .second, .val (.long byd), .second, .val (.int (1 : Int32))] [(.ref dq)])) rfl (by rw [hml]; rfl) (Steps.refl _) (argsL := []) (rest := []) (lenOf pd___Z rfl) rfl (by show 2 * 1 + _ ≤ _; exact Nat.le_of_eq rfl) (hb hby own_take_d70) (fun _ _ => ⟨rfl, e121, (by decide : 0 + 0 ≤ _), (by decide : 0 + 0 ≤ _)⟩)
    dsimp only [Pt.U, Pt.locs, Pt.cells, Pt.slots] at X124 l124 y124 z124 st124 hQ124
    subst l124 y124 z124
    obtain ⟨rfl, N124q, s124⟩ := hQ124
    have N124 := Fr.app N123 N124q
    have pp125 : ∀ t, Steps p.tables e below (T124.setTop (mkL a1 m 75 #[.val (.ref a1), .val (.long q2), .second, .val (.long byd), .second, .val (.int (1 : Int32))] [(.int (1 : Int32))])) t → Steps p.tables e below (s₁.setTop (entryFrameSync m #[(.ref a1), (.long q2)] 6 a1)) t := fun t k => pp122 t (st124.trans k)
    have pp126 : ∀ t, Steps p.tables e below (T124.setTop (mkL a1 m 113 #[.val (.ref a1), .val (.long q2), .second, .val (.long byd), .second, .val (.int (1 : Int32))] [(.int (1 : Int32))])) t → Steps p.tables e below (s₁.setTop (entryFrameSync m #[(.ref a1), (.long q2)] 6 a1)) t := fun t k => pp125 t (by
      refine XS.ifYes X124.here hx rfl (pc0 := 75) (pc' := 111) rfl (hb hby own_take_d75) rfl ((if0 _ _).trans (feq (by decide : ¬ ((1 : Int32) = (0 : Int32)))).2) (by decide) (by decide) ?_
      show Steps p.tables e below (T124.setTop (mkL a1 m 111 #[.val (.ref a1), .val (.long q2), .second, .val (.long byd), .second, .val (.int (1 : Int32))] [])) _
      refine XS.iload X124.here hx rfl (hb hby own_take_d111) rfl ?_
      show Steps p.tables e below (T124.setTop (mkL a1 m 113 #[.val (.ref a1), .val (.long q2), .second, .val (.long byd), .second, .val (.int (1 : Int32))] [(.int (1 : Int32))])) _
      exact k)
    obtain ⟨V, hr, hrun, hended, M1, hW, hsame⟩ := leaveS X124 Bd.object Bd.enterable Bd.synchronized (v := some (.int (1 : Int32))) (fun h => by rw [Bd.returns] at h; cases h)
    rw [s124] at M1
    refine ⟨V, _, pp126 _ ?_, hrun, hended, _, _, rfl, ?_, ⟨_, rfl⟩, hW, hsame.mono (by decide) (by decide)⟩
    · exact retS X124 hx Bd.returns rfl (Or.inl ⟨rfl, Or.inr (Or.inl rfl), _, rfl⟩) (hb hby own_take_d113) hr
    · exact ⟨(1 : Int32), rfl, N124, (Nat.le_trans (Nat.le_trans (Nat.le_trans Z0 (Nat.le_of_eq (Mon.size M0).symm)) (Keep.of_wr W118).1) (Nat.le_of_eq (Mon.size M1).symm)), (((E1.mon M0).wr W118).mon M1), (((F1.mon M0).other W118 (Or.inr (slot_ne (Or.inr (hw _ (List.mem_of_getElem? (i := 32) rfl))) (Or.inl (hw _ (List.mem_of_getElem? (i := 46) rfl))) (by decide) (t := .long) (t' := .long) (by decide) (by decide)))).mon M1), (((F2.mon M0).other W118 (Or.inr (slot_ne (Or.inr (hw _ (List.mem_of_getElem? (i := 34) rfl))) (Or.inl (hw _ (List.mem_of_getElem? (i := 46) rfl))) (by decide) (t := (.object "com/example/ackd/ackd/budget/BodyBudget")) (t' := .long) (by decide) (by decide)))).mon M1)⟩
  · have pp127 : ∀ t, Steps p.tables e below (T110.setTop (mkL a1 m 27 #[.val (.ref a1), .val (.long q2), .second, .val (.long byd), .second, .unset] [(.ref a1)])) t → Steps p.tables e below (s₁.setTop (entryFrameSync m #[(.ref a1), (.long q2)] 6 a1)) t := fun t k => pp113 t (by
      refine XS.ifNo X110.here hx rfl (hb hby own_take_d23) rfl ((if0 _ _).trans (feq hc23).1) ?_
      show Steps p.tables e below (T110.setTop (mkL a1 m 26 #[.val (.ref a1), .val (.long q2), .second, .val (.long byd), .second, .unset] [])) _
      refine XS.aloadN X110.here hx rfl (hb hby own_take_d26) rfl rfl ?_
      show Steps p.tables e below (T110.setTop (mkL a1 m 27 #[.val (.ref a1), .val (.long q2), .second, .val (.long byd), .second, .unset] [(.ref a1)])) _
      exact k)
    obtain ⟨T128, X128, e128, st128⟩ := getF X110 hx hZ hown (host := "") (Or.inl (hw _ (List.mem_of_getElem? (i := 33) rfl))) Via.refl s110 (F2.mon M0) (g := (mkL a1 m 27 #[.val (.ref a1), .val (.long q2), .second, .val (.long byd), .second, .unset] [(.ref a1)])) rfl rfl (hb hby own_take_d27)
    have pp129 : ∀ t, Steps p.tables e below (T128.setTop (mkL a1 m 30 #[.val (.ref a1), .val (.long q2), .second, .val (.long byd), .second, .unset] [.null])) t → Steps p.tables e below (s₁.setTop (entryFrameSync m #[(.ref a1), (.long q2)] 6 a1)) t := fun t k => pp127 t (st128 t k)
    have pp130 : ∀ t, Steps p.tables e below (T128.setTop (mkL a1 m 113 #[.val (.ref a1), .val (.long q2), .second, .val (.long byd), .second, .val (.int (0 : Int32))] [(.int (0 : Int32))])) t → Steps p.tables e below (s₁.setTop (entryFrameSync m #[(.ref a1), (.long q2)] 6 a1)) t := fun t k => pp129 t (by
      refine XS.ifnullYes X128.here hx rfl (pc0 := 30) (pc' := 48) rfl (hb hby own_take_d30) rfl (by decide) (by decide) ?_
      show Steps p.tables e below (T128.setTop (mkL a1 m 48 #[.val (.ref a1), .val (.long q2), .second, .val (.long byd), .second, .unset] [])) _
      refine XS.iconst X128.here hx rfl (hb hby own_take_d48) ?_
      show Steps p.tables e below (T128.setTop (mkL a1 m 49 #[.val (.ref a1), .val (.long q2), .second, .val (.long byd), .second, .unset] [(.int (0 : Int32))])) _
      refine XS.istore X128.here hx rfl (hb hby own_take_d49) rfl (l' := #[.val (.ref a1), .val (.long q2), .second, .val (.long byd), .second, .val (.int (0 : Int32))]) rfl ?_
      show Steps p.tables e below (T128.setTop (mkL a1 m 51 #[.val (.ref a1), .val (.long q2), .second, .val (.long byd), .second, .val (.int (0 : Int32))] [])) _
      refine XS.iload X128.here hx rfl (hb hby own_take_d51) rfl ?_
      show Steps p.tables e below (T128.setTop (mkL a1 m 53 #[.val (.ref a1), .val (.long q2), .second, .val (.long byd), .second, .val (.int (0 : Int32))] [(.int (0 : Int32))])) _
      refine XS.ifYes X128.here hx rfl (pc0 := 53) (pc' := 111) rfl (hb hby own_take_d53) rfl ((if0 _ _).trans (teq (by decide : (0 : Int32) = (0 : Int32))).1) (by decide) (by decide) ?_
      show Steps p.tables e below (T128.setTop (mkL a1 m 111 #[.val (.ref a1), .val (.long q2), .second, .val (.long byd), .second, .val (.int (0 : Int32))] [])) _
      refine XS.iload X128.here hx rfl (hb hby own_take_d111) rfl ?_
      show Steps p.tables e below (T128.setTop (mkL a1 m 113 #[.val (.ref a1), .val (.long q2), .second, .val (.long byd), .second, .val (.int (0 : Int32))] [(.int (0 : Int32))])) _
      exact k)
    obtain ⟨V, hr, hrun, hended, M1, hW, hsame⟩ := leaveS X128 Bd.object Bd.enterable Bd.synchronized (v := some (.int (0 : Int32))) (fun h => by rw [Bd.returns] at h; cases h)
    rw [e128] at M1
    refine ⟨V, _, pp130 _ ?_, hrun, hended, _, _, rfl, ?_, ⟨_, rfl⟩, hW, hsame.mono (by decide) (by decide)⟩
    · exact retS X128 hx Bd.returns rfl (Or.inl ⟨rfl, Or.inr (Or.inl rfl), _, rfl⟩) (hb hby own_take_d113) hr
    · exact ⟨(0 : Int32), rfl, N110, (Nat.le_trans (Nat.le_trans Z0 (Nat.le_of_eq (Mon.size M0).symm)) (Nat.le_of_eq (Mon.size M1).symm)), ((E1.mon M0).mon M1), ((F1.mon M0).mon M1), ((F2.mon M0).mon M1)⟩
theorem pd__J_V : parseMethodDescriptor "(J)V" = some ⟨[.long], none⟩ := by decide +kernel
theorem pd___J : parseMethodDescriptor "()J" = some ⟨[], some .long⟩ := by decide +kernel
theorem pd__J_Z : parseMethodDescriptor "(J)Z" = some ⟨[.long], some .boolean⟩ := by decide +kernel
theorem own_law_pn : plainName "com/example/ackd/ackd/budget/BodyBudgetRoomPinLaw" = true := by first | (simp [plainName, overriddenIn]; done) | decide +kernel
theorem own_law_ef (m : MethodId) (x0 : Int64) (x1 : Int64) : entryFrame m #[(.long x0), (.long x1)] maxLocals = mkF m 0 #[.val (.long x0), .second, .val (.long x1), .second, .unset, .unset, .unset, .unset, .unset] [] := by first | (simp [entryFrame, mkF, argsToLocals, Value.category, maxLocals]; done) | rfl
def Q_own_law (Z : State) (q1 : Int64) (q2 : Int64) (h0 : Heap) (n0 : Nat) (v : Option Value) (h : Heap) (L : List Loc) : Prop := v = some (.int 1) ∧ Fr n0 L
set_option maxRecDepth 65536 in
set_option maxHeartbeats 40000000 in
theorem own_law (l : Launch) (Z : State) (a0 : Array Value) (hw : ∀ d ∈ tables_1, d.before a0 Z = true) (ws : List Jvm.Cond) (q1 : Int64) (q2 : Int64) (h0 : Heap) (n0 : Nat) (Z0 : n0 ≤ h0.size) :
    MetFree l x (head1 (Jvm.Cond.code x code maxLocals ret :: ws) room_1) (fun a U => a = #[(.long q1), (.long q2)] ∧ Z.Warmed39 U.vm ∧ U.heap = h0) (fun _ _ _ _ _ => True) (fun _ U o U' => ∃ v L, o = .returned v ∧ Q_own_law Z q1 q2 h0 n0 v U'.heap L ∧ FrameEnd U o U' L room_1.cells room_1.slots) := by
  refine MetFree.of_bodySF (plainFor_of_name own_law_pn) hisR ?_
  intro p e s m args below meth c s₁ Bd hml0 hP hK
  obtain ⟨rfl, hZ, hh⟩ := hP
  have hx := Bd.exec
  have hby := Bd.bytes
  have hml : c.maxLocals = 9 := hml0
  have hown : s.vm.findClass "com/example/ackd/ackd/budget/BodyBudgetRoomPinLaw" = some m.cls := findClass_of_methodNamed Bd.named
  have hnm := (name_of_methodNamed Bd.named Bd.method).1
  have X0 : Stand p l e room_1 s m #[(.long q1), (.long q2)] below meth c s₁ [] 0 0 := Stand.of_body Bd
  have e0 : s₁.heap = h0 := by rw [← hh, Bd.state]; rfl
  have N0 := Fr.nil n0
  have pp0 : ∀ t, Steps p.tables e below (s₁.setTop (mkF m 0 #[.val (.long q1), .second, .val (.long q2), .second, .unset, .unset, .unset, .unset, .unset] [])) t → Steps p.tables e below (s₁.setTop (entryFrame m #[(.long q1), (.long q2)] maxLocals)) t := fun t k => castTop (own_law_ef m q1 q2) k
  obtain ⟨T101, h101, X101, e101, E101, A101, D101, M101, st101⟩ := newO X0 hx hZ hown (hw _ (List.mem_of_getElem? (i := 0) rfl)) (hw _ (List.mem_of_getElem? (i := 1) rfl)) (hw _ (List.mem_of_getElem? (i := 2) rfl)) e0 (g := (mkF m 0 #[.val (.long q1), .second, .val (.long q2), .second, .unset, .unset, .unset, .unset, .unset] [])) rfl (hb hby at_0) (by decide) (by decide)
  obtain ⟨b101, g101⟩ : ∃ z, z = h0.size := ⟨_, rfl⟩
  rw [← g101] at A101 D101 M101 st101
  have g_b101 : n0 ≤ b101 := Nat.le_trans Z0 (Nat.le_of_eq g101.symm)
  have sz_b101 : h0.size ≤ b101 := Nat.le_trans (Keep.refl h0 []).1 (Nat.le_of_eq g101.symm)
  have F_kept_b101 : Fld Z h101 b101 "com/example/ackd/ackd/budget/BodyBudget" "kept" "Ljava/util/Deque;" .null := D101 (Or.inr (hw _ (List.mem_of_getElem? (i := 30) rfl))) (ty := (.object "java/util/Deque")) (by decide)
  have F_own_b101 : Fld Z h101 b101 "com/example/ackd/ackd/budget/BodyBudget" "own" "J" (.long (0 : Int64)) := D101 (Or.inr (hw _ (List.mem_of_getElem? (i := 32) rfl))) (ty := .long) (by decide)
  have F_shared_b101 : Fld Z h101 b101 "com/example/ackd/ackd/budget/BodyBudget" "shared" "Lcom/example/ackd/ackd/budget/BodyBudget;" .null := D101 (Or.inr (hw _ (List.mem_of_getElem? (i := 34) rfl))) (ty := (.object "com/example/ackd/ackd/budget/BodyBudget")) (by decide)
  have F_taken_b101 : Fld Z h101 b101 "com/example/ackd/ackd/budget/BodyBudget" "taken" "J" (.long (0 : Int64)) := D101 (Or.inl (hw _ (List.mem_of_getElem? (i := 46) rfl))) (ty := .long) (by decide)
  have pp102 : ∀ t, Steps p.tables e below (T101.setTop (mkF m 3 #[.val (.long q1), .second, .val (.long q2), .second, .unset, .unset, .unset, .unset, .unset] [(.ref b101)])) t → Steps p.tables e below (s₁.setTop (entryFrame m #[(.long q1), (.long q2)] maxLocals)) t := fun t k => pp0 t (st101 t k)
  have pp103 : ∀ t, Steps p.tables e below (T101.setTop (mkF m 5 #[.val (.long q1), .second, .val (.long q2), .second, .unset, .unset, .unset, .unset, .unset] [(.long q1), (.ref b101), (.ref b101)])) t → Steps p.tables e below (s₁.setTop (entryFrame m #[(.long q1), (.long q2)] maxLocals)) t := fun t k => pp102 t (by
    refine XS.dup X101.here hx rfl (hb hby at_3) rfl rfl ?_
    show Steps p.tables e below (T101.setTop (mkF m 4 #[.val (.long q1), .second, .val (.long q2), .second, .unset, .unset, .unset, .unset, .unset] [(.ref b101), (.ref b101)])) _
    refine XS.lloadN X101.here hx rfl (hb hby at_4) rfl ?_
    show Steps p.tables e below (T101.setTop (mkF m 5 #[.val (.long q1), .second, .val (.long q2), .second, .unset, .unset, .unset, .unset, .unset] [(.long q1), (.ref b101), (.ref b101)])) _
    exact k)
  obtain ⟨_, _, ⟨T104, L104, k104, n104⟩, -, X104, ⟨Lc104, hQ104, l104, y104, z104⟩, st104⟩ := X101.specialBack hx (y := (⟨"com/example/ackd/ackd/budget/BodyBudget", "<init>", "(J)V"⟩ : MethodName)) rfl hown (mvT hZ (hw _ (List.mem_of_getElem? (i := 3) rfl))) (mvT hZ (hw _ (List.mem_of_getElem? (i := 4) rfl))) (mvT hZ (hw _ (List.mem_of_getElem? (i := 5) rfl))) (by decide) (backOf (W := 1) (own_init1 l Z a0 hw [] b101 q1 (.long (0 : Int64)) .null .null h101 n0 (Nat.le_trans Z0 E101.1) A101 F_own_b101 F_shared_b101 F_taken_b101 F_kept_b101 M101 g_b101) hZ (hw _ (List.mem_of_getElem? (i := 5) rfl)) (hw _ (List.mem_of_getElem? (i := 2) rfl)) (by decide) (by decide)) (g := (mkF m 5 #[.val (.long q1), .second, .val (.long q2), .second, .unset, .unset, .unset, .unset, .unset] [(.long q1), (.ref b101), (.ref b101)])) rfl (by rw [hml]; rfl) (Steps.refl _) (a := b101) (argsL := [(.long q1)]) (rest := [(.ref b101)]) (lenOf pd__J_V rfl) rfl (by show 2 * 0 + _ ≤ _; exact Nat.le_of_eq rfl) (hb hby at_5) (fun _ _ => ⟨rfl, e101, (by decide : 1 + 2 ≤ _), (by decide : 4 + 20 ≤ _)⟩)
  dsimp only [Pt.U, Pt.locs, Pt.cells, Pt.slots] at X104 l104 y104 z104 st104 hQ104
  subst l104 y104 z104
  obtain ⟨rfl, N104q, K104, EE104, Fo104, Fs104, Ft104, U104, dq104, Fk104, Ed104, Fh104, Fl104⟩ := hQ104
  have N104 := Fr.app N0 N104q
  have pp105 : ∀ t, Steps p.tables e below (T104.setTop (mkF m 8 #[.val (.long q1), .second, .val (.long q2), .second, .unset, .unset, .unset, .unset, .unset] [(.ref b101)])) t → Steps p.tables e below (s₁.setTop (entryFrame m #[(.long q1), (.long q2)] maxLocals)) t := fun t k => pp103 t (st104.trans k)
  have pp106 : ∀ t, Steps p.tables e below (T104.setTop (mkF m 12 #[.val (.long q1), .second, .val (.long q2), .second, .val (.ref b101), .unset, .unset, .unset, .unset] [(.ref b101)])) t → Steps p.tables e below (s₁.setTop (entryFrame m #[(.long q1), (.long q2)] maxLocals)) t := fun t k => pp105 t (by
    refine XS.astore X104.here hx rfl (hb hby at_8) rfl rfl (l' := #[.val (.long q1), .second, .val (.long q2), .second, .val (.ref b101), .unset, .unset, .unset, .unset]) rfl ?_
    show Steps p.tables e below (T104.setTop (mkF m 10 #[.val (.long q1), .second, .val (.long q2), .second, .val (.ref b101), .unset, .unset, .unset, .unset] [])) _
    refine XS.aload X104.here hx rfl (hb hby at_10) rfl rfl ?_
    show Steps p.tables e below (T104.setTop (mkF m 12 #[.val (.long q1), .second, .val (.long q2), .second, .val (.ref b101), .unset, .unset, .unset, .unset] [(.ref b101)])) _
    exact k)
  obtain ⟨cq107, kq107, q107a, q107b, q107c⟩ := isOf hZ rfl (A101.keep K104)
  obtain ⟨_, _, ⟨T107, L107, k107, n107⟩, -, X107, ⟨Lc107, hQ107, l107, y107, z107⟩, st107⟩ := X104.virtualBack hx (y := (⟨"com/example/ackd/ackd/budget/BodyBudget", "room", "()J"⟩ : MethodName)) (z := (⟨"com/example/ackd/ackd/budget/BodyBudget", "room", "()J"⟩ : MethodName)) hown (mvT hZ (hw _ (List.mem_of_getElem? (i := 35) rfl))) (mvT hZ (hw _ (List.mem_of_getElem? (i := 36) rfl))) (notFace_of_selects (args := #[]) (mvT hZ (hw _ (List.mem_of_getElem? (i := 38) rfl)))) (mvT hZ (hw _ (List.mem_of_getElem? (i := 38) rfl))) (mvT hZ (hw _ (List.mem_of_getElem? (i := 37) rfl))) (by decide) (backOf (W := 0) (own_room l Z a0 hw [] b101 q1 T104.heap n0 (Nat.le_trans (Nat.le_trans Z0 E101.1) K104.1) Fo104 Fs104) hZ (hw _ (List.mem_of_getElem? (i := 39) rfl)) (hw _ (List.mem_of_getElem? (i := 2) rfl)) (by decide) (by decide)) q107a q107c (g := (mkF m 12 #[.val (.long q1), .second, .val (.long q2), .second, .val (.ref b101), .unset, .unset, .unset, .unset] [(.ref b101)])) rfl (by rw [hml]; rfl) (Steps.refl _) (argsL := []) (rest := []) (lenOf pd___J rfl) rfl (by show 2 * 0 + _ ≤ _; exact Nat.le_of_eq rfl) (hb hby at_12) (fun _ _ => ⟨rfl, rfl, (by decide : 3 + 0 ≤ _), (by decide : 24 + 0 ≤ _)⟩)
  dsimp only [Pt.U, Pt.locs, Pt.cells, Pt.slots] at X107 l107 y107 z107 st107 hQ107
  subst l107 y107 z107
  obtain ⟨rfl, N107q, s107⟩ := hQ107
  have N107 := Fr.app N104 N107q
  have pp108 : ∀ t, Steps p.tables e below (T107.setTop (mkF m 15 #[.val (.long q1), .second, .val (.long q2), .second, .val (.ref b101), .unset, .unset, .unset, .unset] [(.long (q1 + (0 : Int64)))])) t → Steps p.tables e below (s₁.setTop (entryFrame m #[(.long q1), (.long q2)] maxLocals)) t := fun t k => pp106 t (st107.trans k)
  have pp109 : ∀ t, Steps p.tables e below (T107.setTop (mkF m 20 #[.val (.long q1), .second, .val (.long q2), .second, .val (.ref b101), .val (.long (q1 + (0 : Int64))), .second, .unset, .unset] [(.long q2), (.ref b101)])) t → Steps p.tables e below (s₁.setTop (entryFrame m #[(.long q1), (.long q2)] maxLocals)) t := fun t k => pp108 t (by
    refine XS.lstore X107.here hx rfl (hb hby at_15) rfl (l' := #[.val (.long q1), .second, .val (.long q2), .second, .val (.ref b101), .val (.long (q1 + (0 : Int64))), .second, .unset, .unset]) rfl ?_
    show Steps p.tables e below (T107.setTop (mkF m 17 #[.val (.long q1), .second, .val (.long q2), .second, .val (.ref b101), .val (.long (q1 + (0 : Int64))), .second, .unset, .unset] [])) _
    refine XS.aload X107.here hx rfl (hb hby at_17) rfl rfl ?_
    show Steps p.tables e below (T107.setTop (mkF m 19 #[.val (.long q1), .second, .val (.long q2), .second, .val (.ref b101), .val (.long (q1 + (0 : Int64))), .second, .unset, .unset] [(.ref b101)])) _
    refine XS.lloadN X107.here hx rfl (hb hby at_19) rfl ?_
    show Steps p.tables e below (T107.setTop (mkF m 20 #[.val (.long q1), .second, .val (.long q2), .second, .val (.ref b101), .val (.long (q1 + (0 : Int64))), .second, .unset, .unset] [(.long q2), (.ref b101)])) _
    exact k)
  obtain ⟨cq110, kq110, q110a, q110b, q110c⟩ := isOf hZ s107 (A101.keep K104)
  obtain ⟨_, _, ⟨T110, L110, k110, n110⟩, -, X110, ⟨Lc110, hQ110, l110, y110, z110⟩, st110⟩ := X107.virtualBack hx (y := (⟨"com/example/ackd/ackd/budget/BodyBudget", "take", "(J)Z"⟩ : MethodName)) (z := (⟨"com/example/ackd/ackd/budget/BodyBudget", "take", "(J)Z"⟩ : MethodName)) hown (mvT hZ (hw _ (List.mem_of_getElem? (i := 40) rfl))) (mvT hZ (hw _ (List.mem_of_getElem? (i := 41) rfl))) (notFace_of_selects (args := #[]) (mvT hZ (hw _ (List.mem_of_getElem? (i := 43) rfl)))) (mvT hZ (hw _ (List.mem_of_getElem? (i := 43) rfl))) (mvT hZ (hw _ (List.mem_of_getElem? (i := 42) rfl))) (by decide) (own_backS (W := 0) (own_take l Z a0 hw b101 q2 q1 dq104 T104.heap n0 (Nat.le_trans (Nat.le_trans Z0 E101.1) K104.1) (A101.keep K104) Fo104 Fs104 Ft104 Fk104 Ed104 Fh104 Fl104 g_b101) hZ (hw _ (List.mem_of_getElem? (i := 44) rfl)) (hw _ (List.mem_of_getElem? (i := 42) rfl)) (hw _ (List.mem_of_getElem? (i := 2) rfl)) U104 (by decide) (by decide)) q110a q110c (g := (mkF m 20 #[.val (.long q1), .second, .val (.long q2), .second, .val (.ref b101), .val (.long (q1 + (0 : Int64))), .second, .unset, .unset] [(.long q2), (.ref b101)])) rfl (by rw [hml]; rfl) (Steps.refl _) (argsL := [(.long q2)]) (rest := []) (lenOf pd__J_Z rfl) rfl (by show 2 * 0 + _ ≤ _; exact Nat.le_of_eq rfl) (hb hby at_20) (fun _ _ => ⟨rfl, s107, (by decide : 3 + 0 ≤ _), (by decide : 24 + 0 ≤ _)⟩)
  dsimp only [Pt.U, Pt.locs, Pt.cells, Pt.slots] at X110 l110 y110 z110 st110 hQ110
  subst l110 y110 z110
  obtain ⟨zz110, rfl, N110q, Zs110, EE110, Fo110, Fs110⟩ := hQ110
  have N110 := Fr.app N107 N110q
  have pp111 : ∀ t, Steps p.tables e below (T110.setTop (mkF m 23 #[.val (.long q1), .second, .val (.long q2), .second, .val (.ref b101), .val (.long (q1 + (0 : Int64))), .second, .unset, .unset] [(.int zz110)])) t → Steps p.tables e below (s₁.setTop (entryFrame m #[(.long q1), (.long q2)] maxLocals)) t := fun t k => pp109 t (st110.trans k)
  have pp112 : ∀ t, Steps p.tables e below (T110.setTop (mkF m 26 #[.val (.long q1), .second, .val (.long q2), .second, .val (.ref b101), .val (.long (q1 + (0 : Int64))), .second, .unset, .unset] [(.ref b101)])) t → Steps p.tables e below (s₁.setTop (entryFrame m #[(.long q1), (.long q2)] maxLocals)) t := fun t k => pp111 t (by
    refine XS.pop X110.here hx rfl (hb hby at_23) rfl rfl ?_
    show Steps p.tables e below (T110.setTop (mkF m 24 #[.val (.long q1), .second, .val (.long q2), .second, .val (.ref b101), .val (.long (q1 + (0 : Int64))), .second, .unset, .unset] [])) _
    refine XS.aload X110.here hx rfl (hb hby at_24) rfl rfl ?_
    show Steps p.tables e below (T110.setTop (mkF m 26 #[.val (.long q1), .second, .val (.long q2), .second, .val (.ref b101), .val (.long (q1 + (0 : Int64))), .second, .unset, .unset] [(.ref b101)])) _
    exact k)
  obtain ⟨Lg113, X113, N113⟩ : ∃ Lg, Stand p l e room_1 s m #[(.long q1), (.long q2)] below meth c T110 Lg 3 24 ∧ Fr n0 Lg := ⟨_, X110, N110⟩
  obtain ⟨cq114, kq114, q114a, q114b, q114c⟩ := isOf hZ rfl EE110
  obtain ⟨_, _, ⟨T114, L114, k114, n114⟩, -, X114, ⟨Lc114, hQ114, l114, y114, z114⟩, st114⟩ := X113.virtualBack hx (y := (⟨"com/example/ackd/ackd/budget/BodyBudget", "room", "()J"⟩ : MethodName)) (z := (⟨"com/example/ackd/ackd/budget/BodyBudget", "room", "()J"⟩ : MethodName)) hown (mvT hZ (hw _ (List.mem_of_getElem? (i := 35) rfl))) (mvT hZ (hw _ (List.mem_of_getElem? (i := 36) rfl))) (notFace_of_selects (args := #[]) (mvT hZ (hw _ (List.mem_of_getElem? (i := 38) rfl)))) (mvT hZ (hw _ (List.mem_of_getElem? (i := 38) rfl))) (mvT hZ (hw _ (List.mem_of_getElem? (i := 37) rfl))) (by decide) (backOf (W := 0) (own_room l Z a0 hw [] b101 q1 T110.heap n0 Zs110 Fo110 Fs110) hZ (hw _ (List.mem_of_getElem? (i := 39) rfl)) (hw _ (List.mem_of_getElem? (i := 2) rfl)) (by decide) (by decide)) q114a q114c (g := (mkF m 26 #[.val (.long q1), .second, .val (.long q2), .second, .val (.ref b101), .val (.long (q1 + (0 : Int64))), .second, .unset, .unset] [(.ref b101)])) rfl (by rw [hml]; rfl) (Steps.refl _) (argsL := []) (rest := []) (lenOf pd___J rfl) rfl (by show 2 * 0 + _ ≤ _; exact Nat.le_of_eq rfl) (hb hby at_26) (fun _ _ => ⟨rfl, rfl, (by decide : 3 + 0 ≤ _), (by decide : 24 + 0 ≤ _)⟩)
  dsimp only [Pt.U, Pt.locs, Pt.cells, Pt.slots] at X114 l114 y114 z114 st114 hQ114
  subst l114 y114 z114
  obtain ⟨rfl, N114q, s114⟩ := hQ114
  have N114 := Fr.app N113 N114q
  have pp115 : ∀ t, Steps p.tables e below (T114.setTop (mkF m 29 #[.val (.long q1), .second, .val (.long q2), .second, .val (.ref b101), .val (.long (q1 + (0 : Int64))), .second, .unset, .unset] [(.long (q1 + (0 : Int64)))])) t → Steps p.tables e below (s₁.setTop (entryFrame m #[(.long q1), (.long q2)] maxLocals)) t := fun t k => pp112 t (st114.trans k)
  have pp116 : ∀ t, Steps p.tables e below (T114.setTop (mkF m 50 #[.val (.long q1), .second, .val (.long q2), .second, .val (.ref b101), .val (.long (q1 + (0 : Int64))), .second, .val (.long (q1 + (0 : Int64))), .second] [(.int (1 : Int32))])) t → Steps p.tables e below (s₁.setTop (entryFrame m #[(.long q1), (.long q2)] maxLocals)) t := fun t k => pp115 t (by
    refine XS.lstore X114.here hx rfl (hb hby at_29) rfl (l' := #[.val (.long q1), .second, .val (.long q2), .second, .val (.ref b101), .val (.long (q1 + (0 : Int64))), .second, .val (.long (q1 + (0 : Int64))), .second]) rfl ?_
    show Steps p.tables e below (T114.setTop (mkF m 31 #[.val (.long q1), .second, .val (.long q2), .second, .val (.ref b101), .val (.long (q1 + (0 : Int64))), .second, .val (.long (q1 + (0 : Int64))), .second] [])) _
    refine XS.lload X114.here hx rfl (hb hby at_31) rfl ?_
    show Steps p.tables e below (T114.setTop (mkF m 33 #[.val (.long q1), .second, .val (.long q2), .second, .val (.ref b101), .val (.long (q1 + (0 : Int64))), .second, .val (.long (q1 + (0 : Int64))), .second] [(.long (q1 + (0 : Int64)))])) _
    refine XS.lloadN X114.here hx rfl (hb hby at_33) rfl ?_
    show Steps p.tables e below (T114.setTop (mkF m 34 #[.val (.long q1), .second, .val (.long q2), .second, .val (.ref b101), .val (.long (q1 + (0 : Int64))), .second, .val (.long (q1 + (0 : Int64))), .second] [(.long q1), (.long (q1 + (0 : Int64)))])) _
    refine XS.lcmp X114.here hx rfl (hb hby at_34) rfl ?_
    show Steps p.tables e below (T114.setTop (mkF m 35 #[.val (.long q1), .second, .val (.long q2), .second, .val (.ref b101), .val (.long (q1 + (0 : Int64))), .second, .val (.long (q1 + (0 : Int64))), .second] [(.int (lcmpW (q1 + (0 : Int64)) q1))])) _
    refine XS.ifNo X114.here hx rfl (hb hby at_35) rfl ((if0 _ _).trans (teq ((lw_eq _ _).mpr (own_add0 q1))).2) ?_
    show Steps p.tables e below (T114.setTop (mkF m 38 #[.val (.long q1), .second, .val (.long q2), .second, .val (.ref b101), .val (.long (q1 + (0 : Int64))), .second, .val (.long (q1 + (0 : Int64))), .second] [])) _
    refine XS.lload X114.here hx rfl (hb hby at_38) rfl ?_
    show Steps p.tables e below (T114.setTop (mkF m 40 #[.val (.long q1), .second, .val (.long q2), .second, .val (.ref b101), .val (.long (q1 + (0 : Int64))), .second, .val (.long (q1 + (0 : Int64))), .second] [(.long (q1 + (0 : Int64)))])) _
    refine XS.lloadN X114.here hx rfl (hb hby at_40) rfl ?_
    show Steps p.tables e below (T114.setTop (mkF m 41 #[.val (.long q1), .second, .val (.long q2), .second, .val (.ref b101), .val (.long (q1 + (0 : Int64))), .second, .val (.long (q1 + (0 : Int64))), .second] [(.long q1), (.long (q1 + (0 : Int64)))])) _
    refine XS.lcmp X114.here hx rfl (hb hby at_41) rfl ?_
    show Steps p.tables e below (T114.setTop (mkF m 42 #[.val (.long q1), .second, .val (.long q2), .second, .val (.ref b101), .val (.long (q1 + (0 : Int64))), .second, .val (.long (q1 + (0 : Int64))), .second] [(.int (lcmpW (q1 + (0 : Int64)) q1))])) _
    refine XS.ifNo X114.here hx rfl (hb hby at_42) rfl ((if0 _ _).trans (teq ((lw_eq _ _).mpr (own_add0 q1))).2) ?_
    show Steps p.tables e below (T114.setTop (mkF m 45 #[.val (.long q1), .second, .val (.long q2), .second, .val (.ref b101), .val (.long (q1 + (0 : Int64))), .second, .val (.long (q1 + (0 : Int64))), .second] [])) _
    refine XS.iconst X114.here hx rfl (hb hby at_45) ?_
    show Steps p.tables e below (T114.setTop (mkF m 46 #[.val (.long q1), .second, .val (.long q2), .second, .val (.ref b101), .val (.long (q1 + (0 : Int64))), .second, .val (.long (q1 + (0 : Int64))), .second] [(.int (1 : Int32))])) _
    refine XS.goto X114.here hx rfl (pc0 := 46) (pc' := 50) rfl (hb hby at_46) (by decide) (by decide) ?_
    show Steps p.tables e below (T114.setTop (mkF m 50 #[.val (.long q1), .second, .val (.long q2), .second, .val (.ref b101), .val (.long (q1 + (0 : Int64))), .second, .val (.long (q1 + (0 : Int64))), .second] [(.int (1 : Int32))])) _
    exact k)
  obtain ⟨fs, hr, hrun, hended, hW, hsame⟩ := X114.leave (v := some (.int (1 : Int32))) (fun h => by rw [Bd.returns] at h; cases h)
  refine ⟨_, _, pp116 _ ?_, hrun, hended, _, _, rfl, ?_, ⟨_, rfl⟩, hW, hsame.mono (by decide) (by decide)⟩
  · exact retN X114 hx (t := .boolean) Bd.returns (by simp) (hb hby at_50) hr
  · show Q_own_law Z q1 q2 h0 n0 _ T114.heap _
    rw [s114]
    exact ⟨rfl, N114⟩
set_option maxRecDepth 65536 in
set_option maxHeartbeats 40000000 in
theorem comes_1 {Post : Tables → Env → Array Value → State → Outcome → State → Prop} (hpost : ∀ tb e args s v u, (limb_1_1.after args s (.returned v) u = true ∧ limb_1_2.after args s (.returned v) u = true ∧ True) → FrameEnd s (.returned v) u (Jvm.fieldLocs frame_1_writes args s ++ Jvm.arrayLocs frame_1_arrays args s ++ Jvm.staticLocs frame_1_statics s) 16 128 → Post tb e args s (.returned v) u) :
    ArmFor flags0 classFile x code maxLocals ret World_1 tables_1 room_1 Calls_1 rest_1 Pre_1 Post := by
  intro l hfl _ _ p e ha hc hk s m args below hf hA hF happ hP
  obtain ⟨hcalls, hrest, hpre⟩ := hP
  obtain ⟨-, -, -, hnamed, -, -, -, hat⟩ := (Spec.applies_iff hf).mp happ
  obtain ⟨hg, hn⟩ := and_e (Cond.before_iff.mp (show (Jvm.Cond.and given_1 narrow_1).before args s = true from hpre))
  obtain ⟨gg1, gg2⟩ := and_e hg
  obtain ⟨gg3, gg4⟩ := and_e gg2
  obtain ⟨w0, w1, rfl⟩ : ∃ w0 w1 : Value, args = #[w0, w1] := by
    have hs : args.size = 2 := by simpa [Cond.value, given_1] using gg1
    obtain ⟨L⟩ := args
    match L, hs with
    | [w0, w1], _ => exact ⟨w0, w1, rfl⟩
  have hw := fun d (hd : d ∈ tables_1) => atoms_spec (ws := Jvm.Cond.code x code maxLocals ret :: tables_1) hat d (List.mem_cons_of_mem _ hd)
  have hfit : Fit s := fun {y c} hc i hi => by
    obtain ⟨ha, rfl⟩ := Array.getElem?_eq_some_iff.mp hc
    have q := List.all_eq_true.mp ((Array.all_eq_true_iff_forall_mem.mp hF) _ (Array.getElem_mem ha)) i (List.mem_range.mpr hi)
    simpa [Array.getElem?_eq_getElem hi] using q
  obtain ⟨i0, ei0⟩ := isL_v gg3
  obtain rfl : w0 = (.long i0) := Option.some.inj ei0
  obtain ⟨i1, ei1⟩ := isL_v gg4
  obtain rfl : w1 = (.long i1) := Option.some.inj ei1
  obtain ⟨n, o, h1, h2, h3, _, L, rfl, ⟨rfl, N⟩, hq⟩ := own_law l s _ hw tables_1 i0 i1  s.heap s.heap.size (Nat.le_refl _)  p e ha hc hk s m _ below hf ((Spec.applies_iff_loose hf).mp happ).1 ⟨rfl, State.Warmed39.refl s, rfl⟩ trivial
  refine ⟨n, _, h1, h2, h3, hpost _ _ _ _ _ _ ⟨Cond.after_iff.mpr rfl, Cond.after_iff.mpr (eq_i res_at (Term.int_eval (1)) rfl), trivial⟩ ⟨hq.1, hq.2.1, (hq.2.2.sift fun y hy => Or.inr (N y hy)).mono (by decide) (by decide)⟩⟩
theorem main_1_1 : Claimed_1_1 := comes_1 fun _ _ _ _ _ _ h hF => ⟨h.1, hF⟩
theorem main_1_2 : Claimed_1_2 := comes_1 fun _ _ _ _ _ _ h hF => ⟨h.2.1, hF⟩
end Jvm.Pilot.@@N@@
namespace Jvm.Pilot.@@N@@
open Jvm Jvm.ClassFile Sem Op Lib Jvm.Free Jvm.Stand Jvm.Pilot.@@N@@.Jvm.D
/-! MADE BY PROGRAM (witnessworld.py) out of the Statement's table words and the real class files: 18 classes; the members and pool entries that the words name. The judged class is class 1, her method 1. -/
namespace start1
open Jvm.ClassFile
def u (s : String) : CpInfo := .utf8 (stringToUtf16 s)
/-- a pool by its gaps: so many unusable entries, then the entry; so many at the end -/
def gap : Nat → List CpInfo → List CpInfo
  | 0, r => r
  | n + 1, r => .unusable :: gap n r
def poolList (es : List (Nat × CpInfo)) (last : Nat) : List CpInfo := es.foldr (fun e r => gap e.1 (e.2 :: r)) (gap last [])
def pool (es : List (Nat × CpInfo)) (last : Nat) : Array CpInfo := ⟨poolList es last⟩
def fileOf (pool : Array CpInfo) (this : Nat) (attrs : Array Attribute := #[]) (ms : Array MethodInfo := #[]) (fl : Nat := 33) (sup : Nat := 0) (ifs : Array Nat := #[]) (fds : Array FieldInfo := #[]) : ClassFile where
  minorVersion := 0
  majorVersion := 65
  constantPool := pool
  accessFlags := fl
  thisClass := this
  superClass := sup
  interfaces := ifs
  fields := fds
  methods := ms
  attributes := attrs
def plain (name : String) (sup : Option ClassId) : Class where
  name := name
  kind := .ordinary
  loader := none
  accessFlags := 33
  super := sup
  interfaces := #[]
  cf := none
  fields := #[]
  methods := #[]
  instanceTypes := #[]
  staticTypes := #[]
  resolved := #[]
  callSites := []
  init := .initialized
  statics := none
  mirror := none

def pool0 : Array CpInfo := pool [(5, u "<init>"), (0, u "()V"), (1, .class_ 10), (1, u "java/lang/Object")] 113

def k0c0 : Code := { maxStack := 0, maxLocals := 1, code := object_method_1_code, exceptionTable := #[], attributes := #[] }
def k0m0 : Method := { name := "<init>", desc := "()V", sig := { parameters := [], returnType := none }, accessFlags := 1, code := some k0c0 }
/-- java/lang/Object -/
def k0 : Class := { plain "java/lang/Object" none with
  accessFlags := 33
  interfaces := #[]
  cf := some (fileOf pool0 8 #[] #[{ accessFlags := 1, nameIndex := 5, descriptorIndex := 6, attributes := #[] }] 33 0 #[] #[])
  fields := #[]
  methods := #[k0m0]
  instanceTypes := #[]
  staticTypes := #[]
  resolved := Array.replicate 124 none
  statics := none }

def pool1 : Array CpInfo := pool [(2, .class_ 4), (1, u "java/lang/Object"), (0, u "<init>"), (0, u "()V"), (0, .class_ 8), (0, u "com/example/ackd/ackd/budget/BodyBudget"), (0, .methodref 7 10), (0, .nameAndType 5 11), (0, u "(J)V"), (0, .methodref 7 13), (0, .nameAndType 14 15), (0, u "room"), (0, u "()J"), (0, .methodref 7 17), (0, .nameAndType 18 19), (0, u "take"), (0, u "(J)Z"), (0, .class_ 21), (0, u "com/example/ackd/ackd/budget/BodyBudgetRoomPinLaw"), (2, u "law"), (0, u "(JJ)Z")] 3

def k1m0 : Method := { name := "<init>", desc := "()V", sig := { parameters := [], returnType := none }, accessFlags := 1, code := none }
def k1c1 : Code := { maxStack := 4, maxLocals := 9, code := code, exceptionTable := #[], attributes := #[] }
def k1m1 : Method := { name := "law", desc := "(JJ)Z", sig := { parameters := [.long, .long], returnType := some .boolean }, accessFlags := 9, code := some k1c1 }
/-- com/example/ackd/ackd/budget/BodyBudgetRoomPinLaw -/
def k1 : Class := { plain "com/example/ackd/ackd/budget/BodyBudgetRoomPinLaw" (some 0) with
  accessFlags := 49
  interfaces := #[]
  cf := some (fileOf pool1 20 #[] #[{ accessFlags := 1, nameIndex := 5, descriptorIndex := 6, attributes := #[] }, { accessFlags := 9, nameIndex := 24, descriptorIndex := 25, attributes := #[] }] 49 2 #[] #[])
  fields := #[]
  methods := #[k1m0, k1m1]
  instanceTypes := #[]
  staticTypes := #[]
  resolved := Array.replicate 29 none
  statics := none }

def pool2 : Array CpInfo := pool [(1, .methodref 2 3), (0, .class_ 4), (0, .nameAndType 5 6), (0, u "com/example/ackd/ackd/budget/BodyBudget"), (0, u "<init>"), (0, u "(JLcom/example/ackd/ackd/budget/BodyBudget;)V"), (0, .methodref 8 9), (0, .class_ 10), (0, .nameAndType 5 11), (0, u "java/lang/Object"), (0, u "()V"), (0, .class_ 13), (0, u "java/util/ArrayDeque"), (0, .methodref 12 9), (0, .fieldref 2 16), (0, .nameAndType 17 18), (0, u "kept"), (0, u "Ljava/util/Deque;"), (0, .fieldref 2 20), (0, .nameAndType 21 22), (0, u "own"), (0, u "J"), (0, .fieldref 2 24), (0, .nameAndType 25 26), (0, u "shared"), (0, u "Lcom/example/ackd/ackd/budget/BodyBudget;"), (9, u "()J"), (4, u "(J)V"), (0, .methodref 2 43), (0, .nameAndType 44 36), (0, u "room"), (9, .class_ 56), (1, u "java/lang/Math"), (0, u "max"), (13, u "()Z"), (10, .fieldref 2 83), (0, .nameAndType 84 22), (0, u "taken"), (0, .methodref 2 86), (0, .nameAndType 87 88), (0, u "beyondOwn"), (0, u "(J)J"), (0, .methodref 2 90), (0, .nameAndType 91 92), (0, u "take"), (0, u "(J)Z"), (0, .interfaceMethodref 94 95), (0, .class_ 96), (0, .nameAndType 97 71), (0, u "java/util/Deque"), (0, u "isEmpty"), (42, u "(JJ)J"), (2, .methodref 54 144), (0, .nameAndType 57 140), (0, u "BLOCK"), (0, u "I")] 14

def k2c0 : Code := { maxStack := 4, maxLocals := 3, code := prog_6_method_1_code, exceptionTable := #[], attributes := #[] }
def k2m0 : Method := { name := "<init>", desc := "(J)V", sig := { parameters := [.long], returnType := none }, accessFlags := 1, code := some k2c0 }
def k2c1 : Code := { maxStack := 3, maxLocals := 4, code := prog_6_method_2_code, exceptionTable := #[], attributes := #[] }
def k2m1 : Method := { name := "<init>", desc := "(JLcom/example/ackd/ackd/budget/BodyBudget;)V", sig := { parameters := [.long, (.object "com/example/ackd/ackd/budget/BodyBudget")], returnType := none }, accessFlags := 2, code := some k2c1 }
def k2c2 : Code := { maxStack := 4, maxLocals := 1, code := prog_6_method_5_code, exceptionTable := #[], attributes := #[] }
def k2m2 : Method := { name := "room", desc := "()J", sig := { parameters := [], returnType := some .long }, accessFlags := 1, code := some k2c2 }
def k2c3 : Code := { maxStack := 5, maxLocals := 6, code := ⟨#[0x2a, 0x2a, 0xb4, 0x00, 0x52, 0x1f, 0x61, 0xb6, 0x00, 0x55, 0x2a, 0x2a, 0xb4, 0x00, 0x52, 0xb6, 0x00, 0x55, 0x65, 0x42, 0x21, 0x09, 0x94, 0x99, 0x00, 0x15, 0x2a, 0xb4, 0x00, 0x17, 0xc6, 0x00, 0x12, 0x2a, 0xb4, 0x00, 0x17, 0x21, 0xb6, 0x00, 0x59, 0x99, 0x00, 0x07, 0x04, 0xa7, 0x00, 0x04, 0x03, 0x36, 0x05, 0x15, 0x05, 0x99, 0x00, 0x3a, 0x2a, 0x59, 0xb4, 0x00, 0x52, 0x1f, 0x61, 0xb5, 0x00, 0x52, 0x2a, 0xb4, 0x00, 0x0f, 0xb9, 0x00, 0x5d, 0x01, 0x00, 0x9a, 0x00, 0x24, 0x2a, 0xb4, 0x00, 0x0f, 0xb9, 0x00, 0x62, 0x01, 0x00, 0xb8, 0x00, 0x63, 0x2a, 0xb6, 0x00, 0x67, 0x94, 0x9e, 0x00, 0x10, 0x2a, 0xb4, 0x00, 0x0f, 0xb9, 0x00, 0x6a, 0x01, 0x00, 0x57, 0xa7, 0xff, 0xd6, 0x15, 0x05, 0xac]⟩, exceptionTable := #[], attributes := #[] }
def k2m3 : Method := { name := "take", desc := "(J)Z", sig := { parameters := [.long], returnType := some .boolean }, accessFlags := 33, code := some k2c3 }
def k2c4 : Code := { maxStack := 6, maxLocals := 3, code := prog_6_method_12_code, exceptionTable := #[], attributes := #[] }
def k2m4 : Method := { name := "beyondOwn", desc := "(J)J", sig := { parameters := [.long], returnType := some .long }, accessFlags := 2, code := some k2c4 }
/-- com/example/ackd/ackd/budget/BodyBudget -/
def k2 : Class := { plain "com/example/ackd/ackd/budget/BodyBudget" (some 0) with
  accessFlags := 49
  interfaces := #[]
  cf := some (fileOf pool2 2 #[] #[{ accessFlags := 1, nameIndex := 5, descriptorIndex := 41, attributes := #[] }, { accessFlags := 2, nameIndex := 5, descriptorIndex := 6, attributes := #[] }, { accessFlags := 1, nameIndex := 44, descriptorIndex := 36, attributes := #[] }, { accessFlags := 33, nameIndex := 91, descriptorIndex := 92, attributes := #[] }, { accessFlags := 2, nameIndex := 87, descriptorIndex := 88, attributes := #[] }] 49 8 #[] #[{ accessFlags := 25, nameIndex := 145, descriptorIndex := 146, attributes := #[] }, { accessFlags := 18, nameIndex := 21, descriptorIndex := 22, attributes := #[] }, { accessFlags := 18, nameIndex := 25, descriptorIndex := 26, attributes := #[] }, { accessFlags := 2, nameIndex := 84, descriptorIndex := 22, attributes := #[] }, { accessFlags := 18, nameIndex := 17, descriptorIndex := 18, attributes := #[] }])
  fields := #[{ name := "BLOCK", type := .int, accessFlags := 25, slot := 0, constantValue := 0 }, { name := "own", type := .long, accessFlags := 18, slot := 0, constantValue := 0 }, { name := "shared", type := (.object "com/example/ackd/ackd/budget/BodyBudget"), accessFlags := 18, slot := 1, constantValue := 0 }, { name := "taken", type := .long, accessFlags := 2, slot := 2, constantValue := 0 }, { name := "kept", type := (.object "java/util/Deque"), accessFlags := 18, slot := 3, constantValue := 0 }]
  methods := #[k2m0, k2m1, k2m2, k2m3, k2m4]
  instanceTypes := #[.long, (.object "com/example/ackd/ackd/budget/BodyBudget"), .long, (.object "java/util/Deque")]
  staticTypes := #[.int]
  resolved := Array.replicate 161 none
  statics := none }

def pool3 : Array CpInfo := pool [(8, .class_ 10), (1, u "java/lang/Iterable"), (24, .class_ 36), (0, u "java/lang/Object")] 25

/-- java/lang/Iterable -/
def k3 : Class := { plain "java/lang/Iterable" (some 0) with
  accessFlags := 1537
  interfaces := #[]
  cf := some (fileOf pool3 8 #[] #[] 1537 35 #[] #[])
  fields := #[]
  methods := #[]
  instanceTypes := #[]
  staticTypes := #[]
  resolved := Array.replicate 62 none
  statics := none }

def pool4 : Array CpInfo := pool [(10, .class_ 12), (1, u "java/util/Collection"), (17, u "()Z"), (29, .class_ 61), (0, u "java/lang/Object"), (0, .class_ 63), (0, u "java/lang/Iterable"), (2, u "isEmpty")] 48

def k4m0 : Method := { name := "isEmpty", desc := "()Z", sig := { parameters := [], returnType := some .boolean }, accessFlags := 1025, code := none }
/-- java/util/Collection -/
def k4 : Class := { plain "java/util/Collection" (some 0) with
  accessFlags := 1537
  interfaces := #[3]
  cf := some (fileOf pool4 10 #[] #[{ accessFlags := 1025, nameIndex := 66, descriptorIndex := 30, attributes := #[] }] 1537 60 #[62] #[])
  fields := #[]
  methods := #[k4m0]
  instanceTypes := #[]
  staticTypes := #[]
  resolved := Array.replicate 115 none
  statics := none }

def pool5 : Array CpInfo := pool [(1, .methodref 2 3), (0, .class_ 4), (0, .nameAndType 5 6), (0, u "java/lang/Object"), (0, u "<init>"), (0, u "()V"), (1, .class_ 10), (1, u "java/util/AbstractCollection"), (66, .class_ 78), (0, u "java/util/Collection")] 81

def k5c0 : Code := { maxStack := 1, maxLocals := 1, code := jdk_22_method_1_code, exceptionTable := #[], attributes := #[] }
def k5m0 : Method := { name := "<init>", desc := "()V", sig := { parameters := [], returnType := none }, accessFlags := 4, code := some k5c0 }
/-- java/util/AbstractCollection -/
def k5 : Class := { plain "java/util/AbstractCollection" (some 0) with
  accessFlags := 1057
  interfaces := #[4]
  cf := some (fileOf pool5 8 #[] #[{ accessFlags := 4, nameIndex := 5, descriptorIndex := 6, attributes := #[] }] 1057 2 #[77] #[])
  fields := #[]
  methods := #[k5m0]
  instanceTypes := #[]
  staticTypes := #[]
  resolved := Array.replicate 160 none
  statics := none }

def pool6 : Array CpInfo := pool [(1, .class_ 2), (0, u "java/util/Queue"), (0, .class_ 4), (0, u "java/lang/Object"), (0, .class_ 6), (0, u "java/util/Collection")] 14

/-- java/util/Queue -/
def k6 : Class := { plain "java/util/Queue" (some 0) with
  accessFlags := 1537
  interfaces := #[4]
  cf := some (fileOf pool6 1 #[] #[] 1537 3 #[5] #[])
  fields := #[]
  methods := #[]
  instanceTypes := #[]
  staticTypes := #[]
  resolved := Array.replicate 21 none
  statics := none }

def pool7 : Array CpInfo := pool [(8, .class_ 10), (1, u "java/util/SequencedCollection"), (15, .class_ 27), (0, u "java/lang/Object"), (0, .class_ 29), (0, u "java/util/Collection")] 27

/-- java/util/SequencedCollection -/
def k7 : Class := { plain "java/util/SequencedCollection" (some 0) with
  accessFlags := 1537
  interfaces := #[4]
  cf := some (fileOf pool7 8 #[] #[] 1537 26 #[28] #[])
  fields := #[]
  methods := #[]
  instanceTypes := #[]
  staticTypes := #[]
  resolved := Array.replicate 57 none
  statics := none }

def pool8 : Array CpInfo := pool [(8, .class_ 10), (1, u "java/util/Deque"), (2, .class_ 14), (0, u "java/lang/Object"), (0, .class_ 16), (0, u "java/util/Queue"), (0, .class_ 18), (0, u "java/util/SequencedCollection")] 51

/-- java/util/Deque -/
def k8 : Class := { plain "java/util/Deque" (some 0) with
  accessFlags := 1537
  interfaces := #[6, 7]
  cf := some (fileOf pool8 8 #[] #[] 1537 13 #[15, 17] #[])
  fields := #[]
  methods := #[]
  instanceTypes := #[]
  staticTypes := #[]
  resolved := Array.replicate 70 none
  statics := none }

def pool9 : Array CpInfo := pool [(1, .class_ 2), (0, u "java/lang/Cloneable"), (0, .class_ 4), (0, u "java/lang/Object")] 2

/-- java/lang/Cloneable -/
def k9 : Class := { plain "java/lang/Cloneable" (some 0) with
  accessFlags := 1537
  interfaces := #[]
  cf := some (fileOf pool9 1 #[] #[] 1537 3 #[] #[])
  fields := #[]
  methods := #[]
  instanceTypes := #[]
  staticTypes := #[]
  resolved := Array.replicate 7 none
  statics := none }

def pool10 : Array CpInfo := pool [(1, .class_ 2), (0, u "java/io/Serializable"), (0, .class_ 4), (0, u "java/lang/Object")] 2

/-- java/io/Serializable -/
def k10 : Class := { plain "java/io/Serializable" (some 0) with
  accessFlags := 1537
  interfaces := #[]
  cf := some (fileOf pool10 1 #[] #[] 1537 3 #[] #[])
  fields := #[]
  methods := #[]
  instanceTypes := #[]
  staticTypes := #[]
  resolved := Array.replicate 7 none
  statics := none }

def pool11 : Array CpInfo := pool [(3, .fieldref 4 5), (0, .class_ 6), (0, .nameAndType 7 8), (0, u "java/util/ArrayDeque"), (0, u "elements"), (0, u "[Ljava/lang/Object;"), (11, .fieldref 4 21), (0, .nameAndType 22 23), (0, u "tail"), (0, u "I"), (0, .fieldref 4 25), (0, .nameAndType 26 23), (0, u "head"), (12, u "<init>"), (2, .methodref 43 44), (0, .class_ 45), (0, .nameAndType 39 46), (0, u "java/util/AbstractCollection"), (0, u "()V"), (0, .class_ 48), (0, u "java/lang/Object"), (82, .class_ 132), (0, u "java/util/ArrayDeque$DeqIterator"), (3, .class_ 137), (0, u "java/util/ArrayDeque$DescendingIterator"), (1, .class_ 140), (0, u "java/util/ArrayDeque$DeqSpliterator"), (137, .class_ 279), (0, u "java/util/Deque"), (0, .class_ 281), (0, u "java/lang/Cloneable"), (0, .class_ 283), (0, u "java/io/Serializable"), (0, u "MAX_ARRAY_SIZE"), (1, u "serialVersionUID"), (0, u "J"), (59, u "isEmpty"), (0, u "()Z")] 89

def k11c0 : Code := { maxStack := 2, maxLocals := 1, code := jdk_21_method_3_code, exceptionTable := #[], attributes := #[] }
def k11m0 : Method := { name := "<init>", desc := "()V", sig := { parameters := [], returnType := none }, accessFlags := 1, code := some k11c0 }
def k11c1 : Code := { maxStack := 2, maxLocals := 1, code := jdk_21_method_38_code, exceptionTable := #[], attributes := #[] }
def k11m1 : Method := { name := "isEmpty", desc := "()Z", sig := { parameters := [], returnType := some .boolean }, accessFlags := 1, code := some k11c1 }
/-- java/util/ArrayDeque -/
def k11 : Class := { plain "java/util/ArrayDeque" (some 5) with
  accessFlags := 33
  interfaces := #[8, 9, 10]
  cf := some (fileOf pool11 4 #[.nestMembers #[139, 136, 131]] #[{ accessFlags := 1, nameIndex := 39, descriptorIndex := 46, attributes := #[] }, { accessFlags := 1, nameIndex := 347, descriptorIndex := 348, attributes := #[] }] 33 43 #[278, 280, 282] #[{ accessFlags := 128, nameIndex := 7, descriptorIndex := 8, attributes := #[] }, { accessFlags := 128, nameIndex := 26, descriptorIndex := 23, attributes := #[] }, { accessFlags := 128, nameIndex := 22, descriptorIndex := 23, attributes := #[] }, { accessFlags := 26, nameIndex := 284, descriptorIndex := 23, attributes := #[] }, { accessFlags := 26, nameIndex := 286, descriptorIndex := 287, attributes := #[] }])
  fields := #[{ name := "elements", type := (.array (.object "java/lang/Object")), accessFlags := 128, slot := 0, constantValue := 0 }, { name := "head", type := .int, accessFlags := 128, slot := 1, constantValue := 0 }, { name := "tail", type := .int, accessFlags := 128, slot := 2, constantValue := 0 }, { name := "MAX_ARRAY_SIZE", type := .int, accessFlags := 26, slot := 0, constantValue := 0 }, { name := "serialVersionUID", type := .long, accessFlags := 26, slot := 1, constantValue := 0 }]
  methods := #[k11m0, k11m1]
  instanceTypes := #[(.array (.object "java/lang/Object")), .int, .int]
  staticTypes := #[.int, .long]
  resolved := Array.replicate 438 none
  statics := none }

def pool12 : Array CpInfo := pool [(1, .class_ 2), (0, u "java/lang/Math"), (1, .class_ 6), (1, u "java/lang/Object"), (0, u "<init>"), (0, u "()V"), (89, .class_ 100), (1, u "java/lang/Math$RandomNumberGeneratorHolder"), (20, u "(JJ)J"), (50, u "negativeZeroFloatBits"), (0, u "J"), (2, u "negativeZeroDoubleBits"), (21, u "max"), (46, u "$assertionsDisabled"), (0, u "Z"), (91, u "twoToTheDoubleScaleDown"), (0, u "D"), (4, u "twoToTheDoubleScaleUp"), (9, u "E"), (3, u "PI"), (2, u "TAU"), (2, u "DEGREES_TO_RADIANS"), (0, u "RADIANS_TO_DEGREES")] 94

def k12m0 : Method := { name := "<init>", desc := "()V", sig := { parameters := [], returnType := none }, accessFlags := 2, code := none }
def k12c1 : Code := { maxStack := 4, maxLocals := 4, code := jdk_29_method_66_code, exceptionTable := #[], attributes := #[] }
def k12m1 : Method := { name := "max", desc := "(JJ)J", sig := { parameters := [.long, .long], returnType := some .long }, accessFlags := 9, code := some k12c1 }
/-- java/lang/Math -/
def k12 : Class := { plain "java/lang/Math" (some 0) with
  accessFlags := 49
  interfaces := #[]
  cf := some (fileOf pool12 1 #[.nestMembers #[98]] #[{ accessFlags := 2, nameIndex := 7, descriptorIndex := 8, attributes := #[] }, { accessFlags := 9, nameIndex := 198, descriptorIndex := 121, attributes := #[] }] 49 4 #[] #[{ accessFlags := 25, nameIndex := 354, descriptorIndex := 339, attributes := #[] }, { accessFlags := 25, nameIndex := 358, descriptorIndex := 339, attributes := #[] }, { accessFlags := 25, nameIndex := 361, descriptorIndex := 339, attributes := #[] }, { accessFlags := 26, nameIndex := 364, descriptorIndex := 339, attributes := #[] }, { accessFlags := 26, nameIndex := 365, descriptorIndex := 339, attributes := #[] }, { accessFlags := 26, nameIndex := 172, descriptorIndex := 173, attributes := #[] }, { accessFlags := 26, nameIndex := 176, descriptorIndex := 173, attributes := #[] }, { accessFlags := 8, nameIndex := 344, descriptorIndex := 339, attributes := #[] }, { accessFlags := 8, nameIndex := 338, descriptorIndex := 339, attributes := #[] }, { accessFlags := 4120, nameIndex := 245, descriptorIndex := 246, attributes := #[] }])
  fields := #[{ name := "E", type := .double, accessFlags := 25, slot := 0, constantValue := 0 }, { name := "PI", type := .double, accessFlags := 25, slot := 1, constantValue := 0 }, { name := "TAU", type := .double, accessFlags := 25, slot := 2, constantValue := 0 }, { name := "DEGREES_TO_RADIANS", type := .double, accessFlags := 26, slot := 3, constantValue := 0 }, { name := "RADIANS_TO_DEGREES", type := .double, accessFlags := 26, slot := 4, constantValue := 0 }, { name := "negativeZeroFloatBits", type := .long, accessFlags := 26, slot := 5, constantValue := 0 }, { name := "negativeZeroDoubleBits", type := .long, accessFlags := 26, slot := 6, constantValue := 0 }, { name := "twoToTheDoubleScaleUp", type := .double, accessFlags := 8, slot := 7, constantValue := 0 }, { name := "twoToTheDoubleScaleDown", type := .double, accessFlags := 8, slot := 8, constantValue := 0 }, { name := "$assertionsDisabled", type := .boolean, accessFlags := 4120, slot := 9, constantValue := 0 }]
  methods := #[k12m0, k12m1]
  instanceTypes := #[]
  staticTypes := #[.double, .double, .double, .double, .double, .long, .long, .double, .double, .boolean]
  resolved := Array.replicate 460 none
  statics := none }

/-- the primitive byte -/
def k13 : Class := { plain "byte" none with kind := .primitive 'B', accessFlags := 0x411 }
/-- [B -/
def k14 : Class := { plain "[B" (some 0) with kind := .array 13 .byte, interfaces := #[9, 10], accessFlags := 1041 }

/-- the primitive int -/
def k15 : Class := { plain "int" none with kind := .primitive 'I', accessFlags := 0x411 }
/-- [I -/
def k16 : Class := { plain "[I" (some 0) with kind := .array 15 .int, interfaces := #[9, 10], accessFlags := 1041 }

/-- [Ljava/lang/Object; -/
def k17 : Class := { plain "[Ljava/lang/Object;" (some 0) with kind := .array 0 (.object "java/lang/Object"), interfaces := #[9, 10], accessFlags := 1041 }

def heap : Heap := #[]
def classes : Array Class := #[k0, k1, k2, k3, k4, k5, k6, k7, k8, k9, k10, k11, k12, k13, k14, k15, k16, k17]
def interned : List (Array UInt16 × Addr) := []
def slotsUsed : Nat := 0
def theMethod : MethodId := ⟨1, 1⟩
def args0 : Array Value := #[.long 5, .long 7]
def aboutOver (below : List Frame) : State where
  vm := { classes := classes, interned := interned.toArray }
  heap := heap
  slotsUsed := slotsUsed
  threads := #[{ frames := .invoking theMethod args0 :: below }]
def below0 : List Frame := [.native { method := ⟨0, 0⟩, args := #[] }]
def about1 : State := aboutOver below0
def p0 : Program := .bare "" "" ""
def e0 : Env := launch0.env 0 0 0
theorem w_frames : about1.frames = Frame.invoking theMethod args0 :: below0 := rfl
set_option maxRecDepth 65536 in
theorem w_args : argsFit about1.vm theMethod args0 = true := by decide +kernel
set_option maxRecDepth 65536 in
theorem w_heap : heapFits about1 = true := by decide +kernel
set_option maxRecDepth 65536 in
theorem w_runnable : about1.curStatus? = some .runnable := by decide +kernel
set_option maxRecDepth 65536 in
theorem w_alone : about1.alone = true := by decide +kernel
set_option maxRecDepth 65536 in
theorem w_named : about1.methodNamed? x = some theMethod := by decide +kernel
set_option maxRecDepth 65536 in
theorem w_hears : about1.hears theMethod below0 = true := by decide +kernel
set_option maxRecDepth 65536 in
theorem w_ripe : about1.ripe theMethod args0 below0 = true := by decide +kernel
theorem w_running : about1.status = .running := rfl
set_option maxRecDepth 65536 in
theorem w_room : about1.hasRoom e0.platform room_1 = true :=
  launch0.hasRoom_least _ room_1 (by decide +kernel) (by decide +kernel) (by decide +kernel) (by decide +kernel) (by decide +kernel) (by decide +kernel)
theorem allAtoms_all (ts : List Jvm.Cond) (a : Array Jvm.Value) (st : Jvm.State) : (allAtoms ts).before a st = ts.all (fun c => c.before a st) := by
  induction ts with
  | nil => rfl
  | cons c t ih =>
    show (Jvm.Cond.and c (allAtoms t)).before a st = _
    rw [Jvm.Cond.before_and, ih, List.all_cons]
def words1 : List Jvm.Cond := Jvm.Cond.code x code maxLocals ret :: tables_1
/-- a 'code' word, met by the world's own term for the bytes: nothing is compared byte by byte -/
theorem code_word {y : MethodName} {bytes : ByteArray} {mx : Nat} {rt : Option FieldType} {a : Array Value} {s : State} {m : MethodId} {meth : Method} {c : Code} (h1 : s.methodNamed? y = some m) (h2 : s.vm.method? m = some meth) (h3 : meth.code = some c) (h4 : c.code = bytes)
    (h5 : (c.maxLocals == mx && c.exceptionTable.isEmpty && decide (c.maxStack ≤ mostOperands) && decide (meth.sig.returnType = rt) && !meth.locks && decide (parseMethodDescriptor y.desc = some meth.sig)) = true) : (Jvm.Cond.code y bytes mx rt).before a s = true := by
  simp only [Bool.and_eq_true, beq_iff_eq, Bool.not_eq_true', decide_eq_true_eq] at h5
  obtain ⟨⟨⟨⟨⟨g1, g2⟩, g3⟩, g4⟩, g5⟩, g6⟩ := h5
  simp [Cond.before, Cond.holds, Cond.value, h1, h2, h3, h4, g1, g2, g3, g4, g5, g6]
def isCode : Jvm.Cond → Bool
  | .code _ _ _ _ => true
  | _ => false
theorem all_split {L : List Jvm.Cond} {P : Jvm.Cond → Bool} (h1 : L.all (fun c => isCode c || P c) = true) (h2 : ∀ c ∈ L.filter isCode, P c = true) : L.all P = true := by
  refine List.all_eq_true.mpr fun c hc => ?_
  have h := List.all_eq_true.mp h1 c hc
  rcases Bool.eq_false_or_eq_true (isCode c) with hi | hi
  · exact h2 c (List.mem_filter.mpr ⟨hc, hi⟩)
  · simpa [hi] using h
set_option maxRecDepth 65536 in
theorem w_c0 : (Jvm.Cond.code x code maxLocals ret).before args0 about1 = true := code_word (m := ⟨1, 1⟩) (meth := k1m1) (c := k1c1) (by decide +kernel) rfl rfl rfl (by decide +kernel)
set_option maxRecDepth 65536 in
theorem w_c1 : (Jvm.Cond.code ({ cls := "com/example/ackd/ackd/budget/BodyBudget", name := "<init>", desc := "(J)V" } : Jvm.MethodName) prog_6_method_1_code (3 : Nat) (Option.none : Option Jvm.ClassFile.FieldType)).before args0 about1 = true := code_word (m := ⟨2, 0⟩) (meth := k2m0) (c := k2c0) (by decide +kernel) rfl rfl rfl (by decide +kernel)
set_option maxRecDepth 65536 in
theorem w_c2 : (Jvm.Cond.code ({ cls := "com/example/ackd/ackd/budget/BodyBudget", name := "<init>", desc := "(JLcom/example/ackd/ackd/budget/BodyBudget;)V" } : Jvm.MethodName) prog_6_method_2_code (4 : Nat) (Option.none : Option Jvm.ClassFile.FieldType)).before args0 about1 = true := code_word (m := ⟨2, 1⟩) (meth := k2m1) (c := k2c1) (by decide +kernel) rfl rfl rfl (by decide +kernel)
set_option maxRecDepth 65536 in
theorem w_c3 : (Jvm.Cond.code ({ cls := "java/lang/Object", name := "<init>", desc := "()V" } : Jvm.MethodName) object_method_1_code (1 : Nat) (Option.none : Option Jvm.ClassFile.FieldType)).before args0 about1 = true := code_word (m := ⟨0, 0⟩) (meth := k0m0) (c := k0c0) (by decide +kernel) rfl rfl rfl (by decide +kernel)
set_option maxRecDepth 65536 in
theorem w_c4 : (Jvm.Cond.code ({ cls := "java/util/ArrayDeque", name := "<init>", desc := "()V" } : Jvm.MethodName) jdk_21_method_3_code (1 : Nat) (Option.none : Option Jvm.ClassFile.FieldType)).before args0 about1 = true := code_word (m := ⟨11, 0⟩) (meth := k11m0) (c := k11c0) (by decide +kernel) rfl rfl rfl (by decide +kernel)
set_option maxRecDepth 65536 in
theorem w_c5 : (Jvm.Cond.code ({ cls := "java/util/AbstractCollection", name := "<init>", desc := "()V" } : Jvm.MethodName) jdk_22_method_1_code (1 : Nat) (Option.none : Option Jvm.ClassFile.FieldType)).before args0 about1 = true := code_word (m := ⟨5, 0⟩) (meth := k5m0) (c := k5c0) (by decide +kernel) rfl rfl rfl (by decide +kernel)
set_option maxRecDepth 65536 in
theorem w_c6 : (Jvm.Cond.code ({ cls := "com/example/ackd/ackd/budget/BodyBudget", name := "room", desc := "()J" } : Jvm.MethodName) prog_6_method_5_code (1 : Nat) (Option.some Jvm.ClassFile.FieldType.long)).before args0 about1 = true := code_word (m := ⟨2, 2⟩) (meth := k2m2) (c := k2c2) (by decide +kernel) rfl rfl rfl (by decide +kernel)
set_option maxRecDepth 65536 in
theorem w_c7 : (Jvm.Cond.code ({ cls := "com/example/ackd/ackd/budget/BodyBudget", name := "beyondOwn", desc := "(J)J" } : Jvm.MethodName) prog_6_method_12_code (3 : Nat) (Option.some Jvm.ClassFile.FieldType.long)).before args0 about1 = true := code_word (m := ⟨2, 4⟩) (meth := k2m4) (c := k2c4) (by decide +kernel) rfl rfl rfl (by decide +kernel)
set_option maxRecDepth 65536 in
theorem w_c8 : (Jvm.Cond.code ({ cls := "java/lang/Math", name := "max", desc := "(JJ)J" } : Jvm.MethodName) jdk_29_method_66_code (4 : Nat) (Option.some Jvm.ClassFile.FieldType.long)).before args0 about1 = true := code_word (m := ⟨12, 1⟩) (meth := k12m1) (c := k12c1) (by decide +kernel) rfl rfl rfl (by decide +kernel)
set_option maxRecDepth 65536 in
theorem w_c9 : (Jvm.Cond.code ({ cls := "java/util/ArrayDeque", name := "isEmpty", desc := "()Z" } : Jvm.MethodName) jdk_21_method_38_code (1 : Nat) (Option.some Jvm.ClassFile.FieldType.boolean)).before args0 about1 = true := code_word (m := ⟨11, 1⟩) (meth := k11m1) (c := k11c1) (by decide +kernel) rfl rfl rfl (by decide +kernel)
def codes1 : List Jvm.Cond := [Jvm.Cond.code x code maxLocals ret, Jvm.Cond.code ({ cls := "com/example/ackd/ackd/budget/BodyBudget", name := "<init>", desc := "(J)V" } : Jvm.MethodName) prog_6_method_1_code (3 : Nat) (Option.none : Option Jvm.ClassFile.FieldType), Jvm.Cond.code ({ cls := "com/example/ackd/ackd/budget/BodyBudget", name := "<init>", desc := "(JLcom/example/ackd/ackd/budget/BodyBudget;)V" } : Jvm.MethodName) prog_6_method_2_code (4 : Nat) (Option.none : Option Jvm.ClassFile.FieldType), Jvm.Cond.code ({ cls := "java/lang/Object", name := "<init>", desc := "()V" } : Jvm.MethodName) object_method_1_code (1 : Nat) (Option.none : Option Jvm.ClassFile.FieldType), Jvm.Cond.code ({ cls := "java/util/ArrayDeque", name := "<init>", desc := "()V" } : Jvm.MethodName) jdk_21_method_3_code (1 : Nat) (Option.none : Option Jvm.ClassFile.FieldType), Jvm.Cond.code ({ cls := "java/util/AbstractCollection", name := "<init>", desc := "()V" } : Jvm.MethodName) jdk_22_method_1_code (1 : Nat) (Option.none : Option Jvm.ClassFile.FieldType), Jvm.Cond.code ({ cls := "com/example/ackd/ackd/budget/BodyBudget", name := "room", desc := "()J" } : Jvm.MethodName) prog_6_method_5_code (1 : Nat) (Option.some Jvm.ClassFile.FieldType.long), Jvm.Cond.code ({ cls := "com/example/ackd/ackd/budget/BodyBudget", name := "beyondOwn", desc := "(J)J" } : Jvm.MethodName) prog_6_method_12_code (3 : Nat) (Option.some Jvm.ClassFile.FieldType.long), Jvm.Cond.code ({ cls := "java/lang/Math", name := "max", desc := "(JJ)J" } : Jvm.MethodName) jdk_29_method_66_code (4 : Nat) (Option.some Jvm.ClassFile.FieldType.long), Jvm.Cond.code ({ cls := "java/util/ArrayDeque", name := "isEmpty", desc := "()Z" } : Jvm.MethodName) jdk_21_method_38_code (1 : Nat) (Option.some Jvm.ClassFile.FieldType.boolean)]
set_option maxRecDepth 65536 in
theorem codes_eq : words1.filter isCode = codes1 := rfl
theorem w_codes : ∀ c ∈ words1.filter isCode, c.before args0 about1 = true := by
  rw [codes_eq]
  intro c hc
  simp only [codes1, List.mem_cons, List.not_mem_nil, or_false] at hc
  rcases hc with rfl | rfl | rfl | rfl | rfl | rfl | rfl | rfl | rfl | rfl
  · exact w_c0
  · exact w_c1
  · exact w_c2
  · exact w_c3
  · exact w_c4
  · exact w_c5
  · exact w_c6
  · exact w_c7
  · exact w_c8
  · exact w_c9
set_option maxRecDepth 65536 in
theorem w_t1 : (words1.take 24).all (fun c => isCode c || c.before args0 about1) = true := by decide +kernel
set_option maxRecDepth 65536 in
theorem w_t2 : ((words1.drop 24).take 24).all (fun c => isCode c || c.before args0 about1) = true := by decide +kernel
set_option maxRecDepth 65536 in
theorem w_t3 : ((words1.drop 24).drop 24).all (fun c => isCode c || c.before args0 about1) = true := by decide +kernel
theorem w_tables : (allAtoms (Jvm.Cond.code x code maxLocals ret :: tables_1)).before args0 about1 = true := by
  rw [allAtoms_all]
  show words1.all (fun c => c.before args0 about1) = true
  refine all_split ?_ w_codes
  rw [← List.take_append_drop 24 words1, List.all_append, w_t1, ← List.take_append_drop 24 (words1.drop 24), List.all_append, w_t2, w_t3]
  rfl
set_option maxRecDepth 65536 in
theorem w_case : (Jvm.Cond.and given_1 narrow_1).before args0 about1 = true := by decide +kernel
theorem w_applies : (headSpec (Jvm.Cond.code x code maxLocals ret :: tables_1) room_1).applies x e0.platform about1 = true :=
  (Spec.applies_iff w_frames).mpr ⟨w_running, w_runnable, w_alone, w_named, w_hears, w_ripe, w_room, w_tables⟩
theorem atStart : AtStart classFile x code maxLocals ret World_1 tables_1 room_1 Calls_1 rest_1 Pre_1 launch0 p0 e0 about1 theMethod args0 below0 :=
  ⟨lists_1, trivial, launch0.admits_env _ _ _, launch0.least_env, fairChoices_fair.cas, fairChoices_fair.clock, w_frames, w_args, w_heap, w_applies, trivial, trivial, w_case⟩
end start1
theorem witness_1 : WitnessClaimed_1 := ⟨start1.p0, start1.e0, start1.about1, start1.theMethod, start1.args0, start1.below0, start1.atStart⟩
end Jvm.Pilot.@@N@@
