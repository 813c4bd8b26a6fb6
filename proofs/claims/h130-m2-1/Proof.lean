import JvmDerived
import JvmDerived.Pilot.@@N@@Statement
import JvmDerived.Pilot.@@N@@Code
set_option linter.unusedVariables false
set_option linter.unusedSimpArgs false
namespace Jvm.RoadKit
open Sem ClassFile Op Lib Jvm.Stand Jvm.Free Jvm.LawKit
section New
variable {p : Program} {l : Launch} {e : Env} {R : Room} {s : State} {m : MethodId} {args : Array Value} {below : List Frame} {meth : Method} {c : Code} {T : State} {locs : List Loc} {cells slots : Nat}
theorem retI (X : Stand p l e R s m args below meth c T locs cells slots) (hx : p.tables.exec = Jvm.exec) {pc : Nat} {Ls : Array Slot} {z : Int32} {rest : List Value} (hret : meth.sig.returnType = some .int) (hd : decode c.code pc = .ok (.ireturn, 1)) {fs : List Frame}
    (hl : ∀ (f : JFrame) (acts : List Action), f.method = m → f.locked = none → f.entered = [] → (doReturn e (T.setTop f) acts (some (.int z))).1 = T.setFrames fs) : Steps p.tables e below (T.setTop (mkF m pc Ls (.int z :: rest))) (T.setFrames fs) := by
  have hm' : T.vm.method? m = some meth := X.method'
  have hn : narrow .int (.int z) = .int z := rfl
  show Steps p.tables e below (T.setTop { method := m, pc := pc, locals := Ls, stack := _ :: rest, locked := none }) _
  jvm_step X.here [X.here.top, hx, hd, hm', hret, hn]
  first | (intro acts; rw [hl _ acts rfl rfl rfl]) | rw [hl _ _ rfl rfl rfl]
  exact Steps.refl _
end New
end Jvm.RoadKit
namespace Jvm.Pilot.@@N@@
open Jvm Jvm.ClassFile Sem Op Lib Jvm.Free Jvm.Stand Jvm.LawKit Jvm.RoadKit Bundle Jvm.Pilot.@@N@@.Jvm.D
theorem own_tlt {a b : Int32} {x y : Int} (ha : a.toInt = x) (hb : b.toInt = y) (h : x < y) : if_icmp.holds .lt a b = true ∧ if_icmp.holds .ge a b = false ∧ if_icmp.holds .gt b a = true ∧ if_icmp.holds .le b a = false := tlt (Int32.lt_iff_toInt_lt.mpr (by rw [ha, hb]; exact h))
theorem own_flt {a b : Int32} {x y : Int} (ha : a.toInt = x) (hb : b.toInt = y) (h : ¬ x < y) : if_icmp.holds .lt a b = false ∧ if_icmp.holds .ge a b = true ∧ if_icmp.holds .gt b a = false ∧ if_icmp.holds .le b a = true := flt (fun q => h (by rw [← ha, ← hb]; exact Int32.lt_iff_toInt_lt.mp q))
theorem own_teq {a b : Int32} {x y : Int} (ha : a.toInt = x) (hb : b.toInt = y) (h : x = y) : if_icmp.holds .eq a b = true ∧ if_icmp.holds .ne a b = false := teq (Int32.toInt_inj.mp (by rw [ha, hb]; exact h))
theorem own_feq {a b : Int32} {x y : Int} (ha : a.toInt = x) (hb : b.toInt = y) (h : ¬ x = y) : if_icmp.holds .eq a b = false ∧ if_icmp.holds .ne a b = true := feq (fun q => h (by rw [← ha, ← hb, q]))
theorem own_if {cd : ClassFile.Cond} {x : Int32} {b : Bool} (h : if_icmp.holds cd x 0 = b) : ifCond.holds cd x = b := (if0 cd x).trans h
def own_EL : List (String × Nat) := [("java/lang/String", 7)]
theorem own_EW {Z : State} {a0 : Array Value} (hw : ∀ d ∈ tables_1, d.before a0 Z = true) : EW Z a0 own_EL := (EW.cons (text := "") (hw _ (List.mem_of_getElem? (i := 19) rfl)) (by decide) EW.nil)
theorem own_wS {Z : State} {a0 : Array Value} (hw : ∀ d ∈ tables_1, d.before a0 Z = true) : ∀ a ∈ Bundle.stringAtoms, a.before a0 Z = true := by
  intro a ha
  simp only [Bundle.stringAtoms, List.mem_cons, List.not_mem_nil, or_false] at ha
  rcases ha with rfl | rfl | rfl | rfl | rfl | rfl | rfl
  · exact (hw _ (List.mem_of_getElem? (i := 7) rfl))
  · exact (hw _ (List.mem_of_getElem? (i := 6) rfl))
  · exact (hw _ (List.mem_of_getElem? (i := 20) rfl))
  · exact (hw _ (List.mem_of_getElem? (i := 21) rfl))
  · exact (hw _ (List.mem_of_getElem? (i := 22) rfl))
  · exact (hw _ (List.mem_of_getElem? (i := 23) rfl))
  · exact (hw _ (List.mem_of_getElem? (i := 24) rfl))
def own_st (Z : State) (h : Heap) (vcs : Int32) (vf : Value) : Prop := Sta Z h "java/lang/String" "COMPACT_STRINGS" "Z" (.int vcs) ∧ ¬ vcs.toInt = 0 ∧ Sta Z h "jdk/internal/util/Preconditions" "SIOOBE_FORMATTER" "Ljava/util/function/BiFunction;" vf ∧ vf.isRef = true
theorem own_st_ext {Z : State} {h h' : Heap} {vcs : Int32} {vf : Value} (F : own_st Z h vcs vf) (E : Ext h h') : own_st Z h' vcs vf := ⟨F.1.ext E, F.2.1, F.2.2.1.ext E, F.2.2.2⟩
theorem own_st_wr {Z : State} {h h' : Heap} {a : Addr} {sl : Nat} {v : Value} {vcs : Int32} {vf : Value} (F : own_st Z h vcs vf) (W : Wr h h' a sl v) : own_st Z h' vcs vf := ⟨F.1.wr W, F.2.1, F.2.2.1.wr W, F.2.2.2⟩
theorem own_sta_keep {Z : State} {h h' : Heap} {ws : List Addr} {C n d : String} {v : Value} (F : Sta Z h C n d v) (K : Keep h h' ws) (hs : ∀ x ∈ ws, ∀ cell : Cell, h[x]? = some cell → cell.vm.isStatics = false) : Sta Z h' C n d v := by
  obtain ⟨cf, i, k, f, st, cell, h1, h2, h3, h4, h5, h6, h7⟩ := F
  refine ⟨cf, i, k, f, st, cell, h1, h2, h3, h4, K.2.1 st cell h5 (fun hm => ?_), h6, h7⟩
  have q := hs st hm cell h5
  rw [q] at h6; cases h6
theorem own_st_keep {Z : State} {h h' : Heap} {ws : List Addr} {vcs : Int32} {vf : Value} (F : own_st Z h vcs vf) (K : Keep h h' ws) (hs : ∀ x ∈ ws, ∀ cell : Cell, h[x]? = some cell → cell.vm.isStatics = false) : own_st Z h' vcs vf := ⟨own_sta_keep F.1 K hs, F.2.1, own_sta_keep F.2.2.1 K hs, F.2.2.2⟩
theorem own_narc (x : Int32) (h1 : 0 ≤ x.toInt) (h2 : x.toInt < 65536) : nar .char x = x := by
  have e : nar .char x = x.toUInt32.toUInt16.toUInt32.toInt32 := rfl
  have q := c_i2c x
  rw [e]; apply Int32.toInt_inj.mp; omega
theorem own_b2 (c : Int32) (h1 : 0 ≤ c.toInt) (h2 : c.toInt ≤ 255) : (nar .byte c.toInt8.toInt32).toInt % 256 = c.toInt := by
  have e : nar .byte c.toInt8.toInt32 = c.toInt8.toInt32.toInt8.toInt32 := rfl
  have q := c_i2b c; have q2 := c_i2b c.toInt8.toInt32
  rw [e]; omega
theorem own_narcZ (x : Int32) : (nar .char x).toInt = x.toInt % 65536 := by
  have e : nar .char x = x.toUInt32.toUInt16.toUInt32.toInt32 := rfl
  have q := c_i2c x
  rw [e]; omega
theorem own_nat {j : Int32} {n : Nat} (h : j.toInt = (n : Int)) : j.toNatClampNeg = n := by
  unfold Int32.toNatClampNeg; rw [h]; rfl
def own_stop (c : Int) : Prop := c = 63 ∨ c = 35
instance (c : Int) : Decidable (own_stop c) := by unfold own_stop; infer_instance
theorem d11_0 : decode method_2_code 0 = .ok (.iload_n 0, 1) := by decide +kernel
theorem d11_1 : decode method_2_code 1 = .ok (.bipush 63, 2) := by decide +kernel
theorem d11_3 : decode method_2_code 3 = .ok (.if_icmp .eq 9, 3) := by decide +kernel
theorem d11_6 : decode method_2_code 6 = .ok (.iload_n 0, 1) := by decide +kernel
theorem d11_7 : decode method_2_code 7 = .ok (.bipush 35, 2) := by decide +kernel
theorem d11_9 : decode method_2_code 9 = .ok (.if_icmp .ne 7, 3) := by decide +kernel
theorem d11_12 : decode method_2_code 12 = .ok (.iconst 1, 1) := by decide +kernel
theorem d11_13 : decode method_2_code 13 = .ok (.goto 4, 3) := by decide +kernel
theorem d11_16 : decode method_2_code 16 = .ok (.iconst 0, 1) := by decide +kernel
theorem d11_17 : decode method_2_code 17 = .ok (.ireturn, 1) := by decide +kernel
theorem pn_0 : plainName "com/example/path_template_matcher/pathtemplatematcher/UriReferencePathEndPinLaw" = true := by first | (simp [plainName, overriddenIn]; done) | decide +kernel
theorem ef_rm11 (m : MethodId) (x0 : Int32) : entryFrame m #[(.int x0)] 1 = mkF m 0 #[.val (.int x0)] [] := by first | (simp [entryFrame, mkF, argsToLocals, Value.category]; done) | rfl
def Q11 (Z : State) (vc : Int32) (h0 : Heap) (n0 : Nat) (v : Option Value) (h : Heap) (L : List Loc) : Prop := ∃ z : Int32, v = some (.int z) ∧ (z.toInt = if own_stop vc.toInt then 1 else 0) ∧ Fr n0 L ∧ h = h0
set_option maxRecDepth 65536 in
set_option maxHeartbeats 40000000 in
theorem rm11 (l : Launch) (Z : State) (a0 : Array Value) (hw : ∀ d ∈ tables_1, d.before a0 Z = true) (ws : List Jvm.Cond) (vc : Int32) (h0 : Heap) (n0 : Nat) (Z0 : n0 ≤ h0.size) :
    MetFree l (⟨"com/example/path_template_matcher/pathtemplatematcher/UriReferencePathEndPinLaw", "stop", "(C)Z"⟩ : MethodName) (head1 (Jvm.Cond.code (⟨"com/example/path_template_matcher/pathtemplatematcher/UriReferencePathEndPinLaw", "stop", "(C)Z"⟩ : MethodName) method_2_code 1 (some .boolean) :: ws) ({ frames := 0, cells := 0, slots := 0, locals := 0 } : Room)) (fun a U => a = #[(.int vc)] ∧ Z.Warmed39 U.vm ∧ U.heap = h0) (fun _ _ _ _ _ => True) (fun _ U o U' => ∃ v L, o = .returned v ∧ Q11 Z vc h0 n0 v U'.heap L ∧ FrameEnd U o U' L ({ frames := 0, cells := 0, slots := 0, locals := 0 } : Room).cells ({ frames := 0, cells := 0, slots := 0, locals := 0 } : Room).slots) := by
  refine MetFree.of_bodySF (plainFor_of_name pn_0) hisR ?_
  intro p e s m args below meth c s₁ Bd hml0 hP hK
  obtain ⟨rfl, hZ, hh⟩ := hP
  have hx := Bd.exec
  have hby := Bd.bytes
  have hml : c.maxLocals = 1 := hml0
  have hown : s.vm.findClass "com/example/path_template_matcher/pathtemplatematcher/UriReferencePathEndPinLaw" = some m.cls := findClass_of_methodNamed Bd.named
  have hnm := (name_of_methodNamed Bd.named Bd.method).1
  have X0 : Stand p l e ({ frames := 0, cells := 0, slots := 0, locals := 0 } : Room) s m #[(.int vc)] below meth c s₁ [] 0 0 := Stand.of_body Bd
  have e0 : s₁.heap = h0 := by rw [← hh, Bd.state]; rfl
  have N0 := Fr.nil n0
  have pre0 : ∀ t, Steps p.tables e below (s₁.setTop (mkF m 0 #[.val (.int vc)] [])) t → Steps p.tables e below (s₁.setTop (entryFrame m #[(.int vc)] 1)) t := fun t k => castTop (ef_rm11 m vc) k
  have pre2 : ∀ t, Steps p.tables e below (s₁.setTop (mkF m 3 #[.val (.int vc)] [(.int (63 : Int32)), (.int vc)])) t → Steps p.tables e below (s₁.setTop (entryFrame m #[(.int vc)] 1)) t := fun t kt => by
    refine pre0 _ ?_
    refine XS.iloadN X0.here hx rfl (hb hby d11_0) rfl ?_
    refine XS.bipush X0.here hx rfl (hb hby d11_1) ?_
    exact kt
  by_cases hc3_1 : vc.toInt = (63 : Int)
  · obtain ⟨fs, hr, hrun, hended, hW, hsame⟩ := X0.leave (v := some (.int (1 : Int32))) (fun h => by rw [Bd.returns] at h; cases h)
    refine ⟨_, _, pre2 _ ?_, hrun, hended, _, _, rfl, ?_, ⟨_, rfl⟩, hW, hsame.mono (by decide) (by decide)⟩
    · show Steps p.tables e below (s₁.setTop (mkF m 3 #[.val (.int vc)] [(.int (63 : Int32)), (.int vc)])) _
      refine XS.icmpYes X0.here hx rfl (pc0 := 3) (pc' := 12) rfl (hb hby d11_3) rfl (own_teq (a := vc) (b := (63 : Int32)) rfl (by decide) hc3_1).1 (by decide) (by decide) ?_
      refine XS.iconst X0.here hx rfl (hb hby d11_12) ?_
      refine XS.goto X0.here hx rfl (pc0 := 13) (pc' := 17) rfl (hb hby d11_13) (by decide) (by decide) ?_
      exact retN X0 hx (t := .boolean) Bd.returns (by simp) (hb hby d11_17) hr
    · show Q11 Z _ h0 n0 _ s₁.heap _
      rw [e0]
      exact ⟨_, rfl, by have hs : own_stop vc.toInt := (by unfold own_stop; omega); rw [if_pos hs]; decide, N0, rfl⟩
  · have pre4 : ∀ t, Steps p.tables e below (s₁.setTop (mkF m 9 #[.val (.int vc)] [(.int (35 : Int32)), (.int vc)])) t → Steps p.tables e below (s₁.setTop (entryFrame m #[(.int vc)] 1)) t := fun t kt => by
      refine pre2 _ ?_
      show Steps p.tables e below (s₁.setTop (mkF m 3 #[.val (.int vc)] [(.int (63 : Int32)), (.int vc)])) _
      refine XS.icmpNo X0.here hx rfl (hb hby d11_3) rfl (own_feq (a := vc) (b := (63 : Int32)) rfl (by decide) hc3_1).1 ?_
      refine XS.iloadN X0.here hx rfl (hb hby d11_6) rfl ?_
      refine XS.bipush X0.here hx rfl (hb hby d11_7) ?_
      exact kt
    by_cases hc9_3 : vc.toInt = (35 : Int)
    · obtain ⟨fs, hr, hrun, hended, hW, hsame⟩ := X0.leave (v := some (.int (1 : Int32))) (fun h => by rw [Bd.returns] at h; cases h)
      refine ⟨_, _, pre4 _ ?_, hrun, hended, _, _, rfl, ?_, ⟨_, rfl⟩, hW, hsame.mono (by decide) (by decide)⟩
      · show Steps p.tables e below (s₁.setTop (mkF m 9 #[.val (.int vc)] [(.int (35 : Int32)), (.int vc)])) _
        refine XS.icmpNo X0.here hx rfl (hb hby d11_9) rfl (own_teq (a := vc) (b := (35 : Int32)) rfl (by decide) hc9_3).2 ?_
        refine XS.iconst X0.here hx rfl (hb hby d11_12) ?_
        refine XS.goto X0.here hx rfl (pc0 := 13) (pc' := 17) rfl (hb hby d11_13) (by decide) (by decide) ?_
        exact retN X0 hx (t := .boolean) Bd.returns (by simp) (hb hby d11_17) hr
      · show Q11 Z _ h0 n0 _ s₁.heap _
        rw [e0]
        exact ⟨_, rfl, by have hs : own_stop vc.toInt := (by unfold own_stop; omega); rw [if_pos hs]; decide, N0, rfl⟩
    · obtain ⟨fs, hr, hrun, hended, hW, hsame⟩ := X0.leave (v := some (.int (0 : Int32))) (fun h => by rw [Bd.returns] at h; cases h)
      refine ⟨_, _, pre4 _ ?_, hrun, hended, _, _, rfl, ?_, ⟨_, rfl⟩, hW, hsame.mono (by decide) (by decide)⟩
      · show Steps p.tables e below (s₁.setTop (mkF m 9 #[.val (.int vc)] [(.int (35 : Int32)), (.int vc)])) _
        refine XS.icmpYes X0.here hx rfl (pc0 := 9) (pc' := 16) rfl (hb hby d11_9) rfl (own_feq (a := vc) (b := (35 : Int32)) rfl (by decide) hc9_3).2 (by decide) (by decide) ?_
        refine XS.iconst X0.here hx rfl (hb hby d11_16) ?_
        exact retN X0 hx (t := .boolean) Bd.returns (by simp) (hb hby d11_17) hr
      · show Q11 Z _ h0 n0 _ s₁.heap _
        rw [e0]
        exact ⟨_, rfl, by have hs : ¬ own_stop vc.toInt := (by unfold own_stop; omega); rw [if_neg hs]; decide, N0, rfl⟩
theorem own_safe_null {Z : State} {vm : Vm} {h : Heap} {oa : Addr} {EL : List (String × Nat)} (hal : Z.vm.Alike vm) (E : Exa Z h oa "java/lang/String") (F : Fld Z h oa "java/lang/String" "value" "[B" .null) : Safe Z EL vm h oa := fun B => by
  obtain ⟨p, -, u, a, -, q, -, F', hy⟩ := B
  obtain ⟨cS, ⟨⟨s1, s2, s3, ⟨cv, kv, iv, s4, s4'⟩, ⟨cc, kc, ic, s5, s5'⟩, s6, s7, s8, s9, s10, s11, s12, s13, s14, s15, s16⟩, hfS, hcS⟩, ⟨kS, k1, k2, k3⟩, hB, hbyt⟩ := F'
  rcases hy with rfl | rfl
  · obtain ⟨kv', z4⟩ := ff_back (U := Wst Z vm h) hal s4
    have G : Fld Z h q.sa "java/lang/String" "value" "[B" (.ref q.sd) := ⟨q.sC, cv, kv', iv, q.fSV, s1, z4, s6, s2, s3, by rw [← hal.assignable]; exact s4', s8⟩
    exact (F.ne G (by simp)) rfl
  · have hB' : vm.findClass "[B" = some q.SA.cls := hB
    have hBZ : Z.vm.findClass "[B" = some q.SA.cls := by rw [← hal.findClass]; exact hB'
    obtain ⟨cell, k, e1, e2, -⟩ := E
    cases e1.symm.trans (show h[q.sd]? = some q.SA from s10)
    exact ids_ne e2 hBZ (by decide) rfl
theorem d3_0 : decode jdk_42_method_149_code 0 = .ok (.aload_n 0, 1) := by decide +kernel
theorem d3_1 : decode jdk_42_method_149_code 1 = .ok (.invokespecial 1, 3) := by decide +kernel
theorem d3_4 : decode jdk_42_method_149_code 4 = .ok (.iload_n 3, 1) := by decide +kernel
theorem d3_5 : decode jdk_42_method_149_code 5 = .ok (.ifCond .ne 22, 3) := by decide +kernel
theorem d3_8 : decode jdk_42_method_149_code 8 = .ok (.aload_n 0, 1) := by decide +kernel
theorem d3_9 : decode jdk_42_method_149_code 9 = .ok (.ldc 7, 2) := by decide +kernel
theorem d3_11 : decode jdk_42_method_149_code 11 = .ok (.getfield 9, 3) := by decide +kernel
theorem d3_14 : decode jdk_42_method_149_code 14 = .ok (.putfield 9, 3) := by decide +kernel
theorem d3_17 : decode jdk_42_method_149_code 17 = .ok (.aload_n 0, 1) := by decide +kernel
theorem d3_18 : decode jdk_42_method_149_code 18 = .ok (.ldc 7, 2) := by decide +kernel
theorem d3_20 : decode jdk_42_method_149_code 20 = .ok (.getfield 15, 3) := by decide +kernel
theorem d3_23 : decode jdk_42_method_149_code 23 = .ok (.putfield 15, 3) := by decide +kernel
theorem d3_26 : decode jdk_42_method_149_code 26 = .ok (.return_, 1) := by decide +kernel
theorem pn_1 : plainName "java/lang/String" = true := by first | (simp [plainName, overriddenIn]; done) | decide +kernel
theorem ef_rm_iv0 (m : MethodId) (x0 : Addr) (x1 : Addr) : entryFrame m #[(.ref x0), (.ref x1), (.int (0 : Int32)), (.int (0 : Int32)), .null] 6 = mkF m 0 #[.val (.ref x0), .val (.ref x1), .val (.int (0 : Int32)), .val (.int (0 : Int32)), .val .null, .unset] [] := by first | (simp [entryFrame, mkF, argsToLocals, Value.category]; done) | rfl
def Q_iv0 (Z : State) (oa : Addr) (oc : Addr) (vcs : Int32) (vf : Value) (kC : ClassId) (h0 : Heap) (n0 : Nat) (v : Option Value) (h : Heap) (L : List Loc) : Prop := v = none ∧ Fr n0 L ∧ Keep h0 h [oa] ∧ Exa Z h oa "java/lang/String" ∧ ∃ (ob : Addr) (kb : ClassId), Fld Z h oa "java/lang/String" "coder" "B" (.int (0 : Int32)) ∧ Fld Z h oa "java/lang/String" "value" "[B" (.ref ob) ∧ Arv Z h ob kb .byte (0 : Int32) [] (.int (0 : Int32))
set_option maxRecDepth 65536 in
set_option maxHeartbeats 40000000 in
theorem rm_iv0 (l : Launch) (Z : State) (a0 : Array Value) (hw : ∀ d ∈ tables_1, d.before a0 Z = true) (ws : List Jvm.Cond) (oa : Addr) (oc : Addr) (vcs : Int32) (vf : Value) (kC : ClassId) (h0 : Heap) (n0 : Nat) (Z0 : n0 ≤ h0.size) (Os : own_st Z h0 vcs vf) (Es : Exa Z h0 oa "java/lang/String") (Fc : Fld Z h0 oa "java/lang/String" "coder" "B" (.int (0 : Int32))) (Fv : Fld Z h0 oa "java/lang/String" "value" "[B" .null) (ga : n0 ≤ oa) (nac : oa ≠ oc) (Vc : Arv Z h0 oc kC .char (0 : Int32) [] (.int (0 : Int32))) :
    MetFree l (⟨"java/lang/String", "<init>", "([CIILjava/lang/Void;)V"⟩ : MethodName) (head1 (Jvm.Cond.code (⟨"java/lang/String", "<init>", "([CIILjava/lang/Void;)V"⟩ : MethodName) jdk_42_method_149_code 6 none :: ws) ({ frames := 1, cells := 4, slots := 8, locals := 12 } : Room)) (fun a U => a = #[(.ref oa), (.ref oc), (.int (0 : Int32)), (.int (0 : Int32)), .null] ∧ Z.Warmed39 U.vm ∧ U.heap = h0 ∧ CHv Z own_EL U.vm h0) (fun _ _ _ _ _ => True) (fun _ U o U' => ∃ v L, o = .returned v ∧ Q_iv0 Z oa oc vcs vf kC h0 n0 v U'.heap L ∧ CHr Z own_EL U.vm U.heap U'.vm U'.heap ∧ ReturnedEndW U o U' L ({ frames := 1, cells := 4, slots := 8, locals := 12 } : Room).cells ({ frames := 1, cells := 4, slots := 8, locals := 12 } : Room).slots) := by
  refine MetFree.of_bodySF (plainFor_of_name pn_1) hisR ?_
  intro p e s m args below meth c s₁ Bd hml0 hP hK
  obtain ⟨rfl, hZ, hh, hC⟩ := hP
  have hx := Bd.exec
  have hby := Bd.bytes
  have hml : c.maxLocals = 6 := hml0
  have hown : s.vm.findClass "java/lang/String" = some m.cls := findClass_of_methodNamed Bd.named
  have hnm := (name_of_methodNamed Bd.named Bd.method).1
  have X0 : Stand p l e ({ frames := 1, cells := 4, slots := 8, locals := 12 } : Room) (s.setVm s.vm) m #[(.ref oa), (.ref oc), (.int (0 : Int32)), (.int (0 : Int32)), .null] below meth c s₁ [] 0 0 := Stand.of_body Bd
  have e0 : s₁.heap = h0 := by rw [← hh, Bd.state]; rfl
  have N0 := Fr.nil n0
  have hEL := own_EW hw
  have wS := own_wS hw
  have CR0 : CHr Z own_EL s.vm h0 s.vm h0 := CHr.refl hC
  have hS0 : s.Since s.vm h0.size := (State.WarmedH.refl s).since _
  have hk0 : h0.size ≤ h0.size := Nat.le_refl _
  have pre0 : ∀ t, Steps p.tables e below (s₁.setTop (mkF m 0 #[.val (.ref oa), .val (.ref oc), .val (.int (0 : Int32)), .val (.int (0 : Int32)), .val .null, .unset] [])) t → Steps p.tables e below (s₁.setTop (entryFrame m #[(.ref oa), (.ref oc), (.int (0 : Int32)), (.int (0 : Int32)), .null] 6)) t := fun t k => castTop (ef_rm_iv0 m oa oc) k
  have Ua0 := own_safe_null (EL := own_EL) hZ.alike Es Fv
  have pre1 : ∀ t, Steps p.tables e below (s₁.setTop (mkF m 1 #[.val (.ref oa), .val (.ref oc), .val (.int (0 : Int32)), .val (.int (0 : Int32)), .val .null, .unset] [(.ref oa)])) t → Steps p.tables e below (s₁.setTop (entryFrame m #[(.ref oa), (.ref oc), (.int (0 : Int32)), (.int (0 : Int32)), .null] 6)) t := fun t kt => by
    refine pre0 _ ?_
    refine XS.aloadN X0.here hx rfl (hb hby d3_0) rfl rfl ?_
    exact kt
  obtain ⟨T2, X2, e2, st2⟩ := initO X0 hx hZ hown (hw _ (List.mem_of_getElem? (i := 16) rfl)) (hw _ (List.mem_of_getElem? (i := 17) rfl)) (hw _ (List.mem_of_getElem? (i := 18) rfl)) e0 (g := (mkF m 1 #[.val (.ref oa), .val (.ref oc), .val (.int (0 : Int32)), .val (.int (0 : Int32)), .val .null, .unset] [(.ref oa)])) rfl (by rw [hml]; rfl) rfl (hb hby d3_1) (by decide) (W := 0) (by show 2 * 0 + _ ≤ _; exact Nat.le_of_eq rfl) (by decide)
  have hc5_3 : (0 : Int) = (0 : Int) := by decide
  have pre4 : ∀ t, Steps p.tables e below (T2.setTop (mkF m 9 #[.val (.ref oa), .val (.ref oc), .val (.int (0 : Int32)), .val (.int (0 : Int32)), .val .null, .unset] [(.ref oa)])) t → Steps p.tables e below (s₁.setTop (entryFrame m #[(.ref oa), (.ref oc), (.int (0 : Int32)), (.int (0 : Int32)), .null] 6)) t := fun t kt => by
    refine pre1 _ ?_
    refine st2 _ ?_
    refine XS.iloadN X2.here hx rfl (hb hby d3_4) rfl ?_
    refine XS.ifNo X2.here hx rfl (hb hby d3_5) rfl (own_if (own_teq (a := (0 : Int32)) (b := (0 : Int32)) (by decide) (by decide) hc5_3).2) ?_
    refine XS.aloadN X2.here hx rfl (hb hby d3_8) rfl rfl ?_
    exact kt
  obtain ⟨la5, T5, h5, k15, lb5, kb5, X5, e5, E5, hS5, hk5, hZ, hown, A5, Fc5, Fv5, V5, lt5, lu5, CRn5, Lt5, Sf5, st5⟩ := ldcCH X2 hx hZ hown (text := "") (hw _ (List.mem_of_getElem? (i := 19) rfl)) wS e2 hS0 hk0 hEL (List.mem_of_getElem? (i := 0) rfl) CR0.1 (vs := []) (z := (0 : Int32)) ⟨by decide, by rfl⟩ (by decide) rfl (g := (mkF m 9 #[.val (.ref oa), .val (.ref oc), .val (.int (0 : Int32)), .val (.int (0 : Int32)), .val .null, .unset] [(.ref oa)])) rfl (hb hby d3_9) (n := 0) (by decide) (by decide) (by decide) (by decide)
  have sf6 := CRn5.safe Es.lt Ua0
  have CR7 := CR0.trans CRn5
  have Zs8 : n0 ≤ h5.size := Nat.le_trans Z0 E5.1
  have ne_oa_la5 := (Sf5 _ sf6).1
  have ne_oa_lb5 := (Sf5 _ sf6).2
  obtain ⟨T9, X9, e9, st9⟩ := getF X5 hx hZ hown (host := "") (Or.inl (hw _ (List.mem_of_getElem? (i := 25) rfl))) Via.refl e5 Fv5 (g := (mkF m 11 #[.val (.ref oa), .val (.ref oc), .val (.int (0 : Int32)), .val (.int (0 : Int32)), .val .null, .unset] [(.ref la5), (.ref oa)])) rfl rfl (hb hby d3_11)
  have f10 := (Fv.ext E5)
  have f11 := (Es.ext E5)
  obtain ⟨T12, h12, X12, e12, W12, st12⟩ := putF X9 hx hZ hown (host := "") (Or.inl (hw _ (List.mem_of_getElem? (i := 25) rfl))) Via.refl e9 f10 f11 (Or.inr ⟨(hw _ (List.mem_of_getElem? (i := 21) rfl)), rfl, hnm⟩) (hw _ (List.mem_of_getElem? (i := 6) rfl)) (ty := (.array .byte)) (by decide) rfl rfl (g := (mkF m 14 #[.val (.ref oa), .val (.ref oc), .val (.int (0 : Int32)), .val (.int (0 : Int32)), .val .null, .unset] [(.ref lb5), (.ref oa)])) rfl rfl (hb hby d3_14)
  have N12 := Fr.snoc X12 N0 ga
  have sf13 := (Safe.wr W12 sf6 CR7.1 sf6)
  have CR14 := (CR7.trans (CHr.wr W12 sf6 CR7.1))
  have hk15 := Nat.le_trans hk5 (Nat.le_of_eq W12.size.symm)
  have Zs16 : n0 ≤ h12.size := by rw [W12.size]; exact Zs8
  have Fw12 := f10.same W12
  have pre17 : ∀ t, Steps p.tables e below (T12.setTop (mkF m 18 #[.val (.ref oa), .val (.ref oc), .val (.int (0 : Int32)), .val (.int (0 : Int32)), .val .null, .unset] [(.ref oa)])) t → Steps p.tables e below (s₁.setTop (entryFrame m #[(.ref oa), (.ref oc), (.int (0 : Int32)), (.int (0 : Int32)), .null] 6)) t := fun t kt => by
    refine pre4 _ ?_
    refine st5 _ ?_
    refine st9 _ ?_
    show Steps p.tables e below (T9.setTop (mkF m 14 #[.val (.ref oa), .val (.ref oc), .val (.int (0 : Int32)), .val (.int (0 : Int32)), .val .null, .unset] [(.ref lb5), (.ref oa)])) _
    refine st12 _ ?_
    refine XS.aloadN X12.here hx rfl (hb hby d3_17) rfl rfl ?_
    exact kt
  have f18 := (f11.wr W12)
  have f19 := ((Vc.ext E5).other W12 (Ne.symm nac))
  have f20 := (A5.wr W12)
  have f21 := (V5.other W12 (Ne.symm ne_oa_lb5))
  obtain ⟨la22, T22, h22, k122, lb22, kb22, X22, e22, E22, hS22, hk22, hZ, hown, A22, Fc22, Fv22, V22, lt22, lu22, CRn22, Lt22, Sf22, st22⟩ := ldcCH X12 hx hZ hown (text := "") (hw _ (List.mem_of_getElem? (i := 19) rfl)) wS e12 hS5 hk15 hEL (List.mem_of_getElem? (i := 0) rfl) CR14.1 (vs := []) (z := (0 : Int32)) ⟨by decide, by rfl⟩ (by decide) rfl (g := (mkF m 18 #[.val (.ref oa), .val (.ref oc), .val (.int (0 : Int32)), .val (.int (0 : Int32)), .val .null, .unset] [(.ref oa)])) rfl (hb hby d3_18) (n := 0) (by decide) (by decide) (by decide) (by decide)
  have sf23 := CRn22.safe f18.lt sf13
  have CR24 := CR14.trans CRn22
  have Zs25 : n0 ≤ h22.size := Nat.le_trans Zs16 E22.1
  have ne_oa_la22 := (Sf22 _ sf23).1
  have ne_oa_lb22 := (Sf22 _ sf23).2
  obtain ⟨T26, X26, e26, st26⟩ := getF X22 hx hZ hown (host := "") (Or.inl (hw _ (List.mem_of_getElem? (i := 26) rfl))) Via.refl e22 Fc22 (g := (mkF m 20 #[.val (.ref oa), .val (.ref oc), .val (.int (0 : Int32)), .val (.int (0 : Int32)), .val .null, .unset] [(.ref la22), (.ref oa)])) rfl rfl (hb hby d3_20)
  have f27 := (((Fc.ext E5).other W12 (Or.inr (slot_ne (Or.inr (hw _ (List.mem_of_getElem? (i := 22) rfl))) (Or.inr (hw _ (List.mem_of_getElem? (i := 21) rfl))) (by decide) (t := .byte) (t' := (.array .byte)) (by decide) (by decide)))).ext E22)
  have f28 := (f18.ext E22)
  obtain ⟨T29, h29, X29, e29, W29, st29⟩ := putFN X26 hx hZ hown (hw _ (List.mem_of_getElem? (i := 26) rfl)) Via.refl e26 f27 f28 (Or.inr ⟨(hw _ (List.mem_of_getElem? (i := 22) rfl)), rfl, hnm⟩) (hw _ (List.mem_of_getElem? (i := 6) rfl)) (ty := .byte) (v' := (.int (0 : Int32))) (by decide) rfl rfl (g := (mkF m 23 #[.val (.ref oa), .val (.ref oc), .val (.int (0 : Int32)), .val (.int (0 : Int32)), .val .null, .unset] [(.int (0 : Int32)), (.ref oa)])) rfl rfl (hb hby d3_23)
  have N29 := Fr.snoc X29 N12 ga
  have sf30 := (Safe.wr W29 sf23 CR24.1 sf23)
  have CR31 := (CR24.trans (CHr.wr W29 sf23 CR24.1))
  have hk32 := Nat.le_trans hk22 (Nat.le_of_eq W29.size.symm)
  have Zs33 : n0 ≤ h29.size := by rw [W29.size]; exact Zs25
  have Fw29 := f27.same W29
  obtain ⟨fs, hr, hrun, hended, hREW⟩ := X29.leaveW hS22 (by rw [e29]; exact hk32) (v := none) (fun _ => rfl)
  refine ⟨_, _, pre17 _ ?_, hrun, hended, _, _, rfl, ?_, ?_, ⟨hREW.1, hREW.2.1, hREW.2.2.1, hREW.2.2.2.mono (by decide) (by decide)⟩⟩
  · refine st22 _ ?_
    refine st26 _ ?_
    refine st29 _ ?_
    exact X29.returnOut hx Bd.returns (hb hby d3_26) hr
  · show Q_iv0 Z _ _ _ _ _ h0 n0 _ T29.heap _
    rw [e29]
    have f34 := (((((Keep.refl h0 [oa]).ext E5).wr W12 (Or.inl (List.mem_of_getElem? (i := 0) rfl))).ext E22).wr W29 (Or.inl (List.mem_of_getElem? (i := 0) rfl)))
    have f35 := (f28.wr W29)
    have f36 := ((Fw12.ext E22).other W29 (Or.inr (slot_ne (Or.inr (hw _ (List.mem_of_getElem? (i := 21) rfl))) (Or.inr (hw _ (List.mem_of_getElem? (i := 22) rfl))) (by decide) (t := (.array .byte)) (t' := .byte) (by decide) (by decide))))
    have f37 := ((f21.ext E22).other W29 (Ne.symm ne_oa_lb5))
    exact ⟨rfl, N29, f34, f35, lb5, _, Fw29, f36, f37⟩
  · show CHr Z own_EL s.vm s.heap T29.vm T29.heap
    rw [hh, e29]
    exact CR31.trans (CHv.at X29 hZ hEL CR31.1)
theorem d2_0 : decode jdk_42_method_3_code 0 = .ok (.aload_n 0, 1) := by decide +kernel
theorem d2_1 : decode jdk_42_method_3_code 1 = .ok (.aload_n 1, 1) := by decide +kernel
theorem d2_2 : decode jdk_42_method_3_code 2 = .ok (.iconst 0, 1) := by decide +kernel
theorem d2_3 : decode jdk_42_method_3_code 3 = .ok (.aload_n 1, 1) := by decide +kernel
theorem d2_4 : decode jdk_42_method_3_code 4 = .ok (.arraylength, 1) := by decide +kernel
theorem d2_5 : decode jdk_42_method_3_code 5 = .ok (.aconst_null, 1) := by decide +kernel
theorem d2_6 : decode jdk_42_method_3_code 6 = .ok (.invokespecial 27, 3) := by decide +kernel
theorem d2_9 : decode jdk_42_method_3_code 9 = .ok (.return_, 1) := by decide +kernel
theorem ef_rm_mk0 (m : MethodId) (x0 : Addr) (x1 : Addr) : entryFrame m #[(.ref x0), (.ref x1)] 2 = mkF m 0 #[.val (.ref x0), .val (.ref x1)] [] := by first | (simp [entryFrame, mkF, argsToLocals, Value.category]; done) | rfl
theorem pd_0 : parseMethodDescriptor "([CIILjava/lang/Void;)V" = some ⟨[(.array .char), .int, .int, (.object "java/lang/Void")], none⟩ := by decide +kernel
def Q_mk0 (Z : State) (oa : Addr) (oc : Addr) (vcs : Int32) (vf : Value) (kC : ClassId) (h0 : Heap) (n0 : Nat) (v : Option Value) (h : Heap) (L : List Loc) : Prop := v = none ∧ Fr n0 L ∧ Keep h0 h [oa] ∧ Exa Z h oa "java/lang/String" ∧ ∃ (ob : Addr) (kb : ClassId), Fld Z h oa "java/lang/String" "coder" "B" (.int (0 : Int32)) ∧ Fld Z h oa "java/lang/String" "value" "[B" (.ref ob) ∧ Arv Z h ob kb .byte (0 : Int32) [] (.int (0 : Int32))
set_option maxRecDepth 65536 in
set_option maxHeartbeats 40000000 in
theorem rm_mk0 (l : Launch) (Z : State) (a0 : Array Value) (hw : ∀ d ∈ tables_1, d.before a0 Z = true) (ws : List Jvm.Cond) (oa : Addr) (oc : Addr) (vcs : Int32) (vf : Value) (kC : ClassId) (h0 : Heap) (n0 : Nat) (Z0 : n0 ≤ h0.size) (Os : own_st Z h0 vcs vf) (Es : Exa Z h0 oa "java/lang/String") (Fc : Fld Z h0 oa "java/lang/String" "coder" "B" (.int (0 : Int32))) (Fv : Fld Z h0 oa "java/lang/String" "value" "[B" .null) (ga : n0 ≤ oa) (nac : oa ≠ oc) (Vc : Arv Z h0 oc kC .char (0 : Int32) [] (.int (0 : Int32))) :
    MetFree l (⟨"java/lang/String", "<init>", "([C)V"⟩ : MethodName) (head1 (Jvm.Cond.code (⟨"java/lang/String", "<init>", "([C)V"⟩ : MethodName) jdk_42_method_3_code 2 none :: ws) ({ frames := 2, cells := 4, slots := 8, locals := 29 } : Room)) (fun a U => a = #[(.ref oa), (.ref oc)] ∧ Z.Warmed39 U.vm ∧ U.heap = h0 ∧ CHv Z own_EL U.vm h0) (fun _ _ _ _ _ => True) (fun _ U o U' => ∃ v L, o = .returned v ∧ Q_mk0 Z oa oc vcs vf kC h0 n0 v U'.heap L ∧ CHr Z own_EL U.vm U.heap U'.vm U'.heap ∧ ReturnedEndW U o U' L ({ frames := 2, cells := 4, slots := 8, locals := 29 } : Room).cells ({ frames := 2, cells := 4, slots := 8, locals := 29 } : Room).slots) := by
  refine MetFree.of_bodySF (plainFor_of_name pn_1) hisR ?_
  intro p e s m args below meth c s₁ Bd hml0 hP hK
  obtain ⟨rfl, hZ, hh, hC⟩ := hP
  have hx := Bd.exec
  have hby := Bd.bytes
  have hml : c.maxLocals = 2 := hml0
  have hown : s.vm.findClass "java/lang/String" = some m.cls := findClass_of_methodNamed Bd.named
  have hnm := (name_of_methodNamed Bd.named Bd.method).1
  have X0 : Stand p l e ({ frames := 2, cells := 4, slots := 8, locals := 29 } : Room) (s.setVm s.vm) m #[(.ref oa), (.ref oc)] below meth c s₁ [] 0 0 := Stand.of_body Bd
  have e0 : s₁.heap = h0 := by rw [← hh, Bd.state]; rfl
  have N0 := Fr.nil n0
  have hEL := own_EW hw
  have wS := own_wS hw
  have CR0 : CHr Z own_EL s.vm h0 s.vm h0 := CHr.refl hC
  have hS0 : s.Since s.vm h0.size := (State.WarmedH.refl s).since _
  have hk0 : h0.size ≤ h0.size := Nat.le_refl _
  have pre0 : ∀ t, Steps p.tables e below (s₁.setTop (mkF m 0 #[.val (.ref oa), .val (.ref oc)] [])) t → Steps p.tables e below (s₁.setTop (entryFrame m #[(.ref oa), (.ref oc)] 2)) t := fun t k => castTop (ef_rm_mk0 m oa oc) k
  have Ua0 := own_safe_null (EL := own_EL) hZ.alike Es Fv
  obtain ⟨cl1, Ar1, q1, S1, M1, H1, G1⟩ := id Vc
  have pre2 : ∀ t, Steps p.tables e below (s₁.setTop (mkF m 6 #[.val (.ref oa), .val (.ref oc)] [.null, (.int (0 : Int32)), (.int (0 : Int32)), (.ref oc), (.ref oa)])) t → Steps p.tables e below (s₁.setTop (entryFrame m #[(.ref oa), (.ref oc)] 2)) t := fun t kt => by
    refine pre0 _ ?_
    refine XS.aloadN X0.here hx rfl (hb hby d2_0) rfl rfl ?_
    refine XS.aloadN X0.here hx rfl (hb hby d2_1) rfl rfl ?_
    refine XS.iconst X0.here hx rfl (hb hby d2_2) ?_
    refine XS.aloadN X0.here hx rfl (hb hby d2_3) rfl rfl ?_
    refine X0.arraylength hx (by rw [e0]; exact Ar1.1) (State.isArrayOf_alike hZ.alike Ar1.2.1) (g := (mkF m 4 #[.val (.ref oa), .val (.ref oc)] [(.ref oc), (.int (0 : Int32)), (.ref oc), (.ref oa)])) rfl rfl (hb hby d2_4) _ ?_
    rw [len_of S1 M1]
    refine XS.aconstNull X0.here hx rfl (hb hby d2_5) ?_
    exact kt
  obtain ⟨_, _, ⟨T3, L3, k3, n3⟩, -, Xp3, hSp3, hgp3, ⟨Lc3, hQ3, l3, y3, z3, CRn3⟩, st3⟩ := X0.specialBackS hx (y := (⟨"java/lang/String", "<init>", "([CIILjava/lang/Void;)V"⟩ : MethodName)) rfl hown (mvT hZ (hw _ (List.mem_of_getElem? (i := 12) rfl))) (mvT hZ (hw _ (List.mem_of_getElem? (i := 13) rfl))) (mvT hZ (hw _ (List.mem_of_getElem? (i := 15) rfl))) (by decide) (backOfSH (W := 0) (rm_iv0 l Z a0 hw [] oa oc vcs vf kC h0 n0 Z0 Os Es Fc Fv ga nac Vc) hZ (hw _ (List.mem_of_getElem? (i := 15) rfl)) (hw _ (List.mem_of_getElem? (i := 7) rfl)) (by decide) (by decide) hEL CR0.1) (g := (mkF m 6 #[.val (.ref oa), .val (.ref oc)] [.null, (.int (0 : Int32)), (.int (0 : Int32)), (.ref oc), (.ref oa)])) rfl (by rw [hml]; rfl) (Steps.refl _) (a := oa) (argsL := [(.ref oc), (.int (0 : Int32)), (.int (0 : Int32)), .null]) (rest := []) (lenOf pd_0 rfl) rfl (by show 2 * 0 + _ ≤ _; exact Nat.le_of_eq rfl) (hb hby d2_6) (fun _ _ => ⟨rfl, e0, (by decide : 0 + 4 ≤ _), (by decide : 0 + 8 ≤ _)⟩)
  dsimp only [Pt.U, Pt.locs, Pt.cells, Pt.slots] at Xp3 hSp3 hgp3 l3 y3 z3 st3 hQ3 CRn3
  rw [l3, y3, z3] at Xp3
  obtain ⟨X3, hS3, hZ, hown⟩ := rebS hS0 (n1 := s₁.heap.size) (by rw [e0]; exact hk0) Xp3 hSp3 hgp3 hZ hown
  have sf4 := CRn3.safe Es.lt Ua0
  have CR5 := CR0.trans CRn3
  obtain ⟨rfl, N3q, K3, A3, ob, kb, Fc3, Fv3, Vb3⟩ := hQ3
  have N3 := Fr.app N0 N3q
  have Zs6 : n0 ≤ T3.heap.size := Nat.le_trans Z0 K3.1
  obtain ⟨fs, hr, hrun, hended, hREW⟩ := X3.leaveW hS3 (Nat.le_refl T3.heap.size) (v := none) (fun _ => rfl)
  refine ⟨_, _, pre2 _ ?_, hrun, hended, _, _, rfl, ?_, ?_, ⟨hREW.1, hREW.2.1, hREW.2.2.1, hREW.2.2.2.mono (by decide) (by decide)⟩⟩
  · refine st3.trans ?_
    show Steps p.tables e below (T3.setTop (mkF m 9 #[.val (.ref oa), .val (.ref oc)] [])) _
    exact X3.returnOut hx Bd.returns (hb hby d2_9) hr
  · show Q_mk0 Z _ _ _ _ _ h0 n0 _ T3.heap _
    have f7 := ((Keep.refl h0 [oa]).trans K3 (allS (P := fun x => x ∈ [oa] ∨ h0.size ≤ x) (Or.inl (List.mem_of_getElem? (i := 0) rfl)) all0))
    exact ⟨rfl, N3, f7, A3, ob, _, Fc3, Fv3, Vb3⟩
  · show CHr Z own_EL s.vm s.heap T3.vm T3.heap
    rw [hh]
    exact CR5.trans (CHv.at X3 hZ hEL CR5.1)
theorem d1_0 : decode method_3_code 0 = .ok (.iload_n 0, 1) := by decide +kernel
theorem d1_1 : decode method_3_code 1 = .ok (.ifCond .ne 14, 3) := by decide +kernel
theorem d1_4 : decode method_3_code 4 = .ok (.new 7, 3) := by decide +kernel
theorem d1_7 : decode method_3_code 7 = .ok (.dup, 1) := by decide +kernel
theorem d1_8 : decode method_3_code 8 = .ok (.iconst 0, 1) := by decide +kernel
theorem d1_9 : decode method_3_code 9 = .ok (.newarray .char, 2) := by decide +kernel
theorem d1_11 : decode method_3_code 11 = .ok (.invokespecial 9, 3) := by decide +kernel
theorem d1_14 : decode method_3_code 14 = .ok (.areturn, 1) := by decide +kernel
theorem ef_rm_m0 (m : MethodId) (x1 : Int32) (x2 : Int32) (x3 : Int32) (x4 : Int32) : entryFrame m #[(.int (0 : Int32)), (.int x1), (.int x2), (.int x3), (.int x4)] 5 = mkF m 0 #[.val (.int (0 : Int32)), .val (.int x1), .val (.int x2), .val (.int x3), .val (.int x4)] [] := by first | (simp [entryFrame, mkF, argsToLocals, Value.category]; done) | rfl
theorem pd_1 : parseMethodDescriptor "([C)V" = some ⟨[(.array .char)], none⟩ := by decide +kernel
def Q_m0 (Z : State) (c0 : Int32) (c1 : Int32) (c2 : Int32) (c3 : Int32) (vcs : Int32) (vf : Value) (h0 : Heap) (n0 : Nat) (v : Option Value) (h : Heap) (L : List Loc) : Prop := ∃ (sa ob : Addr) (kb : ClassId), v = some (.ref sa) ∧ Fr n0 L ∧ Keep h0 h [] ∧ Exa Z h sa "java/lang/String" ∧ Fld Z h sa "java/lang/String" "coder" "B" (.int (0 : Int32)) ∧ Fld Z h sa "java/lang/String" "value" "[B" (.ref ob) ∧ Arv Z h ob kb .byte (0 : Int32) [] (.int (0 : Int32))
set_option maxRecDepth 65536 in
set_option maxHeartbeats 40000000 in
theorem rm_m0 (l : Launch) (Z : State) (a0 : Array Value) (hw : ∀ d ∈ tables_1, d.before a0 Z = true) (ws : List Jvm.Cond) (c0 : Int32) (c1 : Int32) (c2 : Int32) (c3 : Int32) (vcs : Int32) (vf : Value) (h0 : Heap) (n0 : Nat) (Z0 : n0 ≤ h0.size) (Os : own_st Z h0 vcs vf) (uc0 : 0 ≤ c0.toInt) (uc1 : 0 ≤ c1.toInt) (uc2 : 0 ≤ c2.toInt) (uc3 : 0 ≤ c3.toInt) (vc0 : c0.toInt ≤ 255) (vc1 : c1.toInt ≤ 255) (vc2 : c2.toInt ≤ 255) (vc3 : c3.toInt ≤ 255) :
    MetFree l (⟨"com/example/path_template_matcher/pathtemplatematcher/UriReferencePathEndPinLaw", "mk", "(ICCCC)Ljava/lang/String;"⟩ : MethodName) (head1 (Jvm.Cond.code (⟨"com/example/path_template_matcher/pathtemplatematcher/UriReferencePathEndPinLaw", "mk", "(ICCCC)Ljava/lang/String;"⟩ : MethodName) method_3_code 5 (some (.object "java/lang/String")) :: ws) ({ frames := 3, cells := 6, slots := 12, locals := 43 } : Room)) (fun a U => a = #[(.int (0 : Int32)), (.int c0), (.int c1), (.int c2), (.int c3)] ∧ Z.Warmed39 U.vm ∧ U.heap = h0 ∧ CHv Z own_EL U.vm h0) (fun _ _ _ _ _ => True) (fun _ U o U' => ∃ v L, o = .returned v ∧ Q_m0 Z c0 c1 c2 c3 vcs vf h0 n0 v U'.heap L ∧ CHr Z own_EL U.vm U.heap U'.vm U'.heap ∧ ReturnedEndW U o U' L ({ frames := 3, cells := 6, slots := 12, locals := 43 } : Room).cells ({ frames := 3, cells := 6, slots := 12, locals := 43 } : Room).slots) := by
  refine MetFree.of_bodySF (plainFor_of_name pn_0) hisR ?_
  intro p e s m args below meth c s₁ Bd hml0 hP hK
  obtain ⟨rfl, hZ, hh, hC⟩ := hP
  have hx := Bd.exec
  have hby := Bd.bytes
  have hml : c.maxLocals = 5 := hml0
  have hown : s.vm.findClass "com/example/path_template_matcher/pathtemplatematcher/UriReferencePathEndPinLaw" = some m.cls := findClass_of_methodNamed Bd.named
  have hnm := (name_of_methodNamed Bd.named Bd.method).1
  have X0 : Stand p l e ({ frames := 3, cells := 6, slots := 12, locals := 43 } : Room) (s.setVm s.vm) m #[(.int (0 : Int32)), (.int c0), (.int c1), (.int c2), (.int c3)] below meth c s₁ [] 0 0 := Stand.of_body Bd
  have e0 : s₁.heap = h0 := by rw [← hh, Bd.state]; rfl
  have N0 := Fr.nil n0
  have hEL := own_EW hw
  have wS := own_wS hw
  have CR0 : CHr Z own_EL s.vm h0 s.vm h0 := CHr.refl hC
  have hS0 : s.Since s.vm h0.size := (State.WarmedH.refl s).since _
  have hk0 : h0.size ≤ h0.size := Nat.le_refl _
  have pre0 : ∀ t, Steps p.tables e below (s₁.setTop (mkF m 0 #[.val (.int (0 : Int32)), .val (.int c0), .val (.int c1), .val (.int c2), .val (.int c3)] [])) t → Steps p.tables e below (s₁.setTop (entryFrame m #[(.int (0 : Int32)), (.int c0), (.int c1), (.int c2), (.int c3)] 5)) t := fun t k => castTop (ef_rm_m0 m c0 c1 c2 c3) k
  have hc1_1 : (0 : Int) = (0 : Int) := by decide
  obtain ⟨T2, h2, X2, e2, E2, A2, D2, -, st2⟩ := newO X0 hx hZ hown (hw _ (List.mem_of_getElem? (i := 5) rfl)) (hw _ (List.mem_of_getElem? (i := 6) rfl)) (hw _ (List.mem_of_getElem? (i := 7) rfl)) e0 (g := (mkF m 4 #[.val (.int (0 : Int32)), .val (.int c0), .val (.int c1), .val (.int c2), .val (.int c3)] [])) rfl (hb hby d1_4) (by decide) (by decide)
  obtain ⟨b2, g2⟩ : ∃ z, z = h0.size := ⟨_, rfl⟩
  have g_b2 : n0 ≤ b2 := Nat.le_trans Z0 (Nat.le_of_eq g2.symm)
  have sz_b2 : h0.size ≤ b2 := Nat.le_trans (Keep.refl h0 []).1 (Nat.le_of_eq g2.symm)
  have sf3 : Safe Z own_EL s.vm h0 b2 := Safe.new (Nat.le_of_eq g2.symm)
  rw [← g2] at A2 D2 st2
  have sf4 := (Safe.ext E2 CR0.1 sf3)
  have CR5 := (CR0.trans (CHr.ext E2 CR0.1))
  have hk6 := Nat.le_trans hk0 E2.1
  have Zs7 : n0 ≤ h2.size := Nat.le_trans Z0 E2.1
  have F2_value : Fld Z h2 b2 "java/lang/String" "value" "[B" .null := D2 (Or.inr (hw _ (List.mem_of_getElem? (i := 21) rfl))) (ty := (.array .byte)) (by decide)
  have F2_coder : Fld Z h2 b2 "java/lang/String" "coder" "B" (.int (0 : Int32)) := D2 (Or.inr (hw _ (List.mem_of_getElem? (i := 22) rfl))) (ty := .byte) (by decide)
  obtain ⟨T8, h8, k8, X8, e8, E8, A8, st8⟩ := newP X2 hx hZ (hw _ (List.mem_of_getElem? (i := 8) rfl)) e2 (g := (mkF m 9 #[.val (.int (0 : Int32)), .val (.int c0), .val (.int c1), .val (.int c2), .val (.int c3)] [(.int (0 : Int32)), (.ref b2), (.ref b2)])) rfl (hb hby d1_9) rfl (by decide) (cap := 0) (by decide) (by decide) (by decide) (by decide)
  obtain ⟨b8, g8⟩ : ∃ z, z = h2.size := ⟨_, rfl⟩
  have ne_b2_b8 : b2 ≠ b8 := Nat.ne_of_lt (Nat.lt_of_lt_of_le A2.lt (Nat.le_of_eq g8.symm))
  have g_b8 : n0 ≤ b8 := Nat.le_trans Zs7 (Nat.le_of_eq g8.symm)
  have f9 := ((Keep.refl h0 []).ext E2)
  have sz_b8 : h0.size ≤ b8 := Nat.le_trans f9.1 (Nat.le_of_eq g8.symm)
  have sf10 : Safe Z own_EL s.vm h2 b8 := Safe.new (Nat.le_of_eq g8.symm)
  rw [← g8] at A8 st8
  have sf11 := (Safe.ext E8 CR5.1 sf4)
  have sf12 := (Safe.ext E8 CR5.1 sf10)
  have CR13 := (CR5.trans (CHr.ext E8 CR5.1))
  have hk14 := Nat.le_trans hk6 E8.1
  have Zs15 : n0 ≤ h8.size := Nat.le_trans Zs7 E8.1
  have V8 : Arv Z h8 b8 k8 .char (0 : Int32) [] (.int (0 : Int32)) := (Arv.new A8 (by decide)).pad (pad_rep [] (.int (0 : Int32)) 0)
  have pre16 : ∀ t, Steps p.tables e below (T8.setTop (mkF m 11 #[.val (.int (0 : Int32)), .val (.int c0), .val (.int c1), .val (.int c2), .val (.int c3)] [(.ref b8), (.ref b2), (.ref b2)])) t → Steps p.tables e below (s₁.setTop (entryFrame m #[(.int (0 : Int32)), (.int c0), (.int c1), (.int c2), (.int c3)] 5)) t := fun t kt => by
    refine pre0 _ ?_
    refine XS.iloadN X0.here hx rfl (hb hby d1_0) rfl ?_
    refine XS.ifNo X0.here hx rfl (hb hby d1_1) rfl (own_if (own_teq (a := (0 : Int32)) (b := (0 : Int32)) (by decide) (by decide) hc1_1).2) ?_
    refine st2 _ ?_
    refine XS.dup X2.here hx rfl (hb hby d1_7) rfl rfl ?_
    refine XS.iconst X2.here hx rfl (hb hby d1_8) ?_
    refine st8 _ ?_
    exact kt
  have os17 := (own_st_ext (own_st_ext Os E2) E8)
  have f18 := (A2.ext E8)
  have f19 := (F2_coder.ext E8)
  have f20 := (F2_value.ext E8)
  obtain ⟨_, _, ⟨T21, L21, k21, n21⟩, -, Xp21, hSp21, hgp21, ⟨Lc21, hQ21, l21, y21, z21, CRn21⟩, st21⟩ := X8.specialBackS hx (y := (⟨"java/lang/String", "<init>", "([C)V"⟩ : MethodName)) rfl hown (mvT hZ (hw _ (List.mem_of_getElem? (i := 9) rfl))) (mvT hZ (hw _ (List.mem_of_getElem? (i := 10) rfl))) (mvT hZ (hw _ (List.mem_of_getElem? (i := 11) rfl))) (by decide) (backOfSH (W := 1) (rm_mk0 l Z a0 hw [] b2 b8 vcs vf k8 h8 n0 Zs15 os17 f18 f19 f20 g_b2 ne_b2_b8 V8) hZ (hw _ (List.mem_of_getElem? (i := 11) rfl)) (hw _ (List.mem_of_getElem? (i := 7) rfl)) (by decide) (by decide) hEL CR13.1) (g := (mkF m 11 #[.val (.int (0 : Int32)), .val (.int c0), .val (.int c1), .val (.int c2), .val (.int c3)] [(.ref b8), (.ref b2), (.ref b2)])) rfl (by rw [hml]; rfl) (Steps.refl _) (a := b2) (argsL := [(.ref b8)]) (rest := [(.ref b2)]) (lenOf pd_1 rfl) rfl (by show 2 * 0 + _ ≤ _; exact Nat.le_of_eq rfl) (hb hby d1_11) (fun _ _ => ⟨rfl, e8, (by decide : 2 + 4 ≤ _), (by decide : 4 + 8 ≤ _)⟩)
  dsimp only [Pt.U, Pt.locs, Pt.cells, Pt.slots] at Xp21 hSp21 hgp21 l21 y21 z21 st21 hQ21 CRn21
  rw [l21, y21, z21] at Xp21
  obtain ⟨X21, hS21, hZ, hown⟩ := rebS hS0 (n1 := T8.heap.size) (by rw [e8]; exact hk14) Xp21 hSp21 hgp21 hZ hown
  have sf22 := CRn21.safe f18.lt sf11
  have sf23 := CRn21.safe V8.lt sf12
  have CR24 := CR13.trans CRn21
  obtain ⟨rfl, N21q, K21, A21, ob21, kb21, Fc21, Fv21, Vb21⟩ := hQ21
  have N21 := Fr.app N0 N21q
  have Zs25 : n0 ≤ T21.heap.size := Nat.le_trans Zs15 K21.1
  obtain ⟨fs, hr, hrun, hended, hREW⟩ := X21.leaveW hS21 (Nat.le_refl T21.heap.size) (v := some (.ref b2)) (fun h => by rw [Bd.returns] at h; cases h)
  refine ⟨_, _, pre16 _ ?_, hrun, hended, _, _, rfl, ?_, ?_, ⟨hREW.1, hREW.2.1, hREW.2.2.1, hREW.2.2.2.mono (by decide) (by decide)⟩⟩
  · refine st21.trans ?_
    show Steps p.tables e below (T21.setTop (mkF m 14 #[.val (.int (0 : Int32)), .val (.int c0), .val (.int c1), .val (.int c2), .val (.int c3)] [(.ref b2)])) _
    jvm_step X21.here [X21.here.top, hx, (hb hby d1_14), X21.method', Bd.returns, Value.isRef, FieldType.isReference]
    first | (intro acts; rw [hr _ acts rfl rfl rfl]) | rw [hr _ _ rfl rfl rfl]
    exact Steps.refl _
  · show Q_m0 Z _ _ _ _ _ _ h0 n0 _ T21.heap _
    have f26 := ((f9.ext E8).trans K21 (allS (P := fun x => x ∈ [] ∨ h0.size ≤ x) (Or.inr sz_b2) all0))
    exact ⟨b2, ob21, _, rfl, N21, f26, A21, Fc21, Fv21, Vb21⟩
  · show CHr Z own_EL s.vm s.heap T21.vm T21.heap
    rw [hh]
    exact CR24.trans (CHv.at X21 hZ hEL CR24.1)
theorem d9_0 : decode jdk_52_method_21_code 0 = .ok (.iconst 0, 1) := by decide +kernel
theorem d9_1 : decode jdk_52_method_21_code 1 = .ok (.istore 5, 2) := by decide +kernel
theorem d9_3 : decode jdk_52_method_21_code 3 = .ok (.iload 5, 2) := by decide +kernel
theorem d9_5 : decode jdk_52_method_21_code 5 = .ok (.iload 4, 2) := by decide +kernel
theorem d9_7 : decode jdk_52_method_21_code 7 = .ok (.if_icmp .ge 37, 3) := by decide +kernel
theorem d9_10 : decode jdk_52_method_21_code 10 = .ok (.aload_n 0, 1) := by decide +kernel
theorem d9_11 : decode jdk_52_method_21_code 11 = .ok (.iload_n 1, 1) := by decide +kernel
theorem d9_12 : decode jdk_52_method_21_code 12 = .ok (.caload, 1) := by decide +kernel
theorem d9_13 : decode jdk_52_method_21_code 13 = .ok (.istore 6, 2) := by decide +kernel
theorem d9_15 : decode jdk_52_method_21_code 15 = .ok (.iload 6, 2) := by decide +kernel
theorem d9_17 : decode jdk_52_method_21_code 17 = .ok (.sipush 255, 3) := by decide +kernel
theorem d9_20 : decode jdk_52_method_21_code 20 = .ok (.if_icmp .le 6, 3) := by decide +kernel
theorem d9_26 : decode jdk_52_method_21_code 26 = .ok (.aload_n 2, 1) := by decide +kernel
theorem d9_27 : decode jdk_52_method_21_code 27 = .ok (.iload_n 3, 1) := by decide +kernel
theorem d9_28 : decode jdk_52_method_21_code 28 = .ok (.iload 6, 2) := by decide +kernel
theorem d9_30 : decode jdk_52_method_21_code 30 = .ok (.i2b, 1) := by decide +kernel
theorem d9_31 : decode jdk_52_method_21_code 31 = .ok (.bastore, 1) := by decide +kernel
theorem d9_32 : decode jdk_52_method_21_code 32 = .ok (.iinc 1 1, 3) := by decide +kernel
theorem d9_35 : decode jdk_52_method_21_code 35 = .ok (.iinc 3 1, 3) := by decide +kernel
theorem d9_38 : decode jdk_52_method_21_code 38 = .ok (.iinc 5 1, 3) := by decide +kernel
theorem d9_41 : decode jdk_52_method_21_code 41 = .ok (.goto (-38), 3) := by decide +kernel
theorem d9_44 : decode jdk_52_method_21_code 44 = .ok (.iload 4, 2) := by decide +kernel
theorem d9_46 : decode jdk_52_method_21_code 46 = .ok (.ireturn, 1) := by decide +kernel
theorem pn_2 : plainName "java/lang/StringUTF16" = true := by first | (simp [plainName, overriddenIn]; done) | decide +kernel
theorem ef_rm_cp1 (m : MethodId) (x0 : Addr) (x2 : Addr) : entryFrame m #[(.ref x0), (.int (0 : Int32)), (.ref x2), (.int (0 : Int32)), (.int (1 : Int32))] 7 = mkF m 0 #[.val (.ref x0), .val (.int (0 : Int32)), .val (.ref x2), .val (.int (0 : Int32)), .val (.int (1 : Int32)), .unset, .unset] [] := by first | (simp [entryFrame, mkF, argsToLocals, Value.category]; done) | rfl
def Q_cp1 (Z : State) (oc : Addr) (ob : Addr) (kC : ClassId) (c0 : Int32) (kb : ClassId) (h0 : Heap) (n0 : Nat) (v : Option Value) (h : Heap) (L : List Loc) : Prop := ∃ bb0 : Int32, v = some (.int (1 : Int32)) ∧ Fr n0 L ∧ Keep h0 h [ob] ∧ Arv Z h ob kb .byte (1 : Int32) [(.int bb0)] (.int (0 : Int32)) ∧ bb0.toInt % 256 = c0.toInt
set_option maxRecDepth 65536 in
set_option maxHeartbeats 40000000 in
theorem rm_cp1 (l : Launch) (Z : State) (a0 : Array Value) (hw : ∀ d ∈ tables_1, d.before a0 Z = true) (ws : List Jvm.Cond) (oc : Addr) (ob : Addr) (kC : ClassId) (c0 : Int32) (kb : ClassId) (h0 : Heap) (n0 : Nat) (Z0 : n0 ≤ h0.size) (Vc : Arv Z h0 oc kC .char (1 : Int32) [(.int c0)] (.int (0 : Int32))) (uc0 : 0 ≤ c0.toInt) (vc0 : c0.toInt ≤ 255) (Vb : Arv Z h0 ob kb .byte (1 : Int32) [(.int (0 : Int32))] (.int (0 : Int32))) (gb : n0 ≤ ob) (ncb : oc ≠ ob) :
    MetFree l (⟨"java/lang/StringUTF16", "compress", "([CI[BII)I"⟩ : MethodName) (head1 (Jvm.Cond.code (⟨"java/lang/StringUTF16", "compress", "([CI[BII)I"⟩ : MethodName) jdk_52_method_21_code 7 (some .int) :: ws) ({ frames := 0, cells := 0, slots := 0, locals := 0 } : Room)) (fun a U => a = #[(.ref oc), (.int (0 : Int32)), (.ref ob), (.int (0 : Int32)), (.int (1 : Int32))] ∧ Z.Warmed39 U.vm ∧ U.heap = h0) (fun _ _ _ _ _ => True) (fun _ U o U' => ∃ v L, o = .returned v ∧ Q_cp1 Z oc ob kC c0 kb h0 n0 v U'.heap L ∧ FrameEnd U o U' L ({ frames := 0, cells := 0, slots := 0, locals := 0 } : Room).cells ({ frames := 0, cells := 0, slots := 0, locals := 0 } : Room).slots) := by
  refine MetFree.of_bodySF (plainFor_of_name pn_2) hisR ?_
  intro p e s m args below meth c s₁ Bd hml0 hP hK
  obtain ⟨rfl, hZ, hh⟩ := hP
  have hx := Bd.exec
  have hby := Bd.bytes
  have hml : c.maxLocals = 7 := hml0
  have hown : s.vm.findClass "java/lang/StringUTF16" = some m.cls := findClass_of_methodNamed Bd.named
  have hnm := (name_of_methodNamed Bd.named Bd.method).1
  have X0 : Stand p l e ({ frames := 0, cells := 0, slots := 0, locals := 0 } : Room) s m #[(.ref oc), (.int (0 : Int32)), (.ref ob), (.int (0 : Int32)), (.int (1 : Int32))] below meth c s₁ [] 0 0 := Stand.of_body Bd
  have e0 : s₁.heap = h0 := by rw [← hh, Bd.state]; rfl
  have N0 := Fr.nil n0
  have pre0 : ∀ t, Steps p.tables e below (s₁.setTop (mkF m 0 #[.val (.ref oc), .val (.int (0 : Int32)), .val (.ref ob), .val (.int (0 : Int32)), .val (.int (1 : Int32)), .unset, .unset] [])) t → Steps p.tables e below (s₁.setTop (entryFrame m #[(.ref oc), (.int (0 : Int32)), (.ref ob), (.int (0 : Int32)), (.int (1 : Int32))] 7)) t := fun t k => castTop (ef_rm_cp1 m oc ob) k
  have hc7_1 : (0 : Int) < (1 : Int) := by decide
  obtain ⟨cl2, Ar2, q2, S2, M2, H2, G2⟩ := id Vc
  have hin2 : ¬ ((0 : Int32) < 0 ∨ cl2.slots.size ≤ ((0 : Int32)).toNatClampNeg) := inb_of S2 ⟨by decide, by decide⟩
  have hat2 : cl2.slots[((0 : Int32)).toNatClampNeg]? = some (.int c0) := Has.at H2 hin2 rfl
  have hc20_3 : ¬ ((255 : Int) < c0.toInt) := by omega
  obtain ⟨cl4, Ar4, q4, S4, M4, H4, G4⟩ := id Vb
  have hin4 : ¬ ((0 : Int32) < 0 ∨ cl4.slots.size ≤ ((0 : Int32)).toNatClampNeg) := inb_of S4 ⟨by decide, by decide⟩
  obtain ⟨T5, h5, X5, e5, W5, st5⟩ := stB X0 hx hZ e0 Ar4 (j := (0 : Int32)) hin4 (g := (mkF m 31 #[.val (.ref oc), .val (.int (0 : Int32)), .val (.ref ob), .val (.int (0 : Int32)), .val (.int (1 : Int32)), .val (.int (0 : Int32)), .val (.int c0)] [(.int (c0.toInt8.toInt32)), (.int (0 : Int32)), (.ref ob)])) rfl rfl (hb hby d9_31)
  have N5 := Fr.snoc X5 N0 gb
  have Zs6 : n0 ≤ h5.size := by rw [W5.size]; exact Z0
  have V5 : Arv Z h5 ob kb .byte (1 : Int32) [(.int (nar .byte (c0.toInt8.toInt32)))] (.int (0 : Int32)) := Arv.set Ar4 q4 S4 M4 H4 G4 (fits_nar_byte _) W5 0 rfl (Nat.le_of_ble_eq_true rfl)
  have hc7_7 : ¬ ((1 : Int) < (1 : Int)) := by decide
  obtain ⟨fs, hr, hrun, hended, hW, hsame⟩ := X5.leave (v := some (.int (1 : Int32))) (fun h => by rw [Bd.returns] at h; cases h)
  refine ⟨_, _, pre0 _ ?_, hrun, hended, _, _, rfl, ?_, ⟨_, rfl⟩, hW, hsame.mono (by decide) (by decide)⟩
  · refine XS.iconst X0.here hx rfl (hb hby d9_0) ?_
    refine XS.istore X0.here hx rfl (hb hby d9_1) rfl (l' := #[.val (.ref oc), .val (.int (0 : Int32)), .val (.ref ob), .val (.int (0 : Int32)), .val (.int (1 : Int32)), .val (.int (0 : Int32)), .unset]) rfl ?_
    refine XS.iload X0.here hx rfl (hb hby d9_3) rfl ?_
    refine XS.iload X0.here hx rfl (hb hby d9_5) rfl ?_
    refine XS.icmpNo X0.here hx rfl (hb hby d9_7) rfl (own_tlt (a := (0 : Int32)) (b := (1 : Int32)) (by decide) (by decide) hc7_1).2.1 ?_
    refine XS.aloadN X0.here hx rfl (hb hby d9_10) rfl rfl ?_
    refine XS.iloadN X0.here hx rfl (hb hby d9_11) rfl ?_
    show Steps p.tables e below (s₁.setTop (mkF m 12 #[.val (.ref oc), .val (.int (0 : Int32)), .val (.ref ob), .val (.int (0 : Int32)), .val (.int (1 : Int32)), .val (.int (0 : Int32)), .unset] [(.int (0 : Int32)), (.ref oc)])) _
    refine X0.caload hx (j := (0 : Int32)) (v := (.int c0)) (by rw [e0]; exact Ar2.1) (State.isArrayOf_alike hZ.alike Ar2.2.1) Ar2.2.2 hin2 hat2 (g := (mkF m 12 #[.val (.ref oc), .val (.int (0 : Int32)), .val (.ref ob), .val (.int (0 : Int32)), .val (.int (1 : Int32)), .val (.int (0 : Int32)), .unset] [(.int (0 : Int32)), (.ref oc)])) rfl rfl (hb hby d9_12) _ ?_
    refine XS.istore X0.here hx rfl (hb hby d9_13) rfl (l' := #[.val (.ref oc), .val (.int (0 : Int32)), .val (.ref ob), .val (.int (0 : Int32)), .val (.int (1 : Int32)), .val (.int (0 : Int32)), .val (.int c0)]) rfl ?_
    refine XS.iload X0.here hx rfl (hb hby d9_15) rfl ?_
    refine XS.sipush X0.here hx rfl (hb hby d9_17) ?_
    refine XS.icmpYes X0.here hx rfl (pc0 := 20) (pc' := 26) rfl (hb hby d9_20) rfl (own_flt (a := (255 : Int32)) (b := c0) (by decide) rfl hc20_3).2.2.2 (by decide) (by decide) ?_
    refine XS.aloadN X0.here hx rfl (hb hby d9_26) rfl rfl ?_
    refine XS.iloadN X0.here hx rfl (hb hby d9_27) rfl ?_
    refine XS.iload X0.here hx rfl (hb hby d9_28) rfl ?_
    show Steps p.tables e below (s₁.setTop (mkF m 30 #[.val (.ref oc), .val (.int (0 : Int32)), .val (.ref ob), .val (.int (0 : Int32)), .val (.int (1 : Int32)), .val (.int (0 : Int32)), .val (.int c0)] [(.int c0), (.int (0 : Int32)), (.ref ob)])) _
    refine XS.i2b X0.here hx rfl (hb hby d9_30) rfl ?_
    refine st5 _ ?_
    refine XS.iinc X5.here hx rfl (hb hby d9_32) rfl (l' := #[.val (.ref oc), .val (.int (1 : Int32)), .val (.ref ob), .val (.int (0 : Int32)), .val (.int (1 : Int32)), .val (.int (0 : Int32)), .val (.int c0)]) rfl ?_
    refine XS.iinc X5.here hx rfl (hb hby d9_35) rfl (l' := #[.val (.ref oc), .val (.int (1 : Int32)), .val (.ref ob), .val (.int (1 : Int32)), .val (.int (1 : Int32)), .val (.int (0 : Int32)), .val (.int c0)]) rfl ?_
    refine XS.iinc X5.here hx rfl (hb hby d9_38) rfl (l' := #[.val (.ref oc), .val (.int (1 : Int32)), .val (.ref ob), .val (.int (1 : Int32)), .val (.int (1 : Int32)), .val (.int (1 : Int32)), .val (.int c0)]) rfl ?_
    refine XS.goto X5.here hx rfl (pc0 := 41) (pc' := 3) rfl (hb hby d9_41) (by decide) (by decide) ?_
    refine XS.iload X5.here hx rfl (hb hby d9_3) rfl ?_
    refine XS.iload X5.here hx rfl (hb hby d9_5) rfl ?_
    show Steps p.tables e below (T5.setTop (mkF m 7 #[.val (.ref oc), .val (.int (1 : Int32)), .val (.ref ob), .val (.int (1 : Int32)), .val (.int (1 : Int32)), .val (.int (1 : Int32)), .val (.int c0)] [(.int (1 : Int32)), (.int (1 : Int32))])) _
    refine XS.icmpYes X5.here hx rfl (pc0 := 7) (pc' := 44) rfl (hb hby d9_7) rfl (own_flt (a := (1 : Int32)) (b := (1 : Int32)) (by decide) (by decide) hc7_7).2.1 (by decide) (by decide) ?_
    refine XS.iload X5.here hx rfl (hb hby d9_44) rfl ?_
    exact retI X5 hx Bd.returns (hb hby d9_46) hr
  · show Q_cp1 Z _ _ _ _ _ h0 n0 _ T5.heap _
    rw [e5]
    have f8 := ((Keep.refl h0 [ob]).wr W5 (Or.inl (List.mem_of_getElem? (i := 0) rfl)))
    exact ⟨_, rfl, N5, f8, V5, own_b2 c0 uc0 vc0⟩
theorem d8_0 : decode jdk_52_method_16_code 0 = .ok (.iload_n 2, 1) := by decide +kernel
theorem d8_1 : decode jdk_52_method_16_code 1 = .ok (.newarray .byte, 2) := by decide +kernel
theorem d8_3 : decode jdk_52_method_16_code 3 = .ok (.astore_n 3, 1) := by decide +kernel
theorem d8_4 : decode jdk_52_method_16_code 4 = .ok (.aload_n 0, 1) := by decide +kernel
theorem d8_5 : decode jdk_52_method_16_code 5 = .ok (.iload_n 1, 1) := by decide +kernel
theorem d8_6 : decode jdk_52_method_16_code 6 = .ok (.aload_n 3, 1) := by decide +kernel
theorem d8_7 : decode jdk_52_method_16_code 7 = .ok (.iconst 0, 1) := by decide +kernel
theorem d8_8 : decode jdk_52_method_16_code 8 = .ok (.iload_n 2, 1) := by decide +kernel
theorem d8_9 : decode jdk_52_method_16_code 9 = .ok (.invokestatic 115, 3) := by decide +kernel
theorem d8_12 : decode jdk_52_method_16_code 12 = .ok (.istore 4, 2) := by decide +kernel
theorem d8_14 : decode jdk_52_method_16_code 14 = .ok (.iload 4, 2) := by decide +kernel
theorem d8_16 : decode jdk_52_method_16_code 16 = .ok (.iload_n 2, 1) := by decide +kernel
theorem d8_17 : decode jdk_52_method_16_code 17 = .ok (.if_icmp .eq 40, 3) := by decide +kernel
theorem d8_57 : decode jdk_52_method_16_code 57 = .ok (.aload_n 3, 1) := by decide +kernel
theorem d8_58 : decode jdk_52_method_16_code 58 = .ok (.areturn, 1) := by decide +kernel
theorem ef_rm_cm1 (m : MethodId) (x0 : Addr) : entryFrame m #[(.ref x0), (.int (0 : Int32)), (.int (1 : Int32))] 6 = mkF m 0 #[.val (.ref x0), .val (.int (0 : Int32)), .val (.int (1 : Int32)), .unset, .unset, .unset] [] := by first | (simp [entryFrame, mkF, argsToLocals, Value.category]; done) | rfl
theorem pd_2 : parseMethodDescriptor "([CI[BII)I" = some ⟨[(.array .char), .int, (.array .byte), .int, .int], some .int⟩ := by decide +kernel
def Q_cm1 (Z : State) (oc : Addr) (kC : ClassId) (c0 : Int32) (h0 : Heap) (n0 : Nat) (v : Option Value) (h : Heap) (L : List Loc) : Prop := ∃ (ob : Addr) (kb : ClassId) (bb0 : Int32), v = some (.ref ob) ∧ Fr n0 L ∧ Keep h0 h [] ∧ n0 ≤ ob ∧ h0.size ≤ ob ∧ Arv Z h ob kb .byte (1 : Int32) [(.int bb0)] (.int (0 : Int32)) ∧ bb0.toInt % 256 = c0.toInt
set_option maxRecDepth 65536 in
set_option maxHeartbeats 40000000 in
theorem rm_cm1 (l : Launch) (Z : State) (a0 : Array Value) (hw : ∀ d ∈ tables_1, d.before a0 Z = true) (ws : List Jvm.Cond) (oc : Addr) (kC : ClassId) (c0 : Int32) (h0 : Heap) (n0 : Nat) (Z0 : n0 ≤ h0.size) (Vc : Arv Z h0 oc kC .char (1 : Int32) [(.int c0)] (.int (0 : Int32))) (uc0 : 0 ≤ c0.toInt) (vc0 : c0.toInt ≤ 255) :
    MetFree l (⟨"java/lang/StringUTF16", "compress", "([CII)[B"⟩ : MethodName) (head1 (Jvm.Cond.code (⟨"java/lang/StringUTF16", "compress", "([CII)[B"⟩ : MethodName) jdk_52_method_16_code 6 (some (.array .byte)) :: ws) ({ frames := 1, cells := 1, slots := 1, locals := 18 } : Room)) (fun a U => a = #[(.ref oc), (.int (0 : Int32)), (.int (1 : Int32))] ∧ Z.Warmed39 U.vm ∧ U.heap = h0) (fun _ _ _ _ _ => True) (fun _ U o U' => ∃ v L, o = .returned v ∧ Q_cm1 Z oc kC c0 h0 n0 v U'.heap L ∧ FrameEnd U o U' L ({ frames := 1, cells := 1, slots := 1, locals := 18 } : Room).cells ({ frames := 1, cells := 1, slots := 1, locals := 18 } : Room).slots) := by
  refine MetFree.of_bodySF (plainFor_of_name pn_2) hisR ?_
  intro p e s m args below meth c s₁ Bd hml0 hP hK
  obtain ⟨rfl, hZ, hh⟩ := hP
  have hx := Bd.exec
  have hby := Bd.bytes
  have hml : c.maxLocals = 6 := hml0
  have hown : s.vm.findClass "java/lang/StringUTF16" = some m.cls := findClass_of_methodNamed Bd.named
  have hnm := (name_of_methodNamed Bd.named Bd.method).1
  have X0 : Stand p l e ({ frames := 1, cells := 1, slots := 1, locals := 18 } : Room) s m #[(.ref oc), (.int (0 : Int32)), (.int (1 : Int32))] below meth c s₁ [] 0 0 := Stand.of_body Bd
  have e0 : s₁.heap = h0 := by rw [← hh, Bd.state]; rfl
  have N0 := Fr.nil n0
  have pre0 : ∀ t, Steps p.tables e below (s₁.setTop (mkF m 0 #[.val (.ref oc), .val (.int (0 : Int32)), .val (.int (1 : Int32)), .unset, .unset, .unset] [])) t → Steps p.tables e below (s₁.setTop (entryFrame m #[(.ref oc), (.int (0 : Int32)), (.int (1 : Int32))] 6)) t := fun t k => castTop (ef_rm_cm1 m oc) k
  obtain ⟨T1, h1, k1, X1, e1, E1, A1, st1⟩ := newP X0 hx hZ (hw _ (List.mem_of_getElem? (i := 20) rfl)) e0 (g := (mkF m 1 #[.val (.ref oc), .val (.int (0 : Int32)), .val (.int (1 : Int32)), .unset, .unset, .unset] [(.int (1 : Int32))])) rfl (hb hby d8_1) rfl (by decide) (cap := 1) (by decide) (by decide) (by decide) (by decide)
  obtain ⟨b1, g1⟩ : ∃ z, z = h0.size := ⟨_, rfl⟩
  have ne_oc_b1 : oc ≠ b1 := Nat.ne_of_lt (Nat.lt_of_lt_of_le Vc.lt (Nat.le_of_eq g1.symm))
  have g_b1 : n0 ≤ b1 := Nat.le_trans Z0 (Nat.le_of_eq g1.symm)
  have sz_b1 : h0.size ≤ b1 := Nat.le_trans (Keep.refl h0 []).1 (Nat.le_of_eq g1.symm)
  rw [← g1] at A1 st1
  have Zs2 : n0 ≤ h1.size := Nat.le_trans Z0 E1.1
  have V1 : Arv Z h1 b1 k1 .byte (1 : Int32) [(.int (0 : Int32))] (.int (0 : Int32)) := (Arv.new A1 (by decide)).pad (pad_rep [] (.int (0 : Int32)) 1)
  have f4 := (Vc.ext E1)
  obtain ⟨_, _, ⟨T3, L3, k3, n3⟩, -, X3, ⟨Lc3, hQ3, l3, y3, z3⟩, st3⟩ := Jvm.LawKit.callS X1 hx (y := (⟨"java/lang/StringUTF16", "compress", "([CI[BII)I"⟩ : MethodName)) hown (mvT hZ (hw _ (List.mem_of_getElem? (i := 46) rfl))) (mvT hZ (hw _ (List.mem_of_getElem? (i := 47) rfl))) (mvT hZ (hw _ (List.mem_of_getElem? (i := 44) rfl))) (mvT hZ (hw _ (List.mem_of_getElem? (i := 48) rfl))) (by decide) (backOf (W := 0) (rm_cp1 l Z a0 hw [] oc b1 kC c0 k1 h1 n0 Zs2 f4 uc0 vc0 V1 g_b1 ne_oc_b1) hZ (hw _ (List.mem_of_getElem? (i := 48) rfl)) (hw _ (List.mem_of_getElem? (i := 44) rfl)) (by decide) (by decide)) (g := (mkF m 9 #[.val (.ref oc), .val (.int (0 : Int32)), .val (.int (1 : Int32)), .val (.ref b1), .unset, .unset] [(.int (1 : Int32)), (.int (0 : Int32)), (.ref b1), (.int (0 : Int32)), (.ref oc)])) rfl (by rw [hml]; rfl) (argsL := [(.ref oc), (.int (0 : Int32)), (.ref b1), (.int (0 : Int32)), (.int (1 : Int32))]) (rest := []) (lenOf pd_2 rfl) rfl (by show 2 * 0 + _ ≤ _; exact Nat.le_of_eq rfl) (hb hby d8_9) (fun _ _ => ⟨rfl, e1, (by decide : 1 + 0 ≤ _), (by decide : 1 + 0 ≤ _)⟩)
  dsimp only [Pt.U, Pt.locs, Pt.cells, Pt.slots] at X3 l3 y3 z3 st3 hQ3
  rw [l3, y3, z3] at X3
  obtain ⟨bb0, rfl, N3q, K3, Vb3, qbb0⟩ := hQ3
  have N3 := Fr.app N0 N3q
  have Zs5 : n0 ≤ T3.heap.size := Nat.le_trans Zs2 K3.1
  have hc17_6 : (1 : Int) = (1 : Int) := by decide
  obtain ⟨fs, hr, hrun, hended, hW, hsame⟩ := X3.leave (v := some (.ref b1)) (fun h => by rw [Bd.returns] at h; cases h)
  refine ⟨_, _, pre0 _ ?_, hrun, hended, _, _, rfl, ?_, ⟨_, rfl⟩, hW, hsame.mono (by decide) (by decide)⟩
  · refine XS.iloadN X0.here hx rfl (hb hby d8_0) rfl ?_
    refine st1 _ ?_
    refine XS.astoreN X1.here hx rfl (hb hby d8_3) rfl rfl (l' := #[.val (.ref oc), .val (.int (0 : Int32)), .val (.int (1 : Int32)), .val (.ref b1), .unset, .unset]) rfl ?_
    refine XS.aloadN X1.here hx rfl (hb hby d8_4) rfl rfl ?_
    refine XS.iloadN X1.here hx rfl (hb hby d8_5) rfl ?_
    refine XS.aloadN X1.here hx rfl (hb hby d8_6) rfl rfl ?_
    refine XS.iconst X1.here hx rfl (hb hby d8_7) ?_
    show Steps p.tables e below (T1.setTop (mkF m 8 #[.val (.ref oc), .val (.int (0 : Int32)), .val (.int (1 : Int32)), .val (.ref b1), .unset, .unset] [(.int (0 : Int32)), (.ref b1), (.int (0 : Int32)), (.ref oc)])) _
    refine XS.iloadN X1.here hx rfl (hb hby d8_8) rfl ?_
    refine st3 _ ?_
    refine XS.istore X3.here hx rfl (hb hby d8_12) rfl (l' := #[.val (.ref oc), .val (.int (0 : Int32)), .val (.int (1 : Int32)), .val (.ref b1), .val (.int (1 : Int32)), .unset]) rfl ?_
    refine XS.iload X3.here hx rfl (hb hby d8_14) rfl ?_
    refine XS.iloadN X3.here hx rfl (hb hby d8_16) rfl ?_
    refine XS.icmpYes X3.here hx rfl (pc0 := 17) (pc' := 57) rfl (hb hby d8_17) rfl (own_teq (a := (1 : Int32)) (b := (1 : Int32)) (by decide) (by decide) hc17_6).1 (by decide) (by decide) ?_
    refine XS.aloadN X3.here hx rfl (hb hby d8_57) rfl rfl ?_
    jvm_step X3.here [X3.here.top, hx, (hb hby d8_58), X3.method', Bd.returns, Value.isRef, FieldType.isReference]
    first | (intro acts; rw [hr _ acts rfl rfl rfl]) | rw [hr _ _ rfl rfl rfl]
    exact Steps.refl _
  · show Q_cm1 Z _ _ _ h0 n0 _ T3.heap _
    have f7 := (((Keep.refl h0 []).ext E1).trans K3 (allS (P := fun x => x ∈ [] ∨ h0.size ≤ x) (Or.inr sz_b1) all0))
    exact ⟨b1, _, bb0, rfl, N3, f7, g_b1, sz_b1, Vb3, qbb0⟩
theorem d10_0 : decode jdk_52_method_15_code 0 = .ok (.iload_n 1, 1) := by decide +kernel
theorem d10_1 : decode jdk_52_method_15_code 1 = .ok (.aload_n 0, 1) := by decide +kernel
theorem d10_2 : decode jdk_52_method_15_code 2 = .ok (.arraylength, 1) := by decide +kernel
theorem d10_3 : decode jdk_52_method_15_code 3 = .ok (.isub, 1) := by decide +kernel
theorem d10_4 : decode jdk_52_method_15_code 4 = .ok (.bipush 31, 2) := by decide +kernel
theorem d10_6 : decode jdk_52_method_15_code 6 = .ok (.iushr, 1) := by decide +kernel
theorem d10_7 : decode jdk_52_method_15_code 7 = .ok (.i2b, 1) := by decide +kernel
theorem d10_8 : decode jdk_52_method_15_code 8 = .ok (.ireturn, 1) := by decide +kernel
theorem ef_rm_cf1_0 (m : MethodId) (x0 : Addr) : entryFrame m #[(.ref x0), (.int (1 : Int32))] 2 = mkF m 0 #[.val (.ref x0), .val (.int (1 : Int32))] [] := by first | (simp [entryFrame, mkF, argsToLocals, Value.category]; done) | rfl
def Q_cf1_0 (Z : State) (ob : Addr) (kb : ClassId) (vs : List Value) (h0 : Heap) (n0 : Nat) (v : Option Value) (h : Heap) (L : List Loc) : Prop := ∃ z : Int32, v = some (.int z) ∧ (z = (0 : Int32)) ∧ Fr n0 L ∧ h = h0
set_option maxRecDepth 65536 in
set_option maxHeartbeats 40000000 in
theorem rm_cf1_0 (l : Launch) (Z : State) (a0 : Array Value) (hw : ∀ d ∈ tables_1, d.before a0 Z = true) (ws : List Jvm.Cond) (ob : Addr) (kb : ClassId) (vs : List Value) (h0 : Heap) (n0 : Nat) (Z0 : n0 ≤ h0.size) (Vb : Arv Z h0 ob kb .byte (1 : Int32) vs (.int (0 : Int32))) :
    MetFree l (⟨"java/lang/StringUTF16", "coderFromArrayLen", "([BI)B"⟩ : MethodName) (head1 (Jvm.Cond.code (⟨"java/lang/StringUTF16", "coderFromArrayLen", "([BI)B"⟩ : MethodName) jdk_52_method_15_code 2 (some .byte) :: ws) ({ frames := 0, cells := 0, slots := 0, locals := 0 } : Room)) (fun a U => a = #[(.ref ob), (.int (1 : Int32))] ∧ Z.Warmed39 U.vm ∧ U.heap = h0) (fun _ _ _ _ _ => True) (fun _ U o U' => ∃ v L, o = .returned v ∧ Q_cf1_0 Z ob kb vs h0 n0 v U'.heap L ∧ FrameEnd U o U' L ({ frames := 0, cells := 0, slots := 0, locals := 0 } : Room).cells ({ frames := 0, cells := 0, slots := 0, locals := 0 } : Room).slots) := by
  refine MetFree.of_bodySF (plainFor_of_name pn_2) hisR ?_
  intro p e s m args below meth c s₁ Bd hml0 hP hK
  obtain ⟨rfl, hZ, hh⟩ := hP
  have hx := Bd.exec
  have hby := Bd.bytes
  have hml : c.maxLocals = 2 := hml0
  have hown : s.vm.findClass "java/lang/StringUTF16" = some m.cls := findClass_of_methodNamed Bd.named
  have hnm := (name_of_methodNamed Bd.named Bd.method).1
  have X0 : Stand p l e ({ frames := 0, cells := 0, slots := 0, locals := 0 } : Room) s m #[(.ref ob), (.int (1 : Int32))] below meth c s₁ [] 0 0 := Stand.of_body Bd
  have e0 : s₁.heap = h0 := by rw [← hh, Bd.state]; rfl
  have N0 := Fr.nil n0
  have pre0 : ∀ t, Steps p.tables e below (s₁.setTop (mkF m 0 #[.val (.ref ob), .val (.int (1 : Int32))] [])) t → Steps p.tables e below (s₁.setTop (entryFrame m #[(.ref ob), (.int (1 : Int32))] 2)) t := fun t k => castTop (ef_rm_cf1_0 m ob) k
  obtain ⟨cl1, Ar1, q1, S1, M1, H1, G1⟩ := id Vb
  obtain ⟨fs, hr, hrun, hended, hW, hsame⟩ := X0.leave (v := some (.int (0 : Int32))) (fun h => by rw [Bd.returns] at h; cases h)
  refine ⟨_, _, pre0 _ ?_, hrun, hended, _, _, rfl, ?_, ⟨_, rfl⟩, hW, hsame.mono (by decide) (by decide)⟩
  · refine XS.iloadN X0.here hx rfl (hb hby d10_0) rfl ?_
    refine XS.aloadN X0.here hx rfl (hb hby d10_1) rfl rfl ?_
    refine X0.arraylength hx (by rw [e0]; exact Ar1.1) (State.isArrayOf_alike hZ.alike Ar1.2.1) (g := (mkF m 2 #[.val (.ref ob), .val (.int (1 : Int32))] [(.ref ob), (.int (1 : Int32))])) rfl rfl (hb hby d10_2) _ ?_
    rw [len_of S1 M1]
    refine XS.isub X0.here hx rfl (hb hby d10_3) rfl ?_
    refine XS.bipush X0.here hx rfl (hb hby d10_4) ?_
    refine XS.iushr X0.here hx rfl (hb hby d10_6) rfl ?_
    refine XS.i2b X0.here hx rfl (hb hby d10_7) rfl ?_
    show Steps p.tables e below (s₁.setTop (mkF m 8 #[.val (.ref ob), .val (.int (1 : Int32))] [(.int (0 : Int32))])) _
    exact retN X0 hx (t := .byte) Bd.returns (by simp) (hb hby d10_8) hr
  · show Q_cf1_0 Z _ _ _ h0 n0 _ s₁.heap _
    rw [e0]
    exact ⟨_, rfl, rfl, N0, rfl⟩
theorem d3_27 : decode jdk_42_method_149_code 27 = .ok (.getstatic 38, 3) := by decide +kernel
theorem d3_30 : decode jdk_42_method_149_code 30 = .ok (.ifCond .eq 28, 3) := by decide +kernel
theorem d3_33 : decode jdk_42_method_149_code 33 = .ok (.aload_n 1, 1) := by decide +kernel
theorem d3_34 : decode jdk_42_method_149_code 34 = .ok (.iload_n 2, 1) := by decide +kernel
theorem d3_35 : decode jdk_42_method_149_code 35 = .ok (.iload_n 3, 1) := by decide +kernel
theorem d3_36 : decode jdk_42_method_149_code 36 = .ok (.invokestatic 177, 3) := by decide +kernel
theorem d3_39 : decode jdk_42_method_149_code 39 = .ok (.astore 5, 2) := by decide +kernel
theorem d3_41 : decode jdk_42_method_149_code 41 = .ok (.aload_n 0, 1) := by decide +kernel
theorem d3_42 : decode jdk_42_method_149_code 42 = .ok (.aload 5, 2) := by decide +kernel
theorem d3_44 : decode jdk_42_method_149_code 44 = .ok (.iload_n 3, 1) := by decide +kernel
theorem d3_45 : decode jdk_42_method_149_code 45 = .ok (.invokestatic 47, 3) := by decide +kernel
theorem d3_48 : decode jdk_42_method_149_code 48 = .ok (.putfield 15, 3) := by decide +kernel
theorem d3_51 : decode jdk_42_method_149_code 51 = .ok (.aload_n 0, 1) := by decide +kernel
theorem d3_52 : decode jdk_42_method_149_code 52 = .ok (.aload 5, 2) := by decide +kernel
theorem d3_54 : decode jdk_42_method_149_code 54 = .ok (.putfield 9, 3) := by decide +kernel
theorem d3_57 : decode jdk_42_method_149_code 57 = .ok (.return_, 1) := by decide +kernel
theorem ef_rm_iv1 (m : MethodId) (x0 : Addr) (x1 : Addr) : entryFrame m #[(.ref x0), (.ref x1), (.int (0 : Int32)), (.int (1 : Int32)), .null] 6 = mkF m 0 #[.val (.ref x0), .val (.ref x1), .val (.int (0 : Int32)), .val (.int (1 : Int32)), .val .null, .unset] [] := by first | (simp [entryFrame, mkF, argsToLocals, Value.category]; done) | rfl
theorem pd_3 : parseMethodDescriptor "([CII)[B" = some ⟨[(.array .char), .int, .int], some (.array .byte)⟩ := by decide +kernel
theorem pd_4 : parseMethodDescriptor "([BI)B" = some ⟨[(.array .byte), .int], some .byte⟩ := by decide +kernel
def Q_iv1 (Z : State) (oa : Addr) (oc : Addr) (vcs : Int32) (vf : Value) (kC : ClassId) (c0 : Int32) (h0 : Heap) (n0 : Nat) (v : Option Value) (h : Heap) (L : List Loc) : Prop := v = none ∧ Fr n0 L ∧ Keep h0 h [oa] ∧ Exa Z h oa "java/lang/String" ∧ ∃ (ob : Addr) (kb : ClassId) (bb0 : Int32), n0 ≤ ob ∧ h0.size ≤ ob ∧ Fld Z h oa "java/lang/String" "coder" "B" (.int (0 : Int32)) ∧ Fld Z h oa "java/lang/String" "value" "[B" (.ref ob) ∧ Arv Z h ob kb .byte (1 : Int32) [(.int bb0)] (.int (0 : Int32)) ∧ bb0.toInt % 256 = c0.toInt
set_option maxRecDepth 65536 in
set_option maxHeartbeats 40000000 in
theorem rm_iv1 (l : Launch) (Z : State) (a0 : Array Value) (hw : ∀ d ∈ tables_1, d.before a0 Z = true) (ws : List Jvm.Cond) (oa : Addr) (oc : Addr) (vcs : Int32) (vf : Value) (kC : ClassId) (c0 : Int32) (h0 : Heap) (n0 : Nat) (Z0 : n0 ≤ h0.size) (Os : own_st Z h0 vcs vf) (Es : Exa Z h0 oa "java/lang/String") (Fc : Fld Z h0 oa "java/lang/String" "coder" "B" (.int (0 : Int32))) (Fv : Fld Z h0 oa "java/lang/String" "value" "[B" .null) (ga : n0 ≤ oa) (nac : oa ≠ oc) (Vc : Arv Z h0 oc kC .char (1 : Int32) [(.int c0)] (.int (0 : Int32))) (uc0 : 0 ≤ c0.toInt) (vc0 : c0.toInt ≤ 255) :
    MetFree l (⟨"java/lang/String", "<init>", "([CIILjava/lang/Void;)V"⟩ : MethodName) (head1 (Jvm.Cond.code (⟨"java/lang/String", "<init>", "([CIILjava/lang/Void;)V"⟩ : MethodName) jdk_42_method_149_code 6 none :: ws) ({ frames := 2, cells := 1, slots := 1, locals := 35 } : Room)) (fun a U => a = #[(.ref oa), (.ref oc), (.int (0 : Int32)), (.int (1 : Int32)), .null] ∧ Z.Warmed39 U.vm ∧ U.heap = h0) (fun _ _ _ _ _ => True) (fun _ U o U' => ∃ v L, o = .returned v ∧ Q_iv1 Z oa oc vcs vf kC c0 h0 n0 v U'.heap L ∧ FrameEnd U o U' L ({ frames := 2, cells := 1, slots := 1, locals := 35 } : Room).cells ({ frames := 2, cells := 1, slots := 1, locals := 35 } : Room).slots) := by
  refine MetFree.of_bodySF (plainFor_of_name pn_1) hisR ?_
  intro p e s m args below meth c s₁ Bd hml0 hP hK
  obtain ⟨rfl, hZ, hh⟩ := hP
  have hx := Bd.exec
  have hby := Bd.bytes
  have hml : c.maxLocals = 6 := hml0
  have hown : s.vm.findClass "java/lang/String" = some m.cls := findClass_of_methodNamed Bd.named
  have hnm := (name_of_methodNamed Bd.named Bd.method).1
  have X0 : Stand p l e ({ frames := 2, cells := 1, slots := 1, locals := 35 } : Room) s m #[(.ref oa), (.ref oc), (.int (0 : Int32)), (.int (1 : Int32)), .null] below meth c s₁ [] 0 0 := Stand.of_body Bd
  have e0 : s₁.heap = h0 := by rw [← hh, Bd.state]; rfl
  have N0 := Fr.nil n0
  have pre0 : ∀ t, Steps p.tables e below (s₁.setTop (mkF m 0 #[.val (.ref oa), .val (.ref oc), .val (.int (0 : Int32)), .val (.int (1 : Int32)), .val .null, .unset] [])) t → Steps p.tables e below (s₁.setTop (entryFrame m #[(.ref oa), (.ref oc), (.int (0 : Int32)), (.int (1 : Int32)), .null] 6)) t := fun t k => castTop (ef_rm_iv1 m oa oc) k
  obtain ⟨T1, X1, e1, st1⟩ := initO X0 hx hZ hown (hw _ (List.mem_of_getElem? (i := 16) rfl)) (hw _ (List.mem_of_getElem? (i := 17) rfl)) (hw _ (List.mem_of_getElem? (i := 18) rfl)) e0 (g := (mkF m 1 #[.val (.ref oa), .val (.ref oc), .val (.int (0 : Int32)), .val (.int (1 : Int32)), .val .null, .unset] [(.ref oa)])) rfl (by rw [hml]; rfl) rfl (hb hby d3_1) (by decide) (W := 0) (by show 2 * 0 + _ ≤ _; exact Nat.le_of_eq rfl) (by decide)
  have hc5_2 : ¬ ((1 : Int) = (0 : Int)) := by decide
  obtain ⟨T3, X3, e3, st3⟩ := getS2 X1 hx hZ hown (host := "") (Or.inl (hw _ (List.mem_of_getElem? (i := 41) rfl))) Via.refl e1 Os.1 (g := (mkF m 27 #[.val (.ref oa), .val (.ref oc), .val (.int (0 : Int32)), .val (.int (1 : Int32)), .val .null, .unset] [])) rfl (hb hby d3_27)
  have hc30_4 : ¬ (vcs.toInt = (0 : Int)) := by (have q := Os.2.1; omega)
  obtain ⟨_, _, ⟨T5, L5, k5, n5⟩, -, X5, ⟨Lc5, hQ5, l5, y5, z5⟩, st5⟩ := Jvm.LawKit.callS X3 hx (y := (⟨"java/lang/StringUTF16", "compress", "([CII)[B"⟩ : MethodName)) hown (mvT hZ (hw _ (List.mem_of_getElem? (i := 42) rfl))) (mvT hZ (hw _ (List.mem_of_getElem? (i := 43) rfl))) (mvT hZ (hw _ (List.mem_of_getElem? (i := 44) rfl))) (mvT hZ (hw _ (List.mem_of_getElem? (i := 45) rfl))) (by decide) (backOf (W := 0) (rm_cm1 l Z a0 hw [] oc kC c0 h0 n0 Z0 Vc uc0 vc0) hZ (hw _ (List.mem_of_getElem? (i := 45) rfl)) (hw _ (List.mem_of_getElem? (i := 44) rfl)) (by decide) (by decide)) (g := (mkF m 36 #[.val (.ref oa), .val (.ref oc), .val (.int (0 : Int32)), .val (.int (1 : Int32)), .val .null, .unset] [(.int (1 : Int32)), (.int (0 : Int32)), (.ref oc)])) rfl (by rw [hml]; rfl) (argsL := [(.ref oc), (.int (0 : Int32)), (.int (1 : Int32))]) (rest := []) (lenOf pd_3 rfl) rfl (by show 2 * 0 + _ ≤ _; exact Nat.le_of_eq rfl) (hb hby d3_36) (fun _ _ => ⟨rfl, e3, (by decide : 0 + 1 ≤ _), (by decide : 0 + 1 ≤ _)⟩)
  dsimp only [Pt.U, Pt.locs, Pt.cells, Pt.slots] at X5 l5 y5 z5 st5 hQ5
  rw [l5, y5, z5] at X5
  obtain ⟨ob, kb, bb0, rfl, N5q, K5, gb, szb, Vb5, qbb0⟩ := hQ5
  have N5 := Fr.app N0 N5q
  have Zs6 : n0 ≤ T5.heap.size := Nat.le_trans Z0 K5.1
  have ne_oa_ob : oa ≠ ob := Nat.ne_of_lt (Nat.lt_of_lt_of_le Es.lt szb)
  have ne_oc_ob : oc ≠ ob := Nat.ne_of_lt (Nat.lt_of_lt_of_le Vc.lt szb)
  have sz_ob : h0.size ≤ ob := Nat.le_trans (Keep.refl h0 [oa]).1 szb
  obtain ⟨_, _, ⟨T7, L7, k7, n7⟩, -, X7, ⟨Lc7, hQ7, l7, y7, z7⟩, st7⟩ := Jvm.LawKit.callS X5 hx (y := (⟨"java/lang/StringUTF16", "coderFromArrayLen", "([BI)B"⟩ : MethodName)) hown (mvT hZ (hw _ (List.mem_of_getElem? (i := 49) rfl))) (mvT hZ (hw _ (List.mem_of_getElem? (i := 50) rfl))) (mvT hZ (hw _ (List.mem_of_getElem? (i := 44) rfl))) (mvT hZ (hw _ (List.mem_of_getElem? (i := 51) rfl))) (by decide) (backOf (W := 1) (rm_cf1_0 l Z a0 hw [] ob kb [(.int bb0)] T5.heap n0 Zs6 Vb5) hZ (hw _ (List.mem_of_getElem? (i := 51) rfl)) (hw _ (List.mem_of_getElem? (i := 44) rfl)) (by decide) (by decide)) (g := (mkF m 45 #[.val (.ref oa), .val (.ref oc), .val (.int (0 : Int32)), .val (.int (1 : Int32)), .val .null, .val (.ref ob)] [(.int (1 : Int32)), (.ref ob), (.ref oa)])) rfl (by rw [hml]; rfl) (argsL := [(.ref ob), (.int (1 : Int32))]) (rest := [(.ref oa)]) (lenOf pd_4 rfl) rfl (by show 2 * 0 + _ ≤ _; exact Nat.le_of_eq rfl) (hb hby d3_45) (fun _ _ => ⟨rfl, rfl, (by decide : 1 + 0 ≤ _), (by decide : 1 + 0 ≤ _)⟩)
  dsimp only [Pt.U, Pt.locs, Pt.cells, Pt.slots] at X7 l7 y7 z7 st7 hQ7
  rw [l7, y7, z7] at X7
  obtain ⟨zf, rfl, hzf, N7q, e7⟩ := hQ7
  have N7 := Fr.app N5 N7q
  have pre8 : ∀ t, Steps p.tables e below (T7.setTop (mkF m 48 #[.val (.ref oa), .val (.ref oc), .val (.int (0 : Int32)), .val (.int (1 : Int32)), .val .null, .val (.ref ob)] [(.int zf), (.ref oa)])) t → Steps p.tables e below (s₁.setTop (entryFrame m #[(.ref oa), (.ref oc), (.int (0 : Int32)), (.int (1 : Int32)), .null] 6)) t := fun t kt => by
    refine pre0 _ ?_
    refine XS.aloadN X0.here hx rfl (hb hby d3_0) rfl rfl ?_
    refine st1 _ ?_
    refine XS.iloadN X1.here hx rfl (hb hby d3_4) rfl ?_
    refine XS.ifYes X1.here hx rfl (pc0 := 5) (pc' := 27) rfl (hb hby d3_5) rfl (own_if (own_feq (a := (1 : Int32)) (b := (0 : Int32)) (by decide) (by decide) hc5_2).2) (by decide) (by decide) ?_
    refine st3 _ ?_
    refine XS.ifNo X3.here hx rfl (hb hby d3_30) rfl (own_if (own_feq (a := vcs) (b := (0 : Int32)) rfl (by decide) hc30_4).1) ?_
    refine XS.aloadN X3.here hx rfl (hb hby d3_33) rfl rfl ?_
    show Steps p.tables e below (T3.setTop (mkF m 34 #[.val (.ref oa), .val (.ref oc), .val (.int (0 : Int32)), .val (.int (1 : Int32)), .val .null, .unset] [(.ref oc)])) _
    refine XS.iloadN X3.here hx rfl (hb hby d3_34) rfl ?_
    refine XS.iloadN X3.here hx rfl (hb hby d3_35) rfl ?_
    refine st5 _ ?_
    refine XS.astore X5.here hx rfl (hb hby d3_39) rfl rfl (l' := #[.val (.ref oa), .val (.ref oc), .val (.int (0 : Int32)), .val (.int (1 : Int32)), .val .null, .val (.ref ob)]) rfl ?_
    refine XS.aloadN X5.here hx rfl (hb hby d3_41) rfl rfl ?_
    refine XS.aload X5.here hx rfl (hb hby d3_42) rfl rfl ?_
    refine XS.iloadN X5.here hx rfl (hb hby d3_44) rfl ?_
    refine st7 _ ?_
    exact kt
  subst hzf
  have pre9 : ∀ t, Steps p.tables e below (T7.setTop (mkF m 48 #[.val (.ref oa), .val (.ref oc), .val (.int (0 : Int32)), .val (.int (1 : Int32)), .val .null, .val (.ref ob)] [(.int (0 : Int32)), (.ref oa)])) t → Steps p.tables e below (s₁.setTop (entryFrame m #[(.ref oa), (.ref oc), (.int (0 : Int32)), (.int (1 : Int32)), .null] 6)) t := pre8
  have f10 := (Fc.keep K5 nin0)
  have f11 := (Es.keep K5)
  obtain ⟨T12, h12, X12, e12, W12, st12⟩ := putFN X7 hx hZ hown (hw _ (List.mem_of_getElem? (i := 26) rfl)) Via.refl e7 f10 f11 (Or.inr ⟨(hw _ (List.mem_of_getElem? (i := 22) rfl)), rfl, hnm⟩) (hw _ (List.mem_of_getElem? (i := 6) rfl)) (ty := .byte) (v' := (.int (0 : Int32))) (by decide) rfl rfl (g := (mkF m 48 #[.val (.ref oa), .val (.ref oc), .val (.int (0 : Int32)), .val (.int (1 : Int32)), .val .null, .val (.ref ob)] [(.int (0 : Int32)), (.ref oa)])) rfl rfl (hb hby d3_48)
  have N12 := Fr.snoc X12 N7 ga
  have Zs13 : n0 ≤ h12.size := by rw [W12.size]; exact Zs6
  have Fw12 := f10.same W12
  have f14 := ((Fv.keep K5 nin0).other W12 (Or.inr (slot_ne (Or.inr (hw _ (List.mem_of_getElem? (i := 21) rfl))) (Or.inr (hw _ (List.mem_of_getElem? (i := 22) rfl))) (by decide) (t := (.array .byte)) (t' := .byte) (by decide) (by decide))))
  have f15 := (f11.wr W12)
  obtain ⟨T16, h16, X16, e16, W16, st16⟩ := putF X12 hx hZ hown (host := "") (Or.inl (hw _ (List.mem_of_getElem? (i := 25) rfl))) Via.refl e12 f14 f15 (Or.inr ⟨(hw _ (List.mem_of_getElem? (i := 21) rfl)), rfl, hnm⟩) (hw _ (List.mem_of_getElem? (i := 6) rfl)) (ty := (.array .byte)) (by decide) rfl rfl (g := (mkF m 54 #[.val (.ref oa), .val (.ref oc), .val (.int (0 : Int32)), .val (.int (1 : Int32)), .val .null, .val (.ref ob)] [(.ref ob), (.ref oa)])) rfl rfl (hb hby d3_54)
  have N16 := Fr.snoc X16 N12 ga
  have Zs17 : n0 ≤ h16.size := by rw [W16.size]; exact Zs13
  have Fw16 := f14.same W16
  obtain ⟨fs, hr, hrun, hended, hW, hsame⟩ := X16.leave (v := none) (fun _ => rfl)
  refine ⟨_, _, pre9 _ ?_, hrun, hended, _, _, rfl, ?_, ⟨_, rfl⟩, hW, hsame.mono (by decide) (by decide)⟩
  · show Steps p.tables e below (T7.setTop (mkF m 48 #[.val (.ref oa), .val (.ref oc), .val (.int (0 : Int32)), .val (.int (1 : Int32)), .val .null, .val (.ref ob)] [(.int (0 : Int32)), (.ref oa)])) _
    refine st12 _ ?_
    refine XS.aloadN X12.here hx rfl (hb hby d3_51) rfl rfl ?_
    refine XS.aload X12.here hx rfl (hb hby d3_52) rfl rfl ?_
    refine st16 _ ?_
    exact X16.returnOut hx Bd.returns (hb hby d3_57) hr
  · show Q_iv1 Z _ _ _ _ _ _ h0 n0 _ T16.heap _
    rw [e16]
    have f18 := ((((Keep.refl h0 [oa]).trans K5 all0).wr W12 (Or.inl (List.mem_of_getElem? (i := 0) rfl))).wr W16 (Or.inl (List.mem_of_getElem? (i := 0) rfl)))
    have f19 := (f15.wr W16)
    have f20 := (Fw12.other W16 (Or.inr (slot_ne (Or.inr (hw _ (List.mem_of_getElem? (i := 22) rfl))) (Or.inr (hw _ (List.mem_of_getElem? (i := 21) rfl))) (by decide) (t := .byte) (t' := (.array .byte)) (by decide) (by decide))))
    have f21 := ((Vb5.other W12 (Ne.symm ne_oa_ob)).other W16 (Ne.symm ne_oa_ob))
    exact ⟨rfl, N16, f18, f19, ob, kb, bb0, gb, sz_ob, f20, Fw16, f21, qbb0⟩
theorem ef_rm_mk1 (m : MethodId) (x0 : Addr) (x1 : Addr) : entryFrame m #[(.ref x0), (.ref x1)] 2 = mkF m 0 #[.val (.ref x0), .val (.ref x1)] [] := by first | (simp [entryFrame, mkF, argsToLocals, Value.category]; done) | rfl
def Q_mk1 (Z : State) (oa : Addr) (oc : Addr) (vcs : Int32) (vf : Value) (kC : ClassId) (c0 : Int32) (h0 : Heap) (n0 : Nat) (v : Option Value) (h : Heap) (L : List Loc) : Prop := v = none ∧ Fr n0 L ∧ Keep h0 h [oa] ∧ Exa Z h oa "java/lang/String" ∧ ∃ (ob : Addr) (kb : ClassId) (bb0 : Int32), n0 ≤ ob ∧ h0.size ≤ ob ∧ Fld Z h oa "java/lang/String" "coder" "B" (.int (0 : Int32)) ∧ Fld Z h oa "java/lang/String" "value" "[B" (.ref ob) ∧ Arv Z h ob kb .byte (1 : Int32) [(.int bb0)] (.int (0 : Int32)) ∧ bb0.toInt % 256 = c0.toInt
set_option maxRecDepth 65536 in
set_option maxHeartbeats 40000000 in
theorem rm_mk1 (l : Launch) (Z : State) (a0 : Array Value) (hw : ∀ d ∈ tables_1, d.before a0 Z = true) (ws : List Jvm.Cond) (oa : Addr) (oc : Addr) (vcs : Int32) (vf : Value) (kC : ClassId) (c0 : Int32) (h0 : Heap) (n0 : Nat) (Z0 : n0 ≤ h0.size) (Os : own_st Z h0 vcs vf) (Es : Exa Z h0 oa "java/lang/String") (Fc : Fld Z h0 oa "java/lang/String" "coder" "B" (.int (0 : Int32))) (Fv : Fld Z h0 oa "java/lang/String" "value" "[B" .null) (ga : n0 ≤ oa) (nac : oa ≠ oc) (Vc : Arv Z h0 oc kC .char (1 : Int32) [(.int c0)] (.int (0 : Int32))) (uc0 : 0 ≤ c0.toInt) (vc0 : c0.toInt ≤ 255) :
    MetFree l (⟨"java/lang/String", "<init>", "([C)V"⟩ : MethodName) (head1 (Jvm.Cond.code (⟨"java/lang/String", "<init>", "([C)V"⟩ : MethodName) jdk_42_method_3_code 2 none :: ws) ({ frames := 3, cells := 1, slots := 1, locals := 52 } : Room)) (fun a U => a = #[(.ref oa), (.ref oc)] ∧ Z.Warmed39 U.vm ∧ U.heap = h0) (fun _ _ _ _ _ => True) (fun _ U o U' => ∃ v L, o = .returned v ∧ Q_mk1 Z oa oc vcs vf kC c0 h0 n0 v U'.heap L ∧ FrameEnd U o U' L ({ frames := 3, cells := 1, slots := 1, locals := 52 } : Room).cells ({ frames := 3, cells := 1, slots := 1, locals := 52 } : Room).slots) := by
  refine MetFree.of_bodySF (plainFor_of_name pn_1) hisR ?_
  intro p e s m args below meth c s₁ Bd hml0 hP hK
  obtain ⟨rfl, hZ, hh⟩ := hP
  have hx := Bd.exec
  have hby := Bd.bytes
  have hml : c.maxLocals = 2 := hml0
  have hown : s.vm.findClass "java/lang/String" = some m.cls := findClass_of_methodNamed Bd.named
  have hnm := (name_of_methodNamed Bd.named Bd.method).1
  have X0 : Stand p l e ({ frames := 3, cells := 1, slots := 1, locals := 52 } : Room) s m #[(.ref oa), (.ref oc)] below meth c s₁ [] 0 0 := Stand.of_body Bd
  have e0 : s₁.heap = h0 := by rw [← hh, Bd.state]; rfl
  have N0 := Fr.nil n0
  have pre0 : ∀ t, Steps p.tables e below (s₁.setTop (mkF m 0 #[.val (.ref oa), .val (.ref oc)] [])) t → Steps p.tables e below (s₁.setTop (entryFrame m #[(.ref oa), (.ref oc)] 2)) t := fun t k => castTop (ef_rm_mk1 m oa oc) k
  obtain ⟨cl1, Ar1, q1, S1, M1, H1, G1⟩ := id Vc
  obtain ⟨_, _, ⟨T2, L2, k2, n2⟩, -, X2, ⟨Lc2, hQ2, l2, y2, z2⟩, st2⟩ := X0.specialBack hx (y := (⟨"java/lang/String", "<init>", "([CIILjava/lang/Void;)V"⟩ : MethodName)) rfl hown (mvT hZ (hw _ (List.mem_of_getElem? (i := 12) rfl))) (mvT hZ (hw _ (List.mem_of_getElem? (i := 13) rfl))) (mvT hZ (hw _ (List.mem_of_getElem? (i := 15) rfl))) (by decide) (backOf (W := 0) (rm_iv1 l Z a0 hw [] oa oc vcs vf kC c0 h0 n0 Z0 Os Es Fc Fv ga nac Vc uc0 vc0) hZ (hw _ (List.mem_of_getElem? (i := 15) rfl)) (hw _ (List.mem_of_getElem? (i := 7) rfl)) (by decide) (by decide)) (g := (mkF m 6 #[.val (.ref oa), .val (.ref oc)] [.null, (.int (1 : Int32)), (.int (0 : Int32)), (.ref oc), (.ref oa)])) rfl (by rw [hml]; rfl) (Steps.refl _) (a := oa) (argsL := [(.ref oc), (.int (0 : Int32)), (.int (1 : Int32)), .null]) (rest := []) (lenOf pd_0 rfl) rfl (by show 2 * 0 + _ ≤ _; exact Nat.le_of_eq rfl) (hb hby d2_6) (fun _ _ => ⟨rfl, e0, (by decide : 0 + 1 ≤ _), (by decide : 0 + 1 ≤ _)⟩)
  dsimp only [Pt.U, Pt.locs, Pt.cells, Pt.slots] at X2 l2 y2 z2 st2 hQ2
  rw [l2, y2, z2] at X2
  obtain ⟨rfl, N2q, K2, A2, ob, kb, bb0, gb, szb, Fc2, Fv2, Vb2, qbb0⟩ := hQ2
  have N2 := Fr.app N0 N2q
  have Zs3 : n0 ≤ T2.heap.size := Nat.le_trans Z0 K2.1
  have ne_oa_ob : oa ≠ ob := Nat.ne_of_lt (Nat.lt_of_lt_of_le Es.lt szb)
  have ne_oc_ob : oc ≠ ob := Nat.ne_of_lt (Nat.lt_of_lt_of_le Vc.lt szb)
  have sz_ob : h0.size ≤ ob := Nat.le_trans (Keep.refl h0 [oa]).1 szb
  obtain ⟨fs, hr, hrun, hended, hW, hsame⟩ := X2.leave (v := none) (fun _ => rfl)
  refine ⟨_, _, pre0 _ ?_, hrun, hended, _, _, rfl, ?_, ⟨_, rfl⟩, hW, hsame.mono (by decide) (by decide)⟩
  · refine XS.aloadN X0.here hx rfl (hb hby d2_0) rfl rfl ?_
    refine XS.aloadN X0.here hx rfl (hb hby d2_1) rfl rfl ?_
    refine XS.iconst X0.here hx rfl (hb hby d2_2) ?_
    refine XS.aloadN X0.here hx rfl (hb hby d2_3) rfl rfl ?_
    refine X0.arraylength hx (by rw [e0]; exact Ar1.1) (State.isArrayOf_alike hZ.alike Ar1.2.1) (g := (mkF m 4 #[.val (.ref oa), .val (.ref oc)] [(.ref oc), (.int (0 : Int32)), (.ref oc), (.ref oa)])) rfl rfl (hb hby d2_4) _ ?_
    rw [len_of S1 M1]
    refine XS.aconstNull X0.here hx rfl (hb hby d2_5) ?_
    refine st2.trans ?_
    show Steps p.tables e below (T2.setTop (mkF m 9 #[.val (.ref oa), .val (.ref oc)] [])) _
    exact X2.returnOut hx Bd.returns (hb hby d2_9) hr
  · show Q_mk1 Z _ _ _ _ _ _ h0 n0 _ T2.heap _
    have f4 := ((Keep.refl h0 [oa]).trans K2 (allS (P := fun x => x ∈ [oa] ∨ h0.size ≤ x) (Or.inl (List.mem_of_getElem? (i := 0) rfl)) all0))
    exact ⟨rfl, N2, f4, A2, ob, kb, bb0, gb, sz_ob, Fc2, Fv2, Vb2, qbb0⟩
theorem d1_15 : decode method_3_code 15 = .ok (.iload_n 0, 1) := by decide +kernel
theorem d1_16 : decode method_3_code 16 = .ok (.iconst 1, 1) := by decide +kernel
theorem d1_17 : decode method_3_code 17 = .ok (.if_icmp .ne 18, 3) := by decide +kernel
theorem d1_20 : decode method_3_code 20 = .ok (.new 7, 3) := by decide +kernel
theorem d1_23 : decode method_3_code 23 = .ok (.dup, 1) := by decide +kernel
theorem d1_24 : decode method_3_code 24 = .ok (.iconst 1, 1) := by decide +kernel
theorem d1_25 : decode method_3_code 25 = .ok (.newarray .char, 2) := by decide +kernel
theorem d1_27 : decode method_3_code 27 = .ok (.dup, 1) := by decide +kernel
theorem d1_28 : decode method_3_code 28 = .ok (.iconst 0, 1) := by decide +kernel
theorem d1_29 : decode method_3_code 29 = .ok (.iload_n 1, 1) := by decide +kernel
theorem d1_30 : decode method_3_code 30 = .ok (.castore, 1) := by decide +kernel
theorem d1_31 : decode method_3_code 31 = .ok (.invokespecial 9, 3) := by decide +kernel
theorem d1_34 : decode method_3_code 34 = .ok (.areturn, 1) := by decide +kernel
theorem ef_rm_m1 (m : MethodId) (x1 : Int32) (x2 : Int32) (x3 : Int32) (x4 : Int32) : entryFrame m #[(.int (1 : Int32)), (.int x1), (.int x2), (.int x3), (.int x4)] 5 = mkF m 0 #[.val (.int (1 : Int32)), .val (.int x1), .val (.int x2), .val (.int x3), .val (.int x4)] [] := by first | (simp [entryFrame, mkF, argsToLocals, Value.category]; done) | rfl
def Q_m1 (Z : State) (c0 : Int32) (c1 : Int32) (c2 : Int32) (c3 : Int32) (vcs : Int32) (vf : Value) (h0 : Heap) (n0 : Nat) (v : Option Value) (h : Heap) (L : List Loc) : Prop := ∃ (sa ob : Addr) (kb : ClassId) (bb0 : Int32), v = some (.ref sa) ∧ Fr n0 L ∧ Keep h0 h [] ∧ Exa Z h sa "java/lang/String" ∧ Fld Z h sa "java/lang/String" "coder" "B" (.int (0 : Int32)) ∧ Fld Z h sa "java/lang/String" "value" "[B" (.ref ob) ∧ Arv Z h ob kb .byte (1 : Int32) [(.int bb0)] (.int (0 : Int32)) ∧ bb0.toInt % 256 = c0.toInt
set_option maxRecDepth 65536 in
set_option maxHeartbeats 40000000 in
theorem rm_m1 (l : Launch) (Z : State) (a0 : Array Value) (hw : ∀ d ∈ tables_1, d.before a0 Z = true) (ws : List Jvm.Cond) (c0 : Int32) (c1 : Int32) (c2 : Int32) (c3 : Int32) (vcs : Int32) (vf : Value) (h0 : Heap) (n0 : Nat) (Z0 : n0 ≤ h0.size) (Os : own_st Z h0 vcs vf) (uc0 : 0 ≤ c0.toInt) (uc1 : 0 ≤ c1.toInt) (uc2 : 0 ≤ c2.toInt) (uc3 : 0 ≤ c3.toInt) (vc0 : c0.toInt ≤ 255) (vc1 : c1.toInt ≤ 255) (vc2 : c2.toInt ≤ 255) (vc3 : c3.toInt ≤ 255) :
    MetFree l (⟨"com/example/path_template_matcher/pathtemplatematcher/UriReferencePathEndPinLaw", "mk", "(ICCCC)Ljava/lang/String;"⟩ : MethodName) (head1 (Jvm.Cond.code (⟨"com/example/path_template_matcher/pathtemplatematcher/UriReferencePathEndPinLaw", "mk", "(ICCCC)Ljava/lang/String;"⟩ : MethodName) method_3_code 5 (some (.object "java/lang/String")) :: ws) ({ frames := 4, cells := 3, slots := 6, locals := 66 } : Room)) (fun a U => a = #[(.int (1 : Int32)), (.int c0), (.int c1), (.int c2), (.int c3)] ∧ Z.Warmed39 U.vm ∧ U.heap = h0) (fun _ _ _ _ _ => True) (fun _ U o U' => ∃ v L, o = .returned v ∧ Q_m1 Z c0 c1 c2 c3 vcs vf h0 n0 v U'.heap L ∧ FrameEnd U o U' L ({ frames := 4, cells := 3, slots := 6, locals := 66 } : Room).cells ({ frames := 4, cells := 3, slots := 6, locals := 66 } : Room).slots) := by
  refine MetFree.of_bodySF (plainFor_of_name pn_0) hisR ?_
  intro p e s m args below meth c s₁ Bd hml0 hP hK
  obtain ⟨rfl, hZ, hh⟩ := hP
  have hx := Bd.exec
  have hby := Bd.bytes
  have hml : c.maxLocals = 5 := hml0
  have hown : s.vm.findClass "com/example/path_template_matcher/pathtemplatematcher/UriReferencePathEndPinLaw" = some m.cls := findClass_of_methodNamed Bd.named
  have hnm := (name_of_methodNamed Bd.named Bd.method).1
  have X0 : Stand p l e ({ frames := 4, cells := 3, slots := 6, locals := 66 } : Room) s m #[(.int (1 : Int32)), (.int c0), (.int c1), (.int c2), (.int c3)] below meth c s₁ [] 0 0 := Stand.of_body Bd
  have e0 : s₁.heap = h0 := by rw [← hh, Bd.state]; rfl
  have N0 := Fr.nil n0
  have pre0 : ∀ t, Steps p.tables e below (s₁.setTop (mkF m 0 #[.val (.int (1 : Int32)), .val (.int c0), .val (.int c1), .val (.int c2), .val (.int c3)] [])) t → Steps p.tables e below (s₁.setTop (entryFrame m #[(.int (1 : Int32)), (.int c0), (.int c1), (.int c2), (.int c3)] 5)) t := fun t k => castTop (ef_rm_m1 m c0 c1 c2 c3) k
  have hc1_1 : ¬ ((1 : Int) = (0 : Int)) := by decide
  have hc17_2 : (1 : Int) = (1 : Int) := by decide
  obtain ⟨T3, h3, X3, e3, E3, A3, D3, -, st3⟩ := newO X0 hx hZ hown (hw _ (List.mem_of_getElem? (i := 5) rfl)) (hw _ (List.mem_of_getElem? (i := 6) rfl)) (hw _ (List.mem_of_getElem? (i := 7) rfl)) e0 (g := (mkF m 20 #[.val (.int (1 : Int32)), .val (.int c0), .val (.int c1), .val (.int c2), .val (.int c3)] [])) rfl (hb hby d1_20) (by decide) (by decide)
  obtain ⟨b3, g3⟩ : ∃ z, z = h0.size := ⟨_, rfl⟩
  have g_b3 : n0 ≤ b3 := Nat.le_trans Z0 (Nat.le_of_eq g3.symm)
  have sz_b3 : h0.size ≤ b3 := Nat.le_trans (Keep.refl h0 []).1 (Nat.le_of_eq g3.symm)
  rw [← g3] at A3 D3 st3
  have Zs4 : n0 ≤ h3.size := Nat.le_trans Z0 E3.1
  have F3_value : Fld Z h3 b3 "java/lang/String" "value" "[B" .null := D3 (Or.inr (hw _ (List.mem_of_getElem? (i := 21) rfl))) (ty := (.array .byte)) (by decide)
  have F3_coder : Fld Z h3 b3 "java/lang/String" "coder" "B" (.int (0 : Int32)) := D3 (Or.inr (hw _ (List.mem_of_getElem? (i := 22) rfl))) (ty := .byte) (by decide)
  obtain ⟨T5, h5, k5, X5, e5, E5, A5, st5⟩ := newP X3 hx hZ (hw _ (List.mem_of_getElem? (i := 8) rfl)) e3 (g := (mkF m 25 #[.val (.int (1 : Int32)), .val (.int c0), .val (.int c1), .val (.int c2), .val (.int c3)] [(.int (1 : Int32)), (.ref b3), (.ref b3)])) rfl (hb hby d1_25) rfl (by decide) (cap := 1) (by decide) (by decide) (by decide) (by decide)
  obtain ⟨b5, g5⟩ : ∃ z, z = h3.size := ⟨_, rfl⟩
  have ne_b3_b5 : b3 ≠ b5 := Nat.ne_of_lt (Nat.lt_of_lt_of_le A3.lt (Nat.le_of_eq g5.symm))
  have g_b5 : n0 ≤ b5 := Nat.le_trans Zs4 (Nat.le_of_eq g5.symm)
  have f6 := ((Keep.refl h0 []).ext E3)
  have sz_b5 : h0.size ≤ b5 := Nat.le_trans f6.1 (Nat.le_of_eq g5.symm)
  rw [← g5] at A5 st5
  have Zs7 : n0 ≤ h5.size := Nat.le_trans Zs4 E5.1
  have V5 : Arv Z h5 b5 k5 .char (1 : Int32) [(.int (0 : Int32))] (.int (0 : Int32)) := (Arv.new A5 (by decide)).pad (pad_rep [] (.int (0 : Int32)) 1)
  obtain ⟨cl8, Ar8, q8, S8, M8, H8, G8⟩ := id V5
  have hin8 : ¬ ((0 : Int32) < 0 ∨ cl8.slots.size ≤ ((0 : Int32)).toNatClampNeg) := inb_of S8 ⟨by decide, by decide⟩
  obtain ⟨T9, h9, X9, e9, W9, st9⟩ := stC X5 hx hZ e5 Ar8 (j := (0 : Int32)) hin8 (g := (mkF m 30 #[.val (.int (1 : Int32)), .val (.int c0), .val (.int c1), .val (.int c2), .val (.int c3)] [(.int c0), (.int (0 : Int32)), (.ref b5), (.ref b5), (.ref b3), (.ref b3)])) rfl rfl (hb hby d1_30)
  have N9 := Fr.snoc X9 N0 g_b5
  have Zs10 : n0 ≤ h9.size := by rw [W9.size]; exact Zs7
  have V9 : Arv Z h9 b5 k5 .char (1 : Int32) [(.int (nar .char c0))] (.int (0 : Int32)) := Arv.set Ar8 q8 S8 M8 H8 G8 (fits_nar_char _) W9 0 rfl (Nat.le_of_ble_eq_true rfl)
  have hn13 : nar .char c0 = c0 := own_narc c0 (by omega) (by omega)
  have Vx12 : Arv Z h9 b5 k5 .char (1 : Int32) [(.int c0)] (.int (0 : Int32)) := by
    have q := V9
    rw [hn13] at q; exact q
  have f14 := ((A3.ext E5).wr W9)
  have f15 := ((f6.ext E5).wr W9 (Or.inr sz_b5))
  have os16 := (own_st_wr (own_st_ext (own_st_ext Os E3) E5) W9)
  have f17 := ((F3_coder.ext E5).other W9 (Or.inl ne_b3_b5))
  have f18 := ((F3_value.ext E5).other W9 (Or.inl ne_b3_b5))
  obtain ⟨_, _, ⟨T11, L11, k11, n11⟩, -, X11, ⟨Lc11, hQ11, l11, y11, z11⟩, st11⟩ := X9.specialBack hx (y := (⟨"java/lang/String", "<init>", "([C)V"⟩ : MethodName)) rfl hown (mvT hZ (hw _ (List.mem_of_getElem? (i := 9) rfl))) (mvT hZ (hw _ (List.mem_of_getElem? (i := 10) rfl))) (mvT hZ (hw _ (List.mem_of_getElem? (i := 11) rfl))) (by decide) (backOf (W := 1) (rm_mk1 l Z a0 hw [] b3 b5 vcs vf k5 c0 h9 n0 Zs10 os16 f14 f17 f18 g_b3 ne_b3_b5 Vx12 (by omega) (by omega)) hZ (hw _ (List.mem_of_getElem? (i := 11) rfl)) (hw _ (List.mem_of_getElem? (i := 7) rfl)) (by decide) (by decide)) (g := (mkF m 31 #[.val (.int (1 : Int32)), .val (.int c0), .val (.int c1), .val (.int c2), .val (.int c3)] [(.ref b5), (.ref b3), (.ref b3)])) rfl (by rw [hml]; rfl) (Steps.refl _) (a := b3) (argsL := [(.ref b5)]) (rest := [(.ref b3)]) (lenOf pd_1 rfl) rfl (by show 2 * 0 + _ ≤ _; exact Nat.le_of_eq rfl) (hb hby d1_31) (fun _ _ => ⟨rfl, e9, (by decide : 2 + 1 ≤ _), (by decide : 5 + 1 ≤ _)⟩)
  dsimp only [Pt.U, Pt.locs, Pt.cells, Pt.slots] at X11 l11 y11 z11 st11 hQ11
  rw [l11, y11, z11] at X11
  obtain ⟨rfl, N11q, K11, A11, ob11, kb11, y11_0, gb11, szb11, Fc11, Fv11, Vb11, qy11_0⟩ := hQ11
  have N11 := Fr.app N9 N11q
  have Zs19 : n0 ≤ T11.heap.size := Nat.le_trans Zs10 K11.1
  have ne_b3_ob11 : b3 ≠ ob11 := Nat.ne_of_lt (Nat.lt_of_lt_of_le f14.lt szb11)
  have ne_b5_ob11 : b5 ≠ ob11 := Nat.ne_of_lt (Nat.lt_of_lt_of_le Vx12.lt szb11)
  have sz_ob11 : h0.size ≤ ob11 := Nat.le_trans f15.1 szb11
  obtain ⟨fs, hr, hrun, hended, hW, hsame⟩ := X11.leave (v := some (.ref b3)) (fun h => by rw [Bd.returns] at h; cases h)
  refine ⟨_, _, pre0 _ ?_, hrun, hended, _, _, rfl, ?_, ⟨_, rfl⟩, hW, hsame.mono (by decide) (by decide)⟩
  · refine XS.iloadN X0.here hx rfl (hb hby d1_0) rfl ?_
    refine XS.ifYes X0.here hx rfl (pc0 := 1) (pc' := 15) rfl (hb hby d1_1) rfl (own_if (own_feq (a := (1 : Int32)) (b := (0 : Int32)) (by decide) (by decide) hc1_1).2) (by decide) (by decide) ?_
    refine XS.iloadN X0.here hx rfl (hb hby d1_15) rfl ?_
    refine XS.iconst X0.here hx rfl (hb hby d1_16) ?_
    refine XS.icmpNo X0.here hx rfl (hb hby d1_17) rfl (own_teq (a := (1 : Int32)) (b := (1 : Int32)) (by decide) (by decide) hc17_2).2 ?_
    refine st3 _ ?_
    refine XS.dup X3.here hx rfl (hb hby d1_23) rfl rfl ?_
    show Steps p.tables e below (T3.setTop (mkF m 24 #[.val (.int (1 : Int32)), .val (.int c0), .val (.int c1), .val (.int c2), .val (.int c3)] [(.ref b3), (.ref b3)])) _
    refine XS.iconst X3.here hx rfl (hb hby d1_24) ?_
    refine st5 _ ?_
    refine XS.dup X5.here hx rfl (hb hby d1_27) rfl rfl ?_
    refine XS.iconst X5.here hx rfl (hb hby d1_28) ?_
    refine XS.iloadN X5.here hx rfl (hb hby d1_29) rfl ?_
    refine st9 _ ?_
    refine st11.trans ?_
    jvm_step X11.here [X11.here.top, hx, (hb hby d1_34), X11.method', Bd.returns, Value.isRef, FieldType.isReference]
    first | (intro acts; rw [hr _ acts rfl rfl rfl]) | rw [hr _ _ rfl rfl rfl]
    exact Steps.refl _
  · show Q_m1 Z _ _ _ _ _ _ h0 n0 _ T11.heap _
    have f20 := (f15.trans K11 (allS (P := fun x => x ∈ [] ∨ h0.size ≤ x) (Or.inr sz_b3) all0))
    exact ⟨b3, ob11, _, y11_0, rfl, N11, f20, A11, Fc11, Fv11, Vb11, qy11_0⟩
theorem ef_rm_cp2 (m : MethodId) (x0 : Addr) (x2 : Addr) : entryFrame m #[(.ref x0), (.int (0 : Int32)), (.ref x2), (.int (0 : Int32)), (.int (2 : Int32))] 7 = mkF m 0 #[.val (.ref x0), .val (.int (0 : Int32)), .val (.ref x2), .val (.int (0 : Int32)), .val (.int (2 : Int32)), .unset, .unset] [] := by first | (simp [entryFrame, mkF, argsToLocals, Value.category]; done) | rfl
def Q_cp2 (Z : State) (oc : Addr) (ob : Addr) (kC : ClassId) (c0 : Int32) (c1 : Int32) (kb : ClassId) (h0 : Heap) (n0 : Nat) (v : Option Value) (h : Heap) (L : List Loc) : Prop := ∃ bb0 bb1 : Int32, v = some (.int (2 : Int32)) ∧ Fr n0 L ∧ Keep h0 h [ob] ∧ Arv Z h ob kb .byte (2 : Int32) [(.int bb0), (.int bb1)] (.int (0 : Int32)) ∧ bb0.toInt % 256 = c0.toInt ∧ bb1.toInt % 256 = c1.toInt
set_option maxRecDepth 65536 in
set_option maxHeartbeats 40000000 in
theorem rm_cp2 (l : Launch) (Z : State) (a0 : Array Value) (hw : ∀ d ∈ tables_1, d.before a0 Z = true) (ws : List Jvm.Cond) (oc : Addr) (ob : Addr) (kC : ClassId) (c0 : Int32) (c1 : Int32) (kb : ClassId) (h0 : Heap) (n0 : Nat) (Z0 : n0 ≤ h0.size) (Vc : Arv Z h0 oc kC .char (2 : Int32) [(.int c0), (.int c1)] (.int (0 : Int32))) (uc0 : 0 ≤ c0.toInt) (uc1 : 0 ≤ c1.toInt) (vc0 : c0.toInt ≤ 255) (vc1 : c1.toInt ≤ 255) (Vb : Arv Z h0 ob kb .byte (2 : Int32) [(.int (0 : Int32)), (.int (0 : Int32))] (.int (0 : Int32))) (gb : n0 ≤ ob) (ncb : oc ≠ ob) :
    MetFree l (⟨"java/lang/StringUTF16", "compress", "([CI[BII)I"⟩ : MethodName) (head1 (Jvm.Cond.code (⟨"java/lang/StringUTF16", "compress", "([CI[BII)I"⟩ : MethodName) jdk_52_method_21_code 7 (some .int) :: ws) ({ frames := 0, cells := 0, slots := 0, locals := 0 } : Room)) (fun a U => a = #[(.ref oc), (.int (0 : Int32)), (.ref ob), (.int (0 : Int32)), (.int (2 : Int32))] ∧ Z.Warmed39 U.vm ∧ U.heap = h0) (fun _ _ _ _ _ => True) (fun _ U o U' => ∃ v L, o = .returned v ∧ Q_cp2 Z oc ob kC c0 c1 kb h0 n0 v U'.heap L ∧ FrameEnd U o U' L ({ frames := 0, cells := 0, slots := 0, locals := 0 } : Room).cells ({ frames := 0, cells := 0, slots := 0, locals := 0 } : Room).slots) := by
  refine MetFree.of_bodySF (plainFor_of_name pn_2) hisR ?_
  intro p e s m args below meth c s₁ Bd hml0 hP hK
  obtain ⟨rfl, hZ, hh⟩ := hP
  have hx := Bd.exec
  have hby := Bd.bytes
  have hml : c.maxLocals = 7 := hml0
  have hown : s.vm.findClass "java/lang/StringUTF16" = some m.cls := findClass_of_methodNamed Bd.named
  have hnm := (name_of_methodNamed Bd.named Bd.method).1
  have X0 : Stand p l e ({ frames := 0, cells := 0, slots := 0, locals := 0 } : Room) s m #[(.ref oc), (.int (0 : Int32)), (.ref ob), (.int (0 : Int32)), (.int (2 : Int32))] below meth c s₁ [] 0 0 := Stand.of_body Bd
  have e0 : s₁.heap = h0 := by rw [← hh, Bd.state]; rfl
  have N0 := Fr.nil n0
  have pre0 : ∀ t, Steps p.tables e below (s₁.setTop (mkF m 0 #[.val (.ref oc), .val (.int (0 : Int32)), .val (.ref ob), .val (.int (0 : Int32)), .val (.int (2 : Int32)), .unset, .unset] [])) t → Steps p.tables e below (s₁.setTop (entryFrame m #[(.ref oc), (.int (0 : Int32)), (.ref ob), (.int (0 : Int32)), (.int (2 : Int32))] 7)) t := fun t k => castTop (ef_rm_cp2 m oc ob) k
  have hc7_1 : (0 : Int) < (2 : Int) := by decide
  obtain ⟨cl2, Ar2, q2, S2, M2, H2, G2⟩ := id Vc
  have hin2 : ¬ ((0 : Int32) < 0 ∨ cl2.slots.size ≤ ((0 : Int32)).toNatClampNeg) := inb_of S2 ⟨by decide, by decide⟩
  have hat2 : cl2.slots[((0 : Int32)).toNatClampNeg]? = some (.int c0) := Has.at H2 hin2 rfl
  have hc20_3 : ¬ ((255 : Int) < c0.toInt) := by omega
  obtain ⟨cl4, Ar4, q4, S4, M4, H4, G4⟩ := id Vb
  have hin4 : ¬ ((0 : Int32) < 0 ∨ cl4.slots.size ≤ ((0 : Int32)).toNatClampNeg) := inb_of S4 ⟨by decide, by decide⟩
  obtain ⟨T5, h5, X5, e5, W5, st5⟩ := stB X0 hx hZ e0 Ar4 (j := (0 : Int32)) hin4 (g := (mkF m 31 #[.val (.ref oc), .val (.int (0 : Int32)), .val (.ref ob), .val (.int (0 : Int32)), .val (.int (2 : Int32)), .val (.int (0 : Int32)), .val (.int c0)] [(.int (c0.toInt8.toInt32)), (.int (0 : Int32)), (.ref ob)])) rfl rfl (hb hby d9_31)
  have N5 := Fr.snoc X5 N0 gb
  have Zs6 : n0 ≤ h5.size := by rw [W5.size]; exact Z0
  have V5 : Arv Z h5 ob kb .byte (2 : Int32) [(.int (nar .byte (c0.toInt8.toInt32))), (.int (0 : Int32))] (.int (0 : Int32)) := Arv.set Ar4 q4 S4 M4 H4 G4 (fits_nar_byte _) W5 0 rfl (Nat.le_of_ble_eq_true rfl)
  have hc7_7 : (1 : Int) < (2 : Int) := by decide
  have f8 := (Vc.other W5 ncb)
  obtain ⟨cl9, Ar9, q9, S9, M9, H9, G9⟩ := id f8
  have hin9 : ¬ ((1 : Int32) < 0 ∨ cl9.slots.size ≤ ((1 : Int32)).toNatClampNeg) := inb_of S9 ⟨by decide, by decide⟩
  have hat9 : cl9.slots[((1 : Int32)).toNatClampNeg]? = some (.int c1) := Has.at H9 hin9 rfl
  have hc20_10 : ¬ ((255 : Int) < c1.toInt) := by omega
  obtain ⟨cl11, Ar11, q11, S11, M11, H11, G11⟩ := id V5
  have hin11 : ¬ ((1 : Int32) < 0 ∨ cl11.slots.size ≤ ((1 : Int32)).toNatClampNeg) := inb_of S11 ⟨by decide, by decide⟩
  obtain ⟨T12, h12, X12, e12, W12, st12⟩ := stB X5 hx hZ e5 Ar11 (j := (1 : Int32)) hin11 (g := (mkF m 31 #[.val (.ref oc), .val (.int (1 : Int32)), .val (.ref ob), .val (.int (1 : Int32)), .val (.int (2 : Int32)), .val (.int (1 : Int32)), .val (.int c1)] [(.int (c1.toInt8.toInt32)), (.int (1 : Int32)), (.ref ob)])) rfl rfl (hb hby d9_31)
  have N12 := Fr.snoc X12 N5 gb
  have Zs13 : n0 ≤ h12.size := by rw [W12.size]; exact Zs6
  have V12 : Arv Z h12 ob kb .byte (2 : Int32) [(.int (nar .byte (c0.toInt8.toInt32))), (.int (nar .byte (c1.toInt8.toInt32)))] (.int (0 : Int32)) := Arv.set Ar11 q11 S11 M11 H11 G11 (fits_nar_byte _) W12 1 rfl (Nat.le_of_ble_eq_true rfl)
  have hc7_14 : ¬ ((2 : Int) < (2 : Int)) := by decide
  obtain ⟨fs, hr, hrun, hended, hW, hsame⟩ := X12.leave (v := some (.int (2 : Int32))) (fun h => by rw [Bd.returns] at h; cases h)
  refine ⟨_, _, pre0 _ ?_, hrun, hended, _, _, rfl, ?_, ⟨_, rfl⟩, hW, hsame.mono (by decide) (by decide)⟩
  · refine XS.iconst X0.here hx rfl (hb hby d9_0) ?_
    refine XS.istore X0.here hx rfl (hb hby d9_1) rfl (l' := #[.val (.ref oc), .val (.int (0 : Int32)), .val (.ref ob), .val (.int (0 : Int32)), .val (.int (2 : Int32)), .val (.int (0 : Int32)), .unset]) rfl ?_
    refine XS.iload X0.here hx rfl (hb hby d9_3) rfl ?_
    refine XS.iload X0.here hx rfl (hb hby d9_5) rfl ?_
    refine XS.icmpNo X0.here hx rfl (hb hby d9_7) rfl (own_tlt (a := (0 : Int32)) (b := (2 : Int32)) (by decide) (by decide) hc7_1).2.1 ?_
    refine XS.aloadN X0.here hx rfl (hb hby d9_10) rfl rfl ?_
    refine XS.iloadN X0.here hx rfl (hb hby d9_11) rfl ?_
    show Steps p.tables e below (s₁.setTop (mkF m 12 #[.val (.ref oc), .val (.int (0 : Int32)), .val (.ref ob), .val (.int (0 : Int32)), .val (.int (2 : Int32)), .val (.int (0 : Int32)), .unset] [(.int (0 : Int32)), (.ref oc)])) _
    refine X0.caload hx (j := (0 : Int32)) (v := (.int c0)) (by rw [e0]; exact Ar2.1) (State.isArrayOf_alike hZ.alike Ar2.2.1) Ar2.2.2 hin2 hat2 (g := (mkF m 12 #[.val (.ref oc), .val (.int (0 : Int32)), .val (.ref ob), .val (.int (0 : Int32)), .val (.int (2 : Int32)), .val (.int (0 : Int32)), .unset] [(.int (0 : Int32)), (.ref oc)])) rfl rfl (hb hby d9_12) _ ?_
    refine XS.istore X0.here hx rfl (hb hby d9_13) rfl (l' := #[.val (.ref oc), .val (.int (0 : Int32)), .val (.ref ob), .val (.int (0 : Int32)), .val (.int (2 : Int32)), .val (.int (0 : Int32)), .val (.int c0)]) rfl ?_
    refine XS.iload X0.here hx rfl (hb hby d9_15) rfl ?_
    refine XS.sipush X0.here hx rfl (hb hby d9_17) ?_
    refine XS.icmpYes X0.here hx rfl (pc0 := 20) (pc' := 26) rfl (hb hby d9_20) rfl (own_flt (a := (255 : Int32)) (b := c0) (by decide) rfl hc20_3).2.2.2 (by decide) (by decide) ?_
    refine XS.aloadN X0.here hx rfl (hb hby d9_26) rfl rfl ?_
    refine XS.iloadN X0.here hx rfl (hb hby d9_27) rfl ?_
    refine XS.iload X0.here hx rfl (hb hby d9_28) rfl ?_
    show Steps p.tables e below (s₁.setTop (mkF m 30 #[.val (.ref oc), .val (.int (0 : Int32)), .val (.ref ob), .val (.int (0 : Int32)), .val (.int (2 : Int32)), .val (.int (0 : Int32)), .val (.int c0)] [(.int c0), (.int (0 : Int32)), (.ref ob)])) _
    refine XS.i2b X0.here hx rfl (hb hby d9_30) rfl ?_
    refine st5 _ ?_
    refine XS.iinc X5.here hx rfl (hb hby d9_32) rfl (l' := #[.val (.ref oc), .val (.int (1 : Int32)), .val (.ref ob), .val (.int (0 : Int32)), .val (.int (2 : Int32)), .val (.int (0 : Int32)), .val (.int c0)]) rfl ?_
    refine XS.iinc X5.here hx rfl (hb hby d9_35) rfl (l' := #[.val (.ref oc), .val (.int (1 : Int32)), .val (.ref ob), .val (.int (1 : Int32)), .val (.int (2 : Int32)), .val (.int (0 : Int32)), .val (.int c0)]) rfl ?_
    refine XS.iinc X5.here hx rfl (hb hby d9_38) rfl (l' := #[.val (.ref oc), .val (.int (1 : Int32)), .val (.ref ob), .val (.int (1 : Int32)), .val (.int (2 : Int32)), .val (.int (1 : Int32)), .val (.int c0)]) rfl ?_
    refine XS.goto X5.here hx rfl (pc0 := 41) (pc' := 3) rfl (hb hby d9_41) (by decide) (by decide) ?_
    refine XS.iload X5.here hx rfl (hb hby d9_3) rfl ?_
    refine XS.iload X5.here hx rfl (hb hby d9_5) rfl ?_
    show Steps p.tables e below (T5.setTop (mkF m 7 #[.val (.ref oc), .val (.int (1 : Int32)), .val (.ref ob), .val (.int (1 : Int32)), .val (.int (2 : Int32)), .val (.int (1 : Int32)), .val (.int c0)] [(.int (2 : Int32)), (.int (1 : Int32))])) _
    refine XS.icmpNo X5.here hx rfl (hb hby d9_7) rfl (own_tlt (a := (1 : Int32)) (b := (2 : Int32)) (by decide) (by decide) hc7_7).2.1 ?_
    refine XS.aloadN X5.here hx rfl (hb hby d9_10) rfl rfl ?_
    refine XS.iloadN X5.here hx rfl (hb hby d9_11) rfl ?_
    refine X5.caload hx (j := (1 : Int32)) (v := (.int c1)) (by rw [e5]; exact Ar9.1) (State.isArrayOf_alike hZ.alike Ar9.2.1) Ar9.2.2 hin9 hat9 (g := (mkF m 12 #[.val (.ref oc), .val (.int (1 : Int32)), .val (.ref ob), .val (.int (1 : Int32)), .val (.int (2 : Int32)), .val (.int (1 : Int32)), .val (.int c0)] [(.int (1 : Int32)), (.ref oc)])) rfl rfl (hb hby d9_12) _ ?_
    refine XS.istore X5.here hx rfl (hb hby d9_13) rfl (l' := #[.val (.ref oc), .val (.int (1 : Int32)), .val (.ref ob), .val (.int (1 : Int32)), .val (.int (2 : Int32)), .val (.int (1 : Int32)), .val (.int c1)]) rfl ?_
    refine XS.iload X5.here hx rfl (hb hby d9_15) rfl ?_
    refine XS.sipush X5.here hx rfl (hb hby d9_17) ?_
    refine XS.icmpYes X5.here hx rfl (pc0 := 20) (pc' := 26) rfl (hb hby d9_20) rfl (own_flt (a := (255 : Int32)) (b := c1) (by decide) rfl hc20_10).2.2.2 (by decide) (by decide) ?_
    show Steps p.tables e below (T5.setTop (mkF m 26 #[.val (.ref oc), .val (.int (1 : Int32)), .val (.ref ob), .val (.int (1 : Int32)), .val (.int (2 : Int32)), .val (.int (1 : Int32)), .val (.int c1)] [])) _
    refine XS.aloadN X5.here hx rfl (hb hby d9_26) rfl rfl ?_
    refine XS.iloadN X5.here hx rfl (hb hby d9_27) rfl ?_
    refine XS.iload X5.here hx rfl (hb hby d9_28) rfl ?_
    refine XS.i2b X5.here hx rfl (hb hby d9_30) rfl ?_
    refine st12 _ ?_
    refine XS.iinc X12.here hx rfl (hb hby d9_32) rfl (l' := #[.val (.ref oc), .val (.int (2 : Int32)), .val (.ref ob), .val (.int (1 : Int32)), .val (.int (2 : Int32)), .val (.int (1 : Int32)), .val (.int c1)]) rfl ?_
    refine XS.iinc X12.here hx rfl (hb hby d9_35) rfl (l' := #[.val (.ref oc), .val (.int (2 : Int32)), .val (.ref ob), .val (.int (2 : Int32)), .val (.int (2 : Int32)), .val (.int (1 : Int32)), .val (.int c1)]) rfl ?_
    refine XS.iinc X12.here hx rfl (hb hby d9_38) rfl (l' := #[.val (.ref oc), .val (.int (2 : Int32)), .val (.ref ob), .val (.int (2 : Int32)), .val (.int (2 : Int32)), .val (.int (2 : Int32)), .val (.int c1)]) rfl ?_
    show Steps p.tables e below (T12.setTop (mkF m 41 #[.val (.ref oc), .val (.int (2 : Int32)), .val (.ref ob), .val (.int (2 : Int32)), .val (.int (2 : Int32)), .val (.int (2 : Int32)), .val (.int c1)] [])) _
    refine XS.goto X12.here hx rfl (pc0 := 41) (pc' := 3) rfl (hb hby d9_41) (by decide) (by decide) ?_
    refine XS.iload X12.here hx rfl (hb hby d9_3) rfl ?_
    refine XS.iload X12.here hx rfl (hb hby d9_5) rfl ?_
    refine XS.icmpYes X12.here hx rfl (pc0 := 7) (pc' := 44) rfl (hb hby d9_7) rfl (own_flt (a := (2 : Int32)) (b := (2 : Int32)) (by decide) (by decide) hc7_14).2.1 (by decide) (by decide) ?_
    refine XS.iload X12.here hx rfl (hb hby d9_44) rfl ?_
    exact retI X12 hx Bd.returns (hb hby d9_46) hr
  · show Q_cp2 Z _ _ _ _ _ _ h0 n0 _ T12.heap _
    rw [e12]
    have f15 := (((Keep.refl h0 [ob]).wr W5 (Or.inl (List.mem_of_getElem? (i := 0) rfl))).wr W12 (Or.inl (List.mem_of_getElem? (i := 0) rfl)))
    exact ⟨_, _, rfl, N12, f15, V12, own_b2 c0 uc0 vc0, own_b2 c1 uc1 vc1⟩
theorem ef_rm_cm2 (m : MethodId) (x0 : Addr) : entryFrame m #[(.ref x0), (.int (0 : Int32)), (.int (2 : Int32))] 6 = mkF m 0 #[.val (.ref x0), .val (.int (0 : Int32)), .val (.int (2 : Int32)), .unset, .unset, .unset] [] := by first | (simp [entryFrame, mkF, argsToLocals, Value.category]; done) | rfl
def Q_cm2 (Z : State) (oc : Addr) (kC : ClassId) (c0 : Int32) (c1 : Int32) (h0 : Heap) (n0 : Nat) (v : Option Value) (h : Heap) (L : List Loc) : Prop := ∃ (ob : Addr) (kb : ClassId) (bb0 bb1 : Int32), v = some (.ref ob) ∧ Fr n0 L ∧ Keep h0 h [] ∧ n0 ≤ ob ∧ h0.size ≤ ob ∧ Arv Z h ob kb .byte (2 : Int32) [(.int bb0), (.int bb1)] (.int (0 : Int32)) ∧ bb0.toInt % 256 = c0.toInt ∧ bb1.toInt % 256 = c1.toInt
set_option maxRecDepth 65536 in
set_option maxHeartbeats 40000000 in
theorem rm_cm2 (l : Launch) (Z : State) (a0 : Array Value) (hw : ∀ d ∈ tables_1, d.before a0 Z = true) (ws : List Jvm.Cond) (oc : Addr) (kC : ClassId) (c0 : Int32) (c1 : Int32) (h0 : Heap) (n0 : Nat) (Z0 : n0 ≤ h0.size) (Vc : Arv Z h0 oc kC .char (2 : Int32) [(.int c0), (.int c1)] (.int (0 : Int32))) (uc0 : 0 ≤ c0.toInt) (uc1 : 0 ≤ c1.toInt) (vc0 : c0.toInt ≤ 255) (vc1 : c1.toInt ≤ 255) :
    MetFree l (⟨"java/lang/StringUTF16", "compress", "([CII)[B"⟩ : MethodName) (head1 (Jvm.Cond.code (⟨"java/lang/StringUTF16", "compress", "([CII)[B"⟩ : MethodName) jdk_52_method_16_code 6 (some (.array .byte)) :: ws) ({ frames := 1, cells := 1, slots := 2, locals := 18 } : Room)) (fun a U => a = #[(.ref oc), (.int (0 : Int32)), (.int (2 : Int32))] ∧ Z.Warmed39 U.vm ∧ U.heap = h0) (fun _ _ _ _ _ => True) (fun _ U o U' => ∃ v L, o = .returned v ∧ Q_cm2 Z oc kC c0 c1 h0 n0 v U'.heap L ∧ FrameEnd U o U' L ({ frames := 1, cells := 1, slots := 2, locals := 18 } : Room).cells ({ frames := 1, cells := 1, slots := 2, locals := 18 } : Room).slots) := by
  refine MetFree.of_bodySF (plainFor_of_name pn_2) hisR ?_
  intro p e s m args below meth c s₁ Bd hml0 hP hK
  obtain ⟨rfl, hZ, hh⟩ := hP
  have hx := Bd.exec
  have hby := Bd.bytes
  have hml : c.maxLocals = 6 := hml0
  have hown : s.vm.findClass "java/lang/StringUTF16" = some m.cls := findClass_of_methodNamed Bd.named
  have hnm := (name_of_methodNamed Bd.named Bd.method).1
  have X0 : Stand p l e ({ frames := 1, cells := 1, slots := 2, locals := 18 } : Room) s m #[(.ref oc), (.int (0 : Int32)), (.int (2 : Int32))] below meth c s₁ [] 0 0 := Stand.of_body Bd
  have e0 : s₁.heap = h0 := by rw [← hh, Bd.state]; rfl
  have N0 := Fr.nil n0
  have pre0 : ∀ t, Steps p.tables e below (s₁.setTop (mkF m 0 #[.val (.ref oc), .val (.int (0 : Int32)), .val (.int (2 : Int32)), .unset, .unset, .unset] [])) t → Steps p.tables e below (s₁.setTop (entryFrame m #[(.ref oc), (.int (0 : Int32)), (.int (2 : Int32))] 6)) t := fun t k => castTop (ef_rm_cm2 m oc) k
  obtain ⟨T1, h1, k1, X1, e1, E1, A1, st1⟩ := newP X0 hx hZ (hw _ (List.mem_of_getElem? (i := 20) rfl)) e0 (g := (mkF m 1 #[.val (.ref oc), .val (.int (0 : Int32)), .val (.int (2 : Int32)), .unset, .unset, .unset] [(.int (2 : Int32))])) rfl (hb hby d8_1) rfl (by decide) (cap := 2) (by decide) (by decide) (by decide) (by decide)
  obtain ⟨b1, g1⟩ : ∃ z, z = h0.size := ⟨_, rfl⟩
  have ne_oc_b1 : oc ≠ b1 := Nat.ne_of_lt (Nat.lt_of_lt_of_le Vc.lt (Nat.le_of_eq g1.symm))
  have g_b1 : n0 ≤ b1 := Nat.le_trans Z0 (Nat.le_of_eq g1.symm)
  have sz_b1 : h0.size ≤ b1 := Nat.le_trans (Keep.refl h0 []).1 (Nat.le_of_eq g1.symm)
  rw [← g1] at A1 st1
  have Zs2 : n0 ≤ h1.size := Nat.le_trans Z0 E1.1
  have V1 : Arv Z h1 b1 k1 .byte (2 : Int32) [(.int (0 : Int32)), (.int (0 : Int32))] (.int (0 : Int32)) := (Arv.new A1 (by decide)).pad (pad_rep [] (.int (0 : Int32)) 2)
  have f4 := (Vc.ext E1)
  obtain ⟨_, _, ⟨T3, L3, k3, n3⟩, -, X3, ⟨Lc3, hQ3, l3, y3, z3⟩, st3⟩ := Jvm.LawKit.callS X1 hx (y := (⟨"java/lang/StringUTF16", "compress", "([CI[BII)I"⟩ : MethodName)) hown (mvT hZ (hw _ (List.mem_of_getElem? (i := 46) rfl))) (mvT hZ (hw _ (List.mem_of_getElem? (i := 47) rfl))) (mvT hZ (hw _ (List.mem_of_getElem? (i := 44) rfl))) (mvT hZ (hw _ (List.mem_of_getElem? (i := 48) rfl))) (by decide) (backOf (W := 0) (rm_cp2 l Z a0 hw [] oc b1 kC c0 c1 k1 h1 n0 Zs2 f4 uc0 uc1 vc0 vc1 V1 g_b1 ne_oc_b1) hZ (hw _ (List.mem_of_getElem? (i := 48) rfl)) (hw _ (List.mem_of_getElem? (i := 44) rfl)) (by decide) (by decide)) (g := (mkF m 9 #[.val (.ref oc), .val (.int (0 : Int32)), .val (.int (2 : Int32)), .val (.ref b1), .unset, .unset] [(.int (2 : Int32)), (.int (0 : Int32)), (.ref b1), (.int (0 : Int32)), (.ref oc)])) rfl (by rw [hml]; rfl) (argsL := [(.ref oc), (.int (0 : Int32)), (.ref b1), (.int (0 : Int32)), (.int (2 : Int32))]) (rest := []) (lenOf pd_2 rfl) rfl (by show 2 * 0 + _ ≤ _; exact Nat.le_of_eq rfl) (hb hby d8_9) (fun _ _ => ⟨rfl, e1, (by decide : 1 + 0 ≤ _), (by decide : 2 + 0 ≤ _)⟩)
  dsimp only [Pt.U, Pt.locs, Pt.cells, Pt.slots] at X3 l3 y3 z3 st3 hQ3
  rw [l3, y3, z3] at X3
  obtain ⟨bb0, bb1, rfl, N3q, K3, Vb3, qbb0, qbb1⟩ := hQ3
  have N3 := Fr.app N0 N3q
  have Zs5 : n0 ≤ T3.heap.size := Nat.le_trans Zs2 K3.1
  have hc17_6 : (2 : Int) = (2 : Int) := by decide
  obtain ⟨fs, hr, hrun, hended, hW, hsame⟩ := X3.leave (v := some (.ref b1)) (fun h => by rw [Bd.returns] at h; cases h)
  refine ⟨_, _, pre0 _ ?_, hrun, hended, _, _, rfl, ?_, ⟨_, rfl⟩, hW, hsame.mono (by decide) (by decide)⟩
  · refine XS.iloadN X0.here hx rfl (hb hby d8_0) rfl ?_
    refine st1 _ ?_
    refine XS.astoreN X1.here hx rfl (hb hby d8_3) rfl rfl (l' := #[.val (.ref oc), .val (.int (0 : Int32)), .val (.int (2 : Int32)), .val (.ref b1), .unset, .unset]) rfl ?_
    refine XS.aloadN X1.here hx rfl (hb hby d8_4) rfl rfl ?_
    refine XS.iloadN X1.here hx rfl (hb hby d8_5) rfl ?_
    refine XS.aloadN X1.here hx rfl (hb hby d8_6) rfl rfl ?_
    refine XS.iconst X1.here hx rfl (hb hby d8_7) ?_
    show Steps p.tables e below (T1.setTop (mkF m 8 #[.val (.ref oc), .val (.int (0 : Int32)), .val (.int (2 : Int32)), .val (.ref b1), .unset, .unset] [(.int (0 : Int32)), (.ref b1), (.int (0 : Int32)), (.ref oc)])) _
    refine XS.iloadN X1.here hx rfl (hb hby d8_8) rfl ?_
    refine st3 _ ?_
    refine XS.istore X3.here hx rfl (hb hby d8_12) rfl (l' := #[.val (.ref oc), .val (.int (0 : Int32)), .val (.int (2 : Int32)), .val (.ref b1), .val (.int (2 : Int32)), .unset]) rfl ?_
    refine XS.iload X3.here hx rfl (hb hby d8_14) rfl ?_
    refine XS.iloadN X3.here hx rfl (hb hby d8_16) rfl ?_
    refine XS.icmpYes X3.here hx rfl (pc0 := 17) (pc' := 57) rfl (hb hby d8_17) rfl (own_teq (a := (2 : Int32)) (b := (2 : Int32)) (by decide) (by decide) hc17_6).1 (by decide) (by decide) ?_
    refine XS.aloadN X3.here hx rfl (hb hby d8_57) rfl rfl ?_
    jvm_step X3.here [X3.here.top, hx, (hb hby d8_58), X3.method', Bd.returns, Value.isRef, FieldType.isReference]
    first | (intro acts; rw [hr _ acts rfl rfl rfl]) | rw [hr _ _ rfl rfl rfl]
    exact Steps.refl _
  · show Q_cm2 Z _ _ _ _ h0 n0 _ T3.heap _
    have f7 := (((Keep.refl h0 []).ext E1).trans K3 (allS (P := fun x => x ∈ [] ∨ h0.size ≤ x) (Or.inr sz_b1) all0))
    exact ⟨b1, _, bb0, bb1, rfl, N3, f7, g_b1, sz_b1, Vb3, qbb0, qbb1⟩
theorem ef_rm_cf2_0 (m : MethodId) (x0 : Addr) : entryFrame m #[(.ref x0), (.int (2 : Int32))] 2 = mkF m 0 #[.val (.ref x0), .val (.int (2 : Int32))] [] := by first | (simp [entryFrame, mkF, argsToLocals, Value.category]; done) | rfl
def Q_cf2_0 (Z : State) (ob : Addr) (kb : ClassId) (vs : List Value) (h0 : Heap) (n0 : Nat) (v : Option Value) (h : Heap) (L : List Loc) : Prop := ∃ z : Int32, v = some (.int z) ∧ (z = (0 : Int32)) ∧ Fr n0 L ∧ h = h0
set_option maxRecDepth 65536 in
set_option maxHeartbeats 40000000 in
theorem rm_cf2_0 (l : Launch) (Z : State) (a0 : Array Value) (hw : ∀ d ∈ tables_1, d.before a0 Z = true) (ws : List Jvm.Cond) (ob : Addr) (kb : ClassId) (vs : List Value) (h0 : Heap) (n0 : Nat) (Z0 : n0 ≤ h0.size) (Vb : Arv Z h0 ob kb .byte (2 : Int32) vs (.int (0 : Int32))) :
    MetFree l (⟨"java/lang/StringUTF16", "coderFromArrayLen", "([BI)B"⟩ : MethodName) (head1 (Jvm.Cond.code (⟨"java/lang/StringUTF16", "coderFromArrayLen", "([BI)B"⟩ : MethodName) jdk_52_method_15_code 2 (some .byte) :: ws) ({ frames := 0, cells := 0, slots := 0, locals := 0 } : Room)) (fun a U => a = #[(.ref ob), (.int (2 : Int32))] ∧ Z.Warmed39 U.vm ∧ U.heap = h0) (fun _ _ _ _ _ => True) (fun _ U o U' => ∃ v L, o = .returned v ∧ Q_cf2_0 Z ob kb vs h0 n0 v U'.heap L ∧ FrameEnd U o U' L ({ frames := 0, cells := 0, slots := 0, locals := 0 } : Room).cells ({ frames := 0, cells := 0, slots := 0, locals := 0 } : Room).slots) := by
  refine MetFree.of_bodySF (plainFor_of_name pn_2) hisR ?_
  intro p e s m args below meth c s₁ Bd hml0 hP hK
  obtain ⟨rfl, hZ, hh⟩ := hP
  have hx := Bd.exec
  have hby := Bd.bytes
  have hml : c.maxLocals = 2 := hml0
  have hown : s.vm.findClass "java/lang/StringUTF16" = some m.cls := findClass_of_methodNamed Bd.named
  have hnm := (name_of_methodNamed Bd.named Bd.method).1
  have X0 : Stand p l e ({ frames := 0, cells := 0, slots := 0, locals := 0 } : Room) s m #[(.ref ob), (.int (2 : Int32))] below meth c s₁ [] 0 0 := Stand.of_body Bd
  have e0 : s₁.heap = h0 := by rw [← hh, Bd.state]; rfl
  have N0 := Fr.nil n0
  have pre0 : ∀ t, Steps p.tables e below (s₁.setTop (mkF m 0 #[.val (.ref ob), .val (.int (2 : Int32))] [])) t → Steps p.tables e below (s₁.setTop (entryFrame m #[(.ref ob), (.int (2 : Int32))] 2)) t := fun t k => castTop (ef_rm_cf2_0 m ob) k
  obtain ⟨cl1, Ar1, q1, S1, M1, H1, G1⟩ := id Vb
  obtain ⟨fs, hr, hrun, hended, hW, hsame⟩ := X0.leave (v := some (.int (0 : Int32))) (fun h => by rw [Bd.returns] at h; cases h)
  refine ⟨_, _, pre0 _ ?_, hrun, hended, _, _, rfl, ?_, ⟨_, rfl⟩, hW, hsame.mono (by decide) (by decide)⟩
  · refine XS.iloadN X0.here hx rfl (hb hby d10_0) rfl ?_
    refine XS.aloadN X0.here hx rfl (hb hby d10_1) rfl rfl ?_
    refine X0.arraylength hx (by rw [e0]; exact Ar1.1) (State.isArrayOf_alike hZ.alike Ar1.2.1) (g := (mkF m 2 #[.val (.ref ob), .val (.int (2 : Int32))] [(.ref ob), (.int (2 : Int32))])) rfl rfl (hb hby d10_2) _ ?_
    rw [len_of S1 M1]
    refine XS.isub X0.here hx rfl (hb hby d10_3) rfl ?_
    refine XS.bipush X0.here hx rfl (hb hby d10_4) ?_
    refine XS.iushr X0.here hx rfl (hb hby d10_6) rfl ?_
    refine XS.i2b X0.here hx rfl (hb hby d10_7) rfl ?_
    show Steps p.tables e below (s₁.setTop (mkF m 8 #[.val (.ref ob), .val (.int (2 : Int32))] [(.int (0 : Int32))])) _
    exact retN X0 hx (t := .byte) Bd.returns (by simp) (hb hby d10_8) hr
  · show Q_cf2_0 Z _ _ _ h0 n0 _ s₁.heap _
    rw [e0]
    exact ⟨_, rfl, rfl, N0, rfl⟩
theorem ef_rm_iv2 (m : MethodId) (x0 : Addr) (x1 : Addr) : entryFrame m #[(.ref x0), (.ref x1), (.int (0 : Int32)), (.int (2 : Int32)), .null] 6 = mkF m 0 #[.val (.ref x0), .val (.ref x1), .val (.int (0 : Int32)), .val (.int (2 : Int32)), .val .null, .unset] [] := by first | (simp [entryFrame, mkF, argsToLocals, Value.category]; done) | rfl
def Q_iv2 (Z : State) (oa : Addr) (oc : Addr) (vcs : Int32) (vf : Value) (kC : ClassId) (c0 : Int32) (c1 : Int32) (h0 : Heap) (n0 : Nat) (v : Option Value) (h : Heap) (L : List Loc) : Prop := v = none ∧ Fr n0 L ∧ Keep h0 h [oa] ∧ Exa Z h oa "java/lang/String" ∧ ∃ (ob : Addr) (kb : ClassId) (bb0 bb1 : Int32), n0 ≤ ob ∧ h0.size ≤ ob ∧ Fld Z h oa "java/lang/String" "coder" "B" (.int (0 : Int32)) ∧ Fld Z h oa "java/lang/String" "value" "[B" (.ref ob) ∧ Arv Z h ob kb .byte (2 : Int32) [(.int bb0), (.int bb1)] (.int (0 : Int32)) ∧ bb0.toInt % 256 = c0.toInt ∧ bb1.toInt % 256 = c1.toInt
set_option maxRecDepth 65536 in
set_option maxHeartbeats 40000000 in
theorem rm_iv2 (l : Launch) (Z : State) (a0 : Array Value) (hw : ∀ d ∈ tables_1, d.before a0 Z = true) (ws : List Jvm.Cond) (oa : Addr) (oc : Addr) (vcs : Int32) (vf : Value) (kC : ClassId) (c0 : Int32) (c1 : Int32) (h0 : Heap) (n0 : Nat) (Z0 : n0 ≤ h0.size) (Os : own_st Z h0 vcs vf) (Es : Exa Z h0 oa "java/lang/String") (Fc : Fld Z h0 oa "java/lang/String" "coder" "B" (.int (0 : Int32))) (Fv : Fld Z h0 oa "java/lang/String" "value" "[B" .null) (ga : n0 ≤ oa) (nac : oa ≠ oc) (Vc : Arv Z h0 oc kC .char (2 : Int32) [(.int c0), (.int c1)] (.int (0 : Int32))) (uc0 : 0 ≤ c0.toInt) (uc1 : 0 ≤ c1.toInt) (vc0 : c0.toInt ≤ 255) (vc1 : c1.toInt ≤ 255) :
    MetFree l (⟨"java/lang/String", "<init>", "([CIILjava/lang/Void;)V"⟩ : MethodName) (head1 (Jvm.Cond.code (⟨"java/lang/String", "<init>", "([CIILjava/lang/Void;)V"⟩ : MethodName) jdk_42_method_149_code 6 none :: ws) ({ frames := 2, cells := 1, slots := 2, locals := 35 } : Room)) (fun a U => a = #[(.ref oa), (.ref oc), (.int (0 : Int32)), (.int (2 : Int32)), .null] ∧ Z.Warmed39 U.vm ∧ U.heap = h0) (fun _ _ _ _ _ => True) (fun _ U o U' => ∃ v L, o = .returned v ∧ Q_iv2 Z oa oc vcs vf kC c0 c1 h0 n0 v U'.heap L ∧ FrameEnd U o U' L ({ frames := 2, cells := 1, slots := 2, locals := 35 } : Room).cells ({ frames := 2, cells := 1, slots := 2, locals := 35 } : Room).slots) := by
  refine MetFree.of_bodySF (plainFor_of_name pn_1) hisR ?_
  intro p e s m args below meth c s₁ Bd hml0 hP hK
  obtain ⟨rfl, hZ, hh⟩ := hP
  have hx := Bd.exec
  have hby := Bd.bytes
  have hml : c.maxLocals = 6 := hml0
  have hown : s.vm.findClass "java/lang/String" = some m.cls := findClass_of_methodNamed Bd.named
  have hnm := (name_of_methodNamed Bd.named Bd.method).1
  have X0 : Stand p l e ({ frames := 2, cells := 1, slots := 2, locals := 35 } : Room) s m #[(.ref oa), (.ref oc), (.int (0 : Int32)), (.int (2 : Int32)), .null] below meth c s₁ [] 0 0 := Stand.of_body Bd
  have e0 : s₁.heap = h0 := by rw [← hh, Bd.state]; rfl
  have N0 := Fr.nil n0
  have pre0 : ∀ t, Steps p.tables e below (s₁.setTop (mkF m 0 #[.val (.ref oa), .val (.ref oc), .val (.int (0 : Int32)), .val (.int (2 : Int32)), .val .null, .unset] [])) t → Steps p.tables e below (s₁.setTop (entryFrame m #[(.ref oa), (.ref oc), (.int (0 : Int32)), (.int (2 : Int32)), .null] 6)) t := fun t k => castTop (ef_rm_iv2 m oa oc) k
  obtain ⟨T1, X1, e1, st1⟩ := initO X0 hx hZ hown (hw _ (List.mem_of_getElem? (i := 16) rfl)) (hw _ (List.mem_of_getElem? (i := 17) rfl)) (hw _ (List.mem_of_getElem? (i := 18) rfl)) e0 (g := (mkF m 1 #[.val (.ref oa), .val (.ref oc), .val (.int (0 : Int32)), .val (.int (2 : Int32)), .val .null, .unset] [(.ref oa)])) rfl (by rw [hml]; rfl) rfl (hb hby d3_1) (by decide) (W := 0) (by show 2 * 0 + _ ≤ _; exact Nat.le_of_eq rfl) (by decide)
  have hc5_2 : ¬ ((2 : Int) = (0 : Int)) := by decide
  obtain ⟨T3, X3, e3, st3⟩ := getS2 X1 hx hZ hown (host := "") (Or.inl (hw _ (List.mem_of_getElem? (i := 41) rfl))) Via.refl e1 Os.1 (g := (mkF m 27 #[.val (.ref oa), .val (.ref oc), .val (.int (0 : Int32)), .val (.int (2 : Int32)), .val .null, .unset] [])) rfl (hb hby d3_27)
  have hc30_4 : ¬ (vcs.toInt = (0 : Int)) := by (have q := Os.2.1; omega)
  obtain ⟨_, _, ⟨T5, L5, k5, n5⟩, -, X5, ⟨Lc5, hQ5, l5, y5, z5⟩, st5⟩ := Jvm.LawKit.callS X3 hx (y := (⟨"java/lang/StringUTF16", "compress", "([CII)[B"⟩ : MethodName)) hown (mvT hZ (hw _ (List.mem_of_getElem? (i := 42) rfl))) (mvT hZ (hw _ (List.mem_of_getElem? (i := 43) rfl))) (mvT hZ (hw _ (List.mem_of_getElem? (i := 44) rfl))) (mvT hZ (hw _ (List.mem_of_getElem? (i := 45) rfl))) (by decide) (backOf (W := 0) (rm_cm2 l Z a0 hw [] oc kC c0 c1 h0 n0 Z0 Vc uc0 uc1 vc0 vc1) hZ (hw _ (List.mem_of_getElem? (i := 45) rfl)) (hw _ (List.mem_of_getElem? (i := 44) rfl)) (by decide) (by decide)) (g := (mkF m 36 #[.val (.ref oa), .val (.ref oc), .val (.int (0 : Int32)), .val (.int (2 : Int32)), .val .null, .unset] [(.int (2 : Int32)), (.int (0 : Int32)), (.ref oc)])) rfl (by rw [hml]; rfl) (argsL := [(.ref oc), (.int (0 : Int32)), (.int (2 : Int32))]) (rest := []) (lenOf pd_3 rfl) rfl (by show 2 * 0 + _ ≤ _; exact Nat.le_of_eq rfl) (hb hby d3_36) (fun _ _ => ⟨rfl, e3, (by decide : 0 + 1 ≤ _), (by decide : 0 + 2 ≤ _)⟩)
  dsimp only [Pt.U, Pt.locs, Pt.cells, Pt.slots] at X5 l5 y5 z5 st5 hQ5
  rw [l5, y5, z5] at X5
  obtain ⟨ob, kb, bb0, bb1, rfl, N5q, K5, gb, szb, Vb5, qbb0, qbb1⟩ := hQ5
  have N5 := Fr.app N0 N5q
  have Zs6 : n0 ≤ T5.heap.size := Nat.le_trans Z0 K5.1
  have ne_oa_ob : oa ≠ ob := Nat.ne_of_lt (Nat.lt_of_lt_of_le Es.lt szb)
  have ne_oc_ob : oc ≠ ob := Nat.ne_of_lt (Nat.lt_of_lt_of_le Vc.lt szb)
  have sz_ob : h0.size ≤ ob := Nat.le_trans (Keep.refl h0 [oa]).1 szb
  obtain ⟨_, _, ⟨T7, L7, k7, n7⟩, -, X7, ⟨Lc7, hQ7, l7, y7, z7⟩, st7⟩ := Jvm.LawKit.callS X5 hx (y := (⟨"java/lang/StringUTF16", "coderFromArrayLen", "([BI)B"⟩ : MethodName)) hown (mvT hZ (hw _ (List.mem_of_getElem? (i := 49) rfl))) (mvT hZ (hw _ (List.mem_of_getElem? (i := 50) rfl))) (mvT hZ (hw _ (List.mem_of_getElem? (i := 44) rfl))) (mvT hZ (hw _ (List.mem_of_getElem? (i := 51) rfl))) (by decide) (backOf (W := 1) (rm_cf2_0 l Z a0 hw [] ob kb [(.int bb0), (.int bb1)] T5.heap n0 Zs6 Vb5) hZ (hw _ (List.mem_of_getElem? (i := 51) rfl)) (hw _ (List.mem_of_getElem? (i := 44) rfl)) (by decide) (by decide)) (g := (mkF m 45 #[.val (.ref oa), .val (.ref oc), .val (.int (0 : Int32)), .val (.int (2 : Int32)), .val .null, .val (.ref ob)] [(.int (2 : Int32)), (.ref ob), (.ref oa)])) rfl (by rw [hml]; rfl) (argsL := [(.ref ob), (.int (2 : Int32))]) (rest := [(.ref oa)]) (lenOf pd_4 rfl) rfl (by show 2 * 0 + _ ≤ _; exact Nat.le_of_eq rfl) (hb hby d3_45) (fun _ _ => ⟨rfl, rfl, (by decide : 1 + 0 ≤ _), (by decide : 2 + 0 ≤ _)⟩)
  dsimp only [Pt.U, Pt.locs, Pt.cells, Pt.slots] at X7 l7 y7 z7 st7 hQ7
  rw [l7, y7, z7] at X7
  obtain ⟨zf, rfl, hzf, N7q, e7⟩ := hQ7
  have N7 := Fr.app N5 N7q
  have pre8 : ∀ t, Steps p.tables e below (T7.setTop (mkF m 48 #[.val (.ref oa), .val (.ref oc), .val (.int (0 : Int32)), .val (.int (2 : Int32)), .val .null, .val (.ref ob)] [(.int zf), (.ref oa)])) t → Steps p.tables e below (s₁.setTop (entryFrame m #[(.ref oa), (.ref oc), (.int (0 : Int32)), (.int (2 : Int32)), .null] 6)) t := fun t kt => by
    refine pre0 _ ?_
    refine XS.aloadN X0.here hx rfl (hb hby d3_0) rfl rfl ?_
    refine st1 _ ?_
    refine XS.iloadN X1.here hx rfl (hb hby d3_4) rfl ?_
    refine XS.ifYes X1.here hx rfl (pc0 := 5) (pc' := 27) rfl (hb hby d3_5) rfl (own_if (own_feq (a := (2 : Int32)) (b := (0 : Int32)) (by decide) (by decide) hc5_2).2) (by decide) (by decide) ?_
    refine st3 _ ?_
    refine XS.ifNo X3.here hx rfl (hb hby d3_30) rfl (own_if (own_feq (a := vcs) (b := (0 : Int32)) rfl (by decide) hc30_4).1) ?_
    refine XS.aloadN X3.here hx rfl (hb hby d3_33) rfl rfl ?_
    show Steps p.tables e below (T3.setTop (mkF m 34 #[.val (.ref oa), .val (.ref oc), .val (.int (0 : Int32)), .val (.int (2 : Int32)), .val .null, .unset] [(.ref oc)])) _
    refine XS.iloadN X3.here hx rfl (hb hby d3_34) rfl ?_
    refine XS.iloadN X3.here hx rfl (hb hby d3_35) rfl ?_
    refine st5 _ ?_
    refine XS.astore X5.here hx rfl (hb hby d3_39) rfl rfl (l' := #[.val (.ref oa), .val (.ref oc), .val (.int (0 : Int32)), .val (.int (2 : Int32)), .val .null, .val (.ref ob)]) rfl ?_
    refine XS.aloadN X5.here hx rfl (hb hby d3_41) rfl rfl ?_
    refine XS.aload X5.here hx rfl (hb hby d3_42) rfl rfl ?_
    refine XS.iloadN X5.here hx rfl (hb hby d3_44) rfl ?_
    refine st7 _ ?_
    exact kt
  subst hzf
  have pre9 : ∀ t, Steps p.tables e below (T7.setTop (mkF m 48 #[.val (.ref oa), .val (.ref oc), .val (.int (0 : Int32)), .val (.int (2 : Int32)), .val .null, .val (.ref ob)] [(.int (0 : Int32)), (.ref oa)])) t → Steps p.tables e below (s₁.setTop (entryFrame m #[(.ref oa), (.ref oc), (.int (0 : Int32)), (.int (2 : Int32)), .null] 6)) t := pre8
  have f10 := (Fc.keep K5 nin0)
  have f11 := (Es.keep K5)
  obtain ⟨T12, h12, X12, e12, W12, st12⟩ := putFN X7 hx hZ hown (hw _ (List.mem_of_getElem? (i := 26) rfl)) Via.refl e7 f10 f11 (Or.inr ⟨(hw _ (List.mem_of_getElem? (i := 22) rfl)), rfl, hnm⟩) (hw _ (List.mem_of_getElem? (i := 6) rfl)) (ty := .byte) (v' := (.int (0 : Int32))) (by decide) rfl rfl (g := (mkF m 48 #[.val (.ref oa), .val (.ref oc), .val (.int (0 : Int32)), .val (.int (2 : Int32)), .val .null, .val (.ref ob)] [(.int (0 : Int32)), (.ref oa)])) rfl rfl (hb hby d3_48)
  have N12 := Fr.snoc X12 N7 ga
  have Zs13 : n0 ≤ h12.size := by rw [W12.size]; exact Zs6
  have Fw12 := f10.same W12
  have f14 := ((Fv.keep K5 nin0).other W12 (Or.inr (slot_ne (Or.inr (hw _ (List.mem_of_getElem? (i := 21) rfl))) (Or.inr (hw _ (List.mem_of_getElem? (i := 22) rfl))) (by decide) (t := (.array .byte)) (t' := .byte) (by decide) (by decide))))
  have f15 := (f11.wr W12)
  obtain ⟨T16, h16, X16, e16, W16, st16⟩ := putF X12 hx hZ hown (host := "") (Or.inl (hw _ (List.mem_of_getElem? (i := 25) rfl))) Via.refl e12 f14 f15 (Or.inr ⟨(hw _ (List.mem_of_getElem? (i := 21) rfl)), rfl, hnm⟩) (hw _ (List.mem_of_getElem? (i := 6) rfl)) (ty := (.array .byte)) (by decide) rfl rfl (g := (mkF m 54 #[.val (.ref oa), .val (.ref oc), .val (.int (0 : Int32)), .val (.int (2 : Int32)), .val .null, .val (.ref ob)] [(.ref ob), (.ref oa)])) rfl rfl (hb hby d3_54)
  have N16 := Fr.snoc X16 N12 ga
  have Zs17 : n0 ≤ h16.size := by rw [W16.size]; exact Zs13
  have Fw16 := f14.same W16
  obtain ⟨fs, hr, hrun, hended, hW, hsame⟩ := X16.leave (v := none) (fun _ => rfl)
  refine ⟨_, _, pre9 _ ?_, hrun, hended, _, _, rfl, ?_, ⟨_, rfl⟩, hW, hsame.mono (by decide) (by decide)⟩
  · show Steps p.tables e below (T7.setTop (mkF m 48 #[.val (.ref oa), .val (.ref oc), .val (.int (0 : Int32)), .val (.int (2 : Int32)), .val .null, .val (.ref ob)] [(.int (0 : Int32)), (.ref oa)])) _
    refine st12 _ ?_
    refine XS.aloadN X12.here hx rfl (hb hby d3_51) rfl rfl ?_
    refine XS.aload X12.here hx rfl (hb hby d3_52) rfl rfl ?_
    refine st16 _ ?_
    exact X16.returnOut hx Bd.returns (hb hby d3_57) hr
  · show Q_iv2 Z _ _ _ _ _ _ _ h0 n0 _ T16.heap _
    rw [e16]
    have f18 := ((((Keep.refl h0 [oa]).trans K5 all0).wr W12 (Or.inl (List.mem_of_getElem? (i := 0) rfl))).wr W16 (Or.inl (List.mem_of_getElem? (i := 0) rfl)))
    have f19 := (f15.wr W16)
    have f20 := (Fw12.other W16 (Or.inr (slot_ne (Or.inr (hw _ (List.mem_of_getElem? (i := 22) rfl))) (Or.inr (hw _ (List.mem_of_getElem? (i := 21) rfl))) (by decide) (t := .byte) (t' := (.array .byte)) (by decide) (by decide))))
    have f21 := ((Vb5.other W12 (Ne.symm ne_oa_ob)).other W16 (Ne.symm ne_oa_ob))
    exact ⟨rfl, N16, f18, f19, ob, kb, bb0, bb1, gb, sz_ob, f20, Fw16, f21, qbb0, qbb1⟩
theorem ef_rm_mk2 (m : MethodId) (x0 : Addr) (x1 : Addr) : entryFrame m #[(.ref x0), (.ref x1)] 2 = mkF m 0 #[.val (.ref x0), .val (.ref x1)] [] := by first | (simp [entryFrame, mkF, argsToLocals, Value.category]; done) | rfl
def Q_mk2 (Z : State) (oa : Addr) (oc : Addr) (vcs : Int32) (vf : Value) (kC : ClassId) (c0 : Int32) (c1 : Int32) (h0 : Heap) (n0 : Nat) (v : Option Value) (h : Heap) (L : List Loc) : Prop := v = none ∧ Fr n0 L ∧ Keep h0 h [oa] ∧ Exa Z h oa "java/lang/String" ∧ ∃ (ob : Addr) (kb : ClassId) (bb0 bb1 : Int32), n0 ≤ ob ∧ h0.size ≤ ob ∧ Fld Z h oa "java/lang/String" "coder" "B" (.int (0 : Int32)) ∧ Fld Z h oa "java/lang/String" "value" "[B" (.ref ob) ∧ Arv Z h ob kb .byte (2 : Int32) [(.int bb0), (.int bb1)] (.int (0 : Int32)) ∧ bb0.toInt % 256 = c0.toInt ∧ bb1.toInt % 256 = c1.toInt
set_option maxRecDepth 65536 in
set_option maxHeartbeats 40000000 in
theorem rm_mk2 (l : Launch) (Z : State) (a0 : Array Value) (hw : ∀ d ∈ tables_1, d.before a0 Z = true) (ws : List Jvm.Cond) (oa : Addr) (oc : Addr) (vcs : Int32) (vf : Value) (kC : ClassId) (c0 : Int32) (c1 : Int32) (h0 : Heap) (n0 : Nat) (Z0 : n0 ≤ h0.size) (Os : own_st Z h0 vcs vf) (Es : Exa Z h0 oa "java/lang/String") (Fc : Fld Z h0 oa "java/lang/String" "coder" "B" (.int (0 : Int32))) (Fv : Fld Z h0 oa "java/lang/String" "value" "[B" .null) (ga : n0 ≤ oa) (nac : oa ≠ oc) (Vc : Arv Z h0 oc kC .char (2 : Int32) [(.int c0), (.int c1)] (.int (0 : Int32))) (uc0 : 0 ≤ c0.toInt) (uc1 : 0 ≤ c1.toInt) (vc0 : c0.toInt ≤ 255) (vc1 : c1.toInt ≤ 255) :
    MetFree l (⟨"java/lang/String", "<init>", "([C)V"⟩ : MethodName) (head1 (Jvm.Cond.code (⟨"java/lang/String", "<init>", "([C)V"⟩ : MethodName) jdk_42_method_3_code 2 none :: ws) ({ frames := 3, cells := 1, slots := 2, locals := 52 } : Room)) (fun a U => a = #[(.ref oa), (.ref oc)] ∧ Z.Warmed39 U.vm ∧ U.heap = h0) (fun _ _ _ _ _ => True) (fun _ U o U' => ∃ v L, o = .returned v ∧ Q_mk2 Z oa oc vcs vf kC c0 c1 h0 n0 v U'.heap L ∧ FrameEnd U o U' L ({ frames := 3, cells := 1, slots := 2, locals := 52 } : Room).cells ({ frames := 3, cells := 1, slots := 2, locals := 52 } : Room).slots) := by
  refine MetFree.of_bodySF (plainFor_of_name pn_1) hisR ?_
  intro p e s m args below meth c s₁ Bd hml0 hP hK
  obtain ⟨rfl, hZ, hh⟩ := hP
  have hx := Bd.exec
  have hby := Bd.bytes
  have hml : c.maxLocals = 2 := hml0
  have hown : s.vm.findClass "java/lang/String" = some m.cls := findClass_of_methodNamed Bd.named
  have hnm := (name_of_methodNamed Bd.named Bd.method).1
  have X0 : Stand p l e ({ frames := 3, cells := 1, slots := 2, locals := 52 } : Room) s m #[(.ref oa), (.ref oc)] below meth c s₁ [] 0 0 := Stand.of_body Bd
  have e0 : s₁.heap = h0 := by rw [← hh, Bd.state]; rfl
  have N0 := Fr.nil n0
  have pre0 : ∀ t, Steps p.tables e below (s₁.setTop (mkF m 0 #[.val (.ref oa), .val (.ref oc)] [])) t → Steps p.tables e below (s₁.setTop (entryFrame m #[(.ref oa), (.ref oc)] 2)) t := fun t k => castTop (ef_rm_mk2 m oa oc) k
  obtain ⟨cl1, Ar1, q1, S1, M1, H1, G1⟩ := id Vc
  obtain ⟨_, _, ⟨T2, L2, k2, n2⟩, -, X2, ⟨Lc2, hQ2, l2, y2, z2⟩, st2⟩ := X0.specialBack hx (y := (⟨"java/lang/String", "<init>", "([CIILjava/lang/Void;)V"⟩ : MethodName)) rfl hown (mvT hZ (hw _ (List.mem_of_getElem? (i := 12) rfl))) (mvT hZ (hw _ (List.mem_of_getElem? (i := 13) rfl))) (mvT hZ (hw _ (List.mem_of_getElem? (i := 15) rfl))) (by decide) (backOf (W := 0) (rm_iv2 l Z a0 hw [] oa oc vcs vf kC c0 c1 h0 n0 Z0 Os Es Fc Fv ga nac Vc uc0 uc1 vc0 vc1) hZ (hw _ (List.mem_of_getElem? (i := 15) rfl)) (hw _ (List.mem_of_getElem? (i := 7) rfl)) (by decide) (by decide)) (g := (mkF m 6 #[.val (.ref oa), .val (.ref oc)] [.null, (.int (2 : Int32)), (.int (0 : Int32)), (.ref oc), (.ref oa)])) rfl (by rw [hml]; rfl) (Steps.refl _) (a := oa) (argsL := [(.ref oc), (.int (0 : Int32)), (.int (2 : Int32)), .null]) (rest := []) (lenOf pd_0 rfl) rfl (by show 2 * 0 + _ ≤ _; exact Nat.le_of_eq rfl) (hb hby d2_6) (fun _ _ => ⟨rfl, e0, (by decide : 0 + 1 ≤ _), (by decide : 0 + 2 ≤ _)⟩)
  dsimp only [Pt.U, Pt.locs, Pt.cells, Pt.slots] at X2 l2 y2 z2 st2 hQ2
  rw [l2, y2, z2] at X2
  obtain ⟨rfl, N2q, K2, A2, ob, kb, bb0, bb1, gb, szb, Fc2, Fv2, Vb2, qbb0, qbb1⟩ := hQ2
  have N2 := Fr.app N0 N2q
  have Zs3 : n0 ≤ T2.heap.size := Nat.le_trans Z0 K2.1
  have ne_oa_ob : oa ≠ ob := Nat.ne_of_lt (Nat.lt_of_lt_of_le Es.lt szb)
  have ne_oc_ob : oc ≠ ob := Nat.ne_of_lt (Nat.lt_of_lt_of_le Vc.lt szb)
  have sz_ob : h0.size ≤ ob := Nat.le_trans (Keep.refl h0 [oa]).1 szb
  obtain ⟨fs, hr, hrun, hended, hW, hsame⟩ := X2.leave (v := none) (fun _ => rfl)
  refine ⟨_, _, pre0 _ ?_, hrun, hended, _, _, rfl, ?_, ⟨_, rfl⟩, hW, hsame.mono (by decide) (by decide)⟩
  · refine XS.aloadN X0.here hx rfl (hb hby d2_0) rfl rfl ?_
    refine XS.aloadN X0.here hx rfl (hb hby d2_1) rfl rfl ?_
    refine XS.iconst X0.here hx rfl (hb hby d2_2) ?_
    refine XS.aloadN X0.here hx rfl (hb hby d2_3) rfl rfl ?_
    refine X0.arraylength hx (by rw [e0]; exact Ar1.1) (State.isArrayOf_alike hZ.alike Ar1.2.1) (g := (mkF m 4 #[.val (.ref oa), .val (.ref oc)] [(.ref oc), (.int (0 : Int32)), (.ref oc), (.ref oa)])) rfl rfl (hb hby d2_4) _ ?_
    rw [len_of S1 M1]
    refine XS.aconstNull X0.here hx rfl (hb hby d2_5) ?_
    refine st2.trans ?_
    show Steps p.tables e below (T2.setTop (mkF m 9 #[.val (.ref oa), .val (.ref oc)] [])) _
    exact X2.returnOut hx Bd.returns (hb hby d2_9) hr
  · show Q_mk2 Z _ _ _ _ _ _ _ h0 n0 _ T2.heap _
    have f4 := ((Keep.refl h0 [oa]).trans K2 (allS (P := fun x => x ∈ [oa] ∨ h0.size ≤ x) (Or.inl (List.mem_of_getElem? (i := 0) rfl)) all0))
    exact ⟨rfl, N2, f4, A2, ob, kb, bb0, bb1, gb, sz_ob, Fc2, Fv2, Vb2, qbb0, qbb1⟩
theorem d1_35 : decode method_3_code 35 = .ok (.iload_n 0, 1) := by decide +kernel
theorem d1_36 : decode method_3_code 36 = .ok (.iconst 2, 1) := by decide +kernel
theorem d1_37 : decode method_3_code 37 = .ok (.if_icmp .ne 22, 3) := by decide +kernel
theorem d1_40 : decode method_3_code 40 = .ok (.new 7, 3) := by decide +kernel
theorem d1_43 : decode method_3_code 43 = .ok (.dup, 1) := by decide +kernel
theorem d1_44 : decode method_3_code 44 = .ok (.iconst 2, 1) := by decide +kernel
theorem d1_45 : decode method_3_code 45 = .ok (.newarray .char, 2) := by decide +kernel
theorem d1_47 : decode method_3_code 47 = .ok (.dup, 1) := by decide +kernel
theorem d1_48 : decode method_3_code 48 = .ok (.iconst 0, 1) := by decide +kernel
theorem d1_49 : decode method_3_code 49 = .ok (.iload_n 1, 1) := by decide +kernel
theorem d1_50 : decode method_3_code 50 = .ok (.castore, 1) := by decide +kernel
theorem d1_51 : decode method_3_code 51 = .ok (.dup, 1) := by decide +kernel
theorem d1_52 : decode method_3_code 52 = .ok (.iconst 1, 1) := by decide +kernel
theorem d1_53 : decode method_3_code 53 = .ok (.iload_n 2, 1) := by decide +kernel
theorem d1_54 : decode method_3_code 54 = .ok (.castore, 1) := by decide +kernel
theorem d1_55 : decode method_3_code 55 = .ok (.invokespecial 9, 3) := by decide +kernel
theorem d1_58 : decode method_3_code 58 = .ok (.areturn, 1) := by decide +kernel
theorem ef_rm_m2 (m : MethodId) (x1 : Int32) (x2 : Int32) (x3 : Int32) (x4 : Int32) : entryFrame m #[(.int (2 : Int32)), (.int x1), (.int x2), (.int x3), (.int x4)] 5 = mkF m 0 #[.val (.int (2 : Int32)), .val (.int x1), .val (.int x2), .val (.int x3), .val (.int x4)] [] := by first | (simp [entryFrame, mkF, argsToLocals, Value.category]; done) | rfl
def Q_m2 (Z : State) (c0 : Int32) (c1 : Int32) (c2 : Int32) (c3 : Int32) (vcs : Int32) (vf : Value) (h0 : Heap) (n0 : Nat) (v : Option Value) (h : Heap) (L : List Loc) : Prop := ∃ (sa ob : Addr) (kb : ClassId) (bb0 bb1 : Int32), v = some (.ref sa) ∧ Fr n0 L ∧ Keep h0 h [] ∧ Exa Z h sa "java/lang/String" ∧ Fld Z h sa "java/lang/String" "coder" "B" (.int (0 : Int32)) ∧ Fld Z h sa "java/lang/String" "value" "[B" (.ref ob) ∧ Arv Z h ob kb .byte (2 : Int32) [(.int bb0), (.int bb1)] (.int (0 : Int32)) ∧ bb0.toInt % 256 = c0.toInt ∧ bb1.toInt % 256 = c1.toInt
set_option maxRecDepth 65536 in
set_option maxHeartbeats 40000000 in
theorem rm_m2 (l : Launch) (Z : State) (a0 : Array Value) (hw : ∀ d ∈ tables_1, d.before a0 Z = true) (ws : List Jvm.Cond) (c0 : Int32) (c1 : Int32) (c2 : Int32) (c3 : Int32) (vcs : Int32) (vf : Value) (h0 : Heap) (n0 : Nat) (Z0 : n0 ≤ h0.size) (Os : own_st Z h0 vcs vf) (uc0 : 0 ≤ c0.toInt) (uc1 : 0 ≤ c1.toInt) (uc2 : 0 ≤ c2.toInt) (uc3 : 0 ≤ c3.toInt) (vc0 : c0.toInt ≤ 255) (vc1 : c1.toInt ≤ 255) (vc2 : c2.toInt ≤ 255) (vc3 : c3.toInt ≤ 255) :
    MetFree l (⟨"com/example/path_template_matcher/pathtemplatematcher/UriReferencePathEndPinLaw", "mk", "(ICCCC)Ljava/lang/String;"⟩ : MethodName) (head1 (Jvm.Cond.code (⟨"com/example/path_template_matcher/pathtemplatematcher/UriReferencePathEndPinLaw", "mk", "(ICCCC)Ljava/lang/String;"⟩ : MethodName) method_3_code 5 (some (.object "java/lang/String")) :: ws) ({ frames := 4, cells := 3, slots := 8, locals := 66 } : Room)) (fun a U => a = #[(.int (2 : Int32)), (.int c0), (.int c1), (.int c2), (.int c3)] ∧ Z.Warmed39 U.vm ∧ U.heap = h0) (fun _ _ _ _ _ => True) (fun _ U o U' => ∃ v L, o = .returned v ∧ Q_m2 Z c0 c1 c2 c3 vcs vf h0 n0 v U'.heap L ∧ FrameEnd U o U' L ({ frames := 4, cells := 3, slots := 8, locals := 66 } : Room).cells ({ frames := 4, cells := 3, slots := 8, locals := 66 } : Room).slots) := by
  refine MetFree.of_bodySF (plainFor_of_name pn_0) hisR ?_
  intro p e s m args below meth c s₁ Bd hml0 hP hK
  obtain ⟨rfl, hZ, hh⟩ := hP
  have hx := Bd.exec
  have hby := Bd.bytes
  have hml : c.maxLocals = 5 := hml0
  have hown : s.vm.findClass "com/example/path_template_matcher/pathtemplatematcher/UriReferencePathEndPinLaw" = some m.cls := findClass_of_methodNamed Bd.named
  have hnm := (name_of_methodNamed Bd.named Bd.method).1
  have X0 : Stand p l e ({ frames := 4, cells := 3, slots := 8, locals := 66 } : Room) s m #[(.int (2 : Int32)), (.int c0), (.int c1), (.int c2), (.int c3)] below meth c s₁ [] 0 0 := Stand.of_body Bd
  have e0 : s₁.heap = h0 := by rw [← hh, Bd.state]; rfl
  have N0 := Fr.nil n0
  have pre0 : ∀ t, Steps p.tables e below (s₁.setTop (mkF m 0 #[.val (.int (2 : Int32)), .val (.int c0), .val (.int c1), .val (.int c2), .val (.int c3)] [])) t → Steps p.tables e below (s₁.setTop (entryFrame m #[(.int (2 : Int32)), (.int c0), (.int c1), (.int c2), (.int c3)] 5)) t := fun t k => castTop (ef_rm_m2 m c0 c1 c2 c3) k
  have hc1_1 : ¬ ((2 : Int) = (0 : Int)) := by decide
  have hc17_2 : ¬ ((2 : Int) = (1 : Int)) := by decide
  have hc37_3 : (2 : Int) = (2 : Int) := by decide
  obtain ⟨T4, h4, X4, e4, E4, A4, D4, -, st4⟩ := newO X0 hx hZ hown (hw _ (List.mem_of_getElem? (i := 5) rfl)) (hw _ (List.mem_of_getElem? (i := 6) rfl)) (hw _ (List.mem_of_getElem? (i := 7) rfl)) e0 (g := (mkF m 40 #[.val (.int (2 : Int32)), .val (.int c0), .val (.int c1), .val (.int c2), .val (.int c3)] [])) rfl (hb hby d1_40) (by decide) (by decide)
  obtain ⟨b4, g4⟩ : ∃ z, z = h0.size := ⟨_, rfl⟩
  have g_b4 : n0 ≤ b4 := Nat.le_trans Z0 (Nat.le_of_eq g4.symm)
  have sz_b4 : h0.size ≤ b4 := Nat.le_trans (Keep.refl h0 []).1 (Nat.le_of_eq g4.symm)
  rw [← g4] at A4 D4 st4
  have Zs5 : n0 ≤ h4.size := Nat.le_trans Z0 E4.1
  have F4_value : Fld Z h4 b4 "java/lang/String" "value" "[B" .null := D4 (Or.inr (hw _ (List.mem_of_getElem? (i := 21) rfl))) (ty := (.array .byte)) (by decide)
  have F4_coder : Fld Z h4 b4 "java/lang/String" "coder" "B" (.int (0 : Int32)) := D4 (Or.inr (hw _ (List.mem_of_getElem? (i := 22) rfl))) (ty := .byte) (by decide)
  obtain ⟨T6, h6, k6, X6, e6, E6, A6, st6⟩ := newP X4 hx hZ (hw _ (List.mem_of_getElem? (i := 8) rfl)) e4 (g := (mkF m 45 #[.val (.int (2 : Int32)), .val (.int c0), .val (.int c1), .val (.int c2), .val (.int c3)] [(.int (2 : Int32)), (.ref b4), (.ref b4)])) rfl (hb hby d1_45) rfl (by decide) (cap := 2) (by decide) (by decide) (by decide) (by decide)
  obtain ⟨b6, g6⟩ : ∃ z, z = h4.size := ⟨_, rfl⟩
  have ne_b4_b6 : b4 ≠ b6 := Nat.ne_of_lt (Nat.lt_of_lt_of_le A4.lt (Nat.le_of_eq g6.symm))
  have g_b6 : n0 ≤ b6 := Nat.le_trans Zs5 (Nat.le_of_eq g6.symm)
  have f7 := ((Keep.refl h0 []).ext E4)
  have sz_b6 : h0.size ≤ b6 := Nat.le_trans f7.1 (Nat.le_of_eq g6.symm)
  rw [← g6] at A6 st6
  have Zs8 : n0 ≤ h6.size := Nat.le_trans Zs5 E6.1
  have V6 : Arv Z h6 b6 k6 .char (2 : Int32) [(.int (0 : Int32)), (.int (0 : Int32))] (.int (0 : Int32)) := (Arv.new A6 (by decide)).pad (pad_rep [] (.int (0 : Int32)) 2)
  obtain ⟨cl9, Ar9, q9, S9, M9, H9, G9⟩ := id V6
  have hin9 : ¬ ((0 : Int32) < 0 ∨ cl9.slots.size ≤ ((0 : Int32)).toNatClampNeg) := inb_of S9 ⟨by decide, by decide⟩
  obtain ⟨T10, h10, X10, e10, W10, st10⟩ := stC X6 hx hZ e6 Ar9 (j := (0 : Int32)) hin9 (g := (mkF m 50 #[.val (.int (2 : Int32)), .val (.int c0), .val (.int c1), .val (.int c2), .val (.int c3)] [(.int c0), (.int (0 : Int32)), (.ref b6), (.ref b6), (.ref b4), (.ref b4)])) rfl rfl (hb hby d1_50)
  have N10 := Fr.snoc X10 N0 g_b6
  have Zs11 : n0 ≤ h10.size := by rw [W10.size]; exact Zs8
  have V10 : Arv Z h10 b6 k6 .char (2 : Int32) [(.int (nar .char c0)), (.int (0 : Int32))] (.int (0 : Int32)) := Arv.set Ar9 q9 S9 M9 H9 G9 (fits_nar_char _) W10 0 rfl (Nat.le_of_ble_eq_true rfl)
  obtain ⟨cl12, Ar12, q12, S12, M12, H12, G12⟩ := id V10
  have hin12 : ¬ ((1 : Int32) < 0 ∨ cl12.slots.size ≤ ((1 : Int32)).toNatClampNeg) := inb_of S12 ⟨by decide, by decide⟩
  obtain ⟨T13, h13, X13, e13, W13, st13⟩ := stC X10 hx hZ e10 Ar12 (j := (1 : Int32)) hin12 (g := (mkF m 54 #[.val (.int (2 : Int32)), .val (.int c0), .val (.int c1), .val (.int c2), .val (.int c3)] [(.int c1), (.int (1 : Int32)), (.ref b6), (.ref b6), (.ref b4), (.ref b4)])) rfl rfl (hb hby d1_54)
  have N13 := Fr.snoc X13 N10 g_b6
  have Zs14 : n0 ≤ h13.size := by rw [W13.size]; exact Zs11
  have V13 : Arv Z h13 b6 k6 .char (2 : Int32) [(.int (nar .char c0)), (.int (nar .char c1))] (.int (0 : Int32)) := Arv.set Ar12 q12 S12 M12 H12 G12 (fits_nar_char _) W13 1 rfl (Nat.le_of_ble_eq_true rfl)
  have hn17 : nar .char c0 = c0 := own_narc c0 (by omega) (by omega)
  have hn18 : nar .char c1 = c1 := own_narc c1 (by omega) (by omega)
  have Vx16 : Arv Z h13 b6 k6 .char (2 : Int32) [(.int c0), (.int c1)] (.int (0 : Int32)) := by
    have q := V13
    rw [hn17, hn18] at q; exact q
  have f19 := (((A4.ext E6).wr W10).wr W13)
  have f20 := (((f7.ext E6).wr W10 (Or.inr sz_b6)).wr W13 (Or.inr sz_b6))
  have os21 := (own_st_wr (own_st_wr (own_st_ext (own_st_ext Os E4) E6) W10) W13)
  have f22 := (((F4_coder.ext E6).other W10 (Or.inl ne_b4_b6)).other W13 (Or.inl ne_b4_b6))
  have f23 := (((F4_value.ext E6).other W10 (Or.inl ne_b4_b6)).other W13 (Or.inl ne_b4_b6))
  obtain ⟨_, _, ⟨T15, L15, k15, n15⟩, -, X15, ⟨Lc15, hQ15, l15, y15, z15⟩, st15⟩ := X13.specialBack hx (y := (⟨"java/lang/String", "<init>", "([C)V"⟩ : MethodName)) rfl hown (mvT hZ (hw _ (List.mem_of_getElem? (i := 9) rfl))) (mvT hZ (hw _ (List.mem_of_getElem? (i := 10) rfl))) (mvT hZ (hw _ (List.mem_of_getElem? (i := 11) rfl))) (by decide) (backOf (W := 1) (rm_mk2 l Z a0 hw [] b4 b6 vcs vf k6 c0 c1 h13 n0 Zs14 os21 f19 f22 f23 g_b4 ne_b4_b6 Vx16 (by omega) (by omega) (by omega) (by omega)) hZ (hw _ (List.mem_of_getElem? (i := 11) rfl)) (hw _ (List.mem_of_getElem? (i := 7) rfl)) (by decide) (by decide)) (g := (mkF m 55 #[.val (.int (2 : Int32)), .val (.int c0), .val (.int c1), .val (.int c2), .val (.int c3)] [(.ref b6), (.ref b4), (.ref b4)])) rfl (by rw [hml]; rfl) (Steps.refl _) (a := b4) (argsL := [(.ref b6)]) (rest := [(.ref b4)]) (lenOf pd_1 rfl) rfl (by show 2 * 0 + _ ≤ _; exact Nat.le_of_eq rfl) (hb hby d1_55) (fun _ _ => ⟨rfl, e13, (by decide : 2 + 1 ≤ _), (by decide : 6 + 2 ≤ _)⟩)
  dsimp only [Pt.U, Pt.locs, Pt.cells, Pt.slots] at X15 l15 y15 z15 st15 hQ15
  rw [l15, y15, z15] at X15
  obtain ⟨rfl, N15q, K15, A15, ob15, kb15, y15_0, y15_1, gb15, szb15, Fc15, Fv15, Vb15, qy15_0, qy15_1⟩ := hQ15
  have N15 := Fr.app N13 N15q
  have Zs24 : n0 ≤ T15.heap.size := Nat.le_trans Zs14 K15.1
  have ne_b4_ob15 : b4 ≠ ob15 := Nat.ne_of_lt (Nat.lt_of_lt_of_le f19.lt szb15)
  have ne_b6_ob15 : b6 ≠ ob15 := Nat.ne_of_lt (Nat.lt_of_lt_of_le Vx16.lt szb15)
  have sz_ob15 : h0.size ≤ ob15 := Nat.le_trans f20.1 szb15
  obtain ⟨fs, hr, hrun, hended, hW, hsame⟩ := X15.leave (v := some (.ref b4)) (fun h => by rw [Bd.returns] at h; cases h)
  refine ⟨_, _, pre0 _ ?_, hrun, hended, _, _, rfl, ?_, ⟨_, rfl⟩, hW, hsame.mono (by decide) (by decide)⟩
  · refine XS.iloadN X0.here hx rfl (hb hby d1_0) rfl ?_
    refine XS.ifYes X0.here hx rfl (pc0 := 1) (pc' := 15) rfl (hb hby d1_1) rfl (own_if (own_feq (a := (2 : Int32)) (b := (0 : Int32)) (by decide) (by decide) hc1_1).2) (by decide) (by decide) ?_
    refine XS.iloadN X0.here hx rfl (hb hby d1_15) rfl ?_
    refine XS.iconst X0.here hx rfl (hb hby d1_16) ?_
    refine XS.icmpYes X0.here hx rfl (pc0 := 17) (pc' := 35) rfl (hb hby d1_17) rfl (own_feq (a := (2 : Int32)) (b := (1 : Int32)) (by decide) (by decide) hc17_2).2 (by decide) (by decide) ?_
    refine XS.iloadN X0.here hx rfl (hb hby d1_35) rfl ?_
    refine XS.iconst X0.here hx rfl (hb hby d1_36) ?_
    show Steps p.tables e below (s₁.setTop (mkF m 37 #[.val (.int (2 : Int32)), .val (.int c0), .val (.int c1), .val (.int c2), .val (.int c3)] [(.int (2 : Int32)), (.int (2 : Int32))])) _
    refine XS.icmpNo X0.here hx rfl (hb hby d1_37) rfl (own_teq (a := (2 : Int32)) (b := (2 : Int32)) (by decide) (by decide) hc37_3).2 ?_
    refine st4 _ ?_
    refine XS.dup X4.here hx rfl (hb hby d1_43) rfl rfl ?_
    refine XS.iconst X4.here hx rfl (hb hby d1_44) ?_
    refine st6 _ ?_
    refine XS.dup X6.here hx rfl (hb hby d1_47) rfl rfl ?_
    refine XS.iconst X6.here hx rfl (hb hby d1_48) ?_
    refine XS.iloadN X6.here hx rfl (hb hby d1_49) rfl ?_
    show Steps p.tables e below (T6.setTop (mkF m 50 #[.val (.int (2 : Int32)), .val (.int c0), .val (.int c1), .val (.int c2), .val (.int c3)] [(.int c0), (.int (0 : Int32)), (.ref b6), (.ref b6), (.ref b4), (.ref b4)])) _
    refine st10 _ ?_
    refine XS.dup X10.here hx rfl (hb hby d1_51) rfl rfl ?_
    refine XS.iconst X10.here hx rfl (hb hby d1_52) ?_
    refine XS.iloadN X10.here hx rfl (hb hby d1_53) rfl ?_
    refine st13 _ ?_
    refine st15.trans ?_
    jvm_step X15.here [X15.here.top, hx, (hb hby d1_58), X15.method', Bd.returns, Value.isRef, FieldType.isReference]
    first | (intro acts; rw [hr _ acts rfl rfl rfl]) | rw [hr _ _ rfl rfl rfl]
    exact Steps.refl _
  · show Q_m2 Z _ _ _ _ _ _ h0 n0 _ T15.heap _
    have f25 := (f20.trans K15 (allS (P := fun x => x ∈ [] ∨ h0.size ≤ x) (Or.inr sz_b4) all0))
    exact ⟨b4, ob15, _, y15_0, y15_1, rfl, N15, f25, A15, Fc15, Fv15, Vb15, qy15_0, qy15_1⟩
theorem ef_rm_cp3 (m : MethodId) (x0 : Addr) (x2 : Addr) : entryFrame m #[(.ref x0), (.int (0 : Int32)), (.ref x2), (.int (0 : Int32)), (.int (3 : Int32))] 7 = mkF m 0 #[.val (.ref x0), .val (.int (0 : Int32)), .val (.ref x2), .val (.int (0 : Int32)), .val (.int (3 : Int32)), .unset, .unset] [] := by first | (simp [entryFrame, mkF, argsToLocals, Value.category]; done) | rfl
def Q_cp3 (Z : State) (oc : Addr) (ob : Addr) (kC : ClassId) (c0 : Int32) (c1 : Int32) (c2 : Int32) (kb : ClassId) (h0 : Heap) (n0 : Nat) (v : Option Value) (h : Heap) (L : List Loc) : Prop := ∃ bb0 bb1 bb2 : Int32, v = some (.int (3 : Int32)) ∧ Fr n0 L ∧ Keep h0 h [ob] ∧ Arv Z h ob kb .byte (3 : Int32) [(.int bb0), (.int bb1), (.int bb2)] (.int (0 : Int32)) ∧ bb0.toInt % 256 = c0.toInt ∧ bb1.toInt % 256 = c1.toInt ∧ bb2.toInt % 256 = c2.toInt
set_option maxRecDepth 65536 in
set_option maxHeartbeats 40000000 in
theorem rm_cp3 (l : Launch) (Z : State) (a0 : Array Value) (hw : ∀ d ∈ tables_1, d.before a0 Z = true) (ws : List Jvm.Cond) (oc : Addr) (ob : Addr) (kC : ClassId) (c0 : Int32) (c1 : Int32) (c2 : Int32) (kb : ClassId) (h0 : Heap) (n0 : Nat) (Z0 : n0 ≤ h0.size) (Vc : Arv Z h0 oc kC .char (3 : Int32) [(.int c0), (.int c1), (.int c2)] (.int (0 : Int32))) (uc0 : 0 ≤ c0.toInt) (uc1 : 0 ≤ c1.toInt) (uc2 : 0 ≤ c2.toInt) (vc0 : c0.toInt ≤ 255) (vc1 : c1.toInt ≤ 255) (vc2 : c2.toInt ≤ 255) (Vb : Arv Z h0 ob kb .byte (3 : Int32) [(.int (0 : Int32)), (.int (0 : Int32)), (.int (0 : Int32))] (.int (0 : Int32))) (gb : n0 ≤ ob) (ncb : oc ≠ ob) :
    MetFree l (⟨"java/lang/StringUTF16", "compress", "([CI[BII)I"⟩ : MethodName) (head1 (Jvm.Cond.code (⟨"java/lang/StringUTF16", "compress", "([CI[BII)I"⟩ : MethodName) jdk_52_method_21_code 7 (some .int) :: ws) ({ frames := 0, cells := 0, slots := 0, locals := 0 } : Room)) (fun a U => a = #[(.ref oc), (.int (0 : Int32)), (.ref ob), (.int (0 : Int32)), (.int (3 : Int32))] ∧ Z.Warmed39 U.vm ∧ U.heap = h0) (fun _ _ _ _ _ => True) (fun _ U o U' => ∃ v L, o = .returned v ∧ Q_cp3 Z oc ob kC c0 c1 c2 kb h0 n0 v U'.heap L ∧ FrameEnd U o U' L ({ frames := 0, cells := 0, slots := 0, locals := 0 } : Room).cells ({ frames := 0, cells := 0, slots := 0, locals := 0 } : Room).slots) := by
  refine MetFree.of_bodySF (plainFor_of_name pn_2) hisR ?_
  intro p e s m args below meth c s₁ Bd hml0 hP hK
  obtain ⟨rfl, hZ, hh⟩ := hP
  have hx := Bd.exec
  have hby := Bd.bytes
  have hml : c.maxLocals = 7 := hml0
  have hown : s.vm.findClass "java/lang/StringUTF16" = some m.cls := findClass_of_methodNamed Bd.named
  have hnm := (name_of_methodNamed Bd.named Bd.method).1
  have X0 : Stand p l e ({ frames := 0, cells := 0, slots := 0, locals := 0 } : Room) s m #[(.ref oc), (.int (0 : Int32)), (.ref ob), (.int (0 : Int32)), (.int (3 : Int32))] below meth c s₁ [] 0 0 := Stand.of_body Bd
  have e0 : s₁.heap = h0 := by rw [← hh, Bd.state]; rfl
  have N0 := Fr.nil n0
  have pre0 : ∀ t, Steps p.tables e below (s₁.setTop (mkF m 0 #[.val (.ref oc), .val (.int (0 : Int32)), .val (.ref ob), .val (.int (0 : Int32)), .val (.int (3 : Int32)), .unset, .unset] [])) t → Steps p.tables e below (s₁.setTop (entryFrame m #[(.ref oc), (.int (0 : Int32)), (.ref ob), (.int (0 : Int32)), (.int (3 : Int32))] 7)) t := fun t k => castTop (ef_rm_cp3 m oc ob) k
  have hc7_1 : (0 : Int) < (3 : Int) := by decide
  obtain ⟨cl2, Ar2, q2, S2, M2, H2, G2⟩ := id Vc
  have hin2 : ¬ ((0 : Int32) < 0 ∨ cl2.slots.size ≤ ((0 : Int32)).toNatClampNeg) := inb_of S2 ⟨by decide, by decide⟩
  have hat2 : cl2.slots[((0 : Int32)).toNatClampNeg]? = some (.int c0) := Has.at H2 hin2 rfl
  have hc20_3 : ¬ ((255 : Int) < c0.toInt) := by omega
  obtain ⟨cl4, Ar4, q4, S4, M4, H4, G4⟩ := id Vb
  have hin4 : ¬ ((0 : Int32) < 0 ∨ cl4.slots.size ≤ ((0 : Int32)).toNatClampNeg) := inb_of S4 ⟨by decide, by decide⟩
  obtain ⟨T5, h5, X5, e5, W5, st5⟩ := stB X0 hx hZ e0 Ar4 (j := (0 : Int32)) hin4 (g := (mkF m 31 #[.val (.ref oc), .val (.int (0 : Int32)), .val (.ref ob), .val (.int (0 : Int32)), .val (.int (3 : Int32)), .val (.int (0 : Int32)), .val (.int c0)] [(.int (c0.toInt8.toInt32)), (.int (0 : Int32)), (.ref ob)])) rfl rfl (hb hby d9_31)
  have N5 := Fr.snoc X5 N0 gb
  have Zs6 : n0 ≤ h5.size := by rw [W5.size]; exact Z0
  have V5 : Arv Z h5 ob kb .byte (3 : Int32) [(.int (nar .byte (c0.toInt8.toInt32))), (.int (0 : Int32)), (.int (0 : Int32))] (.int (0 : Int32)) := Arv.set Ar4 q4 S4 M4 H4 G4 (fits_nar_byte _) W5 0 rfl (Nat.le_of_ble_eq_true rfl)
  have hc7_7 : (1 : Int) < (3 : Int) := by decide
  have f8 := (Vc.other W5 ncb)
  obtain ⟨cl9, Ar9, q9, S9, M9, H9, G9⟩ := id f8
  have hin9 : ¬ ((1 : Int32) < 0 ∨ cl9.slots.size ≤ ((1 : Int32)).toNatClampNeg) := inb_of S9 ⟨by decide, by decide⟩
  have hat9 : cl9.slots[((1 : Int32)).toNatClampNeg]? = some (.int c1) := Has.at H9 hin9 rfl
  have hc20_10 : ¬ ((255 : Int) < c1.toInt) := by omega
  obtain ⟨cl11, Ar11, q11, S11, M11, H11, G11⟩ := id V5
  have hin11 : ¬ ((1 : Int32) < 0 ∨ cl11.slots.size ≤ ((1 : Int32)).toNatClampNeg) := inb_of S11 ⟨by decide, by decide⟩
  obtain ⟨T12, h12, X12, e12, W12, st12⟩ := stB X5 hx hZ e5 Ar11 (j := (1 : Int32)) hin11 (g := (mkF m 31 #[.val (.ref oc), .val (.int (1 : Int32)), .val (.ref ob), .val (.int (1 : Int32)), .val (.int (3 : Int32)), .val (.int (1 : Int32)), .val (.int c1)] [(.int (c1.toInt8.toInt32)), (.int (1 : Int32)), (.ref ob)])) rfl rfl (hb hby d9_31)
  have N12 := Fr.snoc X12 N5 gb
  have Zs13 : n0 ≤ h12.size := by rw [W12.size]; exact Zs6
  have V12 : Arv Z h12 ob kb .byte (3 : Int32) [(.int (nar .byte (c0.toInt8.toInt32))), (.int (nar .byte (c1.toInt8.toInt32))), (.int (0 : Int32))] (.int (0 : Int32)) := Arv.set Ar11 q11 S11 M11 H11 G11 (fits_nar_byte _) W12 1 rfl (Nat.le_of_ble_eq_true rfl)
  have hc7_14 : (2 : Int) < (3 : Int) := by decide
  have f15 := (f8.other W12 ncb)
  obtain ⟨cl16, Ar16, q16, S16, M16, H16, G16⟩ := id f15
  have hin16 : ¬ ((2 : Int32) < 0 ∨ cl16.slots.size ≤ ((2 : Int32)).toNatClampNeg) := inb_of S16 ⟨by decide, by decide⟩
  have hat16 : cl16.slots[((2 : Int32)).toNatClampNeg]? = some (.int c2) := Has.at H16 hin16 rfl
  have hc20_17 : ¬ ((255 : Int) < c2.toInt) := by omega
  obtain ⟨cl18, Ar18, q18, S18, M18, H18, G18⟩ := id V12
  have hin18 : ¬ ((2 : Int32) < 0 ∨ cl18.slots.size ≤ ((2 : Int32)).toNatClampNeg) := inb_of S18 ⟨by decide, by decide⟩
  obtain ⟨T19, h19, X19, e19, W19, st19⟩ := stB X12 hx hZ e12 Ar18 (j := (2 : Int32)) hin18 (g := (mkF m 31 #[.val (.ref oc), .val (.int (2 : Int32)), .val (.ref ob), .val (.int (2 : Int32)), .val (.int (3 : Int32)), .val (.int (2 : Int32)), .val (.int c2)] [(.int (c2.toInt8.toInt32)), (.int (2 : Int32)), (.ref ob)])) rfl rfl (hb hby d9_31)
  have N19 := Fr.snoc X19 N12 gb
  have Zs20 : n0 ≤ h19.size := by rw [W19.size]; exact Zs13
  have V19 : Arv Z h19 ob kb .byte (3 : Int32) [(.int (nar .byte (c0.toInt8.toInt32))), (.int (nar .byte (c1.toInt8.toInt32))), (.int (nar .byte (c2.toInt8.toInt32)))] (.int (0 : Int32)) := Arv.set Ar18 q18 S18 M18 H18 G18 (fits_nar_byte _) W19 2 rfl (Nat.le_of_ble_eq_true rfl)
  have hc7_21 : ¬ ((3 : Int) < (3 : Int)) := by decide
  obtain ⟨fs, hr, hrun, hended, hW, hsame⟩ := X19.leave (v := some (.int (3 : Int32))) (fun h => by rw [Bd.returns] at h; cases h)
  refine ⟨_, _, pre0 _ ?_, hrun, hended, _, _, rfl, ?_, ⟨_, rfl⟩, hW, hsame.mono (by decide) (by decide)⟩
  · refine XS.iconst X0.here hx rfl (hb hby d9_0) ?_
    refine XS.istore X0.here hx rfl (hb hby d9_1) rfl (l' := #[.val (.ref oc), .val (.int (0 : Int32)), .val (.ref ob), .val (.int (0 : Int32)), .val (.int (3 : Int32)), .val (.int (0 : Int32)), .unset]) rfl ?_
    refine XS.iload X0.here hx rfl (hb hby d9_3) rfl ?_
    refine XS.iload X0.here hx rfl (hb hby d9_5) rfl ?_
    refine XS.icmpNo X0.here hx rfl (hb hby d9_7) rfl (own_tlt (a := (0 : Int32)) (b := (3 : Int32)) (by decide) (by decide) hc7_1).2.1 ?_
    refine XS.aloadN X0.here hx rfl (hb hby d9_10) rfl rfl ?_
    refine XS.iloadN X0.here hx rfl (hb hby d9_11) rfl ?_
    show Steps p.tables e below (s₁.setTop (mkF m 12 #[.val (.ref oc), .val (.int (0 : Int32)), .val (.ref ob), .val (.int (0 : Int32)), .val (.int (3 : Int32)), .val (.int (0 : Int32)), .unset] [(.int (0 : Int32)), (.ref oc)])) _
    refine X0.caload hx (j := (0 : Int32)) (v := (.int c0)) (by rw [e0]; exact Ar2.1) (State.isArrayOf_alike hZ.alike Ar2.2.1) Ar2.2.2 hin2 hat2 (g := (mkF m 12 #[.val (.ref oc), .val (.int (0 : Int32)), .val (.ref ob), .val (.int (0 : Int32)), .val (.int (3 : Int32)), .val (.int (0 : Int32)), .unset] [(.int (0 : Int32)), (.ref oc)])) rfl rfl (hb hby d9_12) _ ?_
    refine XS.istore X0.here hx rfl (hb hby d9_13) rfl (l' := #[.val (.ref oc), .val (.int (0 : Int32)), .val (.ref ob), .val (.int (0 : Int32)), .val (.int (3 : Int32)), .val (.int (0 : Int32)), .val (.int c0)]) rfl ?_
    refine XS.iload X0.here hx rfl (hb hby d9_15) rfl ?_
    refine XS.sipush X0.here hx rfl (hb hby d9_17) ?_
    refine XS.icmpYes X0.here hx rfl (pc0 := 20) (pc' := 26) rfl (hb hby d9_20) rfl (own_flt (a := (255 : Int32)) (b := c0) (by decide) rfl hc20_3).2.2.2 (by decide) (by decide) ?_
    refine XS.aloadN X0.here hx rfl (hb hby d9_26) rfl rfl ?_
    refine XS.iloadN X0.here hx rfl (hb hby d9_27) rfl ?_
    refine XS.iload X0.here hx rfl (hb hby d9_28) rfl ?_
    show Steps p.tables e below (s₁.setTop (mkF m 30 #[.val (.ref oc), .val (.int (0 : Int32)), .val (.ref ob), .val (.int (0 : Int32)), .val (.int (3 : Int32)), .val (.int (0 : Int32)), .val (.int c0)] [(.int c0), (.int (0 : Int32)), (.ref ob)])) _
    refine XS.i2b X0.here hx rfl (hb hby d9_30) rfl ?_
    refine st5 _ ?_
    refine XS.iinc X5.here hx rfl (hb hby d9_32) rfl (l' := #[.val (.ref oc), .val (.int (1 : Int32)), .val (.ref ob), .val (.int (0 : Int32)), .val (.int (3 : Int32)), .val (.int (0 : Int32)), .val (.int c0)]) rfl ?_
    refine XS.iinc X5.here hx rfl (hb hby d9_35) rfl (l' := #[.val (.ref oc), .val (.int (1 : Int32)), .val (.ref ob), .val (.int (1 : Int32)), .val (.int (3 : Int32)), .val (.int (0 : Int32)), .val (.int c0)]) rfl ?_
    refine XS.iinc X5.here hx rfl (hb hby d9_38) rfl (l' := #[.val (.ref oc), .val (.int (1 : Int32)), .val (.ref ob), .val (.int (1 : Int32)), .val (.int (3 : Int32)), .val (.int (1 : Int32)), .val (.int c0)]) rfl ?_
    refine XS.goto X5.here hx rfl (pc0 := 41) (pc' := 3) rfl (hb hby d9_41) (by decide) (by decide) ?_
    refine XS.iload X5.here hx rfl (hb hby d9_3) rfl ?_
    refine XS.iload X5.here hx rfl (hb hby d9_5) rfl ?_
    show Steps p.tables e below (T5.setTop (mkF m 7 #[.val (.ref oc), .val (.int (1 : Int32)), .val (.ref ob), .val (.int (1 : Int32)), .val (.int (3 : Int32)), .val (.int (1 : Int32)), .val (.int c0)] [(.int (3 : Int32)), (.int (1 : Int32))])) _
    refine XS.icmpNo X5.here hx rfl (hb hby d9_7) rfl (own_tlt (a := (1 : Int32)) (b := (3 : Int32)) (by decide) (by decide) hc7_7).2.1 ?_
    refine XS.aloadN X5.here hx rfl (hb hby d9_10) rfl rfl ?_
    refine XS.iloadN X5.here hx rfl (hb hby d9_11) rfl ?_
    refine X5.caload hx (j := (1 : Int32)) (v := (.int c1)) (by rw [e5]; exact Ar9.1) (State.isArrayOf_alike hZ.alike Ar9.2.1) Ar9.2.2 hin9 hat9 (g := (mkF m 12 #[.val (.ref oc), .val (.int (1 : Int32)), .val (.ref ob), .val (.int (1 : Int32)), .val (.int (3 : Int32)), .val (.int (1 : Int32)), .val (.int c0)] [(.int (1 : Int32)), (.ref oc)])) rfl rfl (hb hby d9_12) _ ?_
    refine XS.istore X5.here hx rfl (hb hby d9_13) rfl (l' := #[.val (.ref oc), .val (.int (1 : Int32)), .val (.ref ob), .val (.int (1 : Int32)), .val (.int (3 : Int32)), .val (.int (1 : Int32)), .val (.int c1)]) rfl ?_
    refine XS.iload X5.here hx rfl (hb hby d9_15) rfl ?_
    refine XS.sipush X5.here hx rfl (hb hby d9_17) ?_
    refine XS.icmpYes X5.here hx rfl (pc0 := 20) (pc' := 26) rfl (hb hby d9_20) rfl (own_flt (a := (255 : Int32)) (b := c1) (by decide) rfl hc20_10).2.2.2 (by decide) (by decide) ?_
    show Steps p.tables e below (T5.setTop (mkF m 26 #[.val (.ref oc), .val (.int (1 : Int32)), .val (.ref ob), .val (.int (1 : Int32)), .val (.int (3 : Int32)), .val (.int (1 : Int32)), .val (.int c1)] [])) _
    refine XS.aloadN X5.here hx rfl (hb hby d9_26) rfl rfl ?_
    refine XS.iloadN X5.here hx rfl (hb hby d9_27) rfl ?_
    refine XS.iload X5.here hx rfl (hb hby d9_28) rfl ?_
    refine XS.i2b X5.here hx rfl (hb hby d9_30) rfl ?_
    refine st12 _ ?_
    refine XS.iinc X12.here hx rfl (hb hby d9_32) rfl (l' := #[.val (.ref oc), .val (.int (2 : Int32)), .val (.ref ob), .val (.int (1 : Int32)), .val (.int (3 : Int32)), .val (.int (1 : Int32)), .val (.int c1)]) rfl ?_
    refine XS.iinc X12.here hx rfl (hb hby d9_35) rfl (l' := #[.val (.ref oc), .val (.int (2 : Int32)), .val (.ref ob), .val (.int (2 : Int32)), .val (.int (3 : Int32)), .val (.int (1 : Int32)), .val (.int c1)]) rfl ?_
    refine XS.iinc X12.here hx rfl (hb hby d9_38) rfl (l' := #[.val (.ref oc), .val (.int (2 : Int32)), .val (.ref ob), .val (.int (2 : Int32)), .val (.int (3 : Int32)), .val (.int (2 : Int32)), .val (.int c1)]) rfl ?_
    show Steps p.tables e below (T12.setTop (mkF m 41 #[.val (.ref oc), .val (.int (2 : Int32)), .val (.ref ob), .val (.int (2 : Int32)), .val (.int (3 : Int32)), .val (.int (2 : Int32)), .val (.int c1)] [])) _
    refine XS.goto X12.here hx rfl (pc0 := 41) (pc' := 3) rfl (hb hby d9_41) (by decide) (by decide) ?_
    refine XS.iload X12.here hx rfl (hb hby d9_3) rfl ?_
    refine XS.iload X12.here hx rfl (hb hby d9_5) rfl ?_
    refine XS.icmpNo X12.here hx rfl (hb hby d9_7) rfl (own_tlt (a := (2 : Int32)) (b := (3 : Int32)) (by decide) (by decide) hc7_14).2.1 ?_
    refine XS.aloadN X12.here hx rfl (hb hby d9_10) rfl rfl ?_
    refine XS.iloadN X12.here hx rfl (hb hby d9_11) rfl ?_
    refine X12.caload hx (j := (2 : Int32)) (v := (.int c2)) (by rw [e12]; exact Ar16.1) (State.isArrayOf_alike hZ.alike Ar16.2.1) Ar16.2.2 hin16 hat16 (g := (mkF m 12 #[.val (.ref oc), .val (.int (2 : Int32)), .val (.ref ob), .val (.int (2 : Int32)), .val (.int (3 : Int32)), .val (.int (2 : Int32)), .val (.int c1)] [(.int (2 : Int32)), (.ref oc)])) rfl rfl (hb hby d9_12) _ ?_
    refine XS.istore X12.here hx rfl (hb hby d9_13) rfl (l' := #[.val (.ref oc), .val (.int (2 : Int32)), .val (.ref ob), .val (.int (2 : Int32)), .val (.int (3 : Int32)), .val (.int (2 : Int32)), .val (.int c2)]) rfl ?_
    show Steps p.tables e below (T12.setTop (mkF m 15 #[.val (.ref oc), .val (.int (2 : Int32)), .val (.ref ob), .val (.int (2 : Int32)), .val (.int (3 : Int32)), .val (.int (2 : Int32)), .val (.int c2)] [])) _
    refine XS.iload X12.here hx rfl (hb hby d9_15) rfl ?_
    refine XS.sipush X12.here hx rfl (hb hby d9_17) ?_
    refine XS.icmpYes X12.here hx rfl (pc0 := 20) (pc' := 26) rfl (hb hby d9_20) rfl (own_flt (a := (255 : Int32)) (b := c2) (by decide) rfl hc20_17).2.2.2 (by decide) (by decide) ?_
    refine XS.aloadN X12.here hx rfl (hb hby d9_26) rfl rfl ?_
    refine XS.iloadN X12.here hx rfl (hb hby d9_27) rfl ?_
    refine XS.iload X12.here hx rfl (hb hby d9_28) rfl ?_
    refine XS.i2b X12.here hx rfl (hb hby d9_30) rfl ?_
    refine st19 _ ?_
    show Steps p.tables e below (T19.setTop (mkF m 32 #[.val (.ref oc), .val (.int (2 : Int32)), .val (.ref ob), .val (.int (2 : Int32)), .val (.int (3 : Int32)), .val (.int (2 : Int32)), .val (.int c2)] [])) _
    refine XS.iinc X19.here hx rfl (hb hby d9_32) rfl (l' := #[.val (.ref oc), .val (.int (3 : Int32)), .val (.ref ob), .val (.int (2 : Int32)), .val (.int (3 : Int32)), .val (.int (2 : Int32)), .val (.int c2)]) rfl ?_
    refine XS.iinc X19.here hx rfl (hb hby d9_35) rfl (l' := #[.val (.ref oc), .val (.int (3 : Int32)), .val (.ref ob), .val (.int (3 : Int32)), .val (.int (3 : Int32)), .val (.int (2 : Int32)), .val (.int c2)]) rfl ?_
    refine XS.iinc X19.here hx rfl (hb hby d9_38) rfl (l' := #[.val (.ref oc), .val (.int (3 : Int32)), .val (.ref ob), .val (.int (3 : Int32)), .val (.int (3 : Int32)), .val (.int (3 : Int32)), .val (.int c2)]) rfl ?_
    refine XS.goto X19.here hx rfl (pc0 := 41) (pc' := 3) rfl (hb hby d9_41) (by decide) (by decide) ?_
    refine XS.iload X19.here hx rfl (hb hby d9_3) rfl ?_
    refine XS.iload X19.here hx rfl (hb hby d9_5) rfl ?_
    refine XS.icmpYes X19.here hx rfl (pc0 := 7) (pc' := 44) rfl (hb hby d9_7) rfl (own_flt (a := (3 : Int32)) (b := (3 : Int32)) (by decide) (by decide) hc7_21).2.1 (by decide) (by decide) ?_
    refine XS.iload X19.here hx rfl (hb hby d9_44) rfl ?_
    show Steps p.tables e below (T19.setTop (mkF m 46 #[.val (.ref oc), .val (.int (3 : Int32)), .val (.ref ob), .val (.int (3 : Int32)), .val (.int (3 : Int32)), .val (.int (3 : Int32)), .val (.int c2)] [(.int (3 : Int32))])) _
    exact retI X19 hx Bd.returns (hb hby d9_46) hr
  · show Q_cp3 Z _ _ _ _ _ _ _ h0 n0 _ T19.heap _
    rw [e19]
    have f22 := ((((Keep.refl h0 [ob]).wr W5 (Or.inl (List.mem_of_getElem? (i := 0) rfl))).wr W12 (Or.inl (List.mem_of_getElem? (i := 0) rfl))).wr W19 (Or.inl (List.mem_of_getElem? (i := 0) rfl)))
    exact ⟨_, _, _, rfl, N19, f22, V19, own_b2 c0 uc0 vc0, own_b2 c1 uc1 vc1, own_b2 c2 uc2 vc2⟩
theorem ef_rm_cm3 (m : MethodId) (x0 : Addr) : entryFrame m #[(.ref x0), (.int (0 : Int32)), (.int (3 : Int32))] 6 = mkF m 0 #[.val (.ref x0), .val (.int (0 : Int32)), .val (.int (3 : Int32)), .unset, .unset, .unset] [] := by first | (simp [entryFrame, mkF, argsToLocals, Value.category]; done) | rfl
def Q_cm3 (Z : State) (oc : Addr) (kC : ClassId) (c0 : Int32) (c1 : Int32) (c2 : Int32) (h0 : Heap) (n0 : Nat) (v : Option Value) (h : Heap) (L : List Loc) : Prop := ∃ (ob : Addr) (kb : ClassId) (bb0 bb1 bb2 : Int32), v = some (.ref ob) ∧ Fr n0 L ∧ Keep h0 h [] ∧ n0 ≤ ob ∧ h0.size ≤ ob ∧ Arv Z h ob kb .byte (3 : Int32) [(.int bb0), (.int bb1), (.int bb2)] (.int (0 : Int32)) ∧ bb0.toInt % 256 = c0.toInt ∧ bb1.toInt % 256 = c1.toInt ∧ bb2.toInt % 256 = c2.toInt
set_option maxRecDepth 65536 in
set_option maxHeartbeats 40000000 in
theorem rm_cm3 (l : Launch) (Z : State) (a0 : Array Value) (hw : ∀ d ∈ tables_1, d.before a0 Z = true) (ws : List Jvm.Cond) (oc : Addr) (kC : ClassId) (c0 : Int32) (c1 : Int32) (c2 : Int32) (h0 : Heap) (n0 : Nat) (Z0 : n0 ≤ h0.size) (Vc : Arv Z h0 oc kC .char (3 : Int32) [(.int c0), (.int c1), (.int c2)] (.int (0 : Int32))) (uc0 : 0 ≤ c0.toInt) (uc1 : 0 ≤ c1.toInt) (uc2 : 0 ≤ c2.toInt) (vc0 : c0.toInt ≤ 255) (vc1 : c1.toInt ≤ 255) (vc2 : c2.toInt ≤ 255) :
    MetFree l (⟨"java/lang/StringUTF16", "compress", "([CII)[B"⟩ : MethodName) (head1 (Jvm.Cond.code (⟨"java/lang/StringUTF16", "compress", "([CII)[B"⟩ : MethodName) jdk_52_method_16_code 6 (some (.array .byte)) :: ws) ({ frames := 1, cells := 1, slots := 3, locals := 18 } : Room)) (fun a U => a = #[(.ref oc), (.int (0 : Int32)), (.int (3 : Int32))] ∧ Z.Warmed39 U.vm ∧ U.heap = h0) (fun _ _ _ _ _ => True) (fun _ U o U' => ∃ v L, o = .returned v ∧ Q_cm3 Z oc kC c0 c1 c2 h0 n0 v U'.heap L ∧ FrameEnd U o U' L ({ frames := 1, cells := 1, slots := 3, locals := 18 } : Room).cells ({ frames := 1, cells := 1, slots := 3, locals := 18 } : Room).slots) := by
  refine MetFree.of_bodySF (plainFor_of_name pn_2) hisR ?_
  intro p e s m args below meth c s₁ Bd hml0 hP hK
  obtain ⟨rfl, hZ, hh⟩ := hP
  have hx := Bd.exec
  have hby := Bd.bytes
  have hml : c.maxLocals = 6 := hml0
  have hown : s.vm.findClass "java/lang/StringUTF16" = some m.cls := findClass_of_methodNamed Bd.named
  have hnm := (name_of_methodNamed Bd.named Bd.method).1
  have X0 : Stand p l e ({ frames := 1, cells := 1, slots := 3, locals := 18 } : Room) s m #[(.ref oc), (.int (0 : Int32)), (.int (3 : Int32))] below meth c s₁ [] 0 0 := Stand.of_body Bd
  have e0 : s₁.heap = h0 := by rw [← hh, Bd.state]; rfl
  have N0 := Fr.nil n0
  have pre0 : ∀ t, Steps p.tables e below (s₁.setTop (mkF m 0 #[.val (.ref oc), .val (.int (0 : Int32)), .val (.int (3 : Int32)), .unset, .unset, .unset] [])) t → Steps p.tables e below (s₁.setTop (entryFrame m #[(.ref oc), (.int (0 : Int32)), (.int (3 : Int32))] 6)) t := fun t k => castTop (ef_rm_cm3 m oc) k
  obtain ⟨T1, h1, k1, X1, e1, E1, A1, st1⟩ := newP X0 hx hZ (hw _ (List.mem_of_getElem? (i := 20) rfl)) e0 (g := (mkF m 1 #[.val (.ref oc), .val (.int (0 : Int32)), .val (.int (3 : Int32)), .unset, .unset, .unset] [(.int (3 : Int32))])) rfl (hb hby d8_1) rfl (by decide) (cap := 3) (by decide) (by decide) (by decide) (by decide)
  obtain ⟨b1, g1⟩ : ∃ z, z = h0.size := ⟨_, rfl⟩
  have ne_oc_b1 : oc ≠ b1 := Nat.ne_of_lt (Nat.lt_of_lt_of_le Vc.lt (Nat.le_of_eq g1.symm))
  have g_b1 : n0 ≤ b1 := Nat.le_trans Z0 (Nat.le_of_eq g1.symm)
  have sz_b1 : h0.size ≤ b1 := Nat.le_trans (Keep.refl h0 []).1 (Nat.le_of_eq g1.symm)
  rw [← g1] at A1 st1
  have Zs2 : n0 ≤ h1.size := Nat.le_trans Z0 E1.1
  have V1 : Arv Z h1 b1 k1 .byte (3 : Int32) [(.int (0 : Int32)), (.int (0 : Int32)), (.int (0 : Int32))] (.int (0 : Int32)) := (Arv.new A1 (by decide)).pad (pad_rep [] (.int (0 : Int32)) 3)
  have f4 := (Vc.ext E1)
  obtain ⟨_, _, ⟨T3, L3, k3, n3⟩, -, X3, ⟨Lc3, hQ3, l3, y3, z3⟩, st3⟩ := Jvm.LawKit.callS X1 hx (y := (⟨"java/lang/StringUTF16", "compress", "([CI[BII)I"⟩ : MethodName)) hown (mvT hZ (hw _ (List.mem_of_getElem? (i := 46) rfl))) (mvT hZ (hw _ (List.mem_of_getElem? (i := 47) rfl))) (mvT hZ (hw _ (List.mem_of_getElem? (i := 44) rfl))) (mvT hZ (hw _ (List.mem_of_getElem? (i := 48) rfl))) (by decide) (backOf (W := 0) (rm_cp3 l Z a0 hw [] oc b1 kC c0 c1 c2 k1 h1 n0 Zs2 f4 uc0 uc1 uc2 vc0 vc1 vc2 V1 g_b1 ne_oc_b1) hZ (hw _ (List.mem_of_getElem? (i := 48) rfl)) (hw _ (List.mem_of_getElem? (i := 44) rfl)) (by decide) (by decide)) (g := (mkF m 9 #[.val (.ref oc), .val (.int (0 : Int32)), .val (.int (3 : Int32)), .val (.ref b1), .unset, .unset] [(.int (3 : Int32)), (.int (0 : Int32)), (.ref b1), (.int (0 : Int32)), (.ref oc)])) rfl (by rw [hml]; rfl) (argsL := [(.ref oc), (.int (0 : Int32)), (.ref b1), (.int (0 : Int32)), (.int (3 : Int32))]) (rest := []) (lenOf pd_2 rfl) rfl (by show 2 * 0 + _ ≤ _; exact Nat.le_of_eq rfl) (hb hby d8_9) (fun _ _ => ⟨rfl, e1, (by decide : 1 + 0 ≤ _), (by decide : 3 + 0 ≤ _)⟩)
  dsimp only [Pt.U, Pt.locs, Pt.cells, Pt.slots] at X3 l3 y3 z3 st3 hQ3
  rw [l3, y3, z3] at X3
  obtain ⟨bb0, bb1, bb2, rfl, N3q, K3, Vb3, qbb0, qbb1, qbb2⟩ := hQ3
  have N3 := Fr.app N0 N3q
  have Zs5 : n0 ≤ T3.heap.size := Nat.le_trans Zs2 K3.1
  have hc17_6 : (3 : Int) = (3 : Int) := by decide
  obtain ⟨fs, hr, hrun, hended, hW, hsame⟩ := X3.leave (v := some (.ref b1)) (fun h => by rw [Bd.returns] at h; cases h)
  refine ⟨_, _, pre0 _ ?_, hrun, hended, _, _, rfl, ?_, ⟨_, rfl⟩, hW, hsame.mono (by decide) (by decide)⟩
  · refine XS.iloadN X0.here hx rfl (hb hby d8_0) rfl ?_
    refine st1 _ ?_
    refine XS.astoreN X1.here hx rfl (hb hby d8_3) rfl rfl (l' := #[.val (.ref oc), .val (.int (0 : Int32)), .val (.int (3 : Int32)), .val (.ref b1), .unset, .unset]) rfl ?_
    refine XS.aloadN X1.here hx rfl (hb hby d8_4) rfl rfl ?_
    refine XS.iloadN X1.here hx rfl (hb hby d8_5) rfl ?_
    refine XS.aloadN X1.here hx rfl (hb hby d8_6) rfl rfl ?_
    refine XS.iconst X1.here hx rfl (hb hby d8_7) ?_
    show Steps p.tables e below (T1.setTop (mkF m 8 #[.val (.ref oc), .val (.int (0 : Int32)), .val (.int (3 : Int32)), .val (.ref b1), .unset, .unset] [(.int (0 : Int32)), (.ref b1), (.int (0 : Int32)), (.ref oc)])) _
    refine XS.iloadN X1.here hx rfl (hb hby d8_8) rfl ?_
    refine st3 _ ?_
    refine XS.istore X3.here hx rfl (hb hby d8_12) rfl (l' := #[.val (.ref oc), .val (.int (0 : Int32)), .val (.int (3 : Int32)), .val (.ref b1), .val (.int (3 : Int32)), .unset]) rfl ?_
    refine XS.iload X3.here hx rfl (hb hby d8_14) rfl ?_
    refine XS.iloadN X3.here hx rfl (hb hby d8_16) rfl ?_
    refine XS.icmpYes X3.here hx rfl (pc0 := 17) (pc' := 57) rfl (hb hby d8_17) rfl (own_teq (a := (3 : Int32)) (b := (3 : Int32)) (by decide) (by decide) hc17_6).1 (by decide) (by decide) ?_
    refine XS.aloadN X3.here hx rfl (hb hby d8_57) rfl rfl ?_
    jvm_step X3.here [X3.here.top, hx, (hb hby d8_58), X3.method', Bd.returns, Value.isRef, FieldType.isReference]
    first | (intro acts; rw [hr _ acts rfl rfl rfl]) | rw [hr _ _ rfl rfl rfl]
    exact Steps.refl _
  · show Q_cm3 Z _ _ _ _ _ h0 n0 _ T3.heap _
    have f7 := (((Keep.refl h0 []).ext E1).trans K3 (allS (P := fun x => x ∈ [] ∨ h0.size ≤ x) (Or.inr sz_b1) all0))
    exact ⟨b1, _, bb0, bb1, bb2, rfl, N3, f7, g_b1, sz_b1, Vb3, qbb0, qbb1, qbb2⟩
theorem ef_rm_cf3_0 (m : MethodId) (x0 : Addr) : entryFrame m #[(.ref x0), (.int (3 : Int32))] 2 = mkF m 0 #[.val (.ref x0), .val (.int (3 : Int32))] [] := by first | (simp [entryFrame, mkF, argsToLocals, Value.category]; done) | rfl
def Q_cf3_0 (Z : State) (ob : Addr) (kb : ClassId) (vs : List Value) (h0 : Heap) (n0 : Nat) (v : Option Value) (h : Heap) (L : List Loc) : Prop := ∃ z : Int32, v = some (.int z) ∧ (z = (0 : Int32)) ∧ Fr n0 L ∧ h = h0
set_option maxRecDepth 65536 in
set_option maxHeartbeats 40000000 in
theorem rm_cf3_0 (l : Launch) (Z : State) (a0 : Array Value) (hw : ∀ d ∈ tables_1, d.before a0 Z = true) (ws : List Jvm.Cond) (ob : Addr) (kb : ClassId) (vs : List Value) (h0 : Heap) (n0 : Nat) (Z0 : n0 ≤ h0.size) (Vb : Arv Z h0 ob kb .byte (3 : Int32) vs (.int (0 : Int32))) :
    MetFree l (⟨"java/lang/StringUTF16", "coderFromArrayLen", "([BI)B"⟩ : MethodName) (head1 (Jvm.Cond.code (⟨"java/lang/StringUTF16", "coderFromArrayLen", "([BI)B"⟩ : MethodName) jdk_52_method_15_code 2 (some .byte) :: ws) ({ frames := 0, cells := 0, slots := 0, locals := 0 } : Room)) (fun a U => a = #[(.ref ob), (.int (3 : Int32))] ∧ Z.Warmed39 U.vm ∧ U.heap = h0) (fun _ _ _ _ _ => True) (fun _ U o U' => ∃ v L, o = .returned v ∧ Q_cf3_0 Z ob kb vs h0 n0 v U'.heap L ∧ FrameEnd U o U' L ({ frames := 0, cells := 0, slots := 0, locals := 0 } : Room).cells ({ frames := 0, cells := 0, slots := 0, locals := 0 } : Room).slots) := by
  refine MetFree.of_bodySF (plainFor_of_name pn_2) hisR ?_
  intro p e s m args below meth c s₁ Bd hml0 hP hK
  obtain ⟨rfl, hZ, hh⟩ := hP
  have hx := Bd.exec
  have hby := Bd.bytes
  have hml : c.maxLocals = 2 := hml0
  have hown : s.vm.findClass "java/lang/StringUTF16" = some m.cls := findClass_of_methodNamed Bd.named
  have hnm := (name_of_methodNamed Bd.named Bd.method).1
  have X0 : Stand p l e ({ frames := 0, cells := 0, slots := 0, locals := 0 } : Room) s m #[(.ref ob), (.int (3 : Int32))] below meth c s₁ [] 0 0 := Stand.of_body Bd
  have e0 : s₁.heap = h0 := by rw [← hh, Bd.state]; rfl
  have N0 := Fr.nil n0
  have pre0 : ∀ t, Steps p.tables e below (s₁.setTop (mkF m 0 #[.val (.ref ob), .val (.int (3 : Int32))] [])) t → Steps p.tables e below (s₁.setTop (entryFrame m #[(.ref ob), (.int (3 : Int32))] 2)) t := fun t k => castTop (ef_rm_cf3_0 m ob) k
  obtain ⟨cl1, Ar1, q1, S1, M1, H1, G1⟩ := id Vb
  obtain ⟨fs, hr, hrun, hended, hW, hsame⟩ := X0.leave (v := some (.int (0 : Int32))) (fun h => by rw [Bd.returns] at h; cases h)
  refine ⟨_, _, pre0 _ ?_, hrun, hended, _, _, rfl, ?_, ⟨_, rfl⟩, hW, hsame.mono (by decide) (by decide)⟩
  · refine XS.iloadN X0.here hx rfl (hb hby d10_0) rfl ?_
    refine XS.aloadN X0.here hx rfl (hb hby d10_1) rfl rfl ?_
    refine X0.arraylength hx (by rw [e0]; exact Ar1.1) (State.isArrayOf_alike hZ.alike Ar1.2.1) (g := (mkF m 2 #[.val (.ref ob), .val (.int (3 : Int32))] [(.ref ob), (.int (3 : Int32))])) rfl rfl (hb hby d10_2) _ ?_
    rw [len_of S1 M1]
    refine XS.isub X0.here hx rfl (hb hby d10_3) rfl ?_
    refine XS.bipush X0.here hx rfl (hb hby d10_4) ?_
    refine XS.iushr X0.here hx rfl (hb hby d10_6) rfl ?_
    refine XS.i2b X0.here hx rfl (hb hby d10_7) rfl ?_
    show Steps p.tables e below (s₁.setTop (mkF m 8 #[.val (.ref ob), .val (.int (3 : Int32))] [(.int (0 : Int32))])) _
    exact retN X0 hx (t := .byte) Bd.returns (by simp) (hb hby d10_8) hr
  · show Q_cf3_0 Z _ _ _ h0 n0 _ s₁.heap _
    rw [e0]
    exact ⟨_, rfl, rfl, N0, rfl⟩
theorem ef_rm_iv3 (m : MethodId) (x0 : Addr) (x1 : Addr) : entryFrame m #[(.ref x0), (.ref x1), (.int (0 : Int32)), (.int (3 : Int32)), .null] 6 = mkF m 0 #[.val (.ref x0), .val (.ref x1), .val (.int (0 : Int32)), .val (.int (3 : Int32)), .val .null, .unset] [] := by first | (simp [entryFrame, mkF, argsToLocals, Value.category]; done) | rfl
def Q_iv3 (Z : State) (oa : Addr) (oc : Addr) (vcs : Int32) (vf : Value) (kC : ClassId) (c0 : Int32) (c1 : Int32) (c2 : Int32) (h0 : Heap) (n0 : Nat) (v : Option Value) (h : Heap) (L : List Loc) : Prop := v = none ∧ Fr n0 L ∧ Keep h0 h [oa] ∧ Exa Z h oa "java/lang/String" ∧ ∃ (ob : Addr) (kb : ClassId) (bb0 bb1 bb2 : Int32), n0 ≤ ob ∧ h0.size ≤ ob ∧ Fld Z h oa "java/lang/String" "coder" "B" (.int (0 : Int32)) ∧ Fld Z h oa "java/lang/String" "value" "[B" (.ref ob) ∧ Arv Z h ob kb .byte (3 : Int32) [(.int bb0), (.int bb1), (.int bb2)] (.int (0 : Int32)) ∧ bb0.toInt % 256 = c0.toInt ∧ bb1.toInt % 256 = c1.toInt ∧ bb2.toInt % 256 = c2.toInt
set_option maxRecDepth 65536 in
set_option maxHeartbeats 40000000 in
theorem rm_iv3 (l : Launch) (Z : State) (a0 : Array Value) (hw : ∀ d ∈ tables_1, d.before a0 Z = true) (ws : List Jvm.Cond) (oa : Addr) (oc : Addr) (vcs : Int32) (vf : Value) (kC : ClassId) (c0 : Int32) (c1 : Int32) (c2 : Int32) (h0 : Heap) (n0 : Nat) (Z0 : n0 ≤ h0.size) (Os : own_st Z h0 vcs vf) (Es : Exa Z h0 oa "java/lang/String") (Fc : Fld Z h0 oa "java/lang/String" "coder" "B" (.int (0 : Int32))) (Fv : Fld Z h0 oa "java/lang/String" "value" "[B" .null) (ga : n0 ≤ oa) (nac : oa ≠ oc) (Vc : Arv Z h0 oc kC .char (3 : Int32) [(.int c0), (.int c1), (.int c2)] (.int (0 : Int32))) (uc0 : 0 ≤ c0.toInt) (uc1 : 0 ≤ c1.toInt) (uc2 : 0 ≤ c2.toInt) (vc0 : c0.toInt ≤ 255) (vc1 : c1.toInt ≤ 255) (vc2 : c2.toInt ≤ 255) :
    MetFree l (⟨"java/lang/String", "<init>", "([CIILjava/lang/Void;)V"⟩ : MethodName) (head1 (Jvm.Cond.code (⟨"java/lang/String", "<init>", "([CIILjava/lang/Void;)V"⟩ : MethodName) jdk_42_method_149_code 6 none :: ws) ({ frames := 2, cells := 1, slots := 3, locals := 35 } : Room)) (fun a U => a = #[(.ref oa), (.ref oc), (.int (0 : Int32)), (.int (3 : Int32)), .null] ∧ Z.Warmed39 U.vm ∧ U.heap = h0) (fun _ _ _ _ _ => True) (fun _ U o U' => ∃ v L, o = .returned v ∧ Q_iv3 Z oa oc vcs vf kC c0 c1 c2 h0 n0 v U'.heap L ∧ FrameEnd U o U' L ({ frames := 2, cells := 1, slots := 3, locals := 35 } : Room).cells ({ frames := 2, cells := 1, slots := 3, locals := 35 } : Room).slots) := by
  refine MetFree.of_bodySF (plainFor_of_name pn_1) hisR ?_
  intro p e s m args below meth c s₁ Bd hml0 hP hK
  obtain ⟨rfl, hZ, hh⟩ := hP
  have hx := Bd.exec
  have hby := Bd.bytes
  have hml : c.maxLocals = 6 := hml0
  have hown : s.vm.findClass "java/lang/String" = some m.cls := findClass_of_methodNamed Bd.named
  have hnm := (name_of_methodNamed Bd.named Bd.method).1
  have X0 : Stand p l e ({ frames := 2, cells := 1, slots := 3, locals := 35 } : Room) s m #[(.ref oa), (.ref oc), (.int (0 : Int32)), (.int (3 : Int32)), .null] below meth c s₁ [] 0 0 := Stand.of_body Bd
  have e0 : s₁.heap = h0 := by rw [← hh, Bd.state]; rfl
  have N0 := Fr.nil n0
  have pre0 : ∀ t, Steps p.tables e below (s₁.setTop (mkF m 0 #[.val (.ref oa), .val (.ref oc), .val (.int (0 : Int32)), .val (.int (3 : Int32)), .val .null, .unset] [])) t → Steps p.tables e below (s₁.setTop (entryFrame m #[(.ref oa), (.ref oc), (.int (0 : Int32)), (.int (3 : Int32)), .null] 6)) t := fun t k => castTop (ef_rm_iv3 m oa oc) k
  obtain ⟨T1, X1, e1, st1⟩ := initO X0 hx hZ hown (hw _ (List.mem_of_getElem? (i := 16) rfl)) (hw _ (List.mem_of_getElem? (i := 17) rfl)) (hw _ (List.mem_of_getElem? (i := 18) rfl)) e0 (g := (mkF m 1 #[.val (.ref oa), .val (.ref oc), .val (.int (0 : Int32)), .val (.int (3 : Int32)), .val .null, .unset] [(.ref oa)])) rfl (by rw [hml]; rfl) rfl (hb hby d3_1) (by decide) (W := 0) (by show 2 * 0 + _ ≤ _; exact Nat.le_of_eq rfl) (by decide)
  have hc5_2 : ¬ ((3 : Int) = (0 : Int)) := by decide
  obtain ⟨T3, X3, e3, st3⟩ := getS2 X1 hx hZ hown (host := "") (Or.inl (hw _ (List.mem_of_getElem? (i := 41) rfl))) Via.refl e1 Os.1 (g := (mkF m 27 #[.val (.ref oa), .val (.ref oc), .val (.int (0 : Int32)), .val (.int (3 : Int32)), .val .null, .unset] [])) rfl (hb hby d3_27)
  have hc30_4 : ¬ (vcs.toInt = (0 : Int)) := by (have q := Os.2.1; omega)
  obtain ⟨_, _, ⟨T5, L5, k5, n5⟩, -, X5, ⟨Lc5, hQ5, l5, y5, z5⟩, st5⟩ := Jvm.LawKit.callS X3 hx (y := (⟨"java/lang/StringUTF16", "compress", "([CII)[B"⟩ : MethodName)) hown (mvT hZ (hw _ (List.mem_of_getElem? (i := 42) rfl))) (mvT hZ (hw _ (List.mem_of_getElem? (i := 43) rfl))) (mvT hZ (hw _ (List.mem_of_getElem? (i := 44) rfl))) (mvT hZ (hw _ (List.mem_of_getElem? (i := 45) rfl))) (by decide) (backOf (W := 0) (rm_cm3 l Z a0 hw [] oc kC c0 c1 c2 h0 n0 Z0 Vc uc0 uc1 uc2 vc0 vc1 vc2) hZ (hw _ (List.mem_of_getElem? (i := 45) rfl)) (hw _ (List.mem_of_getElem? (i := 44) rfl)) (by decide) (by decide)) (g := (mkF m 36 #[.val (.ref oa), .val (.ref oc), .val (.int (0 : Int32)), .val (.int (3 : Int32)), .val .null, .unset] [(.int (3 : Int32)), (.int (0 : Int32)), (.ref oc)])) rfl (by rw [hml]; rfl) (argsL := [(.ref oc), (.int (0 : Int32)), (.int (3 : Int32))]) (rest := []) (lenOf pd_3 rfl) rfl (by show 2 * 0 + _ ≤ _; exact Nat.le_of_eq rfl) (hb hby d3_36) (fun _ _ => ⟨rfl, e3, (by decide : 0 + 1 ≤ _), (by decide : 0 + 3 ≤ _)⟩)
  dsimp only [Pt.U, Pt.locs, Pt.cells, Pt.slots] at X5 l5 y5 z5 st5 hQ5
  rw [l5, y5, z5] at X5
  obtain ⟨ob, kb, bb0, bb1, bb2, rfl, N5q, K5, gb, szb, Vb5, qbb0, qbb1, qbb2⟩ := hQ5
  have N5 := Fr.app N0 N5q
  have Zs6 : n0 ≤ T5.heap.size := Nat.le_trans Z0 K5.1
  have ne_oa_ob : oa ≠ ob := Nat.ne_of_lt (Nat.lt_of_lt_of_le Es.lt szb)
  have ne_oc_ob : oc ≠ ob := Nat.ne_of_lt (Nat.lt_of_lt_of_le Vc.lt szb)
  have sz_ob : h0.size ≤ ob := Nat.le_trans (Keep.refl h0 [oa]).1 szb
  obtain ⟨_, _, ⟨T7, L7, k7, n7⟩, -, X7, ⟨Lc7, hQ7, l7, y7, z7⟩, st7⟩ := Jvm.LawKit.callS X5 hx (y := (⟨"java/lang/StringUTF16", "coderFromArrayLen", "([BI)B"⟩ : MethodName)) hown (mvT hZ (hw _ (List.mem_of_getElem? (i := 49) rfl))) (mvT hZ (hw _ (List.mem_of_getElem? (i := 50) rfl))) (mvT hZ (hw _ (List.mem_of_getElem? (i := 44) rfl))) (mvT hZ (hw _ (List.mem_of_getElem? (i := 51) rfl))) (by decide) (backOf (W := 1) (rm_cf3_0 l Z a0 hw [] ob kb [(.int bb0), (.int bb1), (.int bb2)] T5.heap n0 Zs6 Vb5) hZ (hw _ (List.mem_of_getElem? (i := 51) rfl)) (hw _ (List.mem_of_getElem? (i := 44) rfl)) (by decide) (by decide)) (g := (mkF m 45 #[.val (.ref oa), .val (.ref oc), .val (.int (0 : Int32)), .val (.int (3 : Int32)), .val .null, .val (.ref ob)] [(.int (3 : Int32)), (.ref ob), (.ref oa)])) rfl (by rw [hml]; rfl) (argsL := [(.ref ob), (.int (3 : Int32))]) (rest := [(.ref oa)]) (lenOf pd_4 rfl) rfl (by show 2 * 0 + _ ≤ _; exact Nat.le_of_eq rfl) (hb hby d3_45) (fun _ _ => ⟨rfl, rfl, (by decide : 1 + 0 ≤ _), (by decide : 3 + 0 ≤ _)⟩)
  dsimp only [Pt.U, Pt.locs, Pt.cells, Pt.slots] at X7 l7 y7 z7 st7 hQ7
  rw [l7, y7, z7] at X7
  obtain ⟨zf, rfl, hzf, N7q, e7⟩ := hQ7
  have N7 := Fr.app N5 N7q
  have pre8 : ∀ t, Steps p.tables e below (T7.setTop (mkF m 48 #[.val (.ref oa), .val (.ref oc), .val (.int (0 : Int32)), .val (.int (3 : Int32)), .val .null, .val (.ref ob)] [(.int zf), (.ref oa)])) t → Steps p.tables e below (s₁.setTop (entryFrame m #[(.ref oa), (.ref oc), (.int (0 : Int32)), (.int (3 : Int32)), .null] 6)) t := fun t kt => by
    refine pre0 _ ?_
    refine XS.aloadN X0.here hx rfl (hb hby d3_0) rfl rfl ?_
    refine st1 _ ?_
    refine XS.iloadN X1.here hx rfl (hb hby d3_4) rfl ?_
    refine XS.ifYes X1.here hx rfl (pc0 := 5) (pc' := 27) rfl (hb hby d3_5) rfl (own_if (own_feq (a := (3 : Int32)) (b := (0 : Int32)) (by decide) (by decide) hc5_2).2) (by decide) (by decide) ?_
    refine st3 _ ?_
    refine XS.ifNo X3.here hx rfl (hb hby d3_30) rfl (own_if (own_feq (a := vcs) (b := (0 : Int32)) rfl (by decide) hc30_4).1) ?_
    refine XS.aloadN X3.here hx rfl (hb hby d3_33) rfl rfl ?_
    show Steps p.tables e below (T3.setTop (mkF m 34 #[.val (.ref oa), .val (.ref oc), .val (.int (0 : Int32)), .val (.int (3 : Int32)), .val .null, .unset] [(.ref oc)])) _
    refine XS.iloadN X3.here hx rfl (hb hby d3_34) rfl ?_
    refine XS.iloadN X3.here hx rfl (hb hby d3_35) rfl ?_
    refine st5 _ ?_
    refine XS.astore X5.here hx rfl (hb hby d3_39) rfl rfl (l' := #[.val (.ref oa), .val (.ref oc), .val (.int (0 : Int32)), .val (.int (3 : Int32)), .val .null, .val (.ref ob)]) rfl ?_
    refine XS.aloadN X5.here hx rfl (hb hby d3_41) rfl rfl ?_
    refine XS.aload X5.here hx rfl (hb hby d3_42) rfl rfl ?_
    refine XS.iloadN X5.here hx rfl (hb hby d3_44) rfl ?_
    refine st7 _ ?_
    exact kt
  subst hzf
  have pre9 : ∀ t, Steps p.tables e below (T7.setTop (mkF m 48 #[.val (.ref oa), .val (.ref oc), .val (.int (0 : Int32)), .val (.int (3 : Int32)), .val .null, .val (.ref ob)] [(.int (0 : Int32)), (.ref oa)])) t → Steps p.tables e below (s₁.setTop (entryFrame m #[(.ref oa), (.ref oc), (.int (0 : Int32)), (.int (3 : Int32)), .null] 6)) t := pre8
  have f10 := (Fc.keep K5 nin0)
  have f11 := (Es.keep K5)
  obtain ⟨T12, h12, X12, e12, W12, st12⟩ := putFN X7 hx hZ hown (hw _ (List.mem_of_getElem? (i := 26) rfl)) Via.refl e7 f10 f11 (Or.inr ⟨(hw _ (List.mem_of_getElem? (i := 22) rfl)), rfl, hnm⟩) (hw _ (List.mem_of_getElem? (i := 6) rfl)) (ty := .byte) (v' := (.int (0 : Int32))) (by decide) rfl rfl (g := (mkF m 48 #[.val (.ref oa), .val (.ref oc), .val (.int (0 : Int32)), .val (.int (3 : Int32)), .val .null, .val (.ref ob)] [(.int (0 : Int32)), (.ref oa)])) rfl rfl (hb hby d3_48)
  have N12 := Fr.snoc X12 N7 ga
  have Zs13 : n0 ≤ h12.size := by rw [W12.size]; exact Zs6
  have Fw12 := f10.same W12
  have f14 := ((Fv.keep K5 nin0).other W12 (Or.inr (slot_ne (Or.inr (hw _ (List.mem_of_getElem? (i := 21) rfl))) (Or.inr (hw _ (List.mem_of_getElem? (i := 22) rfl))) (by decide) (t := (.array .byte)) (t' := .byte) (by decide) (by decide))))
  have f15 := (f11.wr W12)
  obtain ⟨T16, h16, X16, e16, W16, st16⟩ := putF X12 hx hZ hown (host := "") (Or.inl (hw _ (List.mem_of_getElem? (i := 25) rfl))) Via.refl e12 f14 f15 (Or.inr ⟨(hw _ (List.mem_of_getElem? (i := 21) rfl)), rfl, hnm⟩) (hw _ (List.mem_of_getElem? (i := 6) rfl)) (ty := (.array .byte)) (by decide) rfl rfl (g := (mkF m 54 #[.val (.ref oa), .val (.ref oc), .val (.int (0 : Int32)), .val (.int (3 : Int32)), .val .null, .val (.ref ob)] [(.ref ob), (.ref oa)])) rfl rfl (hb hby d3_54)
  have N16 := Fr.snoc X16 N12 ga
  have Zs17 : n0 ≤ h16.size := by rw [W16.size]; exact Zs13
  have Fw16 := f14.same W16
  obtain ⟨fs, hr, hrun, hended, hW, hsame⟩ := X16.leave (v := none) (fun _ => rfl)
  refine ⟨_, _, pre9 _ ?_, hrun, hended, _, _, rfl, ?_, ⟨_, rfl⟩, hW, hsame.mono (by decide) (by decide)⟩
  · show Steps p.tables e below (T7.setTop (mkF m 48 #[.val (.ref oa), .val (.ref oc), .val (.int (0 : Int32)), .val (.int (3 : Int32)), .val .null, .val (.ref ob)] [(.int (0 : Int32)), (.ref oa)])) _
    refine st12 _ ?_
    refine XS.aloadN X12.here hx rfl (hb hby d3_51) rfl rfl ?_
    refine XS.aload X12.here hx rfl (hb hby d3_52) rfl rfl ?_
    refine st16 _ ?_
    exact X16.returnOut hx Bd.returns (hb hby d3_57) hr
  · show Q_iv3 Z _ _ _ _ _ _ _ _ h0 n0 _ T16.heap _
    rw [e16]
    have f18 := ((((Keep.refl h0 [oa]).trans K5 all0).wr W12 (Or.inl (List.mem_of_getElem? (i := 0) rfl))).wr W16 (Or.inl (List.mem_of_getElem? (i := 0) rfl)))
    have f19 := (f15.wr W16)
    have f20 := (Fw12.other W16 (Or.inr (slot_ne (Or.inr (hw _ (List.mem_of_getElem? (i := 22) rfl))) (Or.inr (hw _ (List.mem_of_getElem? (i := 21) rfl))) (by decide) (t := .byte) (t' := (.array .byte)) (by decide) (by decide))))
    have f21 := ((Vb5.other W12 (Ne.symm ne_oa_ob)).other W16 (Ne.symm ne_oa_ob))
    exact ⟨rfl, N16, f18, f19, ob, kb, bb0, bb1, bb2, gb, sz_ob, f20, Fw16, f21, qbb0, qbb1, qbb2⟩
theorem ef_rm_mk3 (m : MethodId) (x0 : Addr) (x1 : Addr) : entryFrame m #[(.ref x0), (.ref x1)] 2 = mkF m 0 #[.val (.ref x0), .val (.ref x1)] [] := by first | (simp [entryFrame, mkF, argsToLocals, Value.category]; done) | rfl
def Q_mk3 (Z : State) (oa : Addr) (oc : Addr) (vcs : Int32) (vf : Value) (kC : ClassId) (c0 : Int32) (c1 : Int32) (c2 : Int32) (h0 : Heap) (n0 : Nat) (v : Option Value) (h : Heap) (L : List Loc) : Prop := v = none ∧ Fr n0 L ∧ Keep h0 h [oa] ∧ Exa Z h oa "java/lang/String" ∧ ∃ (ob : Addr) (kb : ClassId) (bb0 bb1 bb2 : Int32), n0 ≤ ob ∧ h0.size ≤ ob ∧ Fld Z h oa "java/lang/String" "coder" "B" (.int (0 : Int32)) ∧ Fld Z h oa "java/lang/String" "value" "[B" (.ref ob) ∧ Arv Z h ob kb .byte (3 : Int32) [(.int bb0), (.int bb1), (.int bb2)] (.int (0 : Int32)) ∧ bb0.toInt % 256 = c0.toInt ∧ bb1.toInt % 256 = c1.toInt ∧ bb2.toInt % 256 = c2.toInt
set_option maxRecDepth 65536 in
set_option maxHeartbeats 40000000 in
theorem rm_mk3 (l : Launch) (Z : State) (a0 : Array Value) (hw : ∀ d ∈ tables_1, d.before a0 Z = true) (ws : List Jvm.Cond) (oa : Addr) (oc : Addr) (vcs : Int32) (vf : Value) (kC : ClassId) (c0 : Int32) (c1 : Int32) (c2 : Int32) (h0 : Heap) (n0 : Nat) (Z0 : n0 ≤ h0.size) (Os : own_st Z h0 vcs vf) (Es : Exa Z h0 oa "java/lang/String") (Fc : Fld Z h0 oa "java/lang/String" "coder" "B" (.int (0 : Int32))) (Fv : Fld Z h0 oa "java/lang/String" "value" "[B" .null) (ga : n0 ≤ oa) (nac : oa ≠ oc) (Vc : Arv Z h0 oc kC .char (3 : Int32) [(.int c0), (.int c1), (.int c2)] (.int (0 : Int32))) (uc0 : 0 ≤ c0.toInt) (uc1 : 0 ≤ c1.toInt) (uc2 : 0 ≤ c2.toInt) (vc0 : c0.toInt ≤ 255) (vc1 : c1.toInt ≤ 255) (vc2 : c2.toInt ≤ 255) :
    MetFree l (⟨"java/lang/String", "<init>", "([C)V"⟩ : MethodName) (head1 (Jvm.Cond.code (⟨"java/lang/String", "<init>", "([C)V"⟩ : MethodName) jdk_42_method_3_code 2 none :: ws) ({ frames := 3, cells := 1, slots := 3, locals := 52 } : Room)) (fun a U => a = #[(.ref oa), (.ref oc)] ∧ Z.Warmed39 U.vm ∧ U.heap = h0) (fun _ _ _ _ _ => True) (fun _ U o U' => ∃ v L, o = .returned v ∧ Q_mk3 Z oa oc vcs vf kC c0 c1 c2 h0 n0 v U'.heap L ∧ FrameEnd U o U' L ({ frames := 3, cells := 1, slots := 3, locals := 52 } : Room).cells ({ frames := 3, cells := 1, slots := 3, locals := 52 } : Room).slots) := by
  refine MetFree.of_bodySF (plainFor_of_name pn_1) hisR ?_
  intro p e s m args below meth c s₁ Bd hml0 hP hK
  obtain ⟨rfl, hZ, hh⟩ := hP
  have hx := Bd.exec
  have hby := Bd.bytes
  have hml : c.maxLocals = 2 := hml0
  have hown : s.vm.findClass "java/lang/String" = some m.cls := findClass_of_methodNamed Bd.named
  have hnm := (name_of_methodNamed Bd.named Bd.method).1
  have X0 : Stand p l e ({ frames := 3, cells := 1, slots := 3, locals := 52 } : Room) s m #[(.ref oa), (.ref oc)] below meth c s₁ [] 0 0 := Stand.of_body Bd
  have e0 : s₁.heap = h0 := by rw [← hh, Bd.state]; rfl
  have N0 := Fr.nil n0
  have pre0 : ∀ t, Steps p.tables e below (s₁.setTop (mkF m 0 #[.val (.ref oa), .val (.ref oc)] [])) t → Steps p.tables e below (s₁.setTop (entryFrame m #[(.ref oa), (.ref oc)] 2)) t := fun t k => castTop (ef_rm_mk3 m oa oc) k
  obtain ⟨cl1, Ar1, q1, S1, M1, H1, G1⟩ := id Vc
  obtain ⟨_, _, ⟨T2, L2, k2, n2⟩, -, X2, ⟨Lc2, hQ2, l2, y2, z2⟩, st2⟩ := X0.specialBack hx (y := (⟨"java/lang/String", "<init>", "([CIILjava/lang/Void;)V"⟩ : MethodName)) rfl hown (mvT hZ (hw _ (List.mem_of_getElem? (i := 12) rfl))) (mvT hZ (hw _ (List.mem_of_getElem? (i := 13) rfl))) (mvT hZ (hw _ (List.mem_of_getElem? (i := 15) rfl))) (by decide) (backOf (W := 0) (rm_iv3 l Z a0 hw [] oa oc vcs vf kC c0 c1 c2 h0 n0 Z0 Os Es Fc Fv ga nac Vc uc0 uc1 uc2 vc0 vc1 vc2) hZ (hw _ (List.mem_of_getElem? (i := 15) rfl)) (hw _ (List.mem_of_getElem? (i := 7) rfl)) (by decide) (by decide)) (g := (mkF m 6 #[.val (.ref oa), .val (.ref oc)] [.null, (.int (3 : Int32)), (.int (0 : Int32)), (.ref oc), (.ref oa)])) rfl (by rw [hml]; rfl) (Steps.refl _) (a := oa) (argsL := [(.ref oc), (.int (0 : Int32)), (.int (3 : Int32)), .null]) (rest := []) (lenOf pd_0 rfl) rfl (by show 2 * 0 + _ ≤ _; exact Nat.le_of_eq rfl) (hb hby d2_6) (fun _ _ => ⟨rfl, e0, (by decide : 0 + 1 ≤ _), (by decide : 0 + 3 ≤ _)⟩)
  dsimp only [Pt.U, Pt.locs, Pt.cells, Pt.slots] at X2 l2 y2 z2 st2 hQ2
  rw [l2, y2, z2] at X2
  obtain ⟨rfl, N2q, K2, A2, ob, kb, bb0, bb1, bb2, gb, szb, Fc2, Fv2, Vb2, qbb0, qbb1, qbb2⟩ := hQ2
  have N2 := Fr.app N0 N2q
  have Zs3 : n0 ≤ T2.heap.size := Nat.le_trans Z0 K2.1
  have ne_oa_ob : oa ≠ ob := Nat.ne_of_lt (Nat.lt_of_lt_of_le Es.lt szb)
  have ne_oc_ob : oc ≠ ob := Nat.ne_of_lt (Nat.lt_of_lt_of_le Vc.lt szb)
  have sz_ob : h0.size ≤ ob := Nat.le_trans (Keep.refl h0 [oa]).1 szb
  obtain ⟨fs, hr, hrun, hended, hW, hsame⟩ := X2.leave (v := none) (fun _ => rfl)
  refine ⟨_, _, pre0 _ ?_, hrun, hended, _, _, rfl, ?_, ⟨_, rfl⟩, hW, hsame.mono (by decide) (by decide)⟩
  · refine XS.aloadN X0.here hx rfl (hb hby d2_0) rfl rfl ?_
    refine XS.aloadN X0.here hx rfl (hb hby d2_1) rfl rfl ?_
    refine XS.iconst X0.here hx rfl (hb hby d2_2) ?_
    refine XS.aloadN X0.here hx rfl (hb hby d2_3) rfl rfl ?_
    refine X0.arraylength hx (by rw [e0]; exact Ar1.1) (State.isArrayOf_alike hZ.alike Ar1.2.1) (g := (mkF m 4 #[.val (.ref oa), .val (.ref oc)] [(.ref oc), (.int (0 : Int32)), (.ref oc), (.ref oa)])) rfl rfl (hb hby d2_4) _ ?_
    rw [len_of S1 M1]
    refine XS.aconstNull X0.here hx rfl (hb hby d2_5) ?_
    refine st2.trans ?_
    show Steps p.tables e below (T2.setTop (mkF m 9 #[.val (.ref oa), .val (.ref oc)] [])) _
    exact X2.returnOut hx Bd.returns (hb hby d2_9) hr
  · show Q_mk3 Z _ _ _ _ _ _ _ _ h0 n0 _ T2.heap _
    have f4 := ((Keep.refl h0 [oa]).trans K2 (allS (P := fun x => x ∈ [oa] ∨ h0.size ≤ x) (Or.inl (List.mem_of_getElem? (i := 0) rfl)) all0))
    exact ⟨rfl, N2, f4, A2, ob, kb, bb0, bb1, bb2, gb, sz_ob, Fc2, Fv2, Vb2, qbb0, qbb1, qbb2⟩
theorem d1_59 : decode method_3_code 59 = .ok (.iload_n 0, 1) := by decide +kernel
theorem d1_60 : decode method_3_code 60 = .ok (.iconst 3, 1) := by decide +kernel
theorem d1_61 : decode method_3_code 61 = .ok (.if_icmp .ne 26, 3) := by decide +kernel
theorem d1_64 : decode method_3_code 64 = .ok (.new 7, 3) := by decide +kernel
theorem d1_67 : decode method_3_code 67 = .ok (.dup, 1) := by decide +kernel
theorem d1_68 : decode method_3_code 68 = .ok (.iconst 3, 1) := by decide +kernel
theorem d1_69 : decode method_3_code 69 = .ok (.newarray .char, 2) := by decide +kernel
theorem d1_71 : decode method_3_code 71 = .ok (.dup, 1) := by decide +kernel
theorem d1_72 : decode method_3_code 72 = .ok (.iconst 0, 1) := by decide +kernel
theorem d1_73 : decode method_3_code 73 = .ok (.iload_n 1, 1) := by decide +kernel
theorem d1_74 : decode method_3_code 74 = .ok (.castore, 1) := by decide +kernel
theorem d1_75 : decode method_3_code 75 = .ok (.dup, 1) := by decide +kernel
theorem d1_76 : decode method_3_code 76 = .ok (.iconst 1, 1) := by decide +kernel
theorem d1_77 : decode method_3_code 77 = .ok (.iload_n 2, 1) := by decide +kernel
theorem d1_78 : decode method_3_code 78 = .ok (.castore, 1) := by decide +kernel
theorem d1_79 : decode method_3_code 79 = .ok (.dup, 1) := by decide +kernel
theorem d1_80 : decode method_3_code 80 = .ok (.iconst 2, 1) := by decide +kernel
theorem d1_81 : decode method_3_code 81 = .ok (.iload_n 3, 1) := by decide +kernel
theorem d1_82 : decode method_3_code 82 = .ok (.castore, 1) := by decide +kernel
theorem d1_83 : decode method_3_code 83 = .ok (.invokespecial 9, 3) := by decide +kernel
theorem d1_86 : decode method_3_code 86 = .ok (.areturn, 1) := by decide +kernel
theorem ef_rm_m3 (m : MethodId) (x1 : Int32) (x2 : Int32) (x3 : Int32) (x4 : Int32) : entryFrame m #[(.int (3 : Int32)), (.int x1), (.int x2), (.int x3), (.int x4)] 5 = mkF m 0 #[.val (.int (3 : Int32)), .val (.int x1), .val (.int x2), .val (.int x3), .val (.int x4)] [] := by first | (simp [entryFrame, mkF, argsToLocals, Value.category]; done) | rfl
def Q_m3 (Z : State) (c0 : Int32) (c1 : Int32) (c2 : Int32) (c3 : Int32) (vcs : Int32) (vf : Value) (h0 : Heap) (n0 : Nat) (v : Option Value) (h : Heap) (L : List Loc) : Prop := ∃ (sa ob : Addr) (kb : ClassId) (bb0 bb1 bb2 : Int32), v = some (.ref sa) ∧ Fr n0 L ∧ Keep h0 h [] ∧ Exa Z h sa "java/lang/String" ∧ Fld Z h sa "java/lang/String" "coder" "B" (.int (0 : Int32)) ∧ Fld Z h sa "java/lang/String" "value" "[B" (.ref ob) ∧ Arv Z h ob kb .byte (3 : Int32) [(.int bb0), (.int bb1), (.int bb2)] (.int (0 : Int32)) ∧ bb0.toInt % 256 = c0.toInt ∧ bb1.toInt % 256 = c1.toInt ∧ bb2.toInt % 256 = c2.toInt
set_option maxRecDepth 65536 in
set_option maxHeartbeats 40000000 in
theorem rm_m3 (l : Launch) (Z : State) (a0 : Array Value) (hw : ∀ d ∈ tables_1, d.before a0 Z = true) (ws : List Jvm.Cond) (c0 : Int32) (c1 : Int32) (c2 : Int32) (c3 : Int32) (vcs : Int32) (vf : Value) (h0 : Heap) (n0 : Nat) (Z0 : n0 ≤ h0.size) (Os : own_st Z h0 vcs vf) (uc0 : 0 ≤ c0.toInt) (uc1 : 0 ≤ c1.toInt) (uc2 : 0 ≤ c2.toInt) (uc3 : 0 ≤ c3.toInt) (vc0 : c0.toInt ≤ 255) (vc1 : c1.toInt ≤ 255) (vc2 : c2.toInt ≤ 255) (vc3 : c3.toInt ≤ 255) :
    MetFree l (⟨"com/example/path_template_matcher/pathtemplatematcher/UriReferencePathEndPinLaw", "mk", "(ICCCC)Ljava/lang/String;"⟩ : MethodName) (head1 (Jvm.Cond.code (⟨"com/example/path_template_matcher/pathtemplatematcher/UriReferencePathEndPinLaw", "mk", "(ICCCC)Ljava/lang/String;"⟩ : MethodName) method_3_code 5 (some (.object "java/lang/String")) :: ws) ({ frames := 4, cells := 3, slots := 10, locals := 66 } : Room)) (fun a U => a = #[(.int (3 : Int32)), (.int c0), (.int c1), (.int c2), (.int c3)] ∧ Z.Warmed39 U.vm ∧ U.heap = h0) (fun _ _ _ _ _ => True) (fun _ U o U' => ∃ v L, o = .returned v ∧ Q_m3 Z c0 c1 c2 c3 vcs vf h0 n0 v U'.heap L ∧ FrameEnd U o U' L ({ frames := 4, cells := 3, slots := 10, locals := 66 } : Room).cells ({ frames := 4, cells := 3, slots := 10, locals := 66 } : Room).slots) := by
  refine MetFree.of_bodySF (plainFor_of_name pn_0) hisR ?_
  intro p e s m args below meth c s₁ Bd hml0 hP hK
  obtain ⟨rfl, hZ, hh⟩ := hP
  have hx := Bd.exec
  have hby := Bd.bytes
  have hml : c.maxLocals = 5 := hml0
  have hown : s.vm.findClass "com/example/path_template_matcher/pathtemplatematcher/UriReferencePathEndPinLaw" = some m.cls := findClass_of_methodNamed Bd.named
  have hnm := (name_of_methodNamed Bd.named Bd.method).1
  have X0 : Stand p l e ({ frames := 4, cells := 3, slots := 10, locals := 66 } : Room) s m #[(.int (3 : Int32)), (.int c0), (.int c1), (.int c2), (.int c3)] below meth c s₁ [] 0 0 := Stand.of_body Bd
  have e0 : s₁.heap = h0 := by rw [← hh, Bd.state]; rfl
  have N0 := Fr.nil n0
  have pre0 : ∀ t, Steps p.tables e below (s₁.setTop (mkF m 0 #[.val (.int (3 : Int32)), .val (.int c0), .val (.int c1), .val (.int c2), .val (.int c3)] [])) t → Steps p.tables e below (s₁.setTop (entryFrame m #[(.int (3 : Int32)), (.int c0), (.int c1), (.int c2), (.int c3)] 5)) t := fun t k => castTop (ef_rm_m3 m c0 c1 c2 c3) k
  have hc1_1 : ¬ ((3 : Int) = (0 : Int)) := by decide
  have hc17_2 : ¬ ((3 : Int) = (1 : Int)) := by decide
  have hc37_3 : ¬ ((3 : Int) = (2 : Int)) := by decide
  have hc61_4 : (3 : Int) = (3 : Int) := by decide
  obtain ⟨T5, h5, X5, e5, E5, A5, D5, -, st5⟩ := newO X0 hx hZ hown (hw _ (List.mem_of_getElem? (i := 5) rfl)) (hw _ (List.mem_of_getElem? (i := 6) rfl)) (hw _ (List.mem_of_getElem? (i := 7) rfl)) e0 (g := (mkF m 64 #[.val (.int (3 : Int32)), .val (.int c0), .val (.int c1), .val (.int c2), .val (.int c3)] [])) rfl (hb hby d1_64) (by decide) (by decide)
  obtain ⟨b5, g5⟩ : ∃ z, z = h0.size := ⟨_, rfl⟩
  have g_b5 : n0 ≤ b5 := Nat.le_trans Z0 (Nat.le_of_eq g5.symm)
  have sz_b5 : h0.size ≤ b5 := Nat.le_trans (Keep.refl h0 []).1 (Nat.le_of_eq g5.symm)
  rw [← g5] at A5 D5 st5
  have Zs6 : n0 ≤ h5.size := Nat.le_trans Z0 E5.1
  have F5_value : Fld Z h5 b5 "java/lang/String" "value" "[B" .null := D5 (Or.inr (hw _ (List.mem_of_getElem? (i := 21) rfl))) (ty := (.array .byte)) (by decide)
  have F5_coder : Fld Z h5 b5 "java/lang/String" "coder" "B" (.int (0 : Int32)) := D5 (Or.inr (hw _ (List.mem_of_getElem? (i := 22) rfl))) (ty := .byte) (by decide)
  obtain ⟨T7, h7, k7, X7, e7, E7, A7, st7⟩ := newP X5 hx hZ (hw _ (List.mem_of_getElem? (i := 8) rfl)) e5 (g := (mkF m 69 #[.val (.int (3 : Int32)), .val (.int c0), .val (.int c1), .val (.int c2), .val (.int c3)] [(.int (3 : Int32)), (.ref b5), (.ref b5)])) rfl (hb hby d1_69) rfl (by decide) (cap := 3) (by decide) (by decide) (by decide) (by decide)
  obtain ⟨b7, g7⟩ : ∃ z, z = h5.size := ⟨_, rfl⟩
  have ne_b5_b7 : b5 ≠ b7 := Nat.ne_of_lt (Nat.lt_of_lt_of_le A5.lt (Nat.le_of_eq g7.symm))
  have g_b7 : n0 ≤ b7 := Nat.le_trans Zs6 (Nat.le_of_eq g7.symm)
  have f8 := ((Keep.refl h0 []).ext E5)
  have sz_b7 : h0.size ≤ b7 := Nat.le_trans f8.1 (Nat.le_of_eq g7.symm)
  rw [← g7] at A7 st7
  have Zs9 : n0 ≤ h7.size := Nat.le_trans Zs6 E7.1
  have V7 : Arv Z h7 b7 k7 .char (3 : Int32) [(.int (0 : Int32)), (.int (0 : Int32)), (.int (0 : Int32))] (.int (0 : Int32)) := (Arv.new A7 (by decide)).pad (pad_rep [] (.int (0 : Int32)) 3)
  obtain ⟨cl10, Ar10, q10, S10, M10, H10, G10⟩ := id V7
  have hin10 : ¬ ((0 : Int32) < 0 ∨ cl10.slots.size ≤ ((0 : Int32)).toNatClampNeg) := inb_of S10 ⟨by decide, by decide⟩
  obtain ⟨T11, h11, X11, e11, W11, st11⟩ := stC X7 hx hZ e7 Ar10 (j := (0 : Int32)) hin10 (g := (mkF m 74 #[.val (.int (3 : Int32)), .val (.int c0), .val (.int c1), .val (.int c2), .val (.int c3)] [(.int c0), (.int (0 : Int32)), (.ref b7), (.ref b7), (.ref b5), (.ref b5)])) rfl rfl (hb hby d1_74)
  have N11 := Fr.snoc X11 N0 g_b7
  have Zs12 : n0 ≤ h11.size := by rw [W11.size]; exact Zs9
  have V11 : Arv Z h11 b7 k7 .char (3 : Int32) [(.int (nar .char c0)), (.int (0 : Int32)), (.int (0 : Int32))] (.int (0 : Int32)) := Arv.set Ar10 q10 S10 M10 H10 G10 (fits_nar_char _) W11 0 rfl (Nat.le_of_ble_eq_true rfl)
  obtain ⟨cl13, Ar13, q13, S13, M13, H13, G13⟩ := id V11
  have hin13 : ¬ ((1 : Int32) < 0 ∨ cl13.slots.size ≤ ((1 : Int32)).toNatClampNeg) := inb_of S13 ⟨by decide, by decide⟩
  obtain ⟨T14, h14, X14, e14, W14, st14⟩ := stC X11 hx hZ e11 Ar13 (j := (1 : Int32)) hin13 (g := (mkF m 78 #[.val (.int (3 : Int32)), .val (.int c0), .val (.int c1), .val (.int c2), .val (.int c3)] [(.int c1), (.int (1 : Int32)), (.ref b7), (.ref b7), (.ref b5), (.ref b5)])) rfl rfl (hb hby d1_78)
  have N14 := Fr.snoc X14 N11 g_b7
  have Zs15 : n0 ≤ h14.size := by rw [W14.size]; exact Zs12
  have V14 : Arv Z h14 b7 k7 .char (3 : Int32) [(.int (nar .char c0)), (.int (nar .char c1)), (.int (0 : Int32))] (.int (0 : Int32)) := Arv.set Ar13 q13 S13 M13 H13 G13 (fits_nar_char _) W14 1 rfl (Nat.le_of_ble_eq_true rfl)
  obtain ⟨cl16, Ar16, q16, S16, M16, H16, G16⟩ := id V14
  have hin16 : ¬ ((2 : Int32) < 0 ∨ cl16.slots.size ≤ ((2 : Int32)).toNatClampNeg) := inb_of S16 ⟨by decide, by decide⟩
  obtain ⟨T17, h17, X17, e17, W17, st17⟩ := stC X14 hx hZ e14 Ar16 (j := (2 : Int32)) hin16 (g := (mkF m 82 #[.val (.int (3 : Int32)), .val (.int c0), .val (.int c1), .val (.int c2), .val (.int c3)] [(.int c2), (.int (2 : Int32)), (.ref b7), (.ref b7), (.ref b5), (.ref b5)])) rfl rfl (hb hby d1_82)
  have N17 := Fr.snoc X17 N14 g_b7
  have Zs18 : n0 ≤ h17.size := by rw [W17.size]; exact Zs15
  have V17 : Arv Z h17 b7 k7 .char (3 : Int32) [(.int (nar .char c0)), (.int (nar .char c1)), (.int (nar .char c2))] (.int (0 : Int32)) := Arv.set Ar16 q16 S16 M16 H16 G16 (fits_nar_char _) W17 2 rfl (Nat.le_of_ble_eq_true rfl)
  have hn21 : nar .char c0 = c0 := own_narc c0 (by omega) (by omega)
  have hn22 : nar .char c1 = c1 := own_narc c1 (by omega) (by omega)
  have hn23 : nar .char c2 = c2 := own_narc c2 (by omega) (by omega)
  have Vx20 : Arv Z h17 b7 k7 .char (3 : Int32) [(.int c0), (.int c1), (.int c2)] (.int (0 : Int32)) := by
    have q := V17
    rw [hn21, hn22, hn23] at q; exact q
  have f24 := ((((A5.ext E7).wr W11).wr W14).wr W17)
  have f25 := ((((f8.ext E7).wr W11 (Or.inr sz_b7)).wr W14 (Or.inr sz_b7)).wr W17 (Or.inr sz_b7))
  have os26 := (own_st_wr (own_st_wr (own_st_wr (own_st_ext (own_st_ext Os E5) E7) W11) W14) W17)
  have f27 := ((((F5_coder.ext E7).other W11 (Or.inl ne_b5_b7)).other W14 (Or.inl ne_b5_b7)).other W17 (Or.inl ne_b5_b7))
  have f28 := ((((F5_value.ext E7).other W11 (Or.inl ne_b5_b7)).other W14 (Or.inl ne_b5_b7)).other W17 (Or.inl ne_b5_b7))
  obtain ⟨_, _, ⟨T19, L19, k19, n19⟩, -, X19, ⟨Lc19, hQ19, l19, y19, z19⟩, st19⟩ := X17.specialBack hx (y := (⟨"java/lang/String", "<init>", "([C)V"⟩ : MethodName)) rfl hown (mvT hZ (hw _ (List.mem_of_getElem? (i := 9) rfl))) (mvT hZ (hw _ (List.mem_of_getElem? (i := 10) rfl))) (mvT hZ (hw _ (List.mem_of_getElem? (i := 11) rfl))) (by decide) (backOf (W := 1) (rm_mk3 l Z a0 hw [] b5 b7 vcs vf k7 c0 c1 c2 h17 n0 Zs18 os26 f24 f27 f28 g_b5 ne_b5_b7 Vx20 (by omega) (by omega) (by omega) (by omega) (by omega) (by omega)) hZ (hw _ (List.mem_of_getElem? (i := 11) rfl)) (hw _ (List.mem_of_getElem? (i := 7) rfl)) (by decide) (by decide)) (g := (mkF m 83 #[.val (.int (3 : Int32)), .val (.int c0), .val (.int c1), .val (.int c2), .val (.int c3)] [(.ref b7), (.ref b5), (.ref b5)])) rfl (by rw [hml]; rfl) (Steps.refl _) (a := b5) (argsL := [(.ref b7)]) (rest := [(.ref b5)]) (lenOf pd_1 rfl) rfl (by show 2 * 0 + _ ≤ _; exact Nat.le_of_eq rfl) (hb hby d1_83) (fun _ _ => ⟨rfl, e17, (by decide : 2 + 1 ≤ _), (by decide : 7 + 3 ≤ _)⟩)
  dsimp only [Pt.U, Pt.locs, Pt.cells, Pt.slots] at X19 l19 y19 z19 st19 hQ19
  rw [l19, y19, z19] at X19
  obtain ⟨rfl, N19q, K19, A19, ob19, kb19, y19_0, y19_1, y19_2, gb19, szb19, Fc19, Fv19, Vb19, qy19_0, qy19_1, qy19_2⟩ := hQ19
  have N19 := Fr.app N17 N19q
  have Zs29 : n0 ≤ T19.heap.size := Nat.le_trans Zs18 K19.1
  have ne_b5_ob19 : b5 ≠ ob19 := Nat.ne_of_lt (Nat.lt_of_lt_of_le f24.lt szb19)
  have ne_b7_ob19 : b7 ≠ ob19 := Nat.ne_of_lt (Nat.lt_of_lt_of_le Vx20.lt szb19)
  have sz_ob19 : h0.size ≤ ob19 := Nat.le_trans f25.1 szb19
  obtain ⟨fs, hr, hrun, hended, hW, hsame⟩ := X19.leave (v := some (.ref b5)) (fun h => by rw [Bd.returns] at h; cases h)
  refine ⟨_, _, pre0 _ ?_, hrun, hended, _, _, rfl, ?_, ⟨_, rfl⟩, hW, hsame.mono (by decide) (by decide)⟩
  · refine XS.iloadN X0.here hx rfl (hb hby d1_0) rfl ?_
    refine XS.ifYes X0.here hx rfl (pc0 := 1) (pc' := 15) rfl (hb hby d1_1) rfl (own_if (own_feq (a := (3 : Int32)) (b := (0 : Int32)) (by decide) (by decide) hc1_1).2) (by decide) (by decide) ?_
    refine XS.iloadN X0.here hx rfl (hb hby d1_15) rfl ?_
    refine XS.iconst X0.here hx rfl (hb hby d1_16) ?_
    refine XS.icmpYes X0.here hx rfl (pc0 := 17) (pc' := 35) rfl (hb hby d1_17) rfl (own_feq (a := (3 : Int32)) (b := (1 : Int32)) (by decide) (by decide) hc17_2).2 (by decide) (by decide) ?_
    refine XS.iloadN X0.here hx rfl (hb hby d1_35) rfl ?_
    refine XS.iconst X0.here hx rfl (hb hby d1_36) ?_
    show Steps p.tables e below (s₁.setTop (mkF m 37 #[.val (.int (3 : Int32)), .val (.int c0), .val (.int c1), .val (.int c2), .val (.int c3)] [(.int (2 : Int32)), (.int (3 : Int32))])) _
    refine XS.icmpYes X0.here hx rfl (pc0 := 37) (pc' := 59) rfl (hb hby d1_37) rfl (own_feq (a := (3 : Int32)) (b := (2 : Int32)) (by decide) (by decide) hc37_3).2 (by decide) (by decide) ?_
    refine XS.iloadN X0.here hx rfl (hb hby d1_59) rfl ?_
    refine XS.iconst X0.here hx rfl (hb hby d1_60) ?_
    refine XS.icmpNo X0.here hx rfl (hb hby d1_61) rfl (own_teq (a := (3 : Int32)) (b := (3 : Int32)) (by decide) (by decide) hc61_4).2 ?_
    refine st5 _ ?_
    refine XS.dup X5.here hx rfl (hb hby d1_67) rfl rfl ?_
    refine XS.iconst X5.here hx rfl (hb hby d1_68) ?_
    refine st7 _ ?_
    show Steps p.tables e below (T7.setTop (mkF m 71 #[.val (.int (3 : Int32)), .val (.int c0), .val (.int c1), .val (.int c2), .val (.int c3)] [(.ref b7), (.ref b5), (.ref b5)])) _
    refine XS.dup X7.here hx rfl (hb hby d1_71) rfl rfl ?_
    refine XS.iconst X7.here hx rfl (hb hby d1_72) ?_
    refine XS.iloadN X7.here hx rfl (hb hby d1_73) rfl ?_
    refine st11 _ ?_
    refine XS.dup X11.here hx rfl (hb hby d1_75) rfl rfl ?_
    refine XS.iconst X11.here hx rfl (hb hby d1_76) ?_
    refine XS.iloadN X11.here hx rfl (hb hby d1_77) rfl ?_
    refine st14 _ ?_
    show Steps p.tables e below (T14.setTop (mkF m 79 #[.val (.int (3 : Int32)), .val (.int c0), .val (.int c1), .val (.int c2), .val (.int c3)] [(.ref b7), (.ref b5), (.ref b5)])) _
    refine XS.dup X14.here hx rfl (hb hby d1_79) rfl rfl ?_
    refine XS.iconst X14.here hx rfl (hb hby d1_80) ?_
    refine XS.iloadN X14.here hx rfl (hb hby d1_81) rfl ?_
    refine st17 _ ?_
    refine st19.trans ?_
    jvm_step X19.here [X19.here.top, hx, (hb hby d1_86), X19.method', Bd.returns, Value.isRef, FieldType.isReference]
    first | (intro acts; rw [hr _ acts rfl rfl rfl]) | rw [hr _ _ rfl rfl rfl]
    exact Steps.refl _
  · show Q_m3 Z _ _ _ _ _ _ h0 n0 _ T19.heap _
    have f30 := (f25.trans K19 (allS (P := fun x => x ∈ [] ∨ h0.size ≤ x) (Or.inr sz_b5) all0))
    exact ⟨b5, ob19, _, y19_0, y19_1, y19_2, rfl, N19, f30, A19, Fc19, Fv19, Vb19, qy19_0, qy19_1, qy19_2⟩
theorem ef_rm_cp4 (m : MethodId) (x0 : Addr) (x2 : Addr) : entryFrame m #[(.ref x0), (.int (0 : Int32)), (.ref x2), (.int (0 : Int32)), (.int (4 : Int32))] 7 = mkF m 0 #[.val (.ref x0), .val (.int (0 : Int32)), .val (.ref x2), .val (.int (0 : Int32)), .val (.int (4 : Int32)), .unset, .unset] [] := by first | (simp [entryFrame, mkF, argsToLocals, Value.category]; done) | rfl
def Q_cp4 (Z : State) (oc : Addr) (ob : Addr) (kC : ClassId) (c0 : Int32) (c1 : Int32) (c2 : Int32) (c3 : Int32) (kb : ClassId) (h0 : Heap) (n0 : Nat) (v : Option Value) (h : Heap) (L : List Loc) : Prop := ∃ bb0 bb1 bb2 bb3 : Int32, v = some (.int (4 : Int32)) ∧ Fr n0 L ∧ Keep h0 h [ob] ∧ Arv Z h ob kb .byte (4 : Int32) [(.int bb0), (.int bb1), (.int bb2), (.int bb3)] (.int (0 : Int32)) ∧ bb0.toInt % 256 = c0.toInt ∧ bb1.toInt % 256 = c1.toInt ∧ bb2.toInt % 256 = c2.toInt ∧ bb3.toInt % 256 = c3.toInt
set_option maxRecDepth 65536 in
set_option maxHeartbeats 40000000 in
theorem rm_cp4 (l : Launch) (Z : State) (a0 : Array Value) (hw : ∀ d ∈ tables_1, d.before a0 Z = true) (ws : List Jvm.Cond) (oc : Addr) (ob : Addr) (kC : ClassId) (c0 : Int32) (c1 : Int32) (c2 : Int32) (c3 : Int32) (kb : ClassId) (h0 : Heap) (n0 : Nat) (Z0 : n0 ≤ h0.size) (Vc : Arv Z h0 oc kC .char (4 : Int32) [(.int c0), (.int c1), (.int c2), (.int c3)] (.int (0 : Int32))) (uc0 : 0 ≤ c0.toInt) (uc1 : 0 ≤ c1.toInt) (uc2 : 0 ≤ c2.toInt) (uc3 : 0 ≤ c3.toInt) (vc0 : c0.toInt ≤ 255) (vc1 : c1.toInt ≤ 255) (vc2 : c2.toInt ≤ 255) (vc3 : c3.toInt ≤ 255) (Vb : Arv Z h0 ob kb .byte (4 : Int32) [(.int (0 : Int32)), (.int (0 : Int32)), (.int (0 : Int32)), (.int (0 : Int32))] (.int (0 : Int32))) (gb : n0 ≤ ob) (ncb : oc ≠ ob) :
    MetFree l (⟨"java/lang/StringUTF16", "compress", "([CI[BII)I"⟩ : MethodName) (head1 (Jvm.Cond.code (⟨"java/lang/StringUTF16", "compress", "([CI[BII)I"⟩ : MethodName) jdk_52_method_21_code 7 (some .int) :: ws) ({ frames := 0, cells := 0, slots := 0, locals := 0 } : Room)) (fun a U => a = #[(.ref oc), (.int (0 : Int32)), (.ref ob), (.int (0 : Int32)), (.int (4 : Int32))] ∧ Z.Warmed39 U.vm ∧ U.heap = h0) (fun _ _ _ _ _ => True) (fun _ U o U' => ∃ v L, o = .returned v ∧ Q_cp4 Z oc ob kC c0 c1 c2 c3 kb h0 n0 v U'.heap L ∧ FrameEnd U o U' L ({ frames := 0, cells := 0, slots := 0, locals := 0 } : Room).cells ({ frames := 0, cells := 0, slots := 0, locals := 0 } : Room).slots) := by
  refine MetFree.of_bodySF (plainFor_of_name pn_2) hisR ?_
  intro p e s m args below meth c s₁ Bd hml0 hP hK
  obtain ⟨rfl, hZ, hh⟩ := hP
  have hx := Bd.exec
  have hby := Bd.bytes
  have hml : c.maxLocals = 7 := hml0
  have hown : s.vm.findClass "java/lang/StringUTF16" = some m.cls := findClass_of_methodNamed Bd.named
  have hnm := (name_of_methodNamed Bd.named Bd.method).1
  have X0 : Stand p l e ({ frames := 0, cells := 0, slots := 0, locals := 0 } : Room) s m #[(.ref oc), (.int (0 : Int32)), (.ref ob), (.int (0 : Int32)), (.int (4 : Int32))] below meth c s₁ [] 0 0 := Stand.of_body Bd
  have e0 : s₁.heap = h0 := by rw [← hh, Bd.state]; rfl
  have N0 := Fr.nil n0
  have pre0 : ∀ t, Steps p.tables e below (s₁.setTop (mkF m 0 #[.val (.ref oc), .val (.int (0 : Int32)), .val (.ref ob), .val (.int (0 : Int32)), .val (.int (4 : Int32)), .unset, .unset] [])) t → Steps p.tables e below (s₁.setTop (entryFrame m #[(.ref oc), (.int (0 : Int32)), (.ref ob), (.int (0 : Int32)), (.int (4 : Int32))] 7)) t := fun t k => castTop (ef_rm_cp4 m oc ob) k
  have hc7_1 : (0 : Int) < (4 : Int) := by decide
  obtain ⟨cl2, Ar2, q2, S2, M2, H2, G2⟩ := id Vc
  have hin2 : ¬ ((0 : Int32) < 0 ∨ cl2.slots.size ≤ ((0 : Int32)).toNatClampNeg) := inb_of S2 ⟨by decide, by decide⟩
  have hat2 : cl2.slots[((0 : Int32)).toNatClampNeg]? = some (.int c0) := Has.at H2 hin2 rfl
  have hc20_3 : ¬ ((255 : Int) < c0.toInt) := by omega
  obtain ⟨cl4, Ar4, q4, S4, M4, H4, G4⟩ := id Vb
  have hin4 : ¬ ((0 : Int32) < 0 ∨ cl4.slots.size ≤ ((0 : Int32)).toNatClampNeg) := inb_of S4 ⟨by decide, by decide⟩
  obtain ⟨T5, h5, X5, e5, W5, st5⟩ := stB X0 hx hZ e0 Ar4 (j := (0 : Int32)) hin4 (g := (mkF m 31 #[.val (.ref oc), .val (.int (0 : Int32)), .val (.ref ob), .val (.int (0 : Int32)), .val (.int (4 : Int32)), .val (.int (0 : Int32)), .val (.int c0)] [(.int (c0.toInt8.toInt32)), (.int (0 : Int32)), (.ref ob)])) rfl rfl (hb hby d9_31)
  have N5 := Fr.snoc X5 N0 gb
  have Zs6 : n0 ≤ h5.size := by rw [W5.size]; exact Z0
  have V5 : Arv Z h5 ob kb .byte (4 : Int32) [(.int (nar .byte (c0.toInt8.toInt32))), (.int (0 : Int32)), (.int (0 : Int32)), (.int (0 : Int32))] (.int (0 : Int32)) := Arv.set Ar4 q4 S4 M4 H4 G4 (fits_nar_byte _) W5 0 rfl (Nat.le_of_ble_eq_true rfl)
  have hc7_7 : (1 : Int) < (4 : Int) := by decide
  have f8 := (Vc.other W5 ncb)
  obtain ⟨cl9, Ar9, q9, S9, M9, H9, G9⟩ := id f8
  have hin9 : ¬ ((1 : Int32) < 0 ∨ cl9.slots.size ≤ ((1 : Int32)).toNatClampNeg) := inb_of S9 ⟨by decide, by decide⟩
  have hat9 : cl9.slots[((1 : Int32)).toNatClampNeg]? = some (.int c1) := Has.at H9 hin9 rfl
  have hc20_10 : ¬ ((255 : Int) < c1.toInt) := by omega
  obtain ⟨cl11, Ar11, q11, S11, M11, H11, G11⟩ := id V5
  have hin11 : ¬ ((1 : Int32) < 0 ∨ cl11.slots.size ≤ ((1 : Int32)).toNatClampNeg) := inb_of S11 ⟨by decide, by decide⟩
  obtain ⟨T12, h12, X12, e12, W12, st12⟩ := stB X5 hx hZ e5 Ar11 (j := (1 : Int32)) hin11 (g := (mkF m 31 #[.val (.ref oc), .val (.int (1 : Int32)), .val (.ref ob), .val (.int (1 : Int32)), .val (.int (4 : Int32)), .val (.int (1 : Int32)), .val (.int c1)] [(.int (c1.toInt8.toInt32)), (.int (1 : Int32)), (.ref ob)])) rfl rfl (hb hby d9_31)
  have N12 := Fr.snoc X12 N5 gb
  have Zs13 : n0 ≤ h12.size := by rw [W12.size]; exact Zs6
  have V12 : Arv Z h12 ob kb .byte (4 : Int32) [(.int (nar .byte (c0.toInt8.toInt32))), (.int (nar .byte (c1.toInt8.toInt32))), (.int (0 : Int32)), (.int (0 : Int32))] (.int (0 : Int32)) := Arv.set Ar11 q11 S11 M11 H11 G11 (fits_nar_byte _) W12 1 rfl (Nat.le_of_ble_eq_true rfl)
  have hc7_14 : (2 : Int) < (4 : Int) := by decide
  have f15 := (f8.other W12 ncb)
  obtain ⟨cl16, Ar16, q16, S16, M16, H16, G16⟩ := id f15
  have hin16 : ¬ ((2 : Int32) < 0 ∨ cl16.slots.size ≤ ((2 : Int32)).toNatClampNeg) := inb_of S16 ⟨by decide, by decide⟩
  have hat16 : cl16.slots[((2 : Int32)).toNatClampNeg]? = some (.int c2) := Has.at H16 hin16 rfl
  have hc20_17 : ¬ ((255 : Int) < c2.toInt) := by omega
  obtain ⟨cl18, Ar18, q18, S18, M18, H18, G18⟩ := id V12
  have hin18 : ¬ ((2 : Int32) < 0 ∨ cl18.slots.size ≤ ((2 : Int32)).toNatClampNeg) := inb_of S18 ⟨by decide, by decide⟩
  obtain ⟨T19, h19, X19, e19, W19, st19⟩ := stB X12 hx hZ e12 Ar18 (j := (2 : Int32)) hin18 (g := (mkF m 31 #[.val (.ref oc), .val (.int (2 : Int32)), .val (.ref ob), .val (.int (2 : Int32)), .val (.int (4 : Int32)), .val (.int (2 : Int32)), .val (.int c2)] [(.int (c2.toInt8.toInt32)), (.int (2 : Int32)), (.ref ob)])) rfl rfl (hb hby d9_31)
  have N19 := Fr.snoc X19 N12 gb
  have Zs20 : n0 ≤ h19.size := by rw [W19.size]; exact Zs13
  have V19 : Arv Z h19 ob kb .byte (4 : Int32) [(.int (nar .byte (c0.toInt8.toInt32))), (.int (nar .byte (c1.toInt8.toInt32))), (.int (nar .byte (c2.toInt8.toInt32))), (.int (0 : Int32))] (.int (0 : Int32)) := Arv.set Ar18 q18 S18 M18 H18 G18 (fits_nar_byte _) W19 2 rfl (Nat.le_of_ble_eq_true rfl)
  have hc7_21 : (3 : Int) < (4 : Int) := by decide
  have f22 := (f15.other W19 ncb)
  obtain ⟨cl23, Ar23, q23, S23, M23, H23, G23⟩ := id f22
  have hin23 : ¬ ((3 : Int32) < 0 ∨ cl23.slots.size ≤ ((3 : Int32)).toNatClampNeg) := inb_of S23 ⟨by decide, by decide⟩
  have hat23 : cl23.slots[((3 : Int32)).toNatClampNeg]? = some (.int c3) := Has.at H23 hin23 rfl
  have hc20_24 : ¬ ((255 : Int) < c3.toInt) := by omega
  obtain ⟨cl25, Ar25, q25, S25, M25, H25, G25⟩ := id V19
  have hin25 : ¬ ((3 : Int32) < 0 ∨ cl25.slots.size ≤ ((3 : Int32)).toNatClampNeg) := inb_of S25 ⟨by decide, by decide⟩
  obtain ⟨T26, h26, X26, e26, W26, st26⟩ := stB X19 hx hZ e19 Ar25 (j := (3 : Int32)) hin25 (g := (mkF m 31 #[.val (.ref oc), .val (.int (3 : Int32)), .val (.ref ob), .val (.int (3 : Int32)), .val (.int (4 : Int32)), .val (.int (3 : Int32)), .val (.int c3)] [(.int (c3.toInt8.toInt32)), (.int (3 : Int32)), (.ref ob)])) rfl rfl (hb hby d9_31)
  have N26 := Fr.snoc X26 N19 gb
  have Zs27 : n0 ≤ h26.size := by rw [W26.size]; exact Zs20
  have V26 : Arv Z h26 ob kb .byte (4 : Int32) [(.int (nar .byte (c0.toInt8.toInt32))), (.int (nar .byte (c1.toInt8.toInt32))), (.int (nar .byte (c2.toInt8.toInt32))), (.int (nar .byte (c3.toInt8.toInt32)))] (.int (0 : Int32)) := Arv.set Ar25 q25 S25 M25 H25 G25 (fits_nar_byte _) W26 3 rfl (Nat.le_of_ble_eq_true rfl)
  have hc7_28 : ¬ ((4 : Int) < (4 : Int)) := by decide
  obtain ⟨fs, hr, hrun, hended, hW, hsame⟩ := X26.leave (v := some (.int (4 : Int32))) (fun h => by rw [Bd.returns] at h; cases h)
  refine ⟨_, _, pre0 _ ?_, hrun, hended, _, _, rfl, ?_, ⟨_, rfl⟩, hW, hsame.mono (by decide) (by decide)⟩
  · refine XS.iconst X0.here hx rfl (hb hby d9_0) ?_
    refine XS.istore X0.here hx rfl (hb hby d9_1) rfl (l' := #[.val (.ref oc), .val (.int (0 : Int32)), .val (.ref ob), .val (.int (0 : Int32)), .val (.int (4 : Int32)), .val (.int (0 : Int32)), .unset]) rfl ?_
    refine XS.iload X0.here hx rfl (hb hby d9_3) rfl ?_
    refine XS.iload X0.here hx rfl (hb hby d9_5) rfl ?_
    refine XS.icmpNo X0.here hx rfl (hb hby d9_7) rfl (own_tlt (a := (0 : Int32)) (b := (4 : Int32)) (by decide) (by decide) hc7_1).2.1 ?_
    refine XS.aloadN X0.here hx rfl (hb hby d9_10) rfl rfl ?_
    refine XS.iloadN X0.here hx rfl (hb hby d9_11) rfl ?_
    show Steps p.tables e below (s₁.setTop (mkF m 12 #[.val (.ref oc), .val (.int (0 : Int32)), .val (.ref ob), .val (.int (0 : Int32)), .val (.int (4 : Int32)), .val (.int (0 : Int32)), .unset] [(.int (0 : Int32)), (.ref oc)])) _
    refine X0.caload hx (j := (0 : Int32)) (v := (.int c0)) (by rw [e0]; exact Ar2.1) (State.isArrayOf_alike hZ.alike Ar2.2.1) Ar2.2.2 hin2 hat2 (g := (mkF m 12 #[.val (.ref oc), .val (.int (0 : Int32)), .val (.ref ob), .val (.int (0 : Int32)), .val (.int (4 : Int32)), .val (.int (0 : Int32)), .unset] [(.int (0 : Int32)), (.ref oc)])) rfl rfl (hb hby d9_12) _ ?_
    refine XS.istore X0.here hx rfl (hb hby d9_13) rfl (l' := #[.val (.ref oc), .val (.int (0 : Int32)), .val (.ref ob), .val (.int (0 : Int32)), .val (.int (4 : Int32)), .val (.int (0 : Int32)), .val (.int c0)]) rfl ?_
    refine XS.iload X0.here hx rfl (hb hby d9_15) rfl ?_
    refine XS.sipush X0.here hx rfl (hb hby d9_17) ?_
    refine XS.icmpYes X0.here hx rfl (pc0 := 20) (pc' := 26) rfl (hb hby d9_20) rfl (own_flt (a := (255 : Int32)) (b := c0) (by decide) rfl hc20_3).2.2.2 (by decide) (by decide) ?_
    refine XS.aloadN X0.here hx rfl (hb hby d9_26) rfl rfl ?_
    refine XS.iloadN X0.here hx rfl (hb hby d9_27) rfl ?_
    refine XS.iload X0.here hx rfl (hb hby d9_28) rfl ?_
    show Steps p.tables e below (s₁.setTop (mkF m 30 #[.val (.ref oc), .val (.int (0 : Int32)), .val (.ref ob), .val (.int (0 : Int32)), .val (.int (4 : Int32)), .val (.int (0 : Int32)), .val (.int c0)] [(.int c0), (.int (0 : Int32)), (.ref ob)])) _
    refine XS.i2b X0.here hx rfl (hb hby d9_30) rfl ?_
    refine st5 _ ?_
    refine XS.iinc X5.here hx rfl (hb hby d9_32) rfl (l' := #[.val (.ref oc), .val (.int (1 : Int32)), .val (.ref ob), .val (.int (0 : Int32)), .val (.int (4 : Int32)), .val (.int (0 : Int32)), .val (.int c0)]) rfl ?_
    refine XS.iinc X5.here hx rfl (hb hby d9_35) rfl (l' := #[.val (.ref oc), .val (.int (1 : Int32)), .val (.ref ob), .val (.int (1 : Int32)), .val (.int (4 : Int32)), .val (.int (0 : Int32)), .val (.int c0)]) rfl ?_
    refine XS.iinc X5.here hx rfl (hb hby d9_38) rfl (l' := #[.val (.ref oc), .val (.int (1 : Int32)), .val (.ref ob), .val (.int (1 : Int32)), .val (.int (4 : Int32)), .val (.int (1 : Int32)), .val (.int c0)]) rfl ?_
    refine XS.goto X5.here hx rfl (pc0 := 41) (pc' := 3) rfl (hb hby d9_41) (by decide) (by decide) ?_
    refine XS.iload X5.here hx rfl (hb hby d9_3) rfl ?_
    refine XS.iload X5.here hx rfl (hb hby d9_5) rfl ?_
    show Steps p.tables e below (T5.setTop (mkF m 7 #[.val (.ref oc), .val (.int (1 : Int32)), .val (.ref ob), .val (.int (1 : Int32)), .val (.int (4 : Int32)), .val (.int (1 : Int32)), .val (.int c0)] [(.int (4 : Int32)), (.int (1 : Int32))])) _
    refine XS.icmpNo X5.here hx rfl (hb hby d9_7) rfl (own_tlt (a := (1 : Int32)) (b := (4 : Int32)) (by decide) (by decide) hc7_7).2.1 ?_
    refine XS.aloadN X5.here hx rfl (hb hby d9_10) rfl rfl ?_
    refine XS.iloadN X5.here hx rfl (hb hby d9_11) rfl ?_
    refine X5.caload hx (j := (1 : Int32)) (v := (.int c1)) (by rw [e5]; exact Ar9.1) (State.isArrayOf_alike hZ.alike Ar9.2.1) Ar9.2.2 hin9 hat9 (g := (mkF m 12 #[.val (.ref oc), .val (.int (1 : Int32)), .val (.ref ob), .val (.int (1 : Int32)), .val (.int (4 : Int32)), .val (.int (1 : Int32)), .val (.int c0)] [(.int (1 : Int32)), (.ref oc)])) rfl rfl (hb hby d9_12) _ ?_
    refine XS.istore X5.here hx rfl (hb hby d9_13) rfl (l' := #[.val (.ref oc), .val (.int (1 : Int32)), .val (.ref ob), .val (.int (1 : Int32)), .val (.int (4 : Int32)), .val (.int (1 : Int32)), .val (.int c1)]) rfl ?_
    refine XS.iload X5.here hx rfl (hb hby d9_15) rfl ?_
    refine XS.sipush X5.here hx rfl (hb hby d9_17) ?_
    refine XS.icmpYes X5.here hx rfl (pc0 := 20) (pc' := 26) rfl (hb hby d9_20) rfl (own_flt (a := (255 : Int32)) (b := c1) (by decide) rfl hc20_10).2.2.2 (by decide) (by decide) ?_
    show Steps p.tables e below (T5.setTop (mkF m 26 #[.val (.ref oc), .val (.int (1 : Int32)), .val (.ref ob), .val (.int (1 : Int32)), .val (.int (4 : Int32)), .val (.int (1 : Int32)), .val (.int c1)] [])) _
    refine XS.aloadN X5.here hx rfl (hb hby d9_26) rfl rfl ?_
    refine XS.iloadN X5.here hx rfl (hb hby d9_27) rfl ?_
    refine XS.iload X5.here hx rfl (hb hby d9_28) rfl ?_
    refine XS.i2b X5.here hx rfl (hb hby d9_30) rfl ?_
    refine st12 _ ?_
    refine XS.iinc X12.here hx rfl (hb hby d9_32) rfl (l' := #[.val (.ref oc), .val (.int (2 : Int32)), .val (.ref ob), .val (.int (1 : Int32)), .val (.int (4 : Int32)), .val (.int (1 : Int32)), .val (.int c1)]) rfl ?_
    refine XS.iinc X12.here hx rfl (hb hby d9_35) rfl (l' := #[.val (.ref oc), .val (.int (2 : Int32)), .val (.ref ob), .val (.int (2 : Int32)), .val (.int (4 : Int32)), .val (.int (1 : Int32)), .val (.int c1)]) rfl ?_
    refine XS.iinc X12.here hx rfl (hb hby d9_38) rfl (l' := #[.val (.ref oc), .val (.int (2 : Int32)), .val (.ref ob), .val (.int (2 : Int32)), .val (.int (4 : Int32)), .val (.int (2 : Int32)), .val (.int c1)]) rfl ?_
    show Steps p.tables e below (T12.setTop (mkF m 41 #[.val (.ref oc), .val (.int (2 : Int32)), .val (.ref ob), .val (.int (2 : Int32)), .val (.int (4 : Int32)), .val (.int (2 : Int32)), .val (.int c1)] [])) _
    refine XS.goto X12.here hx rfl (pc0 := 41) (pc' := 3) rfl (hb hby d9_41) (by decide) (by decide) ?_
    refine XS.iload X12.here hx rfl (hb hby d9_3) rfl ?_
    refine XS.iload X12.here hx rfl (hb hby d9_5) rfl ?_
    refine XS.icmpNo X12.here hx rfl (hb hby d9_7) rfl (own_tlt (a := (2 : Int32)) (b := (4 : Int32)) (by decide) (by decide) hc7_14).2.1 ?_
    refine XS.aloadN X12.here hx rfl (hb hby d9_10) rfl rfl ?_
    refine XS.iloadN X12.here hx rfl (hb hby d9_11) rfl ?_
    refine X12.caload hx (j := (2 : Int32)) (v := (.int c2)) (by rw [e12]; exact Ar16.1) (State.isArrayOf_alike hZ.alike Ar16.2.1) Ar16.2.2 hin16 hat16 (g := (mkF m 12 #[.val (.ref oc), .val (.int (2 : Int32)), .val (.ref ob), .val (.int (2 : Int32)), .val (.int (4 : Int32)), .val (.int (2 : Int32)), .val (.int c1)] [(.int (2 : Int32)), (.ref oc)])) rfl rfl (hb hby d9_12) _ ?_
    refine XS.istore X12.here hx rfl (hb hby d9_13) rfl (l' := #[.val (.ref oc), .val (.int (2 : Int32)), .val (.ref ob), .val (.int (2 : Int32)), .val (.int (4 : Int32)), .val (.int (2 : Int32)), .val (.int c2)]) rfl ?_
    show Steps p.tables e below (T12.setTop (mkF m 15 #[.val (.ref oc), .val (.int (2 : Int32)), .val (.ref ob), .val (.int (2 : Int32)), .val (.int (4 : Int32)), .val (.int (2 : Int32)), .val (.int c2)] [])) _
    refine XS.iload X12.here hx rfl (hb hby d9_15) rfl ?_
    refine XS.sipush X12.here hx rfl (hb hby d9_17) ?_
    refine XS.icmpYes X12.here hx rfl (pc0 := 20) (pc' := 26) rfl (hb hby d9_20) rfl (own_flt (a := (255 : Int32)) (b := c2) (by decide) rfl hc20_17).2.2.2 (by decide) (by decide) ?_
    refine XS.aloadN X12.here hx rfl (hb hby d9_26) rfl rfl ?_
    refine XS.iloadN X12.here hx rfl (hb hby d9_27) rfl ?_
    refine XS.iload X12.here hx rfl (hb hby d9_28) rfl ?_
    refine XS.i2b X12.here hx rfl (hb hby d9_30) rfl ?_
    refine st19 _ ?_
    show Steps p.tables e below (T19.setTop (mkF m 32 #[.val (.ref oc), .val (.int (2 : Int32)), .val (.ref ob), .val (.int (2 : Int32)), .val (.int (4 : Int32)), .val (.int (2 : Int32)), .val (.int c2)] [])) _
    refine XS.iinc X19.here hx rfl (hb hby d9_32) rfl (l' := #[.val (.ref oc), .val (.int (3 : Int32)), .val (.ref ob), .val (.int (2 : Int32)), .val (.int (4 : Int32)), .val (.int (2 : Int32)), .val (.int c2)]) rfl ?_
    refine XS.iinc X19.here hx rfl (hb hby d9_35) rfl (l' := #[.val (.ref oc), .val (.int (3 : Int32)), .val (.ref ob), .val (.int (3 : Int32)), .val (.int (4 : Int32)), .val (.int (2 : Int32)), .val (.int c2)]) rfl ?_
    refine XS.iinc X19.here hx rfl (hb hby d9_38) rfl (l' := #[.val (.ref oc), .val (.int (3 : Int32)), .val (.ref ob), .val (.int (3 : Int32)), .val (.int (4 : Int32)), .val (.int (3 : Int32)), .val (.int c2)]) rfl ?_
    refine XS.goto X19.here hx rfl (pc0 := 41) (pc' := 3) rfl (hb hby d9_41) (by decide) (by decide) ?_
    refine XS.iload X19.here hx rfl (hb hby d9_3) rfl ?_
    refine XS.iload X19.here hx rfl (hb hby d9_5) rfl ?_
    refine XS.icmpNo X19.here hx rfl (hb hby d9_7) rfl (own_tlt (a := (3 : Int32)) (b := (4 : Int32)) (by decide) (by decide) hc7_21).2.1 ?_
    refine XS.aloadN X19.here hx rfl (hb hby d9_10) rfl rfl ?_
    show Steps p.tables e below (T19.setTop (mkF m 11 #[.val (.ref oc), .val (.int (3 : Int32)), .val (.ref ob), .val (.int (3 : Int32)), .val (.int (4 : Int32)), .val (.int (3 : Int32)), .val (.int c2)] [(.ref oc)])) _
    refine XS.iloadN X19.here hx rfl (hb hby d9_11) rfl ?_
    refine X19.caload hx (j := (3 : Int32)) (v := (.int c3)) (by rw [e19]; exact Ar23.1) (State.isArrayOf_alike hZ.alike Ar23.2.1) Ar23.2.2 hin23 hat23 (g := (mkF m 12 #[.val (.ref oc), .val (.int (3 : Int32)), .val (.ref ob), .val (.int (3 : Int32)), .val (.int (4 : Int32)), .val (.int (3 : Int32)), .val (.int c2)] [(.int (3 : Int32)), (.ref oc)])) rfl rfl (hb hby d9_12) _ ?_
    refine XS.istore X19.here hx rfl (hb hby d9_13) rfl (l' := #[.val (.ref oc), .val (.int (3 : Int32)), .val (.ref ob), .val (.int (3 : Int32)), .val (.int (4 : Int32)), .val (.int (3 : Int32)), .val (.int c3)]) rfl ?_
    refine XS.iload X19.here hx rfl (hb hby d9_15) rfl ?_
    refine XS.sipush X19.here hx rfl (hb hby d9_17) ?_
    refine XS.icmpYes X19.here hx rfl (pc0 := 20) (pc' := 26) rfl (hb hby d9_20) rfl (own_flt (a := (255 : Int32)) (b := c3) (by decide) rfl hc20_24).2.2.2 (by decide) (by decide) ?_
    refine XS.aloadN X19.here hx rfl (hb hby d9_26) rfl rfl ?_
    refine XS.iloadN X19.here hx rfl (hb hby d9_27) rfl ?_
    show Steps p.tables e below (T19.setTop (mkF m 28 #[.val (.ref oc), .val (.int (3 : Int32)), .val (.ref ob), .val (.int (3 : Int32)), .val (.int (4 : Int32)), .val (.int (3 : Int32)), .val (.int c3)] [(.int (3 : Int32)), (.ref ob)])) _
    refine XS.iload X19.here hx rfl (hb hby d9_28) rfl ?_
    refine XS.i2b X19.here hx rfl (hb hby d9_30) rfl ?_
    refine st26 _ ?_
    refine XS.iinc X26.here hx rfl (hb hby d9_32) rfl (l' := #[.val (.ref oc), .val (.int (4 : Int32)), .val (.ref ob), .val (.int (3 : Int32)), .val (.int (4 : Int32)), .val (.int (3 : Int32)), .val (.int c3)]) rfl ?_
    refine XS.iinc X26.here hx rfl (hb hby d9_35) rfl (l' := #[.val (.ref oc), .val (.int (4 : Int32)), .val (.ref ob), .val (.int (4 : Int32)), .val (.int (4 : Int32)), .val (.int (3 : Int32)), .val (.int c3)]) rfl ?_
    refine XS.iinc X26.here hx rfl (hb hby d9_38) rfl (l' := #[.val (.ref oc), .val (.int (4 : Int32)), .val (.ref ob), .val (.int (4 : Int32)), .val (.int (4 : Int32)), .val (.int (4 : Int32)), .val (.int c3)]) rfl ?_
    refine XS.goto X26.here hx rfl (pc0 := 41) (pc' := 3) rfl (hb hby d9_41) (by decide) (by decide) ?_
    refine XS.iload X26.here hx rfl (hb hby d9_3) rfl ?_
    show Steps p.tables e below (T26.setTop (mkF m 5 #[.val (.ref oc), .val (.int (4 : Int32)), .val (.ref ob), .val (.int (4 : Int32)), .val (.int (4 : Int32)), .val (.int (4 : Int32)), .val (.int c3)] [(.int (4 : Int32))])) _
    refine XS.iload X26.here hx rfl (hb hby d9_5) rfl ?_
    refine XS.icmpYes X26.here hx rfl (pc0 := 7) (pc' := 44) rfl (hb hby d9_7) rfl (own_flt (a := (4 : Int32)) (b := (4 : Int32)) (by decide) (by decide) hc7_28).2.1 (by decide) (by decide) ?_
    refine XS.iload X26.here hx rfl (hb hby d9_44) rfl ?_
    exact retI X26 hx Bd.returns (hb hby d9_46) hr
  · show Q_cp4 Z _ _ _ _ _ _ _ _ h0 n0 _ T26.heap _
    rw [e26]
    have f29 := (((((Keep.refl h0 [ob]).wr W5 (Or.inl (List.mem_of_getElem? (i := 0) rfl))).wr W12 (Or.inl (List.mem_of_getElem? (i := 0) rfl))).wr W19 (Or.inl (List.mem_of_getElem? (i := 0) rfl))).wr W26 (Or.inl (List.mem_of_getElem? (i := 0) rfl)))
    exact ⟨_, _, _, _, rfl, N26, f29, V26, own_b2 c0 uc0 vc0, own_b2 c1 uc1 vc1, own_b2 c2 uc2 vc2, own_b2 c3 uc3 vc3⟩
theorem ef_rm_cm4 (m : MethodId) (x0 : Addr) : entryFrame m #[(.ref x0), (.int (0 : Int32)), (.int (4 : Int32))] 6 = mkF m 0 #[.val (.ref x0), .val (.int (0 : Int32)), .val (.int (4 : Int32)), .unset, .unset, .unset] [] := by first | (simp [entryFrame, mkF, argsToLocals, Value.category]; done) | rfl
def Q_cm4 (Z : State) (oc : Addr) (kC : ClassId) (c0 : Int32) (c1 : Int32) (c2 : Int32) (c3 : Int32) (h0 : Heap) (n0 : Nat) (v : Option Value) (h : Heap) (L : List Loc) : Prop := ∃ (ob : Addr) (kb : ClassId) (bb0 bb1 bb2 bb3 : Int32), v = some (.ref ob) ∧ Fr n0 L ∧ Keep h0 h [] ∧ n0 ≤ ob ∧ h0.size ≤ ob ∧ Arv Z h ob kb .byte (4 : Int32) [(.int bb0), (.int bb1), (.int bb2), (.int bb3)] (.int (0 : Int32)) ∧ bb0.toInt % 256 = c0.toInt ∧ bb1.toInt % 256 = c1.toInt ∧ bb2.toInt % 256 = c2.toInt ∧ bb3.toInt % 256 = c3.toInt
set_option maxRecDepth 65536 in
set_option maxHeartbeats 40000000 in
theorem rm_cm4 (l : Launch) (Z : State) (a0 : Array Value) (hw : ∀ d ∈ tables_1, d.before a0 Z = true) (ws : List Jvm.Cond) (oc : Addr) (kC : ClassId) (c0 : Int32) (c1 : Int32) (c2 : Int32) (c3 : Int32) (h0 : Heap) (n0 : Nat) (Z0 : n0 ≤ h0.size) (Vc : Arv Z h0 oc kC .char (4 : Int32) [(.int c0), (.int c1), (.int c2), (.int c3)] (.int (0 : Int32))) (uc0 : 0 ≤ c0.toInt) (uc1 : 0 ≤ c1.toInt) (uc2 : 0 ≤ c2.toInt) (uc3 : 0 ≤ c3.toInt) (vc0 : c0.toInt ≤ 255) (vc1 : c1.toInt ≤ 255) (vc2 : c2.toInt ≤ 255) (vc3 : c3.toInt ≤ 255) :
    MetFree l (⟨"java/lang/StringUTF16", "compress", "([CII)[B"⟩ : MethodName) (head1 (Jvm.Cond.code (⟨"java/lang/StringUTF16", "compress", "([CII)[B"⟩ : MethodName) jdk_52_method_16_code 6 (some (.array .byte)) :: ws) ({ frames := 1, cells := 1, slots := 4, locals := 18 } : Room)) (fun a U => a = #[(.ref oc), (.int (0 : Int32)), (.int (4 : Int32))] ∧ Z.Warmed39 U.vm ∧ U.heap = h0) (fun _ _ _ _ _ => True) (fun _ U o U' => ∃ v L, o = .returned v ∧ Q_cm4 Z oc kC c0 c1 c2 c3 h0 n0 v U'.heap L ∧ FrameEnd U o U' L ({ frames := 1, cells := 1, slots := 4, locals := 18 } : Room).cells ({ frames := 1, cells := 1, slots := 4, locals := 18 } : Room).slots) := by
  refine MetFree.of_bodySF (plainFor_of_name pn_2) hisR ?_
  intro p e s m args below meth c s₁ Bd hml0 hP hK
  obtain ⟨rfl, hZ, hh⟩ := hP
  have hx := Bd.exec
  have hby := Bd.bytes
  have hml : c.maxLocals = 6 := hml0
  have hown : s.vm.findClass "java/lang/StringUTF16" = some m.cls := findClass_of_methodNamed Bd.named
  have hnm := (name_of_methodNamed Bd.named Bd.method).1
  have X0 : Stand p l e ({ frames := 1, cells := 1, slots := 4, locals := 18 } : Room) s m #[(.ref oc), (.int (0 : Int32)), (.int (4 : Int32))] below meth c s₁ [] 0 0 := Stand.of_body Bd
  have e0 : s₁.heap = h0 := by rw [← hh, Bd.state]; rfl
  have N0 := Fr.nil n0
  have pre0 : ∀ t, Steps p.tables e below (s₁.setTop (mkF m 0 #[.val (.ref oc), .val (.int (0 : Int32)), .val (.int (4 : Int32)), .unset, .unset, .unset] [])) t → Steps p.tables e below (s₁.setTop (entryFrame m #[(.ref oc), (.int (0 : Int32)), (.int (4 : Int32))] 6)) t := fun t k => castTop (ef_rm_cm4 m oc) k
  obtain ⟨T1, h1, k1, X1, e1, E1, A1, st1⟩ := newP X0 hx hZ (hw _ (List.mem_of_getElem? (i := 20) rfl)) e0 (g := (mkF m 1 #[.val (.ref oc), .val (.int (0 : Int32)), .val (.int (4 : Int32)), .unset, .unset, .unset] [(.int (4 : Int32))])) rfl (hb hby d8_1) rfl (by decide) (cap := 4) (by decide) (by decide) (by decide) (by decide)
  obtain ⟨b1, g1⟩ : ∃ z, z = h0.size := ⟨_, rfl⟩
  have ne_oc_b1 : oc ≠ b1 := Nat.ne_of_lt (Nat.lt_of_lt_of_le Vc.lt (Nat.le_of_eq g1.symm))
  have g_b1 : n0 ≤ b1 := Nat.le_trans Z0 (Nat.le_of_eq g1.symm)
  have sz_b1 : h0.size ≤ b1 := Nat.le_trans (Keep.refl h0 []).1 (Nat.le_of_eq g1.symm)
  rw [← g1] at A1 st1
  have Zs2 : n0 ≤ h1.size := Nat.le_trans Z0 E1.1
  have V1 : Arv Z h1 b1 k1 .byte (4 : Int32) [(.int (0 : Int32)), (.int (0 : Int32)), (.int (0 : Int32)), (.int (0 : Int32))] (.int (0 : Int32)) := (Arv.new A1 (by decide)).pad (pad_rep [] (.int (0 : Int32)) 4)
  have f4 := (Vc.ext E1)
  obtain ⟨_, _, ⟨T3, L3, k3, n3⟩, -, X3, ⟨Lc3, hQ3, l3, y3, z3⟩, st3⟩ := Jvm.LawKit.callS X1 hx (y := (⟨"java/lang/StringUTF16", "compress", "([CI[BII)I"⟩ : MethodName)) hown (mvT hZ (hw _ (List.mem_of_getElem? (i := 46) rfl))) (mvT hZ (hw _ (List.mem_of_getElem? (i := 47) rfl))) (mvT hZ (hw _ (List.mem_of_getElem? (i := 44) rfl))) (mvT hZ (hw _ (List.mem_of_getElem? (i := 48) rfl))) (by decide) (backOf (W := 0) (rm_cp4 l Z a0 hw [] oc b1 kC c0 c1 c2 c3 k1 h1 n0 Zs2 f4 uc0 uc1 uc2 uc3 vc0 vc1 vc2 vc3 V1 g_b1 ne_oc_b1) hZ (hw _ (List.mem_of_getElem? (i := 48) rfl)) (hw _ (List.mem_of_getElem? (i := 44) rfl)) (by decide) (by decide)) (g := (mkF m 9 #[.val (.ref oc), .val (.int (0 : Int32)), .val (.int (4 : Int32)), .val (.ref b1), .unset, .unset] [(.int (4 : Int32)), (.int (0 : Int32)), (.ref b1), (.int (0 : Int32)), (.ref oc)])) rfl (by rw [hml]; rfl) (argsL := [(.ref oc), (.int (0 : Int32)), (.ref b1), (.int (0 : Int32)), (.int (4 : Int32))]) (rest := []) (lenOf pd_2 rfl) rfl (by show 2 * 0 + _ ≤ _; exact Nat.le_of_eq rfl) (hb hby d8_9) (fun _ _ => ⟨rfl, e1, (by decide : 1 + 0 ≤ _), (by decide : 4 + 0 ≤ _)⟩)
  dsimp only [Pt.U, Pt.locs, Pt.cells, Pt.slots] at X3 l3 y3 z3 st3 hQ3
  rw [l3, y3, z3] at X3
  obtain ⟨bb0, bb1, bb2, bb3, rfl, N3q, K3, Vb3, qbb0, qbb1, qbb2, qbb3⟩ := hQ3
  have N3 := Fr.app N0 N3q
  have Zs5 : n0 ≤ T3.heap.size := Nat.le_trans Zs2 K3.1
  have hc17_6 : (4 : Int) = (4 : Int) := by decide
  obtain ⟨fs, hr, hrun, hended, hW, hsame⟩ := X3.leave (v := some (.ref b1)) (fun h => by rw [Bd.returns] at h; cases h)
  refine ⟨_, _, pre0 _ ?_, hrun, hended, _, _, rfl, ?_, ⟨_, rfl⟩, hW, hsame.mono (by decide) (by decide)⟩
  · refine XS.iloadN X0.here hx rfl (hb hby d8_0) rfl ?_
    refine st1 _ ?_
    refine XS.astoreN X1.here hx rfl (hb hby d8_3) rfl rfl (l' := #[.val (.ref oc), .val (.int (0 : Int32)), .val (.int (4 : Int32)), .val (.ref b1), .unset, .unset]) rfl ?_
    refine XS.aloadN X1.here hx rfl (hb hby d8_4) rfl rfl ?_
    refine XS.iloadN X1.here hx rfl (hb hby d8_5) rfl ?_
    refine XS.aloadN X1.here hx rfl (hb hby d8_6) rfl rfl ?_
    refine XS.iconst X1.here hx rfl (hb hby d8_7) ?_
    show Steps p.tables e below (T1.setTop (mkF m 8 #[.val (.ref oc), .val (.int (0 : Int32)), .val (.int (4 : Int32)), .val (.ref b1), .unset, .unset] [(.int (0 : Int32)), (.ref b1), (.int (0 : Int32)), (.ref oc)])) _
    refine XS.iloadN X1.here hx rfl (hb hby d8_8) rfl ?_
    refine st3 _ ?_
    refine XS.istore X3.here hx rfl (hb hby d8_12) rfl (l' := #[.val (.ref oc), .val (.int (0 : Int32)), .val (.int (4 : Int32)), .val (.ref b1), .val (.int (4 : Int32)), .unset]) rfl ?_
    refine XS.iload X3.here hx rfl (hb hby d8_14) rfl ?_
    refine XS.iloadN X3.here hx rfl (hb hby d8_16) rfl ?_
    refine XS.icmpYes X3.here hx rfl (pc0 := 17) (pc' := 57) rfl (hb hby d8_17) rfl (own_teq (a := (4 : Int32)) (b := (4 : Int32)) (by decide) (by decide) hc17_6).1 (by decide) (by decide) ?_
    refine XS.aloadN X3.here hx rfl (hb hby d8_57) rfl rfl ?_
    jvm_step X3.here [X3.here.top, hx, (hb hby d8_58), X3.method', Bd.returns, Value.isRef, FieldType.isReference]
    first | (intro acts; rw [hr _ acts rfl rfl rfl]) | rw [hr _ _ rfl rfl rfl]
    exact Steps.refl _
  · show Q_cm4 Z _ _ _ _ _ _ h0 n0 _ T3.heap _
    have f7 := (((Keep.refl h0 []).ext E1).trans K3 (allS (P := fun x => x ∈ [] ∨ h0.size ≤ x) (Or.inr sz_b1) all0))
    exact ⟨b1, _, bb0, bb1, bb2, bb3, rfl, N3, f7, g_b1, sz_b1, Vb3, qbb0, qbb1, qbb2, qbb3⟩
theorem ef_rm_cf4_0 (m : MethodId) (x0 : Addr) : entryFrame m #[(.ref x0), (.int (4 : Int32))] 2 = mkF m 0 #[.val (.ref x0), .val (.int (4 : Int32))] [] := by first | (simp [entryFrame, mkF, argsToLocals, Value.category]; done) | rfl
def Q_cf4_0 (Z : State) (ob : Addr) (kb : ClassId) (vs : List Value) (h0 : Heap) (n0 : Nat) (v : Option Value) (h : Heap) (L : List Loc) : Prop := ∃ z : Int32, v = some (.int z) ∧ (z = (0 : Int32)) ∧ Fr n0 L ∧ h = h0
set_option maxRecDepth 65536 in
set_option maxHeartbeats 40000000 in
theorem rm_cf4_0 (l : Launch) (Z : State) (a0 : Array Value) (hw : ∀ d ∈ tables_1, d.before a0 Z = true) (ws : List Jvm.Cond) (ob : Addr) (kb : ClassId) (vs : List Value) (h0 : Heap) (n0 : Nat) (Z0 : n0 ≤ h0.size) (Vb : Arv Z h0 ob kb .byte (4 : Int32) vs (.int (0 : Int32))) :
    MetFree l (⟨"java/lang/StringUTF16", "coderFromArrayLen", "([BI)B"⟩ : MethodName) (head1 (Jvm.Cond.code (⟨"java/lang/StringUTF16", "coderFromArrayLen", "([BI)B"⟩ : MethodName) jdk_52_method_15_code 2 (some .byte) :: ws) ({ frames := 0, cells := 0, slots := 0, locals := 0 } : Room)) (fun a U => a = #[(.ref ob), (.int (4 : Int32))] ∧ Z.Warmed39 U.vm ∧ U.heap = h0) (fun _ _ _ _ _ => True) (fun _ U o U' => ∃ v L, o = .returned v ∧ Q_cf4_0 Z ob kb vs h0 n0 v U'.heap L ∧ FrameEnd U o U' L ({ frames := 0, cells := 0, slots := 0, locals := 0 } : Room).cells ({ frames := 0, cells := 0, slots := 0, locals := 0 } : Room).slots) := by
  refine MetFree.of_bodySF (plainFor_of_name pn_2) hisR ?_
  intro p e s m args below meth c s₁ Bd hml0 hP hK
  obtain ⟨rfl, hZ, hh⟩ := hP
  have hx := Bd.exec
  have hby := Bd.bytes
  have hml : c.maxLocals = 2 := hml0
  have hown : s.vm.findClass "java/lang/StringUTF16" = some m.cls := findClass_of_methodNamed Bd.named
  have hnm := (name_of_methodNamed Bd.named Bd.method).1
  have X0 : Stand p l e ({ frames := 0, cells := 0, slots := 0, locals := 0 } : Room) s m #[(.ref ob), (.int (4 : Int32))] below meth c s₁ [] 0 0 := Stand.of_body Bd
  have e0 : s₁.heap = h0 := by rw [← hh, Bd.state]; rfl
  have N0 := Fr.nil n0
  have pre0 : ∀ t, Steps p.tables e below (s₁.setTop (mkF m 0 #[.val (.ref ob), .val (.int (4 : Int32))] [])) t → Steps p.tables e below (s₁.setTop (entryFrame m #[(.ref ob), (.int (4 : Int32))] 2)) t := fun t k => castTop (ef_rm_cf4_0 m ob) k
  obtain ⟨cl1, Ar1, q1, S1, M1, H1, G1⟩ := id Vb
  obtain ⟨fs, hr, hrun, hended, hW, hsame⟩ := X0.leave (v := some (.int (0 : Int32))) (fun h => by rw [Bd.returns] at h; cases h)
  refine ⟨_, _, pre0 _ ?_, hrun, hended, _, _, rfl, ?_, ⟨_, rfl⟩, hW, hsame.mono (by decide) (by decide)⟩
  · refine XS.iloadN X0.here hx rfl (hb hby d10_0) rfl ?_
    refine XS.aloadN X0.here hx rfl (hb hby d10_1) rfl rfl ?_
    refine X0.arraylength hx (by rw [e0]; exact Ar1.1) (State.isArrayOf_alike hZ.alike Ar1.2.1) (g := (mkF m 2 #[.val (.ref ob), .val (.int (4 : Int32))] [(.ref ob), (.int (4 : Int32))])) rfl rfl (hb hby d10_2) _ ?_
    rw [len_of S1 M1]
    refine XS.isub X0.here hx rfl (hb hby d10_3) rfl ?_
    refine XS.bipush X0.here hx rfl (hb hby d10_4) ?_
    refine XS.iushr X0.here hx rfl (hb hby d10_6) rfl ?_
    refine XS.i2b X0.here hx rfl (hb hby d10_7) rfl ?_
    show Steps p.tables e below (s₁.setTop (mkF m 8 #[.val (.ref ob), .val (.int (4 : Int32))] [(.int (0 : Int32))])) _
    exact retN X0 hx (t := .byte) Bd.returns (by simp) (hb hby d10_8) hr
  · show Q_cf4_0 Z _ _ _ h0 n0 _ s₁.heap _
    rw [e0]
    exact ⟨_, rfl, rfl, N0, rfl⟩
theorem ef_rm_iv4 (m : MethodId) (x0 : Addr) (x1 : Addr) : entryFrame m #[(.ref x0), (.ref x1), (.int (0 : Int32)), (.int (4 : Int32)), .null] 6 = mkF m 0 #[.val (.ref x0), .val (.ref x1), .val (.int (0 : Int32)), .val (.int (4 : Int32)), .val .null, .unset] [] := by first | (simp [entryFrame, mkF, argsToLocals, Value.category]; done) | rfl
def Q_iv4 (Z : State) (oa : Addr) (oc : Addr) (vcs : Int32) (vf : Value) (kC : ClassId) (c0 : Int32) (c1 : Int32) (c2 : Int32) (c3 : Int32) (h0 : Heap) (n0 : Nat) (v : Option Value) (h : Heap) (L : List Loc) : Prop := v = none ∧ Fr n0 L ∧ Keep h0 h [oa] ∧ Exa Z h oa "java/lang/String" ∧ ∃ (ob : Addr) (kb : ClassId) (bb0 bb1 bb2 bb3 : Int32), n0 ≤ ob ∧ h0.size ≤ ob ∧ Fld Z h oa "java/lang/String" "coder" "B" (.int (0 : Int32)) ∧ Fld Z h oa "java/lang/String" "value" "[B" (.ref ob) ∧ Arv Z h ob kb .byte (4 : Int32) [(.int bb0), (.int bb1), (.int bb2), (.int bb3)] (.int (0 : Int32)) ∧ bb0.toInt % 256 = c0.toInt ∧ bb1.toInt % 256 = c1.toInt ∧ bb2.toInt % 256 = c2.toInt ∧ bb3.toInt % 256 = c3.toInt
set_option maxRecDepth 65536 in
set_option maxHeartbeats 40000000 in
theorem rm_iv4 (l : Launch) (Z : State) (a0 : Array Value) (hw : ∀ d ∈ tables_1, d.before a0 Z = true) (ws : List Jvm.Cond) (oa : Addr) (oc : Addr) (vcs : Int32) (vf : Value) (kC : ClassId) (c0 : Int32) (c1 : Int32) (c2 : Int32) (c3 : Int32) (h0 : Heap) (n0 : Nat) (Z0 : n0 ≤ h0.size) (Os : own_st Z h0 vcs vf) (Es : Exa Z h0 oa "java/lang/String") (Fc : Fld Z h0 oa "java/lang/String" "coder" "B" (.int (0 : Int32))) (Fv : Fld Z h0 oa "java/lang/String" "value" "[B" .null) (ga : n0 ≤ oa) (nac : oa ≠ oc) (Vc : Arv Z h0 oc kC .char (4 : Int32) [(.int c0), (.int c1), (.int c2), (.int c3)] (.int (0 : Int32))) (uc0 : 0 ≤ c0.toInt) (uc1 : 0 ≤ c1.toInt) (uc2 : 0 ≤ c2.toInt) (uc3 : 0 ≤ c3.toInt) (vc0 : c0.toInt ≤ 255) (vc1 : c1.toInt ≤ 255) (vc2 : c2.toInt ≤ 255) (vc3 : c3.toInt ≤ 255) :
    MetFree l (⟨"java/lang/String", "<init>", "([CIILjava/lang/Void;)V"⟩ : MethodName) (head1 (Jvm.Cond.code (⟨"java/lang/String", "<init>", "([CIILjava/lang/Void;)V"⟩ : MethodName) jdk_42_method_149_code 6 none :: ws) ({ frames := 2, cells := 1, slots := 4, locals := 35 } : Room)) (fun a U => a = #[(.ref oa), (.ref oc), (.int (0 : Int32)), (.int (4 : Int32)), .null] ∧ Z.Warmed39 U.vm ∧ U.heap = h0) (fun _ _ _ _ _ => True) (fun _ U o U' => ∃ v L, o = .returned v ∧ Q_iv4 Z oa oc vcs vf kC c0 c1 c2 c3 h0 n0 v U'.heap L ∧ FrameEnd U o U' L ({ frames := 2, cells := 1, slots := 4, locals := 35 } : Room).cells ({ frames := 2, cells := 1, slots := 4, locals := 35 } : Room).slots) := by
  refine MetFree.of_bodySF (plainFor_of_name pn_1) hisR ?_
  intro p e s m args below meth c s₁ Bd hml0 hP hK
  obtain ⟨rfl, hZ, hh⟩ := hP
  have hx := Bd.exec
  have hby := Bd.bytes
  have hml : c.maxLocals = 6 := hml0
  have hown : s.vm.findClass "java/lang/String" = some m.cls := findClass_of_methodNamed Bd.named
  have hnm := (name_of_methodNamed Bd.named Bd.method).1
  have X0 : Stand p l e ({ frames := 2, cells := 1, slots := 4, locals := 35 } : Room) s m #[(.ref oa), (.ref oc), (.int (0 : Int32)), (.int (4 : Int32)), .null] below meth c s₁ [] 0 0 := Stand.of_body Bd
  have e0 : s₁.heap = h0 := by rw [← hh, Bd.state]; rfl
  have N0 := Fr.nil n0
  have pre0 : ∀ t, Steps p.tables e below (s₁.setTop (mkF m 0 #[.val (.ref oa), .val (.ref oc), .val (.int (0 : Int32)), .val (.int (4 : Int32)), .val .null, .unset] [])) t → Steps p.tables e below (s₁.setTop (entryFrame m #[(.ref oa), (.ref oc), (.int (0 : Int32)), (.int (4 : Int32)), .null] 6)) t := fun t k => castTop (ef_rm_iv4 m oa oc) k
  obtain ⟨T1, X1, e1, st1⟩ := initO X0 hx hZ hown (hw _ (List.mem_of_getElem? (i := 16) rfl)) (hw _ (List.mem_of_getElem? (i := 17) rfl)) (hw _ (List.mem_of_getElem? (i := 18) rfl)) e0 (g := (mkF m 1 #[.val (.ref oa), .val (.ref oc), .val (.int (0 : Int32)), .val (.int (4 : Int32)), .val .null, .unset] [(.ref oa)])) rfl (by rw [hml]; rfl) rfl (hb hby d3_1) (by decide) (W := 0) (by show 2 * 0 + _ ≤ _; exact Nat.le_of_eq rfl) (by decide)
  have hc5_2 : ¬ ((4 : Int) = (0 : Int)) := by decide
  obtain ⟨T3, X3, e3, st3⟩ := getS2 X1 hx hZ hown (host := "") (Or.inl (hw _ (List.mem_of_getElem? (i := 41) rfl))) Via.refl e1 Os.1 (g := (mkF m 27 #[.val (.ref oa), .val (.ref oc), .val (.int (0 : Int32)), .val (.int (4 : Int32)), .val .null, .unset] [])) rfl (hb hby d3_27)
  have hc30_4 : ¬ (vcs.toInt = (0 : Int)) := by (have q := Os.2.1; omega)
  obtain ⟨_, _, ⟨T5, L5, k5, n5⟩, -, X5, ⟨Lc5, hQ5, l5, y5, z5⟩, st5⟩ := Jvm.LawKit.callS X3 hx (y := (⟨"java/lang/StringUTF16", "compress", "([CII)[B"⟩ : MethodName)) hown (mvT hZ (hw _ (List.mem_of_getElem? (i := 42) rfl))) (mvT hZ (hw _ (List.mem_of_getElem? (i := 43) rfl))) (mvT hZ (hw _ (List.mem_of_getElem? (i := 44) rfl))) (mvT hZ (hw _ (List.mem_of_getElem? (i := 45) rfl))) (by decide) (backOf (W := 0) (rm_cm4 l Z a0 hw [] oc kC c0 c1 c2 c3 h0 n0 Z0 Vc uc0 uc1 uc2 uc3 vc0 vc1 vc2 vc3) hZ (hw _ (List.mem_of_getElem? (i := 45) rfl)) (hw _ (List.mem_of_getElem? (i := 44) rfl)) (by decide) (by decide)) (g := (mkF m 36 #[.val (.ref oa), .val (.ref oc), .val (.int (0 : Int32)), .val (.int (4 : Int32)), .val .null, .unset] [(.int (4 : Int32)), (.int (0 : Int32)), (.ref oc)])) rfl (by rw [hml]; rfl) (argsL := [(.ref oc), (.int (0 : Int32)), (.int (4 : Int32))]) (rest := []) (lenOf pd_3 rfl) rfl (by show 2 * 0 + _ ≤ _; exact Nat.le_of_eq rfl) (hb hby d3_36) (fun _ _ => ⟨rfl, e3, (by decide : 0 + 1 ≤ _), (by decide : 0 + 4 ≤ _)⟩)
  dsimp only [Pt.U, Pt.locs, Pt.cells, Pt.slots] at X5 l5 y5 z5 st5 hQ5
  rw [l5, y5, z5] at X5
  obtain ⟨ob, kb, bb0, bb1, bb2, bb3, rfl, N5q, K5, gb, szb, Vb5, qbb0, qbb1, qbb2, qbb3⟩ := hQ5
  have N5 := Fr.app N0 N5q
  have Zs6 : n0 ≤ T5.heap.size := Nat.le_trans Z0 K5.1
  have ne_oa_ob : oa ≠ ob := Nat.ne_of_lt (Nat.lt_of_lt_of_le Es.lt szb)
  have ne_oc_ob : oc ≠ ob := Nat.ne_of_lt (Nat.lt_of_lt_of_le Vc.lt szb)
  have sz_ob : h0.size ≤ ob := Nat.le_trans (Keep.refl h0 [oa]).1 szb
  obtain ⟨_, _, ⟨T7, L7, k7, n7⟩, -, X7, ⟨Lc7, hQ7, l7, y7, z7⟩, st7⟩ := Jvm.LawKit.callS X5 hx (y := (⟨"java/lang/StringUTF16", "coderFromArrayLen", "([BI)B"⟩ : MethodName)) hown (mvT hZ (hw _ (List.mem_of_getElem? (i := 49) rfl))) (mvT hZ (hw _ (List.mem_of_getElem? (i := 50) rfl))) (mvT hZ (hw _ (List.mem_of_getElem? (i := 44) rfl))) (mvT hZ (hw _ (List.mem_of_getElem? (i := 51) rfl))) (by decide) (backOf (W := 1) (rm_cf4_0 l Z a0 hw [] ob kb [(.int bb0), (.int bb1), (.int bb2), (.int bb3)] T5.heap n0 Zs6 Vb5) hZ (hw _ (List.mem_of_getElem? (i := 51) rfl)) (hw _ (List.mem_of_getElem? (i := 44) rfl)) (by decide) (by decide)) (g := (mkF m 45 #[.val (.ref oa), .val (.ref oc), .val (.int (0 : Int32)), .val (.int (4 : Int32)), .val .null, .val (.ref ob)] [(.int (4 : Int32)), (.ref ob), (.ref oa)])) rfl (by rw [hml]; rfl) (argsL := [(.ref ob), (.int (4 : Int32))]) (rest := [(.ref oa)]) (lenOf pd_4 rfl) rfl (by show 2 * 0 + _ ≤ _; exact Nat.le_of_eq rfl) (hb hby d3_45) (fun _ _ => ⟨rfl, rfl, (by decide : 1 + 0 ≤ _), (by decide : 4 + 0 ≤ _)⟩)
  dsimp only [Pt.U, Pt.locs, Pt.cells, Pt.slots] at X7 l7 y7 z7 st7 hQ7
  rw [l7, y7, z7] at X7
  obtain ⟨zf, rfl, hzf, N7q, e7⟩ := hQ7
  have N7 := Fr.app N5 N7q
  have pre8 : ∀ t, Steps p.tables e below (T7.setTop (mkF m 48 #[.val (.ref oa), .val (.ref oc), .val (.int (0 : Int32)), .val (.int (4 : Int32)), .val .null, .val (.ref ob)] [(.int zf), (.ref oa)])) t → Steps p.tables e below (s₁.setTop (entryFrame m #[(.ref oa), (.ref oc), (.int (0 : Int32)), (.int (4 : Int32)), .null] 6)) t := fun t kt => by
    refine pre0 _ ?_
    refine XS.aloadN X0.here hx rfl (hb hby d3_0) rfl rfl ?_
    refine st1 _ ?_
    refine XS.iloadN X1.here hx rfl (hb hby d3_4) rfl ?_
    refine XS.ifYes X1.here hx rfl (pc0 := 5) (pc' := 27) rfl (hb hby d3_5) rfl (own_if (own_feq (a := (4 : Int32)) (b := (0 : Int32)) (by decide) (by decide) hc5_2).2) (by decide) (by decide) ?_
    refine st3 _ ?_
    refine XS.ifNo X3.here hx rfl (hb hby d3_30) rfl (own_if (own_feq (a := vcs) (b := (0 : Int32)) rfl (by decide) hc30_4).1) ?_
    refine XS.aloadN X3.here hx rfl (hb hby d3_33) rfl rfl ?_
    show Steps p.tables e below (T3.setTop (mkF m 34 #[.val (.ref oa), .val (.ref oc), .val (.int (0 : Int32)), .val (.int (4 : Int32)), .val .null, .unset] [(.ref oc)])) _
    refine XS.iloadN X3.here hx rfl (hb hby d3_34) rfl ?_
    refine XS.iloadN X3.here hx rfl (hb hby d3_35) rfl ?_
    refine st5 _ ?_
    refine XS.astore X5.here hx rfl (hb hby d3_39) rfl rfl (l' := #[.val (.ref oa), .val (.ref oc), .val (.int (0 : Int32)), .val (.int (4 : Int32)), .val .null, .val (.ref ob)]) rfl ?_
    refine XS.aloadN X5.here hx rfl (hb hby d3_41) rfl rfl ?_
    refine XS.aload X5.here hx rfl (hb hby d3_42) rfl rfl ?_
    refine XS.iloadN X5.here hx rfl (hb hby d3_44) rfl ?_
    refine st7 _ ?_
    exact kt
  subst hzf
  have pre9 : ∀ t, Steps p.tables e below (T7.setTop (mkF m 48 #[.val (.ref oa), .val (.ref oc), .val (.int (0 : Int32)), .val (.int (4 : Int32)), .val .null, .val (.ref ob)] [(.int (0 : Int32)), (.ref oa)])) t → Steps p.tables e below (s₁.setTop (entryFrame m #[(.ref oa), (.ref oc), (.int (0 : Int32)), (.int (4 : Int32)), .null] 6)) t := pre8
  have f10 := (Fc.keep K5 nin0)
  have f11 := (Es.keep K5)
  obtain ⟨T12, h12, X12, e12, W12, st12⟩ := putFN X7 hx hZ hown (hw _ (List.mem_of_getElem? (i := 26) rfl)) Via.refl e7 f10 f11 (Or.inr ⟨(hw _ (List.mem_of_getElem? (i := 22) rfl)), rfl, hnm⟩) (hw _ (List.mem_of_getElem? (i := 6) rfl)) (ty := .byte) (v' := (.int (0 : Int32))) (by decide) rfl rfl (g := (mkF m 48 #[.val (.ref oa), .val (.ref oc), .val (.int (0 : Int32)), .val (.int (4 : Int32)), .val .null, .val (.ref ob)] [(.int (0 : Int32)), (.ref oa)])) rfl rfl (hb hby d3_48)
  have N12 := Fr.snoc X12 N7 ga
  have Zs13 : n0 ≤ h12.size := by rw [W12.size]; exact Zs6
  have Fw12 := f10.same W12
  have f14 := ((Fv.keep K5 nin0).other W12 (Or.inr (slot_ne (Or.inr (hw _ (List.mem_of_getElem? (i := 21) rfl))) (Or.inr (hw _ (List.mem_of_getElem? (i := 22) rfl))) (by decide) (t := (.array .byte)) (t' := .byte) (by decide) (by decide))))
  have f15 := (f11.wr W12)
  obtain ⟨T16, h16, X16, e16, W16, st16⟩ := putF X12 hx hZ hown (host := "") (Or.inl (hw _ (List.mem_of_getElem? (i := 25) rfl))) Via.refl e12 f14 f15 (Or.inr ⟨(hw _ (List.mem_of_getElem? (i := 21) rfl)), rfl, hnm⟩) (hw _ (List.mem_of_getElem? (i := 6) rfl)) (ty := (.array .byte)) (by decide) rfl rfl (g := (mkF m 54 #[.val (.ref oa), .val (.ref oc), .val (.int (0 : Int32)), .val (.int (4 : Int32)), .val .null, .val (.ref ob)] [(.ref ob), (.ref oa)])) rfl rfl (hb hby d3_54)
  have N16 := Fr.snoc X16 N12 ga
  have Zs17 : n0 ≤ h16.size := by rw [W16.size]; exact Zs13
  have Fw16 := f14.same W16
  obtain ⟨fs, hr, hrun, hended, hW, hsame⟩ := X16.leave (v := none) (fun _ => rfl)
  refine ⟨_, _, pre9 _ ?_, hrun, hended, _, _, rfl, ?_, ⟨_, rfl⟩, hW, hsame.mono (by decide) (by decide)⟩
  · show Steps p.tables e below (T7.setTop (mkF m 48 #[.val (.ref oa), .val (.ref oc), .val (.int (0 : Int32)), .val (.int (4 : Int32)), .val .null, .val (.ref ob)] [(.int (0 : Int32)), (.ref oa)])) _
    refine st12 _ ?_
    refine XS.aloadN X12.here hx rfl (hb hby d3_51) rfl rfl ?_
    refine XS.aload X12.here hx rfl (hb hby d3_52) rfl rfl ?_
    refine st16 _ ?_
    exact X16.returnOut hx Bd.returns (hb hby d3_57) hr
  · show Q_iv4 Z _ _ _ _ _ _ _ _ _ h0 n0 _ T16.heap _
    rw [e16]
    have f18 := ((((Keep.refl h0 [oa]).trans K5 all0).wr W12 (Or.inl (List.mem_of_getElem? (i := 0) rfl))).wr W16 (Or.inl (List.mem_of_getElem? (i := 0) rfl)))
    have f19 := (f15.wr W16)
    have f20 := (Fw12.other W16 (Or.inr (slot_ne (Or.inr (hw _ (List.mem_of_getElem? (i := 22) rfl))) (Or.inr (hw _ (List.mem_of_getElem? (i := 21) rfl))) (by decide) (t := .byte) (t' := (.array .byte)) (by decide) (by decide))))
    have f21 := ((Vb5.other W12 (Ne.symm ne_oa_ob)).other W16 (Ne.symm ne_oa_ob))
    exact ⟨rfl, N16, f18, f19, ob, kb, bb0, bb1, bb2, bb3, gb, sz_ob, f20, Fw16, f21, qbb0, qbb1, qbb2, qbb3⟩
theorem ef_rm_mk4 (m : MethodId) (x0 : Addr) (x1 : Addr) : entryFrame m #[(.ref x0), (.ref x1)] 2 = mkF m 0 #[.val (.ref x0), .val (.ref x1)] [] := by first | (simp [entryFrame, mkF, argsToLocals, Value.category]; done) | rfl
def Q_mk4 (Z : State) (oa : Addr) (oc : Addr) (vcs : Int32) (vf : Value) (kC : ClassId) (c0 : Int32) (c1 : Int32) (c2 : Int32) (c3 : Int32) (h0 : Heap) (n0 : Nat) (v : Option Value) (h : Heap) (L : List Loc) : Prop := v = none ∧ Fr n0 L ∧ Keep h0 h [oa] ∧ Exa Z h oa "java/lang/String" ∧ ∃ (ob : Addr) (kb : ClassId) (bb0 bb1 bb2 bb3 : Int32), n0 ≤ ob ∧ h0.size ≤ ob ∧ Fld Z h oa "java/lang/String" "coder" "B" (.int (0 : Int32)) ∧ Fld Z h oa "java/lang/String" "value" "[B" (.ref ob) ∧ Arv Z h ob kb .byte (4 : Int32) [(.int bb0), (.int bb1), (.int bb2), (.int bb3)] (.int (0 : Int32)) ∧ bb0.toInt % 256 = c0.toInt ∧ bb1.toInt % 256 = c1.toInt ∧ bb2.toInt % 256 = c2.toInt ∧ bb3.toInt % 256 = c3.toInt
set_option maxRecDepth 65536 in
set_option maxHeartbeats 40000000 in
theorem rm_mk4 (l : Launch) (Z : State) (a0 : Array Value) (hw : ∀ d ∈ tables_1, d.before a0 Z = true) (ws : List Jvm.Cond) (oa : Addr) (oc : Addr) (vcs : Int32) (vf : Value) (kC : ClassId) (c0 : Int32) (c1 : Int32) (c2 : Int32) (c3 : Int32) (h0 : Heap) (n0 : Nat) (Z0 : n0 ≤ h0.size) (Os : own_st Z h0 vcs vf) (Es : Exa Z h0 oa "java/lang/String") (Fc : Fld Z h0 oa "java/lang/String" "coder" "B" (.int (0 : Int32))) (Fv : Fld Z h0 oa "java/lang/String" "value" "[B" .null) (ga : n0 ≤ oa) (nac : oa ≠ oc) (Vc : Arv Z h0 oc kC .char (4 : Int32) [(.int c0), (.int c1), (.int c2), (.int c3)] (.int (0 : Int32))) (uc0 : 0 ≤ c0.toInt) (uc1 : 0 ≤ c1.toInt) (uc2 : 0 ≤ c2.toInt) (uc3 : 0 ≤ c3.toInt) (vc0 : c0.toInt ≤ 255) (vc1 : c1.toInt ≤ 255) (vc2 : c2.toInt ≤ 255) (vc3 : c3.toInt ≤ 255) :
    MetFree l (⟨"java/lang/String", "<init>", "([C)V"⟩ : MethodName) (head1 (Jvm.Cond.code (⟨"java/lang/String", "<init>", "([C)V"⟩ : MethodName) jdk_42_method_3_code 2 none :: ws) ({ frames := 3, cells := 1, slots := 4, locals := 52 } : Room)) (fun a U => a = #[(.ref oa), (.ref oc)] ∧ Z.Warmed39 U.vm ∧ U.heap = h0) (fun _ _ _ _ _ => True) (fun _ U o U' => ∃ v L, o = .returned v ∧ Q_mk4 Z oa oc vcs vf kC c0 c1 c2 c3 h0 n0 v U'.heap L ∧ FrameEnd U o U' L ({ frames := 3, cells := 1, slots := 4, locals := 52 } : Room).cells ({ frames := 3, cells := 1, slots := 4, locals := 52 } : Room).slots) := by
  refine MetFree.of_bodySF (plainFor_of_name pn_1) hisR ?_
  intro p e s m args below meth c s₁ Bd hml0 hP hK
  obtain ⟨rfl, hZ, hh⟩ := hP
  have hx := Bd.exec
  have hby := Bd.bytes
  have hml : c.maxLocals = 2 := hml0
  have hown : s.vm.findClass "java/lang/String" = some m.cls := findClass_of_methodNamed Bd.named
  have hnm := (name_of_methodNamed Bd.named Bd.method).1
  have X0 : Stand p l e ({ frames := 3, cells := 1, slots := 4, locals := 52 } : Room) s m #[(.ref oa), (.ref oc)] below meth c s₁ [] 0 0 := Stand.of_body Bd
  have e0 : s₁.heap = h0 := by rw [← hh, Bd.state]; rfl
  have N0 := Fr.nil n0
  have pre0 : ∀ t, Steps p.tables e below (s₁.setTop (mkF m 0 #[.val (.ref oa), .val (.ref oc)] [])) t → Steps p.tables e below (s₁.setTop (entryFrame m #[(.ref oa), (.ref oc)] 2)) t := fun t k => castTop (ef_rm_mk4 m oa oc) k
  obtain ⟨cl1, Ar1, q1, S1, M1, H1, G1⟩ := id Vc
  obtain ⟨_, _, ⟨T2, L2, k2, n2⟩, -, X2, ⟨Lc2, hQ2, l2, y2, z2⟩, st2⟩ := X0.specialBack hx (y := (⟨"java/lang/String", "<init>", "([CIILjava/lang/Void;)V"⟩ : MethodName)) rfl hown (mvT hZ (hw _ (List.mem_of_getElem? (i := 12) rfl))) (mvT hZ (hw _ (List.mem_of_getElem? (i := 13) rfl))) (mvT hZ (hw _ (List.mem_of_getElem? (i := 15) rfl))) (by decide) (backOf (W := 0) (rm_iv4 l Z a0 hw [] oa oc vcs vf kC c0 c1 c2 c3 h0 n0 Z0 Os Es Fc Fv ga nac Vc uc0 uc1 uc2 uc3 vc0 vc1 vc2 vc3) hZ (hw _ (List.mem_of_getElem? (i := 15) rfl)) (hw _ (List.mem_of_getElem? (i := 7) rfl)) (by decide) (by decide)) (g := (mkF m 6 #[.val (.ref oa), .val (.ref oc)] [.null, (.int (4 : Int32)), (.int (0 : Int32)), (.ref oc), (.ref oa)])) rfl (by rw [hml]; rfl) (Steps.refl _) (a := oa) (argsL := [(.ref oc), (.int (0 : Int32)), (.int (4 : Int32)), .null]) (rest := []) (lenOf pd_0 rfl) rfl (by show 2 * 0 + _ ≤ _; exact Nat.le_of_eq rfl) (hb hby d2_6) (fun _ _ => ⟨rfl, e0, (by decide : 0 + 1 ≤ _), (by decide : 0 + 4 ≤ _)⟩)
  dsimp only [Pt.U, Pt.locs, Pt.cells, Pt.slots] at X2 l2 y2 z2 st2 hQ2
  rw [l2, y2, z2] at X2
  obtain ⟨rfl, N2q, K2, A2, ob, kb, bb0, bb1, bb2, bb3, gb, szb, Fc2, Fv2, Vb2, qbb0, qbb1, qbb2, qbb3⟩ := hQ2
  have N2 := Fr.app N0 N2q
  have Zs3 : n0 ≤ T2.heap.size := Nat.le_trans Z0 K2.1
  have ne_oa_ob : oa ≠ ob := Nat.ne_of_lt (Nat.lt_of_lt_of_le Es.lt szb)
  have ne_oc_ob : oc ≠ ob := Nat.ne_of_lt (Nat.lt_of_lt_of_le Vc.lt szb)
  have sz_ob : h0.size ≤ ob := Nat.le_trans (Keep.refl h0 [oa]).1 szb
  obtain ⟨fs, hr, hrun, hended, hW, hsame⟩ := X2.leave (v := none) (fun _ => rfl)
  refine ⟨_, _, pre0 _ ?_, hrun, hended, _, _, rfl, ?_, ⟨_, rfl⟩, hW, hsame.mono (by decide) (by decide)⟩
  · refine XS.aloadN X0.here hx rfl (hb hby d2_0) rfl rfl ?_
    refine XS.aloadN X0.here hx rfl (hb hby d2_1) rfl rfl ?_
    refine XS.iconst X0.here hx rfl (hb hby d2_2) ?_
    refine XS.aloadN X0.here hx rfl (hb hby d2_3) rfl rfl ?_
    refine X0.arraylength hx (by rw [e0]; exact Ar1.1) (State.isArrayOf_alike hZ.alike Ar1.2.1) (g := (mkF m 4 #[.val (.ref oa), .val (.ref oc)] [(.ref oc), (.int (0 : Int32)), (.ref oc), (.ref oa)])) rfl rfl (hb hby d2_4) _ ?_
    rw [len_of S1 M1]
    refine XS.aconstNull X0.here hx rfl (hb hby d2_5) ?_
    refine st2.trans ?_
    show Steps p.tables e below (T2.setTop (mkF m 9 #[.val (.ref oa), .val (.ref oc)] [])) _
    exact X2.returnOut hx Bd.returns (hb hby d2_9) hr
  · show Q_mk4 Z _ _ _ _ _ _ _ _ _ h0 n0 _ T2.heap _
    have f4 := ((Keep.refl h0 [oa]).trans K2 (allS (P := fun x => x ∈ [oa] ∨ h0.size ≤ x) (Or.inl (List.mem_of_getElem? (i := 0) rfl)) all0))
    exact ⟨rfl, N2, f4, A2, ob, kb, bb0, bb1, bb2, bb3, gb, sz_ob, Fc2, Fv2, Vb2, qbb0, qbb1, qbb2, qbb3⟩
theorem d1_87 : decode method_3_code 87 = .ok (.new 7, 3) := by decide +kernel
theorem d1_90 : decode method_3_code 90 = .ok (.dup, 1) := by decide +kernel
theorem d1_91 : decode method_3_code 91 = .ok (.iconst 4, 1) := by decide +kernel
theorem d1_92 : decode method_3_code 92 = .ok (.newarray .char, 2) := by decide +kernel
theorem d1_94 : decode method_3_code 94 = .ok (.dup, 1) := by decide +kernel
theorem d1_95 : decode method_3_code 95 = .ok (.iconst 0, 1) := by decide +kernel
theorem d1_96 : decode method_3_code 96 = .ok (.iload_n 1, 1) := by decide +kernel
theorem d1_97 : decode method_3_code 97 = .ok (.castore, 1) := by decide +kernel
theorem d1_98 : decode method_3_code 98 = .ok (.dup, 1) := by decide +kernel
theorem d1_99 : decode method_3_code 99 = .ok (.iconst 1, 1) := by decide +kernel
theorem d1_100 : decode method_3_code 100 = .ok (.iload_n 2, 1) := by decide +kernel
theorem d1_101 : decode method_3_code 101 = .ok (.castore, 1) := by decide +kernel
theorem d1_102 : decode method_3_code 102 = .ok (.dup, 1) := by decide +kernel
theorem d1_103 : decode method_3_code 103 = .ok (.iconst 2, 1) := by decide +kernel
theorem d1_104 : decode method_3_code 104 = .ok (.iload_n 3, 1) := by decide +kernel
theorem d1_105 : decode method_3_code 105 = .ok (.castore, 1) := by decide +kernel
theorem d1_106 : decode method_3_code 106 = .ok (.dup, 1) := by decide +kernel
theorem d1_107 : decode method_3_code 107 = .ok (.iconst 3, 1) := by decide +kernel
theorem d1_108 : decode method_3_code 108 = .ok (.iload 4, 2) := by decide +kernel
theorem d1_110 : decode method_3_code 110 = .ok (.castore, 1) := by decide +kernel
theorem d1_111 : decode method_3_code 111 = .ok (.invokespecial 9, 3) := by decide +kernel
theorem d1_114 : decode method_3_code 114 = .ok (.areturn, 1) := by decide +kernel
theorem ef_rm_m4 (m : MethodId) (x1 : Int32) (x2 : Int32) (x3 : Int32) (x4 : Int32) : entryFrame m #[(.int (4 : Int32)), (.int x1), (.int x2), (.int x3), (.int x4)] 5 = mkF m 0 #[.val (.int (4 : Int32)), .val (.int x1), .val (.int x2), .val (.int x3), .val (.int x4)] [] := by first | (simp [entryFrame, mkF, argsToLocals, Value.category]; done) | rfl
def Q_m4 (Z : State) (c0 : Int32) (c1 : Int32) (c2 : Int32) (c3 : Int32) (vcs : Int32) (vf : Value) (h0 : Heap) (n0 : Nat) (v : Option Value) (h : Heap) (L : List Loc) : Prop := ∃ (sa ob : Addr) (kb : ClassId) (bb0 bb1 bb2 bb3 : Int32), v = some (.ref sa) ∧ Fr n0 L ∧ Keep h0 h [] ∧ Exa Z h sa "java/lang/String" ∧ Fld Z h sa "java/lang/String" "coder" "B" (.int (0 : Int32)) ∧ Fld Z h sa "java/lang/String" "value" "[B" (.ref ob) ∧ Arv Z h ob kb .byte (4 : Int32) [(.int bb0), (.int bb1), (.int bb2), (.int bb3)] (.int (0 : Int32)) ∧ bb0.toInt % 256 = c0.toInt ∧ bb1.toInt % 256 = c1.toInt ∧ bb2.toInt % 256 = c2.toInt ∧ bb3.toInt % 256 = c3.toInt
set_option maxRecDepth 65536 in
set_option maxHeartbeats 40000000 in
theorem rm_m4 (l : Launch) (Z : State) (a0 : Array Value) (hw : ∀ d ∈ tables_1, d.before a0 Z = true) (ws : List Jvm.Cond) (c0 : Int32) (c1 : Int32) (c2 : Int32) (c3 : Int32) (vcs : Int32) (vf : Value) (h0 : Heap) (n0 : Nat) (Z0 : n0 ≤ h0.size) (Os : own_st Z h0 vcs vf) (uc0 : 0 ≤ c0.toInt) (uc1 : 0 ≤ c1.toInt) (uc2 : 0 ≤ c2.toInt) (uc3 : 0 ≤ c3.toInt) (vc0 : c0.toInt ≤ 255) (vc1 : c1.toInt ≤ 255) (vc2 : c2.toInt ≤ 255) (vc3 : c3.toInt ≤ 255) :
    MetFree l (⟨"com/example/path_template_matcher/pathtemplatematcher/UriReferencePathEndPinLaw", "mk", "(ICCCC)Ljava/lang/String;"⟩ : MethodName) (head1 (Jvm.Cond.code (⟨"com/example/path_template_matcher/pathtemplatematcher/UriReferencePathEndPinLaw", "mk", "(ICCCC)Ljava/lang/String;"⟩ : MethodName) method_3_code 5 (some (.object "java/lang/String")) :: ws) ({ frames := 4, cells := 3, slots := 12, locals := 66 } : Room)) (fun a U => a = #[(.int (4 : Int32)), (.int c0), (.int c1), (.int c2), (.int c3)] ∧ Z.Warmed39 U.vm ∧ U.heap = h0) (fun _ _ _ _ _ => True) (fun _ U o U' => ∃ v L, o = .returned v ∧ Q_m4 Z c0 c1 c2 c3 vcs vf h0 n0 v U'.heap L ∧ FrameEnd U o U' L ({ frames := 4, cells := 3, slots := 12, locals := 66 } : Room).cells ({ frames := 4, cells := 3, slots := 12, locals := 66 } : Room).slots) := by
  refine MetFree.of_bodySF (plainFor_of_name pn_0) hisR ?_
  intro p e s m args below meth c s₁ Bd hml0 hP hK
  obtain ⟨rfl, hZ, hh⟩ := hP
  have hx := Bd.exec
  have hby := Bd.bytes
  have hml : c.maxLocals = 5 := hml0
  have hown : s.vm.findClass "com/example/path_template_matcher/pathtemplatematcher/UriReferencePathEndPinLaw" = some m.cls := findClass_of_methodNamed Bd.named
  have hnm := (name_of_methodNamed Bd.named Bd.method).1
  have X0 : Stand p l e ({ frames := 4, cells := 3, slots := 12, locals := 66 } : Room) s m #[(.int (4 : Int32)), (.int c0), (.int c1), (.int c2), (.int c3)] below meth c s₁ [] 0 0 := Stand.of_body Bd
  have e0 : s₁.heap = h0 := by rw [← hh, Bd.state]; rfl
  have N0 := Fr.nil n0
  have pre0 : ∀ t, Steps p.tables e below (s₁.setTop (mkF m 0 #[.val (.int (4 : Int32)), .val (.int c0), .val (.int c1), .val (.int c2), .val (.int c3)] [])) t → Steps p.tables e below (s₁.setTop (entryFrame m #[(.int (4 : Int32)), (.int c0), (.int c1), (.int c2), (.int c3)] 5)) t := fun t k => castTop (ef_rm_m4 m c0 c1 c2 c3) k
  have hc1_1 : ¬ ((4 : Int) = (0 : Int)) := by decide
  have hc17_2 : ¬ ((4 : Int) = (1 : Int)) := by decide
  have hc37_3 : ¬ ((4 : Int) = (2 : Int)) := by decide
  have hc61_4 : ¬ ((4 : Int) = (3 : Int)) := by decide
  obtain ⟨T5, h5, X5, e5, E5, A5, D5, -, st5⟩ := newO X0 hx hZ hown (hw _ (List.mem_of_getElem? (i := 5) rfl)) (hw _ (List.mem_of_getElem? (i := 6) rfl)) (hw _ (List.mem_of_getElem? (i := 7) rfl)) e0 (g := (mkF m 87 #[.val (.int (4 : Int32)), .val (.int c0), .val (.int c1), .val (.int c2), .val (.int c3)] [])) rfl (hb hby d1_87) (by decide) (by decide)
  obtain ⟨b5, g5⟩ : ∃ z, z = h0.size := ⟨_, rfl⟩
  have g_b5 : n0 ≤ b5 := Nat.le_trans Z0 (Nat.le_of_eq g5.symm)
  have sz_b5 : h0.size ≤ b5 := Nat.le_trans (Keep.refl h0 []).1 (Nat.le_of_eq g5.symm)
  rw [← g5] at A5 D5 st5
  have Zs6 : n0 ≤ h5.size := Nat.le_trans Z0 E5.1
  have F5_value : Fld Z h5 b5 "java/lang/String" "value" "[B" .null := D5 (Or.inr (hw _ (List.mem_of_getElem? (i := 21) rfl))) (ty := (.array .byte)) (by decide)
  have F5_coder : Fld Z h5 b5 "java/lang/String" "coder" "B" (.int (0 : Int32)) := D5 (Or.inr (hw _ (List.mem_of_getElem? (i := 22) rfl))) (ty := .byte) (by decide)
  obtain ⟨T7, h7, k7, X7, e7, E7, A7, st7⟩ := newP X5 hx hZ (hw _ (List.mem_of_getElem? (i := 8) rfl)) e5 (g := (mkF m 92 #[.val (.int (4 : Int32)), .val (.int c0), .val (.int c1), .val (.int c2), .val (.int c3)] [(.int (4 : Int32)), (.ref b5), (.ref b5)])) rfl (hb hby d1_92) rfl (by decide) (cap := 4) (by decide) (by decide) (by decide) (by decide)
  obtain ⟨b7, g7⟩ : ∃ z, z = h5.size := ⟨_, rfl⟩
  have ne_b5_b7 : b5 ≠ b7 := Nat.ne_of_lt (Nat.lt_of_lt_of_le A5.lt (Nat.le_of_eq g7.symm))
  have g_b7 : n0 ≤ b7 := Nat.le_trans Zs6 (Nat.le_of_eq g7.symm)
  have f8 := ((Keep.refl h0 []).ext E5)
  have sz_b7 : h0.size ≤ b7 := Nat.le_trans f8.1 (Nat.le_of_eq g7.symm)
  rw [← g7] at A7 st7
  have Zs9 : n0 ≤ h7.size := Nat.le_trans Zs6 E7.1
  have V7 : Arv Z h7 b7 k7 .char (4 : Int32) [(.int (0 : Int32)), (.int (0 : Int32)), (.int (0 : Int32)), (.int (0 : Int32))] (.int (0 : Int32)) := (Arv.new A7 (by decide)).pad (pad_rep [] (.int (0 : Int32)) 4)
  obtain ⟨cl10, Ar10, q10, S10, M10, H10, G10⟩ := id V7
  have hin10 : ¬ ((0 : Int32) < 0 ∨ cl10.slots.size ≤ ((0 : Int32)).toNatClampNeg) := inb_of S10 ⟨by decide, by decide⟩
  obtain ⟨T11, h11, X11, e11, W11, st11⟩ := stC X7 hx hZ e7 Ar10 (j := (0 : Int32)) hin10 (g := (mkF m 97 #[.val (.int (4 : Int32)), .val (.int c0), .val (.int c1), .val (.int c2), .val (.int c3)] [(.int c0), (.int (0 : Int32)), (.ref b7), (.ref b7), (.ref b5), (.ref b5)])) rfl rfl (hb hby d1_97)
  have N11 := Fr.snoc X11 N0 g_b7
  have Zs12 : n0 ≤ h11.size := by rw [W11.size]; exact Zs9
  have V11 : Arv Z h11 b7 k7 .char (4 : Int32) [(.int (nar .char c0)), (.int (0 : Int32)), (.int (0 : Int32)), (.int (0 : Int32))] (.int (0 : Int32)) := Arv.set Ar10 q10 S10 M10 H10 G10 (fits_nar_char _) W11 0 rfl (Nat.le_of_ble_eq_true rfl)
  obtain ⟨cl13, Ar13, q13, S13, M13, H13, G13⟩ := id V11
  have hin13 : ¬ ((1 : Int32) < 0 ∨ cl13.slots.size ≤ ((1 : Int32)).toNatClampNeg) := inb_of S13 ⟨by decide, by decide⟩
  obtain ⟨T14, h14, X14, e14, W14, st14⟩ := stC X11 hx hZ e11 Ar13 (j := (1 : Int32)) hin13 (g := (mkF m 101 #[.val (.int (4 : Int32)), .val (.int c0), .val (.int c1), .val (.int c2), .val (.int c3)] [(.int c1), (.int (1 : Int32)), (.ref b7), (.ref b7), (.ref b5), (.ref b5)])) rfl rfl (hb hby d1_101)
  have N14 := Fr.snoc X14 N11 g_b7
  have Zs15 : n0 ≤ h14.size := by rw [W14.size]; exact Zs12
  have V14 : Arv Z h14 b7 k7 .char (4 : Int32) [(.int (nar .char c0)), (.int (nar .char c1)), (.int (0 : Int32)), (.int (0 : Int32))] (.int (0 : Int32)) := Arv.set Ar13 q13 S13 M13 H13 G13 (fits_nar_char _) W14 1 rfl (Nat.le_of_ble_eq_true rfl)
  obtain ⟨cl16, Ar16, q16, S16, M16, H16, G16⟩ := id V14
  have hin16 : ¬ ((2 : Int32) < 0 ∨ cl16.slots.size ≤ ((2 : Int32)).toNatClampNeg) := inb_of S16 ⟨by decide, by decide⟩
  obtain ⟨T17, h17, X17, e17, W17, st17⟩ := stC X14 hx hZ e14 Ar16 (j := (2 : Int32)) hin16 (g := (mkF m 105 #[.val (.int (4 : Int32)), .val (.int c0), .val (.int c1), .val (.int c2), .val (.int c3)] [(.int c2), (.int (2 : Int32)), (.ref b7), (.ref b7), (.ref b5), (.ref b5)])) rfl rfl (hb hby d1_105)
  have N17 := Fr.snoc X17 N14 g_b7
  have Zs18 : n0 ≤ h17.size := by rw [W17.size]; exact Zs15
  have V17 : Arv Z h17 b7 k7 .char (4 : Int32) [(.int (nar .char c0)), (.int (nar .char c1)), (.int (nar .char c2)), (.int (0 : Int32))] (.int (0 : Int32)) := Arv.set Ar16 q16 S16 M16 H16 G16 (fits_nar_char _) W17 2 rfl (Nat.le_of_ble_eq_true rfl)
  obtain ⟨cl19, Ar19, q19, S19, M19, H19, G19⟩ := id V17
  have hin19 : ¬ ((3 : Int32) < 0 ∨ cl19.slots.size ≤ ((3 : Int32)).toNatClampNeg) := inb_of S19 ⟨by decide, by decide⟩
  obtain ⟨T20, h20, X20, e20, W20, st20⟩ := stC X17 hx hZ e17 Ar19 (j := (3 : Int32)) hin19 (g := (mkF m 110 #[.val (.int (4 : Int32)), .val (.int c0), .val (.int c1), .val (.int c2), .val (.int c3)] [(.int c3), (.int (3 : Int32)), (.ref b7), (.ref b7), (.ref b5), (.ref b5)])) rfl rfl (hb hby d1_110)
  have N20 := Fr.snoc X20 N17 g_b7
  have Zs21 : n0 ≤ h20.size := by rw [W20.size]; exact Zs18
  have V20 : Arv Z h20 b7 k7 .char (4 : Int32) [(.int (nar .char c0)), (.int (nar .char c1)), (.int (nar .char c2)), (.int (nar .char c3))] (.int (0 : Int32)) := Arv.set Ar19 q19 S19 M19 H19 G19 (fits_nar_char _) W20 3 rfl (Nat.le_of_ble_eq_true rfl)
  have hn24 : nar .char c0 = c0 := own_narc c0 (by omega) (by omega)
  have hn25 : nar .char c1 = c1 := own_narc c1 (by omega) (by omega)
  have hn26 : nar .char c2 = c2 := own_narc c2 (by omega) (by omega)
  have hn27 : nar .char c3 = c3 := own_narc c3 (by omega) (by omega)
  have Vx23 : Arv Z h20 b7 k7 .char (4 : Int32) [(.int c0), (.int c1), (.int c2), (.int c3)] (.int (0 : Int32)) := by
    have q := V20
    rw [hn24, hn25, hn26, hn27] at q; exact q
  have f28 := (((((A5.ext E7).wr W11).wr W14).wr W17).wr W20)
  have f29 := (((((f8.ext E7).wr W11 (Or.inr sz_b7)).wr W14 (Or.inr sz_b7)).wr W17 (Or.inr sz_b7)).wr W20 (Or.inr sz_b7))
  have os30 := (own_st_wr (own_st_wr (own_st_wr (own_st_wr (own_st_ext (own_st_ext Os E5) E7) W11) W14) W17) W20)
  have f31 := (((((F5_coder.ext E7).other W11 (Or.inl ne_b5_b7)).other W14 (Or.inl ne_b5_b7)).other W17 (Or.inl ne_b5_b7)).other W20 (Or.inl ne_b5_b7))
  have f32 := (((((F5_value.ext E7).other W11 (Or.inl ne_b5_b7)).other W14 (Or.inl ne_b5_b7)).other W17 (Or.inl ne_b5_b7)).other W20 (Or.inl ne_b5_b7))
  obtain ⟨_, _, ⟨T22, L22, k22, n22⟩, -, X22, ⟨Lc22, hQ22, l22, y22, z22⟩, st22⟩ := X20.specialBack hx (y := (⟨"java/lang/String", "<init>", "([C)V"⟩ : MethodName)) rfl hown (mvT hZ (hw _ (List.mem_of_getElem? (i := 9) rfl))) (mvT hZ (hw _ (List.mem_of_getElem? (i := 10) rfl))) (mvT hZ (hw _ (List.mem_of_getElem? (i := 11) rfl))) (by decide) (backOf (W := 1) (rm_mk4 l Z a0 hw [] b5 b7 vcs vf k7 c0 c1 c2 c3 h20 n0 Zs21 os30 f28 f31 f32 g_b5 ne_b5_b7 Vx23 (by omega) (by omega) (by omega) (by omega) (by omega) (by omega) (by omega) (by omega)) hZ (hw _ (List.mem_of_getElem? (i := 11) rfl)) (hw _ (List.mem_of_getElem? (i := 7) rfl)) (by decide) (by decide)) (g := (mkF m 111 #[.val (.int (4 : Int32)), .val (.int c0), .val (.int c1), .val (.int c2), .val (.int c3)] [(.ref b7), (.ref b5), (.ref b5)])) rfl (by rw [hml]; rfl) (Steps.refl _) (a := b5) (argsL := [(.ref b7)]) (rest := [(.ref b5)]) (lenOf pd_1 rfl) rfl (by show 2 * 0 + _ ≤ _; exact Nat.le_of_eq rfl) (hb hby d1_111) (fun _ _ => ⟨rfl, e20, (by decide : 2 + 1 ≤ _), (by decide : 8 + 4 ≤ _)⟩)
  dsimp only [Pt.U, Pt.locs, Pt.cells, Pt.slots] at X22 l22 y22 z22 st22 hQ22
  rw [l22, y22, z22] at X22
  obtain ⟨rfl, N22q, K22, A22, ob22, kb22, y22_0, y22_1, y22_2, y22_3, gb22, szb22, Fc22, Fv22, Vb22, qy22_0, qy22_1, qy22_2, qy22_3⟩ := hQ22
  have N22 := Fr.app N20 N22q
  have Zs33 : n0 ≤ T22.heap.size := Nat.le_trans Zs21 K22.1
  have ne_b5_ob22 : b5 ≠ ob22 := Nat.ne_of_lt (Nat.lt_of_lt_of_le f28.lt szb22)
  have ne_b7_ob22 : b7 ≠ ob22 := Nat.ne_of_lt (Nat.lt_of_lt_of_le Vx23.lt szb22)
  have sz_ob22 : h0.size ≤ ob22 := Nat.le_trans f29.1 szb22
  obtain ⟨fs, hr, hrun, hended, hW, hsame⟩ := X22.leave (v := some (.ref b5)) (fun h => by rw [Bd.returns] at h; cases h)
  refine ⟨_, _, pre0 _ ?_, hrun, hended, _, _, rfl, ?_, ⟨_, rfl⟩, hW, hsame.mono (by decide) (by decide)⟩
  · refine XS.iloadN X0.here hx rfl (hb hby d1_0) rfl ?_
    refine XS.ifYes X0.here hx rfl (pc0 := 1) (pc' := 15) rfl (hb hby d1_1) rfl (own_if (own_feq (a := (4 : Int32)) (b := (0 : Int32)) (by decide) (by decide) hc1_1).2) (by decide) (by decide) ?_
    refine XS.iloadN X0.here hx rfl (hb hby d1_15) rfl ?_
    refine XS.iconst X0.here hx rfl (hb hby d1_16) ?_
    refine XS.icmpYes X0.here hx rfl (pc0 := 17) (pc' := 35) rfl (hb hby d1_17) rfl (own_feq (a := (4 : Int32)) (b := (1 : Int32)) (by decide) (by decide) hc17_2).2 (by decide) (by decide) ?_
    refine XS.iloadN X0.here hx rfl (hb hby d1_35) rfl ?_
    refine XS.iconst X0.here hx rfl (hb hby d1_36) ?_
    show Steps p.tables e below (s₁.setTop (mkF m 37 #[.val (.int (4 : Int32)), .val (.int c0), .val (.int c1), .val (.int c2), .val (.int c3)] [(.int (2 : Int32)), (.int (4 : Int32))])) _
    refine XS.icmpYes X0.here hx rfl (pc0 := 37) (pc' := 59) rfl (hb hby d1_37) rfl (own_feq (a := (4 : Int32)) (b := (2 : Int32)) (by decide) (by decide) hc37_3).2 (by decide) (by decide) ?_
    refine XS.iloadN X0.here hx rfl (hb hby d1_59) rfl ?_
    refine XS.iconst X0.here hx rfl (hb hby d1_60) ?_
    refine XS.icmpYes X0.here hx rfl (pc0 := 61) (pc' := 87) rfl (hb hby d1_61) rfl (own_feq (a := (4 : Int32)) (b := (3 : Int32)) (by decide) (by decide) hc61_4).2 (by decide) (by decide) ?_
    refine st5 _ ?_
    refine XS.dup X5.here hx rfl (hb hby d1_90) rfl rfl ?_
    refine XS.iconst X5.here hx rfl (hb hby d1_91) ?_
    refine st7 _ ?_
    show Steps p.tables e below (T7.setTop (mkF m 94 #[.val (.int (4 : Int32)), .val (.int c0), .val (.int c1), .val (.int c2), .val (.int c3)] [(.ref b7), (.ref b5), (.ref b5)])) _
    refine XS.dup X7.here hx rfl (hb hby d1_94) rfl rfl ?_
    refine XS.iconst X7.here hx rfl (hb hby d1_95) ?_
    refine XS.iloadN X7.here hx rfl (hb hby d1_96) rfl ?_
    refine st11 _ ?_
    refine XS.dup X11.here hx rfl (hb hby d1_98) rfl rfl ?_
    refine XS.iconst X11.here hx rfl (hb hby d1_99) ?_
    refine XS.iloadN X11.here hx rfl (hb hby d1_100) rfl ?_
    refine st14 _ ?_
    show Steps p.tables e below (T14.setTop (mkF m 102 #[.val (.int (4 : Int32)), .val (.int c0), .val (.int c1), .val (.int c2), .val (.int c3)] [(.ref b7), (.ref b5), (.ref b5)])) _
    refine XS.dup X14.here hx rfl (hb hby d1_102) rfl rfl ?_
    refine XS.iconst X14.here hx rfl (hb hby d1_103) ?_
    refine XS.iloadN X14.here hx rfl (hb hby d1_104) rfl ?_
    refine st17 _ ?_
    refine XS.dup X17.here hx rfl (hb hby d1_106) rfl rfl ?_
    refine XS.iconst X17.here hx rfl (hb hby d1_107) ?_
    refine XS.iload X17.here hx rfl (hb hby d1_108) rfl ?_
    refine st20 _ ?_
    show Steps p.tables e below (T20.setTop (mkF m 111 #[.val (.int (4 : Int32)), .val (.int c0), .val (.int c1), .val (.int c2), .val (.int c3)] [(.ref b7), (.ref b5), (.ref b5)])) _
    refine st22.trans ?_
    jvm_step X22.here [X22.here.top, hx, (hb hby d1_114), X22.method', Bd.returns, Value.isRef, FieldType.isReference]
    first | (intro acts; rw [hr _ acts rfl rfl rfl]) | rw [hr _ _ rfl rfl rfl]
    exact Steps.refl _
  · show Q_m4 Z _ _ _ _ _ _ h0 n0 _ T22.heap _
    have f34 := (f29.trans K22 (allS (P := fun x => x ∈ [] ∨ h0.size ≤ x) (Or.inr sz_b5) all0))
    exact ⟨b5, ob22, _, y22_0, y22_1, y22_2, y22_3, rfl, N22, f34, A22, Fc22, Fv22, Vb22, qy22_0, qy22_1, qy22_2, qy22_3⟩
theorem d16_0 : decode jdk_41_method_11_code 0 = .ok (.iload_n 0, 1) := by decide +kernel
theorem d16_1 : decode jdk_41_method_11_code 1 = .ok (.ifCond .lt 8, 3) := by decide +kernel
theorem d16_4 : decode jdk_41_method_11_code 4 = .ok (.iload_n 0, 1) := by decide +kernel
theorem d16_5 : decode jdk_41_method_11_code 5 = .ok (.iload_n 1, 1) := by decide +kernel
theorem d16_6 : decode jdk_41_method_11_code 6 = .ok (.if_icmp .lt 10, 3) := by decide +kernel
theorem d16_16 : decode jdk_41_method_11_code 16 = .ok (.iload_n 0, 1) := by decide +kernel
theorem d16_17 : decode jdk_41_method_11_code 17 = .ok (.ireturn, 1) := by decide +kernel
theorem pn_3 : plainName "jdk/internal/util/Preconditions" = true := by first | (simp [plainName, overriddenIn]; done) | decide +kernel
theorem ef_rm_pckN (m : MethodId) (x0 : Int32) (x1 : Int32) : entryFrame m #[(.int x0), (.int x1), .null] 3 = mkF m 0 #[.val (.int x0), .val (.int x1), .val .null] [] := by first | (simp [entryFrame, mkF, argsToLocals, Value.category]; done) | rfl
def Q_pckN (Z : State) (vi : Int32) (vn : Int32) (h0 : Heap) (n0 : Nat) (v : Option Value) (h : Heap) (L : List Loc) : Prop := ∃ z : Int32, v = some (.int z) ∧ (True) ∧ Fr n0 L ∧ h = h0
set_option maxRecDepth 65536 in
set_option maxHeartbeats 40000000 in
theorem rm_pckN (l : Launch) (Z : State) (a0 : Array Value) (hw : ∀ d ∈ tables_1, d.before a0 Z = true) (ws : List Jvm.Cond) (vi : Int32) (vn : Int32) (h0 : Heap) (n0 : Nat) (Z0 : n0 ≤ h0.size) (i1 : 0 ≤ vi.toInt) (i2 : vi.toInt < vn.toInt) :
    MetFree l (⟨"jdk/internal/util/Preconditions", "checkIndex", "(IILjava/util/function/BiFunction;)I"⟩ : MethodName) (head1 (Jvm.Cond.code (⟨"jdk/internal/util/Preconditions", "checkIndex", "(IILjava/util/function/BiFunction;)I"⟩ : MethodName) jdk_41_method_11_code 3 (some .int) :: ws) ({ frames := 0, cells := 0, slots := 0, locals := 0 } : Room)) (fun a U => a = #[(.int vi), (.int vn), .null] ∧ Z.Warmed39 U.vm ∧ U.heap = h0) (fun _ _ _ _ _ => True) (fun _ U o U' => ∃ v L, o = .returned v ∧ Q_pckN Z vi vn h0 n0 v U'.heap L ∧ FrameEnd U o U' L ({ frames := 0, cells := 0, slots := 0, locals := 0 } : Room).cells ({ frames := 0, cells := 0, slots := 0, locals := 0 } : Room).slots) := by
  refine MetFree.of_bodySF (plainFor_of_name pn_3) hisR ?_
  intro p e s m args below meth c s₁ Bd hml0 hP hK
  obtain ⟨rfl, hZ, hh⟩ := hP
  have hx := Bd.exec
  have hby := Bd.bytes
  have hml : c.maxLocals = 3 := hml0
  have hown : s.vm.findClass "jdk/internal/util/Preconditions" = some m.cls := findClass_of_methodNamed Bd.named
  have hnm := (name_of_methodNamed Bd.named Bd.method).1
  have X0 : Stand p l e ({ frames := 0, cells := 0, slots := 0, locals := 0 } : Room) s m #[(.int vi), (.int vn), .null] below meth c s₁ [] 0 0 := Stand.of_body Bd
  have e0 : s₁.heap = h0 := by rw [← hh, Bd.state]; rfl
  have N0 := Fr.nil n0
  have pre0 : ∀ t, Steps p.tables e below (s₁.setTop (mkF m 0 #[.val (.int vi), .val (.int vn), .val .null] [])) t → Steps p.tables e below (s₁.setTop (entryFrame m #[(.int vi), (.int vn), .null] 3)) t := fun t k => castTop (ef_rm_pckN m vi vn) k
  have hc1_1 : ¬ (vi.toInt < (0 : Int)) := by omega
  have hc6_2 : vi.toInt < vn.toInt := by omega
  obtain ⟨fs, hr, hrun, hended, hW, hsame⟩ := X0.leave (v := some (.int vi)) (fun h => by rw [Bd.returns] at h; cases h)
  refine ⟨_, _, pre0 _ ?_, hrun, hended, _, _, rfl, ?_, ⟨_, rfl⟩, hW, hsame.mono (by decide) (by decide)⟩
  · refine XS.iloadN X0.here hx rfl (hb hby d16_0) rfl ?_
    refine XS.ifNo X0.here hx rfl (hb hby d16_1) rfl (own_if (own_flt (a := vi) (b := (0 : Int32)) rfl (by decide) hc1_1).1) ?_
    refine XS.iloadN X0.here hx rfl (hb hby d16_4) rfl ?_
    refine XS.iloadN X0.here hx rfl (hb hby d16_5) rfl ?_
    refine XS.icmpYes X0.here hx rfl (pc0 := 6) (pc' := 16) rfl (hb hby d16_6) rfl (own_tlt (a := vi) (b := vn) rfl rfl hc6_2).1 (by decide) (by decide) ?_
    refine XS.iloadN X0.here hx rfl (hb hby d16_16) rfl ?_
    exact retI X0 hx Bd.returns (hb hby d16_17) hr
  · show Q_pckN Z _ _ h0 n0 _ s₁.heap _
    rw [e0]
    exact ⟨_, rfl, trivial, N0, rfl⟩
theorem ef_rm_pckR (m : MethodId) (x0 : Int32) (x1 : Int32) (x2 : Addr) : entryFrame m #[(.int x0), (.int x1), (.ref x2)] 3 = mkF m 0 #[.val (.int x0), .val (.int x1), .val (.ref x2)] [] := by first | (simp [entryFrame, mkF, argsToLocals, Value.category]; done) | rfl
def Q_pckR (Z : State) (vi : Int32) (vn : Int32) (wf : Addr) (h0 : Heap) (n0 : Nat) (v : Option Value) (h : Heap) (L : List Loc) : Prop := ∃ z : Int32, v = some (.int z) ∧ (True) ∧ Fr n0 L ∧ h = h0
set_option maxRecDepth 65536 in
set_option maxHeartbeats 40000000 in
theorem rm_pckR (l : Launch) (Z : State) (a0 : Array Value) (hw : ∀ d ∈ tables_1, d.before a0 Z = true) (ws : List Jvm.Cond) (vi : Int32) (vn : Int32) (wf : Addr) (h0 : Heap) (n0 : Nat) (Z0 : n0 ≤ h0.size) (i1 : 0 ≤ vi.toInt) (i2 : vi.toInt < vn.toInt) :
    MetFree l (⟨"jdk/internal/util/Preconditions", "checkIndex", "(IILjava/util/function/BiFunction;)I"⟩ : MethodName) (head1 (Jvm.Cond.code (⟨"jdk/internal/util/Preconditions", "checkIndex", "(IILjava/util/function/BiFunction;)I"⟩ : MethodName) jdk_41_method_11_code 3 (some .int) :: ws) ({ frames := 0, cells := 0, slots := 0, locals := 0 } : Room)) (fun a U => a = #[(.int vi), (.int vn), (.ref wf)] ∧ Z.Warmed39 U.vm ∧ U.heap = h0) (fun _ _ _ _ _ => True) (fun _ U o U' => ∃ v L, o = .returned v ∧ Q_pckR Z vi vn wf h0 n0 v U'.heap L ∧ FrameEnd U o U' L ({ frames := 0, cells := 0, slots := 0, locals := 0 } : Room).cells ({ frames := 0, cells := 0, slots := 0, locals := 0 } : Room).slots) := by
  refine MetFree.of_bodySF (plainFor_of_name pn_3) hisR ?_
  intro p e s m args below meth c s₁ Bd hml0 hP hK
  obtain ⟨rfl, hZ, hh⟩ := hP
  have hx := Bd.exec
  have hby := Bd.bytes
  have hml : c.maxLocals = 3 := hml0
  have hown : s.vm.findClass "jdk/internal/util/Preconditions" = some m.cls := findClass_of_methodNamed Bd.named
  have hnm := (name_of_methodNamed Bd.named Bd.method).1
  have X0 : Stand p l e ({ frames := 0, cells := 0, slots := 0, locals := 0 } : Room) s m #[(.int vi), (.int vn), (.ref wf)] below meth c s₁ [] 0 0 := Stand.of_body Bd
  have e0 : s₁.heap = h0 := by rw [← hh, Bd.state]; rfl
  have N0 := Fr.nil n0
  have pre0 : ∀ t, Steps p.tables e below (s₁.setTop (mkF m 0 #[.val (.int vi), .val (.int vn), .val (.ref wf)] [])) t → Steps p.tables e below (s₁.setTop (entryFrame m #[(.int vi), (.int vn), (.ref wf)] 3)) t := fun t k => castTop (ef_rm_pckR m vi vn wf) k
  have hc1_1 : ¬ (vi.toInt < (0 : Int)) := by omega
  have hc6_2 : vi.toInt < vn.toInt := by omega
  obtain ⟨fs, hr, hrun, hended, hW, hsame⟩ := X0.leave (v := some (.int vi)) (fun h => by rw [Bd.returns] at h; cases h)
  refine ⟨_, _, pre0 _ ?_, hrun, hended, _, _, rfl, ?_, ⟨_, rfl⟩, hW, hsame.mono (by decide) (by decide)⟩
  · refine XS.iloadN X0.here hx rfl (hb hby d16_0) rfl ?_
    refine XS.ifNo X0.here hx rfl (hb hby d16_1) rfl (own_if (own_flt (a := vi) (b := (0 : Int32)) rfl (by decide) hc1_1).1) ?_
    refine XS.iloadN X0.here hx rfl (hb hby d16_4) rfl ?_
    refine XS.iloadN X0.here hx rfl (hb hby d16_5) rfl ?_
    refine XS.icmpYes X0.here hx rfl (pc0 := 6) (pc' := 16) rfl (hb hby d16_6) rfl (own_tlt (a := vi) (b := vn) rfl rfl hc6_2).1 (by decide) (by decide) ?_
    refine XS.iloadN X0.here hx rfl (hb hby d16_16) rfl ?_
    exact retI X0 hx Bd.returns (hb hby d16_17) hr
  · show Q_pckR Z _ _ _ h0 n0 _ s₁.heap _
    rw [e0]
    exact ⟨_, rfl, trivial, N0, rfl⟩
theorem d15_0 : decode jdk_42_method_155_code 0 = .ok (.iload_n 0, 1) := by decide +kernel
theorem d15_1 : decode jdk_42_method_155_code 1 = .ok (.iload_n 1, 1) := by decide +kernel
theorem d15_2 : decode jdk_42_method_155_code 2 = .ok (.getstatic 1053, 3) := by decide +kernel
theorem d15_5 : decode jdk_42_method_155_code 5 = .ok (.invokestatic 1059, 3) := by decide +kernel
theorem d15_8 : decode jdk_42_method_155_code 8 = .ok (.pop, 1) := by decide +kernel
theorem d15_9 : decode jdk_42_method_155_code 9 = .ok (.return_, 1) := by decide +kernel
theorem ef_rm15 (m : MethodId) (x0 : Int32) (x1 : Int32) : entryFrame m #[(.int x0), (.int x1)] 2 = mkF m 0 #[.val (.int x0), .val (.int x1)] [] := by first | (simp [entryFrame, mkF, argsToLocals, Value.category]; done) | rfl
theorem pd_5 : parseMethodDescriptor "(IILjava/util/function/BiFunction;)I" = some ⟨[.int, .int, (.object "java/util/function/BiFunction")], some .int⟩ := by decide +kernel
def Q15 (Z : State) (vi : Int32) (vn : Int32) (vcs : Int32) (vf : Value) (h0 : Heap) (n0 : Nat) (v : Option Value) (h : Heap) (L : List Loc) : Prop := v = none ∧ Fr n0 L ∧ h = h0
set_option maxRecDepth 65536 in
set_option maxHeartbeats 40000000 in
theorem rm15 (l : Launch) (Z : State) (a0 : Array Value) (hw : ∀ d ∈ tables_1, d.before a0 Z = true) (ws : List Jvm.Cond) (vi : Int32) (vn : Int32) (vcs : Int32) (vf : Value) (h0 : Heap) (n0 : Nat) (Z0 : n0 ≤ h0.size) (Os : own_st Z h0 vcs vf) (i1 : 0 ≤ vi.toInt) (i2 : vi.toInt < vn.toInt) :
    MetFree l (⟨"java/lang/String", "checkIndex", "(II)V"⟩ : MethodName) (head1 (Jvm.Cond.code (⟨"java/lang/String", "checkIndex", "(II)V"⟩ : MethodName) jdk_42_method_155_code 2 none :: ws) ({ frames := 1, cells := 0, slots := 0, locals := 14 } : Room)) (fun a U => a = #[(.int vi), (.int vn)] ∧ Z.Warmed39 U.vm ∧ U.heap = h0) (fun _ _ _ _ _ => True) (fun _ U o U' => ∃ v L, o = .returned v ∧ Q15 Z vi vn vcs vf h0 n0 v U'.heap L ∧ FrameEnd U o U' L ({ frames := 1, cells := 0, slots := 0, locals := 14 } : Room).cells ({ frames := 1, cells := 0, slots := 0, locals := 14 } : Room).slots) := by
  refine MetFree.of_bodySF (plainFor_of_name pn_1) hisR ?_
  intro p e s m args below meth c s₁ Bd hml0 hP hK
  obtain ⟨rfl, hZ, hh⟩ := hP
  have hx := Bd.exec
  have hby := Bd.bytes
  have hml : c.maxLocals = 2 := hml0
  have hown : s.vm.findClass "java/lang/String" = some m.cls := findClass_of_methodNamed Bd.named
  have hnm := (name_of_methodNamed Bd.named Bd.method).1
  have X0 : Stand p l e ({ frames := 1, cells := 0, slots := 0, locals := 14 } : Room) s m #[(.int vi), (.int vn)] below meth c s₁ [] 0 0 := Stand.of_body Bd
  have e0 : s₁.heap = h0 := by rw [← hh, Bd.state]; rfl
  have N0 := Fr.nil n0
  have pre0 : ∀ t, Steps p.tables e below (s₁.setTop (mkF m 0 #[.val (.int vi), .val (.int vn)] [])) t → Steps p.tables e below (s₁.setTop (entryFrame m #[(.int vi), (.int vn)] 2)) t := fun t k => castTop (ef_rm15 m vi vn) k
  obtain ⟨T1, X1, e1, st1⟩ := getS2 X0 hx hZ hown (host := "") (Or.inl (hw _ (List.mem_of_getElem? (i := 72) rfl))) Via.refl e0 Os.2.2.1 (g := (mkF m 2 #[.val (.int vi), .val (.int vn)] [(.int vn), (.int vi)])) rfl (hb hby d15_2)
  have pre2 : ∀ t, Steps p.tables e below (T1.setTop (mkF m 5 #[.val (.int vi), .val (.int vn)] [vf, (.int vn), (.int vi)])) t → Steps p.tables e below (s₁.setTop (entryFrame m #[(.int vi), (.int vn)] 2)) t := fun t kt => by
    refine pre0 _ ?_
    refine XS.iloadN X0.here hx rfl (hb hby d15_0) rfl ?_
    refine XS.iloadN X0.here hx rfl (hb hby d15_1) rfl ?_
    refine st1 _ ?_
    exact kt
  rcases ref_cases (Os.2.2.2) with rfl | ⟨wf, rfl⟩
  · have pre3 : ∀ t, Steps p.tables e below (T1.setTop (mkF m 5 #[.val (.int vi), .val (.int vn)] [.null, (.int vn), (.int vi)])) t → Steps p.tables e below (s₁.setTop (entryFrame m #[(.int vi), (.int vn)] 2)) t := pre2
    obtain ⟨_, _, ⟨T4, L4, k4, n4⟩, -, X4, ⟨Lc4, hQ4, l4, y4, z4⟩, st4⟩ := Jvm.LawKit.callS X1 hx (y := (⟨"jdk/internal/util/Preconditions", "checkIndex", "(IILjava/util/function/BiFunction;)I"⟩ : MethodName)) hown (mvT hZ (hw _ (List.mem_of_getElem? (i := 74) rfl))) (mvT hZ (hw _ (List.mem_of_getElem? (i := 75) rfl))) (mvT hZ (hw _ (List.mem_of_getElem? (i := 73) rfl))) (mvT hZ (hw _ (List.mem_of_getElem? (i := 76) rfl))) (by decide) (backOf (W := 0) (rm_pckN l Z a0 hw [] vi vn h0 n0 Z0 i1 i2) hZ (hw _ (List.mem_of_getElem? (i := 76) rfl)) (hw _ (List.mem_of_getElem? (i := 73) rfl)) (by decide) (by decide)) (g := (mkF m 5 #[.val (.int vi), .val (.int vn)] [.null, (.int vn), (.int vi)])) rfl (by rw [hml]; rfl) (argsL := [(.int vi), (.int vn), .null]) (rest := []) (lenOf pd_5 rfl) rfl (by show 2 * 0 + _ ≤ _; exact Nat.le_of_eq rfl) (hb hby d15_5) (fun _ _ => ⟨rfl, e1, (by decide : 0 + 0 ≤ _), (by decide : 0 + 0 ≤ _)⟩)
    dsimp only [Pt.U, Pt.locs, Pt.cells, Pt.slots] at X4 l4 y4 z4 st4 hQ4
    rw [l4, y4, z4] at X4
    obtain ⟨zk, rfl, hzk, N4q, e4⟩ := hQ4
    have N4 := Fr.app N0 N4q
    obtain ⟨fs, hr, hrun, hended, hW, hsame⟩ := X4.leave (v := none) (fun _ => rfl)
    refine ⟨_, _, pre3 _ ?_, hrun, hended, _, _, rfl, ?_, ⟨_, rfl⟩, hW, hsame.mono (by decide) (by decide)⟩
    · refine st4 _ ?_
      refine XS.pop X4.here hx rfl (hb hby d15_8) rfl rfl ?_
      exact X4.returnOut hx Bd.returns (hb hby d15_9) hr
    · show Q15 Z _ _ _ _ h0 n0 _ T4.heap _
      rw [e4]
      exact ⟨rfl, N4, rfl⟩
  · have pre5 : ∀ t, Steps p.tables e below (T1.setTop (mkF m 5 #[.val (.int vi), .val (.int vn)] [(.ref wf), (.int vn), (.int vi)])) t → Steps p.tables e below (s₁.setTop (entryFrame m #[(.int vi), (.int vn)] 2)) t := pre2
    obtain ⟨_, _, ⟨T6, L6, k6, n6⟩, -, X6, ⟨Lc6, hQ6, l6, y6, z6⟩, st6⟩ := Jvm.LawKit.callS X1 hx (y := (⟨"jdk/internal/util/Preconditions", "checkIndex", "(IILjava/util/function/BiFunction;)I"⟩ : MethodName)) hown (mvT hZ (hw _ (List.mem_of_getElem? (i := 74) rfl))) (mvT hZ (hw _ (List.mem_of_getElem? (i := 75) rfl))) (mvT hZ (hw _ (List.mem_of_getElem? (i := 73) rfl))) (mvT hZ (hw _ (List.mem_of_getElem? (i := 76) rfl))) (by decide) (backOf (W := 0) (rm_pckR l Z a0 hw [] vi vn wf h0 n0 Z0 i1 i2) hZ (hw _ (List.mem_of_getElem? (i := 76) rfl)) (hw _ (List.mem_of_getElem? (i := 73) rfl)) (by decide) (by decide)) (g := (mkF m 5 #[.val (.int vi), .val (.int vn)] [(.ref wf), (.int vn), (.int vi)])) rfl (by rw [hml]; rfl) (argsL := [(.int vi), (.int vn), (.ref wf)]) (rest := []) (lenOf pd_5 rfl) rfl (by show 2 * 0 + _ ≤ _; exact Nat.le_of_eq rfl) (hb hby d15_5) (fun _ _ => ⟨rfl, e1, (by decide : 0 + 0 ≤ _), (by decide : 0 + 0 ≤ _)⟩)
    dsimp only [Pt.U, Pt.locs, Pt.cells, Pt.slots] at X6 l6 y6 z6 st6 hQ6
    rw [l6, y6, z6] at X6
    obtain ⟨zk, rfl, hzk, N6q, e6⟩ := hQ6
    have N6 := Fr.app N0 N6q
    obtain ⟨fs, hr, hrun, hended, hW, hsame⟩ := X6.leave (v := none) (fun _ => rfl)
    refine ⟨_, _, pre5 _ ?_, hrun, hended, _, _, rfl, ?_, ⟨_, rfl⟩, hW, hsame.mono (by decide) (by decide)⟩
    · refine st6 _ ?_
      refine XS.pop X6.here hx rfl (hb hby d15_8) rfl rfl ?_
      exact X6.returnOut hx Bd.returns (hb hby d15_9) hr
    · show Q15 Z _ _ _ _ h0 n0 _ T6.heap _
      rw [e6]
      exact ⟨rfl, N6, rfl⟩
theorem d13_0 : decode jdk_42_method_154_code 0 = .ok (.getstatic 38, 3) := by decide +kernel
theorem d13_3 : decode jdk_42_method_154_code 3 = .ok (.ifCond .eq 14, 3) := by decide +kernel
theorem d13_6 : decode jdk_42_method_154_code 6 = .ok (.aload_n 0, 1) := by decide +kernel
theorem d13_7 : decode jdk_42_method_154_code 7 = .ok (.getfield 15, 3) := by decide +kernel
theorem d13_10 : decode jdk_42_method_154_code 10 = .ok (.ifCond .ne 7, 3) := by decide +kernel
theorem d13_13 : decode jdk_42_method_154_code 13 = .ok (.iconst 1, 1) := by decide +kernel
theorem d13_14 : decode jdk_42_method_154_code 14 = .ok (.goto 4, 3) := by decide +kernel
theorem d13_18 : decode jdk_42_method_154_code 18 = .ok (.ireturn, 1) := by decide +kernel
theorem ef_rm_lat0 (m : MethodId) (x0 : Addr) : entryFrame m #[(.ref x0)] 1 = mkF m 0 #[.val (.ref x0)] [] := by first | (simp [entryFrame, mkF, argsToLocals, Value.category]; done) | rfl
def Q_lat0 (Z : State) (oa : Addr) (vcs : Int32) (vf : Value) (h0 : Heap) (n0 : Nat) (v : Option Value) (h : Heap) (L : List Loc) : Prop := ∃ z : Int32, v = some (.int z) ∧ (z = (1 : Int32)) ∧ Fr n0 L ∧ h = h0
set_option maxRecDepth 65536 in
set_option maxHeartbeats 40000000 in
theorem rm_lat0 (l : Launch) (Z : State) (a0 : Array Value) (hw : ∀ d ∈ tables_1, d.before a0 Z = true) (ws : List Jvm.Cond) (oa : Addr) (vcs : Int32) (vf : Value) (h0 : Heap) (n0 : Nat) (Z0 : n0 ≤ h0.size) (Os : own_st Z h0 vcs vf) (Fc : Fld Z h0 oa "java/lang/String" "coder" "B" (.int (0 : Int32))) :
    MetFree l (⟨"java/lang/String", "isLatin1", "()Z"⟩ : MethodName) (head1 (Jvm.Cond.code (⟨"java/lang/String", "isLatin1", "()Z"⟩ : MethodName) jdk_42_method_154_code 1 (some .boolean) :: ws) ({ frames := 0, cells := 0, slots := 0, locals := 0 } : Room)) (fun a U => a = #[(.ref oa)] ∧ Z.Warmed39 U.vm ∧ U.heap = h0) (fun _ _ _ _ _ => True) (fun _ U o U' => ∃ v L, o = .returned v ∧ Q_lat0 Z oa vcs vf h0 n0 v U'.heap L ∧ FrameEnd U o U' L ({ frames := 0, cells := 0, slots := 0, locals := 0 } : Room).cells ({ frames := 0, cells := 0, slots := 0, locals := 0 } : Room).slots) := by
  refine MetFree.of_bodySF (plainFor_of_name pn_1) hisR ?_
  intro p e s m args below meth c s₁ Bd hml0 hP hK
  obtain ⟨rfl, hZ, hh⟩ := hP
  have hx := Bd.exec
  have hby := Bd.bytes
  have hml : c.maxLocals = 1 := hml0
  have hown : s.vm.findClass "java/lang/String" = some m.cls := findClass_of_methodNamed Bd.named
  have hnm := (name_of_methodNamed Bd.named Bd.method).1
  have X0 : Stand p l e ({ frames := 0, cells := 0, slots := 0, locals := 0 } : Room) s m #[(.ref oa)] below meth c s₁ [] 0 0 := Stand.of_body Bd
  have e0 : s₁.heap = h0 := by rw [← hh, Bd.state]; rfl
  have N0 := Fr.nil n0
  have pre0 : ∀ t, Steps p.tables e below (s₁.setTop (mkF m 0 #[.val (.ref oa)] [])) t → Steps p.tables e below (s₁.setTop (entryFrame m #[(.ref oa)] 1)) t := fun t k => castTop (ef_rm_lat0 m oa) k
  obtain ⟨T1, X1, e1, st1⟩ := getS2 X0 hx hZ hown (host := "") (Or.inl (hw _ (List.mem_of_getElem? (i := 41) rfl))) Via.refl e0 Os.1 (g := (mkF m 0 #[.val (.ref oa)] [])) rfl (hb hby d13_0)
  have hc3_2 : ¬ (vcs.toInt = (0 : Int)) := by (have q := Os.2.1; omega)
  obtain ⟨T3, X3, e3, st3⟩ := getF X1 hx hZ hown (host := "") (Or.inl (hw _ (List.mem_of_getElem? (i := 26) rfl))) Via.refl e1 Fc (g := (mkF m 7 #[.val (.ref oa)] [(.ref oa)])) rfl rfl (hb hby d13_7)
  have hc10_4 : (0 : Int) = (0 : Int) := by decide
  obtain ⟨fs, hr, hrun, hended, hW, hsame⟩ := X3.leave (v := some (.int (1 : Int32))) (fun h => by rw [Bd.returns] at h; cases h)
  refine ⟨_, _, pre0 _ ?_, hrun, hended, _, _, rfl, ?_, ⟨_, rfl⟩, hW, hsame.mono (by decide) (by decide)⟩
  · refine st1 _ ?_
    refine XS.ifNo X1.here hx rfl (hb hby d13_3) rfl (own_if (own_feq (a := vcs) (b := (0 : Int32)) rfl (by decide) hc3_2).1) ?_
    refine XS.aloadN X1.here hx rfl (hb hby d13_6) rfl rfl ?_
    refine st3 _ ?_
    refine XS.ifNo X3.here hx rfl (hb hby d13_10) rfl (own_if (own_teq (a := (0 : Int32)) (b := (0 : Int32)) (by decide) (by decide) hc10_4).2) ?_
    refine XS.iconst X3.here hx rfl (hb hby d13_13) ?_
    refine XS.goto X3.here hx rfl (pc0 := 14) (pc' := 18) rfl (hb hby d13_14) (by decide) (by decide) ?_
    show Steps p.tables e below (T3.setTop (mkF m 18 #[.val (.ref oa)] [(.int (1 : Int32))])) _
    exact retN X3 hx (t := .boolean) Bd.returns (by simp) (hb hby d13_18) hr
  · show Q_lat0 Z _ _ _ h0 n0 _ T3.heap _
    rw [e3]
    exact ⟨_, rfl, rfl, N0, rfl⟩
theorem d14_0 : decode jdk_43_method_2_code 0 = .ok (.iload_n 1, 1) := by decide +kernel
theorem d14_1 : decode jdk_43_method_2_code 1 = .ok (.aload_n 0, 1) := by decide +kernel
theorem d14_2 : decode jdk_43_method_2_code 2 = .ok (.arraylength, 1) := by decide +kernel
theorem d14_3 : decode jdk_43_method_2_code 3 = .ok (.invokestatic 9, 3) := by decide +kernel
theorem d14_6 : decode jdk_43_method_2_code 6 = .ok (.aload_n 0, 1) := by decide +kernel
theorem d14_7 : decode jdk_43_method_2_code 7 = .ok (.iload_n 1, 1) := by decide +kernel
theorem d14_8 : decode jdk_43_method_2_code 8 = .ok (.baload, 1) := by decide +kernel
theorem d14_9 : decode jdk_43_method_2_code 9 = .ok (.sipush 255, 3) := by decide +kernel
theorem d14_12 : decode jdk_43_method_2_code 12 = .ok (.iand, 1) := by decide +kernel
theorem d14_13 : decode jdk_43_method_2_code 13 = .ok (.i2c, 1) := by decide +kernel
theorem d14_14 : decode jdk_43_method_2_code 14 = .ok (.ireturn, 1) := by decide +kernel
theorem pn_4 : plainName "java/lang/StringLatin1" = true := by first | (simp [plainName, overriddenIn]; done) | decide +kernel
theorem ef_rm_l1ch (m : MethodId) (x0 : Addr) (x1 : Int32) : entryFrame m #[(.ref x0), (.int x1)] 2 = mkF m 0 #[.val (.ref x0), .val (.int x1)] [] := by first | (simp [entryFrame, mkF, argsToLocals, Value.category]; done) | rfl
theorem pd_6 : parseMethodDescriptor "(II)V" = some ⟨[.int, .int], none⟩ := by decide +kernel
def Q_l1ch (Z : State) (ob : Addr) (vi : Int32) (vcs : Int32) (vf : Value) (kb : ClassId) (zl : Int32) (vs : List Value) (b : Int32) (h0 : Heap) (n0 : Nat) (v : Option Value) (h : Heap) (L : List Loc) : Prop := ∃ z : Int32, v = some (.int z) ∧ (z.toInt = b.toInt % 256) ∧ Fr n0 L ∧ h = h0
set_option maxRecDepth 65536 in
set_option maxHeartbeats 40000000 in
theorem rm_l1ch (l : Launch) (Z : State) (a0 : Array Value) (hw : ∀ d ∈ tables_1, d.before a0 Z = true) (ws : List Jvm.Cond) (ob : Addr) (vi : Int32) (vcs : Int32) (vf : Value) (kb : ClassId) (zl : Int32) (vs : List Value) (b : Int32) (h0 : Heap) (n0 : Nat) (Z0 : n0 ≤ h0.size) (Os : own_st Z h0 vcs vf) (Vb : Arv Z h0 ob kb .byte zl vs (.int (0 : Int32))) (i1 : 0 ≤ vi.toInt) (i2 : vi.toInt < zl.toInt) (gb : vs.getD vi.toNatClampNeg (.int (0 : Int32)) = .int b) :
    MetFree l (⟨"java/lang/StringLatin1", "charAt", "([BI)C"⟩ : MethodName) (head1 (Jvm.Cond.code (⟨"java/lang/StringLatin1", "charAt", "([BI)C"⟩ : MethodName) jdk_43_method_2_code 2 (some .char) :: ws) ({ frames := 2, cells := 0, slots := 0, locals := 27 } : Room)) (fun a U => a = #[(.ref ob), (.int vi)] ∧ Z.Warmed39 U.vm ∧ U.heap = h0) (fun _ _ _ _ _ => True) (fun _ U o U' => ∃ v L, o = .returned v ∧ Q_l1ch Z ob vi vcs vf kb zl vs b h0 n0 v U'.heap L ∧ FrameEnd U o U' L ({ frames := 2, cells := 0, slots := 0, locals := 27 } : Room).cells ({ frames := 2, cells := 0, slots := 0, locals := 27 } : Room).slots) := by
  refine MetFree.of_bodySF (plainFor_of_name pn_4) hisR ?_
  intro p e s m args below meth c s₁ Bd hml0 hP hK
  obtain ⟨rfl, hZ, hh⟩ := hP
  have hx := Bd.exec
  have hby := Bd.bytes
  have hml : c.maxLocals = 2 := hml0
  have hown : s.vm.findClass "java/lang/StringLatin1" = some m.cls := findClass_of_methodNamed Bd.named
  have hnm := (name_of_methodNamed Bd.named Bd.method).1
  have X0 : Stand p l e ({ frames := 2, cells := 0, slots := 0, locals := 27 } : Room) s m #[(.ref ob), (.int vi)] below meth c s₁ [] 0 0 := Stand.of_body Bd
  have e0 : s₁.heap = h0 := by rw [← hh, Bd.state]; rfl
  have N0 := Fr.nil n0
  have pre0 : ∀ t, Steps p.tables e below (s₁.setTop (mkF m 0 #[.val (.ref ob), .val (.int vi)] [])) t → Steps p.tables e below (s₁.setTop (entryFrame m #[(.ref ob), (.int vi)] 2)) t := fun t k => castTop (ef_rm_l1ch m ob vi) k
  obtain ⟨cl1, Ar1, q1, S1, M1, H1, G1⟩ := id Vb
  obtain ⟨_, _, ⟨T2, L2, k2, n2⟩, -, X2, ⟨Lc2, hQ2, l2, y2, z2⟩, st2⟩ := Jvm.LawKit.callS X0 hx (y := (⟨"java/lang/String", "checkIndex", "(II)V"⟩ : MethodName)) hown (mvT hZ (hw _ (List.mem_of_getElem? (i := 69) rfl))) (mvT hZ (hw _ (List.mem_of_getElem? (i := 70) rfl))) (mvT hZ (hw _ (List.mem_of_getElem? (i := 7) rfl))) (mvT hZ (hw _ (List.mem_of_getElem? (i := 71) rfl))) (by decide) (backOf (W := 0) (rm15 l Z a0 hw [] vi zl vcs vf h0 n0 Z0 Os i1 i2) hZ (hw _ (List.mem_of_getElem? (i := 71) rfl)) (hw _ (List.mem_of_getElem? (i := 7) rfl)) (by decide) (by decide)) (g := (mkF m 3 #[.val (.ref ob), .val (.int vi)] [(.int zl), (.int vi)])) rfl (by rw [hml]; rfl) (argsL := [(.int vi), (.int zl)]) (rest := []) (lenOf pd_6 rfl) rfl (by show 2 * 0 + _ ≤ _; exact Nat.le_of_eq rfl) (hb hby d14_3) (fun _ _ => ⟨rfl, e0, (by decide : 0 + 0 ≤ _), (by decide : 0 + 0 ≤ _)⟩)
  dsimp only [Pt.U, Pt.locs, Pt.cells, Pt.slots] at X2 l2 y2 z2 st2 hQ2
  rw [l2, y2, z2] at X2
  obtain ⟨rfl, N2q, e2⟩ := hQ2
  have N2 := Fr.app N0 N2q
  obtain ⟨cl3, Ar3, q3, S3, M3, H3, G3⟩ := id Vb
  have hin3 : ¬ (vi < 0 ∨ cl3.slots.size ≤ (vi).toNatClampNeg) := inb_of S3 ⟨by rw [Int32.lt_iff_toInt_lt]; have k0 : (0 : Int32).toInt = 0 := (by decide); omega, by rw [Int32.lt_iff_toInt_lt]; omega⟩
  have hat3 : cl3.slots[(vi).toNatClampNeg]? = some (.int b) := Has.at H3 hin3 gb
  obtain ⟨fs, hr, hrun, hended, hW, hsame⟩ := X2.leave (v := some (.int (nar .char ((b &&& (255 : Int32)).toUInt32.toUInt16.toUInt32.toInt32)))) (fun h => by rw [Bd.returns] at h; cases h)
  refine ⟨_, _, pre0 _ ?_, hrun, hended, _, _, rfl, ?_, ⟨_, rfl⟩, hW, hsame.mono (by decide) (by decide)⟩
  · refine XS.iloadN X0.here hx rfl (hb hby d14_0) rfl ?_
    refine XS.aloadN X0.here hx rfl (hb hby d14_1) rfl rfl ?_
    refine X0.arraylength hx (by rw [e0]; exact Ar1.1) (State.isArrayOf_alike hZ.alike Ar1.2.1) (g := (mkF m 2 #[.val (.ref ob), .val (.int vi)] [(.ref ob), (.int vi)])) rfl rfl (hb hby d14_2) _ ?_
    rw [len_of S1 M1]
    refine st2 _ ?_
    refine XS.aloadN X2.here hx rfl (hb hby d14_6) rfl rfl ?_
    refine XS.iloadN X2.here hx rfl (hb hby d14_7) rfl ?_
    refine X2.baloadBytes hx (j := vi) (v := (.int b)) (by rw [e2]; exact Ar3.1) (State.isArrayOf_alike hZ.alike Ar3.2.1) Ar3.2.2 hin3 hat3 (g := (mkF m 8 #[.val (.ref ob), .val (.int vi)] [(.int vi), (.ref ob)])) rfl rfl (hb hby d14_8) _ ?_
    show Steps p.tables e below (T2.setTop (mkF m 9 #[.val (.ref ob), .val (.int vi)] [(.int b)])) _
    refine XS.sipush X2.here hx rfl (hb hby d14_9) ?_
    refine XS.iand X2.here hx rfl (hb hby d14_12) rfl ?_
    refine XS.i2c X2.here hx rfl (hb hby d14_13) rfl ?_
    exact retN X2 hx (t := .char) Bd.returns (by simp) (hb hby d14_14) hr
  · show Q_l1ch Z _ _ _ _ _ _ _ _ h0 n0 _ T2.heap _
    rw [e2]
    exact ⟨_, rfl, by rw [own_narcZ]; have := rng32 b; have : ((b &&& (255 : Int32))).toInt = b.toInt % 256 := c_mask b (255 : Int32) 8 (by decide) (by decide); (first | (have : (((b &&& (255 : Int32)).toUInt32.toUInt16.toUInt32.toInt32)).toInt = (b &&& (255 : Int32)).toInt := (by have := c_i2c (b &&& (255 : Int32)); omega)) | (have := c_i2c (b &&& (255 : Int32)))); omega, N2, rfl⟩
theorem d12_0 : decode jdk_42_method_56_code 0 = .ok (.aload_n 0, 1) := by decide +kernel
theorem d12_1 : decode jdk_42_method_56_code 1 = .ok (.invokevirtual 492, 3) := by decide +kernel
theorem d12_4 : decode jdk_42_method_56_code 4 = .ok (.ifCond .eq 12, 3) := by decide +kernel
theorem d12_7 : decode jdk_42_method_56_code 7 = .ok (.aload_n 0, 1) := by decide +kernel
theorem d12_8 : decode jdk_42_method_56_code 8 = .ok (.getfield 9, 3) := by decide +kernel
theorem d12_11 : decode jdk_42_method_56_code 11 = .ok (.iload_n 1, 1) := by decide +kernel
theorem d12_12 : decode jdk_42_method_56_code 12 = .ok (.invokestatic 495, 3) := by decide +kernel
theorem d12_15 : decode jdk_42_method_56_code 15 = .ok (.ireturn, 1) := by decide +kernel
theorem ef_rm_ch1 (m : MethodId) (x0 : Addr) (x1 : Int32) : entryFrame m #[(.ref x0), (.int x1)] 2 = mkF m 0 #[.val (.ref x0), .val (.int x1)] [] := by first | (simp [entryFrame, mkF, argsToLocals, Value.category]; done) | rfl
theorem pd_7 : parseMethodDescriptor "()Z" = some ⟨[], some .boolean⟩ := by decide +kernel
theorem pd_8 : parseMethodDescriptor "([BI)C" = some ⟨[(.array .byte), .int], some .char⟩ := by decide +kernel
def Q_ch1 (Z : State) (oa : Addr) (vi : Int32) (vcs : Int32) (vf : Value) (ob : Addr) (kb : ClassId) (zl : Int32) (vs : List Value) (b : Int32) (h0 : Heap) (n0 : Nat) (v : Option Value) (h : Heap) (L : List Loc) : Prop := ∃ z : Int32, v = some (.int z) ∧ (z.toInt = b.toInt % 256) ∧ Fr n0 L ∧ h = h0
set_option maxRecDepth 65536 in
set_option maxHeartbeats 40000000 in
theorem rm_ch1 (l : Launch) (Z : State) (a0 : Array Value) (hw : ∀ d ∈ tables_1, d.before a0 Z = true) (ws : List Jvm.Cond) (oa : Addr) (vi : Int32) (vcs : Int32) (vf : Value) (ob : Addr) (kb : ClassId) (zl : Int32) (vs : List Value) (b : Int32) (h0 : Heap) (n0 : Nat) (Z0 : n0 ≤ h0.size) (Os : own_st Z h0 vcs vf) (Es : Exa Z h0 oa "java/lang/String") (Fc : Fld Z h0 oa "java/lang/String" "coder" "B" (.int (0 : Int32))) (Fv : Fld Z h0 oa "java/lang/String" "value" "[B" (.ref ob)) (Vb : Arv Z h0 ob kb .byte zl vs (.int (0 : Int32))) (i1 : 0 ≤ vi.toInt) (i2 : vi.toInt < zl.toInt) (gb : vs.getD vi.toNatClampNeg (.int (0 : Int32)) = .int b) :
    MetFree l (⟨"java/lang/String", "charAt", "(I)C"⟩ : MethodName) (head1 (Jvm.Cond.code (⟨"java/lang/String", "charAt", "(I)C"⟩ : MethodName) jdk_42_method_56_code 2 (some .char) :: ws) ({ frames := 3, cells := 0, slots := 0, locals := 40 } : Room)) (fun a U => a = #[(.ref oa), (.int vi)] ∧ Z.Warmed39 U.vm ∧ U.heap = h0) (fun _ _ _ _ _ => True) (fun _ U o U' => ∃ v L, o = .returned v ∧ Q_ch1 Z oa vi vcs vf ob kb zl vs b h0 n0 v U'.heap L ∧ FrameEnd U o U' L ({ frames := 3, cells := 0, slots := 0, locals := 40 } : Room).cells ({ frames := 3, cells := 0, slots := 0, locals := 40 } : Room).slots) := by
  refine MetFree.of_bodySF (plainFor_of_name pn_1) hisR ?_
  intro p e s m args below meth c s₁ Bd hml0 hP hK
  obtain ⟨rfl, hZ, hh⟩ := hP
  have hx := Bd.exec
  have hby := Bd.bytes
  have hml : c.maxLocals = 2 := hml0
  have hown : s.vm.findClass "java/lang/String" = some m.cls := findClass_of_methodNamed Bd.named
  have hnm := (name_of_methodNamed Bd.named Bd.method).1
  have X0 : Stand p l e ({ frames := 3, cells := 0, slots := 0, locals := 40 } : Room) s m #[(.ref oa), (.int vi)] below meth c s₁ [] 0 0 := Stand.of_body Bd
  have e0 : s₁.heap = h0 := by rw [← hh, Bd.state]; rfl
  have N0 := Fr.nil n0
  have pre0 : ∀ t, Steps p.tables e below (s₁.setTop (mkF m 0 #[.val (.ref oa), .val (.int vi)] [])) t → Steps p.tables e below (s₁.setTop (entryFrame m #[(.ref oa), (.int vi)] 2)) t := fun t k => castTop (ef_rm_ch1 m oa vi) k
  obtain ⟨cq1, kq1, q1a, q1b, q1c⟩ := isOf hZ e0 Es
  obtain ⟨_, _, ⟨T1, L1, k1, n1⟩, -, X1, ⟨Lc1, hQ1, l1, y1, z1⟩, st1⟩ := X0.virtualBack hx (y := (⟨"java/lang/String", "isLatin1", "()Z"⟩ : MethodName)) (z := (⟨"java/lang/String", "isLatin1", "()Z"⟩ : MethodName)) hown (mvT hZ (hw _ (List.mem_of_getElem? (i := 60) rfl))) (mvT hZ (hw _ (List.mem_of_getElem? (i := 61) rfl))) (notFace_of_selects (args := #[]) (mvT hZ (hw _ (List.mem_of_getElem? (i := 63) rfl)))) (mvT hZ (hw _ (List.mem_of_getElem? (i := 63) rfl))) (mvT hZ (hw _ (List.mem_of_getElem? (i := 62) rfl))) (by decide) (backOf (W := 0) (rm_lat0 l Z a0 hw [] oa vcs vf h0 n0 Z0 Os Fc) hZ (hw _ (List.mem_of_getElem? (i := 64) rfl)) (hw _ (List.mem_of_getElem? (i := 7) rfl)) (by decide) (by decide)) q1a q1c (g := (mkF m 1 #[.val (.ref oa), .val (.int vi)] [(.ref oa)])) rfl (by rw [hml]; rfl) (Steps.refl _) (argsL := []) (rest := []) (lenOf pd_7 rfl) rfl (by show 2 * 0 + _ ≤ _; exact Nat.le_of_eq rfl) (hb hby d12_1) (fun _ _ => ⟨rfl, e0, (by decide : 0 + 0 ≤ _), (by decide : 0 + 0 ≤ _)⟩)
  dsimp only [Pt.U, Pt.locs, Pt.cells, Pt.slots] at X1 l1 y1 z1 st1 hQ1
  rw [l1, y1, z1] at X1
  obtain ⟨zl1, rfl, hzl1, N1q, e1⟩ := hQ1
  have N1 := Fr.app N0 N1q
  have pre2 : ∀ t, Steps p.tables e below (T1.setTop (mkF m 4 #[.val (.ref oa), .val (.int vi)] [(.int zl1)])) t → Steps p.tables e below (s₁.setTop (entryFrame m #[(.ref oa), (.int vi)] 2)) t := fun t kt => by
    refine pre0 _ ?_
    refine XS.aloadN X0.here hx rfl (hb hby d12_0) rfl rfl ?_
    refine st1.trans ?_
    exact kt
  subst hzl1
  have pre3 : ∀ t, Steps p.tables e below (T1.setTop (mkF m 4 #[.val (.ref oa), .val (.int vi)] [(.int (1 : Int32))])) t → Steps p.tables e below (s₁.setTop (entryFrame m #[(.ref oa), (.int vi)] 2)) t := pre2
  have hc4_4 : ¬ ((1 : Int) = (0 : Int)) := by decide
  obtain ⟨T5, X5, e5, st5⟩ := getF X1 hx hZ hown (host := "") (Or.inl (hw _ (List.mem_of_getElem? (i := 25) rfl))) Via.refl e1 Fv (g := (mkF m 8 #[.val (.ref oa), .val (.int vi)] [(.ref oa)])) rfl rfl (hb hby d12_8)
  obtain ⟨_, _, ⟨T6, L6, k6, n6⟩, -, X6, ⟨Lc6, hQ6, l6, y6, z6⟩, st6⟩ := Jvm.LawKit.callS X5 hx (y := (⟨"java/lang/StringLatin1", "charAt", "([BI)C"⟩ : MethodName)) hown (mvT hZ (hw _ (List.mem_of_getElem? (i := 65) rfl))) (mvT hZ (hw _ (List.mem_of_getElem? (i := 66) rfl))) (mvT hZ (hw _ (List.mem_of_getElem? (i := 67) rfl))) (mvT hZ (hw _ (List.mem_of_getElem? (i := 68) rfl))) (by decide) (backOf (W := 0) (rm_l1ch l Z a0 hw [] ob vi vcs vf kb zl vs b h0 n0 Z0 Os Vb i1 i2 gb) hZ (hw _ (List.mem_of_getElem? (i := 68) rfl)) (hw _ (List.mem_of_getElem? (i := 67) rfl)) (by decide) (by decide)) (g := (mkF m 12 #[.val (.ref oa), .val (.int vi)] [(.int vi), (.ref ob)])) rfl (by rw [hml]; rfl) (argsL := [(.ref ob), (.int vi)]) (rest := []) (lenOf pd_8 rfl) rfl (by show 2 * 0 + _ ≤ _; exact Nat.le_of_eq rfl) (hb hby d12_12) (fun _ _ => ⟨rfl, e5, (by decide : 0 + 0 ≤ _), (by decide : 0 + 0 ≤ _)⟩)
  dsimp only [Pt.U, Pt.locs, Pt.cells, Pt.slots] at X6 l6 y6 z6 st6 hQ6
  rw [l6, y6, z6] at X6
  obtain ⟨zr, rfl, hzr, N6q, e6⟩ := hQ6
  have N6 := Fr.app N1 N6q
  obtain ⟨fs, hr, hrun, hended, hW, hsame⟩ := X6.leave (v := some (.int (nar .char zr))) (fun h => by rw [Bd.returns] at h; cases h)
  refine ⟨_, _, pre3 _ ?_, hrun, hended, _, _, rfl, ?_, ⟨_, rfl⟩, hW, hsame.mono (by decide) (by decide)⟩
  · refine XS.ifNo X1.here hx rfl (hb hby d12_4) rfl (own_if (own_feq (a := (1 : Int32)) (b := (0 : Int32)) (by decide) (by decide) hc4_4).1) ?_
    refine XS.aloadN X1.here hx rfl (hb hby d12_7) rfl rfl ?_
    refine st5 _ ?_
    refine XS.iloadN X5.here hx rfl (hb hby d12_11) rfl ?_
    refine st6 _ ?_
    show Steps p.tables e below (T6.setTop (mkF m 15 #[.val (.ref oa), .val (.int vi)] [(.int zr)])) _
    exact retN X6 hx (t := .char) Bd.returns (by simp) (hb hby d12_15) hr
  · show Q_ch1 Z _ _ _ _ _ _ _ _ _ h0 n0 _ T6.heap _
    rw [e6]
    exact ⟨_, rfl, by rw [own_narcZ, hzr]; omega, N6, rfl⟩
theorem d7_0 : decode jdk_42_method_152_code 0 = .ok (.getstatic 38, 3) := by decide +kernel
theorem d7_3 : decode jdk_42_method_152_code 3 = .ok (.ifCond .eq 10, 3) := by decide +kernel
theorem d7_6 : decode jdk_42_method_152_code 6 = .ok (.aload_n 0, 1) := by decide +kernel
theorem d7_7 : decode jdk_42_method_152_code 7 = .ok (.getfield 15, 3) := by decide +kernel
theorem d7_10 : decode jdk_42_method_152_code 10 = .ok (.goto 4, 3) := by decide +kernel
theorem d7_14 : decode jdk_42_method_152_code 14 = .ok (.ireturn, 1) := by decide +kernel
theorem ef_rm_cod0 (m : MethodId) (x0 : Addr) : entryFrame m #[(.ref x0)] 1 = mkF m 0 #[.val (.ref x0)] [] := by first | (simp [entryFrame, mkF, argsToLocals, Value.category]; done) | rfl
def Q_cod0 (Z : State) (oa : Addr) (vcs : Int32) (vf : Value) (h0 : Heap) (n0 : Nat) (v : Option Value) (h : Heap) (L : List Loc) : Prop := ∃ z : Int32, v = some (.int z) ∧ (z = (0 : Int32)) ∧ Fr n0 L ∧ h = h0
set_option maxRecDepth 65536 in
set_option maxHeartbeats 40000000 in
theorem rm_cod0 (l : Launch) (Z : State) (a0 : Array Value) (hw : ∀ d ∈ tables_1, d.before a0 Z = true) (ws : List Jvm.Cond) (oa : Addr) (vcs : Int32) (vf : Value) (h0 : Heap) (n0 : Nat) (Z0 : n0 ≤ h0.size) (Os : own_st Z h0 vcs vf) (Fc : Fld Z h0 oa "java/lang/String" "coder" "B" (.int (0 : Int32))) :
    MetFree l (⟨"java/lang/String", "coder", "()B"⟩ : MethodName) (head1 (Jvm.Cond.code (⟨"java/lang/String", "coder", "()B"⟩ : MethodName) jdk_42_method_152_code 1 (some .byte) :: ws) ({ frames := 0, cells := 0, slots := 0, locals := 0 } : Room)) (fun a U => a = #[(.ref oa)] ∧ Z.Warmed39 U.vm ∧ U.heap = h0) (fun _ _ _ _ _ => True) (fun _ U o U' => ∃ v L, o = .returned v ∧ Q_cod0 Z oa vcs vf h0 n0 v U'.heap L ∧ FrameEnd U o U' L ({ frames := 0, cells := 0, slots := 0, locals := 0 } : Room).cells ({ frames := 0, cells := 0, slots := 0, locals := 0 } : Room).slots) := by
  refine MetFree.of_bodySF (plainFor_of_name pn_1) hisR ?_
  intro p e s m args below meth c s₁ Bd hml0 hP hK
  obtain ⟨rfl, hZ, hh⟩ := hP
  have hx := Bd.exec
  have hby := Bd.bytes
  have hml : c.maxLocals = 1 := hml0
  have hown : s.vm.findClass "java/lang/String" = some m.cls := findClass_of_methodNamed Bd.named
  have hnm := (name_of_methodNamed Bd.named Bd.method).1
  have X0 : Stand p l e ({ frames := 0, cells := 0, slots := 0, locals := 0 } : Room) s m #[(.ref oa)] below meth c s₁ [] 0 0 := Stand.of_body Bd
  have e0 : s₁.heap = h0 := by rw [← hh, Bd.state]; rfl
  have N0 := Fr.nil n0
  have pre0 : ∀ t, Steps p.tables e below (s₁.setTop (mkF m 0 #[.val (.ref oa)] [])) t → Steps p.tables e below (s₁.setTop (entryFrame m #[(.ref oa)] 1)) t := fun t k => castTop (ef_rm_cod0 m oa) k
  obtain ⟨T1, X1, e1, st1⟩ := getS2 X0 hx hZ hown (host := "") (Or.inl (hw _ (List.mem_of_getElem? (i := 41) rfl))) Via.refl e0 Os.1 (g := (mkF m 0 #[.val (.ref oa)] [])) rfl (hb hby d7_0)
  have hc3_2 : ¬ (vcs.toInt = (0 : Int)) := by (have q := Os.2.1; omega)
  obtain ⟨T3, X3, e3, st3⟩ := getF X1 hx hZ hown (host := "") (Or.inl (hw _ (List.mem_of_getElem? (i := 26) rfl))) Via.refl e1 Fc (g := (mkF m 7 #[.val (.ref oa)] [(.ref oa)])) rfl rfl (hb hby d7_7)
  obtain ⟨fs, hr, hrun, hended, hW, hsame⟩ := X3.leave (v := some (.int (0 : Int32))) (fun h => by rw [Bd.returns] at h; cases h)
  refine ⟨_, _, pre0 _ ?_, hrun, hended, _, _, rfl, ?_, ⟨_, rfl⟩, hW, hsame.mono (by decide) (by decide)⟩
  · refine st1 _ ?_
    refine XS.ifNo X1.here hx rfl (hb hby d7_3) rfl (own_if (own_feq (a := vcs) (b := (0 : Int32)) rfl (by decide) hc3_2).1) ?_
    refine XS.aloadN X1.here hx rfl (hb hby d7_6) rfl rfl ?_
    refine st3 _ ?_
    refine XS.goto X3.here hx rfl (pc0 := 10) (pc' := 14) rfl (hb hby d7_10) (by decide) (by decide) ?_
    exact retN X3 hx (t := .byte) Bd.returns (by simp) (hb hby d7_14) hr
  · show Q_cod0 Z _ _ _ h0 n0 _ T3.heap _
    rw [e3]
    exact ⟨_, rfl, rfl, N0, rfl⟩
theorem d6_0 : decode jdk_42_method_54_code 0 = .ok (.aload_n 0, 1) := by decide +kernel
theorem d6_1 : decode jdk_42_method_54_code 1 = .ok (.getfield 9, 3) := by decide +kernel
theorem d6_4 : decode jdk_42_method_54_code 4 = .ok (.arraylength, 1) := by decide +kernel
theorem d6_5 : decode jdk_42_method_54_code 5 = .ok (.aload_n 0, 1) := by decide +kernel
theorem d6_6 : decode jdk_42_method_54_code 6 = .ok (.invokevirtual 335, 3) := by decide +kernel
theorem d6_9 : decode jdk_42_method_54_code 9 = .ok (.ishr, 1) := by decide +kernel
theorem d6_10 : decode jdk_42_method_54_code 10 = .ok (.ireturn, 1) := by decide +kernel
theorem ef_rm_len0_0 (m : MethodId) (x0 : Addr) : entryFrame m #[(.ref x0)] 1 = mkF m 0 #[.val (.ref x0)] [] := by first | (simp [entryFrame, mkF, argsToLocals, Value.category]; done) | rfl
theorem pd_9 : parseMethodDescriptor "()B" = some ⟨[], some .byte⟩ := by decide +kernel
def Q_len0_0 (Z : State) (oa : Addr) (vcs : Int32) (vf : Value) (ob : Addr) (kb : ClassId) (vs : List Value) (h0 : Heap) (n0 : Nat) (v : Option Value) (h : Heap) (L : List Loc) : Prop := ∃ z : Int32, v = some (.int z) ∧ (z = (0 : Int32)) ∧ Fr n0 L ∧ h = h0
set_option maxRecDepth 65536 in
set_option maxHeartbeats 40000000 in
theorem rm_len0_0 (l : Launch) (Z : State) (a0 : Array Value) (hw : ∀ d ∈ tables_1, d.before a0 Z = true) (ws : List Jvm.Cond) (oa : Addr) (vcs : Int32) (vf : Value) (ob : Addr) (kb : ClassId) (vs : List Value) (h0 : Heap) (n0 : Nat) (Z0 : n0 ≤ h0.size) (Os : own_st Z h0 vcs vf) (Es : Exa Z h0 oa "java/lang/String") (Fc : Fld Z h0 oa "java/lang/String" "coder" "B" (.int (0 : Int32))) (Fv : Fld Z h0 oa "java/lang/String" "value" "[B" (.ref ob)) (Vb : Arv Z h0 ob kb .byte (0 : Int32) vs (.int (0 : Int32))) :
    MetFree l (⟨"java/lang/String", "length", "()I"⟩ : MethodName) (head1 (Jvm.Cond.code (⟨"java/lang/String", "length", "()I"⟩ : MethodName) jdk_42_method_54_code 1 (some .int) :: ws) ({ frames := 1, cells := 0, slots := 0, locals := 13 } : Room)) (fun a U => a = #[(.ref oa)] ∧ Z.Warmed39 U.vm ∧ U.heap = h0) (fun _ _ _ _ _ => True) (fun _ U o U' => ∃ v L, o = .returned v ∧ Q_len0_0 Z oa vcs vf ob kb vs h0 n0 v U'.heap L ∧ FrameEnd U o U' L ({ frames := 1, cells := 0, slots := 0, locals := 13 } : Room).cells ({ frames := 1, cells := 0, slots := 0, locals := 13 } : Room).slots) := by
  refine MetFree.of_bodySF (plainFor_of_name pn_1) hisR ?_
  intro p e s m args below meth c s₁ Bd hml0 hP hK
  obtain ⟨rfl, hZ, hh⟩ := hP
  have hx := Bd.exec
  have hby := Bd.bytes
  have hml : c.maxLocals = 1 := hml0
  have hown : s.vm.findClass "java/lang/String" = some m.cls := findClass_of_methodNamed Bd.named
  have hnm := (name_of_methodNamed Bd.named Bd.method).1
  have X0 : Stand p l e ({ frames := 1, cells := 0, slots := 0, locals := 13 } : Room) s m #[(.ref oa)] below meth c s₁ [] 0 0 := Stand.of_body Bd
  have e0 : s₁.heap = h0 := by rw [← hh, Bd.state]; rfl
  have N0 := Fr.nil n0
  have pre0 : ∀ t, Steps p.tables e below (s₁.setTop (mkF m 0 #[.val (.ref oa)] [])) t → Steps p.tables e below (s₁.setTop (entryFrame m #[(.ref oa)] 1)) t := fun t k => castTop (ef_rm_len0_0 m oa) k
  obtain ⟨T1, X1, e1, st1⟩ := getF X0 hx hZ hown (host := "") (Or.inl (hw _ (List.mem_of_getElem? (i := 25) rfl))) Via.refl e0 Fv (g := (mkF m 1 #[.val (.ref oa)] [(.ref oa)])) rfl rfl (hb hby d6_1)
  obtain ⟨cl2, Ar2, q2, S2, M2, H2, G2⟩ := id Vb
  obtain ⟨cq3, kq3, q3a, q3b, q3c⟩ := isOf hZ e1 Es
  obtain ⟨_, _, ⟨T3, L3, k3, n3⟩, -, X3, ⟨Lc3, hQ3, l3, y3, z3⟩, st3⟩ := X1.virtualBack hx (y := (⟨"java/lang/String", "coder", "()B"⟩ : MethodName)) (z := (⟨"java/lang/String", "coder", "()B"⟩ : MethodName)) hown (mvT hZ (hw _ (List.mem_of_getElem? (i := 36) rfl))) (mvT hZ (hw _ (List.mem_of_getElem? (i := 37) rfl))) (notFace_of_selects (args := #[]) (mvT hZ (hw _ (List.mem_of_getElem? (i := 39) rfl)))) (mvT hZ (hw _ (List.mem_of_getElem? (i := 39) rfl))) (mvT hZ (hw _ (List.mem_of_getElem? (i := 38) rfl))) (by decide) (backOf (W := 1) (rm_cod0 l Z a0 hw [] oa vcs vf h0 n0 Z0 Os Fc) hZ (hw _ (List.mem_of_getElem? (i := 40) rfl)) (hw _ (List.mem_of_getElem? (i := 7) rfl)) (by decide) (by decide)) q3a q3c (g := (mkF m 6 #[.val (.ref oa)] [(.ref oa), (.int (0 : Int32))])) rfl (by rw [hml]; rfl) (Steps.refl _) (argsL := []) (rest := [(.int (0 : Int32))]) (lenOf pd_9 rfl) rfl (by show 2 * 0 + _ ≤ _; exact Nat.le_of_eq rfl) (hb hby d6_6) (fun _ _ => ⟨rfl, e1, (by decide : 0 + 0 ≤ _), (by decide : 0 + 0 ≤ _)⟩)
  dsimp only [Pt.U, Pt.locs, Pt.cells, Pt.slots] at X3 l3 y3 z3 st3 hQ3
  rw [l3, y3, z3] at X3
  obtain ⟨zc, rfl, hzc, N3q, e3⟩ := hQ3
  have N3 := Fr.app N0 N3q
  have pre4 : ∀ t, Steps p.tables e below (T3.setTop (mkF m 9 #[.val (.ref oa)] [(.int zc), (.int (0 : Int32))])) t → Steps p.tables e below (s₁.setTop (entryFrame m #[(.ref oa)] 1)) t := fun t kt => by
    refine pre0 _ ?_
    refine XS.aloadN X0.here hx rfl (hb hby d6_0) rfl rfl ?_
    refine st1 _ ?_
    refine X1.arraylength hx (by rw [e1]; exact Ar2.1) (State.isArrayOf_alike hZ.alike Ar2.2.1) (g := (mkF m 4 #[.val (.ref oa)] [(.ref ob)])) rfl rfl (hb hby d6_4) _ ?_
    rw [len_of S2 M2]
    refine XS.aloadN X1.here hx rfl (hb hby d6_5) rfl rfl ?_
    refine st3.trans ?_
    exact kt
  subst hzc
  have pre5 : ∀ t, Steps p.tables e below (T3.setTop (mkF m 9 #[.val (.ref oa)] [(.int (0 : Int32)), (.int (0 : Int32))])) t → Steps p.tables e below (s₁.setTop (entryFrame m #[(.ref oa)] 1)) t := pre4
  obtain ⟨fs, hr, hrun, hended, hW, hsame⟩ := X3.leave (v := some (.int (0 : Int32))) (fun h => by rw [Bd.returns] at h; cases h)
  refine ⟨_, _, pre5 _ ?_, hrun, hended, _, _, rfl, ?_, ⟨_, rfl⟩, hW, hsame.mono (by decide) (by decide)⟩
  · refine XS.ishr X3.here hx rfl (hb hby d6_9) rfl ?_
    exact retI X3 hx Bd.returns (hb hby d6_10) hr
  · show Q_len0_0 Z _ _ _ _ _ _ h0 n0 _ T3.heap _
    rw [e3]
    exact ⟨_, rfl, rfl, N3, rfl⟩
theorem d5_0 : decode prog_36_method_4_code 0 = .ok (.iload_n 1, 1) := by decide +kernel
theorem d5_1 : decode prog_36_method_4_code 1 = .ok (.istore_n 2, 1) := by decide +kernel
theorem d5_2 : decode prog_36_method_4_code 2 = .ok (.iload_n 2, 1) := by decide +kernel
theorem d5_3 : decode prog_36_method_4_code 3 = .ok (.aload_n 0, 1) := by decide +kernel
theorem d5_4 : decode prog_36_method_4_code 4 = .ok (.invokevirtual 23, 3) := by decide +kernel
theorem d5_7 : decode prog_36_method_4_code 7 = .ok (.if_icmp .ge 29, 3) := by decide +kernel
theorem d5_36 : decode prog_36_method_4_code 36 = .ok (.iload_n 2, 1) := by decide +kernel
theorem d5_37 : decode prog_36_method_4_code 37 = .ok (.ireturn, 1) := by decide +kernel
theorem pn_5 : plainName "com/example/path_template_matcher/pathtemplatematcher/UriReference" = true := by first | (simp [plainName, overriddenIn]; done) | decide +kernel
theorem ef_rm_pe0_0 (m : MethodId) (x0 : Addr) : entryFrame m #[(.ref x0), (.int (0 : Int32))] 3 = mkF m 0 #[.val (.ref x0), .val (.int (0 : Int32)), .unset] [] := by first | (simp [entryFrame, mkF, argsToLocals, Value.category]; done) | rfl
theorem pd_10 : parseMethodDescriptor "()I" = some ⟨[], some .int⟩ := by decide +kernel
def Q_pe0_0 (Z : State) (oa : Addr) (vcs : Int32) (vf : Value) (ob : Addr) (kb : ClassId) (h0 : Heap) (n0 : Nat) (v : Option Value) (h : Heap) (L : List Loc) : Prop := ∃ z : Int32, v = some (.int z) ∧ (z.toInt = (0 : Int)) ∧ Fr n0 L ∧ h = h0
set_option maxRecDepth 65536 in
set_option maxHeartbeats 40000000 in
theorem rm_pe0_0 (l : Launch) (Z : State) (a0 : Array Value) (hw : ∀ d ∈ tables_1, d.before a0 Z = true) (ws : List Jvm.Cond) (oa : Addr) (vcs : Int32) (vf : Value) (ob : Addr) (kb : ClassId) (h0 : Heap) (n0 : Nat) (Z0 : n0 ≤ h0.size) (Os : own_st Z h0 vcs vf) (Es : Exa Z h0 oa "java/lang/String") (Fc : Fld Z h0 oa "java/lang/String" "coder" "B" (.int (0 : Int32))) (Fv : Fld Z h0 oa "java/lang/String" "value" "[B" (.ref ob)) (Vb : Arv Z h0 ob kb .byte (0 : Int32) [] (.int (0 : Int32))) :
    MetFree l (⟨"com/example/path_template_matcher/pathtemplatematcher/UriReference", "pathEnd", "(Ljava/lang/String;I)I"⟩ : MethodName) (head1 (Jvm.Cond.code (⟨"com/example/path_template_matcher/pathtemplatematcher/UriReference", "pathEnd", "(Ljava/lang/String;I)I"⟩ : MethodName) prog_36_method_4_code 3 (some .int) :: ws) ({ frames := 2, cells := 0, slots := 0, locals := 26 } : Room)) (fun a U => a = #[(.ref oa), (.int (0 : Int32))] ∧ Z.Warmed39 U.vm ∧ U.heap = h0) (fun _ _ _ _ _ => True) (fun _ U o U' => ∃ v L, o = .returned v ∧ Q_pe0_0 Z oa vcs vf ob kb h0 n0 v U'.heap L ∧ FrameEnd U o U' L ({ frames := 2, cells := 0, slots := 0, locals := 26 } : Room).cells ({ frames := 2, cells := 0, slots := 0, locals := 26 } : Room).slots) := by
  refine MetFree.of_bodySF (plainFor_of_name pn_5) hisR ?_
  intro p e s m args below meth c s₁ Bd hml0 hP hK
  obtain ⟨rfl, hZ, hh⟩ := hP
  have hx := Bd.exec
  have hby := Bd.bytes
  have hml : c.maxLocals = 3 := hml0
  have hown : s.vm.findClass "com/example/path_template_matcher/pathtemplatematcher/UriReference" = some m.cls := findClass_of_methodNamed Bd.named
  have hnm := (name_of_methodNamed Bd.named Bd.method).1
  have X0 : Stand p l e ({ frames := 2, cells := 0, slots := 0, locals := 26 } : Room) s m #[(.ref oa), (.int (0 : Int32))] below meth c s₁ [] 0 0 := Stand.of_body Bd
  have e0 : s₁.heap = h0 := by rw [← hh, Bd.state]; rfl
  have N0 := Fr.nil n0
  have pre0 : ∀ t, Steps p.tables e below (s₁.setTop (mkF m 0 #[.val (.ref oa), .val (.int (0 : Int32)), .unset] [])) t → Steps p.tables e below (s₁.setTop (entryFrame m #[(.ref oa), (.int (0 : Int32))] 3)) t := fun t k => castTop (ef_rm_pe0_0 m oa) k
  obtain ⟨cq1, kq1, q1a, q1b, q1c⟩ := isOf hZ e0 Es
  obtain ⟨_, _, ⟨T1, L1, k1, n1⟩, -, X1, ⟨Lc1, hQ1, l1, y1, z1⟩, st1⟩ := X0.virtualBack hx (y := (⟨"java/lang/String", "length", "()I"⟩ : MethodName)) (z := (⟨"java/lang/String", "length", "()I"⟩ : MethodName)) hown (mvT hZ (hw _ (List.mem_of_getElem? (i := 31) rfl))) (mvT hZ (hw _ (List.mem_of_getElem? (i := 32) rfl))) (notFace_of_selects (args := #[]) (mvT hZ (hw _ (List.mem_of_getElem? (i := 34) rfl)))) (mvT hZ (hw _ (List.mem_of_getElem? (i := 34) rfl))) (mvT hZ (hw _ (List.mem_of_getElem? (i := 33) rfl))) (by decide) (backOf (W := 1) (rm_len0_0 l Z a0 hw [] oa vcs vf ob kb [] h0 n0 Z0 Os Es Fc Fv Vb) hZ (hw _ (List.mem_of_getElem? (i := 35) rfl)) (hw _ (List.mem_of_getElem? (i := 7) rfl)) (by decide) (by decide)) q1a q1c (g := (mkF m 4 #[.val (.ref oa), .val (.int (0 : Int32)), .val (.int (0 : Int32))] [(.ref oa), (.int (0 : Int32))])) rfl (by rw [hml]; rfl) (Steps.refl _) (argsL := []) (rest := [(.int (0 : Int32))]) (lenOf pd_10 rfl) rfl (by show 2 * 0 + _ ≤ _; exact Nat.le_of_eq rfl) (hb hby d5_4) (fun _ _ => ⟨rfl, e0, (by decide : 0 + 0 ≤ _), (by decide : 0 + 0 ≤ _)⟩)
  dsimp only [Pt.U, Pt.locs, Pt.cells, Pt.slots] at X1 l1 y1 z1 st1 hQ1
  rw [l1, y1, z1] at X1
  obtain ⟨zl1, rfl, hzl1, N1q, e1⟩ := hQ1
  have N1 := Fr.app N0 N1q
  have pre2 : ∀ t, Steps p.tables e below (T1.setTop (mkF m 7 #[.val (.ref oa), .val (.int (0 : Int32)), .val (.int (0 : Int32))] [(.int zl1), (.int (0 : Int32))])) t → Steps p.tables e below (s₁.setTop (entryFrame m #[(.ref oa), (.int (0 : Int32))] 3)) t := fun t kt => by
    refine pre0 _ ?_
    refine XS.iloadN X0.here hx rfl (hb hby d5_0) rfl ?_
    refine XS.istoreN X0.here hx rfl (hb hby d5_1) rfl (l' := #[.val (.ref oa), .val (.int (0 : Int32)), .val (.int (0 : Int32))]) rfl ?_
    refine XS.iloadN X0.here hx rfl (hb hby d5_2) rfl ?_
    refine XS.aloadN X0.here hx rfl (hb hby d5_3) rfl rfl ?_
    refine st1.trans ?_
    exact kt
  subst hzl1
  have pre3 : ∀ t, Steps p.tables e below (T1.setTop (mkF m 7 #[.val (.ref oa), .val (.int (0 : Int32)), .val (.int (0 : Int32))] [(.int (0 : Int32)), (.int (0 : Int32))])) t → Steps p.tables e below (s₁.setTop (entryFrame m #[(.ref oa), (.int (0 : Int32))] 3)) t := pre2
  have hc7_4 : ¬ ((0 : Int) < (0 : Int)) := by decide
  obtain ⟨fs, hr, hrun, hended, hW, hsame⟩ := X1.leave (v := some (.int (0 : Int32))) (fun h => by rw [Bd.returns] at h; cases h)
  refine ⟨_, _, pre3 _ ?_, hrun, hended, _, _, rfl, ?_, ⟨_, rfl⟩, hW, hsame.mono (by decide) (by decide)⟩
  · refine XS.icmpYes X1.here hx rfl (pc0 := 7) (pc' := 36) rfl (hb hby d5_7) rfl (own_flt (a := (0 : Int32)) (b := (0 : Int32)) (by decide) (by decide) hc7_4).2.1 (by decide) (by decide) ?_
    refine XS.iloadN X1.here hx rfl (hb hby d5_36) rfl ?_
    show Steps p.tables e below (T1.setTop (mkF m 37 #[.val (.ref oa), .val (.int (0 : Int32)), .val (.int (0 : Int32))] [(.int (0 : Int32))])) _
    exact retI X1 hx Bd.returns (hb hby d5_37) hr
  · show Q_pe0_0 Z _ _ _ _ _ h0 n0 _ T1.heap _
    rw [e1]
    exact ⟨_, rfl, by decide, N1, rfl⟩
theorem ef_rm_len1_0 (m : MethodId) (x0 : Addr) : entryFrame m #[(.ref x0)] 1 = mkF m 0 #[.val (.ref x0)] [] := by first | (simp [entryFrame, mkF, argsToLocals, Value.category]; done) | rfl
def Q_len1_0 (Z : State) (oa : Addr) (vcs : Int32) (vf : Value) (ob : Addr) (kb : ClassId) (vs : List Value) (h0 : Heap) (n0 : Nat) (v : Option Value) (h : Heap) (L : List Loc) : Prop := ∃ z : Int32, v = some (.int z) ∧ (z = (1 : Int32)) ∧ Fr n0 L ∧ h = h0
set_option maxRecDepth 65536 in
set_option maxHeartbeats 40000000 in
theorem rm_len1_0 (l : Launch) (Z : State) (a0 : Array Value) (hw : ∀ d ∈ tables_1, d.before a0 Z = true) (ws : List Jvm.Cond) (oa : Addr) (vcs : Int32) (vf : Value) (ob : Addr) (kb : ClassId) (vs : List Value) (h0 : Heap) (n0 : Nat) (Z0 : n0 ≤ h0.size) (Os : own_st Z h0 vcs vf) (Es : Exa Z h0 oa "java/lang/String") (Fc : Fld Z h0 oa "java/lang/String" "coder" "B" (.int (0 : Int32))) (Fv : Fld Z h0 oa "java/lang/String" "value" "[B" (.ref ob)) (Vb : Arv Z h0 ob kb .byte (1 : Int32) vs (.int (0 : Int32))) :
    MetFree l (⟨"java/lang/String", "length", "()I"⟩ : MethodName) (head1 (Jvm.Cond.code (⟨"java/lang/String", "length", "()I"⟩ : MethodName) jdk_42_method_54_code 1 (some .int) :: ws) ({ frames := 1, cells := 0, slots := 0, locals := 13 } : Room)) (fun a U => a = #[(.ref oa)] ∧ Z.Warmed39 U.vm ∧ U.heap = h0) (fun _ _ _ _ _ => True) (fun _ U o U' => ∃ v L, o = .returned v ∧ Q_len1_0 Z oa vcs vf ob kb vs h0 n0 v U'.heap L ∧ FrameEnd U o U' L ({ frames := 1, cells := 0, slots := 0, locals := 13 } : Room).cells ({ frames := 1, cells := 0, slots := 0, locals := 13 } : Room).slots) := by
  refine MetFree.of_bodySF (plainFor_of_name pn_1) hisR ?_
  intro p e s m args below meth c s₁ Bd hml0 hP hK
  obtain ⟨rfl, hZ, hh⟩ := hP
  have hx := Bd.exec
  have hby := Bd.bytes
  have hml : c.maxLocals = 1 := hml0
  have hown : s.vm.findClass "java/lang/String" = some m.cls := findClass_of_methodNamed Bd.named
  have hnm := (name_of_methodNamed Bd.named Bd.method).1
  have X0 : Stand p l e ({ frames := 1, cells := 0, slots := 0, locals := 13 } : Room) s m #[(.ref oa)] below meth c s₁ [] 0 0 := Stand.of_body Bd
  have e0 : s₁.heap = h0 := by rw [← hh, Bd.state]; rfl
  have N0 := Fr.nil n0
  have pre0 : ∀ t, Steps p.tables e below (s₁.setTop (mkF m 0 #[.val (.ref oa)] [])) t → Steps p.tables e below (s₁.setTop (entryFrame m #[(.ref oa)] 1)) t := fun t k => castTop (ef_rm_len1_0 m oa) k
  obtain ⟨T1, X1, e1, st1⟩ := getF X0 hx hZ hown (host := "") (Or.inl (hw _ (List.mem_of_getElem? (i := 25) rfl))) Via.refl e0 Fv (g := (mkF m 1 #[.val (.ref oa)] [(.ref oa)])) rfl rfl (hb hby d6_1)
  obtain ⟨cl2, Ar2, q2, S2, M2, H2, G2⟩ := id Vb
  obtain ⟨cq3, kq3, q3a, q3b, q3c⟩ := isOf hZ e1 Es
  obtain ⟨_, _, ⟨T3, L3, k3, n3⟩, -, X3, ⟨Lc3, hQ3, l3, y3, z3⟩, st3⟩ := X1.virtualBack hx (y := (⟨"java/lang/String", "coder", "()B"⟩ : MethodName)) (z := (⟨"java/lang/String", "coder", "()B"⟩ : MethodName)) hown (mvT hZ (hw _ (List.mem_of_getElem? (i := 36) rfl))) (mvT hZ (hw _ (List.mem_of_getElem? (i := 37) rfl))) (notFace_of_selects (args := #[]) (mvT hZ (hw _ (List.mem_of_getElem? (i := 39) rfl)))) (mvT hZ (hw _ (List.mem_of_getElem? (i := 39) rfl))) (mvT hZ (hw _ (List.mem_of_getElem? (i := 38) rfl))) (by decide) (backOf (W := 1) (rm_cod0 l Z a0 hw [] oa vcs vf h0 n0 Z0 Os Fc) hZ (hw _ (List.mem_of_getElem? (i := 40) rfl)) (hw _ (List.mem_of_getElem? (i := 7) rfl)) (by decide) (by decide)) q3a q3c (g := (mkF m 6 #[.val (.ref oa)] [(.ref oa), (.int (1 : Int32))])) rfl (by rw [hml]; rfl) (Steps.refl _) (argsL := []) (rest := [(.int (1 : Int32))]) (lenOf pd_9 rfl) rfl (by show 2 * 0 + _ ≤ _; exact Nat.le_of_eq rfl) (hb hby d6_6) (fun _ _ => ⟨rfl, e1, (by decide : 0 + 0 ≤ _), (by decide : 0 + 0 ≤ _)⟩)
  dsimp only [Pt.U, Pt.locs, Pt.cells, Pt.slots] at X3 l3 y3 z3 st3 hQ3
  rw [l3, y3, z3] at X3
  obtain ⟨zc, rfl, hzc, N3q, e3⟩ := hQ3
  have N3 := Fr.app N0 N3q
  have pre4 : ∀ t, Steps p.tables e below (T3.setTop (mkF m 9 #[.val (.ref oa)] [(.int zc), (.int (1 : Int32))])) t → Steps p.tables e below (s₁.setTop (entryFrame m #[(.ref oa)] 1)) t := fun t kt => by
    refine pre0 _ ?_
    refine XS.aloadN X0.here hx rfl (hb hby d6_0) rfl rfl ?_
    refine st1 _ ?_
    refine X1.arraylength hx (by rw [e1]; exact Ar2.1) (State.isArrayOf_alike hZ.alike Ar2.2.1) (g := (mkF m 4 #[.val (.ref oa)] [(.ref ob)])) rfl rfl (hb hby d6_4) _ ?_
    rw [len_of S2 M2]
    refine XS.aloadN X1.here hx rfl (hb hby d6_5) rfl rfl ?_
    refine st3.trans ?_
    exact kt
  subst hzc
  have pre5 : ∀ t, Steps p.tables e below (T3.setTop (mkF m 9 #[.val (.ref oa)] [(.int (0 : Int32)), (.int (1 : Int32))])) t → Steps p.tables e below (s₁.setTop (entryFrame m #[(.ref oa)] 1)) t := pre4
  obtain ⟨fs, hr, hrun, hended, hW, hsame⟩ := X3.leave (v := some (.int (1 : Int32))) (fun h => by rw [Bd.returns] at h; cases h)
  refine ⟨_, _, pre5 _ ?_, hrun, hended, _, _, rfl, ?_, ⟨_, rfl⟩, hW, hsame.mono (by decide) (by decide)⟩
  · refine XS.ishr X3.here hx rfl (hb hby d6_9) rfl ?_
    exact retI X3 hx Bd.returns (hb hby d6_10) hr
  · show Q_len1_0 Z _ _ _ _ _ _ h0 n0 _ T3.heap _
    rw [e3]
    exact ⟨_, rfl, rfl, N3, rfl⟩
theorem d5_10 : decode prog_36_method_4_code 10 = .ok (.aload_n 0, 1) := by decide +kernel
theorem d5_11 : decode prog_36_method_4_code 11 = .ok (.iload_n 2, 1) := by decide +kernel
theorem d5_12 : decode prog_36_method_4_code 12 = .ok (.invokevirtual 13, 3) := by decide +kernel
theorem d5_15 : decode prog_36_method_4_code 15 = .ok (.bipush 63, 2) := by decide +kernel
theorem d5_17 : decode prog_36_method_4_code 17 = .ok (.if_icmp .eq 19, 3) := by decide +kernel
theorem d5_20 : decode prog_36_method_4_code 20 = .ok (.aload_n 0, 1) := by decide +kernel
theorem d5_21 : decode prog_36_method_4_code 21 = .ok (.iload_n 2, 1) := by decide +kernel
theorem d5_22 : decode prog_36_method_4_code 22 = .ok (.invokevirtual 13, 3) := by decide +kernel
theorem d5_25 : decode prog_36_method_4_code 25 = .ok (.bipush 35, 2) := by decide +kernel
theorem d5_27 : decode prog_36_method_4_code 27 = .ok (.if_icmp .eq 9, 3) := by decide +kernel
theorem d5_30 : decode prog_36_method_4_code 30 = .ok (.iinc 2 1, 3) := by decide +kernel
theorem d5_33 : decode prog_36_method_4_code 33 = .ok (.goto (-31), 3) := by decide +kernel
theorem ef_rm_pe1_0 (m : MethodId) (x0 : Addr) : entryFrame m #[(.ref x0), (.int (0 : Int32))] 3 = mkF m 0 #[.val (.ref x0), .val (.int (0 : Int32)), .unset] [] := by first | (simp [entryFrame, mkF, argsToLocals, Value.category]; done) | rfl
theorem pd_11 : parseMethodDescriptor "(I)C" = some ⟨[.int], some .char⟩ := by decide +kernel
def Q_pe1_0 (Z : State) (oa : Addr) (vcs : Int32) (vf : Value) (ob : Addr) (kb : ClassId) (bb0 : Int32) (c0 : Int32) (h0 : Heap) (n0 : Nat) (v : Option Value) (h : Heap) (L : List Loc) : Prop := ∃ z : Int32, v = some (.int z) ∧ (z.toInt = (if own_stop c0.toInt then (0 : Int) else (1 : Int))) ∧ Fr n0 L ∧ h = h0
set_option maxRecDepth 65536 in
set_option maxHeartbeats 40000000 in
theorem rm_pe1_0 (l : Launch) (Z : State) (a0 : Array Value) (hw : ∀ d ∈ tables_1, d.before a0 Z = true) (ws : List Jvm.Cond) (oa : Addr) (vcs : Int32) (vf : Value) (ob : Addr) (kb : ClassId) (bb0 : Int32) (c0 : Int32) (h0 : Heap) (n0 : Nat) (Z0 : n0 ≤ h0.size) (Os : own_st Z h0 vcs vf) (Es : Exa Z h0 oa "java/lang/String") (Fc : Fld Z h0 oa "java/lang/String" "coder" "B" (.int (0 : Int32))) (Fv : Fld Z h0 oa "java/lang/String" "value" "[B" (.ref ob)) (Vb : Arv Z h0 ob kb .byte (1 : Int32) [(.int bb0)] (.int (0 : Int32))) (qbb0 : bb0.toInt % 256 = c0.toInt) :
    MetFree l (⟨"com/example/path_template_matcher/pathtemplatematcher/UriReference", "pathEnd", "(Ljava/lang/String;I)I"⟩ : MethodName) (head1 (Jvm.Cond.code (⟨"com/example/path_template_matcher/pathtemplatematcher/UriReference", "pathEnd", "(Ljava/lang/String;I)I"⟩ : MethodName) prog_36_method_4_code 3 (some .int) :: ws) ({ frames := 4, cells := 0, slots := 0, locals := 53 } : Room)) (fun a U => a = #[(.ref oa), (.int (0 : Int32))] ∧ Z.Warmed39 U.vm ∧ U.heap = h0) (fun _ _ _ _ _ => True) (fun _ U o U' => ∃ v L, o = .returned v ∧ Q_pe1_0 Z oa vcs vf ob kb bb0 c0 h0 n0 v U'.heap L ∧ FrameEnd U o U' L ({ frames := 4, cells := 0, slots := 0, locals := 53 } : Room).cells ({ frames := 4, cells := 0, slots := 0, locals := 53 } : Room).slots) := by
  refine MetFree.of_bodySF (plainFor_of_name pn_5) hisR ?_
  intro p e s m args below meth c s₁ Bd hml0 hP hK
  obtain ⟨rfl, hZ, hh⟩ := hP
  have hx := Bd.exec
  have hby := Bd.bytes
  have hml : c.maxLocals = 3 := hml0
  have hown : s.vm.findClass "com/example/path_template_matcher/pathtemplatematcher/UriReference" = some m.cls := findClass_of_methodNamed Bd.named
  have hnm := (name_of_methodNamed Bd.named Bd.method).1
  have X0 : Stand p l e ({ frames := 4, cells := 0, slots := 0, locals := 53 } : Room) s m #[(.ref oa), (.int (0 : Int32))] below meth c s₁ [] 0 0 := Stand.of_body Bd
  have e0 : s₁.heap = h0 := by rw [← hh, Bd.state]; rfl
  have N0 := Fr.nil n0
  have pre0 : ∀ t, Steps p.tables e below (s₁.setTop (mkF m 0 #[.val (.ref oa), .val (.int (0 : Int32)), .unset] [])) t → Steps p.tables e below (s₁.setTop (entryFrame m #[(.ref oa), (.int (0 : Int32))] 3)) t := fun t k => castTop (ef_rm_pe1_0 m oa) k
  obtain ⟨cq1, kq1, q1a, q1b, q1c⟩ := isOf hZ e0 Es
  obtain ⟨_, _, ⟨T1, L1, k1, n1⟩, -, X1, ⟨Lc1, hQ1, l1, y1, z1⟩, st1⟩ := X0.virtualBack hx (y := (⟨"java/lang/String", "length", "()I"⟩ : MethodName)) (z := (⟨"java/lang/String", "length", "()I"⟩ : MethodName)) hown (mvT hZ (hw _ (List.mem_of_getElem? (i := 31) rfl))) (mvT hZ (hw _ (List.mem_of_getElem? (i := 32) rfl))) (notFace_of_selects (args := #[]) (mvT hZ (hw _ (List.mem_of_getElem? (i := 34) rfl)))) (mvT hZ (hw _ (List.mem_of_getElem? (i := 34) rfl))) (mvT hZ (hw _ (List.mem_of_getElem? (i := 33) rfl))) (by decide) (backOf (W := 1) (rm_len1_0 l Z a0 hw [] oa vcs vf ob kb [(.int bb0)] h0 n0 Z0 Os Es Fc Fv Vb) hZ (hw _ (List.mem_of_getElem? (i := 35) rfl)) (hw _ (List.mem_of_getElem? (i := 7) rfl)) (by decide) (by decide)) q1a q1c (g := (mkF m 4 #[.val (.ref oa), .val (.int (0 : Int32)), .val (.int (0 : Int32))] [(.ref oa), (.int (0 : Int32))])) rfl (by rw [hml]; rfl) (Steps.refl _) (argsL := []) (rest := [(.int (0 : Int32))]) (lenOf pd_10 rfl) rfl (by show 2 * 0 + _ ≤ _; exact Nat.le_of_eq rfl) (hb hby d5_4) (fun _ _ => ⟨rfl, e0, (by decide : 0 + 0 ≤ _), (by decide : 0 + 0 ≤ _)⟩)
  dsimp only [Pt.U, Pt.locs, Pt.cells, Pt.slots] at X1 l1 y1 z1 st1 hQ1
  rw [l1, y1, z1] at X1
  obtain ⟨zl1, rfl, hzl1, N1q, e1⟩ := hQ1
  have N1 := Fr.app N0 N1q
  have pre2 : ∀ t, Steps p.tables e below (T1.setTop (mkF m 7 #[.val (.ref oa), .val (.int (0 : Int32)), .val (.int (0 : Int32))] [(.int zl1), (.int (0 : Int32))])) t → Steps p.tables e below (s₁.setTop (entryFrame m #[(.ref oa), (.int (0 : Int32))] 3)) t := fun t kt => by
    refine pre0 _ ?_
    refine XS.iloadN X0.here hx rfl (hb hby d5_0) rfl ?_
    refine XS.istoreN X0.here hx rfl (hb hby d5_1) rfl (l' := #[.val (.ref oa), .val (.int (0 : Int32)), .val (.int (0 : Int32))]) rfl ?_
    refine XS.iloadN X0.here hx rfl (hb hby d5_2) rfl ?_
    refine XS.aloadN X0.here hx rfl (hb hby d5_3) rfl rfl ?_
    refine st1.trans ?_
    exact kt
  subst hzl1
  have pre3 : ∀ t, Steps p.tables e below (T1.setTop (mkF m 7 #[.val (.ref oa), .val (.int (0 : Int32)), .val (.int (0 : Int32))] [(.int (1 : Int32)), (.int (0 : Int32))])) t → Steps p.tables e below (s₁.setTop (entryFrame m #[(.ref oa), (.int (0 : Int32))] 3)) t := pre2
  have hc7_4 : (0 : Int) < (1 : Int) := by decide
  obtain ⟨cq5, kq5, q5a, q5b, q5c⟩ := isOf hZ e1 Es
  obtain ⟨_, _, ⟨T5, L5, k5, n5⟩, -, X5, ⟨Lc5, hQ5, l5, y5, z5⟩, st5⟩ := X1.virtualBack hx (y := (⟨"java/lang/String", "charAt", "(I)C"⟩ : MethodName)) (z := (⟨"java/lang/String", "charAt", "(I)C"⟩ : MethodName)) hown (mvT hZ (hw _ (List.mem_of_getElem? (i := 55) rfl))) (mvT hZ (hw _ (List.mem_of_getElem? (i := 56) rfl))) (notFace_of_selects (args := #[]) (mvT hZ (hw _ (List.mem_of_getElem? (i := 58) rfl)))) (mvT hZ (hw _ (List.mem_of_getElem? (i := 58) rfl))) (mvT hZ (hw _ (List.mem_of_getElem? (i := 57) rfl))) (by decide) (backOf (W := 0) (rm_ch1 l Z a0 hw [] oa (0 : Int32) vcs vf ob kb (1 : Int32) [(.int bb0)] bb0 h0 n0 Z0 Os Es Fc Fv Vb (by decide) (by decide) rfl) hZ (hw _ (List.mem_of_getElem? (i := 59) rfl)) (hw _ (List.mem_of_getElem? (i := 7) rfl)) (by decide) (by decide)) q5a q5c (g := (mkF m 12 #[.val (.ref oa), .val (.int (0 : Int32)), .val (.int (0 : Int32))] [(.int (0 : Int32)), (.ref oa)])) rfl (by rw [hml]; rfl) (Steps.refl _) (argsL := [(.int (0 : Int32))]) (rest := []) (lenOf pd_11 rfl) rfl (by show 2 * 0 + _ ≤ _; exact Nat.le_of_eq rfl) (hb hby d5_12) (fun _ _ => ⟨rfl, e1, (by decide : 0 + 0 ≤ _), (by decide : 0 + 0 ≤ _)⟩)
  dsimp only [Pt.U, Pt.locs, Pt.cells, Pt.slots] at X5 l5 y5 z5 st5 hQ5
  rw [l5, y5, z5] at X5
  obtain ⟨ch12_0, rfl, hch12_0, N5q, e5⟩ := hQ5
  have N5 := Fr.app N1 N5q
  have pre7 : ∀ t, Steps p.tables e below (T5.setTop (mkF m 17 #[.val (.ref oa), .val (.int (0 : Int32)), .val (.int (0 : Int32))] [(.int (63 : Int32)), (.int ch12_0)])) t → Steps p.tables e below (s₁.setTop (entryFrame m #[(.ref oa), (.int (0 : Int32))] 3)) t := fun t kt => by
    refine pre3 _ ?_
    refine XS.icmpNo X1.here hx rfl (hb hby d5_7) rfl (own_tlt (a := (0 : Int32)) (b := (1 : Int32)) (by decide) (by decide) hc7_4).2.1 ?_
    refine XS.aloadN X1.here hx rfl (hb hby d5_10) rfl rfl ?_
    show Steps p.tables e below (T1.setTop (mkF m 11 #[.val (.ref oa), .val (.int (0 : Int32)), .val (.int (0 : Int32))] [(.ref oa)])) _
    refine XS.iloadN X1.here hx rfl (hb hby d5_11) rfl ?_
    refine st5.trans ?_
    refine XS.bipush X5.here hx rfl (hb hby d5_15) ?_
    exact kt
  by_cases hc17_6 : ch12_0.toInt = (63 : Int)
  · obtain ⟨fs, hr, hrun, hended, hW, hsame⟩ := X5.leave (v := some (.int (0 : Int32))) (fun h => by rw [Bd.returns] at h; cases h)
    refine ⟨_, _, pre7 _ ?_, hrun, hended, _, _, rfl, ?_, ⟨_, rfl⟩, hW, hsame.mono (by decide) (by decide)⟩
    · show Steps p.tables e below (T5.setTop (mkF m 17 #[.val (.ref oa), .val (.int (0 : Int32)), .val (.int (0 : Int32))] [(.int (63 : Int32)), (.int ch12_0)])) _
      refine XS.icmpYes X5.here hx rfl (pc0 := 17) (pc' := 36) rfl (hb hby d5_17) rfl (own_teq (a := ch12_0) (b := (63 : Int32)) rfl (by decide) hc17_6).1 (by decide) (by decide) ?_
      refine XS.iloadN X5.here hx rfl (hb hby d5_36) rfl ?_
      exact retI X5 hx Bd.returns (hb hby d5_37) hr
    · show Q_pe1_0 Z _ _ _ _ _ _ _ h0 n0 _ T5.heap _
      rw [e5]
      exact ⟨_, rfl, by have s0 : own_stop c0.toInt := (by unfold own_stop; omega); rw [if_pos s0]; decide, N5, rfl⟩
  · obtain ⟨cq8, kq8, q8a, q8b, q8c⟩ := isOf hZ e5 Es
    obtain ⟨_, _, ⟨T8, L8, k8, n8⟩, -, X8, ⟨Lc8, hQ8, l8, y8, z8⟩, st8⟩ := X5.virtualBack hx (y := (⟨"java/lang/String", "charAt", "(I)C"⟩ : MethodName)) (z := (⟨"java/lang/String", "charAt", "(I)C"⟩ : MethodName)) hown (mvT hZ (hw _ (List.mem_of_getElem? (i := 55) rfl))) (mvT hZ (hw _ (List.mem_of_getElem? (i := 56) rfl))) (notFace_of_selects (args := #[]) (mvT hZ (hw _ (List.mem_of_getElem? (i := 58) rfl)))) (mvT hZ (hw _ (List.mem_of_getElem? (i := 58) rfl))) (mvT hZ (hw _ (List.mem_of_getElem? (i := 57) rfl))) (by decide) (backOf (W := 0) (rm_ch1 l Z a0 hw [] oa (0 : Int32) vcs vf ob kb (1 : Int32) [(.int bb0)] bb0 h0 n0 Z0 Os Es Fc Fv Vb (by decide) (by decide) rfl) hZ (hw _ (List.mem_of_getElem? (i := 59) rfl)) (hw _ (List.mem_of_getElem? (i := 7) rfl)) (by decide) (by decide)) q8a q8c (g := (mkF m 22 #[.val (.ref oa), .val (.int (0 : Int32)), .val (.int (0 : Int32))] [(.int (0 : Int32)), (.ref oa)])) rfl (by rw [hml]; rfl) (Steps.refl _) (argsL := [(.int (0 : Int32))]) (rest := []) (lenOf pd_11 rfl) rfl (by show 2 * 0 + _ ≤ _; exact Nat.le_of_eq rfl) (hb hby d5_22) (fun _ _ => ⟨rfl, e5, (by decide : 0 + 0 ≤ _), (by decide : 0 + 0 ≤ _)⟩)
    dsimp only [Pt.U, Pt.locs, Pt.cells, Pt.slots] at X8 l8 y8 z8 st8 hQ8
    rw [l8, y8, z8] at X8
    obtain ⟨ch22_0, rfl, hch22_0, N8q, e8⟩ := hQ8
    have N8 := Fr.app N5 N8q
    have pre10 : ∀ t, Steps p.tables e below (T8.setTop (mkF m 27 #[.val (.ref oa), .val (.int (0 : Int32)), .val (.int (0 : Int32))] [(.int (35 : Int32)), (.int ch22_0)])) t → Steps p.tables e below (s₁.setTop (entryFrame m #[(.ref oa), (.int (0 : Int32))] 3)) t := fun t kt => by
      refine pre7 _ ?_
      show Steps p.tables e below (T5.setTop (mkF m 17 #[.val (.ref oa), .val (.int (0 : Int32)), .val (.int (0 : Int32))] [(.int (63 : Int32)), (.int ch12_0)])) _
      refine XS.icmpNo X5.here hx rfl (hb hby d5_17) rfl (own_feq (a := ch12_0) (b := (63 : Int32)) rfl (by decide) hc17_6).1 ?_
      refine XS.aloadN X5.here hx rfl (hb hby d5_20) rfl rfl ?_
      refine XS.iloadN X5.here hx rfl (hb hby d5_21) rfl ?_
      refine st8.trans ?_
      show Steps p.tables e below (T8.setTop (mkF m 25 #[.val (.ref oa), .val (.int (0 : Int32)), .val (.int (0 : Int32))] [(.int ch22_0)])) _
      refine XS.bipush X8.here hx rfl (hb hby d5_25) ?_
      exact kt
    by_cases hc27_9 : ch22_0.toInt = (35 : Int)
    · obtain ⟨fs, hr, hrun, hended, hW, hsame⟩ := X8.leave (v := some (.int (0 : Int32))) (fun h => by rw [Bd.returns] at h; cases h)
      refine ⟨_, _, pre10 _ ?_, hrun, hended, _, _, rfl, ?_, ⟨_, rfl⟩, hW, hsame.mono (by decide) (by decide)⟩
      · show Steps p.tables e below (T8.setTop (mkF m 27 #[.val (.ref oa), .val (.int (0 : Int32)), .val (.int (0 : Int32))] [(.int (35 : Int32)), (.int ch22_0)])) _
        refine XS.icmpYes X8.here hx rfl (pc0 := 27) (pc' := 36) rfl (hb hby d5_27) rfl (own_teq (a := ch22_0) (b := (35 : Int32)) rfl (by decide) hc27_9).1 (by decide) (by decide) ?_
        refine XS.iloadN X8.here hx rfl (hb hby d5_36) rfl ?_
        exact retI X8 hx Bd.returns (hb hby d5_37) hr
      · show Q_pe1_0 Z _ _ _ _ _ _ _ h0 n0 _ T8.heap _
        rw [e8]
        exact ⟨_, rfl, by have s0 : own_stop c0.toInt := (by unfold own_stop; omega); rw [if_pos s0]; decide, N8, rfl⟩
    · obtain ⟨cq11, kq11, q11a, q11b, q11c⟩ := isOf hZ e8 Es
      obtain ⟨_, _, ⟨T11, L11, k11, n11⟩, -, X11, ⟨Lc11, hQ11, l11, y11, z11⟩, st11⟩ := X8.virtualBack hx (y := (⟨"java/lang/String", "length", "()I"⟩ : MethodName)) (z := (⟨"java/lang/String", "length", "()I"⟩ : MethodName)) hown (mvT hZ (hw _ (List.mem_of_getElem? (i := 31) rfl))) (mvT hZ (hw _ (List.mem_of_getElem? (i := 32) rfl))) (notFace_of_selects (args := #[]) (mvT hZ (hw _ (List.mem_of_getElem? (i := 34) rfl)))) (mvT hZ (hw _ (List.mem_of_getElem? (i := 34) rfl))) (mvT hZ (hw _ (List.mem_of_getElem? (i := 33) rfl))) (by decide) (backOf (W := 1) (rm_len1_0 l Z a0 hw [] oa vcs vf ob kb [(.int bb0)] h0 n0 Z0 Os Es Fc Fv Vb) hZ (hw _ (List.mem_of_getElem? (i := 35) rfl)) (hw _ (List.mem_of_getElem? (i := 7) rfl)) (by decide) (by decide)) q11a q11c (g := (mkF m 4 #[.val (.ref oa), .val (.int (0 : Int32)), .val (.int (1 : Int32))] [(.ref oa), (.int (1 : Int32))])) rfl (by rw [hml]; rfl) (Steps.refl _) (argsL := []) (rest := [(.int (1 : Int32))]) (lenOf pd_10 rfl) rfl (by show 2 * 0 + _ ≤ _; exact Nat.le_of_eq rfl) (hb hby d5_4) (fun _ _ => ⟨rfl, e8, (by decide : 0 + 0 ≤ _), (by decide : 0 + 0 ≤ _)⟩)
      dsimp only [Pt.U, Pt.locs, Pt.cells, Pt.slots] at X11 l11 y11 z11 st11 hQ11
      rw [l11, y11, z11] at X11
      obtain ⟨zl2, rfl, hzl2, N11q, e11⟩ := hQ11
      have N11 := Fr.app N8 N11q
      have pre12 : ∀ t, Steps p.tables e below (T11.setTop (mkF m 7 #[.val (.ref oa), .val (.int (0 : Int32)), .val (.int (1 : Int32))] [(.int zl2), (.int (1 : Int32))])) t → Steps p.tables e below (s₁.setTop (entryFrame m #[(.ref oa), (.int (0 : Int32))] 3)) t := fun t kt => by
        refine pre10 _ ?_
        show Steps p.tables e below (T8.setTop (mkF m 27 #[.val (.ref oa), .val (.int (0 : Int32)), .val (.int (0 : Int32))] [(.int (35 : Int32)), (.int ch22_0)])) _
        refine XS.icmpNo X8.here hx rfl (hb hby d5_27) rfl (own_feq (a := ch22_0) (b := (35 : Int32)) rfl (by decide) hc27_9).1 ?_
        refine XS.iinc X8.here hx rfl (hb hby d5_30) rfl (l' := #[.val (.ref oa), .val (.int (0 : Int32)), .val (.int (1 : Int32))]) rfl ?_
        refine XS.goto X8.here hx rfl (pc0 := 33) (pc' := 2) rfl (hb hby d5_33) (by decide) (by decide) ?_
        refine XS.iloadN X8.here hx rfl (hb hby d5_2) rfl ?_
        refine XS.aloadN X8.here hx rfl (hb hby d5_3) rfl rfl ?_
        refine st11.trans ?_
        exact kt
      subst hzl2
      have pre13 : ∀ t, Steps p.tables e below (T11.setTop (mkF m 7 #[.val (.ref oa), .val (.int (0 : Int32)), .val (.int (1 : Int32))] [(.int (1 : Int32)), (.int (1 : Int32))])) t → Steps p.tables e below (s₁.setTop (entryFrame m #[(.ref oa), (.int (0 : Int32))] 3)) t := pre12
      have hc7_14 : ¬ ((1 : Int) < (1 : Int)) := by decide
      obtain ⟨fs, hr, hrun, hended, hW, hsame⟩ := X11.leave (v := some (.int (1 : Int32))) (fun h => by rw [Bd.returns] at h; cases h)
      refine ⟨_, _, pre13 _ ?_, hrun, hended, _, _, rfl, ?_, ⟨_, rfl⟩, hW, hsame.mono (by decide) (by decide)⟩
      · show Steps p.tables e below (T11.setTop (mkF m 7 #[.val (.ref oa), .val (.int (0 : Int32)), .val (.int (1 : Int32))] [(.int (1 : Int32)), (.int (1 : Int32))])) _
        refine XS.icmpYes X11.here hx rfl (pc0 := 7) (pc' := 36) rfl (hb hby d5_7) rfl (own_flt (a := (1 : Int32)) (b := (1 : Int32)) (by decide) (by decide) hc7_14).2.1 (by decide) (by decide) ?_
        refine XS.iloadN X11.here hx rfl (hb hby d5_36) rfl ?_
        exact retI X11 hx Bd.returns (hb hby d5_37) hr
      · show Q_pe1_0 Z _ _ _ _ _ _ _ h0 n0 _ T11.heap _
        rw [e11]
        exact ⟨_, rfl, by have s0 : ¬ own_stop c0.toInt := (by unfold own_stop; omega); rw [if_neg s0]; decide, N11, rfl⟩
theorem ef_rm_pe1_1 (m : MethodId) (x0 : Addr) : entryFrame m #[(.ref x0), (.int (1 : Int32))] 3 = mkF m 0 #[.val (.ref x0), .val (.int (1 : Int32)), .unset] [] := by first | (simp [entryFrame, mkF, argsToLocals, Value.category]; done) | rfl
def Q_pe1_1 (Z : State) (oa : Addr) (vcs : Int32) (vf : Value) (ob : Addr) (kb : ClassId) (bb0 : Int32) (c0 : Int32) (h0 : Heap) (n0 : Nat) (v : Option Value) (h : Heap) (L : List Loc) : Prop := ∃ z : Int32, v = some (.int z) ∧ (z.toInt = (1 : Int)) ∧ Fr n0 L ∧ h = h0
set_option maxRecDepth 65536 in
set_option maxHeartbeats 40000000 in
theorem rm_pe1_1 (l : Launch) (Z : State) (a0 : Array Value) (hw : ∀ d ∈ tables_1, d.before a0 Z = true) (ws : List Jvm.Cond) (oa : Addr) (vcs : Int32) (vf : Value) (ob : Addr) (kb : ClassId) (bb0 : Int32) (c0 : Int32) (h0 : Heap) (n0 : Nat) (Z0 : n0 ≤ h0.size) (Os : own_st Z h0 vcs vf) (Es : Exa Z h0 oa "java/lang/String") (Fc : Fld Z h0 oa "java/lang/String" "coder" "B" (.int (0 : Int32))) (Fv : Fld Z h0 oa "java/lang/String" "value" "[B" (.ref ob)) (Vb : Arv Z h0 ob kb .byte (1 : Int32) [(.int bb0)] (.int (0 : Int32))) (qbb0 : bb0.toInt % 256 = c0.toInt) :
    MetFree l (⟨"com/example/path_template_matcher/pathtemplatematcher/UriReference", "pathEnd", "(Ljava/lang/String;I)I"⟩ : MethodName) (head1 (Jvm.Cond.code (⟨"com/example/path_template_matcher/pathtemplatematcher/UriReference", "pathEnd", "(Ljava/lang/String;I)I"⟩ : MethodName) prog_36_method_4_code 3 (some .int) :: ws) ({ frames := 2, cells := 0, slots := 0, locals := 26 } : Room)) (fun a U => a = #[(.ref oa), (.int (1 : Int32))] ∧ Z.Warmed39 U.vm ∧ U.heap = h0) (fun _ _ _ _ _ => True) (fun _ U o U' => ∃ v L, o = .returned v ∧ Q_pe1_1 Z oa vcs vf ob kb bb0 c0 h0 n0 v U'.heap L ∧ FrameEnd U o U' L ({ frames := 2, cells := 0, slots := 0, locals := 26 } : Room).cells ({ frames := 2, cells := 0, slots := 0, locals := 26 } : Room).slots) := by
  refine MetFree.of_bodySF (plainFor_of_name pn_5) hisR ?_
  intro p e s m args below meth c s₁ Bd hml0 hP hK
  obtain ⟨rfl, hZ, hh⟩ := hP
  have hx := Bd.exec
  have hby := Bd.bytes
  have hml : c.maxLocals = 3 := hml0
  have hown : s.vm.findClass "com/example/path_template_matcher/pathtemplatematcher/UriReference" = some m.cls := findClass_of_methodNamed Bd.named
  have hnm := (name_of_methodNamed Bd.named Bd.method).1
  have X0 : Stand p l e ({ frames := 2, cells := 0, slots := 0, locals := 26 } : Room) s m #[(.ref oa), (.int (1 : Int32))] below meth c s₁ [] 0 0 := Stand.of_body Bd
  have e0 : s₁.heap = h0 := by rw [← hh, Bd.state]; rfl
  have N0 := Fr.nil n0
  have pre0 : ∀ t, Steps p.tables e below (s₁.setTop (mkF m 0 #[.val (.ref oa), .val (.int (1 : Int32)), .unset] [])) t → Steps p.tables e below (s₁.setTop (entryFrame m #[(.ref oa), (.int (1 : Int32))] 3)) t := fun t k => castTop (ef_rm_pe1_1 m oa) k
  obtain ⟨cq1, kq1, q1a, q1b, q1c⟩ := isOf hZ e0 Es
  obtain ⟨_, _, ⟨T1, L1, k1, n1⟩, -, X1, ⟨Lc1, hQ1, l1, y1, z1⟩, st1⟩ := X0.virtualBack hx (y := (⟨"java/lang/String", "length", "()I"⟩ : MethodName)) (z := (⟨"java/lang/String", "length", "()I"⟩ : MethodName)) hown (mvT hZ (hw _ (List.mem_of_getElem? (i := 31) rfl))) (mvT hZ (hw _ (List.mem_of_getElem? (i := 32) rfl))) (notFace_of_selects (args := #[]) (mvT hZ (hw _ (List.mem_of_getElem? (i := 34) rfl)))) (mvT hZ (hw _ (List.mem_of_getElem? (i := 34) rfl))) (mvT hZ (hw _ (List.mem_of_getElem? (i := 33) rfl))) (by decide) (backOf (W := 1) (rm_len1_0 l Z a0 hw [] oa vcs vf ob kb [(.int bb0)] h0 n0 Z0 Os Es Fc Fv Vb) hZ (hw _ (List.mem_of_getElem? (i := 35) rfl)) (hw _ (List.mem_of_getElem? (i := 7) rfl)) (by decide) (by decide)) q1a q1c (g := (mkF m 4 #[.val (.ref oa), .val (.int (1 : Int32)), .val (.int (1 : Int32))] [(.ref oa), (.int (1 : Int32))])) rfl (by rw [hml]; rfl) (Steps.refl _) (argsL := []) (rest := [(.int (1 : Int32))]) (lenOf pd_10 rfl) rfl (by show 2 * 0 + _ ≤ _; exact Nat.le_of_eq rfl) (hb hby d5_4) (fun _ _ => ⟨rfl, e0, (by decide : 0 + 0 ≤ _), (by decide : 0 + 0 ≤ _)⟩)
  dsimp only [Pt.U, Pt.locs, Pt.cells, Pt.slots] at X1 l1 y1 z1 st1 hQ1
  rw [l1, y1, z1] at X1
  obtain ⟨zl1, rfl, hzl1, N1q, e1⟩ := hQ1
  have N1 := Fr.app N0 N1q
  have pre2 : ∀ t, Steps p.tables e below (T1.setTop (mkF m 7 #[.val (.ref oa), .val (.int (1 : Int32)), .val (.int (1 : Int32))] [(.int zl1), (.int (1 : Int32))])) t → Steps p.tables e below (s₁.setTop (entryFrame m #[(.ref oa), (.int (1 : Int32))] 3)) t := fun t kt => by
    refine pre0 _ ?_
    refine XS.iloadN X0.here hx rfl (hb hby d5_0) rfl ?_
    refine XS.istoreN X0.here hx rfl (hb hby d5_1) rfl (l' := #[.val (.ref oa), .val (.int (1 : Int32)), .val (.int (1 : Int32))]) rfl ?_
    refine XS.iloadN X0.here hx rfl (hb hby d5_2) rfl ?_
    refine XS.aloadN X0.here hx rfl (hb hby d5_3) rfl rfl ?_
    refine st1.trans ?_
    exact kt
  subst hzl1
  have pre3 : ∀ t, Steps p.tables e below (T1.setTop (mkF m 7 #[.val (.ref oa), .val (.int (1 : Int32)), .val (.int (1 : Int32))] [(.int (1 : Int32)), (.int (1 : Int32))])) t → Steps p.tables e below (s₁.setTop (entryFrame m #[(.ref oa), (.int (1 : Int32))] 3)) t := pre2
  have hc7_4 : ¬ ((1 : Int) < (1 : Int)) := by decide
  obtain ⟨fs, hr, hrun, hended, hW, hsame⟩ := X1.leave (v := some (.int (1 : Int32))) (fun h => by rw [Bd.returns] at h; cases h)
  refine ⟨_, _, pre3 _ ?_, hrun, hended, _, _, rfl, ?_, ⟨_, rfl⟩, hW, hsame.mono (by decide) (by decide)⟩
  · refine XS.icmpYes X1.here hx rfl (pc0 := 7) (pc' := 36) rfl (hb hby d5_7) rfl (own_flt (a := (1 : Int32)) (b := (1 : Int32)) (by decide) (by decide) hc7_4).2.1 (by decide) (by decide) ?_
    refine XS.iloadN X1.here hx rfl (hb hby d5_36) rfl ?_
    show Steps p.tables e below (T1.setTop (mkF m 37 #[.val (.ref oa), .val (.int (1 : Int32)), .val (.int (1 : Int32))] [(.int (1 : Int32))])) _
    exact retI X1 hx Bd.returns (hb hby d5_37) hr
  · show Q_pe1_1 Z _ _ _ _ _ _ _ h0 n0 _ T1.heap _
    rw [e1]
    exact ⟨_, rfl, by decide, N1, rfl⟩
theorem ef_rm_len2_0 (m : MethodId) (x0 : Addr) : entryFrame m #[(.ref x0)] 1 = mkF m 0 #[.val (.ref x0)] [] := by first | (simp [entryFrame, mkF, argsToLocals, Value.category]; done) | rfl
def Q_len2_0 (Z : State) (oa : Addr) (vcs : Int32) (vf : Value) (ob : Addr) (kb : ClassId) (vs : List Value) (h0 : Heap) (n0 : Nat) (v : Option Value) (h : Heap) (L : List Loc) : Prop := ∃ z : Int32, v = some (.int z) ∧ (z = (2 : Int32)) ∧ Fr n0 L ∧ h = h0
set_option maxRecDepth 65536 in
set_option maxHeartbeats 40000000 in
theorem rm_len2_0 (l : Launch) (Z : State) (a0 : Array Value) (hw : ∀ d ∈ tables_1, d.before a0 Z = true) (ws : List Jvm.Cond) (oa : Addr) (vcs : Int32) (vf : Value) (ob : Addr) (kb : ClassId) (vs : List Value) (h0 : Heap) (n0 : Nat) (Z0 : n0 ≤ h0.size) (Os : own_st Z h0 vcs vf) (Es : Exa Z h0 oa "java/lang/String") (Fc : Fld Z h0 oa "java/lang/String" "coder" "B" (.int (0 : Int32))) (Fv : Fld Z h0 oa "java/lang/String" "value" "[B" (.ref ob)) (Vb : Arv Z h0 ob kb .byte (2 : Int32) vs (.int (0 : Int32))) :
    MetFree l (⟨"java/lang/String", "length", "()I"⟩ : MethodName) (head1 (Jvm.Cond.code (⟨"java/lang/String", "length", "()I"⟩ : MethodName) jdk_42_method_54_code 1 (some .int) :: ws) ({ frames := 1, cells := 0, slots := 0, locals := 13 } : Room)) (fun a U => a = #[(.ref oa)] ∧ Z.Warmed39 U.vm ∧ U.heap = h0) (fun _ _ _ _ _ => True) (fun _ U o U' => ∃ v L, o = .returned v ∧ Q_len2_0 Z oa vcs vf ob kb vs h0 n0 v U'.heap L ∧ FrameEnd U o U' L ({ frames := 1, cells := 0, slots := 0, locals := 13 } : Room).cells ({ frames := 1, cells := 0, slots := 0, locals := 13 } : Room).slots) := by
  refine MetFree.of_bodySF (plainFor_of_name pn_1) hisR ?_
  intro p e s m args below meth c s₁ Bd hml0 hP hK
  obtain ⟨rfl, hZ, hh⟩ := hP
  have hx := Bd.exec
  have hby := Bd.bytes
  have hml : c.maxLocals = 1 := hml0
  have hown : s.vm.findClass "java/lang/String" = some m.cls := findClass_of_methodNamed Bd.named
  have hnm := (name_of_methodNamed Bd.named Bd.method).1
  have X0 : Stand p l e ({ frames := 1, cells := 0, slots := 0, locals := 13 } : Room) s m #[(.ref oa)] below meth c s₁ [] 0 0 := Stand.of_body Bd
  have e0 : s₁.heap = h0 := by rw [← hh, Bd.state]; rfl
  have N0 := Fr.nil n0
  have pre0 : ∀ t, Steps p.tables e below (s₁.setTop (mkF m 0 #[.val (.ref oa)] [])) t → Steps p.tables e below (s₁.setTop (entryFrame m #[(.ref oa)] 1)) t := fun t k => castTop (ef_rm_len2_0 m oa) k
  obtain ⟨T1, X1, e1, st1⟩ := getF X0 hx hZ hown (host := "") (Or.inl (hw _ (List.mem_of_getElem? (i := 25) rfl))) Via.refl e0 Fv (g := (mkF m 1 #[.val (.ref oa)] [(.ref oa)])) rfl rfl (hb hby d6_1)
  obtain ⟨cl2, Ar2, q2, S2, M2, H2, G2⟩ := id Vb
  obtain ⟨cq3, kq3, q3a, q3b, q3c⟩ := isOf hZ e1 Es
  obtain ⟨_, _, ⟨T3, L3, k3, n3⟩, -, X3, ⟨Lc3, hQ3, l3, y3, z3⟩, st3⟩ := X1.virtualBack hx (y := (⟨"java/lang/String", "coder", "()B"⟩ : MethodName)) (z := (⟨"java/lang/String", "coder", "()B"⟩ : MethodName)) hown (mvT hZ (hw _ (List.mem_of_getElem? (i := 36) rfl))) (mvT hZ (hw _ (List.mem_of_getElem? (i := 37) rfl))) (notFace_of_selects (args := #[]) (mvT hZ (hw _ (List.mem_of_getElem? (i := 39) rfl)))) (mvT hZ (hw _ (List.mem_of_getElem? (i := 39) rfl))) (mvT hZ (hw _ (List.mem_of_getElem? (i := 38) rfl))) (by decide) (backOf (W := 1) (rm_cod0 l Z a0 hw [] oa vcs vf h0 n0 Z0 Os Fc) hZ (hw _ (List.mem_of_getElem? (i := 40) rfl)) (hw _ (List.mem_of_getElem? (i := 7) rfl)) (by decide) (by decide)) q3a q3c (g := (mkF m 6 #[.val (.ref oa)] [(.ref oa), (.int (2 : Int32))])) rfl (by rw [hml]; rfl) (Steps.refl _) (argsL := []) (rest := [(.int (2 : Int32))]) (lenOf pd_9 rfl) rfl (by show 2 * 0 + _ ≤ _; exact Nat.le_of_eq rfl) (hb hby d6_6) (fun _ _ => ⟨rfl, e1, (by decide : 0 + 0 ≤ _), (by decide : 0 + 0 ≤ _)⟩)
  dsimp only [Pt.U, Pt.locs, Pt.cells, Pt.slots] at X3 l3 y3 z3 st3 hQ3
  rw [l3, y3, z3] at X3
  obtain ⟨zc, rfl, hzc, N3q, e3⟩ := hQ3
  have N3 := Fr.app N0 N3q
  have pre4 : ∀ t, Steps p.tables e below (T3.setTop (mkF m 9 #[.val (.ref oa)] [(.int zc), (.int (2 : Int32))])) t → Steps p.tables e below (s₁.setTop (entryFrame m #[(.ref oa)] 1)) t := fun t kt => by
    refine pre0 _ ?_
    refine XS.aloadN X0.here hx rfl (hb hby d6_0) rfl rfl ?_
    refine st1 _ ?_
    refine X1.arraylength hx (by rw [e1]; exact Ar2.1) (State.isArrayOf_alike hZ.alike Ar2.2.1) (g := (mkF m 4 #[.val (.ref oa)] [(.ref ob)])) rfl rfl (hb hby d6_4) _ ?_
    rw [len_of S2 M2]
    refine XS.aloadN X1.here hx rfl (hb hby d6_5) rfl rfl ?_
    refine st3.trans ?_
    exact kt
  subst hzc
  have pre5 : ∀ t, Steps p.tables e below (T3.setTop (mkF m 9 #[.val (.ref oa)] [(.int (0 : Int32)), (.int (2 : Int32))])) t → Steps p.tables e below (s₁.setTop (entryFrame m #[(.ref oa)] 1)) t := pre4
  obtain ⟨fs, hr, hrun, hended, hW, hsame⟩ := X3.leave (v := some (.int (2 : Int32))) (fun h => by rw [Bd.returns] at h; cases h)
  refine ⟨_, _, pre5 _ ?_, hrun, hended, _, _, rfl, ?_, ⟨_, rfl⟩, hW, hsame.mono (by decide) (by decide)⟩
  · refine XS.ishr X3.here hx rfl (hb hby d6_9) rfl ?_
    exact retI X3 hx Bd.returns (hb hby d6_10) hr
  · show Q_len2_0 Z _ _ _ _ _ _ h0 n0 _ T3.heap _
    rw [e3]
    exact ⟨_, rfl, rfl, N3, rfl⟩
theorem ef_rm_pe2_0 (m : MethodId) (x0 : Addr) : entryFrame m #[(.ref x0), (.int (0 : Int32))] 3 = mkF m 0 #[.val (.ref x0), .val (.int (0 : Int32)), .unset] [] := by first | (simp [entryFrame, mkF, argsToLocals, Value.category]; done) | rfl
def Q_pe2_0 (Z : State) (oa : Addr) (vcs : Int32) (vf : Value) (ob : Addr) (kb : ClassId) (bb0 : Int32) (bb1 : Int32) (c0 : Int32) (c1 : Int32) (h0 : Heap) (n0 : Nat) (v : Option Value) (h : Heap) (L : List Loc) : Prop := ∃ z : Int32, v = some (.int z) ∧ (z.toInt = (if own_stop c0.toInt then (0 : Int) else (if own_stop c1.toInt then (1 : Int) else (2 : Int)))) ∧ Fr n0 L ∧ h = h0
set_option maxRecDepth 65536 in
set_option maxHeartbeats 40000000 in
theorem rm_pe2_0 (l : Launch) (Z : State) (a0 : Array Value) (hw : ∀ d ∈ tables_1, d.before a0 Z = true) (ws : List Jvm.Cond) (oa : Addr) (vcs : Int32) (vf : Value) (ob : Addr) (kb : ClassId) (bb0 : Int32) (bb1 : Int32) (c0 : Int32) (c1 : Int32) (h0 : Heap) (n0 : Nat) (Z0 : n0 ≤ h0.size) (Os : own_st Z h0 vcs vf) (Es : Exa Z h0 oa "java/lang/String") (Fc : Fld Z h0 oa "java/lang/String" "coder" "B" (.int (0 : Int32))) (Fv : Fld Z h0 oa "java/lang/String" "value" "[B" (.ref ob)) (Vb : Arv Z h0 ob kb .byte (2 : Int32) [(.int bb0), (.int bb1)] (.int (0 : Int32))) (qbb0 : bb0.toInt % 256 = c0.toInt) (qbb1 : bb1.toInt % 256 = c1.toInt) :
    MetFree l (⟨"com/example/path_template_matcher/pathtemplatematcher/UriReference", "pathEnd", "(Ljava/lang/String;I)I"⟩ : MethodName) (head1 (Jvm.Cond.code (⟨"com/example/path_template_matcher/pathtemplatematcher/UriReference", "pathEnd", "(Ljava/lang/String;I)I"⟩ : MethodName) prog_36_method_4_code 3 (some .int) :: ws) ({ frames := 4, cells := 0, slots := 0, locals := 53 } : Room)) (fun a U => a = #[(.ref oa), (.int (0 : Int32))] ∧ Z.Warmed39 U.vm ∧ U.heap = h0) (fun _ _ _ _ _ => True) (fun _ U o U' => ∃ v L, o = .returned v ∧ Q_pe2_0 Z oa vcs vf ob kb bb0 bb1 c0 c1 h0 n0 v U'.heap L ∧ FrameEnd U o U' L ({ frames := 4, cells := 0, slots := 0, locals := 53 } : Room).cells ({ frames := 4, cells := 0, slots := 0, locals := 53 } : Room).slots) := by
  refine MetFree.of_bodySF (plainFor_of_name pn_5) hisR ?_
  intro p e s m args below meth c s₁ Bd hml0 hP hK
  obtain ⟨rfl, hZ, hh⟩ := hP
  have hx := Bd.exec
  have hby := Bd.bytes
  have hml : c.maxLocals = 3 := hml0
  have hown : s.vm.findClass "com/example/path_template_matcher/pathtemplatematcher/UriReference" = some m.cls := findClass_of_methodNamed Bd.named
  have hnm := (name_of_methodNamed Bd.named Bd.method).1
  have X0 : Stand p l e ({ frames := 4, cells := 0, slots := 0, locals := 53 } : Room) s m #[(.ref oa), (.int (0 : Int32))] below meth c s₁ [] 0 0 := Stand.of_body Bd
  have e0 : s₁.heap = h0 := by rw [← hh, Bd.state]; rfl
  have N0 := Fr.nil n0
  have pre0 : ∀ t, Steps p.tables e below (s₁.setTop (mkF m 0 #[.val (.ref oa), .val (.int (0 : Int32)), .unset] [])) t → Steps p.tables e below (s₁.setTop (entryFrame m #[(.ref oa), (.int (0 : Int32))] 3)) t := fun t k => castTop (ef_rm_pe2_0 m oa) k
  obtain ⟨cq1, kq1, q1a, q1b, q1c⟩ := isOf hZ e0 Es
  obtain ⟨_, _, ⟨T1, L1, k1, n1⟩, -, X1, ⟨Lc1, hQ1, l1, y1, z1⟩, st1⟩ := X0.virtualBack hx (y := (⟨"java/lang/String", "length", "()I"⟩ : MethodName)) (z := (⟨"java/lang/String", "length", "()I"⟩ : MethodName)) hown (mvT hZ (hw _ (List.mem_of_getElem? (i := 31) rfl))) (mvT hZ (hw _ (List.mem_of_getElem? (i := 32) rfl))) (notFace_of_selects (args := #[]) (mvT hZ (hw _ (List.mem_of_getElem? (i := 34) rfl)))) (mvT hZ (hw _ (List.mem_of_getElem? (i := 34) rfl))) (mvT hZ (hw _ (List.mem_of_getElem? (i := 33) rfl))) (by decide) (backOf (W := 1) (rm_len2_0 l Z a0 hw [] oa vcs vf ob kb [(.int bb0), (.int bb1)] h0 n0 Z0 Os Es Fc Fv Vb) hZ (hw _ (List.mem_of_getElem? (i := 35) rfl)) (hw _ (List.mem_of_getElem? (i := 7) rfl)) (by decide) (by decide)) q1a q1c (g := (mkF m 4 #[.val (.ref oa), .val (.int (0 : Int32)), .val (.int (0 : Int32))] [(.ref oa), (.int (0 : Int32))])) rfl (by rw [hml]; rfl) (Steps.refl _) (argsL := []) (rest := [(.int (0 : Int32))]) (lenOf pd_10 rfl) rfl (by show 2 * 0 + _ ≤ _; exact Nat.le_of_eq rfl) (hb hby d5_4) (fun _ _ => ⟨rfl, e0, (by decide : 0 + 0 ≤ _), (by decide : 0 + 0 ≤ _)⟩)
  dsimp only [Pt.U, Pt.locs, Pt.cells, Pt.slots] at X1 l1 y1 z1 st1 hQ1
  rw [l1, y1, z1] at X1
  obtain ⟨zl1, rfl, hzl1, N1q, e1⟩ := hQ1
  have N1 := Fr.app N0 N1q
  have pre2 : ∀ t, Steps p.tables e below (T1.setTop (mkF m 7 #[.val (.ref oa), .val (.int (0 : Int32)), .val (.int (0 : Int32))] [(.int zl1), (.int (0 : Int32))])) t → Steps p.tables e below (s₁.setTop (entryFrame m #[(.ref oa), (.int (0 : Int32))] 3)) t := fun t kt => by
    refine pre0 _ ?_
    refine XS.iloadN X0.here hx rfl (hb hby d5_0) rfl ?_
    refine XS.istoreN X0.here hx rfl (hb hby d5_1) rfl (l' := #[.val (.ref oa), .val (.int (0 : Int32)), .val (.int (0 : Int32))]) rfl ?_
    refine XS.iloadN X0.here hx rfl (hb hby d5_2) rfl ?_
    refine XS.aloadN X0.here hx rfl (hb hby d5_3) rfl rfl ?_
    refine st1.trans ?_
    exact kt
  subst hzl1
  have pre3 : ∀ t, Steps p.tables e below (T1.setTop (mkF m 7 #[.val (.ref oa), .val (.int (0 : Int32)), .val (.int (0 : Int32))] [(.int (2 : Int32)), (.int (0 : Int32))])) t → Steps p.tables e below (s₁.setTop (entryFrame m #[(.ref oa), (.int (0 : Int32))] 3)) t := pre2
  have hc7_4 : (0 : Int) < (2 : Int) := by decide
  obtain ⟨cq5, kq5, q5a, q5b, q5c⟩ := isOf hZ e1 Es
  obtain ⟨_, _, ⟨T5, L5, k5, n5⟩, -, X5, ⟨Lc5, hQ5, l5, y5, z5⟩, st5⟩ := X1.virtualBack hx (y := (⟨"java/lang/String", "charAt", "(I)C"⟩ : MethodName)) (z := (⟨"java/lang/String", "charAt", "(I)C"⟩ : MethodName)) hown (mvT hZ (hw _ (List.mem_of_getElem? (i := 55) rfl))) (mvT hZ (hw _ (List.mem_of_getElem? (i := 56) rfl))) (notFace_of_selects (args := #[]) (mvT hZ (hw _ (List.mem_of_getElem? (i := 58) rfl)))) (mvT hZ (hw _ (List.mem_of_getElem? (i := 58) rfl))) (mvT hZ (hw _ (List.mem_of_getElem? (i := 57) rfl))) (by decide) (backOf (W := 0) (rm_ch1 l Z a0 hw [] oa (0 : Int32) vcs vf ob kb (2 : Int32) [(.int bb0), (.int bb1)] bb0 h0 n0 Z0 Os Es Fc Fv Vb (by decide) (by decide) rfl) hZ (hw _ (List.mem_of_getElem? (i := 59) rfl)) (hw _ (List.mem_of_getElem? (i := 7) rfl)) (by decide) (by decide)) q5a q5c (g := (mkF m 12 #[.val (.ref oa), .val (.int (0 : Int32)), .val (.int (0 : Int32))] [(.int (0 : Int32)), (.ref oa)])) rfl (by rw [hml]; rfl) (Steps.refl _) (argsL := [(.int (0 : Int32))]) (rest := []) (lenOf pd_11 rfl) rfl (by show 2 * 0 + _ ≤ _; exact Nat.le_of_eq rfl) (hb hby d5_12) (fun _ _ => ⟨rfl, e1, (by decide : 0 + 0 ≤ _), (by decide : 0 + 0 ≤ _)⟩)
  dsimp only [Pt.U, Pt.locs, Pt.cells, Pt.slots] at X5 l5 y5 z5 st5 hQ5
  rw [l5, y5, z5] at X5
  obtain ⟨ch12_0, rfl, hch12_0, N5q, e5⟩ := hQ5
  have N5 := Fr.app N1 N5q
  have pre7 : ∀ t, Steps p.tables e below (T5.setTop (mkF m 17 #[.val (.ref oa), .val (.int (0 : Int32)), .val (.int (0 : Int32))] [(.int (63 : Int32)), (.int ch12_0)])) t → Steps p.tables e below (s₁.setTop (entryFrame m #[(.ref oa), (.int (0 : Int32))] 3)) t := fun t kt => by
    refine pre3 _ ?_
    refine XS.icmpNo X1.here hx rfl (hb hby d5_7) rfl (own_tlt (a := (0 : Int32)) (b := (2 : Int32)) (by decide) (by decide) hc7_4).2.1 ?_
    refine XS.aloadN X1.here hx rfl (hb hby d5_10) rfl rfl ?_
    show Steps p.tables e below (T1.setTop (mkF m 11 #[.val (.ref oa), .val (.int (0 : Int32)), .val (.int (0 : Int32))] [(.ref oa)])) _
    refine XS.iloadN X1.here hx rfl (hb hby d5_11) rfl ?_
    refine st5.trans ?_
    refine XS.bipush X5.here hx rfl (hb hby d5_15) ?_
    exact kt
  by_cases hc17_6 : ch12_0.toInt = (63 : Int)
  · obtain ⟨fs, hr, hrun, hended, hW, hsame⟩ := X5.leave (v := some (.int (0 : Int32))) (fun h => by rw [Bd.returns] at h; cases h)
    refine ⟨_, _, pre7 _ ?_, hrun, hended, _, _, rfl, ?_, ⟨_, rfl⟩, hW, hsame.mono (by decide) (by decide)⟩
    · show Steps p.tables e below (T5.setTop (mkF m 17 #[.val (.ref oa), .val (.int (0 : Int32)), .val (.int (0 : Int32))] [(.int (63 : Int32)), (.int ch12_0)])) _
      refine XS.icmpYes X5.here hx rfl (pc0 := 17) (pc' := 36) rfl (hb hby d5_17) rfl (own_teq (a := ch12_0) (b := (63 : Int32)) rfl (by decide) hc17_6).1 (by decide) (by decide) ?_
      refine XS.iloadN X5.here hx rfl (hb hby d5_36) rfl ?_
      exact retI X5 hx Bd.returns (hb hby d5_37) hr
    · show Q_pe2_0 Z _ _ _ _ _ _ _ _ _ h0 n0 _ T5.heap _
      rw [e5]
      exact ⟨_, rfl, by have s0 : own_stop c0.toInt := (by unfold own_stop; omega); rw [if_pos s0]; decide, N5, rfl⟩
  · obtain ⟨cq8, kq8, q8a, q8b, q8c⟩ := isOf hZ e5 Es
    obtain ⟨_, _, ⟨T8, L8, k8, n8⟩, -, X8, ⟨Lc8, hQ8, l8, y8, z8⟩, st8⟩ := X5.virtualBack hx (y := (⟨"java/lang/String", "charAt", "(I)C"⟩ : MethodName)) (z := (⟨"java/lang/String", "charAt", "(I)C"⟩ : MethodName)) hown (mvT hZ (hw _ (List.mem_of_getElem? (i := 55) rfl))) (mvT hZ (hw _ (List.mem_of_getElem? (i := 56) rfl))) (notFace_of_selects (args := #[]) (mvT hZ (hw _ (List.mem_of_getElem? (i := 58) rfl)))) (mvT hZ (hw _ (List.mem_of_getElem? (i := 58) rfl))) (mvT hZ (hw _ (List.mem_of_getElem? (i := 57) rfl))) (by decide) (backOf (W := 0) (rm_ch1 l Z a0 hw [] oa (0 : Int32) vcs vf ob kb (2 : Int32) [(.int bb0), (.int bb1)] bb0 h0 n0 Z0 Os Es Fc Fv Vb (by decide) (by decide) rfl) hZ (hw _ (List.mem_of_getElem? (i := 59) rfl)) (hw _ (List.mem_of_getElem? (i := 7) rfl)) (by decide) (by decide)) q8a q8c (g := (mkF m 22 #[.val (.ref oa), .val (.int (0 : Int32)), .val (.int (0 : Int32))] [(.int (0 : Int32)), (.ref oa)])) rfl (by rw [hml]; rfl) (Steps.refl _) (argsL := [(.int (0 : Int32))]) (rest := []) (lenOf pd_11 rfl) rfl (by show 2 * 0 + _ ≤ _; exact Nat.le_of_eq rfl) (hb hby d5_22) (fun _ _ => ⟨rfl, e5, (by decide : 0 + 0 ≤ _), (by decide : 0 + 0 ≤ _)⟩)
    dsimp only [Pt.U, Pt.locs, Pt.cells, Pt.slots] at X8 l8 y8 z8 st8 hQ8
    rw [l8, y8, z8] at X8
    obtain ⟨ch22_0, rfl, hch22_0, N8q, e8⟩ := hQ8
    have N8 := Fr.app N5 N8q
    have pre10 : ∀ t, Steps p.tables e below (T8.setTop (mkF m 27 #[.val (.ref oa), .val (.int (0 : Int32)), .val (.int (0 : Int32))] [(.int (35 : Int32)), (.int ch22_0)])) t → Steps p.tables e below (s₁.setTop (entryFrame m #[(.ref oa), (.int (0 : Int32))] 3)) t := fun t kt => by
      refine pre7 _ ?_
      show Steps p.tables e below (T5.setTop (mkF m 17 #[.val (.ref oa), .val (.int (0 : Int32)), .val (.int (0 : Int32))] [(.int (63 : Int32)), (.int ch12_0)])) _
      refine XS.icmpNo X5.here hx rfl (hb hby d5_17) rfl (own_feq (a := ch12_0) (b := (63 : Int32)) rfl (by decide) hc17_6).1 ?_
      refine XS.aloadN X5.here hx rfl (hb hby d5_20) rfl rfl ?_
      refine XS.iloadN X5.here hx rfl (hb hby d5_21) rfl ?_
      refine st8.trans ?_
      show Steps p.tables e below (T8.setTop (mkF m 25 #[.val (.ref oa), .val (.int (0 : Int32)), .val (.int (0 : Int32))] [(.int ch22_0)])) _
      refine XS.bipush X8.here hx rfl (hb hby d5_25) ?_
      exact kt
    by_cases hc27_9 : ch22_0.toInt = (35 : Int)
    · obtain ⟨fs, hr, hrun, hended, hW, hsame⟩ := X8.leave (v := some (.int (0 : Int32))) (fun h => by rw [Bd.returns] at h; cases h)
      refine ⟨_, _, pre10 _ ?_, hrun, hended, _, _, rfl, ?_, ⟨_, rfl⟩, hW, hsame.mono (by decide) (by decide)⟩
      · show Steps p.tables e below (T8.setTop (mkF m 27 #[.val (.ref oa), .val (.int (0 : Int32)), .val (.int (0 : Int32))] [(.int (35 : Int32)), (.int ch22_0)])) _
        refine XS.icmpYes X8.here hx rfl (pc0 := 27) (pc' := 36) rfl (hb hby d5_27) rfl (own_teq (a := ch22_0) (b := (35 : Int32)) rfl (by decide) hc27_9).1 (by decide) (by decide) ?_
        refine XS.iloadN X8.here hx rfl (hb hby d5_36) rfl ?_
        exact retI X8 hx Bd.returns (hb hby d5_37) hr
      · show Q_pe2_0 Z _ _ _ _ _ _ _ _ _ h0 n0 _ T8.heap _
        rw [e8]
        exact ⟨_, rfl, by have s0 : own_stop c0.toInt := (by unfold own_stop; omega); rw [if_pos s0]; decide, N8, rfl⟩
    · obtain ⟨cq11, kq11, q11a, q11b, q11c⟩ := isOf hZ e8 Es
      obtain ⟨_, _, ⟨T11, L11, k11, n11⟩, -, X11, ⟨Lc11, hQ11, l11, y11, z11⟩, st11⟩ := X8.virtualBack hx (y := (⟨"java/lang/String", "length", "()I"⟩ : MethodName)) (z := (⟨"java/lang/String", "length", "()I"⟩ : MethodName)) hown (mvT hZ (hw _ (List.mem_of_getElem? (i := 31) rfl))) (mvT hZ (hw _ (List.mem_of_getElem? (i := 32) rfl))) (notFace_of_selects (args := #[]) (mvT hZ (hw _ (List.mem_of_getElem? (i := 34) rfl)))) (mvT hZ (hw _ (List.mem_of_getElem? (i := 34) rfl))) (mvT hZ (hw _ (List.mem_of_getElem? (i := 33) rfl))) (by decide) (backOf (W := 1) (rm_len2_0 l Z a0 hw [] oa vcs vf ob kb [(.int bb0), (.int bb1)] h0 n0 Z0 Os Es Fc Fv Vb) hZ (hw _ (List.mem_of_getElem? (i := 35) rfl)) (hw _ (List.mem_of_getElem? (i := 7) rfl)) (by decide) (by decide)) q11a q11c (g := (mkF m 4 #[.val (.ref oa), .val (.int (0 : Int32)), .val (.int (1 : Int32))] [(.ref oa), (.int (1 : Int32))])) rfl (by rw [hml]; rfl) (Steps.refl _) (argsL := []) (rest := [(.int (1 : Int32))]) (lenOf pd_10 rfl) rfl (by show 2 * 0 + _ ≤ _; exact Nat.le_of_eq rfl) (hb hby d5_4) (fun _ _ => ⟨rfl, e8, (by decide : 0 + 0 ≤ _), (by decide : 0 + 0 ≤ _)⟩)
      dsimp only [Pt.U, Pt.locs, Pt.cells, Pt.slots] at X11 l11 y11 z11 st11 hQ11
      rw [l11, y11, z11] at X11
      obtain ⟨zl2, rfl, hzl2, N11q, e11⟩ := hQ11
      have N11 := Fr.app N8 N11q
      have pre12 : ∀ t, Steps p.tables e below (T11.setTop (mkF m 7 #[.val (.ref oa), .val (.int (0 : Int32)), .val (.int (1 : Int32))] [(.int zl2), (.int (1 : Int32))])) t → Steps p.tables e below (s₁.setTop (entryFrame m #[(.ref oa), (.int (0 : Int32))] 3)) t := fun t kt => by
        refine pre10 _ ?_
        show Steps p.tables e below (T8.setTop (mkF m 27 #[.val (.ref oa), .val (.int (0 : Int32)), .val (.int (0 : Int32))] [(.int (35 : Int32)), (.int ch22_0)])) _
        refine XS.icmpNo X8.here hx rfl (hb hby d5_27) rfl (own_feq (a := ch22_0) (b := (35 : Int32)) rfl (by decide) hc27_9).1 ?_
        refine XS.iinc X8.here hx rfl (hb hby d5_30) rfl (l' := #[.val (.ref oa), .val (.int (0 : Int32)), .val (.int (1 : Int32))]) rfl ?_
        refine XS.goto X8.here hx rfl (pc0 := 33) (pc' := 2) rfl (hb hby d5_33) (by decide) (by decide) ?_
        refine XS.iloadN X8.here hx rfl (hb hby d5_2) rfl ?_
        refine XS.aloadN X8.here hx rfl (hb hby d5_3) rfl rfl ?_
        refine st11.trans ?_
        exact kt
      subst hzl2
      have pre13 : ∀ t, Steps p.tables e below (T11.setTop (mkF m 7 #[.val (.ref oa), .val (.int (0 : Int32)), .val (.int (1 : Int32))] [(.int (2 : Int32)), (.int (1 : Int32))])) t → Steps p.tables e below (s₁.setTop (entryFrame m #[(.ref oa), (.int (0 : Int32))] 3)) t := pre12
      have hc7_14 : (1 : Int) < (2 : Int) := by decide
      obtain ⟨cq15, kq15, q15a, q15b, q15c⟩ := isOf hZ e11 Es
      obtain ⟨_, _, ⟨T15, L15, k15, n15⟩, -, X15, ⟨Lc15, hQ15, l15, y15, z15⟩, st15⟩ := X11.virtualBack hx (y := (⟨"java/lang/String", "charAt", "(I)C"⟩ : MethodName)) (z := (⟨"java/lang/String", "charAt", "(I)C"⟩ : MethodName)) hown (mvT hZ (hw _ (List.mem_of_getElem? (i := 55) rfl))) (mvT hZ (hw _ (List.mem_of_getElem? (i := 56) rfl))) (notFace_of_selects (args := #[]) (mvT hZ (hw _ (List.mem_of_getElem? (i := 58) rfl)))) (mvT hZ (hw _ (List.mem_of_getElem? (i := 58) rfl))) (mvT hZ (hw _ (List.mem_of_getElem? (i := 57) rfl))) (by decide) (backOf (W := 0) (rm_ch1 l Z a0 hw [] oa (1 : Int32) vcs vf ob kb (2 : Int32) [(.int bb0), (.int bb1)] bb1 h0 n0 Z0 Os Es Fc Fv Vb (by decide) (by decide) rfl) hZ (hw _ (List.mem_of_getElem? (i := 59) rfl)) (hw _ (List.mem_of_getElem? (i := 7) rfl)) (by decide) (by decide)) q15a q15c (g := (mkF m 12 #[.val (.ref oa), .val (.int (0 : Int32)), .val (.int (1 : Int32))] [(.int (1 : Int32)), (.ref oa)])) rfl (by rw [hml]; rfl) (Steps.refl _) (argsL := [(.int (1 : Int32))]) (rest := []) (lenOf pd_11 rfl) rfl (by show 2 * 0 + _ ≤ _; exact Nat.le_of_eq rfl) (hb hby d5_12) (fun _ _ => ⟨rfl, e11, (by decide : 0 + 0 ≤ _), (by decide : 0 + 0 ≤ _)⟩)
      dsimp only [Pt.U, Pt.locs, Pt.cells, Pt.slots] at X15 l15 y15 z15 st15 hQ15
      rw [l15, y15, z15] at X15
      obtain ⟨ch12_1, rfl, hch12_1, N15q, e15⟩ := hQ15
      have N15 := Fr.app N11 N15q
      have pre17 : ∀ t, Steps p.tables e below (T15.setTop (mkF m 17 #[.val (.ref oa), .val (.int (0 : Int32)), .val (.int (1 : Int32))] [(.int (63 : Int32)), (.int ch12_1)])) t → Steps p.tables e below (s₁.setTop (entryFrame m #[(.ref oa), (.int (0 : Int32))] 3)) t := fun t kt => by
        refine pre13 _ ?_
        show Steps p.tables e below (T11.setTop (mkF m 7 #[.val (.ref oa), .val (.int (0 : Int32)), .val (.int (1 : Int32))] [(.int (2 : Int32)), (.int (1 : Int32))])) _
        refine XS.icmpNo X11.here hx rfl (hb hby d5_7) rfl (own_tlt (a := (1 : Int32)) (b := (2 : Int32)) (by decide) (by decide) hc7_14).2.1 ?_
        refine XS.aloadN X11.here hx rfl (hb hby d5_10) rfl rfl ?_
        refine XS.iloadN X11.here hx rfl (hb hby d5_11) rfl ?_
        refine st15.trans ?_
        refine XS.bipush X15.here hx rfl (hb hby d5_15) ?_
        exact kt
      by_cases hc17_16 : ch12_1.toInt = (63 : Int)
      · obtain ⟨fs, hr, hrun, hended, hW, hsame⟩ := X15.leave (v := some (.int (1 : Int32))) (fun h => by rw [Bd.returns] at h; cases h)
        refine ⟨_, _, pre17 _ ?_, hrun, hended, _, _, rfl, ?_, ⟨_, rfl⟩, hW, hsame.mono (by decide) (by decide)⟩
        · show Steps p.tables e below (T15.setTop (mkF m 17 #[.val (.ref oa), .val (.int (0 : Int32)), .val (.int (1 : Int32))] [(.int (63 : Int32)), (.int ch12_1)])) _
          refine XS.icmpYes X15.here hx rfl (pc0 := 17) (pc' := 36) rfl (hb hby d5_17) rfl (own_teq (a := ch12_1) (b := (63 : Int32)) rfl (by decide) hc17_16).1 (by decide) (by decide) ?_
          refine XS.iloadN X15.here hx rfl (hb hby d5_36) rfl ?_
          show Steps p.tables e below (T15.setTop (mkF m 37 #[.val (.ref oa), .val (.int (0 : Int32)), .val (.int (1 : Int32))] [(.int (1 : Int32))])) _
          exact retI X15 hx Bd.returns (hb hby d5_37) hr
        · show Q_pe2_0 Z _ _ _ _ _ _ _ _ _ h0 n0 _ T15.heap _
          rw [e15]
          exact ⟨_, rfl, by have s0 : ¬ own_stop c0.toInt := (by unfold own_stop; omega); have s1 : own_stop c1.toInt := (by unfold own_stop; omega); rw [if_neg s0, if_pos s1]; decide, N15, rfl⟩
      · obtain ⟨cq18, kq18, q18a, q18b, q18c⟩ := isOf hZ e15 Es
        obtain ⟨_, _, ⟨T18, L18, k18, n18⟩, -, X18, ⟨Lc18, hQ18, l18, y18, z18⟩, st18⟩ := X15.virtualBack hx (y := (⟨"java/lang/String", "charAt", "(I)C"⟩ : MethodName)) (z := (⟨"java/lang/String", "charAt", "(I)C"⟩ : MethodName)) hown (mvT hZ (hw _ (List.mem_of_getElem? (i := 55) rfl))) (mvT hZ (hw _ (List.mem_of_getElem? (i := 56) rfl))) (notFace_of_selects (args := #[]) (mvT hZ (hw _ (List.mem_of_getElem? (i := 58) rfl)))) (mvT hZ (hw _ (List.mem_of_getElem? (i := 58) rfl))) (mvT hZ (hw _ (List.mem_of_getElem? (i := 57) rfl))) (by decide) (backOf (W := 0) (rm_ch1 l Z a0 hw [] oa (1 : Int32) vcs vf ob kb (2 : Int32) [(.int bb0), (.int bb1)] bb1 h0 n0 Z0 Os Es Fc Fv Vb (by decide) (by decide) rfl) hZ (hw _ (List.mem_of_getElem? (i := 59) rfl)) (hw _ (List.mem_of_getElem? (i := 7) rfl)) (by decide) (by decide)) q18a q18c (g := (mkF m 22 #[.val (.ref oa), .val (.int (0 : Int32)), .val (.int (1 : Int32))] [(.int (1 : Int32)), (.ref oa)])) rfl (by rw [hml]; rfl) (Steps.refl _) (argsL := [(.int (1 : Int32))]) (rest := []) (lenOf pd_11 rfl) rfl (by show 2 * 0 + _ ≤ _; exact Nat.le_of_eq rfl) (hb hby d5_22) (fun _ _ => ⟨rfl, e15, (by decide : 0 + 0 ≤ _), (by decide : 0 + 0 ≤ _)⟩)
        dsimp only [Pt.U, Pt.locs, Pt.cells, Pt.slots] at X18 l18 y18 z18 st18 hQ18
        rw [l18, y18, z18] at X18
        obtain ⟨ch22_1, rfl, hch22_1, N18q, e18⟩ := hQ18
        have N18 := Fr.app N15 N18q
        have pre20 : ∀ t, Steps p.tables e below (T18.setTop (mkF m 27 #[.val (.ref oa), .val (.int (0 : Int32)), .val (.int (1 : Int32))] [(.int (35 : Int32)), (.int ch22_1)])) t → Steps p.tables e below (s₁.setTop (entryFrame m #[(.ref oa), (.int (0 : Int32))] 3)) t := fun t kt => by
          refine pre17 _ ?_
          show Steps p.tables e below (T15.setTop (mkF m 17 #[.val (.ref oa), .val (.int (0 : Int32)), .val (.int (1 : Int32))] [(.int (63 : Int32)), (.int ch12_1)])) _
          refine XS.icmpNo X15.here hx rfl (hb hby d5_17) rfl (own_feq (a := ch12_1) (b := (63 : Int32)) rfl (by decide) hc17_16).1 ?_
          refine XS.aloadN X15.here hx rfl (hb hby d5_20) rfl rfl ?_
          show Steps p.tables e below (T15.setTop (mkF m 21 #[.val (.ref oa), .val (.int (0 : Int32)), .val (.int (1 : Int32))] [(.ref oa)])) _
          refine XS.iloadN X15.here hx rfl (hb hby d5_21) rfl ?_
          refine st18.trans ?_
          refine XS.bipush X18.here hx rfl (hb hby d5_25) ?_
          exact kt
        by_cases hc27_19 : ch22_1.toInt = (35 : Int)
        · obtain ⟨fs, hr, hrun, hended, hW, hsame⟩ := X18.leave (v := some (.int (1 : Int32))) (fun h => by rw [Bd.returns] at h; cases h)
          refine ⟨_, _, pre20 _ ?_, hrun, hended, _, _, rfl, ?_, ⟨_, rfl⟩, hW, hsame.mono (by decide) (by decide)⟩
          · show Steps p.tables e below (T18.setTop (mkF m 27 #[.val (.ref oa), .val (.int (0 : Int32)), .val (.int (1 : Int32))] [(.int (35 : Int32)), (.int ch22_1)])) _
            refine XS.icmpYes X18.here hx rfl (pc0 := 27) (pc' := 36) rfl (hb hby d5_27) rfl (own_teq (a := ch22_1) (b := (35 : Int32)) rfl (by decide) hc27_19).1 (by decide) (by decide) ?_
            refine XS.iloadN X18.here hx rfl (hb hby d5_36) rfl ?_
            exact retI X18 hx Bd.returns (hb hby d5_37) hr
          · show Q_pe2_0 Z _ _ _ _ _ _ _ _ _ h0 n0 _ T18.heap _
            rw [e18]
            exact ⟨_, rfl, by have s0 : ¬ own_stop c0.toInt := (by unfold own_stop; omega); have s1 : own_stop c1.toInt := (by unfold own_stop; omega); rw [if_neg s0, if_pos s1]; decide, N18, rfl⟩
        · obtain ⟨cq21, kq21, q21a, q21b, q21c⟩ := isOf hZ e18 Es
          obtain ⟨_, _, ⟨T21, L21, k21, n21⟩, -, X21, ⟨Lc21, hQ21, l21, y21, z21⟩, st21⟩ := X18.virtualBack hx (y := (⟨"java/lang/String", "length", "()I"⟩ : MethodName)) (z := (⟨"java/lang/String", "length", "()I"⟩ : MethodName)) hown (mvT hZ (hw _ (List.mem_of_getElem? (i := 31) rfl))) (mvT hZ (hw _ (List.mem_of_getElem? (i := 32) rfl))) (notFace_of_selects (args := #[]) (mvT hZ (hw _ (List.mem_of_getElem? (i := 34) rfl)))) (mvT hZ (hw _ (List.mem_of_getElem? (i := 34) rfl))) (mvT hZ (hw _ (List.mem_of_getElem? (i := 33) rfl))) (by decide) (backOf (W := 1) (rm_len2_0 l Z a0 hw [] oa vcs vf ob kb [(.int bb0), (.int bb1)] h0 n0 Z0 Os Es Fc Fv Vb) hZ (hw _ (List.mem_of_getElem? (i := 35) rfl)) (hw _ (List.mem_of_getElem? (i := 7) rfl)) (by decide) (by decide)) q21a q21c (g := (mkF m 4 #[.val (.ref oa), .val (.int (0 : Int32)), .val (.int (2 : Int32))] [(.ref oa), (.int (2 : Int32))])) rfl (by rw [hml]; rfl) (Steps.refl _) (argsL := []) (rest := [(.int (2 : Int32))]) (lenOf pd_10 rfl) rfl (by show 2 * 0 + _ ≤ _; exact Nat.le_of_eq rfl) (hb hby d5_4) (fun _ _ => ⟨rfl, e18, (by decide : 0 + 0 ≤ _), (by decide : 0 + 0 ≤ _)⟩)
          dsimp only [Pt.U, Pt.locs, Pt.cells, Pt.slots] at X21 l21 y21 z21 st21 hQ21
          rw [l21, y21, z21] at X21
          obtain ⟨zl3, rfl, hzl3, N21q, e21⟩ := hQ21
          have N21 := Fr.app N18 N21q
          have pre22 : ∀ t, Steps p.tables e below (T21.setTop (mkF m 7 #[.val (.ref oa), .val (.int (0 : Int32)), .val (.int (2 : Int32))] [(.int zl3), (.int (2 : Int32))])) t → Steps p.tables e below (s₁.setTop (entryFrame m #[(.ref oa), (.int (0 : Int32))] 3)) t := fun t kt => by
            refine pre20 _ ?_
            show Steps p.tables e below (T18.setTop (mkF m 27 #[.val (.ref oa), .val (.int (0 : Int32)), .val (.int (1 : Int32))] [(.int (35 : Int32)), (.int ch22_1)])) _
            refine XS.icmpNo X18.here hx rfl (hb hby d5_27) rfl (own_feq (a := ch22_1) (b := (35 : Int32)) rfl (by decide) hc27_19).1 ?_
            refine XS.iinc X18.here hx rfl (hb hby d5_30) rfl (l' := #[.val (.ref oa), .val (.int (0 : Int32)), .val (.int (2 : Int32))]) rfl ?_
            refine XS.goto X18.here hx rfl (pc0 := 33) (pc' := 2) rfl (hb hby d5_33) (by decide) (by decide) ?_
            refine XS.iloadN X18.here hx rfl (hb hby d5_2) rfl ?_
            show Steps p.tables e below (T18.setTop (mkF m 3 #[.val (.ref oa), .val (.int (0 : Int32)), .val (.int (2 : Int32))] [(.int (2 : Int32))])) _
            refine XS.aloadN X18.here hx rfl (hb hby d5_3) rfl rfl ?_
            refine st21.trans ?_
            exact kt
          subst hzl3
          have pre23 : ∀ t, Steps p.tables e below (T21.setTop (mkF m 7 #[.val (.ref oa), .val (.int (0 : Int32)), .val (.int (2 : Int32))] [(.int (2 : Int32)), (.int (2 : Int32))])) t → Steps p.tables e below (s₁.setTop (entryFrame m #[(.ref oa), (.int (0 : Int32))] 3)) t := pre22
          have hc7_24 : ¬ ((2 : Int) < (2 : Int)) := by decide
          obtain ⟨fs, hr, hrun, hended, hW, hsame⟩ := X21.leave (v := some (.int (2 : Int32))) (fun h => by rw [Bd.returns] at h; cases h)
          refine ⟨_, _, pre23 _ ?_, hrun, hended, _, _, rfl, ?_, ⟨_, rfl⟩, hW, hsame.mono (by decide) (by decide)⟩
          · refine XS.icmpYes X21.here hx rfl (pc0 := 7) (pc' := 36) rfl (hb hby d5_7) rfl (own_flt (a := (2 : Int32)) (b := (2 : Int32)) (by decide) (by decide) hc7_24).2.1 (by decide) (by decide) ?_
            refine XS.iloadN X21.here hx rfl (hb hby d5_36) rfl ?_
            exact retI X21 hx Bd.returns (hb hby d5_37) hr
          · show Q_pe2_0 Z _ _ _ _ _ _ _ _ _ h0 n0 _ T21.heap _
            rw [e21]
            exact ⟨_, rfl, by have s0 : ¬ own_stop c0.toInt := (by unfold own_stop; omega); have s1 : ¬ own_stop c1.toInt := (by unfold own_stop; omega); rw [if_neg s0, if_neg s1]; decide, N21, rfl⟩
theorem ef_rm_pe2_1 (m : MethodId) (x0 : Addr) : entryFrame m #[(.ref x0), (.int (1 : Int32))] 3 = mkF m 0 #[.val (.ref x0), .val (.int (1 : Int32)), .unset] [] := by first | (simp [entryFrame, mkF, argsToLocals, Value.category]; done) | rfl
def Q_pe2_1 (Z : State) (oa : Addr) (vcs : Int32) (vf : Value) (ob : Addr) (kb : ClassId) (bb0 : Int32) (bb1 : Int32) (c0 : Int32) (c1 : Int32) (h0 : Heap) (n0 : Nat) (v : Option Value) (h : Heap) (L : List Loc) : Prop := ∃ z : Int32, v = some (.int z) ∧ (z.toInt = (if own_stop c1.toInt then (1 : Int) else (2 : Int))) ∧ Fr n0 L ∧ h = h0
set_option maxRecDepth 65536 in
set_option maxHeartbeats 40000000 in
theorem rm_pe2_1 (l : Launch) (Z : State) (a0 : Array Value) (hw : ∀ d ∈ tables_1, d.before a0 Z = true) (ws : List Jvm.Cond) (oa : Addr) (vcs : Int32) (vf : Value) (ob : Addr) (kb : ClassId) (bb0 : Int32) (bb1 : Int32) (c0 : Int32) (c1 : Int32) (h0 : Heap) (n0 : Nat) (Z0 : n0 ≤ h0.size) (Os : own_st Z h0 vcs vf) (Es : Exa Z h0 oa "java/lang/String") (Fc : Fld Z h0 oa "java/lang/String" "coder" "B" (.int (0 : Int32))) (Fv : Fld Z h0 oa "java/lang/String" "value" "[B" (.ref ob)) (Vb : Arv Z h0 ob kb .byte (2 : Int32) [(.int bb0), (.int bb1)] (.int (0 : Int32))) (qbb0 : bb0.toInt % 256 = c0.toInt) (qbb1 : bb1.toInt % 256 = c1.toInt) :
    MetFree l (⟨"com/example/path_template_matcher/pathtemplatematcher/UriReference", "pathEnd", "(Ljava/lang/String;I)I"⟩ : MethodName) (head1 (Jvm.Cond.code (⟨"com/example/path_template_matcher/pathtemplatematcher/UriReference", "pathEnd", "(Ljava/lang/String;I)I"⟩ : MethodName) prog_36_method_4_code 3 (some .int) :: ws) ({ frames := 4, cells := 0, slots := 0, locals := 53 } : Room)) (fun a U => a = #[(.ref oa), (.int (1 : Int32))] ∧ Z.Warmed39 U.vm ∧ U.heap = h0) (fun _ _ _ _ _ => True) (fun _ U o U' => ∃ v L, o = .returned v ∧ Q_pe2_1 Z oa vcs vf ob kb bb0 bb1 c0 c1 h0 n0 v U'.heap L ∧ FrameEnd U o U' L ({ frames := 4, cells := 0, slots := 0, locals := 53 } : Room).cells ({ frames := 4, cells := 0, slots := 0, locals := 53 } : Room).slots) := by
  refine MetFree.of_bodySF (plainFor_of_name pn_5) hisR ?_
  intro p e s m args below meth c s₁ Bd hml0 hP hK
  obtain ⟨rfl, hZ, hh⟩ := hP
  have hx := Bd.exec
  have hby := Bd.bytes
  have hml : c.maxLocals = 3 := hml0
  have hown : s.vm.findClass "com/example/path_template_matcher/pathtemplatematcher/UriReference" = some m.cls := findClass_of_methodNamed Bd.named
  have hnm := (name_of_methodNamed Bd.named Bd.method).1
  have X0 : Stand p l e ({ frames := 4, cells := 0, slots := 0, locals := 53 } : Room) s m #[(.ref oa), (.int (1 : Int32))] below meth c s₁ [] 0 0 := Stand.of_body Bd
  have e0 : s₁.heap = h0 := by rw [← hh, Bd.state]; rfl
  have N0 := Fr.nil n0
  have pre0 : ∀ t, Steps p.tables e below (s₁.setTop (mkF m 0 #[.val (.ref oa), .val (.int (1 : Int32)), .unset] [])) t → Steps p.tables e below (s₁.setTop (entryFrame m #[(.ref oa), (.int (1 : Int32))] 3)) t := fun t k => castTop (ef_rm_pe2_1 m oa) k
  obtain ⟨cq1, kq1, q1a, q1b, q1c⟩ := isOf hZ e0 Es
  obtain ⟨_, _, ⟨T1, L1, k1, n1⟩, -, X1, ⟨Lc1, hQ1, l1, y1, z1⟩, st1⟩ := X0.virtualBack hx (y := (⟨"java/lang/String", "length", "()I"⟩ : MethodName)) (z := (⟨"java/lang/String", "length", "()I"⟩ : MethodName)) hown (mvT hZ (hw _ (List.mem_of_getElem? (i := 31) rfl))) (mvT hZ (hw _ (List.mem_of_getElem? (i := 32) rfl))) (notFace_of_selects (args := #[]) (mvT hZ (hw _ (List.mem_of_getElem? (i := 34) rfl)))) (mvT hZ (hw _ (List.mem_of_getElem? (i := 34) rfl))) (mvT hZ (hw _ (List.mem_of_getElem? (i := 33) rfl))) (by decide) (backOf (W := 1) (rm_len2_0 l Z a0 hw [] oa vcs vf ob kb [(.int bb0), (.int bb1)] h0 n0 Z0 Os Es Fc Fv Vb) hZ (hw _ (List.mem_of_getElem? (i := 35) rfl)) (hw _ (List.mem_of_getElem? (i := 7) rfl)) (by decide) (by decide)) q1a q1c (g := (mkF m 4 #[.val (.ref oa), .val (.int (1 : Int32)), .val (.int (1 : Int32))] [(.ref oa), (.int (1 : Int32))])) rfl (by rw [hml]; rfl) (Steps.refl _) (argsL := []) (rest := [(.int (1 : Int32))]) (lenOf pd_10 rfl) rfl (by show 2 * 0 + _ ≤ _; exact Nat.le_of_eq rfl) (hb hby d5_4) (fun _ _ => ⟨rfl, e0, (by decide : 0 + 0 ≤ _), (by decide : 0 + 0 ≤ _)⟩)
  dsimp only [Pt.U, Pt.locs, Pt.cells, Pt.slots] at X1 l1 y1 z1 st1 hQ1
  rw [l1, y1, z1] at X1
  obtain ⟨zl1, rfl, hzl1, N1q, e1⟩ := hQ1
  have N1 := Fr.app N0 N1q
  have pre2 : ∀ t, Steps p.tables e below (T1.setTop (mkF m 7 #[.val (.ref oa), .val (.int (1 : Int32)), .val (.int (1 : Int32))] [(.int zl1), (.int (1 : Int32))])) t → Steps p.tables e below (s₁.setTop (entryFrame m #[(.ref oa), (.int (1 : Int32))] 3)) t := fun t kt => by
    refine pre0 _ ?_
    refine XS.iloadN X0.here hx rfl (hb hby d5_0) rfl ?_
    refine XS.istoreN X0.here hx rfl (hb hby d5_1) rfl (l' := #[.val (.ref oa), .val (.int (1 : Int32)), .val (.int (1 : Int32))]) rfl ?_
    refine XS.iloadN X0.here hx rfl (hb hby d5_2) rfl ?_
    refine XS.aloadN X0.here hx rfl (hb hby d5_3) rfl rfl ?_
    refine st1.trans ?_
    exact kt
  subst hzl1
  have pre3 : ∀ t, Steps p.tables e below (T1.setTop (mkF m 7 #[.val (.ref oa), .val (.int (1 : Int32)), .val (.int (1 : Int32))] [(.int (2 : Int32)), (.int (1 : Int32))])) t → Steps p.tables e below (s₁.setTop (entryFrame m #[(.ref oa), (.int (1 : Int32))] 3)) t := pre2
  have hc7_4 : (1 : Int) < (2 : Int) := by decide
  obtain ⟨cq5, kq5, q5a, q5b, q5c⟩ := isOf hZ e1 Es
  obtain ⟨_, _, ⟨T5, L5, k5, n5⟩, -, X5, ⟨Lc5, hQ5, l5, y5, z5⟩, st5⟩ := X1.virtualBack hx (y := (⟨"java/lang/String", "charAt", "(I)C"⟩ : MethodName)) (z := (⟨"java/lang/String", "charAt", "(I)C"⟩ : MethodName)) hown (mvT hZ (hw _ (List.mem_of_getElem? (i := 55) rfl))) (mvT hZ (hw _ (List.mem_of_getElem? (i := 56) rfl))) (notFace_of_selects (args := #[]) (mvT hZ (hw _ (List.mem_of_getElem? (i := 58) rfl)))) (mvT hZ (hw _ (List.mem_of_getElem? (i := 58) rfl))) (mvT hZ (hw _ (List.mem_of_getElem? (i := 57) rfl))) (by decide) (backOf (W := 0) (rm_ch1 l Z a0 hw [] oa (1 : Int32) vcs vf ob kb (2 : Int32) [(.int bb0), (.int bb1)] bb1 h0 n0 Z0 Os Es Fc Fv Vb (by decide) (by decide) rfl) hZ (hw _ (List.mem_of_getElem? (i := 59) rfl)) (hw _ (List.mem_of_getElem? (i := 7) rfl)) (by decide) (by decide)) q5a q5c (g := (mkF m 12 #[.val (.ref oa), .val (.int (1 : Int32)), .val (.int (1 : Int32))] [(.int (1 : Int32)), (.ref oa)])) rfl (by rw [hml]; rfl) (Steps.refl _) (argsL := [(.int (1 : Int32))]) (rest := []) (lenOf pd_11 rfl) rfl (by show 2 * 0 + _ ≤ _; exact Nat.le_of_eq rfl) (hb hby d5_12) (fun _ _ => ⟨rfl, e1, (by decide : 0 + 0 ≤ _), (by decide : 0 + 0 ≤ _)⟩)
  dsimp only [Pt.U, Pt.locs, Pt.cells, Pt.slots] at X5 l5 y5 z5 st5 hQ5
  rw [l5, y5, z5] at X5
  obtain ⟨ch12_1, rfl, hch12_1, N5q, e5⟩ := hQ5
  have N5 := Fr.app N1 N5q
  have pre7 : ∀ t, Steps p.tables e below (T5.setTop (mkF m 17 #[.val (.ref oa), .val (.int (1 : Int32)), .val (.int (1 : Int32))] [(.int (63 : Int32)), (.int ch12_1)])) t → Steps p.tables e below (s₁.setTop (entryFrame m #[(.ref oa), (.int (1 : Int32))] 3)) t := fun t kt => by
    refine pre3 _ ?_
    refine XS.icmpNo X1.here hx rfl (hb hby d5_7) rfl (own_tlt (a := (1 : Int32)) (b := (2 : Int32)) (by decide) (by decide) hc7_4).2.1 ?_
    refine XS.aloadN X1.here hx rfl (hb hby d5_10) rfl rfl ?_
    show Steps p.tables e below (T1.setTop (mkF m 11 #[.val (.ref oa), .val (.int (1 : Int32)), .val (.int (1 : Int32))] [(.ref oa)])) _
    refine XS.iloadN X1.here hx rfl (hb hby d5_11) rfl ?_
    refine st5.trans ?_
    refine XS.bipush X5.here hx rfl (hb hby d5_15) ?_
    exact kt
  by_cases hc17_6 : ch12_1.toInt = (63 : Int)
  · obtain ⟨fs, hr, hrun, hended, hW, hsame⟩ := X5.leave (v := some (.int (1 : Int32))) (fun h => by rw [Bd.returns] at h; cases h)
    refine ⟨_, _, pre7 _ ?_, hrun, hended, _, _, rfl, ?_, ⟨_, rfl⟩, hW, hsame.mono (by decide) (by decide)⟩
    · show Steps p.tables e below (T5.setTop (mkF m 17 #[.val (.ref oa), .val (.int (1 : Int32)), .val (.int (1 : Int32))] [(.int (63 : Int32)), (.int ch12_1)])) _
      refine XS.icmpYes X5.here hx rfl (pc0 := 17) (pc' := 36) rfl (hb hby d5_17) rfl (own_teq (a := ch12_1) (b := (63 : Int32)) rfl (by decide) hc17_6).1 (by decide) (by decide) ?_
      refine XS.iloadN X5.here hx rfl (hb hby d5_36) rfl ?_
      exact retI X5 hx Bd.returns (hb hby d5_37) hr
    · show Q_pe2_1 Z _ _ _ _ _ _ _ _ _ h0 n0 _ T5.heap _
      rw [e5]
      exact ⟨_, rfl, by have s1 : own_stop c1.toInt := (by unfold own_stop; omega); rw [if_pos s1]; decide, N5, rfl⟩
  · obtain ⟨cq8, kq8, q8a, q8b, q8c⟩ := isOf hZ e5 Es
    obtain ⟨_, _, ⟨T8, L8, k8, n8⟩, -, X8, ⟨Lc8, hQ8, l8, y8, z8⟩, st8⟩ := X5.virtualBack hx (y := (⟨"java/lang/String", "charAt", "(I)C"⟩ : MethodName)) (z := (⟨"java/lang/String", "charAt", "(I)C"⟩ : MethodName)) hown (mvT hZ (hw _ (List.mem_of_getElem? (i := 55) rfl))) (mvT hZ (hw _ (List.mem_of_getElem? (i := 56) rfl))) (notFace_of_selects (args := #[]) (mvT hZ (hw _ (List.mem_of_getElem? (i := 58) rfl)))) (mvT hZ (hw _ (List.mem_of_getElem? (i := 58) rfl))) (mvT hZ (hw _ (List.mem_of_getElem? (i := 57) rfl))) (by decide) (backOf (W := 0) (rm_ch1 l Z a0 hw [] oa (1 : Int32) vcs vf ob kb (2 : Int32) [(.int bb0), (.int bb1)] bb1 h0 n0 Z0 Os Es Fc Fv Vb (by decide) (by decide) rfl) hZ (hw _ (List.mem_of_getElem? (i := 59) rfl)) (hw _ (List.mem_of_getElem? (i := 7) rfl)) (by decide) (by decide)) q8a q8c (g := (mkF m 22 #[.val (.ref oa), .val (.int (1 : Int32)), .val (.int (1 : Int32))] [(.int (1 : Int32)), (.ref oa)])) rfl (by rw [hml]; rfl) (Steps.refl _) (argsL := [(.int (1 : Int32))]) (rest := []) (lenOf pd_11 rfl) rfl (by show 2 * 0 + _ ≤ _; exact Nat.le_of_eq rfl) (hb hby d5_22) (fun _ _ => ⟨rfl, e5, (by decide : 0 + 0 ≤ _), (by decide : 0 + 0 ≤ _)⟩)
    dsimp only [Pt.U, Pt.locs, Pt.cells, Pt.slots] at X8 l8 y8 z8 st8 hQ8
    rw [l8, y8, z8] at X8
    obtain ⟨ch22_1, rfl, hch22_1, N8q, e8⟩ := hQ8
    have N8 := Fr.app N5 N8q
    have pre10 : ∀ t, Steps p.tables e below (T8.setTop (mkF m 27 #[.val (.ref oa), .val (.int (1 : Int32)), .val (.int (1 : Int32))] [(.int (35 : Int32)), (.int ch22_1)])) t → Steps p.tables e below (s₁.setTop (entryFrame m #[(.ref oa), (.int (1 : Int32))] 3)) t := fun t kt => by
      refine pre7 _ ?_
      show Steps p.tables e below (T5.setTop (mkF m 17 #[.val (.ref oa), .val (.int (1 : Int32)), .val (.int (1 : Int32))] [(.int (63 : Int32)), (.int ch12_1)])) _
      refine XS.icmpNo X5.here hx rfl (hb hby d5_17) rfl (own_feq (a := ch12_1) (b := (63 : Int32)) rfl (by decide) hc17_6).1 ?_
      refine XS.aloadN X5.here hx rfl (hb hby d5_20) rfl rfl ?_
      refine XS.iloadN X5.here hx rfl (hb hby d5_21) rfl ?_
      refine st8.trans ?_
      show Steps p.tables e below (T8.setTop (mkF m 25 #[.val (.ref oa), .val (.int (1 : Int32)), .val (.int (1 : Int32))] [(.int ch22_1)])) _
      refine XS.bipush X8.here hx rfl (hb hby d5_25) ?_
      exact kt
    by_cases hc27_9 : ch22_1.toInt = (35 : Int)
    · obtain ⟨fs, hr, hrun, hended, hW, hsame⟩ := X8.leave (v := some (.int (1 : Int32))) (fun h => by rw [Bd.returns] at h; cases h)
      refine ⟨_, _, pre10 _ ?_, hrun, hended, _, _, rfl, ?_, ⟨_, rfl⟩, hW, hsame.mono (by decide) (by decide)⟩
      · show Steps p.tables e below (T8.setTop (mkF m 27 #[.val (.ref oa), .val (.int (1 : Int32)), .val (.int (1 : Int32))] [(.int (35 : Int32)), (.int ch22_1)])) _
        refine XS.icmpYes X8.here hx rfl (pc0 := 27) (pc' := 36) rfl (hb hby d5_27) rfl (own_teq (a := ch22_1) (b := (35 : Int32)) rfl (by decide) hc27_9).1 (by decide) (by decide) ?_
        refine XS.iloadN X8.here hx rfl (hb hby d5_36) rfl ?_
        exact retI X8 hx Bd.returns (hb hby d5_37) hr
      · show Q_pe2_1 Z _ _ _ _ _ _ _ _ _ h0 n0 _ T8.heap _
        rw [e8]
        exact ⟨_, rfl, by have s1 : own_stop c1.toInt := (by unfold own_stop; omega); rw [if_pos s1]; decide, N8, rfl⟩
    · obtain ⟨cq11, kq11, q11a, q11b, q11c⟩ := isOf hZ e8 Es
      obtain ⟨_, _, ⟨T11, L11, k11, n11⟩, -, X11, ⟨Lc11, hQ11, l11, y11, z11⟩, st11⟩ := X8.virtualBack hx (y := (⟨"java/lang/String", "length", "()I"⟩ : MethodName)) (z := (⟨"java/lang/String", "length", "()I"⟩ : MethodName)) hown (mvT hZ (hw _ (List.mem_of_getElem? (i := 31) rfl))) (mvT hZ (hw _ (List.mem_of_getElem? (i := 32) rfl))) (notFace_of_selects (args := #[]) (mvT hZ (hw _ (List.mem_of_getElem? (i := 34) rfl)))) (mvT hZ (hw _ (List.mem_of_getElem? (i := 34) rfl))) (mvT hZ (hw _ (List.mem_of_getElem? (i := 33) rfl))) (by decide) (backOf (W := 1) (rm_len2_0 l Z a0 hw [] oa vcs vf ob kb [(.int bb0), (.int bb1)] h0 n0 Z0 Os Es Fc Fv Vb) hZ (hw _ (List.mem_of_getElem? (i := 35) rfl)) (hw _ (List.mem_of_getElem? (i := 7) rfl)) (by decide) (by decide)) q11a q11c (g := (mkF m 4 #[.val (.ref oa), .val (.int (1 : Int32)), .val (.int (2 : Int32))] [(.ref oa), (.int (2 : Int32))])) rfl (by rw [hml]; rfl) (Steps.refl _) (argsL := []) (rest := [(.int (2 : Int32))]) (lenOf pd_10 rfl) rfl (by show 2 * 0 + _ ≤ _; exact Nat.le_of_eq rfl) (hb hby d5_4) (fun _ _ => ⟨rfl, e8, (by decide : 0 + 0 ≤ _), (by decide : 0 + 0 ≤ _)⟩)
      dsimp only [Pt.U, Pt.locs, Pt.cells, Pt.slots] at X11 l11 y11 z11 st11 hQ11
      rw [l11, y11, z11] at X11
      obtain ⟨zl2, rfl, hzl2, N11q, e11⟩ := hQ11
      have N11 := Fr.app N8 N11q
      have pre12 : ∀ t, Steps p.tables e below (T11.setTop (mkF m 7 #[.val (.ref oa), .val (.int (1 : Int32)), .val (.int (2 : Int32))] [(.int zl2), (.int (2 : Int32))])) t → Steps p.tables e below (s₁.setTop (entryFrame m #[(.ref oa), (.int (1 : Int32))] 3)) t := fun t kt => by
        refine pre10 _ ?_
        show Steps p.tables e below (T8.setTop (mkF m 27 #[.val (.ref oa), .val (.int (1 : Int32)), .val (.int (1 : Int32))] [(.int (35 : Int32)), (.int ch22_1)])) _
        refine XS.icmpNo X8.here hx rfl (hb hby d5_27) rfl (own_feq (a := ch22_1) (b := (35 : Int32)) rfl (by decide) hc27_9).1 ?_
        refine XS.iinc X8.here hx rfl (hb hby d5_30) rfl (l' := #[.val (.ref oa), .val (.int (1 : Int32)), .val (.int (2 : Int32))]) rfl ?_
        refine XS.goto X8.here hx rfl (pc0 := 33) (pc' := 2) rfl (hb hby d5_33) (by decide) (by decide) ?_
        refine XS.iloadN X8.here hx rfl (hb hby d5_2) rfl ?_
        refine XS.aloadN X8.here hx rfl (hb hby d5_3) rfl rfl ?_
        refine st11.trans ?_
        exact kt
      subst hzl2
      have pre13 : ∀ t, Steps p.tables e below (T11.setTop (mkF m 7 #[.val (.ref oa), .val (.int (1 : Int32)), .val (.int (2 : Int32))] [(.int (2 : Int32)), (.int (2 : Int32))])) t → Steps p.tables e below (s₁.setTop (entryFrame m #[(.ref oa), (.int (1 : Int32))] 3)) t := pre12
      have hc7_14 : ¬ ((2 : Int) < (2 : Int)) := by decide
      obtain ⟨fs, hr, hrun, hended, hW, hsame⟩ := X11.leave (v := some (.int (2 : Int32))) (fun h => by rw [Bd.returns] at h; cases h)
      refine ⟨_, _, pre13 _ ?_, hrun, hended, _, _, rfl, ?_, ⟨_, rfl⟩, hW, hsame.mono (by decide) (by decide)⟩
      · show Steps p.tables e below (T11.setTop (mkF m 7 #[.val (.ref oa), .val (.int (1 : Int32)), .val (.int (2 : Int32))] [(.int (2 : Int32)), (.int (2 : Int32))])) _
        refine XS.icmpYes X11.here hx rfl (pc0 := 7) (pc' := 36) rfl (hb hby d5_7) rfl (own_flt (a := (2 : Int32)) (b := (2 : Int32)) (by decide) (by decide) hc7_14).2.1 (by decide) (by decide) ?_
        refine XS.iloadN X11.here hx rfl (hb hby d5_36) rfl ?_
        exact retI X11 hx Bd.returns (hb hby d5_37) hr
      · show Q_pe2_1 Z _ _ _ _ _ _ _ _ _ h0 n0 _ T11.heap _
        rw [e11]
        exact ⟨_, rfl, by have s1 : ¬ own_stop c1.toInt := (by unfold own_stop; omega); rw [if_neg s1]; decide, N11, rfl⟩
theorem ef_rm_pe2_2 (m : MethodId) (x0 : Addr) : entryFrame m #[(.ref x0), (.int (2 : Int32))] 3 = mkF m 0 #[.val (.ref x0), .val (.int (2 : Int32)), .unset] [] := by first | (simp [entryFrame, mkF, argsToLocals, Value.category]; done) | rfl
def Q_pe2_2 (Z : State) (oa : Addr) (vcs : Int32) (vf : Value) (ob : Addr) (kb : ClassId) (bb0 : Int32) (bb1 : Int32) (c0 : Int32) (c1 : Int32) (h0 : Heap) (n0 : Nat) (v : Option Value) (h : Heap) (L : List Loc) : Prop := ∃ z : Int32, v = some (.int z) ∧ (z.toInt = (2 : Int)) ∧ Fr n0 L ∧ h = h0
set_option maxRecDepth 65536 in
set_option maxHeartbeats 40000000 in
theorem rm_pe2_2 (l : Launch) (Z : State) (a0 : Array Value) (hw : ∀ d ∈ tables_1, d.before a0 Z = true) (ws : List Jvm.Cond) (oa : Addr) (vcs : Int32) (vf : Value) (ob : Addr) (kb : ClassId) (bb0 : Int32) (bb1 : Int32) (c0 : Int32) (c1 : Int32) (h0 : Heap) (n0 : Nat) (Z0 : n0 ≤ h0.size) (Os : own_st Z h0 vcs vf) (Es : Exa Z h0 oa "java/lang/String") (Fc : Fld Z h0 oa "java/lang/String" "coder" "B" (.int (0 : Int32))) (Fv : Fld Z h0 oa "java/lang/String" "value" "[B" (.ref ob)) (Vb : Arv Z h0 ob kb .byte (2 : Int32) [(.int bb0), (.int bb1)] (.int (0 : Int32))) (qbb0 : bb0.toInt % 256 = c0.toInt) (qbb1 : bb1.toInt % 256 = c1.toInt) :
    MetFree l (⟨"com/example/path_template_matcher/pathtemplatematcher/UriReference", "pathEnd", "(Ljava/lang/String;I)I"⟩ : MethodName) (head1 (Jvm.Cond.code (⟨"com/example/path_template_matcher/pathtemplatematcher/UriReference", "pathEnd", "(Ljava/lang/String;I)I"⟩ : MethodName) prog_36_method_4_code 3 (some .int) :: ws) ({ frames := 2, cells := 0, slots := 0, locals := 26 } : Room)) (fun a U => a = #[(.ref oa), (.int (2 : Int32))] ∧ Z.Warmed39 U.vm ∧ U.heap = h0) (fun _ _ _ _ _ => True) (fun _ U o U' => ∃ v L, o = .returned v ∧ Q_pe2_2 Z oa vcs vf ob kb bb0 bb1 c0 c1 h0 n0 v U'.heap L ∧ FrameEnd U o U' L ({ frames := 2, cells := 0, slots := 0, locals := 26 } : Room).cells ({ frames := 2, cells := 0, slots := 0, locals := 26 } : Room).slots) := by
  refine MetFree.of_bodySF (plainFor_of_name pn_5) hisR ?_
  intro p e s m args below meth c s₁ Bd hml0 hP hK
  obtain ⟨rfl, hZ, hh⟩ := hP
  have hx := Bd.exec
  have hby := Bd.bytes
  have hml : c.maxLocals = 3 := hml0
  have hown : s.vm.findClass "com/example/path_template_matcher/pathtemplatematcher/UriReference" = some m.cls := findClass_of_methodNamed Bd.named
  have hnm := (name_of_methodNamed Bd.named Bd.method).1
  have X0 : Stand p l e ({ frames := 2, cells := 0, slots := 0, locals := 26 } : Room) s m #[(.ref oa), (.int (2 : Int32))] below meth c s₁ [] 0 0 := Stand.of_body Bd
  have e0 : s₁.heap = h0 := by rw [← hh, Bd.state]; rfl
  have N0 := Fr.nil n0
  have pre0 : ∀ t, Steps p.tables e below (s₁.setTop (mkF m 0 #[.val (.ref oa), .val (.int (2 : Int32)), .unset] [])) t → Steps p.tables e below (s₁.setTop (entryFrame m #[(.ref oa), (.int (2 : Int32))] 3)) t := fun t k => castTop (ef_rm_pe2_2 m oa) k
  obtain ⟨cq1, kq1, q1a, q1b, q1c⟩ := isOf hZ e0 Es
  obtain ⟨_, _, ⟨T1, L1, k1, n1⟩, -, X1, ⟨Lc1, hQ1, l1, y1, z1⟩, st1⟩ := X0.virtualBack hx (y := (⟨"java/lang/String", "length", "()I"⟩ : MethodName)) (z := (⟨"java/lang/String", "length", "()I"⟩ : MethodName)) hown (mvT hZ (hw _ (List.mem_of_getElem? (i := 31) rfl))) (mvT hZ (hw _ (List.mem_of_getElem? (i := 32) rfl))) (notFace_of_selects (args := #[]) (mvT hZ (hw _ (List.mem_of_getElem? (i := 34) rfl)))) (mvT hZ (hw _ (List.mem_of_getElem? (i := 34) rfl))) (mvT hZ (hw _ (List.mem_of_getElem? (i := 33) rfl))) (by decide) (backOf (W := 1) (rm_len2_0 l Z a0 hw [] oa vcs vf ob kb [(.int bb0), (.int bb1)] h0 n0 Z0 Os Es Fc Fv Vb) hZ (hw _ (List.mem_of_getElem? (i := 35) rfl)) (hw _ (List.mem_of_getElem? (i := 7) rfl)) (by decide) (by decide)) q1a q1c (g := (mkF m 4 #[.val (.ref oa), .val (.int (2 : Int32)), .val (.int (2 : Int32))] [(.ref oa), (.int (2 : Int32))])) rfl (by rw [hml]; rfl) (Steps.refl _) (argsL := []) (rest := [(.int (2 : Int32))]) (lenOf pd_10 rfl) rfl (by show 2 * 0 + _ ≤ _; exact Nat.le_of_eq rfl) (hb hby d5_4) (fun _ _ => ⟨rfl, e0, (by decide : 0 + 0 ≤ _), (by decide : 0 + 0 ≤ _)⟩)
  dsimp only [Pt.U, Pt.locs, Pt.cells, Pt.slots] at X1 l1 y1 z1 st1 hQ1
  rw [l1, y1, z1] at X1
  obtain ⟨zl1, rfl, hzl1, N1q, e1⟩ := hQ1
  have N1 := Fr.app N0 N1q
  have pre2 : ∀ t, Steps p.tables e below (T1.setTop (mkF m 7 #[.val (.ref oa), .val (.int (2 : Int32)), .val (.int (2 : Int32))] [(.int zl1), (.int (2 : Int32))])) t → Steps p.tables e below (s₁.setTop (entryFrame m #[(.ref oa), (.int (2 : Int32))] 3)) t := fun t kt => by
    refine pre0 _ ?_
    refine XS.iloadN X0.here hx rfl (hb hby d5_0) rfl ?_
    refine XS.istoreN X0.here hx rfl (hb hby d5_1) rfl (l' := #[.val (.ref oa), .val (.int (2 : Int32)), .val (.int (2 : Int32))]) rfl ?_
    refine XS.iloadN X0.here hx rfl (hb hby d5_2) rfl ?_
    refine XS.aloadN X0.here hx rfl (hb hby d5_3) rfl rfl ?_
    refine st1.trans ?_
    exact kt
  subst hzl1
  have pre3 : ∀ t, Steps p.tables e below (T1.setTop (mkF m 7 #[.val (.ref oa), .val (.int (2 : Int32)), .val (.int (2 : Int32))] [(.int (2 : Int32)), (.int (2 : Int32))])) t → Steps p.tables e below (s₁.setTop (entryFrame m #[(.ref oa), (.int (2 : Int32))] 3)) t := pre2
  have hc7_4 : ¬ ((2 : Int) < (2 : Int)) := by decide
  obtain ⟨fs, hr, hrun, hended, hW, hsame⟩ := X1.leave (v := some (.int (2 : Int32))) (fun h => by rw [Bd.returns] at h; cases h)
  refine ⟨_, _, pre3 _ ?_, hrun, hended, _, _, rfl, ?_, ⟨_, rfl⟩, hW, hsame.mono (by decide) (by decide)⟩
  · refine XS.icmpYes X1.here hx rfl (pc0 := 7) (pc' := 36) rfl (hb hby d5_7) rfl (own_flt (a := (2 : Int32)) (b := (2 : Int32)) (by decide) (by decide) hc7_4).2.1 (by decide) (by decide) ?_
    refine XS.iloadN X1.here hx rfl (hb hby d5_36) rfl ?_
    show Steps p.tables e below (T1.setTop (mkF m 37 #[.val (.ref oa), .val (.int (2 : Int32)), .val (.int (2 : Int32))] [(.int (2 : Int32))])) _
    exact retI X1 hx Bd.returns (hb hby d5_37) hr
  · show Q_pe2_2 Z _ _ _ _ _ _ _ _ _ h0 n0 _ T1.heap _
    rw [e1]
    exact ⟨_, rfl, by decide, N1, rfl⟩
theorem ef_rm_len3_0 (m : MethodId) (x0 : Addr) : entryFrame m #[(.ref x0)] 1 = mkF m 0 #[.val (.ref x0)] [] := by first | (simp [entryFrame, mkF, argsToLocals, Value.category]; done) | rfl
def Q_len3_0 (Z : State) (oa : Addr) (vcs : Int32) (vf : Value) (ob : Addr) (kb : ClassId) (vs : List Value) (h0 : Heap) (n0 : Nat) (v : Option Value) (h : Heap) (L : List Loc) : Prop := ∃ z : Int32, v = some (.int z) ∧ (z = (3 : Int32)) ∧ Fr n0 L ∧ h = h0
set_option maxRecDepth 65536 in
set_option maxHeartbeats 40000000 in
theorem rm_len3_0 (l : Launch) (Z : State) (a0 : Array Value) (hw : ∀ d ∈ tables_1, d.before a0 Z = true) (ws : List Jvm.Cond) (oa : Addr) (vcs : Int32) (vf : Value) (ob : Addr) (kb : ClassId) (vs : List Value) (h0 : Heap) (n0 : Nat) (Z0 : n0 ≤ h0.size) (Os : own_st Z h0 vcs vf) (Es : Exa Z h0 oa "java/lang/String") (Fc : Fld Z h0 oa "java/lang/String" "coder" "B" (.int (0 : Int32))) (Fv : Fld Z h0 oa "java/lang/String" "value" "[B" (.ref ob)) (Vb : Arv Z h0 ob kb .byte (3 : Int32) vs (.int (0 : Int32))) :
    MetFree l (⟨"java/lang/String", "length", "()I"⟩ : MethodName) (head1 (Jvm.Cond.code (⟨"java/lang/String", "length", "()I"⟩ : MethodName) jdk_42_method_54_code 1 (some .int) :: ws) ({ frames := 1, cells := 0, slots := 0, locals := 13 } : Room)) (fun a U => a = #[(.ref oa)] ∧ Z.Warmed39 U.vm ∧ U.heap = h0) (fun _ _ _ _ _ => True) (fun _ U o U' => ∃ v L, o = .returned v ∧ Q_len3_0 Z oa vcs vf ob kb vs h0 n0 v U'.heap L ∧ FrameEnd U o U' L ({ frames := 1, cells := 0, slots := 0, locals := 13 } : Room).cells ({ frames := 1, cells := 0, slots := 0, locals := 13 } : Room).slots) := by
  refine MetFree.of_bodySF (plainFor_of_name pn_1) hisR ?_
  intro p e s m args below meth c s₁ Bd hml0 hP hK
  obtain ⟨rfl, hZ, hh⟩ := hP
  have hx := Bd.exec
  have hby := Bd.bytes
  have hml : c.maxLocals = 1 := hml0
  have hown : s.vm.findClass "java/lang/String" = some m.cls := findClass_of_methodNamed Bd.named
  have hnm := (name_of_methodNamed Bd.named Bd.method).1
  have X0 : Stand p l e ({ frames := 1, cells := 0, slots := 0, locals := 13 } : Room) s m #[(.ref oa)] below meth c s₁ [] 0 0 := Stand.of_body Bd
  have e0 : s₁.heap = h0 := by rw [← hh, Bd.state]; rfl
  have N0 := Fr.nil n0
  have pre0 : ∀ t, Steps p.tables e below (s₁.setTop (mkF m 0 #[.val (.ref oa)] [])) t → Steps p.tables e below (s₁.setTop (entryFrame m #[(.ref oa)] 1)) t := fun t k => castTop (ef_rm_len3_0 m oa) k
  obtain ⟨T1, X1, e1, st1⟩ := getF X0 hx hZ hown (host := "") (Or.inl (hw _ (List.mem_of_getElem? (i := 25) rfl))) Via.refl e0 Fv (g := (mkF m 1 #[.val (.ref oa)] [(.ref oa)])) rfl rfl (hb hby d6_1)
  obtain ⟨cl2, Ar2, q2, S2, M2, H2, G2⟩ := id Vb
  obtain ⟨cq3, kq3, q3a, q3b, q3c⟩ := isOf hZ e1 Es
  obtain ⟨_, _, ⟨T3, L3, k3, n3⟩, -, X3, ⟨Lc3, hQ3, l3, y3, z3⟩, st3⟩ := X1.virtualBack hx (y := (⟨"java/lang/String", "coder", "()B"⟩ : MethodName)) (z := (⟨"java/lang/String", "coder", "()B"⟩ : MethodName)) hown (mvT hZ (hw _ (List.mem_of_getElem? (i := 36) rfl))) (mvT hZ (hw _ (List.mem_of_getElem? (i := 37) rfl))) (notFace_of_selects (args := #[]) (mvT hZ (hw _ (List.mem_of_getElem? (i := 39) rfl)))) (mvT hZ (hw _ (List.mem_of_getElem? (i := 39) rfl))) (mvT hZ (hw _ (List.mem_of_getElem? (i := 38) rfl))) (by decide) (backOf (W := 1) (rm_cod0 l Z a0 hw [] oa vcs vf h0 n0 Z0 Os Fc) hZ (hw _ (List.mem_of_getElem? (i := 40) rfl)) (hw _ (List.mem_of_getElem? (i := 7) rfl)) (by decide) (by decide)) q3a q3c (g := (mkF m 6 #[.val (.ref oa)] [(.ref oa), (.int (3 : Int32))])) rfl (by rw [hml]; rfl) (Steps.refl _) (argsL := []) (rest := [(.int (3 : Int32))]) (lenOf pd_9 rfl) rfl (by show 2 * 0 + _ ≤ _; exact Nat.le_of_eq rfl) (hb hby d6_6) (fun _ _ => ⟨rfl, e1, (by decide : 0 + 0 ≤ _), (by decide : 0 + 0 ≤ _)⟩)
  dsimp only [Pt.U, Pt.locs, Pt.cells, Pt.slots] at X3 l3 y3 z3 st3 hQ3
  rw [l3, y3, z3] at X3
  obtain ⟨zc, rfl, hzc, N3q, e3⟩ := hQ3
  have N3 := Fr.app N0 N3q
  have pre4 : ∀ t, Steps p.tables e below (T3.setTop (mkF m 9 #[.val (.ref oa)] [(.int zc), (.int (3 : Int32))])) t → Steps p.tables e below (s₁.setTop (entryFrame m #[(.ref oa)] 1)) t := fun t kt => by
    refine pre0 _ ?_
    refine XS.aloadN X0.here hx rfl (hb hby d6_0) rfl rfl ?_
    refine st1 _ ?_
    refine X1.arraylength hx (by rw [e1]; exact Ar2.1) (State.isArrayOf_alike hZ.alike Ar2.2.1) (g := (mkF m 4 #[.val (.ref oa)] [(.ref ob)])) rfl rfl (hb hby d6_4) _ ?_
    rw [len_of S2 M2]
    refine XS.aloadN X1.here hx rfl (hb hby d6_5) rfl rfl ?_
    refine st3.trans ?_
    exact kt
  subst hzc
  have pre5 : ∀ t, Steps p.tables e below (T3.setTop (mkF m 9 #[.val (.ref oa)] [(.int (0 : Int32)), (.int (3 : Int32))])) t → Steps p.tables e below (s₁.setTop (entryFrame m #[(.ref oa)] 1)) t := pre4
  obtain ⟨fs, hr, hrun, hended, hW, hsame⟩ := X3.leave (v := some (.int (3 : Int32))) (fun h => by rw [Bd.returns] at h; cases h)
  refine ⟨_, _, pre5 _ ?_, hrun, hended, _, _, rfl, ?_, ⟨_, rfl⟩, hW, hsame.mono (by decide) (by decide)⟩
  · refine XS.ishr X3.here hx rfl (hb hby d6_9) rfl ?_
    exact retI X3 hx Bd.returns (hb hby d6_10) hr
  · show Q_len3_0 Z _ _ _ _ _ _ h0 n0 _ T3.heap _
    rw [e3]
    exact ⟨_, rfl, rfl, N3, rfl⟩
theorem ef_rm_pe3_0 (m : MethodId) (x0 : Addr) : entryFrame m #[(.ref x0), (.int (0 : Int32))] 3 = mkF m 0 #[.val (.ref x0), .val (.int (0 : Int32)), .unset] [] := by first | (simp [entryFrame, mkF, argsToLocals, Value.category]; done) | rfl
def Q_pe3_0 (Z : State) (oa : Addr) (vcs : Int32) (vf : Value) (ob : Addr) (kb : ClassId) (bb0 : Int32) (bb1 : Int32) (bb2 : Int32) (c0 : Int32) (c1 : Int32) (c2 : Int32) (h0 : Heap) (n0 : Nat) (v : Option Value) (h : Heap) (L : List Loc) : Prop := ∃ z : Int32, v = some (.int z) ∧ (z.toInt = (if own_stop c0.toInt then (0 : Int) else (if own_stop c1.toInt then (1 : Int) else (if own_stop c2.toInt then (2 : Int) else (3 : Int))))) ∧ Fr n0 L ∧ h = h0
set_option maxRecDepth 65536 in
set_option maxHeartbeats 40000000 in
theorem rm_pe3_0 (l : Launch) (Z : State) (a0 : Array Value) (hw : ∀ d ∈ tables_1, d.before a0 Z = true) (ws : List Jvm.Cond) (oa : Addr) (vcs : Int32) (vf : Value) (ob : Addr) (kb : ClassId) (bb0 : Int32) (bb1 : Int32) (bb2 : Int32) (c0 : Int32) (c1 : Int32) (c2 : Int32) (h0 : Heap) (n0 : Nat) (Z0 : n0 ≤ h0.size) (Os : own_st Z h0 vcs vf) (Es : Exa Z h0 oa "java/lang/String") (Fc : Fld Z h0 oa "java/lang/String" "coder" "B" (.int (0 : Int32))) (Fv : Fld Z h0 oa "java/lang/String" "value" "[B" (.ref ob)) (Vb : Arv Z h0 ob kb .byte (3 : Int32) [(.int bb0), (.int bb1), (.int bb2)] (.int (0 : Int32))) (qbb0 : bb0.toInt % 256 = c0.toInt) (qbb1 : bb1.toInt % 256 = c1.toInt) (qbb2 : bb2.toInt % 256 = c2.toInt) :
    MetFree l (⟨"com/example/path_template_matcher/pathtemplatematcher/UriReference", "pathEnd", "(Ljava/lang/String;I)I"⟩ : MethodName) (head1 (Jvm.Cond.code (⟨"com/example/path_template_matcher/pathtemplatematcher/UriReference", "pathEnd", "(Ljava/lang/String;I)I"⟩ : MethodName) prog_36_method_4_code 3 (some .int) :: ws) ({ frames := 4, cells := 0, slots := 0, locals := 53 } : Room)) (fun a U => a = #[(.ref oa), (.int (0 : Int32))] ∧ Z.Warmed39 U.vm ∧ U.heap = h0) (fun _ _ _ _ _ => True) (fun _ U o U' => ∃ v L, o = .returned v ∧ Q_pe3_0 Z oa vcs vf ob kb bb0 bb1 bb2 c0 c1 c2 h0 n0 v U'.heap L ∧ FrameEnd U o U' L ({ frames := 4, cells := 0, slots := 0, locals := 53 } : Room).cells ({ frames := 4, cells := 0, slots := 0, locals := 53 } : Room).slots) := by
  refine MetFree.of_bodySF (plainFor_of_name pn_5) hisR ?_
  intro p e s m args below meth c s₁ Bd hml0 hP hK
  obtain ⟨rfl, hZ, hh⟩ := hP
  have hx := Bd.exec
  have hby := Bd.bytes
  have hml : c.maxLocals = 3 := hml0
  have hown : s.vm.findClass "com/example/path_template_matcher/pathtemplatematcher/UriReference" = some m.cls := findClass_of_methodNamed Bd.named
  have hnm := (name_of_methodNamed Bd.named Bd.method).1
  have X0 : Stand p l e ({ frames := 4, cells := 0, slots := 0, locals := 53 } : Room) s m #[(.ref oa), (.int (0 : Int32))] below meth c s₁ [] 0 0 := Stand.of_body Bd
  have e0 : s₁.heap = h0 := by rw [← hh, Bd.state]; rfl
  have N0 := Fr.nil n0
  have pre0 : ∀ t, Steps p.tables e below (s₁.setTop (mkF m 0 #[.val (.ref oa), .val (.int (0 : Int32)), .unset] [])) t → Steps p.tables e below (s₁.setTop (entryFrame m #[(.ref oa), (.int (0 : Int32))] 3)) t := fun t k => castTop (ef_rm_pe3_0 m oa) k
  obtain ⟨cq1, kq1, q1a, q1b, q1c⟩ := isOf hZ e0 Es
  obtain ⟨_, _, ⟨T1, L1, k1, n1⟩, -, X1, ⟨Lc1, hQ1, l1, y1, z1⟩, st1⟩ := X0.virtualBack hx (y := (⟨"java/lang/String", "length", "()I"⟩ : MethodName)) (z := (⟨"java/lang/String", "length", "()I"⟩ : MethodName)) hown (mvT hZ (hw _ (List.mem_of_getElem? (i := 31) rfl))) (mvT hZ (hw _ (List.mem_of_getElem? (i := 32) rfl))) (notFace_of_selects (args := #[]) (mvT hZ (hw _ (List.mem_of_getElem? (i := 34) rfl)))) (mvT hZ (hw _ (List.mem_of_getElem? (i := 34) rfl))) (mvT hZ (hw _ (List.mem_of_getElem? (i := 33) rfl))) (by decide) (backOf (W := 1) (rm_len3_0 l Z a0 hw [] oa vcs vf ob kb [(.int bb0), (.int bb1), (.int bb2)] h0 n0 Z0 Os Es Fc Fv Vb) hZ (hw _ (List.mem_of_getElem? (i := 35) rfl)) (hw _ (List.mem_of_getElem? (i := 7) rfl)) (by decide) (by decide)) q1a q1c (g := (mkF m 4 #[.val (.ref oa), .val (.int (0 : Int32)), .val (.int (0 : Int32))] [(.ref oa), (.int (0 : Int32))])) rfl (by rw [hml]; rfl) (Steps.refl _) (argsL := []) (rest := [(.int (0 : Int32))]) (lenOf pd_10 rfl) rfl (by show 2 * 0 + _ ≤ _; exact Nat.le_of_eq rfl) (hb hby d5_4) (fun _ _ => ⟨rfl, e0, (by decide : 0 + 0 ≤ _), (by decide : 0 + 0 ≤ _)⟩)
  dsimp only [Pt.U, Pt.locs, Pt.cells, Pt.slots] at X1 l1 y1 z1 st1 hQ1
  rw [l1, y1, z1] at X1
  obtain ⟨zl1, rfl, hzl1, N1q, e1⟩ := hQ1
  have N1 := Fr.app N0 N1q
  have pre2 : ∀ t, Steps p.tables e below (T1.setTop (mkF m 7 #[.val (.ref oa), .val (.int (0 : Int32)), .val (.int (0 : Int32))] [(.int zl1), (.int (0 : Int32))])) t → Steps p.tables e below (s₁.setTop (entryFrame m #[(.ref oa), (.int (0 : Int32))] 3)) t := fun t kt => by
    refine pre0 _ ?_
    refine XS.iloadN X0.here hx rfl (hb hby d5_0) rfl ?_
    refine XS.istoreN X0.here hx rfl (hb hby d5_1) rfl (l' := #[.val (.ref oa), .val (.int (0 : Int32)), .val (.int (0 : Int32))]) rfl ?_
    refine XS.iloadN X0.here hx rfl (hb hby d5_2) rfl ?_
    refine XS.aloadN X0.here hx rfl (hb hby d5_3) rfl rfl ?_
    refine st1.trans ?_
    exact kt
  subst hzl1
  have pre3 : ∀ t, Steps p.tables e below (T1.setTop (mkF m 7 #[.val (.ref oa), .val (.int (0 : Int32)), .val (.int (0 : Int32))] [(.int (3 : Int32)), (.int (0 : Int32))])) t → Steps p.tables e below (s₁.setTop (entryFrame m #[(.ref oa), (.int (0 : Int32))] 3)) t := pre2
  have hc7_4 : (0 : Int) < (3 : Int) := by decide
  obtain ⟨cq5, kq5, q5a, q5b, q5c⟩ := isOf hZ e1 Es
  obtain ⟨_, _, ⟨T5, L5, k5, n5⟩, -, X5, ⟨Lc5, hQ5, l5, y5, z5⟩, st5⟩ := X1.virtualBack hx (y := (⟨"java/lang/String", "charAt", "(I)C"⟩ : MethodName)) (z := (⟨"java/lang/String", "charAt", "(I)C"⟩ : MethodName)) hown (mvT hZ (hw _ (List.mem_of_getElem? (i := 55) rfl))) (mvT hZ (hw _ (List.mem_of_getElem? (i := 56) rfl))) (notFace_of_selects (args := #[]) (mvT hZ (hw _ (List.mem_of_getElem? (i := 58) rfl)))) (mvT hZ (hw _ (List.mem_of_getElem? (i := 58) rfl))) (mvT hZ (hw _ (List.mem_of_getElem? (i := 57) rfl))) (by decide) (backOf (W := 0) (rm_ch1 l Z a0 hw [] oa (0 : Int32) vcs vf ob kb (3 : Int32) [(.int bb0), (.int bb1), (.int bb2)] bb0 h0 n0 Z0 Os Es Fc Fv Vb (by decide) (by decide) rfl) hZ (hw _ (List.mem_of_getElem? (i := 59) rfl)) (hw _ (List.mem_of_getElem? (i := 7) rfl)) (by decide) (by decide)) q5a q5c (g := (mkF m 12 #[.val (.ref oa), .val (.int (0 : Int32)), .val (.int (0 : Int32))] [(.int (0 : Int32)), (.ref oa)])) rfl (by rw [hml]; rfl) (Steps.refl _) (argsL := [(.int (0 : Int32))]) (rest := []) (lenOf pd_11 rfl) rfl (by show 2 * 0 + _ ≤ _; exact Nat.le_of_eq rfl) (hb hby d5_12) (fun _ _ => ⟨rfl, e1, (by decide : 0 + 0 ≤ _), (by decide : 0 + 0 ≤ _)⟩)
  dsimp only [Pt.U, Pt.locs, Pt.cells, Pt.slots] at X5 l5 y5 z5 st5 hQ5
  rw [l5, y5, z5] at X5
  obtain ⟨ch12_0, rfl, hch12_0, N5q, e5⟩ := hQ5
  have N5 := Fr.app N1 N5q
  have pre7 : ∀ t, Steps p.tables e below (T5.setTop (mkF m 17 #[.val (.ref oa), .val (.int (0 : Int32)), .val (.int (0 : Int32))] [(.int (63 : Int32)), (.int ch12_0)])) t → Steps p.tables e below (s₁.setTop (entryFrame m #[(.ref oa), (.int (0 : Int32))] 3)) t := fun t kt => by
    refine pre3 _ ?_
    refine XS.icmpNo X1.here hx rfl (hb hby d5_7) rfl (own_tlt (a := (0 : Int32)) (b := (3 : Int32)) (by decide) (by decide) hc7_4).2.1 ?_
    refine XS.aloadN X1.here hx rfl (hb hby d5_10) rfl rfl ?_
    show Steps p.tables e below (T1.setTop (mkF m 11 #[.val (.ref oa), .val (.int (0 : Int32)), .val (.int (0 : Int32))] [(.ref oa)])) _
    refine XS.iloadN X1.here hx rfl (hb hby d5_11) rfl ?_
    refine st5.trans ?_
    refine XS.bipush X5.here hx rfl (hb hby d5_15) ?_
    exact kt
  by_cases hc17_6 : ch12_0.toInt = (63 : Int)
  · obtain ⟨fs, hr, hrun, hended, hW, hsame⟩ := X5.leave (v := some (.int (0 : Int32))) (fun h => by rw [Bd.returns] at h; cases h)
    refine ⟨_, _, pre7 _ ?_, hrun, hended, _, _, rfl, ?_, ⟨_, rfl⟩, hW, hsame.mono (by decide) (by decide)⟩
    · show Steps p.tables e below (T5.setTop (mkF m 17 #[.val (.ref oa), .val (.int (0 : Int32)), .val (.int (0 : Int32))] [(.int (63 : Int32)), (.int ch12_0)])) _
      refine XS.icmpYes X5.here hx rfl (pc0 := 17) (pc' := 36) rfl (hb hby d5_17) rfl (own_teq (a := ch12_0) (b := (63 : Int32)) rfl (by decide) hc17_6).1 (by decide) (by decide) ?_
      refine XS.iloadN X5.here hx rfl (hb hby d5_36) rfl ?_
      exact retI X5 hx Bd.returns (hb hby d5_37) hr
    · show Q_pe3_0 Z _ _ _ _ _ _ _ _ _ _ _ h0 n0 _ T5.heap _
      rw [e5]
      exact ⟨_, rfl, by have s0 : own_stop c0.toInt := (by unfold own_stop; omega); rw [if_pos s0]; decide, N5, rfl⟩
  · obtain ⟨cq8, kq8, q8a, q8b, q8c⟩ := isOf hZ e5 Es
    obtain ⟨_, _, ⟨T8, L8, k8, n8⟩, -, X8, ⟨Lc8, hQ8, l8, y8, z8⟩, st8⟩ := X5.virtualBack hx (y := (⟨"java/lang/String", "charAt", "(I)C"⟩ : MethodName)) (z := (⟨"java/lang/String", "charAt", "(I)C"⟩ : MethodName)) hown (mvT hZ (hw _ (List.mem_of_getElem? (i := 55) rfl))) (mvT hZ (hw _ (List.mem_of_getElem? (i := 56) rfl))) (notFace_of_selects (args := #[]) (mvT hZ (hw _ (List.mem_of_getElem? (i := 58) rfl)))) (mvT hZ (hw _ (List.mem_of_getElem? (i := 58) rfl))) (mvT hZ (hw _ (List.mem_of_getElem? (i := 57) rfl))) (by decide) (backOf (W := 0) (rm_ch1 l Z a0 hw [] oa (0 : Int32) vcs vf ob kb (3 : Int32) [(.int bb0), (.int bb1), (.int bb2)] bb0 h0 n0 Z0 Os Es Fc Fv Vb (by decide) (by decide) rfl) hZ (hw _ (List.mem_of_getElem? (i := 59) rfl)) (hw _ (List.mem_of_getElem? (i := 7) rfl)) (by decide) (by decide)) q8a q8c (g := (mkF m 22 #[.val (.ref oa), .val (.int (0 : Int32)), .val (.int (0 : Int32))] [(.int (0 : Int32)), (.ref oa)])) rfl (by rw [hml]; rfl) (Steps.refl _) (argsL := [(.int (0 : Int32))]) (rest := []) (lenOf pd_11 rfl) rfl (by show 2 * 0 + _ ≤ _; exact Nat.le_of_eq rfl) (hb hby d5_22) (fun _ _ => ⟨rfl, e5, (by decide : 0 + 0 ≤ _), (by decide : 0 + 0 ≤ _)⟩)
    dsimp only [Pt.U, Pt.locs, Pt.cells, Pt.slots] at X8 l8 y8 z8 st8 hQ8
    rw [l8, y8, z8] at X8
    obtain ⟨ch22_0, rfl, hch22_0, N8q, e8⟩ := hQ8
    have N8 := Fr.app N5 N8q
    have pre10 : ∀ t, Steps p.tables e below (T8.setTop (mkF m 27 #[.val (.ref oa), .val (.int (0 : Int32)), .val (.int (0 : Int32))] [(.int (35 : Int32)), (.int ch22_0)])) t → Steps p.tables e below (s₁.setTop (entryFrame m #[(.ref oa), (.int (0 : Int32))] 3)) t := fun t kt => by
      refine pre7 _ ?_
      show Steps p.tables e below (T5.setTop (mkF m 17 #[.val (.ref oa), .val (.int (0 : Int32)), .val (.int (0 : Int32))] [(.int (63 : Int32)), (.int ch12_0)])) _
      refine XS.icmpNo X5.here hx rfl (hb hby d5_17) rfl (own_feq (a := ch12_0) (b := (63 : Int32)) rfl (by decide) hc17_6).1 ?_
      refine XS.aloadN X5.here hx rfl (hb hby d5_20) rfl rfl ?_
      refine XS.iloadN X5.here hx rfl (hb hby d5_21) rfl ?_
      refine st8.trans ?_
      show Steps p.tables e below (T8.setTop (mkF m 25 #[.val (.ref oa), .val (.int (0 : Int32)), .val (.int (0 : Int32))] [(.int ch22_0)])) _
      refine XS.bipush X8.here hx rfl (hb hby d5_25) ?_
      exact kt
    by_cases hc27_9 : ch22_0.toInt = (35 : Int)
    · obtain ⟨fs, hr, hrun, hended, hW, hsame⟩ := X8.leave (v := some (.int (0 : Int32))) (fun h => by rw [Bd.returns] at h; cases h)
      refine ⟨_, _, pre10 _ ?_, hrun, hended, _, _, rfl, ?_, ⟨_, rfl⟩, hW, hsame.mono (by decide) (by decide)⟩
      · show Steps p.tables e below (T8.setTop (mkF m 27 #[.val (.ref oa), .val (.int (0 : Int32)), .val (.int (0 : Int32))] [(.int (35 : Int32)), (.int ch22_0)])) _
        refine XS.icmpYes X8.here hx rfl (pc0 := 27) (pc' := 36) rfl (hb hby d5_27) rfl (own_teq (a := ch22_0) (b := (35 : Int32)) rfl (by decide) hc27_9).1 (by decide) (by decide) ?_
        refine XS.iloadN X8.here hx rfl (hb hby d5_36) rfl ?_
        exact retI X8 hx Bd.returns (hb hby d5_37) hr
      · show Q_pe3_0 Z _ _ _ _ _ _ _ _ _ _ _ h0 n0 _ T8.heap _
        rw [e8]
        exact ⟨_, rfl, by have s0 : own_stop c0.toInt := (by unfold own_stop; omega); rw [if_pos s0]; decide, N8, rfl⟩
    · obtain ⟨cq11, kq11, q11a, q11b, q11c⟩ := isOf hZ e8 Es
      obtain ⟨_, _, ⟨T11, L11, k11, n11⟩, -, X11, ⟨Lc11, hQ11, l11, y11, z11⟩, st11⟩ := X8.virtualBack hx (y := (⟨"java/lang/String", "length", "()I"⟩ : MethodName)) (z := (⟨"java/lang/String", "length", "()I"⟩ : MethodName)) hown (mvT hZ (hw _ (List.mem_of_getElem? (i := 31) rfl))) (mvT hZ (hw _ (List.mem_of_getElem? (i := 32) rfl))) (notFace_of_selects (args := #[]) (mvT hZ (hw _ (List.mem_of_getElem? (i := 34) rfl)))) (mvT hZ (hw _ (List.mem_of_getElem? (i := 34) rfl))) (mvT hZ (hw _ (List.mem_of_getElem? (i := 33) rfl))) (by decide) (backOf (W := 1) (rm_len3_0 l Z a0 hw [] oa vcs vf ob kb [(.int bb0), (.int bb1), (.int bb2)] h0 n0 Z0 Os Es Fc Fv Vb) hZ (hw _ (List.mem_of_getElem? (i := 35) rfl)) (hw _ (List.mem_of_getElem? (i := 7) rfl)) (by decide) (by decide)) q11a q11c (g := (mkF m 4 #[.val (.ref oa), .val (.int (0 : Int32)), .val (.int (1 : Int32))] [(.ref oa), (.int (1 : Int32))])) rfl (by rw [hml]; rfl) (Steps.refl _) (argsL := []) (rest := [(.int (1 : Int32))]) (lenOf pd_10 rfl) rfl (by show 2 * 0 + _ ≤ _; exact Nat.le_of_eq rfl) (hb hby d5_4) (fun _ _ => ⟨rfl, e8, (by decide : 0 + 0 ≤ _), (by decide : 0 + 0 ≤ _)⟩)
      dsimp only [Pt.U, Pt.locs, Pt.cells, Pt.slots] at X11 l11 y11 z11 st11 hQ11
      rw [l11, y11, z11] at X11
      obtain ⟨zl2, rfl, hzl2, N11q, e11⟩ := hQ11
      have N11 := Fr.app N8 N11q
      have pre12 : ∀ t, Steps p.tables e below (T11.setTop (mkF m 7 #[.val (.ref oa), .val (.int (0 : Int32)), .val (.int (1 : Int32))] [(.int zl2), (.int (1 : Int32))])) t → Steps p.tables e below (s₁.setTop (entryFrame m #[(.ref oa), (.int (0 : Int32))] 3)) t := fun t kt => by
        refine pre10 _ ?_
        show Steps p.tables e below (T8.setTop (mkF m 27 #[.val (.ref oa), .val (.int (0 : Int32)), .val (.int (0 : Int32))] [(.int (35 : Int32)), (.int ch22_0)])) _
        refine XS.icmpNo X8.here hx rfl (hb hby d5_27) rfl (own_feq (a := ch22_0) (b := (35 : Int32)) rfl (by decide) hc27_9).1 ?_
        refine XS.iinc X8.here hx rfl (hb hby d5_30) rfl (l' := #[.val (.ref oa), .val (.int (0 : Int32)), .val (.int (1 : Int32))]) rfl ?_
        refine XS.goto X8.here hx rfl (pc0 := 33) (pc' := 2) rfl (hb hby d5_33) (by decide) (by decide) ?_
        refine XS.iloadN X8.here hx rfl (hb hby d5_2) rfl ?_
        refine XS.aloadN X8.here hx rfl (hb hby d5_3) rfl rfl ?_
        refine st11.trans ?_
        exact kt
      subst hzl2
      have pre13 : ∀ t, Steps p.tables e below (T11.setTop (mkF m 7 #[.val (.ref oa), .val (.int (0 : Int32)), .val (.int (1 : Int32))] [(.int (3 : Int32)), (.int (1 : Int32))])) t → Steps p.tables e below (s₁.setTop (entryFrame m #[(.ref oa), (.int (0 : Int32))] 3)) t := pre12
      have hc7_14 : (1 : Int) < (3 : Int) := by decide
      obtain ⟨cq15, kq15, q15a, q15b, q15c⟩ := isOf hZ e11 Es
      obtain ⟨_, _, ⟨T15, L15, k15, n15⟩, -, X15, ⟨Lc15, hQ15, l15, y15, z15⟩, st15⟩ := X11.virtualBack hx (y := (⟨"java/lang/String", "charAt", "(I)C"⟩ : MethodName)) (z := (⟨"java/lang/String", "charAt", "(I)C"⟩ : MethodName)) hown (mvT hZ (hw _ (List.mem_of_getElem? (i := 55) rfl))) (mvT hZ (hw _ (List.mem_of_getElem? (i := 56) rfl))) (notFace_of_selects (args := #[]) (mvT hZ (hw _ (List.mem_of_getElem? (i := 58) rfl)))) (mvT hZ (hw _ (List.mem_of_getElem? (i := 58) rfl))) (mvT hZ (hw _ (List.mem_of_getElem? (i := 57) rfl))) (by decide) (backOf (W := 0) (rm_ch1 l Z a0 hw [] oa (1 : Int32) vcs vf ob kb (3 : Int32) [(.int bb0), (.int bb1), (.int bb2)] bb1 h0 n0 Z0 Os Es Fc Fv Vb (by decide) (by decide) rfl) hZ (hw _ (List.mem_of_getElem? (i := 59) rfl)) (hw _ (List.mem_of_getElem? (i := 7) rfl)) (by decide) (by decide)) q15a q15c (g := (mkF m 12 #[.val (.ref oa), .val (.int (0 : Int32)), .val (.int (1 : Int32))] [(.int (1 : Int32)), (.ref oa)])) rfl (by rw [hml]; rfl) (Steps.refl _) (argsL := [(.int (1 : Int32))]) (rest := []) (lenOf pd_11 rfl) rfl (by show 2 * 0 + _ ≤ _; exact Nat.le_of_eq rfl) (hb hby d5_12) (fun _ _ => ⟨rfl, e11, (by decide : 0 + 0 ≤ _), (by decide : 0 + 0 ≤ _)⟩)
      dsimp only [Pt.U, Pt.locs, Pt.cells, Pt.slots] at X15 l15 y15 z15 st15 hQ15
      rw [l15, y15, z15] at X15
      obtain ⟨ch12_1, rfl, hch12_1, N15q, e15⟩ := hQ15
      have N15 := Fr.app N11 N15q
      have pre17 : ∀ t, Steps p.tables e below (T15.setTop (mkF m 17 #[.val (.ref oa), .val (.int (0 : Int32)), .val (.int (1 : Int32))] [(.int (63 : Int32)), (.int ch12_1)])) t → Steps p.tables e below (s₁.setTop (entryFrame m #[(.ref oa), (.int (0 : Int32))] 3)) t := fun t kt => by
        refine pre13 _ ?_
        show Steps p.tables e below (T11.setTop (mkF m 7 #[.val (.ref oa), .val (.int (0 : Int32)), .val (.int (1 : Int32))] [(.int (3 : Int32)), (.int (1 : Int32))])) _
        refine XS.icmpNo X11.here hx rfl (hb hby d5_7) rfl (own_tlt (a := (1 : Int32)) (b := (3 : Int32)) (by decide) (by decide) hc7_14).2.1 ?_
        refine XS.aloadN X11.here hx rfl (hb hby d5_10) rfl rfl ?_
        refine XS.iloadN X11.here hx rfl (hb hby d5_11) rfl ?_
        refine st15.trans ?_
        refine XS.bipush X15.here hx rfl (hb hby d5_15) ?_
        exact kt
      by_cases hc17_16 : ch12_1.toInt = (63 : Int)
      · obtain ⟨fs, hr, hrun, hended, hW, hsame⟩ := X15.leave (v := some (.int (1 : Int32))) (fun h => by rw [Bd.returns] at h; cases h)
        refine ⟨_, _, pre17 _ ?_, hrun, hended, _, _, rfl, ?_, ⟨_, rfl⟩, hW, hsame.mono (by decide) (by decide)⟩
        · show Steps p.tables e below (T15.setTop (mkF m 17 #[.val (.ref oa), .val (.int (0 : Int32)), .val (.int (1 : Int32))] [(.int (63 : Int32)), (.int ch12_1)])) _
          refine XS.icmpYes X15.here hx rfl (pc0 := 17) (pc' := 36) rfl (hb hby d5_17) rfl (own_teq (a := ch12_1) (b := (63 : Int32)) rfl (by decide) hc17_16).1 (by decide) (by decide) ?_
          refine XS.iloadN X15.here hx rfl (hb hby d5_36) rfl ?_
          show Steps p.tables e below (T15.setTop (mkF m 37 #[.val (.ref oa), .val (.int (0 : Int32)), .val (.int (1 : Int32))] [(.int (1 : Int32))])) _
          exact retI X15 hx Bd.returns (hb hby d5_37) hr
        · show Q_pe3_0 Z _ _ _ _ _ _ _ _ _ _ _ h0 n0 _ T15.heap _
          rw [e15]
          exact ⟨_, rfl, by have s0 : ¬ own_stop c0.toInt := (by unfold own_stop; omega); have s1 : own_stop c1.toInt := (by unfold own_stop; omega); rw [if_neg s0, if_pos s1]; decide, N15, rfl⟩
      · obtain ⟨cq18, kq18, q18a, q18b, q18c⟩ := isOf hZ e15 Es
        obtain ⟨_, _, ⟨T18, L18, k18, n18⟩, -, X18, ⟨Lc18, hQ18, l18, y18, z18⟩, st18⟩ := X15.virtualBack hx (y := (⟨"java/lang/String", "charAt", "(I)C"⟩ : MethodName)) (z := (⟨"java/lang/String", "charAt", "(I)C"⟩ : MethodName)) hown (mvT hZ (hw _ (List.mem_of_getElem? (i := 55) rfl))) (mvT hZ (hw _ (List.mem_of_getElem? (i := 56) rfl))) (notFace_of_selects (args := #[]) (mvT hZ (hw _ (List.mem_of_getElem? (i := 58) rfl)))) (mvT hZ (hw _ (List.mem_of_getElem? (i := 58) rfl))) (mvT hZ (hw _ (List.mem_of_getElem? (i := 57) rfl))) (by decide) (backOf (W := 0) (rm_ch1 l Z a0 hw [] oa (1 : Int32) vcs vf ob kb (3 : Int32) [(.int bb0), (.int bb1), (.int bb2)] bb1 h0 n0 Z0 Os Es Fc Fv Vb (by decide) (by decide) rfl) hZ (hw _ (List.mem_of_getElem? (i := 59) rfl)) (hw _ (List.mem_of_getElem? (i := 7) rfl)) (by decide) (by decide)) q18a q18c (g := (mkF m 22 #[.val (.ref oa), .val (.int (0 : Int32)), .val (.int (1 : Int32))] [(.int (1 : Int32)), (.ref oa)])) rfl (by rw [hml]; rfl) (Steps.refl _) (argsL := [(.int (1 : Int32))]) (rest := []) (lenOf pd_11 rfl) rfl (by show 2 * 0 + _ ≤ _; exact Nat.le_of_eq rfl) (hb hby d5_22) (fun _ _ => ⟨rfl, e15, (by decide : 0 + 0 ≤ _), (by decide : 0 + 0 ≤ _)⟩)
        dsimp only [Pt.U, Pt.locs, Pt.cells, Pt.slots] at X18 l18 y18 z18 st18 hQ18
        rw [l18, y18, z18] at X18
        obtain ⟨ch22_1, rfl, hch22_1, N18q, e18⟩ := hQ18
        have N18 := Fr.app N15 N18q
        have pre20 : ∀ t, Steps p.tables e below (T18.setTop (mkF m 27 #[.val (.ref oa), .val (.int (0 : Int32)), .val (.int (1 : Int32))] [(.int (35 : Int32)), (.int ch22_1)])) t → Steps p.tables e below (s₁.setTop (entryFrame m #[(.ref oa), (.int (0 : Int32))] 3)) t := fun t kt => by
          refine pre17 _ ?_
          show Steps p.tables e below (T15.setTop (mkF m 17 #[.val (.ref oa), .val (.int (0 : Int32)), .val (.int (1 : Int32))] [(.int (63 : Int32)), (.int ch12_1)])) _
          refine XS.icmpNo X15.here hx rfl (hb hby d5_17) rfl (own_feq (a := ch12_1) (b := (63 : Int32)) rfl (by decide) hc17_16).1 ?_
          refine XS.aloadN X15.here hx rfl (hb hby d5_20) rfl rfl ?_
          show Steps p.tables e below (T15.setTop (mkF m 21 #[.val (.ref oa), .val (.int (0 : Int32)), .val (.int (1 : Int32))] [(.ref oa)])) _
          refine XS.iloadN X15.here hx rfl (hb hby d5_21) rfl ?_
          refine st18.trans ?_
          refine XS.bipush X18.here hx rfl (hb hby d5_25) ?_
          exact kt
        by_cases hc27_19 : ch22_1.toInt = (35 : Int)
        · obtain ⟨fs, hr, hrun, hended, hW, hsame⟩ := X18.leave (v := some (.int (1 : Int32))) (fun h => by rw [Bd.returns] at h; cases h)
          refine ⟨_, _, pre20 _ ?_, hrun, hended, _, _, rfl, ?_, ⟨_, rfl⟩, hW, hsame.mono (by decide) (by decide)⟩
          · show Steps p.tables e below (T18.setTop (mkF m 27 #[.val (.ref oa), .val (.int (0 : Int32)), .val (.int (1 : Int32))] [(.int (35 : Int32)), (.int ch22_1)])) _
            refine XS.icmpYes X18.here hx rfl (pc0 := 27) (pc' := 36) rfl (hb hby d5_27) rfl (own_teq (a := ch22_1) (b := (35 : Int32)) rfl (by decide) hc27_19).1 (by decide) (by decide) ?_
            refine XS.iloadN X18.here hx rfl (hb hby d5_36) rfl ?_
            exact retI X18 hx Bd.returns (hb hby d5_37) hr
          · show Q_pe3_0 Z _ _ _ _ _ _ _ _ _ _ _ h0 n0 _ T18.heap _
            rw [e18]
            exact ⟨_, rfl, by have s0 : ¬ own_stop c0.toInt := (by unfold own_stop; omega); have s1 : own_stop c1.toInt := (by unfold own_stop; omega); rw [if_neg s0, if_pos s1]; decide, N18, rfl⟩
        · obtain ⟨cq21, kq21, q21a, q21b, q21c⟩ := isOf hZ e18 Es
          obtain ⟨_, _, ⟨T21, L21, k21, n21⟩, -, X21, ⟨Lc21, hQ21, l21, y21, z21⟩, st21⟩ := X18.virtualBack hx (y := (⟨"java/lang/String", "length", "()I"⟩ : MethodName)) (z := (⟨"java/lang/String", "length", "()I"⟩ : MethodName)) hown (mvT hZ (hw _ (List.mem_of_getElem? (i := 31) rfl))) (mvT hZ (hw _ (List.mem_of_getElem? (i := 32) rfl))) (notFace_of_selects (args := #[]) (mvT hZ (hw _ (List.mem_of_getElem? (i := 34) rfl)))) (mvT hZ (hw _ (List.mem_of_getElem? (i := 34) rfl))) (mvT hZ (hw _ (List.mem_of_getElem? (i := 33) rfl))) (by decide) (backOf (W := 1) (rm_len3_0 l Z a0 hw [] oa vcs vf ob kb [(.int bb0), (.int bb1), (.int bb2)] h0 n0 Z0 Os Es Fc Fv Vb) hZ (hw _ (List.mem_of_getElem? (i := 35) rfl)) (hw _ (List.mem_of_getElem? (i := 7) rfl)) (by decide) (by decide)) q21a q21c (g := (mkF m 4 #[.val (.ref oa), .val (.int (0 : Int32)), .val (.int (2 : Int32))] [(.ref oa), (.int (2 : Int32))])) rfl (by rw [hml]; rfl) (Steps.refl _) (argsL := []) (rest := [(.int (2 : Int32))]) (lenOf pd_10 rfl) rfl (by show 2 * 0 + _ ≤ _; exact Nat.le_of_eq rfl) (hb hby d5_4) (fun _ _ => ⟨rfl, e18, (by decide : 0 + 0 ≤ _), (by decide : 0 + 0 ≤ _)⟩)
          dsimp only [Pt.U, Pt.locs, Pt.cells, Pt.slots] at X21 l21 y21 z21 st21 hQ21
          rw [l21, y21, z21] at X21
          obtain ⟨zl3, rfl, hzl3, N21q, e21⟩ := hQ21
          have N21 := Fr.app N18 N21q
          have pre22 : ∀ t, Steps p.tables e below (T21.setTop (mkF m 7 #[.val (.ref oa), .val (.int (0 : Int32)), .val (.int (2 : Int32))] [(.int zl3), (.int (2 : Int32))])) t → Steps p.tables e below (s₁.setTop (entryFrame m #[(.ref oa), (.int (0 : Int32))] 3)) t := fun t kt => by
            refine pre20 _ ?_
            show Steps p.tables e below (T18.setTop (mkF m 27 #[.val (.ref oa), .val (.int (0 : Int32)), .val (.int (1 : Int32))] [(.int (35 : Int32)), (.int ch22_1)])) _
            refine XS.icmpNo X18.here hx rfl (hb hby d5_27) rfl (own_feq (a := ch22_1) (b := (35 : Int32)) rfl (by decide) hc27_19).1 ?_
            refine XS.iinc X18.here hx rfl (hb hby d5_30) rfl (l' := #[.val (.ref oa), .val (.int (0 : Int32)), .val (.int (2 : Int32))]) rfl ?_
            refine XS.goto X18.here hx rfl (pc0 := 33) (pc' := 2) rfl (hb hby d5_33) (by decide) (by decide) ?_
            refine XS.iloadN X18.here hx rfl (hb hby d5_2) rfl ?_
            show Steps p.tables e below (T18.setTop (mkF m 3 #[.val (.ref oa), .val (.int (0 : Int32)), .val (.int (2 : Int32))] [(.int (2 : Int32))])) _
            refine XS.aloadN X18.here hx rfl (hb hby d5_3) rfl rfl ?_
            refine st21.trans ?_
            exact kt
          subst hzl3
          have pre23 : ∀ t, Steps p.tables e below (T21.setTop (mkF m 7 #[.val (.ref oa), .val (.int (0 : Int32)), .val (.int (2 : Int32))] [(.int (3 : Int32)), (.int (2 : Int32))])) t → Steps p.tables e below (s₁.setTop (entryFrame m #[(.ref oa), (.int (0 : Int32))] 3)) t := pre22
          have hc7_24 : (2 : Int) < (3 : Int) := by decide
          obtain ⟨cq25, kq25, q25a, q25b, q25c⟩ := isOf hZ e21 Es
          obtain ⟨_, _, ⟨T25, L25, k25, n25⟩, -, X25, ⟨Lc25, hQ25, l25, y25, z25⟩, st25⟩ := X21.virtualBack hx (y := (⟨"java/lang/String", "charAt", "(I)C"⟩ : MethodName)) (z := (⟨"java/lang/String", "charAt", "(I)C"⟩ : MethodName)) hown (mvT hZ (hw _ (List.mem_of_getElem? (i := 55) rfl))) (mvT hZ (hw _ (List.mem_of_getElem? (i := 56) rfl))) (notFace_of_selects (args := #[]) (mvT hZ (hw _ (List.mem_of_getElem? (i := 58) rfl)))) (mvT hZ (hw _ (List.mem_of_getElem? (i := 58) rfl))) (mvT hZ (hw _ (List.mem_of_getElem? (i := 57) rfl))) (by decide) (backOf (W := 0) (rm_ch1 l Z a0 hw [] oa (2 : Int32) vcs vf ob kb (3 : Int32) [(.int bb0), (.int bb1), (.int bb2)] bb2 h0 n0 Z0 Os Es Fc Fv Vb (by decide) (by decide) rfl) hZ (hw _ (List.mem_of_getElem? (i := 59) rfl)) (hw _ (List.mem_of_getElem? (i := 7) rfl)) (by decide) (by decide)) q25a q25c (g := (mkF m 12 #[.val (.ref oa), .val (.int (0 : Int32)), .val (.int (2 : Int32))] [(.int (2 : Int32)), (.ref oa)])) rfl (by rw [hml]; rfl) (Steps.refl _) (argsL := [(.int (2 : Int32))]) (rest := []) (lenOf pd_11 rfl) rfl (by show 2 * 0 + _ ≤ _; exact Nat.le_of_eq rfl) (hb hby d5_12) (fun _ _ => ⟨rfl, e21, (by decide : 0 + 0 ≤ _), (by decide : 0 + 0 ≤ _)⟩)
          dsimp only [Pt.U, Pt.locs, Pt.cells, Pt.slots] at X25 l25 y25 z25 st25 hQ25
          rw [l25, y25, z25] at X25
          obtain ⟨ch12_2, rfl, hch12_2, N25q, e25⟩ := hQ25
          have N25 := Fr.app N21 N25q
          have pre27 : ∀ t, Steps p.tables e below (T25.setTop (mkF m 17 #[.val (.ref oa), .val (.int (0 : Int32)), .val (.int (2 : Int32))] [(.int (63 : Int32)), (.int ch12_2)])) t → Steps p.tables e below (s₁.setTop (entryFrame m #[(.ref oa), (.int (0 : Int32))] 3)) t := fun t kt => by
            refine pre23 _ ?_
            refine XS.icmpNo X21.here hx rfl (hb hby d5_7) rfl (own_tlt (a := (2 : Int32)) (b := (3 : Int32)) (by decide) (by decide) hc7_24).2.1 ?_
            refine XS.aloadN X21.here hx rfl (hb hby d5_10) rfl rfl ?_
            refine XS.iloadN X21.here hx rfl (hb hby d5_11) rfl ?_
            refine st25.trans ?_
            refine XS.bipush X25.here hx rfl (hb hby d5_15) ?_
            exact kt
          by_cases hc17_26 : ch12_2.toInt = (63 : Int)
          · obtain ⟨fs, hr, hrun, hended, hW, hsame⟩ := X25.leave (v := some (.int (2 : Int32))) (fun h => by rw [Bd.returns] at h; cases h)
            refine ⟨_, _, pre27 _ ?_, hrun, hended, _, _, rfl, ?_, ⟨_, rfl⟩, hW, hsame.mono (by decide) (by decide)⟩
            · show Steps p.tables e below (T25.setTop (mkF m 17 #[.val (.ref oa), .val (.int (0 : Int32)), .val (.int (2 : Int32))] [(.int (63 : Int32)), (.int ch12_2)])) _
              refine XS.icmpYes X25.here hx rfl (pc0 := 17) (pc' := 36) rfl (hb hby d5_17) rfl (own_teq (a := ch12_2) (b := (63 : Int32)) rfl (by decide) hc17_26).1 (by decide) (by decide) ?_
              refine XS.iloadN X25.here hx rfl (hb hby d5_36) rfl ?_
              exact retI X25 hx Bd.returns (hb hby d5_37) hr
            · show Q_pe3_0 Z _ _ _ _ _ _ _ _ _ _ _ h0 n0 _ T25.heap _
              rw [e25]
              exact ⟨_, rfl, by have s0 : ¬ own_stop c0.toInt := (by unfold own_stop; omega); have s1 : ¬ own_stop c1.toInt := (by unfold own_stop; omega); have s2 : own_stop c2.toInt := (by unfold own_stop; omega); rw [if_neg s0, if_neg s1, if_pos s2]; decide, N25, rfl⟩
          · obtain ⟨cq28, kq28, q28a, q28b, q28c⟩ := isOf hZ e25 Es
            obtain ⟨_, _, ⟨T28, L28, k28, n28⟩, -, X28, ⟨Lc28, hQ28, l28, y28, z28⟩, st28⟩ := X25.virtualBack hx (y := (⟨"java/lang/String", "charAt", "(I)C"⟩ : MethodName)) (z := (⟨"java/lang/String", "charAt", "(I)C"⟩ : MethodName)) hown (mvT hZ (hw _ (List.mem_of_getElem? (i := 55) rfl))) (mvT hZ (hw _ (List.mem_of_getElem? (i := 56) rfl))) (notFace_of_selects (args := #[]) (mvT hZ (hw _ (List.mem_of_getElem? (i := 58) rfl)))) (mvT hZ (hw _ (List.mem_of_getElem? (i := 58) rfl))) (mvT hZ (hw _ (List.mem_of_getElem? (i := 57) rfl))) (by decide) (backOf (W := 0) (rm_ch1 l Z a0 hw [] oa (2 : Int32) vcs vf ob kb (3 : Int32) [(.int bb0), (.int bb1), (.int bb2)] bb2 h0 n0 Z0 Os Es Fc Fv Vb (by decide) (by decide) rfl) hZ (hw _ (List.mem_of_getElem? (i := 59) rfl)) (hw _ (List.mem_of_getElem? (i := 7) rfl)) (by decide) (by decide)) q28a q28c (g := (mkF m 22 #[.val (.ref oa), .val (.int (0 : Int32)), .val (.int (2 : Int32))] [(.int (2 : Int32)), (.ref oa)])) rfl (by rw [hml]; rfl) (Steps.refl _) (argsL := [(.int (2 : Int32))]) (rest := []) (lenOf pd_11 rfl) rfl (by show 2 * 0 + _ ≤ _; exact Nat.le_of_eq rfl) (hb hby d5_22) (fun _ _ => ⟨rfl, e25, (by decide : 0 + 0 ≤ _), (by decide : 0 + 0 ≤ _)⟩)
            dsimp only [Pt.U, Pt.locs, Pt.cells, Pt.slots] at X28 l28 y28 z28 st28 hQ28
            rw [l28, y28, z28] at X28
            obtain ⟨ch22_2, rfl, hch22_2, N28q, e28⟩ := hQ28
            have N28 := Fr.app N25 N28q
            have pre30 : ∀ t, Steps p.tables e below (T28.setTop (mkF m 27 #[.val (.ref oa), .val (.int (0 : Int32)), .val (.int (2 : Int32))] [(.int (35 : Int32)), (.int ch22_2)])) t → Steps p.tables e below (s₁.setTop (entryFrame m #[(.ref oa), (.int (0 : Int32))] 3)) t := fun t kt => by
              refine pre27 _ ?_
              show Steps p.tables e below (T25.setTop (mkF m 17 #[.val (.ref oa), .val (.int (0 : Int32)), .val (.int (2 : Int32))] [(.int (63 : Int32)), (.int ch12_2)])) _
              refine XS.icmpNo X25.here hx rfl (hb hby d5_17) rfl (own_feq (a := ch12_2) (b := (63 : Int32)) rfl (by decide) hc17_26).1 ?_
              refine XS.aloadN X25.here hx rfl (hb hby d5_20) rfl rfl ?_
              refine XS.iloadN X25.here hx rfl (hb hby d5_21) rfl ?_
              refine st28.trans ?_
              refine XS.bipush X28.here hx rfl (hb hby d5_25) ?_
              exact kt
            by_cases hc27_29 : ch22_2.toInt = (35 : Int)
            · obtain ⟨fs, hr, hrun, hended, hW, hsame⟩ := X28.leave (v := some (.int (2 : Int32))) (fun h => by rw [Bd.returns] at h; cases h)
              refine ⟨_, _, pre30 _ ?_, hrun, hended, _, _, rfl, ?_, ⟨_, rfl⟩, hW, hsame.mono (by decide) (by decide)⟩
              · show Steps p.tables e below (T28.setTop (mkF m 27 #[.val (.ref oa), .val (.int (0 : Int32)), .val (.int (2 : Int32))] [(.int (35 : Int32)), (.int ch22_2)])) _
                refine XS.icmpYes X28.here hx rfl (pc0 := 27) (pc' := 36) rfl (hb hby d5_27) rfl (own_teq (a := ch22_2) (b := (35 : Int32)) rfl (by decide) hc27_29).1 (by decide) (by decide) ?_
                refine XS.iloadN X28.here hx rfl (hb hby d5_36) rfl ?_
                show Steps p.tables e below (T28.setTop (mkF m 37 #[.val (.ref oa), .val (.int (0 : Int32)), .val (.int (2 : Int32))] [(.int (2 : Int32))])) _
                exact retI X28 hx Bd.returns (hb hby d5_37) hr
              · show Q_pe3_0 Z _ _ _ _ _ _ _ _ _ _ _ h0 n0 _ T28.heap _
                rw [e28]
                exact ⟨_, rfl, by have s0 : ¬ own_stop c0.toInt := (by unfold own_stop; omega); have s1 : ¬ own_stop c1.toInt := (by unfold own_stop; omega); have s2 : own_stop c2.toInt := (by unfold own_stop; omega); rw [if_neg s0, if_neg s1, if_pos s2]; decide, N28, rfl⟩
            · obtain ⟨cq31, kq31, q31a, q31b, q31c⟩ := isOf hZ e28 Es
              obtain ⟨_, _, ⟨T31, L31, k31, n31⟩, -, X31, ⟨Lc31, hQ31, l31, y31, z31⟩, st31⟩ := X28.virtualBack hx (y := (⟨"java/lang/String", "length", "()I"⟩ : MethodName)) (z := (⟨"java/lang/String", "length", "()I"⟩ : MethodName)) hown (mvT hZ (hw _ (List.mem_of_getElem? (i := 31) rfl))) (mvT hZ (hw _ (List.mem_of_getElem? (i := 32) rfl))) (notFace_of_selects (args := #[]) (mvT hZ (hw _ (List.mem_of_getElem? (i := 34) rfl)))) (mvT hZ (hw _ (List.mem_of_getElem? (i := 34) rfl))) (mvT hZ (hw _ (List.mem_of_getElem? (i := 33) rfl))) (by decide) (backOf (W := 1) (rm_len3_0 l Z a0 hw [] oa vcs vf ob kb [(.int bb0), (.int bb1), (.int bb2)] h0 n0 Z0 Os Es Fc Fv Vb) hZ (hw _ (List.mem_of_getElem? (i := 35) rfl)) (hw _ (List.mem_of_getElem? (i := 7) rfl)) (by decide) (by decide)) q31a q31c (g := (mkF m 4 #[.val (.ref oa), .val (.int (0 : Int32)), .val (.int (3 : Int32))] [(.ref oa), (.int (3 : Int32))])) rfl (by rw [hml]; rfl) (Steps.refl _) (argsL := []) (rest := [(.int (3 : Int32))]) (lenOf pd_10 rfl) rfl (by show 2 * 0 + _ ≤ _; exact Nat.le_of_eq rfl) (hb hby d5_4) (fun _ _ => ⟨rfl, e28, (by decide : 0 + 0 ≤ _), (by decide : 0 + 0 ≤ _)⟩)
              dsimp only [Pt.U, Pt.locs, Pt.cells, Pt.slots] at X31 l31 y31 z31 st31 hQ31
              rw [l31, y31, z31] at X31
              obtain ⟨zl4, rfl, hzl4, N31q, e31⟩ := hQ31
              have N31 := Fr.app N28 N31q
              have pre32 : ∀ t, Steps p.tables e below (T31.setTop (mkF m 7 #[.val (.ref oa), .val (.int (0 : Int32)), .val (.int (3 : Int32))] [(.int zl4), (.int (3 : Int32))])) t → Steps p.tables e below (s₁.setTop (entryFrame m #[(.ref oa), (.int (0 : Int32))] 3)) t := fun t kt => by
                refine pre30 _ ?_
                show Steps p.tables e below (T28.setTop (mkF m 27 #[.val (.ref oa), .val (.int (0 : Int32)), .val (.int (2 : Int32))] [(.int (35 : Int32)), (.int ch22_2)])) _
                refine XS.icmpNo X28.here hx rfl (hb hby d5_27) rfl (own_feq (a := ch22_2) (b := (35 : Int32)) rfl (by decide) hc27_29).1 ?_
                refine XS.iinc X28.here hx rfl (hb hby d5_30) rfl (l' := #[.val (.ref oa), .val (.int (0 : Int32)), .val (.int (3 : Int32))]) rfl ?_
                show Steps p.tables e below (T28.setTop (mkF m 33 #[.val (.ref oa), .val (.int (0 : Int32)), .val (.int (3 : Int32))] [])) _
                refine XS.goto X28.here hx rfl (pc0 := 33) (pc' := 2) rfl (hb hby d5_33) (by decide) (by decide) ?_
                refine XS.iloadN X28.here hx rfl (hb hby d5_2) rfl ?_
                refine XS.aloadN X28.here hx rfl (hb hby d5_3) rfl rfl ?_
                refine st31.trans ?_
                exact kt
              subst hzl4
              have pre33 : ∀ t, Steps p.tables e below (T31.setTop (mkF m 7 #[.val (.ref oa), .val (.int (0 : Int32)), .val (.int (3 : Int32))] [(.int (3 : Int32)), (.int (3 : Int32))])) t → Steps p.tables e below (s₁.setTop (entryFrame m #[(.ref oa), (.int (0 : Int32))] 3)) t := pre32
              have hc7_34 : ¬ ((3 : Int) < (3 : Int)) := by decide
              obtain ⟨fs, hr, hrun, hended, hW, hsame⟩ := X31.leave (v := some (.int (3 : Int32))) (fun h => by rw [Bd.returns] at h; cases h)
              refine ⟨_, _, pre33 _ ?_, hrun, hended, _, _, rfl, ?_, ⟨_, rfl⟩, hW, hsame.mono (by decide) (by decide)⟩
              · refine XS.icmpYes X31.here hx rfl (pc0 := 7) (pc' := 36) rfl (hb hby d5_7) rfl (own_flt (a := (3 : Int32)) (b := (3 : Int32)) (by decide) (by decide) hc7_34).2.1 (by decide) (by decide) ?_
                refine XS.iloadN X31.here hx rfl (hb hby d5_36) rfl ?_
                exact retI X31 hx Bd.returns (hb hby d5_37) hr
              · show Q_pe3_0 Z _ _ _ _ _ _ _ _ _ _ _ h0 n0 _ T31.heap _
                rw [e31]
                exact ⟨_, rfl, by have s0 : ¬ own_stop c0.toInt := (by unfold own_stop; omega); have s1 : ¬ own_stop c1.toInt := (by unfold own_stop; omega); have s2 : ¬ own_stop c2.toInt := (by unfold own_stop; omega); rw [if_neg s0, if_neg s1, if_neg s2]; decide, N31, rfl⟩
theorem ef_rm_pe3_1 (m : MethodId) (x0 : Addr) : entryFrame m #[(.ref x0), (.int (1 : Int32))] 3 = mkF m 0 #[.val (.ref x0), .val (.int (1 : Int32)), .unset] [] := by first | (simp [entryFrame, mkF, argsToLocals, Value.category]; done) | rfl
def Q_pe3_1 (Z : State) (oa : Addr) (vcs : Int32) (vf : Value) (ob : Addr) (kb : ClassId) (bb0 : Int32) (bb1 : Int32) (bb2 : Int32) (c0 : Int32) (c1 : Int32) (c2 : Int32) (h0 : Heap) (n0 : Nat) (v : Option Value) (h : Heap) (L : List Loc) : Prop := ∃ z : Int32, v = some (.int z) ∧ (z.toInt = (if own_stop c1.toInt then (1 : Int) else (if own_stop c2.toInt then (2 : Int) else (3 : Int)))) ∧ Fr n0 L ∧ h = h0
set_option maxRecDepth 65536 in
set_option maxHeartbeats 40000000 in
theorem rm_pe3_1 (l : Launch) (Z : State) (a0 : Array Value) (hw : ∀ d ∈ tables_1, d.before a0 Z = true) (ws : List Jvm.Cond) (oa : Addr) (vcs : Int32) (vf : Value) (ob : Addr) (kb : ClassId) (bb0 : Int32) (bb1 : Int32) (bb2 : Int32) (c0 : Int32) (c1 : Int32) (c2 : Int32) (h0 : Heap) (n0 : Nat) (Z0 : n0 ≤ h0.size) (Os : own_st Z h0 vcs vf) (Es : Exa Z h0 oa "java/lang/String") (Fc : Fld Z h0 oa "java/lang/String" "coder" "B" (.int (0 : Int32))) (Fv : Fld Z h0 oa "java/lang/String" "value" "[B" (.ref ob)) (Vb : Arv Z h0 ob kb .byte (3 : Int32) [(.int bb0), (.int bb1), (.int bb2)] (.int (0 : Int32))) (qbb0 : bb0.toInt % 256 = c0.toInt) (qbb1 : bb1.toInt % 256 = c1.toInt) (qbb2 : bb2.toInt % 256 = c2.toInt) :
    MetFree l (⟨"com/example/path_template_matcher/pathtemplatematcher/UriReference", "pathEnd", "(Ljava/lang/String;I)I"⟩ : MethodName) (head1 (Jvm.Cond.code (⟨"com/example/path_template_matcher/pathtemplatematcher/UriReference", "pathEnd", "(Ljava/lang/String;I)I"⟩ : MethodName) prog_36_method_4_code 3 (some .int) :: ws) ({ frames := 4, cells := 0, slots := 0, locals := 53 } : Room)) (fun a U => a = #[(.ref oa), (.int (1 : Int32))] ∧ Z.Warmed39 U.vm ∧ U.heap = h0) (fun _ _ _ _ _ => True) (fun _ U o U' => ∃ v L, o = .returned v ∧ Q_pe3_1 Z oa vcs vf ob kb bb0 bb1 bb2 c0 c1 c2 h0 n0 v U'.heap L ∧ FrameEnd U o U' L ({ frames := 4, cells := 0, slots := 0, locals := 53 } : Room).cells ({ frames := 4, cells := 0, slots := 0, locals := 53 } : Room).slots) := by
  refine MetFree.of_bodySF (plainFor_of_name pn_5) hisR ?_
  intro p e s m args below meth c s₁ Bd hml0 hP hK
  obtain ⟨rfl, hZ, hh⟩ := hP
  have hx := Bd.exec
  have hby := Bd.bytes
  have hml : c.maxLocals = 3 := hml0
  have hown : s.vm.findClass "com/example/path_template_matcher/pathtemplatematcher/UriReference" = some m.cls := findClass_of_methodNamed Bd.named
  have hnm := (name_of_methodNamed Bd.named Bd.method).1
  have X0 : Stand p l e ({ frames := 4, cells := 0, slots := 0, locals := 53 } : Room) s m #[(.ref oa), (.int (1 : Int32))] below meth c s₁ [] 0 0 := Stand.of_body Bd
  have e0 : s₁.heap = h0 := by rw [← hh, Bd.state]; rfl
  have N0 := Fr.nil n0
  have pre0 : ∀ t, Steps p.tables e below (s₁.setTop (mkF m 0 #[.val (.ref oa), .val (.int (1 : Int32)), .unset] [])) t → Steps p.tables e below (s₁.setTop (entryFrame m #[(.ref oa), (.int (1 : Int32))] 3)) t := fun t k => castTop (ef_rm_pe3_1 m oa) k
  obtain ⟨cq1, kq1, q1a, q1b, q1c⟩ := isOf hZ e0 Es
  obtain ⟨_, _, ⟨T1, L1, k1, n1⟩, -, X1, ⟨Lc1, hQ1, l1, y1, z1⟩, st1⟩ := X0.virtualBack hx (y := (⟨"java/lang/String", "length", "()I"⟩ : MethodName)) (z := (⟨"java/lang/String", "length", "()I"⟩ : MethodName)) hown (mvT hZ (hw _ (List.mem_of_getElem? (i := 31) rfl))) (mvT hZ (hw _ (List.mem_of_getElem? (i := 32) rfl))) (notFace_of_selects (args := #[]) (mvT hZ (hw _ (List.mem_of_getElem? (i := 34) rfl)))) (mvT hZ (hw _ (List.mem_of_getElem? (i := 34) rfl))) (mvT hZ (hw _ (List.mem_of_getElem? (i := 33) rfl))) (by decide) (backOf (W := 1) (rm_len3_0 l Z a0 hw [] oa vcs vf ob kb [(.int bb0), (.int bb1), (.int bb2)] h0 n0 Z0 Os Es Fc Fv Vb) hZ (hw _ (List.mem_of_getElem? (i := 35) rfl)) (hw _ (List.mem_of_getElem? (i := 7) rfl)) (by decide) (by decide)) q1a q1c (g := (mkF m 4 #[.val (.ref oa), .val (.int (1 : Int32)), .val (.int (1 : Int32))] [(.ref oa), (.int (1 : Int32))])) rfl (by rw [hml]; rfl) (Steps.refl _) (argsL := []) (rest := [(.int (1 : Int32))]) (lenOf pd_10 rfl) rfl (by show 2 * 0 + _ ≤ _; exact Nat.le_of_eq rfl) (hb hby d5_4) (fun _ _ => ⟨rfl, e0, (by decide : 0 + 0 ≤ _), (by decide : 0 + 0 ≤ _)⟩)
  dsimp only [Pt.U, Pt.locs, Pt.cells, Pt.slots] at X1 l1 y1 z1 st1 hQ1
  rw [l1, y1, z1] at X1
  obtain ⟨zl1, rfl, hzl1, N1q, e1⟩ := hQ1
  have N1 := Fr.app N0 N1q
  have pre2 : ∀ t, Steps p.tables e below (T1.setTop (mkF m 7 #[.val (.ref oa), .val (.int (1 : Int32)), .val (.int (1 : Int32))] [(.int zl1), (.int (1 : Int32))])) t → Steps p.tables e below (s₁.setTop (entryFrame m #[(.ref oa), (.int (1 : Int32))] 3)) t := fun t kt => by
    refine pre0 _ ?_
    refine XS.iloadN X0.here hx rfl (hb hby d5_0) rfl ?_
    refine XS.istoreN X0.here hx rfl (hb hby d5_1) rfl (l' := #[.val (.ref oa), .val (.int (1 : Int32)), .val (.int (1 : Int32))]) rfl ?_
    refine XS.iloadN X0.here hx rfl (hb hby d5_2) rfl ?_
    refine XS.aloadN X0.here hx rfl (hb hby d5_3) rfl rfl ?_
    refine st1.trans ?_
    exact kt
  subst hzl1
  have pre3 : ∀ t, Steps p.tables e below (T1.setTop (mkF m 7 #[.val (.ref oa), .val (.int (1 : Int32)), .val (.int (1 : Int32))] [(.int (3 : Int32)), (.int (1 : Int32))])) t → Steps p.tables e below (s₁.setTop (entryFrame m #[(.ref oa), (.int (1 : Int32))] 3)) t := pre2
  have hc7_4 : (1 : Int) < (3 : Int) := by decide
  obtain ⟨cq5, kq5, q5a, q5b, q5c⟩ := isOf hZ e1 Es
  obtain ⟨_, _, ⟨T5, L5, k5, n5⟩, -, X5, ⟨Lc5, hQ5, l5, y5, z5⟩, st5⟩ := X1.virtualBack hx (y := (⟨"java/lang/String", "charAt", "(I)C"⟩ : MethodName)) (z := (⟨"java/lang/String", "charAt", "(I)C"⟩ : MethodName)) hown (mvT hZ (hw _ (List.mem_of_getElem? (i := 55) rfl))) (mvT hZ (hw _ (List.mem_of_getElem? (i := 56) rfl))) (notFace_of_selects (args := #[]) (mvT hZ (hw _ (List.mem_of_getElem? (i := 58) rfl)))) (mvT hZ (hw _ (List.mem_of_getElem? (i := 58) rfl))) (mvT hZ (hw _ (List.mem_of_getElem? (i := 57) rfl))) (by decide) (backOf (W := 0) (rm_ch1 l Z a0 hw [] oa (1 : Int32) vcs vf ob kb (3 : Int32) [(.int bb0), (.int bb1), (.int bb2)] bb1 h0 n0 Z0 Os Es Fc Fv Vb (by decide) (by decide) rfl) hZ (hw _ (List.mem_of_getElem? (i := 59) rfl)) (hw _ (List.mem_of_getElem? (i := 7) rfl)) (by decide) (by decide)) q5a q5c (g := (mkF m 12 #[.val (.ref oa), .val (.int (1 : Int32)), .val (.int (1 : Int32))] [(.int (1 : Int32)), (.ref oa)])) rfl (by rw [hml]; rfl) (Steps.refl _) (argsL := [(.int (1 : Int32))]) (rest := []) (lenOf pd_11 rfl) rfl (by show 2 * 0 + _ ≤ _; exact Nat.le_of_eq rfl) (hb hby d5_12) (fun _ _ => ⟨rfl, e1, (by decide : 0 + 0 ≤ _), (by decide : 0 + 0 ≤ _)⟩)
  dsimp only [Pt.U, Pt.locs, Pt.cells, Pt.slots] at X5 l5 y5 z5 st5 hQ5
  rw [l5, y5, z5] at X5
  obtain ⟨ch12_1, rfl, hch12_1, N5q, e5⟩ := hQ5
  have N5 := Fr.app N1 N5q
  have pre7 : ∀ t, Steps p.tables e below (T5.setTop (mkF m 17 #[.val (.ref oa), .val (.int (1 : Int32)), .val (.int (1 : Int32))] [(.int (63 : Int32)), (.int ch12_1)])) t → Steps p.tables e below (s₁.setTop (entryFrame m #[(.ref oa), (.int (1 : Int32))] 3)) t := fun t kt => by
    refine pre3 _ ?_
    refine XS.icmpNo X1.here hx rfl (hb hby d5_7) rfl (own_tlt (a := (1 : Int32)) (b := (3 : Int32)) (by decide) (by decide) hc7_4).2.1 ?_
    refine XS.aloadN X1.here hx rfl (hb hby d5_10) rfl rfl ?_
    show Steps p.tables e below (T1.setTop (mkF m 11 #[.val (.ref oa), .val (.int (1 : Int32)), .val (.int (1 : Int32))] [(.ref oa)])) _
    refine XS.iloadN X1.here hx rfl (hb hby d5_11) rfl ?_
    refine st5.trans ?_
    refine XS.bipush X5.here hx rfl (hb hby d5_15) ?_
    exact kt
  by_cases hc17_6 : ch12_1.toInt = (63 : Int)
  · obtain ⟨fs, hr, hrun, hended, hW, hsame⟩ := X5.leave (v := some (.int (1 : Int32))) (fun h => by rw [Bd.returns] at h; cases h)
    refine ⟨_, _, pre7 _ ?_, hrun, hended, _, _, rfl, ?_, ⟨_, rfl⟩, hW, hsame.mono (by decide) (by decide)⟩
    · show Steps p.tables e below (T5.setTop (mkF m 17 #[.val (.ref oa), .val (.int (1 : Int32)), .val (.int (1 : Int32))] [(.int (63 : Int32)), (.int ch12_1)])) _
      refine XS.icmpYes X5.here hx rfl (pc0 := 17) (pc' := 36) rfl (hb hby d5_17) rfl (own_teq (a := ch12_1) (b := (63 : Int32)) rfl (by decide) hc17_6).1 (by decide) (by decide) ?_
      refine XS.iloadN X5.here hx rfl (hb hby d5_36) rfl ?_
      exact retI X5 hx Bd.returns (hb hby d5_37) hr
    · show Q_pe3_1 Z _ _ _ _ _ _ _ _ _ _ _ h0 n0 _ T5.heap _
      rw [e5]
      exact ⟨_, rfl, by have s1 : own_stop c1.toInt := (by unfold own_stop; omega); rw [if_pos s1]; decide, N5, rfl⟩
  · obtain ⟨cq8, kq8, q8a, q8b, q8c⟩ := isOf hZ e5 Es
    obtain ⟨_, _, ⟨T8, L8, k8, n8⟩, -, X8, ⟨Lc8, hQ8, l8, y8, z8⟩, st8⟩ := X5.virtualBack hx (y := (⟨"java/lang/String", "charAt", "(I)C"⟩ : MethodName)) (z := (⟨"java/lang/String", "charAt", "(I)C"⟩ : MethodName)) hown (mvT hZ (hw _ (List.mem_of_getElem? (i := 55) rfl))) (mvT hZ (hw _ (List.mem_of_getElem? (i := 56) rfl))) (notFace_of_selects (args := #[]) (mvT hZ (hw _ (List.mem_of_getElem? (i := 58) rfl)))) (mvT hZ (hw _ (List.mem_of_getElem? (i := 58) rfl))) (mvT hZ (hw _ (List.mem_of_getElem? (i := 57) rfl))) (by decide) (backOf (W := 0) (rm_ch1 l Z a0 hw [] oa (1 : Int32) vcs vf ob kb (3 : Int32) [(.int bb0), (.int bb1), (.int bb2)] bb1 h0 n0 Z0 Os Es Fc Fv Vb (by decide) (by decide) rfl) hZ (hw _ (List.mem_of_getElem? (i := 59) rfl)) (hw _ (List.mem_of_getElem? (i := 7) rfl)) (by decide) (by decide)) q8a q8c (g := (mkF m 22 #[.val (.ref oa), .val (.int (1 : Int32)), .val (.int (1 : Int32))] [(.int (1 : Int32)), (.ref oa)])) rfl (by rw [hml]; rfl) (Steps.refl _) (argsL := [(.int (1 : Int32))]) (rest := []) (lenOf pd_11 rfl) rfl (by show 2 * 0 + _ ≤ _; exact Nat.le_of_eq rfl) (hb hby d5_22) (fun _ _ => ⟨rfl, e5, (by decide : 0 + 0 ≤ _), (by decide : 0 + 0 ≤ _)⟩)
    dsimp only [Pt.U, Pt.locs, Pt.cells, Pt.slots] at X8 l8 y8 z8 st8 hQ8
    rw [l8, y8, z8] at X8
    obtain ⟨ch22_1, rfl, hch22_1, N8q, e8⟩ := hQ8
    have N8 := Fr.app N5 N8q
    have pre10 : ∀ t, Steps p.tables e below (T8.setTop (mkF m 27 #[.val (.ref oa), .val (.int (1 : Int32)), .val (.int (1 : Int32))] [(.int (35 : Int32)), (.int ch22_1)])) t → Steps p.tables e below (s₁.setTop (entryFrame m #[(.ref oa), (.int (1 : Int32))] 3)) t := fun t kt => by
      refine pre7 _ ?_
      show Steps p.tables e below (T5.setTop (mkF m 17 #[.val (.ref oa), .val (.int (1 : Int32)), .val (.int (1 : Int32))] [(.int (63 : Int32)), (.int ch12_1)])) _
      refine XS.icmpNo X5.here hx rfl (hb hby d5_17) rfl (own_feq (a := ch12_1) (b := (63 : Int32)) rfl (by decide) hc17_6).1 ?_
      refine XS.aloadN X5.here hx rfl (hb hby d5_20) rfl rfl ?_
      refine XS.iloadN X5.here hx rfl (hb hby d5_21) rfl ?_
      refine st8.trans ?_
      show Steps p.tables e below (T8.setTop (mkF m 25 #[.val (.ref oa), .val (.int (1 : Int32)), .val (.int (1 : Int32))] [(.int ch22_1)])) _
      refine XS.bipush X8.here hx rfl (hb hby d5_25) ?_
      exact kt
    by_cases hc27_9 : ch22_1.toInt = (35 : Int)
    · obtain ⟨fs, hr, hrun, hended, hW, hsame⟩ := X8.leave (v := some (.int (1 : Int32))) (fun h => by rw [Bd.returns] at h; cases h)
      refine ⟨_, _, pre10 _ ?_, hrun, hended, _, _, rfl, ?_, ⟨_, rfl⟩, hW, hsame.mono (by decide) (by decide)⟩
      · show Steps p.tables e below (T8.setTop (mkF m 27 #[.val (.ref oa), .val (.int (1 : Int32)), .val (.int (1 : Int32))] [(.int (35 : Int32)), (.int ch22_1)])) _
        refine XS.icmpYes X8.here hx rfl (pc0 := 27) (pc' := 36) rfl (hb hby d5_27) rfl (own_teq (a := ch22_1) (b := (35 : Int32)) rfl (by decide) hc27_9).1 (by decide) (by decide) ?_
        refine XS.iloadN X8.here hx rfl (hb hby d5_36) rfl ?_
        exact retI X8 hx Bd.returns (hb hby d5_37) hr
      · show Q_pe3_1 Z _ _ _ _ _ _ _ _ _ _ _ h0 n0 _ T8.heap _
        rw [e8]
        exact ⟨_, rfl, by have s1 : own_stop c1.toInt := (by unfold own_stop; omega); rw [if_pos s1]; decide, N8, rfl⟩
    · obtain ⟨cq11, kq11, q11a, q11b, q11c⟩ := isOf hZ e8 Es
      obtain ⟨_, _, ⟨T11, L11, k11, n11⟩, -, X11, ⟨Lc11, hQ11, l11, y11, z11⟩, st11⟩ := X8.virtualBack hx (y := (⟨"java/lang/String", "length", "()I"⟩ : MethodName)) (z := (⟨"java/lang/String", "length", "()I"⟩ : MethodName)) hown (mvT hZ (hw _ (List.mem_of_getElem? (i := 31) rfl))) (mvT hZ (hw _ (List.mem_of_getElem? (i := 32) rfl))) (notFace_of_selects (args := #[]) (mvT hZ (hw _ (List.mem_of_getElem? (i := 34) rfl)))) (mvT hZ (hw _ (List.mem_of_getElem? (i := 34) rfl))) (mvT hZ (hw _ (List.mem_of_getElem? (i := 33) rfl))) (by decide) (backOf (W := 1) (rm_len3_0 l Z a0 hw [] oa vcs vf ob kb [(.int bb0), (.int bb1), (.int bb2)] h0 n0 Z0 Os Es Fc Fv Vb) hZ (hw _ (List.mem_of_getElem? (i := 35) rfl)) (hw _ (List.mem_of_getElem? (i := 7) rfl)) (by decide) (by decide)) q11a q11c (g := (mkF m 4 #[.val (.ref oa), .val (.int (1 : Int32)), .val (.int (2 : Int32))] [(.ref oa), (.int (2 : Int32))])) rfl (by rw [hml]; rfl) (Steps.refl _) (argsL := []) (rest := [(.int (2 : Int32))]) (lenOf pd_10 rfl) rfl (by show 2 * 0 + _ ≤ _; exact Nat.le_of_eq rfl) (hb hby d5_4) (fun _ _ => ⟨rfl, e8, (by decide : 0 + 0 ≤ _), (by decide : 0 + 0 ≤ _)⟩)
      dsimp only [Pt.U, Pt.locs, Pt.cells, Pt.slots] at X11 l11 y11 z11 st11 hQ11
      rw [l11, y11, z11] at X11
      obtain ⟨zl2, rfl, hzl2, N11q, e11⟩ := hQ11
      have N11 := Fr.app N8 N11q
      have pre12 : ∀ t, Steps p.tables e below (T11.setTop (mkF m 7 #[.val (.ref oa), .val (.int (1 : Int32)), .val (.int (2 : Int32))] [(.int zl2), (.int (2 : Int32))])) t → Steps p.tables e below (s₁.setTop (entryFrame m #[(.ref oa), (.int (1 : Int32))] 3)) t := fun t kt => by
        refine pre10 _ ?_
        show Steps p.tables e below (T8.setTop (mkF m 27 #[.val (.ref oa), .val (.int (1 : Int32)), .val (.int (1 : Int32))] [(.int (35 : Int32)), (.int ch22_1)])) _
        refine XS.icmpNo X8.here hx rfl (hb hby d5_27) rfl (own_feq (a := ch22_1) (b := (35 : Int32)) rfl (by decide) hc27_9).1 ?_
        refine XS.iinc X8.here hx rfl (hb hby d5_30) rfl (l' := #[.val (.ref oa), .val (.int (1 : Int32)), .val (.int (2 : Int32))]) rfl ?_
        refine XS.goto X8.here hx rfl (pc0 := 33) (pc' := 2) rfl (hb hby d5_33) (by decide) (by decide) ?_
        refine XS.iloadN X8.here hx rfl (hb hby d5_2) rfl ?_
        refine XS.aloadN X8.here hx rfl (hb hby d5_3) rfl rfl ?_
        refine st11.trans ?_
        exact kt
      subst hzl2
      have pre13 : ∀ t, Steps p.tables e below (T11.setTop (mkF m 7 #[.val (.ref oa), .val (.int (1 : Int32)), .val (.int (2 : Int32))] [(.int (3 : Int32)), (.int (2 : Int32))])) t → Steps p.tables e below (s₁.setTop (entryFrame m #[(.ref oa), (.int (1 : Int32))] 3)) t := pre12
      have hc7_14 : (2 : Int) < (3 : Int) := by decide
      obtain ⟨cq15, kq15, q15a, q15b, q15c⟩ := isOf hZ e11 Es
      obtain ⟨_, _, ⟨T15, L15, k15, n15⟩, -, X15, ⟨Lc15, hQ15, l15, y15, z15⟩, st15⟩ := X11.virtualBack hx (y := (⟨"java/lang/String", "charAt", "(I)C"⟩ : MethodName)) (z := (⟨"java/lang/String", "charAt", "(I)C"⟩ : MethodName)) hown (mvT hZ (hw _ (List.mem_of_getElem? (i := 55) rfl))) (mvT hZ (hw _ (List.mem_of_getElem? (i := 56) rfl))) (notFace_of_selects (args := #[]) (mvT hZ (hw _ (List.mem_of_getElem? (i := 58) rfl)))) (mvT hZ (hw _ (List.mem_of_getElem? (i := 58) rfl))) (mvT hZ (hw _ (List.mem_of_getElem? (i := 57) rfl))) (by decide) (backOf (W := 0) (rm_ch1 l Z a0 hw [] oa (2 : Int32) vcs vf ob kb (3 : Int32) [(.int bb0), (.int bb1), (.int bb2)] bb2 h0 n0 Z0 Os Es Fc Fv Vb (by decide) (by decide) rfl) hZ (hw _ (List.mem_of_getElem? (i := 59) rfl)) (hw _ (List.mem_of_getElem? (i := 7) rfl)) (by decide) (by decide)) q15a q15c (g := (mkF m 12 #[.val (.ref oa), .val (.int (1 : Int32)), .val (.int (2 : Int32))] [(.int (2 : Int32)), (.ref oa)])) rfl (by rw [hml]; rfl) (Steps.refl _) (argsL := [(.int (2 : Int32))]) (rest := []) (lenOf pd_11 rfl) rfl (by show 2 * 0 + _ ≤ _; exact Nat.le_of_eq rfl) (hb hby d5_12) (fun _ _ => ⟨rfl, e11, (by decide : 0 + 0 ≤ _), (by decide : 0 + 0 ≤ _)⟩)
      dsimp only [Pt.U, Pt.locs, Pt.cells, Pt.slots] at X15 l15 y15 z15 st15 hQ15
      rw [l15, y15, z15] at X15
      obtain ⟨ch12_2, rfl, hch12_2, N15q, e15⟩ := hQ15
      have N15 := Fr.app N11 N15q
      have pre17 : ∀ t, Steps p.tables e below (T15.setTop (mkF m 17 #[.val (.ref oa), .val (.int (1 : Int32)), .val (.int (2 : Int32))] [(.int (63 : Int32)), (.int ch12_2)])) t → Steps p.tables e below (s₁.setTop (entryFrame m #[(.ref oa), (.int (1 : Int32))] 3)) t := fun t kt => by
        refine pre13 _ ?_
        show Steps p.tables e below (T11.setTop (mkF m 7 #[.val (.ref oa), .val (.int (1 : Int32)), .val (.int (2 : Int32))] [(.int (3 : Int32)), (.int (2 : Int32))])) _
        refine XS.icmpNo X11.here hx rfl (hb hby d5_7) rfl (own_tlt (a := (2 : Int32)) (b := (3 : Int32)) (by decide) (by decide) hc7_14).2.1 ?_
        refine XS.aloadN X11.here hx rfl (hb hby d5_10) rfl rfl ?_
        refine XS.iloadN X11.here hx rfl (hb hby d5_11) rfl ?_
        refine st15.trans ?_
        refine XS.bipush X15.here hx rfl (hb hby d5_15) ?_
        exact kt
      by_cases hc17_16 : ch12_2.toInt = (63 : Int)
      · obtain ⟨fs, hr, hrun, hended, hW, hsame⟩ := X15.leave (v := some (.int (2 : Int32))) (fun h => by rw [Bd.returns] at h; cases h)
        refine ⟨_, _, pre17 _ ?_, hrun, hended, _, _, rfl, ?_, ⟨_, rfl⟩, hW, hsame.mono (by decide) (by decide)⟩
        · show Steps p.tables e below (T15.setTop (mkF m 17 #[.val (.ref oa), .val (.int (1 : Int32)), .val (.int (2 : Int32))] [(.int (63 : Int32)), (.int ch12_2)])) _
          refine XS.icmpYes X15.here hx rfl (pc0 := 17) (pc' := 36) rfl (hb hby d5_17) rfl (own_teq (a := ch12_2) (b := (63 : Int32)) rfl (by decide) hc17_16).1 (by decide) (by decide) ?_
          refine XS.iloadN X15.here hx rfl (hb hby d5_36) rfl ?_
          show Steps p.tables e below (T15.setTop (mkF m 37 #[.val (.ref oa), .val (.int (1 : Int32)), .val (.int (2 : Int32))] [(.int (2 : Int32))])) _
          exact retI X15 hx Bd.returns (hb hby d5_37) hr
        · show Q_pe3_1 Z _ _ _ _ _ _ _ _ _ _ _ h0 n0 _ T15.heap _
          rw [e15]
          exact ⟨_, rfl, by have s1 : ¬ own_stop c1.toInt := (by unfold own_stop; omega); have s2 : own_stop c2.toInt := (by unfold own_stop; omega); rw [if_neg s1, if_pos s2]; decide, N15, rfl⟩
      · obtain ⟨cq18, kq18, q18a, q18b, q18c⟩ := isOf hZ e15 Es
        obtain ⟨_, _, ⟨T18, L18, k18, n18⟩, -, X18, ⟨Lc18, hQ18, l18, y18, z18⟩, st18⟩ := X15.virtualBack hx (y := (⟨"java/lang/String", "charAt", "(I)C"⟩ : MethodName)) (z := (⟨"java/lang/String", "charAt", "(I)C"⟩ : MethodName)) hown (mvT hZ (hw _ (List.mem_of_getElem? (i := 55) rfl))) (mvT hZ (hw _ (List.mem_of_getElem? (i := 56) rfl))) (notFace_of_selects (args := #[]) (mvT hZ (hw _ (List.mem_of_getElem? (i := 58) rfl)))) (mvT hZ (hw _ (List.mem_of_getElem? (i := 58) rfl))) (mvT hZ (hw _ (List.mem_of_getElem? (i := 57) rfl))) (by decide) (backOf (W := 0) (rm_ch1 l Z a0 hw [] oa (2 : Int32) vcs vf ob kb (3 : Int32) [(.int bb0), (.int bb1), (.int bb2)] bb2 h0 n0 Z0 Os Es Fc Fv Vb (by decide) (by decide) rfl) hZ (hw _ (List.mem_of_getElem? (i := 59) rfl)) (hw _ (List.mem_of_getElem? (i := 7) rfl)) (by decide) (by decide)) q18a q18c (g := (mkF m 22 #[.val (.ref oa), .val (.int (1 : Int32)), .val (.int (2 : Int32))] [(.int (2 : Int32)), (.ref oa)])) rfl (by rw [hml]; rfl) (Steps.refl _) (argsL := [(.int (2 : Int32))]) (rest := []) (lenOf pd_11 rfl) rfl (by show 2 * 0 + _ ≤ _; exact Nat.le_of_eq rfl) (hb hby d5_22) (fun _ _ => ⟨rfl, e15, (by decide : 0 + 0 ≤ _), (by decide : 0 + 0 ≤ _)⟩)
        dsimp only [Pt.U, Pt.locs, Pt.cells, Pt.slots] at X18 l18 y18 z18 st18 hQ18
        rw [l18, y18, z18] at X18
        obtain ⟨ch22_2, rfl, hch22_2, N18q, e18⟩ := hQ18
        have N18 := Fr.app N15 N18q
        have pre20 : ∀ t, Steps p.tables e below (T18.setTop (mkF m 27 #[.val (.ref oa), .val (.int (1 : Int32)), .val (.int (2 : Int32))] [(.int (35 : Int32)), (.int ch22_2)])) t → Steps p.tables e below (s₁.setTop (entryFrame m #[(.ref oa), (.int (1 : Int32))] 3)) t := fun t kt => by
          refine pre17 _ ?_
          show Steps p.tables e below (T15.setTop (mkF m 17 #[.val (.ref oa), .val (.int (1 : Int32)), .val (.int (2 : Int32))] [(.int (63 : Int32)), (.int ch12_2)])) _
          refine XS.icmpNo X15.here hx rfl (hb hby d5_17) rfl (own_feq (a := ch12_2) (b := (63 : Int32)) rfl (by decide) hc17_16).1 ?_
          refine XS.aloadN X15.here hx rfl (hb hby d5_20) rfl rfl ?_
          show Steps p.tables e below (T15.setTop (mkF m 21 #[.val (.ref oa), .val (.int (1 : Int32)), .val (.int (2 : Int32))] [(.ref oa)])) _
          refine XS.iloadN X15.here hx rfl (hb hby d5_21) rfl ?_
          refine st18.trans ?_
          refine XS.bipush X18.here hx rfl (hb hby d5_25) ?_
          exact kt
        by_cases hc27_19 : ch22_2.toInt = (35 : Int)
        · obtain ⟨fs, hr, hrun, hended, hW, hsame⟩ := X18.leave (v := some (.int (2 : Int32))) (fun h => by rw [Bd.returns] at h; cases h)
          refine ⟨_, _, pre20 _ ?_, hrun, hended, _, _, rfl, ?_, ⟨_, rfl⟩, hW, hsame.mono (by decide) (by decide)⟩
          · show Steps p.tables e below (T18.setTop (mkF m 27 #[.val (.ref oa), .val (.int (1 : Int32)), .val (.int (2 : Int32))] [(.int (35 : Int32)), (.int ch22_2)])) _
            refine XS.icmpYes X18.here hx rfl (pc0 := 27) (pc' := 36) rfl (hb hby d5_27) rfl (own_teq (a := ch22_2) (b := (35 : Int32)) rfl (by decide) hc27_19).1 (by decide) (by decide) ?_
            refine XS.iloadN X18.here hx rfl (hb hby d5_36) rfl ?_
            exact retI X18 hx Bd.returns (hb hby d5_37) hr
          · show Q_pe3_1 Z _ _ _ _ _ _ _ _ _ _ _ h0 n0 _ T18.heap _
            rw [e18]
            exact ⟨_, rfl, by have s1 : ¬ own_stop c1.toInt := (by unfold own_stop; omega); have s2 : own_stop c2.toInt := (by unfold own_stop; omega); rw [if_neg s1, if_pos s2]; decide, N18, rfl⟩
        · obtain ⟨cq21, kq21, q21a, q21b, q21c⟩ := isOf hZ e18 Es
          obtain ⟨_, _, ⟨T21, L21, k21, n21⟩, -, X21, ⟨Lc21, hQ21, l21, y21, z21⟩, st21⟩ := X18.virtualBack hx (y := (⟨"java/lang/String", "length", "()I"⟩ : MethodName)) (z := (⟨"java/lang/String", "length", "()I"⟩ : MethodName)) hown (mvT hZ (hw _ (List.mem_of_getElem? (i := 31) rfl))) (mvT hZ (hw _ (List.mem_of_getElem? (i := 32) rfl))) (notFace_of_selects (args := #[]) (mvT hZ (hw _ (List.mem_of_getElem? (i := 34) rfl)))) (mvT hZ (hw _ (List.mem_of_getElem? (i := 34) rfl))) (mvT hZ (hw _ (List.mem_of_getElem? (i := 33) rfl))) (by decide) (backOf (W := 1) (rm_len3_0 l Z a0 hw [] oa vcs vf ob kb [(.int bb0), (.int bb1), (.int bb2)] h0 n0 Z0 Os Es Fc Fv Vb) hZ (hw _ (List.mem_of_getElem? (i := 35) rfl)) (hw _ (List.mem_of_getElem? (i := 7) rfl)) (by decide) (by decide)) q21a q21c (g := (mkF m 4 #[.val (.ref oa), .val (.int (1 : Int32)), .val (.int (3 : Int32))] [(.ref oa), (.int (3 : Int32))])) rfl (by rw [hml]; rfl) (Steps.refl _) (argsL := []) (rest := [(.int (3 : Int32))]) (lenOf pd_10 rfl) rfl (by show 2 * 0 + _ ≤ _; exact Nat.le_of_eq rfl) (hb hby d5_4) (fun _ _ => ⟨rfl, e18, (by decide : 0 + 0 ≤ _), (by decide : 0 + 0 ≤ _)⟩)
          dsimp only [Pt.U, Pt.locs, Pt.cells, Pt.slots] at X21 l21 y21 z21 st21 hQ21
          rw [l21, y21, z21] at X21
          obtain ⟨zl3, rfl, hzl3, N21q, e21⟩ := hQ21
          have N21 := Fr.app N18 N21q
          have pre22 : ∀ t, Steps p.tables e below (T21.setTop (mkF m 7 #[.val (.ref oa), .val (.int (1 : Int32)), .val (.int (3 : Int32))] [(.int zl3), (.int (3 : Int32))])) t → Steps p.tables e below (s₁.setTop (entryFrame m #[(.ref oa), (.int (1 : Int32))] 3)) t := fun t kt => by
            refine pre20 _ ?_
            show Steps p.tables e below (T18.setTop (mkF m 27 #[.val (.ref oa), .val (.int (1 : Int32)), .val (.int (2 : Int32))] [(.int (35 : Int32)), (.int ch22_2)])) _
            refine XS.icmpNo X18.here hx rfl (hb hby d5_27) rfl (own_feq (a := ch22_2) (b := (35 : Int32)) rfl (by decide) hc27_19).1 ?_
            refine XS.iinc X18.here hx rfl (hb hby d5_30) rfl (l' := #[.val (.ref oa), .val (.int (1 : Int32)), .val (.int (3 : Int32))]) rfl ?_
            refine XS.goto X18.here hx rfl (pc0 := 33) (pc' := 2) rfl (hb hby d5_33) (by decide) (by decide) ?_
            refine XS.iloadN X18.here hx rfl (hb hby d5_2) rfl ?_
            show Steps p.tables e below (T18.setTop (mkF m 3 #[.val (.ref oa), .val (.int (1 : Int32)), .val (.int (3 : Int32))] [(.int (3 : Int32))])) _
            refine XS.aloadN X18.here hx rfl (hb hby d5_3) rfl rfl ?_
            refine st21.trans ?_
            exact kt
          subst hzl3
          have pre23 : ∀ t, Steps p.tables e below (T21.setTop (mkF m 7 #[.val (.ref oa), .val (.int (1 : Int32)), .val (.int (3 : Int32))] [(.int (3 : Int32)), (.int (3 : Int32))])) t → Steps p.tables e below (s₁.setTop (entryFrame m #[(.ref oa), (.int (1 : Int32))] 3)) t := pre22
          have hc7_24 : ¬ ((3 : Int) < (3 : Int)) := by decide
          obtain ⟨fs, hr, hrun, hended, hW, hsame⟩ := X21.leave (v := some (.int (3 : Int32))) (fun h => by rw [Bd.returns] at h; cases h)
          refine ⟨_, _, pre23 _ ?_, hrun, hended, _, _, rfl, ?_, ⟨_, rfl⟩, hW, hsame.mono (by decide) (by decide)⟩
          · refine XS.icmpYes X21.here hx rfl (pc0 := 7) (pc' := 36) rfl (hb hby d5_7) rfl (own_flt (a := (3 : Int32)) (b := (3 : Int32)) (by decide) (by decide) hc7_24).2.1 (by decide) (by decide) ?_
            refine XS.iloadN X21.here hx rfl (hb hby d5_36) rfl ?_
            exact retI X21 hx Bd.returns (hb hby d5_37) hr
          · show Q_pe3_1 Z _ _ _ _ _ _ _ _ _ _ _ h0 n0 _ T21.heap _
            rw [e21]
            exact ⟨_, rfl, by have s1 : ¬ own_stop c1.toInt := (by unfold own_stop; omega); have s2 : ¬ own_stop c2.toInt := (by unfold own_stop; omega); rw [if_neg s1, if_neg s2]; decide, N21, rfl⟩
theorem ef_rm_pe3_2 (m : MethodId) (x0 : Addr) : entryFrame m #[(.ref x0), (.int (2 : Int32))] 3 = mkF m 0 #[.val (.ref x0), .val (.int (2 : Int32)), .unset] [] := by first | (simp [entryFrame, mkF, argsToLocals, Value.category]; done) | rfl
def Q_pe3_2 (Z : State) (oa : Addr) (vcs : Int32) (vf : Value) (ob : Addr) (kb : ClassId) (bb0 : Int32) (bb1 : Int32) (bb2 : Int32) (c0 : Int32) (c1 : Int32) (c2 : Int32) (h0 : Heap) (n0 : Nat) (v : Option Value) (h : Heap) (L : List Loc) : Prop := ∃ z : Int32, v = some (.int z) ∧ (z.toInt = (if own_stop c2.toInt then (2 : Int) else (3 : Int))) ∧ Fr n0 L ∧ h = h0
set_option maxRecDepth 65536 in
set_option maxHeartbeats 40000000 in
theorem rm_pe3_2 (l : Launch) (Z : State) (a0 : Array Value) (hw : ∀ d ∈ tables_1, d.before a0 Z = true) (ws : List Jvm.Cond) (oa : Addr) (vcs : Int32) (vf : Value) (ob : Addr) (kb : ClassId) (bb0 : Int32) (bb1 : Int32) (bb2 : Int32) (c0 : Int32) (c1 : Int32) (c2 : Int32) (h0 : Heap) (n0 : Nat) (Z0 : n0 ≤ h0.size) (Os : own_st Z h0 vcs vf) (Es : Exa Z h0 oa "java/lang/String") (Fc : Fld Z h0 oa "java/lang/String" "coder" "B" (.int (0 : Int32))) (Fv : Fld Z h0 oa "java/lang/String" "value" "[B" (.ref ob)) (Vb : Arv Z h0 ob kb .byte (3 : Int32) [(.int bb0), (.int bb1), (.int bb2)] (.int (0 : Int32))) (qbb0 : bb0.toInt % 256 = c0.toInt) (qbb1 : bb1.toInt % 256 = c1.toInt) (qbb2 : bb2.toInt % 256 = c2.toInt) :
    MetFree l (⟨"com/example/path_template_matcher/pathtemplatematcher/UriReference", "pathEnd", "(Ljava/lang/String;I)I"⟩ : MethodName) (head1 (Jvm.Cond.code (⟨"com/example/path_template_matcher/pathtemplatematcher/UriReference", "pathEnd", "(Ljava/lang/String;I)I"⟩ : MethodName) prog_36_method_4_code 3 (some .int) :: ws) ({ frames := 4, cells := 0, slots := 0, locals := 53 } : Room)) (fun a U => a = #[(.ref oa), (.int (2 : Int32))] ∧ Z.Warmed39 U.vm ∧ U.heap = h0) (fun _ _ _ _ _ => True) (fun _ U o U' => ∃ v L, o = .returned v ∧ Q_pe3_2 Z oa vcs vf ob kb bb0 bb1 bb2 c0 c1 c2 h0 n0 v U'.heap L ∧ FrameEnd U o U' L ({ frames := 4, cells := 0, slots := 0, locals := 53 } : Room).cells ({ frames := 4, cells := 0, slots := 0, locals := 53 } : Room).slots) := by
  refine MetFree.of_bodySF (plainFor_of_name pn_5) hisR ?_
  intro p e s m args below meth c s₁ Bd hml0 hP hK
  obtain ⟨rfl, hZ, hh⟩ := hP
  have hx := Bd.exec
  have hby := Bd.bytes
  have hml : c.maxLocals = 3 := hml0
  have hown : s.vm.findClass "com/example/path_template_matcher/pathtemplatematcher/UriReference" = some m.cls := findClass_of_methodNamed Bd.named
  have hnm := (name_of_methodNamed Bd.named Bd.method).1
  have X0 : Stand p l e ({ frames := 4, cells := 0, slots := 0, locals := 53 } : Room) s m #[(.ref oa), (.int (2 : Int32))] below meth c s₁ [] 0 0 := Stand.of_body Bd
  have e0 : s₁.heap = h0 := by rw [← hh, Bd.state]; rfl
  have N0 := Fr.nil n0
  have pre0 : ∀ t, Steps p.tables e below (s₁.setTop (mkF m 0 #[.val (.ref oa), .val (.int (2 : Int32)), .unset] [])) t → Steps p.tables e below (s₁.setTop (entryFrame m #[(.ref oa), (.int (2 : Int32))] 3)) t := fun t k => castTop (ef_rm_pe3_2 m oa) k
  obtain ⟨cq1, kq1, q1a, q1b, q1c⟩ := isOf hZ e0 Es
  obtain ⟨_, _, ⟨T1, L1, k1, n1⟩, -, X1, ⟨Lc1, hQ1, l1, y1, z1⟩, st1⟩ := X0.virtualBack hx (y := (⟨"java/lang/String", "length", "()I"⟩ : MethodName)) (z := (⟨"java/lang/String", "length", "()I"⟩ : MethodName)) hown (mvT hZ (hw _ (List.mem_of_getElem? (i := 31) rfl))) (mvT hZ (hw _ (List.mem_of_getElem? (i := 32) rfl))) (notFace_of_selects (args := #[]) (mvT hZ (hw _ (List.mem_of_getElem? (i := 34) rfl)))) (mvT hZ (hw _ (List.mem_of_getElem? (i := 34) rfl))) (mvT hZ (hw _ (List.mem_of_getElem? (i := 33) rfl))) (by decide) (backOf (W := 1) (rm_len3_0 l Z a0 hw [] oa vcs vf ob kb [(.int bb0), (.int bb1), (.int bb2)] h0 n0 Z0 Os Es Fc Fv Vb) hZ (hw _ (List.mem_of_getElem? (i := 35) rfl)) (hw _ (List.mem_of_getElem? (i := 7) rfl)) (by decide) (by decide)) q1a q1c (g := (mkF m 4 #[.val (.ref oa), .val (.int (2 : Int32)), .val (.int (2 : Int32))] [(.ref oa), (.int (2 : Int32))])) rfl (by rw [hml]; rfl) (Steps.refl _) (argsL := []) (rest := [(.int (2 : Int32))]) (lenOf pd_10 rfl) rfl (by show 2 * 0 + _ ≤ _; exact Nat.le_of_eq rfl) (hb hby d5_4) (fun _ _ => ⟨rfl, e0, (by decide : 0 + 0 ≤ _), (by decide : 0 + 0 ≤ _)⟩)
  dsimp only [Pt.U, Pt.locs, Pt.cells, Pt.slots] at X1 l1 y1 z1 st1 hQ1
  rw [l1, y1, z1] at X1
  obtain ⟨zl1, rfl, hzl1, N1q, e1⟩ := hQ1
  have N1 := Fr.app N0 N1q
  have pre2 : ∀ t, Steps p.tables e below (T1.setTop (mkF m 7 #[.val (.ref oa), .val (.int (2 : Int32)), .val (.int (2 : Int32))] [(.int zl1), (.int (2 : Int32))])) t → Steps p.tables e below (s₁.setTop (entryFrame m #[(.ref oa), (.int (2 : Int32))] 3)) t := fun t kt => by
    refine pre0 _ ?_
    refine XS.iloadN X0.here hx rfl (hb hby d5_0) rfl ?_
    refine XS.istoreN X0.here hx rfl (hb hby d5_1) rfl (l' := #[.val (.ref oa), .val (.int (2 : Int32)), .val (.int (2 : Int32))]) rfl ?_
    refine XS.iloadN X0.here hx rfl (hb hby d5_2) rfl ?_
    refine XS.aloadN X0.here hx rfl (hb hby d5_3) rfl rfl ?_
    refine st1.trans ?_
    exact kt
  subst hzl1
  have pre3 : ∀ t, Steps p.tables e below (T1.setTop (mkF m 7 #[.val (.ref oa), .val (.int (2 : Int32)), .val (.int (2 : Int32))] [(.int (3 : Int32)), (.int (2 : Int32))])) t → Steps p.tables e below (s₁.setTop (entryFrame m #[(.ref oa), (.int (2 : Int32))] 3)) t := pre2
  have hc7_4 : (2 : Int) < (3 : Int) := by decide
  obtain ⟨cq5, kq5, q5a, q5b, q5c⟩ := isOf hZ e1 Es
  obtain ⟨_, _, ⟨T5, L5, k5, n5⟩, -, X5, ⟨Lc5, hQ5, l5, y5, z5⟩, st5⟩ := X1.virtualBack hx (y := (⟨"java/lang/String", "charAt", "(I)C"⟩ : MethodName)) (z := (⟨"java/lang/String", "charAt", "(I)C"⟩ : MethodName)) hown (mvT hZ (hw _ (List.mem_of_getElem? (i := 55) rfl))) (mvT hZ (hw _ (List.mem_of_getElem? (i := 56) rfl))) (notFace_of_selects (args := #[]) (mvT hZ (hw _ (List.mem_of_getElem? (i := 58) rfl)))) (mvT hZ (hw _ (List.mem_of_getElem? (i := 58) rfl))) (mvT hZ (hw _ (List.mem_of_getElem? (i := 57) rfl))) (by decide) (backOf (W := 0) (rm_ch1 l Z a0 hw [] oa (2 : Int32) vcs vf ob kb (3 : Int32) [(.int bb0), (.int bb1), (.int bb2)] bb2 h0 n0 Z0 Os Es Fc Fv Vb (by decide) (by decide) rfl) hZ (hw _ (List.mem_of_getElem? (i := 59) rfl)) (hw _ (List.mem_of_getElem? (i := 7) rfl)) (by decide) (by decide)) q5a q5c (g := (mkF m 12 #[.val (.ref oa), .val (.int (2 : Int32)), .val (.int (2 : Int32))] [(.int (2 : Int32)), (.ref oa)])) rfl (by rw [hml]; rfl) (Steps.refl _) (argsL := [(.int (2 : Int32))]) (rest := []) (lenOf pd_11 rfl) rfl (by show 2 * 0 + _ ≤ _; exact Nat.le_of_eq rfl) (hb hby d5_12) (fun _ _ => ⟨rfl, e1, (by decide : 0 + 0 ≤ _), (by decide : 0 + 0 ≤ _)⟩)
  dsimp only [Pt.U, Pt.locs, Pt.cells, Pt.slots] at X5 l5 y5 z5 st5 hQ5
  rw [l5, y5, z5] at X5
  obtain ⟨ch12_2, rfl, hch12_2, N5q, e5⟩ := hQ5
  have N5 := Fr.app N1 N5q
  have pre7 : ∀ t, Steps p.tables e below (T5.setTop (mkF m 17 #[.val (.ref oa), .val (.int (2 : Int32)), .val (.int (2 : Int32))] [(.int (63 : Int32)), (.int ch12_2)])) t → Steps p.tables e below (s₁.setTop (entryFrame m #[(.ref oa), (.int (2 : Int32))] 3)) t := fun t kt => by
    refine pre3 _ ?_
    refine XS.icmpNo X1.here hx rfl (hb hby d5_7) rfl (own_tlt (a := (2 : Int32)) (b := (3 : Int32)) (by decide) (by decide) hc7_4).2.1 ?_
    refine XS.aloadN X1.here hx rfl (hb hby d5_10) rfl rfl ?_
    show Steps p.tables e below (T1.setTop (mkF m 11 #[.val (.ref oa), .val (.int (2 : Int32)), .val (.int (2 : Int32))] [(.ref oa)])) _
    refine XS.iloadN X1.here hx rfl (hb hby d5_11) rfl ?_
    refine st5.trans ?_
    refine XS.bipush X5.here hx rfl (hb hby d5_15) ?_
    exact kt
  by_cases hc17_6 : ch12_2.toInt = (63 : Int)
  · obtain ⟨fs, hr, hrun, hended, hW, hsame⟩ := X5.leave (v := some (.int (2 : Int32))) (fun h => by rw [Bd.returns] at h; cases h)
    refine ⟨_, _, pre7 _ ?_, hrun, hended, _, _, rfl, ?_, ⟨_, rfl⟩, hW, hsame.mono (by decide) (by decide)⟩
    · show Steps p.tables e below (T5.setTop (mkF m 17 #[.val (.ref oa), .val (.int (2 : Int32)), .val (.int (2 : Int32))] [(.int (63 : Int32)), (.int ch12_2)])) _
      refine XS.icmpYes X5.here hx rfl (pc0 := 17) (pc' := 36) rfl (hb hby d5_17) rfl (own_teq (a := ch12_2) (b := (63 : Int32)) rfl (by decide) hc17_6).1 (by decide) (by decide) ?_
      refine XS.iloadN X5.here hx rfl (hb hby d5_36) rfl ?_
      exact retI X5 hx Bd.returns (hb hby d5_37) hr
    · show Q_pe3_2 Z _ _ _ _ _ _ _ _ _ _ _ h0 n0 _ T5.heap _
      rw [e5]
      exact ⟨_, rfl, by have s2 : own_stop c2.toInt := (by unfold own_stop; omega); rw [if_pos s2]; decide, N5, rfl⟩
  · obtain ⟨cq8, kq8, q8a, q8b, q8c⟩ := isOf hZ e5 Es
    obtain ⟨_, _, ⟨T8, L8, k8, n8⟩, -, X8, ⟨Lc8, hQ8, l8, y8, z8⟩, st8⟩ := X5.virtualBack hx (y := (⟨"java/lang/String", "charAt", "(I)C"⟩ : MethodName)) (z := (⟨"java/lang/String", "charAt", "(I)C"⟩ : MethodName)) hown (mvT hZ (hw _ (List.mem_of_getElem? (i := 55) rfl))) (mvT hZ (hw _ (List.mem_of_getElem? (i := 56) rfl))) (notFace_of_selects (args := #[]) (mvT hZ (hw _ (List.mem_of_getElem? (i := 58) rfl)))) (mvT hZ (hw _ (List.mem_of_getElem? (i := 58) rfl))) (mvT hZ (hw _ (List.mem_of_getElem? (i := 57) rfl))) (by decide) (backOf (W := 0) (rm_ch1 l Z a0 hw [] oa (2 : Int32) vcs vf ob kb (3 : Int32) [(.int bb0), (.int bb1), (.int bb2)] bb2 h0 n0 Z0 Os Es Fc Fv Vb (by decide) (by decide) rfl) hZ (hw _ (List.mem_of_getElem? (i := 59) rfl)) (hw _ (List.mem_of_getElem? (i := 7) rfl)) (by decide) (by decide)) q8a q8c (g := (mkF m 22 #[.val (.ref oa), .val (.int (2 : Int32)), .val (.int (2 : Int32))] [(.int (2 : Int32)), (.ref oa)])) rfl (by rw [hml]; rfl) (Steps.refl _) (argsL := [(.int (2 : Int32))]) (rest := []) (lenOf pd_11 rfl) rfl (by show 2 * 0 + _ ≤ _; exact Nat.le_of_eq rfl) (hb hby d5_22) (fun _ _ => ⟨rfl, e5, (by decide : 0 + 0 ≤ _), (by decide : 0 + 0 ≤ _)⟩)
    dsimp only [Pt.U, Pt.locs, Pt.cells, Pt.slots] at X8 l8 y8 z8 st8 hQ8
    rw [l8, y8, z8] at X8
    obtain ⟨ch22_2, rfl, hch22_2, N8q, e8⟩ := hQ8
    have N8 := Fr.app N5 N8q
    have pre10 : ∀ t, Steps p.tables e below (T8.setTop (mkF m 27 #[.val (.ref oa), .val (.int (2 : Int32)), .val (.int (2 : Int32))] [(.int (35 : Int32)), (.int ch22_2)])) t → Steps p.tables e below (s₁.setTop (entryFrame m #[(.ref oa), (.int (2 : Int32))] 3)) t := fun t kt => by
      refine pre7 _ ?_
      show Steps p.tables e below (T5.setTop (mkF m 17 #[.val (.ref oa), .val (.int (2 : Int32)), .val (.int (2 : Int32))] [(.int (63 : Int32)), (.int ch12_2)])) _
      refine XS.icmpNo X5.here hx rfl (hb hby d5_17) rfl (own_feq (a := ch12_2) (b := (63 : Int32)) rfl (by decide) hc17_6).1 ?_
      refine XS.aloadN X5.here hx rfl (hb hby d5_20) rfl rfl ?_
      refine XS.iloadN X5.here hx rfl (hb hby d5_21) rfl ?_
      refine st8.trans ?_
      show Steps p.tables e below (T8.setTop (mkF m 25 #[.val (.ref oa), .val (.int (2 : Int32)), .val (.int (2 : Int32))] [(.int ch22_2)])) _
      refine XS.bipush X8.here hx rfl (hb hby d5_25) ?_
      exact kt
    by_cases hc27_9 : ch22_2.toInt = (35 : Int)
    · obtain ⟨fs, hr, hrun, hended, hW, hsame⟩ := X8.leave (v := some (.int (2 : Int32))) (fun h => by rw [Bd.returns] at h; cases h)
      refine ⟨_, _, pre10 _ ?_, hrun, hended, _, _, rfl, ?_, ⟨_, rfl⟩, hW, hsame.mono (by decide) (by decide)⟩
      · show Steps p.tables e below (T8.setTop (mkF m 27 #[.val (.ref oa), .val (.int (2 : Int32)), .val (.int (2 : Int32))] [(.int (35 : Int32)), (.int ch22_2)])) _
        refine XS.icmpYes X8.here hx rfl (pc0 := 27) (pc' := 36) rfl (hb hby d5_27) rfl (own_teq (a := ch22_2) (b := (35 : Int32)) rfl (by decide) hc27_9).1 (by decide) (by decide) ?_
        refine XS.iloadN X8.here hx rfl (hb hby d5_36) rfl ?_
        exact retI X8 hx Bd.returns (hb hby d5_37) hr
      · show Q_pe3_2 Z _ _ _ _ _ _ _ _ _ _ _ h0 n0 _ T8.heap _
        rw [e8]
        exact ⟨_, rfl, by have s2 : own_stop c2.toInt := (by unfold own_stop; omega); rw [if_pos s2]; decide, N8, rfl⟩
    · obtain ⟨cq11, kq11, q11a, q11b, q11c⟩ := isOf hZ e8 Es
      obtain ⟨_, _, ⟨T11, L11, k11, n11⟩, -, X11, ⟨Lc11, hQ11, l11, y11, z11⟩, st11⟩ := X8.virtualBack hx (y := (⟨"java/lang/String", "length", "()I"⟩ : MethodName)) (z := (⟨"java/lang/String", "length", "()I"⟩ : MethodName)) hown (mvT hZ (hw _ (List.mem_of_getElem? (i := 31) rfl))) (mvT hZ (hw _ (List.mem_of_getElem? (i := 32) rfl))) (notFace_of_selects (args := #[]) (mvT hZ (hw _ (List.mem_of_getElem? (i := 34) rfl)))) (mvT hZ (hw _ (List.mem_of_getElem? (i := 34) rfl))) (mvT hZ (hw _ (List.mem_of_getElem? (i := 33) rfl))) (by decide) (backOf (W := 1) (rm_len3_0 l Z a0 hw [] oa vcs vf ob kb [(.int bb0), (.int bb1), (.int bb2)] h0 n0 Z0 Os Es Fc Fv Vb) hZ (hw _ (List.mem_of_getElem? (i := 35) rfl)) (hw _ (List.mem_of_getElem? (i := 7) rfl)) (by decide) (by decide)) q11a q11c (g := (mkF m 4 #[.val (.ref oa), .val (.int (2 : Int32)), .val (.int (3 : Int32))] [(.ref oa), (.int (3 : Int32))])) rfl (by rw [hml]; rfl) (Steps.refl _) (argsL := []) (rest := [(.int (3 : Int32))]) (lenOf pd_10 rfl) rfl (by show 2 * 0 + _ ≤ _; exact Nat.le_of_eq rfl) (hb hby d5_4) (fun _ _ => ⟨rfl, e8, (by decide : 0 + 0 ≤ _), (by decide : 0 + 0 ≤ _)⟩)
      dsimp only [Pt.U, Pt.locs, Pt.cells, Pt.slots] at X11 l11 y11 z11 st11 hQ11
      rw [l11, y11, z11] at X11
      obtain ⟨zl2, rfl, hzl2, N11q, e11⟩ := hQ11
      have N11 := Fr.app N8 N11q
      have pre12 : ∀ t, Steps p.tables e below (T11.setTop (mkF m 7 #[.val (.ref oa), .val (.int (2 : Int32)), .val (.int (3 : Int32))] [(.int zl2), (.int (3 : Int32))])) t → Steps p.tables e below (s₁.setTop (entryFrame m #[(.ref oa), (.int (2 : Int32))] 3)) t := fun t kt => by
        refine pre10 _ ?_
        show Steps p.tables e below (T8.setTop (mkF m 27 #[.val (.ref oa), .val (.int (2 : Int32)), .val (.int (2 : Int32))] [(.int (35 : Int32)), (.int ch22_2)])) _
        refine XS.icmpNo X8.here hx rfl (hb hby d5_27) rfl (own_feq (a := ch22_2) (b := (35 : Int32)) rfl (by decide) hc27_9).1 ?_
        refine XS.iinc X8.here hx rfl (hb hby d5_30) rfl (l' := #[.val (.ref oa), .val (.int (2 : Int32)), .val (.int (3 : Int32))]) rfl ?_
        refine XS.goto X8.here hx rfl (pc0 := 33) (pc' := 2) rfl (hb hby d5_33) (by decide) (by decide) ?_
        refine XS.iloadN X8.here hx rfl (hb hby d5_2) rfl ?_
        refine XS.aloadN X8.here hx rfl (hb hby d5_3) rfl rfl ?_
        refine st11.trans ?_
        exact kt
      subst hzl2
      have pre13 : ∀ t, Steps p.tables e below (T11.setTop (mkF m 7 #[.val (.ref oa), .val (.int (2 : Int32)), .val (.int (3 : Int32))] [(.int (3 : Int32)), (.int (3 : Int32))])) t → Steps p.tables e below (s₁.setTop (entryFrame m #[(.ref oa), (.int (2 : Int32))] 3)) t := pre12
      have hc7_14 : ¬ ((3 : Int) < (3 : Int)) := by decide
      obtain ⟨fs, hr, hrun, hended, hW, hsame⟩ := X11.leave (v := some (.int (3 : Int32))) (fun h => by rw [Bd.returns] at h; cases h)
      refine ⟨_, _, pre13 _ ?_, hrun, hended, _, _, rfl, ?_, ⟨_, rfl⟩, hW, hsame.mono (by decide) (by decide)⟩
      · show Steps p.tables e below (T11.setTop (mkF m 7 #[.val (.ref oa), .val (.int (2 : Int32)), .val (.int (3 : Int32))] [(.int (3 : Int32)), (.int (3 : Int32))])) _
        refine XS.icmpYes X11.here hx rfl (pc0 := 7) (pc' := 36) rfl (hb hby d5_7) rfl (own_flt (a := (3 : Int32)) (b := (3 : Int32)) (by decide) (by decide) hc7_14).2.1 (by decide) (by decide) ?_
        refine XS.iloadN X11.here hx rfl (hb hby d5_36) rfl ?_
        exact retI X11 hx Bd.returns (hb hby d5_37) hr
      · show Q_pe3_2 Z _ _ _ _ _ _ _ _ _ _ _ h0 n0 _ T11.heap _
        rw [e11]
        exact ⟨_, rfl, by have s2 : ¬ own_stop c2.toInt := (by unfold own_stop; omega); rw [if_neg s2]; decide, N11, rfl⟩
theorem ef_rm_pe3_3 (m : MethodId) (x0 : Addr) : entryFrame m #[(.ref x0), (.int (3 : Int32))] 3 = mkF m 0 #[.val (.ref x0), .val (.int (3 : Int32)), .unset] [] := by first | (simp [entryFrame, mkF, argsToLocals, Value.category]; done) | rfl
def Q_pe3_3 (Z : State) (oa : Addr) (vcs : Int32) (vf : Value) (ob : Addr) (kb : ClassId) (bb0 : Int32) (bb1 : Int32) (bb2 : Int32) (c0 : Int32) (c1 : Int32) (c2 : Int32) (h0 : Heap) (n0 : Nat) (v : Option Value) (h : Heap) (L : List Loc) : Prop := ∃ z : Int32, v = some (.int z) ∧ (z.toInt = (3 : Int)) ∧ Fr n0 L ∧ h = h0
set_option maxRecDepth 65536 in
set_option maxHeartbeats 40000000 in
theorem rm_pe3_3 (l : Launch) (Z : State) (a0 : Array Value) (hw : ∀ d ∈ tables_1, d.before a0 Z = true) (ws : List Jvm.Cond) (oa : Addr) (vcs : Int32) (vf : Value) (ob : Addr) (kb : ClassId) (bb0 : Int32) (bb1 : Int32) (bb2 : Int32) (c0 : Int32) (c1 : Int32) (c2 : Int32) (h0 : Heap) (n0 : Nat) (Z0 : n0 ≤ h0.size) (Os : own_st Z h0 vcs vf) (Es : Exa Z h0 oa "java/lang/String") (Fc : Fld Z h0 oa "java/lang/String" "coder" "B" (.int (0 : Int32))) (Fv : Fld Z h0 oa "java/lang/String" "value" "[B" (.ref ob)) (Vb : Arv Z h0 ob kb .byte (3 : Int32) [(.int bb0), (.int bb1), (.int bb2)] (.int (0 : Int32))) (qbb0 : bb0.toInt % 256 = c0.toInt) (qbb1 : bb1.toInt % 256 = c1.toInt) (qbb2 : bb2.toInt % 256 = c2.toInt) :
    MetFree l (⟨"com/example/path_template_matcher/pathtemplatematcher/UriReference", "pathEnd", "(Ljava/lang/String;I)I"⟩ : MethodName) (head1 (Jvm.Cond.code (⟨"com/example/path_template_matcher/pathtemplatematcher/UriReference", "pathEnd", "(Ljava/lang/String;I)I"⟩ : MethodName) prog_36_method_4_code 3 (some .int) :: ws) ({ frames := 2, cells := 0, slots := 0, locals := 26 } : Room)) (fun a U => a = #[(.ref oa), (.int (3 : Int32))] ∧ Z.Warmed39 U.vm ∧ U.heap = h0) (fun _ _ _ _ _ => True) (fun _ U o U' => ∃ v L, o = .returned v ∧ Q_pe3_3 Z oa vcs vf ob kb bb0 bb1 bb2 c0 c1 c2 h0 n0 v U'.heap L ∧ FrameEnd U o U' L ({ frames := 2, cells := 0, slots := 0, locals := 26 } : Room).cells ({ frames := 2, cells := 0, slots := 0, locals := 26 } : Room).slots) := by
  refine MetFree.of_bodySF (plainFor_of_name pn_5) hisR ?_
  intro p e s m args below meth c s₁ Bd hml0 hP hK
  obtain ⟨rfl, hZ, hh⟩ := hP
  have hx := Bd.exec
  have hby := Bd.bytes
  have hml : c.maxLocals = 3 := hml0
  have hown : s.vm.findClass "com/example/path_template_matcher/pathtemplatematcher/UriReference" = some m.cls := findClass_of_methodNamed Bd.named
  have hnm := (name_of_methodNamed Bd.named Bd.method).1
  have X0 : Stand p l e ({ frames := 2, cells := 0, slots := 0, locals := 26 } : Room) s m #[(.ref oa), (.int (3 : Int32))] below meth c s₁ [] 0 0 := Stand.of_body Bd
  have e0 : s₁.heap = h0 := by rw [← hh, Bd.state]; rfl
  have N0 := Fr.nil n0
  have pre0 : ∀ t, Steps p.tables e below (s₁.setTop (mkF m 0 #[.val (.ref oa), .val (.int (3 : Int32)), .unset] [])) t → Steps p.tables e below (s₁.setTop (entryFrame m #[(.ref oa), (.int (3 : Int32))] 3)) t := fun t k => castTop (ef_rm_pe3_3 m oa) k
  obtain ⟨cq1, kq1, q1a, q1b, q1c⟩ := isOf hZ e0 Es
  obtain ⟨_, _, ⟨T1, L1, k1, n1⟩, -, X1, ⟨Lc1, hQ1, l1, y1, z1⟩, st1⟩ := X0.virtualBack hx (y := (⟨"java/lang/String", "length", "()I"⟩ : MethodName)) (z := (⟨"java/lang/String", "length", "()I"⟩ : MethodName)) hown (mvT hZ (hw _ (List.mem_of_getElem? (i := 31) rfl))) (mvT hZ (hw _ (List.mem_of_getElem? (i := 32) rfl))) (notFace_of_selects (args := #[]) (mvT hZ (hw _ (List.mem_of_getElem? (i := 34) rfl)))) (mvT hZ (hw _ (List.mem_of_getElem? (i := 34) rfl))) (mvT hZ (hw _ (List.mem_of_getElem? (i := 33) rfl))) (by decide) (backOf (W := 1) (rm_len3_0 l Z a0 hw [] oa vcs vf ob kb [(.int bb0), (.int bb1), (.int bb2)] h0 n0 Z0 Os Es Fc Fv Vb) hZ (hw _ (List.mem_of_getElem? (i := 35) rfl)) (hw _ (List.mem_of_getElem? (i := 7) rfl)) (by decide) (by decide)) q1a q1c (g := (mkF m 4 #[.val (.ref oa), .val (.int (3 : Int32)), .val (.int (3 : Int32))] [(.ref oa), (.int (3 : Int32))])) rfl (by rw [hml]; rfl) (Steps.refl _) (argsL := []) (rest := [(.int (3 : Int32))]) (lenOf pd_10 rfl) rfl (by show 2 * 0 + _ ≤ _; exact Nat.le_of_eq rfl) (hb hby d5_4) (fun _ _ => ⟨rfl, e0, (by decide : 0 + 0 ≤ _), (by decide : 0 + 0 ≤ _)⟩)
  dsimp only [Pt.U, Pt.locs, Pt.cells, Pt.slots] at X1 l1 y1 z1 st1 hQ1
  rw [l1, y1, z1] at X1
  obtain ⟨zl1, rfl, hzl1, N1q, e1⟩ := hQ1
  have N1 := Fr.app N0 N1q
  have pre2 : ∀ t, Steps p.tables e below (T1.setTop (mkF m 7 #[.val (.ref oa), .val (.int (3 : Int32)), .val (.int (3 : Int32))] [(.int zl1), (.int (3 : Int32))])) t → Steps p.tables e below (s₁.setTop (entryFrame m #[(.ref oa), (.int (3 : Int32))] 3)) t := fun t kt => by
    refine pre0 _ ?_
    refine XS.iloadN X0.here hx rfl (hb hby d5_0) rfl ?_
    refine XS.istoreN X0.here hx rfl (hb hby d5_1) rfl (l' := #[.val (.ref oa), .val (.int (3 : Int32)), .val (.int (3 : Int32))]) rfl ?_
    refine XS.iloadN X0.here hx rfl (hb hby d5_2) rfl ?_
    refine XS.aloadN X0.here hx rfl (hb hby d5_3) rfl rfl ?_
    refine st1.trans ?_
    exact kt
  subst hzl1
  have pre3 : ∀ t, Steps p.tables e below (T1.setTop (mkF m 7 #[.val (.ref oa), .val (.int (3 : Int32)), .val (.int (3 : Int32))] [(.int (3 : Int32)), (.int (3 : Int32))])) t → Steps p.tables e below (s₁.setTop (entryFrame m #[(.ref oa), (.int (3 : Int32))] 3)) t := pre2
  have hc7_4 : ¬ ((3 : Int) < (3 : Int)) := by decide
  obtain ⟨fs, hr, hrun, hended, hW, hsame⟩ := X1.leave (v := some (.int (3 : Int32))) (fun h => by rw [Bd.returns] at h; cases h)
  refine ⟨_, _, pre3 _ ?_, hrun, hended, _, _, rfl, ?_, ⟨_, rfl⟩, hW, hsame.mono (by decide) (by decide)⟩
  · refine XS.icmpYes X1.here hx rfl (pc0 := 7) (pc' := 36) rfl (hb hby d5_7) rfl (own_flt (a := (3 : Int32)) (b := (3 : Int32)) (by decide) (by decide) hc7_4).2.1 (by decide) (by decide) ?_
    refine XS.iloadN X1.here hx rfl (hb hby d5_36) rfl ?_
    show Steps p.tables e below (T1.setTop (mkF m 37 #[.val (.ref oa), .val (.int (3 : Int32)), .val (.int (3 : Int32))] [(.int (3 : Int32))])) _
    exact retI X1 hx Bd.returns (hb hby d5_37) hr
  · show Q_pe3_3 Z _ _ _ _ _ _ _ _ _ _ _ h0 n0 _ T1.heap _
    rw [e1]
    exact ⟨_, rfl, by decide, N1, rfl⟩
theorem ef_rm_len4_0 (m : MethodId) (x0 : Addr) : entryFrame m #[(.ref x0)] 1 = mkF m 0 #[.val (.ref x0)] [] := by first | (simp [entryFrame, mkF, argsToLocals, Value.category]; done) | rfl
def Q_len4_0 (Z : State) (oa : Addr) (vcs : Int32) (vf : Value) (ob : Addr) (kb : ClassId) (vs : List Value) (h0 : Heap) (n0 : Nat) (v : Option Value) (h : Heap) (L : List Loc) : Prop := ∃ z : Int32, v = some (.int z) ∧ (z = (4 : Int32)) ∧ Fr n0 L ∧ h = h0
set_option maxRecDepth 65536 in
set_option maxHeartbeats 40000000 in
theorem rm_len4_0 (l : Launch) (Z : State) (a0 : Array Value) (hw : ∀ d ∈ tables_1, d.before a0 Z = true) (ws : List Jvm.Cond) (oa : Addr) (vcs : Int32) (vf : Value) (ob : Addr) (kb : ClassId) (vs : List Value) (h0 : Heap) (n0 : Nat) (Z0 : n0 ≤ h0.size) (Os : own_st Z h0 vcs vf) (Es : Exa Z h0 oa "java/lang/String") (Fc : Fld Z h0 oa "java/lang/String" "coder" "B" (.int (0 : Int32))) (Fv : Fld Z h0 oa "java/lang/String" "value" "[B" (.ref ob)) (Vb : Arv Z h0 ob kb .byte (4 : Int32) vs (.int (0 : Int32))) :
    MetFree l (⟨"java/lang/String", "length", "()I"⟩ : MethodName) (head1 (Jvm.Cond.code (⟨"java/lang/String", "length", "()I"⟩ : MethodName) jdk_42_method_54_code 1 (some .int) :: ws) ({ frames := 1, cells := 0, slots := 0, locals := 13 } : Room)) (fun a U => a = #[(.ref oa)] ∧ Z.Warmed39 U.vm ∧ U.heap = h0) (fun _ _ _ _ _ => True) (fun _ U o U' => ∃ v L, o = .returned v ∧ Q_len4_0 Z oa vcs vf ob kb vs h0 n0 v U'.heap L ∧ FrameEnd U o U' L ({ frames := 1, cells := 0, slots := 0, locals := 13 } : Room).cells ({ frames := 1, cells := 0, slots := 0, locals := 13 } : Room).slots) := by
  refine MetFree.of_bodySF (plainFor_of_name pn_1) hisR ?_
  intro p e s m args below meth c s₁ Bd hml0 hP hK
  obtain ⟨rfl, hZ, hh⟩ := hP
  have hx := Bd.exec
  have hby := Bd.bytes
  have hml : c.maxLocals = 1 := hml0
  have hown : s.vm.findClass "java/lang/String" = some m.cls := findClass_of_methodNamed Bd.named
  have hnm := (name_of_methodNamed Bd.named Bd.method).1
  have X0 : Stand p l e ({ frames := 1, cells := 0, slots := 0, locals := 13 } : Room) s m #[(.ref oa)] below meth c s₁ [] 0 0 := Stand.of_body Bd
  have e0 : s₁.heap = h0 := by rw [← hh, Bd.state]; rfl
  have N0 := Fr.nil n0
  have pre0 : ∀ t, Steps p.tables e below (s₁.setTop (mkF m 0 #[.val (.ref oa)] [])) t → Steps p.tables e below (s₁.setTop (entryFrame m #[(.ref oa)] 1)) t := fun t k => castTop (ef_rm_len4_0 m oa) k
  obtain ⟨T1, X1, e1, st1⟩ := getF X0 hx hZ hown (host := "") (Or.inl (hw _ (List.mem_of_getElem? (i := 25) rfl))) Via.refl e0 Fv (g := (mkF m 1 #[.val (.ref oa)] [(.ref oa)])) rfl rfl (hb hby d6_1)
  obtain ⟨cl2, Ar2, q2, S2, M2, H2, G2⟩ := id Vb
  obtain ⟨cq3, kq3, q3a, q3b, q3c⟩ := isOf hZ e1 Es
  obtain ⟨_, _, ⟨T3, L3, k3, n3⟩, -, X3, ⟨Lc3, hQ3, l3, y3, z3⟩, st3⟩ := X1.virtualBack hx (y := (⟨"java/lang/String", "coder", "()B"⟩ : MethodName)) (z := (⟨"java/lang/String", "coder", "()B"⟩ : MethodName)) hown (mvT hZ (hw _ (List.mem_of_getElem? (i := 36) rfl))) (mvT hZ (hw _ (List.mem_of_getElem? (i := 37) rfl))) (notFace_of_selects (args := #[]) (mvT hZ (hw _ (List.mem_of_getElem? (i := 39) rfl)))) (mvT hZ (hw _ (List.mem_of_getElem? (i := 39) rfl))) (mvT hZ (hw _ (List.mem_of_getElem? (i := 38) rfl))) (by decide) (backOf (W := 1) (rm_cod0 l Z a0 hw [] oa vcs vf h0 n0 Z0 Os Fc) hZ (hw _ (List.mem_of_getElem? (i := 40) rfl)) (hw _ (List.mem_of_getElem? (i := 7) rfl)) (by decide) (by decide)) q3a q3c (g := (mkF m 6 #[.val (.ref oa)] [(.ref oa), (.int (4 : Int32))])) rfl (by rw [hml]; rfl) (Steps.refl _) (argsL := []) (rest := [(.int (4 : Int32))]) (lenOf pd_9 rfl) rfl (by show 2 * 0 + _ ≤ _; exact Nat.le_of_eq rfl) (hb hby d6_6) (fun _ _ => ⟨rfl, e1, (by decide : 0 + 0 ≤ _), (by decide : 0 + 0 ≤ _)⟩)
  dsimp only [Pt.U, Pt.locs, Pt.cells, Pt.slots] at X3 l3 y3 z3 st3 hQ3
  rw [l3, y3, z3] at X3
  obtain ⟨zc, rfl, hzc, N3q, e3⟩ := hQ3
  have N3 := Fr.app N0 N3q
  have pre4 : ∀ t, Steps p.tables e below (T3.setTop (mkF m 9 #[.val (.ref oa)] [(.int zc), (.int (4 : Int32))])) t → Steps p.tables e below (s₁.setTop (entryFrame m #[(.ref oa)] 1)) t := fun t kt => by
    refine pre0 _ ?_
    refine XS.aloadN X0.here hx rfl (hb hby d6_0) rfl rfl ?_
    refine st1 _ ?_
    refine X1.arraylength hx (by rw [e1]; exact Ar2.1) (State.isArrayOf_alike hZ.alike Ar2.2.1) (g := (mkF m 4 #[.val (.ref oa)] [(.ref ob)])) rfl rfl (hb hby d6_4) _ ?_
    rw [len_of S2 M2]
    refine XS.aloadN X1.here hx rfl (hb hby d6_5) rfl rfl ?_
    refine st3.trans ?_
    exact kt
  subst hzc
  have pre5 : ∀ t, Steps p.tables e below (T3.setTop (mkF m 9 #[.val (.ref oa)] [(.int (0 : Int32)), (.int (4 : Int32))])) t → Steps p.tables e below (s₁.setTop (entryFrame m #[(.ref oa)] 1)) t := pre4
  obtain ⟨fs, hr, hrun, hended, hW, hsame⟩ := X3.leave (v := some (.int (4 : Int32))) (fun h => by rw [Bd.returns] at h; cases h)
  refine ⟨_, _, pre5 _ ?_, hrun, hended, _, _, rfl, ?_, ⟨_, rfl⟩, hW, hsame.mono (by decide) (by decide)⟩
  · refine XS.ishr X3.here hx rfl (hb hby d6_9) rfl ?_
    exact retI X3 hx Bd.returns (hb hby d6_10) hr
  · show Q_len4_0 Z _ _ _ _ _ _ h0 n0 _ T3.heap _
    rw [e3]
    exact ⟨_, rfl, rfl, N3, rfl⟩
theorem ef_rm_pe4_0 (m : MethodId) (x0 : Addr) : entryFrame m #[(.ref x0), (.int (0 : Int32))] 3 = mkF m 0 #[.val (.ref x0), .val (.int (0 : Int32)), .unset] [] := by first | (simp [entryFrame, mkF, argsToLocals, Value.category]; done) | rfl
def Q_pe4_0 (Z : State) (oa : Addr) (vcs : Int32) (vf : Value) (ob : Addr) (kb : ClassId) (bb0 : Int32) (bb1 : Int32) (bb2 : Int32) (bb3 : Int32) (c0 : Int32) (c1 : Int32) (c2 : Int32) (c3 : Int32) (h0 : Heap) (n0 : Nat) (v : Option Value) (h : Heap) (L : List Loc) : Prop := ∃ z : Int32, v = some (.int z) ∧ (z.toInt = (if own_stop c0.toInt then (0 : Int) else (if own_stop c1.toInt then (1 : Int) else (if own_stop c2.toInt then (2 : Int) else (if own_stop c3.toInt then (3 : Int) else (4 : Int)))))) ∧ Fr n0 L ∧ h = h0
set_option maxRecDepth 65536 in
set_option maxHeartbeats 40000000 in
theorem rm_pe4_0 (l : Launch) (Z : State) (a0 : Array Value) (hw : ∀ d ∈ tables_1, d.before a0 Z = true) (ws : List Jvm.Cond) (oa : Addr) (vcs : Int32) (vf : Value) (ob : Addr) (kb : ClassId) (bb0 : Int32) (bb1 : Int32) (bb2 : Int32) (bb3 : Int32) (c0 : Int32) (c1 : Int32) (c2 : Int32) (c3 : Int32) (h0 : Heap) (n0 : Nat) (Z0 : n0 ≤ h0.size) (Os : own_st Z h0 vcs vf) (Es : Exa Z h0 oa "java/lang/String") (Fc : Fld Z h0 oa "java/lang/String" "coder" "B" (.int (0 : Int32))) (Fv : Fld Z h0 oa "java/lang/String" "value" "[B" (.ref ob)) (Vb : Arv Z h0 ob kb .byte (4 : Int32) [(.int bb0), (.int bb1), (.int bb2), (.int bb3)] (.int (0 : Int32))) (qbb0 : bb0.toInt % 256 = c0.toInt) (qbb1 : bb1.toInt % 256 = c1.toInt) (qbb2 : bb2.toInt % 256 = c2.toInt) (qbb3 : bb3.toInt % 256 = c3.toInt) :
    MetFree l (⟨"com/example/path_template_matcher/pathtemplatematcher/UriReference", "pathEnd", "(Ljava/lang/String;I)I"⟩ : MethodName) (head1 (Jvm.Cond.code (⟨"com/example/path_template_matcher/pathtemplatematcher/UriReference", "pathEnd", "(Ljava/lang/String;I)I"⟩ : MethodName) prog_36_method_4_code 3 (some .int) :: ws) ({ frames := 4, cells := 0, slots := 0, locals := 53 } : Room)) (fun a U => a = #[(.ref oa), (.int (0 : Int32))] ∧ Z.Warmed39 U.vm ∧ U.heap = h0) (fun _ _ _ _ _ => True) (fun _ U o U' => ∃ v L, o = .returned v ∧ Q_pe4_0 Z oa vcs vf ob kb bb0 bb1 bb2 bb3 c0 c1 c2 c3 h0 n0 v U'.heap L ∧ FrameEnd U o U' L ({ frames := 4, cells := 0, slots := 0, locals := 53 } : Room).cells ({ frames := 4, cells := 0, slots := 0, locals := 53 } : Room).slots) := by
  refine MetFree.of_bodySF (plainFor_of_name pn_5) hisR ?_
  intro p e s m args below meth c s₁ Bd hml0 hP hK
  obtain ⟨rfl, hZ, hh⟩ := hP
  have hx := Bd.exec
  have hby := Bd.bytes
  have hml : c.maxLocals = 3 := hml0
  have hown : s.vm.findClass "com/example/path_template_matcher/pathtemplatematcher/UriReference" = some m.cls := findClass_of_methodNamed Bd.named
  have hnm := (name_of_methodNamed Bd.named Bd.method).1
  have X0 : Stand p l e ({ frames := 4, cells := 0, slots := 0, locals := 53 } : Room) s m #[(.ref oa), (.int (0 : Int32))] below meth c s₁ [] 0 0 := Stand.of_body Bd
  have e0 : s₁.heap = h0 := by rw [← hh, Bd.state]; rfl
  have N0 := Fr.nil n0
  have pre0 : ∀ t, Steps p.tables e below (s₁.setTop (mkF m 0 #[.val (.ref oa), .val (.int (0 : Int32)), .unset] [])) t → Steps p.tables e below (s₁.setTop (entryFrame m #[(.ref oa), (.int (0 : Int32))] 3)) t := fun t k => castTop (ef_rm_pe4_0 m oa) k
  obtain ⟨cq1, kq1, q1a, q1b, q1c⟩ := isOf hZ e0 Es
  obtain ⟨_, _, ⟨T1, L1, k1, n1⟩, -, X1, ⟨Lc1, hQ1, l1, y1, z1⟩, st1⟩ := X0.virtualBack hx (y := (⟨"java/lang/String", "length", "()I"⟩ : MethodName)) (z := (⟨"java/lang/String", "length", "()I"⟩ : MethodName)) hown (mvT hZ (hw _ (List.mem_of_getElem? (i := 31) rfl))) (mvT hZ (hw _ (List.mem_of_getElem? (i := 32) rfl))) (notFace_of_selects (args := #[]) (mvT hZ (hw _ (List.mem_of_getElem? (i := 34) rfl)))) (mvT hZ (hw _ (List.mem_of_getElem? (i := 34) rfl))) (mvT hZ (hw _ (List.mem_of_getElem? (i := 33) rfl))) (by decide) (backOf (W := 1) (rm_len4_0 l Z a0 hw [] oa vcs vf ob kb [(.int bb0), (.int bb1), (.int bb2), (.int bb3)] h0 n0 Z0 Os Es Fc Fv Vb) hZ (hw _ (List.mem_of_getElem? (i := 35) rfl)) (hw _ (List.mem_of_getElem? (i := 7) rfl)) (by decide) (by decide)) q1a q1c (g := (mkF m 4 #[.val (.ref oa), .val (.int (0 : Int32)), .val (.int (0 : Int32))] [(.ref oa), (.int (0 : Int32))])) rfl (by rw [hml]; rfl) (Steps.refl _) (argsL := []) (rest := [(.int (0 : Int32))]) (lenOf pd_10 rfl) rfl (by show 2 * 0 + _ ≤ _; exact Nat.le_of_eq rfl) (hb hby d5_4) (fun _ _ => ⟨rfl, e0, (by decide : 0 + 0 ≤ _), (by decide : 0 + 0 ≤ _)⟩)
  dsimp only [Pt.U, Pt.locs, Pt.cells, Pt.slots] at X1 l1 y1 z1 st1 hQ1
  rw [l1, y1, z1] at X1
  obtain ⟨zl1, rfl, hzl1, N1q, e1⟩ := hQ1
  have N1 := Fr.app N0 N1q
  have pre2 : ∀ t, Steps p.tables e below (T1.setTop (mkF m 7 #[.val (.ref oa), .val (.int (0 : Int32)), .val (.int (0 : Int32))] [(.int zl1), (.int (0 : Int32))])) t → Steps p.tables e below (s₁.setTop (entryFrame m #[(.ref oa), (.int (0 : Int32))] 3)) t := fun t kt => by
    refine pre0 _ ?_
    refine XS.iloadN X0.here hx rfl (hb hby d5_0) rfl ?_
    refine XS.istoreN X0.here hx rfl (hb hby d5_1) rfl (l' := #[.val (.ref oa), .val (.int (0 : Int32)), .val (.int (0 : Int32))]) rfl ?_
    refine XS.iloadN X0.here hx rfl (hb hby d5_2) rfl ?_
    refine XS.aloadN X0.here hx rfl (hb hby d5_3) rfl rfl ?_
    refine st1.trans ?_
    exact kt
  subst hzl1
  have pre3 : ∀ t, Steps p.tables e below (T1.setTop (mkF m 7 #[.val (.ref oa), .val (.int (0 : Int32)), .val (.int (0 : Int32))] [(.int (4 : Int32)), (.int (0 : Int32))])) t → Steps p.tables e below (s₁.setTop (entryFrame m #[(.ref oa), (.int (0 : Int32))] 3)) t := pre2
  have hc7_4 : (0 : Int) < (4 : Int) := by decide
  obtain ⟨cq5, kq5, q5a, q5b, q5c⟩ := isOf hZ e1 Es
  obtain ⟨_, _, ⟨T5, L5, k5, n5⟩, -, X5, ⟨Lc5, hQ5, l5, y5, z5⟩, st5⟩ := X1.virtualBack hx (y := (⟨"java/lang/String", "charAt", "(I)C"⟩ : MethodName)) (z := (⟨"java/lang/String", "charAt", "(I)C"⟩ : MethodName)) hown (mvT hZ (hw _ (List.mem_of_getElem? (i := 55) rfl))) (mvT hZ (hw _ (List.mem_of_getElem? (i := 56) rfl))) (notFace_of_selects (args := #[]) (mvT hZ (hw _ (List.mem_of_getElem? (i := 58) rfl)))) (mvT hZ (hw _ (List.mem_of_getElem? (i := 58) rfl))) (mvT hZ (hw _ (List.mem_of_getElem? (i := 57) rfl))) (by decide) (backOf (W := 0) (rm_ch1 l Z a0 hw [] oa (0 : Int32) vcs vf ob kb (4 : Int32) [(.int bb0), (.int bb1), (.int bb2), (.int bb3)] bb0 h0 n0 Z0 Os Es Fc Fv Vb (by decide) (by decide) rfl) hZ (hw _ (List.mem_of_getElem? (i := 59) rfl)) (hw _ (List.mem_of_getElem? (i := 7) rfl)) (by decide) (by decide)) q5a q5c (g := (mkF m 12 #[.val (.ref oa), .val (.int (0 : Int32)), .val (.int (0 : Int32))] [(.int (0 : Int32)), (.ref oa)])) rfl (by rw [hml]; rfl) (Steps.refl _) (argsL := [(.int (0 : Int32))]) (rest := []) (lenOf pd_11 rfl) rfl (by show 2 * 0 + _ ≤ _; exact Nat.le_of_eq rfl) (hb hby d5_12) (fun _ _ => ⟨rfl, e1, (by decide : 0 + 0 ≤ _), (by decide : 0 + 0 ≤ _)⟩)
  dsimp only [Pt.U, Pt.locs, Pt.cells, Pt.slots] at X5 l5 y5 z5 st5 hQ5
  rw [l5, y5, z5] at X5
  obtain ⟨ch12_0, rfl, hch12_0, N5q, e5⟩ := hQ5
  have N5 := Fr.app N1 N5q
  have pre7 : ∀ t, Steps p.tables e below (T5.setTop (mkF m 17 #[.val (.ref oa), .val (.int (0 : Int32)), .val (.int (0 : Int32))] [(.int (63 : Int32)), (.int ch12_0)])) t → Steps p.tables e below (s₁.setTop (entryFrame m #[(.ref oa), (.int (0 : Int32))] 3)) t := fun t kt => by
    refine pre3 _ ?_
    refine XS.icmpNo X1.here hx rfl (hb hby d5_7) rfl (own_tlt (a := (0 : Int32)) (b := (4 : Int32)) (by decide) (by decide) hc7_4).2.1 ?_
    refine XS.aloadN X1.here hx rfl (hb hby d5_10) rfl rfl ?_
    show Steps p.tables e below (T1.setTop (mkF m 11 #[.val (.ref oa), .val (.int (0 : Int32)), .val (.int (0 : Int32))] [(.ref oa)])) _
    refine XS.iloadN X1.here hx rfl (hb hby d5_11) rfl ?_
    refine st5.trans ?_
    refine XS.bipush X5.here hx rfl (hb hby d5_15) ?_
    exact kt
  by_cases hc17_6 : ch12_0.toInt = (63 : Int)
  · obtain ⟨fs, hr, hrun, hended, hW, hsame⟩ := X5.leave (v := some (.int (0 : Int32))) (fun h => by rw [Bd.returns] at h; cases h)
    refine ⟨_, _, pre7 _ ?_, hrun, hended, _, _, rfl, ?_, ⟨_, rfl⟩, hW, hsame.mono (by decide) (by decide)⟩
    · show Steps p.tables e below (T5.setTop (mkF m 17 #[.val (.ref oa), .val (.int (0 : Int32)), .val (.int (0 : Int32))] [(.int (63 : Int32)), (.int ch12_0)])) _
      refine XS.icmpYes X5.here hx rfl (pc0 := 17) (pc' := 36) rfl (hb hby d5_17) rfl (own_teq (a := ch12_0) (b := (63 : Int32)) rfl (by decide) hc17_6).1 (by decide) (by decide) ?_
      refine XS.iloadN X5.here hx rfl (hb hby d5_36) rfl ?_
      exact retI X5 hx Bd.returns (hb hby d5_37) hr
    · show Q_pe4_0 Z _ _ _ _ _ _ _ _ _ _ _ _ _ h0 n0 _ T5.heap _
      rw [e5]
      exact ⟨_, rfl, by have s0 : own_stop c0.toInt := (by unfold own_stop; omega); rw [if_pos s0]; decide, N5, rfl⟩
  · obtain ⟨cq8, kq8, q8a, q8b, q8c⟩ := isOf hZ e5 Es
    obtain ⟨_, _, ⟨T8, L8, k8, n8⟩, -, X8, ⟨Lc8, hQ8, l8, y8, z8⟩, st8⟩ := X5.virtualBack hx (y := (⟨"java/lang/String", "charAt", "(I)C"⟩ : MethodName)) (z := (⟨"java/lang/String", "charAt", "(I)C"⟩ : MethodName)) hown (mvT hZ (hw _ (List.mem_of_getElem? (i := 55) rfl))) (mvT hZ (hw _ (List.mem_of_getElem? (i := 56) rfl))) (notFace_of_selects (args := #[]) (mvT hZ (hw _ (List.mem_of_getElem? (i := 58) rfl)))) (mvT hZ (hw _ (List.mem_of_getElem? (i := 58) rfl))) (mvT hZ (hw _ (List.mem_of_getElem? (i := 57) rfl))) (by decide) (backOf (W := 0) (rm_ch1 l Z a0 hw [] oa (0 : Int32) vcs vf ob kb (4 : Int32) [(.int bb0), (.int bb1), (.int bb2), (.int bb3)] bb0 h0 n0 Z0 Os Es Fc Fv Vb (by decide) (by decide) rfl) hZ (hw _ (List.mem_of_getElem? (i := 59) rfl)) (hw _ (List.mem_of_getElem? (i := 7) rfl)) (by decide) (by decide)) q8a q8c (g := (mkF m 22 #[.val (.ref oa), .val (.int (0 : Int32)), .val (.int (0 : Int32))] [(.int (0 : Int32)), (.ref oa)])) rfl (by rw [hml]; rfl) (Steps.refl _) (argsL := [(.int (0 : Int32))]) (rest := []) (lenOf pd_11 rfl) rfl (by show 2 * 0 + _ ≤ _; exact Nat.le_of_eq rfl) (hb hby d5_22) (fun _ _ => ⟨rfl, e5, (by decide : 0 + 0 ≤ _), (by decide : 0 + 0 ≤ _)⟩)
    dsimp only [Pt.U, Pt.locs, Pt.cells, Pt.slots] at X8 l8 y8 z8 st8 hQ8
    rw [l8, y8, z8] at X8
    obtain ⟨ch22_0, rfl, hch22_0, N8q, e8⟩ := hQ8
    have N8 := Fr.app N5 N8q
    have pre10 : ∀ t, Steps p.tables e below (T8.setTop (mkF m 27 #[.val (.ref oa), .val (.int (0 : Int32)), .val (.int (0 : Int32))] [(.int (35 : Int32)), (.int ch22_0)])) t → Steps p.tables e below (s₁.setTop (entryFrame m #[(.ref oa), (.int (0 : Int32))] 3)) t := fun t kt => by
      refine pre7 _ ?_
      show Steps p.tables e below (T5.setTop (mkF m 17 #[.val (.ref oa), .val (.int (0 : Int32)), .val (.int (0 : Int32))] [(.int (63 : Int32)), (.int ch12_0)])) _
      refine XS.icmpNo X5.here hx rfl (hb hby d5_17) rfl (own_feq (a := ch12_0) (b := (63 : Int32)) rfl (by decide) hc17_6).1 ?_
      refine XS.aloadN X5.here hx rfl (hb hby d5_20) rfl rfl ?_
      refine XS.iloadN X5.here hx rfl (hb hby d5_21) rfl ?_
      refine st8.trans ?_
      show Steps p.tables e below (T8.setTop (mkF m 25 #[.val (.ref oa), .val (.int (0 : Int32)), .val (.int (0 : Int32))] [(.int ch22_0)])) _
      refine XS.bipush X8.here hx rfl (hb hby d5_25) ?_
      exact kt
    by_cases hc27_9 : ch22_0.toInt = (35 : Int)
    · obtain ⟨fs, hr, hrun, hended, hW, hsame⟩ := X8.leave (v := some (.int (0 : Int32))) (fun h => by rw [Bd.returns] at h; cases h)
      refine ⟨_, _, pre10 _ ?_, hrun, hended, _, _, rfl, ?_, ⟨_, rfl⟩, hW, hsame.mono (by decide) (by decide)⟩
      · show Steps p.tables e below (T8.setTop (mkF m 27 #[.val (.ref oa), .val (.int (0 : Int32)), .val (.int (0 : Int32))] [(.int (35 : Int32)), (.int ch22_0)])) _
        refine XS.icmpYes X8.here hx rfl (pc0 := 27) (pc' := 36) rfl (hb hby d5_27) rfl (own_teq (a := ch22_0) (b := (35 : Int32)) rfl (by decide) hc27_9).1 (by decide) (by decide) ?_
        refine XS.iloadN X8.here hx rfl (hb hby d5_36) rfl ?_
        exact retI X8 hx Bd.returns (hb hby d5_37) hr
      · show Q_pe4_0 Z _ _ _ _ _ _ _ _ _ _ _ _ _ h0 n0 _ T8.heap _
        rw [e8]
        exact ⟨_, rfl, by have s0 : own_stop c0.toInt := (by unfold own_stop; omega); rw [if_pos s0]; decide, N8, rfl⟩
    · obtain ⟨cq11, kq11, q11a, q11b, q11c⟩ := isOf hZ e8 Es
      obtain ⟨_, _, ⟨T11, L11, k11, n11⟩, -, X11, ⟨Lc11, hQ11, l11, y11, z11⟩, st11⟩ := X8.virtualBack hx (y := (⟨"java/lang/String", "length", "()I"⟩ : MethodName)) (z := (⟨"java/lang/String", "length", "()I"⟩ : MethodName)) hown (mvT hZ (hw _ (List.mem_of_getElem? (i := 31) rfl))) (mvT hZ (hw _ (List.mem_of_getElem? (i := 32) rfl))) (notFace_of_selects (args := #[]) (mvT hZ (hw _ (List.mem_of_getElem? (i := 34) rfl)))) (mvT hZ (hw _ (List.mem_of_getElem? (i := 34) rfl))) (mvT hZ (hw _ (List.mem_of_getElem? (i := 33) rfl))) (by decide) (backOf (W := 1) (rm_len4_0 l Z a0 hw [] oa vcs vf ob kb [(.int bb0), (.int bb1), (.int bb2), (.int bb3)] h0 n0 Z0 Os Es Fc Fv Vb) hZ (hw _ (List.mem_of_getElem? (i := 35) rfl)) (hw _ (List.mem_of_getElem? (i := 7) rfl)) (by decide) (by decide)) q11a q11c (g := (mkF m 4 #[.val (.ref oa), .val (.int (0 : Int32)), .val (.int (1 : Int32))] [(.ref oa), (.int (1 : Int32))])) rfl (by rw [hml]; rfl) (Steps.refl _) (argsL := []) (rest := [(.int (1 : Int32))]) (lenOf pd_10 rfl) rfl (by show 2 * 0 + _ ≤ _; exact Nat.le_of_eq rfl) (hb hby d5_4) (fun _ _ => ⟨rfl, e8, (by decide : 0 + 0 ≤ _), (by decide : 0 + 0 ≤ _)⟩)
      dsimp only [Pt.U, Pt.locs, Pt.cells, Pt.slots] at X11 l11 y11 z11 st11 hQ11
      rw [l11, y11, z11] at X11
      obtain ⟨zl2, rfl, hzl2, N11q, e11⟩ := hQ11
      have N11 := Fr.app N8 N11q
      have pre12 : ∀ t, Steps p.tables e below (T11.setTop (mkF m 7 #[.val (.ref oa), .val (.int (0 : Int32)), .val (.int (1 : Int32))] [(.int zl2), (.int (1 : Int32))])) t → Steps p.tables e below (s₁.setTop (entryFrame m #[(.ref oa), (.int (0 : Int32))] 3)) t := fun t kt => by
        refine pre10 _ ?_
        show Steps p.tables e below (T8.setTop (mkF m 27 #[.val (.ref oa), .val (.int (0 : Int32)), .val (.int (0 : Int32))] [(.int (35 : Int32)), (.int ch22_0)])) _
        refine XS.icmpNo X8.here hx rfl (hb hby d5_27) rfl (own_feq (a := ch22_0) (b := (35 : Int32)) rfl (by decide) hc27_9).1 ?_
        refine XS.iinc X8.here hx rfl (hb hby d5_30) rfl (l' := #[.val (.ref oa), .val (.int (0 : Int32)), .val (.int (1 : Int32))]) rfl ?_
        refine XS.goto X8.here hx rfl (pc0 := 33) (pc' := 2) rfl (hb hby d5_33) (by decide) (by decide) ?_
        refine XS.iloadN X8.here hx rfl (hb hby d5_2) rfl ?_
        refine XS.aloadN X8.here hx rfl (hb hby d5_3) rfl rfl ?_
        refine st11.trans ?_
        exact kt
      subst hzl2
      have pre13 : ∀ t, Steps p.tables e below (T11.setTop (mkF m 7 #[.val (.ref oa), .val (.int (0 : Int32)), .val (.int (1 : Int32))] [(.int (4 : Int32)), (.int (1 : Int32))])) t → Steps p.tables e below (s₁.setTop (entryFrame m #[(.ref oa), (.int (0 : Int32))] 3)) t := pre12
      have hc7_14 : (1 : Int) < (4 : Int) := by decide
      obtain ⟨cq15, kq15, q15a, q15b, q15c⟩ := isOf hZ e11 Es
      obtain ⟨_, _, ⟨T15, L15, k15, n15⟩, -, X15, ⟨Lc15, hQ15, l15, y15, z15⟩, st15⟩ := X11.virtualBack hx (y := (⟨"java/lang/String", "charAt", "(I)C"⟩ : MethodName)) (z := (⟨"java/lang/String", "charAt", "(I)C"⟩ : MethodName)) hown (mvT hZ (hw _ (List.mem_of_getElem? (i := 55) rfl))) (mvT hZ (hw _ (List.mem_of_getElem? (i := 56) rfl))) (notFace_of_selects (args := #[]) (mvT hZ (hw _ (List.mem_of_getElem? (i := 58) rfl)))) (mvT hZ (hw _ (List.mem_of_getElem? (i := 58) rfl))) (mvT hZ (hw _ (List.mem_of_getElem? (i := 57) rfl))) (by decide) (backOf (W := 0) (rm_ch1 l Z a0 hw [] oa (1 : Int32) vcs vf ob kb (4 : Int32) [(.int bb0), (.int bb1), (.int bb2), (.int bb3)] bb1 h0 n0 Z0 Os Es Fc Fv Vb (by decide) (by decide) rfl) hZ (hw _ (List.mem_of_getElem? (i := 59) rfl)) (hw _ (List.mem_of_getElem? (i := 7) rfl)) (by decide) (by decide)) q15a q15c (g := (mkF m 12 #[.val (.ref oa), .val (.int (0 : Int32)), .val (.int (1 : Int32))] [(.int (1 : Int32)), (.ref oa)])) rfl (by rw [hml]; rfl) (Steps.refl _) (argsL := [(.int (1 : Int32))]) (rest := []) (lenOf pd_11 rfl) rfl (by show 2 * 0 + _ ≤ _; exact Nat.le_of_eq rfl) (hb hby d5_12) (fun _ _ => ⟨rfl, e11, (by decide : 0 + 0 ≤ _), (by decide : 0 + 0 ≤ _)⟩)
      dsimp only [Pt.U, Pt.locs, Pt.cells, Pt.slots] at X15 l15 y15 z15 st15 hQ15
      rw [l15, y15, z15] at X15
      obtain ⟨ch12_1, rfl, hch12_1, N15q, e15⟩ := hQ15
      have N15 := Fr.app N11 N15q
      have pre17 : ∀ t, Steps p.tables e below (T15.setTop (mkF m 17 #[.val (.ref oa), .val (.int (0 : Int32)), .val (.int (1 : Int32))] [(.int (63 : Int32)), (.int ch12_1)])) t → Steps p.tables e below (s₁.setTop (entryFrame m #[(.ref oa), (.int (0 : Int32))] 3)) t := fun t kt => by
        refine pre13 _ ?_
        show Steps p.tables e below (T11.setTop (mkF m 7 #[.val (.ref oa), .val (.int (0 : Int32)), .val (.int (1 : Int32))] [(.int (4 : Int32)), (.int (1 : Int32))])) _
        refine XS.icmpNo X11.here hx rfl (hb hby d5_7) rfl (own_tlt (a := (1 : Int32)) (b := (4 : Int32)) (by decide) (by decide) hc7_14).2.1 ?_
        refine XS.aloadN X11.here hx rfl (hb hby d5_10) rfl rfl ?_
        refine XS.iloadN X11.here hx rfl (hb hby d5_11) rfl ?_
        refine st15.trans ?_
        refine XS.bipush X15.here hx rfl (hb hby d5_15) ?_
        exact kt
      by_cases hc17_16 : ch12_1.toInt = (63 : Int)
      · obtain ⟨fs, hr, hrun, hended, hW, hsame⟩ := X15.leave (v := some (.int (1 : Int32))) (fun h => by rw [Bd.returns] at h; cases h)
        refine ⟨_, _, pre17 _ ?_, hrun, hended, _, _, rfl, ?_, ⟨_, rfl⟩, hW, hsame.mono (by decide) (by decide)⟩
        · show Steps p.tables e below (T15.setTop (mkF m 17 #[.val (.ref oa), .val (.int (0 : Int32)), .val (.int (1 : Int32))] [(.int (63 : Int32)), (.int ch12_1)])) _
          refine XS.icmpYes X15.here hx rfl (pc0 := 17) (pc' := 36) rfl (hb hby d5_17) rfl (own_teq (a := ch12_1) (b := (63 : Int32)) rfl (by decide) hc17_16).1 (by decide) (by decide) ?_
          refine XS.iloadN X15.here hx rfl (hb hby d5_36) rfl ?_
          show Steps p.tables e below (T15.setTop (mkF m 37 #[.val (.ref oa), .val (.int (0 : Int32)), .val (.int (1 : Int32))] [(.int (1 : Int32))])) _
          exact retI X15 hx Bd.returns (hb hby d5_37) hr
        · show Q_pe4_0 Z _ _ _ _ _ _ _ _ _ _ _ _ _ h0 n0 _ T15.heap _
          rw [e15]
          exact ⟨_, rfl, by have s0 : ¬ own_stop c0.toInt := (by unfold own_stop; omega); have s1 : own_stop c1.toInt := (by unfold own_stop; omega); rw [if_neg s0, if_pos s1]; decide, N15, rfl⟩
      · obtain ⟨cq18, kq18, q18a, q18b, q18c⟩ := isOf hZ e15 Es
        obtain ⟨_, _, ⟨T18, L18, k18, n18⟩, -, X18, ⟨Lc18, hQ18, l18, y18, z18⟩, st18⟩ := X15.virtualBack hx (y := (⟨"java/lang/String", "charAt", "(I)C"⟩ : MethodName)) (z := (⟨"java/lang/String", "charAt", "(I)C"⟩ : MethodName)) hown (mvT hZ (hw _ (List.mem_of_getElem? (i := 55) rfl))) (mvT hZ (hw _ (List.mem_of_getElem? (i := 56) rfl))) (notFace_of_selects (args := #[]) (mvT hZ (hw _ (List.mem_of_getElem? (i := 58) rfl)))) (mvT hZ (hw _ (List.mem_of_getElem? (i := 58) rfl))) (mvT hZ (hw _ (List.mem_of_getElem? (i := 57) rfl))) (by decide) (backOf (W := 0) (rm_ch1 l Z a0 hw [] oa (1 : Int32) vcs vf ob kb (4 : Int32) [(.int bb0), (.int bb1), (.int bb2), (.int bb3)] bb1 h0 n0 Z0 Os Es Fc Fv Vb (by decide) (by decide) rfl) hZ (hw _ (List.mem_of_getElem? (i := 59) rfl)) (hw _ (List.mem_of_getElem? (i := 7) rfl)) (by decide) (by decide)) q18a q18c (g := (mkF m 22 #[.val (.ref oa), .val (.int (0 : Int32)), .val (.int (1 : Int32))] [(.int (1 : Int32)), (.ref oa)])) rfl (by rw [hml]; rfl) (Steps.refl _) (argsL := [(.int (1 : Int32))]) (rest := []) (lenOf pd_11 rfl) rfl (by show 2 * 0 + _ ≤ _; exact Nat.le_of_eq rfl) (hb hby d5_22) (fun _ _ => ⟨rfl, e15, (by decide : 0 + 0 ≤ _), (by decide : 0 + 0 ≤ _)⟩)
        dsimp only [Pt.U, Pt.locs, Pt.cells, Pt.slots] at X18 l18 y18 z18 st18 hQ18
        rw [l18, y18, z18] at X18
        obtain ⟨ch22_1, rfl, hch22_1, N18q, e18⟩ := hQ18
        have N18 := Fr.app N15 N18q
        have pre20 : ∀ t, Steps p.tables e below (T18.setTop (mkF m 27 #[.val (.ref oa), .val (.int (0 : Int32)), .val (.int (1 : Int32))] [(.int (35 : Int32)), (.int ch22_1)])) t → Steps p.tables e below (s₁.setTop (entryFrame m #[(.ref oa), (.int (0 : Int32))] 3)) t := fun t kt => by
          refine pre17 _ ?_
          show Steps p.tables e below (T15.setTop (mkF m 17 #[.val (.ref oa), .val (.int (0 : Int32)), .val (.int (1 : Int32))] [(.int (63 : Int32)), (.int ch12_1)])) _
          refine XS.icmpNo X15.here hx rfl (hb hby d5_17) rfl (own_feq (a := ch12_1) (b := (63 : Int32)) rfl (by decide) hc17_16).1 ?_
          refine XS.aloadN X15.here hx rfl (hb hby d5_20) rfl rfl ?_
          show Steps p.tables e below (T15.setTop (mkF m 21 #[.val (.ref oa), .val (.int (0 : Int32)), .val (.int (1 : Int32))] [(.ref oa)])) _
          refine XS.iloadN X15.here hx rfl (hb hby d5_21) rfl ?_
          refine st18.trans ?_
          refine XS.bipush X18.here hx rfl (hb hby d5_25) ?_
          exact kt
        by_cases hc27_19 : ch22_1.toInt = (35 : Int)
        · obtain ⟨fs, hr, hrun, hended, hW, hsame⟩ := X18.leave (v := some (.int (1 : Int32))) (fun h => by rw [Bd.returns] at h; cases h)
          refine ⟨_, _, pre20 _ ?_, hrun, hended, _, _, rfl, ?_, ⟨_, rfl⟩, hW, hsame.mono (by decide) (by decide)⟩
          · show Steps p.tables e below (T18.setTop (mkF m 27 #[.val (.ref oa), .val (.int (0 : Int32)), .val (.int (1 : Int32))] [(.int (35 : Int32)), (.int ch22_1)])) _
            refine XS.icmpYes X18.here hx rfl (pc0 := 27) (pc' := 36) rfl (hb hby d5_27) rfl (own_teq (a := ch22_1) (b := (35 : Int32)) rfl (by decide) hc27_19).1 (by decide) (by decide) ?_
            refine XS.iloadN X18.here hx rfl (hb hby d5_36) rfl ?_
            exact retI X18 hx Bd.returns (hb hby d5_37) hr
          · show Q_pe4_0 Z _ _ _ _ _ _ _ _ _ _ _ _ _ h0 n0 _ T18.heap _
            rw [e18]
            exact ⟨_, rfl, by have s0 : ¬ own_stop c0.toInt := (by unfold own_stop; omega); have s1 : own_stop c1.toInt := (by unfold own_stop; omega); rw [if_neg s0, if_pos s1]; decide, N18, rfl⟩
        · obtain ⟨cq21, kq21, q21a, q21b, q21c⟩ := isOf hZ e18 Es
          obtain ⟨_, _, ⟨T21, L21, k21, n21⟩, -, X21, ⟨Lc21, hQ21, l21, y21, z21⟩, st21⟩ := X18.virtualBack hx (y := (⟨"java/lang/String", "length", "()I"⟩ : MethodName)) (z := (⟨"java/lang/String", "length", "()I"⟩ : MethodName)) hown (mvT hZ (hw _ (List.mem_of_getElem? (i := 31) rfl))) (mvT hZ (hw _ (List.mem_of_getElem? (i := 32) rfl))) (notFace_of_selects (args := #[]) (mvT hZ (hw _ (List.mem_of_getElem? (i := 34) rfl)))) (mvT hZ (hw _ (List.mem_of_getElem? (i := 34) rfl))) (mvT hZ (hw _ (List.mem_of_getElem? (i := 33) rfl))) (by decide) (backOf (W := 1) (rm_len4_0 l Z a0 hw [] oa vcs vf ob kb [(.int bb0), (.int bb1), (.int bb2), (.int bb3)] h0 n0 Z0 Os Es Fc Fv Vb) hZ (hw _ (List.mem_of_getElem? (i := 35) rfl)) (hw _ (List.mem_of_getElem? (i := 7) rfl)) (by decide) (by decide)) q21a q21c (g := (mkF m 4 #[.val (.ref oa), .val (.int (0 : Int32)), .val (.int (2 : Int32))] [(.ref oa), (.int (2 : Int32))])) rfl (by rw [hml]; rfl) (Steps.refl _) (argsL := []) (rest := [(.int (2 : Int32))]) (lenOf pd_10 rfl) rfl (by show 2 * 0 + _ ≤ _; exact Nat.le_of_eq rfl) (hb hby d5_4) (fun _ _ => ⟨rfl, e18, (by decide : 0 + 0 ≤ _), (by decide : 0 + 0 ≤ _)⟩)
          dsimp only [Pt.U, Pt.locs, Pt.cells, Pt.slots] at X21 l21 y21 z21 st21 hQ21
          rw [l21, y21, z21] at X21
          obtain ⟨zl3, rfl, hzl3, N21q, e21⟩ := hQ21
          have N21 := Fr.app N18 N21q
          have pre22 : ∀ t, Steps p.tables e below (T21.setTop (mkF m 7 #[.val (.ref oa), .val (.int (0 : Int32)), .val (.int (2 : Int32))] [(.int zl3), (.int (2 : Int32))])) t → Steps p.tables e below (s₁.setTop (entryFrame m #[(.ref oa), (.int (0 : Int32))] 3)) t := fun t kt => by
            refine pre20 _ ?_
            show Steps p.tables e below (T18.setTop (mkF m 27 #[.val (.ref oa), .val (.int (0 : Int32)), .val (.int (1 : Int32))] [(.int (35 : Int32)), (.int ch22_1)])) _
            refine XS.icmpNo X18.here hx rfl (hb hby d5_27) rfl (own_feq (a := ch22_1) (b := (35 : Int32)) rfl (by decide) hc27_19).1 ?_
            refine XS.iinc X18.here hx rfl (hb hby d5_30) rfl (l' := #[.val (.ref oa), .val (.int (0 : Int32)), .val (.int (2 : Int32))]) rfl ?_
            refine XS.goto X18.here hx rfl (pc0 := 33) (pc' := 2) rfl (hb hby d5_33) (by decide) (by decide) ?_
            refine XS.iloadN X18.here hx rfl (hb hby d5_2) rfl ?_
            show Steps p.tables e below (T18.setTop (mkF m 3 #[.val (.ref oa), .val (.int (0 : Int32)), .val (.int (2 : Int32))] [(.int (2 : Int32))])) _
            refine XS.aloadN X18.here hx rfl (hb hby d5_3) rfl rfl ?_
            refine st21.trans ?_
            exact kt
          subst hzl3
          have pre23 : ∀ t, Steps p.tables e below (T21.setTop (mkF m 7 #[.val (.ref oa), .val (.int (0 : Int32)), .val (.int (2 : Int32))] [(.int (4 : Int32)), (.int (2 : Int32))])) t → Steps p.tables e below (s₁.setTop (entryFrame m #[(.ref oa), (.int (0 : Int32))] 3)) t := pre22
          have hc7_24 : (2 : Int) < (4 : Int) := by decide
          obtain ⟨cq25, kq25, q25a, q25b, q25c⟩ := isOf hZ e21 Es
          obtain ⟨_, _, ⟨T25, L25, k25, n25⟩, -, X25, ⟨Lc25, hQ25, l25, y25, z25⟩, st25⟩ := X21.virtualBack hx (y := (⟨"java/lang/String", "charAt", "(I)C"⟩ : MethodName)) (z := (⟨"java/lang/String", "charAt", "(I)C"⟩ : MethodName)) hown (mvT hZ (hw _ (List.mem_of_getElem? (i := 55) rfl))) (mvT hZ (hw _ (List.mem_of_getElem? (i := 56) rfl))) (notFace_of_selects (args := #[]) (mvT hZ (hw _ (List.mem_of_getElem? (i := 58) rfl)))) (mvT hZ (hw _ (List.mem_of_getElem? (i := 58) rfl))) (mvT hZ (hw _ (List.mem_of_getElem? (i := 57) rfl))) (by decide) (backOf (W := 0) (rm_ch1 l Z a0 hw [] oa (2 : Int32) vcs vf ob kb (4 : Int32) [(.int bb0), (.int bb1), (.int bb2), (.int bb3)] bb2 h0 n0 Z0 Os Es Fc Fv Vb (by decide) (by decide) rfl) hZ (hw _ (List.mem_of_getElem? (i := 59) rfl)) (hw _ (List.mem_of_getElem? (i := 7) rfl)) (by decide) (by decide)) q25a q25c (g := (mkF m 12 #[.val (.ref oa), .val (.int (0 : Int32)), .val (.int (2 : Int32))] [(.int (2 : Int32)), (.ref oa)])) rfl (by rw [hml]; rfl) (Steps.refl _) (argsL := [(.int (2 : Int32))]) (rest := []) (lenOf pd_11 rfl) rfl (by show 2 * 0 + _ ≤ _; exact Nat.le_of_eq rfl) (hb hby d5_12) (fun _ _ => ⟨rfl, e21, (by decide : 0 + 0 ≤ _), (by decide : 0 + 0 ≤ _)⟩)
          dsimp only [Pt.U, Pt.locs, Pt.cells, Pt.slots] at X25 l25 y25 z25 st25 hQ25
          rw [l25, y25, z25] at X25
          obtain ⟨ch12_2, rfl, hch12_2, N25q, e25⟩ := hQ25
          have N25 := Fr.app N21 N25q
          have pre27 : ∀ t, Steps p.tables e below (T25.setTop (mkF m 17 #[.val (.ref oa), .val (.int (0 : Int32)), .val (.int (2 : Int32))] [(.int (63 : Int32)), (.int ch12_2)])) t → Steps p.tables e below (s₁.setTop (entryFrame m #[(.ref oa), (.int (0 : Int32))] 3)) t := fun t kt => by
            refine pre23 _ ?_
            refine XS.icmpNo X21.here hx rfl (hb hby d5_7) rfl (own_tlt (a := (2 : Int32)) (b := (4 : Int32)) (by decide) (by decide) hc7_24).2.1 ?_
            refine XS.aloadN X21.here hx rfl (hb hby d5_10) rfl rfl ?_
            refine XS.iloadN X21.here hx rfl (hb hby d5_11) rfl ?_
            refine st25.trans ?_
            refine XS.bipush X25.here hx rfl (hb hby d5_15) ?_
            exact kt
          by_cases hc17_26 : ch12_2.toInt = (63 : Int)
          · obtain ⟨fs, hr, hrun, hended, hW, hsame⟩ := X25.leave (v := some (.int (2 : Int32))) (fun h => by rw [Bd.returns] at h; cases h)
            refine ⟨_, _, pre27 _ ?_, hrun, hended, _, _, rfl, ?_, ⟨_, rfl⟩, hW, hsame.mono (by decide) (by decide)⟩
            · show Steps p.tables e below (T25.setTop (mkF m 17 #[.val (.ref oa), .val (.int (0 : Int32)), .val (.int (2 : Int32))] [(.int (63 : Int32)), (.int ch12_2)])) _
              refine XS.icmpYes X25.here hx rfl (pc0 := 17) (pc' := 36) rfl (hb hby d5_17) rfl (own_teq (a := ch12_2) (b := (63 : Int32)) rfl (by decide) hc17_26).1 (by decide) (by decide) ?_
              refine XS.iloadN X25.here hx rfl (hb hby d5_36) rfl ?_
              exact retI X25 hx Bd.returns (hb hby d5_37) hr
            · show Q_pe4_0 Z _ _ _ _ _ _ _ _ _ _ _ _ _ h0 n0 _ T25.heap _
              rw [e25]
              exact ⟨_, rfl, by have s0 : ¬ own_stop c0.toInt := (by unfold own_stop; omega); have s1 : ¬ own_stop c1.toInt := (by unfold own_stop; omega); have s2 : own_stop c2.toInt := (by unfold own_stop; omega); rw [if_neg s0, if_neg s1, if_pos s2]; decide, N25, rfl⟩
          · obtain ⟨cq28, kq28, q28a, q28b, q28c⟩ := isOf hZ e25 Es
            obtain ⟨_, _, ⟨T28, L28, k28, n28⟩, -, X28, ⟨Lc28, hQ28, l28, y28, z28⟩, st28⟩ := X25.virtualBack hx (y := (⟨"java/lang/String", "charAt", "(I)C"⟩ : MethodName)) (z := (⟨"java/lang/String", "charAt", "(I)C"⟩ : MethodName)) hown (mvT hZ (hw _ (List.mem_of_getElem? (i := 55) rfl))) (mvT hZ (hw _ (List.mem_of_getElem? (i := 56) rfl))) (notFace_of_selects (args := #[]) (mvT hZ (hw _ (List.mem_of_getElem? (i := 58) rfl)))) (mvT hZ (hw _ (List.mem_of_getElem? (i := 58) rfl))) (mvT hZ (hw _ (List.mem_of_getElem? (i := 57) rfl))) (by decide) (backOf (W := 0) (rm_ch1 l Z a0 hw [] oa (2 : Int32) vcs vf ob kb (4 : Int32) [(.int bb0), (.int bb1), (.int bb2), (.int bb3)] bb2 h0 n0 Z0 Os Es Fc Fv Vb (by decide) (by decide) rfl) hZ (hw _ (List.mem_of_getElem? (i := 59) rfl)) (hw _ (List.mem_of_getElem? (i := 7) rfl)) (by decide) (by decide)) q28a q28c (g := (mkF m 22 #[.val (.ref oa), .val (.int (0 : Int32)), .val (.int (2 : Int32))] [(.int (2 : Int32)), (.ref oa)])) rfl (by rw [hml]; rfl) (Steps.refl _) (argsL := [(.int (2 : Int32))]) (rest := []) (lenOf pd_11 rfl) rfl (by show 2 * 0 + _ ≤ _; exact Nat.le_of_eq rfl) (hb hby d5_22) (fun _ _ => ⟨rfl, e25, (by decide : 0 + 0 ≤ _), (by decide : 0 + 0 ≤ _)⟩)
            dsimp only [Pt.U, Pt.locs, Pt.cells, Pt.slots] at X28 l28 y28 z28 st28 hQ28
            rw [l28, y28, z28] at X28
            obtain ⟨ch22_2, rfl, hch22_2, N28q, e28⟩ := hQ28
            have N28 := Fr.app N25 N28q
            have pre30 : ∀ t, Steps p.tables e below (T28.setTop (mkF m 27 #[.val (.ref oa), .val (.int (0 : Int32)), .val (.int (2 : Int32))] [(.int (35 : Int32)), (.int ch22_2)])) t → Steps p.tables e below (s₁.setTop (entryFrame m #[(.ref oa), (.int (0 : Int32))] 3)) t := fun t kt => by
              refine pre27 _ ?_
              show Steps p.tables e below (T25.setTop (mkF m 17 #[.val (.ref oa), .val (.int (0 : Int32)), .val (.int (2 : Int32))] [(.int (63 : Int32)), (.int ch12_2)])) _
              refine XS.icmpNo X25.here hx rfl (hb hby d5_17) rfl (own_feq (a := ch12_2) (b := (63 : Int32)) rfl (by decide) hc17_26).1 ?_
              refine XS.aloadN X25.here hx rfl (hb hby d5_20) rfl rfl ?_
              refine XS.iloadN X25.here hx rfl (hb hby d5_21) rfl ?_
              refine st28.trans ?_
              refine XS.bipush X28.here hx rfl (hb hby d5_25) ?_
              exact kt
            by_cases hc27_29 : ch22_2.toInt = (35 : Int)
            · obtain ⟨fs, hr, hrun, hended, hW, hsame⟩ := X28.leave (v := some (.int (2 : Int32))) (fun h => by rw [Bd.returns] at h; cases h)
              refine ⟨_, _, pre30 _ ?_, hrun, hended, _, _, rfl, ?_, ⟨_, rfl⟩, hW, hsame.mono (by decide) (by decide)⟩
              · show Steps p.tables e below (T28.setTop (mkF m 27 #[.val (.ref oa), .val (.int (0 : Int32)), .val (.int (2 : Int32))] [(.int (35 : Int32)), (.int ch22_2)])) _
                refine XS.icmpYes X28.here hx rfl (pc0 := 27) (pc' := 36) rfl (hb hby d5_27) rfl (own_teq (a := ch22_2) (b := (35 : Int32)) rfl (by decide) hc27_29).1 (by decide) (by decide) ?_
                refine XS.iloadN X28.here hx rfl (hb hby d5_36) rfl ?_
                show Steps p.tables e below (T28.setTop (mkF m 37 #[.val (.ref oa), .val (.int (0 : Int32)), .val (.int (2 : Int32))] [(.int (2 : Int32))])) _
                exact retI X28 hx Bd.returns (hb hby d5_37) hr
              · show Q_pe4_0 Z _ _ _ _ _ _ _ _ _ _ _ _ _ h0 n0 _ T28.heap _
                rw [e28]
                exact ⟨_, rfl, by have s0 : ¬ own_stop c0.toInt := (by unfold own_stop; omega); have s1 : ¬ own_stop c1.toInt := (by unfold own_stop; omega); have s2 : own_stop c2.toInt := (by unfold own_stop; omega); rw [if_neg s0, if_neg s1, if_pos s2]; decide, N28, rfl⟩
            · obtain ⟨cq31, kq31, q31a, q31b, q31c⟩ := isOf hZ e28 Es
              obtain ⟨_, _, ⟨T31, L31, k31, n31⟩, -, X31, ⟨Lc31, hQ31, l31, y31, z31⟩, st31⟩ := X28.virtualBack hx (y := (⟨"java/lang/String", "length", "()I"⟩ : MethodName)) (z := (⟨"java/lang/String", "length", "()I"⟩ : MethodName)) hown (mvT hZ (hw _ (List.mem_of_getElem? (i := 31) rfl))) (mvT hZ (hw _ (List.mem_of_getElem? (i := 32) rfl))) (notFace_of_selects (args := #[]) (mvT hZ (hw _ (List.mem_of_getElem? (i := 34) rfl)))) (mvT hZ (hw _ (List.mem_of_getElem? (i := 34) rfl))) (mvT hZ (hw _ (List.mem_of_getElem? (i := 33) rfl))) (by decide) (backOf (W := 1) (rm_len4_0 l Z a0 hw [] oa vcs vf ob kb [(.int bb0), (.int bb1), (.int bb2), (.int bb3)] h0 n0 Z0 Os Es Fc Fv Vb) hZ (hw _ (List.mem_of_getElem? (i := 35) rfl)) (hw _ (List.mem_of_getElem? (i := 7) rfl)) (by decide) (by decide)) q31a q31c (g := (mkF m 4 #[.val (.ref oa), .val (.int (0 : Int32)), .val (.int (3 : Int32))] [(.ref oa), (.int (3 : Int32))])) rfl (by rw [hml]; rfl) (Steps.refl _) (argsL := []) (rest := [(.int (3 : Int32))]) (lenOf pd_10 rfl) rfl (by show 2 * 0 + _ ≤ _; exact Nat.le_of_eq rfl) (hb hby d5_4) (fun _ _ => ⟨rfl, e28, (by decide : 0 + 0 ≤ _), (by decide : 0 + 0 ≤ _)⟩)
              dsimp only [Pt.U, Pt.locs, Pt.cells, Pt.slots] at X31 l31 y31 z31 st31 hQ31
              rw [l31, y31, z31] at X31
              obtain ⟨zl4, rfl, hzl4, N31q, e31⟩ := hQ31
              have N31 := Fr.app N28 N31q
              have pre32 : ∀ t, Steps p.tables e below (T31.setTop (mkF m 7 #[.val (.ref oa), .val (.int (0 : Int32)), .val (.int (3 : Int32))] [(.int zl4), (.int (3 : Int32))])) t → Steps p.tables e below (s₁.setTop (entryFrame m #[(.ref oa), (.int (0 : Int32))] 3)) t := fun t kt => by
                refine pre30 _ ?_
                show Steps p.tables e below (T28.setTop (mkF m 27 #[.val (.ref oa), .val (.int (0 : Int32)), .val (.int (2 : Int32))] [(.int (35 : Int32)), (.int ch22_2)])) _
                refine XS.icmpNo X28.here hx rfl (hb hby d5_27) rfl (own_feq (a := ch22_2) (b := (35 : Int32)) rfl (by decide) hc27_29).1 ?_
                refine XS.iinc X28.here hx rfl (hb hby d5_30) rfl (l' := #[.val (.ref oa), .val (.int (0 : Int32)), .val (.int (3 : Int32))]) rfl ?_
                show Steps p.tables e below (T28.setTop (mkF m 33 #[.val (.ref oa), .val (.int (0 : Int32)), .val (.int (3 : Int32))] [])) _
                refine XS.goto X28.here hx rfl (pc0 := 33) (pc' := 2) rfl (hb hby d5_33) (by decide) (by decide) ?_
                refine XS.iloadN X28.here hx rfl (hb hby d5_2) rfl ?_
                refine XS.aloadN X28.here hx rfl (hb hby d5_3) rfl rfl ?_
                refine st31.trans ?_
                exact kt
              subst hzl4
              have pre33 : ∀ t, Steps p.tables e below (T31.setTop (mkF m 7 #[.val (.ref oa), .val (.int (0 : Int32)), .val (.int (3 : Int32))] [(.int (4 : Int32)), (.int (3 : Int32))])) t → Steps p.tables e below (s₁.setTop (entryFrame m #[(.ref oa), (.int (0 : Int32))] 3)) t := pre32
              have hc7_34 : (3 : Int) < (4 : Int) := by decide
              obtain ⟨cq35, kq35, q35a, q35b, q35c⟩ := isOf hZ e31 Es
              obtain ⟨_, _, ⟨T35, L35, k35, n35⟩, -, X35, ⟨Lc35, hQ35, l35, y35, z35⟩, st35⟩ := X31.virtualBack hx (y := (⟨"java/lang/String", "charAt", "(I)C"⟩ : MethodName)) (z := (⟨"java/lang/String", "charAt", "(I)C"⟩ : MethodName)) hown (mvT hZ (hw _ (List.mem_of_getElem? (i := 55) rfl))) (mvT hZ (hw _ (List.mem_of_getElem? (i := 56) rfl))) (notFace_of_selects (args := #[]) (mvT hZ (hw _ (List.mem_of_getElem? (i := 58) rfl)))) (mvT hZ (hw _ (List.mem_of_getElem? (i := 58) rfl))) (mvT hZ (hw _ (List.mem_of_getElem? (i := 57) rfl))) (by decide) (backOf (W := 0) (rm_ch1 l Z a0 hw [] oa (3 : Int32) vcs vf ob kb (4 : Int32) [(.int bb0), (.int bb1), (.int bb2), (.int bb3)] bb3 h0 n0 Z0 Os Es Fc Fv Vb (by decide) (by decide) rfl) hZ (hw _ (List.mem_of_getElem? (i := 59) rfl)) (hw _ (List.mem_of_getElem? (i := 7) rfl)) (by decide) (by decide)) q35a q35c (g := (mkF m 12 #[.val (.ref oa), .val (.int (0 : Int32)), .val (.int (3 : Int32))] [(.int (3 : Int32)), (.ref oa)])) rfl (by rw [hml]; rfl) (Steps.refl _) (argsL := [(.int (3 : Int32))]) (rest := []) (lenOf pd_11 rfl) rfl (by show 2 * 0 + _ ≤ _; exact Nat.le_of_eq rfl) (hb hby d5_12) (fun _ _ => ⟨rfl, e31, (by decide : 0 + 0 ≤ _), (by decide : 0 + 0 ≤ _)⟩)
              dsimp only [Pt.U, Pt.locs, Pt.cells, Pt.slots] at X35 l35 y35 z35 st35 hQ35
              rw [l35, y35, z35] at X35
              obtain ⟨ch12_3, rfl, hch12_3, N35q, e35⟩ := hQ35
              have N35 := Fr.app N31 N35q
              have pre37 : ∀ t, Steps p.tables e below (T35.setTop (mkF m 17 #[.val (.ref oa), .val (.int (0 : Int32)), .val (.int (3 : Int32))] [(.int (63 : Int32)), (.int ch12_3)])) t → Steps p.tables e below (s₁.setTop (entryFrame m #[(.ref oa), (.int (0 : Int32))] 3)) t := fun t kt => by
                refine pre33 _ ?_
                refine XS.icmpNo X31.here hx rfl (hb hby d5_7) rfl (own_tlt (a := (3 : Int32)) (b := (4 : Int32)) (by decide) (by decide) hc7_34).2.1 ?_
                refine XS.aloadN X31.here hx rfl (hb hby d5_10) rfl rfl ?_
                refine XS.iloadN X31.here hx rfl (hb hby d5_11) rfl ?_
                refine st35.trans ?_
                show Steps p.tables e below (T35.setTop (mkF m 15 #[.val (.ref oa), .val (.int (0 : Int32)), .val (.int (3 : Int32))] [(.int ch12_3)])) _
                refine XS.bipush X35.here hx rfl (hb hby d5_15) ?_
                exact kt
              by_cases hc17_36 : ch12_3.toInt = (63 : Int)
              · obtain ⟨fs, hr, hrun, hended, hW, hsame⟩ := X35.leave (v := some (.int (3 : Int32))) (fun h => by rw [Bd.returns] at h; cases h)
                refine ⟨_, _, pre37 _ ?_, hrun, hended, _, _, rfl, ?_, ⟨_, rfl⟩, hW, hsame.mono (by decide) (by decide)⟩
                · show Steps p.tables e below (T35.setTop (mkF m 17 #[.val (.ref oa), .val (.int (0 : Int32)), .val (.int (3 : Int32))] [(.int (63 : Int32)), (.int ch12_3)])) _
                  refine XS.icmpYes X35.here hx rfl (pc0 := 17) (pc' := 36) rfl (hb hby d5_17) rfl (own_teq (a := ch12_3) (b := (63 : Int32)) rfl (by decide) hc17_36).1 (by decide) (by decide) ?_
                  refine XS.iloadN X35.here hx rfl (hb hby d5_36) rfl ?_
                  exact retI X35 hx Bd.returns (hb hby d5_37) hr
                · show Q_pe4_0 Z _ _ _ _ _ _ _ _ _ _ _ _ _ h0 n0 _ T35.heap _
                  rw [e35]
                  exact ⟨_, rfl, by have s0 : ¬ own_stop c0.toInt := (by unfold own_stop; omega); have s1 : ¬ own_stop c1.toInt := (by unfold own_stop; omega); have s2 : ¬ own_stop c2.toInt := (by unfold own_stop; omega); have s3 : own_stop c3.toInt := (by unfold own_stop; omega); rw [if_neg s0, if_neg s1, if_neg s2, if_pos s3]; decide, N35, rfl⟩
              · obtain ⟨cq38, kq38, q38a, q38b, q38c⟩ := isOf hZ e35 Es
                obtain ⟨_, _, ⟨T38, L38, k38, n38⟩, -, X38, ⟨Lc38, hQ38, l38, y38, z38⟩, st38⟩ := X35.virtualBack hx (y := (⟨"java/lang/String", "charAt", "(I)C"⟩ : MethodName)) (z := (⟨"java/lang/String", "charAt", "(I)C"⟩ : MethodName)) hown (mvT hZ (hw _ (List.mem_of_getElem? (i := 55) rfl))) (mvT hZ (hw _ (List.mem_of_getElem? (i := 56) rfl))) (notFace_of_selects (args := #[]) (mvT hZ (hw _ (List.mem_of_getElem? (i := 58) rfl)))) (mvT hZ (hw _ (List.mem_of_getElem? (i := 58) rfl))) (mvT hZ (hw _ (List.mem_of_getElem? (i := 57) rfl))) (by decide) (backOf (W := 0) (rm_ch1 l Z a0 hw [] oa (3 : Int32) vcs vf ob kb (4 : Int32) [(.int bb0), (.int bb1), (.int bb2), (.int bb3)] bb3 h0 n0 Z0 Os Es Fc Fv Vb (by decide) (by decide) rfl) hZ (hw _ (List.mem_of_getElem? (i := 59) rfl)) (hw _ (List.mem_of_getElem? (i := 7) rfl)) (by decide) (by decide)) q38a q38c (g := (mkF m 22 #[.val (.ref oa), .val (.int (0 : Int32)), .val (.int (3 : Int32))] [(.int (3 : Int32)), (.ref oa)])) rfl (by rw [hml]; rfl) (Steps.refl _) (argsL := [(.int (3 : Int32))]) (rest := []) (lenOf pd_11 rfl) rfl (by show 2 * 0 + _ ≤ _; exact Nat.le_of_eq rfl) (hb hby d5_22) (fun _ _ => ⟨rfl, e35, (by decide : 0 + 0 ≤ _), (by decide : 0 + 0 ≤ _)⟩)
                dsimp only [Pt.U, Pt.locs, Pt.cells, Pt.slots] at X38 l38 y38 z38 st38 hQ38
                rw [l38, y38, z38] at X38
                obtain ⟨ch22_3, rfl, hch22_3, N38q, e38⟩ := hQ38
                have N38 := Fr.app N35 N38q
                have pre40 : ∀ t, Steps p.tables e below (T38.setTop (mkF m 27 #[.val (.ref oa), .val (.int (0 : Int32)), .val (.int (3 : Int32))] [(.int (35 : Int32)), (.int ch22_3)])) t → Steps p.tables e below (s₁.setTop (entryFrame m #[(.ref oa), (.int (0 : Int32))] 3)) t := fun t kt => by
                  refine pre37 _ ?_
                  show Steps p.tables e below (T35.setTop (mkF m 17 #[.val (.ref oa), .val (.int (0 : Int32)), .val (.int (3 : Int32))] [(.int (63 : Int32)), (.int ch12_3)])) _
                  refine XS.icmpNo X35.here hx rfl (hb hby d5_17) rfl (own_feq (a := ch12_3) (b := (63 : Int32)) rfl (by decide) hc17_36).1 ?_
                  refine XS.aloadN X35.here hx rfl (hb hby d5_20) rfl rfl ?_
                  refine XS.iloadN X35.here hx rfl (hb hby d5_21) rfl ?_
                  refine st38.trans ?_
                  refine XS.bipush X38.here hx rfl (hb hby d5_25) ?_
                  exact kt
                by_cases hc27_39 : ch22_3.toInt = (35 : Int)
                · obtain ⟨fs, hr, hrun, hended, hW, hsame⟩ := X38.leave (v := some (.int (3 : Int32))) (fun h => by rw [Bd.returns] at h; cases h)
                  refine ⟨_, _, pre40 _ ?_, hrun, hended, _, _, rfl, ?_, ⟨_, rfl⟩, hW, hsame.mono (by decide) (by decide)⟩
                  · show Steps p.tables e below (T38.setTop (mkF m 27 #[.val (.ref oa), .val (.int (0 : Int32)), .val (.int (3 : Int32))] [(.int (35 : Int32)), (.int ch22_3)])) _
                    refine XS.icmpYes X38.here hx rfl (pc0 := 27) (pc' := 36) rfl (hb hby d5_27) rfl (own_teq (a := ch22_3) (b := (35 : Int32)) rfl (by decide) hc27_39).1 (by decide) (by decide) ?_
                    refine XS.iloadN X38.here hx rfl (hb hby d5_36) rfl ?_
                    exact retI X38 hx Bd.returns (hb hby d5_37) hr
                  · show Q_pe4_0 Z _ _ _ _ _ _ _ _ _ _ _ _ _ h0 n0 _ T38.heap _
                    rw [e38]
                    exact ⟨_, rfl, by have s0 : ¬ own_stop c0.toInt := (by unfold own_stop; omega); have s1 : ¬ own_stop c1.toInt := (by unfold own_stop; omega); have s2 : ¬ own_stop c2.toInt := (by unfold own_stop; omega); have s3 : own_stop c3.toInt := (by unfold own_stop; omega); rw [if_neg s0, if_neg s1, if_neg s2, if_pos s3]; decide, N38, rfl⟩
                · obtain ⟨cq41, kq41, q41a, q41b, q41c⟩ := isOf hZ e38 Es
                  obtain ⟨_, _, ⟨T41, L41, k41, n41⟩, -, X41, ⟨Lc41, hQ41, l41, y41, z41⟩, st41⟩ := X38.virtualBack hx (y := (⟨"java/lang/String", "length", "()I"⟩ : MethodName)) (z := (⟨"java/lang/String", "length", "()I"⟩ : MethodName)) hown (mvT hZ (hw _ (List.mem_of_getElem? (i := 31) rfl))) (mvT hZ (hw _ (List.mem_of_getElem? (i := 32) rfl))) (notFace_of_selects (args := #[]) (mvT hZ (hw _ (List.mem_of_getElem? (i := 34) rfl)))) (mvT hZ (hw _ (List.mem_of_getElem? (i := 34) rfl))) (mvT hZ (hw _ (List.mem_of_getElem? (i := 33) rfl))) (by decide) (backOf (W := 1) (rm_len4_0 l Z a0 hw [] oa vcs vf ob kb [(.int bb0), (.int bb1), (.int bb2), (.int bb3)] h0 n0 Z0 Os Es Fc Fv Vb) hZ (hw _ (List.mem_of_getElem? (i := 35) rfl)) (hw _ (List.mem_of_getElem? (i := 7) rfl)) (by decide) (by decide)) q41a q41c (g := (mkF m 4 #[.val (.ref oa), .val (.int (0 : Int32)), .val (.int (4 : Int32))] [(.ref oa), (.int (4 : Int32))])) rfl (by rw [hml]; rfl) (Steps.refl _) (argsL := []) (rest := [(.int (4 : Int32))]) (lenOf pd_10 rfl) rfl (by show 2 * 0 + _ ≤ _; exact Nat.le_of_eq rfl) (hb hby d5_4) (fun _ _ => ⟨rfl, e38, (by decide : 0 + 0 ≤ _), (by decide : 0 + 0 ≤ _)⟩)
                  dsimp only [Pt.U, Pt.locs, Pt.cells, Pt.slots] at X41 l41 y41 z41 st41 hQ41
                  rw [l41, y41, z41] at X41
                  obtain ⟨zl5, rfl, hzl5, N41q, e41⟩ := hQ41
                  have N41 := Fr.app N38 N41q
                  have pre42 : ∀ t, Steps p.tables e below (T41.setTop (mkF m 7 #[.val (.ref oa), .val (.int (0 : Int32)), .val (.int (4 : Int32))] [(.int zl5), (.int (4 : Int32))])) t → Steps p.tables e below (s₁.setTop (entryFrame m #[(.ref oa), (.int (0 : Int32))] 3)) t := fun t kt => by
                    refine pre40 _ ?_
                    show Steps p.tables e below (T38.setTop (mkF m 27 #[.val (.ref oa), .val (.int (0 : Int32)), .val (.int (3 : Int32))] [(.int (35 : Int32)), (.int ch22_3)])) _
                    refine XS.icmpNo X38.here hx rfl (hb hby d5_27) rfl (own_feq (a := ch22_3) (b := (35 : Int32)) rfl (by decide) hc27_39).1 ?_
                    refine XS.iinc X38.here hx rfl (hb hby d5_30) rfl (l' := #[.val (.ref oa), .val (.int (0 : Int32)), .val (.int (4 : Int32))]) rfl ?_
                    refine XS.goto X38.here hx rfl (pc0 := 33) (pc' := 2) rfl (hb hby d5_33) (by decide) (by decide) ?_
                    refine XS.iloadN X38.here hx rfl (hb hby d5_2) rfl ?_
                    refine XS.aloadN X38.here hx rfl (hb hby d5_3) rfl rfl ?_
                    refine st41.trans ?_
                    exact kt
                  subst hzl5
                  have pre43 : ∀ t, Steps p.tables e below (T41.setTop (mkF m 7 #[.val (.ref oa), .val (.int (0 : Int32)), .val (.int (4 : Int32))] [(.int (4 : Int32)), (.int (4 : Int32))])) t → Steps p.tables e below (s₁.setTop (entryFrame m #[(.ref oa), (.int (0 : Int32))] 3)) t := pre42
                  have hc7_44 : ¬ ((4 : Int) < (4 : Int)) := by decide
                  obtain ⟨fs, hr, hrun, hended, hW, hsame⟩ := X41.leave (v := some (.int (4 : Int32))) (fun h => by rw [Bd.returns] at h; cases h)
                  refine ⟨_, _, pre43 _ ?_, hrun, hended, _, _, rfl, ?_, ⟨_, rfl⟩, hW, hsame.mono (by decide) (by decide)⟩
                  · refine XS.icmpYes X41.here hx rfl (pc0 := 7) (pc' := 36) rfl (hb hby d5_7) rfl (own_flt (a := (4 : Int32)) (b := (4 : Int32)) (by decide) (by decide) hc7_44).2.1 (by decide) (by decide) ?_
                    refine XS.iloadN X41.here hx rfl (hb hby d5_36) rfl ?_
                    show Steps p.tables e below (T41.setTop (mkF m 37 #[.val (.ref oa), .val (.int (0 : Int32)), .val (.int (4 : Int32))] [(.int (4 : Int32))])) _
                    exact retI X41 hx Bd.returns (hb hby d5_37) hr
                  · show Q_pe4_0 Z _ _ _ _ _ _ _ _ _ _ _ _ _ h0 n0 _ T41.heap _
                    rw [e41]
                    exact ⟨_, rfl, by have s0 : ¬ own_stop c0.toInt := (by unfold own_stop; omega); have s1 : ¬ own_stop c1.toInt := (by unfold own_stop; omega); have s2 : ¬ own_stop c2.toInt := (by unfold own_stop; omega); have s3 : ¬ own_stop c3.toInt := (by unfold own_stop; omega); rw [if_neg s0, if_neg s1, if_neg s2, if_neg s3]; decide, N41, rfl⟩
theorem ef_rm_pe4_1 (m : MethodId) (x0 : Addr) : entryFrame m #[(.ref x0), (.int (1 : Int32))] 3 = mkF m 0 #[.val (.ref x0), .val (.int (1 : Int32)), .unset] [] := by first | (simp [entryFrame, mkF, argsToLocals, Value.category]; done) | rfl
def Q_pe4_1 (Z : State) (oa : Addr) (vcs : Int32) (vf : Value) (ob : Addr) (kb : ClassId) (bb0 : Int32) (bb1 : Int32) (bb2 : Int32) (bb3 : Int32) (c0 : Int32) (c1 : Int32) (c2 : Int32) (c3 : Int32) (h0 : Heap) (n0 : Nat) (v : Option Value) (h : Heap) (L : List Loc) : Prop := ∃ z : Int32, v = some (.int z) ∧ (z.toInt = (if own_stop c1.toInt then (1 : Int) else (if own_stop c2.toInt then (2 : Int) else (if own_stop c3.toInt then (3 : Int) else (4 : Int))))) ∧ Fr n0 L ∧ h = h0
set_option maxRecDepth 65536 in
set_option maxHeartbeats 40000000 in
theorem rm_pe4_1 (l : Launch) (Z : State) (a0 : Array Value) (hw : ∀ d ∈ tables_1, d.before a0 Z = true) (ws : List Jvm.Cond) (oa : Addr) (vcs : Int32) (vf : Value) (ob : Addr) (kb : ClassId) (bb0 : Int32) (bb1 : Int32) (bb2 : Int32) (bb3 : Int32) (c0 : Int32) (c1 : Int32) (c2 : Int32) (c3 : Int32) (h0 : Heap) (n0 : Nat) (Z0 : n0 ≤ h0.size) (Os : own_st Z h0 vcs vf) (Es : Exa Z h0 oa "java/lang/String") (Fc : Fld Z h0 oa "java/lang/String" "coder" "B" (.int (0 : Int32))) (Fv : Fld Z h0 oa "java/lang/String" "value" "[B" (.ref ob)) (Vb : Arv Z h0 ob kb .byte (4 : Int32) [(.int bb0), (.int bb1), (.int bb2), (.int bb3)] (.int (0 : Int32))) (qbb0 : bb0.toInt % 256 = c0.toInt) (qbb1 : bb1.toInt % 256 = c1.toInt) (qbb2 : bb2.toInt % 256 = c2.toInt) (qbb3 : bb3.toInt % 256 = c3.toInt) :
    MetFree l (⟨"com/example/path_template_matcher/pathtemplatematcher/UriReference", "pathEnd", "(Ljava/lang/String;I)I"⟩ : MethodName) (head1 (Jvm.Cond.code (⟨"com/example/path_template_matcher/pathtemplatematcher/UriReference", "pathEnd", "(Ljava/lang/String;I)I"⟩ : MethodName) prog_36_method_4_code 3 (some .int) :: ws) ({ frames := 4, cells := 0, slots := 0, locals := 53 } : Room)) (fun a U => a = #[(.ref oa), (.int (1 : Int32))] ∧ Z.Warmed39 U.vm ∧ U.heap = h0) (fun _ _ _ _ _ => True) (fun _ U o U' => ∃ v L, o = .returned v ∧ Q_pe4_1 Z oa vcs vf ob kb bb0 bb1 bb2 bb3 c0 c1 c2 c3 h0 n0 v U'.heap L ∧ FrameEnd U o U' L ({ frames := 4, cells := 0, slots := 0, locals := 53 } : Room).cells ({ frames := 4, cells := 0, slots := 0, locals := 53 } : Room).slots) := by
  refine MetFree.of_bodySF (plainFor_of_name pn_5) hisR ?_
  intro p e s m args below meth c s₁ Bd hml0 hP hK
  obtain ⟨rfl, hZ, hh⟩ := hP
  have hx := Bd.exec
  have hby := Bd.bytes
  have hml : c.maxLocals = 3 := hml0
  have hown : s.vm.findClass "com/example/path_template_matcher/pathtemplatematcher/UriReference" = some m.cls := findClass_of_methodNamed Bd.named
  have hnm := (name_of_methodNamed Bd.named Bd.method).1
  have X0 : Stand p l e ({ frames := 4, cells := 0, slots := 0, locals := 53 } : Room) s m #[(.ref oa), (.int (1 : Int32))] below meth c s₁ [] 0 0 := Stand.of_body Bd
  have e0 : s₁.heap = h0 := by rw [← hh, Bd.state]; rfl
  have N0 := Fr.nil n0
  have pre0 : ∀ t, Steps p.tables e below (s₁.setTop (mkF m 0 #[.val (.ref oa), .val (.int (1 : Int32)), .unset] [])) t → Steps p.tables e below (s₁.setTop (entryFrame m #[(.ref oa), (.int (1 : Int32))] 3)) t := fun t k => castTop (ef_rm_pe4_1 m oa) k
  obtain ⟨cq1, kq1, q1a, q1b, q1c⟩ := isOf hZ e0 Es
  obtain ⟨_, _, ⟨T1, L1, k1, n1⟩, -, X1, ⟨Lc1, hQ1, l1, y1, z1⟩, st1⟩ := X0.virtualBack hx (y := (⟨"java/lang/String", "length", "()I"⟩ : MethodName)) (z := (⟨"java/lang/String", "length", "()I"⟩ : MethodName)) hown (mvT hZ (hw _ (List.mem_of_getElem? (i := 31) rfl))) (mvT hZ (hw _ (List.mem_of_getElem? (i := 32) rfl))) (notFace_of_selects (args := #[]) (mvT hZ (hw _ (List.mem_of_getElem? (i := 34) rfl)))) (mvT hZ (hw _ (List.mem_of_getElem? (i := 34) rfl))) (mvT hZ (hw _ (List.mem_of_getElem? (i := 33) rfl))) (by decide) (backOf (W := 1) (rm_len4_0 l Z a0 hw [] oa vcs vf ob kb [(.int bb0), (.int bb1), (.int bb2), (.int bb3)] h0 n0 Z0 Os Es Fc Fv Vb) hZ (hw _ (List.mem_of_getElem? (i := 35) rfl)) (hw _ (List.mem_of_getElem? (i := 7) rfl)) (by decide) (by decide)) q1a q1c (g := (mkF m 4 #[.val (.ref oa), .val (.int (1 : Int32)), .val (.int (1 : Int32))] [(.ref oa), (.int (1 : Int32))])) rfl (by rw [hml]; rfl) (Steps.refl _) (argsL := []) (rest := [(.int (1 : Int32))]) (lenOf pd_10 rfl) rfl (by show 2 * 0 + _ ≤ _; exact Nat.le_of_eq rfl) (hb hby d5_4) (fun _ _ => ⟨rfl, e0, (by decide : 0 + 0 ≤ _), (by decide : 0 + 0 ≤ _)⟩)
  dsimp only [Pt.U, Pt.locs, Pt.cells, Pt.slots] at X1 l1 y1 z1 st1 hQ1
  rw [l1, y1, z1] at X1
  obtain ⟨zl1, rfl, hzl1, N1q, e1⟩ := hQ1
  have N1 := Fr.app N0 N1q
  have pre2 : ∀ t, Steps p.tables e below (T1.setTop (mkF m 7 #[.val (.ref oa), .val (.int (1 : Int32)), .val (.int (1 : Int32))] [(.int zl1), (.int (1 : Int32))])) t → Steps p.tables e below (s₁.setTop (entryFrame m #[(.ref oa), (.int (1 : Int32))] 3)) t := fun t kt => by
    refine pre0 _ ?_
    refine XS.iloadN X0.here hx rfl (hb hby d5_0) rfl ?_
    refine XS.istoreN X0.here hx rfl (hb hby d5_1) rfl (l' := #[.val (.ref oa), .val (.int (1 : Int32)), .val (.int (1 : Int32))]) rfl ?_
    refine XS.iloadN X0.here hx rfl (hb hby d5_2) rfl ?_
    refine XS.aloadN X0.here hx rfl (hb hby d5_3) rfl rfl ?_
    refine st1.trans ?_
    exact kt
  subst hzl1
  have pre3 : ∀ t, Steps p.tables e below (T1.setTop (mkF m 7 #[.val (.ref oa), .val (.int (1 : Int32)), .val (.int (1 : Int32))] [(.int (4 : Int32)), (.int (1 : Int32))])) t → Steps p.tables e below (s₁.setTop (entryFrame m #[(.ref oa), (.int (1 : Int32))] 3)) t := pre2
  have hc7_4 : (1 : Int) < (4 : Int) := by decide
  obtain ⟨cq5, kq5, q5a, q5b, q5c⟩ := isOf hZ e1 Es
  obtain ⟨_, _, ⟨T5, L5, k5, n5⟩, -, X5, ⟨Lc5, hQ5, l5, y5, z5⟩, st5⟩ := X1.virtualBack hx (y := (⟨"java/lang/String", "charAt", "(I)C"⟩ : MethodName)) (z := (⟨"java/lang/String", "charAt", "(I)C"⟩ : MethodName)) hown (mvT hZ (hw _ (List.mem_of_getElem? (i := 55) rfl))) (mvT hZ (hw _ (List.mem_of_getElem? (i := 56) rfl))) (notFace_of_selects (args := #[]) (mvT hZ (hw _ (List.mem_of_getElem? (i := 58) rfl)))) (mvT hZ (hw _ (List.mem_of_getElem? (i := 58) rfl))) (mvT hZ (hw _ (List.mem_of_getElem? (i := 57) rfl))) (by decide) (backOf (W := 0) (rm_ch1 l Z a0 hw [] oa (1 : Int32) vcs vf ob kb (4 : Int32) [(.int bb0), (.int bb1), (.int bb2), (.int bb3)] bb1 h0 n0 Z0 Os Es Fc Fv Vb (by decide) (by decide) rfl) hZ (hw _ (List.mem_of_getElem? (i := 59) rfl)) (hw _ (List.mem_of_getElem? (i := 7) rfl)) (by decide) (by decide)) q5a q5c (g := (mkF m 12 #[.val (.ref oa), .val (.int (1 : Int32)), .val (.int (1 : Int32))] [(.int (1 : Int32)), (.ref oa)])) rfl (by rw [hml]; rfl) (Steps.refl _) (argsL := [(.int (1 : Int32))]) (rest := []) (lenOf pd_11 rfl) rfl (by show 2 * 0 + _ ≤ _; exact Nat.le_of_eq rfl) (hb hby d5_12) (fun _ _ => ⟨rfl, e1, (by decide : 0 + 0 ≤ _), (by decide : 0 + 0 ≤ _)⟩)
  dsimp only [Pt.U, Pt.locs, Pt.cells, Pt.slots] at X5 l5 y5 z5 st5 hQ5
  rw [l5, y5, z5] at X5
  obtain ⟨ch12_1, rfl, hch12_1, N5q, e5⟩ := hQ5
  have N5 := Fr.app N1 N5q
  have pre7 : ∀ t, Steps p.tables e below (T5.setTop (mkF m 17 #[.val (.ref oa), .val (.int (1 : Int32)), .val (.int (1 : Int32))] [(.int (63 : Int32)), (.int ch12_1)])) t → Steps p.tables e below (s₁.setTop (entryFrame m #[(.ref oa), (.int (1 : Int32))] 3)) t := fun t kt => by
    refine pre3 _ ?_
    refine XS.icmpNo X1.here hx rfl (hb hby d5_7) rfl (own_tlt (a := (1 : Int32)) (b := (4 : Int32)) (by decide) (by decide) hc7_4).2.1 ?_
    refine XS.aloadN X1.here hx rfl (hb hby d5_10) rfl rfl ?_
    show Steps p.tables e below (T1.setTop (mkF m 11 #[.val (.ref oa), .val (.int (1 : Int32)), .val (.int (1 : Int32))] [(.ref oa)])) _
    refine XS.iloadN X1.here hx rfl (hb hby d5_11) rfl ?_
    refine st5.trans ?_
    refine XS.bipush X5.here hx rfl (hb hby d5_15) ?_
    exact kt
  by_cases hc17_6 : ch12_1.toInt = (63 : Int)
  · obtain ⟨fs, hr, hrun, hended, hW, hsame⟩ := X5.leave (v := some (.int (1 : Int32))) (fun h => by rw [Bd.returns] at h; cases h)
    refine ⟨_, _, pre7 _ ?_, hrun, hended, _, _, rfl, ?_, ⟨_, rfl⟩, hW, hsame.mono (by decide) (by decide)⟩
    · show Steps p.tables e below (T5.setTop (mkF m 17 #[.val (.ref oa), .val (.int (1 : Int32)), .val (.int (1 : Int32))] [(.int (63 : Int32)), (.int ch12_1)])) _
      refine XS.icmpYes X5.here hx rfl (pc0 := 17) (pc' := 36) rfl (hb hby d5_17) rfl (own_teq (a := ch12_1) (b := (63 : Int32)) rfl (by decide) hc17_6).1 (by decide) (by decide) ?_
      refine XS.iloadN X5.here hx rfl (hb hby d5_36) rfl ?_
      exact retI X5 hx Bd.returns (hb hby d5_37) hr
    · show Q_pe4_1 Z _ _ _ _ _ _ _ _ _ _ _ _ _ h0 n0 _ T5.heap _
      rw [e5]
      exact ⟨_, rfl, by have s1 : own_stop c1.toInt := (by unfold own_stop; omega); rw [if_pos s1]; decide, N5, rfl⟩
  · obtain ⟨cq8, kq8, q8a, q8b, q8c⟩ := isOf hZ e5 Es
    obtain ⟨_, _, ⟨T8, L8, k8, n8⟩, -, X8, ⟨Lc8, hQ8, l8, y8, z8⟩, st8⟩ := X5.virtualBack hx (y := (⟨"java/lang/String", "charAt", "(I)C"⟩ : MethodName)) (z := (⟨"java/lang/String", "charAt", "(I)C"⟩ : MethodName)) hown (mvT hZ (hw _ (List.mem_of_getElem? (i := 55) rfl))) (mvT hZ (hw _ (List.mem_of_getElem? (i := 56) rfl))) (notFace_of_selects (args := #[]) (mvT hZ (hw _ (List.mem_of_getElem? (i := 58) rfl)))) (mvT hZ (hw _ (List.mem_of_getElem? (i := 58) rfl))) (mvT hZ (hw _ (List.mem_of_getElem? (i := 57) rfl))) (by decide) (backOf (W := 0) (rm_ch1 l Z a0 hw [] oa (1 : Int32) vcs vf ob kb (4 : Int32) [(.int bb0), (.int bb1), (.int bb2), (.int bb3)] bb1 h0 n0 Z0 Os Es Fc Fv Vb (by decide) (by decide) rfl) hZ (hw _ (List.mem_of_getElem? (i := 59) rfl)) (hw _ (List.mem_of_getElem? (i := 7) rfl)) (by decide) (by decide)) q8a q8c (g := (mkF m 22 #[.val (.ref oa), .val (.int (1 : Int32)), .val (.int (1 : Int32))] [(.int (1 : Int32)), (.ref oa)])) rfl (by rw [hml]; rfl) (Steps.refl _) (argsL := [(.int (1 : Int32))]) (rest := []) (lenOf pd_11 rfl) rfl (by show 2 * 0 + _ ≤ _; exact Nat.le_of_eq rfl) (hb hby d5_22) (fun _ _ => ⟨rfl, e5, (by decide : 0 + 0 ≤ _), (by decide : 0 + 0 ≤ _)⟩)
    dsimp only [Pt.U, Pt.locs, Pt.cells, Pt.slots] at X8 l8 y8 z8 st8 hQ8
    rw [l8, y8, z8] at X8
    obtain ⟨ch22_1, rfl, hch22_1, N8q, e8⟩ := hQ8
    have N8 := Fr.app N5 N8q
    have pre10 : ∀ t, Steps p.tables e below (T8.setTop (mkF m 27 #[.val (.ref oa), .val (.int (1 : Int32)), .val (.int (1 : Int32))] [(.int (35 : Int32)), (.int ch22_1)])) t → Steps p.tables e below (s₁.setTop (entryFrame m #[(.ref oa), (.int (1 : Int32))] 3)) t := fun t kt => by
      refine pre7 _ ?_
      show Steps p.tables e below (T5.setTop (mkF m 17 #[.val (.ref oa), .val (.int (1 : Int32)), .val (.int (1 : Int32))] [(.int (63 : Int32)), (.int ch12_1)])) _
      refine XS.icmpNo X5.here hx rfl (hb hby d5_17) rfl (own_feq (a := ch12_1) (b := (63 : Int32)) rfl (by decide) hc17_6).1 ?_
      refine XS.aloadN X5.here hx rfl (hb hby d5_20) rfl rfl ?_
      refine XS.iloadN X5.here hx rfl (hb hby d5_21) rfl ?_
      refine st8.trans ?_
      show Steps p.tables e below (T8.setTop (mkF m 25 #[.val (.ref oa), .val (.int (1 : Int32)), .val (.int (1 : Int32))] [(.int ch22_1)])) _
      refine XS.bipush X8.here hx rfl (hb hby d5_25) ?_
      exact kt
    by_cases hc27_9 : ch22_1.toInt = (35 : Int)
    · obtain ⟨fs, hr, hrun, hended, hW, hsame⟩ := X8.leave (v := some (.int (1 : Int32))) (fun h => by rw [Bd.returns] at h; cases h)
      refine ⟨_, _, pre10 _ ?_, hrun, hended, _, _, rfl, ?_, ⟨_, rfl⟩, hW, hsame.mono (by decide) (by decide)⟩
      · show Steps p.tables e below (T8.setTop (mkF m 27 #[.val (.ref oa), .val (.int (1 : Int32)), .val (.int (1 : Int32))] [(.int (35 : Int32)), (.int ch22_1)])) _
        refine XS.icmpYes X8.here hx rfl (pc0 := 27) (pc' := 36) rfl (hb hby d5_27) rfl (own_teq (a := ch22_1) (b := (35 : Int32)) rfl (by decide) hc27_9).1 (by decide) (by decide) ?_
        refine XS.iloadN X8.here hx rfl (hb hby d5_36) rfl ?_
        exact retI X8 hx Bd.returns (hb hby d5_37) hr
      · show Q_pe4_1 Z _ _ _ _ _ _ _ _ _ _ _ _ _ h0 n0 _ T8.heap _
        rw [e8]
        exact ⟨_, rfl, by have s1 : own_stop c1.toInt := (by unfold own_stop; omega); rw [if_pos s1]; decide, N8, rfl⟩
    · obtain ⟨cq11, kq11, q11a, q11b, q11c⟩ := isOf hZ e8 Es
      obtain ⟨_, _, ⟨T11, L11, k11, n11⟩, -, X11, ⟨Lc11, hQ11, l11, y11, z11⟩, st11⟩ := X8.virtualBack hx (y := (⟨"java/lang/String", "length", "()I"⟩ : MethodName)) (z := (⟨"java/lang/String", "length", "()I"⟩ : MethodName)) hown (mvT hZ (hw _ (List.mem_of_getElem? (i := 31) rfl))) (mvT hZ (hw _ (List.mem_of_getElem? (i := 32) rfl))) (notFace_of_selects (args := #[]) (mvT hZ (hw _ (List.mem_of_getElem? (i := 34) rfl)))) (mvT hZ (hw _ (List.mem_of_getElem? (i := 34) rfl))) (mvT hZ (hw _ (List.mem_of_getElem? (i := 33) rfl))) (by decide) (backOf (W := 1) (rm_len4_0 l Z a0 hw [] oa vcs vf ob kb [(.int bb0), (.int bb1), (.int bb2), (.int bb3)] h0 n0 Z0 Os Es Fc Fv Vb) hZ (hw _ (List.mem_of_getElem? (i := 35) rfl)) (hw _ (List.mem_of_getElem? (i := 7) rfl)) (by decide) (by decide)) q11a q11c (g := (mkF m 4 #[.val (.ref oa), .val (.int (1 : Int32)), .val (.int (2 : Int32))] [(.ref oa), (.int (2 : Int32))])) rfl (by rw [hml]; rfl) (Steps.refl _) (argsL := []) (rest := [(.int (2 : Int32))]) (lenOf pd_10 rfl) rfl (by show 2 * 0 + _ ≤ _; exact Nat.le_of_eq rfl) (hb hby d5_4) (fun _ _ => ⟨rfl, e8, (by decide : 0 + 0 ≤ _), (by decide : 0 + 0 ≤ _)⟩)
      dsimp only [Pt.U, Pt.locs, Pt.cells, Pt.slots] at X11 l11 y11 z11 st11 hQ11
      rw [l11, y11, z11] at X11
      obtain ⟨zl2, rfl, hzl2, N11q, e11⟩ := hQ11
      have N11 := Fr.app N8 N11q
      have pre12 : ∀ t, Steps p.tables e below (T11.setTop (mkF m 7 #[.val (.ref oa), .val (.int (1 : Int32)), .val (.int (2 : Int32))] [(.int zl2), (.int (2 : Int32))])) t → Steps p.tables e below (s₁.setTop (entryFrame m #[(.ref oa), (.int (1 : Int32))] 3)) t := fun t kt => by
        refine pre10 _ ?_
        show Steps p.tables e below (T8.setTop (mkF m 27 #[.val (.ref oa), .val (.int (1 : Int32)), .val (.int (1 : Int32))] [(.int (35 : Int32)), (.int ch22_1)])) _
        refine XS.icmpNo X8.here hx rfl (hb hby d5_27) rfl (own_feq (a := ch22_1) (b := (35 : Int32)) rfl (by decide) hc27_9).1 ?_
        refine XS.iinc X8.here hx rfl (hb hby d5_30) rfl (l' := #[.val (.ref oa), .val (.int (1 : Int32)), .val (.int (2 : Int32))]) rfl ?_
        refine XS.goto X8.here hx rfl (pc0 := 33) (pc' := 2) rfl (hb hby d5_33) (by decide) (by decide) ?_
        refine XS.iloadN X8.here hx rfl (hb hby d5_2) rfl ?_
        refine XS.aloadN X8.here hx rfl (hb hby d5_3) rfl rfl ?_
        refine st11.trans ?_
        exact kt
      subst hzl2
      have pre13 : ∀ t, Steps p.tables e below (T11.setTop (mkF m 7 #[.val (.ref oa), .val (.int (1 : Int32)), .val (.int (2 : Int32))] [(.int (4 : Int32)), (.int (2 : Int32))])) t → Steps p.tables e below (s₁.setTop (entryFrame m #[(.ref oa), (.int (1 : Int32))] 3)) t := pre12
      have hc7_14 : (2 : Int) < (4 : Int) := by decide
      obtain ⟨cq15, kq15, q15a, q15b, q15c⟩ := isOf hZ e11 Es
      obtain ⟨_, _, ⟨T15, L15, k15, n15⟩, -, X15, ⟨Lc15, hQ15, l15, y15, z15⟩, st15⟩ := X11.virtualBack hx (y := (⟨"java/lang/String", "charAt", "(I)C"⟩ : MethodName)) (z := (⟨"java/lang/String", "charAt", "(I)C"⟩ : MethodName)) hown (mvT hZ (hw _ (List.mem_of_getElem? (i := 55) rfl))) (mvT hZ (hw _ (List.mem_of_getElem? (i := 56) rfl))) (notFace_of_selects (args := #[]) (mvT hZ (hw _ (List.mem_of_getElem? (i := 58) rfl)))) (mvT hZ (hw _ (List.mem_of_getElem? (i := 58) rfl))) (mvT hZ (hw _ (List.mem_of_getElem? (i := 57) rfl))) (by decide) (backOf (W := 0) (rm_ch1 l Z a0 hw [] oa (2 : Int32) vcs vf ob kb (4 : Int32) [(.int bb0), (.int bb1), (.int bb2), (.int bb3)] bb2 h0 n0 Z0 Os Es Fc Fv Vb (by decide) (by decide) rfl) hZ (hw _ (List.mem_of_getElem? (i := 59) rfl)) (hw _ (List.mem_of_getElem? (i := 7) rfl)) (by decide) (by decide)) q15a q15c (g := (mkF m 12 #[.val (.ref oa), .val (.int (1 : Int32)), .val (.int (2 : Int32))] [(.int (2 : Int32)), (.ref oa)])) rfl (by rw [hml]; rfl) (Steps.refl _) (argsL := [(.int (2 : Int32))]) (rest := []) (lenOf pd_11 rfl) rfl (by show 2 * 0 + _ ≤ _; exact Nat.le_of_eq rfl) (hb hby d5_12) (fun _ _ => ⟨rfl, e11, (by decide : 0 + 0 ≤ _), (by decide : 0 + 0 ≤ _)⟩)
      dsimp only [Pt.U, Pt.locs, Pt.cells, Pt.slots] at X15 l15 y15 z15 st15 hQ15
      rw [l15, y15, z15] at X15
      obtain ⟨ch12_2, rfl, hch12_2, N15q, e15⟩ := hQ15
      have N15 := Fr.app N11 N15q
      have pre17 : ∀ t, Steps p.tables e below (T15.setTop (mkF m 17 #[.val (.ref oa), .val (.int (1 : Int32)), .val (.int (2 : Int32))] [(.int (63 : Int32)), (.int ch12_2)])) t → Steps p.tables e below (s₁.setTop (entryFrame m #[(.ref oa), (.int (1 : Int32))] 3)) t := fun t kt => by
        refine pre13 _ ?_
        show Steps p.tables e below (T11.setTop (mkF m 7 #[.val (.ref oa), .val (.int (1 : Int32)), .val (.int (2 : Int32))] [(.int (4 : Int32)), (.int (2 : Int32))])) _
        refine XS.icmpNo X11.here hx rfl (hb hby d5_7) rfl (own_tlt (a := (2 : Int32)) (b := (4 : Int32)) (by decide) (by decide) hc7_14).2.1 ?_
        refine XS.aloadN X11.here hx rfl (hb hby d5_10) rfl rfl ?_
        refine XS.iloadN X11.here hx rfl (hb hby d5_11) rfl ?_
        refine st15.trans ?_
        refine XS.bipush X15.here hx rfl (hb hby d5_15) ?_
        exact kt
      by_cases hc17_16 : ch12_2.toInt = (63 : Int)
      · obtain ⟨fs, hr, hrun, hended, hW, hsame⟩ := X15.leave (v := some (.int (2 : Int32))) (fun h => by rw [Bd.returns] at h; cases h)
        refine ⟨_, _, pre17 _ ?_, hrun, hended, _, _, rfl, ?_, ⟨_, rfl⟩, hW, hsame.mono (by decide) (by decide)⟩
        · show Steps p.tables e below (T15.setTop (mkF m 17 #[.val (.ref oa), .val (.int (1 : Int32)), .val (.int (2 : Int32))] [(.int (63 : Int32)), (.int ch12_2)])) _
          refine XS.icmpYes X15.here hx rfl (pc0 := 17) (pc' := 36) rfl (hb hby d5_17) rfl (own_teq (a := ch12_2) (b := (63 : Int32)) rfl (by decide) hc17_16).1 (by decide) (by decide) ?_
          refine XS.iloadN X15.here hx rfl (hb hby d5_36) rfl ?_
          show Steps p.tables e below (T15.setTop (mkF m 37 #[.val (.ref oa), .val (.int (1 : Int32)), .val (.int (2 : Int32))] [(.int (2 : Int32))])) _
          exact retI X15 hx Bd.returns (hb hby d5_37) hr
        · show Q_pe4_1 Z _ _ _ _ _ _ _ _ _ _ _ _ _ h0 n0 _ T15.heap _
          rw [e15]
          exact ⟨_, rfl, by have s1 : ¬ own_stop c1.toInt := (by unfold own_stop; omega); have s2 : own_stop c2.toInt := (by unfold own_stop; omega); rw [if_neg s1, if_pos s2]; decide, N15, rfl⟩
      · obtain ⟨cq18, kq18, q18a, q18b, q18c⟩ := isOf hZ e15 Es
        obtain ⟨_, _, ⟨T18, L18, k18, n18⟩, -, X18, ⟨Lc18, hQ18, l18, y18, z18⟩, st18⟩ := X15.virtualBack hx (y := (⟨"java/lang/String", "charAt", "(I)C"⟩ : MethodName)) (z := (⟨"java/lang/String", "charAt", "(I)C"⟩ : MethodName)) hown (mvT hZ (hw _ (List.mem_of_getElem? (i := 55) rfl))) (mvT hZ (hw _ (List.mem_of_getElem? (i := 56) rfl))) (notFace_of_selects (args := #[]) (mvT hZ (hw _ (List.mem_of_getElem? (i := 58) rfl)))) (mvT hZ (hw _ (List.mem_of_getElem? (i := 58) rfl))) (mvT hZ (hw _ (List.mem_of_getElem? (i := 57) rfl))) (by decide) (backOf (W := 0) (rm_ch1 l Z a0 hw [] oa (2 : Int32) vcs vf ob kb (4 : Int32) [(.int bb0), (.int bb1), (.int bb2), (.int bb3)] bb2 h0 n0 Z0 Os Es Fc Fv Vb (by decide) (by decide) rfl) hZ (hw _ (List.mem_of_getElem? (i := 59) rfl)) (hw _ (List.mem_of_getElem? (i := 7) rfl)) (by decide) (by decide)) q18a q18c (g := (mkF m 22 #[.val (.ref oa), .val (.int (1 : Int32)), .val (.int (2 : Int32))] [(.int (2 : Int32)), (.ref oa)])) rfl (by rw [hml]; rfl) (Steps.refl _) (argsL := [(.int (2 : Int32))]) (rest := []) (lenOf pd_11 rfl) rfl (by show 2 * 0 + _ ≤ _; exact Nat.le_of_eq rfl) (hb hby d5_22) (fun _ _ => ⟨rfl, e15, (by decide : 0 + 0 ≤ _), (by decide : 0 + 0 ≤ _)⟩)
        dsimp only [Pt.U, Pt.locs, Pt.cells, Pt.slots] at X18 l18 y18 z18 st18 hQ18
        rw [l18, y18, z18] at X18
        obtain ⟨ch22_2, rfl, hch22_2, N18q, e18⟩ := hQ18
        have N18 := Fr.app N15 N18q
        have pre20 : ∀ t, Steps p.tables e below (T18.setTop (mkF m 27 #[.val (.ref oa), .val (.int (1 : Int32)), .val (.int (2 : Int32))] [(.int (35 : Int32)), (.int ch22_2)])) t → Steps p.tables e below (s₁.setTop (entryFrame m #[(.ref oa), (.int (1 : Int32))] 3)) t := fun t kt => by
          refine pre17 _ ?_
          show Steps p.tables e below (T15.setTop (mkF m 17 #[.val (.ref oa), .val (.int (1 : Int32)), .val (.int (2 : Int32))] [(.int (63 : Int32)), (.int ch12_2)])) _
          refine XS.icmpNo X15.here hx rfl (hb hby d5_17) rfl (own_feq (a := ch12_2) (b := (63 : Int32)) rfl (by decide) hc17_16).1 ?_
          refine XS.aloadN X15.here hx rfl (hb hby d5_20) rfl rfl ?_
          show Steps p.tables e below (T15.setTop (mkF m 21 #[.val (.ref oa), .val (.int (1 : Int32)), .val (.int (2 : Int32))] [(.ref oa)])) _
          refine XS.iloadN X15.here hx rfl (hb hby d5_21) rfl ?_
          refine st18.trans ?_
          refine XS.bipush X18.here hx rfl (hb hby d5_25) ?_
          exact kt
        by_cases hc27_19 : ch22_2.toInt = (35 : Int)
        · obtain ⟨fs, hr, hrun, hended, hW, hsame⟩ := X18.leave (v := some (.int (2 : Int32))) (fun h => by rw [Bd.returns] at h; cases h)
          refine ⟨_, _, pre20 _ ?_, hrun, hended, _, _, rfl, ?_, ⟨_, rfl⟩, hW, hsame.mono (by decide) (by decide)⟩
          · show Steps p.tables e below (T18.setTop (mkF m 27 #[.val (.ref oa), .val (.int (1 : Int32)), .val (.int (2 : Int32))] [(.int (35 : Int32)), (.int ch22_2)])) _
            refine XS.icmpYes X18.here hx rfl (pc0 := 27) (pc' := 36) rfl (hb hby d5_27) rfl (own_teq (a := ch22_2) (b := (35 : Int32)) rfl (by decide) hc27_19).1 (by decide) (by decide) ?_
            refine XS.iloadN X18.here hx rfl (hb hby d5_36) rfl ?_
            exact retI X18 hx Bd.returns (hb hby d5_37) hr
          · show Q_pe4_1 Z _ _ _ _ _ _ _ _ _ _ _ _ _ h0 n0 _ T18.heap _
            rw [e18]
            exact ⟨_, rfl, by have s1 : ¬ own_stop c1.toInt := (by unfold own_stop; omega); have s2 : own_stop c2.toInt := (by unfold own_stop; omega); rw [if_neg s1, if_pos s2]; decide, N18, rfl⟩
        · obtain ⟨cq21, kq21, q21a, q21b, q21c⟩ := isOf hZ e18 Es
          obtain ⟨_, _, ⟨T21, L21, k21, n21⟩, -, X21, ⟨Lc21, hQ21, l21, y21, z21⟩, st21⟩ := X18.virtualBack hx (y := (⟨"java/lang/String", "length", "()I"⟩ : MethodName)) (z := (⟨"java/lang/String", "length", "()I"⟩ : MethodName)) hown (mvT hZ (hw _ (List.mem_of_getElem? (i := 31) rfl))) (mvT hZ (hw _ (List.mem_of_getElem? (i := 32) rfl))) (notFace_of_selects (args := #[]) (mvT hZ (hw _ (List.mem_of_getElem? (i := 34) rfl)))) (mvT hZ (hw _ (List.mem_of_getElem? (i := 34) rfl))) (mvT hZ (hw _ (List.mem_of_getElem? (i := 33) rfl))) (by decide) (backOf (W := 1) (rm_len4_0 l Z a0 hw [] oa vcs vf ob kb [(.int bb0), (.int bb1), (.int bb2), (.int bb3)] h0 n0 Z0 Os Es Fc Fv Vb) hZ (hw _ (List.mem_of_getElem? (i := 35) rfl)) (hw _ (List.mem_of_getElem? (i := 7) rfl)) (by decide) (by decide)) q21a q21c (g := (mkF m 4 #[.val (.ref oa), .val (.int (1 : Int32)), .val (.int (3 : Int32))] [(.ref oa), (.int (3 : Int32))])) rfl (by rw [hml]; rfl) (Steps.refl _) (argsL := []) (rest := [(.int (3 : Int32))]) (lenOf pd_10 rfl) rfl (by show 2 * 0 + _ ≤ _; exact Nat.le_of_eq rfl) (hb hby d5_4) (fun _ _ => ⟨rfl, e18, (by decide : 0 + 0 ≤ _), (by decide : 0 + 0 ≤ _)⟩)
          dsimp only [Pt.U, Pt.locs, Pt.cells, Pt.slots] at X21 l21 y21 z21 st21 hQ21
          rw [l21, y21, z21] at X21
          obtain ⟨zl3, rfl, hzl3, N21q, e21⟩ := hQ21
          have N21 := Fr.app N18 N21q
          have pre22 : ∀ t, Steps p.tables e below (T21.setTop (mkF m 7 #[.val (.ref oa), .val (.int (1 : Int32)), .val (.int (3 : Int32))] [(.int zl3), (.int (3 : Int32))])) t → Steps p.tables e below (s₁.setTop (entryFrame m #[(.ref oa), (.int (1 : Int32))] 3)) t := fun t kt => by
            refine pre20 _ ?_
            show Steps p.tables e below (T18.setTop (mkF m 27 #[.val (.ref oa), .val (.int (1 : Int32)), .val (.int (2 : Int32))] [(.int (35 : Int32)), (.int ch22_2)])) _
            refine XS.icmpNo X18.here hx rfl (hb hby d5_27) rfl (own_feq (a := ch22_2) (b := (35 : Int32)) rfl (by decide) hc27_19).1 ?_
            refine XS.iinc X18.here hx rfl (hb hby d5_30) rfl (l' := #[.val (.ref oa), .val (.int (1 : Int32)), .val (.int (3 : Int32))]) rfl ?_
            refine XS.goto X18.here hx rfl (pc0 := 33) (pc' := 2) rfl (hb hby d5_33) (by decide) (by decide) ?_
            refine XS.iloadN X18.here hx rfl (hb hby d5_2) rfl ?_
            show Steps p.tables e below (T18.setTop (mkF m 3 #[.val (.ref oa), .val (.int (1 : Int32)), .val (.int (3 : Int32))] [(.int (3 : Int32))])) _
            refine XS.aloadN X18.here hx rfl (hb hby d5_3) rfl rfl ?_
            refine st21.trans ?_
            exact kt
          subst hzl3
          have pre23 : ∀ t, Steps p.tables e below (T21.setTop (mkF m 7 #[.val (.ref oa), .val (.int (1 : Int32)), .val (.int (3 : Int32))] [(.int (4 : Int32)), (.int (3 : Int32))])) t → Steps p.tables e below (s₁.setTop (entryFrame m #[(.ref oa), (.int (1 : Int32))] 3)) t := pre22
          have hc7_24 : (3 : Int) < (4 : Int) := by decide
          obtain ⟨cq25, kq25, q25a, q25b, q25c⟩ := isOf hZ e21 Es
          obtain ⟨_, _, ⟨T25, L25, k25, n25⟩, -, X25, ⟨Lc25, hQ25, l25, y25, z25⟩, st25⟩ := X21.virtualBack hx (y := (⟨"java/lang/String", "charAt", "(I)C"⟩ : MethodName)) (z := (⟨"java/lang/String", "charAt", "(I)C"⟩ : MethodName)) hown (mvT hZ (hw _ (List.mem_of_getElem? (i := 55) rfl))) (mvT hZ (hw _ (List.mem_of_getElem? (i := 56) rfl))) (notFace_of_selects (args := #[]) (mvT hZ (hw _ (List.mem_of_getElem? (i := 58) rfl)))) (mvT hZ (hw _ (List.mem_of_getElem? (i := 58) rfl))) (mvT hZ (hw _ (List.mem_of_getElem? (i := 57) rfl))) (by decide) (backOf (W := 0) (rm_ch1 l Z a0 hw [] oa (3 : Int32) vcs vf ob kb (4 : Int32) [(.int bb0), (.int bb1), (.int bb2), (.int bb3)] bb3 h0 n0 Z0 Os Es Fc Fv Vb (by decide) (by decide) rfl) hZ (hw _ (List.mem_of_getElem? (i := 59) rfl)) (hw _ (List.mem_of_getElem? (i := 7) rfl)) (by decide) (by decide)) q25a q25c (g := (mkF m 12 #[.val (.ref oa), .val (.int (1 : Int32)), .val (.int (3 : Int32))] [(.int (3 : Int32)), (.ref oa)])) rfl (by rw [hml]; rfl) (Steps.refl _) (argsL := [(.int (3 : Int32))]) (rest := []) (lenOf pd_11 rfl) rfl (by show 2 * 0 + _ ≤ _; exact Nat.le_of_eq rfl) (hb hby d5_12) (fun _ _ => ⟨rfl, e21, (by decide : 0 + 0 ≤ _), (by decide : 0 + 0 ≤ _)⟩)
          dsimp only [Pt.U, Pt.locs, Pt.cells, Pt.slots] at X25 l25 y25 z25 st25 hQ25
          rw [l25, y25, z25] at X25
          obtain ⟨ch12_3, rfl, hch12_3, N25q, e25⟩ := hQ25
          have N25 := Fr.app N21 N25q
          have pre27 : ∀ t, Steps p.tables e below (T25.setTop (mkF m 17 #[.val (.ref oa), .val (.int (1 : Int32)), .val (.int (3 : Int32))] [(.int (63 : Int32)), (.int ch12_3)])) t → Steps p.tables e below (s₁.setTop (entryFrame m #[(.ref oa), (.int (1 : Int32))] 3)) t := fun t kt => by
            refine pre23 _ ?_
            refine XS.icmpNo X21.here hx rfl (hb hby d5_7) rfl (own_tlt (a := (3 : Int32)) (b := (4 : Int32)) (by decide) (by decide) hc7_24).2.1 ?_
            refine XS.aloadN X21.here hx rfl (hb hby d5_10) rfl rfl ?_
            refine XS.iloadN X21.here hx rfl (hb hby d5_11) rfl ?_
            refine st25.trans ?_
            refine XS.bipush X25.here hx rfl (hb hby d5_15) ?_
            exact kt
          by_cases hc17_26 : ch12_3.toInt = (63 : Int)
          · obtain ⟨fs, hr, hrun, hended, hW, hsame⟩ := X25.leave (v := some (.int (3 : Int32))) (fun h => by rw [Bd.returns] at h; cases h)
            refine ⟨_, _, pre27 _ ?_, hrun, hended, _, _, rfl, ?_, ⟨_, rfl⟩, hW, hsame.mono (by decide) (by decide)⟩
            · show Steps p.tables e below (T25.setTop (mkF m 17 #[.val (.ref oa), .val (.int (1 : Int32)), .val (.int (3 : Int32))] [(.int (63 : Int32)), (.int ch12_3)])) _
              refine XS.icmpYes X25.here hx rfl (pc0 := 17) (pc' := 36) rfl (hb hby d5_17) rfl (own_teq (a := ch12_3) (b := (63 : Int32)) rfl (by decide) hc17_26).1 (by decide) (by decide) ?_
              refine XS.iloadN X25.here hx rfl (hb hby d5_36) rfl ?_
              exact retI X25 hx Bd.returns (hb hby d5_37) hr
            · show Q_pe4_1 Z _ _ _ _ _ _ _ _ _ _ _ _ _ h0 n0 _ T25.heap _
              rw [e25]
              exact ⟨_, rfl, by have s1 : ¬ own_stop c1.toInt := (by unfold own_stop; omega); have s2 : ¬ own_stop c2.toInt := (by unfold own_stop; omega); have s3 : own_stop c3.toInt := (by unfold own_stop; omega); rw [if_neg s1, if_neg s2, if_pos s3]; decide, N25, rfl⟩
          · obtain ⟨cq28, kq28, q28a, q28b, q28c⟩ := isOf hZ e25 Es
            obtain ⟨_, _, ⟨T28, L28, k28, n28⟩, -, X28, ⟨Lc28, hQ28, l28, y28, z28⟩, st28⟩ := X25.virtualBack hx (y := (⟨"java/lang/String", "charAt", "(I)C"⟩ : MethodName)) (z := (⟨"java/lang/String", "charAt", "(I)C"⟩ : MethodName)) hown (mvT hZ (hw _ (List.mem_of_getElem? (i := 55) rfl))) (mvT hZ (hw _ (List.mem_of_getElem? (i := 56) rfl))) (notFace_of_selects (args := #[]) (mvT hZ (hw _ (List.mem_of_getElem? (i := 58) rfl)))) (mvT hZ (hw _ (List.mem_of_getElem? (i := 58) rfl))) (mvT hZ (hw _ (List.mem_of_getElem? (i := 57) rfl))) (by decide) (backOf (W := 0) (rm_ch1 l Z a0 hw [] oa (3 : Int32) vcs vf ob kb (4 : Int32) [(.int bb0), (.int bb1), (.int bb2), (.int bb3)] bb3 h0 n0 Z0 Os Es Fc Fv Vb (by decide) (by decide) rfl) hZ (hw _ (List.mem_of_getElem? (i := 59) rfl)) (hw _ (List.mem_of_getElem? (i := 7) rfl)) (by decide) (by decide)) q28a q28c (g := (mkF m 22 #[.val (.ref oa), .val (.int (1 : Int32)), .val (.int (3 : Int32))] [(.int (3 : Int32)), (.ref oa)])) rfl (by rw [hml]; rfl) (Steps.refl _) (argsL := [(.int (3 : Int32))]) (rest := []) (lenOf pd_11 rfl) rfl (by show 2 * 0 + _ ≤ _; exact Nat.le_of_eq rfl) (hb hby d5_22) (fun _ _ => ⟨rfl, e25, (by decide : 0 + 0 ≤ _), (by decide : 0 + 0 ≤ _)⟩)
            dsimp only [Pt.U, Pt.locs, Pt.cells, Pt.slots] at X28 l28 y28 z28 st28 hQ28
            rw [l28, y28, z28] at X28
            obtain ⟨ch22_3, rfl, hch22_3, N28q, e28⟩ := hQ28
            have N28 := Fr.app N25 N28q
            have pre30 : ∀ t, Steps p.tables e below (T28.setTop (mkF m 27 #[.val (.ref oa), .val (.int (1 : Int32)), .val (.int (3 : Int32))] [(.int (35 : Int32)), (.int ch22_3)])) t → Steps p.tables e below (s₁.setTop (entryFrame m #[(.ref oa), (.int (1 : Int32))] 3)) t := fun t kt => by
              refine pre27 _ ?_
              show Steps p.tables e below (T25.setTop (mkF m 17 #[.val (.ref oa), .val (.int (1 : Int32)), .val (.int (3 : Int32))] [(.int (63 : Int32)), (.int ch12_3)])) _
              refine XS.icmpNo X25.here hx rfl (hb hby d5_17) rfl (own_feq (a := ch12_3) (b := (63 : Int32)) rfl (by decide) hc17_26).1 ?_
              refine XS.aloadN X25.here hx rfl (hb hby d5_20) rfl rfl ?_
              refine XS.iloadN X25.here hx rfl (hb hby d5_21) rfl ?_
              refine st28.trans ?_
              refine XS.bipush X28.here hx rfl (hb hby d5_25) ?_
              exact kt
            by_cases hc27_29 : ch22_3.toInt = (35 : Int)
            · obtain ⟨fs, hr, hrun, hended, hW, hsame⟩ := X28.leave (v := some (.int (3 : Int32))) (fun h => by rw [Bd.returns] at h; cases h)
              refine ⟨_, _, pre30 _ ?_, hrun, hended, _, _, rfl, ?_, ⟨_, rfl⟩, hW, hsame.mono (by decide) (by decide)⟩
              · show Steps p.tables e below (T28.setTop (mkF m 27 #[.val (.ref oa), .val (.int (1 : Int32)), .val (.int (3 : Int32))] [(.int (35 : Int32)), (.int ch22_3)])) _
                refine XS.icmpYes X28.here hx rfl (pc0 := 27) (pc' := 36) rfl (hb hby d5_27) rfl (own_teq (a := ch22_3) (b := (35 : Int32)) rfl (by decide) hc27_29).1 (by decide) (by decide) ?_
                refine XS.iloadN X28.here hx rfl (hb hby d5_36) rfl ?_
                show Steps p.tables e below (T28.setTop (mkF m 37 #[.val (.ref oa), .val (.int (1 : Int32)), .val (.int (3 : Int32))] [(.int (3 : Int32))])) _
                exact retI X28 hx Bd.returns (hb hby d5_37) hr
              · show Q_pe4_1 Z _ _ _ _ _ _ _ _ _ _ _ _ _ h0 n0 _ T28.heap _
                rw [e28]
                exact ⟨_, rfl, by have s1 : ¬ own_stop c1.toInt := (by unfold own_stop; omega); have s2 : ¬ own_stop c2.toInt := (by unfold own_stop; omega); have s3 : own_stop c3.toInt := (by unfold own_stop; omega); rw [if_neg s1, if_neg s2, if_pos s3]; decide, N28, rfl⟩
            · obtain ⟨cq31, kq31, q31a, q31b, q31c⟩ := isOf hZ e28 Es
              obtain ⟨_, _, ⟨T31, L31, k31, n31⟩, -, X31, ⟨Lc31, hQ31, l31, y31, z31⟩, st31⟩ := X28.virtualBack hx (y := (⟨"java/lang/String", "length", "()I"⟩ : MethodName)) (z := (⟨"java/lang/String", "length", "()I"⟩ : MethodName)) hown (mvT hZ (hw _ (List.mem_of_getElem? (i := 31) rfl))) (mvT hZ (hw _ (List.mem_of_getElem? (i := 32) rfl))) (notFace_of_selects (args := #[]) (mvT hZ (hw _ (List.mem_of_getElem? (i := 34) rfl)))) (mvT hZ (hw _ (List.mem_of_getElem? (i := 34) rfl))) (mvT hZ (hw _ (List.mem_of_getElem? (i := 33) rfl))) (by decide) (backOf (W := 1) (rm_len4_0 l Z a0 hw [] oa vcs vf ob kb [(.int bb0), (.int bb1), (.int bb2), (.int bb3)] h0 n0 Z0 Os Es Fc Fv Vb) hZ (hw _ (List.mem_of_getElem? (i := 35) rfl)) (hw _ (List.mem_of_getElem? (i := 7) rfl)) (by decide) (by decide)) q31a q31c (g := (mkF m 4 #[.val (.ref oa), .val (.int (1 : Int32)), .val (.int (4 : Int32))] [(.ref oa), (.int (4 : Int32))])) rfl (by rw [hml]; rfl) (Steps.refl _) (argsL := []) (rest := [(.int (4 : Int32))]) (lenOf pd_10 rfl) rfl (by show 2 * 0 + _ ≤ _; exact Nat.le_of_eq rfl) (hb hby d5_4) (fun _ _ => ⟨rfl, e28, (by decide : 0 + 0 ≤ _), (by decide : 0 + 0 ≤ _)⟩)
              dsimp only [Pt.U, Pt.locs, Pt.cells, Pt.slots] at X31 l31 y31 z31 st31 hQ31
              rw [l31, y31, z31] at X31
              obtain ⟨zl4, rfl, hzl4, N31q, e31⟩ := hQ31
              have N31 := Fr.app N28 N31q
              have pre32 : ∀ t, Steps p.tables e below (T31.setTop (mkF m 7 #[.val (.ref oa), .val (.int (1 : Int32)), .val (.int (4 : Int32))] [(.int zl4), (.int (4 : Int32))])) t → Steps p.tables e below (s₁.setTop (entryFrame m #[(.ref oa), (.int (1 : Int32))] 3)) t := fun t kt => by
                refine pre30 _ ?_
                show Steps p.tables e below (T28.setTop (mkF m 27 #[.val (.ref oa), .val (.int (1 : Int32)), .val (.int (3 : Int32))] [(.int (35 : Int32)), (.int ch22_3)])) _
                refine XS.icmpNo X28.here hx rfl (hb hby d5_27) rfl (own_feq (a := ch22_3) (b := (35 : Int32)) rfl (by decide) hc27_29).1 ?_
                refine XS.iinc X28.here hx rfl (hb hby d5_30) rfl (l' := #[.val (.ref oa), .val (.int (1 : Int32)), .val (.int (4 : Int32))]) rfl ?_
                show Steps p.tables e below (T28.setTop (mkF m 33 #[.val (.ref oa), .val (.int (1 : Int32)), .val (.int (4 : Int32))] [])) _
                refine XS.goto X28.here hx rfl (pc0 := 33) (pc' := 2) rfl (hb hby d5_33) (by decide) (by decide) ?_
                refine XS.iloadN X28.here hx rfl (hb hby d5_2) rfl ?_
                refine XS.aloadN X28.here hx rfl (hb hby d5_3) rfl rfl ?_
                refine st31.trans ?_
                exact kt
              subst hzl4
              have pre33 : ∀ t, Steps p.tables e below (T31.setTop (mkF m 7 #[.val (.ref oa), .val (.int (1 : Int32)), .val (.int (4 : Int32))] [(.int (4 : Int32)), (.int (4 : Int32))])) t → Steps p.tables e below (s₁.setTop (entryFrame m #[(.ref oa), (.int (1 : Int32))] 3)) t := pre32
              have hc7_34 : ¬ ((4 : Int) < (4 : Int)) := by decide
              obtain ⟨fs, hr, hrun, hended, hW, hsame⟩ := X31.leave (v := some (.int (4 : Int32))) (fun h => by rw [Bd.returns] at h; cases h)
              refine ⟨_, _, pre33 _ ?_, hrun, hended, _, _, rfl, ?_, ⟨_, rfl⟩, hW, hsame.mono (by decide) (by decide)⟩
              · refine XS.icmpYes X31.here hx rfl (pc0 := 7) (pc' := 36) rfl (hb hby d5_7) rfl (own_flt (a := (4 : Int32)) (b := (4 : Int32)) (by decide) (by decide) hc7_34).2.1 (by decide) (by decide) ?_
                refine XS.iloadN X31.here hx rfl (hb hby d5_36) rfl ?_
                exact retI X31 hx Bd.returns (hb hby d5_37) hr
              · show Q_pe4_1 Z _ _ _ _ _ _ _ _ _ _ _ _ _ h0 n0 _ T31.heap _
                rw [e31]
                exact ⟨_, rfl, by have s1 : ¬ own_stop c1.toInt := (by unfold own_stop; omega); have s2 : ¬ own_stop c2.toInt := (by unfold own_stop; omega); have s3 : ¬ own_stop c3.toInt := (by unfold own_stop; omega); rw [if_neg s1, if_neg s2, if_neg s3]; decide, N31, rfl⟩
theorem ef_rm_pe4_2 (m : MethodId) (x0 : Addr) : entryFrame m #[(.ref x0), (.int (2 : Int32))] 3 = mkF m 0 #[.val (.ref x0), .val (.int (2 : Int32)), .unset] [] := by first | (simp [entryFrame, mkF, argsToLocals, Value.category]; done) | rfl
def Q_pe4_2 (Z : State) (oa : Addr) (vcs : Int32) (vf : Value) (ob : Addr) (kb : ClassId) (bb0 : Int32) (bb1 : Int32) (bb2 : Int32) (bb3 : Int32) (c0 : Int32) (c1 : Int32) (c2 : Int32) (c3 : Int32) (h0 : Heap) (n0 : Nat) (v : Option Value) (h : Heap) (L : List Loc) : Prop := ∃ z : Int32, v = some (.int z) ∧ (z.toInt = (if own_stop c2.toInt then (2 : Int) else (if own_stop c3.toInt then (3 : Int) else (4 : Int)))) ∧ Fr n0 L ∧ h = h0
set_option maxRecDepth 65536 in
set_option maxHeartbeats 40000000 in
theorem rm_pe4_2 (l : Launch) (Z : State) (a0 : Array Value) (hw : ∀ d ∈ tables_1, d.before a0 Z = true) (ws : List Jvm.Cond) (oa : Addr) (vcs : Int32) (vf : Value) (ob : Addr) (kb : ClassId) (bb0 : Int32) (bb1 : Int32) (bb2 : Int32) (bb3 : Int32) (c0 : Int32) (c1 : Int32) (c2 : Int32) (c3 : Int32) (h0 : Heap) (n0 : Nat) (Z0 : n0 ≤ h0.size) (Os : own_st Z h0 vcs vf) (Es : Exa Z h0 oa "java/lang/String") (Fc : Fld Z h0 oa "java/lang/String" "coder" "B" (.int (0 : Int32))) (Fv : Fld Z h0 oa "java/lang/String" "value" "[B" (.ref ob)) (Vb : Arv Z h0 ob kb .byte (4 : Int32) [(.int bb0), (.int bb1), (.int bb2), (.int bb3)] (.int (0 : Int32))) (qbb0 : bb0.toInt % 256 = c0.toInt) (qbb1 : bb1.toInt % 256 = c1.toInt) (qbb2 : bb2.toInt % 256 = c2.toInt) (qbb3 : bb3.toInt % 256 = c3.toInt) :
    MetFree l (⟨"com/example/path_template_matcher/pathtemplatematcher/UriReference", "pathEnd", "(Ljava/lang/String;I)I"⟩ : MethodName) (head1 (Jvm.Cond.code (⟨"com/example/path_template_matcher/pathtemplatematcher/UriReference", "pathEnd", "(Ljava/lang/String;I)I"⟩ : MethodName) prog_36_method_4_code 3 (some .int) :: ws) ({ frames := 4, cells := 0, slots := 0, locals := 53 } : Room)) (fun a U => a = #[(.ref oa), (.int (2 : Int32))] ∧ Z.Warmed39 U.vm ∧ U.heap = h0) (fun _ _ _ _ _ => True) (fun _ U o U' => ∃ v L, o = .returned v ∧ Q_pe4_2 Z oa vcs vf ob kb bb0 bb1 bb2 bb3 c0 c1 c2 c3 h0 n0 v U'.heap L ∧ FrameEnd U o U' L ({ frames := 4, cells := 0, slots := 0, locals := 53 } : Room).cells ({ frames := 4, cells := 0, slots := 0, locals := 53 } : Room).slots) := by
  refine MetFree.of_bodySF (plainFor_of_name pn_5) hisR ?_
  intro p e s m args below meth c s₁ Bd hml0 hP hK
  obtain ⟨rfl, hZ, hh⟩ := hP
  have hx := Bd.exec
  have hby := Bd.bytes
  have hml : c.maxLocals = 3 := hml0
  have hown : s.vm.findClass "com/example/path_template_matcher/pathtemplatematcher/UriReference" = some m.cls := findClass_of_methodNamed Bd.named
  have hnm := (name_of_methodNamed Bd.named Bd.method).1
  have X0 : Stand p l e ({ frames := 4, cells := 0, slots := 0, locals := 53 } : Room) s m #[(.ref oa), (.int (2 : Int32))] below meth c s₁ [] 0 0 := Stand.of_body Bd
  have e0 : s₁.heap = h0 := by rw [← hh, Bd.state]; rfl
  have N0 := Fr.nil n0
  have pre0 : ∀ t, Steps p.tables e below (s₁.setTop (mkF m 0 #[.val (.ref oa), .val (.int (2 : Int32)), .unset] [])) t → Steps p.tables e below (s₁.setTop (entryFrame m #[(.ref oa), (.int (2 : Int32))] 3)) t := fun t k => castTop (ef_rm_pe4_2 m oa) k
  obtain ⟨cq1, kq1, q1a, q1b, q1c⟩ := isOf hZ e0 Es
  obtain ⟨_, _, ⟨T1, L1, k1, n1⟩, -, X1, ⟨Lc1, hQ1, l1, y1, z1⟩, st1⟩ := X0.virtualBack hx (y := (⟨"java/lang/String", "length", "()I"⟩ : MethodName)) (z := (⟨"java/lang/String", "length", "()I"⟩ : MethodName)) hown (mvT hZ (hw _ (List.mem_of_getElem? (i := 31) rfl))) (mvT hZ (hw _ (List.mem_of_getElem? (i := 32) rfl))) (notFace_of_selects (args := #[]) (mvT hZ (hw _ (List.mem_of_getElem? (i := 34) rfl)))) (mvT hZ (hw _ (List.mem_of_getElem? (i := 34) rfl))) (mvT hZ (hw _ (List.mem_of_getElem? (i := 33) rfl))) (by decide) (backOf (W := 1) (rm_len4_0 l Z a0 hw [] oa vcs vf ob kb [(.int bb0), (.int bb1), (.int bb2), (.int bb3)] h0 n0 Z0 Os Es Fc Fv Vb) hZ (hw _ (List.mem_of_getElem? (i := 35) rfl)) (hw _ (List.mem_of_getElem? (i := 7) rfl)) (by decide) (by decide)) q1a q1c (g := (mkF m 4 #[.val (.ref oa), .val (.int (2 : Int32)), .val (.int (2 : Int32))] [(.ref oa), (.int (2 : Int32))])) rfl (by rw [hml]; rfl) (Steps.refl _) (argsL := []) (rest := [(.int (2 : Int32))]) (lenOf pd_10 rfl) rfl (by show 2 * 0 + _ ≤ _; exact Nat.le_of_eq rfl) (hb hby d5_4) (fun _ _ => ⟨rfl, e0, (by decide : 0 + 0 ≤ _), (by decide : 0 + 0 ≤ _)⟩)
  dsimp only [Pt.U, Pt.locs, Pt.cells, Pt.slots] at X1 l1 y1 z1 st1 hQ1
  rw [l1, y1, z1] at X1
  obtain ⟨zl1, rfl, hzl1, N1q, e1⟩ := hQ1
  have N1 := Fr.app N0 N1q
  have pre2 : ∀ t, Steps p.tables e below (T1.setTop (mkF m 7 #[.val (.ref oa), .val (.int (2 : Int32)), .val (.int (2 : Int32))] [(.int zl1), (.int (2 : Int32))])) t → Steps p.tables e below (s₁.setTop (entryFrame m #[(.ref oa), (.int (2 : Int32))] 3)) t := fun t kt => by
    refine pre0 _ ?_
    refine XS.iloadN X0.here hx rfl (hb hby d5_0) rfl ?_
    refine XS.istoreN X0.here hx rfl (hb hby d5_1) rfl (l' := #[.val (.ref oa), .val (.int (2 : Int32)), .val (.int (2 : Int32))]) rfl ?_
    refine XS.iloadN X0.here hx rfl (hb hby d5_2) rfl ?_
    refine XS.aloadN X0.here hx rfl (hb hby d5_3) rfl rfl ?_
    refine st1.trans ?_
    exact kt
  subst hzl1
  have pre3 : ∀ t, Steps p.tables e below (T1.setTop (mkF m 7 #[.val (.ref oa), .val (.int (2 : Int32)), .val (.int (2 : Int32))] [(.int (4 : Int32)), (.int (2 : Int32))])) t → Steps p.tables e below (s₁.setTop (entryFrame m #[(.ref oa), (.int (2 : Int32))] 3)) t := pre2
  have hc7_4 : (2 : Int) < (4 : Int) := by decide
  obtain ⟨cq5, kq5, q5a, q5b, q5c⟩ := isOf hZ e1 Es
  obtain ⟨_, _, ⟨T5, L5, k5, n5⟩, -, X5, ⟨Lc5, hQ5, l5, y5, z5⟩, st5⟩ := X1.virtualBack hx (y := (⟨"java/lang/String", "charAt", "(I)C"⟩ : MethodName)) (z := (⟨"java/lang/String", "charAt", "(I)C"⟩ : MethodName)) hown (mvT hZ (hw _ (List.mem_of_getElem? (i := 55) rfl))) (mvT hZ (hw _ (List.mem_of_getElem? (i := 56) rfl))) (notFace_of_selects (args := #[]) (mvT hZ (hw _ (List.mem_of_getElem? (i := 58) rfl)))) (mvT hZ (hw _ (List.mem_of_getElem? (i := 58) rfl))) (mvT hZ (hw _ (List.mem_of_getElem? (i := 57) rfl))) (by decide) (backOf (W := 0) (rm_ch1 l Z a0 hw [] oa (2 : Int32) vcs vf ob kb (4 : Int32) [(.int bb0), (.int bb1), (.int bb2), (.int bb3)] bb2 h0 n0 Z0 Os Es Fc Fv Vb (by decide) (by decide) rfl) hZ (hw _ (List.mem_of_getElem? (i := 59) rfl)) (hw _ (List.mem_of_getElem? (i := 7) rfl)) (by decide) (by decide)) q5a q5c (g := (mkF m 12 #[.val (.ref oa), .val (.int (2 : Int32)), .val (.int (2 : Int32))] [(.int (2 : Int32)), (.ref oa)])) rfl (by rw [hml]; rfl) (Steps.refl _) (argsL := [(.int (2 : Int32))]) (rest := []) (lenOf pd_11 rfl) rfl (by show 2 * 0 + _ ≤ _; exact Nat.le_of_eq rfl) (hb hby d5_12) (fun _ _ => ⟨rfl, e1, (by decide : 0 + 0 ≤ _), (by decide : 0 + 0 ≤ _)⟩)
  dsimp only [Pt.U, Pt.locs, Pt.cells, Pt.slots] at X5 l5 y5 z5 st5 hQ5
  rw [l5, y5, z5] at X5
  obtain ⟨ch12_2, rfl, hch12_2, N5q, e5⟩ := hQ5
  have N5 := Fr.app N1 N5q
  have pre7 : ∀ t, Steps p.tables e below (T5.setTop (mkF m 17 #[.val (.ref oa), .val (.int (2 : Int32)), .val (.int (2 : Int32))] [(.int (63 : Int32)), (.int ch12_2)])) t → Steps p.tables e below (s₁.setTop (entryFrame m #[(.ref oa), (.int (2 : Int32))] 3)) t := fun t kt => by
    refine pre3 _ ?_
    refine XS.icmpNo X1.here hx rfl (hb hby d5_7) rfl (own_tlt (a := (2 : Int32)) (b := (4 : Int32)) (by decide) (by decide) hc7_4).2.1 ?_
    refine XS.aloadN X1.here hx rfl (hb hby d5_10) rfl rfl ?_
    show Steps p.tables e below (T1.setTop (mkF m 11 #[.val (.ref oa), .val (.int (2 : Int32)), .val (.int (2 : Int32))] [(.ref oa)])) _
    refine XS.iloadN X1.here hx rfl (hb hby d5_11) rfl ?_
    refine st5.trans ?_
    refine XS.bipush X5.here hx rfl (hb hby d5_15) ?_
    exact kt
  by_cases hc17_6 : ch12_2.toInt = (63 : Int)
  · obtain ⟨fs, hr, hrun, hended, hW, hsame⟩ := X5.leave (v := some (.int (2 : Int32))) (fun h => by rw [Bd.returns] at h; cases h)
    refine ⟨_, _, pre7 _ ?_, hrun, hended, _, _, rfl, ?_, ⟨_, rfl⟩, hW, hsame.mono (by decide) (by decide)⟩
    · show Steps p.tables e below (T5.setTop (mkF m 17 #[.val (.ref oa), .val (.int (2 : Int32)), .val (.int (2 : Int32))] [(.int (63 : Int32)), (.int ch12_2)])) _
      refine XS.icmpYes X5.here hx rfl (pc0 := 17) (pc' := 36) rfl (hb hby d5_17) rfl (own_teq (a := ch12_2) (b := (63 : Int32)) rfl (by decide) hc17_6).1 (by decide) (by decide) ?_
      refine XS.iloadN X5.here hx rfl (hb hby d5_36) rfl ?_
      exact retI X5 hx Bd.returns (hb hby d5_37) hr
    · show Q_pe4_2 Z _ _ _ _ _ _ _ _ _ _ _ _ _ h0 n0 _ T5.heap _
      rw [e5]
      exact ⟨_, rfl, by have s2 : own_stop c2.toInt := (by unfold own_stop; omega); rw [if_pos s2]; decide, N5, rfl⟩
  · obtain ⟨cq8, kq8, q8a, q8b, q8c⟩ := isOf hZ e5 Es
    obtain ⟨_, _, ⟨T8, L8, k8, n8⟩, -, X8, ⟨Lc8, hQ8, l8, y8, z8⟩, st8⟩ := X5.virtualBack hx (y := (⟨"java/lang/String", "charAt", "(I)C"⟩ : MethodName)) (z := (⟨"java/lang/String", "charAt", "(I)C"⟩ : MethodName)) hown (mvT hZ (hw _ (List.mem_of_getElem? (i := 55) rfl))) (mvT hZ (hw _ (List.mem_of_getElem? (i := 56) rfl))) (notFace_of_selects (args := #[]) (mvT hZ (hw _ (List.mem_of_getElem? (i := 58) rfl)))) (mvT hZ (hw _ (List.mem_of_getElem? (i := 58) rfl))) (mvT hZ (hw _ (List.mem_of_getElem? (i := 57) rfl))) (by decide) (backOf (W := 0) (rm_ch1 l Z a0 hw [] oa (2 : Int32) vcs vf ob kb (4 : Int32) [(.int bb0), (.int bb1), (.int bb2), (.int bb3)] bb2 h0 n0 Z0 Os Es Fc Fv Vb (by decide) (by decide) rfl) hZ (hw _ (List.mem_of_getElem? (i := 59) rfl)) (hw _ (List.mem_of_getElem? (i := 7) rfl)) (by decide) (by decide)) q8a q8c (g := (mkF m 22 #[.val (.ref oa), .val (.int (2 : Int32)), .val (.int (2 : Int32))] [(.int (2 : Int32)), (.ref oa)])) rfl (by rw [hml]; rfl) (Steps.refl _) (argsL := [(.int (2 : Int32))]) (rest := []) (lenOf pd_11 rfl) rfl (by show 2 * 0 + _ ≤ _; exact Nat.le_of_eq rfl) (hb hby d5_22) (fun _ _ => ⟨rfl, e5, (by decide : 0 + 0 ≤ _), (by decide : 0 + 0 ≤ _)⟩)
    dsimp only [Pt.U, Pt.locs, Pt.cells, Pt.slots] at X8 l8 y8 z8 st8 hQ8
    rw [l8, y8, z8] at X8
    obtain ⟨ch22_2, rfl, hch22_2, N8q, e8⟩ := hQ8
    have N8 := Fr.app N5 N8q
    have pre10 : ∀ t, Steps p.tables e below (T8.setTop (mkF m 27 #[.val (.ref oa), .val (.int (2 : Int32)), .val (.int (2 : Int32))] [(.int (35 : Int32)), (.int ch22_2)])) t → Steps p.tables e below (s₁.setTop (entryFrame m #[(.ref oa), (.int (2 : Int32))] 3)) t := fun t kt => by
      refine pre7 _ ?_
      show Steps p.tables e below (T5.setTop (mkF m 17 #[.val (.ref oa), .val (.int (2 : Int32)), .val (.int (2 : Int32))] [(.int (63 : Int32)), (.int ch12_2)])) _
      refine XS.icmpNo X5.here hx rfl (hb hby d5_17) rfl (own_feq (a := ch12_2) (b := (63 : Int32)) rfl (by decide) hc17_6).1 ?_
      refine XS.aloadN X5.here hx rfl (hb hby d5_20) rfl rfl ?_
      refine XS.iloadN X5.here hx rfl (hb hby d5_21) rfl ?_
      refine st8.trans ?_
      show Steps p.tables e below (T8.setTop (mkF m 25 #[.val (.ref oa), .val (.int (2 : Int32)), .val (.int (2 : Int32))] [(.int ch22_2)])) _
      refine XS.bipush X8.here hx rfl (hb hby d5_25) ?_
      exact kt
    by_cases hc27_9 : ch22_2.toInt = (35 : Int)
    · obtain ⟨fs, hr, hrun, hended, hW, hsame⟩ := X8.leave (v := some (.int (2 : Int32))) (fun h => by rw [Bd.returns] at h; cases h)
      refine ⟨_, _, pre10 _ ?_, hrun, hended, _, _, rfl, ?_, ⟨_, rfl⟩, hW, hsame.mono (by decide) (by decide)⟩
      · show Steps p.tables e below (T8.setTop (mkF m 27 #[.val (.ref oa), .val (.int (2 : Int32)), .val (.int (2 : Int32))] [(.int (35 : Int32)), (.int ch22_2)])) _
        refine XS.icmpYes X8.here hx rfl (pc0 := 27) (pc' := 36) rfl (hb hby d5_27) rfl (own_teq (a := ch22_2) (b := (35 : Int32)) rfl (by decide) hc27_9).1 (by decide) (by decide) ?_
        refine XS.iloadN X8.here hx rfl (hb hby d5_36) rfl ?_
        exact retI X8 hx Bd.returns (hb hby d5_37) hr
      · show Q_pe4_2 Z _ _ _ _ _ _ _ _ _ _ _ _ _ h0 n0 _ T8.heap _
        rw [e8]
        exact ⟨_, rfl, by have s2 : own_stop c2.toInt := (by unfold own_stop; omega); rw [if_pos s2]; decide, N8, rfl⟩
    · obtain ⟨cq11, kq11, q11a, q11b, q11c⟩ := isOf hZ e8 Es
      obtain ⟨_, _, ⟨T11, L11, k11, n11⟩, -, X11, ⟨Lc11, hQ11, l11, y11, z11⟩, st11⟩ := X8.virtualBack hx (y := (⟨"java/lang/String", "length", "()I"⟩ : MethodName)) (z := (⟨"java/lang/String", "length", "()I"⟩ : MethodName)) hown (mvT hZ (hw _ (List.mem_of_getElem? (i := 31) rfl))) (mvT hZ (hw _ (List.mem_of_getElem? (i := 32) rfl))) (notFace_of_selects (args := #[]) (mvT hZ (hw _ (List.mem_of_getElem? (i := 34) rfl)))) (mvT hZ (hw _ (List.mem_of_getElem? (i := 34) rfl))) (mvT hZ (hw _ (List.mem_of_getElem? (i := 33) rfl))) (by decide) (backOf (W := 1) (rm_len4_0 l Z a0 hw [] oa vcs vf ob kb [(.int bb0), (.int bb1), (.int bb2), (.int bb3)] h0 n0 Z0 Os Es Fc Fv Vb) hZ (hw _ (List.mem_of_getElem? (i := 35) rfl)) (hw _ (List.mem_of_getElem? (i := 7) rfl)) (by decide) (by decide)) q11a q11c (g := (mkF m 4 #[.val (.ref oa), .val (.int (2 : Int32)), .val (.int (3 : Int32))] [(.ref oa), (.int (3 : Int32))])) rfl (by rw [hml]; rfl) (Steps.refl _) (argsL := []) (rest := [(.int (3 : Int32))]) (lenOf pd_10 rfl) rfl (by show 2 * 0 + _ ≤ _; exact Nat.le_of_eq rfl) (hb hby d5_4) (fun _ _ => ⟨rfl, e8, (by decide : 0 + 0 ≤ _), (by decide : 0 + 0 ≤ _)⟩)
      dsimp only [Pt.U, Pt.locs, Pt.cells, Pt.slots] at X11 l11 y11 z11 st11 hQ11
      rw [l11, y11, z11] at X11
      obtain ⟨zl2, rfl, hzl2, N11q, e11⟩ := hQ11
      have N11 := Fr.app N8 N11q
      have pre12 : ∀ t, Steps p.tables e below (T11.setTop (mkF m 7 #[.val (.ref oa), .val (.int (2 : Int32)), .val (.int (3 : Int32))] [(.int zl2), (.int (3 : Int32))])) t → Steps p.tables e below (s₁.setTop (entryFrame m #[(.ref oa), (.int (2 : Int32))] 3)) t := fun t kt => by
        refine pre10 _ ?_
        show Steps p.tables e below (T8.setTop (mkF m 27 #[.val (.ref oa), .val (.int (2 : Int32)), .val (.int (2 : Int32))] [(.int (35 : Int32)), (.int ch22_2)])) _
        refine XS.icmpNo X8.here hx rfl (hb hby d5_27) rfl (own_feq (a := ch22_2) (b := (35 : Int32)) rfl (by decide) hc27_9).1 ?_
        refine XS.iinc X8.here hx rfl (hb hby d5_30) rfl (l' := #[.val (.ref oa), .val (.int (2 : Int32)), .val (.int (3 : Int32))]) rfl ?_
        refine XS.goto X8.here hx rfl (pc0 := 33) (pc' := 2) rfl (hb hby d5_33) (by decide) (by decide) ?_
        refine XS.iloadN X8.here hx rfl (hb hby d5_2) rfl ?_
        refine XS.aloadN X8.here hx rfl (hb hby d5_3) rfl rfl ?_
        refine st11.trans ?_
        exact kt
      subst hzl2
      have pre13 : ∀ t, Steps p.tables e below (T11.setTop (mkF m 7 #[.val (.ref oa), .val (.int (2 : Int32)), .val (.int (3 : Int32))] [(.int (4 : Int32)), (.int (3 : Int32))])) t → Steps p.tables e below (s₁.setTop (entryFrame m #[(.ref oa), (.int (2 : Int32))] 3)) t := pre12
      have hc7_14 : (3 : Int) < (4 : Int) := by decide
      obtain ⟨cq15, kq15, q15a, q15b, q15c⟩ := isOf hZ e11 Es
      obtain ⟨_, _, ⟨T15, L15, k15, n15⟩, -, X15, ⟨Lc15, hQ15, l15, y15, z15⟩, st15⟩ := X11.virtualBack hx (y := (⟨"java/lang/String", "charAt", "(I)C"⟩ : MethodName)) (z := (⟨"java/lang/String", "charAt", "(I)C"⟩ : MethodName)) hown (mvT hZ (hw _ (List.mem_of_getElem? (i := 55) rfl))) (mvT hZ (hw _ (List.mem_of_getElem? (i := 56) rfl))) (notFace_of_selects (args := #[]) (mvT hZ (hw _ (List.mem_of_getElem? (i := 58) rfl)))) (mvT hZ (hw _ (List.mem_of_getElem? (i := 58) rfl))) (mvT hZ (hw _ (List.mem_of_getElem? (i := 57) rfl))) (by decide) (backOf (W := 0) (rm_ch1 l Z a0 hw [] oa (3 : Int32) vcs vf ob kb (4 : Int32) [(.int bb0), (.int bb1), (.int bb2), (.int bb3)] bb3 h0 n0 Z0 Os Es Fc Fv Vb (by decide) (by decide) rfl) hZ (hw _ (List.mem_of_getElem? (i := 59) rfl)) (hw _ (List.mem_of_getElem? (i := 7) rfl)) (by decide) (by decide)) q15a q15c (g := (mkF m 12 #[.val (.ref oa), .val (.int (2 : Int32)), .val (.int (3 : Int32))] [(.int (3 : Int32)), (.ref oa)])) rfl (by rw [hml]; rfl) (Steps.refl _) (argsL := [(.int (3 : Int32))]) (rest := []) (lenOf pd_11 rfl) rfl (by show 2 * 0 + _ ≤ _; exact Nat.le_of_eq rfl) (hb hby d5_12) (fun _ _ => ⟨rfl, e11, (by decide : 0 + 0 ≤ _), (by decide : 0 + 0 ≤ _)⟩)
      dsimp only [Pt.U, Pt.locs, Pt.cells, Pt.slots] at X15 l15 y15 z15 st15 hQ15
      rw [l15, y15, z15] at X15
      obtain ⟨ch12_3, rfl, hch12_3, N15q, e15⟩ := hQ15
      have N15 := Fr.app N11 N15q
      have pre17 : ∀ t, Steps p.tables e below (T15.setTop (mkF m 17 #[.val (.ref oa), .val (.int (2 : Int32)), .val (.int (3 : Int32))] [(.int (63 : Int32)), (.int ch12_3)])) t → Steps p.tables e below (s₁.setTop (entryFrame m #[(.ref oa), (.int (2 : Int32))] 3)) t := fun t kt => by
        refine pre13 _ ?_
        show Steps p.tables e below (T11.setTop (mkF m 7 #[.val (.ref oa), .val (.int (2 : Int32)), .val (.int (3 : Int32))] [(.int (4 : Int32)), (.int (3 : Int32))])) _
        refine XS.icmpNo X11.here hx rfl (hb hby d5_7) rfl (own_tlt (a := (3 : Int32)) (b := (4 : Int32)) (by decide) (by decide) hc7_14).2.1 ?_
        refine XS.aloadN X11.here hx rfl (hb hby d5_10) rfl rfl ?_
        refine XS.iloadN X11.here hx rfl (hb hby d5_11) rfl ?_
        refine st15.trans ?_
        refine XS.bipush X15.here hx rfl (hb hby d5_15) ?_
        exact kt
      by_cases hc17_16 : ch12_3.toInt = (63 : Int)
      · obtain ⟨fs, hr, hrun, hended, hW, hsame⟩ := X15.leave (v := some (.int (3 : Int32))) (fun h => by rw [Bd.returns] at h; cases h)
        refine ⟨_, _, pre17 _ ?_, hrun, hended, _, _, rfl, ?_, ⟨_, rfl⟩, hW, hsame.mono (by decide) (by decide)⟩
        · show Steps p.tables e below (T15.setTop (mkF m 17 #[.val (.ref oa), .val (.int (2 : Int32)), .val (.int (3 : Int32))] [(.int (63 : Int32)), (.int ch12_3)])) _
          refine XS.icmpYes X15.here hx rfl (pc0 := 17) (pc' := 36) rfl (hb hby d5_17) rfl (own_teq (a := ch12_3) (b := (63 : Int32)) rfl (by decide) hc17_16).1 (by decide) (by decide) ?_
          refine XS.iloadN X15.here hx rfl (hb hby d5_36) rfl ?_
          show Steps p.tables e below (T15.setTop (mkF m 37 #[.val (.ref oa), .val (.int (2 : Int32)), .val (.int (3 : Int32))] [(.int (3 : Int32))])) _
          exact retI X15 hx Bd.returns (hb hby d5_37) hr
        · show Q_pe4_2 Z _ _ _ _ _ _ _ _ _ _ _ _ _ h0 n0 _ T15.heap _
          rw [e15]
          exact ⟨_, rfl, by have s2 : ¬ own_stop c2.toInt := (by unfold own_stop; omega); have s3 : own_stop c3.toInt := (by unfold own_stop; omega); rw [if_neg s2, if_pos s3]; decide, N15, rfl⟩
      · obtain ⟨cq18, kq18, q18a, q18b, q18c⟩ := isOf hZ e15 Es
        obtain ⟨_, _, ⟨T18, L18, k18, n18⟩, -, X18, ⟨Lc18, hQ18, l18, y18, z18⟩, st18⟩ := X15.virtualBack hx (y := (⟨"java/lang/String", "charAt", "(I)C"⟩ : MethodName)) (z := (⟨"java/lang/String", "charAt", "(I)C"⟩ : MethodName)) hown (mvT hZ (hw _ (List.mem_of_getElem? (i := 55) rfl))) (mvT hZ (hw _ (List.mem_of_getElem? (i := 56) rfl))) (notFace_of_selects (args := #[]) (mvT hZ (hw _ (List.mem_of_getElem? (i := 58) rfl)))) (mvT hZ (hw _ (List.mem_of_getElem? (i := 58) rfl))) (mvT hZ (hw _ (List.mem_of_getElem? (i := 57) rfl))) (by decide) (backOf (W := 0) (rm_ch1 l Z a0 hw [] oa (3 : Int32) vcs vf ob kb (4 : Int32) [(.int bb0), (.int bb1), (.int bb2), (.int bb3)] bb3 h0 n0 Z0 Os Es Fc Fv Vb (by decide) (by decide) rfl) hZ (hw _ (List.mem_of_getElem? (i := 59) rfl)) (hw _ (List.mem_of_getElem? (i := 7) rfl)) (by decide) (by decide)) q18a q18c (g := (mkF m 22 #[.val (.ref oa), .val (.int (2 : Int32)), .val (.int (3 : Int32))] [(.int (3 : Int32)), (.ref oa)])) rfl (by rw [hml]; rfl) (Steps.refl _) (argsL := [(.int (3 : Int32))]) (rest := []) (lenOf pd_11 rfl) rfl (by show 2 * 0 + _ ≤ _; exact Nat.le_of_eq rfl) (hb hby d5_22) (fun _ _ => ⟨rfl, e15, (by decide : 0 + 0 ≤ _), (by decide : 0 + 0 ≤ _)⟩)
        dsimp only [Pt.U, Pt.locs, Pt.cells, Pt.slots] at X18 l18 y18 z18 st18 hQ18
        rw [l18, y18, z18] at X18
        obtain ⟨ch22_3, rfl, hch22_3, N18q, e18⟩ := hQ18
        have N18 := Fr.app N15 N18q
        have pre20 : ∀ t, Steps p.tables e below (T18.setTop (mkF m 27 #[.val (.ref oa), .val (.int (2 : Int32)), .val (.int (3 : Int32))] [(.int (35 : Int32)), (.int ch22_3)])) t → Steps p.tables e below (s₁.setTop (entryFrame m #[(.ref oa), (.int (2 : Int32))] 3)) t := fun t kt => by
          refine pre17 _ ?_
          show Steps p.tables e below (T15.setTop (mkF m 17 #[.val (.ref oa), .val (.int (2 : Int32)), .val (.int (3 : Int32))] [(.int (63 : Int32)), (.int ch12_3)])) _
          refine XS.icmpNo X15.here hx rfl (hb hby d5_17) rfl (own_feq (a := ch12_3) (b := (63 : Int32)) rfl (by decide) hc17_16).1 ?_
          refine XS.aloadN X15.here hx rfl (hb hby d5_20) rfl rfl ?_
          show Steps p.tables e below (T15.setTop (mkF m 21 #[.val (.ref oa), .val (.int (2 : Int32)), .val (.int (3 : Int32))] [(.ref oa)])) _
          refine XS.iloadN X15.here hx rfl (hb hby d5_21) rfl ?_
          refine st18.trans ?_
          refine XS.bipush X18.here hx rfl (hb hby d5_25) ?_
          exact kt
        by_cases hc27_19 : ch22_3.toInt = (35 : Int)
        · obtain ⟨fs, hr, hrun, hended, hW, hsame⟩ := X18.leave (v := some (.int (3 : Int32))) (fun h => by rw [Bd.returns] at h; cases h)
          refine ⟨_, _, pre20 _ ?_, hrun, hended, _, _, rfl, ?_, ⟨_, rfl⟩, hW, hsame.mono (by decide) (by decide)⟩
          · show Steps p.tables e below (T18.setTop (mkF m 27 #[.val (.ref oa), .val (.int (2 : Int32)), .val (.int (3 : Int32))] [(.int (35 : Int32)), (.int ch22_3)])) _
            refine XS.icmpYes X18.here hx rfl (pc0 := 27) (pc' := 36) rfl (hb hby d5_27) rfl (own_teq (a := ch22_3) (b := (35 : Int32)) rfl (by decide) hc27_19).1 (by decide) (by decide) ?_
            refine XS.iloadN X18.here hx rfl (hb hby d5_36) rfl ?_
            exact retI X18 hx Bd.returns (hb hby d5_37) hr
          · show Q_pe4_2 Z _ _ _ _ _ _ _ _ _ _ _ _ _ h0 n0 _ T18.heap _
            rw [e18]
            exact ⟨_, rfl, by have s2 : ¬ own_stop c2.toInt := (by unfold own_stop; omega); have s3 : own_stop c3.toInt := (by unfold own_stop; omega); rw [if_neg s2, if_pos s3]; decide, N18, rfl⟩
        · obtain ⟨cq21, kq21, q21a, q21b, q21c⟩ := isOf hZ e18 Es
          obtain ⟨_, _, ⟨T21, L21, k21, n21⟩, -, X21, ⟨Lc21, hQ21, l21, y21, z21⟩, st21⟩ := X18.virtualBack hx (y := (⟨"java/lang/String", "length", "()I"⟩ : MethodName)) (z := (⟨"java/lang/String", "length", "()I"⟩ : MethodName)) hown (mvT hZ (hw _ (List.mem_of_getElem? (i := 31) rfl))) (mvT hZ (hw _ (List.mem_of_getElem? (i := 32) rfl))) (notFace_of_selects (args := #[]) (mvT hZ (hw _ (List.mem_of_getElem? (i := 34) rfl)))) (mvT hZ (hw _ (List.mem_of_getElem? (i := 34) rfl))) (mvT hZ (hw _ (List.mem_of_getElem? (i := 33) rfl))) (by decide) (backOf (W := 1) (rm_len4_0 l Z a0 hw [] oa vcs vf ob kb [(.int bb0), (.int bb1), (.int bb2), (.int bb3)] h0 n0 Z0 Os Es Fc Fv Vb) hZ (hw _ (List.mem_of_getElem? (i := 35) rfl)) (hw _ (List.mem_of_getElem? (i := 7) rfl)) (by decide) (by decide)) q21a q21c (g := (mkF m 4 #[.val (.ref oa), .val (.int (2 : Int32)), .val (.int (4 : Int32))] [(.ref oa), (.int (4 : Int32))])) rfl (by rw [hml]; rfl) (Steps.refl _) (argsL := []) (rest := [(.int (4 : Int32))]) (lenOf pd_10 rfl) rfl (by show 2 * 0 + _ ≤ _; exact Nat.le_of_eq rfl) (hb hby d5_4) (fun _ _ => ⟨rfl, e18, (by decide : 0 + 0 ≤ _), (by decide : 0 + 0 ≤ _)⟩)
          dsimp only [Pt.U, Pt.locs, Pt.cells, Pt.slots] at X21 l21 y21 z21 st21 hQ21
          rw [l21, y21, z21] at X21
          obtain ⟨zl3, rfl, hzl3, N21q, e21⟩ := hQ21
          have N21 := Fr.app N18 N21q
          have pre22 : ∀ t, Steps p.tables e below (T21.setTop (mkF m 7 #[.val (.ref oa), .val (.int (2 : Int32)), .val (.int (4 : Int32))] [(.int zl3), (.int (4 : Int32))])) t → Steps p.tables e below (s₁.setTop (entryFrame m #[(.ref oa), (.int (2 : Int32))] 3)) t := fun t kt => by
            refine pre20 _ ?_
            show Steps p.tables e below (T18.setTop (mkF m 27 #[.val (.ref oa), .val (.int (2 : Int32)), .val (.int (3 : Int32))] [(.int (35 : Int32)), (.int ch22_3)])) _
            refine XS.icmpNo X18.here hx rfl (hb hby d5_27) rfl (own_feq (a := ch22_3) (b := (35 : Int32)) rfl (by decide) hc27_19).1 ?_
            refine XS.iinc X18.here hx rfl (hb hby d5_30) rfl (l' := #[.val (.ref oa), .val (.int (2 : Int32)), .val (.int (4 : Int32))]) rfl ?_
            refine XS.goto X18.here hx rfl (pc0 := 33) (pc' := 2) rfl (hb hby d5_33) (by decide) (by decide) ?_
            refine XS.iloadN X18.here hx rfl (hb hby d5_2) rfl ?_
            show Steps p.tables e below (T18.setTop (mkF m 3 #[.val (.ref oa), .val (.int (2 : Int32)), .val (.int (4 : Int32))] [(.int (4 : Int32))])) _
            refine XS.aloadN X18.here hx rfl (hb hby d5_3) rfl rfl ?_
            refine st21.trans ?_
            exact kt
          subst hzl3
          have pre23 : ∀ t, Steps p.tables e below (T21.setTop (mkF m 7 #[.val (.ref oa), .val (.int (2 : Int32)), .val (.int (4 : Int32))] [(.int (4 : Int32)), (.int (4 : Int32))])) t → Steps p.tables e below (s₁.setTop (entryFrame m #[(.ref oa), (.int (2 : Int32))] 3)) t := pre22
          have hc7_24 : ¬ ((4 : Int) < (4 : Int)) := by decide
          obtain ⟨fs, hr, hrun, hended, hW, hsame⟩ := X21.leave (v := some (.int (4 : Int32))) (fun h => by rw [Bd.returns] at h; cases h)
          refine ⟨_, _, pre23 _ ?_, hrun, hended, _, _, rfl, ?_, ⟨_, rfl⟩, hW, hsame.mono (by decide) (by decide)⟩
          · refine XS.icmpYes X21.here hx rfl (pc0 := 7) (pc' := 36) rfl (hb hby d5_7) rfl (own_flt (a := (4 : Int32)) (b := (4 : Int32)) (by decide) (by decide) hc7_24).2.1 (by decide) (by decide) ?_
            refine XS.iloadN X21.here hx rfl (hb hby d5_36) rfl ?_
            exact retI X21 hx Bd.returns (hb hby d5_37) hr
          · show Q_pe4_2 Z _ _ _ _ _ _ _ _ _ _ _ _ _ h0 n0 _ T21.heap _
            rw [e21]
            exact ⟨_, rfl, by have s2 : ¬ own_stop c2.toInt := (by unfold own_stop; omega); have s3 : ¬ own_stop c3.toInt := (by unfold own_stop; omega); rw [if_neg s2, if_neg s3]; decide, N21, rfl⟩
theorem ef_rm_pe4_3 (m : MethodId) (x0 : Addr) : entryFrame m #[(.ref x0), (.int (3 : Int32))] 3 = mkF m 0 #[.val (.ref x0), .val (.int (3 : Int32)), .unset] [] := by first | (simp [entryFrame, mkF, argsToLocals, Value.category]; done) | rfl
def Q_pe4_3 (Z : State) (oa : Addr) (vcs : Int32) (vf : Value) (ob : Addr) (kb : ClassId) (bb0 : Int32) (bb1 : Int32) (bb2 : Int32) (bb3 : Int32) (c0 : Int32) (c1 : Int32) (c2 : Int32) (c3 : Int32) (h0 : Heap) (n0 : Nat) (v : Option Value) (h : Heap) (L : List Loc) : Prop := ∃ z : Int32, v = some (.int z) ∧ (z.toInt = (if own_stop c3.toInt then (3 : Int) else (4 : Int))) ∧ Fr n0 L ∧ h = h0
set_option maxRecDepth 65536 in
set_option maxHeartbeats 40000000 in
theorem rm_pe4_3 (l : Launch) (Z : State) (a0 : Array Value) (hw : ∀ d ∈ tables_1, d.before a0 Z = true) (ws : List Jvm.Cond) (oa : Addr) (vcs : Int32) (vf : Value) (ob : Addr) (kb : ClassId) (bb0 : Int32) (bb1 : Int32) (bb2 : Int32) (bb3 : Int32) (c0 : Int32) (c1 : Int32) (c2 : Int32) (c3 : Int32) (h0 : Heap) (n0 : Nat) (Z0 : n0 ≤ h0.size) (Os : own_st Z h0 vcs vf) (Es : Exa Z h0 oa "java/lang/String") (Fc : Fld Z h0 oa "java/lang/String" "coder" "B" (.int (0 : Int32))) (Fv : Fld Z h0 oa "java/lang/String" "value" "[B" (.ref ob)) (Vb : Arv Z h0 ob kb .byte (4 : Int32) [(.int bb0), (.int bb1), (.int bb2), (.int bb3)] (.int (0 : Int32))) (qbb0 : bb0.toInt % 256 = c0.toInt) (qbb1 : bb1.toInt % 256 = c1.toInt) (qbb2 : bb2.toInt % 256 = c2.toInt) (qbb3 : bb3.toInt % 256 = c3.toInt) :
    MetFree l (⟨"com/example/path_template_matcher/pathtemplatematcher/UriReference", "pathEnd", "(Ljava/lang/String;I)I"⟩ : MethodName) (head1 (Jvm.Cond.code (⟨"com/example/path_template_matcher/pathtemplatematcher/UriReference", "pathEnd", "(Ljava/lang/String;I)I"⟩ : MethodName) prog_36_method_4_code 3 (some .int) :: ws) ({ frames := 4, cells := 0, slots := 0, locals := 53 } : Room)) (fun a U => a = #[(.ref oa), (.int (3 : Int32))] ∧ Z.Warmed39 U.vm ∧ U.heap = h0) (fun _ _ _ _ _ => True) (fun _ U o U' => ∃ v L, o = .returned v ∧ Q_pe4_3 Z oa vcs vf ob kb bb0 bb1 bb2 bb3 c0 c1 c2 c3 h0 n0 v U'.heap L ∧ FrameEnd U o U' L ({ frames := 4, cells := 0, slots := 0, locals := 53 } : Room).cells ({ frames := 4, cells := 0, slots := 0, locals := 53 } : Room).slots) := by
  refine MetFree.of_bodySF (plainFor_of_name pn_5) hisR ?_
  intro p e s m args below meth c s₁ Bd hml0 hP hK
  obtain ⟨rfl, hZ, hh⟩ := hP
  have hx := Bd.exec
  have hby := Bd.bytes
  have hml : c.maxLocals = 3 := hml0
  have hown : s.vm.findClass "com/example/path_template_matcher/pathtemplatematcher/UriReference" = some m.cls := findClass_of_methodNamed Bd.named
  have hnm := (name_of_methodNamed Bd.named Bd.method).1
  have X0 : Stand p l e ({ frames := 4, cells := 0, slots := 0, locals := 53 } : Room) s m #[(.ref oa), (.int (3 : Int32))] below meth c s₁ [] 0 0 := Stand.of_body Bd
  have e0 : s₁.heap = h0 := by rw [← hh, Bd.state]; rfl
  have N0 := Fr.nil n0
  have pre0 : ∀ t, Steps p.tables e below (s₁.setTop (mkF m 0 #[.val (.ref oa), .val (.int (3 : Int32)), .unset] [])) t → Steps p.tables e below (s₁.setTop (entryFrame m #[(.ref oa), (.int (3 : Int32))] 3)) t := fun t k => castTop (ef_rm_pe4_3 m oa) k
  obtain ⟨cq1, kq1, q1a, q1b, q1c⟩ := isOf hZ e0 Es
  obtain ⟨_, _, ⟨T1, L1, k1, n1⟩, -, X1, ⟨Lc1, hQ1, l1, y1, z1⟩, st1⟩ := X0.virtualBack hx (y := (⟨"java/lang/String", "length", "()I"⟩ : MethodName)) (z := (⟨"java/lang/String", "length", "()I"⟩ : MethodName)) hown (mvT hZ (hw _ (List.mem_of_getElem? (i := 31) rfl))) (mvT hZ (hw _ (List.mem_of_getElem? (i := 32) rfl))) (notFace_of_selects (args := #[]) (mvT hZ (hw _ (List.mem_of_getElem? (i := 34) rfl)))) (mvT hZ (hw _ (List.mem_of_getElem? (i := 34) rfl))) (mvT hZ (hw _ (List.mem_of_getElem? (i := 33) rfl))) (by decide) (backOf (W := 1) (rm_len4_0 l Z a0 hw [] oa vcs vf ob kb [(.int bb0), (.int bb1), (.int bb2), (.int bb3)] h0 n0 Z0 Os Es Fc Fv Vb) hZ (hw _ (List.mem_of_getElem? (i := 35) rfl)) (hw _ (List.mem_of_getElem? (i := 7) rfl)) (by decide) (by decide)) q1a q1c (g := (mkF m 4 #[.val (.ref oa), .val (.int (3 : Int32)), .val (.int (3 : Int32))] [(.ref oa), (.int (3 : Int32))])) rfl (by rw [hml]; rfl) (Steps.refl _) (argsL := []) (rest := [(.int (3 : Int32))]) (lenOf pd_10 rfl) rfl (by show 2 * 0 + _ ≤ _; exact Nat.le_of_eq rfl) (hb hby d5_4) (fun _ _ => ⟨rfl, e0, (by decide : 0 + 0 ≤ _), (by decide : 0 + 0 ≤ _)⟩)
  dsimp only [Pt.U, Pt.locs, Pt.cells, Pt.slots] at X1 l1 y1 z1 st1 hQ1
  rw [l1, y1, z1] at X1
  obtain ⟨zl1, rfl, hzl1, N1q, e1⟩ := hQ1
  have N1 := Fr.app N0 N1q
  have pre2 : ∀ t, Steps p.tables e below (T1.setTop (mkF m 7 #[.val (.ref oa), .val (.int (3 : Int32)), .val (.int (3 : Int32))] [(.int zl1), (.int (3 : Int32))])) t → Steps p.tables e below (s₁.setTop (entryFrame m #[(.ref oa), (.int (3 : Int32))] 3)) t := fun t kt => by
    refine pre0 _ ?_
    refine XS.iloadN X0.here hx rfl (hb hby d5_0) rfl ?_
    refine XS.istoreN X0.here hx rfl (hb hby d5_1) rfl (l' := #[.val (.ref oa), .val (.int (3 : Int32)), .val (.int (3 : Int32))]) rfl ?_
    refine XS.iloadN X0.here hx rfl (hb hby d5_2) rfl ?_
    refine XS.aloadN X0.here hx rfl (hb hby d5_3) rfl rfl ?_
    refine st1.trans ?_
    exact kt
  subst hzl1
  have pre3 : ∀ t, Steps p.tables e below (T1.setTop (mkF m 7 #[.val (.ref oa), .val (.int (3 : Int32)), .val (.int (3 : Int32))] [(.int (4 : Int32)), (.int (3 : Int32))])) t → Steps p.tables e below (s₁.setTop (entryFrame m #[(.ref oa), (.int (3 : Int32))] 3)) t := pre2
  have hc7_4 : (3 : Int) < (4 : Int) := by decide
  obtain ⟨cq5, kq5, q5a, q5b, q5c⟩ := isOf hZ e1 Es
  obtain ⟨_, _, ⟨T5, L5, k5, n5⟩, -, X5, ⟨Lc5, hQ5, l5, y5, z5⟩, st5⟩ := X1.virtualBack hx (y := (⟨"java/lang/String", "charAt", "(I)C"⟩ : MethodName)) (z := (⟨"java/lang/String", "charAt", "(I)C"⟩ : MethodName)) hown (mvT hZ (hw _ (List.mem_of_getElem? (i := 55) rfl))) (mvT hZ (hw _ (List.mem_of_getElem? (i := 56) rfl))) (notFace_of_selects (args := #[]) (mvT hZ (hw _ (List.mem_of_getElem? (i := 58) rfl)))) (mvT hZ (hw _ (List.mem_of_getElem? (i := 58) rfl))) (mvT hZ (hw _ (List.mem_of_getElem? (i := 57) rfl))) (by decide) (backOf (W := 0) (rm_ch1 l Z a0 hw [] oa (3 : Int32) vcs vf ob kb (4 : Int32) [(.int bb0), (.int bb1), (.int bb2), (.int bb3)] bb3 h0 n0 Z0 Os Es Fc Fv Vb (by decide) (by decide) rfl) hZ (hw _ (List.mem_of_getElem? (i := 59) rfl)) (hw _ (List.mem_of_getElem? (i := 7) rfl)) (by decide) (by decide)) q5a q5c (g := (mkF m 12 #[.val (.ref oa), .val (.int (3 : Int32)), .val (.int (3 : Int32))] [(.int (3 : Int32)), (.ref oa)])) rfl (by rw [hml]; rfl) (Steps.refl _) (argsL := [(.int (3 : Int32))]) (rest := []) (lenOf pd_11 rfl) rfl (by show 2 * 0 + _ ≤ _; exact Nat.le_of_eq rfl) (hb hby d5_12) (fun _ _ => ⟨rfl, e1, (by decide : 0 + 0 ≤ _), (by decide : 0 + 0 ≤ _)⟩)
  dsimp only [Pt.U, Pt.locs, Pt.cells, Pt.slots] at X5 l5 y5 z5 st5 hQ5
  rw [l5, y5, z5] at X5
  obtain ⟨ch12_3, rfl, hch12_3, N5q, e5⟩ := hQ5
  have N5 := Fr.app N1 N5q
  have pre7 : ∀ t, Steps p.tables e below (T5.setTop (mkF m 17 #[.val (.ref oa), .val (.int (3 : Int32)), .val (.int (3 : Int32))] [(.int (63 : Int32)), (.int ch12_3)])) t → Steps p.tables e below (s₁.setTop (entryFrame m #[(.ref oa), (.int (3 : Int32))] 3)) t := fun t kt => by
    refine pre3 _ ?_
    refine XS.icmpNo X1.here hx rfl (hb hby d5_7) rfl (own_tlt (a := (3 : Int32)) (b := (4 : Int32)) (by decide) (by decide) hc7_4).2.1 ?_
    refine XS.aloadN X1.here hx rfl (hb hby d5_10) rfl rfl ?_
    show Steps p.tables e below (T1.setTop (mkF m 11 #[.val (.ref oa), .val (.int (3 : Int32)), .val (.int (3 : Int32))] [(.ref oa)])) _
    refine XS.iloadN X1.here hx rfl (hb hby d5_11) rfl ?_
    refine st5.trans ?_
    refine XS.bipush X5.here hx rfl (hb hby d5_15) ?_
    exact kt
  by_cases hc17_6 : ch12_3.toInt = (63 : Int)
  · obtain ⟨fs, hr, hrun, hended, hW, hsame⟩ := X5.leave (v := some (.int (3 : Int32))) (fun h => by rw [Bd.returns] at h; cases h)
    refine ⟨_, _, pre7 _ ?_, hrun, hended, _, _, rfl, ?_, ⟨_, rfl⟩, hW, hsame.mono (by decide) (by decide)⟩
    · show Steps p.tables e below (T5.setTop (mkF m 17 #[.val (.ref oa), .val (.int (3 : Int32)), .val (.int (3 : Int32))] [(.int (63 : Int32)), (.int ch12_3)])) _
      refine XS.icmpYes X5.here hx rfl (pc0 := 17) (pc' := 36) rfl (hb hby d5_17) rfl (own_teq (a := ch12_3) (b := (63 : Int32)) rfl (by decide) hc17_6).1 (by decide) (by decide) ?_
      refine XS.iloadN X5.here hx rfl (hb hby d5_36) rfl ?_
      exact retI X5 hx Bd.returns (hb hby d5_37) hr
    · show Q_pe4_3 Z _ _ _ _ _ _ _ _ _ _ _ _ _ h0 n0 _ T5.heap _
      rw [e5]
      exact ⟨_, rfl, by have s3 : own_stop c3.toInt := (by unfold own_stop; omega); rw [if_pos s3]; decide, N5, rfl⟩
  · obtain ⟨cq8, kq8, q8a, q8b, q8c⟩ := isOf hZ e5 Es
    obtain ⟨_, _, ⟨T8, L8, k8, n8⟩, -, X8, ⟨Lc8, hQ8, l8, y8, z8⟩, st8⟩ := X5.virtualBack hx (y := (⟨"java/lang/String", "charAt", "(I)C"⟩ : MethodName)) (z := (⟨"java/lang/String", "charAt", "(I)C"⟩ : MethodName)) hown (mvT hZ (hw _ (List.mem_of_getElem? (i := 55) rfl))) (mvT hZ (hw _ (List.mem_of_getElem? (i := 56) rfl))) (notFace_of_selects (args := #[]) (mvT hZ (hw _ (List.mem_of_getElem? (i := 58) rfl)))) (mvT hZ (hw _ (List.mem_of_getElem? (i := 58) rfl))) (mvT hZ (hw _ (List.mem_of_getElem? (i := 57) rfl))) (by decide) (backOf (W := 0) (rm_ch1 l Z a0 hw [] oa (3 : Int32) vcs vf ob kb (4 : Int32) [(.int bb0), (.int bb1), (.int bb2), (.int bb3)] bb3 h0 n0 Z0 Os Es Fc Fv Vb (by decide) (by decide) rfl) hZ (hw _ (List.mem_of_getElem? (i := 59) rfl)) (hw _ (List.mem_of_getElem? (i := 7) rfl)) (by decide) (by decide)) q8a q8c (g := (mkF m 22 #[.val (.ref oa), .val (.int (3 : Int32)), .val (.int (3 : Int32))] [(.int (3 : Int32)), (.ref oa)])) rfl (by rw [hml]; rfl) (Steps.refl _) (argsL := [(.int (3 : Int32))]) (rest := []) (lenOf pd_11 rfl) rfl (by show 2 * 0 + _ ≤ _; exact Nat.le_of_eq rfl) (hb hby d5_22) (fun _ _ => ⟨rfl, e5, (by decide : 0 + 0 ≤ _), (by decide : 0 + 0 ≤ _)⟩)
    dsimp only [Pt.U, Pt.locs, Pt.cells, Pt.slots] at X8 l8 y8 z8 st8 hQ8
    rw [l8, y8, z8] at X8
    obtain ⟨ch22_3, rfl, hch22_3, N8q, e8⟩ := hQ8
    have N8 := Fr.app N5 N8q
    have pre10 : ∀ t, Steps p.tables e below (T8.setTop (mkF m 27 #[.val (.ref oa), .val (.int (3 : Int32)), .val (.int (3 : Int32))] [(.int (35 : Int32)), (.int ch22_3)])) t → Steps p.tables e below (s₁.setTop (entryFrame m #[(.ref oa), (.int (3 : Int32))] 3)) t := fun t kt => by
      refine pre7 _ ?_
      show Steps p.tables e below (T5.setTop (mkF m 17 #[.val (.ref oa), .val (.int (3 : Int32)), .val (.int (3 : Int32))] [(.int (63 : Int32)), (.int ch12_3)])) _
      refine XS.icmpNo X5.here hx rfl (hb hby d5_17) rfl (own_feq (a := ch12_3) (b := (63 : Int32)) rfl (by decide) hc17_6).1 ?_
      refine XS.aloadN X5.here hx rfl (hb hby d5_20) rfl rfl ?_
      refine XS.iloadN X5.here hx rfl (hb hby d5_21) rfl ?_
      refine st8.trans ?_
      show Steps p.tables e below (T8.setTop (mkF m 25 #[.val (.ref oa), .val (.int (3 : Int32)), .val (.int (3 : Int32))] [(.int ch22_3)])) _
      refine XS.bipush X8.here hx rfl (hb hby d5_25) ?_
      exact kt
    by_cases hc27_9 : ch22_3.toInt = (35 : Int)
    · obtain ⟨fs, hr, hrun, hended, hW, hsame⟩ := X8.leave (v := some (.int (3 : Int32))) (fun h => by rw [Bd.returns] at h; cases h)
      refine ⟨_, _, pre10 _ ?_, hrun, hended, _, _, rfl, ?_, ⟨_, rfl⟩, hW, hsame.mono (by decide) (by decide)⟩
      · show Steps p.tables e below (T8.setTop (mkF m 27 #[.val (.ref oa), .val (.int (3 : Int32)), .val (.int (3 : Int32))] [(.int (35 : Int32)), (.int ch22_3)])) _
        refine XS.icmpYes X8.here hx rfl (pc0 := 27) (pc' := 36) rfl (hb hby d5_27) rfl (own_teq (a := ch22_3) (b := (35 : Int32)) rfl (by decide) hc27_9).1 (by decide) (by decide) ?_
        refine XS.iloadN X8.here hx rfl (hb hby d5_36) rfl ?_
        exact retI X8 hx Bd.returns (hb hby d5_37) hr
      · show Q_pe4_3 Z _ _ _ _ _ _ _ _ _ _ _ _ _ h0 n0 _ T8.heap _
        rw [e8]
        exact ⟨_, rfl, by have s3 : own_stop c3.toInt := (by unfold own_stop; omega); rw [if_pos s3]; decide, N8, rfl⟩
    · obtain ⟨cq11, kq11, q11a, q11b, q11c⟩ := isOf hZ e8 Es
      obtain ⟨_, _, ⟨T11, L11, k11, n11⟩, -, X11, ⟨Lc11, hQ11, l11, y11, z11⟩, st11⟩ := X8.virtualBack hx (y := (⟨"java/lang/String", "length", "()I"⟩ : MethodName)) (z := (⟨"java/lang/String", "length", "()I"⟩ : MethodName)) hown (mvT hZ (hw _ (List.mem_of_getElem? (i := 31) rfl))) (mvT hZ (hw _ (List.mem_of_getElem? (i := 32) rfl))) (notFace_of_selects (args := #[]) (mvT hZ (hw _ (List.mem_of_getElem? (i := 34) rfl)))) (mvT hZ (hw _ (List.mem_of_getElem? (i := 34) rfl))) (mvT hZ (hw _ (List.mem_of_getElem? (i := 33) rfl))) (by decide) (backOf (W := 1) (rm_len4_0 l Z a0 hw [] oa vcs vf ob kb [(.int bb0), (.int bb1), (.int bb2), (.int bb3)] h0 n0 Z0 Os Es Fc Fv Vb) hZ (hw _ (List.mem_of_getElem? (i := 35) rfl)) (hw _ (List.mem_of_getElem? (i := 7) rfl)) (by decide) (by decide)) q11a q11c (g := (mkF m 4 #[.val (.ref oa), .val (.int (3 : Int32)), .val (.int (4 : Int32))] [(.ref oa), (.int (4 : Int32))])) rfl (by rw [hml]; rfl) (Steps.refl _) (argsL := []) (rest := [(.int (4 : Int32))]) (lenOf pd_10 rfl) rfl (by show 2 * 0 + _ ≤ _; exact Nat.le_of_eq rfl) (hb hby d5_4) (fun _ _ => ⟨rfl, e8, (by decide : 0 + 0 ≤ _), (by decide : 0 + 0 ≤ _)⟩)
      dsimp only [Pt.U, Pt.locs, Pt.cells, Pt.slots] at X11 l11 y11 z11 st11 hQ11
      rw [l11, y11, z11] at X11
      obtain ⟨zl2, rfl, hzl2, N11q, e11⟩ := hQ11
      have N11 := Fr.app N8 N11q
      have pre12 : ∀ t, Steps p.tables e below (T11.setTop (mkF m 7 #[.val (.ref oa), .val (.int (3 : Int32)), .val (.int (4 : Int32))] [(.int zl2), (.int (4 : Int32))])) t → Steps p.tables e below (s₁.setTop (entryFrame m #[(.ref oa), (.int (3 : Int32))] 3)) t := fun t kt => by
        refine pre10 _ ?_
        show Steps p.tables e below (T8.setTop (mkF m 27 #[.val (.ref oa), .val (.int (3 : Int32)), .val (.int (3 : Int32))] [(.int (35 : Int32)), (.int ch22_3)])) _
        refine XS.icmpNo X8.here hx rfl (hb hby d5_27) rfl (own_feq (a := ch22_3) (b := (35 : Int32)) rfl (by decide) hc27_9).1 ?_
        refine XS.iinc X8.here hx rfl (hb hby d5_30) rfl (l' := #[.val (.ref oa), .val (.int (3 : Int32)), .val (.int (4 : Int32))]) rfl ?_
        refine XS.goto X8.here hx rfl (pc0 := 33) (pc' := 2) rfl (hb hby d5_33) (by decide) (by decide) ?_
        refine XS.iloadN X8.here hx rfl (hb hby d5_2) rfl ?_
        refine XS.aloadN X8.here hx rfl (hb hby d5_3) rfl rfl ?_
        refine st11.trans ?_
        exact kt
      subst hzl2
      have pre13 : ∀ t, Steps p.tables e below (T11.setTop (mkF m 7 #[.val (.ref oa), .val (.int (3 : Int32)), .val (.int (4 : Int32))] [(.int (4 : Int32)), (.int (4 : Int32))])) t → Steps p.tables e below (s₁.setTop (entryFrame m #[(.ref oa), (.int (3 : Int32))] 3)) t := pre12
      have hc7_14 : ¬ ((4 : Int) < (4 : Int)) := by decide
      obtain ⟨fs, hr, hrun, hended, hW, hsame⟩ := X11.leave (v := some (.int (4 : Int32))) (fun h => by rw [Bd.returns] at h; cases h)
      refine ⟨_, _, pre13 _ ?_, hrun, hended, _, _, rfl, ?_, ⟨_, rfl⟩, hW, hsame.mono (by decide) (by decide)⟩
      · show Steps p.tables e below (T11.setTop (mkF m 7 #[.val (.ref oa), .val (.int (3 : Int32)), .val (.int (4 : Int32))] [(.int (4 : Int32)), (.int (4 : Int32))])) _
        refine XS.icmpYes X11.here hx rfl (pc0 := 7) (pc' := 36) rfl (hb hby d5_7) rfl (own_flt (a := (4 : Int32)) (b := (4 : Int32)) (by decide) (by decide) hc7_14).2.1 (by decide) (by decide) ?_
        refine XS.iloadN X11.here hx rfl (hb hby d5_36) rfl ?_
        exact retI X11 hx Bd.returns (hb hby d5_37) hr
      · show Q_pe4_3 Z _ _ _ _ _ _ _ _ _ _ _ _ _ h0 n0 _ T11.heap _
        rw [e11]
        exact ⟨_, rfl, by have s3 : ¬ own_stop c3.toInt := (by unfold own_stop; omega); rw [if_neg s3]; decide, N11, rfl⟩
theorem ef_rm_pe4_4 (m : MethodId) (x0 : Addr) : entryFrame m #[(.ref x0), (.int (4 : Int32))] 3 = mkF m 0 #[.val (.ref x0), .val (.int (4 : Int32)), .unset] [] := by first | (simp [entryFrame, mkF, argsToLocals, Value.category]; done) | rfl
def Q_pe4_4 (Z : State) (oa : Addr) (vcs : Int32) (vf : Value) (ob : Addr) (kb : ClassId) (bb0 : Int32) (bb1 : Int32) (bb2 : Int32) (bb3 : Int32) (c0 : Int32) (c1 : Int32) (c2 : Int32) (c3 : Int32) (h0 : Heap) (n0 : Nat) (v : Option Value) (h : Heap) (L : List Loc) : Prop := ∃ z : Int32, v = some (.int z) ∧ (z.toInt = (4 : Int)) ∧ Fr n0 L ∧ h = h0
set_option maxRecDepth 65536 in
set_option maxHeartbeats 40000000 in
theorem rm_pe4_4 (l : Launch) (Z : State) (a0 : Array Value) (hw : ∀ d ∈ tables_1, d.before a0 Z = true) (ws : List Jvm.Cond) (oa : Addr) (vcs : Int32) (vf : Value) (ob : Addr) (kb : ClassId) (bb0 : Int32) (bb1 : Int32) (bb2 : Int32) (bb3 : Int32) (c0 : Int32) (c1 : Int32) (c2 : Int32) (c3 : Int32) (h0 : Heap) (n0 : Nat) (Z0 : n0 ≤ h0.size) (Os : own_st Z h0 vcs vf) (Es : Exa Z h0 oa "java/lang/String") (Fc : Fld Z h0 oa "java/lang/String" "coder" "B" (.int (0 : Int32))) (Fv : Fld Z h0 oa "java/lang/String" "value" "[B" (.ref ob)) (Vb : Arv Z h0 ob kb .byte (4 : Int32) [(.int bb0), (.int bb1), (.int bb2), (.int bb3)] (.int (0 : Int32))) (qbb0 : bb0.toInt % 256 = c0.toInt) (qbb1 : bb1.toInt % 256 = c1.toInt) (qbb2 : bb2.toInt % 256 = c2.toInt) (qbb3 : bb3.toInt % 256 = c3.toInt) :
    MetFree l (⟨"com/example/path_template_matcher/pathtemplatematcher/UriReference", "pathEnd", "(Ljava/lang/String;I)I"⟩ : MethodName) (head1 (Jvm.Cond.code (⟨"com/example/path_template_matcher/pathtemplatematcher/UriReference", "pathEnd", "(Ljava/lang/String;I)I"⟩ : MethodName) prog_36_method_4_code 3 (some .int) :: ws) ({ frames := 2, cells := 0, slots := 0, locals := 26 } : Room)) (fun a U => a = #[(.ref oa), (.int (4 : Int32))] ∧ Z.Warmed39 U.vm ∧ U.heap = h0) (fun _ _ _ _ _ => True) (fun _ U o U' => ∃ v L, o = .returned v ∧ Q_pe4_4 Z oa vcs vf ob kb bb0 bb1 bb2 bb3 c0 c1 c2 c3 h0 n0 v U'.heap L ∧ FrameEnd U o U' L ({ frames := 2, cells := 0, slots := 0, locals := 26 } : Room).cells ({ frames := 2, cells := 0, slots := 0, locals := 26 } : Room).slots) := by
  refine MetFree.of_bodySF (plainFor_of_name pn_5) hisR ?_
  intro p e s m args below meth c s₁ Bd hml0 hP hK
  obtain ⟨rfl, hZ, hh⟩ := hP
  have hx := Bd.exec
  have hby := Bd.bytes
  have hml : c.maxLocals = 3 := hml0
  have hown : s.vm.findClass "com/example/path_template_matcher/pathtemplatematcher/UriReference" = some m.cls := findClass_of_methodNamed Bd.named
  have hnm := (name_of_methodNamed Bd.named Bd.method).1
  have X0 : Stand p l e ({ frames := 2, cells := 0, slots := 0, locals := 26 } : Room) s m #[(.ref oa), (.int (4 : Int32))] below meth c s₁ [] 0 0 := Stand.of_body Bd
  have e0 : s₁.heap = h0 := by rw [← hh, Bd.state]; rfl
  have N0 := Fr.nil n0
  have pre0 : ∀ t, Steps p.tables e below (s₁.setTop (mkF m 0 #[.val (.ref oa), .val (.int (4 : Int32)), .unset] [])) t → Steps p.tables e below (s₁.setTop (entryFrame m #[(.ref oa), (.int (4 : Int32))] 3)) t := fun t k => castTop (ef_rm_pe4_4 m oa) k
  obtain ⟨cq1, kq1, q1a, q1b, q1c⟩ := isOf hZ e0 Es
  obtain ⟨_, _, ⟨T1, L1, k1, n1⟩, -, X1, ⟨Lc1, hQ1, l1, y1, z1⟩, st1⟩ := X0.virtualBack hx (y := (⟨"java/lang/String", "length", "()I"⟩ : MethodName)) (z := (⟨"java/lang/String", "length", "()I"⟩ : MethodName)) hown (mvT hZ (hw _ (List.mem_of_getElem? (i := 31) rfl))) (mvT hZ (hw _ (List.mem_of_getElem? (i := 32) rfl))) (notFace_of_selects (args := #[]) (mvT hZ (hw _ (List.mem_of_getElem? (i := 34) rfl)))) (mvT hZ (hw _ (List.mem_of_getElem? (i := 34) rfl))) (mvT hZ (hw _ (List.mem_of_getElem? (i := 33) rfl))) (by decide) (backOf (W := 1) (rm_len4_0 l Z a0 hw [] oa vcs vf ob kb [(.int bb0), (.int bb1), (.int bb2), (.int bb3)] h0 n0 Z0 Os Es Fc Fv Vb) hZ (hw _ (List.mem_of_getElem? (i := 35) rfl)) (hw _ (List.mem_of_getElem? (i := 7) rfl)) (by decide) (by decide)) q1a q1c (g := (mkF m 4 #[.val (.ref oa), .val (.int (4 : Int32)), .val (.int (4 : Int32))] [(.ref oa), (.int (4 : Int32))])) rfl (by rw [hml]; rfl) (Steps.refl _) (argsL := []) (rest := [(.int (4 : Int32))]) (lenOf pd_10 rfl) rfl (by show 2 * 0 + _ ≤ _; exact Nat.le_of_eq rfl) (hb hby d5_4) (fun _ _ => ⟨rfl, e0, (by decide : 0 + 0 ≤ _), (by decide : 0 + 0 ≤ _)⟩)
  dsimp only [Pt.U, Pt.locs, Pt.cells, Pt.slots] at X1 l1 y1 z1 st1 hQ1
  rw [l1, y1, z1] at X1
  obtain ⟨zl1, rfl, hzl1, N1q, e1⟩ := hQ1
  have N1 := Fr.app N0 N1q
  have pre2 : ∀ t, Steps p.tables e below (T1.setTop (mkF m 7 #[.val (.ref oa), .val (.int (4 : Int32)), .val (.int (4 : Int32))] [(.int zl1), (.int (4 : Int32))])) t → Steps p.tables e below (s₁.setTop (entryFrame m #[(.ref oa), (.int (4 : Int32))] 3)) t := fun t kt => by
    refine pre0 _ ?_
    refine XS.iloadN X0.here hx rfl (hb hby d5_0) rfl ?_
    refine XS.istoreN X0.here hx rfl (hb hby d5_1) rfl (l' := #[.val (.ref oa), .val (.int (4 : Int32)), .val (.int (4 : Int32))]) rfl ?_
    refine XS.iloadN X0.here hx rfl (hb hby d5_2) rfl ?_
    refine XS.aloadN X0.here hx rfl (hb hby d5_3) rfl rfl ?_
    refine st1.trans ?_
    exact kt
  subst hzl1
  have pre3 : ∀ t, Steps p.tables e below (T1.setTop (mkF m 7 #[.val (.ref oa), .val (.int (4 : Int32)), .val (.int (4 : Int32))] [(.int (4 : Int32)), (.int (4 : Int32))])) t → Steps p.tables e below (s₁.setTop (entryFrame m #[(.ref oa), (.int (4 : Int32))] 3)) t := pre2
  have hc7_4 : ¬ ((4 : Int) < (4 : Int)) := by decide
  obtain ⟨fs, hr, hrun, hended, hW, hsame⟩ := X1.leave (v := some (.int (4 : Int32))) (fun h => by rw [Bd.returns] at h; cases h)
  refine ⟨_, _, pre3 _ ?_, hrun, hended, _, _, rfl, ?_, ⟨_, rfl⟩, hW, hsame.mono (by decide) (by decide)⟩
  · refine XS.icmpYes X1.here hx rfl (pc0 := 7) (pc' := 36) rfl (hb hby d5_7) rfl (own_flt (a := (4 : Int32)) (b := (4 : Int32)) (by decide) (by decide) hc7_4).2.1 (by decide) (by decide) ?_
    refine XS.iloadN X1.here hx rfl (hb hby d5_36) rfl ?_
    show Steps p.tables e below (T1.setTop (mkF m 37 #[.val (.ref oa), .val (.int (4 : Int32)), .val (.int (4 : Int32))] [(.int (4 : Int32))])) _
    exact retI X1 hx Bd.returns (hb hby d5_37) hr
  · show Q_pe4_4 Z _ _ _ _ _ _ _ _ _ _ _ _ _ h0 n0 _ T1.heap _
    rw [e1]
    exact ⟨_, rfl, by decide, N1, rfl⟩
theorem ef_rm0 (m : MethodId) (x0 : Int32) (x1 : Int32) (x2 : Int32) (x3 : Int32) (x4 : Int32) : entryFrame m #[(.int x0), (.int x1), (.int x2), (.int x3), (.int x4)] maxLocals = mkF m 0 #[.val (.int x0), .val (.int x1), .val (.int x2), .val (.int x3), .val (.int x4), .unset, .unset, .unset, .unset, .unset, .unset, .unset, .unset] [] := by first | (simp [entryFrame, mkF, argsToLocals, Value.category, maxLocals]; done) | rfl
theorem pd_12 : parseMethodDescriptor "(ICCCC)Ljava/lang/String;" = some ⟨[.int, .char, .char, .char, .char], some (.object "java/lang/String")⟩ := by decide +kernel
theorem pd_13 : parseMethodDescriptor "(Ljava/lang/String;I)I" = some ⟨[(.object "java/lang/String"), .int], some .int⟩ := by decide +kernel
theorem pd_14 : parseMethodDescriptor "(C)Z" = some ⟨[.char], some .boolean⟩ := by decide +kernel
def Q0 (Z : State) (vp : Int32) (wa : Int32) (wb : Int32) (wc : Int32) (wd : Int32) (vcs : Int32) (vf : Value) (h0 : Heap) (n0 : Nat) (v : Option Value) (h : Heap) (L : List Loc) : Prop := v = some (.int 1) ∧ Fr n0 L
set_option maxRecDepth 65536 in
set_option maxHeartbeats 40000000 in
theorem rm0 (l : Launch) (Z : State) (a0 : Array Value) (hw : ∀ d ∈ tables_1, d.before a0 Z = true) (ws : List Jvm.Cond) (vp : Int32) (wa : Int32) (wb : Int32) (wc : Int32) (wd : Int32) (vcs : Int32) (vf : Value) (h0 : Heap) (n0 : Nat) (Z0 : n0 ≤ h0.size) (Os : own_st Z h0 vcs vf) :
    MetFree l x (head1 (Jvm.Cond.code x code maxLocals ret :: ws) room_1) (fun a U => a = #[(.int vp), (.int wa), (.int wb), (.int wc), (.int wd)] ∧ Z.Warmed39 U.vm ∧ U.heap = h0 ∧ CHv Z own_EL U.vm h0) (fun _ _ _ _ _ => True) (fun _ U o U' => ∃ v L, o = .returned v ∧ Q0 Z vp wa wb wc wd vcs vf h0 n0 v U'.heap L ∧ CHr Z own_EL U.vm U.heap U'.vm U'.heap ∧ ReturnedEndW U o U' L room_1.cells room_1.slots) := by
  refine MetFree.of_bodySF (plainFor_of_name pn_0) hisR ?_
  intro p e s m args below meth c s₁ Bd hml0 hP hK
  obtain ⟨rfl, hZ, hh, hC⟩ := hP
  have hx := Bd.exec
  have hby := Bd.bytes
  have hml : c.maxLocals = 13 := hml0
  have hown : s.vm.findClass "com/example/path_template_matcher/pathtemplatematcher/UriReferencePathEndPinLaw" = some m.cls := findClass_of_methodNamed Bd.named
  have hnm := (name_of_methodNamed Bd.named Bd.method).1
  have X0 : Stand p l e room_1 (s.setVm s.vm) m #[(.int vp), (.int wa), (.int wb), (.int wc), (.int wd)] below meth c s₁ [] 0 0 := Stand.of_body Bd
  have e0 : s₁.heap = h0 := by rw [← hh, Bd.state]; rfl
  have N0 := Fr.nil n0
  have hEL := own_EW hw
  have wS := own_wS hw
  have CR0 : CHr Z own_EL s.vm h0 s.vm h0 := CHr.refl hC
  have hS0 : s.Since s.vm h0.size := (State.WarmedH.refl s).since _
  have hk0 : h0.size ≤ h0.size := Nat.le_refl _
  have pre0 : ∀ t, Steps p.tables e below (s₁.setTop (mkF m 0 #[.val (.int vp), .val (.int wa), .val (.int wb), .val (.int wc), .val (.int wd), .unset, .unset, .unset, .unset, .unset, .unset, .unset, .unset] [])) t → Steps p.tables e below (s₁.setTop (entryFrame m #[(.int vp), (.int wa), (.int wb), (.int wc), (.int wd)] maxLocals)) t := fun t k => castTop (ef_rm0 m vp wa wb wc wd) k
  have pre1 : ∀ t, Steps p.tables e below (s₁.setTop (mkF m 6 #[.val (.int vp), .val (.int wa), .val (.int wb), .val (.int wc), .val (.int wd), .unset, .unset, .unset, .unset, .unset, .unset, .unset, .unset] [(.int ((vp &&& (7 : Int32)) % (5 : Int32)))])) t → Steps p.tables e below (s₁.setTop (entryFrame m #[(.int vp), (.int wa), (.int wb), (.int wc), (.int wd)] maxLocals)) t := fun t kt => by
    refine pre0 _ ?_
    refine XS.iloadN X0.here hx rfl (hb hby at_0) rfl ?_
    refine XS.bipush X0.here hx rfl (hb hby at_1) ?_
    refine XS.iand X0.here hx rfl (hb hby at_3) rfl ?_
    refine XS.iconst X0.here hx rfl (hb hby at_4) ?_
    refine iremM X0 hx rfl (hb hby at_5) rfl (by decide) ?_
    exact kt
  obtain ⟨vl, hvl⟩ : ∃ z : Int32, z = ((vp &&& (7 : Int32)) % (5 : Int32)) := ⟨_, rfl⟩
  have ivl : vl.toInt = vp.toInt % 8 % 5 := by rw [hvl]; have := rng32 vp; have : ((vp &&& (7 : Int32))).toInt = vp.toInt % 8 := c_mask vp (7 : Int32) 3 (by decide) (by decide); have := c_irem (vp &&& (7 : Int32)) (5 : Int32) 5 (by decide); omega
  have pre2 : ∀ t, Steps p.tables e below (s₁.setTop (mkF m 6 #[.val (.int vp), .val (.int wa), .val (.int wb), .val (.int wc), .val (.int wd), .unset, .unset, .unset, .unset, .unset, .unset, .unset, .unset] [(.int vl)])) t → Steps p.tables e below (s₁.setTop (entryFrame m #[(.int vp), (.int wa), (.int wb), (.int wc), (.int wd)] maxLocals)) t := by rw [hvl]; exact pre1
  have jvl : 0 ≤ vl.toInt ∧ vl.toInt ≤ 4 := by omega
  have pre3 : ∀ t, Steps p.tables e below (s₁.setTop (mkF m 18 #[.val (.int vp), .val (.int wa), .val (.int wb), .val (.int wc), .val (.int wd), .val (.int vl), .unset, .unset, .unset, .unset, .unset, .unset, .unset] [(.int (vl + (1 : Int32))), (.int (((vp.toUInt32 >>> ((3 : Int32) &&& 31).toUInt32).toInt32) &&& (65535 : Int32)))])) t → Steps p.tables e below (s₁.setTop (entryFrame m #[(.int vp), (.int wa), (.int wb), (.int wc), (.int wd)] maxLocals)) t := fun t kt => by
    refine pre2 _ ?_
    refine XS.istore X0.here hx rfl (hb hby at_6) rfl (l' := #[.val (.int vp), .val (.int wa), .val (.int wb), .val (.int wc), .val (.int wd), .val (.int vl), .unset, .unset, .unset, .unset, .unset, .unset, .unset]) rfl ?_
    refine XS.iloadN X0.here hx rfl (hb hby at_8) rfl ?_
    show Steps p.tables e below (s₁.setTop (mkF m 9 #[.val (.int vp), .val (.int wa), .val (.int wb), .val (.int wc), .val (.int wd), .val (.int vl), .unset, .unset, .unset, .unset, .unset, .unset, .unset] [(.int vp)])) _
    refine XS.iconst X0.here hx rfl (hb hby at_9) ?_
    refine XS.iushr X0.here hx rfl (hb hby at_10) rfl ?_
    refine X0.ldcInt hx hown (mvT hZ (hw _ (List.mem_of_getElem? (i := 0) rfl))) (g := (mkF m 11 #[.val (.int vp), .val (.int wa), .val (.int wb), .val (.int wc), .val (.int wd), .val (.int vl), .unset, .unset, .unset, .unset, .unset, .unset, .unset] [(.int ((vp.toUInt32 >>> ((3 : Int32) &&& 31).toUInt32).toInt32))])) rfl (hb hby at_11) _ ?_
    refine XS.iand X0.here hx rfl (hb hby at_13) rfl ?_
    refine XS.iload X0.here hx rfl (hb hby at_14) rfl ?_
    refine XS.iconst X0.here hx rfl (hb hby at_16) ?_
    refine XS.iadd X0.here hx rfl (hb hby at_17) rfl ?_
    exact kt
  obtain ⟨vd, hvd⟩ : ∃ z : Int32, z = (vl + (1 : Int32)) := ⟨_, rfl⟩
  have ivd : vd.toInt = vl.toInt + 1 := by rw [hvd]; have := rng32 vl; (first | (have : ((vl + (1 : Int32))).toInt = vl.toInt + (1 : Int) := (by have : (((vl + (1 : Int32))).toInt - (vl.toInt + (1 : Int))) % 4294967296 = 0 := c_iadd vl (1 : Int32); have := rng32 (vl + (1 : Int32)); omega)) | (have : (((vl + (1 : Int32))).toInt - (vl.toInt + (1 : Int))) % 4294967296 = 0 := c_iadd vl (1 : Int32); have := rng32 (vl + (1 : Int32)))); omega
  have pre4 : ∀ t, Steps p.tables e below (s₁.setTop (mkF m 18 #[.val (.int vp), .val (.int wa), .val (.int wb), .val (.int wc), .val (.int wd), .val (.int vl), .unset, .unset, .unset, .unset, .unset, .unset, .unset] [(.int vd), (.int (((vp.toUInt32 >>> ((3 : Int32) &&& 31).toUInt32).toInt32) &&& (65535 : Int32)))])) t → Steps p.tables e below (s₁.setTop (entryFrame m #[(.int vp), (.int wa), (.int wb), (.int wc), (.int wd)] maxLocals)) t := by rw [hvd]; exact pre3
  have nz18_4 : vd ≠ 0 := by
    intro q
    have q' : vd.toInt = 0 := by rw [q]; decide
    have := rng32 vd; omega
  have pre6 : ∀ t, Steps p.tables e below (s₁.setTop (mkF m 19 #[.val (.int vp), .val (.int wa), .val (.int wb), .val (.int wc), .val (.int wd), .val (.int vl), .unset, .unset, .unset, .unset, .unset, .unset, .unset] [(.int ((((vp.toUInt32 >>> ((3 : Int32) &&& 31).toUInt32).toInt32) &&& (65535 : Int32)) % vd))])) t → Steps p.tables e below (s₁.setTop (entryFrame m #[(.int vp), (.int wa), (.int wb), (.int wc), (.int wd)] maxLocals)) t := fun t kt => by
    refine pre4 _ ?_
    refine iremM X0 hx rfl (hb hby at_18) rfl nz18_4 ?_
    exact kt
  obtain ⟨vfr, hvfr⟩ : ∃ z : Int32, z = ((((vp.toUInt32 >>> ((3 : Int32) &&& 31).toUInt32).toInt32) &&& (65535 : Int32)) % vd) := ⟨_, rfl⟩
  have jvfr : 0 ≤ vfr.toInt ∧ vfr.toInt ≤ vl.toInt := by rw [hvfr]; have := rng32 vp; have : (((vp.toUInt32 >>> ((3 : Int32) &&& 31).toUInt32).toInt32)).toInt = (vp.toInt % 4294967296) / 8 := c_iushr vp (3 : Int32) 3 (by decide) (by decide); have : ((((vp.toUInt32 >>> ((3 : Int32) &&& 31).toUInt32).toInt32) &&& (65535 : Int32))).toInt = ((vp.toUInt32 >>> ((3 : Int32) &&& 31).toUInt32).toInt32).toInt % 65536 := c_mask ((vp.toUInt32 >>> ((3 : Int32) &&& 31).toUInt32).toInt32) (65535 : Int32) 16 (by decide) (by decide); have := rng32 vd; have := c_iremV (((vp.toUInt32 >>> ((3 : Int32) &&& 31).toUInt32).toInt32) &&& (65535 : Int32)) vd; omega
  have pre7 : ∀ t, Steps p.tables e below (s₁.setTop (mkF m 19 #[.val (.int vp), .val (.int wa), .val (.int wb), .val (.int wc), .val (.int wd), .val (.int vl), .unset, .unset, .unset, .unset, .unset, .unset, .unset] [(.int vfr)])) t → Steps p.tables e below (s₁.setTop (entryFrame m #[(.int vp), (.int wa), (.int wb), (.int wc), (.int wd)] maxLocals)) t := by rw [hvfr]; exact pre6
  have pre8 : ∀ t, Steps p.tables e below (s₁.setTop (mkF m 27 #[.val (.int vp), .val (.int wa), .val (.int wb), .val (.int wc), .val (.int wd), .val (.int vl), .val (.int vfr), .unset, .unset, .unset, .unset, .unset, .unset] [(.int ((wa &&& (255 : Int32)).toUInt32.toUInt16.toUInt32.toInt32))])) t → Steps p.tables e below (s₁.setTop (entryFrame m #[(.int vp), (.int wa), (.int wb), (.int wc), (.int wd)] maxLocals)) t := fun t kt => by
    refine pre7 _ ?_
    show Steps p.tables e below (s₁.setTop (mkF m 19 #[.val (.int vp), .val (.int wa), .val (.int wb), .val (.int wc), .val (.int wd), .val (.int vl), .unset, .unset, .unset, .unset, .unset, .unset, .unset] [(.int vfr)])) _
    refine XS.istore X0.here hx rfl (hb hby at_19) rfl (l' := #[.val (.int vp), .val (.int wa), .val (.int wb), .val (.int wc), .val (.int wd), .val (.int vl), .val (.int vfr), .unset, .unset, .unset, .unset, .unset, .unset]) rfl ?_
    refine XS.iloadN X0.here hx rfl (hb hby at_21) rfl ?_
    refine XS.sipush X0.here hx rfl (hb hby at_22) ?_
    refine XS.iand X0.here hx rfl (hb hby at_25) rfl ?_
    refine XS.i2c X0.here hx rfl (hb hby at_26) rfl ?_
    exact kt
  obtain ⟨c0, hc0⟩ : ∃ z : Int32, z = ((wa &&& (255 : Int32)).toUInt32.toUInt16.toUInt32.toInt32) := ⟨_, rfl⟩
  have jc0 : 0 ≤ c0.toInt ∧ c0.toInt ≤ 255 := by rw [hc0]; have := rng32 wa; have : ((wa &&& (255 : Int32))).toInt = wa.toInt % 256 := c_mask wa (255 : Int32) 8 (by decide) (by decide); (first | (have : (((wa &&& (255 : Int32)).toUInt32.toUInt16.toUInt32.toInt32)).toInt = (wa &&& (255 : Int32)).toInt := (by have := c_i2c (wa &&& (255 : Int32)); omega)) | (have := c_i2c (wa &&& (255 : Int32)))); omega
  have pre9 : ∀ t, Steps p.tables e below (s₁.setTop (mkF m 27 #[.val (.int vp), .val (.int wa), .val (.int wb), .val (.int wc), .val (.int wd), .val (.int vl), .val (.int vfr), .unset, .unset, .unset, .unset, .unset, .unset] [(.int c0)])) t → Steps p.tables e below (s₁.setTop (entryFrame m #[(.int vp), (.int wa), (.int wb), (.int wc), (.int wd)] maxLocals)) t := by rw [hc0]; exact pre8
  have pre10 : ∀ t, Steps p.tables e below (s₁.setTop (mkF m 35 #[.val (.int vp), .val (.int wa), .val (.int wb), .val (.int wc), .val (.int wd), .val (.int vl), .val (.int vfr), .val (.int c0), .unset, .unset, .unset, .unset, .unset] [(.int ((wb &&& (255 : Int32)).toUInt32.toUInt16.toUInt32.toInt32))])) t → Steps p.tables e below (s₁.setTop (entryFrame m #[(.int vp), (.int wa), (.int wb), (.int wc), (.int wd)] maxLocals)) t := fun t kt => by
    refine pre9 _ ?_
    refine XS.istore X0.here hx rfl (hb hby at_27) rfl (l' := #[.val (.int vp), .val (.int wa), .val (.int wb), .val (.int wc), .val (.int wd), .val (.int vl), .val (.int vfr), .val (.int c0), .unset, .unset, .unset, .unset, .unset]) rfl ?_
    refine XS.iloadN X0.here hx rfl (hb hby at_29) rfl ?_
    refine XS.sipush X0.here hx rfl (hb hby at_30) ?_
    show Steps p.tables e below (s₁.setTop (mkF m 33 #[.val (.int vp), .val (.int wa), .val (.int wb), .val (.int wc), .val (.int wd), .val (.int vl), .val (.int vfr), .val (.int c0), .unset, .unset, .unset, .unset, .unset] [(.int (255 : Int32)), (.int wb)])) _
    refine XS.iand X0.here hx rfl (hb hby at_33) rfl ?_
    refine XS.i2c X0.here hx rfl (hb hby at_34) rfl ?_
    exact kt
  obtain ⟨c1, hc1⟩ : ∃ z : Int32, z = ((wb &&& (255 : Int32)).toUInt32.toUInt16.toUInt32.toInt32) := ⟨_, rfl⟩
  have jc1 : 0 ≤ c1.toInt ∧ c1.toInt ≤ 255 := by rw [hc1]; have := rng32 wb; have : ((wb &&& (255 : Int32))).toInt = wb.toInt % 256 := c_mask wb (255 : Int32) 8 (by decide) (by decide); (first | (have : (((wb &&& (255 : Int32)).toUInt32.toUInt16.toUInt32.toInt32)).toInt = (wb &&& (255 : Int32)).toInt := (by have := c_i2c (wb &&& (255 : Int32)); omega)) | (have := c_i2c (wb &&& (255 : Int32)))); omega
  have pre11 : ∀ t, Steps p.tables e below (s₁.setTop (mkF m 35 #[.val (.int vp), .val (.int wa), .val (.int wb), .val (.int wc), .val (.int wd), .val (.int vl), .val (.int vfr), .val (.int c0), .unset, .unset, .unset, .unset, .unset] [(.int c1)])) t → Steps p.tables e below (s₁.setTop (entryFrame m #[(.int vp), (.int wa), (.int wb), (.int wc), (.int wd)] maxLocals)) t := by rw [hc1]; exact pre10
  have pre12 : ∀ t, Steps p.tables e below (s₁.setTop (mkF m 43 #[.val (.int vp), .val (.int wa), .val (.int wb), .val (.int wc), .val (.int wd), .val (.int vl), .val (.int vfr), .val (.int c0), .val (.int c1), .unset, .unset, .unset, .unset] [(.int ((wc &&& (255 : Int32)).toUInt32.toUInt16.toUInt32.toInt32))])) t → Steps p.tables e below (s₁.setTop (entryFrame m #[(.int vp), (.int wa), (.int wb), (.int wc), (.int wd)] maxLocals)) t := fun t kt => by
    refine pre11 _ ?_
    refine XS.istore X0.here hx rfl (hb hby at_35) rfl (l' := #[.val (.int vp), .val (.int wa), .val (.int wb), .val (.int wc), .val (.int wd), .val (.int vl), .val (.int vfr), .val (.int c0), .val (.int c1), .unset, .unset, .unset, .unset]) rfl ?_
    refine XS.iloadN X0.here hx rfl (hb hby at_37) rfl ?_
    refine XS.sipush X0.here hx rfl (hb hby at_38) ?_
    refine XS.iand X0.here hx rfl (hb hby at_41) rfl ?_
    refine XS.i2c X0.here hx rfl (hb hby at_42) rfl ?_
    exact kt
  obtain ⟨c2, hc2⟩ : ∃ z : Int32, z = ((wc &&& (255 : Int32)).toUInt32.toUInt16.toUInt32.toInt32) := ⟨_, rfl⟩
  have jc2 : 0 ≤ c2.toInt ∧ c2.toInt ≤ 255 := by rw [hc2]; have := rng32 wc; have : ((wc &&& (255 : Int32))).toInt = wc.toInt % 256 := c_mask wc (255 : Int32) 8 (by decide) (by decide); (first | (have : (((wc &&& (255 : Int32)).toUInt32.toUInt16.toUInt32.toInt32)).toInt = (wc &&& (255 : Int32)).toInt := (by have := c_i2c (wc &&& (255 : Int32)); omega)) | (have := c_i2c (wc &&& (255 : Int32)))); omega
  have pre13 : ∀ t, Steps p.tables e below (s₁.setTop (mkF m 43 #[.val (.int vp), .val (.int wa), .val (.int wb), .val (.int wc), .val (.int wd), .val (.int vl), .val (.int vfr), .val (.int c0), .val (.int c1), .unset, .unset, .unset, .unset] [(.int c2)])) t → Steps p.tables e below (s₁.setTop (entryFrame m #[(.int vp), (.int wa), (.int wb), (.int wc), (.int wd)] maxLocals)) t := by rw [hc2]; exact pre12
  have pre14 : ∀ t, Steps p.tables e below (s₁.setTop (mkF m 52 #[.val (.int vp), .val (.int wa), .val (.int wb), .val (.int wc), .val (.int wd), .val (.int vl), .val (.int vfr), .val (.int c0), .val (.int c1), .val (.int c2), .unset, .unset, .unset] [(.int ((wd &&& (255 : Int32)).toUInt32.toUInt16.toUInt32.toInt32))])) t → Steps p.tables e below (s₁.setTop (entryFrame m #[(.int vp), (.int wa), (.int wb), (.int wc), (.int wd)] maxLocals)) t := fun t kt => by
    refine pre13 _ ?_
    refine XS.istore X0.here hx rfl (hb hby at_43) rfl (l' := #[.val (.int vp), .val (.int wa), .val (.int wb), .val (.int wc), .val (.int wd), .val (.int vl), .val (.int vfr), .val (.int c0), .val (.int c1), .val (.int c2), .unset, .unset, .unset]) rfl ?_
    show Steps p.tables e below (s₁.setTop (mkF m 45 #[.val (.int vp), .val (.int wa), .val (.int wb), .val (.int wc), .val (.int wd), .val (.int vl), .val (.int vfr), .val (.int c0), .val (.int c1), .val (.int c2), .unset, .unset, .unset] [])) _
    refine XS.iload X0.here hx rfl (hb hby at_45) rfl ?_
    refine XS.sipush X0.here hx rfl (hb hby at_47) ?_
    refine XS.iand X0.here hx rfl (hb hby at_50) rfl ?_
    refine XS.i2c X0.here hx rfl (hb hby at_51) rfl ?_
    exact kt
  obtain ⟨c3, hc3⟩ : ∃ z : Int32, z = ((wd &&& (255 : Int32)).toUInt32.toUInt16.toUInt32.toInt32) := ⟨_, rfl⟩
  have jc3 : 0 ≤ c3.toInt ∧ c3.toInt ≤ 255 := by rw [hc3]; have := rng32 wd; have : ((wd &&& (255 : Int32))).toInt = wd.toInt % 256 := c_mask wd (255 : Int32) 8 (by decide) (by decide); (first | (have : (((wd &&& (255 : Int32)).toUInt32.toUInt16.toUInt32.toInt32)).toInt = (wd &&& (255 : Int32)).toInt := (by have := c_i2c (wd &&& (255 : Int32)); omega)) | (have := c_i2c (wd &&& (255 : Int32)))); omega
  have pre15 : ∀ t, Steps p.tables e below (s₁.setTop (mkF m 52 #[.val (.int vp), .val (.int wa), .val (.int wb), .val (.int wc), .val (.int wd), .val (.int vl), .val (.int vfr), .val (.int c0), .val (.int c1), .val (.int c2), .unset, .unset, .unset] [(.int c3)])) t → Steps p.tables e below (s₁.setTop (entryFrame m #[(.int vp), (.int wa), (.int wb), (.int wc), (.int wd)] maxLocals)) t := by rw [hc3]; exact pre14
  have hsp16 : vl = (0 : Int32) ∨ vl = (1 : Int32) ∨ vl = (2 : Int32) ∨ vl = (3 : Int32) ∨ vl = (4 : Int32) := by
    have q : vl.toInt = 0 ∨ vl.toInt = 1 ∨ vl.toInt = 2 ∨ vl.toInt = 3 ∨ vl.toInt = 4 := by omega
    rcases q with q | q | q | q | q
    · exact Or.inl (Int32.toInt_inj.mp (by rw [q]; decide))
    · exact Or.inr (Or.inl (Int32.toInt_inj.mp (by rw [q]; decide)))
    · exact Or.inr (Or.inr (Or.inl (Int32.toInt_inj.mp (by rw [q]; decide))))
    · exact Or.inr (Or.inr (Or.inr (Or.inl (Int32.toInt_inj.mp (by rw [q]; decide)))))
    · exact Or.inr (Or.inr (Or.inr (Or.inr (Int32.toInt_inj.mp (by rw [q]; decide)))))
  have pre17 : ∀ t, Steps p.tables e below (s₁.setTop (mkF m 64 #[.val (.int vp), .val (.int wa), .val (.int wb), .val (.int wc), .val (.int wd), .val (.int vl), .val (.int vfr), .val (.int c0), .val (.int c1), .val (.int c2), .val (.int c3), .unset, .unset] [(.int c3), (.int c2), (.int c1), (.int c0), (.int vl)])) t → Steps p.tables e below (s₁.setTop (entryFrame m #[(.int vp), (.int wa), (.int wb), (.int wc), (.int wd)] maxLocals)) t := fun t kt => by
    refine pre15 _ ?_
    refine XS.istore X0.here hx rfl (hb hby at_52) rfl (l' := #[.val (.int vp), .val (.int wa), .val (.int wb), .val (.int wc), .val (.int wd), .val (.int vl), .val (.int vfr), .val (.int c0), .val (.int c1), .val (.int c2), .val (.int c3), .unset, .unset]) rfl ?_
    refine XS.iload X0.here hx rfl (hb hby at_54) rfl ?_
    refine XS.iload X0.here hx rfl (hb hby at_56) rfl ?_
    refine XS.iload X0.here hx rfl (hb hby at_58) rfl ?_
    show Steps p.tables e below (s₁.setTop (mkF m 60 #[.val (.int vp), .val (.int wa), .val (.int wb), .val (.int wc), .val (.int wd), .val (.int vl), .val (.int vfr), .val (.int c0), .val (.int c1), .val (.int c2), .val (.int c3), .unset, .unset] [(.int c1), (.int c0), (.int vl)])) _
    refine XS.iload X0.here hx rfl (hb hby at_60) rfl ?_
    refine XS.iload X0.here hx rfl (hb hby at_62) rfl ?_
    exact kt
  rcases hsp16 with rfl | rfl | rfl | rfl | rfl
  · have pre18 : ∀ t, Steps p.tables e below (s₁.setTop (mkF m 64 #[.val (.int vp), .val (.int wa), .val (.int wb), .val (.int wc), .val (.int wd), .val (.int (0 : Int32)), .val (.int vfr), .val (.int c0), .val (.int c1), .val (.int c2), .val (.int c3), .unset, .unset] [(.int c3), (.int c2), (.int c1), (.int c0), (.int (0 : Int32))])) t → Steps p.tables e below (s₁.setTop (entryFrame m #[(.int vp), (.int wa), (.int wb), (.int wc), (.int wd)] maxLocals)) t := pre17
    obtain ⟨_, _, ⟨T19, L19, k19, n19⟩, -, Xp19, hSp19, hgp19, ⟨Lc19, hQ19, l19, y19, z19, CRn19⟩, st19⟩ := callSS X0 hx (y := (⟨"com/example/path_template_matcher/pathtemplatematcher/UriReferencePathEndPinLaw", "mk", "(ICCCC)Ljava/lang/String;"⟩ : MethodName)) hown (mvT hZ (hw _ (List.mem_of_getElem? (i := 1) rfl))) (mvT hZ (hw _ (List.mem_of_getElem? (i := 2) rfl))) (mvT hZ (hw _ (List.mem_of_getElem? (i := 3) rfl))) (mvT hZ (hw _ (List.mem_of_getElem? (i := 4) rfl))) (by decide) (backOfSH (W := 0) (rm_m0 l Z a0 hw [] c0 c1 c2 c3 vcs vf h0 n0 Z0 Os jc0.1 jc1.1 jc2.1 jc3.1 jc0.2 jc1.2 jc2.2 jc3.2) hZ (hw _ (List.mem_of_getElem? (i := 4) rfl)) (hw _ (List.mem_of_getElem? (i := 3) rfl)) (by decide) (by decide) hEL CR0.1) (g := (mkF m 64 #[.val (.int vp), .val (.int wa), .val (.int wb), .val (.int wc), .val (.int wd), .val (.int (0 : Int32)), .val (.int vfr), .val (.int c0), .val (.int c1), .val (.int c2), .val (.int c3), .unset, .unset] [(.int c3), (.int c2), (.int c1), (.int c0), (.int (0 : Int32))])) rfl (by rw [hml]; rfl) (argsL := [(.int (0 : Int32)), (.int c0), (.int c1), (.int c2), (.int c3)]) (rest := []) (lenOf pd_12 rfl) rfl (by show 2 * 0 + _ ≤ _; exact Nat.le_of_eq rfl) (hb hby at_64) (fun _ _ => ⟨rfl, e0, (by decide : 0 + 6 ≤ _), (by decide : 0 + 12 ≤ _)⟩)
    dsimp only [Pt.U, Pt.locs, Pt.cells, Pt.slots] at Xp19 hSp19 hgp19 l19 y19 z19 st19 hQ19 CRn19
    rw [l19, y19, z19] at Xp19
    obtain ⟨X19, hS19, hZ, hown⟩ := rebS hS0 (n1 := s₁.heap.size) (by rw [e0]; exact hk0) Xp19 hSp19 hgp19 hZ hown
    have CR20 := CR0.trans CRn19
    obtain ⟨sa, ob, kb, rfl, N19q, K19, Esa, Fcsa, Fvsa, Vob⟩ := hQ19
    have N19 := Fr.app N0 N19q
    have Zs21 : n0 ≤ T19.heap.size := Nat.le_trans Z0 K19.1
    have kvl : ((0 : Int32)).toInt = (0 : Int) := (by decide)
    have pre23 : ∀ t, Steps p.tables e below (T19.setTop (mkF m 73 #[.val (.int vp), .val (.int wa), .val (.int wb), .val (.int wc), .val (.int wd), .val (.int (0 : Int32)), .val (.int vfr), .val (.int c0), .val (.int c1), .val (.int c2), .val (.int c3), .val (.ref sa), .val (.int (0 : Int32))] [])) t → Steps p.tables e below (s₁.setTop (entryFrame m #[(.int vp), (.int wa), (.int wb), (.int wc), (.int wd)] maxLocals)) t := fun t kt => by
      refine pre18 _ ?_
      refine st19.trans ?_
      refine XS.astore X19.here hx rfl (hb hby at_67) rfl rfl (l' := #[.val (.int vp), .val (.int wa), .val (.int wb), .val (.int wc), .val (.int wd), .val (.int (0 : Int32)), .val (.int vfr), .val (.int c0), .val (.int c1), .val (.int c2), .val (.int c3), .val (.ref sa), .unset]) rfl ?_
      refine XS.iload X19.here hx rfl (hb hby at_69) rfl ?_
      refine XS.istore X19.here hx rfl (hb hby at_71) rfl (l' := #[.val (.int vp), .val (.int wa), .val (.int wb), .val (.int wc), .val (.int wd), .val (.int (0 : Int32)), .val (.int vfr), .val (.int c0), .val (.int c1), .val (.int c2), .val (.int c3), .val (.ref sa), .val (.int (0 : Int32))]) rfl ?_
      exact kt
    have hsp22 : vfr = (0 : Int32) := Int32.toInt_inj.mp (by rw [show vfr.toInt = (0 : Int) by omega]; decide)
    subst hsp22
    have pre24 : ∀ t, Steps p.tables e below (T19.setTop (mkF m 73 #[.val (.int vp), .val (.int wa), .val (.int wb), .val (.int wc), .val (.int wd), .val (.int (0 : Int32)), .val (.int (0 : Int32)), .val (.int c0), .val (.int c1), .val (.int c2), .val (.int c3), .val (.ref sa), .val (.int (0 : Int32))] [])) t → Steps p.tables e below (s₁.setTop (entryFrame m #[(.int vp), (.int wa), (.int wb), (.int wc), (.int wd)] maxLocals)) t := pre23
    have hc76_25 : ¬ ((3 : Int) < (0 : Int)) := by decide
    have hc82_26 : ¬ ((3 : Int) < (0 : Int)) := by decide
    have hc99_27 : ¬ ((2 : Int) < (0 : Int)) := by decide
    have hc105_28 : ¬ ((2 : Int) < (0 : Int)) := by decide
    have hc122_29 : ¬ ((1 : Int) < (0 : Int)) := by decide
    have hc128_30 : ¬ ((1 : Int) < (0 : Int)) := by decide
    have hc144_31 : ¬ ((0 : Int) < (0 : Int)) := by decide
    have hc149_32 : ¬ ((0 : Int) < (0 : Int)) := by decide
    have pre33 : ∀ t, Steps p.tables e below (T19.setTop (mkF m 167 #[.val (.int vp), .val (.int wa), .val (.int wb), .val (.int wc), .val (.int wd), .val (.int (0 : Int32)), .val (.int (0 : Int32)), .val (.int c0), .val (.int c1), .val (.int c2), .val (.int c3), .val (.ref sa), .val (.int (0 : Int32))] [(.int (0 : Int32)), (.ref sa)])) t → Steps p.tables e below (s₁.setTop (entryFrame m #[(.int vp), (.int wa), (.int wb), (.int wc), (.int wd)] maxLocals)) t := fun t kt => by
      refine pre24 _ ?_
      refine XS.iload X19.here hx rfl (hb hby at_73) rfl ?_
      refine XS.iconst X19.here hx rfl (hb hby at_75) ?_
      show Steps p.tables e below (T19.setTop (mkF m 76 #[.val (.int vp), .val (.int wa), .val (.int wb), .val (.int wc), .val (.int wd), .val (.int (0 : Int32)), .val (.int (0 : Int32)), .val (.int c0), .val (.int c1), .val (.int c2), .val (.int c3), .val (.ref sa), .val (.int (0 : Int32))] [(.int (3 : Int32)), (.int (0 : Int32))])) _
      refine XS.icmpNo X19.here hx rfl (hb hby at_76) rfl (own_flt (a := (3 : Int32)) (b := (0 : Int32)) (by decide) (by decide) hc76_25).2.2.1 ?_
      refine XS.iload X19.here hx rfl (hb hby at_79) rfl ?_
      refine XS.iconst X19.here hx rfl (hb hby at_81) ?_
      refine XS.icmpYes X19.here hx rfl (pc0 := 82) (pc' := 96) rfl (hb hby at_82) rfl (own_flt (a := (3 : Int32)) (b := (0 : Int32)) (by decide) (by decide) hc82_26).2.2.2 (by decide) (by decide) ?_
      refine XS.iload X19.here hx rfl (hb hby at_96) rfl ?_
      refine XS.iconst X19.here hx rfl (hb hby at_98) ?_
      refine XS.icmpNo X19.here hx rfl (hb hby at_99) rfl (own_flt (a := (2 : Int32)) (b := (0 : Int32)) (by decide) (by decide) hc99_27).2.2.1 ?_
      refine XS.iload X19.here hx rfl (hb hby at_102) rfl ?_
      show Steps p.tables e below (T19.setTop (mkF m 104 #[.val (.int vp), .val (.int wa), .val (.int wb), .val (.int wc), .val (.int wd), .val (.int (0 : Int32)), .val (.int (0 : Int32)), .val (.int c0), .val (.int c1), .val (.int c2), .val (.int c3), .val (.ref sa), .val (.int (0 : Int32))] [(.int (0 : Int32))])) _
      refine XS.iconst X19.here hx rfl (hb hby at_104) ?_
      refine XS.icmpYes X19.here hx rfl (pc0 := 105) (pc' := 119) rfl (hb hby at_105) rfl (own_flt (a := (2 : Int32)) (b := (0 : Int32)) (by decide) (by decide) hc105_28).2.2.2 (by decide) (by decide) ?_
      refine XS.iload X19.here hx rfl (hb hby at_119) rfl ?_
      refine XS.iconst X19.here hx rfl (hb hby at_121) ?_
      refine XS.icmpNo X19.here hx rfl (hb hby at_122) rfl (own_flt (a := (1 : Int32)) (b := (0 : Int32)) (by decide) (by decide) hc122_29).2.2.1 ?_
      refine XS.iload X19.here hx rfl (hb hby at_125) rfl ?_
      refine XS.iconst X19.here hx rfl (hb hby at_127) ?_
      refine XS.icmpYes X19.here hx rfl (pc0 := 128) (pc' := 142) rfl (hb hby at_128) rfl (own_flt (a := (1 : Int32)) (b := (0 : Int32)) (by decide) (by decide) hc128_30).2.2.2 (by decide) (by decide) ?_
      show Steps p.tables e below (T19.setTop (mkF m 142 #[.val (.int vp), .val (.int wa), .val (.int wb), .val (.int wc), .val (.int wd), .val (.int (0 : Int32)), .val (.int (0 : Int32)), .val (.int c0), .val (.int c1), .val (.int c2), .val (.int c3), .val (.ref sa), .val (.int (0 : Int32))] [])) _
      refine XS.iload X19.here hx rfl (hb hby at_142) rfl ?_
      refine XS.ifNo X19.here hx rfl (hb hby at_144) rfl (own_if (own_flt (a := (0 : Int32)) (b := (0 : Int32)) (by decide) (by decide) hc144_31).2.2.1) ?_
      refine XS.iload X19.here hx rfl (hb hby at_147) rfl ?_
      refine XS.ifYes X19.here hx rfl (pc0 := 149) (pc' := 163) rfl (hb hby at_149) rfl (own_if (own_flt (a := (0 : Int32)) (b := (0 : Int32)) (by decide) (by decide) hc149_32).2.2.2) (by decide) (by decide) ?_
      refine XS.aload X19.here hx rfl (hb hby at_163) rfl rfl ?_
      refine XS.iload X19.here hx rfl (hb hby at_165) rfl ?_
      exact kt
    have os34 := (own_st_keep Os K19 ns0)
    obtain ⟨_, _, ⟨T35, L35, k35, n35⟩, -, X35, ⟨Lc35, hQ35, l35, y35, z35⟩, st35⟩ := Jvm.LawKit.callS X19 hx (y := (⟨"com/example/path_template_matcher/pathtemplatematcher/UriReference", "pathEnd", "(Ljava/lang/String;I)I"⟩ : MethodName)) hown (mvT hZ (hw _ (List.mem_of_getElem? (i := 27) rfl))) (mvT hZ (hw _ (List.mem_of_getElem? (i := 28) rfl))) (mvT hZ (hw _ (List.mem_of_getElem? (i := 29) rfl))) (mvT hZ (hw _ (List.mem_of_getElem? (i := 30) rfl))) (by decide) (backOf (W := 0) (rm_pe0_0 l Z a0 hw [] sa vcs vf ob kb T19.heap n0 Zs21 os34 Esa Fcsa Fvsa Vob) hZ (hw _ (List.mem_of_getElem? (i := 30) rfl)) (hw _ (List.mem_of_getElem? (i := 29) rfl)) (by decide) (by decide)) (g := (mkF m 167 #[.val (.int vp), .val (.int wa), .val (.int wb), .val (.int wc), .val (.int wd), .val (.int (0 : Int32)), .val (.int (0 : Int32)), .val (.int c0), .val (.int c1), .val (.int c2), .val (.int c3), .val (.ref sa), .val (.int (0 : Int32))] [(.int (0 : Int32)), (.ref sa)])) rfl (by rw [hml]; rfl) (argsL := [(.ref sa), (.int (0 : Int32))]) (rest := []) (lenOf pd_13 rfl) rfl (by show 2 * 0 + _ ≤ _; exact Nat.le_of_eq rfl) (hb hby at_167) (fun _ _ => ⟨rfl, rfl, (by decide : 6 + 0 ≤ _), (by decide : 12 + 0 ≤ _)⟩)
    dsimp only [Pt.U, Pt.locs, Pt.cells, Pt.slots] at X35 l35 y35 z35 st35 hQ35
    rw [l35, y35, z35] at X35
    obtain ⟨zp, rfl, hzp, N35q, e35⟩ := hQ35
    have N35 := Fr.app N19 N35q
    have hc172_36 : zp.toInt = (0 : Int) := by rw [hzp]
    obtain ⟨fs, hr, hrun, hended, hREW⟩ := X35.leaveW hS19 (by rw [e35]; exact (Nat.le_refl T19.heap.size)) (v := some (.int (1 : Int32))) (fun h => by rw [Bd.returns] at h; cases h)
    refine ⟨_, _, pre33 _ ?_, hrun, hended, _, _, rfl, ?_, ?_, ⟨hREW.1, hREW.2.1, hREW.2.2.1, hREW.2.2.2.mono (by decide) (by decide)⟩⟩
    · refine st35 _ ?_
      refine XS.iload X35.here hx rfl (hb hby at_170) rfl ?_
      show Steps p.tables e below (T35.setTop (mkF m 172 #[.val (.int vp), .val (.int wa), .val (.int wb), .val (.int wc), .val (.int wd), .val (.int (0 : Int32)), .val (.int (0 : Int32)), .val (.int c0), .val (.int c1), .val (.int c2), .val (.int c3), .val (.ref sa), .val (.int (0 : Int32))] [(.int (0 : Int32)), (.int zp)])) _
      refine XS.icmpNo X35.here hx rfl (hb hby at_172) rfl (own_teq (a := zp) (b := (0 : Int32)) rfl (by decide) hc172_36).2 ?_
      refine XS.iconst X35.here hx rfl (hb hby at_175) ?_
      refine XS.goto X35.here hx rfl (pc0 := 176) (pc' := 180) rfl (hb hby at_176) (by decide) (by decide) ?_
      exact retN X35 hx (t := .boolean) Bd.returns (by simp) (hb hby at_180) hr
    · show Q0 Z _ _ _ _ _ _ _ h0 n0 _ T35.heap _
      rw [e35]
      exact ⟨rfl, N35⟩
    · show CHr Z own_EL s.vm s.heap T35.vm T35.heap
      rw [hh, e35]
      exact CR20.trans (CHv.at X35 hZ hEL CR20.1)
  · have pre37 : ∀ t, Steps p.tables e below (s₁.setTop (mkF m 64 #[.val (.int vp), .val (.int wa), .val (.int wb), .val (.int wc), .val (.int wd), .val (.int (1 : Int32)), .val (.int vfr), .val (.int c0), .val (.int c1), .val (.int c2), .val (.int c3), .unset, .unset] [(.int c3), (.int c2), (.int c1), (.int c0), (.int (1 : Int32))])) t → Steps p.tables e below (s₁.setTop (entryFrame m #[(.int vp), (.int wa), (.int wb), (.int wc), (.int wd)] maxLocals)) t := pre17
    obtain ⟨_, _, ⟨T38, L38, k38, n38⟩, -, X38, ⟨Lc38, hQ38, l38, y38, z38⟩, st38⟩ := Jvm.LawKit.callS X0 hx (y := (⟨"com/example/path_template_matcher/pathtemplatematcher/UriReferencePathEndPinLaw", "mk", "(ICCCC)Ljava/lang/String;"⟩ : MethodName)) hown (mvT hZ (hw _ (List.mem_of_getElem? (i := 1) rfl))) (mvT hZ (hw _ (List.mem_of_getElem? (i := 2) rfl))) (mvT hZ (hw _ (List.mem_of_getElem? (i := 3) rfl))) (mvT hZ (hw _ (List.mem_of_getElem? (i := 4) rfl))) (by decide) (backOf (W := 0) (rm_m1 l Z a0 hw [] c0 c1 c2 c3 vcs vf h0 n0 Z0 Os jc0.1 jc1.1 jc2.1 jc3.1 jc0.2 jc1.2 jc2.2 jc3.2) hZ (hw _ (List.mem_of_getElem? (i := 4) rfl)) (hw _ (List.mem_of_getElem? (i := 3) rfl)) (by decide) (by decide)) (g := (mkF m 64 #[.val (.int vp), .val (.int wa), .val (.int wb), .val (.int wc), .val (.int wd), .val (.int (1 : Int32)), .val (.int vfr), .val (.int c0), .val (.int c1), .val (.int c2), .val (.int c3), .unset, .unset] [(.int c3), (.int c2), (.int c1), (.int c0), (.int (1 : Int32))])) rfl (by rw [hml]; rfl) (argsL := [(.int (1 : Int32)), (.int c0), (.int c1), (.int c2), (.int c3)]) (rest := []) (lenOf pd_12 rfl) rfl (by show 2 * 0 + _ ≤ _; exact Nat.le_of_eq rfl) (hb hby at_64) (fun _ _ => ⟨rfl, e0, (by decide : 0 + 3 ≤ _), (by decide : 0 + 6 ≤ _)⟩)
    dsimp only [Pt.U, Pt.locs, Pt.cells, Pt.slots] at X38 l38 y38 z38 st38 hQ38
    rw [l38, y38, z38] at X38
    obtain ⟨sa, ob, kb, bb0, rfl, N38q, K38, Esa, Fcsa, Fvsa, Vob, qbb0⟩ := hQ38
    have N38 := Fr.app N0 N38q
    have CR39 := (CR0.trans (CHr.keep K38 sf0 CR0.1))
    have hk40 := Nat.le_trans hk0 K38.1
    have Zs41 : n0 ≤ T38.heap.size := Nat.le_trans Z0 K38.1
    have kvl : ((1 : Int32)).toInt = (1 : Int) := (by decide)
    have hsp42 : vfr = (0 : Int32) ∨ vfr = (1 : Int32) := by
      have q : vfr.toInt = 0 ∨ vfr.toInt = 1 := by omega
      rcases q with q | q
      · exact Or.inl (Int32.toInt_inj.mp (by rw [q]; decide))
      · exact Or.inr (Int32.toInt_inj.mp (by rw [q]; decide))
    have pre43 : ∀ t, Steps p.tables e below (T38.setTop (mkF m 73 #[.val (.int vp), .val (.int wa), .val (.int wb), .val (.int wc), .val (.int wd), .val (.int (1 : Int32)), .val (.int vfr), .val (.int c0), .val (.int c1), .val (.int c2), .val (.int c3), .val (.ref sa), .val (.int (1 : Int32))] [])) t → Steps p.tables e below (s₁.setTop (entryFrame m #[(.int vp), (.int wa), (.int wb), (.int wc), (.int wd)] maxLocals)) t := fun t kt => by
      refine pre37 _ ?_
      refine st38 _ ?_
      refine XS.astore X38.here hx rfl (hb hby at_67) rfl rfl (l' := #[.val (.int vp), .val (.int wa), .val (.int wb), .val (.int wc), .val (.int wd), .val (.int (1 : Int32)), .val (.int vfr), .val (.int c0), .val (.int c1), .val (.int c2), .val (.int c3), .val (.ref sa), .unset]) rfl ?_
      refine XS.iload X38.here hx rfl (hb hby at_69) rfl ?_
      refine XS.istore X38.here hx rfl (hb hby at_71) rfl (l' := #[.val (.int vp), .val (.int wa), .val (.int wb), .val (.int wc), .val (.int wd), .val (.int (1 : Int32)), .val (.int vfr), .val (.int c0), .val (.int c1), .val (.int c2), .val (.int c3), .val (.ref sa), .val (.int (1 : Int32))]) rfl ?_
      exact kt
    rcases hsp42 with rfl | rfl
    · have pre44 : ∀ t, Steps p.tables e below (T38.setTop (mkF m 73 #[.val (.int vp), .val (.int wa), .val (.int wb), .val (.int wc), .val (.int wd), .val (.int (1 : Int32)), .val (.int (0 : Int32)), .val (.int c0), .val (.int c1), .val (.int c2), .val (.int c3), .val (.ref sa), .val (.int (1 : Int32))] [])) t → Steps p.tables e below (s₁.setTop (entryFrame m #[(.int vp), (.int wa), (.int wb), (.int wc), (.int wd)] maxLocals)) t := pre43
      have hc76_45 : ¬ ((3 : Int) < (0 : Int)) := by decide
      have hc82_46 : ¬ ((3 : Int) < (1 : Int)) := by decide
      have hc99_47 : ¬ ((2 : Int) < (0 : Int)) := by decide
      have hc105_48 : ¬ ((2 : Int) < (1 : Int)) := by decide
      have hc122_49 : ¬ ((1 : Int) < (0 : Int)) := by decide
      have hc128_50 : ¬ ((1 : Int) < (1 : Int)) := by decide
      have hc144_51 : ¬ ((0 : Int) < (0 : Int)) := by decide
      have hc149_52 : (0 : Int) < (1 : Int) := by decide
      have pre53 : ∀ t, Steps p.tables e below (T38.setTop (mkF m 154 #[.val (.int vp), .val (.int wa), .val (.int wb), .val (.int wc), .val (.int wd), .val (.int (1 : Int32)), .val (.int (0 : Int32)), .val (.int c0), .val (.int c1), .val (.int c2), .val (.int c3), .val (.ref sa), .val (.int (1 : Int32))] [(.int c0)])) t → Steps p.tables e below (s₁.setTop (entryFrame m #[(.int vp), (.int wa), (.int wb), (.int wc), (.int wd)] maxLocals)) t := fun t kt => by
        refine pre44 _ ?_
        refine XS.iload X38.here hx rfl (hb hby at_73) rfl ?_
        refine XS.iconst X38.here hx rfl (hb hby at_75) ?_
        show Steps p.tables e below (T38.setTop (mkF m 76 #[.val (.int vp), .val (.int wa), .val (.int wb), .val (.int wc), .val (.int wd), .val (.int (1 : Int32)), .val (.int (0 : Int32)), .val (.int c0), .val (.int c1), .val (.int c2), .val (.int c3), .val (.ref sa), .val (.int (1 : Int32))] [(.int (3 : Int32)), (.int (0 : Int32))])) _
        refine XS.icmpNo X38.here hx rfl (hb hby at_76) rfl (own_flt (a := (3 : Int32)) (b := (0 : Int32)) (by decide) (by decide) hc76_45).2.2.1 ?_
        refine XS.iload X38.here hx rfl (hb hby at_79) rfl ?_
        refine XS.iconst X38.here hx rfl (hb hby at_81) ?_
        refine XS.icmpYes X38.here hx rfl (pc0 := 82) (pc' := 96) rfl (hb hby at_82) rfl (own_flt (a := (3 : Int32)) (b := (1 : Int32)) (by decide) (by decide) hc82_46).2.2.2 (by decide) (by decide) ?_
        refine XS.iload X38.here hx rfl (hb hby at_96) rfl ?_
        refine XS.iconst X38.here hx rfl (hb hby at_98) ?_
        refine XS.icmpNo X38.here hx rfl (hb hby at_99) rfl (own_flt (a := (2 : Int32)) (b := (0 : Int32)) (by decide) (by decide) hc99_47).2.2.1 ?_
        refine XS.iload X38.here hx rfl (hb hby at_102) rfl ?_
        show Steps p.tables e below (T38.setTop (mkF m 104 #[.val (.int vp), .val (.int wa), .val (.int wb), .val (.int wc), .val (.int wd), .val (.int (1 : Int32)), .val (.int (0 : Int32)), .val (.int c0), .val (.int c1), .val (.int c2), .val (.int c3), .val (.ref sa), .val (.int (1 : Int32))] [(.int (1 : Int32))])) _
        refine XS.iconst X38.here hx rfl (hb hby at_104) ?_
        refine XS.icmpYes X38.here hx rfl (pc0 := 105) (pc' := 119) rfl (hb hby at_105) rfl (own_flt (a := (2 : Int32)) (b := (1 : Int32)) (by decide) (by decide) hc105_48).2.2.2 (by decide) (by decide) ?_
        refine XS.iload X38.here hx rfl (hb hby at_119) rfl ?_
        refine XS.iconst X38.here hx rfl (hb hby at_121) ?_
        refine XS.icmpNo X38.here hx rfl (hb hby at_122) rfl (own_flt (a := (1 : Int32)) (b := (0 : Int32)) (by decide) (by decide) hc122_49).2.2.1 ?_
        refine XS.iload X38.here hx rfl (hb hby at_125) rfl ?_
        refine XS.iconst X38.here hx rfl (hb hby at_127) ?_
        refine XS.icmpYes X38.here hx rfl (pc0 := 128) (pc' := 142) rfl (hb hby at_128) rfl (own_flt (a := (1 : Int32)) (b := (1 : Int32)) (by decide) (by decide) hc128_50).2.2.2 (by decide) (by decide) ?_
        show Steps p.tables e below (T38.setTop (mkF m 142 #[.val (.int vp), .val (.int wa), .val (.int wb), .val (.int wc), .val (.int wd), .val (.int (1 : Int32)), .val (.int (0 : Int32)), .val (.int c0), .val (.int c1), .val (.int c2), .val (.int c3), .val (.ref sa), .val (.int (1 : Int32))] [])) _
        refine XS.iload X38.here hx rfl (hb hby at_142) rfl ?_
        refine XS.ifNo X38.here hx rfl (hb hby at_144) rfl (own_if (own_flt (a := (0 : Int32)) (b := (0 : Int32)) (by decide) (by decide) hc144_51).2.2.1) ?_
        refine XS.iload X38.here hx rfl (hb hby at_147) rfl ?_
        refine XS.ifNo X38.here hx rfl (hb hby at_149) rfl (own_if (own_tlt (a := (0 : Int32)) (b := (1 : Int32)) (by decide) (by decide) hc149_52).2.2.2) ?_
        refine XS.iload X38.here hx rfl (hb hby at_152) rfl ?_
        exact kt
      obtain ⟨_, _, ⟨T54, L54, k54, n54⟩, -, X54, ⟨Lc54, hQ54, l54, y54, z54⟩, st54⟩ := Jvm.LawKit.callS X38 hx (y := (⟨"com/example/path_template_matcher/pathtemplatematcher/UriReferencePathEndPinLaw", "stop", "(C)Z"⟩ : MethodName)) hown (mvT hZ (hw _ (List.mem_of_getElem? (i := 52) rfl))) (mvT hZ (hw _ (List.mem_of_getElem? (i := 53) rfl))) (mvT hZ (hw _ (List.mem_of_getElem? (i := 3) rfl))) (mvT hZ (hw _ (List.mem_of_getElem? (i := 54) rfl))) (by decide) (backOf (W := 0) (rm11 l Z a0 hw [] c0 T38.heap n0 Zs41 ) hZ (hw _ (List.mem_of_getElem? (i := 54) rfl)) (hw _ (List.mem_of_getElem? (i := 3) rfl)) (by decide) (by decide)) (g := (mkF m 154 #[.val (.int vp), .val (.int wa), .val (.int wb), .val (.int wc), .val (.int wd), .val (.int (1 : Int32)), .val (.int (0 : Int32)), .val (.int c0), .val (.int c1), .val (.int c2), .val (.int c3), .val (.ref sa), .val (.int (1 : Int32))] [(.int c0)])) rfl (by rw [hml]; rfl) (argsL := [(.int c0)]) (rest := []) (lenOf pd_14 rfl) rfl (by show 2 * 0 + _ ≤ _; exact Nat.le_of_eq rfl) (hb hby at_154) (fun _ _ => ⟨rfl, rfl, (by decide : 3 + 0 ≤ _), (by decide : 6 + 0 ≤ _)⟩)
      dsimp only [Pt.U, Pt.locs, Pt.cells, Pt.slots] at X54 l54 y54 z54 st54 hQ54
      rw [l54, y54, z54] at X54
      obtain ⟨r0, rfl, hr0, N54q, e54⟩ := hQ54
      have N54 := Fr.app N38 N54q
      have pre55 : ∀ t, Steps p.tables e below (T54.setTop (mkF m 157 #[.val (.int vp), .val (.int wa), .val (.int wb), .val (.int wc), .val (.int wd), .val (.int (1 : Int32)), .val (.int (0 : Int32)), .val (.int c0), .val (.int c1), .val (.int c2), .val (.int c3), .val (.ref sa), .val (.int (1 : Int32))] [(.int r0)])) t → Steps p.tables e below (s₁.setTop (entryFrame m #[(.int vp), (.int wa), (.int wb), (.int wc), (.int wd)] maxLocals)) t := fun t kt => by
        refine pre53 _ ?_
        refine st54 _ ?_
        exact kt
      obtain ⟨ex0, hex0, pre59⟩ : ∃ ex0 : Int32, (ex0.toInt = if own_stop c0.toInt then (0 : Int) else (1 : Int)) ∧ ∀ t, Steps p.tables e below (T54.setTop (mkF m 163 #[.val (.int vp), .val (.int wa), .val (.int wb), .val (.int wc), .val (.int wd), .val (.int (1 : Int32)), .val (.int (0 : Int32)), .val (.int c0), .val (.int c1), .val (.int c2), .val (.int c3), .val (.ref sa), .val (.int ex0)] [])) t → Steps p.tables e below (s₁.setTop (entryFrame m #[(.int vp), (.int wa), (.int wb), (.int wc), (.int wd)] maxLocals)) t := by
        by_cases hc157_56 : r0.toInt = (0 : Int)
        · have pre57 : ∀ t, Steps p.tables e below (T54.setTop (mkF m 163 #[.val (.int vp), .val (.int wa), .val (.int wb), .val (.int wc), .val (.int wd), .val (.int (1 : Int32)), .val (.int (0 : Int32)), .val (.int c0), .val (.int c1), .val (.int c2), .val (.int c3), .val (.ref sa), .val (.int (1 : Int32))] [])) t → Steps p.tables e below (s₁.setTop (entryFrame m #[(.int vp), (.int wa), (.int wb), (.int wc), (.int wd)] maxLocals)) t := fun t kt => by
            refine pre55 _ ?_
            show Steps p.tables e below (T54.setTop (mkF m 157 #[.val (.int vp), .val (.int wa), .val (.int wb), .val (.int wc), .val (.int wd), .val (.int (1 : Int32)), .val (.int (0 : Int32)), .val (.int c0), .val (.int c1), .val (.int c2), .val (.int c3), .val (.ref sa), .val (.int (1 : Int32))] [(.int r0)])) _
            refine XS.ifYes X54.here hx rfl (pc0 := 157) (pc' := 163) rfl (hb hby at_157) rfl (own_if (own_teq (a := r0) (b := (0 : Int32)) rfl (by decide) hc157_56).1) (by decide) (by decide) ?_
            exact kt
          exact ⟨(1 : Int32), by exact (Decidable.em (own_stop c0.toInt)).elim (fun hs => by rw [if_pos hs] at hr0 ⊢; try (have : ((1 : Int32)).toInt = (1 : Int) := (by decide); omega)) (fun hs => by rw [if_neg hs] at hr0 ⊢; try (have : ((1 : Int32)).toInt = (1 : Int) := (by decide); omega)), pre57⟩
        · have pre58 : ∀ t, Steps p.tables e below (T54.setTop (mkF m 163 #[.val (.int vp), .val (.int wa), .val (.int wb), .val (.int wc), .val (.int wd), .val (.int (1 : Int32)), .val (.int (0 : Int32)), .val (.int c0), .val (.int c1), .val (.int c2), .val (.int c3), .val (.ref sa), .val (.int (0 : Int32))] [])) t → Steps p.tables e below (s₁.setTop (entryFrame m #[(.int vp), (.int wa), (.int wb), (.int wc), (.int wd)] maxLocals)) t := fun t kt => by
            refine pre55 _ ?_
            show Steps p.tables e below (T54.setTop (mkF m 157 #[.val (.int vp), .val (.int wa), .val (.int wb), .val (.int wc), .val (.int wd), .val (.int (1 : Int32)), .val (.int (0 : Int32)), .val (.int c0), .val (.int c1), .val (.int c2), .val (.int c3), .val (.ref sa), .val (.int (1 : Int32))] [(.int r0)])) _
            refine XS.ifNo X54.here hx rfl (hb hby at_157) rfl (own_if (own_feq (a := r0) (b := (0 : Int32)) rfl (by decide) hc157_56).1) ?_
            show Steps p.tables e below (T54.setTop (mkF m 160 #[.val (.int vp), .val (.int wa), .val (.int wb), .val (.int wc), .val (.int wd), .val (.int (1 : Int32)), .val (.int (0 : Int32)), .val (.int c0), .val (.int c1), .val (.int c2), .val (.int c3), .val (.ref sa), .val (.int (1 : Int32))] [])) _
            refine XS.iconst X54.here hx rfl (hb hby at_160) ?_
            refine XS.istore X54.here hx rfl (hb hby at_161) rfl (l' := #[.val (.int vp), .val (.int wa), .val (.int wb), .val (.int wc), .val (.int wd), .val (.int (1 : Int32)), .val (.int (0 : Int32)), .val (.int c0), .val (.int c1), .val (.int c2), .val (.int c3), .val (.ref sa), .val (.int (0 : Int32))]) rfl ?_
            exact kt
          exact ⟨(0 : Int32), by exact (Decidable.em (own_stop c0.toInt)).elim (fun hs => by rw [if_pos hs] at hr0 ⊢; try (have : ((0 : Int32)).toInt = (0 : Int) := (by decide); omega)) (fun hs => by rw [if_neg hs] at hr0 ⊢; try (have : ((0 : Int32)).toInt = (0 : Int) := (by decide); omega)), pre58⟩
      have pre60 : ∀ t, Steps p.tables e below (T54.setTop (mkF m 167 #[.val (.int vp), .val (.int wa), .val (.int wb), .val (.int wc), .val (.int wd), .val (.int (1 : Int32)), .val (.int (0 : Int32)), .val (.int c0), .val (.int c1), .val (.int c2), .val (.int c3), .val (.ref sa), .val (.int ex0)] [(.int (0 : Int32)), (.ref sa)])) t → Steps p.tables e below (s₁.setTop (entryFrame m #[(.int vp), (.int wa), (.int wb), (.int wc), (.int wd)] maxLocals)) t := fun t kt => by
        refine pre59 _ ?_
        refine XS.aload X54.here hx rfl (hb hby at_163) rfl rfl ?_
        refine XS.iload X54.here hx rfl (hb hby at_165) rfl ?_
        show Steps p.tables e below (T54.setTop (mkF m 167 #[.val (.int vp), .val (.int wa), .val (.int wb), .val (.int wc), .val (.int wd), .val (.int (1 : Int32)), .val (.int (0 : Int32)), .val (.int c0), .val (.int c1), .val (.int c2), .val (.int c3), .val (.ref sa), .val (.int ex0)] [(.int (0 : Int32)), (.ref sa)])) _
        exact kt
      have os61 := (own_st_keep Os K38 ns0)
      obtain ⟨_, _, ⟨T62, L62, k62, n62⟩, -, X62, ⟨Lc62, hQ62, l62, y62, z62⟩, st62⟩ := Jvm.LawKit.callS X54 hx (y := (⟨"com/example/path_template_matcher/pathtemplatematcher/UriReference", "pathEnd", "(Ljava/lang/String;I)I"⟩ : MethodName)) hown (mvT hZ (hw _ (List.mem_of_getElem? (i := 27) rfl))) (mvT hZ (hw _ (List.mem_of_getElem? (i := 28) rfl))) (mvT hZ (hw _ (List.mem_of_getElem? (i := 29) rfl))) (mvT hZ (hw _ (List.mem_of_getElem? (i := 30) rfl))) (by decide) (backOf (W := 0) (rm_pe1_0 l Z a0 hw [] sa vcs vf ob kb bb0 c0 T38.heap n0 Zs41 os61 Esa Fcsa Fvsa Vob qbb0) hZ (hw _ (List.mem_of_getElem? (i := 30) rfl)) (hw _ (List.mem_of_getElem? (i := 29) rfl)) (by decide) (by decide)) (g := (mkF m 167 #[.val (.int vp), .val (.int wa), .val (.int wb), .val (.int wc), .val (.int wd), .val (.int (1 : Int32)), .val (.int (0 : Int32)), .val (.int c0), .val (.int c1), .val (.int c2), .val (.int c3), .val (.ref sa), .val (.int ex0)] [(.int (0 : Int32)), (.ref sa)])) rfl (by rw [hml]; rfl) (argsL := [(.ref sa), (.int (0 : Int32))]) (rest := []) (lenOf pd_13 rfl) rfl (by show 2 * 0 + _ ≤ _; exact Nat.le_of_eq rfl) (hb hby at_167) (fun _ _ => ⟨rfl, e54, (by decide : 3 + 0 ≤ _), (by decide : 6 + 0 ≤ _)⟩)
      dsimp only [Pt.U, Pt.locs, Pt.cells, Pt.slots] at X62 l62 y62 z62 st62 hQ62
      rw [l62, y62, z62] at X62
      obtain ⟨zp, rfl, hzp, N62q, e62⟩ := hQ62
      have N62 := Fr.app N54 N62q
      have hc172_63 : zp.toInt = ex0.toInt := by rw [hzp, hex0]
      obtain ⟨fs, hr, hrun, hended, hREW⟩ := X62.leaveW hS0 (by rw [e62]; exact hk40) (v := some (.int (1 : Int32))) (fun h => by rw [Bd.returns] at h; cases h)
      refine ⟨_, _, pre60 _ ?_, hrun, hended, _, _, rfl, ?_, ?_, ⟨hREW.1, hREW.2.1, hREW.2.2.1, hREW.2.2.2.mono (by decide) (by decide)⟩⟩
      · refine st62 _ ?_
        refine XS.iload X62.here hx rfl (hb hby at_170) rfl ?_
        refine XS.icmpNo X62.here hx rfl (hb hby at_172) rfl (own_teq (a := zp) (b := ex0) rfl rfl hc172_63).2 ?_
        refine XS.iconst X62.here hx rfl (hb hby at_175) ?_
        refine XS.goto X62.here hx rfl (pc0 := 176) (pc' := 180) rfl (hb hby at_176) (by decide) (by decide) ?_
        exact retN X62 hx (t := .boolean) Bd.returns (by simp) (hb hby at_180) hr
      · show Q0 Z _ _ _ _ _ _ _ h0 n0 _ T62.heap _
        rw [e62]
        exact ⟨rfl, N62⟩
      · show CHr Z own_EL s.vm s.heap T62.vm T62.heap
        rw [hh, e62]
        exact CR39.trans (CHv.at X62 hZ hEL CR39.1)
    · have pre64 : ∀ t, Steps p.tables e below (T38.setTop (mkF m 73 #[.val (.int vp), .val (.int wa), .val (.int wb), .val (.int wc), .val (.int wd), .val (.int (1 : Int32)), .val (.int (1 : Int32)), .val (.int c0), .val (.int c1), .val (.int c2), .val (.int c3), .val (.ref sa), .val (.int (1 : Int32))] [])) t → Steps p.tables e below (s₁.setTop (entryFrame m #[(.int vp), (.int wa), (.int wb), (.int wc), (.int wd)] maxLocals)) t := pre43
      have hc76_65 : ¬ ((3 : Int) < (1 : Int)) := by decide
      have hc82_66 : ¬ ((3 : Int) < (1 : Int)) := by decide
      have hc99_67 : ¬ ((2 : Int) < (1 : Int)) := by decide
      have hc105_68 : ¬ ((2 : Int) < (1 : Int)) := by decide
      have hc122_69 : ¬ ((1 : Int) < (1 : Int)) := by decide
      have hc128_70 : ¬ ((1 : Int) < (1 : Int)) := by decide
      have hc144_71 : (0 : Int) < (1 : Int) := by decide
      have pre72 : ∀ t, Steps p.tables e below (T38.setTop (mkF m 167 #[.val (.int vp), .val (.int wa), .val (.int wb), .val (.int wc), .val (.int wd), .val (.int (1 : Int32)), .val (.int (1 : Int32)), .val (.int c0), .val (.int c1), .val (.int c2), .val (.int c3), .val (.ref sa), .val (.int (1 : Int32))] [(.int (1 : Int32)), (.ref sa)])) t → Steps p.tables e below (s₁.setTop (entryFrame m #[(.int vp), (.int wa), (.int wb), (.int wc), (.int wd)] maxLocals)) t := fun t kt => by
        refine pre64 _ ?_
        refine XS.iload X38.here hx rfl (hb hby at_73) rfl ?_
        refine XS.iconst X38.here hx rfl (hb hby at_75) ?_
        show Steps p.tables e below (T38.setTop (mkF m 76 #[.val (.int vp), .val (.int wa), .val (.int wb), .val (.int wc), .val (.int wd), .val (.int (1 : Int32)), .val (.int (1 : Int32)), .val (.int c0), .val (.int c1), .val (.int c2), .val (.int c3), .val (.ref sa), .val (.int (1 : Int32))] [(.int (3 : Int32)), (.int (1 : Int32))])) _
        refine XS.icmpNo X38.here hx rfl (hb hby at_76) rfl (own_flt (a := (3 : Int32)) (b := (1 : Int32)) (by decide) (by decide) hc76_65).2.2.1 ?_
        refine XS.iload X38.here hx rfl (hb hby at_79) rfl ?_
        refine XS.iconst X38.here hx rfl (hb hby at_81) ?_
        refine XS.icmpYes X38.here hx rfl (pc0 := 82) (pc' := 96) rfl (hb hby at_82) rfl (own_flt (a := (3 : Int32)) (b := (1 : Int32)) (by decide) (by decide) hc82_66).2.2.2 (by decide) (by decide) ?_
        refine XS.iload X38.here hx rfl (hb hby at_96) rfl ?_
        refine XS.iconst X38.here hx rfl (hb hby at_98) ?_
        refine XS.icmpNo X38.here hx rfl (hb hby at_99) rfl (own_flt (a := (2 : Int32)) (b := (1 : Int32)) (by decide) (by decide) hc99_67).2.2.1 ?_
        refine XS.iload X38.here hx rfl (hb hby at_102) rfl ?_
        show Steps p.tables e below (T38.setTop (mkF m 104 #[.val (.int vp), .val (.int wa), .val (.int wb), .val (.int wc), .val (.int wd), .val (.int (1 : Int32)), .val (.int (1 : Int32)), .val (.int c0), .val (.int c1), .val (.int c2), .val (.int c3), .val (.ref sa), .val (.int (1 : Int32))] [(.int (1 : Int32))])) _
        refine XS.iconst X38.here hx rfl (hb hby at_104) ?_
        refine XS.icmpYes X38.here hx rfl (pc0 := 105) (pc' := 119) rfl (hb hby at_105) rfl (own_flt (a := (2 : Int32)) (b := (1 : Int32)) (by decide) (by decide) hc105_68).2.2.2 (by decide) (by decide) ?_
        refine XS.iload X38.here hx rfl (hb hby at_119) rfl ?_
        refine XS.iconst X38.here hx rfl (hb hby at_121) ?_
        refine XS.icmpNo X38.here hx rfl (hb hby at_122) rfl (own_flt (a := (1 : Int32)) (b := (1 : Int32)) (by decide) (by decide) hc122_69).2.2.1 ?_
        refine XS.iload X38.here hx rfl (hb hby at_125) rfl ?_
        refine XS.iconst X38.here hx rfl (hb hby at_127) ?_
        refine XS.icmpYes X38.here hx rfl (pc0 := 128) (pc' := 142) rfl (hb hby at_128) rfl (own_flt (a := (1 : Int32)) (b := (1 : Int32)) (by decide) (by decide) hc128_70).2.2.2 (by decide) (by decide) ?_
        show Steps p.tables e below (T38.setTop (mkF m 142 #[.val (.int vp), .val (.int wa), .val (.int wb), .val (.int wc), .val (.int wd), .val (.int (1 : Int32)), .val (.int (1 : Int32)), .val (.int c0), .val (.int c1), .val (.int c2), .val (.int c3), .val (.ref sa), .val (.int (1 : Int32))] [])) _
        refine XS.iload X38.here hx rfl (hb hby at_142) rfl ?_
        refine XS.ifYes X38.here hx rfl (pc0 := 144) (pc' := 163) rfl (hb hby at_144) rfl (own_if (own_tlt (a := (0 : Int32)) (b := (1 : Int32)) (by decide) (by decide) hc144_71).2.2.1) (by decide) (by decide) ?_
        refine XS.aload X38.here hx rfl (hb hby at_163) rfl rfl ?_
        refine XS.iload X38.here hx rfl (hb hby at_165) rfl ?_
        exact kt
      have os73 := (own_st_keep Os K38 ns0)
      obtain ⟨_, _, ⟨T74, L74, k74, n74⟩, -, X74, ⟨Lc74, hQ74, l74, y74, z74⟩, st74⟩ := Jvm.LawKit.callS X38 hx (y := (⟨"com/example/path_template_matcher/pathtemplatematcher/UriReference", "pathEnd", "(Ljava/lang/String;I)I"⟩ : MethodName)) hown (mvT hZ (hw _ (List.mem_of_getElem? (i := 27) rfl))) (mvT hZ (hw _ (List.mem_of_getElem? (i := 28) rfl))) (mvT hZ (hw _ (List.mem_of_getElem? (i := 29) rfl))) (mvT hZ (hw _ (List.mem_of_getElem? (i := 30) rfl))) (by decide) (backOf (W := 0) (rm_pe1_1 l Z a0 hw [] sa vcs vf ob kb bb0 c0 T38.heap n0 Zs41 os73 Esa Fcsa Fvsa Vob qbb0) hZ (hw _ (List.mem_of_getElem? (i := 30) rfl)) (hw _ (List.mem_of_getElem? (i := 29) rfl)) (by decide) (by decide)) (g := (mkF m 167 #[.val (.int vp), .val (.int wa), .val (.int wb), .val (.int wc), .val (.int wd), .val (.int (1 : Int32)), .val (.int (1 : Int32)), .val (.int c0), .val (.int c1), .val (.int c2), .val (.int c3), .val (.ref sa), .val (.int (1 : Int32))] [(.int (1 : Int32)), (.ref sa)])) rfl (by rw [hml]; rfl) (argsL := [(.ref sa), (.int (1 : Int32))]) (rest := []) (lenOf pd_13 rfl) rfl (by show 2 * 0 + _ ≤ _; exact Nat.le_of_eq rfl) (hb hby at_167) (fun _ _ => ⟨rfl, rfl, (by decide : 3 + 0 ≤ _), (by decide : 6 + 0 ≤ _)⟩)
      dsimp only [Pt.U, Pt.locs, Pt.cells, Pt.slots] at X74 l74 y74 z74 st74 hQ74
      rw [l74, y74, z74] at X74
      obtain ⟨zp, rfl, hzp, N74q, e74⟩ := hQ74
      have N74 := Fr.app N38 N74q
      have hc172_75 : zp.toInt = (1 : Int) := by rw [hzp]
      obtain ⟨fs, hr, hrun, hended, hREW⟩ := X74.leaveW hS0 (by rw [e74]; exact hk40) (v := some (.int (1 : Int32))) (fun h => by rw [Bd.returns] at h; cases h)
      refine ⟨_, _, pre72 _ ?_, hrun, hended, _, _, rfl, ?_, ?_, ⟨hREW.1, hREW.2.1, hREW.2.2.1, hREW.2.2.2.mono (by decide) (by decide)⟩⟩
      · refine st74 _ ?_
        refine XS.iload X74.here hx rfl (hb hby at_170) rfl ?_
        refine XS.icmpNo X74.here hx rfl (hb hby at_172) rfl (own_teq (a := zp) (b := (1 : Int32)) rfl (by decide) hc172_75).2 ?_
        refine XS.iconst X74.here hx rfl (hb hby at_175) ?_
        show Steps p.tables e below (T74.setTop (mkF m 176 #[.val (.int vp), .val (.int wa), .val (.int wb), .val (.int wc), .val (.int wd), .val (.int (1 : Int32)), .val (.int (1 : Int32)), .val (.int c0), .val (.int c1), .val (.int c2), .val (.int c3), .val (.ref sa), .val (.int (1 : Int32))] [(.int (1 : Int32))])) _
        refine XS.goto X74.here hx rfl (pc0 := 176) (pc' := 180) rfl (hb hby at_176) (by decide) (by decide) ?_
        exact retN X74 hx (t := .boolean) Bd.returns (by simp) (hb hby at_180) hr
      · show Q0 Z _ _ _ _ _ _ _ h0 n0 _ T74.heap _
        rw [e74]
        exact ⟨rfl, N74⟩
      · show CHr Z own_EL s.vm s.heap T74.vm T74.heap
        rw [hh, e74]
        exact CR39.trans (CHv.at X74 hZ hEL CR39.1)
  · have pre76 : ∀ t, Steps p.tables e below (s₁.setTop (mkF m 64 #[.val (.int vp), .val (.int wa), .val (.int wb), .val (.int wc), .val (.int wd), .val (.int (2 : Int32)), .val (.int vfr), .val (.int c0), .val (.int c1), .val (.int c2), .val (.int c3), .unset, .unset] [(.int c3), (.int c2), (.int c1), (.int c0), (.int (2 : Int32))])) t → Steps p.tables e below (s₁.setTop (entryFrame m #[(.int vp), (.int wa), (.int wb), (.int wc), (.int wd)] maxLocals)) t := pre17
    obtain ⟨_, _, ⟨T77, L77, k77, n77⟩, -, X77, ⟨Lc77, hQ77, l77, y77, z77⟩, st77⟩ := Jvm.LawKit.callS X0 hx (y := (⟨"com/example/path_template_matcher/pathtemplatematcher/UriReferencePathEndPinLaw", "mk", "(ICCCC)Ljava/lang/String;"⟩ : MethodName)) hown (mvT hZ (hw _ (List.mem_of_getElem? (i := 1) rfl))) (mvT hZ (hw _ (List.mem_of_getElem? (i := 2) rfl))) (mvT hZ (hw _ (List.mem_of_getElem? (i := 3) rfl))) (mvT hZ (hw _ (List.mem_of_getElem? (i := 4) rfl))) (by decide) (backOf (W := 0) (rm_m2 l Z a0 hw [] c0 c1 c2 c3 vcs vf h0 n0 Z0 Os jc0.1 jc1.1 jc2.1 jc3.1 jc0.2 jc1.2 jc2.2 jc3.2) hZ (hw _ (List.mem_of_getElem? (i := 4) rfl)) (hw _ (List.mem_of_getElem? (i := 3) rfl)) (by decide) (by decide)) (g := (mkF m 64 #[.val (.int vp), .val (.int wa), .val (.int wb), .val (.int wc), .val (.int wd), .val (.int (2 : Int32)), .val (.int vfr), .val (.int c0), .val (.int c1), .val (.int c2), .val (.int c3), .unset, .unset] [(.int c3), (.int c2), (.int c1), (.int c0), (.int (2 : Int32))])) rfl (by rw [hml]; rfl) (argsL := [(.int (2 : Int32)), (.int c0), (.int c1), (.int c2), (.int c3)]) (rest := []) (lenOf pd_12 rfl) rfl (by show 2 * 0 + _ ≤ _; exact Nat.le_of_eq rfl) (hb hby at_64) (fun _ _ => ⟨rfl, e0, (by decide : 0 + 3 ≤ _), (by decide : 0 + 8 ≤ _)⟩)
    dsimp only [Pt.U, Pt.locs, Pt.cells, Pt.slots] at X77 l77 y77 z77 st77 hQ77
    rw [l77, y77, z77] at X77
    obtain ⟨sa, ob, kb, bb0, bb1, rfl, N77q, K77, Esa, Fcsa, Fvsa, Vob, qbb0, qbb1⟩ := hQ77
    have N77 := Fr.app N0 N77q
    have CR78 := (CR0.trans (CHr.keep K77 sf0 CR0.1))
    have hk79 := Nat.le_trans hk0 K77.1
    have Zs80 : n0 ≤ T77.heap.size := Nat.le_trans Z0 K77.1
    have kvl : ((2 : Int32)).toInt = (2 : Int) := (by decide)
    have hsp81 : vfr = (0 : Int32) ∨ vfr = (1 : Int32) ∨ vfr = (2 : Int32) := by
      have q : vfr.toInt = 0 ∨ vfr.toInt = 1 ∨ vfr.toInt = 2 := by omega
      rcases q with q | q | q
      · exact Or.inl (Int32.toInt_inj.mp (by rw [q]; decide))
      · exact Or.inr (Or.inl (Int32.toInt_inj.mp (by rw [q]; decide)))
      · exact Or.inr (Or.inr (Int32.toInt_inj.mp (by rw [q]; decide)))
    have pre82 : ∀ t, Steps p.tables e below (T77.setTop (mkF m 73 #[.val (.int vp), .val (.int wa), .val (.int wb), .val (.int wc), .val (.int wd), .val (.int (2 : Int32)), .val (.int vfr), .val (.int c0), .val (.int c1), .val (.int c2), .val (.int c3), .val (.ref sa), .val (.int (2 : Int32))] [])) t → Steps p.tables e below (s₁.setTop (entryFrame m #[(.int vp), (.int wa), (.int wb), (.int wc), (.int wd)] maxLocals)) t := fun t kt => by
      refine pre76 _ ?_
      refine st77 _ ?_
      refine XS.astore X77.here hx rfl (hb hby at_67) rfl rfl (l' := #[.val (.int vp), .val (.int wa), .val (.int wb), .val (.int wc), .val (.int wd), .val (.int (2 : Int32)), .val (.int vfr), .val (.int c0), .val (.int c1), .val (.int c2), .val (.int c3), .val (.ref sa), .unset]) rfl ?_
      refine XS.iload X77.here hx rfl (hb hby at_69) rfl ?_
      refine XS.istore X77.here hx rfl (hb hby at_71) rfl (l' := #[.val (.int vp), .val (.int wa), .val (.int wb), .val (.int wc), .val (.int wd), .val (.int (2 : Int32)), .val (.int vfr), .val (.int c0), .val (.int c1), .val (.int c2), .val (.int c3), .val (.ref sa), .val (.int (2 : Int32))]) rfl ?_
      exact kt
    rcases hsp81 with rfl | rfl | rfl
    · have pre83 : ∀ t, Steps p.tables e below (T77.setTop (mkF m 73 #[.val (.int vp), .val (.int wa), .val (.int wb), .val (.int wc), .val (.int wd), .val (.int (2 : Int32)), .val (.int (0 : Int32)), .val (.int c0), .val (.int c1), .val (.int c2), .val (.int c3), .val (.ref sa), .val (.int (2 : Int32))] [])) t → Steps p.tables e below (s₁.setTop (entryFrame m #[(.int vp), (.int wa), (.int wb), (.int wc), (.int wd)] maxLocals)) t := pre82
      have hc76_84 : ¬ ((3 : Int) < (0 : Int)) := by decide
      have hc82_85 : ¬ ((3 : Int) < (2 : Int)) := by decide
      have hc99_86 : ¬ ((2 : Int) < (0 : Int)) := by decide
      have hc105_87 : ¬ ((2 : Int) < (2 : Int)) := by decide
      have hc122_88 : ¬ ((1 : Int) < (0 : Int)) := by decide
      have hc128_89 : (1 : Int) < (2 : Int) := by decide
      have pre90 : ∀ t, Steps p.tables e below (T77.setTop (mkF m 133 #[.val (.int vp), .val (.int wa), .val (.int wb), .val (.int wc), .val (.int wd), .val (.int (2 : Int32)), .val (.int (0 : Int32)), .val (.int c0), .val (.int c1), .val (.int c2), .val (.int c3), .val (.ref sa), .val (.int (2 : Int32))] [(.int c1)])) t → Steps p.tables e below (s₁.setTop (entryFrame m #[(.int vp), (.int wa), (.int wb), (.int wc), (.int wd)] maxLocals)) t := fun t kt => by
        refine pre83 _ ?_
        refine XS.iload X77.here hx rfl (hb hby at_73) rfl ?_
        refine XS.iconst X77.here hx rfl (hb hby at_75) ?_
        show Steps p.tables e below (T77.setTop (mkF m 76 #[.val (.int vp), .val (.int wa), .val (.int wb), .val (.int wc), .val (.int wd), .val (.int (2 : Int32)), .val (.int (0 : Int32)), .val (.int c0), .val (.int c1), .val (.int c2), .val (.int c3), .val (.ref sa), .val (.int (2 : Int32))] [(.int (3 : Int32)), (.int (0 : Int32))])) _
        refine XS.icmpNo X77.here hx rfl (hb hby at_76) rfl (own_flt (a := (3 : Int32)) (b := (0 : Int32)) (by decide) (by decide) hc76_84).2.2.1 ?_
        refine XS.iload X77.here hx rfl (hb hby at_79) rfl ?_
        refine XS.iconst X77.here hx rfl (hb hby at_81) ?_
        refine XS.icmpYes X77.here hx rfl (pc0 := 82) (pc' := 96) rfl (hb hby at_82) rfl (own_flt (a := (3 : Int32)) (b := (2 : Int32)) (by decide) (by decide) hc82_85).2.2.2 (by decide) (by decide) ?_
        refine XS.iload X77.here hx rfl (hb hby at_96) rfl ?_
        refine XS.iconst X77.here hx rfl (hb hby at_98) ?_
        refine XS.icmpNo X77.here hx rfl (hb hby at_99) rfl (own_flt (a := (2 : Int32)) (b := (0 : Int32)) (by decide) (by decide) hc99_86).2.2.1 ?_
        refine XS.iload X77.here hx rfl (hb hby at_102) rfl ?_
        show Steps p.tables e below (T77.setTop (mkF m 104 #[.val (.int vp), .val (.int wa), .val (.int wb), .val (.int wc), .val (.int wd), .val (.int (2 : Int32)), .val (.int (0 : Int32)), .val (.int c0), .val (.int c1), .val (.int c2), .val (.int c3), .val (.ref sa), .val (.int (2 : Int32))] [(.int (2 : Int32))])) _
        refine XS.iconst X77.here hx rfl (hb hby at_104) ?_
        refine XS.icmpYes X77.here hx rfl (pc0 := 105) (pc' := 119) rfl (hb hby at_105) rfl (own_flt (a := (2 : Int32)) (b := (2 : Int32)) (by decide) (by decide) hc105_87).2.2.2 (by decide) (by decide) ?_
        refine XS.iload X77.here hx rfl (hb hby at_119) rfl ?_
        refine XS.iconst X77.here hx rfl (hb hby at_121) ?_
        refine XS.icmpNo X77.here hx rfl (hb hby at_122) rfl (own_flt (a := (1 : Int32)) (b := (0 : Int32)) (by decide) (by decide) hc122_88).2.2.1 ?_
        refine XS.iload X77.here hx rfl (hb hby at_125) rfl ?_
        refine XS.iconst X77.here hx rfl (hb hby at_127) ?_
        refine XS.icmpNo X77.here hx rfl (hb hby at_128) rfl (own_tlt (a := (1 : Int32)) (b := (2 : Int32)) (by decide) (by decide) hc128_89).2.2.2 ?_
        show Steps p.tables e below (T77.setTop (mkF m 131 #[.val (.int vp), .val (.int wa), .val (.int wb), .val (.int wc), .val (.int wd), .val (.int (2 : Int32)), .val (.int (0 : Int32)), .val (.int c0), .val (.int c1), .val (.int c2), .val (.int c3), .val (.ref sa), .val (.int (2 : Int32))] [])) _
        refine XS.iload X77.here hx rfl (hb hby at_131) rfl ?_
        exact kt
      obtain ⟨_, _, ⟨T91, L91, k91, n91⟩, -, X91, ⟨Lc91, hQ91, l91, y91, z91⟩, st91⟩ := Jvm.LawKit.callS X77 hx (y := (⟨"com/example/path_template_matcher/pathtemplatematcher/UriReferencePathEndPinLaw", "stop", "(C)Z"⟩ : MethodName)) hown (mvT hZ (hw _ (List.mem_of_getElem? (i := 52) rfl))) (mvT hZ (hw _ (List.mem_of_getElem? (i := 53) rfl))) (mvT hZ (hw _ (List.mem_of_getElem? (i := 3) rfl))) (mvT hZ (hw _ (List.mem_of_getElem? (i := 54) rfl))) (by decide) (backOf (W := 0) (rm11 l Z a0 hw [] c1 T77.heap n0 Zs80 ) hZ (hw _ (List.mem_of_getElem? (i := 54) rfl)) (hw _ (List.mem_of_getElem? (i := 3) rfl)) (by decide) (by decide)) (g := (mkF m 133 #[.val (.int vp), .val (.int wa), .val (.int wb), .val (.int wc), .val (.int wd), .val (.int (2 : Int32)), .val (.int (0 : Int32)), .val (.int c0), .val (.int c1), .val (.int c2), .val (.int c3), .val (.ref sa), .val (.int (2 : Int32))] [(.int c1)])) rfl (by rw [hml]; rfl) (argsL := [(.int c1)]) (rest := []) (lenOf pd_14 rfl) rfl (by show 2 * 0 + _ ≤ _; exact Nat.le_of_eq rfl) (hb hby at_133) (fun _ _ => ⟨rfl, rfl, (by decide : 3 + 0 ≤ _), (by decide : 8 + 0 ≤ _)⟩)
      dsimp only [Pt.U, Pt.locs, Pt.cells, Pt.slots] at X91 l91 y91 z91 st91 hQ91
      rw [l91, y91, z91] at X91
      obtain ⟨r1, rfl, hr1, N91q, e91⟩ := hQ91
      have N91 := Fr.app N77 N91q
      have pre92 : ∀ t, Steps p.tables e below (T91.setTop (mkF m 136 #[.val (.int vp), .val (.int wa), .val (.int wb), .val (.int wc), .val (.int wd), .val (.int (2 : Int32)), .val (.int (0 : Int32)), .val (.int c0), .val (.int c1), .val (.int c2), .val (.int c3), .val (.ref sa), .val (.int (2 : Int32))] [(.int r1)])) t → Steps p.tables e below (s₁.setTop (entryFrame m #[(.int vp), (.int wa), (.int wb), (.int wc), (.int wd)] maxLocals)) t := fun t kt => by
        refine pre90 _ ?_
        refine st91 _ ?_
        exact kt
      obtain ⟨ex1, hex1, pre96⟩ : ∃ ex1 : Int32, (ex1.toInt = if own_stop c1.toInt then (1 : Int) else (2 : Int)) ∧ ∀ t, Steps p.tables e below (T91.setTop (mkF m 142 #[.val (.int vp), .val (.int wa), .val (.int wb), .val (.int wc), .val (.int wd), .val (.int (2 : Int32)), .val (.int (0 : Int32)), .val (.int c0), .val (.int c1), .val (.int c2), .val (.int c3), .val (.ref sa), .val (.int ex1)] [])) t → Steps p.tables e below (s₁.setTop (entryFrame m #[(.int vp), (.int wa), (.int wb), (.int wc), (.int wd)] maxLocals)) t := by
        by_cases hc136_93 : r1.toInt = (0 : Int)
        · have pre94 : ∀ t, Steps p.tables e below (T91.setTop (mkF m 142 #[.val (.int vp), .val (.int wa), .val (.int wb), .val (.int wc), .val (.int wd), .val (.int (2 : Int32)), .val (.int (0 : Int32)), .val (.int c0), .val (.int c1), .val (.int c2), .val (.int c3), .val (.ref sa), .val (.int (2 : Int32))] [])) t → Steps p.tables e below (s₁.setTop (entryFrame m #[(.int vp), (.int wa), (.int wb), (.int wc), (.int wd)] maxLocals)) t := fun t kt => by
            refine pre92 _ ?_
            show Steps p.tables e below (T91.setTop (mkF m 136 #[.val (.int vp), .val (.int wa), .val (.int wb), .val (.int wc), .val (.int wd), .val (.int (2 : Int32)), .val (.int (0 : Int32)), .val (.int c0), .val (.int c1), .val (.int c2), .val (.int c3), .val (.ref sa), .val (.int (2 : Int32))] [(.int r1)])) _
            refine XS.ifYes X91.here hx rfl (pc0 := 136) (pc' := 142) rfl (hb hby at_136) rfl (own_if (own_teq (a := r1) (b := (0 : Int32)) rfl (by decide) hc136_93).1) (by decide) (by decide) ?_
            exact kt
          exact ⟨(2 : Int32), by exact (Decidable.em (own_stop c1.toInt)).elim (fun hs => by rw [if_pos hs] at hr1 ⊢; try (have : ((2 : Int32)).toInt = (2 : Int) := (by decide); omega)) (fun hs => by rw [if_neg hs] at hr1 ⊢; try (have : ((2 : Int32)).toInt = (2 : Int) := (by decide); omega)), pre94⟩
        · have pre95 : ∀ t, Steps p.tables e below (T91.setTop (mkF m 142 #[.val (.int vp), .val (.int wa), .val (.int wb), .val (.int wc), .val (.int wd), .val (.int (2 : Int32)), .val (.int (0 : Int32)), .val (.int c0), .val (.int c1), .val (.int c2), .val (.int c3), .val (.ref sa), .val (.int (1 : Int32))] [])) t → Steps p.tables e below (s₁.setTop (entryFrame m #[(.int vp), (.int wa), (.int wb), (.int wc), (.int wd)] maxLocals)) t := fun t kt => by
            refine pre92 _ ?_
            show Steps p.tables e below (T91.setTop (mkF m 136 #[.val (.int vp), .val (.int wa), .val (.int wb), .val (.int wc), .val (.int wd), .val (.int (2 : Int32)), .val (.int (0 : Int32)), .val (.int c0), .val (.int c1), .val (.int c2), .val (.int c3), .val (.ref sa), .val (.int (2 : Int32))] [(.int r1)])) _
            refine XS.ifNo X91.here hx rfl (hb hby at_136) rfl (own_if (own_feq (a := r1) (b := (0 : Int32)) rfl (by decide) hc136_93).1) ?_
            refine XS.iconst X91.here hx rfl (hb hby at_139) ?_
            refine XS.istore X91.here hx rfl (hb hby at_140) rfl (l' := #[.val (.int vp), .val (.int wa), .val (.int wb), .val (.int wc), .val (.int wd), .val (.int (2 : Int32)), .val (.int (0 : Int32)), .val (.int c0), .val (.int c1), .val (.int c2), .val (.int c3), .val (.ref sa), .val (.int (1 : Int32))]) rfl ?_
            exact kt
          exact ⟨(1 : Int32), by exact (Decidable.em (own_stop c1.toInt)).elim (fun hs => by rw [if_pos hs] at hr1 ⊢; try (have : ((1 : Int32)).toInt = (1 : Int) := (by decide); omega)) (fun hs => by rw [if_neg hs] at hr1 ⊢; try (have : ((1 : Int32)).toInt = (1 : Int) := (by decide); omega)), pre95⟩
      have hc144_97 : ¬ ((0 : Int) < (0 : Int)) := by decide
      have hc149_98 : (0 : Int) < (2 : Int) := by decide
      have pre99 : ∀ t, Steps p.tables e below (T91.setTop (mkF m 154 #[.val (.int vp), .val (.int wa), .val (.int wb), .val (.int wc), .val (.int wd), .val (.int (2 : Int32)), .val (.int (0 : Int32)), .val (.int c0), .val (.int c1), .val (.int c2), .val (.int c3), .val (.ref sa), .val (.int ex1)] [(.int c0)])) t → Steps p.tables e below (s₁.setTop (entryFrame m #[(.int vp), (.int wa), (.int wb), (.int wc), (.int wd)] maxLocals)) t := fun t kt => by
        refine pre96 _ ?_
        refine XS.iload X91.here hx rfl (hb hby at_142) rfl ?_
        refine XS.ifNo X91.here hx rfl (hb hby at_144) rfl (own_if (own_flt (a := (0 : Int32)) (b := (0 : Int32)) (by decide) (by decide) hc144_97).2.2.1) ?_
        refine XS.iload X91.here hx rfl (hb hby at_147) rfl ?_
        refine XS.ifNo X91.here hx rfl (hb hby at_149) rfl (own_if (own_tlt (a := (0 : Int32)) (b := (2 : Int32)) (by decide) (by decide) hc149_98).2.2.2) ?_
        refine XS.iload X91.here hx rfl (hb hby at_152) rfl ?_
        exact kt
      obtain ⟨_, _, ⟨T100, L100, k100, n100⟩, -, X100, ⟨Lc100, hQ100, l100, y100, z100⟩, st100⟩ := Jvm.LawKit.callS X91 hx (y := (⟨"com/example/path_template_matcher/pathtemplatematcher/UriReferencePathEndPinLaw", "stop", "(C)Z"⟩ : MethodName)) hown (mvT hZ (hw _ (List.mem_of_getElem? (i := 52) rfl))) (mvT hZ (hw _ (List.mem_of_getElem? (i := 53) rfl))) (mvT hZ (hw _ (List.mem_of_getElem? (i := 3) rfl))) (mvT hZ (hw _ (List.mem_of_getElem? (i := 54) rfl))) (by decide) (backOf (W := 0) (rm11 l Z a0 hw [] c0 T77.heap n0 Zs80 ) hZ (hw _ (List.mem_of_getElem? (i := 54) rfl)) (hw _ (List.mem_of_getElem? (i := 3) rfl)) (by decide) (by decide)) (g := (mkF m 154 #[.val (.int vp), .val (.int wa), .val (.int wb), .val (.int wc), .val (.int wd), .val (.int (2 : Int32)), .val (.int (0 : Int32)), .val (.int c0), .val (.int c1), .val (.int c2), .val (.int c3), .val (.ref sa), .val (.int ex1)] [(.int c0)])) rfl (by rw [hml]; rfl) (argsL := [(.int c0)]) (rest := []) (lenOf pd_14 rfl) rfl (by show 2 * 0 + _ ≤ _; exact Nat.le_of_eq rfl) (hb hby at_154) (fun _ _ => ⟨rfl, e91, (by decide : 3 + 0 ≤ _), (by decide : 8 + 0 ≤ _)⟩)
      dsimp only [Pt.U, Pt.locs, Pt.cells, Pt.slots] at X100 l100 y100 z100 st100 hQ100
      rw [l100, y100, z100] at X100
      obtain ⟨r0, rfl, hr0, N100q, e100⟩ := hQ100
      have N100 := Fr.app N91 N100q
      have pre101 : ∀ t, Steps p.tables e below (T100.setTop (mkF m 157 #[.val (.int vp), .val (.int wa), .val (.int wb), .val (.int wc), .val (.int wd), .val (.int (2 : Int32)), .val (.int (0 : Int32)), .val (.int c0), .val (.int c1), .val (.int c2), .val (.int c3), .val (.ref sa), .val (.int ex1)] [(.int r0)])) t → Steps p.tables e below (s₁.setTop (entryFrame m #[(.int vp), (.int wa), (.int wb), (.int wc), (.int wd)] maxLocals)) t := fun t kt => by
        refine pre99 _ ?_
        refine st100 _ ?_
        exact kt
      obtain ⟨ex0, hex0, pre105⟩ : ∃ ex0 : Int32, (ex0.toInt = if own_stop c0.toInt then (0 : Int) else ex1.toInt) ∧ ∀ t, Steps p.tables e below (T100.setTop (mkF m 163 #[.val (.int vp), .val (.int wa), .val (.int wb), .val (.int wc), .val (.int wd), .val (.int (2 : Int32)), .val (.int (0 : Int32)), .val (.int c0), .val (.int c1), .val (.int c2), .val (.int c3), .val (.ref sa), .val (.int ex0)] [])) t → Steps p.tables e below (s₁.setTop (entryFrame m #[(.int vp), (.int wa), (.int wb), (.int wc), (.int wd)] maxLocals)) t := by
        by_cases hc157_102 : r0.toInt = (0 : Int)
        · have pre103 : ∀ t, Steps p.tables e below (T100.setTop (mkF m 163 #[.val (.int vp), .val (.int wa), .val (.int wb), .val (.int wc), .val (.int wd), .val (.int (2 : Int32)), .val (.int (0 : Int32)), .val (.int c0), .val (.int c1), .val (.int c2), .val (.int c3), .val (.ref sa), .val (.int ex1)] [])) t → Steps p.tables e below (s₁.setTop (entryFrame m #[(.int vp), (.int wa), (.int wb), (.int wc), (.int wd)] maxLocals)) t := fun t kt => by
            refine pre101 _ ?_
            show Steps p.tables e below (T100.setTop (mkF m 157 #[.val (.int vp), .val (.int wa), .val (.int wb), .val (.int wc), .val (.int wd), .val (.int (2 : Int32)), .val (.int (0 : Int32)), .val (.int c0), .val (.int c1), .val (.int c2), .val (.int c3), .val (.ref sa), .val (.int ex1)] [(.int r0)])) _
            refine XS.ifYes X100.here hx rfl (pc0 := 157) (pc' := 163) rfl (hb hby at_157) rfl (own_if (own_teq (a := r0) (b := (0 : Int32)) rfl (by decide) hc157_102).1) (by decide) (by decide) ?_
            exact kt
          exact ⟨ex1, by exact (Decidable.em (own_stop c0.toInt)).elim (fun hs => by rw [if_pos hs] at hr0 ⊢; try (have := rng32 ex1; omega)) (fun hs => by rw [if_neg hs] at hr0 ⊢; try (have := rng32 ex1; omega)), pre103⟩
        · have pre104 : ∀ t, Steps p.tables e below (T100.setTop (mkF m 163 #[.val (.int vp), .val (.int wa), .val (.int wb), .val (.int wc), .val (.int wd), .val (.int (2 : Int32)), .val (.int (0 : Int32)), .val (.int c0), .val (.int c1), .val (.int c2), .val (.int c3), .val (.ref sa), .val (.int (0 : Int32))] [])) t → Steps p.tables e below (s₁.setTop (entryFrame m #[(.int vp), (.int wa), (.int wb), (.int wc), (.int wd)] maxLocals)) t := fun t kt => by
            refine pre101 _ ?_
            show Steps p.tables e below (T100.setTop (mkF m 157 #[.val (.int vp), .val (.int wa), .val (.int wb), .val (.int wc), .val (.int wd), .val (.int (2 : Int32)), .val (.int (0 : Int32)), .val (.int c0), .val (.int c1), .val (.int c2), .val (.int c3), .val (.ref sa), .val (.int ex1)] [(.int r0)])) _
            refine XS.ifNo X100.here hx rfl (hb hby at_157) rfl (own_if (own_feq (a := r0) (b := (0 : Int32)) rfl (by decide) hc157_102).1) ?_
            refine XS.iconst X100.here hx rfl (hb hby at_160) ?_
            refine XS.istore X100.here hx rfl (hb hby at_161) rfl (l' := #[.val (.int vp), .val (.int wa), .val (.int wb), .val (.int wc), .val (.int wd), .val (.int (2 : Int32)), .val (.int (0 : Int32)), .val (.int c0), .val (.int c1), .val (.int c2), .val (.int c3), .val (.ref sa), .val (.int (0 : Int32))]) rfl ?_
            exact kt
          exact ⟨(0 : Int32), by exact (Decidable.em (own_stop c0.toInt)).elim (fun hs => by rw [if_pos hs] at hr0 ⊢; try (have : ((0 : Int32)).toInt = (0 : Int) := (by decide); omega)) (fun hs => by rw [if_neg hs] at hr0 ⊢; try (have : ((0 : Int32)).toInt = (0 : Int) := (by decide); omega)), pre104⟩
      have pre106 : ∀ t, Steps p.tables e below (T100.setTop (mkF m 167 #[.val (.int vp), .val (.int wa), .val (.int wb), .val (.int wc), .val (.int wd), .val (.int (2 : Int32)), .val (.int (0 : Int32)), .val (.int c0), .val (.int c1), .val (.int c2), .val (.int c3), .val (.ref sa), .val (.int ex0)] [(.int (0 : Int32)), (.ref sa)])) t → Steps p.tables e below (s₁.setTop (entryFrame m #[(.int vp), (.int wa), (.int wb), (.int wc), (.int wd)] maxLocals)) t := fun t kt => by
        refine pre105 _ ?_
        show Steps p.tables e below (T100.setTop (mkF m 163 #[.val (.int vp), .val (.int wa), .val (.int wb), .val (.int wc), .val (.int wd), .val (.int (2 : Int32)), .val (.int (0 : Int32)), .val (.int c0), .val (.int c1), .val (.int c2), .val (.int c3), .val (.ref sa), .val (.int ex0)] [])) _
        refine XS.aload X100.here hx rfl (hb hby at_163) rfl rfl ?_
        refine XS.iload X100.here hx rfl (hb hby at_165) rfl ?_
        exact kt
      have os107 := (own_st_keep Os K77 ns0)
      obtain ⟨_, _, ⟨T108, L108, k108, n108⟩, -, X108, ⟨Lc108, hQ108, l108, y108, z108⟩, st108⟩ := Jvm.LawKit.callS X100 hx (y := (⟨"com/example/path_template_matcher/pathtemplatematcher/UriReference", "pathEnd", "(Ljava/lang/String;I)I"⟩ : MethodName)) hown (mvT hZ (hw _ (List.mem_of_getElem? (i := 27) rfl))) (mvT hZ (hw _ (List.mem_of_getElem? (i := 28) rfl))) (mvT hZ (hw _ (List.mem_of_getElem? (i := 29) rfl))) (mvT hZ (hw _ (List.mem_of_getElem? (i := 30) rfl))) (by decide) (backOf (W := 0) (rm_pe2_0 l Z a0 hw [] sa vcs vf ob kb bb0 bb1 c0 c1 T77.heap n0 Zs80 os107 Esa Fcsa Fvsa Vob qbb0 qbb1) hZ (hw _ (List.mem_of_getElem? (i := 30) rfl)) (hw _ (List.mem_of_getElem? (i := 29) rfl)) (by decide) (by decide)) (g := (mkF m 167 #[.val (.int vp), .val (.int wa), .val (.int wb), .val (.int wc), .val (.int wd), .val (.int (2 : Int32)), .val (.int (0 : Int32)), .val (.int c0), .val (.int c1), .val (.int c2), .val (.int c3), .val (.ref sa), .val (.int ex0)] [(.int (0 : Int32)), (.ref sa)])) rfl (by rw [hml]; rfl) (argsL := [(.ref sa), (.int (0 : Int32))]) (rest := []) (lenOf pd_13 rfl) rfl (by show 2 * 0 + _ ≤ _; exact Nat.le_of_eq rfl) (hb hby at_167) (fun _ _ => ⟨rfl, e100, (by decide : 3 + 0 ≤ _), (by decide : 8 + 0 ≤ _)⟩)
      dsimp only [Pt.U, Pt.locs, Pt.cells, Pt.slots] at X108 l108 y108 z108 st108 hQ108
      rw [l108, y108, z108] at X108
      obtain ⟨zp, rfl, hzp, N108q, e108⟩ := hQ108
      have N108 := Fr.app N100 N108q
      have hc172_109 : zp.toInt = ex0.toInt := by rw [hzp, hex0, hex1]
      obtain ⟨fs, hr, hrun, hended, hREW⟩ := X108.leaveW hS0 (by rw [e108]; exact hk79) (v := some (.int (1 : Int32))) (fun h => by rw [Bd.returns] at h; cases h)
      refine ⟨_, _, pre106 _ ?_, hrun, hended, _, _, rfl, ?_, ?_, ⟨hREW.1, hREW.2.1, hREW.2.2.1, hREW.2.2.2.mono (by decide) (by decide)⟩⟩
      · refine st108 _ ?_
        refine XS.iload X108.here hx rfl (hb hby at_170) rfl ?_
        refine XS.icmpNo X108.here hx rfl (hb hby at_172) rfl (own_teq (a := zp) (b := ex0) rfl rfl hc172_109).2 ?_
        refine XS.iconst X108.here hx rfl (hb hby at_175) ?_
        refine XS.goto X108.here hx rfl (pc0 := 176) (pc' := 180) rfl (hb hby at_176) (by decide) (by decide) ?_
        exact retN X108 hx (t := .boolean) Bd.returns (by simp) (hb hby at_180) hr
      · show Q0 Z _ _ _ _ _ _ _ h0 n0 _ T108.heap _
        rw [e108]
        exact ⟨rfl, N108⟩
      · show CHr Z own_EL s.vm s.heap T108.vm T108.heap
        rw [hh, e108]
        exact CR78.trans (CHv.at X108 hZ hEL CR78.1)
    · have pre110 : ∀ t, Steps p.tables e below (T77.setTop (mkF m 73 #[.val (.int vp), .val (.int wa), .val (.int wb), .val (.int wc), .val (.int wd), .val (.int (2 : Int32)), .val (.int (1 : Int32)), .val (.int c0), .val (.int c1), .val (.int c2), .val (.int c3), .val (.ref sa), .val (.int (2 : Int32))] [])) t → Steps p.tables e below (s₁.setTop (entryFrame m #[(.int vp), (.int wa), (.int wb), (.int wc), (.int wd)] maxLocals)) t := pre82
      have hc76_111 : ¬ ((3 : Int) < (1 : Int)) := by decide
      have hc82_112 : ¬ ((3 : Int) < (2 : Int)) := by decide
      have hc99_113 : ¬ ((2 : Int) < (1 : Int)) := by decide
      have hc105_114 : ¬ ((2 : Int) < (2 : Int)) := by decide
      have hc122_115 : ¬ ((1 : Int) < (1 : Int)) := by decide
      have hc128_116 : (1 : Int) < (2 : Int) := by decide
      have pre117 : ∀ t, Steps p.tables e below (T77.setTop (mkF m 133 #[.val (.int vp), .val (.int wa), .val (.int wb), .val (.int wc), .val (.int wd), .val (.int (2 : Int32)), .val (.int (1 : Int32)), .val (.int c0), .val (.int c1), .val (.int c2), .val (.int c3), .val (.ref sa), .val (.int (2 : Int32))] [(.int c1)])) t → Steps p.tables e below (s₁.setTop (entryFrame m #[(.int vp), (.int wa), (.int wb), (.int wc), (.int wd)] maxLocals)) t := fun t kt => by
        refine pre110 _ ?_
        refine XS.iload X77.here hx rfl (hb hby at_73) rfl ?_
        refine XS.iconst X77.here hx rfl (hb hby at_75) ?_
        show Steps p.tables e below (T77.setTop (mkF m 76 #[.val (.int vp), .val (.int wa), .val (.int wb), .val (.int wc), .val (.int wd), .val (.int (2 : Int32)), .val (.int (1 : Int32)), .val (.int c0), .val (.int c1), .val (.int c2), .val (.int c3), .val (.ref sa), .val (.int (2 : Int32))] [(.int (3 : Int32)), (.int (1 : Int32))])) _
        refine XS.icmpNo X77.here hx rfl (hb hby at_76) rfl (own_flt (a := (3 : Int32)) (b := (1 : Int32)) (by decide) (by decide) hc76_111).2.2.1 ?_
        refine XS.iload X77.here hx rfl (hb hby at_79) rfl ?_
        refine XS.iconst X77.here hx rfl (hb hby at_81) ?_
        refine XS.icmpYes X77.here hx rfl (pc0 := 82) (pc' := 96) rfl (hb hby at_82) rfl (own_flt (a := (3 : Int32)) (b := (2 : Int32)) (by decide) (by decide) hc82_112).2.2.2 (by decide) (by decide) ?_
        refine XS.iload X77.here hx rfl (hb hby at_96) rfl ?_
        refine XS.iconst X77.here hx rfl (hb hby at_98) ?_
        refine XS.icmpNo X77.here hx rfl (hb hby at_99) rfl (own_flt (a := (2 : Int32)) (b := (1 : Int32)) (by decide) (by decide) hc99_113).2.2.1 ?_
        refine XS.iload X77.here hx rfl (hb hby at_102) rfl ?_
        show Steps p.tables e below (T77.setTop (mkF m 104 #[.val (.int vp), .val (.int wa), .val (.int wb), .val (.int wc), .val (.int wd), .val (.int (2 : Int32)), .val (.int (1 : Int32)), .val (.int c0), .val (.int c1), .val (.int c2), .val (.int c3), .val (.ref sa), .val (.int (2 : Int32))] [(.int (2 : Int32))])) _
        refine XS.iconst X77.here hx rfl (hb hby at_104) ?_
        refine XS.icmpYes X77.here hx rfl (pc0 := 105) (pc' := 119) rfl (hb hby at_105) rfl (own_flt (a := (2 : Int32)) (b := (2 : Int32)) (by decide) (by decide) hc105_114).2.2.2 (by decide) (by decide) ?_
        refine XS.iload X77.here hx rfl (hb hby at_119) rfl ?_
        refine XS.iconst X77.here hx rfl (hb hby at_121) ?_
        refine XS.icmpNo X77.here hx rfl (hb hby at_122) rfl (own_flt (a := (1 : Int32)) (b := (1 : Int32)) (by decide) (by decide) hc122_115).2.2.1 ?_
        refine XS.iload X77.here hx rfl (hb hby at_125) rfl ?_
        refine XS.iconst X77.here hx rfl (hb hby at_127) ?_
        refine XS.icmpNo X77.here hx rfl (hb hby at_128) rfl (own_tlt (a := (1 : Int32)) (b := (2 : Int32)) (by decide) (by decide) hc128_116).2.2.2 ?_
        show Steps p.tables e below (T77.setTop (mkF m 131 #[.val (.int vp), .val (.int wa), .val (.int wb), .val (.int wc), .val (.int wd), .val (.int (2 : Int32)), .val (.int (1 : Int32)), .val (.int c0), .val (.int c1), .val (.int c2), .val (.int c3), .val (.ref sa), .val (.int (2 : Int32))] [])) _
        refine XS.iload X77.here hx rfl (hb hby at_131) rfl ?_
        exact kt
      obtain ⟨_, _, ⟨T118, L118, k118, n118⟩, -, X118, ⟨Lc118, hQ118, l118, y118, z118⟩, st118⟩ := Jvm.LawKit.callS X77 hx (y := (⟨"com/example/path_template_matcher/pathtemplatematcher/UriReferencePathEndPinLaw", "stop", "(C)Z"⟩ : MethodName)) hown (mvT hZ (hw _ (List.mem_of_getElem? (i := 52) rfl))) (mvT hZ (hw _ (List.mem_of_getElem? (i := 53) rfl))) (mvT hZ (hw _ (List.mem_of_getElem? (i := 3) rfl))) (mvT hZ (hw _ (List.mem_of_getElem? (i := 54) rfl))) (by decide) (backOf (W := 0) (rm11 l Z a0 hw [] c1 T77.heap n0 Zs80 ) hZ (hw _ (List.mem_of_getElem? (i := 54) rfl)) (hw _ (List.mem_of_getElem? (i := 3) rfl)) (by decide) (by decide)) (g := (mkF m 133 #[.val (.int vp), .val (.int wa), .val (.int wb), .val (.int wc), .val (.int wd), .val (.int (2 : Int32)), .val (.int (1 : Int32)), .val (.int c0), .val (.int c1), .val (.int c2), .val (.int c3), .val (.ref sa), .val (.int (2 : Int32))] [(.int c1)])) rfl (by rw [hml]; rfl) (argsL := [(.int c1)]) (rest := []) (lenOf pd_14 rfl) rfl (by show 2 * 0 + _ ≤ _; exact Nat.le_of_eq rfl) (hb hby at_133) (fun _ _ => ⟨rfl, rfl, (by decide : 3 + 0 ≤ _), (by decide : 8 + 0 ≤ _)⟩)
      dsimp only [Pt.U, Pt.locs, Pt.cells, Pt.slots] at X118 l118 y118 z118 st118 hQ118
      rw [l118, y118, z118] at X118
      obtain ⟨r1, rfl, hr1, N118q, e118⟩ := hQ118
      have N118 := Fr.app N77 N118q
      have pre119 : ∀ t, Steps p.tables e below (T118.setTop (mkF m 136 #[.val (.int vp), .val (.int wa), .val (.int wb), .val (.int wc), .val (.int wd), .val (.int (2 : Int32)), .val (.int (1 : Int32)), .val (.int c0), .val (.int c1), .val (.int c2), .val (.int c3), .val (.ref sa), .val (.int (2 : Int32))] [(.int r1)])) t → Steps p.tables e below (s₁.setTop (entryFrame m #[(.int vp), (.int wa), (.int wb), (.int wc), (.int wd)] maxLocals)) t := fun t kt => by
        refine pre117 _ ?_
        refine st118 _ ?_
        exact kt
      obtain ⟨ex1, hex1, pre123⟩ : ∃ ex1 : Int32, (ex1.toInt = if own_stop c1.toInt then (1 : Int) else (2 : Int)) ∧ ∀ t, Steps p.tables e below (T118.setTop (mkF m 142 #[.val (.int vp), .val (.int wa), .val (.int wb), .val (.int wc), .val (.int wd), .val (.int (2 : Int32)), .val (.int (1 : Int32)), .val (.int c0), .val (.int c1), .val (.int c2), .val (.int c3), .val (.ref sa), .val (.int ex1)] [])) t → Steps p.tables e below (s₁.setTop (entryFrame m #[(.int vp), (.int wa), (.int wb), (.int wc), (.int wd)] maxLocals)) t := by
        by_cases hc136_120 : r1.toInt = (0 : Int)
        · have pre121 : ∀ t, Steps p.tables e below (T118.setTop (mkF m 142 #[.val (.int vp), .val (.int wa), .val (.int wb), .val (.int wc), .val (.int wd), .val (.int (2 : Int32)), .val (.int (1 : Int32)), .val (.int c0), .val (.int c1), .val (.int c2), .val (.int c3), .val (.ref sa), .val (.int (2 : Int32))] [])) t → Steps p.tables e below (s₁.setTop (entryFrame m #[(.int vp), (.int wa), (.int wb), (.int wc), (.int wd)] maxLocals)) t := fun t kt => by
            refine pre119 _ ?_
            show Steps p.tables e below (T118.setTop (mkF m 136 #[.val (.int vp), .val (.int wa), .val (.int wb), .val (.int wc), .val (.int wd), .val (.int (2 : Int32)), .val (.int (1 : Int32)), .val (.int c0), .val (.int c1), .val (.int c2), .val (.int c3), .val (.ref sa), .val (.int (2 : Int32))] [(.int r1)])) _
            refine XS.ifYes X118.here hx rfl (pc0 := 136) (pc' := 142) rfl (hb hby at_136) rfl (own_if (own_teq (a := r1) (b := (0 : Int32)) rfl (by decide) hc136_120).1) (by decide) (by decide) ?_
            exact kt
          exact ⟨(2 : Int32), by exact (Decidable.em (own_stop c1.toInt)).elim (fun hs => by rw [if_pos hs] at hr1 ⊢; try (have : ((2 : Int32)).toInt = (2 : Int) := (by decide); omega)) (fun hs => by rw [if_neg hs] at hr1 ⊢; try (have : ((2 : Int32)).toInt = (2 : Int) := (by decide); omega)), pre121⟩
        · have pre122 : ∀ t, Steps p.tables e below (T118.setTop (mkF m 142 #[.val (.int vp), .val (.int wa), .val (.int wb), .val (.int wc), .val (.int wd), .val (.int (2 : Int32)), .val (.int (1 : Int32)), .val (.int c0), .val (.int c1), .val (.int c2), .val (.int c3), .val (.ref sa), .val (.int (1 : Int32))] [])) t → Steps p.tables e below (s₁.setTop (entryFrame m #[(.int vp), (.int wa), (.int wb), (.int wc), (.int wd)] maxLocals)) t := fun t kt => by
            refine pre119 _ ?_
            show Steps p.tables e below (T118.setTop (mkF m 136 #[.val (.int vp), .val (.int wa), .val (.int wb), .val (.int wc), .val (.int wd), .val (.int (2 : Int32)), .val (.int (1 : Int32)), .val (.int c0), .val (.int c1), .val (.int c2), .val (.int c3), .val (.ref sa), .val (.int (2 : Int32))] [(.int r1)])) _
            refine XS.ifNo X118.here hx rfl (hb hby at_136) rfl (own_if (own_feq (a := r1) (b := (0 : Int32)) rfl (by decide) hc136_120).1) ?_
            refine XS.iconst X118.here hx rfl (hb hby at_139) ?_
            refine XS.istore X118.here hx rfl (hb hby at_140) rfl (l' := #[.val (.int vp), .val (.int wa), .val (.int wb), .val (.int wc), .val (.int wd), .val (.int (2 : Int32)), .val (.int (1 : Int32)), .val (.int c0), .val (.int c1), .val (.int c2), .val (.int c3), .val (.ref sa), .val (.int (1 : Int32))]) rfl ?_
            exact kt
          exact ⟨(1 : Int32), by exact (Decidable.em (own_stop c1.toInt)).elim (fun hs => by rw [if_pos hs] at hr1 ⊢; try (have : ((1 : Int32)).toInt = (1 : Int) := (by decide); omega)) (fun hs => by rw [if_neg hs] at hr1 ⊢; try (have : ((1 : Int32)).toInt = (1 : Int) := (by decide); omega)), pre122⟩
      have hc144_124 : (0 : Int) < (1 : Int) := by decide
      have pre125 : ∀ t, Steps p.tables e below (T118.setTop (mkF m 167 #[.val (.int vp), .val (.int wa), .val (.int wb), .val (.int wc), .val (.int wd), .val (.int (2 : Int32)), .val (.int (1 : Int32)), .val (.int c0), .val (.int c1), .val (.int c2), .val (.int c3), .val (.ref sa), .val (.int ex1)] [(.int (1 : Int32)), (.ref sa)])) t → Steps p.tables e below (s₁.setTop (entryFrame m #[(.int vp), (.int wa), (.int wb), (.int wc), (.int wd)] maxLocals)) t := fun t kt => by
        refine pre123 _ ?_
        refine XS.iload X118.here hx rfl (hb hby at_142) rfl ?_
        refine XS.ifYes X118.here hx rfl (pc0 := 144) (pc' := 163) rfl (hb hby at_144) rfl (own_if (own_tlt (a := (0 : Int32)) (b := (1 : Int32)) (by decide) (by decide) hc144_124).2.2.1) (by decide) (by decide) ?_
        refine XS.aload X118.here hx rfl (hb hby at_163) rfl rfl ?_
        refine XS.iload X118.here hx rfl (hb hby at_165) rfl ?_
        exact kt
      have os126 := (own_st_keep Os K77 ns0)
      obtain ⟨_, _, ⟨T127, L127, k127, n127⟩, -, X127, ⟨Lc127, hQ127, l127, y127, z127⟩, st127⟩ := Jvm.LawKit.callS X118 hx (y := (⟨"com/example/path_template_matcher/pathtemplatematcher/UriReference", "pathEnd", "(Ljava/lang/String;I)I"⟩ : MethodName)) hown (mvT hZ (hw _ (List.mem_of_getElem? (i := 27) rfl))) (mvT hZ (hw _ (List.mem_of_getElem? (i := 28) rfl))) (mvT hZ (hw _ (List.mem_of_getElem? (i := 29) rfl))) (mvT hZ (hw _ (List.mem_of_getElem? (i := 30) rfl))) (by decide) (backOf (W := 0) (rm_pe2_1 l Z a0 hw [] sa vcs vf ob kb bb0 bb1 c0 c1 T77.heap n0 Zs80 os126 Esa Fcsa Fvsa Vob qbb0 qbb1) hZ (hw _ (List.mem_of_getElem? (i := 30) rfl)) (hw _ (List.mem_of_getElem? (i := 29) rfl)) (by decide) (by decide)) (g := (mkF m 167 #[.val (.int vp), .val (.int wa), .val (.int wb), .val (.int wc), .val (.int wd), .val (.int (2 : Int32)), .val (.int (1 : Int32)), .val (.int c0), .val (.int c1), .val (.int c2), .val (.int c3), .val (.ref sa), .val (.int ex1)] [(.int (1 : Int32)), (.ref sa)])) rfl (by rw [hml]; rfl) (argsL := [(.ref sa), (.int (1 : Int32))]) (rest := []) (lenOf pd_13 rfl) rfl (by show 2 * 0 + _ ≤ _; exact Nat.le_of_eq rfl) (hb hby at_167) (fun _ _ => ⟨rfl, e118, (by decide : 3 + 0 ≤ _), (by decide : 8 + 0 ≤ _)⟩)
      dsimp only [Pt.U, Pt.locs, Pt.cells, Pt.slots] at X127 l127 y127 z127 st127 hQ127
      rw [l127, y127, z127] at X127
      obtain ⟨zp, rfl, hzp, N127q, e127⟩ := hQ127
      have N127 := Fr.app N118 N127q
      have hc172_128 : zp.toInt = ex1.toInt := by rw [hzp, hex1]
      obtain ⟨fs, hr, hrun, hended, hREW⟩ := X127.leaveW hS0 (by rw [e127]; exact hk79) (v := some (.int (1 : Int32))) (fun h => by rw [Bd.returns] at h; cases h)
      refine ⟨_, _, pre125 _ ?_, hrun, hended, _, _, rfl, ?_, ?_, ⟨hREW.1, hREW.2.1, hREW.2.2.1, hREW.2.2.2.mono (by decide) (by decide)⟩⟩
      · refine st127 _ ?_
        refine XS.iload X127.here hx rfl (hb hby at_170) rfl ?_
        show Steps p.tables e below (T127.setTop (mkF m 172 #[.val (.int vp), .val (.int wa), .val (.int wb), .val (.int wc), .val (.int wd), .val (.int (2 : Int32)), .val (.int (1 : Int32)), .val (.int c0), .val (.int c1), .val (.int c2), .val (.int c3), .val (.ref sa), .val (.int ex1)] [(.int ex1), (.int zp)])) _
        refine XS.icmpNo X127.here hx rfl (hb hby at_172) rfl (own_teq (a := zp) (b := ex1) rfl rfl hc172_128).2 ?_
        refine XS.iconst X127.here hx rfl (hb hby at_175) ?_
        refine XS.goto X127.here hx rfl (pc0 := 176) (pc' := 180) rfl (hb hby at_176) (by decide) (by decide) ?_
        exact retN X127 hx (t := .boolean) Bd.returns (by simp) (hb hby at_180) hr
      · show Q0 Z _ _ _ _ _ _ _ h0 n0 _ T127.heap _
        rw [e127]
        exact ⟨rfl, N127⟩
      · show CHr Z own_EL s.vm s.heap T127.vm T127.heap
        rw [hh, e127]
        exact CR78.trans (CHv.at X127 hZ hEL CR78.1)
    · have pre129 : ∀ t, Steps p.tables e below (T77.setTop (mkF m 73 #[.val (.int vp), .val (.int wa), .val (.int wb), .val (.int wc), .val (.int wd), .val (.int (2 : Int32)), .val (.int (2 : Int32)), .val (.int c0), .val (.int c1), .val (.int c2), .val (.int c3), .val (.ref sa), .val (.int (2 : Int32))] [])) t → Steps p.tables e below (s₁.setTop (entryFrame m #[(.int vp), (.int wa), (.int wb), (.int wc), (.int wd)] maxLocals)) t := pre82
      have hc76_130 : ¬ ((3 : Int) < (2 : Int)) := by decide
      have hc82_131 : ¬ ((3 : Int) < (2 : Int)) := by decide
      have hc99_132 : ¬ ((2 : Int) < (2 : Int)) := by decide
      have hc105_133 : ¬ ((2 : Int) < (2 : Int)) := by decide
      have hc122_134 : (1 : Int) < (2 : Int) := by decide
      have hc144_135 : (0 : Int) < (2 : Int) := by decide
      have pre136 : ∀ t, Steps p.tables e below (T77.setTop (mkF m 167 #[.val (.int vp), .val (.int wa), .val (.int wb), .val (.int wc), .val (.int wd), .val (.int (2 : Int32)), .val (.int (2 : Int32)), .val (.int c0), .val (.int c1), .val (.int c2), .val (.int c3), .val (.ref sa), .val (.int (2 : Int32))] [(.int (2 : Int32)), (.ref sa)])) t → Steps p.tables e below (s₁.setTop (entryFrame m #[(.int vp), (.int wa), (.int wb), (.int wc), (.int wd)] maxLocals)) t := fun t kt => by
        refine pre129 _ ?_
        refine XS.iload X77.here hx rfl (hb hby at_73) rfl ?_
        refine XS.iconst X77.here hx rfl (hb hby at_75) ?_
        show Steps p.tables e below (T77.setTop (mkF m 76 #[.val (.int vp), .val (.int wa), .val (.int wb), .val (.int wc), .val (.int wd), .val (.int (2 : Int32)), .val (.int (2 : Int32)), .val (.int c0), .val (.int c1), .val (.int c2), .val (.int c3), .val (.ref sa), .val (.int (2 : Int32))] [(.int (3 : Int32)), (.int (2 : Int32))])) _
        refine XS.icmpNo X77.here hx rfl (hb hby at_76) rfl (own_flt (a := (3 : Int32)) (b := (2 : Int32)) (by decide) (by decide) hc76_130).2.2.1 ?_
        refine XS.iload X77.here hx rfl (hb hby at_79) rfl ?_
        refine XS.iconst X77.here hx rfl (hb hby at_81) ?_
        refine XS.icmpYes X77.here hx rfl (pc0 := 82) (pc' := 96) rfl (hb hby at_82) rfl (own_flt (a := (3 : Int32)) (b := (2 : Int32)) (by decide) (by decide) hc82_131).2.2.2 (by decide) (by decide) ?_
        refine XS.iload X77.here hx rfl (hb hby at_96) rfl ?_
        refine XS.iconst X77.here hx rfl (hb hby at_98) ?_
        refine XS.icmpNo X77.here hx rfl (hb hby at_99) rfl (own_flt (a := (2 : Int32)) (b := (2 : Int32)) (by decide) (by decide) hc99_132).2.2.1 ?_
        refine XS.iload X77.here hx rfl (hb hby at_102) rfl ?_
        show Steps p.tables e below (T77.setTop (mkF m 104 #[.val (.int vp), .val (.int wa), .val (.int wb), .val (.int wc), .val (.int wd), .val (.int (2 : Int32)), .val (.int (2 : Int32)), .val (.int c0), .val (.int c1), .val (.int c2), .val (.int c3), .val (.ref sa), .val (.int (2 : Int32))] [(.int (2 : Int32))])) _
        refine XS.iconst X77.here hx rfl (hb hby at_104) ?_
        refine XS.icmpYes X77.here hx rfl (pc0 := 105) (pc' := 119) rfl (hb hby at_105) rfl (own_flt (a := (2 : Int32)) (b := (2 : Int32)) (by decide) (by decide) hc105_133).2.2.2 (by decide) (by decide) ?_
        refine XS.iload X77.here hx rfl (hb hby at_119) rfl ?_
        refine XS.iconst X77.here hx rfl (hb hby at_121) ?_
        refine XS.icmpYes X77.here hx rfl (pc0 := 122) (pc' := 142) rfl (hb hby at_122) rfl (own_tlt (a := (1 : Int32)) (b := (2 : Int32)) (by decide) (by decide) hc122_134).2.2.1 (by decide) (by decide) ?_
        refine XS.iload X77.here hx rfl (hb hby at_142) rfl ?_
        refine XS.ifYes X77.here hx rfl (pc0 := 144) (pc' := 163) rfl (hb hby at_144) rfl (own_if (own_tlt (a := (0 : Int32)) (b := (2 : Int32)) (by decide) (by decide) hc144_135).2.2.1) (by decide) (by decide) ?_
        refine XS.aload X77.here hx rfl (hb hby at_163) rfl rfl ?_
        show Steps p.tables e below (T77.setTop (mkF m 165 #[.val (.int vp), .val (.int wa), .val (.int wb), .val (.int wc), .val (.int wd), .val (.int (2 : Int32)), .val (.int (2 : Int32)), .val (.int c0), .val (.int c1), .val (.int c2), .val (.int c3), .val (.ref sa), .val (.int (2 : Int32))] [(.ref sa)])) _
        refine XS.iload X77.here hx rfl (hb hby at_165) rfl ?_
        exact kt
      have os137 := (own_st_keep Os K77 ns0)
      obtain ⟨_, _, ⟨T138, L138, k138, n138⟩, -, X138, ⟨Lc138, hQ138, l138, y138, z138⟩, st138⟩ := Jvm.LawKit.callS X77 hx (y := (⟨"com/example/path_template_matcher/pathtemplatematcher/UriReference", "pathEnd", "(Ljava/lang/String;I)I"⟩ : MethodName)) hown (mvT hZ (hw _ (List.mem_of_getElem? (i := 27) rfl))) (mvT hZ (hw _ (List.mem_of_getElem? (i := 28) rfl))) (mvT hZ (hw _ (List.mem_of_getElem? (i := 29) rfl))) (mvT hZ (hw _ (List.mem_of_getElem? (i := 30) rfl))) (by decide) (backOf (W := 0) (rm_pe2_2 l Z a0 hw [] sa vcs vf ob kb bb0 bb1 c0 c1 T77.heap n0 Zs80 os137 Esa Fcsa Fvsa Vob qbb0 qbb1) hZ (hw _ (List.mem_of_getElem? (i := 30) rfl)) (hw _ (List.mem_of_getElem? (i := 29) rfl)) (by decide) (by decide)) (g := (mkF m 167 #[.val (.int vp), .val (.int wa), .val (.int wb), .val (.int wc), .val (.int wd), .val (.int (2 : Int32)), .val (.int (2 : Int32)), .val (.int c0), .val (.int c1), .val (.int c2), .val (.int c3), .val (.ref sa), .val (.int (2 : Int32))] [(.int (2 : Int32)), (.ref sa)])) rfl (by rw [hml]; rfl) (argsL := [(.ref sa), (.int (2 : Int32))]) (rest := []) (lenOf pd_13 rfl) rfl (by show 2 * 0 + _ ≤ _; exact Nat.le_of_eq rfl) (hb hby at_167) (fun _ _ => ⟨rfl, rfl, (by decide : 3 + 0 ≤ _), (by decide : 8 + 0 ≤ _)⟩)
      dsimp only [Pt.U, Pt.locs, Pt.cells, Pt.slots] at X138 l138 y138 z138 st138 hQ138
      rw [l138, y138, z138] at X138
      obtain ⟨zp, rfl, hzp, N138q, e138⟩ := hQ138
      have N138 := Fr.app N77 N138q
      have hc172_139 : zp.toInt = (2 : Int) := by rw [hzp]
      obtain ⟨fs, hr, hrun, hended, hREW⟩ := X138.leaveW hS0 (by rw [e138]; exact hk79) (v := some (.int (1 : Int32))) (fun h => by rw [Bd.returns] at h; cases h)
      refine ⟨_, _, pre136 _ ?_, hrun, hended, _, _, rfl, ?_, ?_, ⟨hREW.1, hREW.2.1, hREW.2.2.1, hREW.2.2.2.mono (by decide) (by decide)⟩⟩
      · refine st138 _ ?_
        refine XS.iload X138.here hx rfl (hb hby at_170) rfl ?_
        refine XS.icmpNo X138.here hx rfl (hb hby at_172) rfl (own_teq (a := zp) (b := (2 : Int32)) rfl (by decide) hc172_139).2 ?_
        refine XS.iconst X138.here hx rfl (hb hby at_175) ?_
        refine XS.goto X138.here hx rfl (pc0 := 176) (pc' := 180) rfl (hb hby at_176) (by decide) (by decide) ?_
        exact retN X138 hx (t := .boolean) Bd.returns (by simp) (hb hby at_180) hr
      · show Q0 Z _ _ _ _ _ _ _ h0 n0 _ T138.heap _
        rw [e138]
        exact ⟨rfl, N138⟩
      · show CHr Z own_EL s.vm s.heap T138.vm T138.heap
        rw [hh, e138]
        exact CR78.trans (CHv.at X138 hZ hEL CR78.1)
  · have pre140 : ∀ t, Steps p.tables e below (s₁.setTop (mkF m 64 #[.val (.int vp), .val (.int wa), .val (.int wb), .val (.int wc), .val (.int wd), .val (.int (3 : Int32)), .val (.int vfr), .val (.int c0), .val (.int c1), .val (.int c2), .val (.int c3), .unset, .unset] [(.int c3), (.int c2), (.int c1), (.int c0), (.int (3 : Int32))])) t → Steps p.tables e below (s₁.setTop (entryFrame m #[(.int vp), (.int wa), (.int wb), (.int wc), (.int wd)] maxLocals)) t := pre17
    obtain ⟨_, _, ⟨T141, L141, k141, n141⟩, -, X141, ⟨Lc141, hQ141, l141, y141, z141⟩, st141⟩ := Jvm.LawKit.callS X0 hx (y := (⟨"com/example/path_template_matcher/pathtemplatematcher/UriReferencePathEndPinLaw", "mk", "(ICCCC)Ljava/lang/String;"⟩ : MethodName)) hown (mvT hZ (hw _ (List.mem_of_getElem? (i := 1) rfl))) (mvT hZ (hw _ (List.mem_of_getElem? (i := 2) rfl))) (mvT hZ (hw _ (List.mem_of_getElem? (i := 3) rfl))) (mvT hZ (hw _ (List.mem_of_getElem? (i := 4) rfl))) (by decide) (backOf (W := 0) (rm_m3 l Z a0 hw [] c0 c1 c2 c3 vcs vf h0 n0 Z0 Os jc0.1 jc1.1 jc2.1 jc3.1 jc0.2 jc1.2 jc2.2 jc3.2) hZ (hw _ (List.mem_of_getElem? (i := 4) rfl)) (hw _ (List.mem_of_getElem? (i := 3) rfl)) (by decide) (by decide)) (g := (mkF m 64 #[.val (.int vp), .val (.int wa), .val (.int wb), .val (.int wc), .val (.int wd), .val (.int (3 : Int32)), .val (.int vfr), .val (.int c0), .val (.int c1), .val (.int c2), .val (.int c3), .unset, .unset] [(.int c3), (.int c2), (.int c1), (.int c0), (.int (3 : Int32))])) rfl (by rw [hml]; rfl) (argsL := [(.int (3 : Int32)), (.int c0), (.int c1), (.int c2), (.int c3)]) (rest := []) (lenOf pd_12 rfl) rfl (by show 2 * 0 + _ ≤ _; exact Nat.le_of_eq rfl) (hb hby at_64) (fun _ _ => ⟨rfl, e0, (by decide : 0 + 3 ≤ _), (by decide : 0 + 10 ≤ _)⟩)
    dsimp only [Pt.U, Pt.locs, Pt.cells, Pt.slots] at X141 l141 y141 z141 st141 hQ141
    rw [l141, y141, z141] at X141
    obtain ⟨sa, ob, kb, bb0, bb1, bb2, rfl, N141q, K141, Esa, Fcsa, Fvsa, Vob, qbb0, qbb1, qbb2⟩ := hQ141
    have N141 := Fr.app N0 N141q
    have CR142 := (CR0.trans (CHr.keep K141 sf0 CR0.1))
    have hk143 := Nat.le_trans hk0 K141.1
    have Zs144 : n0 ≤ T141.heap.size := Nat.le_trans Z0 K141.1
    have kvl : ((3 : Int32)).toInt = (3 : Int) := (by decide)
    have hsp145 : vfr = (0 : Int32) ∨ vfr = (1 : Int32) ∨ vfr = (2 : Int32) ∨ vfr = (3 : Int32) := by
      have q : vfr.toInt = 0 ∨ vfr.toInt = 1 ∨ vfr.toInt = 2 ∨ vfr.toInt = 3 := by omega
      rcases q with q | q | q | q
      · exact Or.inl (Int32.toInt_inj.mp (by rw [q]; decide))
      · exact Or.inr (Or.inl (Int32.toInt_inj.mp (by rw [q]; decide)))
      · exact Or.inr (Or.inr (Or.inl (Int32.toInt_inj.mp (by rw [q]; decide))))
      · exact Or.inr (Or.inr (Or.inr (Int32.toInt_inj.mp (by rw [q]; decide))))
    have pre146 : ∀ t, Steps p.tables e below (T141.setTop (mkF m 73 #[.val (.int vp), .val (.int wa), .val (.int wb), .val (.int wc), .val (.int wd), .val (.int (3 : Int32)), .val (.int vfr), .val (.int c0), .val (.int c1), .val (.int c2), .val (.int c3), .val (.ref sa), .val (.int (3 : Int32))] [])) t → Steps p.tables e below (s₁.setTop (entryFrame m #[(.int vp), (.int wa), (.int wb), (.int wc), (.int wd)] maxLocals)) t := fun t kt => by
      refine pre140 _ ?_
      refine st141 _ ?_
      refine XS.astore X141.here hx rfl (hb hby at_67) rfl rfl (l' := #[.val (.int vp), .val (.int wa), .val (.int wb), .val (.int wc), .val (.int wd), .val (.int (3 : Int32)), .val (.int vfr), .val (.int c0), .val (.int c1), .val (.int c2), .val (.int c3), .val (.ref sa), .unset]) rfl ?_
      refine XS.iload X141.here hx rfl (hb hby at_69) rfl ?_
      refine XS.istore X141.here hx rfl (hb hby at_71) rfl (l' := #[.val (.int vp), .val (.int wa), .val (.int wb), .val (.int wc), .val (.int wd), .val (.int (3 : Int32)), .val (.int vfr), .val (.int c0), .val (.int c1), .val (.int c2), .val (.int c3), .val (.ref sa), .val (.int (3 : Int32))]) rfl ?_
      exact kt
    rcases hsp145 with rfl | rfl | rfl | rfl
    · have pre147 : ∀ t, Steps p.tables e below (T141.setTop (mkF m 73 #[.val (.int vp), .val (.int wa), .val (.int wb), .val (.int wc), .val (.int wd), .val (.int (3 : Int32)), .val (.int (0 : Int32)), .val (.int c0), .val (.int c1), .val (.int c2), .val (.int c3), .val (.ref sa), .val (.int (3 : Int32))] [])) t → Steps p.tables e below (s₁.setTop (entryFrame m #[(.int vp), (.int wa), (.int wb), (.int wc), (.int wd)] maxLocals)) t := pre146
      have hc76_148 : ¬ ((3 : Int) < (0 : Int)) := by decide
      have hc82_149 : ¬ ((3 : Int) < (3 : Int)) := by decide
      have hc99_150 : ¬ ((2 : Int) < (0 : Int)) := by decide
      have hc105_151 : (2 : Int) < (3 : Int) := by decide
      have pre152 : ∀ t, Steps p.tables e below (T141.setTop (mkF m 110 #[.val (.int vp), .val (.int wa), .val (.int wb), .val (.int wc), .val (.int wd), .val (.int (3 : Int32)), .val (.int (0 : Int32)), .val (.int c0), .val (.int c1), .val (.int c2), .val (.int c3), .val (.ref sa), .val (.int (3 : Int32))] [(.int c2)])) t → Steps p.tables e below (s₁.setTop (entryFrame m #[(.int vp), (.int wa), (.int wb), (.int wc), (.int wd)] maxLocals)) t := fun t kt => by
        refine pre147 _ ?_
        refine XS.iload X141.here hx rfl (hb hby at_73) rfl ?_
        refine XS.iconst X141.here hx rfl (hb hby at_75) ?_
        show Steps p.tables e below (T141.setTop (mkF m 76 #[.val (.int vp), .val (.int wa), .val (.int wb), .val (.int wc), .val (.int wd), .val (.int (3 : Int32)), .val (.int (0 : Int32)), .val (.int c0), .val (.int c1), .val (.int c2), .val (.int c3), .val (.ref sa), .val (.int (3 : Int32))] [(.int (3 : Int32)), (.int (0 : Int32))])) _
        refine XS.icmpNo X141.here hx rfl (hb hby at_76) rfl (own_flt (a := (3 : Int32)) (b := (0 : Int32)) (by decide) (by decide) hc76_148).2.2.1 ?_
        refine XS.iload X141.here hx rfl (hb hby at_79) rfl ?_
        refine XS.iconst X141.here hx rfl (hb hby at_81) ?_
        refine XS.icmpYes X141.here hx rfl (pc0 := 82) (pc' := 96) rfl (hb hby at_82) rfl (own_flt (a := (3 : Int32)) (b := (3 : Int32)) (by decide) (by decide) hc82_149).2.2.2 (by decide) (by decide) ?_
        refine XS.iload X141.here hx rfl (hb hby at_96) rfl ?_
        refine XS.iconst X141.here hx rfl (hb hby at_98) ?_
        refine XS.icmpNo X141.here hx rfl (hb hby at_99) rfl (own_flt (a := (2 : Int32)) (b := (0 : Int32)) (by decide) (by decide) hc99_150).2.2.1 ?_
        refine XS.iload X141.here hx rfl (hb hby at_102) rfl ?_
        show Steps p.tables e below (T141.setTop (mkF m 104 #[.val (.int vp), .val (.int wa), .val (.int wb), .val (.int wc), .val (.int wd), .val (.int (3 : Int32)), .val (.int (0 : Int32)), .val (.int c0), .val (.int c1), .val (.int c2), .val (.int c3), .val (.ref sa), .val (.int (3 : Int32))] [(.int (3 : Int32))])) _
        refine XS.iconst X141.here hx rfl (hb hby at_104) ?_
        refine XS.icmpNo X141.here hx rfl (hb hby at_105) rfl (own_tlt (a := (2 : Int32)) (b := (3 : Int32)) (by decide) (by decide) hc105_151).2.2.2 ?_
        refine XS.iload X141.here hx rfl (hb hby at_108) rfl ?_
        exact kt
      obtain ⟨_, _, ⟨T153, L153, k153, n153⟩, -, X153, ⟨Lc153, hQ153, l153, y153, z153⟩, st153⟩ := Jvm.LawKit.callS X141 hx (y := (⟨"com/example/path_template_matcher/pathtemplatematcher/UriReferencePathEndPinLaw", "stop", "(C)Z"⟩ : MethodName)) hown (mvT hZ (hw _ (List.mem_of_getElem? (i := 52) rfl))) (mvT hZ (hw _ (List.mem_of_getElem? (i := 53) rfl))) (mvT hZ (hw _ (List.mem_of_getElem? (i := 3) rfl))) (mvT hZ (hw _ (List.mem_of_getElem? (i := 54) rfl))) (by decide) (backOf (W := 0) (rm11 l Z a0 hw [] c2 T141.heap n0 Zs144 ) hZ (hw _ (List.mem_of_getElem? (i := 54) rfl)) (hw _ (List.mem_of_getElem? (i := 3) rfl)) (by decide) (by decide)) (g := (mkF m 110 #[.val (.int vp), .val (.int wa), .val (.int wb), .val (.int wc), .val (.int wd), .val (.int (3 : Int32)), .val (.int (0 : Int32)), .val (.int c0), .val (.int c1), .val (.int c2), .val (.int c3), .val (.ref sa), .val (.int (3 : Int32))] [(.int c2)])) rfl (by rw [hml]; rfl) (argsL := [(.int c2)]) (rest := []) (lenOf pd_14 rfl) rfl (by show 2 * 0 + _ ≤ _; exact Nat.le_of_eq rfl) (hb hby at_110) (fun _ _ => ⟨rfl, rfl, (by decide : 3 + 0 ≤ _), (by decide : 10 + 0 ≤ _)⟩)
      dsimp only [Pt.U, Pt.locs, Pt.cells, Pt.slots] at X153 l153 y153 z153 st153 hQ153
      rw [l153, y153, z153] at X153
      obtain ⟨r2, rfl, hr2, N153q, e153⟩ := hQ153
      have N153 := Fr.app N141 N153q
      have pre154 : ∀ t, Steps p.tables e below (T153.setTop (mkF m 113 #[.val (.int vp), .val (.int wa), .val (.int wb), .val (.int wc), .val (.int wd), .val (.int (3 : Int32)), .val (.int (0 : Int32)), .val (.int c0), .val (.int c1), .val (.int c2), .val (.int c3), .val (.ref sa), .val (.int (3 : Int32))] [(.int r2)])) t → Steps p.tables e below (s₁.setTop (entryFrame m #[(.int vp), (.int wa), (.int wb), (.int wc), (.int wd)] maxLocals)) t := fun t kt => by
        refine pre152 _ ?_
        refine st153 _ ?_
        exact kt
      obtain ⟨ex2, hex2, pre158⟩ : ∃ ex2 : Int32, (ex2.toInt = if own_stop c2.toInt then (2 : Int) else (3 : Int)) ∧ ∀ t, Steps p.tables e below (T153.setTop (mkF m 119 #[.val (.int vp), .val (.int wa), .val (.int wb), .val (.int wc), .val (.int wd), .val (.int (3 : Int32)), .val (.int (0 : Int32)), .val (.int c0), .val (.int c1), .val (.int c2), .val (.int c3), .val (.ref sa), .val (.int ex2)] [])) t → Steps p.tables e below (s₁.setTop (entryFrame m #[(.int vp), (.int wa), (.int wb), (.int wc), (.int wd)] maxLocals)) t := by
        by_cases hc113_155 : r2.toInt = (0 : Int)
        · have pre156 : ∀ t, Steps p.tables e below (T153.setTop (mkF m 119 #[.val (.int vp), .val (.int wa), .val (.int wb), .val (.int wc), .val (.int wd), .val (.int (3 : Int32)), .val (.int (0 : Int32)), .val (.int c0), .val (.int c1), .val (.int c2), .val (.int c3), .val (.ref sa), .val (.int (3 : Int32))] [])) t → Steps p.tables e below (s₁.setTop (entryFrame m #[(.int vp), (.int wa), (.int wb), (.int wc), (.int wd)] maxLocals)) t := fun t kt => by
            refine pre154 _ ?_
            show Steps p.tables e below (T153.setTop (mkF m 113 #[.val (.int vp), .val (.int wa), .val (.int wb), .val (.int wc), .val (.int wd), .val (.int (3 : Int32)), .val (.int (0 : Int32)), .val (.int c0), .val (.int c1), .val (.int c2), .val (.int c3), .val (.ref sa), .val (.int (3 : Int32))] [(.int r2)])) _
            refine XS.ifYes X153.here hx rfl (pc0 := 113) (pc' := 119) rfl (hb hby at_113) rfl (own_if (own_teq (a := r2) (b := (0 : Int32)) rfl (by decide) hc113_155).1) (by decide) (by decide) ?_
            exact kt
          exact ⟨(3 : Int32), by exact (Decidable.em (own_stop c2.toInt)).elim (fun hs => by rw [if_pos hs] at hr2 ⊢; try (have : ((3 : Int32)).toInt = (3 : Int) := (by decide); omega)) (fun hs => by rw [if_neg hs] at hr2 ⊢; try (have : ((3 : Int32)).toInt = (3 : Int) := (by decide); omega)), pre156⟩
        · have pre157 : ∀ t, Steps p.tables e below (T153.setTop (mkF m 119 #[.val (.int vp), .val (.int wa), .val (.int wb), .val (.int wc), .val (.int wd), .val (.int (3 : Int32)), .val (.int (0 : Int32)), .val (.int c0), .val (.int c1), .val (.int c2), .val (.int c3), .val (.ref sa), .val (.int (2 : Int32))] [])) t → Steps p.tables e below (s₁.setTop (entryFrame m #[(.int vp), (.int wa), (.int wb), (.int wc), (.int wd)] maxLocals)) t := fun t kt => by
            refine pre154 _ ?_
            show Steps p.tables e below (T153.setTop (mkF m 113 #[.val (.int vp), .val (.int wa), .val (.int wb), .val (.int wc), .val (.int wd), .val (.int (3 : Int32)), .val (.int (0 : Int32)), .val (.int c0), .val (.int c1), .val (.int c2), .val (.int c3), .val (.ref sa), .val (.int (3 : Int32))] [(.int r2)])) _
            refine XS.ifNo X153.here hx rfl (hb hby at_113) rfl (own_if (own_feq (a := r2) (b := (0 : Int32)) rfl (by decide) hc113_155).1) ?_
            refine XS.iconst X153.here hx rfl (hb hby at_116) ?_
            refine XS.istore X153.here hx rfl (hb hby at_117) rfl (l' := #[.val (.int vp), .val (.int wa), .val (.int wb), .val (.int wc), .val (.int wd), .val (.int (3 : Int32)), .val (.int (0 : Int32)), .val (.int c0), .val (.int c1), .val (.int c2), .val (.int c3), .val (.ref sa), .val (.int (2 : Int32))]) rfl ?_
            exact kt
          exact ⟨(2 : Int32), by exact (Decidable.em (own_stop c2.toInt)).elim (fun hs => by rw [if_pos hs] at hr2 ⊢; try (have : ((2 : Int32)).toInt = (2 : Int) := (by decide); omega)) (fun hs => by rw [if_neg hs] at hr2 ⊢; try (have : ((2 : Int32)).toInt = (2 : Int) := (by decide); omega)), pre157⟩
      have hc122_159 : ¬ ((1 : Int) < (0 : Int)) := by decide
      have hc128_160 : (1 : Int) < (3 : Int) := by decide
      have pre161 : ∀ t, Steps p.tables e below (T153.setTop (mkF m 133 #[.val (.int vp), .val (.int wa), .val (.int wb), .val (.int wc), .val (.int wd), .val (.int (3 : Int32)), .val (.int (0 : Int32)), .val (.int c0), .val (.int c1), .val (.int c2), .val (.int c3), .val (.ref sa), .val (.int ex2)] [(.int c1)])) t → Steps p.tables e below (s₁.setTop (entryFrame m #[(.int vp), (.int wa), (.int wb), (.int wc), (.int wd)] maxLocals)) t := fun t kt => by
        refine pre158 _ ?_
        refine XS.iload X153.here hx rfl (hb hby at_119) rfl ?_
        refine XS.iconst X153.here hx rfl (hb hby at_121) ?_
        refine XS.icmpNo X153.here hx rfl (hb hby at_122) rfl (own_flt (a := (1 : Int32)) (b := (0 : Int32)) (by decide) (by decide) hc122_159).2.2.1 ?_
        refine XS.iload X153.here hx rfl (hb hby at_125) rfl ?_
        show Steps p.tables e below (T153.setTop (mkF m 127 #[.val (.int vp), .val (.int wa), .val (.int wb), .val (.int wc), .val (.int wd), .val (.int (3 : Int32)), .val (.int (0 : Int32)), .val (.int c0), .val (.int c1), .val (.int c2), .val (.int c3), .val (.ref sa), .val (.int ex2)] [(.int (3 : Int32))])) _
        refine XS.iconst X153.here hx rfl (hb hby at_127) ?_
        refine XS.icmpNo X153.here hx rfl (hb hby at_128) rfl (own_tlt (a := (1 : Int32)) (b := (3 : Int32)) (by decide) (by decide) hc128_160).2.2.2 ?_
        refine XS.iload X153.here hx rfl (hb hby at_131) rfl ?_
        exact kt
      obtain ⟨_, _, ⟨T162, L162, k162, n162⟩, -, X162, ⟨Lc162, hQ162, l162, y162, z162⟩, st162⟩ := Jvm.LawKit.callS X153 hx (y := (⟨"com/example/path_template_matcher/pathtemplatematcher/UriReferencePathEndPinLaw", "stop", "(C)Z"⟩ : MethodName)) hown (mvT hZ (hw _ (List.mem_of_getElem? (i := 52) rfl))) (mvT hZ (hw _ (List.mem_of_getElem? (i := 53) rfl))) (mvT hZ (hw _ (List.mem_of_getElem? (i := 3) rfl))) (mvT hZ (hw _ (List.mem_of_getElem? (i := 54) rfl))) (by decide) (backOf (W := 0) (rm11 l Z a0 hw [] c1 T141.heap n0 Zs144 ) hZ (hw _ (List.mem_of_getElem? (i := 54) rfl)) (hw _ (List.mem_of_getElem? (i := 3) rfl)) (by decide) (by decide)) (g := (mkF m 133 #[.val (.int vp), .val (.int wa), .val (.int wb), .val (.int wc), .val (.int wd), .val (.int (3 : Int32)), .val (.int (0 : Int32)), .val (.int c0), .val (.int c1), .val (.int c2), .val (.int c3), .val (.ref sa), .val (.int ex2)] [(.int c1)])) rfl (by rw [hml]; rfl) (argsL := [(.int c1)]) (rest := []) (lenOf pd_14 rfl) rfl (by show 2 * 0 + _ ≤ _; exact Nat.le_of_eq rfl) (hb hby at_133) (fun _ _ => ⟨rfl, e153, (by decide : 3 + 0 ≤ _), (by decide : 10 + 0 ≤ _)⟩)
      dsimp only [Pt.U, Pt.locs, Pt.cells, Pt.slots] at X162 l162 y162 z162 st162 hQ162
      rw [l162, y162, z162] at X162
      obtain ⟨r1, rfl, hr1, N162q, e162⟩ := hQ162
      have N162 := Fr.app N153 N162q
      have pre163 : ∀ t, Steps p.tables e below (T162.setTop (mkF m 136 #[.val (.int vp), .val (.int wa), .val (.int wb), .val (.int wc), .val (.int wd), .val (.int (3 : Int32)), .val (.int (0 : Int32)), .val (.int c0), .val (.int c1), .val (.int c2), .val (.int c3), .val (.ref sa), .val (.int ex2)] [(.int r1)])) t → Steps p.tables e below (s₁.setTop (entryFrame m #[(.int vp), (.int wa), (.int wb), (.int wc), (.int wd)] maxLocals)) t := fun t kt => by
        refine pre161 _ ?_
        refine st162 _ ?_
        exact kt
      obtain ⟨ex1, hex1, pre167⟩ : ∃ ex1 : Int32, (ex1.toInt = if own_stop c1.toInt then (1 : Int) else ex2.toInt) ∧ ∀ t, Steps p.tables e below (T162.setTop (mkF m 142 #[.val (.int vp), .val (.int wa), .val (.int wb), .val (.int wc), .val (.int wd), .val (.int (3 : Int32)), .val (.int (0 : Int32)), .val (.int c0), .val (.int c1), .val (.int c2), .val (.int c3), .val (.ref sa), .val (.int ex1)] [])) t → Steps p.tables e below (s₁.setTop (entryFrame m #[(.int vp), (.int wa), (.int wb), (.int wc), (.int wd)] maxLocals)) t := by
        by_cases hc136_164 : r1.toInt = (0 : Int)
        · have pre165 : ∀ t, Steps p.tables e below (T162.setTop (mkF m 142 #[.val (.int vp), .val (.int wa), .val (.int wb), .val (.int wc), .val (.int wd), .val (.int (3 : Int32)), .val (.int (0 : Int32)), .val (.int c0), .val (.int c1), .val (.int c2), .val (.int c3), .val (.ref sa), .val (.int ex2)] [])) t → Steps p.tables e below (s₁.setTop (entryFrame m #[(.int vp), (.int wa), (.int wb), (.int wc), (.int wd)] maxLocals)) t := fun t kt => by
            refine pre163 _ ?_
            show Steps p.tables e below (T162.setTop (mkF m 136 #[.val (.int vp), .val (.int wa), .val (.int wb), .val (.int wc), .val (.int wd), .val (.int (3 : Int32)), .val (.int (0 : Int32)), .val (.int c0), .val (.int c1), .val (.int c2), .val (.int c3), .val (.ref sa), .val (.int ex2)] [(.int r1)])) _
            refine XS.ifYes X162.here hx rfl (pc0 := 136) (pc' := 142) rfl (hb hby at_136) rfl (own_if (own_teq (a := r1) (b := (0 : Int32)) rfl (by decide) hc136_164).1) (by decide) (by decide) ?_
            exact kt
          exact ⟨ex2, by exact (Decidable.em (own_stop c1.toInt)).elim (fun hs => by rw [if_pos hs] at hr1 ⊢; try (have := rng32 ex2; omega)) (fun hs => by rw [if_neg hs] at hr1 ⊢; try (have := rng32 ex2; omega)), pre165⟩
        · have pre166 : ∀ t, Steps p.tables e below (T162.setTop (mkF m 142 #[.val (.int vp), .val (.int wa), .val (.int wb), .val (.int wc), .val (.int wd), .val (.int (3 : Int32)), .val (.int (0 : Int32)), .val (.int c0), .val (.int c1), .val (.int c2), .val (.int c3), .val (.ref sa), .val (.int (1 : Int32))] [])) t → Steps p.tables e below (s₁.setTop (entryFrame m #[(.int vp), (.int wa), (.int wb), (.int wc), (.int wd)] maxLocals)) t := fun t kt => by
            refine pre163 _ ?_
            show Steps p.tables e below (T162.setTop (mkF m 136 #[.val (.int vp), .val (.int wa), .val (.int wb), .val (.int wc), .val (.int wd), .val (.int (3 : Int32)), .val (.int (0 : Int32)), .val (.int c0), .val (.int c1), .val (.int c2), .val (.int c3), .val (.ref sa), .val (.int ex2)] [(.int r1)])) _
            refine XS.ifNo X162.here hx rfl (hb hby at_136) rfl (own_if (own_feq (a := r1) (b := (0 : Int32)) rfl (by decide) hc136_164).1) ?_
            refine XS.iconst X162.here hx rfl (hb hby at_139) ?_
            refine XS.istore X162.here hx rfl (hb hby at_140) rfl (l' := #[.val (.int vp), .val (.int wa), .val (.int wb), .val (.int wc), .val (.int wd), .val (.int (3 : Int32)), .val (.int (0 : Int32)), .val (.int c0), .val (.int c1), .val (.int c2), .val (.int c3), .val (.ref sa), .val (.int (1 : Int32))]) rfl ?_
            exact kt
          exact ⟨(1 : Int32), by exact (Decidable.em (own_stop c1.toInt)).elim (fun hs => by rw [if_pos hs] at hr1 ⊢; try (have : ((1 : Int32)).toInt = (1 : Int) := (by decide); omega)) (fun hs => by rw [if_neg hs] at hr1 ⊢; try (have : ((1 : Int32)).toInt = (1 : Int) := (by decide); omega)), pre166⟩
      have hc144_168 : ¬ ((0 : Int) < (0 : Int)) := by decide
      have hc149_169 : (0 : Int) < (3 : Int) := by decide
      have pre170 : ∀ t, Steps p.tables e below (T162.setTop (mkF m 154 #[.val (.int vp), .val (.int wa), .val (.int wb), .val (.int wc), .val (.int wd), .val (.int (3 : Int32)), .val (.int (0 : Int32)), .val (.int c0), .val (.int c1), .val (.int c2), .val (.int c3), .val (.ref sa), .val (.int ex1)] [(.int c0)])) t → Steps p.tables e below (s₁.setTop (entryFrame m #[(.int vp), (.int wa), (.int wb), (.int wc), (.int wd)] maxLocals)) t := fun t kt => by
        refine pre167 _ ?_
        refine XS.iload X162.here hx rfl (hb hby at_142) rfl ?_
        refine XS.ifNo X162.here hx rfl (hb hby at_144) rfl (own_if (own_flt (a := (0 : Int32)) (b := (0 : Int32)) (by decide) (by decide) hc144_168).2.2.1) ?_
        refine XS.iload X162.here hx rfl (hb hby at_147) rfl ?_
        refine XS.ifNo X162.here hx rfl (hb hby at_149) rfl (own_if (own_tlt (a := (0 : Int32)) (b := (3 : Int32)) (by decide) (by decide) hc149_169).2.2.2) ?_
        show Steps p.tables e below (T162.setTop (mkF m 152 #[.val (.int vp), .val (.int wa), .val (.int wb), .val (.int wc), .val (.int wd), .val (.int (3 : Int32)), .val (.int (0 : Int32)), .val (.int c0), .val (.int c1), .val (.int c2), .val (.int c3), .val (.ref sa), .val (.int ex1)] [])) _
        refine XS.iload X162.here hx rfl (hb hby at_152) rfl ?_
        exact kt
      obtain ⟨_, _, ⟨T171, L171, k171, n171⟩, -, X171, ⟨Lc171, hQ171, l171, y171, z171⟩, st171⟩ := Jvm.LawKit.callS X162 hx (y := (⟨"com/example/path_template_matcher/pathtemplatematcher/UriReferencePathEndPinLaw", "stop", "(C)Z"⟩ : MethodName)) hown (mvT hZ (hw _ (List.mem_of_getElem? (i := 52) rfl))) (mvT hZ (hw _ (List.mem_of_getElem? (i := 53) rfl))) (mvT hZ (hw _ (List.mem_of_getElem? (i := 3) rfl))) (mvT hZ (hw _ (List.mem_of_getElem? (i := 54) rfl))) (by decide) (backOf (W := 0) (rm11 l Z a0 hw [] c0 T141.heap n0 Zs144 ) hZ (hw _ (List.mem_of_getElem? (i := 54) rfl)) (hw _ (List.mem_of_getElem? (i := 3) rfl)) (by decide) (by decide)) (g := (mkF m 154 #[.val (.int vp), .val (.int wa), .val (.int wb), .val (.int wc), .val (.int wd), .val (.int (3 : Int32)), .val (.int (0 : Int32)), .val (.int c0), .val (.int c1), .val (.int c2), .val (.int c3), .val (.ref sa), .val (.int ex1)] [(.int c0)])) rfl (by rw [hml]; rfl) (argsL := [(.int c0)]) (rest := []) (lenOf pd_14 rfl) rfl (by show 2 * 0 + _ ≤ _; exact Nat.le_of_eq rfl) (hb hby at_154) (fun _ _ => ⟨rfl, e162, (by decide : 3 + 0 ≤ _), (by decide : 10 + 0 ≤ _)⟩)
      dsimp only [Pt.U, Pt.locs, Pt.cells, Pt.slots] at X171 l171 y171 z171 st171 hQ171
      rw [l171, y171, z171] at X171
      obtain ⟨r0, rfl, hr0, N171q, e171⟩ := hQ171
      have N171 := Fr.app N162 N171q
      have pre172 : ∀ t, Steps p.tables e below (T171.setTop (mkF m 157 #[.val (.int vp), .val (.int wa), .val (.int wb), .val (.int wc), .val (.int wd), .val (.int (3 : Int32)), .val (.int (0 : Int32)), .val (.int c0), .val (.int c1), .val (.int c2), .val (.int c3), .val (.ref sa), .val (.int ex1)] [(.int r0)])) t → Steps p.tables e below (s₁.setTop (entryFrame m #[(.int vp), (.int wa), (.int wb), (.int wc), (.int wd)] maxLocals)) t := fun t kt => by
        refine pre170 _ ?_
        refine st171 _ ?_
        exact kt
      obtain ⟨ex0, hex0, pre176⟩ : ∃ ex0 : Int32, (ex0.toInt = if own_stop c0.toInt then (0 : Int) else ex1.toInt) ∧ ∀ t, Steps p.tables e below (T171.setTop (mkF m 163 #[.val (.int vp), .val (.int wa), .val (.int wb), .val (.int wc), .val (.int wd), .val (.int (3 : Int32)), .val (.int (0 : Int32)), .val (.int c0), .val (.int c1), .val (.int c2), .val (.int c3), .val (.ref sa), .val (.int ex0)] [])) t → Steps p.tables e below (s₁.setTop (entryFrame m #[(.int vp), (.int wa), (.int wb), (.int wc), (.int wd)] maxLocals)) t := by
        by_cases hc157_173 : r0.toInt = (0 : Int)
        · have pre174 : ∀ t, Steps p.tables e below (T171.setTop (mkF m 163 #[.val (.int vp), .val (.int wa), .val (.int wb), .val (.int wc), .val (.int wd), .val (.int (3 : Int32)), .val (.int (0 : Int32)), .val (.int c0), .val (.int c1), .val (.int c2), .val (.int c3), .val (.ref sa), .val (.int ex1)] [])) t → Steps p.tables e below (s₁.setTop (entryFrame m #[(.int vp), (.int wa), (.int wb), (.int wc), (.int wd)] maxLocals)) t := fun t kt => by
            refine pre172 _ ?_
            show Steps p.tables e below (T171.setTop (mkF m 157 #[.val (.int vp), .val (.int wa), .val (.int wb), .val (.int wc), .val (.int wd), .val (.int (3 : Int32)), .val (.int (0 : Int32)), .val (.int c0), .val (.int c1), .val (.int c2), .val (.int c3), .val (.ref sa), .val (.int ex1)] [(.int r0)])) _
            refine XS.ifYes X171.here hx rfl (pc0 := 157) (pc' := 163) rfl (hb hby at_157) rfl (own_if (own_teq (a := r0) (b := (0 : Int32)) rfl (by decide) hc157_173).1) (by decide) (by decide) ?_
            exact kt
          exact ⟨ex1, by exact (Decidable.em (own_stop c0.toInt)).elim (fun hs => by rw [if_pos hs] at hr0 ⊢; try (have := rng32 ex1; omega)) (fun hs => by rw [if_neg hs] at hr0 ⊢; try (have := rng32 ex1; omega)), pre174⟩
        · have pre175 : ∀ t, Steps p.tables e below (T171.setTop (mkF m 163 #[.val (.int vp), .val (.int wa), .val (.int wb), .val (.int wc), .val (.int wd), .val (.int (3 : Int32)), .val (.int (0 : Int32)), .val (.int c0), .val (.int c1), .val (.int c2), .val (.int c3), .val (.ref sa), .val (.int (0 : Int32))] [])) t → Steps p.tables e below (s₁.setTop (entryFrame m #[(.int vp), (.int wa), (.int wb), (.int wc), (.int wd)] maxLocals)) t := fun t kt => by
            refine pre172 _ ?_
            show Steps p.tables e below (T171.setTop (mkF m 157 #[.val (.int vp), .val (.int wa), .val (.int wb), .val (.int wc), .val (.int wd), .val (.int (3 : Int32)), .val (.int (0 : Int32)), .val (.int c0), .val (.int c1), .val (.int c2), .val (.int c3), .val (.ref sa), .val (.int ex1)] [(.int r0)])) _
            refine XS.ifNo X171.here hx rfl (hb hby at_157) rfl (own_if (own_feq (a := r0) (b := (0 : Int32)) rfl (by decide) hc157_173).1) ?_
            refine XS.iconst X171.here hx rfl (hb hby at_160) ?_
            refine XS.istore X171.here hx rfl (hb hby at_161) rfl (l' := #[.val (.int vp), .val (.int wa), .val (.int wb), .val (.int wc), .val (.int wd), .val (.int (3 : Int32)), .val (.int (0 : Int32)), .val (.int c0), .val (.int c1), .val (.int c2), .val (.int c3), .val (.ref sa), .val (.int (0 : Int32))]) rfl ?_
            exact kt
          exact ⟨(0 : Int32), by exact (Decidable.em (own_stop c0.toInt)).elim (fun hs => by rw [if_pos hs] at hr0 ⊢; try (have : ((0 : Int32)).toInt = (0 : Int) := (by decide); omega)) (fun hs => by rw [if_neg hs] at hr0 ⊢; try (have : ((0 : Int32)).toInt = (0 : Int) := (by decide); omega)), pre175⟩
      have pre177 : ∀ t, Steps p.tables e below (T171.setTop (mkF m 167 #[.val (.int vp), .val (.int wa), .val (.int wb), .val (.int wc), .val (.int wd), .val (.int (3 : Int32)), .val (.int (0 : Int32)), .val (.int c0), .val (.int c1), .val (.int c2), .val (.int c3), .val (.ref sa), .val (.int ex0)] [(.int (0 : Int32)), (.ref sa)])) t → Steps p.tables e below (s₁.setTop (entryFrame m #[(.int vp), (.int wa), (.int wb), (.int wc), (.int wd)] maxLocals)) t := fun t kt => by
        refine pre176 _ ?_
        refine XS.aload X171.here hx rfl (hb hby at_163) rfl rfl ?_
        refine XS.iload X171.here hx rfl (hb hby at_165) rfl ?_
        exact kt
      have os178 := (own_st_keep Os K141 ns0)
      obtain ⟨_, _, ⟨T179, L179, k179, n179⟩, -, X179, ⟨Lc179, hQ179, l179, y179, z179⟩, st179⟩ := Jvm.LawKit.callS X171 hx (y := (⟨"com/example/path_template_matcher/pathtemplatematcher/UriReference", "pathEnd", "(Ljava/lang/String;I)I"⟩ : MethodName)) hown (mvT hZ (hw _ (List.mem_of_getElem? (i := 27) rfl))) (mvT hZ (hw _ (List.mem_of_getElem? (i := 28) rfl))) (mvT hZ (hw _ (List.mem_of_getElem? (i := 29) rfl))) (mvT hZ (hw _ (List.mem_of_getElem? (i := 30) rfl))) (by decide) (backOf (W := 0) (rm_pe3_0 l Z a0 hw [] sa vcs vf ob kb bb0 bb1 bb2 c0 c1 c2 T141.heap n0 Zs144 os178 Esa Fcsa Fvsa Vob qbb0 qbb1 qbb2) hZ (hw _ (List.mem_of_getElem? (i := 30) rfl)) (hw _ (List.mem_of_getElem? (i := 29) rfl)) (by decide) (by decide)) (g := (mkF m 167 #[.val (.int vp), .val (.int wa), .val (.int wb), .val (.int wc), .val (.int wd), .val (.int (3 : Int32)), .val (.int (0 : Int32)), .val (.int c0), .val (.int c1), .val (.int c2), .val (.int c3), .val (.ref sa), .val (.int ex0)] [(.int (0 : Int32)), (.ref sa)])) rfl (by rw [hml]; rfl) (argsL := [(.ref sa), (.int (0 : Int32))]) (rest := []) (lenOf pd_13 rfl) rfl (by show 2 * 0 + _ ≤ _; exact Nat.le_of_eq rfl) (hb hby at_167) (fun _ _ => ⟨rfl, e171, (by decide : 3 + 0 ≤ _), (by decide : 10 + 0 ≤ _)⟩)
      dsimp only [Pt.U, Pt.locs, Pt.cells, Pt.slots] at X179 l179 y179 z179 st179 hQ179
      rw [l179, y179, z179] at X179
      obtain ⟨zp, rfl, hzp, N179q, e179⟩ := hQ179
      have N179 := Fr.app N171 N179q
      have hc172_180 : zp.toInt = ex0.toInt := by rw [hzp, hex0, hex1, hex2]
      obtain ⟨fs, hr, hrun, hended, hREW⟩ := X179.leaveW hS0 (by rw [e179]; exact hk143) (v := some (.int (1 : Int32))) (fun h => by rw [Bd.returns] at h; cases h)
      refine ⟨_, _, pre177 _ ?_, hrun, hended, _, _, rfl, ?_, ?_, ⟨hREW.1, hREW.2.1, hREW.2.2.1, hREW.2.2.2.mono (by decide) (by decide)⟩⟩
      · refine st179 _ ?_
        refine XS.iload X179.here hx rfl (hb hby at_170) rfl ?_
        refine XS.icmpNo X179.here hx rfl (hb hby at_172) rfl (own_teq (a := zp) (b := ex0) rfl rfl hc172_180).2 ?_
        refine XS.iconst X179.here hx rfl (hb hby at_175) ?_
        show Steps p.tables e below (T179.setTop (mkF m 176 #[.val (.int vp), .val (.int wa), .val (.int wb), .val (.int wc), .val (.int wd), .val (.int (3 : Int32)), .val (.int (0 : Int32)), .val (.int c0), .val (.int c1), .val (.int c2), .val (.int c3), .val (.ref sa), .val (.int ex0)] [(.int (1 : Int32))])) _
        refine XS.goto X179.here hx rfl (pc0 := 176) (pc' := 180) rfl (hb hby at_176) (by decide) (by decide) ?_
        exact retN X179 hx (t := .boolean) Bd.returns (by simp) (hb hby at_180) hr
      · show Q0 Z _ _ _ _ _ _ _ h0 n0 _ T179.heap _
        rw [e179]
        exact ⟨rfl, N179⟩
      · show CHr Z own_EL s.vm s.heap T179.vm T179.heap
        rw [hh, e179]
        exact CR142.trans (CHv.at X179 hZ hEL CR142.1)
    · have pre181 : ∀ t, Steps p.tables e below (T141.setTop (mkF m 73 #[.val (.int vp), .val (.int wa), .val (.int wb), .val (.int wc), .val (.int wd), .val (.int (3 : Int32)), .val (.int (1 : Int32)), .val (.int c0), .val (.int c1), .val (.int c2), .val (.int c3), .val (.ref sa), .val (.int (3 : Int32))] [])) t → Steps p.tables e below (s₁.setTop (entryFrame m #[(.int vp), (.int wa), (.int wb), (.int wc), (.int wd)] maxLocals)) t := pre146
      have hc76_182 : ¬ ((3 : Int) < (1 : Int)) := by decide
      have hc82_183 : ¬ ((3 : Int) < (3 : Int)) := by decide
      have hc99_184 : ¬ ((2 : Int) < (1 : Int)) := by decide
      have hc105_185 : (2 : Int) < (3 : Int) := by decide
      have pre186 : ∀ t, Steps p.tables e below (T141.setTop (mkF m 110 #[.val (.int vp), .val (.int wa), .val (.int wb), .val (.int wc), .val (.int wd), .val (.int (3 : Int32)), .val (.int (1 : Int32)), .val (.int c0), .val (.int c1), .val (.int c2), .val (.int c3), .val (.ref sa), .val (.int (3 : Int32))] [(.int c2)])) t → Steps p.tables e below (s₁.setTop (entryFrame m #[(.int vp), (.int wa), (.int wb), (.int wc), (.int wd)] maxLocals)) t := fun t kt => by
        refine pre181 _ ?_
        refine XS.iload X141.here hx rfl (hb hby at_73) rfl ?_
        refine XS.iconst X141.here hx rfl (hb hby at_75) ?_
        show Steps p.tables e below (T141.setTop (mkF m 76 #[.val (.int vp), .val (.int wa), .val (.int wb), .val (.int wc), .val (.int wd), .val (.int (3 : Int32)), .val (.int (1 : Int32)), .val (.int c0), .val (.int c1), .val (.int c2), .val (.int c3), .val (.ref sa), .val (.int (3 : Int32))] [(.int (3 : Int32)), (.int (1 : Int32))])) _
        refine XS.icmpNo X141.here hx rfl (hb hby at_76) rfl (own_flt (a := (3 : Int32)) (b := (1 : Int32)) (by decide) (by decide) hc76_182).2.2.1 ?_
        refine XS.iload X141.here hx rfl (hb hby at_79) rfl ?_
        refine XS.iconst X141.here hx rfl (hb hby at_81) ?_
        refine XS.icmpYes X141.here hx rfl (pc0 := 82) (pc' := 96) rfl (hb hby at_82) rfl (own_flt (a := (3 : Int32)) (b := (3 : Int32)) (by decide) (by decide) hc82_183).2.2.2 (by decide) (by decide) ?_
        refine XS.iload X141.here hx rfl (hb hby at_96) rfl ?_
        refine XS.iconst X141.here hx rfl (hb hby at_98) ?_
        refine XS.icmpNo X141.here hx rfl (hb hby at_99) rfl (own_flt (a := (2 : Int32)) (b := (1 : Int32)) (by decide) (by decide) hc99_184).2.2.1 ?_
        refine XS.iload X141.here hx rfl (hb hby at_102) rfl ?_
        show Steps p.tables e below (T141.setTop (mkF m 104 #[.val (.int vp), .val (.int wa), .val (.int wb), .val (.int wc), .val (.int wd), .val (.int (3 : Int32)), .val (.int (1 : Int32)), .val (.int c0), .val (.int c1), .val (.int c2), .val (.int c3), .val (.ref sa), .val (.int (3 : Int32))] [(.int (3 : Int32))])) _
        refine XS.iconst X141.here hx rfl (hb hby at_104) ?_
        refine XS.icmpNo X141.here hx rfl (hb hby at_105) rfl (own_tlt (a := (2 : Int32)) (b := (3 : Int32)) (by decide) (by decide) hc105_185).2.2.2 ?_
        refine XS.iload X141.here hx rfl (hb hby at_108) rfl ?_
        exact kt
      obtain ⟨_, _, ⟨T187, L187, k187, n187⟩, -, X187, ⟨Lc187, hQ187, l187, y187, z187⟩, st187⟩ := Jvm.LawKit.callS X141 hx (y := (⟨"com/example/path_template_matcher/pathtemplatematcher/UriReferencePathEndPinLaw", "stop", "(C)Z"⟩ : MethodName)) hown (mvT hZ (hw _ (List.mem_of_getElem? (i := 52) rfl))) (mvT hZ (hw _ (List.mem_of_getElem? (i := 53) rfl))) (mvT hZ (hw _ (List.mem_of_getElem? (i := 3) rfl))) (mvT hZ (hw _ (List.mem_of_getElem? (i := 54) rfl))) (by decide) (backOf (W := 0) (rm11 l Z a0 hw [] c2 T141.heap n0 Zs144 ) hZ (hw _ (List.mem_of_getElem? (i := 54) rfl)) (hw _ (List.mem_of_getElem? (i := 3) rfl)) (by decide) (by decide)) (g := (mkF m 110 #[.val (.int vp), .val (.int wa), .val (.int wb), .val (.int wc), .val (.int wd), .val (.int (3 : Int32)), .val (.int (1 : Int32)), .val (.int c0), .val (.int c1), .val (.int c2), .val (.int c3), .val (.ref sa), .val (.int (3 : Int32))] [(.int c2)])) rfl (by rw [hml]; rfl) (argsL := [(.int c2)]) (rest := []) (lenOf pd_14 rfl) rfl (by show 2 * 0 + _ ≤ _; exact Nat.le_of_eq rfl) (hb hby at_110) (fun _ _ => ⟨rfl, rfl, (by decide : 3 + 0 ≤ _), (by decide : 10 + 0 ≤ _)⟩)
      dsimp only [Pt.U, Pt.locs, Pt.cells, Pt.slots] at X187 l187 y187 z187 st187 hQ187
      rw [l187, y187, z187] at X187
      obtain ⟨r2, rfl, hr2, N187q, e187⟩ := hQ187
      have N187 := Fr.app N141 N187q
      have pre188 : ∀ t, Steps p.tables e below (T187.setTop (mkF m 113 #[.val (.int vp), .val (.int wa), .val (.int wb), .val (.int wc), .val (.int wd), .val (.int (3 : Int32)), .val (.int (1 : Int32)), .val (.int c0), .val (.int c1), .val (.int c2), .val (.int c3), .val (.ref sa), .val (.int (3 : Int32))] [(.int r2)])) t → Steps p.tables e below (s₁.setTop (entryFrame m #[(.int vp), (.int wa), (.int wb), (.int wc), (.int wd)] maxLocals)) t := fun t kt => by
        refine pre186 _ ?_
        refine st187 _ ?_
        exact kt
      obtain ⟨ex2, hex2, pre192⟩ : ∃ ex2 : Int32, (ex2.toInt = if own_stop c2.toInt then (2 : Int) else (3 : Int)) ∧ ∀ t, Steps p.tables e below (T187.setTop (mkF m 119 #[.val (.int vp), .val (.int wa), .val (.int wb), .val (.int wc), .val (.int wd), .val (.int (3 : Int32)), .val (.int (1 : Int32)), .val (.int c0), .val (.int c1), .val (.int c2), .val (.int c3), .val (.ref sa), .val (.int ex2)] [])) t → Steps p.tables e below (s₁.setTop (entryFrame m #[(.int vp), (.int wa), (.int wb), (.int wc), (.int wd)] maxLocals)) t := by
        by_cases hc113_189 : r2.toInt = (0 : Int)
        · have pre190 : ∀ t, Steps p.tables e below (T187.setTop (mkF m 119 #[.val (.int vp), .val (.int wa), .val (.int wb), .val (.int wc), .val (.int wd), .val (.int (3 : Int32)), .val (.int (1 : Int32)), .val (.int c0), .val (.int c1), .val (.int c2), .val (.int c3), .val (.ref sa), .val (.int (3 : Int32))] [])) t → Steps p.tables e below (s₁.setTop (entryFrame m #[(.int vp), (.int wa), (.int wb), (.int wc), (.int wd)] maxLocals)) t := fun t kt => by
            refine pre188 _ ?_
            show Steps p.tables e below (T187.setTop (mkF m 113 #[.val (.int vp), .val (.int wa), .val (.int wb), .val (.int wc), .val (.int wd), .val (.int (3 : Int32)), .val (.int (1 : Int32)), .val (.int c0), .val (.int c1), .val (.int c2), .val (.int c3), .val (.ref sa), .val (.int (3 : Int32))] [(.int r2)])) _
            refine XS.ifYes X187.here hx rfl (pc0 := 113) (pc' := 119) rfl (hb hby at_113) rfl (own_if (own_teq (a := r2) (b := (0 : Int32)) rfl (by decide) hc113_189).1) (by decide) (by decide) ?_
            exact kt
          exact ⟨(3 : Int32), by exact (Decidable.em (own_stop c2.toInt)).elim (fun hs => by rw [if_pos hs] at hr2 ⊢; try (have : ((3 : Int32)).toInt = (3 : Int) := (by decide); omega)) (fun hs => by rw [if_neg hs] at hr2 ⊢; try (have : ((3 : Int32)).toInt = (3 : Int) := (by decide); omega)), pre190⟩
        · have pre191 : ∀ t, Steps p.tables e below (T187.setTop (mkF m 119 #[.val (.int vp), .val (.int wa), .val (.int wb), .val (.int wc), .val (.int wd), .val (.int (3 : Int32)), .val (.int (1 : Int32)), .val (.int c0), .val (.int c1), .val (.int c2), .val (.int c3), .val (.ref sa), .val (.int (2 : Int32))] [])) t → Steps p.tables e below (s₁.setTop (entryFrame m #[(.int vp), (.int wa), (.int wb), (.int wc), (.int wd)] maxLocals)) t := fun t kt => by
            refine pre188 _ ?_
            show Steps p.tables e below (T187.setTop (mkF m 113 #[.val (.int vp), .val (.int wa), .val (.int wb), .val (.int wc), .val (.int wd), .val (.int (3 : Int32)), .val (.int (1 : Int32)), .val (.int c0), .val (.int c1), .val (.int c2), .val (.int c3), .val (.ref sa), .val (.int (3 : Int32))] [(.int r2)])) _
            refine XS.ifNo X187.here hx rfl (hb hby at_113) rfl (own_if (own_feq (a := r2) (b := (0 : Int32)) rfl (by decide) hc113_189).1) ?_
            refine XS.iconst X187.here hx rfl (hb hby at_116) ?_
            refine XS.istore X187.here hx rfl (hb hby at_117) rfl (l' := #[.val (.int vp), .val (.int wa), .val (.int wb), .val (.int wc), .val (.int wd), .val (.int (3 : Int32)), .val (.int (1 : Int32)), .val (.int c0), .val (.int c1), .val (.int c2), .val (.int c3), .val (.ref sa), .val (.int (2 : Int32))]) rfl ?_
            exact kt
          exact ⟨(2 : Int32), by exact (Decidable.em (own_stop c2.toInt)).elim (fun hs => by rw [if_pos hs] at hr2 ⊢; try (have : ((2 : Int32)).toInt = (2 : Int) := (by decide); omega)) (fun hs => by rw [if_neg hs] at hr2 ⊢; try (have : ((2 : Int32)).toInt = (2 : Int) := (by decide); omega)), pre191⟩
      have hc122_193 : ¬ ((1 : Int) < (1 : Int)) := by decide
      have hc128_194 : (1 : Int) < (3 : Int) := by decide
      have pre195 : ∀ t, Steps p.tables e below (T187.setTop (mkF m 133 #[.val (.int vp), .val (.int wa), .val (.int wb), .val (.int wc), .val (.int wd), .val (.int (3 : Int32)), .val (.int (1 : Int32)), .val (.int c0), .val (.int c1), .val (.int c2), .val (.int c3), .val (.ref sa), .val (.int ex2)] [(.int c1)])) t → Steps p.tables e below (s₁.setTop (entryFrame m #[(.int vp), (.int wa), (.int wb), (.int wc), (.int wd)] maxLocals)) t := fun t kt => by
        refine pre192 _ ?_
        refine XS.iload X187.here hx rfl (hb hby at_119) rfl ?_
        refine XS.iconst X187.here hx rfl (hb hby at_121) ?_
        refine XS.icmpNo X187.here hx rfl (hb hby at_122) rfl (own_flt (a := (1 : Int32)) (b := (1 : Int32)) (by decide) (by decide) hc122_193).2.2.1 ?_
        refine XS.iload X187.here hx rfl (hb hby at_125) rfl ?_
        show Steps p.tables e below (T187.setTop (mkF m 127 #[.val (.int vp), .val (.int wa), .val (.int wb), .val (.int wc), .val (.int wd), .val (.int (3 : Int32)), .val (.int (1 : Int32)), .val (.int c0), .val (.int c1), .val (.int c2), .val (.int c3), .val (.ref sa), .val (.int ex2)] [(.int (3 : Int32))])) _
        refine XS.iconst X187.here hx rfl (hb hby at_127) ?_
        refine XS.icmpNo X187.here hx rfl (hb hby at_128) rfl (own_tlt (a := (1 : Int32)) (b := (3 : Int32)) (by decide) (by decide) hc128_194).2.2.2 ?_
        refine XS.iload X187.here hx rfl (hb hby at_131) rfl ?_
        exact kt
      obtain ⟨_, _, ⟨T196, L196, k196, n196⟩, -, X196, ⟨Lc196, hQ196, l196, y196, z196⟩, st196⟩ := Jvm.LawKit.callS X187 hx (y := (⟨"com/example/path_template_matcher/pathtemplatematcher/UriReferencePathEndPinLaw", "stop", "(C)Z"⟩ : MethodName)) hown (mvT hZ (hw _ (List.mem_of_getElem? (i := 52) rfl))) (mvT hZ (hw _ (List.mem_of_getElem? (i := 53) rfl))) (mvT hZ (hw _ (List.mem_of_getElem? (i := 3) rfl))) (mvT hZ (hw _ (List.mem_of_getElem? (i := 54) rfl))) (by decide) (backOf (W := 0) (rm11 l Z a0 hw [] c1 T141.heap n0 Zs144 ) hZ (hw _ (List.mem_of_getElem? (i := 54) rfl)) (hw _ (List.mem_of_getElem? (i := 3) rfl)) (by decide) (by decide)) (g := (mkF m 133 #[.val (.int vp), .val (.int wa), .val (.int wb), .val (.int wc), .val (.int wd), .val (.int (3 : Int32)), .val (.int (1 : Int32)), .val (.int c0), .val (.int c1), .val (.int c2), .val (.int c3), .val (.ref sa), .val (.int ex2)] [(.int c1)])) rfl (by rw [hml]; rfl) (argsL := [(.int c1)]) (rest := []) (lenOf pd_14 rfl) rfl (by show 2 * 0 + _ ≤ _; exact Nat.le_of_eq rfl) (hb hby at_133) (fun _ _ => ⟨rfl, e187, (by decide : 3 + 0 ≤ _), (by decide : 10 + 0 ≤ _)⟩)
      dsimp only [Pt.U, Pt.locs, Pt.cells, Pt.slots] at X196 l196 y196 z196 st196 hQ196
      rw [l196, y196, z196] at X196
      obtain ⟨r1, rfl, hr1, N196q, e196⟩ := hQ196
      have N196 := Fr.app N187 N196q
      have pre197 : ∀ t, Steps p.tables e below (T196.setTop (mkF m 136 #[.val (.int vp), .val (.int wa), .val (.int wb), .val (.int wc), .val (.int wd), .val (.int (3 : Int32)), .val (.int (1 : Int32)), .val (.int c0), .val (.int c1), .val (.int c2), .val (.int c3), .val (.ref sa), .val (.int ex2)] [(.int r1)])) t → Steps p.tables e below (s₁.setTop (entryFrame m #[(.int vp), (.int wa), (.int wb), (.int wc), (.int wd)] maxLocals)) t := fun t kt => by
        refine pre195 _ ?_
        refine st196 _ ?_
        exact kt
      obtain ⟨ex1, hex1, pre201⟩ : ∃ ex1 : Int32, (ex1.toInt = if own_stop c1.toInt then (1 : Int) else ex2.toInt) ∧ ∀ t, Steps p.tables e below (T196.setTop (mkF m 142 #[.val (.int vp), .val (.int wa), .val (.int wb), .val (.int wc), .val (.int wd), .val (.int (3 : Int32)), .val (.int (1 : Int32)), .val (.int c0), .val (.int c1), .val (.int c2), .val (.int c3), .val (.ref sa), .val (.int ex1)] [])) t → Steps p.tables e below (s₁.setTop (entryFrame m #[(.int vp), (.int wa), (.int wb), (.int wc), (.int wd)] maxLocals)) t := by
        by_cases hc136_198 : r1.toInt = (0 : Int)
        · have pre199 : ∀ t, Steps p.tables e below (T196.setTop (mkF m 142 #[.val (.int vp), .val (.int wa), .val (.int wb), .val (.int wc), .val (.int wd), .val (.int (3 : Int32)), .val (.int (1 : Int32)), .val (.int c0), .val (.int c1), .val (.int c2), .val (.int c3), .val (.ref sa), .val (.int ex2)] [])) t → Steps p.tables e below (s₁.setTop (entryFrame m #[(.int vp), (.int wa), (.int wb), (.int wc), (.int wd)] maxLocals)) t := fun t kt => by
            refine pre197 _ ?_
            show Steps p.tables e below (T196.setTop (mkF m 136 #[.val (.int vp), .val (.int wa), .val (.int wb), .val (.int wc), .val (.int wd), .val (.int (3 : Int32)), .val (.int (1 : Int32)), .val (.int c0), .val (.int c1), .val (.int c2), .val (.int c3), .val (.ref sa), .val (.int ex2)] [(.int r1)])) _
            refine XS.ifYes X196.here hx rfl (pc0 := 136) (pc' := 142) rfl (hb hby at_136) rfl (own_if (own_teq (a := r1) (b := (0 : Int32)) rfl (by decide) hc136_198).1) (by decide) (by decide) ?_
            exact kt
          exact ⟨ex2, by exact (Decidable.em (own_stop c1.toInt)).elim (fun hs => by rw [if_pos hs] at hr1 ⊢; try (have := rng32 ex2; omega)) (fun hs => by rw [if_neg hs] at hr1 ⊢; try (have := rng32 ex2; omega)), pre199⟩
        · have pre200 : ∀ t, Steps p.tables e below (T196.setTop (mkF m 142 #[.val (.int vp), .val (.int wa), .val (.int wb), .val (.int wc), .val (.int wd), .val (.int (3 : Int32)), .val (.int (1 : Int32)), .val (.int c0), .val (.int c1), .val (.int c2), .val (.int c3), .val (.ref sa), .val (.int (1 : Int32))] [])) t → Steps p.tables e below (s₁.setTop (entryFrame m #[(.int vp), (.int wa), (.int wb), (.int wc), (.int wd)] maxLocals)) t := fun t kt => by
            refine pre197 _ ?_
            show Steps p.tables e below (T196.setTop (mkF m 136 #[.val (.int vp), .val (.int wa), .val (.int wb), .val (.int wc), .val (.int wd), .val (.int (3 : Int32)), .val (.int (1 : Int32)), .val (.int c0), .val (.int c1), .val (.int c2), .val (.int c3), .val (.ref sa), .val (.int ex2)] [(.int r1)])) _
            refine XS.ifNo X196.here hx rfl (hb hby at_136) rfl (own_if (own_feq (a := r1) (b := (0 : Int32)) rfl (by decide) hc136_198).1) ?_
            refine XS.iconst X196.here hx rfl (hb hby at_139) ?_
            refine XS.istore X196.here hx rfl (hb hby at_140) rfl (l' := #[.val (.int vp), .val (.int wa), .val (.int wb), .val (.int wc), .val (.int wd), .val (.int (3 : Int32)), .val (.int (1 : Int32)), .val (.int c0), .val (.int c1), .val (.int c2), .val (.int c3), .val (.ref sa), .val (.int (1 : Int32))]) rfl ?_
            exact kt
          exact ⟨(1 : Int32), by exact (Decidable.em (own_stop c1.toInt)).elim (fun hs => by rw [if_pos hs] at hr1 ⊢; try (have : ((1 : Int32)).toInt = (1 : Int) := (by decide); omega)) (fun hs => by rw [if_neg hs] at hr1 ⊢; try (have : ((1 : Int32)).toInt = (1 : Int) := (by decide); omega)), pre200⟩
      have hc144_202 : (0 : Int) < (1 : Int) := by decide
      have pre203 : ∀ t, Steps p.tables e below (T196.setTop (mkF m 167 #[.val (.int vp), .val (.int wa), .val (.int wb), .val (.int wc), .val (.int wd), .val (.int (3 : Int32)), .val (.int (1 : Int32)), .val (.int c0), .val (.int c1), .val (.int c2), .val (.int c3), .val (.ref sa), .val (.int ex1)] [(.int (1 : Int32)), (.ref sa)])) t → Steps p.tables e below (s₁.setTop (entryFrame m #[(.int vp), (.int wa), (.int wb), (.int wc), (.int wd)] maxLocals)) t := fun t kt => by
        refine pre201 _ ?_
        refine XS.iload X196.here hx rfl (hb hby at_142) rfl ?_
        refine XS.ifYes X196.here hx rfl (pc0 := 144) (pc' := 163) rfl (hb hby at_144) rfl (own_if (own_tlt (a := (0 : Int32)) (b := (1 : Int32)) (by decide) (by decide) hc144_202).2.2.1) (by decide) (by decide) ?_
        refine XS.aload X196.here hx rfl (hb hby at_163) rfl rfl ?_
        refine XS.iload X196.here hx rfl (hb hby at_165) rfl ?_
        show Steps p.tables e below (T196.setTop (mkF m 167 #[.val (.int vp), .val (.int wa), .val (.int wb), .val (.int wc), .val (.int wd), .val (.int (3 : Int32)), .val (.int (1 : Int32)), .val (.int c0), .val (.int c1), .val (.int c2), .val (.int c3), .val (.ref sa), .val (.int ex1)] [(.int (1 : Int32)), (.ref sa)])) _
        exact kt
      have os204 := (own_st_keep Os K141 ns0)
      obtain ⟨_, _, ⟨T205, L205, k205, n205⟩, -, X205, ⟨Lc205, hQ205, l205, y205, z205⟩, st205⟩ := Jvm.LawKit.callS X196 hx (y := (⟨"com/example/path_template_matcher/pathtemplatematcher/UriReference", "pathEnd", "(Ljava/lang/String;I)I"⟩ : MethodName)) hown (mvT hZ (hw _ (List.mem_of_getElem? (i := 27) rfl))) (mvT hZ (hw _ (List.mem_of_getElem? (i := 28) rfl))) (mvT hZ (hw _ (List.mem_of_getElem? (i := 29) rfl))) (mvT hZ (hw _ (List.mem_of_getElem? (i := 30) rfl))) (by decide) (backOf (W := 0) (rm_pe3_1 l Z a0 hw [] sa vcs vf ob kb bb0 bb1 bb2 c0 c1 c2 T141.heap n0 Zs144 os204 Esa Fcsa Fvsa Vob qbb0 qbb1 qbb2) hZ (hw _ (List.mem_of_getElem? (i := 30) rfl)) (hw _ (List.mem_of_getElem? (i := 29) rfl)) (by decide) (by decide)) (g := (mkF m 167 #[.val (.int vp), .val (.int wa), .val (.int wb), .val (.int wc), .val (.int wd), .val (.int (3 : Int32)), .val (.int (1 : Int32)), .val (.int c0), .val (.int c1), .val (.int c2), .val (.int c3), .val (.ref sa), .val (.int ex1)] [(.int (1 : Int32)), (.ref sa)])) rfl (by rw [hml]; rfl) (argsL := [(.ref sa), (.int (1 : Int32))]) (rest := []) (lenOf pd_13 rfl) rfl (by show 2 * 0 + _ ≤ _; exact Nat.le_of_eq rfl) (hb hby at_167) (fun _ _ => ⟨rfl, e196, (by decide : 3 + 0 ≤ _), (by decide : 10 + 0 ≤ _)⟩)
      dsimp only [Pt.U, Pt.locs, Pt.cells, Pt.slots] at X205 l205 y205 z205 st205 hQ205
      rw [l205, y205, z205] at X205
      obtain ⟨zp, rfl, hzp, N205q, e205⟩ := hQ205
      have N205 := Fr.app N196 N205q
      have hc172_206 : zp.toInt = ex1.toInt := by rw [hzp, hex1, hex2]
      obtain ⟨fs, hr, hrun, hended, hREW⟩ := X205.leaveW hS0 (by rw [e205]; exact hk143) (v := some (.int (1 : Int32))) (fun h => by rw [Bd.returns] at h; cases h)
      refine ⟨_, _, pre203 _ ?_, hrun, hended, _, _, rfl, ?_, ?_, ⟨hREW.1, hREW.2.1, hREW.2.2.1, hREW.2.2.2.mono (by decide) (by decide)⟩⟩
      · refine st205 _ ?_
        refine XS.iload X205.here hx rfl (hb hby at_170) rfl ?_
        refine XS.icmpNo X205.here hx rfl (hb hby at_172) rfl (own_teq (a := zp) (b := ex1) rfl rfl hc172_206).2 ?_
        refine XS.iconst X205.here hx rfl (hb hby at_175) ?_
        refine XS.goto X205.here hx rfl (pc0 := 176) (pc' := 180) rfl (hb hby at_176) (by decide) (by decide) ?_
        exact retN X205 hx (t := .boolean) Bd.returns (by simp) (hb hby at_180) hr
      · show Q0 Z _ _ _ _ _ _ _ h0 n0 _ T205.heap _
        rw [e205]
        exact ⟨rfl, N205⟩
      · show CHr Z own_EL s.vm s.heap T205.vm T205.heap
        rw [hh, e205]
        exact CR142.trans (CHv.at X205 hZ hEL CR142.1)
    · have pre207 : ∀ t, Steps p.tables e below (T141.setTop (mkF m 73 #[.val (.int vp), .val (.int wa), .val (.int wb), .val (.int wc), .val (.int wd), .val (.int (3 : Int32)), .val (.int (2 : Int32)), .val (.int c0), .val (.int c1), .val (.int c2), .val (.int c3), .val (.ref sa), .val (.int (3 : Int32))] [])) t → Steps p.tables e below (s₁.setTop (entryFrame m #[(.int vp), (.int wa), (.int wb), (.int wc), (.int wd)] maxLocals)) t := pre146
      have hc76_208 : ¬ ((3 : Int) < (2 : Int)) := by decide
      have hc82_209 : ¬ ((3 : Int) < (3 : Int)) := by decide
      have hc99_210 : ¬ ((2 : Int) < (2 : Int)) := by decide
      have hc105_211 : (2 : Int) < (3 : Int) := by decide
      have pre212 : ∀ t, Steps p.tables e below (T141.setTop (mkF m 110 #[.val (.int vp), .val (.int wa), .val (.int wb), .val (.int wc), .val (.int wd), .val (.int (3 : Int32)), .val (.int (2 : Int32)), .val (.int c0), .val (.int c1), .val (.int c2), .val (.int c3), .val (.ref sa), .val (.int (3 : Int32))] [(.int c2)])) t → Steps p.tables e below (s₁.setTop (entryFrame m #[(.int vp), (.int wa), (.int wb), (.int wc), (.int wd)] maxLocals)) t := fun t kt => by
        refine pre207 _ ?_
        refine XS.iload X141.here hx rfl (hb hby at_73) rfl ?_
        refine XS.iconst X141.here hx rfl (hb hby at_75) ?_
        show Steps p.tables e below (T141.setTop (mkF m 76 #[.val (.int vp), .val (.int wa), .val (.int wb), .val (.int wc), .val (.int wd), .val (.int (3 : Int32)), .val (.int (2 : Int32)), .val (.int c0), .val (.int c1), .val (.int c2), .val (.int c3), .val (.ref sa), .val (.int (3 : Int32))] [(.int (3 : Int32)), (.int (2 : Int32))])) _
        refine XS.icmpNo X141.here hx rfl (hb hby at_76) rfl (own_flt (a := (3 : Int32)) (b := (2 : Int32)) (by decide) (by decide) hc76_208).2.2.1 ?_
        refine XS.iload X141.here hx rfl (hb hby at_79) rfl ?_
        refine XS.iconst X141.here hx rfl (hb hby at_81) ?_
        refine XS.icmpYes X141.here hx rfl (pc0 := 82) (pc' := 96) rfl (hb hby at_82) rfl (own_flt (a := (3 : Int32)) (b := (3 : Int32)) (by decide) (by decide) hc82_209).2.2.2 (by decide) (by decide) ?_
        refine XS.iload X141.here hx rfl (hb hby at_96) rfl ?_
        refine XS.iconst X141.here hx rfl (hb hby at_98) ?_
        refine XS.icmpNo X141.here hx rfl (hb hby at_99) rfl (own_flt (a := (2 : Int32)) (b := (2 : Int32)) (by decide) (by decide) hc99_210).2.2.1 ?_
        refine XS.iload X141.here hx rfl (hb hby at_102) rfl ?_
        show Steps p.tables e below (T141.setTop (mkF m 104 #[.val (.int vp), .val (.int wa), .val (.int wb), .val (.int wc), .val (.int wd), .val (.int (3 : Int32)), .val (.int (2 : Int32)), .val (.int c0), .val (.int c1), .val (.int c2), .val (.int c3), .val (.ref sa), .val (.int (3 : Int32))] [(.int (3 : Int32))])) _
        refine XS.iconst X141.here hx rfl (hb hby at_104) ?_
        refine XS.icmpNo X141.here hx rfl (hb hby at_105) rfl (own_tlt (a := (2 : Int32)) (b := (3 : Int32)) (by decide) (by decide) hc105_211).2.2.2 ?_
        refine XS.iload X141.here hx rfl (hb hby at_108) rfl ?_
        exact kt
      obtain ⟨_, _, ⟨T213, L213, k213, n213⟩, -, X213, ⟨Lc213, hQ213, l213, y213, z213⟩, st213⟩ := Jvm.LawKit.callS X141 hx (y := (⟨"com/example/path_template_matcher/pathtemplatematcher/UriReferencePathEndPinLaw", "stop", "(C)Z"⟩ : MethodName)) hown (mvT hZ (hw _ (List.mem_of_getElem? (i := 52) rfl))) (mvT hZ (hw _ (List.mem_of_getElem? (i := 53) rfl))) (mvT hZ (hw _ (List.mem_of_getElem? (i := 3) rfl))) (mvT hZ (hw _ (List.mem_of_getElem? (i := 54) rfl))) (by decide) (backOf (W := 0) (rm11 l Z a0 hw [] c2 T141.heap n0 Zs144 ) hZ (hw _ (List.mem_of_getElem? (i := 54) rfl)) (hw _ (List.mem_of_getElem? (i := 3) rfl)) (by decide) (by decide)) (g := (mkF m 110 #[.val (.int vp), .val (.int wa), .val (.int wb), .val (.int wc), .val (.int wd), .val (.int (3 : Int32)), .val (.int (2 : Int32)), .val (.int c0), .val (.int c1), .val (.int c2), .val (.int c3), .val (.ref sa), .val (.int (3 : Int32))] [(.int c2)])) rfl (by rw [hml]; rfl) (argsL := [(.int c2)]) (rest := []) (lenOf pd_14 rfl) rfl (by show 2 * 0 + _ ≤ _; exact Nat.le_of_eq rfl) (hb hby at_110) (fun _ _ => ⟨rfl, rfl, (by decide : 3 + 0 ≤ _), (by decide : 10 + 0 ≤ _)⟩)
      dsimp only [Pt.U, Pt.locs, Pt.cells, Pt.slots] at X213 l213 y213 z213 st213 hQ213
      rw [l213, y213, z213] at X213
      obtain ⟨r2, rfl, hr2, N213q, e213⟩ := hQ213
      have N213 := Fr.app N141 N213q
      have pre214 : ∀ t, Steps p.tables e below (T213.setTop (mkF m 113 #[.val (.int vp), .val (.int wa), .val (.int wb), .val (.int wc), .val (.int wd), .val (.int (3 : Int32)), .val (.int (2 : Int32)), .val (.int c0), .val (.int c1), .val (.int c2), .val (.int c3), .val (.ref sa), .val (.int (3 : Int32))] [(.int r2)])) t → Steps p.tables e below (s₁.setTop (entryFrame m #[(.int vp), (.int wa), (.int wb), (.int wc), (.int wd)] maxLocals)) t := fun t kt => by
        refine pre212 _ ?_
        refine st213 _ ?_
        exact kt
      obtain ⟨ex2, hex2, pre218⟩ : ∃ ex2 : Int32, (ex2.toInt = if own_stop c2.toInt then (2 : Int) else (3 : Int)) ∧ ∀ t, Steps p.tables e below (T213.setTop (mkF m 119 #[.val (.int vp), .val (.int wa), .val (.int wb), .val (.int wc), .val (.int wd), .val (.int (3 : Int32)), .val (.int (2 : Int32)), .val (.int c0), .val (.int c1), .val (.int c2), .val (.int c3), .val (.ref sa), .val (.int ex2)] [])) t → Steps p.tables e below (s₁.setTop (entryFrame m #[(.int vp), (.int wa), (.int wb), (.int wc), (.int wd)] maxLocals)) t := by
        by_cases hc113_215 : r2.toInt = (0 : Int)
        · have pre216 : ∀ t, Steps p.tables e below (T213.setTop (mkF m 119 #[.val (.int vp), .val (.int wa), .val (.int wb), .val (.int wc), .val (.int wd), .val (.int (3 : Int32)), .val (.int (2 : Int32)), .val (.int c0), .val (.int c1), .val (.int c2), .val (.int c3), .val (.ref sa), .val (.int (3 : Int32))] [])) t → Steps p.tables e below (s₁.setTop (entryFrame m #[(.int vp), (.int wa), (.int wb), (.int wc), (.int wd)] maxLocals)) t := fun t kt => by
            refine pre214 _ ?_
            show Steps p.tables e below (T213.setTop (mkF m 113 #[.val (.int vp), .val (.int wa), .val (.int wb), .val (.int wc), .val (.int wd), .val (.int (3 : Int32)), .val (.int (2 : Int32)), .val (.int c0), .val (.int c1), .val (.int c2), .val (.int c3), .val (.ref sa), .val (.int (3 : Int32))] [(.int r2)])) _
            refine XS.ifYes X213.here hx rfl (pc0 := 113) (pc' := 119) rfl (hb hby at_113) rfl (own_if (own_teq (a := r2) (b := (0 : Int32)) rfl (by decide) hc113_215).1) (by decide) (by decide) ?_
            exact kt
          exact ⟨(3 : Int32), by exact (Decidable.em (own_stop c2.toInt)).elim (fun hs => by rw [if_pos hs] at hr2 ⊢; try (have : ((3 : Int32)).toInt = (3 : Int) := (by decide); omega)) (fun hs => by rw [if_neg hs] at hr2 ⊢; try (have : ((3 : Int32)).toInt = (3 : Int) := (by decide); omega)), pre216⟩
        · have pre217 : ∀ t, Steps p.tables e below (T213.setTop (mkF m 119 #[.val (.int vp), .val (.int wa), .val (.int wb), .val (.int wc), .val (.int wd), .val (.int (3 : Int32)), .val (.int (2 : Int32)), .val (.int c0), .val (.int c1), .val (.int c2), .val (.int c3), .val (.ref sa), .val (.int (2 : Int32))] [])) t → Steps p.tables e below (s₁.setTop (entryFrame m #[(.int vp), (.int wa), (.int wb), (.int wc), (.int wd)] maxLocals)) t := fun t kt => by
            refine pre214 _ ?_
            show Steps p.tables e below (T213.setTop (mkF m 113 #[.val (.int vp), .val (.int wa), .val (.int wb), .val (.int wc), .val (.int wd), .val (.int (3 : Int32)), .val (.int (2 : Int32)), .val (.int c0), .val (.int c1), .val (.int c2), .val (.int c3), .val (.ref sa), .val (.int (3 : Int32))] [(.int r2)])) _
            refine XS.ifNo X213.here hx rfl (hb hby at_113) rfl (own_if (own_feq (a := r2) (b := (0 : Int32)) rfl (by decide) hc113_215).1) ?_
            refine XS.iconst X213.here hx rfl (hb hby at_116) ?_
            refine XS.istore X213.here hx rfl (hb hby at_117) rfl (l' := #[.val (.int vp), .val (.int wa), .val (.int wb), .val (.int wc), .val (.int wd), .val (.int (3 : Int32)), .val (.int (2 : Int32)), .val (.int c0), .val (.int c1), .val (.int c2), .val (.int c3), .val (.ref sa), .val (.int (2 : Int32))]) rfl ?_
            exact kt
          exact ⟨(2 : Int32), by exact (Decidable.em (own_stop c2.toInt)).elim (fun hs => by rw [if_pos hs] at hr2 ⊢; try (have : ((2 : Int32)).toInt = (2 : Int) := (by decide); omega)) (fun hs => by rw [if_neg hs] at hr2 ⊢; try (have : ((2 : Int32)).toInt = (2 : Int) := (by decide); omega)), pre217⟩
      have hc122_219 : (1 : Int) < (2 : Int) := by decide
      have hc144_220 : (0 : Int) < (2 : Int) := by decide
      have pre221 : ∀ t, Steps p.tables e below (T213.setTop (mkF m 167 #[.val (.int vp), .val (.int wa), .val (.int wb), .val (.int wc), .val (.int wd), .val (.int (3 : Int32)), .val (.int (2 : Int32)), .val (.int c0), .val (.int c1), .val (.int c2), .val (.int c3), .val (.ref sa), .val (.int ex2)] [(.int (2 : Int32)), (.ref sa)])) t → Steps p.tables e below (s₁.setTop (entryFrame m #[(.int vp), (.int wa), (.int wb), (.int wc), (.int wd)] maxLocals)) t := fun t kt => by
        refine pre218 _ ?_
        refine XS.iload X213.here hx rfl (hb hby at_119) rfl ?_
        refine XS.iconst X213.here hx rfl (hb hby at_121) ?_
        refine XS.icmpYes X213.here hx rfl (pc0 := 122) (pc' := 142) rfl (hb hby at_122) rfl (own_tlt (a := (1 : Int32)) (b := (2 : Int32)) (by decide) (by decide) hc122_219).2.2.1 (by decide) (by decide) ?_
        refine XS.iload X213.here hx rfl (hb hby at_142) rfl ?_
        show Steps p.tables e below (T213.setTop (mkF m 144 #[.val (.int vp), .val (.int wa), .val (.int wb), .val (.int wc), .val (.int wd), .val (.int (3 : Int32)), .val (.int (2 : Int32)), .val (.int c0), .val (.int c1), .val (.int c2), .val (.int c3), .val (.ref sa), .val (.int ex2)] [(.int (2 : Int32))])) _
        refine XS.ifYes X213.here hx rfl (pc0 := 144) (pc' := 163) rfl (hb hby at_144) rfl (own_if (own_tlt (a := (0 : Int32)) (b := (2 : Int32)) (by decide) (by decide) hc144_220).2.2.1) (by decide) (by decide) ?_
        refine XS.aload X213.here hx rfl (hb hby at_163) rfl rfl ?_
        refine XS.iload X213.here hx rfl (hb hby at_165) rfl ?_
        exact kt
      have os222 := (own_st_keep Os K141 ns0)
      obtain ⟨_, _, ⟨T223, L223, k223, n223⟩, -, X223, ⟨Lc223, hQ223, l223, y223, z223⟩, st223⟩ := Jvm.LawKit.callS X213 hx (y := (⟨"com/example/path_template_matcher/pathtemplatematcher/UriReference", "pathEnd", "(Ljava/lang/String;I)I"⟩ : MethodName)) hown (mvT hZ (hw _ (List.mem_of_getElem? (i := 27) rfl))) (mvT hZ (hw _ (List.mem_of_getElem? (i := 28) rfl))) (mvT hZ (hw _ (List.mem_of_getElem? (i := 29) rfl))) (mvT hZ (hw _ (List.mem_of_getElem? (i := 30) rfl))) (by decide) (backOf (W := 0) (rm_pe3_2 l Z a0 hw [] sa vcs vf ob kb bb0 bb1 bb2 c0 c1 c2 T141.heap n0 Zs144 os222 Esa Fcsa Fvsa Vob qbb0 qbb1 qbb2) hZ (hw _ (List.mem_of_getElem? (i := 30) rfl)) (hw _ (List.mem_of_getElem? (i := 29) rfl)) (by decide) (by decide)) (g := (mkF m 167 #[.val (.int vp), .val (.int wa), .val (.int wb), .val (.int wc), .val (.int wd), .val (.int (3 : Int32)), .val (.int (2 : Int32)), .val (.int c0), .val (.int c1), .val (.int c2), .val (.int c3), .val (.ref sa), .val (.int ex2)] [(.int (2 : Int32)), (.ref sa)])) rfl (by rw [hml]; rfl) (argsL := [(.ref sa), (.int (2 : Int32))]) (rest := []) (lenOf pd_13 rfl) rfl (by show 2 * 0 + _ ≤ _; exact Nat.le_of_eq rfl) (hb hby at_167) (fun _ _ => ⟨rfl, e213, (by decide : 3 + 0 ≤ _), (by decide : 10 + 0 ≤ _)⟩)
      dsimp only [Pt.U, Pt.locs, Pt.cells, Pt.slots] at X223 l223 y223 z223 st223 hQ223
      rw [l223, y223, z223] at X223
      obtain ⟨zp, rfl, hzp, N223q, e223⟩ := hQ223
      have N223 := Fr.app N213 N223q
      have hc172_224 : zp.toInt = ex2.toInt := by rw [hzp, hex2]
      obtain ⟨fs, hr, hrun, hended, hREW⟩ := X223.leaveW hS0 (by rw [e223]; exact hk143) (v := some (.int (1 : Int32))) (fun h => by rw [Bd.returns] at h; cases h)
      refine ⟨_, _, pre221 _ ?_, hrun, hended, _, _, rfl, ?_, ?_, ⟨hREW.1, hREW.2.1, hREW.2.2.1, hREW.2.2.2.mono (by decide) (by decide)⟩⟩
      · refine st223 _ ?_
        refine XS.iload X223.here hx rfl (hb hby at_170) rfl ?_
        refine XS.icmpNo X223.here hx rfl (hb hby at_172) rfl (own_teq (a := zp) (b := ex2) rfl rfl hc172_224).2 ?_
        refine XS.iconst X223.here hx rfl (hb hby at_175) ?_
        refine XS.goto X223.here hx rfl (pc0 := 176) (pc' := 180) rfl (hb hby at_176) (by decide) (by decide) ?_
        show Steps p.tables e below (T223.setTop (mkF m 180 #[.val (.int vp), .val (.int wa), .val (.int wb), .val (.int wc), .val (.int wd), .val (.int (3 : Int32)), .val (.int (2 : Int32)), .val (.int c0), .val (.int c1), .val (.int c2), .val (.int c3), .val (.ref sa), .val (.int ex2)] [(.int (1 : Int32))])) _
        exact retN X223 hx (t := .boolean) Bd.returns (by simp) (hb hby at_180) hr
      · show Q0 Z _ _ _ _ _ _ _ h0 n0 _ T223.heap _
        rw [e223]
        exact ⟨rfl, N223⟩
      · show CHr Z own_EL s.vm s.heap T223.vm T223.heap
        rw [hh, e223]
        exact CR142.trans (CHv.at X223 hZ hEL CR142.1)
    · have pre225 : ∀ t, Steps p.tables e below (T141.setTop (mkF m 73 #[.val (.int vp), .val (.int wa), .val (.int wb), .val (.int wc), .val (.int wd), .val (.int (3 : Int32)), .val (.int (3 : Int32)), .val (.int c0), .val (.int c1), .val (.int c2), .val (.int c3), .val (.ref sa), .val (.int (3 : Int32))] [])) t → Steps p.tables e below (s₁.setTop (entryFrame m #[(.int vp), (.int wa), (.int wb), (.int wc), (.int wd)] maxLocals)) t := pre146
      have hc76_226 : ¬ ((3 : Int) < (3 : Int)) := by decide
      have hc82_227 : ¬ ((3 : Int) < (3 : Int)) := by decide
      have hc99_228 : (2 : Int) < (3 : Int) := by decide
      have hc122_229 : (1 : Int) < (3 : Int) := by decide
      have hc144_230 : (0 : Int) < (3 : Int) := by decide
      have pre231 : ∀ t, Steps p.tables e below (T141.setTop (mkF m 167 #[.val (.int vp), .val (.int wa), .val (.int wb), .val (.int wc), .val (.int wd), .val (.int (3 : Int32)), .val (.int (3 : Int32)), .val (.int c0), .val (.int c1), .val (.int c2), .val (.int c3), .val (.ref sa), .val (.int (3 : Int32))] [(.int (3 : Int32)), (.ref sa)])) t → Steps p.tables e below (s₁.setTop (entryFrame m #[(.int vp), (.int wa), (.int wb), (.int wc), (.int wd)] maxLocals)) t := fun t kt => by
        refine pre225 _ ?_
        refine XS.iload X141.here hx rfl (hb hby at_73) rfl ?_
        refine XS.iconst X141.here hx rfl (hb hby at_75) ?_
        show Steps p.tables e below (T141.setTop (mkF m 76 #[.val (.int vp), .val (.int wa), .val (.int wb), .val (.int wc), .val (.int wd), .val (.int (3 : Int32)), .val (.int (3 : Int32)), .val (.int c0), .val (.int c1), .val (.int c2), .val (.int c3), .val (.ref sa), .val (.int (3 : Int32))] [(.int (3 : Int32)), (.int (3 : Int32))])) _
        refine XS.icmpNo X141.here hx rfl (hb hby at_76) rfl (own_flt (a := (3 : Int32)) (b := (3 : Int32)) (by decide) (by decide) hc76_226).2.2.1 ?_
        refine XS.iload X141.here hx rfl (hb hby at_79) rfl ?_
        refine XS.iconst X141.here hx rfl (hb hby at_81) ?_
        refine XS.icmpYes X141.here hx rfl (pc0 := 82) (pc' := 96) rfl (hb hby at_82) rfl (own_flt (a := (3 : Int32)) (b := (3 : Int32)) (by decide) (by decide) hc82_227).2.2.2 (by decide) (by decide) ?_
        refine XS.iload X141.here hx rfl (hb hby at_96) rfl ?_
        refine XS.iconst X141.here hx rfl (hb hby at_98) ?_
        refine XS.icmpYes X141.here hx rfl (pc0 := 99) (pc' := 119) rfl (hb hby at_99) rfl (own_tlt (a := (2 : Int32)) (b := (3 : Int32)) (by decide) (by decide) hc99_228).2.2.1 (by decide) (by decide) ?_
        refine XS.iload X141.here hx rfl (hb hby at_119) rfl ?_
        show Steps p.tables e below (T141.setTop (mkF m 121 #[.val (.int vp), .val (.int wa), .val (.int wb), .val (.int wc), .val (.int wd), .val (.int (3 : Int32)), .val (.int (3 : Int32)), .val (.int c0), .val (.int c1), .val (.int c2), .val (.int c3), .val (.ref sa), .val (.int (3 : Int32))] [(.int (3 : Int32))])) _
        refine XS.iconst X141.here hx rfl (hb hby at_121) ?_
        refine XS.icmpYes X141.here hx rfl (pc0 := 122) (pc' := 142) rfl (hb hby at_122) rfl (own_tlt (a := (1 : Int32)) (b := (3 : Int32)) (by decide) (by decide) hc122_229).2.2.1 (by decide) (by decide) ?_
        refine XS.iload X141.here hx rfl (hb hby at_142) rfl ?_
        refine XS.ifYes X141.here hx rfl (pc0 := 144) (pc' := 163) rfl (hb hby at_144) rfl (own_if (own_tlt (a := (0 : Int32)) (b := (3 : Int32)) (by decide) (by decide) hc144_230).2.2.1) (by decide) (by decide) ?_
        refine XS.aload X141.here hx rfl (hb hby at_163) rfl rfl ?_
        refine XS.iload X141.here hx rfl (hb hby at_165) rfl ?_
        exact kt
      have os232 := (own_st_keep Os K141 ns0)
      obtain ⟨_, _, ⟨T233, L233, k233, n233⟩, -, X233, ⟨Lc233, hQ233, l233, y233, z233⟩, st233⟩ := Jvm.LawKit.callS X141 hx (y := (⟨"com/example/path_template_matcher/pathtemplatematcher/UriReference", "pathEnd", "(Ljava/lang/String;I)I"⟩ : MethodName)) hown (mvT hZ (hw _ (List.mem_of_getElem? (i := 27) rfl))) (mvT hZ (hw _ (List.mem_of_getElem? (i := 28) rfl))) (mvT hZ (hw _ (List.mem_of_getElem? (i := 29) rfl))) (mvT hZ (hw _ (List.mem_of_getElem? (i := 30) rfl))) (by decide) (backOf (W := 0) (rm_pe3_3 l Z a0 hw [] sa vcs vf ob kb bb0 bb1 bb2 c0 c1 c2 T141.heap n0 Zs144 os232 Esa Fcsa Fvsa Vob qbb0 qbb1 qbb2) hZ (hw _ (List.mem_of_getElem? (i := 30) rfl)) (hw _ (List.mem_of_getElem? (i := 29) rfl)) (by decide) (by decide)) (g := (mkF m 167 #[.val (.int vp), .val (.int wa), .val (.int wb), .val (.int wc), .val (.int wd), .val (.int (3 : Int32)), .val (.int (3 : Int32)), .val (.int c0), .val (.int c1), .val (.int c2), .val (.int c3), .val (.ref sa), .val (.int (3 : Int32))] [(.int (3 : Int32)), (.ref sa)])) rfl (by rw [hml]; rfl) (argsL := [(.ref sa), (.int (3 : Int32))]) (rest := []) (lenOf pd_13 rfl) rfl (by show 2 * 0 + _ ≤ _; exact Nat.le_of_eq rfl) (hb hby at_167) (fun _ _ => ⟨rfl, rfl, (by decide : 3 + 0 ≤ _), (by decide : 10 + 0 ≤ _)⟩)
      dsimp only [Pt.U, Pt.locs, Pt.cells, Pt.slots] at X233 l233 y233 z233 st233 hQ233
      rw [l233, y233, z233] at X233
      obtain ⟨zp, rfl, hzp, N233q, e233⟩ := hQ233
      have N233 := Fr.app N141 N233q
      have hc172_234 : zp.toInt = (3 : Int) := by rw [hzp]
      obtain ⟨fs, hr, hrun, hended, hREW⟩ := X233.leaveW hS0 (by rw [e233]; exact hk143) (v := some (.int (1 : Int32))) (fun h => by rw [Bd.returns] at h; cases h)
      refine ⟨_, _, pre231 _ ?_, hrun, hended, _, _, rfl, ?_, ?_, ⟨hREW.1, hREW.2.1, hREW.2.2.1, hREW.2.2.2.mono (by decide) (by decide)⟩⟩
      · refine st233 _ ?_
        refine XS.iload X233.here hx rfl (hb hby at_170) rfl ?_
        show Steps p.tables e below (T233.setTop (mkF m 172 #[.val (.int vp), .val (.int wa), .val (.int wb), .val (.int wc), .val (.int wd), .val (.int (3 : Int32)), .val (.int (3 : Int32)), .val (.int c0), .val (.int c1), .val (.int c2), .val (.int c3), .val (.ref sa), .val (.int (3 : Int32))] [(.int (3 : Int32)), (.int zp)])) _
        refine XS.icmpNo X233.here hx rfl (hb hby at_172) rfl (own_teq (a := zp) (b := (3 : Int32)) rfl (by decide) hc172_234).2 ?_
        refine XS.iconst X233.here hx rfl (hb hby at_175) ?_
        refine XS.goto X233.here hx rfl (pc0 := 176) (pc' := 180) rfl (hb hby at_176) (by decide) (by decide) ?_
        exact retN X233 hx (t := .boolean) Bd.returns (by simp) (hb hby at_180) hr
      · show Q0 Z _ _ _ _ _ _ _ h0 n0 _ T233.heap _
        rw [e233]
        exact ⟨rfl, N233⟩
      · show CHr Z own_EL s.vm s.heap T233.vm T233.heap
        rw [hh, e233]
        exact CR142.trans (CHv.at X233 hZ hEL CR142.1)
  · have pre235 : ∀ t, Steps p.tables e below (s₁.setTop (mkF m 64 #[.val (.int vp), .val (.int wa), .val (.int wb), .val (.int wc), .val (.int wd), .val (.int (4 : Int32)), .val (.int vfr), .val (.int c0), .val (.int c1), .val (.int c2), .val (.int c3), .unset, .unset] [(.int c3), (.int c2), (.int c1), (.int c0), (.int (4 : Int32))])) t → Steps p.tables e below (s₁.setTop (entryFrame m #[(.int vp), (.int wa), (.int wb), (.int wc), (.int wd)] maxLocals)) t := pre17
    obtain ⟨_, _, ⟨T236, L236, k236, n236⟩, -, X236, ⟨Lc236, hQ236, l236, y236, z236⟩, st236⟩ := Jvm.LawKit.callS X0 hx (y := (⟨"com/example/path_template_matcher/pathtemplatematcher/UriReferencePathEndPinLaw", "mk", "(ICCCC)Ljava/lang/String;"⟩ : MethodName)) hown (mvT hZ (hw _ (List.mem_of_getElem? (i := 1) rfl))) (mvT hZ (hw _ (List.mem_of_getElem? (i := 2) rfl))) (mvT hZ (hw _ (List.mem_of_getElem? (i := 3) rfl))) (mvT hZ (hw _ (List.mem_of_getElem? (i := 4) rfl))) (by decide) (backOf (W := 0) (rm_m4 l Z a0 hw [] c0 c1 c2 c3 vcs vf h0 n0 Z0 Os jc0.1 jc1.1 jc2.1 jc3.1 jc0.2 jc1.2 jc2.2 jc3.2) hZ (hw _ (List.mem_of_getElem? (i := 4) rfl)) (hw _ (List.mem_of_getElem? (i := 3) rfl)) (by decide) (by decide)) (g := (mkF m 64 #[.val (.int vp), .val (.int wa), .val (.int wb), .val (.int wc), .val (.int wd), .val (.int (4 : Int32)), .val (.int vfr), .val (.int c0), .val (.int c1), .val (.int c2), .val (.int c3), .unset, .unset] [(.int c3), (.int c2), (.int c1), (.int c0), (.int (4 : Int32))])) rfl (by rw [hml]; rfl) (argsL := [(.int (4 : Int32)), (.int c0), (.int c1), (.int c2), (.int c3)]) (rest := []) (lenOf pd_12 rfl) rfl (by show 2 * 0 + _ ≤ _; exact Nat.le_of_eq rfl) (hb hby at_64) (fun _ _ => ⟨rfl, e0, (by decide : 0 + 3 ≤ _), (by decide : 0 + 12 ≤ _)⟩)
    dsimp only [Pt.U, Pt.locs, Pt.cells, Pt.slots] at X236 l236 y236 z236 st236 hQ236
    rw [l236, y236, z236] at X236
    obtain ⟨sa, ob, kb, bb0, bb1, bb2, bb3, rfl, N236q, K236, Esa, Fcsa, Fvsa, Vob, qbb0, qbb1, qbb2, qbb3⟩ := hQ236
    have N236 := Fr.app N0 N236q
    have CR237 := (CR0.trans (CHr.keep K236 sf0 CR0.1))
    have hk238 := Nat.le_trans hk0 K236.1
    have Zs239 : n0 ≤ T236.heap.size := Nat.le_trans Z0 K236.1
    have kvl : ((4 : Int32)).toInt = (4 : Int) := (by decide)
    have hsp240 : vfr = (0 : Int32) ∨ vfr = (1 : Int32) ∨ vfr = (2 : Int32) ∨ vfr = (3 : Int32) ∨ vfr = (4 : Int32) := by
      have q : vfr.toInt = 0 ∨ vfr.toInt = 1 ∨ vfr.toInt = 2 ∨ vfr.toInt = 3 ∨ vfr.toInt = 4 := by omega
      rcases q with q | q | q | q | q
      · exact Or.inl (Int32.toInt_inj.mp (by rw [q]; decide))
      · exact Or.inr (Or.inl (Int32.toInt_inj.mp (by rw [q]; decide)))
      · exact Or.inr (Or.inr (Or.inl (Int32.toInt_inj.mp (by rw [q]; decide))))
      · exact Or.inr (Or.inr (Or.inr (Or.inl (Int32.toInt_inj.mp (by rw [q]; decide)))))
      · exact Or.inr (Or.inr (Or.inr (Or.inr (Int32.toInt_inj.mp (by rw [q]; decide)))))
    have pre241 : ∀ t, Steps p.tables e below (T236.setTop (mkF m 73 #[.val (.int vp), .val (.int wa), .val (.int wb), .val (.int wc), .val (.int wd), .val (.int (4 : Int32)), .val (.int vfr), .val (.int c0), .val (.int c1), .val (.int c2), .val (.int c3), .val (.ref sa), .val (.int (4 : Int32))] [])) t → Steps p.tables e below (s₁.setTop (entryFrame m #[(.int vp), (.int wa), (.int wb), (.int wc), (.int wd)] maxLocals)) t := fun t kt => by
      refine pre235 _ ?_
      refine st236 _ ?_
      refine XS.astore X236.here hx rfl (hb hby at_67) rfl rfl (l' := #[.val (.int vp), .val (.int wa), .val (.int wb), .val (.int wc), .val (.int wd), .val (.int (4 : Int32)), .val (.int vfr), .val (.int c0), .val (.int c1), .val (.int c2), .val (.int c3), .val (.ref sa), .unset]) rfl ?_
      refine XS.iload X236.here hx rfl (hb hby at_69) rfl ?_
      refine XS.istore X236.here hx rfl (hb hby at_71) rfl (l' := #[.val (.int vp), .val (.int wa), .val (.int wb), .val (.int wc), .val (.int wd), .val (.int (4 : Int32)), .val (.int vfr), .val (.int c0), .val (.int c1), .val (.int c2), .val (.int c3), .val (.ref sa), .val (.int (4 : Int32))]) rfl ?_
      exact kt
    rcases hsp240 with rfl | rfl | rfl | rfl | rfl
    · have pre242 : ∀ t, Steps p.tables e below (T236.setTop (mkF m 73 #[.val (.int vp), .val (.int wa), .val (.int wb), .val (.int wc), .val (.int wd), .val (.int (4 : Int32)), .val (.int (0 : Int32)), .val (.int c0), .val (.int c1), .val (.int c2), .val (.int c3), .val (.ref sa), .val (.int (4 : Int32))] [])) t → Steps p.tables e below (s₁.setTop (entryFrame m #[(.int vp), (.int wa), (.int wb), (.int wc), (.int wd)] maxLocals)) t := pre241
      have hc76_243 : ¬ ((3 : Int) < (0 : Int)) := by decide
      have hc82_244 : (3 : Int) < (4 : Int) := by decide
      have pre245 : ∀ t, Steps p.tables e below (T236.setTop (mkF m 87 #[.val (.int vp), .val (.int wa), .val (.int wb), .val (.int wc), .val (.int wd), .val (.int (4 : Int32)), .val (.int (0 : Int32)), .val (.int c0), .val (.int c1), .val (.int c2), .val (.int c3), .val (.ref sa), .val (.int (4 : Int32))] [(.int c3)])) t → Steps p.tables e below (s₁.setTop (entryFrame m #[(.int vp), (.int wa), (.int wb), (.int wc), (.int wd)] maxLocals)) t := fun t kt => by
        refine pre242 _ ?_
        refine XS.iload X236.here hx rfl (hb hby at_73) rfl ?_
        refine XS.iconst X236.here hx rfl (hb hby at_75) ?_
        show Steps p.tables e below (T236.setTop (mkF m 76 #[.val (.int vp), .val (.int wa), .val (.int wb), .val (.int wc), .val (.int wd), .val (.int (4 : Int32)), .val (.int (0 : Int32)), .val (.int c0), .val (.int c1), .val (.int c2), .val (.int c3), .val (.ref sa), .val (.int (4 : Int32))] [(.int (3 : Int32)), (.int (0 : Int32))])) _
        refine XS.icmpNo X236.here hx rfl (hb hby at_76) rfl (own_flt (a := (3 : Int32)) (b := (0 : Int32)) (by decide) (by decide) hc76_243).2.2.1 ?_
        refine XS.iload X236.here hx rfl (hb hby at_79) rfl ?_
        refine XS.iconst X236.here hx rfl (hb hby at_81) ?_
        refine XS.icmpNo X236.here hx rfl (hb hby at_82) rfl (own_tlt (a := (3 : Int32)) (b := (4 : Int32)) (by decide) (by decide) hc82_244).2.2.2 ?_
        refine XS.iload X236.here hx rfl (hb hby at_85) rfl ?_
        exact kt
      obtain ⟨_, _, ⟨T246, L246, k246, n246⟩, -, X246, ⟨Lc246, hQ246, l246, y246, z246⟩, st246⟩ := Jvm.LawKit.callS X236 hx (y := (⟨"com/example/path_template_matcher/pathtemplatematcher/UriReferencePathEndPinLaw", "stop", "(C)Z"⟩ : MethodName)) hown (mvT hZ (hw _ (List.mem_of_getElem? (i := 52) rfl))) (mvT hZ (hw _ (List.mem_of_getElem? (i := 53) rfl))) (mvT hZ (hw _ (List.mem_of_getElem? (i := 3) rfl))) (mvT hZ (hw _ (List.mem_of_getElem? (i := 54) rfl))) (by decide) (backOf (W := 0) (rm11 l Z a0 hw [] c3 T236.heap n0 Zs239 ) hZ (hw _ (List.mem_of_getElem? (i := 54) rfl)) (hw _ (List.mem_of_getElem? (i := 3) rfl)) (by decide) (by decide)) (g := (mkF m 87 #[.val (.int vp), .val (.int wa), .val (.int wb), .val (.int wc), .val (.int wd), .val (.int (4 : Int32)), .val (.int (0 : Int32)), .val (.int c0), .val (.int c1), .val (.int c2), .val (.int c3), .val (.ref sa), .val (.int (4 : Int32))] [(.int c3)])) rfl (by rw [hml]; rfl) (argsL := [(.int c3)]) (rest := []) (lenOf pd_14 rfl) rfl (by show 2 * 0 + _ ≤ _; exact Nat.le_of_eq rfl) (hb hby at_87) (fun _ _ => ⟨rfl, rfl, (by decide : 3 + 0 ≤ _), (by decide : 12 + 0 ≤ _)⟩)
      dsimp only [Pt.U, Pt.locs, Pt.cells, Pt.slots] at X246 l246 y246 z246 st246 hQ246
      rw [l246, y246, z246] at X246
      obtain ⟨r3, rfl, hr3, N246q, e246⟩ := hQ246
      have N246 := Fr.app N236 N246q
      have pre247 : ∀ t, Steps p.tables e below (T246.setTop (mkF m 90 #[.val (.int vp), .val (.int wa), .val (.int wb), .val (.int wc), .val (.int wd), .val (.int (4 : Int32)), .val (.int (0 : Int32)), .val (.int c0), .val (.int c1), .val (.int c2), .val (.int c3), .val (.ref sa), .val (.int (4 : Int32))] [(.int r3)])) t → Steps p.tables e below (s₁.setTop (entryFrame m #[(.int vp), (.int wa), (.int wb), (.int wc), (.int wd)] maxLocals)) t := fun t kt => by
        refine pre245 _ ?_
        refine st246 _ ?_
        exact kt
      obtain ⟨ex3, hex3, pre251⟩ : ∃ ex3 : Int32, (ex3.toInt = if own_stop c3.toInt then (3 : Int) else (4 : Int)) ∧ ∀ t, Steps p.tables e below (T246.setTop (mkF m 96 #[.val (.int vp), .val (.int wa), .val (.int wb), .val (.int wc), .val (.int wd), .val (.int (4 : Int32)), .val (.int (0 : Int32)), .val (.int c0), .val (.int c1), .val (.int c2), .val (.int c3), .val (.ref sa), .val (.int ex3)] [])) t → Steps p.tables e below (s₁.setTop (entryFrame m #[(.int vp), (.int wa), (.int wb), (.int wc), (.int wd)] maxLocals)) t := by
        by_cases hc90_248 : r3.toInt = (0 : Int)
        · have pre249 : ∀ t, Steps p.tables e below (T246.setTop (mkF m 96 #[.val (.int vp), .val (.int wa), .val (.int wb), .val (.int wc), .val (.int wd), .val (.int (4 : Int32)), .val (.int (0 : Int32)), .val (.int c0), .val (.int c1), .val (.int c2), .val (.int c3), .val (.ref sa), .val (.int (4 : Int32))] [])) t → Steps p.tables e below (s₁.setTop (entryFrame m #[(.int vp), (.int wa), (.int wb), (.int wc), (.int wd)] maxLocals)) t := fun t kt => by
            refine pre247 _ ?_
            show Steps p.tables e below (T246.setTop (mkF m 90 #[.val (.int vp), .val (.int wa), .val (.int wb), .val (.int wc), .val (.int wd), .val (.int (4 : Int32)), .val (.int (0 : Int32)), .val (.int c0), .val (.int c1), .val (.int c2), .val (.int c3), .val (.ref sa), .val (.int (4 : Int32))] [(.int r3)])) _
            refine XS.ifYes X246.here hx rfl (pc0 := 90) (pc' := 96) rfl (hb hby at_90) rfl (own_if (own_teq (a := r3) (b := (0 : Int32)) rfl (by decide) hc90_248).1) (by decide) (by decide) ?_
            exact kt
          exact ⟨(4 : Int32), by exact (Decidable.em (own_stop c3.toInt)).elim (fun hs => by rw [if_pos hs] at hr3 ⊢; try (have : ((4 : Int32)).toInt = (4 : Int) := (by decide); omega)) (fun hs => by rw [if_neg hs] at hr3 ⊢; try (have : ((4 : Int32)).toInt = (4 : Int) := (by decide); omega)), pre249⟩
        · have pre250 : ∀ t, Steps p.tables e below (T246.setTop (mkF m 96 #[.val (.int vp), .val (.int wa), .val (.int wb), .val (.int wc), .val (.int wd), .val (.int (4 : Int32)), .val (.int (0 : Int32)), .val (.int c0), .val (.int c1), .val (.int c2), .val (.int c3), .val (.ref sa), .val (.int (3 : Int32))] [])) t → Steps p.tables e below (s₁.setTop (entryFrame m #[(.int vp), (.int wa), (.int wb), (.int wc), (.int wd)] maxLocals)) t := fun t kt => by
            refine pre247 _ ?_
            show Steps p.tables e below (T246.setTop (mkF m 90 #[.val (.int vp), .val (.int wa), .val (.int wb), .val (.int wc), .val (.int wd), .val (.int (4 : Int32)), .val (.int (0 : Int32)), .val (.int c0), .val (.int c1), .val (.int c2), .val (.int c3), .val (.ref sa), .val (.int (4 : Int32))] [(.int r3)])) _
            refine XS.ifNo X246.here hx rfl (hb hby at_90) rfl (own_if (own_feq (a := r3) (b := (0 : Int32)) rfl (by decide) hc90_248).1) ?_
            show Steps p.tables e below (T246.setTop (mkF m 93 #[.val (.int vp), .val (.int wa), .val (.int wb), .val (.int wc), .val (.int wd), .val (.int (4 : Int32)), .val (.int (0 : Int32)), .val (.int c0), .val (.int c1), .val (.int c2), .val (.int c3), .val (.ref sa), .val (.int (4 : Int32))] [])) _
            refine XS.iconst X246.here hx rfl (hb hby at_93) ?_
            refine XS.istore X246.here hx rfl (hb hby at_94) rfl (l' := #[.val (.int vp), .val (.int wa), .val (.int wb), .val (.int wc), .val (.int wd), .val (.int (4 : Int32)), .val (.int (0 : Int32)), .val (.int c0), .val (.int c1), .val (.int c2), .val (.int c3), .val (.ref sa), .val (.int (3 : Int32))]) rfl ?_
            exact kt
          exact ⟨(3 : Int32), by exact (Decidable.em (own_stop c3.toInt)).elim (fun hs => by rw [if_pos hs] at hr3 ⊢; try (have : ((3 : Int32)).toInt = (3 : Int) := (by decide); omega)) (fun hs => by rw [if_neg hs] at hr3 ⊢; try (have : ((3 : Int32)).toInt = (3 : Int) := (by decide); omega)), pre250⟩
      have hc99_252 : ¬ ((2 : Int) < (0 : Int)) := by decide
      have hc105_253 : (2 : Int) < (4 : Int) := by decide
      have pre254 : ∀ t, Steps p.tables e below (T246.setTop (mkF m 110 #[.val (.int vp), .val (.int wa), .val (.int wb), .val (.int wc), .val (.int wd), .val (.int (4 : Int32)), .val (.int (0 : Int32)), .val (.int c0), .val (.int c1), .val (.int c2), .val (.int c3), .val (.ref sa), .val (.int ex3)] [(.int c2)])) t → Steps p.tables e below (s₁.setTop (entryFrame m #[(.int vp), (.int wa), (.int wb), (.int wc), (.int wd)] maxLocals)) t := fun t kt => by
        refine pre251 _ ?_
        refine XS.iload X246.here hx rfl (hb hby at_96) rfl ?_
        refine XS.iconst X246.here hx rfl (hb hby at_98) ?_
        show Steps p.tables e below (T246.setTop (mkF m 99 #[.val (.int vp), .val (.int wa), .val (.int wb), .val (.int wc), .val (.int wd), .val (.int (4 : Int32)), .val (.int (0 : Int32)), .val (.int c0), .val (.int c1), .val (.int c2), .val (.int c3), .val (.ref sa), .val (.int ex3)] [(.int (2 : Int32)), (.int (0 : Int32))])) _
        refine XS.icmpNo X246.here hx rfl (hb hby at_99) rfl (own_flt (a := (2 : Int32)) (b := (0 : Int32)) (by decide) (by decide) hc99_252).2.2.1 ?_
        refine XS.iload X246.here hx rfl (hb hby at_102) rfl ?_
        refine XS.iconst X246.here hx rfl (hb hby at_104) ?_
        refine XS.icmpNo X246.here hx rfl (hb hby at_105) rfl (own_tlt (a := (2 : Int32)) (b := (4 : Int32)) (by decide) (by decide) hc105_253).2.2.2 ?_
        refine XS.iload X246.here hx rfl (hb hby at_108) rfl ?_
        exact kt
      obtain ⟨_, _, ⟨T255, L255, k255, n255⟩, -, X255, ⟨Lc255, hQ255, l255, y255, z255⟩, st255⟩ := Jvm.LawKit.callS X246 hx (y := (⟨"com/example/path_template_matcher/pathtemplatematcher/UriReferencePathEndPinLaw", "stop", "(C)Z"⟩ : MethodName)) hown (mvT hZ (hw _ (List.mem_of_getElem? (i := 52) rfl))) (mvT hZ (hw _ (List.mem_of_getElem? (i := 53) rfl))) (mvT hZ (hw _ (List.mem_of_getElem? (i := 3) rfl))) (mvT hZ (hw _ (List.mem_of_getElem? (i := 54) rfl))) (by decide) (backOf (W := 0) (rm11 l Z a0 hw [] c2 T236.heap n0 Zs239 ) hZ (hw _ (List.mem_of_getElem? (i := 54) rfl)) (hw _ (List.mem_of_getElem? (i := 3) rfl)) (by decide) (by decide)) (g := (mkF m 110 #[.val (.int vp), .val (.int wa), .val (.int wb), .val (.int wc), .val (.int wd), .val (.int (4 : Int32)), .val (.int (0 : Int32)), .val (.int c0), .val (.int c1), .val (.int c2), .val (.int c3), .val (.ref sa), .val (.int ex3)] [(.int c2)])) rfl (by rw [hml]; rfl) (argsL := [(.int c2)]) (rest := []) (lenOf pd_14 rfl) rfl (by show 2 * 0 + _ ≤ _; exact Nat.le_of_eq rfl) (hb hby at_110) (fun _ _ => ⟨rfl, e246, (by decide : 3 + 0 ≤ _), (by decide : 12 + 0 ≤ _)⟩)
      dsimp only [Pt.U, Pt.locs, Pt.cells, Pt.slots] at X255 l255 y255 z255 st255 hQ255
      rw [l255, y255, z255] at X255
      obtain ⟨r2, rfl, hr2, N255q, e255⟩ := hQ255
      have N255 := Fr.app N246 N255q
      have pre256 : ∀ t, Steps p.tables e below (T255.setTop (mkF m 113 #[.val (.int vp), .val (.int wa), .val (.int wb), .val (.int wc), .val (.int wd), .val (.int (4 : Int32)), .val (.int (0 : Int32)), .val (.int c0), .val (.int c1), .val (.int c2), .val (.int c3), .val (.ref sa), .val (.int ex3)] [(.int r2)])) t → Steps p.tables e below (s₁.setTop (entryFrame m #[(.int vp), (.int wa), (.int wb), (.int wc), (.int wd)] maxLocals)) t := fun t kt => by
        refine pre254 _ ?_
        refine st255 _ ?_
        exact kt
      obtain ⟨ex2, hex2, pre260⟩ : ∃ ex2 : Int32, (ex2.toInt = if own_stop c2.toInt then (2 : Int) else ex3.toInt) ∧ ∀ t, Steps p.tables e below (T255.setTop (mkF m 119 #[.val (.int vp), .val (.int wa), .val (.int wb), .val (.int wc), .val (.int wd), .val (.int (4 : Int32)), .val (.int (0 : Int32)), .val (.int c0), .val (.int c1), .val (.int c2), .val (.int c3), .val (.ref sa), .val (.int ex2)] [])) t → Steps p.tables e below (s₁.setTop (entryFrame m #[(.int vp), (.int wa), (.int wb), (.int wc), (.int wd)] maxLocals)) t := by
        by_cases hc113_257 : r2.toInt = (0 : Int)
        · have pre258 : ∀ t, Steps p.tables e below (T255.setTop (mkF m 119 #[.val (.int vp), .val (.int wa), .val (.int wb), .val (.int wc), .val (.int wd), .val (.int (4 : Int32)), .val (.int (0 : Int32)), .val (.int c0), .val (.int c1), .val (.int c2), .val (.int c3), .val (.ref sa), .val (.int ex3)] [])) t → Steps p.tables e below (s₁.setTop (entryFrame m #[(.int vp), (.int wa), (.int wb), (.int wc), (.int wd)] maxLocals)) t := fun t kt => by
            refine pre256 _ ?_
            show Steps p.tables e below (T255.setTop (mkF m 113 #[.val (.int vp), .val (.int wa), .val (.int wb), .val (.int wc), .val (.int wd), .val (.int (4 : Int32)), .val (.int (0 : Int32)), .val (.int c0), .val (.int c1), .val (.int c2), .val (.int c3), .val (.ref sa), .val (.int ex3)] [(.int r2)])) _
            refine XS.ifYes X255.here hx rfl (pc0 := 113) (pc' := 119) rfl (hb hby at_113) rfl (own_if (own_teq (a := r2) (b := (0 : Int32)) rfl (by decide) hc113_257).1) (by decide) (by decide) ?_
            exact kt
          exact ⟨ex3, by exact (Decidable.em (own_stop c2.toInt)).elim (fun hs => by rw [if_pos hs] at hr2 ⊢; try (have := rng32 ex3; omega)) (fun hs => by rw [if_neg hs] at hr2 ⊢; try (have := rng32 ex3; omega)), pre258⟩
        · have pre259 : ∀ t, Steps p.tables e below (T255.setTop (mkF m 119 #[.val (.int vp), .val (.int wa), .val (.int wb), .val (.int wc), .val (.int wd), .val (.int (4 : Int32)), .val (.int (0 : Int32)), .val (.int c0), .val (.int c1), .val (.int c2), .val (.int c3), .val (.ref sa), .val (.int (2 : Int32))] [])) t → Steps p.tables e below (s₁.setTop (entryFrame m #[(.int vp), (.int wa), (.int wb), (.int wc), (.int wd)] maxLocals)) t := fun t kt => by
            refine pre256 _ ?_
            show Steps p.tables e below (T255.setTop (mkF m 113 #[.val (.int vp), .val (.int wa), .val (.int wb), .val (.int wc), .val (.int wd), .val (.int (4 : Int32)), .val (.int (0 : Int32)), .val (.int c0), .val (.int c1), .val (.int c2), .val (.int c3), .val (.ref sa), .val (.int ex3)] [(.int r2)])) _
            refine XS.ifNo X255.here hx rfl (hb hby at_113) rfl (own_if (own_feq (a := r2) (b := (0 : Int32)) rfl (by decide) hc113_257).1) ?_
            show Steps p.tables e below (T255.setTop (mkF m 116 #[.val (.int vp), .val (.int wa), .val (.int wb), .val (.int wc), .val (.int wd), .val (.int (4 : Int32)), .val (.int (0 : Int32)), .val (.int c0), .val (.int c1), .val (.int c2), .val (.int c3), .val (.ref sa), .val (.int ex3)] [])) _
            refine XS.iconst X255.here hx rfl (hb hby at_116) ?_
            refine XS.istore X255.here hx rfl (hb hby at_117) rfl (l' := #[.val (.int vp), .val (.int wa), .val (.int wb), .val (.int wc), .val (.int wd), .val (.int (4 : Int32)), .val (.int (0 : Int32)), .val (.int c0), .val (.int c1), .val (.int c2), .val (.int c3), .val (.ref sa), .val (.int (2 : Int32))]) rfl ?_
            exact kt
          exact ⟨(2 : Int32), by exact (Decidable.em (own_stop c2.toInt)).elim (fun hs => by rw [if_pos hs] at hr2 ⊢; try (have : ((2 : Int32)).toInt = (2 : Int) := (by decide); omega)) (fun hs => by rw [if_neg hs] at hr2 ⊢; try (have : ((2 : Int32)).toInt = (2 : Int) := (by decide); omega)), pre259⟩
      have hc122_261 : ¬ ((1 : Int) < (0 : Int)) := by decide
      have hc128_262 : (1 : Int) < (4 : Int) := by decide
      have pre263 : ∀ t, Steps p.tables e below (T255.setTop (mkF m 133 #[.val (.int vp), .val (.int wa), .val (.int wb), .val (.int wc), .val (.int wd), .val (.int (4 : Int32)), .val (.int (0 : Int32)), .val (.int c0), .val (.int c1), .val (.int c2), .val (.int c3), .val (.ref sa), .val (.int ex2)] [(.int c1)])) t → Steps p.tables e below (s₁.setTop (entryFrame m #[(.int vp), (.int wa), (.int wb), (.int wc), (.int wd)] maxLocals)) t := fun t kt => by
        refine pre260 _ ?_
        refine XS.iload X255.here hx rfl (hb hby at_119) rfl ?_
        refine XS.iconst X255.here hx rfl (hb hby at_121) ?_
        show Steps p.tables e below (T255.setTop (mkF m 122 #[.val (.int vp), .val (.int wa), .val (.int wb), .val (.int wc), .val (.int wd), .val (.int (4 : Int32)), .val (.int (0 : Int32)), .val (.int c0), .val (.int c1), .val (.int c2), .val (.int c3), .val (.ref sa), .val (.int ex2)] [(.int (1 : Int32)), (.int (0 : Int32))])) _
        refine XS.icmpNo X255.here hx rfl (hb hby at_122) rfl (own_flt (a := (1 : Int32)) (b := (0 : Int32)) (by decide) (by decide) hc122_261).2.2.1 ?_
        refine XS.iload X255.here hx rfl (hb hby at_125) rfl ?_
        refine XS.iconst X255.here hx rfl (hb hby at_127) ?_
        refine XS.icmpNo X255.here hx rfl (hb hby at_128) rfl (own_tlt (a := (1 : Int32)) (b := (4 : Int32)) (by decide) (by decide) hc128_262).2.2.2 ?_
        refine XS.iload X255.here hx rfl (hb hby at_131) rfl ?_
        exact kt
      obtain ⟨_, _, ⟨T264, L264, k264, n264⟩, -, X264, ⟨Lc264, hQ264, l264, y264, z264⟩, st264⟩ := Jvm.LawKit.callS X255 hx (y := (⟨"com/example/path_template_matcher/pathtemplatematcher/UriReferencePathEndPinLaw", "stop", "(C)Z"⟩ : MethodName)) hown (mvT hZ (hw _ (List.mem_of_getElem? (i := 52) rfl))) (mvT hZ (hw _ (List.mem_of_getElem? (i := 53) rfl))) (mvT hZ (hw _ (List.mem_of_getElem? (i := 3) rfl))) (mvT hZ (hw _ (List.mem_of_getElem? (i := 54) rfl))) (by decide) (backOf (W := 0) (rm11 l Z a0 hw [] c1 T236.heap n0 Zs239 ) hZ (hw _ (List.mem_of_getElem? (i := 54) rfl)) (hw _ (List.mem_of_getElem? (i := 3) rfl)) (by decide) (by decide)) (g := (mkF m 133 #[.val (.int vp), .val (.int wa), .val (.int wb), .val (.int wc), .val (.int wd), .val (.int (4 : Int32)), .val (.int (0 : Int32)), .val (.int c0), .val (.int c1), .val (.int c2), .val (.int c3), .val (.ref sa), .val (.int ex2)] [(.int c1)])) rfl (by rw [hml]; rfl) (argsL := [(.int c1)]) (rest := []) (lenOf pd_14 rfl) rfl (by show 2 * 0 + _ ≤ _; exact Nat.le_of_eq rfl) (hb hby at_133) (fun _ _ => ⟨rfl, e255, (by decide : 3 + 0 ≤ _), (by decide : 12 + 0 ≤ _)⟩)
      dsimp only [Pt.U, Pt.locs, Pt.cells, Pt.slots] at X264 l264 y264 z264 st264 hQ264
      rw [l264, y264, z264] at X264
      obtain ⟨r1, rfl, hr1, N264q, e264⟩ := hQ264
      have N264 := Fr.app N255 N264q
      have pre265 : ∀ t, Steps p.tables e below (T264.setTop (mkF m 136 #[.val (.int vp), .val (.int wa), .val (.int wb), .val (.int wc), .val (.int wd), .val (.int (4 : Int32)), .val (.int (0 : Int32)), .val (.int c0), .val (.int c1), .val (.int c2), .val (.int c3), .val (.ref sa), .val (.int ex2)] [(.int r1)])) t → Steps p.tables e below (s₁.setTop (entryFrame m #[(.int vp), (.int wa), (.int wb), (.int wc), (.int wd)] maxLocals)) t := fun t kt => by
        refine pre263 _ ?_
        refine st264 _ ?_
        exact kt
      obtain ⟨ex1, hex1, pre269⟩ : ∃ ex1 : Int32, (ex1.toInt = if own_stop c1.toInt then (1 : Int) else ex2.toInt) ∧ ∀ t, Steps p.tables e below (T264.setTop (mkF m 142 #[.val (.int vp), .val (.int wa), .val (.int wb), .val (.int wc), .val (.int wd), .val (.int (4 : Int32)), .val (.int (0 : Int32)), .val (.int c0), .val (.int c1), .val (.int c2), .val (.int c3), .val (.ref sa), .val (.int ex1)] [])) t → Steps p.tables e below (s₁.setTop (entryFrame m #[(.int vp), (.int wa), (.int wb), (.int wc), (.int wd)] maxLocals)) t := by
        by_cases hc136_266 : r1.toInt = (0 : Int)
        · have pre267 : ∀ t, Steps p.tables e below (T264.setTop (mkF m 142 #[.val (.int vp), .val (.int wa), .val (.int wb), .val (.int wc), .val (.int wd), .val (.int (4 : Int32)), .val (.int (0 : Int32)), .val (.int c0), .val (.int c1), .val (.int c2), .val (.int c3), .val (.ref sa), .val (.int ex2)] [])) t → Steps p.tables e below (s₁.setTop (entryFrame m #[(.int vp), (.int wa), (.int wb), (.int wc), (.int wd)] maxLocals)) t := fun t kt => by
            refine pre265 _ ?_
            show Steps p.tables e below (T264.setTop (mkF m 136 #[.val (.int vp), .val (.int wa), .val (.int wb), .val (.int wc), .val (.int wd), .val (.int (4 : Int32)), .val (.int (0 : Int32)), .val (.int c0), .val (.int c1), .val (.int c2), .val (.int c3), .val (.ref sa), .val (.int ex2)] [(.int r1)])) _
            refine XS.ifYes X264.here hx rfl (pc0 := 136) (pc' := 142) rfl (hb hby at_136) rfl (own_if (own_teq (a := r1) (b := (0 : Int32)) rfl (by decide) hc136_266).1) (by decide) (by decide) ?_
            exact kt
          exact ⟨ex2, by exact (Decidable.em (own_stop c1.toInt)).elim (fun hs => by rw [if_pos hs] at hr1 ⊢; try (have := rng32 ex2; omega)) (fun hs => by rw [if_neg hs] at hr1 ⊢; try (have := rng32 ex2; omega)), pre267⟩
        · have pre268 : ∀ t, Steps p.tables e below (T264.setTop (mkF m 142 #[.val (.int vp), .val (.int wa), .val (.int wb), .val (.int wc), .val (.int wd), .val (.int (4 : Int32)), .val (.int (0 : Int32)), .val (.int c0), .val (.int c1), .val (.int c2), .val (.int c3), .val (.ref sa), .val (.int (1 : Int32))] [])) t → Steps p.tables e below (s₁.setTop (entryFrame m #[(.int vp), (.int wa), (.int wb), (.int wc), (.int wd)] maxLocals)) t := fun t kt => by
            refine pre265 _ ?_
            show Steps p.tables e below (T264.setTop (mkF m 136 #[.val (.int vp), .val (.int wa), .val (.int wb), .val (.int wc), .val (.int wd), .val (.int (4 : Int32)), .val (.int (0 : Int32)), .val (.int c0), .val (.int c1), .val (.int c2), .val (.int c3), .val (.ref sa), .val (.int ex2)] [(.int r1)])) _
            refine XS.ifNo X264.here hx rfl (hb hby at_136) rfl (own_if (own_feq (a := r1) (b := (0 : Int32)) rfl (by decide) hc136_266).1) ?_
            show Steps p.tables e below (T264.setTop (mkF m 139 #[.val (.int vp), .val (.int wa), .val (.int wb), .val (.int wc), .val (.int wd), .val (.int (4 : Int32)), .val (.int (0 : Int32)), .val (.int c0), .val (.int c1), .val (.int c2), .val (.int c3), .val (.ref sa), .val (.int ex2)] [])) _
            refine XS.iconst X264.here hx rfl (hb hby at_139) ?_
            refine XS.istore X264.here hx rfl (hb hby at_140) rfl (l' := #[.val (.int vp), .val (.int wa), .val (.int wb), .val (.int wc), .val (.int wd), .val (.int (4 : Int32)), .val (.int (0 : Int32)), .val (.int c0), .val (.int c1), .val (.int c2), .val (.int c3), .val (.ref sa), .val (.int (1 : Int32))]) rfl ?_
            exact kt
          exact ⟨(1 : Int32), by exact (Decidable.em (own_stop c1.toInt)).elim (fun hs => by rw [if_pos hs] at hr1 ⊢; try (have : ((1 : Int32)).toInt = (1 : Int) := (by decide); omega)) (fun hs => by rw [if_neg hs] at hr1 ⊢; try (have : ((1 : Int32)).toInt = (1 : Int) := (by decide); omega)), pre268⟩
      have hc144_270 : ¬ ((0 : Int) < (0 : Int)) := by decide
      have hc149_271 : (0 : Int) < (4 : Int) := by decide
      have pre272 : ∀ t, Steps p.tables e below (T264.setTop (mkF m 154 #[.val (.int vp), .val (.int wa), .val (.int wb), .val (.int wc), .val (.int wd), .val (.int (4 : Int32)), .val (.int (0 : Int32)), .val (.int c0), .val (.int c1), .val (.int c2), .val (.int c3), .val (.ref sa), .val (.int ex1)] [(.int c0)])) t → Steps p.tables e below (s₁.setTop (entryFrame m #[(.int vp), (.int wa), (.int wb), (.int wc), (.int wd)] maxLocals)) t := fun t kt => by
        refine pre269 _ ?_
        refine XS.iload X264.here hx rfl (hb hby at_142) rfl ?_
        refine XS.ifNo X264.here hx rfl (hb hby at_144) rfl (own_if (own_flt (a := (0 : Int32)) (b := (0 : Int32)) (by decide) (by decide) hc144_270).2.2.1) ?_
        show Steps p.tables e below (T264.setTop (mkF m 147 #[.val (.int vp), .val (.int wa), .val (.int wb), .val (.int wc), .val (.int wd), .val (.int (4 : Int32)), .val (.int (0 : Int32)), .val (.int c0), .val (.int c1), .val (.int c2), .val (.int c3), .val (.ref sa), .val (.int ex1)] [])) _
        refine XS.iload X264.here hx rfl (hb hby at_147) rfl ?_
        refine XS.ifNo X264.here hx rfl (hb hby at_149) rfl (own_if (own_tlt (a := (0 : Int32)) (b := (4 : Int32)) (by decide) (by decide) hc149_271).2.2.2) ?_
        refine XS.iload X264.here hx rfl (hb hby at_152) rfl ?_
        exact kt
      obtain ⟨_, _, ⟨T273, L273, k273, n273⟩, -, X273, ⟨Lc273, hQ273, l273, y273, z273⟩, st273⟩ := Jvm.LawKit.callS X264 hx (y := (⟨"com/example/path_template_matcher/pathtemplatematcher/UriReferencePathEndPinLaw", "stop", "(C)Z"⟩ : MethodName)) hown (mvT hZ (hw _ (List.mem_of_getElem? (i := 52) rfl))) (mvT hZ (hw _ (List.mem_of_getElem? (i := 53) rfl))) (mvT hZ (hw _ (List.mem_of_getElem? (i := 3) rfl))) (mvT hZ (hw _ (List.mem_of_getElem? (i := 54) rfl))) (by decide) (backOf (W := 0) (rm11 l Z a0 hw [] c0 T236.heap n0 Zs239 ) hZ (hw _ (List.mem_of_getElem? (i := 54) rfl)) (hw _ (List.mem_of_getElem? (i := 3) rfl)) (by decide) (by decide)) (g := (mkF m 154 #[.val (.int vp), .val (.int wa), .val (.int wb), .val (.int wc), .val (.int wd), .val (.int (4 : Int32)), .val (.int (0 : Int32)), .val (.int c0), .val (.int c1), .val (.int c2), .val (.int c3), .val (.ref sa), .val (.int ex1)] [(.int c0)])) rfl (by rw [hml]; rfl) (argsL := [(.int c0)]) (rest := []) (lenOf pd_14 rfl) rfl (by show 2 * 0 + _ ≤ _; exact Nat.le_of_eq rfl) (hb hby at_154) (fun _ _ => ⟨rfl, e264, (by decide : 3 + 0 ≤ _), (by decide : 12 + 0 ≤ _)⟩)
      dsimp only [Pt.U, Pt.locs, Pt.cells, Pt.slots] at X273 l273 y273 z273 st273 hQ273
      rw [l273, y273, z273] at X273
      obtain ⟨r0, rfl, hr0, N273q, e273⟩ := hQ273
      have N273 := Fr.app N264 N273q
      have pre274 : ∀ t, Steps p.tables e below (T273.setTop (mkF m 157 #[.val (.int vp), .val (.int wa), .val (.int wb), .val (.int wc), .val (.int wd), .val (.int (4 : Int32)), .val (.int (0 : Int32)), .val (.int c0), .val (.int c1), .val (.int c2), .val (.int c3), .val (.ref sa), .val (.int ex1)] [(.int r0)])) t → Steps p.tables e below (s₁.setTop (entryFrame m #[(.int vp), (.int wa), (.int wb), (.int wc), (.int wd)] maxLocals)) t := fun t kt => by
        refine pre272 _ ?_
        refine st273 _ ?_
        exact kt
      obtain ⟨ex0, hex0, pre278⟩ : ∃ ex0 : Int32, (ex0.toInt = if own_stop c0.toInt then (0 : Int) else ex1.toInt) ∧ ∀ t, Steps p.tables e below (T273.setTop (mkF m 163 #[.val (.int vp), .val (.int wa), .val (.int wb), .val (.int wc), .val (.int wd), .val (.int (4 : Int32)), .val (.int (0 : Int32)), .val (.int c0), .val (.int c1), .val (.int c2), .val (.int c3), .val (.ref sa), .val (.int ex0)] [])) t → Steps p.tables e below (s₁.setTop (entryFrame m #[(.int vp), (.int wa), (.int wb), (.int wc), (.int wd)] maxLocals)) t := by
        by_cases hc157_275 : r0.toInt = (0 : Int)
        · have pre276 : ∀ t, Steps p.tables e below (T273.setTop (mkF m 163 #[.val (.int vp), .val (.int wa), .val (.int wb), .val (.int wc), .val (.int wd), .val (.int (4 : Int32)), .val (.int (0 : Int32)), .val (.int c0), .val (.int c1), .val (.int c2), .val (.int c3), .val (.ref sa), .val (.int ex1)] [])) t → Steps p.tables e below (s₁.setTop (entryFrame m #[(.int vp), (.int wa), (.int wb), (.int wc), (.int wd)] maxLocals)) t := fun t kt => by
            refine pre274 _ ?_
            show Steps p.tables e below (T273.setTop (mkF m 157 #[.val (.int vp), .val (.int wa), .val (.int wb), .val (.int wc), .val (.int wd), .val (.int (4 : Int32)), .val (.int (0 : Int32)), .val (.int c0), .val (.int c1), .val (.int c2), .val (.int c3), .val (.ref sa), .val (.int ex1)] [(.int r0)])) _
            refine XS.ifYes X273.here hx rfl (pc0 := 157) (pc' := 163) rfl (hb hby at_157) rfl (own_if (own_teq (a := r0) (b := (0 : Int32)) rfl (by decide) hc157_275).1) (by decide) (by decide) ?_
            exact kt
          exact ⟨ex1, by exact (Decidable.em (own_stop c0.toInt)).elim (fun hs => by rw [if_pos hs] at hr0 ⊢; try (have := rng32 ex1; omega)) (fun hs => by rw [if_neg hs] at hr0 ⊢; try (have := rng32 ex1; omega)), pre276⟩
        · have pre277 : ∀ t, Steps p.tables e below (T273.setTop (mkF m 163 #[.val (.int vp), .val (.int wa), .val (.int wb), .val (.int wc), .val (.int wd), .val (.int (4 : Int32)), .val (.int (0 : Int32)), .val (.int c0), .val (.int c1), .val (.int c2), .val (.int c3), .val (.ref sa), .val (.int (0 : Int32))] [])) t → Steps p.tables e below (s₁.setTop (entryFrame m #[(.int vp), (.int wa), (.int wb), (.int wc), (.int wd)] maxLocals)) t := fun t kt => by
            refine pre274 _ ?_
            show Steps p.tables e below (T273.setTop (mkF m 157 #[.val (.int vp), .val (.int wa), .val (.int wb), .val (.int wc), .val (.int wd), .val (.int (4 : Int32)), .val (.int (0 : Int32)), .val (.int c0), .val (.int c1), .val (.int c2), .val (.int c3), .val (.ref sa), .val (.int ex1)] [(.int r0)])) _
            refine XS.ifNo X273.here hx rfl (hb hby at_157) rfl (own_if (own_feq (a := r0) (b := (0 : Int32)) rfl (by decide) hc157_275).1) ?_
            refine XS.iconst X273.here hx rfl (hb hby at_160) ?_
            refine XS.istore X273.here hx rfl (hb hby at_161) rfl (l' := #[.val (.int vp), .val (.int wa), .val (.int wb), .val (.int wc), .val (.int wd), .val (.int (4 : Int32)), .val (.int (0 : Int32)), .val (.int c0), .val (.int c1), .val (.int c2), .val (.int c3), .val (.ref sa), .val (.int (0 : Int32))]) rfl ?_
            exact kt
          exact ⟨(0 : Int32), by exact (Decidable.em (own_stop c0.toInt)).elim (fun hs => by rw [if_pos hs] at hr0 ⊢; try (have : ((0 : Int32)).toInt = (0 : Int) := (by decide); omega)) (fun hs => by rw [if_neg hs] at hr0 ⊢; try (have : ((0 : Int32)).toInt = (0 : Int) := (by decide); omega)), pre277⟩
      have pre279 : ∀ t, Steps p.tables e below (T273.setTop (mkF m 167 #[.val (.int vp), .val (.int wa), .val (.int wb), .val (.int wc), .val (.int wd), .val (.int (4 : Int32)), .val (.int (0 : Int32)), .val (.int c0), .val (.int c1), .val (.int c2), .val (.int c3), .val (.ref sa), .val (.int ex0)] [(.int (0 : Int32)), (.ref sa)])) t → Steps p.tables e below (s₁.setTop (entryFrame m #[(.int vp), (.int wa), (.int wb), (.int wc), (.int wd)] maxLocals)) t := fun t kt => by
        refine pre278 _ ?_
        refine XS.aload X273.here hx rfl (hb hby at_163) rfl rfl ?_
        refine XS.iload X273.here hx rfl (hb hby at_165) rfl ?_
        exact kt
      have os280 := (own_st_keep Os K236 ns0)
      obtain ⟨_, _, ⟨T281, L281, k281, n281⟩, -, X281, ⟨Lc281, hQ281, l281, y281, z281⟩, st281⟩ := Jvm.LawKit.callS X273 hx (y := (⟨"com/example/path_template_matcher/pathtemplatematcher/UriReference", "pathEnd", "(Ljava/lang/String;I)I"⟩ : MethodName)) hown (mvT hZ (hw _ (List.mem_of_getElem? (i := 27) rfl))) (mvT hZ (hw _ (List.mem_of_getElem? (i := 28) rfl))) (mvT hZ (hw _ (List.mem_of_getElem? (i := 29) rfl))) (mvT hZ (hw _ (List.mem_of_getElem? (i := 30) rfl))) (by decide) (backOf (W := 0) (rm_pe4_0 l Z a0 hw [] sa vcs vf ob kb bb0 bb1 bb2 bb3 c0 c1 c2 c3 T236.heap n0 Zs239 os280 Esa Fcsa Fvsa Vob qbb0 qbb1 qbb2 qbb3) hZ (hw _ (List.mem_of_getElem? (i := 30) rfl)) (hw _ (List.mem_of_getElem? (i := 29) rfl)) (by decide) (by decide)) (g := (mkF m 167 #[.val (.int vp), .val (.int wa), .val (.int wb), .val (.int wc), .val (.int wd), .val (.int (4 : Int32)), .val (.int (0 : Int32)), .val (.int c0), .val (.int c1), .val (.int c2), .val (.int c3), .val (.ref sa), .val (.int ex0)] [(.int (0 : Int32)), (.ref sa)])) rfl (by rw [hml]; rfl) (argsL := [(.ref sa), (.int (0 : Int32))]) (rest := []) (lenOf pd_13 rfl) rfl (by show 2 * 0 + _ ≤ _; exact Nat.le_of_eq rfl) (hb hby at_167) (fun _ _ => ⟨rfl, e273, (by decide : 3 + 0 ≤ _), (by decide : 12 + 0 ≤ _)⟩)
      dsimp only [Pt.U, Pt.locs, Pt.cells, Pt.slots] at X281 l281 y281 z281 st281 hQ281
      rw [l281, y281, z281] at X281
      obtain ⟨zp, rfl, hzp, N281q, e281⟩ := hQ281
      have N281 := Fr.app N273 N281q
      have hc172_282 : zp.toInt = ex0.toInt := by rw [hzp, hex0, hex1, hex2, hex3]
      obtain ⟨fs, hr, hrun, hended, hREW⟩ := X281.leaveW hS0 (by rw [e281]; exact hk238) (v := some (.int (1 : Int32))) (fun h => by rw [Bd.returns] at h; cases h)
      refine ⟨_, _, pre279 _ ?_, hrun, hended, _, _, rfl, ?_, ?_, ⟨hREW.1, hREW.2.1, hREW.2.2.1, hREW.2.2.2.mono (by decide) (by decide)⟩⟩
      · refine st281 _ ?_
        refine XS.iload X281.here hx rfl (hb hby at_170) rfl ?_
        show Steps p.tables e below (T281.setTop (mkF m 172 #[.val (.int vp), .val (.int wa), .val (.int wb), .val (.int wc), .val (.int wd), .val (.int (4 : Int32)), .val (.int (0 : Int32)), .val (.int c0), .val (.int c1), .val (.int c2), .val (.int c3), .val (.ref sa), .val (.int ex0)] [(.int ex0), (.int zp)])) _
        refine XS.icmpNo X281.here hx rfl (hb hby at_172) rfl (own_teq (a := zp) (b := ex0) rfl rfl hc172_282).2 ?_
        refine XS.iconst X281.here hx rfl (hb hby at_175) ?_
        refine XS.goto X281.here hx rfl (pc0 := 176) (pc' := 180) rfl (hb hby at_176) (by decide) (by decide) ?_
        exact retN X281 hx (t := .boolean) Bd.returns (by simp) (hb hby at_180) hr
      · show Q0 Z _ _ _ _ _ _ _ h0 n0 _ T281.heap _
        rw [e281]
        exact ⟨rfl, N281⟩
      · show CHr Z own_EL s.vm s.heap T281.vm T281.heap
        rw [hh, e281]
        exact CR237.trans (CHv.at X281 hZ hEL CR237.1)
    · have pre283 : ∀ t, Steps p.tables e below (T236.setTop (mkF m 73 #[.val (.int vp), .val (.int wa), .val (.int wb), .val (.int wc), .val (.int wd), .val (.int (4 : Int32)), .val (.int (1 : Int32)), .val (.int c0), .val (.int c1), .val (.int c2), .val (.int c3), .val (.ref sa), .val (.int (4 : Int32))] [])) t → Steps p.tables e below (s₁.setTop (entryFrame m #[(.int vp), (.int wa), (.int wb), (.int wc), (.int wd)] maxLocals)) t := pre241
      have hc76_284 : ¬ ((3 : Int) < (1 : Int)) := by decide
      have hc82_285 : (3 : Int) < (4 : Int) := by decide
      have pre286 : ∀ t, Steps p.tables e below (T236.setTop (mkF m 87 #[.val (.int vp), .val (.int wa), .val (.int wb), .val (.int wc), .val (.int wd), .val (.int (4 : Int32)), .val (.int (1 : Int32)), .val (.int c0), .val (.int c1), .val (.int c2), .val (.int c3), .val (.ref sa), .val (.int (4 : Int32))] [(.int c3)])) t → Steps p.tables e below (s₁.setTop (entryFrame m #[(.int vp), (.int wa), (.int wb), (.int wc), (.int wd)] maxLocals)) t := fun t kt => by
        refine pre283 _ ?_
        refine XS.iload X236.here hx rfl (hb hby at_73) rfl ?_
        refine XS.iconst X236.here hx rfl (hb hby at_75) ?_
        show Steps p.tables e below (T236.setTop (mkF m 76 #[.val (.int vp), .val (.int wa), .val (.int wb), .val (.int wc), .val (.int wd), .val (.int (4 : Int32)), .val (.int (1 : Int32)), .val (.int c0), .val (.int c1), .val (.int c2), .val (.int c3), .val (.ref sa), .val (.int (4 : Int32))] [(.int (3 : Int32)), (.int (1 : Int32))])) _
        refine XS.icmpNo X236.here hx rfl (hb hby at_76) rfl (own_flt (a := (3 : Int32)) (b := (1 : Int32)) (by decide) (by decide) hc76_284).2.2.1 ?_
        refine XS.iload X236.here hx rfl (hb hby at_79) rfl ?_
        refine XS.iconst X236.here hx rfl (hb hby at_81) ?_
        refine XS.icmpNo X236.here hx rfl (hb hby at_82) rfl (own_tlt (a := (3 : Int32)) (b := (4 : Int32)) (by decide) (by decide) hc82_285).2.2.2 ?_
        refine XS.iload X236.here hx rfl (hb hby at_85) rfl ?_
        exact kt
      obtain ⟨_, _, ⟨T287, L287, k287, n287⟩, -, X287, ⟨Lc287, hQ287, l287, y287, z287⟩, st287⟩ := Jvm.LawKit.callS X236 hx (y := (⟨"com/example/path_template_matcher/pathtemplatematcher/UriReferencePathEndPinLaw", "stop", "(C)Z"⟩ : MethodName)) hown (mvT hZ (hw _ (List.mem_of_getElem? (i := 52) rfl))) (mvT hZ (hw _ (List.mem_of_getElem? (i := 53) rfl))) (mvT hZ (hw _ (List.mem_of_getElem? (i := 3) rfl))) (mvT hZ (hw _ (List.mem_of_getElem? (i := 54) rfl))) (by decide) (backOf (W := 0) (rm11 l Z a0 hw [] c3 T236.heap n0 Zs239 ) hZ (hw _ (List.mem_of_getElem? (i := 54) rfl)) (hw _ (List.mem_of_getElem? (i := 3) rfl)) (by decide) (by decide)) (g := (mkF m 87 #[.val (.int vp), .val (.int wa), .val (.int wb), .val (.int wc), .val (.int wd), .val (.int (4 : Int32)), .val (.int (1 : Int32)), .val (.int c0), .val (.int c1), .val (.int c2), .val (.int c3), .val (.ref sa), .val (.int (4 : Int32))] [(.int c3)])) rfl (by rw [hml]; rfl) (argsL := [(.int c3)]) (rest := []) (lenOf pd_14 rfl) rfl (by show 2 * 0 + _ ≤ _; exact Nat.le_of_eq rfl) (hb hby at_87) (fun _ _ => ⟨rfl, rfl, (by decide : 3 + 0 ≤ _), (by decide : 12 + 0 ≤ _)⟩)
      dsimp only [Pt.U, Pt.locs, Pt.cells, Pt.slots] at X287 l287 y287 z287 st287 hQ287
      rw [l287, y287, z287] at X287
      obtain ⟨r3, rfl, hr3, N287q, e287⟩ := hQ287
      have N287 := Fr.app N236 N287q
      have pre288 : ∀ t, Steps p.tables e below (T287.setTop (mkF m 90 #[.val (.int vp), .val (.int wa), .val (.int wb), .val (.int wc), .val (.int wd), .val (.int (4 : Int32)), .val (.int (1 : Int32)), .val (.int c0), .val (.int c1), .val (.int c2), .val (.int c3), .val (.ref sa), .val (.int (4 : Int32))] [(.int r3)])) t → Steps p.tables e below (s₁.setTop (entryFrame m #[(.int vp), (.int wa), (.int wb), (.int wc), (.int wd)] maxLocals)) t := fun t kt => by
        refine pre286 _ ?_
        refine st287 _ ?_
        exact kt
      obtain ⟨ex3, hex3, pre292⟩ : ∃ ex3 : Int32, (ex3.toInt = if own_stop c3.toInt then (3 : Int) else (4 : Int)) ∧ ∀ t, Steps p.tables e below (T287.setTop (mkF m 96 #[.val (.int vp), .val (.int wa), .val (.int wb), .val (.int wc), .val (.int wd), .val (.int (4 : Int32)), .val (.int (1 : Int32)), .val (.int c0), .val (.int c1), .val (.int c2), .val (.int c3), .val (.ref sa), .val (.int ex3)] [])) t → Steps p.tables e below (s₁.setTop (entryFrame m #[(.int vp), (.int wa), (.int wb), (.int wc), (.int wd)] maxLocals)) t := by
        by_cases hc90_289 : r3.toInt = (0 : Int)
        · have pre290 : ∀ t, Steps p.tables e below (T287.setTop (mkF m 96 #[.val (.int vp), .val (.int wa), .val (.int wb), .val (.int wc), .val (.int wd), .val (.int (4 : Int32)), .val (.int (1 : Int32)), .val (.int c0), .val (.int c1), .val (.int c2), .val (.int c3), .val (.ref sa), .val (.int (4 : Int32))] [])) t → Steps p.tables e below (s₁.setTop (entryFrame m #[(.int vp), (.int wa), (.int wb), (.int wc), (.int wd)] maxLocals)) t := fun t kt => by
            refine pre288 _ ?_
            show Steps p.tables e below (T287.setTop (mkF m 90 #[.val (.int vp), .val (.int wa), .val (.int wb), .val (.int wc), .val (.int wd), .val (.int (4 : Int32)), .val (.int (1 : Int32)), .val (.int c0), .val (.int c1), .val (.int c2), .val (.int c3), .val (.ref sa), .val (.int (4 : Int32))] [(.int r3)])) _
            refine XS.ifYes X287.here hx rfl (pc0 := 90) (pc' := 96) rfl (hb hby at_90) rfl (own_if (own_teq (a := r3) (b := (0 : Int32)) rfl (by decide) hc90_289).1) (by decide) (by decide) ?_
            exact kt
          exact ⟨(4 : Int32), by exact (Decidable.em (own_stop c3.toInt)).elim (fun hs => by rw [if_pos hs] at hr3 ⊢; try (have : ((4 : Int32)).toInt = (4 : Int) := (by decide); omega)) (fun hs => by rw [if_neg hs] at hr3 ⊢; try (have : ((4 : Int32)).toInt = (4 : Int) := (by decide); omega)), pre290⟩
        · have pre291 : ∀ t, Steps p.tables e below (T287.setTop (mkF m 96 #[.val (.int vp), .val (.int wa), .val (.int wb), .val (.int wc), .val (.int wd), .val (.int (4 : Int32)), .val (.int (1 : Int32)), .val (.int c0), .val (.int c1), .val (.int c2), .val (.int c3), .val (.ref sa), .val (.int (3 : Int32))] [])) t → Steps p.tables e below (s₁.setTop (entryFrame m #[(.int vp), (.int wa), (.int wb), (.int wc), (.int wd)] maxLocals)) t := fun t kt => by
            refine pre288 _ ?_
            show Steps p.tables e below (T287.setTop (mkF m 90 #[.val (.int vp), .val (.int wa), .val (.int wb), .val (.int wc), .val (.int wd), .val (.int (4 : Int32)), .val (.int (1 : Int32)), .val (.int c0), .val (.int c1), .val (.int c2), .val (.int c3), .val (.ref sa), .val (.int (4 : Int32))] [(.int r3)])) _
            refine XS.ifNo X287.here hx rfl (hb hby at_90) rfl (own_if (own_feq (a := r3) (b := (0 : Int32)) rfl (by decide) hc90_289).1) ?_
            show Steps p.tables e below (T287.setTop (mkF m 93 #[.val (.int vp), .val (.int wa), .val (.int wb), .val (.int wc), .val (.int wd), .val (.int (4 : Int32)), .val (.int (1 : Int32)), .val (.int c0), .val (.int c1), .val (.int c2), .val (.int c3), .val (.ref sa), .val (.int (4 : Int32))] [])) _
            refine XS.iconst X287.here hx rfl (hb hby at_93) ?_
            refine XS.istore X287.here hx rfl (hb hby at_94) rfl (l' := #[.val (.int vp), .val (.int wa), .val (.int wb), .val (.int wc), .val (.int wd), .val (.int (4 : Int32)), .val (.int (1 : Int32)), .val (.int c0), .val (.int c1), .val (.int c2), .val (.int c3), .val (.ref sa), .val (.int (3 : Int32))]) rfl ?_
            exact kt
          exact ⟨(3 : Int32), by exact (Decidable.em (own_stop c3.toInt)).elim (fun hs => by rw [if_pos hs] at hr3 ⊢; try (have : ((3 : Int32)).toInt = (3 : Int) := (by decide); omega)) (fun hs => by rw [if_neg hs] at hr3 ⊢; try (have : ((3 : Int32)).toInt = (3 : Int) := (by decide); omega)), pre291⟩
      have hc99_293 : ¬ ((2 : Int) < (1 : Int)) := by decide
      have hc105_294 : (2 : Int) < (4 : Int) := by decide
      have pre295 : ∀ t, Steps p.tables e below (T287.setTop (mkF m 110 #[.val (.int vp), .val (.int wa), .val (.int wb), .val (.int wc), .val (.int wd), .val (.int (4 : Int32)), .val (.int (1 : Int32)), .val (.int c0), .val (.int c1), .val (.int c2), .val (.int c3), .val (.ref sa), .val (.int ex3)] [(.int c2)])) t → Steps p.tables e below (s₁.setTop (entryFrame m #[(.int vp), (.int wa), (.int wb), (.int wc), (.int wd)] maxLocals)) t := fun t kt => by
        refine pre292 _ ?_
        refine XS.iload X287.here hx rfl (hb hby at_96) rfl ?_
        refine XS.iconst X287.here hx rfl (hb hby at_98) ?_
        show Steps p.tables e below (T287.setTop (mkF m 99 #[.val (.int vp), .val (.int wa), .val (.int wb), .val (.int wc), .val (.int wd), .val (.int (4 : Int32)), .val (.int (1 : Int32)), .val (.int c0), .val (.int c1), .val (.int c2), .val (.int c3), .val (.ref sa), .val (.int ex3)] [(.int (2 : Int32)), (.int (1 : Int32))])) _
        refine XS.icmpNo X287.here hx rfl (hb hby at_99) rfl (own_flt (a := (2 : Int32)) (b := (1 : Int32)) (by decide) (by decide) hc99_293).2.2.1 ?_
        refine XS.iload X287.here hx rfl (hb hby at_102) rfl ?_
        refine XS.iconst X287.here hx rfl (hb hby at_104) ?_
        refine XS.icmpNo X287.here hx rfl (hb hby at_105) rfl (own_tlt (a := (2 : Int32)) (b := (4 : Int32)) (by decide) (by decide) hc105_294).2.2.2 ?_
        refine XS.iload X287.here hx rfl (hb hby at_108) rfl ?_
        exact kt
      obtain ⟨_, _, ⟨T296, L296, k296, n296⟩, -, X296, ⟨Lc296, hQ296, l296, y296, z296⟩, st296⟩ := Jvm.LawKit.callS X287 hx (y := (⟨"com/example/path_template_matcher/pathtemplatematcher/UriReferencePathEndPinLaw", "stop", "(C)Z"⟩ : MethodName)) hown (mvT hZ (hw _ (List.mem_of_getElem? (i := 52) rfl))) (mvT hZ (hw _ (List.mem_of_getElem? (i := 53) rfl))) (mvT hZ (hw _ (List.mem_of_getElem? (i := 3) rfl))) (mvT hZ (hw _ (List.mem_of_getElem? (i := 54) rfl))) (by decide) (backOf (W := 0) (rm11 l Z a0 hw [] c2 T236.heap n0 Zs239 ) hZ (hw _ (List.mem_of_getElem? (i := 54) rfl)) (hw _ (List.mem_of_getElem? (i := 3) rfl)) (by decide) (by decide)) (g := (mkF m 110 #[.val (.int vp), .val (.int wa), .val (.int wb), .val (.int wc), .val (.int wd), .val (.int (4 : Int32)), .val (.int (1 : Int32)), .val (.int c0), .val (.int c1), .val (.int c2), .val (.int c3), .val (.ref sa), .val (.int ex3)] [(.int c2)])) rfl (by rw [hml]; rfl) (argsL := [(.int c2)]) (rest := []) (lenOf pd_14 rfl) rfl (by show 2 * 0 + _ ≤ _; exact Nat.le_of_eq rfl) (hb hby at_110) (fun _ _ => ⟨rfl, e287, (by decide : 3 + 0 ≤ _), (by decide : 12 + 0 ≤ _)⟩)
      dsimp only [Pt.U, Pt.locs, Pt.cells, Pt.slots] at X296 l296 y296 z296 st296 hQ296
      rw [l296, y296, z296] at X296
      obtain ⟨r2, rfl, hr2, N296q, e296⟩ := hQ296
      have N296 := Fr.app N287 N296q
      have pre297 : ∀ t, Steps p.tables e below (T296.setTop (mkF m 113 #[.val (.int vp), .val (.int wa), .val (.int wb), .val (.int wc), .val (.int wd), .val (.int (4 : Int32)), .val (.int (1 : Int32)), .val (.int c0), .val (.int c1), .val (.int c2), .val (.int c3), .val (.ref sa), .val (.int ex3)] [(.int r2)])) t → Steps p.tables e below (s₁.setTop (entryFrame m #[(.int vp), (.int wa), (.int wb), (.int wc), (.int wd)] maxLocals)) t := fun t kt => by
        refine pre295 _ ?_
        refine st296 _ ?_
        exact kt
      obtain ⟨ex2, hex2, pre301⟩ : ∃ ex2 : Int32, (ex2.toInt = if own_stop c2.toInt then (2 : Int) else ex3.toInt) ∧ ∀ t, Steps p.tables e below (T296.setTop (mkF m 119 #[.val (.int vp), .val (.int wa), .val (.int wb), .val (.int wc), .val (.int wd), .val (.int (4 : Int32)), .val (.int (1 : Int32)), .val (.int c0), .val (.int c1), .val (.int c2), .val (.int c3), .val (.ref sa), .val (.int ex2)] [])) t → Steps p.tables e below (s₁.setTop (entryFrame m #[(.int vp), (.int wa), (.int wb), (.int wc), (.int wd)] maxLocals)) t := by
        by_cases hc113_298 : r2.toInt = (0 : Int)
        · have pre299 : ∀ t, Steps p.tables e below (T296.setTop (mkF m 119 #[.val (.int vp), .val (.int wa), .val (.int wb), .val (.int wc), .val (.int wd), .val (.int (4 : Int32)), .val (.int (1 : Int32)), .val (.int c0), .val (.int c1), .val (.int c2), .val (.int c3), .val (.ref sa), .val (.int ex3)] [])) t → Steps p.tables e below (s₁.setTop (entryFrame m #[(.int vp), (.int wa), (.int wb), (.int wc), (.int wd)] maxLocals)) t := fun t kt => by
            refine pre297 _ ?_
            show Steps p.tables e below (T296.setTop (mkF m 113 #[.val (.int vp), .val (.int wa), .val (.int wb), .val (.int wc), .val (.int wd), .val (.int (4 : Int32)), .val (.int (1 : Int32)), .val (.int c0), .val (.int c1), .val (.int c2), .val (.int c3), .val (.ref sa), .val (.int ex3)] [(.int r2)])) _
            refine XS.ifYes X296.here hx rfl (pc0 := 113) (pc' := 119) rfl (hb hby at_113) rfl (own_if (own_teq (a := r2) (b := (0 : Int32)) rfl (by decide) hc113_298).1) (by decide) (by decide) ?_
            exact kt
          exact ⟨ex3, by exact (Decidable.em (own_stop c2.toInt)).elim (fun hs => by rw [if_pos hs] at hr2 ⊢; try (have := rng32 ex3; omega)) (fun hs => by rw [if_neg hs] at hr2 ⊢; try (have := rng32 ex3; omega)), pre299⟩
        · have pre300 : ∀ t, Steps p.tables e below (T296.setTop (mkF m 119 #[.val (.int vp), .val (.int wa), .val (.int wb), .val (.int wc), .val (.int wd), .val (.int (4 : Int32)), .val (.int (1 : Int32)), .val (.int c0), .val (.int c1), .val (.int c2), .val (.int c3), .val (.ref sa), .val (.int (2 : Int32))] [])) t → Steps p.tables e below (s₁.setTop (entryFrame m #[(.int vp), (.int wa), (.int wb), (.int wc), (.int wd)] maxLocals)) t := fun t kt => by
            refine pre297 _ ?_
            show Steps p.tables e below (T296.setTop (mkF m 113 #[.val (.int vp), .val (.int wa), .val (.int wb), .val (.int wc), .val (.int wd), .val (.int (4 : Int32)), .val (.int (1 : Int32)), .val (.int c0), .val (.int c1), .val (.int c2), .val (.int c3), .val (.ref sa), .val (.int ex3)] [(.int r2)])) _
            refine XS.ifNo X296.here hx rfl (hb hby at_113) rfl (own_if (own_feq (a := r2) (b := (0 : Int32)) rfl (by decide) hc113_298).1) ?_
            show Steps p.tables e below (T296.setTop (mkF m 116 #[.val (.int vp), .val (.int wa), .val (.int wb), .val (.int wc), .val (.int wd), .val (.int (4 : Int32)), .val (.int (1 : Int32)), .val (.int c0), .val (.int c1), .val (.int c2), .val (.int c3), .val (.ref sa), .val (.int ex3)] [])) _
            refine XS.iconst X296.here hx rfl (hb hby at_116) ?_
            refine XS.istore X296.here hx rfl (hb hby at_117) rfl (l' := #[.val (.int vp), .val (.int wa), .val (.int wb), .val (.int wc), .val (.int wd), .val (.int (4 : Int32)), .val (.int (1 : Int32)), .val (.int c0), .val (.int c1), .val (.int c2), .val (.int c3), .val (.ref sa), .val (.int (2 : Int32))]) rfl ?_
            exact kt
          exact ⟨(2 : Int32), by exact (Decidable.em (own_stop c2.toInt)).elim (fun hs => by rw [if_pos hs] at hr2 ⊢; try (have : ((2 : Int32)).toInt = (2 : Int) := (by decide); omega)) (fun hs => by rw [if_neg hs] at hr2 ⊢; try (have : ((2 : Int32)).toInt = (2 : Int) := (by decide); omega)), pre300⟩
      have hc122_302 : ¬ ((1 : Int) < (1 : Int)) := by decide
      have hc128_303 : (1 : Int) < (4 : Int) := by decide
      have pre304 : ∀ t, Steps p.tables e below (T296.setTop (mkF m 133 #[.val (.int vp), .val (.int wa), .val (.int wb), .val (.int wc), .val (.int wd), .val (.int (4 : Int32)), .val (.int (1 : Int32)), .val (.int c0), .val (.int c1), .val (.int c2), .val (.int c3), .val (.ref sa), .val (.int ex2)] [(.int c1)])) t → Steps p.tables e below (s₁.setTop (entryFrame m #[(.int vp), (.int wa), (.int wb), (.int wc), (.int wd)] maxLocals)) t := fun t kt => by
        refine pre301 _ ?_
        refine XS.iload X296.here hx rfl (hb hby at_119) rfl ?_
        refine XS.iconst X296.here hx rfl (hb hby at_121) ?_
        show Steps p.tables e below (T296.setTop (mkF m 122 #[.val (.int vp), .val (.int wa), .val (.int wb), .val (.int wc), .val (.int wd), .val (.int (4 : Int32)), .val (.int (1 : Int32)), .val (.int c0), .val (.int c1), .val (.int c2), .val (.int c3), .val (.ref sa), .val (.int ex2)] [(.int (1 : Int32)), (.int (1 : Int32))])) _
        refine XS.icmpNo X296.here hx rfl (hb hby at_122) rfl (own_flt (a := (1 : Int32)) (b := (1 : Int32)) (by decide) (by decide) hc122_302).2.2.1 ?_
        refine XS.iload X296.here hx rfl (hb hby at_125) rfl ?_
        refine XS.iconst X296.here hx rfl (hb hby at_127) ?_
        refine XS.icmpNo X296.here hx rfl (hb hby at_128) rfl (own_tlt (a := (1 : Int32)) (b := (4 : Int32)) (by decide) (by decide) hc128_303).2.2.2 ?_
        refine XS.iload X296.here hx rfl (hb hby at_131) rfl ?_
        exact kt
      obtain ⟨_, _, ⟨T305, L305, k305, n305⟩, -, X305, ⟨Lc305, hQ305, l305, y305, z305⟩, st305⟩ := Jvm.LawKit.callS X296 hx (y := (⟨"com/example/path_template_matcher/pathtemplatematcher/UriReferencePathEndPinLaw", "stop", "(C)Z"⟩ : MethodName)) hown (mvT hZ (hw _ (List.mem_of_getElem? (i := 52) rfl))) (mvT hZ (hw _ (List.mem_of_getElem? (i := 53) rfl))) (mvT hZ (hw _ (List.mem_of_getElem? (i := 3) rfl))) (mvT hZ (hw _ (List.mem_of_getElem? (i := 54) rfl))) (by decide) (backOf (W := 0) (rm11 l Z a0 hw [] c1 T236.heap n0 Zs239 ) hZ (hw _ (List.mem_of_getElem? (i := 54) rfl)) (hw _ (List.mem_of_getElem? (i := 3) rfl)) (by decide) (by decide)) (g := (mkF m 133 #[.val (.int vp), .val (.int wa), .val (.int wb), .val (.int wc), .val (.int wd), .val (.int (4 : Int32)), .val (.int (1 : Int32)), .val (.int c0), .val (.int c1), .val (.int c2), .val (.int c3), .val (.ref sa), .val (.int ex2)] [(.int c1)])) rfl (by rw [hml]; rfl) (argsL := [(.int c1)]) (rest := []) (lenOf pd_14 rfl) rfl (by show 2 * 0 + _ ≤ _; exact Nat.le_of_eq rfl) (hb hby at_133) (fun _ _ => ⟨rfl, e296, (by decide : 3 + 0 ≤ _), (by decide : 12 + 0 ≤ _)⟩)
      dsimp only [Pt.U, Pt.locs, Pt.cells, Pt.slots] at X305 l305 y305 z305 st305 hQ305
      rw [l305, y305, z305] at X305
      obtain ⟨r1, rfl, hr1, N305q, e305⟩ := hQ305
      have N305 := Fr.app N296 N305q
      have pre306 : ∀ t, Steps p.tables e below (T305.setTop (mkF m 136 #[.val (.int vp), .val (.int wa), .val (.int wb), .val (.int wc), .val (.int wd), .val (.int (4 : Int32)), .val (.int (1 : Int32)), .val (.int c0), .val (.int c1), .val (.int c2), .val (.int c3), .val (.ref sa), .val (.int ex2)] [(.int r1)])) t → Steps p.tables e below (s₁.setTop (entryFrame m #[(.int vp), (.int wa), (.int wb), (.int wc), (.int wd)] maxLocals)) t := fun t kt => by
        refine pre304 _ ?_
        refine st305 _ ?_
        exact kt
      obtain ⟨ex1, hex1, pre310⟩ : ∃ ex1 : Int32, (ex1.toInt = if own_stop c1.toInt then (1 : Int) else ex2.toInt) ∧ ∀ t, Steps p.tables e below (T305.setTop (mkF m 142 #[.val (.int vp), .val (.int wa), .val (.int wb), .val (.int wc), .val (.int wd), .val (.int (4 : Int32)), .val (.int (1 : Int32)), .val (.int c0), .val (.int c1), .val (.int c2), .val (.int c3), .val (.ref sa), .val (.int ex1)] [])) t → Steps p.tables e below (s₁.setTop (entryFrame m #[(.int vp), (.int wa), (.int wb), (.int wc), (.int wd)] maxLocals)) t := by
        by_cases hc136_307 : r1.toInt = (0 : Int)
        · have pre308 : ∀ t, Steps p.tables e below (T305.setTop (mkF m 142 #[.val (.int vp), .val (.int wa), .val (.int wb), .val (.int wc), .val (.int wd), .val (.int (4 : Int32)), .val (.int (1 : Int32)), .val (.int c0), .val (.int c1), .val (.int c2), .val (.int c3), .val (.ref sa), .val (.int ex2)] [])) t → Steps p.tables e below (s₁.setTop (entryFrame m #[(.int vp), (.int wa), (.int wb), (.int wc), (.int wd)] maxLocals)) t := fun t kt => by
            refine pre306 _ ?_
            show Steps p.tables e below (T305.setTop (mkF m 136 #[.val (.int vp), .val (.int wa), .val (.int wb), .val (.int wc), .val (.int wd), .val (.int (4 : Int32)), .val (.int (1 : Int32)), .val (.int c0), .val (.int c1), .val (.int c2), .val (.int c3), .val (.ref sa), .val (.int ex2)] [(.int r1)])) _
            refine XS.ifYes X305.here hx rfl (pc0 := 136) (pc' := 142) rfl (hb hby at_136) rfl (own_if (own_teq (a := r1) (b := (0 : Int32)) rfl (by decide) hc136_307).1) (by decide) (by decide) ?_
            exact kt
          exact ⟨ex2, by exact (Decidable.em (own_stop c1.toInt)).elim (fun hs => by rw [if_pos hs] at hr1 ⊢; try (have := rng32 ex2; omega)) (fun hs => by rw [if_neg hs] at hr1 ⊢; try (have := rng32 ex2; omega)), pre308⟩
        · have pre309 : ∀ t, Steps p.tables e below (T305.setTop (mkF m 142 #[.val (.int vp), .val (.int wa), .val (.int wb), .val (.int wc), .val (.int wd), .val (.int (4 : Int32)), .val (.int (1 : Int32)), .val (.int c0), .val (.int c1), .val (.int c2), .val (.int c3), .val (.ref sa), .val (.int (1 : Int32))] [])) t → Steps p.tables e below (s₁.setTop (entryFrame m #[(.int vp), (.int wa), (.int wb), (.int wc), (.int wd)] maxLocals)) t := fun t kt => by
            refine pre306 _ ?_
            show Steps p.tables e below (T305.setTop (mkF m 136 #[.val (.int vp), .val (.int wa), .val (.int wb), .val (.int wc), .val (.int wd), .val (.int (4 : Int32)), .val (.int (1 : Int32)), .val (.int c0), .val (.int c1), .val (.int c2), .val (.int c3), .val (.ref sa), .val (.int ex2)] [(.int r1)])) _
            refine XS.ifNo X305.here hx rfl (hb hby at_136) rfl (own_if (own_feq (a := r1) (b := (0 : Int32)) rfl (by decide) hc136_307).1) ?_
            show Steps p.tables e below (T305.setTop (mkF m 139 #[.val (.int vp), .val (.int wa), .val (.int wb), .val (.int wc), .val (.int wd), .val (.int (4 : Int32)), .val (.int (1 : Int32)), .val (.int c0), .val (.int c1), .val (.int c2), .val (.int c3), .val (.ref sa), .val (.int ex2)] [])) _
            refine XS.iconst X305.here hx rfl (hb hby at_139) ?_
            refine XS.istore X305.here hx rfl (hb hby at_140) rfl (l' := #[.val (.int vp), .val (.int wa), .val (.int wb), .val (.int wc), .val (.int wd), .val (.int (4 : Int32)), .val (.int (1 : Int32)), .val (.int c0), .val (.int c1), .val (.int c2), .val (.int c3), .val (.ref sa), .val (.int (1 : Int32))]) rfl ?_
            exact kt
          exact ⟨(1 : Int32), by exact (Decidable.em (own_stop c1.toInt)).elim (fun hs => by rw [if_pos hs] at hr1 ⊢; try (have : ((1 : Int32)).toInt = (1 : Int) := (by decide); omega)) (fun hs => by rw [if_neg hs] at hr1 ⊢; try (have : ((1 : Int32)).toInt = (1 : Int) := (by decide); omega)), pre309⟩
      have hc144_311 : (0 : Int) < (1 : Int) := by decide
      have pre312 : ∀ t, Steps p.tables e below (T305.setTop (mkF m 167 #[.val (.int vp), .val (.int wa), .val (.int wb), .val (.int wc), .val (.int wd), .val (.int (4 : Int32)), .val (.int (1 : Int32)), .val (.int c0), .val (.int c1), .val (.int c2), .val (.int c3), .val (.ref sa), .val (.int ex1)] [(.int (1 : Int32)), (.ref sa)])) t → Steps p.tables e below (s₁.setTop (entryFrame m #[(.int vp), (.int wa), (.int wb), (.int wc), (.int wd)] maxLocals)) t := fun t kt => by
        refine pre310 _ ?_
        refine XS.iload X305.here hx rfl (hb hby at_142) rfl ?_
        refine XS.ifYes X305.here hx rfl (pc0 := 144) (pc' := 163) rfl (hb hby at_144) rfl (own_if (own_tlt (a := (0 : Int32)) (b := (1 : Int32)) (by decide) (by decide) hc144_311).2.2.1) (by decide) (by decide) ?_
        show Steps p.tables e below (T305.setTop (mkF m 163 #[.val (.int vp), .val (.int wa), .val (.int wb), .val (.int wc), .val (.int wd), .val (.int (4 : Int32)), .val (.int (1 : Int32)), .val (.int c0), .val (.int c1), .val (.int c2), .val (.int c3), .val (.ref sa), .val (.int ex1)] [])) _
        refine XS.aload X305.here hx rfl (hb hby at_163) rfl rfl ?_
        refine XS.iload X305.here hx rfl (hb hby at_165) rfl ?_
        exact kt
      have os313 := (own_st_keep Os K236 ns0)
      obtain ⟨_, _, ⟨T314, L314, k314, n314⟩, -, X314, ⟨Lc314, hQ314, l314, y314, z314⟩, st314⟩ := Jvm.LawKit.callS X305 hx (y := (⟨"com/example/path_template_matcher/pathtemplatematcher/UriReference", "pathEnd", "(Ljava/lang/String;I)I"⟩ : MethodName)) hown (mvT hZ (hw _ (List.mem_of_getElem? (i := 27) rfl))) (mvT hZ (hw _ (List.mem_of_getElem? (i := 28) rfl))) (mvT hZ (hw _ (List.mem_of_getElem? (i := 29) rfl))) (mvT hZ (hw _ (List.mem_of_getElem? (i := 30) rfl))) (by decide) (backOf (W := 0) (rm_pe4_1 l Z a0 hw [] sa vcs vf ob kb bb0 bb1 bb2 bb3 c0 c1 c2 c3 T236.heap n0 Zs239 os313 Esa Fcsa Fvsa Vob qbb0 qbb1 qbb2 qbb3) hZ (hw _ (List.mem_of_getElem? (i := 30) rfl)) (hw _ (List.mem_of_getElem? (i := 29) rfl)) (by decide) (by decide)) (g := (mkF m 167 #[.val (.int vp), .val (.int wa), .val (.int wb), .val (.int wc), .val (.int wd), .val (.int (4 : Int32)), .val (.int (1 : Int32)), .val (.int c0), .val (.int c1), .val (.int c2), .val (.int c3), .val (.ref sa), .val (.int ex1)] [(.int (1 : Int32)), (.ref sa)])) rfl (by rw [hml]; rfl) (argsL := [(.ref sa), (.int (1 : Int32))]) (rest := []) (lenOf pd_13 rfl) rfl (by show 2 * 0 + _ ≤ _; exact Nat.le_of_eq rfl) (hb hby at_167) (fun _ _ => ⟨rfl, e305, (by decide : 3 + 0 ≤ _), (by decide : 12 + 0 ≤ _)⟩)
      dsimp only [Pt.U, Pt.locs, Pt.cells, Pt.slots] at X314 l314 y314 z314 st314 hQ314
      rw [l314, y314, z314] at X314
      obtain ⟨zp, rfl, hzp, N314q, e314⟩ := hQ314
      have N314 := Fr.app N305 N314q
      have hc172_315 : zp.toInt = ex1.toInt := by rw [hzp, hex1, hex2, hex3]
      obtain ⟨fs, hr, hrun, hended, hREW⟩ := X314.leaveW hS0 (by rw [e314]; exact hk238) (v := some (.int (1 : Int32))) (fun h => by rw [Bd.returns] at h; cases h)
      refine ⟨_, _, pre312 _ ?_, hrun, hended, _, _, rfl, ?_, ?_, ⟨hREW.1, hREW.2.1, hREW.2.2.1, hREW.2.2.2.mono (by decide) (by decide)⟩⟩
      · refine st314 _ ?_
        refine XS.iload X314.here hx rfl (hb hby at_170) rfl ?_
        refine XS.icmpNo X314.here hx rfl (hb hby at_172) rfl (own_teq (a := zp) (b := ex1) rfl rfl hc172_315).2 ?_
        refine XS.iconst X314.here hx rfl (hb hby at_175) ?_
        refine XS.goto X314.here hx rfl (pc0 := 176) (pc' := 180) rfl (hb hby at_176) (by decide) (by decide) ?_
        exact retN X314 hx (t := .boolean) Bd.returns (by simp) (hb hby at_180) hr
      · show Q0 Z _ _ _ _ _ _ _ h0 n0 _ T314.heap _
        rw [e314]
        exact ⟨rfl, N314⟩
      · show CHr Z own_EL s.vm s.heap T314.vm T314.heap
        rw [hh, e314]
        exact CR237.trans (CHv.at X314 hZ hEL CR237.1)
    · have pre316 : ∀ t, Steps p.tables e below (T236.setTop (mkF m 73 #[.val (.int vp), .val (.int wa), .val (.int wb), .val (.int wc), .val (.int wd), .val (.int (4 : Int32)), .val (.int (2 : Int32)), .val (.int c0), .val (.int c1), .val (.int c2), .val (.int c3), .val (.ref sa), .val (.int (4 : Int32))] [])) t → Steps p.tables e below (s₁.setTop (entryFrame m #[(.int vp), (.int wa), (.int wb), (.int wc), (.int wd)] maxLocals)) t := pre241
      have hc76_317 : ¬ ((3 : Int) < (2 : Int)) := by decide
      have hc82_318 : (3 : Int) < (4 : Int) := by decide
      have pre319 : ∀ t, Steps p.tables e below (T236.setTop (mkF m 87 #[.val (.int vp), .val (.int wa), .val (.int wb), .val (.int wc), .val (.int wd), .val (.int (4 : Int32)), .val (.int (2 : Int32)), .val (.int c0), .val (.int c1), .val (.int c2), .val (.int c3), .val (.ref sa), .val (.int (4 : Int32))] [(.int c3)])) t → Steps p.tables e below (s₁.setTop (entryFrame m #[(.int vp), (.int wa), (.int wb), (.int wc), (.int wd)] maxLocals)) t := fun t kt => by
        refine pre316 _ ?_
        refine XS.iload X236.here hx rfl (hb hby at_73) rfl ?_
        refine XS.iconst X236.here hx rfl (hb hby at_75) ?_
        show Steps p.tables e below (T236.setTop (mkF m 76 #[.val (.int vp), .val (.int wa), .val (.int wb), .val (.int wc), .val (.int wd), .val (.int (4 : Int32)), .val (.int (2 : Int32)), .val (.int c0), .val (.int c1), .val (.int c2), .val (.int c3), .val (.ref sa), .val (.int (4 : Int32))] [(.int (3 : Int32)), (.int (2 : Int32))])) _
        refine XS.icmpNo X236.here hx rfl (hb hby at_76) rfl (own_flt (a := (3 : Int32)) (b := (2 : Int32)) (by decide) (by decide) hc76_317).2.2.1 ?_
        refine XS.iload X236.here hx rfl (hb hby at_79) rfl ?_
        refine XS.iconst X236.here hx rfl (hb hby at_81) ?_
        refine XS.icmpNo X236.here hx rfl (hb hby at_82) rfl (own_tlt (a := (3 : Int32)) (b := (4 : Int32)) (by decide) (by decide) hc82_318).2.2.2 ?_
        refine XS.iload X236.here hx rfl (hb hby at_85) rfl ?_
        exact kt
      obtain ⟨_, _, ⟨T320, L320, k320, n320⟩, -, X320, ⟨Lc320, hQ320, l320, y320, z320⟩, st320⟩ := Jvm.LawKit.callS X236 hx (y := (⟨"com/example/path_template_matcher/pathtemplatematcher/UriReferencePathEndPinLaw", "stop", "(C)Z"⟩ : MethodName)) hown (mvT hZ (hw _ (List.mem_of_getElem? (i := 52) rfl))) (mvT hZ (hw _ (List.mem_of_getElem? (i := 53) rfl))) (mvT hZ (hw _ (List.mem_of_getElem? (i := 3) rfl))) (mvT hZ (hw _ (List.mem_of_getElem? (i := 54) rfl))) (by decide) (backOf (W := 0) (rm11 l Z a0 hw [] c3 T236.heap n0 Zs239 ) hZ (hw _ (List.mem_of_getElem? (i := 54) rfl)) (hw _ (List.mem_of_getElem? (i := 3) rfl)) (by decide) (by decide)) (g := (mkF m 87 #[.val (.int vp), .val (.int wa), .val (.int wb), .val (.int wc), .val (.int wd), .val (.int (4 : Int32)), .val (.int (2 : Int32)), .val (.int c0), .val (.int c1), .val (.int c2), .val (.int c3), .val (.ref sa), .val (.int (4 : Int32))] [(.int c3)])) rfl (by rw [hml]; rfl) (argsL := [(.int c3)]) (rest := []) (lenOf pd_14 rfl) rfl (by show 2 * 0 + _ ≤ _; exact Nat.le_of_eq rfl) (hb hby at_87) (fun _ _ => ⟨rfl, rfl, (by decide : 3 + 0 ≤ _), (by decide : 12 + 0 ≤ _)⟩)
      dsimp only [Pt.U, Pt.locs, Pt.cells, Pt.slots] at X320 l320 y320 z320 st320 hQ320
      rw [l320, y320, z320] at X320
      obtain ⟨r3, rfl, hr3, N320q, e320⟩ := hQ320
      have N320 := Fr.app N236 N320q
      have pre321 : ∀ t, Steps p.tables e below (T320.setTop (mkF m 90 #[.val (.int vp), .val (.int wa), .val (.int wb), .val (.int wc), .val (.int wd), .val (.int (4 : Int32)), .val (.int (2 : Int32)), .val (.int c0), .val (.int c1), .val (.int c2), .val (.int c3), .val (.ref sa), .val (.int (4 : Int32))] [(.int r3)])) t → Steps p.tables e below (s₁.setTop (entryFrame m #[(.int vp), (.int wa), (.int wb), (.int wc), (.int wd)] maxLocals)) t := fun t kt => by
        refine pre319 _ ?_
        refine st320 _ ?_
        exact kt
      obtain ⟨ex3, hex3, pre325⟩ : ∃ ex3 : Int32, (ex3.toInt = if own_stop c3.toInt then (3 : Int) else (4 : Int)) ∧ ∀ t, Steps p.tables e below (T320.setTop (mkF m 96 #[.val (.int vp), .val (.int wa), .val (.int wb), .val (.int wc), .val (.int wd), .val (.int (4 : Int32)), .val (.int (2 : Int32)), .val (.int c0), .val (.int c1), .val (.int c2), .val (.int c3), .val (.ref sa), .val (.int ex3)] [])) t → Steps p.tables e below (s₁.setTop (entryFrame m #[(.int vp), (.int wa), (.int wb), (.int wc), (.int wd)] maxLocals)) t := by
        by_cases hc90_322 : r3.toInt = (0 : Int)
        · have pre323 : ∀ t, Steps p.tables e below (T320.setTop (mkF m 96 #[.val (.int vp), .val (.int wa), .val (.int wb), .val (.int wc), .val (.int wd), .val (.int (4 : Int32)), .val (.int (2 : Int32)), .val (.int c0), .val (.int c1), .val (.int c2), .val (.int c3), .val (.ref sa), .val (.int (4 : Int32))] [])) t → Steps p.tables e below (s₁.setTop (entryFrame m #[(.int vp), (.int wa), (.int wb), (.int wc), (.int wd)] maxLocals)) t := fun t kt => by
            refine pre321 _ ?_
            show Steps p.tables e below (T320.setTop (mkF m 90 #[.val (.int vp), .val (.int wa), .val (.int wb), .val (.int wc), .val (.int wd), .val (.int (4 : Int32)), .val (.int (2 : Int32)), .val (.int c0), .val (.int c1), .val (.int c2), .val (.int c3), .val (.ref sa), .val (.int (4 : Int32))] [(.int r3)])) _
            refine XS.ifYes X320.here hx rfl (pc0 := 90) (pc' := 96) rfl (hb hby at_90) rfl (own_if (own_teq (a := r3) (b := (0 : Int32)) rfl (by decide) hc90_322).1) (by decide) (by decide) ?_
            exact kt
          exact ⟨(4 : Int32), by exact (Decidable.em (own_stop c3.toInt)).elim (fun hs => by rw [if_pos hs] at hr3 ⊢; try (have : ((4 : Int32)).toInt = (4 : Int) := (by decide); omega)) (fun hs => by rw [if_neg hs] at hr3 ⊢; try (have : ((4 : Int32)).toInt = (4 : Int) := (by decide); omega)), pre323⟩
        · have pre324 : ∀ t, Steps p.tables e below (T320.setTop (mkF m 96 #[.val (.int vp), .val (.int wa), .val (.int wb), .val (.int wc), .val (.int wd), .val (.int (4 : Int32)), .val (.int (2 : Int32)), .val (.int c0), .val (.int c1), .val (.int c2), .val (.int c3), .val (.ref sa), .val (.int (3 : Int32))] [])) t → Steps p.tables e below (s₁.setTop (entryFrame m #[(.int vp), (.int wa), (.int wb), (.int wc), (.int wd)] maxLocals)) t := fun t kt => by
            refine pre321 _ ?_
            show Steps p.tables e below (T320.setTop (mkF m 90 #[.val (.int vp), .val (.int wa), .val (.int wb), .val (.int wc), .val (.int wd), .val (.int (4 : Int32)), .val (.int (2 : Int32)), .val (.int c0), .val (.int c1), .val (.int c2), .val (.int c3), .val (.ref sa), .val (.int (4 : Int32))] [(.int r3)])) _
            refine XS.ifNo X320.here hx rfl (hb hby at_90) rfl (own_if (own_feq (a := r3) (b := (0 : Int32)) rfl (by decide) hc90_322).1) ?_
            show Steps p.tables e below (T320.setTop (mkF m 93 #[.val (.int vp), .val (.int wa), .val (.int wb), .val (.int wc), .val (.int wd), .val (.int (4 : Int32)), .val (.int (2 : Int32)), .val (.int c0), .val (.int c1), .val (.int c2), .val (.int c3), .val (.ref sa), .val (.int (4 : Int32))] [])) _
            refine XS.iconst X320.here hx rfl (hb hby at_93) ?_
            refine XS.istore X320.here hx rfl (hb hby at_94) rfl (l' := #[.val (.int vp), .val (.int wa), .val (.int wb), .val (.int wc), .val (.int wd), .val (.int (4 : Int32)), .val (.int (2 : Int32)), .val (.int c0), .val (.int c1), .val (.int c2), .val (.int c3), .val (.ref sa), .val (.int (3 : Int32))]) rfl ?_
            exact kt
          exact ⟨(3 : Int32), by exact (Decidable.em (own_stop c3.toInt)).elim (fun hs => by rw [if_pos hs] at hr3 ⊢; try (have : ((3 : Int32)).toInt = (3 : Int) := (by decide); omega)) (fun hs => by rw [if_neg hs] at hr3 ⊢; try (have : ((3 : Int32)).toInt = (3 : Int) := (by decide); omega)), pre324⟩
      have hc99_326 : ¬ ((2 : Int) < (2 : Int)) := by decide
      have hc105_327 : (2 : Int) < (4 : Int) := by decide
      have pre328 : ∀ t, Steps p.tables e below (T320.setTop (mkF m 110 #[.val (.int vp), .val (.int wa), .val (.int wb), .val (.int wc), .val (.int wd), .val (.int (4 : Int32)), .val (.int (2 : Int32)), .val (.int c0), .val (.int c1), .val (.int c2), .val (.int c3), .val (.ref sa), .val (.int ex3)] [(.int c2)])) t → Steps p.tables e below (s₁.setTop (entryFrame m #[(.int vp), (.int wa), (.int wb), (.int wc), (.int wd)] maxLocals)) t := fun t kt => by
        refine pre325 _ ?_
        refine XS.iload X320.here hx rfl (hb hby at_96) rfl ?_
        refine XS.iconst X320.here hx rfl (hb hby at_98) ?_
        show Steps p.tables e below (T320.setTop (mkF m 99 #[.val (.int vp), .val (.int wa), .val (.int wb), .val (.int wc), .val (.int wd), .val (.int (4 : Int32)), .val (.int (2 : Int32)), .val (.int c0), .val (.int c1), .val (.int c2), .val (.int c3), .val (.ref sa), .val (.int ex3)] [(.int (2 : Int32)), (.int (2 : Int32))])) _
        refine XS.icmpNo X320.here hx rfl (hb hby at_99) rfl (own_flt (a := (2 : Int32)) (b := (2 : Int32)) (by decide) (by decide) hc99_326).2.2.1 ?_
        refine XS.iload X320.here hx rfl (hb hby at_102) rfl ?_
        refine XS.iconst X320.here hx rfl (hb hby at_104) ?_
        refine XS.icmpNo X320.here hx rfl (hb hby at_105) rfl (own_tlt (a := (2 : Int32)) (b := (4 : Int32)) (by decide) (by decide) hc105_327).2.2.2 ?_
        refine XS.iload X320.here hx rfl (hb hby at_108) rfl ?_
        exact kt
      obtain ⟨_, _, ⟨T329, L329, k329, n329⟩, -, X329, ⟨Lc329, hQ329, l329, y329, z329⟩, st329⟩ := Jvm.LawKit.callS X320 hx (y := (⟨"com/example/path_template_matcher/pathtemplatematcher/UriReferencePathEndPinLaw", "stop", "(C)Z"⟩ : MethodName)) hown (mvT hZ (hw _ (List.mem_of_getElem? (i := 52) rfl))) (mvT hZ (hw _ (List.mem_of_getElem? (i := 53) rfl))) (mvT hZ (hw _ (List.mem_of_getElem? (i := 3) rfl))) (mvT hZ (hw _ (List.mem_of_getElem? (i := 54) rfl))) (by decide) (backOf (W := 0) (rm11 l Z a0 hw [] c2 T236.heap n0 Zs239 ) hZ (hw _ (List.mem_of_getElem? (i := 54) rfl)) (hw _ (List.mem_of_getElem? (i := 3) rfl)) (by decide) (by decide)) (g := (mkF m 110 #[.val (.int vp), .val (.int wa), .val (.int wb), .val (.int wc), .val (.int wd), .val (.int (4 : Int32)), .val (.int (2 : Int32)), .val (.int c0), .val (.int c1), .val (.int c2), .val (.int c3), .val (.ref sa), .val (.int ex3)] [(.int c2)])) rfl (by rw [hml]; rfl) (argsL := [(.int c2)]) (rest := []) (lenOf pd_14 rfl) rfl (by show 2 * 0 + _ ≤ _; exact Nat.le_of_eq rfl) (hb hby at_110) (fun _ _ => ⟨rfl, e320, (by decide : 3 + 0 ≤ _), (by decide : 12 + 0 ≤ _)⟩)
      dsimp only [Pt.U, Pt.locs, Pt.cells, Pt.slots] at X329 l329 y329 z329 st329 hQ329
      rw [l329, y329, z329] at X329
      obtain ⟨r2, rfl, hr2, N329q, e329⟩ := hQ329
      have N329 := Fr.app N320 N329q
      have pre330 : ∀ t, Steps p.tables e below (T329.setTop (mkF m 113 #[.val (.int vp), .val (.int wa), .val (.int wb), .val (.int wc), .val (.int wd), .val (.int (4 : Int32)), .val (.int (2 : Int32)), .val (.int c0), .val (.int c1), .val (.int c2), .val (.int c3), .val (.ref sa), .val (.int ex3)] [(.int r2)])) t → Steps p.tables e below (s₁.setTop (entryFrame m #[(.int vp), (.int wa), (.int wb), (.int wc), (.int wd)] maxLocals)) t := fun t kt => by
        refine pre328 _ ?_
        refine st329 _ ?_
        exact kt
      obtain ⟨ex2, hex2, pre334⟩ : ∃ ex2 : Int32, (ex2.toInt = if own_stop c2.toInt then (2 : Int) else ex3.toInt) ∧ ∀ t, Steps p.tables e below (T329.setTop (mkF m 119 #[.val (.int vp), .val (.int wa), .val (.int wb), .val (.int wc), .val (.int wd), .val (.int (4 : Int32)), .val (.int (2 : Int32)), .val (.int c0), .val (.int c1), .val (.int c2), .val (.int c3), .val (.ref sa), .val (.int ex2)] [])) t → Steps p.tables e below (s₁.setTop (entryFrame m #[(.int vp), (.int wa), (.int wb), (.int wc), (.int wd)] maxLocals)) t := by
        by_cases hc113_331 : r2.toInt = (0 : Int)
        · have pre332 : ∀ t, Steps p.tables e below (T329.setTop (mkF m 119 #[.val (.int vp), .val (.int wa), .val (.int wb), .val (.int wc), .val (.int wd), .val (.int (4 : Int32)), .val (.int (2 : Int32)), .val (.int c0), .val (.int c1), .val (.int c2), .val (.int c3), .val (.ref sa), .val (.int ex3)] [])) t → Steps p.tables e below (s₁.setTop (entryFrame m #[(.int vp), (.int wa), (.int wb), (.int wc), (.int wd)] maxLocals)) t := fun t kt => by
            refine pre330 _ ?_
            show Steps p.tables e below (T329.setTop (mkF m 113 #[.val (.int vp), .val (.int wa), .val (.int wb), .val (.int wc), .val (.int wd), .val (.int (4 : Int32)), .val (.int (2 : Int32)), .val (.int c0), .val (.int c1), .val (.int c2), .val (.int c3), .val (.ref sa), .val (.int ex3)] [(.int r2)])) _
            refine XS.ifYes X329.here hx rfl (pc0 := 113) (pc' := 119) rfl (hb hby at_113) rfl (own_if (own_teq (a := r2) (b := (0 : Int32)) rfl (by decide) hc113_331).1) (by decide) (by decide) ?_
            exact kt
          exact ⟨ex3, by exact (Decidable.em (own_stop c2.toInt)).elim (fun hs => by rw [if_pos hs] at hr2 ⊢; try (have := rng32 ex3; omega)) (fun hs => by rw [if_neg hs] at hr2 ⊢; try (have := rng32 ex3; omega)), pre332⟩
        · have pre333 : ∀ t, Steps p.tables e below (T329.setTop (mkF m 119 #[.val (.int vp), .val (.int wa), .val (.int wb), .val (.int wc), .val (.int wd), .val (.int (4 : Int32)), .val (.int (2 : Int32)), .val (.int c0), .val (.int c1), .val (.int c2), .val (.int c3), .val (.ref sa), .val (.int (2 : Int32))] [])) t → Steps p.tables e below (s₁.setTop (entryFrame m #[(.int vp), (.int wa), (.int wb), (.int wc), (.int wd)] maxLocals)) t := fun t kt => by
            refine pre330 _ ?_
            show Steps p.tables e below (T329.setTop (mkF m 113 #[.val (.int vp), .val (.int wa), .val (.int wb), .val (.int wc), .val (.int wd), .val (.int (4 : Int32)), .val (.int (2 : Int32)), .val (.int c0), .val (.int c1), .val (.int c2), .val (.int c3), .val (.ref sa), .val (.int ex3)] [(.int r2)])) _
            refine XS.ifNo X329.here hx rfl (hb hby at_113) rfl (own_if (own_feq (a := r2) (b := (0 : Int32)) rfl (by decide) hc113_331).1) ?_
            show Steps p.tables e below (T329.setTop (mkF m 116 #[.val (.int vp), .val (.int wa), .val (.int wb), .val (.int wc), .val (.int wd), .val (.int (4 : Int32)), .val (.int (2 : Int32)), .val (.int c0), .val (.int c1), .val (.int c2), .val (.int c3), .val (.ref sa), .val (.int ex3)] [])) _
            refine XS.iconst X329.here hx rfl (hb hby at_116) ?_
            refine XS.istore X329.here hx rfl (hb hby at_117) rfl (l' := #[.val (.int vp), .val (.int wa), .val (.int wb), .val (.int wc), .val (.int wd), .val (.int (4 : Int32)), .val (.int (2 : Int32)), .val (.int c0), .val (.int c1), .val (.int c2), .val (.int c3), .val (.ref sa), .val (.int (2 : Int32))]) rfl ?_
            exact kt
          exact ⟨(2 : Int32), by exact (Decidable.em (own_stop c2.toInt)).elim (fun hs => by rw [if_pos hs] at hr2 ⊢; try (have : ((2 : Int32)).toInt = (2 : Int) := (by decide); omega)) (fun hs => by rw [if_neg hs] at hr2 ⊢; try (have : ((2 : Int32)).toInt = (2 : Int) := (by decide); omega)), pre333⟩
      have hc122_335 : (1 : Int) < (2 : Int) := by decide
      have hc144_336 : (0 : Int) < (2 : Int) := by decide
      have pre337 : ∀ t, Steps p.tables e below (T329.setTop (mkF m 167 #[.val (.int vp), .val (.int wa), .val (.int wb), .val (.int wc), .val (.int wd), .val (.int (4 : Int32)), .val (.int (2 : Int32)), .val (.int c0), .val (.int c1), .val (.int c2), .val (.int c3), .val (.ref sa), .val (.int ex2)] [(.int (2 : Int32)), (.ref sa)])) t → Steps p.tables e below (s₁.setTop (entryFrame m #[(.int vp), (.int wa), (.int wb), (.int wc), (.int wd)] maxLocals)) t := fun t kt => by
        refine pre334 _ ?_
        refine XS.iload X329.here hx rfl (hb hby at_119) rfl ?_
        refine XS.iconst X329.here hx rfl (hb hby at_121) ?_
        show Steps p.tables e below (T329.setTop (mkF m 122 #[.val (.int vp), .val (.int wa), .val (.int wb), .val (.int wc), .val (.int wd), .val (.int (4 : Int32)), .val (.int (2 : Int32)), .val (.int c0), .val (.int c1), .val (.int c2), .val (.int c3), .val (.ref sa), .val (.int ex2)] [(.int (1 : Int32)), (.int (2 : Int32))])) _
        refine XS.icmpYes X329.here hx rfl (pc0 := 122) (pc' := 142) rfl (hb hby at_122) rfl (own_tlt (a := (1 : Int32)) (b := (2 : Int32)) (by decide) (by decide) hc122_335).2.2.1 (by decide) (by decide) ?_
        refine XS.iload X329.here hx rfl (hb hby at_142) rfl ?_
        refine XS.ifYes X329.here hx rfl (pc0 := 144) (pc' := 163) rfl (hb hby at_144) rfl (own_if (own_tlt (a := (0 : Int32)) (b := (2 : Int32)) (by decide) (by decide) hc144_336).2.2.1) (by decide) (by decide) ?_
        refine XS.aload X329.here hx rfl (hb hby at_163) rfl rfl ?_
        refine XS.iload X329.here hx rfl (hb hby at_165) rfl ?_
        exact kt
      have os338 := (own_st_keep Os K236 ns0)
      obtain ⟨_, _, ⟨T339, L339, k339, n339⟩, -, X339, ⟨Lc339, hQ339, l339, y339, z339⟩, st339⟩ := Jvm.LawKit.callS X329 hx (y := (⟨"com/example/path_template_matcher/pathtemplatematcher/UriReference", "pathEnd", "(Ljava/lang/String;I)I"⟩ : MethodName)) hown (mvT hZ (hw _ (List.mem_of_getElem? (i := 27) rfl))) (mvT hZ (hw _ (List.mem_of_getElem? (i := 28) rfl))) (mvT hZ (hw _ (List.mem_of_getElem? (i := 29) rfl))) (mvT hZ (hw _ (List.mem_of_getElem? (i := 30) rfl))) (by decide) (backOf (W := 0) (rm_pe4_2 l Z a0 hw [] sa vcs vf ob kb bb0 bb1 bb2 bb3 c0 c1 c2 c3 T236.heap n0 Zs239 os338 Esa Fcsa Fvsa Vob qbb0 qbb1 qbb2 qbb3) hZ (hw _ (List.mem_of_getElem? (i := 30) rfl)) (hw _ (List.mem_of_getElem? (i := 29) rfl)) (by decide) (by decide)) (g := (mkF m 167 #[.val (.int vp), .val (.int wa), .val (.int wb), .val (.int wc), .val (.int wd), .val (.int (4 : Int32)), .val (.int (2 : Int32)), .val (.int c0), .val (.int c1), .val (.int c2), .val (.int c3), .val (.ref sa), .val (.int ex2)] [(.int (2 : Int32)), (.ref sa)])) rfl (by rw [hml]; rfl) (argsL := [(.ref sa), (.int (2 : Int32))]) (rest := []) (lenOf pd_13 rfl) rfl (by show 2 * 0 + _ ≤ _; exact Nat.le_of_eq rfl) (hb hby at_167) (fun _ _ => ⟨rfl, e329, (by decide : 3 + 0 ≤ _), (by decide : 12 + 0 ≤ _)⟩)
      dsimp only [Pt.U, Pt.locs, Pt.cells, Pt.slots] at X339 l339 y339 z339 st339 hQ339
      rw [l339, y339, z339] at X339
      obtain ⟨zp, rfl, hzp, N339q, e339⟩ := hQ339
      have N339 := Fr.app N329 N339q
      have hc172_340 : zp.toInt = ex2.toInt := by rw [hzp, hex2, hex3]
      obtain ⟨fs, hr, hrun, hended, hREW⟩ := X339.leaveW hS0 (by rw [e339]; exact hk238) (v := some (.int (1 : Int32))) (fun h => by rw [Bd.returns] at h; cases h)
      refine ⟨_, _, pre337 _ ?_, hrun, hended, _, _, rfl, ?_, ?_, ⟨hREW.1, hREW.2.1, hREW.2.2.1, hREW.2.2.2.mono (by decide) (by decide)⟩⟩
      · refine st339 _ ?_
        refine XS.iload X339.here hx rfl (hb hby at_170) rfl ?_
        refine XS.icmpNo X339.here hx rfl (hb hby at_172) rfl (own_teq (a := zp) (b := ex2) rfl rfl hc172_340).2 ?_
        show Steps p.tables e below (T339.setTop (mkF m 175 #[.val (.int vp), .val (.int wa), .val (.int wb), .val (.int wc), .val (.int wd), .val (.int (4 : Int32)), .val (.int (2 : Int32)), .val (.int c0), .val (.int c1), .val (.int c2), .val (.int c3), .val (.ref sa), .val (.int ex2)] [])) _
        refine XS.iconst X339.here hx rfl (hb hby at_175) ?_
        refine XS.goto X339.here hx rfl (pc0 := 176) (pc' := 180) rfl (hb hby at_176) (by decide) (by decide) ?_
        exact retN X339 hx (t := .boolean) Bd.returns (by simp) (hb hby at_180) hr
      · show Q0 Z _ _ _ _ _ _ _ h0 n0 _ T339.heap _
        rw [e339]
        exact ⟨rfl, N339⟩
      · show CHr Z own_EL s.vm s.heap T339.vm T339.heap
        rw [hh, e339]
        exact CR237.trans (CHv.at X339 hZ hEL CR237.1)
    · have pre341 : ∀ t, Steps p.tables e below (T236.setTop (mkF m 73 #[.val (.int vp), .val (.int wa), .val (.int wb), .val (.int wc), .val (.int wd), .val (.int (4 : Int32)), .val (.int (3 : Int32)), .val (.int c0), .val (.int c1), .val (.int c2), .val (.int c3), .val (.ref sa), .val (.int (4 : Int32))] [])) t → Steps p.tables e below (s₁.setTop (entryFrame m #[(.int vp), (.int wa), (.int wb), (.int wc), (.int wd)] maxLocals)) t := pre241
      have hc76_342 : ¬ ((3 : Int) < (3 : Int)) := by decide
      have hc82_343 : (3 : Int) < (4 : Int) := by decide
      have pre344 : ∀ t, Steps p.tables e below (T236.setTop (mkF m 87 #[.val (.int vp), .val (.int wa), .val (.int wb), .val (.int wc), .val (.int wd), .val (.int (4 : Int32)), .val (.int (3 : Int32)), .val (.int c0), .val (.int c1), .val (.int c2), .val (.int c3), .val (.ref sa), .val (.int (4 : Int32))] [(.int c3)])) t → Steps p.tables e below (s₁.setTop (entryFrame m #[(.int vp), (.int wa), (.int wb), (.int wc), (.int wd)] maxLocals)) t := fun t kt => by
        refine pre341 _ ?_
        refine XS.iload X236.here hx rfl (hb hby at_73) rfl ?_
        refine XS.iconst X236.here hx rfl (hb hby at_75) ?_
        show Steps p.tables e below (T236.setTop (mkF m 76 #[.val (.int vp), .val (.int wa), .val (.int wb), .val (.int wc), .val (.int wd), .val (.int (4 : Int32)), .val (.int (3 : Int32)), .val (.int c0), .val (.int c1), .val (.int c2), .val (.int c3), .val (.ref sa), .val (.int (4 : Int32))] [(.int (3 : Int32)), (.int (3 : Int32))])) _
        refine XS.icmpNo X236.here hx rfl (hb hby at_76) rfl (own_flt (a := (3 : Int32)) (b := (3 : Int32)) (by decide) (by decide) hc76_342).2.2.1 ?_
        refine XS.iload X236.here hx rfl (hb hby at_79) rfl ?_
        refine XS.iconst X236.here hx rfl (hb hby at_81) ?_
        refine XS.icmpNo X236.here hx rfl (hb hby at_82) rfl (own_tlt (a := (3 : Int32)) (b := (4 : Int32)) (by decide) (by decide) hc82_343).2.2.2 ?_
        refine XS.iload X236.here hx rfl (hb hby at_85) rfl ?_
        exact kt
      obtain ⟨_, _, ⟨T345, L345, k345, n345⟩, -, X345, ⟨Lc345, hQ345, l345, y345, z345⟩, st345⟩ := Jvm.LawKit.callS X236 hx (y := (⟨"com/example/path_template_matcher/pathtemplatematcher/UriReferencePathEndPinLaw", "stop", "(C)Z"⟩ : MethodName)) hown (mvT hZ (hw _ (List.mem_of_getElem? (i := 52) rfl))) (mvT hZ (hw _ (List.mem_of_getElem? (i := 53) rfl))) (mvT hZ (hw _ (List.mem_of_getElem? (i := 3) rfl))) (mvT hZ (hw _ (List.mem_of_getElem? (i := 54) rfl))) (by decide) (backOf (W := 0) (rm11 l Z a0 hw [] c3 T236.heap n0 Zs239 ) hZ (hw _ (List.mem_of_getElem? (i := 54) rfl)) (hw _ (List.mem_of_getElem? (i := 3) rfl)) (by decide) (by decide)) (g := (mkF m 87 #[.val (.int vp), .val (.int wa), .val (.int wb), .val (.int wc), .val (.int wd), .val (.int (4 : Int32)), .val (.int (3 : Int32)), .val (.int c0), .val (.int c1), .val (.int c2), .val (.int c3), .val (.ref sa), .val (.int (4 : Int32))] [(.int c3)])) rfl (by rw [hml]; rfl) (argsL := [(.int c3)]) (rest := []) (lenOf pd_14 rfl) rfl (by show 2 * 0 + _ ≤ _; exact Nat.le_of_eq rfl) (hb hby at_87) (fun _ _ => ⟨rfl, rfl, (by decide : 3 + 0 ≤ _), (by decide : 12 + 0 ≤ _)⟩)
      dsimp only [Pt.U, Pt.locs, Pt.cells, Pt.slots] at X345 l345 y345 z345 st345 hQ345
      rw [l345, y345, z345] at X345
      obtain ⟨r3, rfl, hr3, N345q, e345⟩ := hQ345
      have N345 := Fr.app N236 N345q
      have pre346 : ∀ t, Steps p.tables e below (T345.setTop (mkF m 90 #[.val (.int vp), .val (.int wa), .val (.int wb), .val (.int wc), .val (.int wd), .val (.int (4 : Int32)), .val (.int (3 : Int32)), .val (.int c0), .val (.int c1), .val (.int c2), .val (.int c3), .val (.ref sa), .val (.int (4 : Int32))] [(.int r3)])) t → Steps p.tables e below (s₁.setTop (entryFrame m #[(.int vp), (.int wa), (.int wb), (.int wc), (.int wd)] maxLocals)) t := fun t kt => by
        refine pre344 _ ?_
        refine st345 _ ?_
        exact kt
      obtain ⟨ex3, hex3, pre350⟩ : ∃ ex3 : Int32, (ex3.toInt = if own_stop c3.toInt then (3 : Int) else (4 : Int)) ∧ ∀ t, Steps p.tables e below (T345.setTop (mkF m 96 #[.val (.int vp), .val (.int wa), .val (.int wb), .val (.int wc), .val (.int wd), .val (.int (4 : Int32)), .val (.int (3 : Int32)), .val (.int c0), .val (.int c1), .val (.int c2), .val (.int c3), .val (.ref sa), .val (.int ex3)] [])) t → Steps p.tables e below (s₁.setTop (entryFrame m #[(.int vp), (.int wa), (.int wb), (.int wc), (.int wd)] maxLocals)) t := by
        by_cases hc90_347 : r3.toInt = (0 : Int)
        · have pre348 : ∀ t, Steps p.tables e below (T345.setTop (mkF m 96 #[.val (.int vp), .val (.int wa), .val (.int wb), .val (.int wc), .val (.int wd), .val (.int (4 : Int32)), .val (.int (3 : Int32)), .val (.int c0), .val (.int c1), .val (.int c2), .val (.int c3), .val (.ref sa), .val (.int (4 : Int32))] [])) t → Steps p.tables e below (s₁.setTop (entryFrame m #[(.int vp), (.int wa), (.int wb), (.int wc), (.int wd)] maxLocals)) t := fun t kt => by
            refine pre346 _ ?_
            show Steps p.tables e below (T345.setTop (mkF m 90 #[.val (.int vp), .val (.int wa), .val (.int wb), .val (.int wc), .val (.int wd), .val (.int (4 : Int32)), .val (.int (3 : Int32)), .val (.int c0), .val (.int c1), .val (.int c2), .val (.int c3), .val (.ref sa), .val (.int (4 : Int32))] [(.int r3)])) _
            refine XS.ifYes X345.here hx rfl (pc0 := 90) (pc' := 96) rfl (hb hby at_90) rfl (own_if (own_teq (a := r3) (b := (0 : Int32)) rfl (by decide) hc90_347).1) (by decide) (by decide) ?_
            exact kt
          exact ⟨(4 : Int32), by exact (Decidable.em (own_stop c3.toInt)).elim (fun hs => by rw [if_pos hs] at hr3 ⊢; try (have : ((4 : Int32)).toInt = (4 : Int) := (by decide); omega)) (fun hs => by rw [if_neg hs] at hr3 ⊢; try (have : ((4 : Int32)).toInt = (4 : Int) := (by decide); omega)), pre348⟩
        · have pre349 : ∀ t, Steps p.tables e below (T345.setTop (mkF m 96 #[.val (.int vp), .val (.int wa), .val (.int wb), .val (.int wc), .val (.int wd), .val (.int (4 : Int32)), .val (.int (3 : Int32)), .val (.int c0), .val (.int c1), .val (.int c2), .val (.int c3), .val (.ref sa), .val (.int (3 : Int32))] [])) t → Steps p.tables e below (s₁.setTop (entryFrame m #[(.int vp), (.int wa), (.int wb), (.int wc), (.int wd)] maxLocals)) t := fun t kt => by
            refine pre346 _ ?_
            show Steps p.tables e below (T345.setTop (mkF m 90 #[.val (.int vp), .val (.int wa), .val (.int wb), .val (.int wc), .val (.int wd), .val (.int (4 : Int32)), .val (.int (3 : Int32)), .val (.int c0), .val (.int c1), .val (.int c2), .val (.int c3), .val (.ref sa), .val (.int (4 : Int32))] [(.int r3)])) _
            refine XS.ifNo X345.here hx rfl (hb hby at_90) rfl (own_if (own_feq (a := r3) (b := (0 : Int32)) rfl (by decide) hc90_347).1) ?_
            show Steps p.tables e below (T345.setTop (mkF m 93 #[.val (.int vp), .val (.int wa), .val (.int wb), .val (.int wc), .val (.int wd), .val (.int (4 : Int32)), .val (.int (3 : Int32)), .val (.int c0), .val (.int c1), .val (.int c2), .val (.int c3), .val (.ref sa), .val (.int (4 : Int32))] [])) _
            refine XS.iconst X345.here hx rfl (hb hby at_93) ?_
            refine XS.istore X345.here hx rfl (hb hby at_94) rfl (l' := #[.val (.int vp), .val (.int wa), .val (.int wb), .val (.int wc), .val (.int wd), .val (.int (4 : Int32)), .val (.int (3 : Int32)), .val (.int c0), .val (.int c1), .val (.int c2), .val (.int c3), .val (.ref sa), .val (.int (3 : Int32))]) rfl ?_
            exact kt
          exact ⟨(3 : Int32), by exact (Decidable.em (own_stop c3.toInt)).elim (fun hs => by rw [if_pos hs] at hr3 ⊢; try (have : ((3 : Int32)).toInt = (3 : Int) := (by decide); omega)) (fun hs => by rw [if_neg hs] at hr3 ⊢; try (have : ((3 : Int32)).toInt = (3 : Int) := (by decide); omega)), pre349⟩
      have hc99_351 : (2 : Int) < (3 : Int) := by decide
      have hc122_352 : (1 : Int) < (3 : Int) := by decide
      have hc144_353 : (0 : Int) < (3 : Int) := by decide
      have pre354 : ∀ t, Steps p.tables e below (T345.setTop (mkF m 167 #[.val (.int vp), .val (.int wa), .val (.int wb), .val (.int wc), .val (.int wd), .val (.int (4 : Int32)), .val (.int (3 : Int32)), .val (.int c0), .val (.int c1), .val (.int c2), .val (.int c3), .val (.ref sa), .val (.int ex3)] [(.int (3 : Int32)), (.ref sa)])) t → Steps p.tables e below (s₁.setTop (entryFrame m #[(.int vp), (.int wa), (.int wb), (.int wc), (.int wd)] maxLocals)) t := fun t kt => by
        refine pre350 _ ?_
        refine XS.iload X345.here hx rfl (hb hby at_96) rfl ?_
        refine XS.iconst X345.here hx rfl (hb hby at_98) ?_
        show Steps p.tables e below (T345.setTop (mkF m 99 #[.val (.int vp), .val (.int wa), .val (.int wb), .val (.int wc), .val (.int wd), .val (.int (4 : Int32)), .val (.int (3 : Int32)), .val (.int c0), .val (.int c1), .val (.int c2), .val (.int c3), .val (.ref sa), .val (.int ex3)] [(.int (2 : Int32)), (.int (3 : Int32))])) _
        refine XS.icmpYes X345.here hx rfl (pc0 := 99) (pc' := 119) rfl (hb hby at_99) rfl (own_tlt (a := (2 : Int32)) (b := (3 : Int32)) (by decide) (by decide) hc99_351).2.2.1 (by decide) (by decide) ?_
        refine XS.iload X345.here hx rfl (hb hby at_119) rfl ?_
        refine XS.iconst X345.here hx rfl (hb hby at_121) ?_
        refine XS.icmpYes X345.here hx rfl (pc0 := 122) (pc' := 142) rfl (hb hby at_122) rfl (own_tlt (a := (1 : Int32)) (b := (3 : Int32)) (by decide) (by decide) hc122_352).2.2.1 (by decide) (by decide) ?_
        refine XS.iload X345.here hx rfl (hb hby at_142) rfl ?_
        refine XS.ifYes X345.here hx rfl (pc0 := 144) (pc' := 163) rfl (hb hby at_144) rfl (own_if (own_tlt (a := (0 : Int32)) (b := (3 : Int32)) (by decide) (by decide) hc144_353).2.2.1) (by decide) (by decide) ?_
        refine XS.aload X345.here hx rfl (hb hby at_163) rfl rfl ?_
        refine XS.iload X345.here hx rfl (hb hby at_165) rfl ?_
        show Steps p.tables e below (T345.setTop (mkF m 167 #[.val (.int vp), .val (.int wa), .val (.int wb), .val (.int wc), .val (.int wd), .val (.int (4 : Int32)), .val (.int (3 : Int32)), .val (.int c0), .val (.int c1), .val (.int c2), .val (.int c3), .val (.ref sa), .val (.int ex3)] [(.int (3 : Int32)), (.ref sa)])) _
        exact kt
      have os355 := (own_st_keep Os K236 ns0)
      obtain ⟨_, _, ⟨T356, L356, k356, n356⟩, -, X356, ⟨Lc356, hQ356, l356, y356, z356⟩, st356⟩ := Jvm.LawKit.callS X345 hx (y := (⟨"com/example/path_template_matcher/pathtemplatematcher/UriReference", "pathEnd", "(Ljava/lang/String;I)I"⟩ : MethodName)) hown (mvT hZ (hw _ (List.mem_of_getElem? (i := 27) rfl))) (mvT hZ (hw _ (List.mem_of_getElem? (i := 28) rfl))) (mvT hZ (hw _ (List.mem_of_getElem? (i := 29) rfl))) (mvT hZ (hw _ (List.mem_of_getElem? (i := 30) rfl))) (by decide) (backOf (W := 0) (rm_pe4_3 l Z a0 hw [] sa vcs vf ob kb bb0 bb1 bb2 bb3 c0 c1 c2 c3 T236.heap n0 Zs239 os355 Esa Fcsa Fvsa Vob qbb0 qbb1 qbb2 qbb3) hZ (hw _ (List.mem_of_getElem? (i := 30) rfl)) (hw _ (List.mem_of_getElem? (i := 29) rfl)) (by decide) (by decide)) (g := (mkF m 167 #[.val (.int vp), .val (.int wa), .val (.int wb), .val (.int wc), .val (.int wd), .val (.int (4 : Int32)), .val (.int (3 : Int32)), .val (.int c0), .val (.int c1), .val (.int c2), .val (.int c3), .val (.ref sa), .val (.int ex3)] [(.int (3 : Int32)), (.ref sa)])) rfl (by rw [hml]; rfl) (argsL := [(.ref sa), (.int (3 : Int32))]) (rest := []) (lenOf pd_13 rfl) rfl (by show 2 * 0 + _ ≤ _; exact Nat.le_of_eq rfl) (hb hby at_167) (fun _ _ => ⟨rfl, e345, (by decide : 3 + 0 ≤ _), (by decide : 12 + 0 ≤ _)⟩)
      dsimp only [Pt.U, Pt.locs, Pt.cells, Pt.slots] at X356 l356 y356 z356 st356 hQ356
      rw [l356, y356, z356] at X356
      obtain ⟨zp, rfl, hzp, N356q, e356⟩ := hQ356
      have N356 := Fr.app N345 N356q
      have hc172_357 : zp.toInt = ex3.toInt := by rw [hzp, hex3]
      obtain ⟨fs, hr, hrun, hended, hREW⟩ := X356.leaveW hS0 (by rw [e356]; exact hk238) (v := some (.int (1 : Int32))) (fun h => by rw [Bd.returns] at h; cases h)
      refine ⟨_, _, pre354 _ ?_, hrun, hended, _, _, rfl, ?_, ?_, ⟨hREW.1, hREW.2.1, hREW.2.2.1, hREW.2.2.2.mono (by decide) (by decide)⟩⟩
      · refine st356 _ ?_
        refine XS.iload X356.here hx rfl (hb hby at_170) rfl ?_
        refine XS.icmpNo X356.here hx rfl (hb hby at_172) rfl (own_teq (a := zp) (b := ex3) rfl rfl hc172_357).2 ?_
        refine XS.iconst X356.here hx rfl (hb hby at_175) ?_
        refine XS.goto X356.here hx rfl (pc0 := 176) (pc' := 180) rfl (hb hby at_176) (by decide) (by decide) ?_
        exact retN X356 hx (t := .boolean) Bd.returns (by simp) (hb hby at_180) hr
      · show Q0 Z _ _ _ _ _ _ _ h0 n0 _ T356.heap _
        rw [e356]
        exact ⟨rfl, N356⟩
      · show CHr Z own_EL s.vm s.heap T356.vm T356.heap
        rw [hh, e356]
        exact CR237.trans (CHv.at X356 hZ hEL CR237.1)
    · have pre358 : ∀ t, Steps p.tables e below (T236.setTop (mkF m 73 #[.val (.int vp), .val (.int wa), .val (.int wb), .val (.int wc), .val (.int wd), .val (.int (4 : Int32)), .val (.int (4 : Int32)), .val (.int c0), .val (.int c1), .val (.int c2), .val (.int c3), .val (.ref sa), .val (.int (4 : Int32))] [])) t → Steps p.tables e below (s₁.setTop (entryFrame m #[(.int vp), (.int wa), (.int wb), (.int wc), (.int wd)] maxLocals)) t := pre241
      have hc76_359 : (3 : Int) < (4 : Int) := by decide
      have hc99_360 : (2 : Int) < (4 : Int) := by decide
      have hc122_361 : (1 : Int) < (4 : Int) := by decide
      have hc144_362 : (0 : Int) < (4 : Int) := by decide
      have pre363 : ∀ t, Steps p.tables e below (T236.setTop (mkF m 167 #[.val (.int vp), .val (.int wa), .val (.int wb), .val (.int wc), .val (.int wd), .val (.int (4 : Int32)), .val (.int (4 : Int32)), .val (.int c0), .val (.int c1), .val (.int c2), .val (.int c3), .val (.ref sa), .val (.int (4 : Int32))] [(.int (4 : Int32)), (.ref sa)])) t → Steps p.tables e below (s₁.setTop (entryFrame m #[(.int vp), (.int wa), (.int wb), (.int wc), (.int wd)] maxLocals)) t := fun t kt => by
        refine pre358 _ ?_
        refine XS.iload X236.here hx rfl (hb hby at_73) rfl ?_
        refine XS.iconst X236.here hx rfl (hb hby at_75) ?_
        show Steps p.tables e below (T236.setTop (mkF m 76 #[.val (.int vp), .val (.int wa), .val (.int wb), .val (.int wc), .val (.int wd), .val (.int (4 : Int32)), .val (.int (4 : Int32)), .val (.int c0), .val (.int c1), .val (.int c2), .val (.int c3), .val (.ref sa), .val (.int (4 : Int32))] [(.int (3 : Int32)), (.int (4 : Int32))])) _
        refine XS.icmpYes X236.here hx rfl (pc0 := 76) (pc' := 96) rfl (hb hby at_76) rfl (own_tlt (a := (3 : Int32)) (b := (4 : Int32)) (by decide) (by decide) hc76_359).2.2.1 (by decide) (by decide) ?_
        refine XS.iload X236.here hx rfl (hb hby at_96) rfl ?_
        refine XS.iconst X236.here hx rfl (hb hby at_98) ?_
        refine XS.icmpYes X236.here hx rfl (pc0 := 99) (pc' := 119) rfl (hb hby at_99) rfl (own_tlt (a := (2 : Int32)) (b := (4 : Int32)) (by decide) (by decide) hc99_360).2.2.1 (by decide) (by decide) ?_
        refine XS.iload X236.here hx rfl (hb hby at_119) rfl ?_
        refine XS.iconst X236.here hx rfl (hb hby at_121) ?_
        refine XS.icmpYes X236.here hx rfl (pc0 := 122) (pc' := 142) rfl (hb hby at_122) rfl (own_tlt (a := (1 : Int32)) (b := (4 : Int32)) (by decide) (by decide) hc122_361).2.2.1 (by decide) (by decide) ?_
        refine XS.iload X236.here hx rfl (hb hby at_142) rfl ?_
        show Steps p.tables e below (T236.setTop (mkF m 144 #[.val (.int vp), .val (.int wa), .val (.int wb), .val (.int wc), .val (.int wd), .val (.int (4 : Int32)), .val (.int (4 : Int32)), .val (.int c0), .val (.int c1), .val (.int c2), .val (.int c3), .val (.ref sa), .val (.int (4 : Int32))] [(.int (4 : Int32))])) _
        refine XS.ifYes X236.here hx rfl (pc0 := 144) (pc' := 163) rfl (hb hby at_144) rfl (own_if (own_tlt (a := (0 : Int32)) (b := (4 : Int32)) (by decide) (by decide) hc144_362).2.2.1) (by decide) (by decide) ?_
        refine XS.aload X236.here hx rfl (hb hby at_163) rfl rfl ?_
        refine XS.iload X236.here hx rfl (hb hby at_165) rfl ?_
        exact kt
      have os364 := (own_st_keep Os K236 ns0)
      obtain ⟨_, _, ⟨T365, L365, k365, n365⟩, -, X365, ⟨Lc365, hQ365, l365, y365, z365⟩, st365⟩ := Jvm.LawKit.callS X236 hx (y := (⟨"com/example/path_template_matcher/pathtemplatematcher/UriReference", "pathEnd", "(Ljava/lang/String;I)I"⟩ : MethodName)) hown (mvT hZ (hw _ (List.mem_of_getElem? (i := 27) rfl))) (mvT hZ (hw _ (List.mem_of_getElem? (i := 28) rfl))) (mvT hZ (hw _ (List.mem_of_getElem? (i := 29) rfl))) (mvT hZ (hw _ (List.mem_of_getElem? (i := 30) rfl))) (by decide) (backOf (W := 0) (rm_pe4_4 l Z a0 hw [] sa vcs vf ob kb bb0 bb1 bb2 bb3 c0 c1 c2 c3 T236.heap n0 Zs239 os364 Esa Fcsa Fvsa Vob qbb0 qbb1 qbb2 qbb3) hZ (hw _ (List.mem_of_getElem? (i := 30) rfl)) (hw _ (List.mem_of_getElem? (i := 29) rfl)) (by decide) (by decide)) (g := (mkF m 167 #[.val (.int vp), .val (.int wa), .val (.int wb), .val (.int wc), .val (.int wd), .val (.int (4 : Int32)), .val (.int (4 : Int32)), .val (.int c0), .val (.int c1), .val (.int c2), .val (.int c3), .val (.ref sa), .val (.int (4 : Int32))] [(.int (4 : Int32)), (.ref sa)])) rfl (by rw [hml]; rfl) (argsL := [(.ref sa), (.int (4 : Int32))]) (rest := []) (lenOf pd_13 rfl) rfl (by show 2 * 0 + _ ≤ _; exact Nat.le_of_eq rfl) (hb hby at_167) (fun _ _ => ⟨rfl, rfl, (by decide : 3 + 0 ≤ _), (by decide : 12 + 0 ≤ _)⟩)
      dsimp only [Pt.U, Pt.locs, Pt.cells, Pt.slots] at X365 l365 y365 z365 st365 hQ365
      rw [l365, y365, z365] at X365
      obtain ⟨zp, rfl, hzp, N365q, e365⟩ := hQ365
      have N365 := Fr.app N236 N365q
      have hc172_366 : zp.toInt = (4 : Int) := by rw [hzp]
      obtain ⟨fs, hr, hrun, hended, hREW⟩ := X365.leaveW hS0 (by rw [e365]; exact hk238) (v := some (.int (1 : Int32))) (fun h => by rw [Bd.returns] at h; cases h)
      refine ⟨_, _, pre363 _ ?_, hrun, hended, _, _, rfl, ?_, ?_, ⟨hREW.1, hREW.2.1, hREW.2.2.1, hREW.2.2.2.mono (by decide) (by decide)⟩⟩
      · refine st365 _ ?_
        refine XS.iload X365.here hx rfl (hb hby at_170) rfl ?_
        refine XS.icmpNo X365.here hx rfl (hb hby at_172) rfl (own_teq (a := zp) (b := (4 : Int32)) rfl (by decide) hc172_366).2 ?_
        refine XS.iconst X365.here hx rfl (hb hby at_175) ?_
        refine XS.goto X365.here hx rfl (pc0 := 176) (pc' := 180) rfl (hb hby at_176) (by decide) (by decide) ?_
        show Steps p.tables e below (T365.setTop (mkF m 180 #[.val (.int vp), .val (.int wa), .val (.int wb), .val (.int wc), .val (.int wd), .val (.int (4 : Int32)), .val (.int (4 : Int32)), .val (.int c0), .val (.int c1), .val (.int c2), .val (.int c3), .val (.ref sa), .val (.int (4 : Int32))] [(.int (1 : Int32))])) _
        exact retN X365 hx (t := .boolean) Bd.returns (by simp) (hb hby at_180) hr
      · show Q0 Z _ _ _ _ _ _ _ h0 n0 _ T365.heap _
        rw [e365]
        exact ⟨rfl, N365⟩
      · show CHr Z own_EL s.vm s.heap T365.vm T365.heap
        rw [hh, e365]
        exact CR237.trans (CHv.at X365 hZ hEL CR237.1)
theorem own_st0 {s : State} {a0 : Array Value} (hsets : ∀ d ∈ jdkStatics_1, d.before a0 s = true) : ∃ (vcs : Int32) (vf : Value), own_st s s.heap vcs vf := by
  obtain ⟨vcs, ec⟩ := is_v (Cond.before_iff.mp (hsets _ (List.mem_of_getElem? (i := 1) rfl)))
  obtain ⟨vf, ef, hf⟩ := isR_v (Cond.before_iff.mp (hsets _ (List.mem_of_getElem? (i := 8) rfl)))
  have nz : ¬ vcs.toInt = 0 := fun q => by
    have h1 := not_v (Cond.before_iff.mp (hsets _ (List.mem_of_getElem? (i := 2) rfl)))
    have h2 : vcs = 0 := Int32.toInt_inj.mp (by rw [q]; decide)
    subst h2
    have h3 := eq_i ec (Term.int_eval (0 : Int32)) rfl
    rw [h3] at h1; cases h1
  exact ⟨vcs, vf, Sta.start ec (Or.inl (hsets _ (List.mem_of_getElem? (i := 0) rfl))), nz, Sta.start ef (Or.inl (hsets _ (List.mem_of_getElem? (i := 7) rfl))), hf⟩
set_option maxRecDepth 65536 in
set_option maxHeartbeats 40000000 in
theorem comes_1 {Post : Tables → Env → Array Value → State → Outcome → State → Prop} (hpost : ∀ tb e args s v u, (limb_1_1.after args s (.returned v) u = true ∧ limb_1_2.after args s (.returned v) u = true ∧ True) → ReturnedEndW s (.returned v) u (Jvm.fieldLocs frame_1_writes args s ++ Jvm.arrayLocs frame_1_arrays args s ++ Jvm.staticLocs frame_1_statics s) 16 1152 → Post tb e args s (.returned v) u) :
    ArmFor flags0 classFile x code maxLocals ret World_1 tables_1 room_1 Calls_1 rest_1 Pre_1 Post := by
  intro l hfl _ _ p e ha hc hk s m args below hf hA hF happ hP
  obtain ⟨hcalls, hrest, hpre⟩ := hP
  obtain ⟨-, -, -, hnamed, -, -, -, hat⟩ := (Spec.applies_iff hf).mp happ
  obtain ⟨hg, hn⟩ := and_e (Cond.before_iff.mp (show (Jvm.Cond.and given_1 narrow_1).before args s = true from hpre))
  obtain ⟨g0, gr0⟩ := and_e hg
  obtain ⟨ga0, gr1⟩ := and_e gr0
  obtain ⟨ga1, gr2⟩ := and_e gr1
  obtain ⟨ga2, gr3⟩ := and_e gr2
  obtain ⟨ga3, gr4⟩ := and_e gr3
  obtain ⟨w0, w1, w2, w3, w4, rfl⟩ : ∃ w0 w1 w2 w3 w4 : Value, args = #[w0, w1, w2, w3, w4] := by
    have hs : args.size = 5 := by simpa [Cond.value, given_1] using g0
    obtain ⟨L⟩ := args
    match L, hs with
    | [w0, w1, w2, w3, w4], _ => exact ⟨w0, w1, w2, w3, w4, rfl⟩
  have hw := fun d (hd : d ∈ tables_1) => atoms_spec (ws := Jvm.Cond.code x code maxLocals ret :: tables_1) hat d (List.mem_cons_of_mem _ hd)
  have hfit : Fit s := fun {y c} hc i hi => by
    obtain ⟨ha, rfl⟩ := Array.getElem?_eq_some_iff.mp hc
    have q := List.all_eq_true.mp ((Array.all_eq_true_iff_forall_mem.mp hF) _ (Array.getElem_mem ha)) i (List.mem_range.mpr hi)
    simpa [Array.getElem?_eq_getElem hi] using q
  obtain ⟨hsets, hown0⟩ := atoms_of _ (rest_1_c_eq ▸ (show rest_1_c.before _ s = true from hrest))
  have hr0 := Cond.before_iff.mp hown0
  obtain ⟨i0, ei0⟩ := is_v ga0
  obtain rfl : w0 = (.int i0) := Option.some.inj ei0
  obtain ⟨i1, ei1⟩ := is_v ga1
  obtain rfl : w1 = (.int i1) := Option.some.inj ei1
  obtain ⟨i2, ei2⟩ := is_v ga2
  obtain rfl : w2 = (.int i2) := Option.some.inj ei2
  obtain ⟨i3, ei3⟩ := is_v ga3
  obtain rfl : w3 = (.int i3) := Option.some.inj ei3
  obtain ⟨i4, ei4⟩ := is_v gr4
  obtain rfl : w4 = (.int i4) := Option.some.inj ei4
  obtain ⟨vcs, vf, Os⟩ := own_st0 hsets
  have hCH : CHv s own_EL s.vm s.heap := CHv.start (own_EW hw) (fun q hq => hcalls.1 q hq) (hsets _ (List.mem_of_getElem? (i := 2) rfl)) (own_wS hw _ (by simp [Bundle.stringAtoms])) (own_wS hw _ (by simp [Bundle.stringAtoms, Bundle.sN]))
  obtain ⟨n, o, h1, h2, h3, v0, L, rfl, hQ, -, hq⟩ := rm0 l s _ hw tables_1 i0 i1 i2 i3 i4 vcs vf s.heap s.heap.size (Nat.le_refl _) Os  p e ha hc hk s m _ below hf ((Spec.applies_iff_loose hf).mp happ).1 ⟨rfl, State.Warmed39.refl s, rfl, hCH⟩ trivial
  obtain ⟨rfl, N⟩ : v0 = some (.int (1 : Int32)) ∧ Fr s.heap.size L := hQ
  refine ⟨n, _, h1, h2, h3, hpost _ _ _ _ _ _ ⟨Cond.after_iff.mpr rfl, Cond.after_iff.mpr (eq_i res_at (Term.int_eval (1)) rfl), trivial⟩ ⟨hq.1, hq.2.1, hq.2.2.1, (hq.2.2.2.sift fun y hy => Or.inr (N y hy)).mono (by decide) (by decide)⟩⟩
theorem main_1_1 : Claimed_1_1 := comes_1 fun _ _ _ _ _ _ h hF => ⟨h.1, hF⟩
theorem main_1_2 : Claimed_1_2 := comes_1 fun _ _ _ _ _ _ h hF => ⟨h.2.1, hF⟩
end Jvm.Pilot.@@N@@
namespace Jvm.Pilot.@@N@@
open Jvm Jvm.ClassFile Sem Op Lib Jvm.Free Jvm.Stand Jvm.Pilot.@@N@@.Jvm.D
/-! MADE BY PROGRAM (witnessworld.py) out of the Statement's table words and the real class files: 20 classes; the members and pool entries that the words name. The judged class is class 1, her method 3. -/
namespace start1
open Jvm.ClassFile
def u (s : String) : CpInfo := .utf8 (stringToUtf16 s)
/-- a pool by its gaps: so many unusable entries, then the entry; so many at the end -/
def gap : Nat → List CpInfo → List CpInfo
  | 0, r => r
  | n + 1, r => .unusable :: gap n r
def poolList (es : List (Nat × CpInfo)) (last : Nat) : List CpInfo := es.foldr (fun e r => gap e.1 (e.2 :: r)) (gap last [])
def pool (es : List (Nat × CpInfo)) (last : Nat) : Array CpInfo := ⟨poolList es last⟩
def fileOf (pool : Array CpInfo) (this : Nat) (attrs : Array Attribute := #[]) (ms : Array MethodInfo := #[]) (fl : Nat := 33) (sup : Nat := 0) (ifs : Array Nat := #[]) (fds : Array FieldInfo := #[]) : ClassFile where
  minorVersion := 0
  majorVersion := 65
  constantPool := pool
  accessFlags := fl
  thisClass := this
  superClass := sup
  interfaces := ifs
  fields := fds
  methods := ms
  attributes := attrs
def plain (name : String) (sup : Option ClassId) : Class where
  name := name
  kind := .ordinary
  loader := none
  accessFlags := 33
  super := sup
  interfaces := #[]
  cf := none
  fields := #[]
  methods := #[]
  instanceTypes := #[]
  staticTypes := #[]
  resolved := #[]
  callSites := []
  init := .initialized
  statics := none
  mirror := none

def pool0 : Array CpInfo := pool [(5, u "<init>"), (0, u "()V"), (1, .class_ 10), (1, u "java/lang/Object")] 113

def k0c0 : Code := { maxStack := 0, maxLocals := 1, code := object_method_1_code, exceptionTable := #[], attributes := #[] }
def k0m0 : Method := { name := "<init>", desc := "()V", sig := { parameters := [], returnType := none }, accessFlags := 1, code := some k0c0 }
/-- java/lang/Object -/
def k0 : Class := { plain "java/lang/Object" none with
  accessFlags := 33
  interfaces := #[]
  cf := some (fileOf pool0 8 #[] #[{ accessFlags := 1, nameIndex := 5, descriptorIndex := 6, attributes := #[] }] 33 0 #[] #[])
  fields := #[]
  methods := #[k0m0]
  instanceTypes := #[]
  staticTypes := #[]
  resolved := Array.replicate 124 none
  statics := none }

def pool1 : Array CpInfo := pool [(2, .class_ 4), (1, u "java/lang/Object"), (0, u "<init>"), (0, u "()V"), (0, .class_ 8), (0, u "java/lang/String"), (0, .methodref 7 10), (0, .nameAndType 5 11), (0, u "([C)V"), (0, .integer 65535), (0, .methodref 14 15), (0, .class_ 16), (0, .nameAndType 17 18), (0, u "com/example/path_template_matcher/pathtemplatematcher/UriReferencePathEndPinLaw"), (0, u "mk"), (0, u "(ICCCC)Ljava/lang/String;"), (0, .methodref 14 20), (0, .nameAndType 21 22), (0, u "stop"), (0, u "(C)Z"), (0, .methodref 24 25), (0, .class_ 26), (0, .nameAndType 27 28), (0, u "com/example/path_template_matcher/pathtemplatematcher/UriReference"), (0, u "pathEnd"), (0, u "(Ljava/lang/String;I)I"), (3, u "law"), (0, u "(IIIII)Z")] 2

def k1m0 : Method := { name := "<init>", desc := "()V", sig := { parameters := [], returnType := none }, accessFlags := 2, code := none }
def k1c1 : Code := { maxStack := 2, maxLocals := 1, code := method_2_code, exceptionTable := #[], attributes := #[] }
def k1m1 : Method := { name := "stop", desc := "(C)Z", sig := { parameters := [.char], returnType := some .boolean }, accessFlags := 10, code := some k1c1 }
def k1c2 : Code := { maxStack := 6, maxLocals := 5, code := method_3_code, exceptionTable := #[], attributes := #[] }
def k1m2 : Method := { name := "mk", desc := "(ICCCC)Ljava/lang/String;", sig := { parameters := [.int, .char, .char, .char, .char], returnType := some (.object "java/lang/String") }, accessFlags := 10, code := some k1c2 }
def k1c3 : Code := { maxStack := 5, maxLocals := 13, code := code, exceptionTable := #[], attributes := #[] }
def k1m3 : Method := { name := "law", desc := "(IIIII)Z", sig := { parameters := [.int, .int, .int, .int, .int], returnType := some .boolean }, accessFlags := 9, code := some k1c3 }
/-- com/example/path_template_matcher/pathtemplatematcher/UriReferencePathEndPinLaw -/
def k1 : Class := { plain "com/example/path_template_matcher/pathtemplatematcher/UriReferencePathEndPinLaw" (some 0) with
  accessFlags := 49
  interfaces := #[]
  cf := some (fileOf pool1 14 #[] #[{ accessFlags := 2, nameIndex := 5, descriptorIndex := 6, attributes := #[] }, { accessFlags := 10, nameIndex := 21, descriptorIndex := 22, attributes := #[] }, { accessFlags := 10, nameIndex := 17, descriptorIndex := 18, attributes := #[] }, { accessFlags := 9, nameIndex := 32, descriptorIndex := 33, attributes := #[] }] 49 2 #[] #[])
  fields := #[]
  methods := #[k1m0, k1m1, k1m2, k1m3]
  instanceTypes := #[]
  staticTypes := #[]
  resolved := Array.replicate 36 none
  statics := none }

def pool2 : Array CpInfo := pool [(1, .class_ 2), (0, u "java/io/Serializable"), (0, .class_ 4), (0, u "java/lang/Object")] 2

/-- java/io/Serializable -/
def k2 : Class := { plain "java/io/Serializable" (some 0) with
  accessFlags := 1537
  interfaces := #[]
  cf := some (fileOf pool2 1 #[] #[] 1537 3 #[] #[])
  fields := #[]
  methods := #[]
  instanceTypes := #[]
  staticTypes := #[]
  resolved := Array.replicate 7 none
  statics := none }

def pool3 : Array CpInfo := pool [(1, .class_ 2), (0, u "java/lang/Comparable"), (0, .class_ 4), (0, u "java/lang/Object")] 7

/-- java/lang/Comparable -/
def k3 : Class := { plain "java/lang/Comparable" (some 0) with
  accessFlags := 1537
  interfaces := #[]
  cf := some (fileOf pool3 1 #[] #[] 1537 3 #[] #[])
  fields := #[]
  methods := #[]
  instanceTypes := #[]
  staticTypes := #[]
  resolved := Array.replicate 12 none
  statics := none }

def pool4 : Array CpInfo := pool [(2, .class_ 4), (1, u "java/lang/CharSequence"), (42, .class_ 48), (0, u "java/lang/CharSequence$1CodePointIterator"), (10, .class_ 60), (0, u "java/lang/CharSequence$1CharIterator"), (5, .class_ 67), (0, u "java/lang/Object")] 63

/-- java/lang/CharSequence -/
def k4 : Class := { plain "java/lang/CharSequence" (some 0) with
  accessFlags := 1537
  interfaces := #[]
  cf := some (fileOf pool4 2 #[.nestMembers #[47, 59]] #[] 1537 66 #[] #[])
  fields := #[]
  methods := #[]
  instanceTypes := #[]
  staticTypes := #[]
  resolved := Array.replicate 131 none
  statics := none }

def pool5 : Array CpInfo := pool [(1, .class_ 2), (0, u "java/lang/constant/Constable"), (0, .class_ 4), (0, u "java/lang/Object")] 6

/-- java/lang/constant/Constable -/
def k5 : Class := { plain "java/lang/constant/Constable" (some 0) with
  accessFlags := 1537
  interfaces := #[]
  cf := some (fileOf pool5 1 #[] #[] 1537 3 #[] #[])
  fields := #[]
  methods := #[]
  instanceTypes := #[]
  staticTypes := #[]
  resolved := Array.replicate 11 none
  statics := none }

def pool6 : Array CpInfo := pool [(1, .class_ 2), (0, u "java/lang/constant/ConstantDesc"), (0, .class_ 4), (0, u "java/lang/Object")] 32

/-- java/lang/constant/ConstantDesc -/
def k6 : Class := { plain "java/lang/constant/ConstantDesc" (some 0) with
  accessFlags := 1537
  interfaces := #[]
  cf := some (fileOf pool6 1 #[] #[] 1537 3 #[] #[])
  fields := #[]
  methods := #[]
  instanceTypes := #[]
  staticTypes := #[]
  resolved := Array.replicate 37 none
  statics := none }

def pool7 : Array CpInfo := pool [(1, .methodref 2 3), (0, .class_ 4), (0, .nameAndType 5 6), (0, u "java/lang/Object"), (0, u "<init>"), (0, u "()V"), (0, .string 8), (0, u ""), (0, .fieldref 10 11), (0, .class_ 12), (0, .nameAndType 13 14), (0, u "java/lang/String"), (0, u "value"), (0, u "[B"), (0, .fieldref 10 16), (0, .nameAndType 17 18), (0, u "coder"), (0, u "B"), (2, u "hash"), (0, u "I"), (2, u "hashIsZero"), (0, u "Z"), (0, .methodref 10 28), (0, .nameAndType 5 29), (0, u "([CIILjava/lang/Void;)V"), (8, .fieldref 10 39), (0, .nameAndType 40 26), (0, u "COMPACT_STRINGS"), (1, .class_ 44), (1, u "java/lang/StringUTF16"), (0, u "compress"), (1, .methodref 42 48), (0, .nameAndType 49 50), (0, u "coderFromArrayLen"), (0, u "([BI)B"), (56, .class_ 109), (1, u "java/lang/StringLatin1"), (32, u "()Z"), (34, .methodref 42 178), (0, .nameAndType 45 179), (0, u "([CII)[B"), (154, u "()I"), (0, .methodref 10 336), (0, .nameAndType 17 337), (0, u "()B"), (25, u "([BI)C"), (27, u "(II)V"), (35, u "(I)C"), (64, .methodref 10 493), (0, .nameAndType 494 142), (0, u "isLatin1"), (0, .methodref 107 496), (0, .nameAndType 497 363), (0, u "charAt"), (3, u "checkIndex"), (5, u "length"), (67, .class_ 576), (0, u "java/lang/CharSequence"), (22, u "CASE_INSENSITIVE_ORDER"), (0, u "Ljava/util/Comparator;"), (409, u "([C)V"), (42, .fieldref 1054 1055), (0, .class_ 1056), (0, .nameAndType 1057 1058), (0, u "jdk/internal/util/Preconditions"), (0, u "SIOOBE_FORMATTER"), (0, u "Ljava/util/function/BiFunction;"), (0, .methodref 1054 1060), (0, .nameAndType 501 1061), (0, u "(IILjava/util/function/BiFunction;)I"), (39, u "serialPersistentFields"), (0, u "[Ljava/io/ObjectStreamField;"), (0, .class_ 1104), (0, u "java/lang/String$CaseInsensitiveComparator"), (1, .class_ 1107), (0, u "java/io/Serializable"), (0, .class_ 1109), (0, u "java/lang/Comparable"), (0, .class_ 1111), (0, u "java/lang/constant/Constable"), (0, .class_ 1113), (0, u "java/lang/constant/ConstantDesc"), (2, u "serialVersionUID"), (0, u "J"), (3, u "REPL"), (0, u "C"), (2, u "LATIN1"), (1, u "UTF16")] 323

def k7m0 : Method := { name := "<init>", desc := "()V", sig := { parameters := [], returnType := none }, accessFlags := 1, code := none }
def k7c1 : Code := { maxStack := 5, maxLocals := 2, code := jdk_42_method_3_code, exceptionTable := #[], attributes := #[] }
def k7m1 : Method := { name := "<init>", desc := "([C)V", sig := { parameters := [(.array .char)], returnType := none }, accessFlags := 1, code := some k7c1 }
def k7c2 : Code := { maxStack := 2, maxLocals := 1, code := jdk_42_method_54_code, exceptionTable := #[], attributes := #[] }
def k7m2 : Method := { name := "length", desc := "()I", sig := { parameters := [], returnType := some .int }, accessFlags := 1, code := some k7c2 }
def k7c3 : Code := { maxStack := 2, maxLocals := 2, code := jdk_42_method_56_code, exceptionTable := #[], attributes := #[] }
def k7m3 : Method := { name := "charAt", desc := "(I)C", sig := { parameters := [.int], returnType := some .char }, accessFlags := 1, code := some k7c3 }
def k7c4 : Code := { maxStack := 4, maxLocals := 6, code := jdk_42_method_149_code, exceptionTable := #[], attributes := #[] }
def k7m4 : Method := { name := "<init>", desc := "([CIILjava/lang/Void;)V", sig := { parameters := [(.array .char), .int, .int, (.object "java/lang/Void")], returnType := none }, accessFlags := 2, code := some k7c4 }
def k7c5 : Code := { maxStack := 1, maxLocals := 1, code := jdk_42_method_152_code, exceptionTable := #[], attributes := #[] }
def k7m5 : Method := { name := "coder", desc := "()B", sig := { parameters := [], returnType := some .byte }, accessFlags := 0, code := some k7c5 }
def k7c6 : Code := { maxStack := 1, maxLocals := 1, code := jdk_42_method_154_code, exceptionTable := #[], attributes := #[] }
def k7m6 : Method := { name := "isLatin1", desc := "()Z", sig := { parameters := [], returnType := some .boolean }, accessFlags := 0, code := some k7c6 }
def k7c7 : Code := { maxStack := 3, maxLocals := 2, code := jdk_42_method_155_code, exceptionTable := #[], attributes := #[] }
def k7m7 : Method := { name := "checkIndex", desc := "(II)V", sig := { parameters := [.int, .int], returnType := none }, accessFlags := 8, code := some k7c7 }
/-- java/lang/String -/
def k7 : Class := { plain "java/lang/String" (some 0) with
  accessFlags := 49
  interfaces := #[2, 3, 4, 5, 6]
  cf := some (fileOf pool7 10 #[.nestMembers #[1103]] #[{ accessFlags := 1, nameIndex := 5, descriptorIndex := 6, attributes := #[] }, { accessFlags := 1, nameIndex := 5, descriptorIndex := 1010, attributes := #[] }, { accessFlags := 1, nameIndex := 507, descriptorIndex := 334, attributes := #[] }, { accessFlags := 1, nameIndex := 497, descriptorIndex := 427, attributes := #[] }, { accessFlags := 2, nameIndex := 5, descriptorIndex := 29, attributes := #[] }, { accessFlags := 0, nameIndex := 17, descriptorIndex := 337, attributes := #[] }, { accessFlags := 0, nameIndex := 494, descriptorIndex := 142, attributes := #[] }, { accessFlags := 8, nameIndex := 501, descriptorIndex := 391, attributes := #[] }] 49 2 #[1106, 1108, 575, 1110, 1112] #[{ accessFlags := 18, nameIndex := 13, descriptorIndex := 14, attributes := #[] }, { accessFlags := 18, nameIndex := 17, descriptorIndex := 18, attributes := #[] }, { accessFlags := 2, nameIndex := 21, descriptorIndex := 22, attributes := #[] }, { accessFlags := 2, nameIndex := 25, descriptorIndex := 26, attributes := #[] }, { accessFlags := 26, nameIndex := 1116, descriptorIndex := 1117, attributes := #[] }, { accessFlags := 24, nameIndex := 40, descriptorIndex := 26, attributes := #[] }, { accessFlags := 26, nameIndex := 1101, descriptorIndex := 1102, attributes := #[] }, { accessFlags := 26, nameIndex := 1121, descriptorIndex := 1122, attributes := #[] }, { accessFlags := 25, nameIndex := 599, descriptorIndex := 600, attributes := #[] }, { accessFlags := 24, nameIndex := 1125, descriptorIndex := 18, attributes := #[] }, { accessFlags := 24, nameIndex := 1127, descriptorIndex := 18, attributes := #[] }])
  fields := #[{ name := "value", type := (.array .byte), accessFlags := 18, slot := 0, constantValue := 0 }, { name := "coder", type := .byte, accessFlags := 18, slot := 1, constantValue := 0 }, { name := "hash", type := .int, accessFlags := 2, slot := 2, constantValue := 0 }, { name := "hashIsZero", type := .boolean, accessFlags := 2, slot := 3, constantValue := 0 }, { name := "serialVersionUID", type := .long, accessFlags := 26, slot := 0, constantValue := 0 }, { name := "COMPACT_STRINGS", type := .boolean, accessFlags := 24, slot := 1, constantValue := 0 }, { name := "serialPersistentFields", type := (.array (.object "java/io/ObjectStreamField")), accessFlags := 26, slot := 2, constantValue := 0 }, { name := "REPL", type := .char, accessFlags := 26, slot := 3, constantValue := 0 }, { name := "CASE_INSENSITIVE_ORDER", type := (.object "java/util/Comparator"), accessFlags := 25, slot := 4, constantValue := 0 }, { name := "LATIN1", type := .byte, accessFlags := 24, slot := 5, constantValue := 0 }, { name := "UTF16", type := .byte, accessFlags := 24, slot := 6, constantValue := 0 }]
  methods := #[k7m0, k7m1, k7m2, k7m3, k7m4, k7m5, k7m6, k7m7]
  instanceTypes := #[(.array .byte), .byte, .int, .boolean]
  staticTypes := #[.long, .boolean, (.array (.object "java/io/ObjectStreamField")), .char, (.object "java/util/Comparator"), .byte, .byte]
  resolved := Array.replicate 1451 none
  statics := some 0 }

def pool8 : Array CpInfo := pool [(2, .class_ 4), (1, u "java/lang/Object"), (0, u "<init>"), (0, u "()V"), (1, .class_ 10), (1, u "java/lang/String"), (2, .methodref 8 14), (0, .nameAndType 15 16), (0, u "charAt"), (0, u "(I)C"), (1, .class_ 20), (1, u "com/example/path_template_matcher/pathtemplatematcher/UriReference"), (2, .methodref 8 24), (0, .nameAndType 25 26), (0, u "length"), (0, u "()I"), (97, u "SCHEME_SYMBOLS"), (0, u "Ljava/lang/String;"), (7, u "(Ljava/lang/String;I)I"), (0, u "pathEnd")] 25

def k8m0 : Method := { name := "<init>", desc := "()V", sig := { parameters := [], returnType := none }, accessFlags := 2, code := none }
def k8c1 : Code := { maxStack := 2, maxLocals := 3, code := prog_36_method_4_code, exceptionTable := #[], attributes := #[] }
def k8m1 : Method := { name := "pathEnd", desc := "(Ljava/lang/String;I)I", sig := { parameters := [(.object "java/lang/String"), .int], returnType := some .int }, accessFlags := 8, code := some k8c1 }
/-- com/example/path_template_matcher/pathtemplatematcher/UriReference -/
def k8 : Class := { plain "com/example/path_template_matcher/pathtemplatematcher/UriReference" (some 0) with
  accessFlags := 48
  interfaces := #[]
  cf := some (fileOf pool8 18 #[] #[{ accessFlags := 2, nameIndex := 5, descriptorIndex := 6, attributes := #[] }, { accessFlags := 8, nameIndex := 134, descriptorIndex := 133, attributes := #[] }] 48 2 #[] #[{ accessFlags := 26, nameIndex := 124, descriptorIndex := 125, attributes := #[] }])
  fields := #[{ name := "SCHEME_SYMBOLS", type := (.object "java/lang/String"), accessFlags := 26, slot := 0, constantValue := 0 }]
  methods := #[k8m0, k8m1]
  instanceTypes := #[]
  staticTypes := #[(.object "java/lang/String")]
  resolved := Array.replicate 160 none
  statics := none }

def pool9 : Array CpInfo := pool [(6, .class_ 8), (1, u "java/lang/Object"), (0, u "<init>"), (0, u "()V"), (1, .class_ 14), (1, u "java/lang/StringUTF16"), (31, u "$assertionsDisabled"), (0, u "Z"), (13, u "HI_BYTE_SHIFT"), (0, u "I"), (2, u "LO_BYTE_SHIFT"), (49, .methodref 12 116), (0, .nameAndType 117 118), (0, u "compress"), (0, u "([CI[BII)I"), (3, u "([CII)[B"), (138, u "coderFromArrayLen"), (0, u "([BI)B"), (106, .class_ 371), (1, u "java/lang/StringUTF16$LinesSpliterator"), (58, u "MAX_LENGTH"), (196, .class_ 628), (0, u "java/lang/StringUTF16$CodePointsSpliterator"), (0, .class_ 630), (0, u "java/lang/StringUTF16$CharsSpliterator")] 4

def k9m0 : Method := { name := "<init>", desc := "()V", sig := { parameters := [], returnType := none }, accessFlags := 0, code := none }
def k9c1 : Code := { maxStack := 2, maxLocals := 2, code := jdk_52_method_15_code, exceptionTable := #[], attributes := #[] }
def k9m1 : Method := { name := "coderFromArrayLen", desc := "([BI)B", sig := { parameters := [(.array .byte), .int], returnType := some .byte }, accessFlags := 8, code := some k9c1 }
def k9c2 : Code := { maxStack := 5, maxLocals := 6, code := jdk_52_method_16_code, exceptionTable := #[], attributes := #[] }
def k9m2 : Method := { name := "compress", desc := "([CII)[B", sig := { parameters := [(.array .char), .int, .int], returnType := some (.array .byte) }, accessFlags := 9, code := some k9c2 }
def k9c3 : Code := { maxStack := 3, maxLocals := 7, code := jdk_52_method_21_code, exceptionTable := #[], attributes := #[] }
def k9m3 : Method := { name := "compress", desc := "([CI[BII)I", sig := { parameters := [(.array .char), .int, (.array .byte), .int, .int], returnType := some .int }, accessFlags := 9, code := some k9c3 }
/-- java/lang/StringUTF16 -/
def k9 : Class := { plain "java/lang/StringUTF16" (some 0) with
  accessFlags := 48
  interfaces := #[]
  cf := some (fileOf pool9 12 #[.nestMembers #[627, 629, 369]] #[{ accessFlags := 0, nameIndex := 9, descriptorIndex := 10, attributes := #[] }, { accessFlags := 8, nameIndex := 261, descriptorIndex := 262, attributes := #[] }, { accessFlags := 9, nameIndex := 117, descriptorIndex := 122, attributes := #[] }, { accessFlags := 9, nameIndex := 117, descriptorIndex := 118, attributes := #[] }] 48 6 #[] #[{ accessFlags := 26, nameIndex := 61, descriptorIndex := 62, attributes := #[] }, { accessFlags := 26, nameIndex := 65, descriptorIndex := 62, attributes := #[] }, { accessFlags := 24, nameIndex := 430, descriptorIndex := 62, attributes := #[] }, { accessFlags := 4120, nameIndex := 46, descriptorIndex := 47, attributes := #[] }])
  fields := #[{ name := "HI_BYTE_SHIFT", type := .int, accessFlags := 26, slot := 0, constantValue := 0 }, { name := "LO_BYTE_SHIFT", type := .int, accessFlags := 26, slot := 1, constantValue := 0 }, { name := "MAX_LENGTH", type := .int, accessFlags := 24, slot := 2, constantValue := 0 }, { name := "$assertionsDisabled", type := .boolean, accessFlags := 4120, slot := 3, constantValue := 0 }]
  methods := #[k9m0, k9m1, k9m2, k9m3]
  instanceTypes := #[]
  staticTypes := #[.int, .int, .int, .boolean]
  resolved := Array.replicate 635 none
  statics := none }

def pool10 : Array CpInfo := pool [(1, .class_ 2), (0, u "java/lang/String"), (1, .class_ 6), (1, u "java/lang/Object"), (0, u "<init>"), (0, u "()V"), (0, .methodref 1 10), (0, .nameAndType 11 12), (0, u "checkIndex"), (0, u "(II)V"), (1, .class_ 16), (1, u "java/lang/StringLatin1"), (36, u "([BI)C"), (67, u "$assertionsDisabled"), (0, u "Z"), (98, .class_ 223), (1, u "java/lang/StringLatin1$LinesSpliterator"), (28, u "charAt"), (137, .class_ 391), (0, u "java/lang/StringLatin1$CharsSpliterator")] 3

def k10m0 : Method := { name := "<init>", desc := "()V", sig := { parameters := [], returnType := none }, accessFlags := 0, code := none }
def k10c1 : Code := { maxStack := 2, maxLocals := 2, code := jdk_43_method_2_code, exceptionTable := #[], attributes := #[] }
def k10m1 : Method := { name := "charAt", desc := "([BI)C", sig := { parameters := [(.array .byte), .int], returnType := some .char }, accessFlags := 9, code := some k10c1 }
/-- java/lang/StringLatin1 -/
def k10 : Class := { plain "java/lang/StringLatin1" (some 0) with
  accessFlags := 48
  interfaces := #[]
  cf := some (fileOf pool10 14 #[.nestMembers #[390, 221]] #[{ accessFlags := 0, nameIndex := 7, descriptorIndex := 8, attributes := #[] }, { accessFlags := 9, nameIndex := 252, descriptorIndex := 53, attributes := #[] }] 48 4 #[] #[{ accessFlags := 4120, nameIndex := 121, descriptorIndex := 122, attributes := #[] }])
  fields := #[{ name := "$assertionsDisabled", type := .boolean, accessFlags := 4120, slot := 0, constantValue := 0 }]
  methods := #[k10m0, k10m1]
  instanceTypes := #[]
  staticTypes := #[.boolean]
  resolved := Array.replicate 395 none
  statics := none }

def pool11 : Array CpInfo := pool [(2, .class_ 4), (1, u "java/lang/Object"), (0, u "<init>"), (0, u "()V"), (17, .class_ 26), (1, u "jdk/internal/util/Preconditions"), (6, u "checkIndex"), (21, .class_ 56), (0, u "jdk/internal/util/Preconditions$4"), (57, .class_ 115), (0, u "jdk/internal/util/Preconditions$1"), (7, u "SIOOBE_FORMATTER"), (0, u "Ljava/util/function/BiFunction;"), (0, .class_ 126), (0, u "jdk/internal/util/Preconditions$2"), (3, u "AIOOBE_FORMATTER"), (0, .class_ 132), (0, u "jdk/internal/util/Preconditions$3"), (3, u "IOOBE_FORMATTER"), (41, u "(IILjava/util/function/BiFunction;)I")] 15

def k11m0 : Method := { name := "<init>", desc := "()V", sig := { parameters := [], returnType := none }, accessFlags := 1, code := none }
def k11c1 : Code := { maxStack := 3, maxLocals := 3, code := jdk_41_method_11_code, exceptionTable := #[], attributes := #[] }
def k11m1 : Method := { name := "checkIndex", desc := "(IILjava/util/function/BiFunction;)I", sig := { parameters := [.int, .int, (.object "java/util/function/BiFunction")], returnType := some .int }, accessFlags := 9, code := some k11c1 }
/-- jdk/internal/util/Preconditions -/
def k11 : Class := { plain "jdk/internal/util/Preconditions" (some 0) with
  accessFlags := 33
  interfaces := #[]
  cf := some (fileOf pool11 24 #[.nestMembers #[55, 131, 125, 114]] #[{ accessFlags := 1, nameIndex := 5, descriptorIndex := 6, attributes := #[] }, { accessFlags := 9, nameIndex := 33, descriptorIndex := 178, attributes := #[] }] 33 2 #[] #[{ accessFlags := 25, nameIndex := 123, descriptorIndex := 124, attributes := #[] }, { accessFlags := 25, nameIndex := 130, descriptorIndex := 124, attributes := #[] }, { accessFlags := 25, nameIndex := 136, descriptorIndex := 124, attributes := #[] }])
  fields := #[{ name := "SIOOBE_FORMATTER", type := (.object "java/util/function/BiFunction"), accessFlags := 25, slot := 0, constantValue := 0 }, { name := "AIOOBE_FORMATTER", type := (.object "java/util/function/BiFunction"), accessFlags := 25, slot := 1, constantValue := 0 }, { name := "IOOBE_FORMATTER", type := (.object "java/util/function/BiFunction"), accessFlags := 25, slot := 2, constantValue := 0 }]
  methods := #[k11m0, k11m1]
  instanceTypes := #[]
  staticTypes := #[(.object "java/util/function/BiFunction"), (.object "java/util/function/BiFunction"), (.object "java/util/function/BiFunction")]
  resolved := Array.replicate 194 none
  statics := some 1 }

def pool12 : Array CpInfo := pool [(9, u "<init>"), (6, .class_ 18), (1, u "java/lang/Object"), (0, u "()V"), (1, .class_ 23), (1, u "jdk/internal/util/ArraysSupport"), (0, u "LOG2_ARRAY_LONG_INDEX_SCALE"), (0, u "I"), (2, u "U"), (0, u "Ljdk/internal/misc/Unsafe;"), (8, u "BIG_ENDIAN"), (0, u "Z"), (8, u "LOG2_BYTE_BIT_SIZE"), (4, u "LOG2_ARRAY_INT_INDEX_SCALE"), (54, u "JLA"), (0, u "Ljdk/internal/access/JavaLangAccess;"), (11, u "LOG2_ARRAY_BOOLEAN_INDEX_SCALE"), (9, u "LOG2_ARRAY_BYTE_INDEX_SCALE"), (5, u "LOG2_ARRAY_CHAR_INDEX_SCALE"), (5, u "LOG2_ARRAY_SHORT_INDEX_SCALE"), (18, u "LOG2_ARRAY_FLOAT_INDEX_SCALE"), (24, u "LOG2_ARRAY_DOUBLE_INDEX_SCALE"), (89, u "T_BOOLEAN"), (2, u "T_CHAR"), (1, u "T_FLOAT"), (1, u "T_DOUBLE"), (1, u "T_BYTE"), (1, u "T_SHORT"), (1, u "T_INT"), (1, u "T_LONG"), (1, u "SOFT_MAX_ARRAY_LENGTH")] 83

def k12m0 : Method := { name := "<init>", desc := "()V", sig := { parameters := [], returnType := none }, accessFlags := 2, code := none }
/-- jdk/internal/util/ArraysSupport -/
def k12 : Class := { plain "jdk/internal/util/ArraysSupport" (some 0) with
  accessFlags := 33
  interfaces := #[]
  cf := some (fileOf pool12 21 #[] #[{ accessFlags := 2, nameIndex := 9, descriptorIndex := 19, attributes := #[] }] 33 16 #[] #[{ accessFlags := 24, nameIndex := 28, descriptorIndex := 29, attributes := #[] }, { accessFlags := 26, nameIndex := 38, descriptorIndex := 39, attributes := #[] }, { accessFlags := 25, nameIndex := 121, descriptorIndex := 25, attributes := #[] }, { accessFlags := 25, nameIndex := 131, descriptorIndex := 25, attributes := #[] }, { accessFlags := 25, nameIndex := 137, descriptorIndex := 25, attributes := #[] }, { accessFlags := 25, nameIndex := 143, descriptorIndex := 25, attributes := #[] }, { accessFlags := 25, nameIndex := 53, descriptorIndex := 25, attributes := #[] }, { accessFlags := 25, nameIndex := 24, descriptorIndex := 25, attributes := #[] }, { accessFlags := 25, nameIndex := 162, descriptorIndex := 25, attributes := #[] }, { accessFlags := 25, nameIndex := 187, descriptorIndex := 25, attributes := #[] }, { accessFlags := 26, nameIndex := 48, descriptorIndex := 25, attributes := #[] }, { accessFlags := 25, nameIndex := 277, descriptorIndex := 25, attributes := #[] }, { accessFlags := 25, nameIndex := 280, descriptorIndex := 25, attributes := #[] }, { accessFlags := 25, nameIndex := 282, descriptorIndex := 25, attributes := #[] }, { accessFlags := 25, nameIndex := 284, descriptorIndex := 25, attributes := #[] }, { accessFlags := 25, nameIndex := 286, descriptorIndex := 25, attributes := #[] }, { accessFlags := 25, nameIndex := 288, descriptorIndex := 25, attributes := #[] }, { accessFlags := 25, nameIndex := 290, descriptorIndex := 25, attributes := #[] }, { accessFlags := 25, nameIndex := 292, descriptorIndex := 25, attributes := #[] }, { accessFlags := 26, nameIndex := 108, descriptorIndex := 109, attributes := #[] }, { accessFlags := 25, nameIndex := 294, descriptorIndex := 25, attributes := #[] }])
  fields := #[{ name := "U", type := (.object "jdk/internal/misc/Unsafe"), accessFlags := 24, slot := 0, constantValue := 0 }, { name := "BIG_ENDIAN", type := .boolean, accessFlags := 26, slot := 1, constantValue := 0 }, { name := "LOG2_ARRAY_BOOLEAN_INDEX_SCALE", type := .int, accessFlags := 25, slot := 2, constantValue := 0 }, { name := "LOG2_ARRAY_BYTE_INDEX_SCALE", type := .int, accessFlags := 25, slot := 3, constantValue := 0 }, { name := "LOG2_ARRAY_CHAR_INDEX_SCALE", type := .int, accessFlags := 25, slot := 4, constantValue := 0 }, { name := "LOG2_ARRAY_SHORT_INDEX_SCALE", type := .int, accessFlags := 25, slot := 5, constantValue := 0 }, { name := "LOG2_ARRAY_INT_INDEX_SCALE", type := .int, accessFlags := 25, slot := 6, constantValue := 0 }, { name := "LOG2_ARRAY_LONG_INDEX_SCALE", type := .int, accessFlags := 25, slot := 7, constantValue := 0 }, { name := "LOG2_ARRAY_FLOAT_INDEX_SCALE", type := .int, accessFlags := 25, slot := 8, constantValue := 0 }, { name := "LOG2_ARRAY_DOUBLE_INDEX_SCALE", type := .int, accessFlags := 25, slot := 9, constantValue := 0 }, { name := "LOG2_BYTE_BIT_SIZE", type := .int, accessFlags := 26, slot := 10, constantValue := 0 }, { name := "T_BOOLEAN", type := .int, accessFlags := 25, slot := 11, constantValue := 0 }, { name := "T_CHAR", type := .int, accessFlags := 25, slot := 12, constantValue := 0 }, { name := "T_FLOAT", type := .int, accessFlags := 25, slot := 13, constantValue := 0 }, { name := "T_DOUBLE", type := .int, accessFlags := 25, slot := 14, constantValue := 0 }, { name := "T_BYTE", type := .int, accessFlags := 25, slot := 15, constantValue := 0 }, { name := "T_SHORT", type := .int, accessFlags := 25, slot := 16, constantValue := 0 }, { name := "T_INT", type := .int, accessFlags := 25, slot := 17, constantValue := 0 }, { name := "T_LONG", type := .int, accessFlags := 25, slot := 18, constantValue := 0 }, { name := "JLA", type := (.object "jdk/internal/access/JavaLangAccess"), accessFlags := 26, slot := 19, constantValue := 0 }, { name := "SOFT_MAX_ARRAY_LENGTH", type := .int, accessFlags := 25, slot := 20, constantValue := 0 }]
  methods := #[k12m0]
  instanceTypes := #[]
  staticTypes := #[(.object "jdk/internal/misc/Unsafe"), .boolean, .int, .int, .int, .int, .int, .int, .int, .int, .int, .int, .int, .int, .int, .int, .int, .int, .int, (.object "jdk/internal/access/JavaLangAccess"), .int]
  resolved := Array.replicate 378 none
  statics := none }

def pool13 : Array CpInfo := pool [(1, u "java/lang/Cloneable"), (0, .class_ 1), (0, u "java/lang/Object"), (0, .class_ 3)] 3

/-- java/lang/Cloneable -/
def k13 : Class := { plain "java/lang/Cloneable" (some 0) with
  accessFlags := 1537
  interfaces := #[]
  cf := some (fileOf pool13 2 #[] #[] 1537 4 #[] #[])
  fields := #[]
  methods := #[]
  instanceTypes := #[]
  staticTypes := #[]
  resolved := Array.replicate 8 none
  statics := none }

/-- the primitive byte -/
def k14 : Class := { plain "byte" none with kind := .primitive 'B', accessFlags := 0x411 }
/-- [B -/
def k15 : Class := { plain "[B" (some 0) with kind := .array 14 .byte, interfaces := #[13, 2], accessFlags := 1041 }

/-- the primitive char -/
def k16 : Class := { plain "char" none with kind := .primitive 'C', accessFlags := 0x411 }
/-- [C -/
def k17 : Class := { plain "[C" (some 0) with kind := .array 16 .char, interfaces := #[13, 2], accessFlags := 1041 }

/-- the primitive int -/
def k18 : Class := { plain "int" none with kind := .primitive 'I', accessFlags := 0x411 }
/-- [I -/
def k19 : Class := { plain "[I" (some 0) with kind := .array 18 .int, interfaces := #[13, 2], accessFlags := 1041 }

def heap : Heap := #[{ cls := 7, slots := #[.long 0, .int 1, .null, .int 0, .null, .int 0, .int 0], vm := .statics 7 },
  { cls := 11, slots := #[.null, .null, .null], vm := .statics 11 }]
def classes : Array Class := #[k0, k1, k2, k3, k4, k5, k6, k7, k8, k9, k10, k11, k12, k13, k14, k15, k16, k17, k18, k19]
def interned : List (Array UInt16 × Addr) := []
def slotsUsed : Nat := 10
def theMethod : MethodId := ⟨1, 3⟩
def args0 : Array Value := #[.int 5, .int 6, .int 7, .int 8, .int 9]
def aboutOver (below : List Frame) : State where
  vm := { classes := classes, interned := interned.toArray }
  heap := heap
  slotsUsed := slotsUsed
  threads := #[{ frames := .invoking theMethod args0 :: below }]
def below0 : List Frame := [.native { method := ⟨0, 0⟩, args := #[] }]
def about1 : State := aboutOver below0
def p0 : Program := .bare "" "" ""
def e0 : Env := launch0.env 0 0 0
theorem w_frames : about1.frames = Frame.invoking theMethod args0 :: below0 := rfl
set_option maxRecDepth 65536 in
theorem w_args : argsFit about1.vm theMethod args0 = true := by decide +kernel
set_option maxRecDepth 65536 in
theorem w_heap : heapFits about1 = true := by decide +kernel
set_option maxRecDepth 65536 in
theorem w_runnable : about1.curStatus? = some .runnable := by decide +kernel
set_option maxRecDepth 65536 in
theorem w_alone : about1.alone = true := by decide +kernel
set_option maxRecDepth 65536 in
theorem w_named : about1.methodNamed? x = some theMethod := by decide +kernel
set_option maxRecDepth 65536 in
theorem w_hears : about1.hears theMethod below0 = true := by decide +kernel
set_option maxRecDepth 65536 in
theorem w_ripe : about1.ripe theMethod args0 below0 = true := by decide +kernel
theorem w_running : about1.status = .running := rfl
set_option maxRecDepth 65536 in
theorem w_room : about1.hasRoom e0.platform room_1 = true :=
  launch0.hasRoom_least _ room_1 (by decide +kernel) (by decide +kernel) (by decide +kernel) (by decide +kernel) (by decide +kernel) (by decide +kernel)
theorem allAtoms_all (ts : List Jvm.Cond) (a : Array Jvm.Value) (st : Jvm.State) : (allAtoms ts).before a st = ts.all (fun c => c.before a st) := by
  induction ts with
  | nil => rfl
  | cons c t ih =>
    show (Jvm.Cond.and c (allAtoms t)).before a st = _
    rw [Jvm.Cond.before_and, ih, List.all_cons]
def words1 : List Jvm.Cond := Jvm.Cond.code x code maxLocals ret :: tables_1
/-- a 'code' word, met by the world's own term for the bytes: nothing is compared byte by byte -/
theorem code_word {y : MethodName} {bytes : ByteArray} {mx : Nat} {rt : Option FieldType} {a : Array Value} {s : State} {m : MethodId} {meth : Method} {c : Code} (h1 : s.methodNamed? y = some m) (h2 : s.vm.method? m = some meth) (h3 : meth.code = some c) (h4 : c.code = bytes)
    (h5 : (c.maxLocals == mx && c.exceptionTable.isEmpty && decide (c.maxStack ≤ mostOperands) && decide (meth.sig.returnType = rt) && !meth.locks && decide (parseMethodDescriptor y.desc = some meth.sig)) = true) : (Jvm.Cond.code y bytes mx rt).before a s = true := by
  simp only [Bool.and_eq_true, beq_iff_eq, Bool.not_eq_true', decide_eq_true_eq] at h5
  obtain ⟨⟨⟨⟨⟨g1, g2⟩, g3⟩, g4⟩, g5⟩, g6⟩ := h5
  simp [Cond.before, Cond.holds, Cond.value, h1, h2, h3, h4, g1, g2, g3, g4, g5, g6]
def isCode : Jvm.Cond → Bool
  | .code _ _ _ _ => true
  | _ => false
theorem all_split {L : List Jvm.Cond} {P : Jvm.Cond → Bool} (h1 : L.all (fun c => isCode c || P c) = true) (h2 : ∀ c ∈ L.filter isCode, P c = true) : L.all P = true := by
  refine List.all_eq_true.mpr fun c hc => ?_
  have h := List.all_eq_true.mp h1 c hc
  rcases Bool.eq_false_or_eq_true (isCode c) with hi | hi
  · exact h2 c (List.mem_filter.mpr ⟨hc, hi⟩)
  · simpa [hi] using h
set_option maxRecDepth 65536 in
theorem w_c0 : (Jvm.Cond.code x code maxLocals ret).before args0 about1 = true := code_word (m := ⟨1, 3⟩) (meth := k1m3) (c := k1c3) (by decide +kernel) rfl rfl rfl (by decide +kernel)
set_option maxRecDepth 65536 in
theorem w_c1 : (Jvm.Cond.code ({ cls := "com/example/path_template_matcher/pathtemplatematcher/UriReferencePathEndPinLaw", name := "mk", desc := "(ICCCC)Ljava/lang/String;" } : Jvm.MethodName) method_3_code (5 : Nat) (Option.some (Jvm.ClassFile.FieldType.object "java/lang/String"))).before args0 about1 = true := code_word (m := ⟨1, 2⟩) (meth := k1m2) (c := k1c2) (by decide +kernel) rfl rfl rfl (by decide +kernel)
set_option maxRecDepth 65536 in
theorem w_c2 : (Jvm.Cond.code ({ cls := "java/lang/String", name := "<init>", desc := "([C)V" } : Jvm.MethodName) jdk_42_method_3_code (2 : Nat) (Option.none : Option Jvm.ClassFile.FieldType)).before args0 about1 = true := code_word (m := ⟨7, 1⟩) (meth := k7m1) (c := k7c1) (by decide +kernel) rfl rfl rfl (by decide +kernel)
set_option maxRecDepth 65536 in
theorem w_c3 : (Jvm.Cond.code ({ cls := "java/lang/String", name := "<init>", desc := "([CIILjava/lang/Void;)V" } : Jvm.MethodName) jdk_42_method_149_code (6 : Nat) (Option.none : Option Jvm.ClassFile.FieldType)).before args0 about1 = true := code_word (m := ⟨7, 4⟩) (meth := k7m4) (c := k7c4) (by decide +kernel) rfl rfl rfl (by decide +kernel)
set_option maxRecDepth 65536 in
theorem w_c4 : (Jvm.Cond.code ({ cls := "java/lang/Object", name := "<init>", desc := "()V" } : Jvm.MethodName) object_method_1_code (1 : Nat) (Option.none : Option Jvm.ClassFile.FieldType)).before args0 about1 = true := code_word (m := ⟨0, 0⟩) (meth := k0m0) (c := k0c0) (by decide +kernel) rfl rfl rfl (by decide +kernel)
set_option maxRecDepth 65536 in
theorem w_c5 : (Jvm.Cond.code ({ cls := "com/example/path_template_matcher/pathtemplatematcher/UriReference", name := "pathEnd", desc := "(Ljava/lang/String;I)I" } : Jvm.MethodName) prog_36_method_4_code (3 : Nat) (Option.some Jvm.ClassFile.FieldType.int)).before args0 about1 = true := code_word (m := ⟨8, 1⟩) (meth := k8m1) (c := k8c1) (by decide +kernel) rfl rfl rfl (by decide +kernel)
set_option maxRecDepth 65536 in
theorem w_c6 : (Jvm.Cond.code ({ cls := "java/lang/String", name := "length", desc := "()I" } : Jvm.MethodName) jdk_42_method_54_code (1 : Nat) (Option.some Jvm.ClassFile.FieldType.int)).before args0 about1 = true := code_word (m := ⟨7, 2⟩) (meth := k7m2) (c := k7c2) (by decide +kernel) rfl rfl rfl (by decide +kernel)
set_option maxRecDepth 65536 in
theorem w_c7 : (Jvm.Cond.code ({ cls := "java/lang/String", name := "coder", desc := "()B" } : Jvm.MethodName) jdk_42_method_152_code (1 : Nat) (Option.some Jvm.ClassFile.FieldType.byte)).before args0 about1 = true := code_word (m := ⟨7, 5⟩) (meth := k7m5) (c := k7c5) (by decide +kernel) rfl rfl rfl (by decide +kernel)
set_option maxRecDepth 65536 in
theorem w_c8 : (Jvm.Cond.code ({ cls := "java/lang/StringUTF16", name := "compress", desc := "([CII)[B" } : Jvm.MethodName) jdk_52_method_16_code (6 : Nat) (Option.some (Jvm.ClassFile.FieldType.array Jvm.ClassFile.FieldType.byte))).before args0 about1 = true := code_word (m := ⟨9, 2⟩) (meth := k9m2) (c := k9c2) (by decide +kernel) rfl rfl rfl (by decide +kernel)
set_option maxRecDepth 65536 in
theorem w_c9 : (Jvm.Cond.code ({ cls := "java/lang/StringUTF16", name := "compress", desc := "([CI[BII)I" } : Jvm.MethodName) jdk_52_method_21_code (7 : Nat) (Option.some Jvm.ClassFile.FieldType.int)).before args0 about1 = true := code_word (m := ⟨9, 3⟩) (meth := k9m3) (c := k9c3) (by decide +kernel) rfl rfl rfl (by decide +kernel)
set_option maxRecDepth 65536 in
theorem w_c10 : (Jvm.Cond.code ({ cls := "java/lang/StringUTF16", name := "coderFromArrayLen", desc := "([BI)B" } : Jvm.MethodName) jdk_52_method_15_code (2 : Nat) (Option.some Jvm.ClassFile.FieldType.byte)).before args0 about1 = true := code_word (m := ⟨9, 1⟩) (meth := k9m1) (c := k9c1) (by decide +kernel) rfl rfl rfl (by decide +kernel)
set_option maxRecDepth 65536 in
theorem w_c11 : (Jvm.Cond.code ({ cls := "com/example/path_template_matcher/pathtemplatematcher/UriReferencePathEndPinLaw", name := "stop", desc := "(C)Z" } : Jvm.MethodName) method_2_code (1 : Nat) (Option.some Jvm.ClassFile.FieldType.boolean)).before args0 about1 = true := code_word (m := ⟨1, 1⟩) (meth := k1m1) (c := k1c1) (by decide +kernel) rfl rfl rfl (by decide +kernel)
set_option maxRecDepth 65536 in
theorem w_c12 : (Jvm.Cond.code ({ cls := "java/lang/String", name := "charAt", desc := "(I)C" } : Jvm.MethodName) jdk_42_method_56_code (2 : Nat) (Option.some Jvm.ClassFile.FieldType.char)).before args0 about1 = true := code_word (m := ⟨7, 3⟩) (meth := k7m3) (c := k7c3) (by decide +kernel) rfl rfl rfl (by decide +kernel)
set_option maxRecDepth 65536 in
theorem w_c13 : (Jvm.Cond.code ({ cls := "java/lang/String", name := "isLatin1", desc := "()Z" } : Jvm.MethodName) jdk_42_method_154_code (1 : Nat) (Option.some Jvm.ClassFile.FieldType.boolean)).before args0 about1 = true := code_word (m := ⟨7, 6⟩) (meth := k7m6) (c := k7c6) (by decide +kernel) rfl rfl rfl (by decide +kernel)
set_option maxRecDepth 65536 in
theorem w_c14 : (Jvm.Cond.code ({ cls := "java/lang/StringLatin1", name := "charAt", desc := "([BI)C" } : Jvm.MethodName) jdk_43_method_2_code (2 : Nat) (Option.some Jvm.ClassFile.FieldType.char)).before args0 about1 = true := code_word (m := ⟨10, 1⟩) (meth := k10m1) (c := k10c1) (by decide +kernel) rfl rfl rfl (by decide +kernel)
set_option maxRecDepth 65536 in
theorem w_c15 : (Jvm.Cond.code ({ cls := "java/lang/String", name := "checkIndex", desc := "(II)V" } : Jvm.MethodName) jdk_42_method_155_code (2 : Nat) (Option.none : Option Jvm.ClassFile.FieldType)).before args0 about1 = true := code_word (m := ⟨7, 7⟩) (meth := k7m7) (c := k7c7) (by decide +kernel) rfl rfl rfl (by decide +kernel)
set_option maxRecDepth 65536 in
theorem w_c16 : (Jvm.Cond.code ({ cls := "jdk/internal/util/Preconditions", name := "checkIndex", desc := "(IILjava/util/function/BiFunction;)I" } : Jvm.MethodName) jdk_41_method_11_code (3 : Nat) (Option.some Jvm.ClassFile.FieldType.int)).before args0 about1 = true := code_word (m := ⟨11, 1⟩) (meth := k11m1) (c := k11c1) (by decide +kernel) rfl rfl rfl (by decide +kernel)
def codes1 : List Jvm.Cond := [Jvm.Cond.code x code maxLocals ret, Jvm.Cond.code ({ cls := "com/example/path_template_matcher/pathtemplatematcher/UriReferencePathEndPinLaw", name := "mk", desc := "(ICCCC)Ljava/lang/String;" } : Jvm.MethodName) method_3_code (5 : Nat) (Option.some (Jvm.ClassFile.FieldType.object "java/lang/String")), Jvm.Cond.code ({ cls := "java/lang/String", name := "<init>", desc := "([C)V" } : Jvm.MethodName) jdk_42_method_3_code (2 : Nat) (Option.none : Option Jvm.ClassFile.FieldType), Jvm.Cond.code ({ cls := "java/lang/String", name := "<init>", desc := "([CIILjava/lang/Void;)V" } : Jvm.MethodName) jdk_42_method_149_code (6 : Nat) (Option.none : Option Jvm.ClassFile.FieldType), Jvm.Cond.code ({ cls := "java/lang/Object", name := "<init>", desc := "()V" } : Jvm.MethodName) object_method_1_code (1 : Nat) (Option.none : Option Jvm.ClassFile.FieldType), Jvm.Cond.code ({ cls := "com/example/path_template_matcher/pathtemplatematcher/UriReference", name := "pathEnd", desc := "(Ljava/lang/String;I)I" } : Jvm.MethodName) prog_36_method_4_code (3 : Nat) (Option.some Jvm.ClassFile.FieldType.int), Jvm.Cond.code ({ cls := "java/lang/String", name := "length", desc := "()I" } : Jvm.MethodName) jdk_42_method_54_code (1 : Nat) (Option.some Jvm.ClassFile.FieldType.int), Jvm.Cond.code ({ cls := "java/lang/String", name := "coder", desc := "()B" } : Jvm.MethodName) jdk_42_method_152_code (1 : Nat) (Option.some Jvm.ClassFile.FieldType.byte), Jvm.Cond.code ({ cls := "java/lang/StringUTF16", name := "compress", desc := "([CII)[B" } : Jvm.MethodName) jdk_52_method_16_code (6 : Nat) (Option.some (Jvm.ClassFile.FieldType.array Jvm.ClassFile.FieldType.byte)), Jvm.Cond.code ({ cls := "java/lang/StringUTF16", name := "compress", desc := "([CI[BII)I" } : Jvm.MethodName) jdk_52_method_21_code (7 : Nat) (Option.some Jvm.ClassFile.FieldType.int), Jvm.Cond.code ({ cls := "java/lang/StringUTF16", name := "coderFromArrayLen", desc := "([BI)B" } : Jvm.MethodName) jdk_52_method_15_code (2 : Nat) (Option.some Jvm.ClassFile.FieldType.byte), Jvm.Cond.code ({ cls := "com/example/path_template_matcher/pathtemplatematcher/UriReferencePathEndPinLaw", name := "stop", desc := "(C)Z" } : Jvm.MethodName) method_2_code (1 : Nat) (Option.some Jvm.ClassFile.FieldType.boolean), Jvm.Cond.code ({ cls := "java/lang/String", name := "charAt", desc := "(I)C" } : Jvm.MethodName) jdk_42_method_56_code (2 : Nat) (Option.some Jvm.ClassFile.FieldType.char), Jvm.Cond.code ({ cls := "java/lang/String", name := "isLatin1", desc := "()Z" } : Jvm.MethodName) jdk_42_method_154_code (1 : Nat) (Option.some Jvm.ClassFile.FieldType.boolean), Jvm.Cond.code ({ cls := "java/lang/StringLatin1", name := "charAt", desc := "([BI)C" } : Jvm.MethodName) jdk_43_method_2_code (2 : Nat) (Option.some Jvm.ClassFile.FieldType.char), Jvm.Cond.code ({ cls := "java/lang/String", name := "checkIndex", desc := "(II)V" } : Jvm.MethodName) jdk_42_method_155_code (2 : Nat) (Option.none : Option Jvm.ClassFile.FieldType), Jvm.Cond.code ({ cls := "jdk/internal/util/Preconditions", name := "checkIndex", desc := "(IILjava/util/function/BiFunction;)I" } : Jvm.MethodName) jdk_41_method_11_code (3 : Nat) (Option.some Jvm.ClassFile.FieldType.int)]
set_option maxRecDepth 65536 in
theorem codes_eq : words1.filter isCode = codes1 := rfl
theorem w_codes : ∀ c ∈ words1.filter isCode, c.before args0 about1 = true := by
  rw [codes_eq]
  intro c hc
  simp only [codes1, List.mem_cons, List.not_mem_nil, or_false] at hc
  rcases hc with rfl | rfl | rfl | rfl | rfl | rfl | rfl | rfl | rfl | rfl | rfl | rfl | rfl | rfl | rfl | rfl | rfl
  · exact w_c0
  · exact w_c1
  · exact w_c2
  · exact w_c3
  · exact w_c4
  · exact w_c5
  · exact w_c6
  · exact w_c7
  · exact w_c8
  · exact w_c9
  · exact w_c10
  · exact w_c11
  · exact w_c12
  · exact w_c13
  · exact w_c14
  · exact w_c15
  · exact w_c16
set_option maxRecDepth 65536 in
theorem w_t1 : (words1.take 24).all (fun c => isCode c || c.before args0 about1) = true := by decide +kernel
set_option maxRecDepth 65536 in
theorem w_t2 : ((words1.drop 24).take 24).all (fun c => isCode c || c.before args0 about1) = true := by decide +kernel
set_option maxRecDepth 65536 in
theorem w_t3 : (((words1.drop 24).drop 24).take 24).all (fun c => isCode c || c.before args0 about1) = true := by decide +kernel
set_option maxRecDepth 65536 in
theorem w_t4 : (((words1.drop 24).drop 24).drop 24).all (fun c => isCode c || c.before args0 about1) = true := by decide +kernel
theorem w_tables : (allAtoms (Jvm.Cond.code x code maxLocals ret :: tables_1)).before args0 about1 = true := by
  rw [allAtoms_all]
  show words1.all (fun c => c.before args0 about1) = true
  refine all_split ?_ w_codes
  rw [← List.take_append_drop 24 words1, List.all_append, w_t1, ← List.take_append_drop 24 (words1.drop 24), List.all_append, w_t2, ← List.take_append_drop 24 ((words1.drop 24).drop 24), List.all_append, w_t3, w_t4]
  rfl
set_option maxRecDepth 65536 in
theorem w_rest : rest_1_c.before args0 about1 = true := by decide +kernel
set_option maxRecDepth 65536 in
theorem w_case : (Jvm.Cond.and given_1 narrow_1).before args0 about1 = true := by decide +kernel
set_option maxRecDepth 65536 in
theorem w_consts : constsHeld consts_1 about1 := Jvm.Lit.constsHeldB_iff.mp (by decide +kernel)
theorem w_applies : (headSpec (Jvm.Cond.code x code maxLocals ret :: tables_1) room_1).applies x e0.platform about1 = true :=
  (Spec.applies_iff w_frames).mpr ⟨w_running, w_runnable, w_alone, w_named, w_hears, w_ripe, w_room, w_tables⟩
theorem atStart : AtStart classFile x code maxLocals ret World_1 tables_1 room_1 Calls_1 rest_1 Pre_1 launch0 p0 e0 about1 theMethod args0 below0 :=
  ⟨lists_1, trivial, launch0.admits_env _ _ _, launch0.least_env, fairChoices_fair.cas, fairChoices_fair.clock, w_frames, w_args, w_heap, w_applies, ⟨w_consts, trivial⟩, w_rest, w_case⟩
end start1
theorem witness_1 : WitnessClaimed_1 := ⟨start1.p0, start1.e0, start1.about1, start1.theMethod, start1.args0, start1.below0, start1.atStart⟩
end Jvm.Pilot.@@N@@
