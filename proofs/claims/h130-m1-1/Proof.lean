import JvmDerived
import JvmDerived.Pilot.@@N@@Statement
import JvmDerived.Pilot.@@N@@Code
set_option linter.unusedVariables false
set_option linter.unusedSimpArgs false
namespace Jvm.RoadKit
open Sem ClassFile Op Lib Jvm.Stand Jvm.Free Jvm.LawKit
section New
variable {p : Program} {l : Launch} {e : Env} {R : Room} {s : State} {m : MethodId} {args : Array Value} {below : List Frame} {meth : Method} {c : Code} {T : State} {locs : List Loc} {cells slots : Nat}
theorem retI (X : Stand p l e R s m args below meth c T locs cells slots) (hx : p.tables.exec = Jvm.exec) {pc : Nat} {Ls : Array Slot} {z : Int32} {rest : List Value} (hret : meth.sig.returnType = some .int) (hd : decode c.code pc = .ok (.ireturn, 1)) {fs : List Frame}
    (hl : ∀ (f : JFrame) (acts : List Action), f.method = m → f.locked = none → f.entered = [] → (doReturn e (T.setTop f) acts (some (.int z))).1 = T.setFrames fs) : Steps p.tables e below (T.setTop (mkF m pc Ls (.int z :: rest))) (T.setFrames fs) := by
  have hm' : T.vm.method? m = some meth := X.method'
  have hn : narrow .int (.int z) = .int z := rfl
  show Steps p.tables e below (T.setTop { method := m, pc := pc, locals := Ls, stack := _ :: rest, locked := none }) _
  jvm_step X.here [X.here.top, hx, hd, hm', hret, hn]
  first | (intro acts; rw [hl _ acts rfl rfl rfl]) | rw [hl _ _ rfl rfl rfl]
  exact Steps.refl _
end New
end Jvm.RoadKit
namespace Jvm.Pilot.@@N@@
open Jvm Jvm.ClassFile Sem Op Lib Jvm.Free Jvm.Stand Jvm.LawKit Jvm.RoadKit Bundle Jvm.Pilot.@@N@@.Jvm.D
theorem own_tlt {a b : Int32} {x y : Int} (ha : a.toInt = x) (hb : b.toInt = y) (h : x < y) : if_icmp.holds .lt a b = true ∧ if_icmp.holds .ge a b = false ∧ if_icmp.holds .gt b a = true ∧ if_icmp.holds .le b a = false := tlt (Int32.lt_iff_toInt_lt.mpr (by rw [ha, hb]; exact h))
theorem own_flt {a b : Int32} {x y : Int} (ha : a.toInt = x) (hb : b.toInt = y) (h : ¬ x < y) : if_icmp.holds .lt a b = false ∧ if_icmp.holds .ge a b = true ∧ if_icmp.holds .gt b a = false ∧ if_icmp.holds .le b a = true := flt (fun q => h (by rw [← ha, ← hb]; exact Int32.lt_iff_toInt_lt.mp q))
theorem own_teq {a b : Int32} {x y : Int} (ha : a.toInt = x) (hb : b.toInt = y) (h : x = y) : if_icmp.holds .eq a b = true ∧ if_icmp.holds .ne a b = false := teq (Int32.toInt_inj.mp (by rw [ha, hb]; exact h))
theorem own_feq {a b : Int32} {x y : Int} (ha : a.toInt = x) (hb : b.toInt = y) (h : ¬ x = y) : if_icmp.holds .eq a b = false ∧ if_icmp.holds .ne a b = true := feq (fun q => h (by rw [← ha, ← hb, q]))
theorem own_if {cd : ClassFile.Cond} {x : Int32} {b : Bool} (h : if_icmp.holds cd x 0 = b) : ifCond.holds cd x = b := (if0 cd x).trans h
def own_EL : List (String × Nat) := [("com/example/path_template_matcher/pathtemplatematcher/PercentEncoding", 76)]
theorem own_EW {Z : State} {a0 : Array Value} (hw : ∀ d ∈ tables_1, d.before a0 Z = true) : EW Z a0 own_EL := (EW.cons (text := "-._~") (hw _ (List.mem_of_getElem? (i := 4) rfl)) (by decide) EW.nil)
theorem own_wS {Z : State} {a0 : Array Value} (hw : ∀ d ∈ tables_1, d.before a0 Z = true) : ∀ a ∈ Bundle.stringAtoms, a.before a0 Z = true := by
  intro a ha
  simp only [Bundle.stringAtoms, List.mem_cons, List.not_mem_nil, or_false] at ha
  rcases ha with rfl | rfl | rfl | rfl | rfl | rfl | rfl
  · exact (hw _ (List.mem_of_getElem? (i := 5) rfl))
  · exact (hw _ (List.mem_of_getElem? (i := 6) rfl))
  · exact (hw _ (List.mem_of_getElem? (i := 7) rfl))
  · exact (hw _ (List.mem_of_getElem? (i := 8) rfl))
  · exact (hw _ (List.mem_of_getElem? (i := 9) rfl))
  · exact (hw _ (List.mem_of_getElem? (i := 10) rfl))
  · exact (hw _ (List.mem_of_getElem? (i := 11) rfl))
theorem d6_0 : decode jdk_42_method_152_code 0 = .ok (.getstatic 38, 3) := by decide +kernel
theorem d6_3 : decode jdk_42_method_152_code 3 = .ok (.ifCond .eq 10, 3) := by decide +kernel
theorem d6_6 : decode jdk_42_method_152_code 6 = .ok (.aload_n 0, 1) := by decide +kernel
theorem d6_7 : decode jdk_42_method_152_code 7 = .ok (.getfield 15, 3) := by decide +kernel
theorem d6_10 : decode jdk_42_method_152_code 10 = .ok (.goto 4, 3) := by decide +kernel
theorem d6_14 : decode jdk_42_method_152_code 14 = .ok (.ireturn, 1) := by decide +kernel
theorem pn_0 : plainName "java/lang/String" = true := by first | (simp [plainName, overriddenIn]; done) | decide +kernel
theorem ef_rm6 (m : MethodId) (x0 : Addr) : entryFrame m #[(.ref x0)] 1 = mkF m 0 #[.val (.ref x0)] [] := by first | (simp [entryFrame, mkF, argsToLocals, Value.category]; done) | rfl
def Q6 (Z : State) (oa : Addr) (vcs : Int32) (ob : Addr) (kb : ClassId) (h0 : Heap) (n0 : Nat) (v : Option Value) (h : Heap) (L : List Loc) : Prop := ∃ z : Int32, v = some (.int z) ∧ (z = (0 : Int32)) ∧ Fr n0 L ∧ h = h0
set_option maxRecDepth 65536 in
set_option maxHeartbeats 40000000 in
theorem rm6 (l : Launch) (Z : State) (a0 : Array Value) (hw : ∀ d ∈ tables_1, d.before a0 Z = true) (ws : List Jvm.Cond) (oa : Addr) (vcs : Int32) (ob : Addr) (kb : ClassId) (h0 : Heap) (n0 : Nat) (Z0 : n0 ≤ h0.size) (Sc : Sta Z h0 "java/lang/String" "COMPACT_STRINGS" "Z" (.int vcs)) (ncs : ¬ vcs.toInt = 0) (Es : Exa Z h0 oa "java/lang/String") (Fc : Fld Z h0 oa "java/lang/String" "coder" "B" (.int 0)) (Fv : Fld Z h0 oa "java/lang/String" "value" "[B" (.ref ob)) (Vb : Arv Z h0 ob kb .byte (4 : Int32) [(.int (45 : Int32)), (.int (46 : Int32)), (.int (95 : Int32)), (.int (126 : Int32))] (.int (0 : Int32))) :
    MetFree l (⟨"java/lang/String", "coder", "()B"⟩ : MethodName) (head1 (Jvm.Cond.code (⟨"java/lang/String", "coder", "()B"⟩ : MethodName) jdk_42_method_152_code 1 (some .byte) :: ws) ({ frames := 0, cells := 0, slots := 0, locals := 0 } : Room)) (fun a U => a = #[(.ref oa)] ∧ Z.Warmed39 U.vm ∧ U.heap = h0) (fun _ _ _ _ _ => True) (fun _ U o U' => ∃ v L, o = .returned v ∧ Q6 Z oa vcs ob kb h0 n0 v U'.heap L ∧ FrameEnd U o U' L ({ frames := 0, cells := 0, slots := 0, locals := 0 } : Room).cells ({ frames := 0, cells := 0, slots := 0, locals := 0 } : Room).slots) := by
  refine MetFree.of_bodySF (plainFor_of_name pn_0) hisR ?_
  intro p e s m args below meth c s₁ Bd hml0 hP hK
  obtain ⟨rfl, hZ, hh⟩ := hP
  have hx := Bd.exec
  have hby := Bd.bytes
  have hml : c.maxLocals = 1 := hml0
  have hown : s.vm.findClass "java/lang/String" = some m.cls := findClass_of_methodNamed Bd.named
  have hnm := (name_of_methodNamed Bd.named Bd.method).1
  have X0 : Stand p l e ({ frames := 0, cells := 0, slots := 0, locals := 0 } : Room) s m #[(.ref oa)] below meth c s₁ [] 0 0 := Stand.of_body Bd
  have e0 : s₁.heap = h0 := by rw [← hh, Bd.state]; rfl
  have N0 := Fr.nil n0
  have pre0 : ∀ t, Steps p.tables e below (s₁.setTop (mkF m 0 #[.val (.ref oa)] [])) t → Steps p.tables e below (s₁.setTop (entryFrame m #[(.ref oa)] 1)) t := fun t k => castTop (ef_rm6 m oa) k
  obtain ⟨T1, X1, e1, st1⟩ := getS2 X0 hx hZ hown (host := "") (Or.inl (hw _ (List.mem_of_getElem? (i := 27) rfl))) Via.refl e0 Sc (g := (mkF m 0 #[.val (.ref oa)] [])) rfl (hb hby d6_0)
  have hc3_2 : ¬ (vcs.toInt = (0 : Int)) := by omega
  obtain ⟨T3, X3, e3, st3⟩ := getF X1 hx hZ hown (host := "") (Or.inl (hw _ (List.mem_of_getElem? (i := 28) rfl))) Via.refl e1 Fc (g := (mkF m 7 #[.val (.ref oa)] [(.ref oa)])) rfl rfl (hb hby d6_7)
  obtain ⟨fs, hr, hrun, hended, hW, hsame⟩ := X3.leave (v := some (.int (0 : Int32))) (fun h => by rw [Bd.returns] at h; cases h)
  refine ⟨_, _, pre0 _ ?_, hrun, hended, _, _, rfl, ?_, ⟨_, rfl⟩, hW, hsame.mono (by decide) (by decide)⟩
  · show Steps p.tables e below (s₁.setTop (mkF m 0 #[.val (.ref oa)] [])) _
    refine st1 _ ?_
    show Steps p.tables e below (T1.setTop (mkF m 3 #[.val (.ref oa)] [(.int vcs)])) _
    refine XS.ifNo X1.here hx rfl (hb hby d6_3) rfl (own_if (own_feq (a := vcs) (b := (0 : Int32)) rfl (by decide) hc3_2).1) ?_
    show Steps p.tables e below (T1.setTop (mkF m 6 #[.val (.ref oa)] [])) _
    refine XS.aloadN X1.here hx rfl (hb hby d6_6) rfl rfl ?_
    show Steps p.tables e below (T1.setTop (mkF m 7 #[.val (.ref oa)] [(.ref oa)])) _
    refine st3 _ ?_
    show Steps p.tables e below (T3.setTop (mkF m 10 #[.val (.ref oa)] [(.int (0 : Int32))])) _
    refine XS.goto X3.here hx rfl (pc0 := 10) (pc' := 14) rfl (hb hby d6_10) (by decide) (by decide) ?_
    show Steps p.tables e below (T3.setTop (mkF m 14 #[.val (.ref oa)] [(.int (0 : Int32))])) _
    exact retN X3 hx (t := .byte) Bd.returns (by simp) (hb hby d6_14) hr
  · show Q6 Z oa vcs ob kb h0 n0 _ T3.heap _
    rw [e3]
    exact ⟨_, rfl, rfl, N0, rfl⟩
theorem d4_0 : decode jdk_42_method_154_code 0 = .ok (.getstatic 38, 3) := by decide +kernel
theorem d4_3 : decode jdk_42_method_154_code 3 = .ok (.ifCond .eq 14, 3) := by decide +kernel
theorem d4_6 : decode jdk_42_method_154_code 6 = .ok (.aload_n 0, 1) := by decide +kernel
theorem d4_7 : decode jdk_42_method_154_code 7 = .ok (.getfield 15, 3) := by decide +kernel
theorem d4_10 : decode jdk_42_method_154_code 10 = .ok (.ifCond .ne 7, 3) := by decide +kernel
theorem d4_13 : decode jdk_42_method_154_code 13 = .ok (.iconst 1, 1) := by decide +kernel
theorem d4_14 : decode jdk_42_method_154_code 14 = .ok (.goto 4, 3) := by decide +kernel
theorem d4_18 : decode jdk_42_method_154_code 18 = .ok (.ireturn, 1) := by decide +kernel
theorem ef_rm4 (m : MethodId) (x0 : Addr) : entryFrame m #[(.ref x0)] 1 = mkF m 0 #[.val (.ref x0)] [] := by first | (simp [entryFrame, mkF, argsToLocals, Value.category]; done) | rfl
def Q4 (Z : State) (oa : Addr) (vcs : Int32) (ob : Addr) (kb : ClassId) (h0 : Heap) (n0 : Nat) (v : Option Value) (h : Heap) (L : List Loc) : Prop := ∃ z : Int32, v = some (.int z) ∧ (z = (1 : Int32)) ∧ Fr n0 L ∧ h = h0
set_option maxRecDepth 65536 in
set_option maxHeartbeats 40000000 in
theorem rm4 (l : Launch) (Z : State) (a0 : Array Value) (hw : ∀ d ∈ tables_1, d.before a0 Z = true) (ws : List Jvm.Cond) (oa : Addr) (vcs : Int32) (ob : Addr) (kb : ClassId) (h0 : Heap) (n0 : Nat) (Z0 : n0 ≤ h0.size) (Sc : Sta Z h0 "java/lang/String" "COMPACT_STRINGS" "Z" (.int vcs)) (ncs : ¬ vcs.toInt = 0) (Es : Exa Z h0 oa "java/lang/String") (Fc : Fld Z h0 oa "java/lang/String" "coder" "B" (.int 0)) (Fv : Fld Z h0 oa "java/lang/String" "value" "[B" (.ref ob)) (Vb : Arv Z h0 ob kb .byte (4 : Int32) [(.int (45 : Int32)), (.int (46 : Int32)), (.int (95 : Int32)), (.int (126 : Int32))] (.int (0 : Int32))) :
    MetFree l (⟨"java/lang/String", "isLatin1", "()Z"⟩ : MethodName) (head1 (Jvm.Cond.code (⟨"java/lang/String", "isLatin1", "()Z"⟩ : MethodName) jdk_42_method_154_code 1 (some .boolean) :: ws) ({ frames := 0, cells := 0, slots := 0, locals := 0 } : Room)) (fun a U => a = #[(.ref oa)] ∧ Z.Warmed39 U.vm ∧ U.heap = h0) (fun _ _ _ _ _ => True) (fun _ U o U' => ∃ v L, o = .returned v ∧ Q4 Z oa vcs ob kb h0 n0 v U'.heap L ∧ FrameEnd U o U' L ({ frames := 0, cells := 0, slots := 0, locals := 0 } : Room).cells ({ frames := 0, cells := 0, slots := 0, locals := 0 } : Room).slots) := by
  refine MetFree.of_bodySF (plainFor_of_name pn_0) hisR ?_
  intro p e s m args below meth c s₁ Bd hml0 hP hK
  obtain ⟨rfl, hZ, hh⟩ := hP
  have hx := Bd.exec
  have hby := Bd.bytes
  have hml : c.maxLocals = 1 := hml0
  have hown : s.vm.findClass "java/lang/String" = some m.cls := findClass_of_methodNamed Bd.named
  have hnm := (name_of_methodNamed Bd.named Bd.method).1
  have X0 : Stand p l e ({ frames := 0, cells := 0, slots := 0, locals := 0 } : Room) s m #[(.ref oa)] below meth c s₁ [] 0 0 := Stand.of_body Bd
  have e0 : s₁.heap = h0 := by rw [← hh, Bd.state]; rfl
  have N0 := Fr.nil n0
  have pre0 : ∀ t, Steps p.tables e below (s₁.setTop (mkF m 0 #[.val (.ref oa)] [])) t → Steps p.tables e below (s₁.setTop (entryFrame m #[(.ref oa)] 1)) t := fun t k => castTop (ef_rm4 m oa) k
  obtain ⟨T1, X1, e1, st1⟩ := getS2 X0 hx hZ hown (host := "") (Or.inl (hw _ (List.mem_of_getElem? (i := 27) rfl))) Via.refl e0 Sc (g := (mkF m 0 #[.val (.ref oa)] [])) rfl (hb hby d4_0)
  have hc3_2 : ¬ (vcs.toInt = (0 : Int)) := by omega
  obtain ⟨T3, X3, e3, st3⟩ := getF X1 hx hZ hown (host := "") (Or.inl (hw _ (List.mem_of_getElem? (i := 28) rfl))) Via.refl e1 Fc (g := (mkF m 7 #[.val (.ref oa)] [(.ref oa)])) rfl rfl (hb hby d4_7)
  have hc10_4 : (0 : Int) = (0 : Int) := by decide
  obtain ⟨fs, hr, hrun, hended, hW, hsame⟩ := X3.leave (v := some (.int (1 : Int32))) (fun h => by rw [Bd.returns] at h; cases h)
  refine ⟨_, _, pre0 _ ?_, hrun, hended, _, _, rfl, ?_, ⟨_, rfl⟩, hW, hsame.mono (by decide) (by decide)⟩
  · show Steps p.tables e below (s₁.setTop (mkF m 0 #[.val (.ref oa)] [])) _
    refine st1 _ ?_
    show Steps p.tables e below (T1.setTop (mkF m 3 #[.val (.ref oa)] [(.int vcs)])) _
    refine XS.ifNo X1.here hx rfl (hb hby d4_3) rfl (own_if (own_feq (a := vcs) (b := (0 : Int32)) rfl (by decide) hc3_2).1) ?_
    show Steps p.tables e below (T1.setTop (mkF m 6 #[.val (.ref oa)] [])) _
    refine XS.aloadN X1.here hx rfl (hb hby d4_6) rfl rfl ?_
    show Steps p.tables e below (T1.setTop (mkF m 7 #[.val (.ref oa)] [(.ref oa)])) _
    refine st3 _ ?_
    show Steps p.tables e below (T3.setTop (mkF m 10 #[.val (.ref oa)] [(.int (0 : Int32))])) _
    refine XS.ifNo X3.here hx rfl (hb hby d4_10) rfl (own_if (own_teq (a := (0 : Int32)) (b := (0 : Int32)) (by decide) (by decide) hc10_4).2) ?_
    show Steps p.tables e below (T3.setTop (mkF m 13 #[.val (.ref oa)] [])) _
    refine XS.iconst X3.here hx rfl (hb hby d4_13) ?_
    show Steps p.tables e below (T3.setTop (mkF m 14 #[.val (.ref oa)] [(.int (1 : Int32))])) _
    refine XS.goto X3.here hx rfl (pc0 := 14) (pc' := 18) rfl (hb hby d4_14) (by decide) (by decide) ?_
    show Steps p.tables e below (T3.setTop (mkF m 18 #[.val (.ref oa)] [(.int (1 : Int32))])) _
    exact retN X3 hx (t := .boolean) Bd.returns (by simp) (hb hby d4_18) hr
  · show Q4 Z oa vcs ob kb h0 n0 _ T3.heap _
    rw [e3]
    exact ⟨_, rfl, rfl, N0, rfl⟩
theorem d5_0 : decode jdk_42_method_54_code 0 = .ok (.aload_n 0, 1) := by decide +kernel
theorem d5_1 : decode jdk_42_method_54_code 1 = .ok (.getfield 9, 3) := by decide +kernel
theorem d5_4 : decode jdk_42_method_54_code 4 = .ok (.arraylength, 1) := by decide +kernel
theorem d5_5 : decode jdk_42_method_54_code 5 = .ok (.aload_n 0, 1) := by decide +kernel
theorem d5_6 : decode jdk_42_method_54_code 6 = .ok (.invokevirtual 335, 3) := by decide +kernel
theorem d5_9 : decode jdk_42_method_54_code 9 = .ok (.ishr, 1) := by decide +kernel
theorem d5_10 : decode jdk_42_method_54_code 10 = .ok (.ireturn, 1) := by decide +kernel
theorem ef_rm5 (m : MethodId) (x0 : Addr) : entryFrame m #[(.ref x0)] 1 = mkF m 0 #[.val (.ref x0)] [] := by first | (simp [entryFrame, mkF, argsToLocals, Value.category]; done) | rfl
theorem pd_0 : parseMethodDescriptor "()B" = some ⟨[], some .byte⟩ := by decide +kernel
def Q5 (Z : State) (oa : Addr) (vcs : Int32) (ob : Addr) (kb : ClassId) (h0 : Heap) (n0 : Nat) (v : Option Value) (h : Heap) (L : List Loc) : Prop := ∃ z : Int32, v = some (.int z) ∧ (z = (4 : Int32)) ∧ Fr n0 L ∧ h = h0
set_option maxRecDepth 65536 in
set_option maxHeartbeats 40000000 in
theorem rm5 (l : Launch) (Z : State) (a0 : Array Value) (hw : ∀ d ∈ tables_1, d.before a0 Z = true) (ws : List Jvm.Cond) (oa : Addr) (vcs : Int32) (ob : Addr) (kb : ClassId) (h0 : Heap) (n0 : Nat) (Z0 : n0 ≤ h0.size) (Sc : Sta Z h0 "java/lang/String" "COMPACT_STRINGS" "Z" (.int vcs)) (ncs : ¬ vcs.toInt = 0) (Es : Exa Z h0 oa "java/lang/String") (Fc : Fld Z h0 oa "java/lang/String" "coder" "B" (.int 0)) (Fv : Fld Z h0 oa "java/lang/String" "value" "[B" (.ref ob)) (Vb : Arv Z h0 ob kb .byte (4 : Int32) [(.int (45 : Int32)), (.int (46 : Int32)), (.int (95 : Int32)), (.int (126 : Int32))] (.int (0 : Int32))) :
    MetFree l (⟨"java/lang/String", "length", "()I"⟩ : MethodName) (head1 (Jvm.Cond.code (⟨"java/lang/String", "length", "()I"⟩ : MethodName) jdk_42_method_54_code 1 (some .int) :: ws) ({ frames := 1, cells := 0, slots := 0, locals := 13 } : Room)) (fun a U => a = #[(.ref oa)] ∧ Z.Warmed39 U.vm ∧ U.heap = h0) (fun _ _ _ _ _ => True) (fun _ U o U' => ∃ v L, o = .returned v ∧ Q5 Z oa vcs ob kb h0 n0 v U'.heap L ∧ FrameEnd U o U' L ({ frames := 1, cells := 0, slots := 0, locals := 13 } : Room).cells ({ frames := 1, cells := 0, slots := 0, locals := 13 } : Room).slots) := by
  refine MetFree.of_bodySF (plainFor_of_name pn_0) hisR ?_
  intro p e s m args below meth c s₁ Bd hml0 hP hK
  obtain ⟨rfl, hZ, hh⟩ := hP
  have hx := Bd.exec
  have hby := Bd.bytes
  have hml : c.maxLocals = 1 := hml0
  have hown : s.vm.findClass "java/lang/String" = some m.cls := findClass_of_methodNamed Bd.named
  have hnm := (name_of_methodNamed Bd.named Bd.method).1
  have X0 : Stand p l e ({ frames := 1, cells := 0, slots := 0, locals := 13 } : Room) s m #[(.ref oa)] below meth c s₁ [] 0 0 := Stand.of_body Bd
  have e0 : s₁.heap = h0 := by rw [← hh, Bd.state]; rfl
  have N0 := Fr.nil n0
  have pre0 : ∀ t, Steps p.tables e below (s₁.setTop (mkF m 0 #[.val (.ref oa)] [])) t → Steps p.tables e below (s₁.setTop (entryFrame m #[(.ref oa)] 1)) t := fun t k => castTop (ef_rm5 m oa) k
  obtain ⟨T1, X1, e1, st1⟩ := getF X0 hx hZ hown (host := "") (Or.inl (hw _ (List.mem_of_getElem? (i := 29) rfl))) Via.refl e0 Fv (g := (mkF m 1 #[.val (.ref oa)] [(.ref oa)])) rfl rfl (hb hby d5_1)
  obtain ⟨cl2, Ar2, q2, S2, M2, H2, G2⟩ := id Vb
  obtain ⟨cq3, kq3, q3a, q3b, q3c⟩ := isOf hZ e1 Es
  obtain ⟨_, _, ⟨T3, L3, k3, n3⟩, -, X3, ⟨Lc3, hQ3, l3, y3, z3⟩, st3⟩ := X1.virtualBack hx (y := (⟨"java/lang/String", "coder", "()B"⟩ : MethodName)) (z := (⟨"java/lang/String", "coder", "()B"⟩ : MethodName)) hown (mvT hZ (hw _ (List.mem_of_getElem? (i := 35) rfl))) (mvT hZ (hw _ (List.mem_of_getElem? (i := 36) rfl))) (notFace_of_selects (args := #[]) (mvT hZ (hw _ (List.mem_of_getElem? (i := 38) rfl)))) (mvT hZ (hw _ (List.mem_of_getElem? (i := 38) rfl))) (mvT hZ (hw _ (List.mem_of_getElem? (i := 37) rfl))) (by decide) (backOf (W := 1) (rm6 l Z a0 hw [] oa vcs ob kb h0 n0 Z0 Sc ncs Es Fc Fv Vb) hZ (hw _ (List.mem_of_getElem? (i := 39) rfl)) (hw _ (List.mem_of_getElem? (i := 5) rfl)) (by decide) (by decide)) q3a q3c (g := (mkF m 6 #[.val (.ref oa)] [(.ref oa), (.int (4 : Int32))])) rfl (by rw [hml]; rfl) (Steps.refl _) (argsL := []) (rest := [(.int (4 : Int32))]) (lenOf pd_0 rfl) rfl (by show 2 * 0 + _ ≤ _; exact Nat.le_of_eq rfl) (hb hby d5_6) (fun _ _ => ⟨rfl, e1, (by decide : 0 + 0 ≤ _), (by decide : 0 + 0 ≤ _)⟩)
  dsimp only [Pt.U, Pt.locs, Pt.cells, Pt.slots] at X3 l3 y3 z3 st3 hQ3
  subst l3 y3 z3
  obtain ⟨zc, rfl, hzc, N3q, e3⟩ := hQ3
  have N3 := Fr.app N0 N3q
  have pre4 : ∀ t, Steps p.tables e below (T3.setTop (mkF m 9 #[.val (.ref oa)] [(.int zc), (.int (4 : Int32))])) t → Steps p.tables e below (s₁.setTop (entryFrame m #[(.ref oa)] 1)) t := fun t kt => by
    refine pre0 _ ?_
    show Steps p.tables e below (s₁.setTop (mkF m 0 #[.val (.ref oa)] [])) _
    refine XS.aloadN X0.here hx rfl (hb hby d5_0) rfl rfl ?_
    show Steps p.tables e below (s₁.setTop (mkF m 1 #[.val (.ref oa)] [(.ref oa)])) _
    refine st1 _ ?_
    show Steps p.tables e below (T1.setTop (mkF m 4 #[.val (.ref oa)] [(.ref ob)])) _
    refine X1.arraylength hx (by rw [e1]; exact Ar2.1) (State.isArrayOf_alike hZ.alike Ar2.2.1) (g := (mkF m 4 #[.val (.ref oa)] [(.ref ob)])) rfl rfl (hb hby d5_4) _ ?_
    rw [len_of S2 M2]
    show Steps p.tables e below (T1.setTop (mkF m 5 #[.val (.ref oa)] [(.int (4 : Int32))])) _
    refine XS.aloadN X1.here hx rfl (hb hby d5_5) rfl rfl ?_
    show Steps p.tables e below (T1.setTop (mkF m 6 #[.val (.ref oa)] [(.ref oa), (.int (4 : Int32))])) _
    refine st3.trans ?_
    exact kt
  subst hzc
  have pre5 : ∀ t, Steps p.tables e below (T3.setTop (mkF m 9 #[.val (.ref oa)] [(.int (0 : Int32)), (.int (4 : Int32))])) t → Steps p.tables e below (s₁.setTop (entryFrame m #[(.ref oa)] 1)) t := pre4
  obtain ⟨fs, hr, hrun, hended, hW, hsame⟩ := X3.leave (v := some (.int (4 : Int32))) (fun h => by rw [Bd.returns] at h; cases h)
  refine ⟨_, _, pre5 _ ?_, hrun, hended, _, _, rfl, ?_, ⟨_, rfl⟩, hW, hsame.mono (by decide) (by decide)⟩
  · show Steps p.tables e below (T3.setTop (mkF m 9 #[.val (.ref oa)] [(.int (0 : Int32)), (.int (4 : Int32))])) _
    refine XS.ishr X3.here hx rfl (hb hby d5_9) rfl ?_
    show Steps p.tables e below (T3.setTop (mkF m 10 #[.val (.ref oa)] [(.int (4 : Int32))])) _
    exact retI X3 hx Bd.returns (hb hby d5_10) hr
  · show Q5 Z oa vcs ob kb h0 n0 _ T3.heap _
    rw [e3]
    exact ⟨_, rfl, rfl, N3, rfl⟩
theorem d8_0 : decode jdk_43_method_4_code 0 = .ok (.iload_n 0, 1) := by decide +kernel
theorem d8_1 : decode jdk_43_method_4_code 1 = .ok (.ifCond .lt 14, 3) := by decide +kernel
theorem d8_4 : decode jdk_43_method_4_code 4 = .ok (.iload_n 0, 1) := by decide +kernel
theorem d8_5 : decode jdk_43_method_4_code 5 = .ok (.sipush 255, 3) := by decide +kernel
theorem d8_8 : decode jdk_43_method_4_code 8 = .ok (.if_icmp .gt 7, 3) := by decide +kernel
theorem d8_11 : decode jdk_43_method_4_code 11 = .ok (.iconst 1, 1) := by decide +kernel
theorem d8_12 : decode jdk_43_method_4_code 12 = .ok (.goto 4, 3) := by decide +kernel
theorem d8_15 : decode jdk_43_method_4_code 15 = .ok (.iconst 0, 1) := by decide +kernel
theorem d8_16 : decode jdk_43_method_4_code 16 = .ok (.ireturn, 1) := by decide +kernel
theorem pn_1 : plainName "java/lang/StringLatin1" = true := by first | (simp [plainName, overriddenIn]; done) | decide +kernel
theorem ef_rm8 (m : MethodId) (x0 : Int32) : entryFrame m #[(.int x0)] 1 = mkF m 0 #[.val (.int x0)] [] := by first | (simp [entryFrame, mkF, argsToLocals, Value.category]; done) | rfl
def Q8 (Z : State) (vc : Int32) (h0 : Heap) (n0 : Nat) (v : Option Value) (h : Heap) (L : List Loc) : Prop := ∃ z : Int32, v = some (.int z) ∧ ((z = (1 : Int32) ∧ vc.toInt ≤ 255) ∨ (z = (0 : Int32) ∧ 255 < vc.toInt)) ∧ Fr n0 L ∧ h = h0
set_option maxRecDepth 65536 in
set_option maxHeartbeats 40000000 in
theorem rm8 (l : Launch) (Z : State) (a0 : Array Value) (hw : ∀ d ∈ tables_1, d.before a0 Z = true) (ws : List Jvm.Cond) (vc : Int32) (h0 : Heap) (n0 : Nat) (Z0 : n0 ≤ h0.size) (c1 : 0 ≤ vc.toInt) (c2 : vc.toInt < 65536) :
    MetFree l (⟨"java/lang/StringLatin1", "canEncode", "(I)Z"⟩ : MethodName) (head1 (Jvm.Cond.code (⟨"java/lang/StringLatin1", "canEncode", "(I)Z"⟩ : MethodName) jdk_43_method_4_code 1 (some .boolean) :: ws) ({ frames := 0, cells := 0, slots := 0, locals := 0 } : Room)) (fun a U => a = #[(.int vc)] ∧ Z.Warmed39 U.vm ∧ U.heap = h0) (fun _ _ _ _ _ => True) (fun _ U o U' => ∃ v L, o = .returned v ∧ Q8 Z vc h0 n0 v U'.heap L ∧ FrameEnd U o U' L ({ frames := 0, cells := 0, slots := 0, locals := 0 } : Room).cells ({ frames := 0, cells := 0, slots := 0, locals := 0 } : Room).slots) := by
  refine MetFree.of_bodySF (plainFor_of_name pn_1) hisR ?_
  intro p e s m args below meth c s₁ Bd hml0 hP hK
  obtain ⟨rfl, hZ, hh⟩ := hP
  have hx := Bd.exec
  have hby := Bd.bytes
  have hml : c.maxLocals = 1 := hml0
  have hown : s.vm.findClass "java/lang/StringLatin1" = some m.cls := findClass_of_methodNamed Bd.named
  have hnm := (name_of_methodNamed Bd.named Bd.method).1
  have X0 : Stand p l e ({ frames := 0, cells := 0, slots := 0, locals := 0 } : Room) s m #[(.int vc)] below meth c s₁ [] 0 0 := Stand.of_body Bd
  have e0 : s₁.heap = h0 := by rw [← hh, Bd.state]; rfl
  have N0 := Fr.nil n0
  have pre0 : ∀ t, Steps p.tables e below (s₁.setTop (mkF m 0 #[.val (.int vc)] [])) t → Steps p.tables e below (s₁.setTop (entryFrame m #[(.int vc)] 1)) t := fun t k => castTop (ef_rm8 m vc) k
  have hc1_1 : ¬ (vc.toInt < (0 : Int)) := by omega
  have pre3 : ∀ t, Steps p.tables e below (s₁.setTop (mkF m 8 #[.val (.int vc)] [(.int (255 : Int32)), (.int vc)])) t → Steps p.tables e below (s₁.setTop (entryFrame m #[(.int vc)] 1)) t := fun t kt => by
    refine pre0 _ ?_
    show Steps p.tables e below (s₁.setTop (mkF m 0 #[.val (.int vc)] [])) _
    refine XS.iloadN X0.here hx rfl (hb hby d8_0) rfl ?_
    show Steps p.tables e below (s₁.setTop (mkF m 1 #[.val (.int vc)] [(.int vc)])) _
    refine XS.ifNo X0.here hx rfl (hb hby d8_1) rfl (own_if (own_flt (a := vc) (b := (0 : Int32)) rfl (by decide) hc1_1).1) ?_
    show Steps p.tables e below (s₁.setTop (mkF m 4 #[.val (.int vc)] [])) _
    refine XS.iloadN X0.here hx rfl (hb hby d8_4) rfl ?_
    show Steps p.tables e below (s₁.setTop (mkF m 5 #[.val (.int vc)] [(.int vc)])) _
    refine XS.sipush X0.here hx rfl (hb hby d8_5) ?_
    exact kt
  by_cases hc8_2 : (255 : Int) < vc.toInt
  · obtain ⟨fs, hr, hrun, hended, hW, hsame⟩ := X0.leave (v := some (.int (0 : Int32))) (fun h => by rw [Bd.returns] at h; cases h)
    refine ⟨_, _, pre3 _ ?_, hrun, hended, _, _, rfl, ?_, ⟨_, rfl⟩, hW, hsame.mono (by decide) (by decide)⟩
    · show Steps p.tables e below (s₁.setTop (mkF m 8 #[.val (.int vc)] [(.int (255 : Int32)), (.int vc)])) _
      refine XS.icmpYes X0.here hx rfl (pc0 := 8) (pc' := 15) rfl (hb hby d8_8) rfl (own_tlt (a := (255 : Int32)) (b := vc) (by decide) rfl hc8_2).2.2.1 (by decide) (by decide) ?_
      show Steps p.tables e below (s₁.setTop (mkF m 15 #[.val (.int vc)] [])) _
      refine XS.iconst X0.here hx rfl (hb hby d8_15) ?_
      show Steps p.tables e below (s₁.setTop (mkF m 16 #[.val (.int vc)] [(.int (0 : Int32))])) _
      exact retN X0 hx (t := .boolean) Bd.returns (by simp) (hb hby d8_16) hr
    · show Q8 Z vc h0 n0 _ s₁.heap _
      rw [e0]
      exact ⟨_, rfl, Or.inr ⟨rfl, by omega⟩, N0, rfl⟩
  · obtain ⟨fs, hr, hrun, hended, hW, hsame⟩ := X0.leave (v := some (.int (1 : Int32))) (fun h => by rw [Bd.returns] at h; cases h)
    refine ⟨_, _, pre3 _ ?_, hrun, hended, _, _, rfl, ?_, ⟨_, rfl⟩, hW, hsame.mono (by decide) (by decide)⟩
    · show Steps p.tables e below (s₁.setTop (mkF m 8 #[.val (.int vc)] [(.int (255 : Int32)), (.int vc)])) _
      refine XS.icmpNo X0.here hx rfl (hb hby d8_8) rfl (own_flt (a := (255 : Int32)) (b := vc) (by decide) rfl hc8_2).2.2.1 ?_
      show Steps p.tables e below (s₁.setTop (mkF m 11 #[.val (.int vc)] [])) _
      refine XS.iconst X0.here hx rfl (hb hby d8_11) ?_
      show Steps p.tables e below (s₁.setTop (mkF m 12 #[.val (.int vc)] [(.int (1 : Int32))])) _
      refine XS.goto X0.here hx rfl (pc0 := 12) (pc' := 16) rfl (hb hby d8_12) (by decide) (by decide) ?_
      show Steps p.tables e below (s₁.setTop (mkF m 16 #[.val (.int vc)] [(.int (1 : Int32))])) _
      exact retN X0 hx (t := .boolean) Bd.returns (by simp) (hb hby d8_16) hr
    · show Q8 Z vc h0 n0 _ s₁.heap _
      rw [e0]
      exact ⟨_, rfl, Or.inl ⟨rfl, by omega⟩, N0, rfl⟩
theorem d9_0 : decode jdk_29_method_65_code 0 = .ok (.iload_n 0, 1) := by decide +kernel
theorem d9_1 : decode jdk_29_method_65_code 1 = .ok (.iload_n 1, 1) := by decide +kernel
theorem d9_2 : decode jdk_29_method_65_code 2 = .ok (.if_icmp .lt 7, 3) := by decide +kernel
theorem d9_5 : decode jdk_29_method_65_code 5 = .ok (.iload_n 0, 1) := by decide +kernel
theorem d9_6 : decode jdk_29_method_65_code 6 = .ok (.goto 4, 3) := by decide +kernel
theorem d9_10 : decode jdk_29_method_65_code 10 = .ok (.ireturn, 1) := by decide +kernel
theorem ef_rm9 (m : MethodId)  : entryFrame m #[(.int (0 : Int32)), (.int (0 : Int32))] 2 = mkF m 0 #[.val (.int (0 : Int32)), .val (.int (0 : Int32))] [] := by first | (simp [entryFrame, mkF, argsToLocals, Value.category]; done) | rfl
def Q9 (Z : State)  (h0 : Heap) (n0 : Nat) (v : Option Value) (h : Heap) (L : List Loc) : Prop := ∃ z : Int32, v = some (.int z) ∧ (z = (0 : Int32)) ∧ Fr n0 L ∧ h = h0
set_option maxRecDepth 65536 in
set_option maxHeartbeats 40000000 in
theorem rm9 (l : Launch) (Z : State) (a0 : Array Value) (hw : ∀ d ∈ tables_1, d.before a0 Z = true) (ws : List Jvm.Cond)  (h0 : Heap) (n0 : Nat) (Z0 : n0 ≤ h0.size) :
    MetFree l (⟨"java/lang/Math", "max", "(II)I"⟩ : MethodName) (head1 (Jvm.Cond.code (⟨"java/lang/Math", "max", "(II)I"⟩ : MethodName) jdk_29_method_65_code 2 (some .int) :: ws) ({ frames := 0, cells := 0, slots := 0, locals := 0 } : Room)) (fun a U => a = #[(.int (0 : Int32)), (.int (0 : Int32))] ∧ Z.Warmed39 U.vm ∧ U.heap = h0) (fun _ _ _ _ _ => True) (fun _ U o U' => ∃ v L, o = .returned v ∧ Q9 Z  h0 n0 v U'.heap L ∧ FrameEnd U o U' L ({ frames := 0, cells := 0, slots := 0, locals := 0 } : Room).cells ({ frames := 0, cells := 0, slots := 0, locals := 0 } : Room).slots) := by
  refine MetFree.of_bodySF (Jvm.Free.JP.mathPlain rfl (by decide +kernel)) hisR ?_
  intro p e s m args below meth c s₁ Bd hml0 hP hK
  obtain ⟨rfl, hZ, hh⟩ := hP
  have hx := Bd.exec
  have hby := Bd.bytes
  have hml : c.maxLocals = 2 := hml0
  have hown : s.vm.findClass "java/lang/Math" = some m.cls := findClass_of_methodNamed Bd.named
  have hnm := (name_of_methodNamed Bd.named Bd.method).1
  have X0 : Stand p l e ({ frames := 0, cells := 0, slots := 0, locals := 0 } : Room) s m #[(.int (0 : Int32)), (.int (0 : Int32))] below meth c s₁ [] 0 0 := Stand.of_body Bd
  have e0 : s₁.heap = h0 := by rw [← hh, Bd.state]; rfl
  have N0 := Fr.nil n0
  have pre0 : ∀ t, Steps p.tables e below (s₁.setTop (mkF m 0 #[.val (.int (0 : Int32)), .val (.int (0 : Int32))] [])) t → Steps p.tables e below (s₁.setTop (entryFrame m #[(.int (0 : Int32)), (.int (0 : Int32))] 2)) t := fun t k => castTop (ef_rm9 m ) k
  have hc2_1 : ¬ ((0 : Int) < (0 : Int)) := by decide
  obtain ⟨fs, hr, hrun, hended, hW, hsame⟩ := X0.leave (v := some (.int (0 : Int32))) (fun h => by rw [Bd.returns] at h; cases h)
  refine ⟨_, _, pre0 _ ?_, hrun, hended, _, _, rfl, ?_, ⟨_, rfl⟩, hW, hsame.mono (by decide) (by decide)⟩
  · show Steps p.tables e below (s₁.setTop (mkF m 0 #[.val (.int (0 : Int32)), .val (.int (0 : Int32))] [])) _
    refine XS.iloadN X0.here hx rfl (hb hby d9_0) rfl ?_
    show Steps p.tables e below (s₁.setTop (mkF m 1 #[.val (.int (0 : Int32)), .val (.int (0 : Int32))] [(.int (0 : Int32))])) _
    refine XS.iloadN X0.here hx rfl (hb hby d9_1) rfl ?_
    show Steps p.tables e below (s₁.setTop (mkF m 2 #[.val (.int (0 : Int32)), .val (.int (0 : Int32))] [(.int (0 : Int32)), (.int (0 : Int32))])) _
    refine XS.icmpNo X0.here hx rfl (hb hby d9_2) rfl (own_flt (a := (0 : Int32)) (b := (0 : Int32)) (by decide) (by decide) hc2_1).1 ?_
    show Steps p.tables e below (s₁.setTop (mkF m 5 #[.val (.int (0 : Int32)), .val (.int (0 : Int32))] [])) _
    refine XS.iloadN X0.here hx rfl (hb hby d9_5) rfl ?_
    show Steps p.tables e below (s₁.setTop (mkF m 6 #[.val (.int (0 : Int32)), .val (.int (0 : Int32))] [(.int (0 : Int32))])) _
    refine XS.goto X0.here hx rfl (pc0 := 6) (pc' := 10) rfl (hb hby d9_6) (by decide) (by decide) ?_
    show Steps p.tables e below (s₁.setTop (mkF m 10 #[.val (.int (0 : Int32)), .val (.int (0 : Int32))] [(.int (0 : Int32))])) _
    exact retI X0 hx Bd.returns (hb hby d9_10) hr
  · show Q9 Z  h0 n0 _ s₁.heap _
    rw [e0]
    exact ⟨_, rfl, rfl, N0, rfl⟩
theorem d10_0 : decode jdk_29_method_69_code 0 = .ok (.iload_n 0, 1) := by decide +kernel
theorem d10_1 : decode jdk_29_method_69_code 1 = .ok (.iload_n 1, 1) := by decide +kernel
theorem d10_2 : decode jdk_29_method_69_code 2 = .ok (.if_icmp .gt 7, 3) := by decide +kernel
theorem d10_5 : decode jdk_29_method_69_code 5 = .ok (.iload_n 0, 1) := by decide +kernel
theorem d10_6 : decode jdk_29_method_69_code 6 = .ok (.goto 4, 3) := by decide +kernel
theorem d10_10 : decode jdk_29_method_69_code 10 = .ok (.ireturn, 1) := by decide +kernel
theorem ef_rm10 (m : MethodId)  : entryFrame m #[(.int (4 : Int32)), (.int (4 : Int32))] 2 = mkF m 0 #[.val (.int (4 : Int32)), .val (.int (4 : Int32))] [] := by first | (simp [entryFrame, mkF, argsToLocals, Value.category]; done) | rfl
def Q10 (Z : State)  (h0 : Heap) (n0 : Nat) (v : Option Value) (h : Heap) (L : List Loc) : Prop := ∃ z : Int32, v = some (.int z) ∧ (z = (4 : Int32)) ∧ Fr n0 L ∧ h = h0
set_option maxRecDepth 65536 in
set_option maxHeartbeats 40000000 in
theorem rm10 (l : Launch) (Z : State) (a0 : Array Value) (hw : ∀ d ∈ tables_1, d.before a0 Z = true) (ws : List Jvm.Cond)  (h0 : Heap) (n0 : Nat) (Z0 : n0 ≤ h0.size) :
    MetFree l (⟨"java/lang/Math", "min", "(II)I"⟩ : MethodName) (head1 (Jvm.Cond.code (⟨"java/lang/Math", "min", "(II)I"⟩ : MethodName) jdk_29_method_69_code 2 (some .int) :: ws) ({ frames := 0, cells := 0, slots := 0, locals := 0 } : Room)) (fun a U => a = #[(.int (4 : Int32)), (.int (4 : Int32))] ∧ Z.Warmed39 U.vm ∧ U.heap = h0) (fun _ _ _ _ _ => True) (fun _ U o U' => ∃ v L, o = .returned v ∧ Q10 Z  h0 n0 v U'.heap L ∧ FrameEnd U o U' L ({ frames := 0, cells := 0, slots := 0, locals := 0 } : Room).cells ({ frames := 0, cells := 0, slots := 0, locals := 0 } : Room).slots) := by
  refine MetFree.of_bodySF (Jvm.Free.JP.mathPlain rfl (by decide +kernel)) hisR ?_
  intro p e s m args below meth c s₁ Bd hml0 hP hK
  obtain ⟨rfl, hZ, hh⟩ := hP
  have hx := Bd.exec
  have hby := Bd.bytes
  have hml : c.maxLocals = 2 := hml0
  have hown : s.vm.findClass "java/lang/Math" = some m.cls := findClass_of_methodNamed Bd.named
  have hnm := (name_of_methodNamed Bd.named Bd.method).1
  have X0 : Stand p l e ({ frames := 0, cells := 0, slots := 0, locals := 0 } : Room) s m #[(.int (4 : Int32)), (.int (4 : Int32))] below meth c s₁ [] 0 0 := Stand.of_body Bd
  have e0 : s₁.heap = h0 := by rw [← hh, Bd.state]; rfl
  have N0 := Fr.nil n0
  have pre0 : ∀ t, Steps p.tables e below (s₁.setTop (mkF m 0 #[.val (.int (4 : Int32)), .val (.int (4 : Int32))] [])) t → Steps p.tables e below (s₁.setTop (entryFrame m #[(.int (4 : Int32)), (.int (4 : Int32))] 2)) t := fun t k => castTop (ef_rm10 m ) k
  have hc2_1 : ¬ ((4 : Int) < (4 : Int)) := by decide
  obtain ⟨fs, hr, hrun, hended, hW, hsame⟩ := X0.leave (v := some (.int (4 : Int32))) (fun h => by rw [Bd.returns] at h; cases h)
  refine ⟨_, _, pre0 _ ?_, hrun, hended, _, _, rfl, ?_, ⟨_, rfl⟩, hW, hsame.mono (by decide) (by decide)⟩
  · show Steps p.tables e below (s₁.setTop (mkF m 0 #[.val (.int (4 : Int32)), .val (.int (4 : Int32))] [])) _
    refine XS.iloadN X0.here hx rfl (hb hby d10_0) rfl ?_
    show Steps p.tables e below (s₁.setTop (mkF m 1 #[.val (.int (4 : Int32)), .val (.int (4 : Int32))] [(.int (4 : Int32))])) _
    refine XS.iloadN X0.here hx rfl (hb hby d10_1) rfl ?_
    show Steps p.tables e below (s₁.setTop (mkF m 2 #[.val (.int (4 : Int32)), .val (.int (4 : Int32))] [(.int (4 : Int32)), (.int (4 : Int32))])) _
    refine XS.icmpNo X0.here hx rfl (hb hby d10_2) rfl (own_flt (a := (4 : Int32)) (b := (4 : Int32)) (by decide) (by decide) hc2_1).2.2.1 ?_
    show Steps p.tables e below (s₁.setTop (mkF m 5 #[.val (.int (4 : Int32)), .val (.int (4 : Int32))] [])) _
    refine XS.iloadN X0.here hx rfl (hb hby d10_5) rfl ?_
    show Steps p.tables e below (s₁.setTop (mkF m 6 #[.val (.int (4 : Int32)), .val (.int (4 : Int32))] [(.int (4 : Int32))])) _
    refine XS.goto X0.here hx rfl (pc0 := 6) (pc' := 10) rfl (hb hby d10_6) (by decide) (by decide) ?_
    show Steps p.tables e below (s₁.setTop (mkF m 10 #[.val (.int (4 : Int32)), .val (.int (4 : Int32))] [(.int (4 : Int32))])) _
    exact retI X0 hx Bd.returns (hb hby d10_10) hr
  · show Q10 Z  h0 n0 _ s₁.heap _
    rw [e0]
    exact ⟨_, rfl, rfl, N0, rfl⟩
theorem d11_0 : decode jdk_43_method_23_code 0 = .ok (.iload_n 1, 1) := by decide +kernel
theorem d11_1 : decode jdk_43_method_23_code 1 = .ok (.i2b, 1) := by decide +kernel
theorem d11_2 : decode jdk_43_method_23_code 2 = .ok (.istore 4, 2) := by decide +kernel
theorem d11_4 : decode jdk_43_method_23_code 4 = .ok (.iload_n 2, 1) := by decide +kernel
theorem d11_5 : decode jdk_43_method_23_code 5 = .ok (.istore 5, 2) := by decide +kernel
theorem d11_7 : decode jdk_43_method_23_code 7 = .ok (.iload 5, 2) := by decide +kernel
theorem d11_9 : decode jdk_43_method_23_code 9 = .ok (.iload_n 3, 1) := by decide +kernel
theorem d11_10 : decode jdk_43_method_23_code 10 = .ok (.if_icmp .ge 21, 3) := by decide +kernel
theorem d11_13 : decode jdk_43_method_23_code 13 = .ok (.aload_n 0, 1) := by decide +kernel
theorem d11_14 : decode jdk_43_method_23_code 14 = .ok (.iload 5, 2) := by decide +kernel
theorem d11_16 : decode jdk_43_method_23_code 16 = .ok (.baload, 1) := by decide +kernel
theorem d11_17 : decode jdk_43_method_23_code 17 = .ok (.iload 4, 2) := by decide +kernel
theorem d11_19 : decode jdk_43_method_23_code 19 = .ok (.if_icmp .ne 6, 3) := by decide +kernel
theorem d11_22 : decode jdk_43_method_23_code 22 = .ok (.iload 5, 2) := by decide +kernel
theorem d11_24 : decode jdk_43_method_23_code 24 = .ok (.ireturn, 1) := by decide +kernel
theorem d11_25 : decode jdk_43_method_23_code 25 = .ok (.iinc 5 1, 3) := by decide +kernel
theorem d11_28 : decode jdk_43_method_23_code 28 = .ok (.goto (-21), 3) := by decide +kernel
theorem d11_31 : decode jdk_43_method_23_code 31 = .ok (.iconst (-1), 1) := by decide +kernel
theorem d11_32 : decode jdk_43_method_23_code 32 = .ok (.ireturn, 1) := by decide +kernel
theorem ef_rm11 (m : MethodId) (x0 : Addr) (x1 : Int32) : entryFrame m #[(.ref x0), (.int x1), (.int (0 : Int32)), (.int (4 : Int32))] 6 = mkF m 0 #[.val (.ref x0), .val (.int x1), .val (.int (0 : Int32)), .val (.int (4 : Int32)), .unset, .unset] [] := by first | (simp [entryFrame, mkF, argsToLocals, Value.category]; done) | rfl
def Q11 (Z : State) (ob : Addr) (vc : Int32) (kb : ClassId) (h0 : Heap) (n0 : Nat) (v : Option Value) (h : Heap) (L : List Loc) : Prop := ∃ z : Int32, v = some (.int z) ∧ ((0 ≤ z.toInt ∧ (vc.toInt = 45 ∨ vc.toInt = 46 ∨ vc.toInt = 95 ∨ vc.toInt = 126)) ∨ (z.toInt < 0 ∧ ¬ (vc.toInt = 45 ∨ vc.toInt = 46 ∨ vc.toInt = 95 ∨ vc.toInt = 126))) ∧ Fr n0 L ∧ h = h0
set_option maxRecDepth 65536 in
set_option maxHeartbeats 40000000 in
theorem rm11 (l : Launch) (Z : State) (a0 : Array Value) (hw : ∀ d ∈ tables_1, d.before a0 Z = true) (ws : List Jvm.Cond) (ob : Addr) (vc : Int32) (kb : ClassId) (h0 : Heap) (n0 : Nat) (Z0 : n0 ≤ h0.size) (Vb : Arv Z h0 ob kb .byte (4 : Int32) [(.int (45 : Int32)), (.int (46 : Int32)), (.int (95 : Int32)), (.int (126 : Int32))] (.int (0 : Int32))) (c1 : 0 ≤ vc.toInt) (c2 : vc.toInt ≤ 255) :
    MetFree l (⟨"java/lang/StringLatin1", "indexOfChar", "([BIII)I"⟩ : MethodName) (head1 (Jvm.Cond.code (⟨"java/lang/StringLatin1", "indexOfChar", "([BIII)I"⟩ : MethodName) jdk_43_method_23_code 6 (some .int) :: ws) ({ frames := 0, cells := 0, slots := 0, locals := 0 } : Room)) (fun a U => a = #[(.ref ob), (.int vc), (.int (0 : Int32)), (.int (4 : Int32))] ∧ Z.Warmed39 U.vm ∧ U.heap = h0) (fun _ _ _ _ _ => True) (fun _ U o U' => ∃ v L, o = .returned v ∧ Q11 Z ob vc kb h0 n0 v U'.heap L ∧ FrameEnd U o U' L ({ frames := 0, cells := 0, slots := 0, locals := 0 } : Room).cells ({ frames := 0, cells := 0, slots := 0, locals := 0 } : Room).slots) := by
  refine MetFree.of_bodySF (plainFor_of_name pn_1) hisR ?_
  intro p e s m args below meth c s₁ Bd hml0 hP hK
  obtain ⟨rfl, hZ, hh⟩ := hP
  have hx := Bd.exec
  have hby := Bd.bytes
  have hml : c.maxLocals = 6 := hml0
  have hown : s.vm.findClass "java/lang/StringLatin1" = some m.cls := findClass_of_methodNamed Bd.named
  have hnm := (name_of_methodNamed Bd.named Bd.method).1
  have X0 : Stand p l e ({ frames := 0, cells := 0, slots := 0, locals := 0 } : Room) s m #[(.ref ob), (.int vc), (.int (0 : Int32)), (.int (4 : Int32))] below meth c s₁ [] 0 0 := Stand.of_body Bd
  have e0 : s₁.heap = h0 := by rw [← hh, Bd.state]; rfl
  have N0 := Fr.nil n0
  have pre0 : ∀ t, Steps p.tables e below (s₁.setTop (mkF m 0 #[.val (.ref ob), .val (.int vc), .val (.int (0 : Int32)), .val (.int (4 : Int32)), .unset, .unset] [])) t → Steps p.tables e below (s₁.setTop (entryFrame m #[(.ref ob), (.int vc), (.int (0 : Int32)), (.int (4 : Int32))] 6)) t := fun t k => castTop (ef_rm11 m ob vc) k
  have pre1 : ∀ t, Steps p.tables e below (s₁.setTop (mkF m 2 #[.val (.ref ob), .val (.int vc), .val (.int (0 : Int32)), .val (.int (4 : Int32)), .unset, .unset] [(.int (vc.toInt8.toInt32))])) t → Steps p.tables e below (s₁.setTop (entryFrame m #[(.ref ob), (.int vc), (.int (0 : Int32)), (.int (4 : Int32))] 6)) t := fun t kt => by
    refine pre0 _ ?_
    show Steps p.tables e below (s₁.setTop (mkF m 0 #[.val (.ref ob), .val (.int vc), .val (.int (0 : Int32)), .val (.int (4 : Int32)), .unset, .unset] [])) _
    refine XS.iloadN X0.here hx rfl (hb hby d11_0) rfl ?_
    show Steps p.tables e below (s₁.setTop (mkF m 1 #[.val (.ref ob), .val (.int vc), .val (.int (0 : Int32)), .val (.int (4 : Int32)), .unset, .unset] [(.int vc)])) _
    refine XS.i2b X0.here hx rfl (hb hby d11_1) rfl ?_
    exact kt
  obtain ⟨vb, hvb⟩ : ∃ z : Int32, z = (vc.toInt8.toInt32) := ⟨_, rfl⟩
  have jvb : (vc.toInt < 128 → vb.toInt = vc.toInt) ∧ (128 ≤ vc.toInt → vb.toInt = vc.toInt - 256) := by rw [hvb]; have := rng32 vc; have := c_i2b vc; omega
  have pre2 : ∀ t, Steps p.tables e below (s₁.setTop (mkF m 2 #[.val (.ref ob), .val (.int vc), .val (.int (0 : Int32)), .val (.int (4 : Int32)), .unset, .unset] [(.int vb)])) t → Steps p.tables e below (s₁.setTop (entryFrame m #[(.ref ob), (.int vc), (.int (0 : Int32)), (.int (4 : Int32))] 6)) t := by rw [hvb]; exact pre1
  have hc10_3 : (0 : Int) < (4 : Int) := by decide
  obtain ⟨cl4, Ar4, q4, S4, M4, H4, G4⟩ := id Vb
  have hin4 : ¬ ((0 : Int32) < 0 ∨ cl4.slots.size ≤ ((0 : Int32)).toNatClampNeg) := inb_of S4 ⟨by decide, by decide⟩
  have hat4 : cl4.slots[((0 : Int32)).toNatClampNeg]? = some (.int (45 : Int32)) := Has.at H4 hin4 rfl
  have pre6 : ∀ t, Steps p.tables e below (s₁.setTop (mkF m 19 #[.val (.ref ob), .val (.int vc), .val (.int (0 : Int32)), .val (.int (4 : Int32)), .val (.int vb), .val (.int (0 : Int32))] [(.int vb), (.int (45 : Int32))])) t → Steps p.tables e below (s₁.setTop (entryFrame m #[(.ref ob), (.int vc), (.int (0 : Int32)), (.int (4 : Int32))] 6)) t := fun t kt => by
    refine pre2 _ ?_
    show Steps p.tables e below (s₁.setTop (mkF m 2 #[.val (.ref ob), .val (.int vc), .val (.int (0 : Int32)), .val (.int (4 : Int32)), .unset, .unset] [(.int vb)])) _
    refine XS.istore X0.here hx rfl (hb hby d11_2) rfl (l' := #[.val (.ref ob), .val (.int vc), .val (.int (0 : Int32)), .val (.int (4 : Int32)), .val (.int vb), .unset]) rfl ?_
    show Steps p.tables e below (s₁.setTop (mkF m 4 #[.val (.ref ob), .val (.int vc), .val (.int (0 : Int32)), .val (.int (4 : Int32)), .val (.int vb), .unset] [])) _
    refine XS.iloadN X0.here hx rfl (hb hby d11_4) rfl ?_
    show Steps p.tables e below (s₁.setTop (mkF m 5 #[.val (.ref ob), .val (.int vc), .val (.int (0 : Int32)), .val (.int (4 : Int32)), .val (.int vb), .unset] [(.int (0 : Int32))])) _
    refine XS.istore X0.here hx rfl (hb hby d11_5) rfl (l' := #[.val (.ref ob), .val (.int vc), .val (.int (0 : Int32)), .val (.int (4 : Int32)), .val (.int vb), .val (.int (0 : Int32))]) rfl ?_
    show Steps p.tables e below (s₁.setTop (mkF m 7 #[.val (.ref ob), .val (.int vc), .val (.int (0 : Int32)), .val (.int (4 : Int32)), .val (.int vb), .val (.int (0 : Int32))] [])) _
    refine XS.iload X0.here hx rfl (hb hby d11_7) rfl ?_
    show Steps p.tables e below (s₁.setTop (mkF m 9 #[.val (.ref ob), .val (.int vc), .val (.int (0 : Int32)), .val (.int (4 : Int32)), .val (.int vb), .val (.int (0 : Int32))] [(.int (0 : Int32))])) _
    refine XS.iloadN X0.here hx rfl (hb hby d11_9) rfl ?_
    show Steps p.tables e below (s₁.setTop (mkF m 10 #[.val (.ref ob), .val (.int vc), .val (.int (0 : Int32)), .val (.int (4 : Int32)), .val (.int vb), .val (.int (0 : Int32))] [(.int (4 : Int32)), (.int (0 : Int32))])) _
    refine XS.icmpNo X0.here hx rfl (hb hby d11_10) rfl (own_tlt (a := (0 : Int32)) (b := (4 : Int32)) (by decide) (by decide) hc10_3).2.1 ?_
    show Steps p.tables e below (s₁.setTop (mkF m 13 #[.val (.ref ob), .val (.int vc), .val (.int (0 : Int32)), .val (.int (4 : Int32)), .val (.int vb), .val (.int (0 : Int32))] [])) _
    refine XS.aloadN X0.here hx rfl (hb hby d11_13) rfl rfl ?_
    show Steps p.tables e below (s₁.setTop (mkF m 14 #[.val (.ref ob), .val (.int vc), .val (.int (0 : Int32)), .val (.int (4 : Int32)), .val (.int vb), .val (.int (0 : Int32))] [(.ref ob)])) _
    refine XS.iload X0.here hx rfl (hb hby d11_14) rfl ?_
    show Steps p.tables e below (s₁.setTop (mkF m 16 #[.val (.ref ob), .val (.int vc), .val (.int (0 : Int32)), .val (.int (4 : Int32)), .val (.int vb), .val (.int (0 : Int32))] [(.int (0 : Int32)), (.ref ob)])) _
    refine X0.baloadBytes hx (j := (0 : Int32)) (v := (.int (45 : Int32))) (by rw [e0]; exact Ar4.1) (State.isArrayOf_alike hZ.alike Ar4.2.1) Ar4.2.2 hin4 hat4 (g := (mkF m 16 #[.val (.ref ob), .val (.int vc), .val (.int (0 : Int32)), .val (.int (4 : Int32)), .val (.int vb), .val (.int (0 : Int32))] [(.int (0 : Int32)), (.ref ob)])) rfl rfl (hb hby d11_16) _ ?_
    show Steps p.tables e below (s₁.setTop (mkF m 17 #[.val (.ref ob), .val (.int vc), .val (.int (0 : Int32)), .val (.int (4 : Int32)), .val (.int vb), .val (.int (0 : Int32))] [(.int (45 : Int32))])) _
    refine XS.iload X0.here hx rfl (hb hby d11_17) rfl ?_
    exact kt
  by_cases hc19_5 : (45 : Int) = vb.toInt
  · obtain ⟨fs, hr, hrun, hended, hW, hsame⟩ := X0.leave (v := some (.int (0 : Int32))) (fun h => by rw [Bd.returns] at h; cases h)
    refine ⟨_, _, pre6 _ ?_, hrun, hended, _, _, rfl, ?_, ⟨_, rfl⟩, hW, hsame.mono (by decide) (by decide)⟩
    · show Steps p.tables e below (s₁.setTop (mkF m 19 #[.val (.ref ob), .val (.int vc), .val (.int (0 : Int32)), .val (.int (4 : Int32)), .val (.int vb), .val (.int (0 : Int32))] [(.int vb), (.int (45 : Int32))])) _
      refine XS.icmpNo X0.here hx rfl (hb hby d11_19) rfl (own_teq (a := (45 : Int32)) (b := vb) (by decide) rfl hc19_5).2 ?_
      show Steps p.tables e below (s₁.setTop (mkF m 22 #[.val (.ref ob), .val (.int vc), .val (.int (0 : Int32)), .val (.int (4 : Int32)), .val (.int vb), .val (.int (0 : Int32))] [])) _
      refine XS.iload X0.here hx rfl (hb hby d11_22) rfl ?_
      show Steps p.tables e below (s₁.setTop (mkF m 24 #[.val (.ref ob), .val (.int vc), .val (.int (0 : Int32)), .val (.int (4 : Int32)), .val (.int vb), .val (.int (0 : Int32))] [(.int (0 : Int32))])) _
      exact retI X0 hx Bd.returns (hb hby d11_24) hr
    · show Q11 Z ob vc kb h0 n0 _ s₁.heap _
      rw [e0]
      exact ⟨_, rfl, by have iv : ((0 : Int32)).toInt = (0 : Int) := (by decide); omega, N0, rfl⟩
  · have hc10_7 : (1 : Int) < (4 : Int) := by decide
    obtain ⟨cl8, Ar8, q8, S8, M8, H8, G8⟩ := id Vb
    have hin8 : ¬ ((1 : Int32) < 0 ∨ cl8.slots.size ≤ ((1 : Int32)).toNatClampNeg) := inb_of S8 ⟨by decide, by decide⟩
    have hat8 : cl8.slots[((1 : Int32)).toNatClampNeg]? = some (.int (46 : Int32)) := Has.at H8 hin8 rfl
    have pre10 : ∀ t, Steps p.tables e below (s₁.setTop (mkF m 19 #[.val (.ref ob), .val (.int vc), .val (.int (0 : Int32)), .val (.int (4 : Int32)), .val (.int vb), .val (.int (1 : Int32))] [(.int vb), (.int (46 : Int32))])) t → Steps p.tables e below (s₁.setTop (entryFrame m #[(.ref ob), (.int vc), (.int (0 : Int32)), (.int (4 : Int32))] 6)) t := fun t kt => by
      refine pre6 _ ?_
      show Steps p.tables e below (s₁.setTop (mkF m 19 #[.val (.ref ob), .val (.int vc), .val (.int (0 : Int32)), .val (.int (4 : Int32)), .val (.int vb), .val (.int (0 : Int32))] [(.int vb), (.int (45 : Int32))])) _
      refine XS.icmpYes X0.here hx rfl (pc0 := 19) (pc' := 25) rfl (hb hby d11_19) rfl (own_feq (a := (45 : Int32)) (b := vb) (by decide) rfl hc19_5).2 (by decide) (by decide) ?_
      show Steps p.tables e below (s₁.setTop (mkF m 25 #[.val (.ref ob), .val (.int vc), .val (.int (0 : Int32)), .val (.int (4 : Int32)), .val (.int vb), .val (.int (0 : Int32))] [])) _
      refine XS.iinc X0.here hx rfl (hb hby d11_25) rfl (l' := #[.val (.ref ob), .val (.int vc), .val (.int (0 : Int32)), .val (.int (4 : Int32)), .val (.int vb), .val (.int (1 : Int32))]) rfl ?_
      show Steps p.tables e below (s₁.setTop (mkF m 28 #[.val (.ref ob), .val (.int vc), .val (.int (0 : Int32)), .val (.int (4 : Int32)), .val (.int vb), .val (.int (1 : Int32))] [])) _
      refine XS.goto X0.here hx rfl (pc0 := 28) (pc' := 7) rfl (hb hby d11_28) (by decide) (by decide) ?_
      show Steps p.tables e below (s₁.setTop (mkF m 7 #[.val (.ref ob), .val (.int vc), .val (.int (0 : Int32)), .val (.int (4 : Int32)), .val (.int vb), .val (.int (1 : Int32))] [])) _
      refine XS.iload X0.here hx rfl (hb hby d11_7) rfl ?_
      show Steps p.tables e below (s₁.setTop (mkF m 9 #[.val (.ref ob), .val (.int vc), .val (.int (0 : Int32)), .val (.int (4 : Int32)), .val (.int vb), .val (.int (1 : Int32))] [(.int (1 : Int32))])) _
      refine XS.iloadN X0.here hx rfl (hb hby d11_9) rfl ?_
      show Steps p.tables e below (s₁.setTop (mkF m 10 #[.val (.ref ob), .val (.int vc), .val (.int (0 : Int32)), .val (.int (4 : Int32)), .val (.int vb), .val (.int (1 : Int32))] [(.int (4 : Int32)), (.int (1 : Int32))])) _
      refine XS.icmpNo X0.here hx rfl (hb hby d11_10) rfl (own_tlt (a := (1 : Int32)) (b := (4 : Int32)) (by decide) (by decide) hc10_7).2.1 ?_
      show Steps p.tables e below (s₁.setTop (mkF m 13 #[.val (.ref ob), .val (.int vc), .val (.int (0 : Int32)), .val (.int (4 : Int32)), .val (.int vb), .val (.int (1 : Int32))] [])) _
      refine XS.aloadN X0.here hx rfl (hb hby d11_13) rfl rfl ?_
      show Steps p.tables e below (s₁.setTop (mkF m 14 #[.val (.ref ob), .val (.int vc), .val (.int (0 : Int32)), .val (.int (4 : Int32)), .val (.int vb), .val (.int (1 : Int32))] [(.ref ob)])) _
      refine XS.iload X0.here hx rfl (hb hby d11_14) rfl ?_
      show Steps p.tables e below (s₁.setTop (mkF m 16 #[.val (.ref ob), .val (.int vc), .val (.int (0 : Int32)), .val (.int (4 : Int32)), .val (.int vb), .val (.int (1 : Int32))] [(.int (1 : Int32)), (.ref ob)])) _
      refine X0.baloadBytes hx (j := (1 : Int32)) (v := (.int (46 : Int32))) (by rw [e0]; exact Ar8.1) (State.isArrayOf_alike hZ.alike Ar8.2.1) Ar8.2.2 hin8 hat8 (g := (mkF m 16 #[.val (.ref ob), .val (.int vc), .val (.int (0 : Int32)), .val (.int (4 : Int32)), .val (.int vb), .val (.int (1 : Int32))] [(.int (1 : Int32)), (.ref ob)])) rfl rfl (hb hby d11_16) _ ?_
      show Steps p.tables e below (s₁.setTop (mkF m 17 #[.val (.ref ob), .val (.int vc), .val (.int (0 : Int32)), .val (.int (4 : Int32)), .val (.int vb), .val (.int (1 : Int32))] [(.int (46 : Int32))])) _
      refine XS.iload X0.here hx rfl (hb hby d11_17) rfl ?_
      exact kt
    by_cases hc19_9 : (46 : Int) = vb.toInt
    · obtain ⟨fs, hr, hrun, hended, hW, hsame⟩ := X0.leave (v := some (.int (1 : Int32))) (fun h => by rw [Bd.returns] at h; cases h)
      refine ⟨_, _, pre10 _ ?_, hrun, hended, _, _, rfl, ?_, ⟨_, rfl⟩, hW, hsame.mono (by decide) (by decide)⟩
      · show Steps p.tables e below (s₁.setTop (mkF m 19 #[.val (.ref ob), .val (.int vc), .val (.int (0 : Int32)), .val (.int (4 : Int32)), .val (.int vb), .val (.int (1 : Int32))] [(.int vb), (.int (46 : Int32))])) _
        refine XS.icmpNo X0.here hx rfl (hb hby d11_19) rfl (own_teq (a := (46 : Int32)) (b := vb) (by decide) rfl hc19_9).2 ?_
        show Steps p.tables e below (s₁.setTop (mkF m 22 #[.val (.ref ob), .val (.int vc), .val (.int (0 : Int32)), .val (.int (4 : Int32)), .val (.int vb), .val (.int (1 : Int32))] [])) _
        refine XS.iload X0.here hx rfl (hb hby d11_22) rfl ?_
        show Steps p.tables e below (s₁.setTop (mkF m 24 #[.val (.ref ob), .val (.int vc), .val (.int (0 : Int32)), .val (.int (4 : Int32)), .val (.int vb), .val (.int (1 : Int32))] [(.int (1 : Int32))])) _
        exact retI X0 hx Bd.returns (hb hby d11_24) hr
      · show Q11 Z ob vc kb h0 n0 _ s₁.heap _
        rw [e0]
        exact ⟨_, rfl, by have iv : ((1 : Int32)).toInt = (1 : Int) := (by decide); omega, N0, rfl⟩
    · have hc10_11 : (2 : Int) < (4 : Int) := by decide
      obtain ⟨cl12, Ar12, q12, S12, M12, H12, G12⟩ := id Vb
      have hin12 : ¬ ((2 : Int32) < 0 ∨ cl12.slots.size ≤ ((2 : Int32)).toNatClampNeg) := inb_of S12 ⟨by decide, by decide⟩
      have hat12 : cl12.slots[((2 : Int32)).toNatClampNeg]? = some (.int (95 : Int32)) := Has.at H12 hin12 rfl
      have pre14 : ∀ t, Steps p.tables e below (s₁.setTop (mkF m 19 #[.val (.ref ob), .val (.int vc), .val (.int (0 : Int32)), .val (.int (4 : Int32)), .val (.int vb), .val (.int (2 : Int32))] [(.int vb), (.int (95 : Int32))])) t → Steps p.tables e below (s₁.setTop (entryFrame m #[(.ref ob), (.int vc), (.int (0 : Int32)), (.int (4 : Int32))] 6)) t := fun t kt => by
        refine pre10 _ ?_
        show Steps p.tables e below (s₁.setTop (mkF m 19 #[.val (.ref ob), .val (.int vc), .val (.int (0 : Int32)), .val (.int (4 : Int32)), .val (.int vb), .val (.int (1 : Int32))] [(.int vb), (.int (46 : Int32))])) _
        refine XS.icmpYes X0.here hx rfl (pc0 := 19) (pc' := 25) rfl (hb hby d11_19) rfl (own_feq (a := (46 : Int32)) (b := vb) (by decide) rfl hc19_9).2 (by decide) (by decide) ?_
        show Steps p.tables e below (s₁.setTop (mkF m 25 #[.val (.ref ob), .val (.int vc), .val (.int (0 : Int32)), .val (.int (4 : Int32)), .val (.int vb), .val (.int (1 : Int32))] [])) _
        refine XS.iinc X0.here hx rfl (hb hby d11_25) rfl (l' := #[.val (.ref ob), .val (.int vc), .val (.int (0 : Int32)), .val (.int (4 : Int32)), .val (.int vb), .val (.int (2 : Int32))]) rfl ?_
        show Steps p.tables e below (s₁.setTop (mkF m 28 #[.val (.ref ob), .val (.int vc), .val (.int (0 : Int32)), .val (.int (4 : Int32)), .val (.int vb), .val (.int (2 : Int32))] [])) _
        refine XS.goto X0.here hx rfl (pc0 := 28) (pc' := 7) rfl (hb hby d11_28) (by decide) (by decide) ?_
        show Steps p.tables e below (s₁.setTop (mkF m 7 #[.val (.ref ob), .val (.int vc), .val (.int (0 : Int32)), .val (.int (4 : Int32)), .val (.int vb), .val (.int (2 : Int32))] [])) _
        refine XS.iload X0.here hx rfl (hb hby d11_7) rfl ?_
        show Steps p.tables e below (s₁.setTop (mkF m 9 #[.val (.ref ob), .val (.int vc), .val (.int (0 : Int32)), .val (.int (4 : Int32)), .val (.int vb), .val (.int (2 : Int32))] [(.int (2 : Int32))])) _
        refine XS.iloadN X0.here hx rfl (hb hby d11_9) rfl ?_
        show Steps p.tables e below (s₁.setTop (mkF m 10 #[.val (.ref ob), .val (.int vc), .val (.int (0 : Int32)), .val (.int (4 : Int32)), .val (.int vb), .val (.int (2 : Int32))] [(.int (4 : Int32)), (.int (2 : Int32))])) _
        refine XS.icmpNo X0.here hx rfl (hb hby d11_10) rfl (own_tlt (a := (2 : Int32)) (b := (4 : Int32)) (by decide) (by decide) hc10_11).2.1 ?_
        show Steps p.tables e below (s₁.setTop (mkF m 13 #[.val (.ref ob), .val (.int vc), .val (.int (0 : Int32)), .val (.int (4 : Int32)), .val (.int vb), .val (.int (2 : Int32))] [])) _
        refine XS.aloadN X0.here hx rfl (hb hby d11_13) rfl rfl ?_
        show Steps p.tables e below (s₁.setTop (mkF m 14 #[.val (.ref ob), .val (.int vc), .val (.int (0 : Int32)), .val (.int (4 : Int32)), .val (.int vb), .val (.int (2 : Int32))] [(.ref ob)])) _
        refine XS.iload X0.here hx rfl (hb hby d11_14) rfl ?_
        show Steps p.tables e below (s₁.setTop (mkF m 16 #[.val (.ref ob), .val (.int vc), .val (.int (0 : Int32)), .val (.int (4 : Int32)), .val (.int vb), .val (.int (2 : Int32))] [(.int (2 : Int32)), (.ref ob)])) _
        refine X0.baloadBytes hx (j := (2 : Int32)) (v := (.int (95 : Int32))) (by rw [e0]; exact Ar12.1) (State.isArrayOf_alike hZ.alike Ar12.2.1) Ar12.2.2 hin12 hat12 (g := (mkF m 16 #[.val (.ref ob), .val (.int vc), .val (.int (0 : Int32)), .val (.int (4 : Int32)), .val (.int vb), .val (.int (2 : Int32))] [(.int (2 : Int32)), (.ref ob)])) rfl rfl (hb hby d11_16) _ ?_
        show Steps p.tables e below (s₁.setTop (mkF m 17 #[.val (.ref ob), .val (.int vc), .val (.int (0 : Int32)), .val (.int (4 : Int32)), .val (.int vb), .val (.int (2 : Int32))] [(.int (95 : Int32))])) _
        refine XS.iload X0.here hx rfl (hb hby d11_17) rfl ?_
        exact kt
      by_cases hc19_13 : (95 : Int) = vb.toInt
      · obtain ⟨fs, hr, hrun, hended, hW, hsame⟩ := X0.leave (v := some (.int (2 : Int32))) (fun h => by rw [Bd.returns] at h; cases h)
        refine ⟨_, _, pre14 _ ?_, hrun, hended, _, _, rfl, ?_, ⟨_, rfl⟩, hW, hsame.mono (by decide) (by decide)⟩
        · show Steps p.tables e below (s₁.setTop (mkF m 19 #[.val (.ref ob), .val (.int vc), .val (.int (0 : Int32)), .val (.int (4 : Int32)), .val (.int vb), .val (.int (2 : Int32))] [(.int vb), (.int (95 : Int32))])) _
          refine XS.icmpNo X0.here hx rfl (hb hby d11_19) rfl (own_teq (a := (95 : Int32)) (b := vb) (by decide) rfl hc19_13).2 ?_
          show Steps p.tables e below (s₁.setTop (mkF m 22 #[.val (.ref ob), .val (.int vc), .val (.int (0 : Int32)), .val (.int (4 : Int32)), .val (.int vb), .val (.int (2 : Int32))] [])) _
          refine XS.iload X0.here hx rfl (hb hby d11_22) rfl ?_
          show Steps p.tables e below (s₁.setTop (mkF m 24 #[.val (.ref ob), .val (.int vc), .val (.int (0 : Int32)), .val (.int (4 : Int32)), .val (.int vb), .val (.int (2 : Int32))] [(.int (2 : Int32))])) _
          exact retI X0 hx Bd.returns (hb hby d11_24) hr
        · show Q11 Z ob vc kb h0 n0 _ s₁.heap _
          rw [e0]
          exact ⟨_, rfl, by have iv : ((2 : Int32)).toInt = (2 : Int) := (by decide); omega, N0, rfl⟩
      · have hc10_15 : (3 : Int) < (4 : Int) := by decide
        obtain ⟨cl16, Ar16, q16, S16, M16, H16, G16⟩ := id Vb
        have hin16 : ¬ ((3 : Int32) < 0 ∨ cl16.slots.size ≤ ((3 : Int32)).toNatClampNeg) := inb_of S16 ⟨by decide, by decide⟩
        have hat16 : cl16.slots[((3 : Int32)).toNatClampNeg]? = some (.int (126 : Int32)) := Has.at H16 hin16 rfl
        have pre18 : ∀ t, Steps p.tables e below (s₁.setTop (mkF m 19 #[.val (.ref ob), .val (.int vc), .val (.int (0 : Int32)), .val (.int (4 : Int32)), .val (.int vb), .val (.int (3 : Int32))] [(.int vb), (.int (126 : Int32))])) t → Steps p.tables e below (s₁.setTop (entryFrame m #[(.ref ob), (.int vc), (.int (0 : Int32)), (.int (4 : Int32))] 6)) t := fun t kt => by
          refine pre14 _ ?_
          show Steps p.tables e below (s₁.setTop (mkF m 19 #[.val (.ref ob), .val (.int vc), .val (.int (0 : Int32)), .val (.int (4 : Int32)), .val (.int vb), .val (.int (2 : Int32))] [(.int vb), (.int (95 : Int32))])) _
          refine XS.icmpYes X0.here hx rfl (pc0 := 19) (pc' := 25) rfl (hb hby d11_19) rfl (own_feq (a := (95 : Int32)) (b := vb) (by decide) rfl hc19_13).2 (by decide) (by decide) ?_
          show Steps p.tables e below (s₁.setTop (mkF m 25 #[.val (.ref ob), .val (.int vc), .val (.int (0 : Int32)), .val (.int (4 : Int32)), .val (.int vb), .val (.int (2 : Int32))] [])) _
          refine XS.iinc X0.here hx rfl (hb hby d11_25) rfl (l' := #[.val (.ref ob), .val (.int vc), .val (.int (0 : Int32)), .val (.int (4 : Int32)), .val (.int vb), .val (.int (3 : Int32))]) rfl ?_
          show Steps p.tables e below (s₁.setTop (mkF m 28 #[.val (.ref ob), .val (.int vc), .val (.int (0 : Int32)), .val (.int (4 : Int32)), .val (.int vb), .val (.int (3 : Int32))] [])) _
          refine XS.goto X0.here hx rfl (pc0 := 28) (pc' := 7) rfl (hb hby d11_28) (by decide) (by decide) ?_
          show Steps p.tables e below (s₁.setTop (mkF m 7 #[.val (.ref ob), .val (.int vc), .val (.int (0 : Int32)), .val (.int (4 : Int32)), .val (.int vb), .val (.int (3 : Int32))] [])) _
          refine XS.iload X0.here hx rfl (hb hby d11_7) rfl ?_
          show Steps p.tables e below (s₁.setTop (mkF m 9 #[.val (.ref ob), .val (.int vc), .val (.int (0 : Int32)), .val (.int (4 : Int32)), .val (.int vb), .val (.int (3 : Int32))] [(.int (3 : Int32))])) _
          refine XS.iloadN X0.here hx rfl (hb hby d11_9) rfl ?_
          show Steps p.tables e below (s₁.setTop (mkF m 10 #[.val (.ref ob), .val (.int vc), .val (.int (0 : Int32)), .val (.int (4 : Int32)), .val (.int vb), .val (.int (3 : Int32))] [(.int (4 : Int32)), (.int (3 : Int32))])) _
          refine XS.icmpNo X0.here hx rfl (hb hby d11_10) rfl (own_tlt (a := (3 : Int32)) (b := (4 : Int32)) (by decide) (by decide) hc10_15).2.1 ?_
          show Steps p.tables e below (s₁.setTop (mkF m 13 #[.val (.ref ob), .val (.int vc), .val (.int (0 : Int32)), .val (.int (4 : Int32)), .val (.int vb), .val (.int (3 : Int32))] [])) _
          refine XS.aloadN X0.here hx rfl (hb hby d11_13) rfl rfl ?_
          show Steps p.tables e below (s₁.setTop (mkF m 14 #[.val (.ref ob), .val (.int vc), .val (.int (0 : Int32)), .val (.int (4 : Int32)), .val (.int vb), .val (.int (3 : Int32))] [(.ref ob)])) _
          refine XS.iload X0.here hx rfl (hb hby d11_14) rfl ?_
          show Steps p.tables e below (s₁.setTop (mkF m 16 #[.val (.ref ob), .val (.int vc), .val (.int (0 : Int32)), .val (.int (4 : Int32)), .val (.int vb), .val (.int (3 : Int32))] [(.int (3 : Int32)), (.ref ob)])) _
          refine X0.baloadBytes hx (j := (3 : Int32)) (v := (.int (126 : Int32))) (by rw [e0]; exact Ar16.1) (State.isArrayOf_alike hZ.alike Ar16.2.1) Ar16.2.2 hin16 hat16 (g := (mkF m 16 #[.val (.ref ob), .val (.int vc), .val (.int (0 : Int32)), .val (.int (4 : Int32)), .val (.int vb), .val (.int (3 : Int32))] [(.int (3 : Int32)), (.ref ob)])) rfl rfl (hb hby d11_16) _ ?_
          show Steps p.tables e below (s₁.setTop (mkF m 17 #[.val (.ref ob), .val (.int vc), .val (.int (0 : Int32)), .val (.int (4 : Int32)), .val (.int vb), .val (.int (3 : Int32))] [(.int (126 : Int32))])) _
          refine XS.iload X0.here hx rfl (hb hby d11_17) rfl ?_
          exact kt
        by_cases hc19_17 : (126 : Int) = vb.toInt
        · obtain ⟨fs, hr, hrun, hended, hW, hsame⟩ := X0.leave (v := some (.int (3 : Int32))) (fun h => by rw [Bd.returns] at h; cases h)
          refine ⟨_, _, pre18 _ ?_, hrun, hended, _, _, rfl, ?_, ⟨_, rfl⟩, hW, hsame.mono (by decide) (by decide)⟩
          · show Steps p.tables e below (s₁.setTop (mkF m 19 #[.val (.ref ob), .val (.int vc), .val (.int (0 : Int32)), .val (.int (4 : Int32)), .val (.int vb), .val (.int (3 : Int32))] [(.int vb), (.int (126 : Int32))])) _
            refine XS.icmpNo X0.here hx rfl (hb hby d11_19) rfl (own_teq (a := (126 : Int32)) (b := vb) (by decide) rfl hc19_17).2 ?_
            show Steps p.tables e below (s₁.setTop (mkF m 22 #[.val (.ref ob), .val (.int vc), .val (.int (0 : Int32)), .val (.int (4 : Int32)), .val (.int vb), .val (.int (3 : Int32))] [])) _
            refine XS.iload X0.here hx rfl (hb hby d11_22) rfl ?_
            show Steps p.tables e below (s₁.setTop (mkF m 24 #[.val (.ref ob), .val (.int vc), .val (.int (0 : Int32)), .val (.int (4 : Int32)), .val (.int vb), .val (.int (3 : Int32))] [(.int (3 : Int32))])) _
            exact retI X0 hx Bd.returns (hb hby d11_24) hr
          · show Q11 Z ob vc kb h0 n0 _ s₁.heap _
            rw [e0]
            exact ⟨_, rfl, by have iv : ((3 : Int32)).toInt = (3 : Int) := (by decide); omega, N0, rfl⟩
        · have hc10_19 : ¬ ((4 : Int) < (4 : Int)) := by decide
          obtain ⟨fs, hr, hrun, hended, hW, hsame⟩ := X0.leave (v := some (.int (-1 : Int32))) (fun h => by rw [Bd.returns] at h; cases h)
          refine ⟨_, _, pre18 _ ?_, hrun, hended, _, _, rfl, ?_, ⟨_, rfl⟩, hW, hsame.mono (by decide) (by decide)⟩
          · show Steps p.tables e below (s₁.setTop (mkF m 19 #[.val (.ref ob), .val (.int vc), .val (.int (0 : Int32)), .val (.int (4 : Int32)), .val (.int vb), .val (.int (3 : Int32))] [(.int vb), (.int (126 : Int32))])) _
            refine XS.icmpYes X0.here hx rfl (pc0 := 19) (pc' := 25) rfl (hb hby d11_19) rfl (own_feq (a := (126 : Int32)) (b := vb) (by decide) rfl hc19_17).2 (by decide) (by decide) ?_
            show Steps p.tables e below (s₁.setTop (mkF m 25 #[.val (.ref ob), .val (.int vc), .val (.int (0 : Int32)), .val (.int (4 : Int32)), .val (.int vb), .val (.int (3 : Int32))] [])) _
            refine XS.iinc X0.here hx rfl (hb hby d11_25) rfl (l' := #[.val (.ref ob), .val (.int vc), .val (.int (0 : Int32)), .val (.int (4 : Int32)), .val (.int vb), .val (.int (4 : Int32))]) rfl ?_
            show Steps p.tables e below (s₁.setTop (mkF m 28 #[.val (.ref ob), .val (.int vc), .val (.int (0 : Int32)), .val (.int (4 : Int32)), .val (.int vb), .val (.int (4 : Int32))] [])) _
            refine XS.goto X0.here hx rfl (pc0 := 28) (pc' := 7) rfl (hb hby d11_28) (by decide) (by decide) ?_
            show Steps p.tables e below (s₁.setTop (mkF m 7 #[.val (.ref ob), .val (.int vc), .val (.int (0 : Int32)), .val (.int (4 : Int32)), .val (.int vb), .val (.int (4 : Int32))] [])) _
            refine XS.iload X0.here hx rfl (hb hby d11_7) rfl ?_
            show Steps p.tables e below (s₁.setTop (mkF m 9 #[.val (.ref ob), .val (.int vc), .val (.int (0 : Int32)), .val (.int (4 : Int32)), .val (.int vb), .val (.int (4 : Int32))] [(.int (4 : Int32))])) _
            refine XS.iloadN X0.here hx rfl (hb hby d11_9) rfl ?_
            show Steps p.tables e below (s₁.setTop (mkF m 10 #[.val (.ref ob), .val (.int vc), .val (.int (0 : Int32)), .val (.int (4 : Int32)), .val (.int vb), .val (.int (4 : Int32))] [(.int (4 : Int32)), (.int (4 : Int32))])) _
            refine XS.icmpYes X0.here hx rfl (pc0 := 10) (pc' := 31) rfl (hb hby d11_10) rfl (own_flt (a := (4 : Int32)) (b := (4 : Int32)) (by decide) (by decide) hc10_19).2.1 (by decide) (by decide) ?_
            show Steps p.tables e below (s₁.setTop (mkF m 31 #[.val (.ref ob), .val (.int vc), .val (.int (0 : Int32)), .val (.int (4 : Int32)), .val (.int vb), .val (.int (4 : Int32))] [])) _
            refine XS.iconst X0.here hx rfl (hb hby d11_31) ?_
            show Steps p.tables e below (s₁.setTop (mkF m 32 #[.val (.ref ob), .val (.int vc), .val (.int (0 : Int32)), .val (.int (4 : Int32)), .val (.int vb), .val (.int (4 : Int32))] [(.int (-1 : Int32))])) _
            exact retI X0 hx Bd.returns (hb hby d11_32) hr
          · show Q11 Z ob vc kb h0 n0 _ s₁.heap _
            rw [e0]
            exact ⟨_, rfl, by have iv : ((-1 : Int32)).toInt = (-1 : Int) := (by decide); omega, N0, rfl⟩
theorem d7_0 : decode jdk_43_method_22_code 0 = .ok (.iload_n 1, 1) := by decide +kernel
theorem d7_1 : decode jdk_43_method_22_code 1 = .ok (.invokestatic 88, 3) := by decide +kernel
theorem d7_4 : decode jdk_43_method_22_code 4 = .ok (.ifCond .ne 5, 3) := by decide +kernel
theorem d7_7 : decode jdk_43_method_22_code 7 = .ok (.iconst (-1), 1) := by decide +kernel
theorem d7_8 : decode jdk_43_method_22_code 8 = .ok (.ireturn, 1) := by decide +kernel
theorem d7_9 : decode jdk_43_method_22_code 9 = .ok (.iload_n 2, 1) := by decide +kernel
theorem d7_10 : decode jdk_43_method_22_code 10 = .ok (.iconst 0, 1) := by decide +kernel
theorem d7_11 : decode jdk_43_method_22_code 11 = .ok (.invokestatic 92, 3) := by decide +kernel
theorem d7_14 : decode jdk_43_method_22_code 14 = .ok (.istore_n 2, 1) := by decide +kernel
theorem d7_15 : decode jdk_43_method_22_code 15 = .ok (.iload_n 3, 1) := by decide +kernel
theorem d7_16 : decode jdk_43_method_22_code 16 = .ok (.aload_n 0, 1) := by decide +kernel
theorem d7_17 : decode jdk_43_method_22_code 17 = .ok (.arraylength, 1) := by decide +kernel
theorem d7_18 : decode jdk_43_method_22_code 18 = .ok (.invokestatic 38, 3) := by decide +kernel
theorem d7_21 : decode jdk_43_method_22_code 21 = .ok (.istore_n 3, 1) := by decide +kernel
theorem d7_22 : decode jdk_43_method_22_code 22 = .ok (.iload_n 2, 1) := by decide +kernel
theorem d7_23 : decode jdk_43_method_22_code 23 = .ok (.iload_n 3, 1) := by decide +kernel
theorem d7_24 : decode jdk_43_method_22_code 24 = .ok (.if_icmp .lt 5, 3) := by decide +kernel
theorem d7_29 : decode jdk_43_method_22_code 29 = .ok (.aload_n 0, 1) := by decide +kernel
theorem d7_30 : decode jdk_43_method_22_code 30 = .ok (.iload_n 1, 1) := by decide +kernel
theorem d7_31 : decode jdk_43_method_22_code 31 = .ok (.iload_n 2, 1) := by decide +kernel
theorem d7_32 : decode jdk_43_method_22_code 32 = .ok (.iload_n 3, 1) := by decide +kernel
theorem d7_33 : decode jdk_43_method_22_code 33 = .ok (.invokestatic 95, 3) := by decide +kernel
theorem d7_36 : decode jdk_43_method_22_code 36 = .ok (.ireturn, 1) := by decide +kernel
theorem ef_rm7 (m : MethodId) (x0 : Addr) (x1 : Int32) : entryFrame m #[(.ref x0), (.int x1), (.int (0 : Int32)), (.int (4 : Int32))] 4 = mkF m 0 #[.val (.ref x0), .val (.int x1), .val (.int (0 : Int32)), .val (.int (4 : Int32))] [] := by first | (simp [entryFrame, mkF, argsToLocals, Value.category]; done) | rfl
theorem pd_1 : parseMethodDescriptor "(I)Z" = some ⟨[.int], some .boolean⟩ := by decide +kernel
theorem pd_2 : parseMethodDescriptor "(II)I" = some ⟨[.int, .int], some .int⟩ := by decide +kernel
theorem pd_3 : parseMethodDescriptor "([BIII)I" = some ⟨[(.array .byte), .int, .int, .int], some .int⟩ := by decide +kernel
def Q7 (Z : State) (ob : Addr) (vc : Int32) (kb : ClassId) (h0 : Heap) (n0 : Nat) (v : Option Value) (h : Heap) (L : List Loc) : Prop := ∃ z : Int32, v = some (.int z) ∧ ((0 ≤ z.toInt ∧ (vc.toInt = 45 ∨ vc.toInt = 46 ∨ vc.toInt = 95 ∨ vc.toInt = 126)) ∨ (z.toInt < 0 ∧ ¬ (vc.toInt = 45 ∨ vc.toInt = 46 ∨ vc.toInt = 95 ∨ vc.toInt = 126))) ∧ Fr n0 L ∧ h = h0
set_option maxRecDepth 65536 in
set_option maxHeartbeats 40000000 in
theorem rm7 (l : Launch) (Z : State) (a0 : Array Value) (hw : ∀ d ∈ tables_1, d.before a0 Z = true) (ws : List Jvm.Cond) (ob : Addr) (vc : Int32) (kb : ClassId) (h0 : Heap) (n0 : Nat) (Z0 : n0 ≤ h0.size) (Vb : Arv Z h0 ob kb .byte (4 : Int32) [(.int (45 : Int32)), (.int (46 : Int32)), (.int (95 : Int32)), (.int (126 : Int32))] (.int (0 : Int32))) (c1 : 0 ≤ vc.toInt) (c2 : vc.toInt < 65536) :
    MetFree l (⟨"java/lang/StringLatin1", "indexOf", "([BIII)I"⟩ : MethodName) (head1 (Jvm.Cond.code (⟨"java/lang/StringLatin1", "indexOf", "([BIII)I"⟩ : MethodName) jdk_43_method_22_code 4 (some .int) :: ws) ({ frames := 1, cells := 0, slots := 0, locals := 17 } : Room)) (fun a U => a = #[(.ref ob), (.int vc), (.int (0 : Int32)), (.int (4 : Int32))] ∧ Z.Warmed39 U.vm ∧ U.heap = h0) (fun _ _ _ _ _ => True) (fun _ U o U' => ∃ v L, o = .returned v ∧ Q7 Z ob vc kb h0 n0 v U'.heap L ∧ FrameEnd U o U' L ({ frames := 1, cells := 0, slots := 0, locals := 17 } : Room).cells ({ frames := 1, cells := 0, slots := 0, locals := 17 } : Room).slots) := by
  refine MetFree.of_bodySF (plainFor_of_name pn_1) hisR ?_
  intro p e s m args below meth c s₁ Bd hml0 hP hK
  obtain ⟨rfl, hZ, hh⟩ := hP
  have hx := Bd.exec
  have hby := Bd.bytes
  have hml : c.maxLocals = 4 := hml0
  have hown : s.vm.findClass "java/lang/StringLatin1" = some m.cls := findClass_of_methodNamed Bd.named
  have hnm := (name_of_methodNamed Bd.named Bd.method).1
  have X0 : Stand p l e ({ frames := 1, cells := 0, slots := 0, locals := 17 } : Room) s m #[(.ref ob), (.int vc), (.int (0 : Int32)), (.int (4 : Int32))] below meth c s₁ [] 0 0 := Stand.of_body Bd
  have e0 : s₁.heap = h0 := by rw [← hh, Bd.state]; rfl
  have N0 := Fr.nil n0
  have pre0 : ∀ t, Steps p.tables e below (s₁.setTop (mkF m 0 #[.val (.ref ob), .val (.int vc), .val (.int (0 : Int32)), .val (.int (4 : Int32))] [])) t → Steps p.tables e below (s₁.setTop (entryFrame m #[(.ref ob), (.int vc), (.int (0 : Int32)), (.int (4 : Int32))] 4)) t := fun t k => castTop (ef_rm7 m ob vc) k
  obtain ⟨_, _, ⟨T1, L1, k1, n1⟩, -, X1, ⟨Lc1, hQ1, l1, y1, z1⟩, st1⟩ := Jvm.LawKit.callS X0 hx (y := (⟨"java/lang/StringLatin1", "canEncode", "(I)Z"⟩ : MethodName)) hown (mvT hZ (hw _ (List.mem_of_getElem? (i := 44) rfl))) (mvT hZ (hw _ (List.mem_of_getElem? (i := 45) rfl))) (mvT hZ (hw _ (List.mem_of_getElem? (i := 42) rfl))) (mvT hZ (hw _ (List.mem_of_getElem? (i := 46) rfl))) (by decide) (backOf (W := 0) (rm8 l Z a0 hw [] vc h0 n0 Z0 c1 c2) hZ (hw _ (List.mem_of_getElem? (i := 46) rfl)) (hw _ (List.mem_of_getElem? (i := 42) rfl)) (by decide) (by decide)) (g := (mkF m 1 #[.val (.ref ob), .val (.int vc), .val (.int (0 : Int32)), .val (.int (4 : Int32))] [(.int vc)])) rfl (by rw [hml]; rfl) (argsL := [(.int vc)]) (rest := []) (lenOf pd_1 rfl) rfl (by show 2 * 0 + _ ≤ _; exact Nat.le_of_eq rfl) (hb hby d7_1) (fun _ _ => ⟨rfl, e0, (by decide : 0 + 0 ≤ _), (by decide : 0 + 0 ≤ _)⟩)
  dsimp only [Pt.U, Pt.locs, Pt.cells, Pt.slots] at X1 l1 y1 z1 st1 hQ1
  subst l1 y1 z1
  obtain ⟨ze, rfl, hze, N1q, e1⟩ := hQ1
  have N1 := Fr.app N0 N1q
  have pre2 : ∀ t, Steps p.tables e below (T1.setTop (mkF m 4 #[.val (.ref ob), .val (.int vc), .val (.int (0 : Int32)), .val (.int (4 : Int32))] [(.int ze)])) t → Steps p.tables e below (s₁.setTop (entryFrame m #[(.ref ob), (.int vc), (.int (0 : Int32)), (.int (4 : Int32))] 4)) t := fun t kt => by
    refine pre0 _ ?_
    show Steps p.tables e below (s₁.setTop (mkF m 0 #[.val (.ref ob), .val (.int vc), .val (.int (0 : Int32)), .val (.int (4 : Int32))] [])) _
    refine XS.iloadN X0.here hx rfl (hb hby d7_0) rfl ?_
    show Steps p.tables e below (s₁.setTop (mkF m 1 #[.val (.ref ob), .val (.int vc), .val (.int (0 : Int32)), .val (.int (4 : Int32))] [(.int vc)])) _
    refine st1 _ ?_
    exact kt
  rcases hze with ⟨rfl, hce⟩ | ⟨rfl, hce⟩
  · have pre3 : ∀ t, Steps p.tables e below (T1.setTop (mkF m 4 #[.val (.ref ob), .val (.int vc), .val (.int (0 : Int32)), .val (.int (4 : Int32))] [(.int (1 : Int32))])) t → Steps p.tables e below (s₁.setTop (entryFrame m #[(.ref ob), (.int vc), (.int (0 : Int32)), (.int (4 : Int32))] 4)) t := pre2
    have hc4_4 : ¬ ((1 : Int) = (0 : Int)) := by decide
    obtain ⟨_, _, ⟨T5, L5, k5, n5⟩, -, X5, ⟨Lc5, hQ5, l5, y5, z5⟩, st5⟩ := Jvm.LawKit.callS X1 hx (y := (⟨"java/lang/Math", "max", "(II)I"⟩ : MethodName)) hown (mvT hZ (hw _ (List.mem_of_getElem? (i := 47) rfl))) (mvT hZ (hw _ (List.mem_of_getElem? (i := 48) rfl))) (mvT hZ (hw _ (List.mem_of_getElem? (i := 49) rfl))) (mvT hZ (hw _ (List.mem_of_getElem? (i := 50) rfl))) (by decide) (backOf (W := 0) (rm9 l Z a0 hw []  h0 n0 Z0 ) hZ (hw _ (List.mem_of_getElem? (i := 50) rfl)) (hw _ (List.mem_of_getElem? (i := 49) rfl)) (by decide) (by decide)) (g := (mkF m 11 #[.val (.ref ob), .val (.int vc), .val (.int (0 : Int32)), .val (.int (4 : Int32))] [(.int (0 : Int32)), (.int (0 : Int32))])) rfl (by rw [hml]; rfl) (argsL := [(.int (0 : Int32)), (.int (0 : Int32))]) (rest := []) (lenOf pd_2 rfl) rfl (by show 2 * 0 + _ ≤ _; exact Nat.le_of_eq rfl) (hb hby d7_11) (fun _ _ => ⟨rfl, e1, (by decide : 0 + 0 ≤ _), (by decide : 0 + 0 ≤ _)⟩)
    dsimp only [Pt.U, Pt.locs, Pt.cells, Pt.slots] at X5 l5 y5 z5 st5 hQ5
    subst l5 y5 z5
    obtain ⟨zm, rfl, hzm, N5q, e5⟩ := hQ5
    have N5 := Fr.app N1 N5q
    have pre6 : ∀ t, Steps p.tables e below (T5.setTop (mkF m 14 #[.val (.ref ob), .val (.int vc), .val (.int (0 : Int32)), .val (.int (4 : Int32))] [(.int zm)])) t → Steps p.tables e below (s₁.setTop (entryFrame m #[(.ref ob), (.int vc), (.int (0 : Int32)), (.int (4 : Int32))] 4)) t := fun t kt => by
      refine pre3 _ ?_
      show Steps p.tables e below (T1.setTop (mkF m 4 #[.val (.ref ob), .val (.int vc), .val (.int (0 : Int32)), .val (.int (4 : Int32))] [(.int (1 : Int32))])) _
      refine XS.ifYes X1.here hx rfl (pc0 := 4) (pc' := 9) rfl (hb hby d7_4) rfl (own_if (own_feq (a := (1 : Int32)) (b := (0 : Int32)) (by decide) (by decide) hc4_4).2) (by decide) (by decide) ?_
      show Steps p.tables e below (T1.setTop (mkF m 9 #[.val (.ref ob), .val (.int vc), .val (.int (0 : Int32)), .val (.int (4 : Int32))] [])) _
      refine XS.iloadN X1.here hx rfl (hb hby d7_9) rfl ?_
      show Steps p.tables e below (T1.setTop (mkF m 10 #[.val (.ref ob), .val (.int vc), .val (.int (0 : Int32)), .val (.int (4 : Int32))] [(.int (0 : Int32))])) _
      refine XS.iconst X1.here hx rfl (hb hby d7_10) ?_
      show Steps p.tables e below (T1.setTop (mkF m 11 #[.val (.ref ob), .val (.int vc), .val (.int (0 : Int32)), .val (.int (4 : Int32))] [(.int (0 : Int32)), (.int (0 : Int32))])) _
      refine st5 _ ?_
      exact kt
    subst hzm
    have pre7 : ∀ t, Steps p.tables e below (T5.setTop (mkF m 14 #[.val (.ref ob), .val (.int vc), .val (.int (0 : Int32)), .val (.int (4 : Int32))] [(.int (0 : Int32))])) t → Steps p.tables e below (s₁.setTop (entryFrame m #[(.ref ob), (.int vc), (.int (0 : Int32)), (.int (4 : Int32))] 4)) t := pre6
    obtain ⟨cl8, Ar8, q8, S8, M8, H8, G8⟩ := id Vb
    obtain ⟨_, _, ⟨T9, L9, k9, n9⟩, -, X9, ⟨Lc9, hQ9, l9, y9, z9⟩, st9⟩ := Jvm.LawKit.callS X5 hx (y := (⟨"java/lang/Math", "min", "(II)I"⟩ : MethodName)) hown (mvT hZ (hw _ (List.mem_of_getElem? (i := 51) rfl))) (mvT hZ (hw _ (List.mem_of_getElem? (i := 52) rfl))) (mvT hZ (hw _ (List.mem_of_getElem? (i := 49) rfl))) (mvT hZ (hw _ (List.mem_of_getElem? (i := 53) rfl))) (by decide) (backOf (W := 0) (rm10 l Z a0 hw []  h0 n0 Z0 ) hZ (hw _ (List.mem_of_getElem? (i := 53) rfl)) (hw _ (List.mem_of_getElem? (i := 49) rfl)) (by decide) (by decide)) (g := (mkF m 18 #[.val (.ref ob), .val (.int vc), .val (.int (0 : Int32)), .val (.int (4 : Int32))] [(.int (4 : Int32)), (.int (4 : Int32))])) rfl (by rw [hml]; rfl) (argsL := [(.int (4 : Int32)), (.int (4 : Int32))]) (rest := []) (lenOf pd_2 rfl) rfl (by show 2 * 0 + _ ≤ _; exact Nat.le_of_eq rfl) (hb hby d7_18) (fun _ _ => ⟨rfl, e5, (by decide : 0 + 0 ≤ _), (by decide : 0 + 0 ≤ _)⟩)
    dsimp only [Pt.U, Pt.locs, Pt.cells, Pt.slots] at X9 l9 y9 z9 st9 hQ9
    subst l9 y9 z9
    obtain ⟨zn, rfl, hzn, N9q, e9⟩ := hQ9
    have N9 := Fr.app N5 N9q
    have pre10 : ∀ t, Steps p.tables e below (T9.setTop (mkF m 21 #[.val (.ref ob), .val (.int vc), .val (.int (0 : Int32)), .val (.int (4 : Int32))] [(.int zn)])) t → Steps p.tables e below (s₁.setTop (entryFrame m #[(.ref ob), (.int vc), (.int (0 : Int32)), (.int (4 : Int32))] 4)) t := fun t kt => by
      refine pre7 _ ?_
      show Steps p.tables e below (T5.setTop (mkF m 14 #[.val (.ref ob), .val (.int vc), .val (.int (0 : Int32)), .val (.int (4 : Int32))] [(.int (0 : Int32))])) _
      refine XS.istoreN X5.here hx rfl (hb hby d7_14) rfl (l' := #[.val (.ref ob), .val (.int vc), .val (.int (0 : Int32)), .val (.int (4 : Int32))]) rfl ?_
      show Steps p.tables e below (T5.setTop (mkF m 15 #[.val (.ref ob), .val (.int vc), .val (.int (0 : Int32)), .val (.int (4 : Int32))] [])) _
      refine XS.iloadN X5.here hx rfl (hb hby d7_15) rfl ?_
      show Steps p.tables e below (T5.setTop (mkF m 16 #[.val (.ref ob), .val (.int vc), .val (.int (0 : Int32)), .val (.int (4 : Int32))] [(.int (4 : Int32))])) _
      refine XS.aloadN X5.here hx rfl (hb hby d7_16) rfl rfl ?_
      show Steps p.tables e below (T5.setTop (mkF m 17 #[.val (.ref ob), .val (.int vc), .val (.int (0 : Int32)), .val (.int (4 : Int32))] [(.ref ob), (.int (4 : Int32))])) _
      refine X5.arraylength hx (by rw [e5]; exact Ar8.1) (State.isArrayOf_alike hZ.alike Ar8.2.1) (g := (mkF m 17 #[.val (.ref ob), .val (.int vc), .val (.int (0 : Int32)), .val (.int (4 : Int32))] [(.ref ob), (.int (4 : Int32))])) rfl rfl (hb hby d7_17) _ ?_
      rw [len_of S8 M8]
      show Steps p.tables e below (T5.setTop (mkF m 18 #[.val (.ref ob), .val (.int vc), .val (.int (0 : Int32)), .val (.int (4 : Int32))] [(.int (4 : Int32)), (.int (4 : Int32))])) _
      refine st9 _ ?_
      exact kt
    subst hzn
    have pre11 : ∀ t, Steps p.tables e below (T9.setTop (mkF m 21 #[.val (.ref ob), .val (.int vc), .val (.int (0 : Int32)), .val (.int (4 : Int32))] [(.int (4 : Int32))])) t → Steps p.tables e below (s₁.setTop (entryFrame m #[(.ref ob), (.int vc), (.int (0 : Int32)), (.int (4 : Int32))] 4)) t := pre10
    have hc24_12 : (0 : Int) < (4 : Int) := by decide
    obtain ⟨_, _, ⟨T13, L13, k13, n13⟩, -, X13, ⟨Lc13, hQ13, l13, y13, z13⟩, st13⟩ := Jvm.LawKit.callS X9 hx (y := (⟨"java/lang/StringLatin1", "indexOfChar", "([BIII)I"⟩ : MethodName)) hown (mvT hZ (hw _ (List.mem_of_getElem? (i := 54) rfl))) (mvT hZ (hw _ (List.mem_of_getElem? (i := 55) rfl))) (mvT hZ (hw _ (List.mem_of_getElem? (i := 42) rfl))) (mvT hZ (hw _ (List.mem_of_getElem? (i := 56) rfl))) (by decide) (backOf (W := 0) (rm11 l Z a0 hw [] ob vc kb h0 n0 Z0 Vb c1 hce) hZ (hw _ (List.mem_of_getElem? (i := 56) rfl)) (hw _ (List.mem_of_getElem? (i := 42) rfl)) (by decide) (by decide)) (g := (mkF m 33 #[.val (.ref ob), .val (.int vc), .val (.int (0 : Int32)), .val (.int (4 : Int32))] [(.int (4 : Int32)), (.int (0 : Int32)), (.int vc), (.ref ob)])) rfl (by rw [hml]; rfl) (argsL := [(.ref ob), (.int vc), (.int (0 : Int32)), (.int (4 : Int32))]) (rest := []) (lenOf pd_3 rfl) rfl (by show 2 * 0 + _ ≤ _; exact Nat.le_of_eq rfl) (hb hby d7_33) (fun _ _ => ⟨rfl, e9, (by decide : 0 + 0 ≤ _), (by decide : 0 + 0 ≤ _)⟩)
    dsimp only [Pt.U, Pt.locs, Pt.cells, Pt.slots] at X13 l13 y13 z13 st13 hQ13
    subst l13 y13 z13
    obtain ⟨zi, rfl, hzi, N13q, e13⟩ := hQ13
    have N13 := Fr.app N9 N13q
    obtain ⟨fs, hr, hrun, hended, hW, hsame⟩ := X13.leave (v := some (.int zi)) (fun h => by rw [Bd.returns] at h; cases h)
    refine ⟨_, _, pre11 _ ?_, hrun, hended, _, _, rfl, ?_, ⟨_, rfl⟩, hW, hsame.mono (by decide) (by decide)⟩
    · show Steps p.tables e below (T9.setTop (mkF m 21 #[.val (.ref ob), .val (.int vc), .val (.int (0 : Int32)), .val (.int (4 : Int32))] [(.int (4 : Int32))])) _
      refine XS.istoreN X9.here hx rfl (hb hby d7_21) rfl (l' := #[.val (.ref ob), .val (.int vc), .val (.int (0 : Int32)), .val (.int (4 : Int32))]) rfl ?_
      show Steps p.tables e below (T9.setTop (mkF m 22 #[.val (.ref ob), .val (.int vc), .val (.int (0 : Int32)), .val (.int (4 : Int32))] [])) _
      refine XS.iloadN X9.here hx rfl (hb hby d7_22) rfl ?_
      show Steps p.tables e below (T9.setTop (mkF m 23 #[.val (.ref ob), .val (.int vc), .val (.int (0 : Int32)), .val (.int (4 : Int32))] [(.int (0 : Int32))])) _
      refine XS.iloadN X9.here hx rfl (hb hby d7_23) rfl ?_
      show Steps p.tables e below (T9.setTop (mkF m 24 #[.val (.ref ob), .val (.int vc), .val (.int (0 : Int32)), .val (.int (4 : Int32))] [(.int (4 : Int32)), (.int (0 : Int32))])) _
      refine XS.icmpYes X9.here hx rfl (pc0 := 24) (pc' := 29) rfl (hb hby d7_24) rfl (own_tlt (a := (0 : Int32)) (b := (4 : Int32)) (by decide) (by decide) hc24_12).1 (by decide) (by decide) ?_
      show Steps p.tables e below (T9.setTop (mkF m 29 #[.val (.ref ob), .val (.int vc), .val (.int (0 : Int32)), .val (.int (4 : Int32))] [])) _
      refine XS.aloadN X9.here hx rfl (hb hby d7_29) rfl rfl ?_
      show Steps p.tables e below (T9.setTop (mkF m 30 #[.val (.ref ob), .val (.int vc), .val (.int (0 : Int32)), .val (.int (4 : Int32))] [(.ref ob)])) _
      refine XS.iloadN X9.here hx rfl (hb hby d7_30) rfl ?_
      show Steps p.tables e below (T9.setTop (mkF m 31 #[.val (.ref ob), .val (.int vc), .val (.int (0 : Int32)), .val (.int (4 : Int32))] [(.int vc), (.ref ob)])) _
      refine XS.iloadN X9.here hx rfl (hb hby d7_31) rfl ?_
      show Steps p.tables e below (T9.setTop (mkF m 32 #[.val (.ref ob), .val (.int vc), .val (.int (0 : Int32)), .val (.int (4 : Int32))] [(.int (0 : Int32)), (.int vc), (.ref ob)])) _
      refine XS.iloadN X9.here hx rfl (hb hby d7_32) rfl ?_
      show Steps p.tables e below (T9.setTop (mkF m 33 #[.val (.ref ob), .val (.int vc), .val (.int (0 : Int32)), .val (.int (4 : Int32))] [(.int (4 : Int32)), (.int (0 : Int32)), (.int vc), (.ref ob)])) _
      refine st13 _ ?_
      show Steps p.tables e below (T13.setTop (mkF m 36 #[.val (.ref ob), .val (.int vc), .val (.int (0 : Int32)), .val (.int (4 : Int32))] [(.int zi)])) _
      exact retI X13 hx Bd.returns (hb hby d7_36) hr
    · show Q7 Z ob vc kb h0 n0 _ T13.heap _
      rw [e13]
      exact ⟨_, rfl, hzi, N13, rfl⟩
  · have pre14 : ∀ t, Steps p.tables e below (T1.setTop (mkF m 4 #[.val (.ref ob), .val (.int vc), .val (.int (0 : Int32)), .val (.int (4 : Int32))] [(.int (0 : Int32))])) t → Steps p.tables e below (s₁.setTop (entryFrame m #[(.ref ob), (.int vc), (.int (0 : Int32)), (.int (4 : Int32))] 4)) t := pre2
    have hc4_15 : (0 : Int) = (0 : Int) := by decide
    obtain ⟨fs, hr, hrun, hended, hW, hsame⟩ := X1.leave (v := some (.int (-1 : Int32))) (fun h => by rw [Bd.returns] at h; cases h)
    refine ⟨_, _, pre14 _ ?_, hrun, hended, _, _, rfl, ?_, ⟨_, rfl⟩, hW, hsame.mono (by decide) (by decide)⟩
    · show Steps p.tables e below (T1.setTop (mkF m 4 #[.val (.ref ob), .val (.int vc), .val (.int (0 : Int32)), .val (.int (4 : Int32))] [(.int (0 : Int32))])) _
      refine XS.ifNo X1.here hx rfl (hb hby d7_4) rfl (own_if (own_teq (a := (0 : Int32)) (b := (0 : Int32)) (by decide) (by decide) hc4_15).2) ?_
      show Steps p.tables e below (T1.setTop (mkF m 7 #[.val (.ref ob), .val (.int vc), .val (.int (0 : Int32)), .val (.int (4 : Int32))] [])) _
      refine XS.iconst X1.here hx rfl (hb hby d7_7) ?_
      show Steps p.tables e below (T1.setTop (mkF m 8 #[.val (.ref ob), .val (.int vc), .val (.int (0 : Int32)), .val (.int (4 : Int32))] [(.int (-1 : Int32))])) _
      exact retI X1 hx Bd.returns (hb hby d7_8) hr
    · show Q7 Z ob vc kb h0 n0 _ T1.heap _
      rw [e1]
      exact ⟨_, rfl, by have iv : ((-1 : Int32)).toInt = (-1 : Int) := (by decide); omega, N1, rfl⟩
theorem d3_0 : decode jdk_42_method_80_code 0 = .ok (.aload_n 0, 1) := by decide +kernel
theorem d3_1 : decode jdk_42_method_80_code 1 = .ok (.invokevirtual 492, 3) := by decide +kernel
theorem d3_4 : decode jdk_42_method_80_code 4 = .ok (.ifCond .eq 19, 3) := by decide +kernel
theorem d3_7 : decode jdk_42_method_80_code 7 = .ok (.aload_n 0, 1) := by decide +kernel
theorem d3_8 : decode jdk_42_method_80_code 8 = .ok (.getfield 9, 3) := by decide +kernel
theorem d3_11 : decode jdk_42_method_80_code 11 = .ok (.iload_n 1, 1) := by decide +kernel
theorem d3_12 : decode jdk_42_method_80_code 12 = .ok (.iload_n 2, 1) := by decide +kernel
theorem d3_13 : decode jdk_42_method_80_code 13 = .ok (.aload_n 0, 1) := by decide +kernel
theorem d3_14 : decode jdk_42_method_80_code 14 = .ok (.invokevirtual 505, 3) := by decide +kernel
theorem d3_17 : decode jdk_42_method_80_code 17 = .ok (.invokestatic 637, 3) := by decide +kernel
theorem d3_20 : decode jdk_42_method_80_code 20 = .ok (.goto 16, 3) := by decide +kernel
theorem d3_36 : decode jdk_42_method_80_code 36 = .ok (.ireturn, 1) := by decide +kernel
theorem ef_rm3 (m : MethodId) (x0 : Addr) (x1 : Int32) : entryFrame m #[(.ref x0), (.int x1), (.int (0 : Int32))] 3 = mkF m 0 #[.val (.ref x0), .val (.int x1), .val (.int (0 : Int32))] [] := by first | (simp [entryFrame, mkF, argsToLocals, Value.category]; done) | rfl
theorem pd_4 : parseMethodDescriptor "()Z" = some ⟨[], some .boolean⟩ := by decide +kernel
theorem pd_5 : parseMethodDescriptor "()I" = some ⟨[], some .int⟩ := by decide +kernel
def Q3 (Z : State) (oa : Addr) (vc : Int32) (vcs : Int32) (ob : Addr) (kb : ClassId) (h0 : Heap) (n0 : Nat) (v : Option Value) (h : Heap) (L : List Loc) : Prop := ∃ z : Int32, v = some (.int z) ∧ ((0 ≤ z.toInt ∧ (vc.toInt = 45 ∨ vc.toInt = 46 ∨ vc.toInt = 95 ∨ vc.toInt = 126)) ∨ (z.toInt < 0 ∧ ¬ (vc.toInt = 45 ∨ vc.toInt = 46 ∨ vc.toInt = 95 ∨ vc.toInt = 126))) ∧ Fr n0 L ∧ h = h0
set_option maxRecDepth 65536 in
set_option maxHeartbeats 40000000 in
theorem rm3 (l : Launch) (Z : State) (a0 : Array Value) (hw : ∀ d ∈ tables_1, d.before a0 Z = true) (ws : List Jvm.Cond) (oa : Addr) (vc : Int32) (vcs : Int32) (ob : Addr) (kb : ClassId) (h0 : Heap) (n0 : Nat) (Z0 : n0 ≤ h0.size) (Sc : Sta Z h0 "java/lang/String" "COMPACT_STRINGS" "Z" (.int vcs)) (ncs : ¬ vcs.toInt = 0) (Es : Exa Z h0 oa "java/lang/String") (Fc : Fld Z h0 oa "java/lang/String" "coder" "B" (.int 0)) (Fv : Fld Z h0 oa "java/lang/String" "value" "[B" (.ref ob)) (Vb : Arv Z h0 ob kb .byte (4 : Int32) [(.int (45 : Int32)), (.int (46 : Int32)), (.int (95 : Int32)), (.int (126 : Int32))] (.int (0 : Int32))) (c1 : 0 ≤ vc.toInt) (c2 : vc.toInt < 65536) :
    MetFree l (⟨"java/lang/String", "indexOf", "(II)I"⟩ : MethodName) (head1 (Jvm.Cond.code (⟨"java/lang/String", "indexOf", "(II)I"⟩ : MethodName) jdk_42_method_80_code 3 (some .int) :: ws) ({ frames := 2, cells := 0, slots := 0, locals := 32 } : Room)) (fun a U => a = #[(.ref oa), (.int vc), (.int (0 : Int32))] ∧ Z.Warmed39 U.vm ∧ U.heap = h0) (fun _ _ _ _ _ => True) (fun _ U o U' => ∃ v L, o = .returned v ∧ Q3 Z oa vc vcs ob kb h0 n0 v U'.heap L ∧ FrameEnd U o U' L ({ frames := 2, cells := 0, slots := 0, locals := 32 } : Room).cells ({ frames := 2, cells := 0, slots := 0, locals := 32 } : Room).slots) := by
  refine MetFree.of_bodySF (plainFor_of_name pn_0) hisR ?_
  intro p e s m args below meth c s₁ Bd hml0 hP hK
  obtain ⟨rfl, hZ, hh⟩ := hP
  have hx := Bd.exec
  have hby := Bd.bytes
  have hml : c.maxLocals = 3 := hml0
  have hown : s.vm.findClass "java/lang/String" = some m.cls := findClass_of_methodNamed Bd.named
  have hnm := (name_of_methodNamed Bd.named Bd.method).1
  have X0 : Stand p l e ({ frames := 2, cells := 0, slots := 0, locals := 32 } : Room) s m #[(.ref oa), (.int vc), (.int (0 : Int32))] below meth c s₁ [] 0 0 := Stand.of_body Bd
  have e0 : s₁.heap = h0 := by rw [← hh, Bd.state]; rfl
  have N0 := Fr.nil n0
  have pre0 : ∀ t, Steps p.tables e below (s₁.setTop (mkF m 0 #[.val (.ref oa), .val (.int vc), .val (.int (0 : Int32))] [])) t → Steps p.tables e below (s₁.setTop (entryFrame m #[(.ref oa), (.int vc), (.int (0 : Int32))] 3)) t := fun t k => castTop (ef_rm3 m oa vc) k
  obtain ⟨cq1, kq1, q1a, q1b, q1c⟩ := isOf hZ e0 Es
  obtain ⟨_, _, ⟨T1, L1, k1, n1⟩, -, X1, ⟨Lc1, hQ1, l1, y1, z1⟩, st1⟩ := X0.virtualBack hx (y := (⟨"java/lang/String", "isLatin1", "()Z"⟩ : MethodName)) (z := (⟨"java/lang/String", "isLatin1", "()Z"⟩ : MethodName)) hown (mvT hZ (hw _ (List.mem_of_getElem? (i := 22) rfl))) (mvT hZ (hw _ (List.mem_of_getElem? (i := 23) rfl))) (notFace_of_selects (args := #[]) (mvT hZ (hw _ (List.mem_of_getElem? (i := 25) rfl)))) (mvT hZ (hw _ (List.mem_of_getElem? (i := 25) rfl))) (mvT hZ (hw _ (List.mem_of_getElem? (i := 24) rfl))) (by decide) (backOf (W := 0) (rm4 l Z a0 hw [] oa vcs ob kb h0 n0 Z0 Sc ncs Es Fc Fv Vb) hZ (hw _ (List.mem_of_getElem? (i := 26) rfl)) (hw _ (List.mem_of_getElem? (i := 5) rfl)) (by decide) (by decide)) q1a q1c (g := (mkF m 1 #[.val (.ref oa), .val (.int vc), .val (.int (0 : Int32))] [(.ref oa)])) rfl (by rw [hml]; rfl) (Steps.refl _) (argsL := []) (rest := []) (lenOf pd_4 rfl) rfl (by show 2 * 0 + _ ≤ _; exact Nat.le_of_eq rfl) (hb hby d3_1) (fun _ _ => ⟨rfl, e0, (by decide : 0 + 0 ≤ _), (by decide : 0 + 0 ≤ _)⟩)
  dsimp only [Pt.U, Pt.locs, Pt.cells, Pt.slots] at X1 l1 y1 z1 st1 hQ1
  subst l1 y1 z1
  obtain ⟨zl, rfl, hzl, N1q, e1⟩ := hQ1
  have N1 := Fr.app N0 N1q
  have pre2 : ∀ t, Steps p.tables e below (T1.setTop (mkF m 4 #[.val (.ref oa), .val (.int vc), .val (.int (0 : Int32))] [(.int zl)])) t → Steps p.tables e below (s₁.setTop (entryFrame m #[(.ref oa), (.int vc), (.int (0 : Int32))] 3)) t := fun t kt => by
    refine pre0 _ ?_
    show Steps p.tables e below (s₁.setTop (mkF m 0 #[.val (.ref oa), .val (.int vc), .val (.int (0 : Int32))] [])) _
    refine XS.aloadN X0.here hx rfl (hb hby d3_0) rfl rfl ?_
    show Steps p.tables e below (s₁.setTop (mkF m 1 #[.val (.ref oa), .val (.int vc), .val (.int (0 : Int32))] [(.ref oa)])) _
    refine st1.trans ?_
    exact kt
  subst hzl
  have pre3 : ∀ t, Steps p.tables e below (T1.setTop (mkF m 4 #[.val (.ref oa), .val (.int vc), .val (.int (0 : Int32))] [(.int (1 : Int32))])) t → Steps p.tables e below (s₁.setTop (entryFrame m #[(.ref oa), (.int vc), (.int (0 : Int32))] 3)) t := pre2
  have hc4_4 : ¬ ((1 : Int) = (0 : Int)) := by decide
  obtain ⟨T5, X5, e5, st5⟩ := getF X1 hx hZ hown (host := "") (Or.inl (hw _ (List.mem_of_getElem? (i := 29) rfl))) Via.refl e1 Fv (g := (mkF m 8 #[.val (.ref oa), .val (.int vc), .val (.int (0 : Int32))] [(.ref oa)])) rfl rfl (hb hby d3_8)
  obtain ⟨cq6, kq6, q6a, q6b, q6c⟩ := isOf hZ e5 Es
  obtain ⟨_, _, ⟨T6, L6, k6, n6⟩, -, X6, ⟨Lc6, hQ6, l6, y6, z6⟩, st6⟩ := X5.virtualBack hx (y := (⟨"java/lang/String", "length", "()I"⟩ : MethodName)) (z := (⟨"java/lang/String", "length", "()I"⟩ : MethodName)) hown (mvT hZ (hw _ (List.mem_of_getElem? (i := 30) rfl))) (mvT hZ (hw _ (List.mem_of_getElem? (i := 31) rfl))) (notFace_of_selects (args := #[]) (mvT hZ (hw _ (List.mem_of_getElem? (i := 33) rfl)))) (mvT hZ (hw _ (List.mem_of_getElem? (i := 33) rfl))) (mvT hZ (hw _ (List.mem_of_getElem? (i := 32) rfl))) (by decide) (backOf (W := 3) (rm5 l Z a0 hw [] oa vcs ob kb h0 n0 Z0 Sc ncs Es Fc Fv Vb) hZ (hw _ (List.mem_of_getElem? (i := 34) rfl)) (hw _ (List.mem_of_getElem? (i := 5) rfl)) (by decide) (by decide)) q6a q6c (g := (mkF m 14 #[.val (.ref oa), .val (.int vc), .val (.int (0 : Int32))] [(.ref oa), (.int (0 : Int32)), (.int vc), (.ref ob)])) rfl (by rw [hml]; rfl) (Steps.refl _) (argsL := []) (rest := [(.int (0 : Int32)), (.int vc), (.ref ob)]) (lenOf pd_5 rfl) rfl (by show 2 * 0 + _ ≤ _; exact Nat.le_of_eq rfl) (hb hby d3_14) (fun _ _ => ⟨rfl, e5, (by decide : 0 + 0 ≤ _), (by decide : 0 + 0 ≤ _)⟩)
  dsimp only [Pt.U, Pt.locs, Pt.cells, Pt.slots] at X6 l6 y6 z6 st6 hQ6
  subst l6 y6 z6
  obtain ⟨zk, rfl, hzk, N6q, e6⟩ := hQ6
  have N6 := Fr.app N1 N6q
  have pre7 : ∀ t, Steps p.tables e below (T6.setTop (mkF m 17 #[.val (.ref oa), .val (.int vc), .val (.int (0 : Int32))] [(.int zk), (.int (0 : Int32)), (.int vc), (.ref ob)])) t → Steps p.tables e below (s₁.setTop (entryFrame m #[(.ref oa), (.int vc), (.int (0 : Int32))] 3)) t := fun t kt => by
    refine pre3 _ ?_
    show Steps p.tables e below (T1.setTop (mkF m 4 #[.val (.ref oa), .val (.int vc), .val (.int (0 : Int32))] [(.int (1 : Int32))])) _
    refine XS.ifNo X1.here hx rfl (hb hby d3_4) rfl (own_if (own_feq (a := (1 : Int32)) (b := (0 : Int32)) (by decide) (by decide) hc4_4).1) ?_
    show Steps p.tables e below (T1.setTop (mkF m 7 #[.val (.ref oa), .val (.int vc), .val (.int (0 : Int32))] [])) _
    refine XS.aloadN X1.here hx rfl (hb hby d3_7) rfl rfl ?_
    show Steps p.tables e below (T1.setTop (mkF m 8 #[.val (.ref oa), .val (.int vc), .val (.int (0 : Int32))] [(.ref oa)])) _
    refine st5 _ ?_
    show Steps p.tables e below (T5.setTop (mkF m 11 #[.val (.ref oa), .val (.int vc), .val (.int (0 : Int32))] [(.ref ob)])) _
    refine XS.iloadN X5.here hx rfl (hb hby d3_11) rfl ?_
    show Steps p.tables e below (T5.setTop (mkF m 12 #[.val (.ref oa), .val (.int vc), .val (.int (0 : Int32))] [(.int vc), (.ref ob)])) _
    refine XS.iloadN X5.here hx rfl (hb hby d3_12) rfl ?_
    show Steps p.tables e below (T5.setTop (mkF m 13 #[.val (.ref oa), .val (.int vc), .val (.int (0 : Int32))] [(.int (0 : Int32)), (.int vc), (.ref ob)])) _
    refine XS.aloadN X5.here hx rfl (hb hby d3_13) rfl rfl ?_
    show Steps p.tables e below (T5.setTop (mkF m 14 #[.val (.ref oa), .val (.int vc), .val (.int (0 : Int32))] [(.ref oa), (.int (0 : Int32)), (.int vc), (.ref ob)])) _
    refine st6.trans ?_
    exact kt
  subst hzk
  have pre8 : ∀ t, Steps p.tables e below (T6.setTop (mkF m 17 #[.val (.ref oa), .val (.int vc), .val (.int (0 : Int32))] [(.int (4 : Int32)), (.int (0 : Int32)), (.int vc), (.ref ob)])) t → Steps p.tables e below (s₁.setTop (entryFrame m #[(.ref oa), (.int vc), (.int (0 : Int32))] 3)) t := pre7
  obtain ⟨_, _, ⟨T9, L9, k9, n9⟩, -, X9, ⟨Lc9, hQ9, l9, y9, z9⟩, st9⟩ := Jvm.LawKit.callS X6 hx (y := (⟨"java/lang/StringLatin1", "indexOf", "([BIII)I"⟩ : MethodName)) hown (mvT hZ (hw _ (List.mem_of_getElem? (i := 40) rfl))) (mvT hZ (hw _ (List.mem_of_getElem? (i := 41) rfl))) (mvT hZ (hw _ (List.mem_of_getElem? (i := 42) rfl))) (mvT hZ (hw _ (List.mem_of_getElem? (i := 43) rfl))) (by decide) (backOf (W := 0) (rm7 l Z a0 hw [] ob vc kb h0 n0 Z0 Vb c1 c2) hZ (hw _ (List.mem_of_getElem? (i := 43) rfl)) (hw _ (List.mem_of_getElem? (i := 42) rfl)) (by decide) (by decide)) (g := (mkF m 17 #[.val (.ref oa), .val (.int vc), .val (.int (0 : Int32))] [(.int (4 : Int32)), (.int (0 : Int32)), (.int vc), (.ref ob)])) rfl (by rw [hml]; rfl) (argsL := [(.ref ob), (.int vc), (.int (0 : Int32)), (.int (4 : Int32))]) (rest := []) (lenOf pd_3 rfl) rfl (by show 2 * 0 + _ ≤ _; exact Nat.le_of_eq rfl) (hb hby d3_17) (fun _ _ => ⟨rfl, e6, (by decide : 0 + 0 ≤ _), (by decide : 0 + 0 ≤ _)⟩)
  dsimp only [Pt.U, Pt.locs, Pt.cells, Pt.slots] at X9 l9 y9 z9 st9 hQ9
  subst l9 y9 z9
  obtain ⟨zi, rfl, hzi, N9q, e9⟩ := hQ9
  have N9 := Fr.app N6 N9q
  obtain ⟨fs, hr, hrun, hended, hW, hsame⟩ := X9.leave (v := some (.int zi)) (fun h => by rw [Bd.returns] at h; cases h)
  refine ⟨_, _, pre8 _ ?_, hrun, hended, _, _, rfl, ?_, ⟨_, rfl⟩, hW, hsame.mono (by decide) (by decide)⟩
  · show Steps p.tables e below (T6.setTop (mkF m 17 #[.val (.ref oa), .val (.int vc), .val (.int (0 : Int32))] [(.int (4 : Int32)), (.int (0 : Int32)), (.int vc), (.ref ob)])) _
    refine st9 _ ?_
    show Steps p.tables e below (T9.setTop (mkF m 20 #[.val (.ref oa), .val (.int vc), .val (.int (0 : Int32))] [(.int zi)])) _
    refine XS.goto X9.here hx rfl (pc0 := 20) (pc' := 36) rfl (hb hby d3_20) (by decide) (by decide) ?_
    show Steps p.tables e below (T9.setTop (mkF m 36 #[.val (.ref oa), .val (.int vc), .val (.int (0 : Int32))] [(.int zi)])) _
    exact retI X9 hx Bd.returns (hb hby d3_36) hr
  · show Q3 Z oa vc vcs ob kb h0 n0 _ T9.heap _
    rw [e9]
    exact ⟨_, rfl, hzi, N9, rfl⟩
theorem d2_0 : decode jdk_42_method_79_code 0 = .ok (.aload_n 0, 1) := by decide +kernel
theorem d2_1 : decode jdk_42_method_79_code 1 = .ok (.iload_n 1, 1) := by decide +kernel
theorem d2_2 : decode jdk_42_method_79_code 2 = .ok (.iconst 0, 1) := by decide +kernel
theorem d2_3 : decode jdk_42_method_79_code 3 = .ok (.invokevirtual 633, 3) := by decide +kernel
theorem d2_6 : decode jdk_42_method_79_code 6 = .ok (.ireturn, 1) := by decide +kernel
theorem ef_rm2 (m : MethodId) (x0 : Addr) (x1 : Int32) : entryFrame m #[(.ref x0), (.int x1)] 2 = mkF m 0 #[.val (.ref x0), .val (.int x1)] [] := by first | (simp [entryFrame, mkF, argsToLocals, Value.category]; done) | rfl
def Q2 (Z : State) (oa : Addr) (vc : Int32) (vcs : Int32) (ob : Addr) (kb : ClassId) (h0 : Heap) (n0 : Nat) (v : Option Value) (h : Heap) (L : List Loc) : Prop := ∃ z : Int32, v = some (.int z) ∧ ((0 ≤ z.toInt ∧ (vc.toInt = 45 ∨ vc.toInt = 46 ∨ vc.toInt = 95 ∨ vc.toInt = 126)) ∨ (z.toInt < 0 ∧ ¬ (vc.toInt = 45 ∨ vc.toInt = 46 ∨ vc.toInt = 95 ∨ vc.toInt = 126))) ∧ Fr n0 L ∧ h = h0
set_option maxRecDepth 65536 in
set_option maxHeartbeats 40000000 in
theorem rm2 (l : Launch) (Z : State) (a0 : Array Value) (hw : ∀ d ∈ tables_1, d.before a0 Z = true) (ws : List Jvm.Cond) (oa : Addr) (vc : Int32) (vcs : Int32) (ob : Addr) (kb : ClassId) (h0 : Heap) (n0 : Nat) (Z0 : n0 ≤ h0.size) (Sc : Sta Z h0 "java/lang/String" "COMPACT_STRINGS" "Z" (.int vcs)) (ncs : ¬ vcs.toInt = 0) (Es : Exa Z h0 oa "java/lang/String") (Fc : Fld Z h0 oa "java/lang/String" "coder" "B" (.int 0)) (Fv : Fld Z h0 oa "java/lang/String" "value" "[B" (.ref ob)) (Vb : Arv Z h0 ob kb .byte (4 : Int32) [(.int (45 : Int32)), (.int (46 : Int32)), (.int (95 : Int32)), (.int (126 : Int32))] (.int (0 : Int32))) (c1 : 0 ≤ vc.toInt) (c2 : vc.toInt < 65536) :
    MetFree l (⟨"java/lang/String", "indexOf", "(I)I"⟩ : MethodName) (head1 (Jvm.Cond.code (⟨"java/lang/String", "indexOf", "(I)I"⟩ : MethodName) jdk_42_method_79_code 2 (some .int) :: ws) ({ frames := 3, cells := 0, slots := 0, locals := 46 } : Room)) (fun a U => a = #[(.ref oa), (.int vc)] ∧ Z.Warmed39 U.vm ∧ U.heap = h0) (fun _ _ _ _ _ => True) (fun _ U o U' => ∃ v L, o = .returned v ∧ Q2 Z oa vc vcs ob kb h0 n0 v U'.heap L ∧ FrameEnd U o U' L ({ frames := 3, cells := 0, slots := 0, locals := 46 } : Room).cells ({ frames := 3, cells := 0, slots := 0, locals := 46 } : Room).slots) := by
  refine MetFree.of_bodySF (plainFor_of_name pn_0) hisR ?_
  intro p e s m args below meth c s₁ Bd hml0 hP hK
  obtain ⟨rfl, hZ, hh⟩ := hP
  have hx := Bd.exec
  have hby := Bd.bytes
  have hml : c.maxLocals = 2 := hml0
  have hown : s.vm.findClass "java/lang/String" = some m.cls := findClass_of_methodNamed Bd.named
  have hnm := (name_of_methodNamed Bd.named Bd.method).1
  have X0 : Stand p l e ({ frames := 3, cells := 0, slots := 0, locals := 46 } : Room) s m #[(.ref oa), (.int vc)] below meth c s₁ [] 0 0 := Stand.of_body Bd
  have e0 : s₁.heap = h0 := by rw [← hh, Bd.state]; rfl
  have N0 := Fr.nil n0
  have pre0 : ∀ t, Steps p.tables e below (s₁.setTop (mkF m 0 #[.val (.ref oa), .val (.int vc)] [])) t → Steps p.tables e below (s₁.setTop (entryFrame m #[(.ref oa), (.int vc)] 2)) t := fun t k => castTop (ef_rm2 m oa vc) k
  obtain ⟨cq1, kq1, q1a, q1b, q1c⟩ := isOf hZ e0 Es
  obtain ⟨_, _, ⟨T1, L1, k1, n1⟩, -, X1, ⟨Lc1, hQ1, l1, y1, z1⟩, st1⟩ := X0.virtualBack hx (y := (⟨"java/lang/String", "indexOf", "(II)I"⟩ : MethodName)) (z := (⟨"java/lang/String", "indexOf", "(II)I"⟩ : MethodName)) hown (mvT hZ (hw _ (List.mem_of_getElem? (i := 17) rfl))) (mvT hZ (hw _ (List.mem_of_getElem? (i := 18) rfl))) (notFace_of_selects (args := #[]) (mvT hZ (hw _ (List.mem_of_getElem? (i := 20) rfl)))) (mvT hZ (hw _ (List.mem_of_getElem? (i := 20) rfl))) (mvT hZ (hw _ (List.mem_of_getElem? (i := 19) rfl))) (by decide) (backOf (W := 0) (rm3 l Z a0 hw [] oa vc vcs ob kb h0 n0 Z0 Sc ncs Es Fc Fv Vb c1 c2) hZ (hw _ (List.mem_of_getElem? (i := 21) rfl)) (hw _ (List.mem_of_getElem? (i := 5) rfl)) (by decide) (by decide)) q1a q1c (g := (mkF m 3 #[.val (.ref oa), .val (.int vc)] [(.int (0 : Int32)), (.int vc), (.ref oa)])) rfl (by rw [hml]; rfl) (Steps.refl _) (argsL := [(.int vc), (.int (0 : Int32))]) (rest := []) (lenOf pd_2 rfl) rfl (by show 2 * 0 + _ ≤ _; exact Nat.le_of_eq rfl) (hb hby d2_3) (fun _ _ => ⟨rfl, e0, (by decide : 0 + 0 ≤ _), (by decide : 0 + 0 ≤ _)⟩)
  dsimp only [Pt.U, Pt.locs, Pt.cells, Pt.slots] at X1 l1 y1 z1 st1 hQ1
  subst l1 y1 z1
  obtain ⟨zi, rfl, hzi, N1q, e1⟩ := hQ1
  have N1 := Fr.app N0 N1q
  obtain ⟨fs, hr, hrun, hended, hW, hsame⟩ := X1.leave (v := some (.int zi)) (fun h => by rw [Bd.returns] at h; cases h)
  refine ⟨_, _, pre0 _ ?_, hrun, hended, _, _, rfl, ?_, ⟨_, rfl⟩, hW, hsame.mono (by decide) (by decide)⟩
  · show Steps p.tables e below (s₁.setTop (mkF m 0 #[.val (.ref oa), .val (.int vc)] [])) _
    refine XS.aloadN X0.here hx rfl (hb hby d2_0) rfl rfl ?_
    show Steps p.tables e below (s₁.setTop (mkF m 1 #[.val (.ref oa), .val (.int vc)] [(.ref oa)])) _
    refine XS.iloadN X0.here hx rfl (hb hby d2_1) rfl ?_
    show Steps p.tables e below (s₁.setTop (mkF m 2 #[.val (.ref oa), .val (.int vc)] [(.int vc), (.ref oa)])) _
    refine XS.iconst X0.here hx rfl (hb hby d2_2) ?_
    show Steps p.tables e below (s₁.setTop (mkF m 3 #[.val (.ref oa), .val (.int vc)] [(.int (0 : Int32)), (.int vc), (.ref oa)])) _
    refine st1.trans ?_
    show Steps p.tables e below (T1.setTop (mkF m 6 #[.val (.ref oa), .val (.int vc)] [(.int zi)])) _
    exact retI X1 hx Bd.returns (hb hby d2_6) hr
  · show Q2 Z oa vc vcs ob kb h0 n0 _ T1.heap _
    rw [e1]
    exact ⟨_, rfl, hzi, N1, rfl⟩
theorem d1_0 : decode prog_26_method_4_code 0 = .ok (.iload_n 0, 1) := by decide +kernel
theorem d1_1 : decode prog_26_method_4_code 1 = .ok (.bipush 48, 2) := by decide +kernel
theorem d1_3 : decode prog_26_method_4_code 3 = .ok (.if_icmp .lt 9, 3) := by decide +kernel
theorem d1_6 : decode prog_26_method_4_code 6 = .ok (.iload_n 0, 1) := by decide +kernel
theorem d1_7 : decode prog_26_method_4_code 7 = .ok (.bipush 57, 2) := by decide +kernel
theorem d1_9 : decode prog_26_method_4_code 9 = .ok (.if_icmp .le 27, 3) := by decide +kernel
theorem d1_12 : decode prog_26_method_4_code 12 = .ok (.iload_n 0, 1) := by decide +kernel
theorem d1_13 : decode prog_26_method_4_code 13 = .ok (.bipush 97, 2) := by decide +kernel
theorem d1_15 : decode prog_26_method_4_code 15 = .ok (.if_icmp .lt 9, 3) := by decide +kernel
theorem d1_18 : decode prog_26_method_4_code 18 = .ok (.iload_n 0, 1) := by decide +kernel
theorem d1_19 : decode prog_26_method_4_code 19 = .ok (.bipush 122, 2) := by decide +kernel
theorem d1_21 : decode prog_26_method_4_code 21 = .ok (.if_icmp .le 15, 3) := by decide +kernel
theorem d1_24 : decode prog_26_method_4_code 24 = .ok (.iload_n 0, 1) := by decide +kernel
theorem d1_25 : decode prog_26_method_4_code 25 = .ok (.bipush 65, 2) := by decide +kernel
theorem d1_27 : decode prog_26_method_4_code 27 = .ok (.if_icmp .lt 13, 3) := by decide +kernel
theorem d1_30 : decode prog_26_method_4_code 30 = .ok (.iload_n 0, 1) := by decide +kernel
theorem d1_31 : decode prog_26_method_4_code 31 = .ok (.bipush 90, 2) := by decide +kernel
theorem d1_33 : decode prog_26_method_4_code 33 = .ok (.if_icmp .gt 7, 3) := by decide +kernel
theorem d1_36 : decode prog_26_method_4_code 36 = .ok (.iconst 1, 1) := by decide +kernel
theorem d1_37 : decode prog_26_method_4_code 37 = .ok (.goto 4, 3) := by decide +kernel
theorem d1_40 : decode prog_26_method_4_code 40 = .ok (.iconst 0, 1) := by decide +kernel
theorem d1_41 : decode prog_26_method_4_code 41 = .ok (.istore_n 1, 1) := by decide +kernel
theorem d1_42 : decode prog_26_method_4_code 42 = .ok (.iload_n 1, 1) := by decide +kernel
theorem d1_43 : decode prog_26_method_4_code 43 = .ok (.ifCond .ne 12, 3) := by decide +kernel
theorem d1_46 : decode prog_26_method_4_code 46 = .ok (.ldc 76, 2) := by decide +kernel
theorem d1_48 : decode prog_26_method_4_code 48 = .ok (.iload_n 0, 1) := by decide +kernel
theorem d1_49 : decode prog_26_method_4_code 49 = .ok (.invokevirtual 78, 3) := by decide +kernel
theorem d1_52 : decode prog_26_method_4_code 52 = .ok (.ifCond .lt 7, 3) := by decide +kernel
theorem d1_55 : decode prog_26_method_4_code 55 = .ok (.iconst 1, 1) := by decide +kernel
theorem d1_56 : decode prog_26_method_4_code 56 = .ok (.goto 4, 3) := by decide +kernel
theorem d1_59 : decode prog_26_method_4_code 59 = .ok (.iconst 0, 1) := by decide +kernel
theorem d1_60 : decode prog_26_method_4_code 60 = .ok (.ireturn, 1) := by decide +kernel
theorem pn_2 : plainName "com/example/path_template_matcher/pathtemplatematcher/PercentEncoding" = true := by first | (simp [plainName, overriddenIn]; done) | decide +kernel
theorem ef_rm1 (m : MethodId) (x0 : Int32) : entryFrame m #[(.int x0)] 2 = mkF m 0 #[.val (.int x0), .unset] [] := by first | (simp [entryFrame, mkF, argsToLocals, Value.category]; done) | rfl
theorem pd_6 : parseMethodDescriptor "(I)I" = some ⟨[.int], some .int⟩ := by decide +kernel
def Q1 (Z : State) (vc : Int32) (vcs : Int32) (h0 : Heap) (n0 : Nat) (v : Option Value) (h : Heap) (L : List Loc) : Prop := ∃ z : Int32, v = some (.int z) ∧ ((z.toInt = 1 ∧ ((48 ≤ vc.toInt ∧ vc.toInt ≤ 57) ∨ (97 ≤ vc.toInt ∧ vc.toInt ≤ 122) ∨ (65 ≤ vc.toInt ∧ vc.toInt ≤ 90) ∨ (vc.toInt = 45 ∨ vc.toInt = 46 ∨ vc.toInt = 95 ∨ vc.toInt = 126))) ∨ (z.toInt = 0 ∧ ¬ ((48 ≤ vc.toInt ∧ vc.toInt ≤ 57) ∨ (97 ≤ vc.toInt ∧ vc.toInt ≤ 122) ∨ (65 ≤ vc.toInt ∧ vc.toInt ≤ 90) ∨ (vc.toInt = 45 ∨ vc.toInt = 46 ∨ vc.toInt = 95 ∨ vc.toInt = 126)))) ∧ Fr n0 L ∧ Keep h0 h []
set_option maxRecDepth 65536 in
set_option maxHeartbeats 40000000 in
theorem rm1 (l : Launch) (Z : State) (a0 : Array Value) (hw : ∀ d ∈ tables_1, d.before a0 Z = true) (ws : List Jvm.Cond) (vc : Int32) (vcs : Int32) (h0 : Heap) (n0 : Nat) (Z0 : n0 ≤ h0.size) (Sc : Sta Z h0 "java/lang/String" "COMPACT_STRINGS" "Z" (.int vcs)) (ncs : ¬ vcs.toInt = 0) (c1 : 0 ≤ vc.toInt) (c2 : vc.toInt < 65536) :
    MetFree l (⟨"com/example/path_template_matcher/pathtemplatematcher/PercentEncoding", "isUnreserved", "(C)Z"⟩ : MethodName) (head1 (Jvm.Cond.code (⟨"com/example/path_template_matcher/pathtemplatematcher/PercentEncoding", "isUnreserved", "(C)Z"⟩ : MethodName) prog_26_method_4_code 2 (some .boolean) :: ws) ({ frames := 4, cells := 2, slots := 20, locals := 59 } : Room)) (fun a U => a = #[(.int vc)] ∧ Z.Warmed39 U.vm ∧ U.heap = h0 ∧ CHv Z own_EL U.vm h0) (fun _ _ _ _ _ => True) (fun _ U o U' => ∃ v L, o = .returned v ∧ Q1 Z vc vcs h0 n0 v U'.heap L ∧ CHr Z own_EL U.vm U.heap U'.vm U'.heap ∧ ReturnedEndW U o U' L ({ frames := 4, cells := 2, slots := 20, locals := 59 } : Room).cells ({ frames := 4, cells := 2, slots := 20, locals := 59 } : Room).slots) := by
  refine MetFree.of_bodySF (plainFor_of_name pn_2) hisR ?_
  intro p e s m args below meth c s₁ Bd hml0 hP hK
  obtain ⟨rfl, hZ, hh, hC⟩ := hP
  have hx := Bd.exec
  have hby := Bd.bytes
  have hml : c.maxLocals = 2 := hml0
  have hown : s.vm.findClass "com/example/path_template_matcher/pathtemplatematcher/PercentEncoding" = some m.cls := findClass_of_methodNamed Bd.named
  have hnm := (name_of_methodNamed Bd.named Bd.method).1
  have X0 : Stand p l e ({ frames := 4, cells := 2, slots := 20, locals := 59 } : Room) (s.setVm s.vm) m #[(.int vc)] below meth c s₁ [] 0 0 := Stand.of_body Bd
  have e0 : s₁.heap = h0 := by rw [← hh, Bd.state]; rfl
  have N0 := Fr.nil n0
  have hEL := own_EW hw
  have wS := own_wS hw
  have CR0 : CHr Z own_EL s.vm h0 s.vm h0 := CHr.refl hC
  have hS0 : s.Since s.vm h0.size := (State.WarmedH.refl s).since _
  have hk0 : h0.size ≤ h0.size := Nat.le_refl _
  have pre0 : ∀ t, Steps p.tables e below (s₁.setTop (mkF m 0 #[.val (.int vc), .unset] [])) t → Steps p.tables e below (s₁.setTop (entryFrame m #[(.int vc)] 2)) t := fun t k => castTop (ef_rm1 m vc) k
  obtain ⟨lod, hlod, pre44⟩ : ∃ lod : Int32, ((lod.toInt = 1 ∧ ((48 ≤ vc.toInt ∧ vc.toInt ≤ 57) ∨ (97 ≤ vc.toInt ∧ vc.toInt ≤ 122) ∨ (65 ≤ vc.toInt ∧ vc.toInt ≤ 90))) ∨ (lod.toInt = 0 ∧ ¬ ((48 ≤ vc.toInt ∧ vc.toInt ≤ 57) ∨ (97 ≤ vc.toInt ∧ vc.toInt ≤ 122) ∨ (65 ≤ vc.toInt ∧ vc.toInt ≤ 90)))) ∧ ∀ t, Steps p.tables e below (s₁.setTop (mkF m 41 #[.val (.int vc), .unset] [(.int lod)])) t → Steps p.tables e below (s₁.setTop (entryFrame m #[(.int vc)] 2)) t := by
    have pre2 : ∀ t, Steps p.tables e below (s₁.setTop (mkF m 3 #[.val (.int vc), .unset] [(.int (48 : Int32)), (.int vc)])) t → Steps p.tables e below (s₁.setTop (entryFrame m #[(.int vc)] 2)) t := fun t kt => by
      refine pre0 _ ?_
      show Steps p.tables e below (s₁.setTop (mkF m 0 #[.val (.int vc), .unset] [])) _
      refine XS.iloadN X0.here hx rfl (hb hby d1_0) rfl ?_
      show Steps p.tables e below (s₁.setTop (mkF m 1 #[.val (.int vc), .unset] [(.int vc)])) _
      refine XS.bipush X0.here hx rfl (hb hby d1_1) ?_
      exact kt
    by_cases hc3_1 : vc.toInt < (48 : Int)
    · have pre4 : ∀ t, Steps p.tables e below (s₁.setTop (mkF m 15 #[.val (.int vc), .unset] [(.int (97 : Int32)), (.int vc)])) t → Steps p.tables e below (s₁.setTop (entryFrame m #[(.int vc)] 2)) t := fun t kt => by
        refine pre2 _ ?_
        show Steps p.tables e below (s₁.setTop (mkF m 3 #[.val (.int vc), .unset] [(.int (48 : Int32)), (.int vc)])) _
        refine XS.icmpYes X0.here hx rfl (pc0 := 3) (pc' := 12) rfl (hb hby d1_3) rfl (own_tlt (a := vc) (b := (48 : Int32)) rfl (by decide) hc3_1).1 (by decide) (by decide) ?_
        show Steps p.tables e below (s₁.setTop (mkF m 12 #[.val (.int vc), .unset] [])) _
        refine XS.iloadN X0.here hx rfl (hb hby d1_12) rfl ?_
        show Steps p.tables e below (s₁.setTop (mkF m 13 #[.val (.int vc), .unset] [(.int vc)])) _
        refine XS.bipush X0.here hx rfl (hb hby d1_13) ?_
        exact kt
      by_cases hc15_3 : vc.toInt < (97 : Int)
      · have pre6 : ∀ t, Steps p.tables e below (s₁.setTop (mkF m 27 #[.val (.int vc), .unset] [(.int (65 : Int32)), (.int vc)])) t → Steps p.tables e below (s₁.setTop (entryFrame m #[(.int vc)] 2)) t := fun t kt => by
          refine pre4 _ ?_
          show Steps p.tables e below (s₁.setTop (mkF m 15 #[.val (.int vc), .unset] [(.int (97 : Int32)), (.int vc)])) _
          refine XS.icmpYes X0.here hx rfl (pc0 := 15) (pc' := 24) rfl (hb hby d1_15) rfl (own_tlt (a := vc) (b := (97 : Int32)) rfl (by decide) hc15_3).1 (by decide) (by decide) ?_
          show Steps p.tables e below (s₁.setTop (mkF m 24 #[.val (.int vc), .unset] [])) _
          refine XS.iloadN X0.here hx rfl (hb hby d1_24) rfl ?_
          show Steps p.tables e below (s₁.setTop (mkF m 25 #[.val (.int vc), .unset] [(.int vc)])) _
          refine XS.bipush X0.here hx rfl (hb hby d1_25) ?_
          exact kt
        by_cases hc27_5 : vc.toInt < (65 : Int)
        · have pre7 : ∀ t, Steps p.tables e below (s₁.setTop (mkF m 41 #[.val (.int vc), .unset] [(.int (0 : Int32))])) t → Steps p.tables e below (s₁.setTop (entryFrame m #[(.int vc)] 2)) t := fun t kt => by
            refine pre6 _ ?_
            show Steps p.tables e below (s₁.setTop (mkF m 27 #[.val (.int vc), .unset] [(.int (65 : Int32)), (.int vc)])) _
            refine XS.icmpYes X0.here hx rfl (pc0 := 27) (pc' := 40) rfl (hb hby d1_27) rfl (own_tlt (a := vc) (b := (65 : Int32)) rfl (by decide) hc27_5).1 (by decide) (by decide) ?_
            show Steps p.tables e below (s₁.setTop (mkF m 40 #[.val (.int vc), .unset] [])) _
            refine XS.iconst X0.here hx rfl (hb hby d1_40) ?_
            exact kt
          exact ⟨(0 : Int32), by have iv : ((0 : Int32)).toInt = (0 : Int) := (by decide); omega, pre7⟩
        · have pre9 : ∀ t, Steps p.tables e below (s₁.setTop (mkF m 33 #[.val (.int vc), .unset] [(.int (90 : Int32)), (.int vc)])) t → Steps p.tables e below (s₁.setTop (entryFrame m #[(.int vc)] 2)) t := fun t kt => by
            refine pre6 _ ?_
            show Steps p.tables e below (s₁.setTop (mkF m 27 #[.val (.int vc), .unset] [(.int (65 : Int32)), (.int vc)])) _
            refine XS.icmpNo X0.here hx rfl (hb hby d1_27) rfl (own_flt (a := vc) (b := (65 : Int32)) rfl (by decide) hc27_5).1 ?_
            show Steps p.tables e below (s₁.setTop (mkF m 30 #[.val (.int vc), .unset] [])) _
            refine XS.iloadN X0.here hx rfl (hb hby d1_30) rfl ?_
            show Steps p.tables e below (s₁.setTop (mkF m 31 #[.val (.int vc), .unset] [(.int vc)])) _
            refine XS.bipush X0.here hx rfl (hb hby d1_31) ?_
            exact kt
          by_cases hc33_8 : (90 : Int) < vc.toInt
          · have pre10 : ∀ t, Steps p.tables e below (s₁.setTop (mkF m 41 #[.val (.int vc), .unset] [(.int (0 : Int32))])) t → Steps p.tables e below (s₁.setTop (entryFrame m #[(.int vc)] 2)) t := fun t kt => by
              refine pre9 _ ?_
              show Steps p.tables e below (s₁.setTop (mkF m 33 #[.val (.int vc), .unset] [(.int (90 : Int32)), (.int vc)])) _
              refine XS.icmpYes X0.here hx rfl (pc0 := 33) (pc' := 40) rfl (hb hby d1_33) rfl (own_tlt (a := (90 : Int32)) (b := vc) (by decide) rfl hc33_8).2.2.1 (by decide) (by decide) ?_
              show Steps p.tables e below (s₁.setTop (mkF m 40 #[.val (.int vc), .unset] [])) _
              refine XS.iconst X0.here hx rfl (hb hby d1_40) ?_
              exact kt
            exact ⟨(0 : Int32), by have iv : ((0 : Int32)).toInt = (0 : Int) := (by decide); omega, pre10⟩
          · have pre11 : ∀ t, Steps p.tables e below (s₁.setTop (mkF m 41 #[.val (.int vc), .unset] [(.int (1 : Int32))])) t → Steps p.tables e below (s₁.setTop (entryFrame m #[(.int vc)] 2)) t := fun t kt => by
              refine pre9 _ ?_
              show Steps p.tables e below (s₁.setTop (mkF m 33 #[.val (.int vc), .unset] [(.int (90 : Int32)), (.int vc)])) _
              refine XS.icmpNo X0.here hx rfl (hb hby d1_33) rfl (own_flt (a := (90 : Int32)) (b := vc) (by decide) rfl hc33_8).2.2.1 ?_
              show Steps p.tables e below (s₁.setTop (mkF m 36 #[.val (.int vc), .unset] [])) _
              refine XS.iconst X0.here hx rfl (hb hby d1_36) ?_
              show Steps p.tables e below (s₁.setTop (mkF m 37 #[.val (.int vc), .unset] [(.int (1 : Int32))])) _
              refine XS.goto X0.here hx rfl (pc0 := 37) (pc' := 41) rfl (hb hby d1_37) (by decide) (by decide) ?_
              exact kt
            exact ⟨(1 : Int32), by have iv : ((1 : Int32)).toInt = (1 : Int) := (by decide); omega, pre11⟩
      · have pre13 : ∀ t, Steps p.tables e below (s₁.setTop (mkF m 21 #[.val (.int vc), .unset] [(.int (122 : Int32)), (.int vc)])) t → Steps p.tables e below (s₁.setTop (entryFrame m #[(.int vc)] 2)) t := fun t kt => by
          refine pre4 _ ?_
          show Steps p.tables e below (s₁.setTop (mkF m 15 #[.val (.int vc), .unset] [(.int (97 : Int32)), (.int vc)])) _
          refine XS.icmpNo X0.here hx rfl (hb hby d1_15) rfl (own_flt (a := vc) (b := (97 : Int32)) rfl (by decide) hc15_3).1 ?_
          show Steps p.tables e below (s₁.setTop (mkF m 18 #[.val (.int vc), .unset] [])) _
          refine XS.iloadN X0.here hx rfl (hb hby d1_18) rfl ?_
          show Steps p.tables e below (s₁.setTop (mkF m 19 #[.val (.int vc), .unset] [(.int vc)])) _
          refine XS.bipush X0.here hx rfl (hb hby d1_19) ?_
          exact kt
        by_cases hc21_12 : (122 : Int) < vc.toInt
        · have pre15 : ∀ t, Steps p.tables e below (s₁.setTop (mkF m 27 #[.val (.int vc), .unset] [(.int (65 : Int32)), (.int vc)])) t → Steps p.tables e below (s₁.setTop (entryFrame m #[(.int vc)] 2)) t := fun t kt => by
            refine pre13 _ ?_
            show Steps p.tables e below (s₁.setTop (mkF m 21 #[.val (.int vc), .unset] [(.int (122 : Int32)), (.int vc)])) _
            refine XS.icmpNo X0.here hx rfl (hb hby d1_21) rfl (own_tlt (a := (122 : Int32)) (b := vc) (by decide) rfl hc21_12).2.2.2 ?_
            show Steps p.tables e below (s₁.setTop (mkF m 24 #[.val (.int vc), .unset] [])) _
            refine XS.iloadN X0.here hx rfl (hb hby d1_24) rfl ?_
            show Steps p.tables e below (s₁.setTop (mkF m 25 #[.val (.int vc), .unset] [(.int vc)])) _
            refine XS.bipush X0.here hx rfl (hb hby d1_25) ?_
            exact kt
          by_cases hc27_14 : vc.toInt < (65 : Int)
          · have pre16 : ∀ t, Steps p.tables e below (s₁.setTop (mkF m 41 #[.val (.int vc), .unset] [(.int (0 : Int32))])) t → Steps p.tables e below (s₁.setTop (entryFrame m #[(.int vc)] 2)) t := fun t kt => by
              refine pre15 _ ?_
              show Steps p.tables e below (s₁.setTop (mkF m 27 #[.val (.int vc), .unset] [(.int (65 : Int32)), (.int vc)])) _
              refine XS.icmpYes X0.here hx rfl (pc0 := 27) (pc' := 40) rfl (hb hby d1_27) rfl (own_tlt (a := vc) (b := (65 : Int32)) rfl (by decide) hc27_14).1 (by decide) (by decide) ?_
              show Steps p.tables e below (s₁.setTop (mkF m 40 #[.val (.int vc), .unset] [])) _
              refine XS.iconst X0.here hx rfl (hb hby d1_40) ?_
              exact kt
            exact ⟨(0 : Int32), by have iv : ((0 : Int32)).toInt = (0 : Int) := (by decide); omega, pre16⟩
          · have pre18 : ∀ t, Steps p.tables e below (s₁.setTop (mkF m 33 #[.val (.int vc), .unset] [(.int (90 : Int32)), (.int vc)])) t → Steps p.tables e below (s₁.setTop (entryFrame m #[(.int vc)] 2)) t := fun t kt => by
              refine pre15 _ ?_
              show Steps p.tables e below (s₁.setTop (mkF m 27 #[.val (.int vc), .unset] [(.int (65 : Int32)), (.int vc)])) _
              refine XS.icmpNo X0.here hx rfl (hb hby d1_27) rfl (own_flt (a := vc) (b := (65 : Int32)) rfl (by decide) hc27_14).1 ?_
              show Steps p.tables e below (s₁.setTop (mkF m 30 #[.val (.int vc), .unset] [])) _
              refine XS.iloadN X0.here hx rfl (hb hby d1_30) rfl ?_
              show Steps p.tables e below (s₁.setTop (mkF m 31 #[.val (.int vc), .unset] [(.int vc)])) _
              refine XS.bipush X0.here hx rfl (hb hby d1_31) ?_
              exact kt
            by_cases hc33_17 : (90 : Int) < vc.toInt
            · have pre19 : ∀ t, Steps p.tables e below (s₁.setTop (mkF m 41 #[.val (.int vc), .unset] [(.int (0 : Int32))])) t → Steps p.tables e below (s₁.setTop (entryFrame m #[(.int vc)] 2)) t := fun t kt => by
                refine pre18 _ ?_
                show Steps p.tables e below (s₁.setTop (mkF m 33 #[.val (.int vc), .unset] [(.int (90 : Int32)), (.int vc)])) _
                refine XS.icmpYes X0.here hx rfl (pc0 := 33) (pc' := 40) rfl (hb hby d1_33) rfl (own_tlt (a := (90 : Int32)) (b := vc) (by decide) rfl hc33_17).2.2.1 (by decide) (by decide) ?_
                show Steps p.tables e below (s₁.setTop (mkF m 40 #[.val (.int vc), .unset] [])) _
                refine XS.iconst X0.here hx rfl (hb hby d1_40) ?_
                exact kt
              exact ⟨(0 : Int32), by have iv : ((0 : Int32)).toInt = (0 : Int) := (by decide); omega, pre19⟩
            · have pre20 : ∀ t, Steps p.tables e below (s₁.setTop (mkF m 41 #[.val (.int vc), .unset] [(.int (1 : Int32))])) t → Steps p.tables e below (s₁.setTop (entryFrame m #[(.int vc)] 2)) t := fun t kt => by
                refine pre18 _ ?_
                show Steps p.tables e below (s₁.setTop (mkF m 33 #[.val (.int vc), .unset] [(.int (90 : Int32)), (.int vc)])) _
                refine XS.icmpNo X0.here hx rfl (hb hby d1_33) rfl (own_flt (a := (90 : Int32)) (b := vc) (by decide) rfl hc33_17).2.2.1 ?_
                show Steps p.tables e below (s₁.setTop (mkF m 36 #[.val (.int vc), .unset] [])) _
                refine XS.iconst X0.here hx rfl (hb hby d1_36) ?_
                show Steps p.tables e below (s₁.setTop (mkF m 37 #[.val (.int vc), .unset] [(.int (1 : Int32))])) _
                refine XS.goto X0.here hx rfl (pc0 := 37) (pc' := 41) rfl (hb hby d1_37) (by decide) (by decide) ?_
                exact kt
              exact ⟨(1 : Int32), by have iv : ((1 : Int32)).toInt = (1 : Int) := (by decide); omega, pre20⟩
        · have pre21 : ∀ t, Steps p.tables e below (s₁.setTop (mkF m 41 #[.val (.int vc), .unset] [(.int (1 : Int32))])) t → Steps p.tables e below (s₁.setTop (entryFrame m #[(.int vc)] 2)) t := fun t kt => by
            refine pre13 _ ?_
            show Steps p.tables e below (s₁.setTop (mkF m 21 #[.val (.int vc), .unset] [(.int (122 : Int32)), (.int vc)])) _
            refine XS.icmpYes X0.here hx rfl (pc0 := 21) (pc' := 36) rfl (hb hby d1_21) rfl (own_flt (a := (122 : Int32)) (b := vc) (by decide) rfl hc21_12).2.2.2 (by decide) (by decide) ?_
            show Steps p.tables e below (s₁.setTop (mkF m 36 #[.val (.int vc), .unset] [])) _
            refine XS.iconst X0.here hx rfl (hb hby d1_36) ?_
            show Steps p.tables e below (s₁.setTop (mkF m 37 #[.val (.int vc), .unset] [(.int (1 : Int32))])) _
            refine XS.goto X0.here hx rfl (pc0 := 37) (pc' := 41) rfl (hb hby d1_37) (by decide) (by decide) ?_
            exact kt
          exact ⟨(1 : Int32), by have iv : ((1 : Int32)).toInt = (1 : Int) := (by decide); omega, pre21⟩
    · have pre23 : ∀ t, Steps p.tables e below (s₁.setTop (mkF m 9 #[.val (.int vc), .unset] [(.int (57 : Int32)), (.int vc)])) t → Steps p.tables e below (s₁.setTop (entryFrame m #[(.int vc)] 2)) t := fun t kt => by
        refine pre2 _ ?_
        show Steps p.tables e below (s₁.setTop (mkF m 3 #[.val (.int vc), .unset] [(.int (48 : Int32)), (.int vc)])) _
        refine XS.icmpNo X0.here hx rfl (hb hby d1_3) rfl (own_flt (a := vc) (b := (48 : Int32)) rfl (by decide) hc3_1).1 ?_
        show Steps p.tables e below (s₁.setTop (mkF m 6 #[.val (.int vc), .unset] [])) _
        refine XS.iloadN X0.here hx rfl (hb hby d1_6) rfl ?_
        show Steps p.tables e below (s₁.setTop (mkF m 7 #[.val (.int vc), .unset] [(.int vc)])) _
        refine XS.bipush X0.here hx rfl (hb hby d1_7) ?_
        exact kt
      by_cases hc9_22 : (57 : Int) < vc.toInt
      · have pre25 : ∀ t, Steps p.tables e below (s₁.setTop (mkF m 15 #[.val (.int vc), .unset] [(.int (97 : Int32)), (.int vc)])) t → Steps p.tables e below (s₁.setTop (entryFrame m #[(.int vc)] 2)) t := fun t kt => by
          refine pre23 _ ?_
          show Steps p.tables e below (s₁.setTop (mkF m 9 #[.val (.int vc), .unset] [(.int (57 : Int32)), (.int vc)])) _
          refine XS.icmpNo X0.here hx rfl (hb hby d1_9) rfl (own_tlt (a := (57 : Int32)) (b := vc) (by decide) rfl hc9_22).2.2.2 ?_
          show Steps p.tables e below (s₁.setTop (mkF m 12 #[.val (.int vc), .unset] [])) _
          refine XS.iloadN X0.here hx rfl (hb hby d1_12) rfl ?_
          show Steps p.tables e below (s₁.setTop (mkF m 13 #[.val (.int vc), .unset] [(.int vc)])) _
          refine XS.bipush X0.here hx rfl (hb hby d1_13) ?_
          exact kt
        by_cases hc15_24 : vc.toInt < (97 : Int)
        · have pre27 : ∀ t, Steps p.tables e below (s₁.setTop (mkF m 27 #[.val (.int vc), .unset] [(.int (65 : Int32)), (.int vc)])) t → Steps p.tables e below (s₁.setTop (entryFrame m #[(.int vc)] 2)) t := fun t kt => by
            refine pre25 _ ?_
            show Steps p.tables e below (s₁.setTop (mkF m 15 #[.val (.int vc), .unset] [(.int (97 : Int32)), (.int vc)])) _
            refine XS.icmpYes X0.here hx rfl (pc0 := 15) (pc' := 24) rfl (hb hby d1_15) rfl (own_tlt (a := vc) (b := (97 : Int32)) rfl (by decide) hc15_24).1 (by decide) (by decide) ?_
            show Steps p.tables e below (s₁.setTop (mkF m 24 #[.val (.int vc), .unset] [])) _
            refine XS.iloadN X0.here hx rfl (hb hby d1_24) rfl ?_
            show Steps p.tables e below (s₁.setTop (mkF m 25 #[.val (.int vc), .unset] [(.int vc)])) _
            refine XS.bipush X0.here hx rfl (hb hby d1_25) ?_
            exact kt
          by_cases hc27_26 : vc.toInt < (65 : Int)
          · have pre28 : ∀ t, Steps p.tables e below (s₁.setTop (mkF m 41 #[.val (.int vc), .unset] [(.int (0 : Int32))])) t → Steps p.tables e below (s₁.setTop (entryFrame m #[(.int vc)] 2)) t := fun t kt => by
              refine pre27 _ ?_
              show Steps p.tables e below (s₁.setTop (mkF m 27 #[.val (.int vc), .unset] [(.int (65 : Int32)), (.int vc)])) _
              refine XS.icmpYes X0.here hx rfl (pc0 := 27) (pc' := 40) rfl (hb hby d1_27) rfl (own_tlt (a := vc) (b := (65 : Int32)) rfl (by decide) hc27_26).1 (by decide) (by decide) ?_
              show Steps p.tables e below (s₁.setTop (mkF m 40 #[.val (.int vc), .unset] [])) _
              refine XS.iconst X0.here hx rfl (hb hby d1_40) ?_
              exact kt
            exact ⟨(0 : Int32), by have iv : ((0 : Int32)).toInt = (0 : Int) := (by decide); omega, pre28⟩
          · have pre30 : ∀ t, Steps p.tables e below (s₁.setTop (mkF m 33 #[.val (.int vc), .unset] [(.int (90 : Int32)), (.int vc)])) t → Steps p.tables e below (s₁.setTop (entryFrame m #[(.int vc)] 2)) t := fun t kt => by
              refine pre27 _ ?_
              show Steps p.tables e below (s₁.setTop (mkF m 27 #[.val (.int vc), .unset] [(.int (65 : Int32)), (.int vc)])) _
              refine XS.icmpNo X0.here hx rfl (hb hby d1_27) rfl (own_flt (a := vc) (b := (65 : Int32)) rfl (by decide) hc27_26).1 ?_
              show Steps p.tables e below (s₁.setTop (mkF m 30 #[.val (.int vc), .unset] [])) _
              refine XS.iloadN X0.here hx rfl (hb hby d1_30) rfl ?_
              show Steps p.tables e below (s₁.setTop (mkF m 31 #[.val (.int vc), .unset] [(.int vc)])) _
              refine XS.bipush X0.here hx rfl (hb hby d1_31) ?_
              exact kt
            by_cases hc33_29 : (90 : Int) < vc.toInt
            · have pre31 : ∀ t, Steps p.tables e below (s₁.setTop (mkF m 41 #[.val (.int vc), .unset] [(.int (0 : Int32))])) t → Steps p.tables e below (s₁.setTop (entryFrame m #[(.int vc)] 2)) t := fun t kt => by
                refine pre30 _ ?_
                show Steps p.tables e below (s₁.setTop (mkF m 33 #[.val (.int vc), .unset] [(.int (90 : Int32)), (.int vc)])) _
                refine XS.icmpYes X0.here hx rfl (pc0 := 33) (pc' := 40) rfl (hb hby d1_33) rfl (own_tlt (a := (90 : Int32)) (b := vc) (by decide) rfl hc33_29).2.2.1 (by decide) (by decide) ?_
                show Steps p.tables e below (s₁.setTop (mkF m 40 #[.val (.int vc), .unset] [])) _
                refine XS.iconst X0.here hx rfl (hb hby d1_40) ?_
                exact kt
              exact ⟨(0 : Int32), by have iv : ((0 : Int32)).toInt = (0 : Int) := (by decide); omega, pre31⟩
            · have pre32 : ∀ t, Steps p.tables e below (s₁.setTop (mkF m 41 #[.val (.int vc), .unset] [(.int (1 : Int32))])) t → Steps p.tables e below (s₁.setTop (entryFrame m #[(.int vc)] 2)) t := fun t kt => by
                refine pre30 _ ?_
                show Steps p.tables e below (s₁.setTop (mkF m 33 #[.val (.int vc), .unset] [(.int (90 : Int32)), (.int vc)])) _
                refine XS.icmpNo X0.here hx rfl (hb hby d1_33) rfl (own_flt (a := (90 : Int32)) (b := vc) (by decide) rfl hc33_29).2.2.1 ?_
                show Steps p.tables e below (s₁.setTop (mkF m 36 #[.val (.int vc), .unset] [])) _
                refine XS.iconst X0.here hx rfl (hb hby d1_36) ?_
                show Steps p.tables e below (s₁.setTop (mkF m 37 #[.val (.int vc), .unset] [(.int (1 : Int32))])) _
                refine XS.goto X0.here hx rfl (pc0 := 37) (pc' := 41) rfl (hb hby d1_37) (by decide) (by decide) ?_
                exact kt
              exact ⟨(1 : Int32), by have iv : ((1 : Int32)).toInt = (1 : Int) := (by decide); omega, pre32⟩
        · have pre34 : ∀ t, Steps p.tables e below (s₁.setTop (mkF m 21 #[.val (.int vc), .unset] [(.int (122 : Int32)), (.int vc)])) t → Steps p.tables e below (s₁.setTop (entryFrame m #[(.int vc)] 2)) t := fun t kt => by
            refine pre25 _ ?_
            show Steps p.tables e below (s₁.setTop (mkF m 15 #[.val (.int vc), .unset] [(.int (97 : Int32)), (.int vc)])) _
            refine XS.icmpNo X0.here hx rfl (hb hby d1_15) rfl (own_flt (a := vc) (b := (97 : Int32)) rfl (by decide) hc15_24).1 ?_
            show Steps p.tables e below (s₁.setTop (mkF m 18 #[.val (.int vc), .unset] [])) _
            refine XS.iloadN X0.here hx rfl (hb hby d1_18) rfl ?_
            show Steps p.tables e below (s₁.setTop (mkF m 19 #[.val (.int vc), .unset] [(.int vc)])) _
            refine XS.bipush X0.here hx rfl (hb hby d1_19) ?_
            exact kt
          by_cases hc21_33 : (122 : Int) < vc.toInt
          · have pre36 : ∀ t, Steps p.tables e below (s₁.setTop (mkF m 27 #[.val (.int vc), .unset] [(.int (65 : Int32)), (.int vc)])) t → Steps p.tables e below (s₁.setTop (entryFrame m #[(.int vc)] 2)) t := fun t kt => by
              refine pre34 _ ?_
              show Steps p.tables e below (s₁.setTop (mkF m 21 #[.val (.int vc), .unset] [(.int (122 : Int32)), (.int vc)])) _
              refine XS.icmpNo X0.here hx rfl (hb hby d1_21) rfl (own_tlt (a := (122 : Int32)) (b := vc) (by decide) rfl hc21_33).2.2.2 ?_
              show Steps p.tables e below (s₁.setTop (mkF m 24 #[.val (.int vc), .unset] [])) _
              refine XS.iloadN X0.here hx rfl (hb hby d1_24) rfl ?_
              show Steps p.tables e below (s₁.setTop (mkF m 25 #[.val (.int vc), .unset] [(.int vc)])) _
              refine XS.bipush X0.here hx rfl (hb hby d1_25) ?_
              exact kt
            by_cases hc27_35 : vc.toInt < (65 : Int)
            · have pre37 : ∀ t, Steps p.tables e below (s₁.setTop (mkF m 41 #[.val (.int vc), .unset] [(.int (0 : Int32))])) t → Steps p.tables e below (s₁.setTop (entryFrame m #[(.int vc)] 2)) t := fun t kt => by
                refine pre36 _ ?_
                show Steps p.tables e below (s₁.setTop (mkF m 27 #[.val (.int vc), .unset] [(.int (65 : Int32)), (.int vc)])) _
                refine XS.icmpYes X0.here hx rfl (pc0 := 27) (pc' := 40) rfl (hb hby d1_27) rfl (own_tlt (a := vc) (b := (65 : Int32)) rfl (by decide) hc27_35).1 (by decide) (by decide) ?_
                show Steps p.tables e below (s₁.setTop (mkF m 40 #[.val (.int vc), .unset] [])) _
                refine XS.iconst X0.here hx rfl (hb hby d1_40) ?_
                exact kt
              exact ⟨(0 : Int32), by have iv : ((0 : Int32)).toInt = (0 : Int) := (by decide); omega, pre37⟩
            · have pre39 : ∀ t, Steps p.tables e below (s₁.setTop (mkF m 33 #[.val (.int vc), .unset] [(.int (90 : Int32)), (.int vc)])) t → Steps p.tables e below (s₁.setTop (entryFrame m #[(.int vc)] 2)) t := fun t kt => by
                refine pre36 _ ?_
                show Steps p.tables e below (s₁.setTop (mkF m 27 #[.val (.int vc), .unset] [(.int (65 : Int32)), (.int vc)])) _
                refine XS.icmpNo X0.here hx rfl (hb hby d1_27) rfl (own_flt (a := vc) (b := (65 : Int32)) rfl (by decide) hc27_35).1 ?_
                show Steps p.tables e below (s₁.setTop (mkF m 30 #[.val (.int vc), .unset] [])) _
                refine XS.iloadN X0.here hx rfl (hb hby d1_30) rfl ?_
                show Steps p.tables e below (s₁.setTop (mkF m 31 #[.val (.int vc), .unset] [(.int vc)])) _
                refine XS.bipush X0.here hx rfl (hb hby d1_31) ?_
                exact kt
              by_cases hc33_38 : (90 : Int) < vc.toInt
              · have pre40 : ∀ t, Steps p.tables e below (s₁.setTop (mkF m 41 #[.val (.int vc), .unset] [(.int (0 : Int32))])) t → Steps p.tables e below (s₁.setTop (entryFrame m #[(.int vc)] 2)) t := fun t kt => by
                  refine pre39 _ ?_
                  show Steps p.tables e below (s₁.setTop (mkF m 33 #[.val (.int vc), .unset] [(.int (90 : Int32)), (.int vc)])) _
                  refine XS.icmpYes X0.here hx rfl (pc0 := 33) (pc' := 40) rfl (hb hby d1_33) rfl (own_tlt (a := (90 : Int32)) (b := vc) (by decide) rfl hc33_38).2.2.1 (by decide) (by decide) ?_
                  show Steps p.tables e below (s₁.setTop (mkF m 40 #[.val (.int vc), .unset] [])) _
                  refine XS.iconst X0.here hx rfl (hb hby d1_40) ?_
                  exact kt
                exact ⟨(0 : Int32), by have iv : ((0 : Int32)).toInt = (0 : Int) := (by decide); omega, pre40⟩
              · have pre41 : ∀ t, Steps p.tables e below (s₁.setTop (mkF m 41 #[.val (.int vc), .unset] [(.int (1 : Int32))])) t → Steps p.tables e below (s₁.setTop (entryFrame m #[(.int vc)] 2)) t := fun t kt => by
                  refine pre39 _ ?_
                  show Steps p.tables e below (s₁.setTop (mkF m 33 #[.val (.int vc), .unset] [(.int (90 : Int32)), (.int vc)])) _
                  refine XS.icmpNo X0.here hx rfl (hb hby d1_33) rfl (own_flt (a := (90 : Int32)) (b := vc) (by decide) rfl hc33_38).2.2.1 ?_
                  show Steps p.tables e below (s₁.setTop (mkF m 36 #[.val (.int vc), .unset] [])) _
                  refine XS.iconst X0.here hx rfl (hb hby d1_36) ?_
                  show Steps p.tables e below (s₁.setTop (mkF m 37 #[.val (.int vc), .unset] [(.int (1 : Int32))])) _
                  refine XS.goto X0.here hx rfl (pc0 := 37) (pc' := 41) rfl (hb hby d1_37) (by decide) (by decide) ?_
                  exact kt
                exact ⟨(1 : Int32), by have iv : ((1 : Int32)).toInt = (1 : Int) := (by decide); omega, pre41⟩
          · have pre42 : ∀ t, Steps p.tables e below (s₁.setTop (mkF m 41 #[.val (.int vc), .unset] [(.int (1 : Int32))])) t → Steps p.tables e below (s₁.setTop (entryFrame m #[(.int vc)] 2)) t := fun t kt => by
              refine pre34 _ ?_
              show Steps p.tables e below (s₁.setTop (mkF m 21 #[.val (.int vc), .unset] [(.int (122 : Int32)), (.int vc)])) _
              refine XS.icmpYes X0.here hx rfl (pc0 := 21) (pc' := 36) rfl (hb hby d1_21) rfl (own_flt (a := (122 : Int32)) (b := vc) (by decide) rfl hc21_33).2.2.2 (by decide) (by decide) ?_
              show Steps p.tables e below (s₁.setTop (mkF m 36 #[.val (.int vc), .unset] [])) _
              refine XS.iconst X0.here hx rfl (hb hby d1_36) ?_
              show Steps p.tables e below (s₁.setTop (mkF m 37 #[.val (.int vc), .unset] [(.int (1 : Int32))])) _
              refine XS.goto X0.here hx rfl (pc0 := 37) (pc' := 41) rfl (hb hby d1_37) (by decide) (by decide) ?_
              exact kt
            exact ⟨(1 : Int32), by have iv : ((1 : Int32)).toInt = (1 : Int) := (by decide); omega, pre42⟩
      · have pre43 : ∀ t, Steps p.tables e below (s₁.setTop (mkF m 41 #[.val (.int vc), .unset] [(.int (1 : Int32))])) t → Steps p.tables e below (s₁.setTop (entryFrame m #[(.int vc)] 2)) t := fun t kt => by
          refine pre23 _ ?_
          show Steps p.tables e below (s₁.setTop (mkF m 9 #[.val (.int vc), .unset] [(.int (57 : Int32)), (.int vc)])) _
          refine XS.icmpYes X0.here hx rfl (pc0 := 9) (pc' := 36) rfl (hb hby d1_9) rfl (own_flt (a := (57 : Int32)) (b := vc) (by decide) rfl hc9_22).2.2.2 (by decide) (by decide) ?_
          show Steps p.tables e below (s₁.setTop (mkF m 36 #[.val (.int vc), .unset] [])) _
          refine XS.iconst X0.here hx rfl (hb hby d1_36) ?_
          show Steps p.tables e below (s₁.setTop (mkF m 37 #[.val (.int vc), .unset] [(.int (1 : Int32))])) _
          refine XS.goto X0.here hx rfl (pc0 := 37) (pc' := 41) rfl (hb hby d1_37) (by decide) (by decide) ?_
          exact kt
        exact ⟨(1 : Int32), by have iv : ((1 : Int32)).toInt = (1 : Int) := (by decide); omega, pre43⟩
  have pre46 : ∀ t, Steps p.tables e below (s₁.setTop (mkF m 43 #[.val (.int vc), .val (.int lod)] [(.int lod)])) t → Steps p.tables e below (s₁.setTop (entryFrame m #[(.int vc)] 2)) t := fun t kt => by
    refine pre44 _ ?_
    show Steps p.tables e below (s₁.setTop (mkF m 41 #[.val (.int vc), .unset] [(.int lod)])) _
    refine XS.istoreN X0.here hx rfl (hb hby d1_41) rfl (l' := #[.val (.int vc), .val (.int lod)]) rfl ?_
    show Steps p.tables e below (s₁.setTop (mkF m 42 #[.val (.int vc), .val (.int lod)] [])) _
    refine XS.iloadN X0.here hx rfl (hb hby d1_42) rfl ?_
    exact kt
  by_cases hc43_45 : lod.toInt = (0 : Int)
  · obtain ⟨la47, T47, h47, k147, lb47, kb47, X47, e47, E47, hS47, hk47, hZ, hown, A47, Fc47, Fv47, V47, lt47, lu47, CRn47, Lt47, Sf47, st47⟩ := ldcCH X0 hx hZ hown (text := "-._~") (hw _ (List.mem_of_getElem? (i := 4) rfl)) wS e0 hS0 hk0 hEL (List.mem_of_getElem? (i := 0) rfl) CR0.1 (vs := [(.int (45 : Int32)), (.int (46 : Int32)), (.int (95 : Int32)), (.int (126 : Int32))]) (z := (4 : Int32)) ⟨by decide, by rfl⟩ (by decide) rfl (g := (mkF m 46 #[.val (.int vc), .val (.int lod)] [])) rfl (hb hby d1_46) (n := 16) (by decide) (by decide) (by decide) (by decide)
    have CR48 := CR0.trans CRn47
    have Zs49 : n0 ≤ h47.size := Nat.le_trans Z0 E47.1
    have f50 := (Sc.ext E47)
    obtain ⟨cq51, kq51, q51a, q51b, q51c⟩ := isOf hZ e47 A47
    obtain ⟨_, _, ⟨T51, L51, k51, n51⟩, -, X51, ⟨Lc51, hQ51, l51, y51, z51⟩, st51⟩ := X47.virtualBack hx (y := (⟨"java/lang/String", "indexOf", "(I)I"⟩ : MethodName)) (z := (⟨"java/lang/String", "indexOf", "(I)I"⟩ : MethodName)) hown (mvT hZ (hw _ (List.mem_of_getElem? (i := 12) rfl))) (mvT hZ (hw _ (List.mem_of_getElem? (i := 13) rfl))) (notFace_of_selects (args := #[]) (mvT hZ (hw _ (List.mem_of_getElem? (i := 15) rfl)))) (mvT hZ (hw _ (List.mem_of_getElem? (i := 15) rfl))) (mvT hZ (hw _ (List.mem_of_getElem? (i := 14) rfl))) (by decide) (backOf (W := 0) (rm2 l Z a0 hw [] la47 vc vcs lb47 kb47 h47 n0 Zs49 f50 ncs A47 Fc47 Fv47 V47 c1 c2) hZ (hw _ (List.mem_of_getElem? (i := 16) rfl)) (hw _ (List.mem_of_getElem? (i := 5) rfl)) (by decide) (by decide)) q51a q51c (g := (mkF m 49 #[.val (.int vc), .val (.int lod)] [(.int vc), (.ref la47)])) rfl (by rw [hml]; rfl) (Steps.refl _) (argsL := [(.int vc)]) (rest := []) (lenOf pd_6 rfl) rfl (by show 2 * 0 + _ ≤ _; exact Nat.le_of_eq rfl) (hb hby d1_49) (fun _ _ => ⟨rfl, e47, (by decide : 2 + 0 ≤ _), (by decide : 20 + 0 ≤ _)⟩)
    dsimp only [Pt.U, Pt.locs, Pt.cells, Pt.slots] at X51 l51 y51 z51 st51 hQ51
    subst l51 y51 z51
    obtain ⟨zi, rfl, hzi, N51q, e51⟩ := hQ51
    have N51 := Fr.app N0 N51q
    have pre53 : ∀ t, Steps p.tables e below (T51.setTop (mkF m 52 #[.val (.int vc), .val (.int lod)] [(.int zi)])) t → Steps p.tables e below (s₁.setTop (entryFrame m #[(.int vc)] 2)) t := fun t kt => by
      refine pre46 _ ?_
      show Steps p.tables e below (s₁.setTop (mkF m 43 #[.val (.int vc), .val (.int lod)] [(.int lod)])) _
      refine XS.ifNo X0.here hx rfl (hb hby d1_43) rfl (own_if (own_teq (a := lod) (b := (0 : Int32)) rfl (by decide) hc43_45).2) ?_
      show Steps p.tables e below (s₁.setTop (mkF m 46 #[.val (.int vc), .val (.int lod)] [])) _
      refine st47 _ ?_
      show Steps p.tables e below (T47.setTop (mkF m 48 #[.val (.int vc), .val (.int lod)] [(.ref la47)])) _
      refine XS.iloadN X47.here hx rfl (hb hby d1_48) rfl ?_
      show Steps p.tables e below (T47.setTop (mkF m 49 #[.val (.int vc), .val (.int lod)] [(.int vc), (.ref la47)])) _
      refine st51.trans ?_
      exact kt
    by_cases hc52_52 : zi.toInt < (0 : Int)
    · obtain ⟨fs, hr, hrun, hended, hREW⟩ := X51.leaveW hS47 (by rw [e51]; exact hk47) (v := some (.int (0 : Int32))) (fun h => by rw [Bd.returns] at h; cases h)
      refine ⟨_, _, pre53 _ ?_, hrun, hended, _, _, rfl, ?_, ?_, ⟨hREW.1, hREW.2.1, hREW.2.2.1, hREW.2.2.2.mono (by decide) (by decide)⟩⟩
      · show Steps p.tables e below (T51.setTop (mkF m 52 #[.val (.int vc), .val (.int lod)] [(.int zi)])) _
        refine XS.ifYes X51.here hx rfl (pc0 := 52) (pc' := 59) rfl (hb hby d1_52) rfl (own_if (own_tlt (a := zi) (b := (0 : Int32)) rfl (by decide) hc52_52).1) (by decide) (by decide) ?_
        show Steps p.tables e below (T51.setTop (mkF m 59 #[.val (.int vc), .val (.int lod)] [])) _
        refine XS.iconst X51.here hx rfl (hb hby d1_59) ?_
        show Steps p.tables e below (T51.setTop (mkF m 60 #[.val (.int vc), .val (.int lod)] [(.int (0 : Int32))])) _
        exact retN X51 hx (t := .boolean) Bd.returns (by simp) (hb hby d1_60) hr
      · show Q1 Z vc vcs h0 n0 _ T51.heap _
        rw [e51]
        have f54 := ((Keep.refl h0 []).ext E47)
        exact ⟨_, rfl, by have iv : ((0 : Int32)).toInt = (0 : Int) := (by decide); omega, N51, f54⟩
      · show CHr Z own_EL s.vm s.heap T51.vm T51.heap
        rw [hh, e51]
        exact CR48.trans (CHv.at X51 hZ hEL CR48.1)
    · obtain ⟨fs, hr, hrun, hended, hREW⟩ := X51.leaveW hS47 (by rw [e51]; exact hk47) (v := some (.int (1 : Int32))) (fun h => by rw [Bd.returns] at h; cases h)
      refine ⟨_, _, pre53 _ ?_, hrun, hended, _, _, rfl, ?_, ?_, ⟨hREW.1, hREW.2.1, hREW.2.2.1, hREW.2.2.2.mono (by decide) (by decide)⟩⟩
      · show Steps p.tables e below (T51.setTop (mkF m 52 #[.val (.int vc), .val (.int lod)] [(.int zi)])) _
        refine XS.ifNo X51.here hx rfl (hb hby d1_52) rfl (own_if (own_flt (a := zi) (b := (0 : Int32)) rfl (by decide) hc52_52).1) ?_
        show Steps p.tables e below (T51.setTop (mkF m 55 #[.val (.int vc), .val (.int lod)] [])) _
        refine XS.iconst X51.here hx rfl (hb hby d1_55) ?_
        show Steps p.tables e below (T51.setTop (mkF m 56 #[.val (.int vc), .val (.int lod)] [(.int (1 : Int32))])) _
        refine XS.goto X51.here hx rfl (pc0 := 56) (pc' := 60) rfl (hb hby d1_56) (by decide) (by decide) ?_
        show Steps p.tables e below (T51.setTop (mkF m 60 #[.val (.int vc), .val (.int lod)] [(.int (1 : Int32))])) _
        exact retN X51 hx (t := .boolean) Bd.returns (by simp) (hb hby d1_60) hr
      · show Q1 Z vc vcs h0 n0 _ T51.heap _
        rw [e51]
        have f55 := ((Keep.refl h0 []).ext E47)
        exact ⟨_, rfl, by have iv : ((1 : Int32)).toInt = (1 : Int) := (by decide); omega, N51, f55⟩
      · show CHr Z own_EL s.vm s.heap T51.vm T51.heap
        rw [hh, e51]
        exact CR48.trans (CHv.at X51 hZ hEL CR48.1)
  · obtain ⟨fs, hr, hrun, hended, hREW⟩ := X0.leaveW hS0 (by rw [e0]; exact hk0) (v := some (.int (1 : Int32))) (fun h => by rw [Bd.returns] at h; cases h)
    refine ⟨_, _, pre46 _ ?_, hrun, hended, _, _, rfl, ?_, ?_, ⟨hREW.1, hREW.2.1, hREW.2.2.1, hREW.2.2.2.mono (by decide) (by decide)⟩⟩
    · show Steps p.tables e below (s₁.setTop (mkF m 43 #[.val (.int vc), .val (.int lod)] [(.int lod)])) _
      refine XS.ifYes X0.here hx rfl (pc0 := 43) (pc' := 55) rfl (hb hby d1_43) rfl (own_if (own_feq (a := lod) (b := (0 : Int32)) rfl (by decide) hc43_45).2) (by decide) (by decide) ?_
      show Steps p.tables e below (s₁.setTop (mkF m 55 #[.val (.int vc), .val (.int lod)] [])) _
      refine XS.iconst X0.here hx rfl (hb hby d1_55) ?_
      show Steps p.tables e below (s₁.setTop (mkF m 56 #[.val (.int vc), .val (.int lod)] [(.int (1 : Int32))])) _
      refine XS.goto X0.here hx rfl (pc0 := 56) (pc' := 60) rfl (hb hby d1_56) (by decide) (by decide) ?_
      show Steps p.tables e below (s₁.setTop (mkF m 60 #[.val (.int vc), .val (.int lod)] [(.int (1 : Int32))])) _
      exact retN X0 hx (t := .boolean) Bd.returns (by simp) (hb hby d1_60) hr
    · show Q1 Z vc vcs h0 n0 _ s₁.heap _
      rw [e0]
      exact ⟨_, rfl, by have iv : ((1 : Int32)).toInt = (1 : Int) := (by decide); omega, N0, (Keep.refl h0 [])⟩
    · show CHr Z own_EL s.vm s.heap s₁.vm s₁.heap
      rw [hh, e0]
      exact CR0.trans (CHv.at X0 hZ hEL CR0.1)
theorem pn_3 : plainName "com/example/path_template_matcher/pathtemplatematcher/PercentEncodingIsUnreservedPinLaw" = true := by first | (simp [plainName, overriddenIn]; done) | decide +kernel
theorem ef_rm0 (m : MethodId) (x0 : Int32) : entryFrame m #[(.int x0)] maxLocals = mkF m 0 #[.val (.int x0), .unset, .unset, .unset] [] := by first | (simp [entryFrame, mkF, argsToLocals, Value.category, maxLocals]; done) | rfl
theorem pd_7 : parseMethodDescriptor "(C)Z" = some ⟨[.char], some .boolean⟩ := by decide +kernel
def Q0 (Z : State) (vx : Int32) (vcs : Int32) (h0 : Heap) (n0 : Nat) (v : Option Value) (h : Heap) (L : List Loc) : Prop := v = some (.int 1) ∧ Fr n0 L
set_option maxRecDepth 65536 in
set_option maxHeartbeats 40000000 in
theorem rm0 (l : Launch) (Z : State) (a0 : Array Value) (hw : ∀ d ∈ tables_1, d.before a0 Z = true) (ws : List Jvm.Cond) (vx : Int32) (vcs : Int32) (h0 : Heap) (n0 : Nat) (Z0 : n0 ≤ h0.size) (Sc : Sta Z h0 "java/lang/String" "COMPACT_STRINGS" "Z" (.int vcs)) (ncs : ¬ vcs.toInt = 0) :
    MetFree l x (head1 (Jvm.Cond.code x code maxLocals ret :: ws) room_1) (fun a U => a = #[(.int vx)] ∧ Z.Warmed39 U.vm ∧ U.heap = h0 ∧ CHv Z own_EL U.vm h0) (fun _ _ _ _ _ => True) (fun _ U o U' => ∃ v L, o = .returned v ∧ Q0 Z vx vcs h0 n0 v U'.heap L ∧ CHr Z own_EL U.vm U.heap U'.vm U'.heap ∧ ReturnedEndW U o U' L room_1.cells room_1.slots) := by
  refine MetFree.of_bodySF (plainFor_of_name pn_3) hisR ?_
  intro p e s m args below meth c s₁ Bd hml0 hP hK
  obtain ⟨rfl, hZ, hh, hC⟩ := hP
  have hx := Bd.exec
  have hby := Bd.bytes
  have hml : c.maxLocals = 4 := hml0
  have hown : s.vm.findClass "com/example/path_template_matcher/pathtemplatematcher/PercentEncodingIsUnreservedPinLaw" = some m.cls := findClass_of_methodNamed Bd.named
  have hnm := (name_of_methodNamed Bd.named Bd.method).1
  have X0 : Stand p l e room_1 (s.setVm s.vm) m #[(.int vx)] below meth c s₁ [] 0 0 := Stand.of_body Bd
  have e0 : s₁.heap = h0 := by rw [← hh, Bd.state]; rfl
  have N0 := Fr.nil n0
  have hEL := own_EW hw
  have wS := own_wS hw
  have CR0 : CHr Z own_EL s.vm h0 s.vm h0 := CHr.refl hC
  have hS0 : s.Since s.vm h0.size := (State.WarmedH.refl s).since _
  have hk0 : h0.size ≤ h0.size := Nat.le_refl _
  have pre0 : ∀ t, Steps p.tables e below (s₁.setTop (mkF m 0 #[.val (.int vx), .unset, .unset, .unset] [])) t → Steps p.tables e below (s₁.setTop (entryFrame m #[(.int vx)] maxLocals)) t := fun t k => castTop (ef_rm0 m vx) k
  have pre1 : ∀ t, Steps p.tables e below (s₁.setTop (mkF m 2 #[.val (.int vx), .unset, .unset, .unset] [(.int (vx.toUInt32.toUInt16.toUInt32.toInt32))])) t → Steps p.tables e below (s₁.setTop (entryFrame m #[(.int vx)] maxLocals)) t := fun t kt => by
    refine pre0 _ ?_
    show Steps p.tables e below (s₁.setTop (mkF m 0 #[.val (.int vx), .unset, .unset, .unset] [])) _
    refine XS.iloadN X0.here hx rfl (hb hby at_0) rfl ?_
    show Steps p.tables e below (s₁.setTop (mkF m 1 #[.val (.int vx), .unset, .unset, .unset] [(.int vx)])) _
    refine XS.i2c X0.here hx rfl (hb hby at_1) rfl ?_
    exact kt
  obtain ⟨v2, hv2⟩ : ∃ z : Int32, z = (vx.toUInt32.toUInt16.toUInt32.toInt32) := ⟨_, rfl⟩
  have jv2 : 0 ≤ v2.toInt ∧ v2.toInt < 65536 := by rw [hv2]; have := rng32 vx; have := c_i2c vx; omega
  have pre2 : ∀ t, Steps p.tables e below (s₁.setTop (mkF m 2 #[.val (.int vx), .unset, .unset, .unset] [(.int v2)])) t → Steps p.tables e below (s₁.setTop (entryFrame m #[(.int vx)] maxLocals)) t := by rw [hv2]; exact pre1
  have pre3 : ∀ t, Steps p.tables e below (s₁.setTop (mkF m 5 #[.val (.int vx), .val (.int v2), .val (.int v2), .unset] [])) t → Steps p.tables e below (s₁.setTop (entryFrame m #[(.int vx)] maxLocals)) t := fun t kt => by
    refine pre2 _ ?_
    show Steps p.tables e below (s₁.setTop (mkF m 2 #[.val (.int vx), .unset, .unset, .unset] [(.int v2)])) _
    refine XS.istoreN X0.here hx rfl (hb hby at_2) rfl (l' := #[.val (.int vx), .val (.int v2), .unset, .unset]) rfl ?_
    show Steps p.tables e below (s₁.setTop (mkF m 3 #[.val (.int vx), .val (.int v2), .unset, .unset] [])) _
    refine XS.iloadN X0.here hx rfl (hb hby at_3) rfl ?_
    show Steps p.tables e below (s₁.setTop (mkF m 4 #[.val (.int vx), .val (.int v2), .unset, .unset] [(.int v2)])) _
    refine XS.istoreN X0.here hx rfl (hb hby at_4) rfl (l' := #[.val (.int vx), .val (.int v2), .val (.int v2), .unset]) rfl ?_
    exact kt
  obtain ⟨ex, hex, pre167⟩ : ∃ ex : Int32, ((ex.toInt = 1 ∧ ((45 ≤ v2.toInt ∧ v2.toInt ≤ 46) ∨ (48 ≤ v2.toInt ∧ v2.toInt ≤ 57) ∨ (65 ≤ v2.toInt ∧ v2.toInt ≤ 90) ∨ v2.toInt = 95 ∨ (97 ≤ v2.toInt ∧ v2.toInt ≤ 122) ∨ v2.toInt = 126)) ∨ (ex.toInt = 0 ∧ ¬ ((45 ≤ v2.toInt ∧ v2.toInt ≤ 46) ∨ (48 ≤ v2.toInt ∧ v2.toInt ≤ 57) ∨ (65 ≤ v2.toInt ∧ v2.toInt ≤ 90) ∨ v2.toInt = 95 ∨ (97 ≤ v2.toInt ∧ v2.toInt ≤ 122) ∨ v2.toInt = 126))) ∧ ∀ t, Steps p.tables e below (s₁.setTop (mkF m 70 #[.val (.int vx), .val (.int v2), .val (.int v2), .unset] [(.int ex)])) t → Steps p.tables e below (s₁.setTop (entryFrame m #[(.int vx)] maxLocals)) t := by
    have pre5 : ∀ t, Steps p.tables e below (s₁.setTop (mkF m 8 #[.val (.int vx), .val (.int v2), .val (.int v2), .unset] [(.int (45 : Int32)), (.int v2)])) t → Steps p.tables e below (s₁.setTop (entryFrame m #[(.int vx)] maxLocals)) t := fun t kt => by
      refine pre3 _ ?_
      show Steps p.tables e below (s₁.setTop (mkF m 5 #[.val (.int vx), .val (.int v2), .val (.int v2), .unset] [])) _
      refine XS.iloadN X0.here hx rfl (hb hby at_5) rfl ?_
      show Steps p.tables e below (s₁.setTop (mkF m 6 #[.val (.int vx), .val (.int v2), .val (.int v2), .unset] [(.int v2)])) _
      refine XS.bipush X0.here hx rfl (hb hby at_6) ?_
      exact kt
    by_cases hc8_4 : v2.toInt < (45 : Int)
    · have pre7 : ∀ t, Steps p.tables e below (s₁.setTop (mkF m 20 #[.val (.int vx), .val (.int v2), .val (.int v2), .unset] [(.int (48 : Int32)), (.int v2)])) t → Steps p.tables e below (s₁.setTop (entryFrame m #[(.int vx)] maxLocals)) t := fun t kt => by
        refine pre5 _ ?_
        show Steps p.tables e below (s₁.setTop (mkF m 8 #[.val (.int vx), .val (.int v2), .val (.int v2), .unset] [(.int (45 : Int32)), (.int v2)])) _
        refine XS.icmpYes X0.here hx rfl (pc0 := 8) (pc' := 17) rfl (hb hby at_8) rfl (own_tlt (a := v2) (b := (45 : Int32)) rfl (by decide) hc8_4).1 (by decide) (by decide) ?_
        show Steps p.tables e below (s₁.setTop (mkF m 17 #[.val (.int vx), .val (.int v2), .val (.int v2), .unset] [])) _
        refine XS.iloadN X0.here hx rfl (hb hby at_17) rfl ?_
        show Steps p.tables e below (s₁.setTop (mkF m 18 #[.val (.int vx), .val (.int v2), .val (.int v2), .unset] [(.int v2)])) _
        refine XS.bipush X0.here hx rfl (hb hby at_18) ?_
        exact kt
      by_cases hc20_6 : v2.toInt < (48 : Int)
      · have pre9 : ∀ t, Steps p.tables e below (s₁.setTop (mkF m 32 #[.val (.int vx), .val (.int v2), .val (.int v2), .unset] [(.int (65 : Int32)), (.int v2)])) t → Steps p.tables e below (s₁.setTop (entryFrame m #[(.int vx)] maxLocals)) t := fun t kt => by
          refine pre7 _ ?_
          show Steps p.tables e below (s₁.setTop (mkF m 20 #[.val (.int vx), .val (.int v2), .val (.int v2), .unset] [(.int (48 : Int32)), (.int v2)])) _
          refine XS.icmpYes X0.here hx rfl (pc0 := 20) (pc' := 29) rfl (hb hby at_20) rfl (own_tlt (a := v2) (b := (48 : Int32)) rfl (by decide) hc20_6).1 (by decide) (by decide) ?_
          show Steps p.tables e below (s₁.setTop (mkF m 29 #[.val (.int vx), .val (.int v2), .val (.int v2), .unset] [])) _
          refine XS.iloadN X0.here hx rfl (hb hby at_29) rfl ?_
          show Steps p.tables e below (s₁.setTop (mkF m 30 #[.val (.int vx), .val (.int v2), .val (.int v2), .unset] [(.int v2)])) _
          refine XS.bipush X0.here hx rfl (hb hby at_30) ?_
          exact kt
        by_cases hc32_8 : v2.toInt < (65 : Int)
        · have pre11 : ∀ t, Steps p.tables e below (s₁.setTop (mkF m 44 #[.val (.int vx), .val (.int v2), .val (.int v2), .unset] [(.int (95 : Int32)), (.int v2)])) t → Steps p.tables e below (s₁.setTop (entryFrame m #[(.int vx)] maxLocals)) t := fun t kt => by
            refine pre9 _ ?_
            show Steps p.tables e below (s₁.setTop (mkF m 32 #[.val (.int vx), .val (.int v2), .val (.int v2), .unset] [(.int (65 : Int32)), (.int v2)])) _
            refine XS.icmpYes X0.here hx rfl (pc0 := 32) (pc' := 41) rfl (hb hby at_32) rfl (own_tlt (a := v2) (b := (65 : Int32)) rfl (by decide) hc32_8).1 (by decide) (by decide) ?_
            show Steps p.tables e below (s₁.setTop (mkF m 41 #[.val (.int vx), .val (.int v2), .val (.int v2), .unset] [])) _
            refine XS.iloadN X0.here hx rfl (hb hby at_41) rfl ?_
            show Steps p.tables e below (s₁.setTop (mkF m 42 #[.val (.int vx), .val (.int v2), .val (.int v2), .unset] [(.int v2)])) _
            refine XS.bipush X0.here hx rfl (hb hby at_42) ?_
            exact kt
          by_cases hc44_10 : v2.toInt = (95 : Int)
          · have pre12 : ∀ t, Steps p.tables e below (s₁.setTop (mkF m 70 #[.val (.int vx), .val (.int v2), .val (.int v2), .unset] [(.int (1 : Int32))])) t → Steps p.tables e below (s₁.setTop (entryFrame m #[(.int vx)] maxLocals)) t := fun t kt => by
              refine pre11 _ ?_
              show Steps p.tables e below (s₁.setTop (mkF m 44 #[.val (.int vx), .val (.int v2), .val (.int v2), .unset] [(.int (95 : Int32)), (.int v2)])) _
              refine XS.icmpYes X0.here hx rfl (pc0 := 44) (pc' := 65) rfl (hb hby at_44) rfl (own_teq (a := v2) (b := (95 : Int32)) rfl (by decide) hc44_10).1 (by decide) (by decide) ?_
              show Steps p.tables e below (s₁.setTop (mkF m 65 #[.val (.int vx), .val (.int v2), .val (.int v2), .unset] [])) _
              refine XS.iconst X0.here hx rfl (hb hby at_65) ?_
              show Steps p.tables e below (s₁.setTop (mkF m 66 #[.val (.int vx), .val (.int v2), .val (.int v2), .unset] [(.int (1 : Int32))])) _
              refine XS.goto X0.here hx rfl (pc0 := 66) (pc' := 70) rfl (hb hby at_66) (by decide) (by decide) ?_
              exact kt
            exact ⟨(1 : Int32), by have iv : ((1 : Int32)).toInt = (1 : Int) := (by decide); omega, pre12⟩
          · have pre14 : ∀ t, Steps p.tables e below (s₁.setTop (mkF m 50 #[.val (.int vx), .val (.int v2), .val (.int v2), .unset] [(.int (97 : Int32)), (.int v2)])) t → Steps p.tables e below (s₁.setTop (entryFrame m #[(.int vx)] maxLocals)) t := fun t kt => by
              refine pre11 _ ?_
              show Steps p.tables e below (s₁.setTop (mkF m 44 #[.val (.int vx), .val (.int v2), .val (.int v2), .unset] [(.int (95 : Int32)), (.int v2)])) _
              refine XS.icmpNo X0.here hx rfl (hb hby at_44) rfl (own_feq (a := v2) (b := (95 : Int32)) rfl (by decide) hc44_10).1 ?_
              show Steps p.tables e below (s₁.setTop (mkF m 47 #[.val (.int vx), .val (.int v2), .val (.int v2), .unset] [])) _
              refine XS.iloadN X0.here hx rfl (hb hby at_47) rfl ?_
              show Steps p.tables e below (s₁.setTop (mkF m 48 #[.val (.int vx), .val (.int v2), .val (.int v2), .unset] [(.int v2)])) _
              refine XS.bipush X0.here hx rfl (hb hby at_48) ?_
              exact kt
            by_cases hc50_13 : v2.toInt < (97 : Int)
            · have pre16 : ∀ t, Steps p.tables e below (s₁.setTop (mkF m 62 #[.val (.int vx), .val (.int v2), .val (.int v2), .unset] [(.int (126 : Int32)), (.int v2)])) t → Steps p.tables e below (s₁.setTop (entryFrame m #[(.int vx)] maxLocals)) t := fun t kt => by
                refine pre14 _ ?_
                show Steps p.tables e below (s₁.setTop (mkF m 50 #[.val (.int vx), .val (.int v2), .val (.int v2), .unset] [(.int (97 : Int32)), (.int v2)])) _
                refine XS.icmpYes X0.here hx rfl (pc0 := 50) (pc' := 59) rfl (hb hby at_50) rfl (own_tlt (a := v2) (b := (97 : Int32)) rfl (by decide) hc50_13).1 (by decide) (by decide) ?_
                show Steps p.tables e below (s₁.setTop (mkF m 59 #[.val (.int vx), .val (.int v2), .val (.int v2), .unset] [])) _
                refine XS.iloadN X0.here hx rfl (hb hby at_59) rfl ?_
                show Steps p.tables e below (s₁.setTop (mkF m 60 #[.val (.int vx), .val (.int v2), .val (.int v2), .unset] [(.int v2)])) _
                refine XS.bipush X0.here hx rfl (hb hby at_60) ?_
                exact kt
              by_cases hc62_15 : v2.toInt = (126 : Int)
              · have pre17 : ∀ t, Steps p.tables e below (s₁.setTop (mkF m 70 #[.val (.int vx), .val (.int v2), .val (.int v2), .unset] [(.int (1 : Int32))])) t → Steps p.tables e below (s₁.setTop (entryFrame m #[(.int vx)] maxLocals)) t := fun t kt => by
                  refine pre16 _ ?_
                  show Steps p.tables e below (s₁.setTop (mkF m 62 #[.val (.int vx), .val (.int v2), .val (.int v2), .unset] [(.int (126 : Int32)), (.int v2)])) _
                  refine XS.icmpNo X0.here hx rfl (hb hby at_62) rfl (own_teq (a := v2) (b := (126 : Int32)) rfl (by decide) hc62_15).2 ?_
                  show Steps p.tables e below (s₁.setTop (mkF m 65 #[.val (.int vx), .val (.int v2), .val (.int v2), .unset] [])) _
                  refine XS.iconst X0.here hx rfl (hb hby at_65) ?_
                  show Steps p.tables e below (s₁.setTop (mkF m 66 #[.val (.int vx), .val (.int v2), .val (.int v2), .unset] [(.int (1 : Int32))])) _
                  refine XS.goto X0.here hx rfl (pc0 := 66) (pc' := 70) rfl (hb hby at_66) (by decide) (by decide) ?_
                  exact kt
                exact ⟨(1 : Int32), by have iv : ((1 : Int32)).toInt = (1 : Int) := (by decide); omega, pre17⟩
              · have pre18 : ∀ t, Steps p.tables e below (s₁.setTop (mkF m 70 #[.val (.int vx), .val (.int v2), .val (.int v2), .unset] [(.int (0 : Int32))])) t → Steps p.tables e below (s₁.setTop (entryFrame m #[(.int vx)] maxLocals)) t := fun t kt => by
                  refine pre16 _ ?_
                  show Steps p.tables e below (s₁.setTop (mkF m 62 #[.val (.int vx), .val (.int v2), .val (.int v2), .unset] [(.int (126 : Int32)), (.int v2)])) _
                  refine XS.icmpYes X0.here hx rfl (pc0 := 62) (pc' := 69) rfl (hb hby at_62) rfl (own_feq (a := v2) (b := (126 : Int32)) rfl (by decide) hc62_15).2 (by decide) (by decide) ?_
                  show Steps p.tables e below (s₁.setTop (mkF m 69 #[.val (.int vx), .val (.int v2), .val (.int v2), .unset] [])) _
                  refine XS.iconst X0.here hx rfl (hb hby at_69) ?_
                  exact kt
                exact ⟨(0 : Int32), by have iv : ((0 : Int32)).toInt = (0 : Int) := (by decide); omega, pre18⟩
            · have pre20 : ∀ t, Steps p.tables e below (s₁.setTop (mkF m 56 #[.val (.int vx), .val (.int v2), .val (.int v2), .unset] [(.int (122 : Int32)), (.int v2)])) t → Steps p.tables e below (s₁.setTop (entryFrame m #[(.int vx)] maxLocals)) t := fun t kt => by
                refine pre14 _ ?_
                show Steps p.tables e below (s₁.setTop (mkF m 50 #[.val (.int vx), .val (.int v2), .val (.int v2), .unset] [(.int (97 : Int32)), (.int v2)])) _
                refine XS.icmpNo X0.here hx rfl (hb hby at_50) rfl (own_flt (a := v2) (b := (97 : Int32)) rfl (by decide) hc50_13).1 ?_
                show Steps p.tables e below (s₁.setTop (mkF m 53 #[.val (.int vx), .val (.int v2), .val (.int v2), .unset] [])) _
                refine XS.iloadN X0.here hx rfl (hb hby at_53) rfl ?_
                show Steps p.tables e below (s₁.setTop (mkF m 54 #[.val (.int vx), .val (.int v2), .val (.int v2), .unset] [(.int v2)])) _
                refine XS.bipush X0.here hx rfl (hb hby at_54) ?_
                exact kt
              by_cases hc56_19 : (122 : Int) < v2.toInt
              · have pre22 : ∀ t, Steps p.tables e below (s₁.setTop (mkF m 62 #[.val (.int vx), .val (.int v2), .val (.int v2), .unset] [(.int (126 : Int32)), (.int v2)])) t → Steps p.tables e below (s₁.setTop (entryFrame m #[(.int vx)] maxLocals)) t := fun t kt => by
                  refine pre20 _ ?_
                  show Steps p.tables e below (s₁.setTop (mkF m 56 #[.val (.int vx), .val (.int v2), .val (.int v2), .unset] [(.int (122 : Int32)), (.int v2)])) _
                  refine XS.icmpNo X0.here hx rfl (hb hby at_56) rfl (own_tlt (a := (122 : Int32)) (b := v2) (by decide) rfl hc56_19).2.2.2 ?_
                  show Steps p.tables e below (s₁.setTop (mkF m 59 #[.val (.int vx), .val (.int v2), .val (.int v2), .unset] [])) _
                  refine XS.iloadN X0.here hx rfl (hb hby at_59) rfl ?_
                  show Steps p.tables e below (s₁.setTop (mkF m 60 #[.val (.int vx), .val (.int v2), .val (.int v2), .unset] [(.int v2)])) _
                  refine XS.bipush X0.here hx rfl (hb hby at_60) ?_
                  exact kt
                by_cases hc62_21 : v2.toInt = (126 : Int)
                · have pre23 : ∀ t, Steps p.tables e below (s₁.setTop (mkF m 70 #[.val (.int vx), .val (.int v2), .val (.int v2), .unset] [(.int (1 : Int32))])) t → Steps p.tables e below (s₁.setTop (entryFrame m #[(.int vx)] maxLocals)) t := fun t kt => by
                    refine pre22 _ ?_
                    show Steps p.tables e below (s₁.setTop (mkF m 62 #[.val (.int vx), .val (.int v2), .val (.int v2), .unset] [(.int (126 : Int32)), (.int v2)])) _
                    refine XS.icmpNo X0.here hx rfl (hb hby at_62) rfl (own_teq (a := v2) (b := (126 : Int32)) rfl (by decide) hc62_21).2 ?_
                    show Steps p.tables e below (s₁.setTop (mkF m 65 #[.val (.int vx), .val (.int v2), .val (.int v2), .unset] [])) _
                    refine XS.iconst X0.here hx rfl (hb hby at_65) ?_
                    show Steps p.tables e below (s₁.setTop (mkF m 66 #[.val (.int vx), .val (.int v2), .val (.int v2), .unset] [(.int (1 : Int32))])) _
                    refine XS.goto X0.here hx rfl (pc0 := 66) (pc' := 70) rfl (hb hby at_66) (by decide) (by decide) ?_
                    exact kt
                  exact ⟨(1 : Int32), by have iv : ((1 : Int32)).toInt = (1 : Int) := (by decide); omega, pre23⟩
                · have pre24 : ∀ t, Steps p.tables e below (s₁.setTop (mkF m 70 #[.val (.int vx), .val (.int v2), .val (.int v2), .unset] [(.int (0 : Int32))])) t → Steps p.tables e below (s₁.setTop (entryFrame m #[(.int vx)] maxLocals)) t := fun t kt => by
                    refine pre22 _ ?_
                    show Steps p.tables e below (s₁.setTop (mkF m 62 #[.val (.int vx), .val (.int v2), .val (.int v2), .unset] [(.int (126 : Int32)), (.int v2)])) _
                    refine XS.icmpYes X0.here hx rfl (pc0 := 62) (pc' := 69) rfl (hb hby at_62) rfl (own_feq (a := v2) (b := (126 : Int32)) rfl (by decide) hc62_21).2 (by decide) (by decide) ?_
                    show Steps p.tables e below (s₁.setTop (mkF m 69 #[.val (.int vx), .val (.int v2), .val (.int v2), .unset] [])) _
                    refine XS.iconst X0.here hx rfl (hb hby at_69) ?_
                    exact kt
                  exact ⟨(0 : Int32), by have iv : ((0 : Int32)).toInt = (0 : Int) := (by decide); omega, pre24⟩
              · have pre25 : ∀ t, Steps p.tables e below (s₁.setTop (mkF m 70 #[.val (.int vx), .val (.int v2), .val (.int v2), .unset] [(.int (1 : Int32))])) t → Steps p.tables e below (s₁.setTop (entryFrame m #[(.int vx)] maxLocals)) t := fun t kt => by
                  refine pre20 _ ?_
                  show Steps p.tables e below (s₁.setTop (mkF m 56 #[.val (.int vx), .val (.int v2), .val (.int v2), .unset] [(.int (122 : Int32)), (.int v2)])) _
                  refine XS.icmpYes X0.here hx rfl (pc0 := 56) (pc' := 65) rfl (hb hby at_56) rfl (own_flt (a := (122 : Int32)) (b := v2) (by decide) rfl hc56_19).2.2.2 (by decide) (by decide) ?_
                  show Steps p.tables e below (s₁.setTop (mkF m 65 #[.val (.int vx), .val (.int v2), .val (.int v2), .unset] [])) _
                  refine XS.iconst X0.here hx rfl (hb hby at_65) ?_
                  show Steps p.tables e below (s₁.setTop (mkF m 66 #[.val (.int vx), .val (.int v2), .val (.int v2), .unset] [(.int (1 : Int32))])) _
                  refine XS.goto X0.here hx rfl (pc0 := 66) (pc' := 70) rfl (hb hby at_66) (by decide) (by decide) ?_
                  exact kt
                exact ⟨(1 : Int32), by have iv : ((1 : Int32)).toInt = (1 : Int) := (by decide); omega, pre25⟩
        · have pre27 : ∀ t, Steps p.tables e below (s₁.setTop (mkF m 38 #[.val (.int vx), .val (.int v2), .val (.int v2), .unset] [(.int (90 : Int32)), (.int v2)])) t → Steps p.tables e below (s₁.setTop (entryFrame m #[(.int vx)] maxLocals)) t := fun t kt => by
            refine pre9 _ ?_
            show Steps p.tables e below (s₁.setTop (mkF m 32 #[.val (.int vx), .val (.int v2), .val (.int v2), .unset] [(.int (65 : Int32)), (.int v2)])) _
            refine XS.icmpNo X0.here hx rfl (hb hby at_32) rfl (own_flt (a := v2) (b := (65 : Int32)) rfl (by decide) hc32_8).1 ?_
            show Steps p.tables e below (s₁.setTop (mkF m 35 #[.val (.int vx), .val (.int v2), .val (.int v2), .unset] [])) _
            refine XS.iloadN X0.here hx rfl (hb hby at_35) rfl ?_
            show Steps p.tables e below (s₁.setTop (mkF m 36 #[.val (.int vx), .val (.int v2), .val (.int v2), .unset] [(.int v2)])) _
            refine XS.bipush X0.here hx rfl (hb hby at_36) ?_
            exact kt
          by_cases hc38_26 : (90 : Int) < v2.toInt
          · have pre29 : ∀ t, Steps p.tables e below (s₁.setTop (mkF m 44 #[.val (.int vx), .val (.int v2), .val (.int v2), .unset] [(.int (95 : Int32)), (.int v2)])) t → Steps p.tables e below (s₁.setTop (entryFrame m #[(.int vx)] maxLocals)) t := fun t kt => by
              refine pre27 _ ?_
              show Steps p.tables e below (s₁.setTop (mkF m 38 #[.val (.int vx), .val (.int v2), .val (.int v2), .unset] [(.int (90 : Int32)), (.int v2)])) _
              refine XS.icmpNo X0.here hx rfl (hb hby at_38) rfl (own_tlt (a := (90 : Int32)) (b := v2) (by decide) rfl hc38_26).2.2.2 ?_
              show Steps p.tables e below (s₁.setTop (mkF m 41 #[.val (.int vx), .val (.int v2), .val (.int v2), .unset] [])) _
              refine XS.iloadN X0.here hx rfl (hb hby at_41) rfl ?_
              show Steps p.tables e below (s₁.setTop (mkF m 42 #[.val (.int vx), .val (.int v2), .val (.int v2), .unset] [(.int v2)])) _
              refine XS.bipush X0.here hx rfl (hb hby at_42) ?_
              exact kt
            by_cases hc44_28 : v2.toInt = (95 : Int)
            · have pre30 : ∀ t, Steps p.tables e below (s₁.setTop (mkF m 70 #[.val (.int vx), .val (.int v2), .val (.int v2), .unset] [(.int (1 : Int32))])) t → Steps p.tables e below (s₁.setTop (entryFrame m #[(.int vx)] maxLocals)) t := fun t kt => by
                refine pre29 _ ?_
                show Steps p.tables e below (s₁.setTop (mkF m 44 #[.val (.int vx), .val (.int v2), .val (.int v2), .unset] [(.int (95 : Int32)), (.int v2)])) _
                refine XS.icmpYes X0.here hx rfl (pc0 := 44) (pc' := 65) rfl (hb hby at_44) rfl (own_teq (a := v2) (b := (95 : Int32)) rfl (by decide) hc44_28).1 (by decide) (by decide) ?_
                show Steps p.tables e below (s₁.setTop (mkF m 65 #[.val (.int vx), .val (.int v2), .val (.int v2), .unset] [])) _
                refine XS.iconst X0.here hx rfl (hb hby at_65) ?_
                show Steps p.tables e below (s₁.setTop (mkF m 66 #[.val (.int vx), .val (.int v2), .val (.int v2), .unset] [(.int (1 : Int32))])) _
                refine XS.goto X0.here hx rfl (pc0 := 66) (pc' := 70) rfl (hb hby at_66) (by decide) (by decide) ?_
                exact kt
              exact ⟨(1 : Int32), by have iv : ((1 : Int32)).toInt = (1 : Int) := (by decide); omega, pre30⟩
            · have pre32 : ∀ t, Steps p.tables e below (s₁.setTop (mkF m 50 #[.val (.int vx), .val (.int v2), .val (.int v2), .unset] [(.int (97 : Int32)), (.int v2)])) t → Steps p.tables e below (s₁.setTop (entryFrame m #[(.int vx)] maxLocals)) t := fun t kt => by
                refine pre29 _ ?_
                show Steps p.tables e below (s₁.setTop (mkF m 44 #[.val (.int vx), .val (.int v2), .val (.int v2), .unset] [(.int (95 : Int32)), (.int v2)])) _
                refine XS.icmpNo X0.here hx rfl (hb hby at_44) rfl (own_feq (a := v2) (b := (95 : Int32)) rfl (by decide) hc44_28).1 ?_
                show Steps p.tables e below (s₁.setTop (mkF m 47 #[.val (.int vx), .val (.int v2), .val (.int v2), .unset] [])) _
                refine XS.iloadN X0.here hx rfl (hb hby at_47) rfl ?_
                show Steps p.tables e below (s₁.setTop (mkF m 48 #[.val (.int vx), .val (.int v2), .val (.int v2), .unset] [(.int v2)])) _
                refine XS.bipush X0.here hx rfl (hb hby at_48) ?_
                exact kt
              by_cases hc50_31 : v2.toInt < (97 : Int)
              · have pre34 : ∀ t, Steps p.tables e below (s₁.setTop (mkF m 62 #[.val (.int vx), .val (.int v2), .val (.int v2), .unset] [(.int (126 : Int32)), (.int v2)])) t → Steps p.tables e below (s₁.setTop (entryFrame m #[(.int vx)] maxLocals)) t := fun t kt => by
                  refine pre32 _ ?_
                  show Steps p.tables e below (s₁.setTop (mkF m 50 #[.val (.int vx), .val (.int v2), .val (.int v2), .unset] [(.int (97 : Int32)), (.int v2)])) _
                  refine XS.icmpYes X0.here hx rfl (pc0 := 50) (pc' := 59) rfl (hb hby at_50) rfl (own_tlt (a := v2) (b := (97 : Int32)) rfl (by decide) hc50_31).1 (by decide) (by decide) ?_
                  show Steps p.tables e below (s₁.setTop (mkF m 59 #[.val (.int vx), .val (.int v2), .val (.int v2), .unset] [])) _
                  refine XS.iloadN X0.here hx rfl (hb hby at_59) rfl ?_
                  show Steps p.tables e below (s₁.setTop (mkF m 60 #[.val (.int vx), .val (.int v2), .val (.int v2), .unset] [(.int v2)])) _
                  refine XS.bipush X0.here hx rfl (hb hby at_60) ?_
                  exact kt
                by_cases hc62_33 : v2.toInt = (126 : Int)
                · have pre35 : ∀ t, Steps p.tables e below (s₁.setTop (mkF m 70 #[.val (.int vx), .val (.int v2), .val (.int v2), .unset] [(.int (1 : Int32))])) t → Steps p.tables e below (s₁.setTop (entryFrame m #[(.int vx)] maxLocals)) t := fun t kt => by
                    refine pre34 _ ?_
                    show Steps p.tables e below (s₁.setTop (mkF m 62 #[.val (.int vx), .val (.int v2), .val (.int v2), .unset] [(.int (126 : Int32)), (.int v2)])) _
                    refine XS.icmpNo X0.here hx rfl (hb hby at_62) rfl (own_teq (a := v2) (b := (126 : Int32)) rfl (by decide) hc62_33).2 ?_
                    show Steps p.tables e below (s₁.setTop (mkF m 65 #[.val (.int vx), .val (.int v2), .val (.int v2), .unset] [])) _
                    refine XS.iconst X0.here hx rfl (hb hby at_65) ?_
                    show Steps p.tables e below (s₁.setTop (mkF m 66 #[.val (.int vx), .val (.int v2), .val (.int v2), .unset] [(.int (1 : Int32))])) _
                    refine XS.goto X0.here hx rfl (pc0 := 66) (pc' := 70) rfl (hb hby at_66) (by decide) (by decide) ?_
                    exact kt
                  exact ⟨(1 : Int32), by have iv : ((1 : Int32)).toInt = (1 : Int) := (by decide); omega, pre35⟩
                · have pre36 : ∀ t, Steps p.tables e below (s₁.setTop (mkF m 70 #[.val (.int vx), .val (.int v2), .val (.int v2), .unset] [(.int (0 : Int32))])) t → Steps p.tables e below (s₁.setTop (entryFrame m #[(.int vx)] maxLocals)) t := fun t kt => by
                    refine pre34 _ ?_
                    show Steps p.tables e below (s₁.setTop (mkF m 62 #[.val (.int vx), .val (.int v2), .val (.int v2), .unset] [(.int (126 : Int32)), (.int v2)])) _
                    refine XS.icmpYes X0.here hx rfl (pc0 := 62) (pc' := 69) rfl (hb hby at_62) rfl (own_feq (a := v2) (b := (126 : Int32)) rfl (by decide) hc62_33).2 (by decide) (by decide) ?_
                    show Steps p.tables e below (s₁.setTop (mkF m 69 #[.val (.int vx), .val (.int v2), .val (.int v2), .unset] [])) _
                    refine XS.iconst X0.here hx rfl (hb hby at_69) ?_
                    exact kt
                  exact ⟨(0 : Int32), by have iv : ((0 : Int32)).toInt = (0 : Int) := (by decide); omega, pre36⟩
              · have pre38 : ∀ t, Steps p.tables e below (s₁.setTop (mkF m 56 #[.val (.int vx), .val (.int v2), .val (.int v2), .unset] [(.int (122 : Int32)), (.int v2)])) t → Steps p.tables e below (s₁.setTop (entryFrame m #[(.int vx)] maxLocals)) t := fun t kt => by
                  refine pre32 _ ?_
                  show Steps p.tables e below (s₁.setTop (mkF m 50 #[.val (.int vx), .val (.int v2), .val (.int v2), .unset] [(.int (97 : Int32)), (.int v2)])) _
                  refine XS.icmpNo X0.here hx rfl (hb hby at_50) rfl (own_flt (a := v2) (b := (97 : Int32)) rfl (by decide) hc50_31).1 ?_
                  show Steps p.tables e below (s₁.setTop (mkF m 53 #[.val (.int vx), .val (.int v2), .val (.int v2), .unset] [])) _
                  refine XS.iloadN X0.here hx rfl (hb hby at_53) rfl ?_
                  show Steps p.tables e below (s₁.setTop (mkF m 54 #[.val (.int vx), .val (.int v2), .val (.int v2), .unset] [(.int v2)])) _
                  refine XS.bipush X0.here hx rfl (hb hby at_54) ?_
                  exact kt
                by_cases hc56_37 : (122 : Int) < v2.toInt
                · have pre40 : ∀ t, Steps p.tables e below (s₁.setTop (mkF m 62 #[.val (.int vx), .val (.int v2), .val (.int v2), .unset] [(.int (126 : Int32)), (.int v2)])) t → Steps p.tables e below (s₁.setTop (entryFrame m #[(.int vx)] maxLocals)) t := fun t kt => by
                    refine pre38 _ ?_
                    show Steps p.tables e below (s₁.setTop (mkF m 56 #[.val (.int vx), .val (.int v2), .val (.int v2), .unset] [(.int (122 : Int32)), (.int v2)])) _
                    refine XS.icmpNo X0.here hx rfl (hb hby at_56) rfl (own_tlt (a := (122 : Int32)) (b := v2) (by decide) rfl hc56_37).2.2.2 ?_
                    show Steps p.tables e below (s₁.setTop (mkF m 59 #[.val (.int vx), .val (.int v2), .val (.int v2), .unset] [])) _
                    refine XS.iloadN X0.here hx rfl (hb hby at_59) rfl ?_
                    show Steps p.tables e below (s₁.setTop (mkF m 60 #[.val (.int vx), .val (.int v2), .val (.int v2), .unset] [(.int v2)])) _
                    refine XS.bipush X0.here hx rfl (hb hby at_60) ?_
                    exact kt
                  by_cases hc62_39 : v2.toInt = (126 : Int)
                  · have pre41 : ∀ t, Steps p.tables e below (s₁.setTop (mkF m 70 #[.val (.int vx), .val (.int v2), .val (.int v2), .unset] [(.int (1 : Int32))])) t → Steps p.tables e below (s₁.setTop (entryFrame m #[(.int vx)] maxLocals)) t := fun t kt => by
                      refine pre40 _ ?_
                      show Steps p.tables e below (s₁.setTop (mkF m 62 #[.val (.int vx), .val (.int v2), .val (.int v2), .unset] [(.int (126 : Int32)), (.int v2)])) _
                      refine XS.icmpNo X0.here hx rfl (hb hby at_62) rfl (own_teq (a := v2) (b := (126 : Int32)) rfl (by decide) hc62_39).2 ?_
                      show Steps p.tables e below (s₁.setTop (mkF m 65 #[.val (.int vx), .val (.int v2), .val (.int v2), .unset] [])) _
                      refine XS.iconst X0.here hx rfl (hb hby at_65) ?_
                      show Steps p.tables e below (s₁.setTop (mkF m 66 #[.val (.int vx), .val (.int v2), .val (.int v2), .unset] [(.int (1 : Int32))])) _
                      refine XS.goto X0.here hx rfl (pc0 := 66) (pc' := 70) rfl (hb hby at_66) (by decide) (by decide) ?_
                      exact kt
                    exact ⟨(1 : Int32), by have iv : ((1 : Int32)).toInt = (1 : Int) := (by decide); omega, pre41⟩
                  · have pre42 : ∀ t, Steps p.tables e below (s₁.setTop (mkF m 70 #[.val (.int vx), .val (.int v2), .val (.int v2), .unset] [(.int (0 : Int32))])) t → Steps p.tables e below (s₁.setTop (entryFrame m #[(.int vx)] maxLocals)) t := fun t kt => by
                      refine pre40 _ ?_
                      show Steps p.tables e below (s₁.setTop (mkF m 62 #[.val (.int vx), .val (.int v2), .val (.int v2), .unset] [(.int (126 : Int32)), (.int v2)])) _
                      refine XS.icmpYes X0.here hx rfl (pc0 := 62) (pc' := 69) rfl (hb hby at_62) rfl (own_feq (a := v2) (b := (126 : Int32)) rfl (by decide) hc62_39).2 (by decide) (by decide) ?_
                      show Steps p.tables e below (s₁.setTop (mkF m 69 #[.val (.int vx), .val (.int v2), .val (.int v2), .unset] [])) _
                      refine XS.iconst X0.here hx rfl (hb hby at_69) ?_
                      exact kt
                    exact ⟨(0 : Int32), by have iv : ((0 : Int32)).toInt = (0 : Int) := (by decide); omega, pre42⟩
                · have pre43 : ∀ t, Steps p.tables e below (s₁.setTop (mkF m 70 #[.val (.int vx), .val (.int v2), .val (.int v2), .unset] [(.int (1 : Int32))])) t → Steps p.tables e below (s₁.setTop (entryFrame m #[(.int vx)] maxLocals)) t := fun t kt => by
                    refine pre38 _ ?_
                    show Steps p.tables e below (s₁.setTop (mkF m 56 #[.val (.int vx), .val (.int v2), .val (.int v2), .unset] [(.int (122 : Int32)), (.int v2)])) _
                    refine XS.icmpYes X0.here hx rfl (pc0 := 56) (pc' := 65) rfl (hb hby at_56) rfl (own_flt (a := (122 : Int32)) (b := v2) (by decide) rfl hc56_37).2.2.2 (by decide) (by decide) ?_
                    show Steps p.tables e below (s₁.setTop (mkF m 65 #[.val (.int vx), .val (.int v2), .val (.int v2), .unset] [])) _
                    refine XS.iconst X0.here hx rfl (hb hby at_65) ?_
                    show Steps p.tables e below (s₁.setTop (mkF m 66 #[.val (.int vx), .val (.int v2), .val (.int v2), .unset] [(.int (1 : Int32))])) _
                    refine XS.goto X0.here hx rfl (pc0 := 66) (pc' := 70) rfl (hb hby at_66) (by decide) (by decide) ?_
                    exact kt
                  exact ⟨(1 : Int32), by have iv : ((1 : Int32)).toInt = (1 : Int) := (by decide); omega, pre43⟩
          · have pre44 : ∀ t, Steps p.tables e below (s₁.setTop (mkF m 70 #[.val (.int vx), .val (.int v2), .val (.int v2), .unset] [(.int (1 : Int32))])) t → Steps p.tables e below (s₁.setTop (entryFrame m #[(.int vx)] maxLocals)) t := fun t kt => by
              refine pre27 _ ?_
              show Steps p.tables e below (s₁.setTop (mkF m 38 #[.val (.int vx), .val (.int v2), .val (.int v2), .unset] [(.int (90 : Int32)), (.int v2)])) _
              refine XS.icmpYes X0.here hx rfl (pc0 := 38) (pc' := 65) rfl (hb hby at_38) rfl (own_flt (a := (90 : Int32)) (b := v2) (by decide) rfl hc38_26).2.2.2 (by decide) (by decide) ?_
              show Steps p.tables e below (s₁.setTop (mkF m 65 #[.val (.int vx), .val (.int v2), .val (.int v2), .unset] [])) _
              refine XS.iconst X0.here hx rfl (hb hby at_65) ?_
              show Steps p.tables e below (s₁.setTop (mkF m 66 #[.val (.int vx), .val (.int v2), .val (.int v2), .unset] [(.int (1 : Int32))])) _
              refine XS.goto X0.here hx rfl (pc0 := 66) (pc' := 70) rfl (hb hby at_66) (by decide) (by decide) ?_
              exact kt
            exact ⟨(1 : Int32), by have iv : ((1 : Int32)).toInt = (1 : Int) := (by decide); omega, pre44⟩
      · have pre46 : ∀ t, Steps p.tables e below (s₁.setTop (mkF m 26 #[.val (.int vx), .val (.int v2), .val (.int v2), .unset] [(.int (57 : Int32)), (.int v2)])) t → Steps p.tables e below (s₁.setTop (entryFrame m #[(.int vx)] maxLocals)) t := fun t kt => by
          refine pre7 _ ?_
          show Steps p.tables e below (s₁.setTop (mkF m 20 #[.val (.int vx), .val (.int v2), .val (.int v2), .unset] [(.int (48 : Int32)), (.int v2)])) _
          refine XS.icmpNo X0.here hx rfl (hb hby at_20) rfl (own_flt (a := v2) (b := (48 : Int32)) rfl (by decide) hc20_6).1 ?_
          show Steps p.tables e below (s₁.setTop (mkF m 23 #[.val (.int vx), .val (.int v2), .val (.int v2), .unset] [])) _
          refine XS.iloadN X0.here hx rfl (hb hby at_23) rfl ?_
          show Steps p.tables e below (s₁.setTop (mkF m 24 #[.val (.int vx), .val (.int v2), .val (.int v2), .unset] [(.int v2)])) _
          refine XS.bipush X0.here hx rfl (hb hby at_24) ?_
          exact kt
        by_cases hc26_45 : (57 : Int) < v2.toInt
        · have pre48 : ∀ t, Steps p.tables e below (s₁.setTop (mkF m 32 #[.val (.int vx), .val (.int v2), .val (.int v2), .unset] [(.int (65 : Int32)), (.int v2)])) t → Steps p.tables e below (s₁.setTop (entryFrame m #[(.int vx)] maxLocals)) t := fun t kt => by
            refine pre46 _ ?_
            show Steps p.tables e below (s₁.setTop (mkF m 26 #[.val (.int vx), .val (.int v2), .val (.int v2), .unset] [(.int (57 : Int32)), (.int v2)])) _
            refine XS.icmpNo X0.here hx rfl (hb hby at_26) rfl (own_tlt (a := (57 : Int32)) (b := v2) (by decide) rfl hc26_45).2.2.2 ?_
            show Steps p.tables e below (s₁.setTop (mkF m 29 #[.val (.int vx), .val (.int v2), .val (.int v2), .unset] [])) _
            refine XS.iloadN X0.here hx rfl (hb hby at_29) rfl ?_
            show Steps p.tables e below (s₁.setTop (mkF m 30 #[.val (.int vx), .val (.int v2), .val (.int v2), .unset] [(.int v2)])) _
            refine XS.bipush X0.here hx rfl (hb hby at_30) ?_
            exact kt
          by_cases hc32_47 : v2.toInt < (65 : Int)
          · have pre50 : ∀ t, Steps p.tables e below (s₁.setTop (mkF m 44 #[.val (.int vx), .val (.int v2), .val (.int v2), .unset] [(.int (95 : Int32)), (.int v2)])) t → Steps p.tables e below (s₁.setTop (entryFrame m #[(.int vx)] maxLocals)) t := fun t kt => by
              refine pre48 _ ?_
              show Steps p.tables e below (s₁.setTop (mkF m 32 #[.val (.int vx), .val (.int v2), .val (.int v2), .unset] [(.int (65 : Int32)), (.int v2)])) _
              refine XS.icmpYes X0.here hx rfl (pc0 := 32) (pc' := 41) rfl (hb hby at_32) rfl (own_tlt (a := v2) (b := (65 : Int32)) rfl (by decide) hc32_47).1 (by decide) (by decide) ?_
              show Steps p.tables e below (s₁.setTop (mkF m 41 #[.val (.int vx), .val (.int v2), .val (.int v2), .unset] [])) _
              refine XS.iloadN X0.here hx rfl (hb hby at_41) rfl ?_
              show Steps p.tables e below (s₁.setTop (mkF m 42 #[.val (.int vx), .val (.int v2), .val (.int v2), .unset] [(.int v2)])) _
              refine XS.bipush X0.here hx rfl (hb hby at_42) ?_
              exact kt
            by_cases hc44_49 : v2.toInt = (95 : Int)
            · have pre51 : ∀ t, Steps p.tables e below (s₁.setTop (mkF m 70 #[.val (.int vx), .val (.int v2), .val (.int v2), .unset] [(.int (1 : Int32))])) t → Steps p.tables e below (s₁.setTop (entryFrame m #[(.int vx)] maxLocals)) t := fun t kt => by
                refine pre50 _ ?_
                show Steps p.tables e below (s₁.setTop (mkF m 44 #[.val (.int vx), .val (.int v2), .val (.int v2), .unset] [(.int (95 : Int32)), (.int v2)])) _
                refine XS.icmpYes X0.here hx rfl (pc0 := 44) (pc' := 65) rfl (hb hby at_44) rfl (own_teq (a := v2) (b := (95 : Int32)) rfl (by decide) hc44_49).1 (by decide) (by decide) ?_
                show Steps p.tables e below (s₁.setTop (mkF m 65 #[.val (.int vx), .val (.int v2), .val (.int v2), .unset] [])) _
                refine XS.iconst X0.here hx rfl (hb hby at_65) ?_
                show Steps p.tables e below (s₁.setTop (mkF m 66 #[.val (.int vx), .val (.int v2), .val (.int v2), .unset] [(.int (1 : Int32))])) _
                refine XS.goto X0.here hx rfl (pc0 := 66) (pc' := 70) rfl (hb hby at_66) (by decide) (by decide) ?_
                exact kt
              exact ⟨(1 : Int32), by have iv : ((1 : Int32)).toInt = (1 : Int) := (by decide); omega, pre51⟩
            · have pre53 : ∀ t, Steps p.tables e below (s₁.setTop (mkF m 50 #[.val (.int vx), .val (.int v2), .val (.int v2), .unset] [(.int (97 : Int32)), (.int v2)])) t → Steps p.tables e below (s₁.setTop (entryFrame m #[(.int vx)] maxLocals)) t := fun t kt => by
                refine pre50 _ ?_
                show Steps p.tables e below (s₁.setTop (mkF m 44 #[.val (.int vx), .val (.int v2), .val (.int v2), .unset] [(.int (95 : Int32)), (.int v2)])) _
                refine XS.icmpNo X0.here hx rfl (hb hby at_44) rfl (own_feq (a := v2) (b := (95 : Int32)) rfl (by decide) hc44_49).1 ?_
                show Steps p.tables e below (s₁.setTop (mkF m 47 #[.val (.int vx), .val (.int v2), .val (.int v2), .unset] [])) _
                refine XS.iloadN X0.here hx rfl (hb hby at_47) rfl ?_
                show Steps p.tables e below (s₁.setTop (mkF m 48 #[.val (.int vx), .val (.int v2), .val (.int v2), .unset] [(.int v2)])) _
                refine XS.bipush X0.here hx rfl (hb hby at_48) ?_
                exact kt
              by_cases hc50_52 : v2.toInt < (97 : Int)
              · have pre55 : ∀ t, Steps p.tables e below (s₁.setTop (mkF m 62 #[.val (.int vx), .val (.int v2), .val (.int v2), .unset] [(.int (126 : Int32)), (.int v2)])) t → Steps p.tables e below (s₁.setTop (entryFrame m #[(.int vx)] maxLocals)) t := fun t kt => by
                  refine pre53 _ ?_
                  show Steps p.tables e below (s₁.setTop (mkF m 50 #[.val (.int vx), .val (.int v2), .val (.int v2), .unset] [(.int (97 : Int32)), (.int v2)])) _
                  refine XS.icmpYes X0.here hx rfl (pc0 := 50) (pc' := 59) rfl (hb hby at_50) rfl (own_tlt (a := v2) (b := (97 : Int32)) rfl (by decide) hc50_52).1 (by decide) (by decide) ?_
                  show Steps p.tables e below (s₁.setTop (mkF m 59 #[.val (.int vx), .val (.int v2), .val (.int v2), .unset] [])) _
                  refine XS.iloadN X0.here hx rfl (hb hby at_59) rfl ?_
                  show Steps p.tables e below (s₁.setTop (mkF m 60 #[.val (.int vx), .val (.int v2), .val (.int v2), .unset] [(.int v2)])) _
                  refine XS.bipush X0.here hx rfl (hb hby at_60) ?_
                  exact kt
                by_cases hc62_54 : v2.toInt = (126 : Int)
                · have pre56 : ∀ t, Steps p.tables e below (s₁.setTop (mkF m 70 #[.val (.int vx), .val (.int v2), .val (.int v2), .unset] [(.int (1 : Int32))])) t → Steps p.tables e below (s₁.setTop (entryFrame m #[(.int vx)] maxLocals)) t := fun t kt => by
                    refine pre55 _ ?_
                    show Steps p.tables e below (s₁.setTop (mkF m 62 #[.val (.int vx), .val (.int v2), .val (.int v2), .unset] [(.int (126 : Int32)), (.int v2)])) _
                    refine XS.icmpNo X0.here hx rfl (hb hby at_62) rfl (own_teq (a := v2) (b := (126 : Int32)) rfl (by decide) hc62_54).2 ?_
                    show Steps p.tables e below (s₁.setTop (mkF m 65 #[.val (.int vx), .val (.int v2), .val (.int v2), .unset] [])) _
                    refine XS.iconst X0.here hx rfl (hb hby at_65) ?_
                    show Steps p.tables e below (s₁.setTop (mkF m 66 #[.val (.int vx), .val (.int v2), .val (.int v2), .unset] [(.int (1 : Int32))])) _
                    refine XS.goto X0.here hx rfl (pc0 := 66) (pc' := 70) rfl (hb hby at_66) (by decide) (by decide) ?_
                    exact kt
                  exact ⟨(1 : Int32), by have iv : ((1 : Int32)).toInt = (1 : Int) := (by decide); omega, pre56⟩
                · have pre57 : ∀ t, Steps p.tables e below (s₁.setTop (mkF m 70 #[.val (.int vx), .val (.int v2), .val (.int v2), .unset] [(.int (0 : Int32))])) t → Steps p.tables e below (s₁.setTop (entryFrame m #[(.int vx)] maxLocals)) t := fun t kt => by
                    refine pre55 _ ?_
                    show Steps p.tables e below (s₁.setTop (mkF m 62 #[.val (.int vx), .val (.int v2), .val (.int v2), .unset] [(.int (126 : Int32)), (.int v2)])) _
                    refine XS.icmpYes X0.here hx rfl (pc0 := 62) (pc' := 69) rfl (hb hby at_62) rfl (own_feq (a := v2) (b := (126 : Int32)) rfl (by decide) hc62_54).2 (by decide) (by decide) ?_
                    show Steps p.tables e below (s₁.setTop (mkF m 69 #[.val (.int vx), .val (.int v2), .val (.int v2), .unset] [])) _
                    refine XS.iconst X0.here hx rfl (hb hby at_69) ?_
                    exact kt
                  exact ⟨(0 : Int32), by have iv : ((0 : Int32)).toInt = (0 : Int) := (by decide); omega, pre57⟩
              · have pre59 : ∀ t, Steps p.tables e below (s₁.setTop (mkF m 56 #[.val (.int vx), .val (.int v2), .val (.int v2), .unset] [(.int (122 : Int32)), (.int v2)])) t → Steps p.tables e below (s₁.setTop (entryFrame m #[(.int vx)] maxLocals)) t := fun t kt => by
                  refine pre53 _ ?_
                  show Steps p.tables e below (s₁.setTop (mkF m 50 #[.val (.int vx), .val (.int v2), .val (.int v2), .unset] [(.int (97 : Int32)), (.int v2)])) _
                  refine XS.icmpNo X0.here hx rfl (hb hby at_50) rfl (own_flt (a := v2) (b := (97 : Int32)) rfl (by decide) hc50_52).1 ?_
                  show Steps p.tables e below (s₁.setTop (mkF m 53 #[.val (.int vx), .val (.int v2), .val (.int v2), .unset] [])) _
                  refine XS.iloadN X0.here hx rfl (hb hby at_53) rfl ?_
                  show Steps p.tables e below (s₁.setTop (mkF m 54 #[.val (.int vx), .val (.int v2), .val (.int v2), .unset] [(.int v2)])) _
                  refine XS.bipush X0.here hx rfl (hb hby at_54) ?_
                  exact kt
                by_cases hc56_58 : (122 : Int) < v2.toInt
                · have pre61 : ∀ t, Steps p.tables e below (s₁.setTop (mkF m 62 #[.val (.int vx), .val (.int v2), .val (.int v2), .unset] [(.int (126 : Int32)), (.int v2)])) t → Steps p.tables e below (s₁.setTop (entryFrame m #[(.int vx)] maxLocals)) t := fun t kt => by
                    refine pre59 _ ?_
                    show Steps p.tables e below (s₁.setTop (mkF m 56 #[.val (.int vx), .val (.int v2), .val (.int v2), .unset] [(.int (122 : Int32)), (.int v2)])) _
                    refine XS.icmpNo X0.here hx rfl (hb hby at_56) rfl (own_tlt (a := (122 : Int32)) (b := v2) (by decide) rfl hc56_58).2.2.2 ?_
                    show Steps p.tables e below (s₁.setTop (mkF m 59 #[.val (.int vx), .val (.int v2), .val (.int v2), .unset] [])) _
                    refine XS.iloadN X0.here hx rfl (hb hby at_59) rfl ?_
                    show Steps p.tables e below (s₁.setTop (mkF m 60 #[.val (.int vx), .val (.int v2), .val (.int v2), .unset] [(.int v2)])) _
                    refine XS.bipush X0.here hx rfl (hb hby at_60) ?_
                    exact kt
                  by_cases hc62_60 : v2.toInt = (126 : Int)
                  · have pre62 : ∀ t, Steps p.tables e below (s₁.setTop (mkF m 70 #[.val (.int vx), .val (.int v2), .val (.int v2), .unset] [(.int (1 : Int32))])) t → Steps p.tables e below (s₁.setTop (entryFrame m #[(.int vx)] maxLocals)) t := fun t kt => by
                      refine pre61 _ ?_
                      show Steps p.tables e below (s₁.setTop (mkF m 62 #[.val (.int vx), .val (.int v2), .val (.int v2), .unset] [(.int (126 : Int32)), (.int v2)])) _
                      refine XS.icmpNo X0.here hx rfl (hb hby at_62) rfl (own_teq (a := v2) (b := (126 : Int32)) rfl (by decide) hc62_60).2 ?_
                      show Steps p.tables e below (s₁.setTop (mkF m 65 #[.val (.int vx), .val (.int v2), .val (.int v2), .unset] [])) _
                      refine XS.iconst X0.here hx rfl (hb hby at_65) ?_
                      show Steps p.tables e below (s₁.setTop (mkF m 66 #[.val (.int vx), .val (.int v2), .val (.int v2), .unset] [(.int (1 : Int32))])) _
                      refine XS.goto X0.here hx rfl (pc0 := 66) (pc' := 70) rfl (hb hby at_66) (by decide) (by decide) ?_
                      exact kt
                    exact ⟨(1 : Int32), by have iv : ((1 : Int32)).toInt = (1 : Int) := (by decide); omega, pre62⟩
                  · have pre63 : ∀ t, Steps p.tables e below (s₁.setTop (mkF m 70 #[.val (.int vx), .val (.int v2), .val (.int v2), .unset] [(.int (0 : Int32))])) t → Steps p.tables e below (s₁.setTop (entryFrame m #[(.int vx)] maxLocals)) t := fun t kt => by
                      refine pre61 _ ?_
                      show Steps p.tables e below (s₁.setTop (mkF m 62 #[.val (.int vx), .val (.int v2), .val (.int v2), .unset] [(.int (126 : Int32)), (.int v2)])) _
                      refine XS.icmpYes X0.here hx rfl (pc0 := 62) (pc' := 69) rfl (hb hby at_62) rfl (own_feq (a := v2) (b := (126 : Int32)) rfl (by decide) hc62_60).2 (by decide) (by decide) ?_
                      show Steps p.tables e below (s₁.setTop (mkF m 69 #[.val (.int vx), .val (.int v2), .val (.int v2), .unset] [])) _
                      refine XS.iconst X0.here hx rfl (hb hby at_69) ?_
                      exact kt
                    exact ⟨(0 : Int32), by have iv : ((0 : Int32)).toInt = (0 : Int) := (by decide); omega, pre63⟩
                · have pre64 : ∀ t, Steps p.tables e below (s₁.setTop (mkF m 70 #[.val (.int vx), .val (.int v2), .val (.int v2), .unset] [(.int (1 : Int32))])) t → Steps p.tables e below (s₁.setTop (entryFrame m #[(.int vx)] maxLocals)) t := fun t kt => by
                    refine pre59 _ ?_
                    show Steps p.tables e below (s₁.setTop (mkF m 56 #[.val (.int vx), .val (.int v2), .val (.int v2), .unset] [(.int (122 : Int32)), (.int v2)])) _
                    refine XS.icmpYes X0.here hx rfl (pc0 := 56) (pc' := 65) rfl (hb hby at_56) rfl (own_flt (a := (122 : Int32)) (b := v2) (by decide) rfl hc56_58).2.2.2 (by decide) (by decide) ?_
                    show Steps p.tables e below (s₁.setTop (mkF m 65 #[.val (.int vx), .val (.int v2), .val (.int v2), .unset] [])) _
                    refine XS.iconst X0.here hx rfl (hb hby at_65) ?_
                    show Steps p.tables e below (s₁.setTop (mkF m 66 #[.val (.int vx), .val (.int v2), .val (.int v2), .unset] [(.int (1 : Int32))])) _
                    refine XS.goto X0.here hx rfl (pc0 := 66) (pc' := 70) rfl (hb hby at_66) (by decide) (by decide) ?_
                    exact kt
                  exact ⟨(1 : Int32), by have iv : ((1 : Int32)).toInt = (1 : Int) := (by decide); omega, pre64⟩
          · have pre66 : ∀ t, Steps p.tables e below (s₁.setTop (mkF m 38 #[.val (.int vx), .val (.int v2), .val (.int v2), .unset] [(.int (90 : Int32)), (.int v2)])) t → Steps p.tables e below (s₁.setTop (entryFrame m #[(.int vx)] maxLocals)) t := fun t kt => by
              refine pre48 _ ?_
              show Steps p.tables e below (s₁.setTop (mkF m 32 #[.val (.int vx), .val (.int v2), .val (.int v2), .unset] [(.int (65 : Int32)), (.int v2)])) _
              refine XS.icmpNo X0.here hx rfl (hb hby at_32) rfl (own_flt (a := v2) (b := (65 : Int32)) rfl (by decide) hc32_47).1 ?_
              show Steps p.tables e below (s₁.setTop (mkF m 35 #[.val (.int vx), .val (.int v2), .val (.int v2), .unset] [])) _
              refine XS.iloadN X0.here hx rfl (hb hby at_35) rfl ?_
              show Steps p.tables e below (s₁.setTop (mkF m 36 #[.val (.int vx), .val (.int v2), .val (.int v2), .unset] [(.int v2)])) _
              refine XS.bipush X0.here hx rfl (hb hby at_36) ?_
              exact kt
            by_cases hc38_65 : (90 : Int) < v2.toInt
            · have pre68 : ∀ t, Steps p.tables e below (s₁.setTop (mkF m 44 #[.val (.int vx), .val (.int v2), .val (.int v2), .unset] [(.int (95 : Int32)), (.int v2)])) t → Steps p.tables e below (s₁.setTop (entryFrame m #[(.int vx)] maxLocals)) t := fun t kt => by
                refine pre66 _ ?_
                show Steps p.tables e below (s₁.setTop (mkF m 38 #[.val (.int vx), .val (.int v2), .val (.int v2), .unset] [(.int (90 : Int32)), (.int v2)])) _
                refine XS.icmpNo X0.here hx rfl (hb hby at_38) rfl (own_tlt (a := (90 : Int32)) (b := v2) (by decide) rfl hc38_65).2.2.2 ?_
                show Steps p.tables e below (s₁.setTop (mkF m 41 #[.val (.int vx), .val (.int v2), .val (.int v2), .unset] [])) _
                refine XS.iloadN X0.here hx rfl (hb hby at_41) rfl ?_
                show Steps p.tables e below (s₁.setTop (mkF m 42 #[.val (.int vx), .val (.int v2), .val (.int v2), .unset] [(.int v2)])) _
                refine XS.bipush X0.here hx rfl (hb hby at_42) ?_
                exact kt
              by_cases hc44_67 : v2.toInt = (95 : Int)
              · have pre69 : ∀ t, Steps p.tables e below (s₁.setTop (mkF m 70 #[.val (.int vx), .val (.int v2), .val (.int v2), .unset] [(.int (1 : Int32))])) t → Steps p.tables e below (s₁.setTop (entryFrame m #[(.int vx)] maxLocals)) t := fun t kt => by
                  refine pre68 _ ?_
                  show Steps p.tables e below (s₁.setTop (mkF m 44 #[.val (.int vx), .val (.int v2), .val (.int v2), .unset] [(.int (95 : Int32)), (.int v2)])) _
                  refine XS.icmpYes X0.here hx rfl (pc0 := 44) (pc' := 65) rfl (hb hby at_44) rfl (own_teq (a := v2) (b := (95 : Int32)) rfl (by decide) hc44_67).1 (by decide) (by decide) ?_
                  show Steps p.tables e below (s₁.setTop (mkF m 65 #[.val (.int vx), .val (.int v2), .val (.int v2), .unset] [])) _
                  refine XS.iconst X0.here hx rfl (hb hby at_65) ?_
                  show Steps p.tables e below (s₁.setTop (mkF m 66 #[.val (.int vx), .val (.int v2), .val (.int v2), .unset] [(.int (1 : Int32))])) _
                  refine XS.goto X0.here hx rfl (pc0 := 66) (pc' := 70) rfl (hb hby at_66) (by decide) (by decide) ?_
                  exact kt
                exact ⟨(1 : Int32), by have iv : ((1 : Int32)).toInt = (1 : Int) := (by decide); omega, pre69⟩
              · have pre71 : ∀ t, Steps p.tables e below (s₁.setTop (mkF m 50 #[.val (.int vx), .val (.int v2), .val (.int v2), .unset] [(.int (97 : Int32)), (.int v2)])) t → Steps p.tables e below (s₁.setTop (entryFrame m #[(.int vx)] maxLocals)) t := fun t kt => by
                  refine pre68 _ ?_
                  show Steps p.tables e below (s₁.setTop (mkF m 44 #[.val (.int vx), .val (.int v2), .val (.int v2), .unset] [(.int (95 : Int32)), (.int v2)])) _
                  refine XS.icmpNo X0.here hx rfl (hb hby at_44) rfl (own_feq (a := v2) (b := (95 : Int32)) rfl (by decide) hc44_67).1 ?_
                  show Steps p.tables e below (s₁.setTop (mkF m 47 #[.val (.int vx), .val (.int v2), .val (.int v2), .unset] [])) _
                  refine XS.iloadN X0.here hx rfl (hb hby at_47) rfl ?_
                  show Steps p.tables e below (s₁.setTop (mkF m 48 #[.val (.int vx), .val (.int v2), .val (.int v2), .unset] [(.int v2)])) _
                  refine XS.bipush X0.here hx rfl (hb hby at_48) ?_
                  exact kt
                by_cases hc50_70 : v2.toInt < (97 : Int)
                · have pre73 : ∀ t, Steps p.tables e below (s₁.setTop (mkF m 62 #[.val (.int vx), .val (.int v2), .val (.int v2), .unset] [(.int (126 : Int32)), (.int v2)])) t → Steps p.tables e below (s₁.setTop (entryFrame m #[(.int vx)] maxLocals)) t := fun t kt => by
                    refine pre71 _ ?_
                    show Steps p.tables e below (s₁.setTop (mkF m 50 #[.val (.int vx), .val (.int v2), .val (.int v2), .unset] [(.int (97 : Int32)), (.int v2)])) _
                    refine XS.icmpYes X0.here hx rfl (pc0 := 50) (pc' := 59) rfl (hb hby at_50) rfl (own_tlt (a := v2) (b := (97 : Int32)) rfl (by decide) hc50_70).1 (by decide) (by decide) ?_
                    show Steps p.tables e below (s₁.setTop (mkF m 59 #[.val (.int vx), .val (.int v2), .val (.int v2), .unset] [])) _
                    refine XS.iloadN X0.here hx rfl (hb hby at_59) rfl ?_
                    show Steps p.tables e below (s₁.setTop (mkF m 60 #[.val (.int vx), .val (.int v2), .val (.int v2), .unset] [(.int v2)])) _
                    refine XS.bipush X0.here hx rfl (hb hby at_60) ?_
                    exact kt
                  by_cases hc62_72 : v2.toInt = (126 : Int)
                  · have pre74 : ∀ t, Steps p.tables e below (s₁.setTop (mkF m 70 #[.val (.int vx), .val (.int v2), .val (.int v2), .unset] [(.int (1 : Int32))])) t → Steps p.tables e below (s₁.setTop (entryFrame m #[(.int vx)] maxLocals)) t := fun t kt => by
                      refine pre73 _ ?_
                      show Steps p.tables e below (s₁.setTop (mkF m 62 #[.val (.int vx), .val (.int v2), .val (.int v2), .unset] [(.int (126 : Int32)), (.int v2)])) _
                      refine XS.icmpNo X0.here hx rfl (hb hby at_62) rfl (own_teq (a := v2) (b := (126 : Int32)) rfl (by decide) hc62_72).2 ?_
                      show Steps p.tables e below (s₁.setTop (mkF m 65 #[.val (.int vx), .val (.int v2), .val (.int v2), .unset] [])) _
                      refine XS.iconst X0.here hx rfl (hb hby at_65) ?_
                      show Steps p.tables e below (s₁.setTop (mkF m 66 #[.val (.int vx), .val (.int v2), .val (.int v2), .unset] [(.int (1 : Int32))])) _
                      refine XS.goto X0.here hx rfl (pc0 := 66) (pc' := 70) rfl (hb hby at_66) (by decide) (by decide) ?_
                      exact kt
                    exact ⟨(1 : Int32), by have iv : ((1 : Int32)).toInt = (1 : Int) := (by decide); omega, pre74⟩
                  · have pre75 : ∀ t, Steps p.tables e below (s₁.setTop (mkF m 70 #[.val (.int vx), .val (.int v2), .val (.int v2), .unset] [(.int (0 : Int32))])) t → Steps p.tables e below (s₁.setTop (entryFrame m #[(.int vx)] maxLocals)) t := fun t kt => by
                      refine pre73 _ ?_
                      show Steps p.tables e below (s₁.setTop (mkF m 62 #[.val (.int vx), .val (.int v2), .val (.int v2), .unset] [(.int (126 : Int32)), (.int v2)])) _
                      refine XS.icmpYes X0.here hx rfl (pc0 := 62) (pc' := 69) rfl (hb hby at_62) rfl (own_feq (a := v2) (b := (126 : Int32)) rfl (by decide) hc62_72).2 (by decide) (by decide) ?_
                      show Steps p.tables e below (s₁.setTop (mkF m 69 #[.val (.int vx), .val (.int v2), .val (.int v2), .unset] [])) _
                      refine XS.iconst X0.here hx rfl (hb hby at_69) ?_
                      exact kt
                    exact ⟨(0 : Int32), by have iv : ((0 : Int32)).toInt = (0 : Int) := (by decide); omega, pre75⟩
                · have pre77 : ∀ t, Steps p.tables e below (s₁.setTop (mkF m 56 #[.val (.int vx), .val (.int v2), .val (.int v2), .unset] [(.int (122 : Int32)), (.int v2)])) t → Steps p.tables e below (s₁.setTop (entryFrame m #[(.int vx)] maxLocals)) t := fun t kt => by
                    refine pre71 _ ?_
                    show Steps p.tables e below (s₁.setTop (mkF m 50 #[.val (.int vx), .val (.int v2), .val (.int v2), .unset] [(.int (97 : Int32)), (.int v2)])) _
                    refine XS.icmpNo X0.here hx rfl (hb hby at_50) rfl (own_flt (a := v2) (b := (97 : Int32)) rfl (by decide) hc50_70).1 ?_
                    show Steps p.tables e below (s₁.setTop (mkF m 53 #[.val (.int vx), .val (.int v2), .val (.int v2), .unset] [])) _
                    refine XS.iloadN X0.here hx rfl (hb hby at_53) rfl ?_
                    show Steps p.tables e below (s₁.setTop (mkF m 54 #[.val (.int vx), .val (.int v2), .val (.int v2), .unset] [(.int v2)])) _
                    refine XS.bipush X0.here hx rfl (hb hby at_54) ?_
                    exact kt
                  by_cases hc56_76 : (122 : Int) < v2.toInt
                  · have pre79 : ∀ t, Steps p.tables e below (s₁.setTop (mkF m 62 #[.val (.int vx), .val (.int v2), .val (.int v2), .unset] [(.int (126 : Int32)), (.int v2)])) t → Steps p.tables e below (s₁.setTop (entryFrame m #[(.int vx)] maxLocals)) t := fun t kt => by
                      refine pre77 _ ?_
                      show Steps p.tables e below (s₁.setTop (mkF m 56 #[.val (.int vx), .val (.int v2), .val (.int v2), .unset] [(.int (122 : Int32)), (.int v2)])) _
                      refine XS.icmpNo X0.here hx rfl (hb hby at_56) rfl (own_tlt (a := (122 : Int32)) (b := v2) (by decide) rfl hc56_76).2.2.2 ?_
                      show Steps p.tables e below (s₁.setTop (mkF m 59 #[.val (.int vx), .val (.int v2), .val (.int v2), .unset] [])) _
                      refine XS.iloadN X0.here hx rfl (hb hby at_59) rfl ?_
                      show Steps p.tables e below (s₁.setTop (mkF m 60 #[.val (.int vx), .val (.int v2), .val (.int v2), .unset] [(.int v2)])) _
                      refine XS.bipush X0.here hx rfl (hb hby at_60) ?_
                      exact kt
                    by_cases hc62_78 : v2.toInt = (126 : Int)
                    · have pre80 : ∀ t, Steps p.tables e below (s₁.setTop (mkF m 70 #[.val (.int vx), .val (.int v2), .val (.int v2), .unset] [(.int (1 : Int32))])) t → Steps p.tables e below (s₁.setTop (entryFrame m #[(.int vx)] maxLocals)) t := fun t kt => by
                        refine pre79 _ ?_
                        show Steps p.tables e below (s₁.setTop (mkF m 62 #[.val (.int vx), .val (.int v2), .val (.int v2), .unset] [(.int (126 : Int32)), (.int v2)])) _
                        refine XS.icmpNo X0.here hx rfl (hb hby at_62) rfl (own_teq (a := v2) (b := (126 : Int32)) rfl (by decide) hc62_78).2 ?_
                        show Steps p.tables e below (s₁.setTop (mkF m 65 #[.val (.int vx), .val (.int v2), .val (.int v2), .unset] [])) _
                        refine XS.iconst X0.here hx rfl (hb hby at_65) ?_
                        show Steps p.tables e below (s₁.setTop (mkF m 66 #[.val (.int vx), .val (.int v2), .val (.int v2), .unset] [(.int (1 : Int32))])) _
                        refine XS.goto X0.here hx rfl (pc0 := 66) (pc' := 70) rfl (hb hby at_66) (by decide) (by decide) ?_
                        exact kt
                      exact ⟨(1 : Int32), by have iv : ((1 : Int32)).toInt = (1 : Int) := (by decide); omega, pre80⟩
                    · have pre81 : ∀ t, Steps p.tables e below (s₁.setTop (mkF m 70 #[.val (.int vx), .val (.int v2), .val (.int v2), .unset] [(.int (0 : Int32))])) t → Steps p.tables e below (s₁.setTop (entryFrame m #[(.int vx)] maxLocals)) t := fun t kt => by
                        refine pre79 _ ?_
                        show Steps p.tables e below (s₁.setTop (mkF m 62 #[.val (.int vx), .val (.int v2), .val (.int v2), .unset] [(.int (126 : Int32)), (.int v2)])) _
                        refine XS.icmpYes X0.here hx rfl (pc0 := 62) (pc' := 69) rfl (hb hby at_62) rfl (own_feq (a := v2) (b := (126 : Int32)) rfl (by decide) hc62_78).2 (by decide) (by decide) ?_
                        show Steps p.tables e below (s₁.setTop (mkF m 69 #[.val (.int vx), .val (.int v2), .val (.int v2), .unset] [])) _
                        refine XS.iconst X0.here hx rfl (hb hby at_69) ?_
                        exact kt
                      exact ⟨(0 : Int32), by have iv : ((0 : Int32)).toInt = (0 : Int) := (by decide); omega, pre81⟩
                  · have pre82 : ∀ t, Steps p.tables e below (s₁.setTop (mkF m 70 #[.val (.int vx), .val (.int v2), .val (.int v2), .unset] [(.int (1 : Int32))])) t → Steps p.tables e below (s₁.setTop (entryFrame m #[(.int vx)] maxLocals)) t := fun t kt => by
                      refine pre77 _ ?_
                      show Steps p.tables e below (s₁.setTop (mkF m 56 #[.val (.int vx), .val (.int v2), .val (.int v2), .unset] [(.int (122 : Int32)), (.int v2)])) _
                      refine XS.icmpYes X0.here hx rfl (pc0 := 56) (pc' := 65) rfl (hb hby at_56) rfl (own_flt (a := (122 : Int32)) (b := v2) (by decide) rfl hc56_76).2.2.2 (by decide) (by decide) ?_
                      show Steps p.tables e below (s₁.setTop (mkF m 65 #[.val (.int vx), .val (.int v2), .val (.int v2), .unset] [])) _
                      refine XS.iconst X0.here hx rfl (hb hby at_65) ?_
                      show Steps p.tables e below (s₁.setTop (mkF m 66 #[.val (.int vx), .val (.int v2), .val (.int v2), .unset] [(.int (1 : Int32))])) _
                      refine XS.goto X0.here hx rfl (pc0 := 66) (pc' := 70) rfl (hb hby at_66) (by decide) (by decide) ?_
                      exact kt
                    exact ⟨(1 : Int32), by have iv : ((1 : Int32)).toInt = (1 : Int) := (by decide); omega, pre82⟩
            · have pre83 : ∀ t, Steps p.tables e below (s₁.setTop (mkF m 70 #[.val (.int vx), .val (.int v2), .val (.int v2), .unset] [(.int (1 : Int32))])) t → Steps p.tables e below (s₁.setTop (entryFrame m #[(.int vx)] maxLocals)) t := fun t kt => by
                refine pre66 _ ?_
                show Steps p.tables e below (s₁.setTop (mkF m 38 #[.val (.int vx), .val (.int v2), .val (.int v2), .unset] [(.int (90 : Int32)), (.int v2)])) _
                refine XS.icmpYes X0.here hx rfl (pc0 := 38) (pc' := 65) rfl (hb hby at_38) rfl (own_flt (a := (90 : Int32)) (b := v2) (by decide) rfl hc38_65).2.2.2 (by decide) (by decide) ?_
                show Steps p.tables e below (s₁.setTop (mkF m 65 #[.val (.int vx), .val (.int v2), .val (.int v2), .unset] [])) _
                refine XS.iconst X0.here hx rfl (hb hby at_65) ?_
                show Steps p.tables e below (s₁.setTop (mkF m 66 #[.val (.int vx), .val (.int v2), .val (.int v2), .unset] [(.int (1 : Int32))])) _
                refine XS.goto X0.here hx rfl (pc0 := 66) (pc' := 70) rfl (hb hby at_66) (by decide) (by decide) ?_
                exact kt
              exact ⟨(1 : Int32), by have iv : ((1 : Int32)).toInt = (1 : Int) := (by decide); omega, pre83⟩
        · have pre84 : ∀ t, Steps p.tables e below (s₁.setTop (mkF m 70 #[.val (.int vx), .val (.int v2), .val (.int v2), .unset] [(.int (1 : Int32))])) t → Steps p.tables e below (s₁.setTop (entryFrame m #[(.int vx)] maxLocals)) t := fun t kt => by
            refine pre46 _ ?_
            show Steps p.tables e below (s₁.setTop (mkF m 26 #[.val (.int vx), .val (.int v2), .val (.int v2), .unset] [(.int (57 : Int32)), (.int v2)])) _
            refine XS.icmpYes X0.here hx rfl (pc0 := 26) (pc' := 65) rfl (hb hby at_26) rfl (own_flt (a := (57 : Int32)) (b := v2) (by decide) rfl hc26_45).2.2.2 (by decide) (by decide) ?_
            show Steps p.tables e below (s₁.setTop (mkF m 65 #[.val (.int vx), .val (.int v2), .val (.int v2), .unset] [])) _
            refine XS.iconst X0.here hx rfl (hb hby at_65) ?_
            show Steps p.tables e below (s₁.setTop (mkF m 66 #[.val (.int vx), .val (.int v2), .val (.int v2), .unset] [(.int (1 : Int32))])) _
            refine XS.goto X0.here hx rfl (pc0 := 66) (pc' := 70) rfl (hb hby at_66) (by decide) (by decide) ?_
            exact kt
          exact ⟨(1 : Int32), by have iv : ((1 : Int32)).toInt = (1 : Int) := (by decide); omega, pre84⟩
    · have pre86 : ∀ t, Steps p.tables e below (s₁.setTop (mkF m 14 #[.val (.int vx), .val (.int v2), .val (.int v2), .unset] [(.int (46 : Int32)), (.int v2)])) t → Steps p.tables e below (s₁.setTop (entryFrame m #[(.int vx)] maxLocals)) t := fun t kt => by
        refine pre5 _ ?_
        show Steps p.tables e below (s₁.setTop (mkF m 8 #[.val (.int vx), .val (.int v2), .val (.int v2), .unset] [(.int (45 : Int32)), (.int v2)])) _
        refine XS.icmpNo X0.here hx rfl (hb hby at_8) rfl (own_flt (a := v2) (b := (45 : Int32)) rfl (by decide) hc8_4).1 ?_
        show Steps p.tables e below (s₁.setTop (mkF m 11 #[.val (.int vx), .val (.int v2), .val (.int v2), .unset] [])) _
        refine XS.iloadN X0.here hx rfl (hb hby at_11) rfl ?_
        show Steps p.tables e below (s₁.setTop (mkF m 12 #[.val (.int vx), .val (.int v2), .val (.int v2), .unset] [(.int v2)])) _
        refine XS.bipush X0.here hx rfl (hb hby at_12) ?_
        exact kt
      by_cases hc14_85 : (46 : Int) < v2.toInt
      · have pre88 : ∀ t, Steps p.tables e below (s₁.setTop (mkF m 20 #[.val (.int vx), .val (.int v2), .val (.int v2), .unset] [(.int (48 : Int32)), (.int v2)])) t → Steps p.tables e below (s₁.setTop (entryFrame m #[(.int vx)] maxLocals)) t := fun t kt => by
          refine pre86 _ ?_
          show Steps p.tables e below (s₁.setTop (mkF m 14 #[.val (.int vx), .val (.int v2), .val (.int v2), .unset] [(.int (46 : Int32)), (.int v2)])) _
          refine XS.icmpNo X0.here hx rfl (hb hby at_14) rfl (own_tlt (a := (46 : Int32)) (b := v2) (by decide) rfl hc14_85).2.2.2 ?_
          show Steps p.tables e below (s₁.setTop (mkF m 17 #[.val (.int vx), .val (.int v2), .val (.int v2), .unset] [])) _
          refine XS.iloadN X0.here hx rfl (hb hby at_17) rfl ?_
          show Steps p.tables e below (s₁.setTop (mkF m 18 #[.val (.int vx), .val (.int v2), .val (.int v2), .unset] [(.int v2)])) _
          refine XS.bipush X0.here hx rfl (hb hby at_18) ?_
          exact kt
        by_cases hc20_87 : v2.toInt < (48 : Int)
        · have pre90 : ∀ t, Steps p.tables e below (s₁.setTop (mkF m 32 #[.val (.int vx), .val (.int v2), .val (.int v2), .unset] [(.int (65 : Int32)), (.int v2)])) t → Steps p.tables e below (s₁.setTop (entryFrame m #[(.int vx)] maxLocals)) t := fun t kt => by
            refine pre88 _ ?_
            show Steps p.tables e below (s₁.setTop (mkF m 20 #[.val (.int vx), .val (.int v2), .val (.int v2), .unset] [(.int (48 : Int32)), (.int v2)])) _
            refine XS.icmpYes X0.here hx rfl (pc0 := 20) (pc' := 29) rfl (hb hby at_20) rfl (own_tlt (a := v2) (b := (48 : Int32)) rfl (by decide) hc20_87).1 (by decide) (by decide) ?_
            show Steps p.tables e below (s₁.setTop (mkF m 29 #[.val (.int vx), .val (.int v2), .val (.int v2), .unset] [])) _
            refine XS.iloadN X0.here hx rfl (hb hby at_29) rfl ?_
            show Steps p.tables e below (s₁.setTop (mkF m 30 #[.val (.int vx), .val (.int v2), .val (.int v2), .unset] [(.int v2)])) _
            refine XS.bipush X0.here hx rfl (hb hby at_30) ?_
            exact kt
          by_cases hc32_89 : v2.toInt < (65 : Int)
          · have pre92 : ∀ t, Steps p.tables e below (s₁.setTop (mkF m 44 #[.val (.int vx), .val (.int v2), .val (.int v2), .unset] [(.int (95 : Int32)), (.int v2)])) t → Steps p.tables e below (s₁.setTop (entryFrame m #[(.int vx)] maxLocals)) t := fun t kt => by
              refine pre90 _ ?_
              show Steps p.tables e below (s₁.setTop (mkF m 32 #[.val (.int vx), .val (.int v2), .val (.int v2), .unset] [(.int (65 : Int32)), (.int v2)])) _
              refine XS.icmpYes X0.here hx rfl (pc0 := 32) (pc' := 41) rfl (hb hby at_32) rfl (own_tlt (a := v2) (b := (65 : Int32)) rfl (by decide) hc32_89).1 (by decide) (by decide) ?_
              show Steps p.tables e below (s₁.setTop (mkF m 41 #[.val (.int vx), .val (.int v2), .val (.int v2), .unset] [])) _
              refine XS.iloadN X0.here hx rfl (hb hby at_41) rfl ?_
              show Steps p.tables e below (s₁.setTop (mkF m 42 #[.val (.int vx), .val (.int v2), .val (.int v2), .unset] [(.int v2)])) _
              refine XS.bipush X0.here hx rfl (hb hby at_42) ?_
              exact kt
            by_cases hc44_91 : v2.toInt = (95 : Int)
            · have pre93 : ∀ t, Steps p.tables e below (s₁.setTop (mkF m 70 #[.val (.int vx), .val (.int v2), .val (.int v2), .unset] [(.int (1 : Int32))])) t → Steps p.tables e below (s₁.setTop (entryFrame m #[(.int vx)] maxLocals)) t := fun t kt => by
                refine pre92 _ ?_
                show Steps p.tables e below (s₁.setTop (mkF m 44 #[.val (.int vx), .val (.int v2), .val (.int v2), .unset] [(.int (95 : Int32)), (.int v2)])) _
                refine XS.icmpYes X0.here hx rfl (pc0 := 44) (pc' := 65) rfl (hb hby at_44) rfl (own_teq (a := v2) (b := (95 : Int32)) rfl (by decide) hc44_91).1 (by decide) (by decide) ?_
                show Steps p.tables e below (s₁.setTop (mkF m 65 #[.val (.int vx), .val (.int v2), .val (.int v2), .unset] [])) _
                refine XS.iconst X0.here hx rfl (hb hby at_65) ?_
                show Steps p.tables e below (s₁.setTop (mkF m 66 #[.val (.int vx), .val (.int v2), .val (.int v2), .unset] [(.int (1 : Int32))])) _
                refine XS.goto X0.here hx rfl (pc0 := 66) (pc' := 70) rfl (hb hby at_66) (by decide) (by decide) ?_
                exact kt
              exact ⟨(1 : Int32), by have iv : ((1 : Int32)).toInt = (1 : Int) := (by decide); omega, pre93⟩
            · have pre95 : ∀ t, Steps p.tables e below (s₁.setTop (mkF m 50 #[.val (.int vx), .val (.int v2), .val (.int v2), .unset] [(.int (97 : Int32)), (.int v2)])) t → Steps p.tables e below (s₁.setTop (entryFrame m #[(.int vx)] maxLocals)) t := fun t kt => by
                refine pre92 _ ?_
                show Steps p.tables e below (s₁.setTop (mkF m 44 #[.val (.int vx), .val (.int v2), .val (.int v2), .unset] [(.int (95 : Int32)), (.int v2)])) _
                refine XS.icmpNo X0.here hx rfl (hb hby at_44) rfl (own_feq (a := v2) (b := (95 : Int32)) rfl (by decide) hc44_91).1 ?_
                show Steps p.tables e below (s₁.setTop (mkF m 47 #[.val (.int vx), .val (.int v2), .val (.int v2), .unset] [])) _
                refine XS.iloadN X0.here hx rfl (hb hby at_47) rfl ?_
                show Steps p.tables e below (s₁.setTop (mkF m 48 #[.val (.int vx), .val (.int v2), .val (.int v2), .unset] [(.int v2)])) _
                refine XS.bipush X0.here hx rfl (hb hby at_48) ?_
                exact kt
              by_cases hc50_94 : v2.toInt < (97 : Int)
              · have pre97 : ∀ t, Steps p.tables e below (s₁.setTop (mkF m 62 #[.val (.int vx), .val (.int v2), .val (.int v2), .unset] [(.int (126 : Int32)), (.int v2)])) t → Steps p.tables e below (s₁.setTop (entryFrame m #[(.int vx)] maxLocals)) t := fun t kt => by
                  refine pre95 _ ?_
                  show Steps p.tables e below (s₁.setTop (mkF m 50 #[.val (.int vx), .val (.int v2), .val (.int v2), .unset] [(.int (97 : Int32)), (.int v2)])) _
                  refine XS.icmpYes X0.here hx rfl (pc0 := 50) (pc' := 59) rfl (hb hby at_50) rfl (own_tlt (a := v2) (b := (97 : Int32)) rfl (by decide) hc50_94).1 (by decide) (by decide) ?_
                  show Steps p.tables e below (s₁.setTop (mkF m 59 #[.val (.int vx), .val (.int v2), .val (.int v2), .unset] [])) _
                  refine XS.iloadN X0.here hx rfl (hb hby at_59) rfl ?_
                  show Steps p.tables e below (s₁.setTop (mkF m 60 #[.val (.int vx), .val (.int v2), .val (.int v2), .unset] [(.int v2)])) _
                  refine XS.bipush X0.here hx rfl (hb hby at_60) ?_
                  exact kt
                by_cases hc62_96 : v2.toInt = (126 : Int)
                · have pre98 : ∀ t, Steps p.tables e below (s₁.setTop (mkF m 70 #[.val (.int vx), .val (.int v2), .val (.int v2), .unset] [(.int (1 : Int32))])) t → Steps p.tables e below (s₁.setTop (entryFrame m #[(.int vx)] maxLocals)) t := fun t kt => by
                    refine pre97 _ ?_
                    show Steps p.tables e below (s₁.setTop (mkF m 62 #[.val (.int vx), .val (.int v2), .val (.int v2), .unset] [(.int (126 : Int32)), (.int v2)])) _
                    refine XS.icmpNo X0.here hx rfl (hb hby at_62) rfl (own_teq (a := v2) (b := (126 : Int32)) rfl (by decide) hc62_96).2 ?_
                    show Steps p.tables e below (s₁.setTop (mkF m 65 #[.val (.int vx), .val (.int v2), .val (.int v2), .unset] [])) _
                    refine XS.iconst X0.here hx rfl (hb hby at_65) ?_
                    show Steps p.tables e below (s₁.setTop (mkF m 66 #[.val (.int vx), .val (.int v2), .val (.int v2), .unset] [(.int (1 : Int32))])) _
                    refine XS.goto X0.here hx rfl (pc0 := 66) (pc' := 70) rfl (hb hby at_66) (by decide) (by decide) ?_
                    exact kt
                  exact ⟨(1 : Int32), by have iv : ((1 : Int32)).toInt = (1 : Int) := (by decide); omega, pre98⟩
                · have pre99 : ∀ t, Steps p.tables e below (s₁.setTop (mkF m 70 #[.val (.int vx), .val (.int v2), .val (.int v2), .unset] [(.int (0 : Int32))])) t → Steps p.tables e below (s₁.setTop (entryFrame m #[(.int vx)] maxLocals)) t := fun t kt => by
                    refine pre97 _ ?_
                    show Steps p.tables e below (s₁.setTop (mkF m 62 #[.val (.int vx), .val (.int v2), .val (.int v2), .unset] [(.int (126 : Int32)), (.int v2)])) _
                    refine XS.icmpYes X0.here hx rfl (pc0 := 62) (pc' := 69) rfl (hb hby at_62) rfl (own_feq (a := v2) (b := (126 : Int32)) rfl (by decide) hc62_96).2 (by decide) (by decide) ?_
                    show Steps p.tables e below (s₁.setTop (mkF m 69 #[.val (.int vx), .val (.int v2), .val (.int v2), .unset] [])) _
                    refine XS.iconst X0.here hx rfl (hb hby at_69) ?_
                    exact kt
                  exact ⟨(0 : Int32), by have iv : ((0 : Int32)).toInt = (0 : Int) := (by decide); omega, pre99⟩
              · have pre101 : ∀ t, Steps p.tables e below (s₁.setTop (mkF m 56 #[.val (.int vx), .val (.int v2), .val (.int v2), .unset] [(.int (122 : Int32)), (.int v2)])) t → Steps p.tables e below (s₁.setTop (entryFrame m #[(.int vx)] maxLocals)) t := fun t kt => by
                  refine pre95 _ ?_
                  show Steps p.tables e below (s₁.setTop (mkF m 50 #[.val (.int vx), .val (.int v2), .val (.int v2), .unset] [(.int (97 : Int32)), (.int v2)])) _
                  refine XS.icmpNo X0.here hx rfl (hb hby at_50) rfl (own_flt (a := v2) (b := (97 : Int32)) rfl (by decide) hc50_94).1 ?_
                  show Steps p.tables e below (s₁.setTop (mkF m 53 #[.val (.int vx), .val (.int v2), .val (.int v2), .unset] [])) _
                  refine XS.iloadN X0.here hx rfl (hb hby at_53) rfl ?_
                  show Steps p.tables e below (s₁.setTop (mkF m 54 #[.val (.int vx), .val (.int v2), .val (.int v2), .unset] [(.int v2)])) _
                  refine XS.bipush X0.here hx rfl (hb hby at_54) ?_
                  exact kt
                by_cases hc56_100 : (122 : Int) < v2.toInt
                · have pre103 : ∀ t, Steps p.tables e below (s₁.setTop (mkF m 62 #[.val (.int vx), .val (.int v2), .val (.int v2), .unset] [(.int (126 : Int32)), (.int v2)])) t → Steps p.tables e below (s₁.setTop (entryFrame m #[(.int vx)] maxLocals)) t := fun t kt => by
                    refine pre101 _ ?_
                    show Steps p.tables e below (s₁.setTop (mkF m 56 #[.val (.int vx), .val (.int v2), .val (.int v2), .unset] [(.int (122 : Int32)), (.int v2)])) _
                    refine XS.icmpNo X0.here hx rfl (hb hby at_56) rfl (own_tlt (a := (122 : Int32)) (b := v2) (by decide) rfl hc56_100).2.2.2 ?_
                    show Steps p.tables e below (s₁.setTop (mkF m 59 #[.val (.int vx), .val (.int v2), .val (.int v2), .unset] [])) _
                    refine XS.iloadN X0.here hx rfl (hb hby at_59) rfl ?_
                    show Steps p.tables e below (s₁.setTop (mkF m 60 #[.val (.int vx), .val (.int v2), .val (.int v2), .unset] [(.int v2)])) _
                    refine XS.bipush X0.here hx rfl (hb hby at_60) ?_
                    exact kt
                  by_cases hc62_102 : v2.toInt = (126 : Int)
                  · have pre104 : ∀ t, Steps p.tables e below (s₁.setTop (mkF m 70 #[.val (.int vx), .val (.int v2), .val (.int v2), .unset] [(.int (1 : Int32))])) t → Steps p.tables e below (s₁.setTop (entryFrame m #[(.int vx)] maxLocals)) t := fun t kt => by
                      refine pre103 _ ?_
                      show Steps p.tables e below (s₁.setTop (mkF m 62 #[.val (.int vx), .val (.int v2), .val (.int v2), .unset] [(.int (126 : Int32)), (.int v2)])) _
                      refine XS.icmpNo X0.here hx rfl (hb hby at_62) rfl (own_teq (a := v2) (b := (126 : Int32)) rfl (by decide) hc62_102).2 ?_
                      show Steps p.tables e below (s₁.setTop (mkF m 65 #[.val (.int vx), .val (.int v2), .val (.int v2), .unset] [])) _
                      refine XS.iconst X0.here hx rfl (hb hby at_65) ?_
                      show Steps p.tables e below (s₁.setTop (mkF m 66 #[.val (.int vx), .val (.int v2), .val (.int v2), .unset] [(.int (1 : Int32))])) _
                      refine XS.goto X0.here hx rfl (pc0 := 66) (pc' := 70) rfl (hb hby at_66) (by decide) (by decide) ?_
                      exact kt
                    exact ⟨(1 : Int32), by have iv : ((1 : Int32)).toInt = (1 : Int) := (by decide); omega, pre104⟩
                  · have pre105 : ∀ t, Steps p.tables e below (s₁.setTop (mkF m 70 #[.val (.int vx), .val (.int v2), .val (.int v2), .unset] [(.int (0 : Int32))])) t → Steps p.tables e below (s₁.setTop (entryFrame m #[(.int vx)] maxLocals)) t := fun t kt => by
                      refine pre103 _ ?_
                      show Steps p.tables e below (s₁.setTop (mkF m 62 #[.val (.int vx), .val (.int v2), .val (.int v2), .unset] [(.int (126 : Int32)), (.int v2)])) _
                      refine XS.icmpYes X0.here hx rfl (pc0 := 62) (pc' := 69) rfl (hb hby at_62) rfl (own_feq (a := v2) (b := (126 : Int32)) rfl (by decide) hc62_102).2 (by decide) (by decide) ?_
                      show Steps p.tables e below (s₁.setTop (mkF m 69 #[.val (.int vx), .val (.int v2), .val (.int v2), .unset] [])) _
                      refine XS.iconst X0.here hx rfl (hb hby at_69) ?_
                      exact kt
                    exact ⟨(0 : Int32), by have iv : ((0 : Int32)).toInt = (0 : Int) := (by decide); omega, pre105⟩
                · have pre106 : ∀ t, Steps p.tables e below (s₁.setTop (mkF m 70 #[.val (.int vx), .val (.int v2), .val (.int v2), .unset] [(.int (1 : Int32))])) t → Steps p.tables e below (s₁.setTop (entryFrame m #[(.int vx)] maxLocals)) t := fun t kt => by
                    refine pre101 _ ?_
                    show Steps p.tables e below (s₁.setTop (mkF m 56 #[.val (.int vx), .val (.int v2), .val (.int v2), .unset] [(.int (122 : Int32)), (.int v2)])) _
                    refine XS.icmpYes X0.here hx rfl (pc0 := 56) (pc' := 65) rfl (hb hby at_56) rfl (own_flt (a := (122 : Int32)) (b := v2) (by decide) rfl hc56_100).2.2.2 (by decide) (by decide) ?_
                    show Steps p.tables e below (s₁.setTop (mkF m 65 #[.val (.int vx), .val (.int v2), .val (.int v2), .unset] [])) _
                    refine XS.iconst X0.here hx rfl (hb hby at_65) ?_
                    show Steps p.tables e below (s₁.setTop (mkF m 66 #[.val (.int vx), .val (.int v2), .val (.int v2), .unset] [(.int (1 : Int32))])) _
                    refine XS.goto X0.here hx rfl (pc0 := 66) (pc' := 70) rfl (hb hby at_66) (by decide) (by decide) ?_
                    exact kt
                  exact ⟨(1 : Int32), by have iv : ((1 : Int32)).toInt = (1 : Int) := (by decide); omega, pre106⟩
          · have pre108 : ∀ t, Steps p.tables e below (s₁.setTop (mkF m 38 #[.val (.int vx), .val (.int v2), .val (.int v2), .unset] [(.int (90 : Int32)), (.int v2)])) t → Steps p.tables e below (s₁.setTop (entryFrame m #[(.int vx)] maxLocals)) t := fun t kt => by
              refine pre90 _ ?_
              show Steps p.tables e below (s₁.setTop (mkF m 32 #[.val (.int vx), .val (.int v2), .val (.int v2), .unset] [(.int (65 : Int32)), (.int v2)])) _
              refine XS.icmpNo X0.here hx rfl (hb hby at_32) rfl (own_flt (a := v2) (b := (65 : Int32)) rfl (by decide) hc32_89).1 ?_
              show Steps p.tables e below (s₁.setTop (mkF m 35 #[.val (.int vx), .val (.int v2), .val (.int v2), .unset] [])) _
              refine XS.iloadN X0.here hx rfl (hb hby at_35) rfl ?_
              show Steps p.tables e below (s₁.setTop (mkF m 36 #[.val (.int vx), .val (.int v2), .val (.int v2), .unset] [(.int v2)])) _
              refine XS.bipush X0.here hx rfl (hb hby at_36) ?_
              exact kt
            by_cases hc38_107 : (90 : Int) < v2.toInt
            · have pre110 : ∀ t, Steps p.tables e below (s₁.setTop (mkF m 44 #[.val (.int vx), .val (.int v2), .val (.int v2), .unset] [(.int (95 : Int32)), (.int v2)])) t → Steps p.tables e below (s₁.setTop (entryFrame m #[(.int vx)] maxLocals)) t := fun t kt => by
                refine pre108 _ ?_
                show Steps p.tables e below (s₁.setTop (mkF m 38 #[.val (.int vx), .val (.int v2), .val (.int v2), .unset] [(.int (90 : Int32)), (.int v2)])) _
                refine XS.icmpNo X0.here hx rfl (hb hby at_38) rfl (own_tlt (a := (90 : Int32)) (b := v2) (by decide) rfl hc38_107).2.2.2 ?_
                show Steps p.tables e below (s₁.setTop (mkF m 41 #[.val (.int vx), .val (.int v2), .val (.int v2), .unset] [])) _
                refine XS.iloadN X0.here hx rfl (hb hby at_41) rfl ?_
                show Steps p.tables e below (s₁.setTop (mkF m 42 #[.val (.int vx), .val (.int v2), .val (.int v2), .unset] [(.int v2)])) _
                refine XS.bipush X0.here hx rfl (hb hby at_42) ?_
                exact kt
              by_cases hc44_109 : v2.toInt = (95 : Int)
              · have pre111 : ∀ t, Steps p.tables e below (s₁.setTop (mkF m 70 #[.val (.int vx), .val (.int v2), .val (.int v2), .unset] [(.int (1 : Int32))])) t → Steps p.tables e below (s₁.setTop (entryFrame m #[(.int vx)] maxLocals)) t := fun t kt => by
                  refine pre110 _ ?_
                  show Steps p.tables e below (s₁.setTop (mkF m 44 #[.val (.int vx), .val (.int v2), .val (.int v2), .unset] [(.int (95 : Int32)), (.int v2)])) _
                  refine XS.icmpYes X0.here hx rfl (pc0 := 44) (pc' := 65) rfl (hb hby at_44) rfl (own_teq (a := v2) (b := (95 : Int32)) rfl (by decide) hc44_109).1 (by decide) (by decide) ?_
                  show Steps p.tables e below (s₁.setTop (mkF m 65 #[.val (.int vx), .val (.int v2), .val (.int v2), .unset] [])) _
                  refine XS.iconst X0.here hx rfl (hb hby at_65) ?_
                  show Steps p.tables e below (s₁.setTop (mkF m 66 #[.val (.int vx), .val (.int v2), .val (.int v2), .unset] [(.int (1 : Int32))])) _
                  refine XS.goto X0.here hx rfl (pc0 := 66) (pc' := 70) rfl (hb hby at_66) (by decide) (by decide) ?_
                  exact kt
                exact ⟨(1 : Int32), by have iv : ((1 : Int32)).toInt = (1 : Int) := (by decide); omega, pre111⟩
              · have pre113 : ∀ t, Steps p.tables e below (s₁.setTop (mkF m 50 #[.val (.int vx), .val (.int v2), .val (.int v2), .unset] [(.int (97 : Int32)), (.int v2)])) t → Steps p.tables e below (s₁.setTop (entryFrame m #[(.int vx)] maxLocals)) t := fun t kt => by
                  refine pre110 _ ?_
                  show Steps p.tables e below (s₁.setTop (mkF m 44 #[.val (.int vx), .val (.int v2), .val (.int v2), .unset] [(.int (95 : Int32)), (.int v2)])) _
                  refine XS.icmpNo X0.here hx rfl (hb hby at_44) rfl (own_feq (a := v2) (b := (95 : Int32)) rfl (by decide) hc44_109).1 ?_
                  show Steps p.tables e below (s₁.setTop (mkF m 47 #[.val (.int vx), .val (.int v2), .val (.int v2), .unset] [])) _
                  refine XS.iloadN X0.here hx rfl (hb hby at_47) rfl ?_
                  show Steps p.tables e below (s₁.setTop (mkF m 48 #[.val (.int vx), .val (.int v2), .val (.int v2), .unset] [(.int v2)])) _
                  refine XS.bipush X0.here hx rfl (hb hby at_48) ?_
                  exact kt
                by_cases hc50_112 : v2.toInt < (97 : Int)
                · have pre115 : ∀ t, Steps p.tables e below (s₁.setTop (mkF m 62 #[.val (.int vx), .val (.int v2), .val (.int v2), .unset] [(.int (126 : Int32)), (.int v2)])) t → Steps p.tables e below (s₁.setTop (entryFrame m #[(.int vx)] maxLocals)) t := fun t kt => by
                    refine pre113 _ ?_
                    show Steps p.tables e below (s₁.setTop (mkF m 50 #[.val (.int vx), .val (.int v2), .val (.int v2), .unset] [(.int (97 : Int32)), (.int v2)])) _
                    refine XS.icmpYes X0.here hx rfl (pc0 := 50) (pc' := 59) rfl (hb hby at_50) rfl (own_tlt (a := v2) (b := (97 : Int32)) rfl (by decide) hc50_112).1 (by decide) (by decide) ?_
                    show Steps p.tables e below (s₁.setTop (mkF m 59 #[.val (.int vx), .val (.int v2), .val (.int v2), .unset] [])) _
                    refine XS.iloadN X0.here hx rfl (hb hby at_59) rfl ?_
                    show Steps p.tables e below (s₁.setTop (mkF m 60 #[.val (.int vx), .val (.int v2), .val (.int v2), .unset] [(.int v2)])) _
                    refine XS.bipush X0.here hx rfl (hb hby at_60) ?_
                    exact kt
                  by_cases hc62_114 : v2.toInt = (126 : Int)
                  · have pre116 : ∀ t, Steps p.tables e below (s₁.setTop (mkF m 70 #[.val (.int vx), .val (.int v2), .val (.int v2), .unset] [(.int (1 : Int32))])) t → Steps p.tables e below (s₁.setTop (entryFrame m #[(.int vx)] maxLocals)) t := fun t kt => by
                      refine pre115 _ ?_
                      show Steps p.tables e below (s₁.setTop (mkF m 62 #[.val (.int vx), .val (.int v2), .val (.int v2), .unset] [(.int (126 : Int32)), (.int v2)])) _
                      refine XS.icmpNo X0.here hx rfl (hb hby at_62) rfl (own_teq (a := v2) (b := (126 : Int32)) rfl (by decide) hc62_114).2 ?_
                      show Steps p.tables e below (s₁.setTop (mkF m 65 #[.val (.int vx), .val (.int v2), .val (.int v2), .unset] [])) _
                      refine XS.iconst X0.here hx rfl (hb hby at_65) ?_
                      show Steps p.tables e below (s₁.setTop (mkF m 66 #[.val (.int vx), .val (.int v2), .val (.int v2), .unset] [(.int (1 : Int32))])) _
                      refine XS.goto X0.here hx rfl (pc0 := 66) (pc' := 70) rfl (hb hby at_66) (by decide) (by decide) ?_
                      exact kt
                    exact ⟨(1 : Int32), by have iv : ((1 : Int32)).toInt = (1 : Int) := (by decide); omega, pre116⟩
                  · have pre117 : ∀ t, Steps p.tables e below (s₁.setTop (mkF m 70 #[.val (.int vx), .val (.int v2), .val (.int v2), .unset] [(.int (0 : Int32))])) t → Steps p.tables e below (s₁.setTop (entryFrame m #[(.int vx)] maxLocals)) t := fun t kt => by
                      refine pre115 _ ?_
                      show Steps p.tables e below (s₁.setTop (mkF m 62 #[.val (.int vx), .val (.int v2), .val (.int v2), .unset] [(.int (126 : Int32)), (.int v2)])) _
                      refine XS.icmpYes X0.here hx rfl (pc0 := 62) (pc' := 69) rfl (hb hby at_62) rfl (own_feq (a := v2) (b := (126 : Int32)) rfl (by decide) hc62_114).2 (by decide) (by decide) ?_
                      show Steps p.tables e below (s₁.setTop (mkF m 69 #[.val (.int vx), .val (.int v2), .val (.int v2), .unset] [])) _
                      refine XS.iconst X0.here hx rfl (hb hby at_69) ?_
                      exact kt
                    exact ⟨(0 : Int32), by have iv : ((0 : Int32)).toInt = (0 : Int) := (by decide); omega, pre117⟩
                · have pre119 : ∀ t, Steps p.tables e below (s₁.setTop (mkF m 56 #[.val (.int vx), .val (.int v2), .val (.int v2), .unset] [(.int (122 : Int32)), (.int v2)])) t → Steps p.tables e below (s₁.setTop (entryFrame m #[(.int vx)] maxLocals)) t := fun t kt => by
                    refine pre113 _ ?_
                    show Steps p.tables e below (s₁.setTop (mkF m 50 #[.val (.int vx), .val (.int v2), .val (.int v2), .unset] [(.int (97 : Int32)), (.int v2)])) _
                    refine XS.icmpNo X0.here hx rfl (hb hby at_50) rfl (own_flt (a := v2) (b := (97 : Int32)) rfl (by decide) hc50_112).1 ?_
                    show Steps p.tables e below (s₁.setTop (mkF m 53 #[.val (.int vx), .val (.int v2), .val (.int v2), .unset] [])) _
                    refine XS.iloadN X0.here hx rfl (hb hby at_53) rfl ?_
                    show Steps p.tables e below (s₁.setTop (mkF m 54 #[.val (.int vx), .val (.int v2), .val (.int v2), .unset] [(.int v2)])) _
                    refine XS.bipush X0.here hx rfl (hb hby at_54) ?_
                    exact kt
                  by_cases hc56_118 : (122 : Int) < v2.toInt
                  · have pre121 : ∀ t, Steps p.tables e below (s₁.setTop (mkF m 62 #[.val (.int vx), .val (.int v2), .val (.int v2), .unset] [(.int (126 : Int32)), (.int v2)])) t → Steps p.tables e below (s₁.setTop (entryFrame m #[(.int vx)] maxLocals)) t := fun t kt => by
                      refine pre119 _ ?_
                      show Steps p.tables e below (s₁.setTop (mkF m 56 #[.val (.int vx), .val (.int v2), .val (.int v2), .unset] [(.int (122 : Int32)), (.int v2)])) _
                      refine XS.icmpNo X0.here hx rfl (hb hby at_56) rfl (own_tlt (a := (122 : Int32)) (b := v2) (by decide) rfl hc56_118).2.2.2 ?_
                      show Steps p.tables e below (s₁.setTop (mkF m 59 #[.val (.int vx), .val (.int v2), .val (.int v2), .unset] [])) _
                      refine XS.iloadN X0.here hx rfl (hb hby at_59) rfl ?_
                      show Steps p.tables e below (s₁.setTop (mkF m 60 #[.val (.int vx), .val (.int v2), .val (.int v2), .unset] [(.int v2)])) _
                      refine XS.bipush X0.here hx rfl (hb hby at_60) ?_
                      exact kt
                    by_cases hc62_120 : v2.toInt = (126 : Int)
                    · have pre122 : ∀ t, Steps p.tables e below (s₁.setTop (mkF m 70 #[.val (.int vx), .val (.int v2), .val (.int v2), .unset] [(.int (1 : Int32))])) t → Steps p.tables e below (s₁.setTop (entryFrame m #[(.int vx)] maxLocals)) t := fun t kt => by
                        refine pre121 _ ?_
                        show Steps p.tables e below (s₁.setTop (mkF m 62 #[.val (.int vx), .val (.int v2), .val (.int v2), .unset] [(.int (126 : Int32)), (.int v2)])) _
                        refine XS.icmpNo X0.here hx rfl (hb hby at_62) rfl (own_teq (a := v2) (b := (126 : Int32)) rfl (by decide) hc62_120).2 ?_
                        show Steps p.tables e below (s₁.setTop (mkF m 65 #[.val (.int vx), .val (.int v2), .val (.int v2), .unset] [])) _
                        refine XS.iconst X0.here hx rfl (hb hby at_65) ?_
                        show Steps p.tables e below (s₁.setTop (mkF m 66 #[.val (.int vx), .val (.int v2), .val (.int v2), .unset] [(.int (1 : Int32))])) _
                        refine XS.goto X0.here hx rfl (pc0 := 66) (pc' := 70) rfl (hb hby at_66) (by decide) (by decide) ?_
                        exact kt
                      exact ⟨(1 : Int32), by have iv : ((1 : Int32)).toInt = (1 : Int) := (by decide); omega, pre122⟩
                    · have pre123 : ∀ t, Steps p.tables e below (s₁.setTop (mkF m 70 #[.val (.int vx), .val (.int v2), .val (.int v2), .unset] [(.int (0 : Int32))])) t → Steps p.tables e below (s₁.setTop (entryFrame m #[(.int vx)] maxLocals)) t := fun t kt => by
                        refine pre121 _ ?_
                        show Steps p.tables e below (s₁.setTop (mkF m 62 #[.val (.int vx), .val (.int v2), .val (.int v2), .unset] [(.int (126 : Int32)), (.int v2)])) _
                        refine XS.icmpYes X0.here hx rfl (pc0 := 62) (pc' := 69) rfl (hb hby at_62) rfl (own_feq (a := v2) (b := (126 : Int32)) rfl (by decide) hc62_120).2 (by decide) (by decide) ?_
                        show Steps p.tables e below (s₁.setTop (mkF m 69 #[.val (.int vx), .val (.int v2), .val (.int v2), .unset] [])) _
                        refine XS.iconst X0.here hx rfl (hb hby at_69) ?_
                        exact kt
                      exact ⟨(0 : Int32), by have iv : ((0 : Int32)).toInt = (0 : Int) := (by decide); omega, pre123⟩
                  · have pre124 : ∀ t, Steps p.tables e below (s₁.setTop (mkF m 70 #[.val (.int vx), .val (.int v2), .val (.int v2), .unset] [(.int (1 : Int32))])) t → Steps p.tables e below (s₁.setTop (entryFrame m #[(.int vx)] maxLocals)) t := fun t kt => by
                      refine pre119 _ ?_
                      show Steps p.tables e below (s₁.setTop (mkF m 56 #[.val (.int vx), .val (.int v2), .val (.int v2), .unset] [(.int (122 : Int32)), (.int v2)])) _
                      refine XS.icmpYes X0.here hx rfl (pc0 := 56) (pc' := 65) rfl (hb hby at_56) rfl (own_flt (a := (122 : Int32)) (b := v2) (by decide) rfl hc56_118).2.2.2 (by decide) (by decide) ?_
                      show Steps p.tables e below (s₁.setTop (mkF m 65 #[.val (.int vx), .val (.int v2), .val (.int v2), .unset] [])) _
                      refine XS.iconst X0.here hx rfl (hb hby at_65) ?_
                      show Steps p.tables e below (s₁.setTop (mkF m 66 #[.val (.int vx), .val (.int v2), .val (.int v2), .unset] [(.int (1 : Int32))])) _
                      refine XS.goto X0.here hx rfl (pc0 := 66) (pc' := 70) rfl (hb hby at_66) (by decide) (by decide) ?_
                      exact kt
                    exact ⟨(1 : Int32), by have iv : ((1 : Int32)).toInt = (1 : Int) := (by decide); omega, pre124⟩
            · have pre125 : ∀ t, Steps p.tables e below (s₁.setTop (mkF m 70 #[.val (.int vx), .val (.int v2), .val (.int v2), .unset] [(.int (1 : Int32))])) t → Steps p.tables e below (s₁.setTop (entryFrame m #[(.int vx)] maxLocals)) t := fun t kt => by
                refine pre108 _ ?_
                show Steps p.tables e below (s₁.setTop (mkF m 38 #[.val (.int vx), .val (.int v2), .val (.int v2), .unset] [(.int (90 : Int32)), (.int v2)])) _
                refine XS.icmpYes X0.here hx rfl (pc0 := 38) (pc' := 65) rfl (hb hby at_38) rfl (own_flt (a := (90 : Int32)) (b := v2) (by decide) rfl hc38_107).2.2.2 (by decide) (by decide) ?_
                show Steps p.tables e below (s₁.setTop (mkF m 65 #[.val (.int vx), .val (.int v2), .val (.int v2), .unset] [])) _
                refine XS.iconst X0.here hx rfl (hb hby at_65) ?_
                show Steps p.tables e below (s₁.setTop (mkF m 66 #[.val (.int vx), .val (.int v2), .val (.int v2), .unset] [(.int (1 : Int32))])) _
                refine XS.goto X0.here hx rfl (pc0 := 66) (pc' := 70) rfl (hb hby at_66) (by decide) (by decide) ?_
                exact kt
              exact ⟨(1 : Int32), by have iv : ((1 : Int32)).toInt = (1 : Int) := (by decide); omega, pre125⟩
        · have pre127 : ∀ t, Steps p.tables e below (s₁.setTop (mkF m 26 #[.val (.int vx), .val (.int v2), .val (.int v2), .unset] [(.int (57 : Int32)), (.int v2)])) t → Steps p.tables e below (s₁.setTop (entryFrame m #[(.int vx)] maxLocals)) t := fun t kt => by
            refine pre88 _ ?_
            show Steps p.tables e below (s₁.setTop (mkF m 20 #[.val (.int vx), .val (.int v2), .val (.int v2), .unset] [(.int (48 : Int32)), (.int v2)])) _
            refine XS.icmpNo X0.here hx rfl (hb hby at_20) rfl (own_flt (a := v2) (b := (48 : Int32)) rfl (by decide) hc20_87).1 ?_
            show Steps p.tables e below (s₁.setTop (mkF m 23 #[.val (.int vx), .val (.int v2), .val (.int v2), .unset] [])) _
            refine XS.iloadN X0.here hx rfl (hb hby at_23) rfl ?_
            show Steps p.tables e below (s₁.setTop (mkF m 24 #[.val (.int vx), .val (.int v2), .val (.int v2), .unset] [(.int v2)])) _
            refine XS.bipush X0.here hx rfl (hb hby at_24) ?_
            exact kt
          by_cases hc26_126 : (57 : Int) < v2.toInt
          · have pre129 : ∀ t, Steps p.tables e below (s₁.setTop (mkF m 32 #[.val (.int vx), .val (.int v2), .val (.int v2), .unset] [(.int (65 : Int32)), (.int v2)])) t → Steps p.tables e below (s₁.setTop (entryFrame m #[(.int vx)] maxLocals)) t := fun t kt => by
              refine pre127 _ ?_
              show Steps p.tables e below (s₁.setTop (mkF m 26 #[.val (.int vx), .val (.int v2), .val (.int v2), .unset] [(.int (57 : Int32)), (.int v2)])) _
              refine XS.icmpNo X0.here hx rfl (hb hby at_26) rfl (own_tlt (a := (57 : Int32)) (b := v2) (by decide) rfl hc26_126).2.2.2 ?_
              show Steps p.tables e below (s₁.setTop (mkF m 29 #[.val (.int vx), .val (.int v2), .val (.int v2), .unset] [])) _
              refine XS.iloadN X0.here hx rfl (hb hby at_29) rfl ?_
              show Steps p.tables e below (s₁.setTop (mkF m 30 #[.val (.int vx), .val (.int v2), .val (.int v2), .unset] [(.int v2)])) _
              refine XS.bipush X0.here hx rfl (hb hby at_30) ?_
              exact kt
            by_cases hc32_128 : v2.toInt < (65 : Int)
            · have pre131 : ∀ t, Steps p.tables e below (s₁.setTop (mkF m 44 #[.val (.int vx), .val (.int v2), .val (.int v2), .unset] [(.int (95 : Int32)), (.int v2)])) t → Steps p.tables e below (s₁.setTop (entryFrame m #[(.int vx)] maxLocals)) t := fun t kt => by
                refine pre129 _ ?_
                show Steps p.tables e below (s₁.setTop (mkF m 32 #[.val (.int vx), .val (.int v2), .val (.int v2), .unset] [(.int (65 : Int32)), (.int v2)])) _
                refine XS.icmpYes X0.here hx rfl (pc0 := 32) (pc' := 41) rfl (hb hby at_32) rfl (own_tlt (a := v2) (b := (65 : Int32)) rfl (by decide) hc32_128).1 (by decide) (by decide) ?_
                show Steps p.tables e below (s₁.setTop (mkF m 41 #[.val (.int vx), .val (.int v2), .val (.int v2), .unset] [])) _
                refine XS.iloadN X0.here hx rfl (hb hby at_41) rfl ?_
                show Steps p.tables e below (s₁.setTop (mkF m 42 #[.val (.int vx), .val (.int v2), .val (.int v2), .unset] [(.int v2)])) _
                refine XS.bipush X0.here hx rfl (hb hby at_42) ?_
                exact kt
              by_cases hc44_130 : v2.toInt = (95 : Int)
              · have pre132 : ∀ t, Steps p.tables e below (s₁.setTop (mkF m 70 #[.val (.int vx), .val (.int v2), .val (.int v2), .unset] [(.int (1 : Int32))])) t → Steps p.tables e below (s₁.setTop (entryFrame m #[(.int vx)] maxLocals)) t := fun t kt => by
                  refine pre131 _ ?_
                  show Steps p.tables e below (s₁.setTop (mkF m 44 #[.val (.int vx), .val (.int v2), .val (.int v2), .unset] [(.int (95 : Int32)), (.int v2)])) _
                  refine XS.icmpYes X0.here hx rfl (pc0 := 44) (pc' := 65) rfl (hb hby at_44) rfl (own_teq (a := v2) (b := (95 : Int32)) rfl (by decide) hc44_130).1 (by decide) (by decide) ?_
                  show Steps p.tables e below (s₁.setTop (mkF m 65 #[.val (.int vx), .val (.int v2), .val (.int v2), .unset] [])) _
                  refine XS.iconst X0.here hx rfl (hb hby at_65) ?_
                  show Steps p.tables e below (s₁.setTop (mkF m 66 #[.val (.int vx), .val (.int v2), .val (.int v2), .unset] [(.int (1 : Int32))])) _
                  refine XS.goto X0.here hx rfl (pc0 := 66) (pc' := 70) rfl (hb hby at_66) (by decide) (by decide) ?_
                  exact kt
                exact ⟨(1 : Int32), by have iv : ((1 : Int32)).toInt = (1 : Int) := (by decide); omega, pre132⟩
              · have pre134 : ∀ t, Steps p.tables e below (s₁.setTop (mkF m 50 #[.val (.int vx), .val (.int v2), .val (.int v2), .unset] [(.int (97 : Int32)), (.int v2)])) t → Steps p.tables e below (s₁.setTop (entryFrame m #[(.int vx)] maxLocals)) t := fun t kt => by
                  refine pre131 _ ?_
                  show Steps p.tables e below (s₁.setTop (mkF m 44 #[.val (.int vx), .val (.int v2), .val (.int v2), .unset] [(.int (95 : Int32)), (.int v2)])) _
                  refine XS.icmpNo X0.here hx rfl (hb hby at_44) rfl (own_feq (a := v2) (b := (95 : Int32)) rfl (by decide) hc44_130).1 ?_
                  show Steps p.tables e below (s₁.setTop (mkF m 47 #[.val (.int vx), .val (.int v2), .val (.int v2), .unset] [])) _
                  refine XS.iloadN X0.here hx rfl (hb hby at_47) rfl ?_
                  show Steps p.tables e below (s₁.setTop (mkF m 48 #[.val (.int vx), .val (.int v2), .val (.int v2), .unset] [(.int v2)])) _
                  refine XS.bipush X0.here hx rfl (hb hby at_48) ?_
                  exact kt
                by_cases hc50_133 : v2.toInt < (97 : Int)
                · have pre136 : ∀ t, Steps p.tables e below (s₁.setTop (mkF m 62 #[.val (.int vx), .val (.int v2), .val (.int v2), .unset] [(.int (126 : Int32)), (.int v2)])) t → Steps p.tables e below (s₁.setTop (entryFrame m #[(.int vx)] maxLocals)) t := fun t kt => by
                    refine pre134 _ ?_
                    show Steps p.tables e below (s₁.setTop (mkF m 50 #[.val (.int vx), .val (.int v2), .val (.int v2), .unset] [(.int (97 : Int32)), (.int v2)])) _
                    refine XS.icmpYes X0.here hx rfl (pc0 := 50) (pc' := 59) rfl (hb hby at_50) rfl (own_tlt (a := v2) (b := (97 : Int32)) rfl (by decide) hc50_133).1 (by decide) (by decide) ?_
                    show Steps p.tables e below (s₁.setTop (mkF m 59 #[.val (.int vx), .val (.int v2), .val (.int v2), .unset] [])) _
                    refine XS.iloadN X0.here hx rfl (hb hby at_59) rfl ?_
                    show Steps p.tables e below (s₁.setTop (mkF m 60 #[.val (.int vx), .val (.int v2), .val (.int v2), .unset] [(.int v2)])) _
                    refine XS.bipush X0.here hx rfl (hb hby at_60) ?_
                    exact kt
                  by_cases hc62_135 : v2.toInt = (126 : Int)
                  · have pre137 : ∀ t, Steps p.tables e below (s₁.setTop (mkF m 70 #[.val (.int vx), .val (.int v2), .val (.int v2), .unset] [(.int (1 : Int32))])) t → Steps p.tables e below (s₁.setTop (entryFrame m #[(.int vx)] maxLocals)) t := fun t kt => by
                      refine pre136 _ ?_
                      show Steps p.tables e below (s₁.setTop (mkF m 62 #[.val (.int vx), .val (.int v2), .val (.int v2), .unset] [(.int (126 : Int32)), (.int v2)])) _
                      refine XS.icmpNo X0.here hx rfl (hb hby at_62) rfl (own_teq (a := v2) (b := (126 : Int32)) rfl (by decide) hc62_135).2 ?_
                      show Steps p.tables e below (s₁.setTop (mkF m 65 #[.val (.int vx), .val (.int v2), .val (.int v2), .unset] [])) _
                      refine XS.iconst X0.here hx rfl (hb hby at_65) ?_
                      show Steps p.tables e below (s₁.setTop (mkF m 66 #[.val (.int vx), .val (.int v2), .val (.int v2), .unset] [(.int (1 : Int32))])) _
                      refine XS.goto X0.here hx rfl (pc0 := 66) (pc' := 70) rfl (hb hby at_66) (by decide) (by decide) ?_
                      exact kt
                    exact ⟨(1 : Int32), by have iv : ((1 : Int32)).toInt = (1 : Int) := (by decide); omega, pre137⟩
                  · have pre138 : ∀ t, Steps p.tables e below (s₁.setTop (mkF m 70 #[.val (.int vx), .val (.int v2), .val (.int v2), .unset] [(.int (0 : Int32))])) t → Steps p.tables e below (s₁.setTop (entryFrame m #[(.int vx)] maxLocals)) t := fun t kt => by
                      refine pre136 _ ?_
                      show Steps p.tables e below (s₁.setTop (mkF m 62 #[.val (.int vx), .val (.int v2), .val (.int v2), .unset] [(.int (126 : Int32)), (.int v2)])) _
                      refine XS.icmpYes X0.here hx rfl (pc0 := 62) (pc' := 69) rfl (hb hby at_62) rfl (own_feq (a := v2) (b := (126 : Int32)) rfl (by decide) hc62_135).2 (by decide) (by decide) ?_
                      show Steps p.tables e below (s₁.setTop (mkF m 69 #[.val (.int vx), .val (.int v2), .val (.int v2), .unset] [])) _
                      refine XS.iconst X0.here hx rfl (hb hby at_69) ?_
                      exact kt
                    exact ⟨(0 : Int32), by have iv : ((0 : Int32)).toInt = (0 : Int) := (by decide); omega, pre138⟩
                · have pre140 : ∀ t, Steps p.tables e below (s₁.setTop (mkF m 56 #[.val (.int vx), .val (.int v2), .val (.int v2), .unset] [(.int (122 : Int32)), (.int v2)])) t → Steps p.tables e below (s₁.setTop (entryFrame m #[(.int vx)] maxLocals)) t := fun t kt => by
                    refine pre134 _ ?_
                    show Steps p.tables e below (s₁.setTop (mkF m 50 #[.val (.int vx), .val (.int v2), .val (.int v2), .unset] [(.int (97 : Int32)), (.int v2)])) _
                    refine XS.icmpNo X0.here hx rfl (hb hby at_50) rfl (own_flt (a := v2) (b := (97 : Int32)) rfl (by decide) hc50_133).1 ?_
                    show Steps p.tables e below (s₁.setTop (mkF m 53 #[.val (.int vx), .val (.int v2), .val (.int v2), .unset] [])) _
                    refine XS.iloadN X0.here hx rfl (hb hby at_53) rfl ?_
                    show Steps p.tables e below (s₁.setTop (mkF m 54 #[.val (.int vx), .val (.int v2), .val (.int v2), .unset] [(.int v2)])) _
                    refine XS.bipush X0.here hx rfl (hb hby at_54) ?_
                    exact kt
                  by_cases hc56_139 : (122 : Int) < v2.toInt
                  · have pre142 : ∀ t, Steps p.tables e below (s₁.setTop (mkF m 62 #[.val (.int vx), .val (.int v2), .val (.int v2), .unset] [(.int (126 : Int32)), (.int v2)])) t → Steps p.tables e below (s₁.setTop (entryFrame m #[(.int vx)] maxLocals)) t := fun t kt => by
                      refine pre140 _ ?_
                      show Steps p.tables e below (s₁.setTop (mkF m 56 #[.val (.int vx), .val (.int v2), .val (.int v2), .unset] [(.int (122 : Int32)), (.int v2)])) _
                      refine XS.icmpNo X0.here hx rfl (hb hby at_56) rfl (own_tlt (a := (122 : Int32)) (b := v2) (by decide) rfl hc56_139).2.2.2 ?_
                      show Steps p.tables e below (s₁.setTop (mkF m 59 #[.val (.int vx), .val (.int v2), .val (.int v2), .unset] [])) _
                      refine XS.iloadN X0.here hx rfl (hb hby at_59) rfl ?_
                      show Steps p.tables e below (s₁.setTop (mkF m 60 #[.val (.int vx), .val (.int v2), .val (.int v2), .unset] [(.int v2)])) _
                      refine XS.bipush X0.here hx rfl (hb hby at_60) ?_
                      exact kt
                    by_cases hc62_141 : v2.toInt = (126 : Int)
                    · have pre143 : ∀ t, Steps p.tables e below (s₁.setTop (mkF m 70 #[.val (.int vx), .val (.int v2), .val (.int v2), .unset] [(.int (1 : Int32))])) t → Steps p.tables e below (s₁.setTop (entryFrame m #[(.int vx)] maxLocals)) t := fun t kt => by
                        refine pre142 _ ?_
                        show Steps p.tables e below (s₁.setTop (mkF m 62 #[.val (.int vx), .val (.int v2), .val (.int v2), .unset] [(.int (126 : Int32)), (.int v2)])) _
                        refine XS.icmpNo X0.here hx rfl (hb hby at_62) rfl (own_teq (a := v2) (b := (126 : Int32)) rfl (by decide) hc62_141).2 ?_
                        show Steps p.tables e below (s₁.setTop (mkF m 65 #[.val (.int vx), .val (.int v2), .val (.int v2), .unset] [])) _
                        refine XS.iconst X0.here hx rfl (hb hby at_65) ?_
                        show Steps p.tables e below (s₁.setTop (mkF m 66 #[.val (.int vx), .val (.int v2), .val (.int v2), .unset] [(.int (1 : Int32))])) _
                        refine XS.goto X0.here hx rfl (pc0 := 66) (pc' := 70) rfl (hb hby at_66) (by decide) (by decide) ?_
                        exact kt
                      exact ⟨(1 : Int32), by have iv : ((1 : Int32)).toInt = (1 : Int) := (by decide); omega, pre143⟩
                    · have pre144 : ∀ t, Steps p.tables e below (s₁.setTop (mkF m 70 #[.val (.int vx), .val (.int v2), .val (.int v2), .unset] [(.int (0 : Int32))])) t → Steps p.tables e below (s₁.setTop (entryFrame m #[(.int vx)] maxLocals)) t := fun t kt => by
                        refine pre142 _ ?_
                        show Steps p.tables e below (s₁.setTop (mkF m 62 #[.val (.int vx), .val (.int v2), .val (.int v2), .unset] [(.int (126 : Int32)), (.int v2)])) _
                        refine XS.icmpYes X0.here hx rfl (pc0 := 62) (pc' := 69) rfl (hb hby at_62) rfl (own_feq (a := v2) (b := (126 : Int32)) rfl (by decide) hc62_141).2 (by decide) (by decide) ?_
                        show Steps p.tables e below (s₁.setTop (mkF m 69 #[.val (.int vx), .val (.int v2), .val (.int v2), .unset] [])) _
                        refine XS.iconst X0.here hx rfl (hb hby at_69) ?_
                        exact kt
                      exact ⟨(0 : Int32), by have iv : ((0 : Int32)).toInt = (0 : Int) := (by decide); omega, pre144⟩
                  · have pre145 : ∀ t, Steps p.tables e below (s₁.setTop (mkF m 70 #[.val (.int vx), .val (.int v2), .val (.int v2), .unset] [(.int (1 : Int32))])) t → Steps p.tables e below (s₁.setTop (entryFrame m #[(.int vx)] maxLocals)) t := fun t kt => by
                      refine pre140 _ ?_
                      show Steps p.tables e below (s₁.setTop (mkF m 56 #[.val (.int vx), .val (.int v2), .val (.int v2), .unset] [(.int (122 : Int32)), (.int v2)])) _
                      refine XS.icmpYes X0.here hx rfl (pc0 := 56) (pc' := 65) rfl (hb hby at_56) rfl (own_flt (a := (122 : Int32)) (b := v2) (by decide) rfl hc56_139).2.2.2 (by decide) (by decide) ?_
                      show Steps p.tables e below (s₁.setTop (mkF m 65 #[.val (.int vx), .val (.int v2), .val (.int v2), .unset] [])) _
                      refine XS.iconst X0.here hx rfl (hb hby at_65) ?_
                      show Steps p.tables e below (s₁.setTop (mkF m 66 #[.val (.int vx), .val (.int v2), .val (.int v2), .unset] [(.int (1 : Int32))])) _
                      refine XS.goto X0.here hx rfl (pc0 := 66) (pc' := 70) rfl (hb hby at_66) (by decide) (by decide) ?_
                      exact kt
                    exact ⟨(1 : Int32), by have iv : ((1 : Int32)).toInt = (1 : Int) := (by decide); omega, pre145⟩
            · have pre147 : ∀ t, Steps p.tables e below (s₁.setTop (mkF m 38 #[.val (.int vx), .val (.int v2), .val (.int v2), .unset] [(.int (90 : Int32)), (.int v2)])) t → Steps p.tables e below (s₁.setTop (entryFrame m #[(.int vx)] maxLocals)) t := fun t kt => by
                refine pre129 _ ?_
                show Steps p.tables e below (s₁.setTop (mkF m 32 #[.val (.int vx), .val (.int v2), .val (.int v2), .unset] [(.int (65 : Int32)), (.int v2)])) _
                refine XS.icmpNo X0.here hx rfl (hb hby at_32) rfl (own_flt (a := v2) (b := (65 : Int32)) rfl (by decide) hc32_128).1 ?_
                show Steps p.tables e below (s₁.setTop (mkF m 35 #[.val (.int vx), .val (.int v2), .val (.int v2), .unset] [])) _
                refine XS.iloadN X0.here hx rfl (hb hby at_35) rfl ?_
                show Steps p.tables e below (s₁.setTop (mkF m 36 #[.val (.int vx), .val (.int v2), .val (.int v2), .unset] [(.int v2)])) _
                refine XS.bipush X0.here hx rfl (hb hby at_36) ?_
                exact kt
              by_cases hc38_146 : (90 : Int) < v2.toInt
              · have pre149 : ∀ t, Steps p.tables e below (s₁.setTop (mkF m 44 #[.val (.int vx), .val (.int v2), .val (.int v2), .unset] [(.int (95 : Int32)), (.int v2)])) t → Steps p.tables e below (s₁.setTop (entryFrame m #[(.int vx)] maxLocals)) t := fun t kt => by
                  refine pre147 _ ?_
                  show Steps p.tables e below (s₁.setTop (mkF m 38 #[.val (.int vx), .val (.int v2), .val (.int v2), .unset] [(.int (90 : Int32)), (.int v2)])) _
                  refine XS.icmpNo X0.here hx rfl (hb hby at_38) rfl (own_tlt (a := (90 : Int32)) (b := v2) (by decide) rfl hc38_146).2.2.2 ?_
                  show Steps p.tables e below (s₁.setTop (mkF m 41 #[.val (.int vx), .val (.int v2), .val (.int v2), .unset] [])) _
                  refine XS.iloadN X0.here hx rfl (hb hby at_41) rfl ?_
                  show Steps p.tables e below (s₁.setTop (mkF m 42 #[.val (.int vx), .val (.int v2), .val (.int v2), .unset] [(.int v2)])) _
                  refine XS.bipush X0.here hx rfl (hb hby at_42) ?_
                  exact kt
                by_cases hc44_148 : v2.toInt = (95 : Int)
                · have pre150 : ∀ t, Steps p.tables e below (s₁.setTop (mkF m 70 #[.val (.int vx), .val (.int v2), .val (.int v2), .unset] [(.int (1 : Int32))])) t → Steps p.tables e below (s₁.setTop (entryFrame m #[(.int vx)] maxLocals)) t := fun t kt => by
                    refine pre149 _ ?_
                    show Steps p.tables e below (s₁.setTop (mkF m 44 #[.val (.int vx), .val (.int v2), .val (.int v2), .unset] [(.int (95 : Int32)), (.int v2)])) _
                    refine XS.icmpYes X0.here hx rfl (pc0 := 44) (pc' := 65) rfl (hb hby at_44) rfl (own_teq (a := v2) (b := (95 : Int32)) rfl (by decide) hc44_148).1 (by decide) (by decide) ?_
                    show Steps p.tables e below (s₁.setTop (mkF m 65 #[.val (.int vx), .val (.int v2), .val (.int v2), .unset] [])) _
                    refine XS.iconst X0.here hx rfl (hb hby at_65) ?_
                    show Steps p.tables e below (s₁.setTop (mkF m 66 #[.val (.int vx), .val (.int v2), .val (.int v2), .unset] [(.int (1 : Int32))])) _
                    refine XS.goto X0.here hx rfl (pc0 := 66) (pc' := 70) rfl (hb hby at_66) (by decide) (by decide) ?_
                    exact kt
                  exact ⟨(1 : Int32), by have iv : ((1 : Int32)).toInt = (1 : Int) := (by decide); omega, pre150⟩
                · have pre152 : ∀ t, Steps p.tables e below (s₁.setTop (mkF m 50 #[.val (.int vx), .val (.int v2), .val (.int v2), .unset] [(.int (97 : Int32)), (.int v2)])) t → Steps p.tables e below (s₁.setTop (entryFrame m #[(.int vx)] maxLocals)) t := fun t kt => by
                    refine pre149 _ ?_
                    show Steps p.tables e below (s₁.setTop (mkF m 44 #[.val (.int vx), .val (.int v2), .val (.int v2), .unset] [(.int (95 : Int32)), (.int v2)])) _
                    refine XS.icmpNo X0.here hx rfl (hb hby at_44) rfl (own_feq (a := v2) (b := (95 : Int32)) rfl (by decide) hc44_148).1 ?_
                    show Steps p.tables e below (s₁.setTop (mkF m 47 #[.val (.int vx), .val (.int v2), .val (.int v2), .unset] [])) _
                    refine XS.iloadN X0.here hx rfl (hb hby at_47) rfl ?_
                    show Steps p.tables e below (s₁.setTop (mkF m 48 #[.val (.int vx), .val (.int v2), .val (.int v2), .unset] [(.int v2)])) _
                    refine XS.bipush X0.here hx rfl (hb hby at_48) ?_
                    exact kt
                  by_cases hc50_151 : v2.toInt < (97 : Int)
                  · have pre154 : ∀ t, Steps p.tables e below (s₁.setTop (mkF m 62 #[.val (.int vx), .val (.int v2), .val (.int v2), .unset] [(.int (126 : Int32)), (.int v2)])) t → Steps p.tables e below (s₁.setTop (entryFrame m #[(.int vx)] maxLocals)) t := fun t kt => by
                      refine pre152 _ ?_
                      show Steps p.tables e below (s₁.setTop (mkF m 50 #[.val (.int vx), .val (.int v2), .val (.int v2), .unset] [(.int (97 : Int32)), (.int v2)])) _
                      refine XS.icmpYes X0.here hx rfl (pc0 := 50) (pc' := 59) rfl (hb hby at_50) rfl (own_tlt (a := v2) (b := (97 : Int32)) rfl (by decide) hc50_151).1 (by decide) (by decide) ?_
                      show Steps p.tables e below (s₁.setTop (mkF m 59 #[.val (.int vx), .val (.int v2), .val (.int v2), .unset] [])) _
                      refine XS.iloadN X0.here hx rfl (hb hby at_59) rfl ?_
                      show Steps p.tables e below (s₁.setTop (mkF m 60 #[.val (.int vx), .val (.int v2), .val (.int v2), .unset] [(.int v2)])) _
                      refine XS.bipush X0.here hx rfl (hb hby at_60) ?_
                      exact kt
                    by_cases hc62_153 : v2.toInt = (126 : Int)
                    · have pre155 : ∀ t, Steps p.tables e below (s₁.setTop (mkF m 70 #[.val (.int vx), .val (.int v2), .val (.int v2), .unset] [(.int (1 : Int32))])) t → Steps p.tables e below (s₁.setTop (entryFrame m #[(.int vx)] maxLocals)) t := fun t kt => by
                        refine pre154 _ ?_
                        show Steps p.tables e below (s₁.setTop (mkF m 62 #[.val (.int vx), .val (.int v2), .val (.int v2), .unset] [(.int (126 : Int32)), (.int v2)])) _
                        refine XS.icmpNo X0.here hx rfl (hb hby at_62) rfl (own_teq (a := v2) (b := (126 : Int32)) rfl (by decide) hc62_153).2 ?_
                        show Steps p.tables e below (s₁.setTop (mkF m 65 #[.val (.int vx), .val (.int v2), .val (.int v2), .unset] [])) _
                        refine XS.iconst X0.here hx rfl (hb hby at_65) ?_
                        show Steps p.tables e below (s₁.setTop (mkF m 66 #[.val (.int vx), .val (.int v2), .val (.int v2), .unset] [(.int (1 : Int32))])) _
                        refine XS.goto X0.here hx rfl (pc0 := 66) (pc' := 70) rfl (hb hby at_66) (by decide) (by decide) ?_
                        exact kt
                      exact ⟨(1 : Int32), by have iv : ((1 : Int32)).toInt = (1 : Int) := (by decide); omega, pre155⟩
                    · have pre156 : ∀ t, Steps p.tables e below (s₁.setTop (mkF m 70 #[.val (.int vx), .val (.int v2), .val (.int v2), .unset] [(.int (0 : Int32))])) t → Steps p.tables e below (s₁.setTop (entryFrame m #[(.int vx)] maxLocals)) t := fun t kt => by
                        refine pre154 _ ?_
                        show Steps p.tables e below (s₁.setTop (mkF m 62 #[.val (.int vx), .val (.int v2), .val (.int v2), .unset] [(.int (126 : Int32)), (.int v2)])) _
                        refine XS.icmpYes X0.here hx rfl (pc0 := 62) (pc' := 69) rfl (hb hby at_62) rfl (own_feq (a := v2) (b := (126 : Int32)) rfl (by decide) hc62_153).2 (by decide) (by decide) ?_
                        show Steps p.tables e below (s₁.setTop (mkF m 69 #[.val (.int vx), .val (.int v2), .val (.int v2), .unset] [])) _
                        refine XS.iconst X0.here hx rfl (hb hby at_69) ?_
                        exact kt
                      exact ⟨(0 : Int32), by have iv : ((0 : Int32)).toInt = (0 : Int) := (by decide); omega, pre156⟩
                  · have pre158 : ∀ t, Steps p.tables e below (s₁.setTop (mkF m 56 #[.val (.int vx), .val (.int v2), .val (.int v2), .unset] [(.int (122 : Int32)), (.int v2)])) t → Steps p.tables e below (s₁.setTop (entryFrame m #[(.int vx)] maxLocals)) t := fun t kt => by
                      refine pre152 _ ?_
                      show Steps p.tables e below (s₁.setTop (mkF m 50 #[.val (.int vx), .val (.int v2), .val (.int v2), .unset] [(.int (97 : Int32)), (.int v2)])) _
                      refine XS.icmpNo X0.here hx rfl (hb hby at_50) rfl (own_flt (a := v2) (b := (97 : Int32)) rfl (by decide) hc50_151).1 ?_
                      show Steps p.tables e below (s₁.setTop (mkF m 53 #[.val (.int vx), .val (.int v2), .val (.int v2), .unset] [])) _
                      refine XS.iloadN X0.here hx rfl (hb hby at_53) rfl ?_
                      show Steps p.tables e below (s₁.setTop (mkF m 54 #[.val (.int vx), .val (.int v2), .val (.int v2), .unset] [(.int v2)])) _
                      refine XS.bipush X0.here hx rfl (hb hby at_54) ?_
                      exact kt
                    by_cases hc56_157 : (122 : Int) < v2.toInt
                    · have pre160 : ∀ t, Steps p.tables e below (s₁.setTop (mkF m 62 #[.val (.int vx), .val (.int v2), .val (.int v2), .unset] [(.int (126 : Int32)), (.int v2)])) t → Steps p.tables e below (s₁.setTop (entryFrame m #[(.int vx)] maxLocals)) t := fun t kt => by
                        refine pre158 _ ?_
                        show Steps p.tables e below (s₁.setTop (mkF m 56 #[.val (.int vx), .val (.int v2), .val (.int v2), .unset] [(.int (122 : Int32)), (.int v2)])) _
                        refine XS.icmpNo X0.here hx rfl (hb hby at_56) rfl (own_tlt (a := (122 : Int32)) (b := v2) (by decide) rfl hc56_157).2.2.2 ?_
                        show Steps p.tables e below (s₁.setTop (mkF m 59 #[.val (.int vx), .val (.int v2), .val (.int v2), .unset] [])) _
                        refine XS.iloadN X0.here hx rfl (hb hby at_59) rfl ?_
                        show Steps p.tables e below (s₁.setTop (mkF m 60 #[.val (.int vx), .val (.int v2), .val (.int v2), .unset] [(.int v2)])) _
                        refine XS.bipush X0.here hx rfl (hb hby at_60) ?_
                        exact kt
                      by_cases hc62_159 : v2.toInt = (126 : Int)
                      · have pre161 : ∀ t, Steps p.tables e below (s₁.setTop (mkF m 70 #[.val (.int vx), .val (.int v2), .val (.int v2), .unset] [(.int (1 : Int32))])) t → Steps p.tables e below (s₁.setTop (entryFrame m #[(.int vx)] maxLocals)) t := fun t kt => by
                          refine pre160 _ ?_
                          show Steps p.tables e below (s₁.setTop (mkF m 62 #[.val (.int vx), .val (.int v2), .val (.int v2), .unset] [(.int (126 : Int32)), (.int v2)])) _
                          refine XS.icmpNo X0.here hx rfl (hb hby at_62) rfl (own_teq (a := v2) (b := (126 : Int32)) rfl (by decide) hc62_159).2 ?_
                          show Steps p.tables e below (s₁.setTop (mkF m 65 #[.val (.int vx), .val (.int v2), .val (.int v2), .unset] [])) _
                          refine XS.iconst X0.here hx rfl (hb hby at_65) ?_
                          show Steps p.tables e below (s₁.setTop (mkF m 66 #[.val (.int vx), .val (.int v2), .val (.int v2), .unset] [(.int (1 : Int32))])) _
                          refine XS.goto X0.here hx rfl (pc0 := 66) (pc' := 70) rfl (hb hby at_66) (by decide) (by decide) ?_
                          exact kt
                        exact ⟨(1 : Int32), by have iv : ((1 : Int32)).toInt = (1 : Int) := (by decide); omega, pre161⟩
                      · have pre162 : ∀ t, Steps p.tables e below (s₁.setTop (mkF m 70 #[.val (.int vx), .val (.int v2), .val (.int v2), .unset] [(.int (0 : Int32))])) t → Steps p.tables e below (s₁.setTop (entryFrame m #[(.int vx)] maxLocals)) t := fun t kt => by
                          refine pre160 _ ?_
                          show Steps p.tables e below (s₁.setTop (mkF m 62 #[.val (.int vx), .val (.int v2), .val (.int v2), .unset] [(.int (126 : Int32)), (.int v2)])) _
                          refine XS.icmpYes X0.here hx rfl (pc0 := 62) (pc' := 69) rfl (hb hby at_62) rfl (own_feq (a := v2) (b := (126 : Int32)) rfl (by decide) hc62_159).2 (by decide) (by decide) ?_
                          show Steps p.tables e below (s₁.setTop (mkF m 69 #[.val (.int vx), .val (.int v2), .val (.int v2), .unset] [])) _
                          refine XS.iconst X0.here hx rfl (hb hby at_69) ?_
                          exact kt
                        exact ⟨(0 : Int32), by have iv : ((0 : Int32)).toInt = (0 : Int) := (by decide); omega, pre162⟩
                    · have pre163 : ∀ t, Steps p.tables e below (s₁.setTop (mkF m 70 #[.val (.int vx), .val (.int v2), .val (.int v2), .unset] [(.int (1 : Int32))])) t → Steps p.tables e below (s₁.setTop (entryFrame m #[(.int vx)] maxLocals)) t := fun t kt => by
                        refine pre158 _ ?_
                        show Steps p.tables e below (s₁.setTop (mkF m 56 #[.val (.int vx), .val (.int v2), .val (.int v2), .unset] [(.int (122 : Int32)), (.int v2)])) _
                        refine XS.icmpYes X0.here hx rfl (pc0 := 56) (pc' := 65) rfl (hb hby at_56) rfl (own_flt (a := (122 : Int32)) (b := v2) (by decide) rfl hc56_157).2.2.2 (by decide) (by decide) ?_
                        show Steps p.tables e below (s₁.setTop (mkF m 65 #[.val (.int vx), .val (.int v2), .val (.int v2), .unset] [])) _
                        refine XS.iconst X0.here hx rfl (hb hby at_65) ?_
                        show Steps p.tables e below (s₁.setTop (mkF m 66 #[.val (.int vx), .val (.int v2), .val (.int v2), .unset] [(.int (1 : Int32))])) _
                        refine XS.goto X0.here hx rfl (pc0 := 66) (pc' := 70) rfl (hb hby at_66) (by decide) (by decide) ?_
                        exact kt
                      exact ⟨(1 : Int32), by have iv : ((1 : Int32)).toInt = (1 : Int) := (by decide); omega, pre163⟩
              · have pre164 : ∀ t, Steps p.tables e below (s₁.setTop (mkF m 70 #[.val (.int vx), .val (.int v2), .val (.int v2), .unset] [(.int (1 : Int32))])) t → Steps p.tables e below (s₁.setTop (entryFrame m #[(.int vx)] maxLocals)) t := fun t kt => by
                  refine pre147 _ ?_
                  show Steps p.tables e below (s₁.setTop (mkF m 38 #[.val (.int vx), .val (.int v2), .val (.int v2), .unset] [(.int (90 : Int32)), (.int v2)])) _
                  refine XS.icmpYes X0.here hx rfl (pc0 := 38) (pc' := 65) rfl (hb hby at_38) rfl (own_flt (a := (90 : Int32)) (b := v2) (by decide) rfl hc38_146).2.2.2 (by decide) (by decide) ?_
                  show Steps p.tables e below (s₁.setTop (mkF m 65 #[.val (.int vx), .val (.int v2), .val (.int v2), .unset] [])) _
                  refine XS.iconst X0.here hx rfl (hb hby at_65) ?_
                  show Steps p.tables e below (s₁.setTop (mkF m 66 #[.val (.int vx), .val (.int v2), .val (.int v2), .unset] [(.int (1 : Int32))])) _
                  refine XS.goto X0.here hx rfl (pc0 := 66) (pc' := 70) rfl (hb hby at_66) (by decide) (by decide) ?_
                  exact kt
                exact ⟨(1 : Int32), by have iv : ((1 : Int32)).toInt = (1 : Int) := (by decide); omega, pre164⟩
          · have pre165 : ∀ t, Steps p.tables e below (s₁.setTop (mkF m 70 #[.val (.int vx), .val (.int v2), .val (.int v2), .unset] [(.int (1 : Int32))])) t → Steps p.tables e below (s₁.setTop (entryFrame m #[(.int vx)] maxLocals)) t := fun t kt => by
              refine pre127 _ ?_
              show Steps p.tables e below (s₁.setTop (mkF m 26 #[.val (.int vx), .val (.int v2), .val (.int v2), .unset] [(.int (57 : Int32)), (.int v2)])) _
              refine XS.icmpYes X0.here hx rfl (pc0 := 26) (pc' := 65) rfl (hb hby at_26) rfl (own_flt (a := (57 : Int32)) (b := v2) (by decide) rfl hc26_126).2.2.2 (by decide) (by decide) ?_
              show Steps p.tables e below (s₁.setTop (mkF m 65 #[.val (.int vx), .val (.int v2), .val (.int v2), .unset] [])) _
              refine XS.iconst X0.here hx rfl (hb hby at_65) ?_
              show Steps p.tables e below (s₁.setTop (mkF m 66 #[.val (.int vx), .val (.int v2), .val (.int v2), .unset] [(.int (1 : Int32))])) _
              refine XS.goto X0.here hx rfl (pc0 := 66) (pc' := 70) rfl (hb hby at_66) (by decide) (by decide) ?_
              exact kt
            exact ⟨(1 : Int32), by have iv : ((1 : Int32)).toInt = (1 : Int) := (by decide); omega, pre165⟩
      · have pre166 : ∀ t, Steps p.tables e below (s₁.setTop (mkF m 70 #[.val (.int vx), .val (.int v2), .val (.int v2), .unset] [(.int (1 : Int32))])) t → Steps p.tables e below (s₁.setTop (entryFrame m #[(.int vx)] maxLocals)) t := fun t kt => by
          refine pre86 _ ?_
          show Steps p.tables e below (s₁.setTop (mkF m 14 #[.val (.int vx), .val (.int v2), .val (.int v2), .unset] [(.int (46 : Int32)), (.int v2)])) _
          refine XS.icmpYes X0.here hx rfl (pc0 := 14) (pc' := 65) rfl (hb hby at_14) rfl (own_flt (a := (46 : Int32)) (b := v2) (by decide) rfl hc14_85).2.2.2 (by decide) (by decide) ?_
          show Steps p.tables e below (s₁.setTop (mkF m 65 #[.val (.int vx), .val (.int v2), .val (.int v2), .unset] [])) _
          refine XS.iconst X0.here hx rfl (hb hby at_65) ?_
          show Steps p.tables e below (s₁.setTop (mkF m 66 #[.val (.int vx), .val (.int v2), .val (.int v2), .unset] [(.int (1 : Int32))])) _
          refine XS.goto X0.here hx rfl (pc0 := 66) (pc' := 70) rfl (hb hby at_66) (by decide) (by decide) ?_
          exact kt
        exact ⟨(1 : Int32), by have iv : ((1 : Int32)).toInt = (1 : Int) := (by decide); omega, pre166⟩
  obtain ⟨_, _, ⟨T168, L168, k168, n168⟩, -, Xp168, hSp168, hgp168, ⟨Lc168, hQ168, l168, y168, z168, CRn168⟩, st168⟩ := callSS X0 hx (y := (⟨"com/example/path_template_matcher/pathtemplatematcher/PercentEncoding", "isUnreserved", "(C)Z"⟩ : MethodName)) hown (mvT hZ (hw _ (List.mem_of_getElem? (i := 0) rfl))) (mvT hZ (hw _ (List.mem_of_getElem? (i := 1) rfl))) (mvT hZ (hw _ (List.mem_of_getElem? (i := 2) rfl))) (mvT hZ (hw _ (List.mem_of_getElem? (i := 3) rfl))) (by decide) (backOfSH (W := 0) (rm1 l Z a0 hw [] v2 vcs h0 n0 Z0 Sc ncs jv2.1 jv2.2) hZ (hw _ (List.mem_of_getElem? (i := 3) rfl)) (hw _ (List.mem_of_getElem? (i := 2) rfl)) (by decide) (by decide) hEL CR0.1) (g := (mkF m 72 #[.val (.int vx), .val (.int v2), .val (.int v2), .val (.int ex)] [(.int v2)])) rfl (by rw [hml]; rfl) (argsL := [(.int v2)]) (rest := []) (lenOf pd_7 rfl) rfl (by show 2 * 0 + _ ≤ _; exact Nat.le_of_eq rfl) (hb hby at_72) (fun _ _ => ⟨rfl, e0, (by decide : 0 + 2 ≤ _), (by decide : 0 + 20 ≤ _)⟩)
  dsimp only [Pt.U, Pt.locs, Pt.cells, Pt.slots] at Xp168 hSp168 hgp168 l168 y168 z168 st168 hQ168 CRn168
  subst l168 y168 z168
  obtain ⟨X168, hS168, hZ, hown⟩ := rebS hS0 (n1 := s₁.heap.size) (by rw [e0]; exact hk0) Xp168 hSp168 hgp168 hZ hown
  have CR169 := CR0.trans CRn168
  obtain ⟨zu, rfl, hzu, N168q, K168⟩ := hQ168
  have N168 := Fr.app N0 N168q
  have Zs170 : n0 ≤ T168.heap.size := Nat.le_trans Z0 K168.1
  have hc76_171 : zu.toInt = ex.toInt := by omega
  obtain ⟨fs, hr, hrun, hended, hREW⟩ := X168.leaveW hS168 (Nat.le_refl T168.heap.size) (v := some (.int (1 : Int32))) (fun h => by rw [Bd.returns] at h; cases h)
  refine ⟨_, _, pre167 _ ?_, hrun, hended, _, _, rfl, ?_, ?_, ⟨hREW.1, hREW.2.1, hREW.2.2.1, hREW.2.2.2.mono (by decide) (by decide)⟩⟩
  · show Steps p.tables e below (s₁.setTop (mkF m 70 #[.val (.int vx), .val (.int v2), .val (.int v2), .unset] [(.int ex)])) _
    refine XS.istoreN X0.here hx rfl (hb hby at_70) rfl (l' := #[.val (.int vx), .val (.int v2), .val (.int v2), .val (.int ex)]) rfl ?_
    show Steps p.tables e below (s₁.setTop (mkF m 71 #[.val (.int vx), .val (.int v2), .val (.int v2), .val (.int ex)] [])) _
    refine XS.iloadN X0.here hx rfl (hb hby at_71) rfl ?_
    show Steps p.tables e below (s₁.setTop (mkF m 72 #[.val (.int vx), .val (.int v2), .val (.int v2), .val (.int ex)] [(.int v2)])) _
    refine st168.trans ?_
    show Steps p.tables e below (T168.setTop (mkF m 75 #[.val (.int vx), .val (.int v2), .val (.int v2), .val (.int ex)] [(.int zu)])) _
    refine XS.iloadN X168.here hx rfl (hb hby at_75) rfl ?_
    show Steps p.tables e below (T168.setTop (mkF m 76 #[.val (.int vx), .val (.int v2), .val (.int v2), .val (.int ex)] [(.int ex), (.int zu)])) _
    refine XS.icmpNo X168.here hx rfl (hb hby at_76) rfl (own_teq (a := zu) (b := ex) rfl rfl hc76_171).2 ?_
    show Steps p.tables e below (T168.setTop (mkF m 79 #[.val (.int vx), .val (.int v2), .val (.int v2), .val (.int ex)] [])) _
    refine XS.iconst X168.here hx rfl (hb hby at_79) ?_
    show Steps p.tables e below (T168.setTop (mkF m 80 #[.val (.int vx), .val (.int v2), .val (.int v2), .val (.int ex)] [(.int (1 : Int32))])) _
    refine XS.goto X168.here hx rfl (pc0 := 80) (pc' := 84) rfl (hb hby at_80) (by decide) (by decide) ?_
    show Steps p.tables e below (T168.setTop (mkF m 84 #[.val (.int vx), .val (.int v2), .val (.int v2), .val (.int ex)] [(.int (1 : Int32))])) _
    exact retN X168 hx (t := .boolean) Bd.returns (by simp) (hb hby at_84) hr
  · show Q0 Z vx vcs h0 n0 _ T168.heap _
    exact ⟨rfl, N168⟩
  · show CHr Z own_EL s.vm s.heap T168.vm T168.heap
    rw [hh]
    exact CR169.trans (CHv.at X168 hZ hEL CR169.1)
theorem own_cs {s : State} {a0 : Array Value} (hsets : ∀ d ∈ jdkStatics_1, d.before a0 s = true) : ∃ vcs : Int32, Sta s s.heap "java/lang/String" "COMPACT_STRINGS" "Z" (.int vcs) ∧ ¬ vcs.toInt = 0 := by
  obtain ⟨vcs, ec⟩ := is_v (Cond.before_iff.mp (hsets _ (List.mem_of_getElem? (i := 1) rfl)))
  refine ⟨vcs, Sta.start ec (Or.inl (hsets _ (List.mem_of_getElem? (i := 0) rfl))), fun q => ?_⟩
  have h1 := not_v (Cond.before_iff.mp (hsets _ (List.mem_of_getElem? (i := 2) rfl)))
  have h2 : vcs = 0 := Int32.toInt_inj.mp (by rw [q]; decide)
  subst h2
  have h3 := eq_i ec (Term.int_eval (0 : Int32)) rfl
  rw [h3] at h1; cases h1
set_option maxRecDepth 65536 in
set_option maxHeartbeats 40000000 in
theorem comes_1 {Post : Tables → Env → Array Value → State → Outcome → State → Prop} (hpost : ∀ tb e args s v u, (limb_1_1.after args s (.returned v) u = true ∧ limb_1_2.after args s (.returned v) u = true ∧ True) → ReturnedEndW s (.returned v) u (Jvm.fieldLocs frame_1_writes args s ++ Jvm.arrayLocs frame_1_arrays args s ++ Jvm.staticLocs frame_1_statics s) 8 1088 → Post tb e args s (.returned v) u) :
    ArmFor flags0 classFile x code maxLocals ret World_1 tables_1 room_1 Calls_1 rest_1 Pre_1 Post := by
  intro l hfl _ _ p e ha hc hk s m args below hf hA hF happ hP
  obtain ⟨hcalls, hrest, hpre⟩ := hP
  obtain ⟨-, -, -, hnamed, -, -, -, hat⟩ := (Spec.applies_iff hf).mp happ
  obtain ⟨hg, hn⟩ := and_e (Cond.before_iff.mp (show (Jvm.Cond.and given_1 narrow_1).before args s = true from hpre))
  obtain ⟨g0, gr0⟩ := and_e hg
  obtain ⟨w0, rfl⟩ : ∃ w0 : Value, args = #[w0] := by
    have hs : args.size = 1 := by simpa [Cond.value, given_1] using g0
    obtain ⟨L⟩ := args
    match L, hs with
    | [w0], _ => exact ⟨w0, rfl⟩
  have hw := fun d (hd : d ∈ tables_1) => atoms_spec (ws := Jvm.Cond.code x code maxLocals ret :: tables_1) hat d (List.mem_cons_of_mem _ hd)
  have hfit : Fit s := fun {y c} hc i hi => by
    obtain ⟨ha, rfl⟩ := Array.getElem?_eq_some_iff.mp hc
    have q := List.all_eq_true.mp ((Array.all_eq_true_iff_forall_mem.mp hF) _ (Array.getElem_mem ha)) i (List.mem_range.mpr hi)
    simpa [Array.getElem?_eq_getElem hi] using q
  obtain ⟨hsets, hown0⟩ := atoms_of _ (rest_1_c_eq ▸ (show rest_1_c.before _ s = true from hrest))
  have hr0 := Cond.before_iff.mp hown0
  obtain ⟨i0, ei0⟩ := is_v gr0
  obtain rfl : w0 = (.int i0) := Option.some.inj ei0
  obtain ⟨vcs, Sc, ncs⟩ := own_cs hsets
  have hCH : CHv s own_EL s.vm s.heap := CHv.start (own_EW hw) (fun q hq => hcalls.1 q hq) (hsets _ (List.mem_of_getElem? (i := 2) rfl)) (own_wS hw _ (by simp [Bundle.stringAtoms])) (own_wS hw _ (by simp [Bundle.stringAtoms, Bundle.sN]))
  obtain ⟨n, o, h1, h2, h3, v0, L, rfl, hQ, -, hq⟩ := rm0 l s _ hw tables_1 i0 vcs s.heap s.heap.size (Nat.le_refl _) Sc ncs p e ha hc hk s m _ below hf ((Spec.applies_iff_loose hf).mp happ).1 ⟨rfl, State.Warmed39.refl s, rfl, hCH⟩ trivial
  obtain ⟨rfl, N⟩ : v0 = some (.int (1 : Int32)) ∧ Fr s.heap.size L := hQ
  refine ⟨n, _, h1, h2, h3, hpost _ _ _ _ _ _ ⟨Cond.after_iff.mpr rfl, Cond.after_iff.mpr (eq_i res_at (Term.int_eval (1)) rfl), trivial⟩ ⟨hq.1, hq.2.1, hq.2.2.1, (hq.2.2.2.sift fun y hy => Or.inr (N y hy)).mono (by decide) (by decide)⟩⟩
theorem main_1_1 : Claimed_1_1 := comes_1 fun _ _ _ _ _ _ h hF => ⟨h.1, hF⟩
theorem main_1_2 : Claimed_1_2 := comes_1 fun _ _ _ _ _ _ h hF => ⟨h.2.1, hF⟩
end Jvm.Pilot.@@N@@
namespace Jvm.Pilot.@@N@@
open Jvm Jvm.ClassFile Sem Op Lib Jvm.Free Jvm.Stand Jvm.Pilot.@@N@@.Jvm.D
/-! MADE BY PROGRAM (witnessworld.py) out of the Statement's table words and the real class files: 18 classes; the members and pool entries that the words name. The judged class is class 1, her method 1. -/
namespace start1
open Jvm.ClassFile
def u (s : String) : CpInfo := .utf8 (stringToUtf16 s)
/-- a pool by its gaps: so many unusable entries, then the entry; so many at the end -/
def gap : Nat → List CpInfo → List CpInfo
  | 0, r => r
  | n + 1, r => .unusable :: gap n r
def poolList (es : List (Nat × CpInfo)) (last : Nat) : List CpInfo := es.foldr (fun e r => gap e.1 (e.2 :: r)) (gap last [])
def pool (es : List (Nat × CpInfo)) (last : Nat) : Array CpInfo := ⟨poolList es last⟩
def fileOf (pool : Array CpInfo) (this : Nat) (attrs : Array Attribute := #[]) (ms : Array MethodInfo := #[]) (fl : Nat := 33) (sup : Nat := 0) (ifs : Array Nat := #[]) (fds : Array FieldInfo := #[]) : ClassFile where
  minorVersion := 0
  majorVersion := 65
  constantPool := pool
  accessFlags := fl
  thisClass := this
  superClass := sup
  interfaces := ifs
  fields := fds
  methods := ms
  attributes := attrs
def plain (name : String) (sup : Option ClassId) : Class where
  name := name
  kind := .ordinary
  loader := none
  accessFlags := 33
  super := sup
  interfaces := #[]
  cf := none
  fields := #[]
  methods := #[]
  instanceTypes := #[]
  staticTypes := #[]
  resolved := #[]
  callSites := []
  init := .initialized
  statics := none
  mirror := none

def pool0 : Array CpInfo := pool [(5, u "<init>"), (0, u "()V"), (1, .class_ 10), (1, u "java/lang/Object")] 113

def k0m0 : Method := { name := "<init>", desc := "()V", sig := { parameters := [], returnType := none }, accessFlags := 1, code := none }
/-- java/lang/Object -/
def k0 : Class := { plain "java/lang/Object" none with
  accessFlags := 33
  interfaces := #[]
  cf := some (fileOf pool0 8 #[] #[{ accessFlags := 1, nameIndex := 5, descriptorIndex := 6, attributes := #[] }] 33 0 #[] #[])
  fields := #[]
  methods := #[k0m0]
  instanceTypes := #[]
  staticTypes := #[]
  resolved := Array.replicate 124 none
  statics := none }

def pool1 : Array CpInfo := pool [(2, .class_ 4), (1, u "java/lang/Object"), (0, u "<init>"), (0, u "()V"), (0, .methodref 8 9), (0, .class_ 10), (0, .nameAndType 11 12), (0, u "com/example/path_template_matcher/pathtemplatematcher/PercentEncoding"), (0, u "isUnreserved"), (0, u "(C)Z"), (0, .class_ 14), (0, u "com/example/path_template_matcher/pathtemplatematcher/PercentEncodingIsUnreservedPinLaw"), (2, u "law"), (0, u "(I)Z")] 3

def k1m0 : Method := { name := "<init>", desc := "()V", sig := { parameters := [], returnType := none }, accessFlags := 2, code := none }
def k1c1 : Code := { maxStack := 2, maxLocals := 4, code := code, exceptionTable := #[], attributes := #[] }
def k1m1 : Method := { name := "law", desc := "(I)Z", sig := { parameters := [.int], returnType := some .boolean }, accessFlags := 9, code := some k1c1 }
/-- com/example/path_template_matcher/pathtemplatematcher/PercentEncodingIsUnreservedPinLaw -/
def k1 : Class := { plain "com/example/path_template_matcher/pathtemplatematcher/PercentEncodingIsUnreservedPinLaw" (some 0) with
  accessFlags := 49
  interfaces := #[]
  cf := some (fileOf pool1 13 #[] #[{ accessFlags := 2, nameIndex := 5, descriptorIndex := 6, attributes := #[] }, { accessFlags := 9, nameIndex := 17, descriptorIndex := 18, attributes := #[] }] 49 2 #[] #[])
  fields := #[]
  methods := #[k1m0, k1m1]
  instanceTypes := #[]
  staticTypes := #[]
  resolved := Array.replicate 22 none
  statics := none }

def pool2 : Array CpInfo := pool [(2, .class_ 4), (1, u "java/lang/Object"), (0, u "<init>"), (0, u "()V"), (7, .class_ 16), (1, u "java/lang/String"), (8, .class_ 27), (1, u "com/example/path_template_matcher/pathtemplatematcher/PercentEncoding"), (0, u "isUnreserved"), (0, u "(C)Z"), (6, u "HEX_DIGITS"), (0, u "[C"), (38, .string 77), (0, u "-._~"), (0, .methodref 14 79), (0, .nameAndType 80 81), (0, u "indexOf"), (0, u "(I)I"), (77, u "UNRESERVED_SYMBOLS"), (0, u "Ljava/lang/String;")] 14

def k2m0 : Method := { name := "<init>", desc := "()V", sig := { parameters := [], returnType := none }, accessFlags := 2, code := none }
def k2c1 : Code := { maxStack := 2, maxLocals := 2, code := prog_26_method_4_code, exceptionTable := #[], attributes := #[] }
def k2m1 : Method := { name := "isUnreserved", desc := "(C)Z", sig := { parameters := [.char], returnType := some .boolean }, accessFlags := 8, code := some k2c1 }
/-- com/example/path_template_matcher/pathtemplatematcher/PercentEncoding -/
def k2 : Class := { plain "com/example/path_template_matcher/pathtemplatematcher/PercentEncoding" (some 0) with
  accessFlags := 49
  interfaces := #[]
  cf := some (fileOf pool2 25 #[] #[{ accessFlags := 2, nameIndex := 5, descriptorIndex := 6, attributes := #[] }, { accessFlags := 8, nameIndex := 28, descriptorIndex := 29, attributes := #[] }] 49 2 #[] #[{ accessFlags := 26, nameIndex := 159, descriptorIndex := 160, attributes := #[] }, { accessFlags := 26, nameIndex := 36, descriptorIndex := 37, attributes := #[] }])
  fields := #[{ name := "UNRESERVED_SYMBOLS", type := (.object "java/lang/String"), accessFlags := 26, slot := 0, constantValue := 0 }, { name := "HEX_DIGITS", type := (.array .char), accessFlags := 26, slot := 1, constantValue := 0 }]
  methods := #[k2m0, k2m1]
  instanceTypes := #[]
  staticTypes := #[(.object "java/lang/String"), (.array .char)]
  resolved := Array.replicate 175 none
  statics := none }

def pool3 : Array CpInfo := pool [(1, .class_ 2), (0, u "java/io/Serializable"), (0, .class_ 4), (0, u "java/lang/Object")] 2

/-- java/io/Serializable -/
def k3 : Class := { plain "java/io/Serializable" (some 0) with
  accessFlags := 1537
  interfaces := #[]
  cf := some (fileOf pool3 1 #[] #[] 1537 3 #[] #[])
  fields := #[]
  methods := #[]
  instanceTypes := #[]
  staticTypes := #[]
  resolved := Array.replicate 7 none
  statics := none }

def pool4 : Array CpInfo := pool [(1, .class_ 2), (0, u "java/lang/Comparable"), (0, .class_ 4), (0, u "java/lang/Object")] 7

/-- java/lang/Comparable -/
def k4 : Class := { plain "java/lang/Comparable" (some 0) with
  accessFlags := 1537
  interfaces := #[]
  cf := some (fileOf pool4 1 #[] #[] 1537 3 #[] #[])
  fields := #[]
  methods := #[]
  instanceTypes := #[]
  staticTypes := #[]
  resolved := Array.replicate 12 none
  statics := none }

def pool5 : Array CpInfo := pool [(2, .class_ 4), (1, u "java/lang/CharSequence"), (42, .class_ 48), (0, u "java/lang/CharSequence$1CodePointIterator"), (10, .class_ 60), (0, u "java/lang/CharSequence$1CharIterator"), (5, .class_ 67), (0, u "java/lang/Object")] 63

/-- java/lang/CharSequence -/
def k5 : Class := { plain "java/lang/CharSequence" (some 0) with
  accessFlags := 1537
  interfaces := #[]
  cf := some (fileOf pool5 2 #[.nestMembers #[47, 59]] #[] 1537 66 #[] #[])
  fields := #[]
  methods := #[]
  instanceTypes := #[]
  staticTypes := #[]
  resolved := Array.replicate 131 none
  statics := none }

def pool6 : Array CpInfo := pool [(1, .class_ 2), (0, u "java/lang/constant/Constable"), (0, .class_ 4), (0, u "java/lang/Object")] 6

/-- java/lang/constant/Constable -/
def k6 : Class := { plain "java/lang/constant/Constable" (some 0) with
  accessFlags := 1537
  interfaces := #[]
  cf := some (fileOf pool6 1 #[] #[] 1537 3 #[] #[])
  fields := #[]
  methods := #[]
  instanceTypes := #[]
  staticTypes := #[]
  resolved := Array.replicate 11 none
  statics := none }

def pool7 : Array CpInfo := pool [(1, .class_ 2), (0, u "java/lang/constant/ConstantDesc"), (0, .class_ 4), (0, u "java/lang/Object")] 32

/-- java/lang/constant/ConstantDesc -/
def k7 : Class := { plain "java/lang/constant/ConstantDesc" (some 0) with
  accessFlags := 1537
  interfaces := #[]
  cf := some (fileOf pool7 1 #[] #[] 1537 3 #[] #[])
  fields := #[]
  methods := #[]
  instanceTypes := #[]
  staticTypes := #[]
  resolved := Array.replicate 37 none
  statics := none }

def pool8 : Array CpInfo := pool [(2, .class_ 4), (1, u "java/lang/Object"), (0, u "<init>"), (0, u "()V"), (2, .fieldref 10 11), (0, .class_ 12), (0, .nameAndType 13 14), (0, u "java/lang/String"), (0, u "value"), (0, u "[B"), (0, .fieldref 10 16), (0, .nameAndType 17 18), (0, u "coder"), (0, u "B"), (2, u "hash"), (0, u "I"), (2, u "hashIsZero"), (0, u "Z"), (11, .fieldref 10 39), (0, .nameAndType 40 26), (0, u "COMPACT_STRINGS"), (66, .class_ 109), (1, u "java/lang/StringLatin1"), (32, u "()Z"), (191, u "()I"), (0, .methodref 10 336), (0, .nameAndType 17 337), (0, u "()B"), (154, .methodref 10 493), (0, .nameAndType 494 142), (0, u "isLatin1"), (10, .methodref 10 506), (0, .nameAndType 507 334), (0, u "length"), (67, .class_ 576), (0, u "java/lang/CharSequence"), (22, u "CASE_INSENSITIVE_ORDER"), (0, u "Ljava/util/Comparator;"), (32, .methodref 10 634), (0, .nameAndType 635 636), (0, u "indexOf"), (0, u "(II)I"), (0, .methodref 107 638), (0, .nameAndType 635 639), (0, u "([BIII)I"), (125, u "(I)I"), (335, u "serialPersistentFields"), (0, u "[Ljava/io/ObjectStreamField;"), (0, .class_ 1104), (0, u "java/lang/String$CaseInsensitiveComparator"), (1, .class_ 1107), (0, u "java/io/Serializable"), (0, .class_ 1109), (0, u "java/lang/Comparable"), (0, .class_ 1111), (0, u "java/lang/constant/Constable"), (0, .class_ 1113), (0, u "java/lang/constant/ConstantDesc"), (2, u "serialVersionUID"), (0, u "J"), (3, u "REPL"), (0, u "C"), (2, u "LATIN1"), (1, u "UTF16")] 323

def k8m0 : Method := { name := "<init>", desc := "()V", sig := { parameters := [], returnType := none }, accessFlags := 1, code := none }
def k8c1 : Code := { maxStack := 2, maxLocals := 1, code := jdk_42_method_54_code, exceptionTable := #[], attributes := #[] }
def k8m1 : Method := { name := "length", desc := "()I", sig := { parameters := [], returnType := some .int }, accessFlags := 1, code := some k8c1 }
def k8c2 : Code := { maxStack := 3, maxLocals := 2, code := jdk_42_method_79_code, exceptionTable := #[], attributes := #[] }
def k8m2 : Method := { name := "indexOf", desc := "(I)I", sig := { parameters := [.int], returnType := some .int }, accessFlags := 1, code := some k8c2 }
def k8c3 : Code := { maxStack := 4, maxLocals := 3, code := jdk_42_method_80_code, exceptionTable := #[], attributes := #[] }
def k8m3 : Method := { name := "indexOf", desc := "(II)I", sig := { parameters := [.int, .int], returnType := some .int }, accessFlags := 1, code := some k8c3 }
def k8c4 : Code := { maxStack := 1, maxLocals := 1, code := jdk_42_method_152_code, exceptionTable := #[], attributes := #[] }
def k8m4 : Method := { name := "coder", desc := "()B", sig := { parameters := [], returnType := some .byte }, accessFlags := 0, code := some k8c4 }
def k8c5 : Code := { maxStack := 1, maxLocals := 1, code := jdk_42_method_154_code, exceptionTable := #[], attributes := #[] }
def k8m5 : Method := { name := "isLatin1", desc := "()Z", sig := { parameters := [], returnType := some .boolean }, accessFlags := 0, code := some k8c5 }
/-- java/lang/String -/
def k8 : Class := { plain "java/lang/String" (some 0) with
  accessFlags := 49
  interfaces := #[3, 4, 5, 6, 7]
  cf := some (fileOf pool8 10 #[.nestMembers #[1103]] #[{ accessFlags := 1, nameIndex := 5, descriptorIndex := 6, attributes := #[] }, { accessFlags := 1, nameIndex := 507, descriptorIndex := 334, attributes := #[] }, { accessFlags := 1, nameIndex := 635, descriptorIndex := 765, attributes := #[] }, { accessFlags := 1, nameIndex := 635, descriptorIndex := 636, attributes := #[] }, { accessFlags := 0, nameIndex := 17, descriptorIndex := 337, attributes := #[] }, { accessFlags := 0, nameIndex := 494, descriptorIndex := 142, attributes := #[] }] 49 2 #[1106, 1108, 575, 1110, 1112] #[{ accessFlags := 18, nameIndex := 13, descriptorIndex := 14, attributes := #[] }, { accessFlags := 18, nameIndex := 17, descriptorIndex := 18, attributes := #[] }, { accessFlags := 2, nameIndex := 21, descriptorIndex := 22, attributes := #[] }, { accessFlags := 2, nameIndex := 25, descriptorIndex := 26, attributes := #[] }, { accessFlags := 26, nameIndex := 1116, descriptorIndex := 1117, attributes := #[] }, { accessFlags := 24, nameIndex := 40, descriptorIndex := 26, attributes := #[] }, { accessFlags := 26, nameIndex := 1101, descriptorIndex := 1102, attributes := #[] }, { accessFlags := 26, nameIndex := 1121, descriptorIndex := 1122, attributes := #[] }, { accessFlags := 25, nameIndex := 599, descriptorIndex := 600, attributes := #[] }, { accessFlags := 24, nameIndex := 1125, descriptorIndex := 18, attributes := #[] }, { accessFlags := 24, nameIndex := 1127, descriptorIndex := 18, attributes := #[] }])
  fields := #[{ name := "value", type := (.array .byte), accessFlags := 18, slot := 0, constantValue := 0 }, { name := "coder", type := .byte, accessFlags := 18, slot := 1, constantValue := 0 }, { name := "hash", type := .int, accessFlags := 2, slot := 2, constantValue := 0 }, { name := "hashIsZero", type := .boolean, accessFlags := 2, slot := 3, constantValue := 0 }, { name := "serialVersionUID", type := .long, accessFlags := 26, slot := 0, constantValue := 0 }, { name := "COMPACT_STRINGS", type := .boolean, accessFlags := 24, slot := 1, constantValue := 0 }, { name := "serialPersistentFields", type := (.array (.object "java/io/ObjectStreamField")), accessFlags := 26, slot := 2, constantValue := 0 }, { name := "REPL", type := .char, accessFlags := 26, slot := 3, constantValue := 0 }, { name := "CASE_INSENSITIVE_ORDER", type := (.object "java/util/Comparator"), accessFlags := 25, slot := 4, constantValue := 0 }, { name := "LATIN1", type := .byte, accessFlags := 24, slot := 5, constantValue := 0 }, { name := "UTF16", type := .byte, accessFlags := 24, slot := 6, constantValue := 0 }]
  methods := #[k8m0, k8m1, k8m2, k8m3, k8m4, k8m5]
  instanceTypes := #[(.array .byte), .byte, .int, .boolean]
  staticTypes := #[.long, .boolean, (.array (.object "java/io/ObjectStreamField")), .char, (.object "java/util/Comparator"), .byte, .byte]
  resolved := Array.replicate 1451 none
  statics := some 0 }

def pool9 : Array CpInfo := pool [(4, .class_ 6), (1, u "java/lang/Object"), (0, u "<init>"), (0, u "()V"), (5, .class_ 16), (1, u "java/lang/StringLatin1"), (21, .methodref 39 40), (0, .class_ 41), (0, .nameAndType 42 43), (0, u "java/lang/Math"), (0, u "min"), (0, u "(II)I"), (44, .methodref 14 89), (0, .nameAndType 90 91), (0, u "canEncode"), (0, u "(I)Z"), (0, .methodref 39 93), (0, .nameAndType 94 43), (0, u "max"), (0, .methodref 14 96), (0, .nameAndType 97 98), (0, u "indexOfChar"), (0, u "([BIII)I"), (2, u "indexOf"), (19, u "$assertionsDisabled"), (0, u "Z"), (98, .class_ 223), (1, u "java/lang/StringLatin1$LinesSpliterator"), (166, .class_ 391), (0, u "java/lang/StringLatin1$CharsSpliterator")] 3

def k9m0 : Method := { name := "<init>", desc := "()V", sig := { parameters := [], returnType := none }, accessFlags := 0, code := none }
def k9c1 : Code := { maxStack := 2, maxLocals := 1, code := jdk_43_method_4_code, exceptionTable := #[], attributes := #[] }
def k9m1 : Method := { name := "canEncode", desc := "(I)Z", sig := { parameters := [.int], returnType := some .boolean }, accessFlags := 9, code := some k9c1 }
def k9c2 : Code := { maxStack := 4, maxLocals := 4, code := jdk_43_method_22_code, exceptionTable := #[], attributes := #[] }
def k9m2 : Method := { name := "indexOf", desc := "([BIII)I", sig := { parameters := [(.array .byte), .int, .int, .int], returnType := some .int }, accessFlags := 9, code := some k9c2 }
def k9c3 : Code := { maxStack := 2, maxLocals := 6, code := jdk_43_method_23_code, exceptionTable := #[], attributes := #[] }
def k9m3 : Method := { name := "indexOfChar", desc := "([BIII)I", sig := { parameters := [(.array .byte), .int, .int, .int], returnType := some .int }, accessFlags := 10, code := some k9c3 }
/-- java/lang/StringLatin1 -/
def k9 : Class := { plain "java/lang/StringLatin1" (some 0) with
  accessFlags := 48
  interfaces := #[]
  cf := some (fileOf pool9 14 #[.nestMembers #[390, 221]] #[{ accessFlags := 0, nameIndex := 7, descriptorIndex := 8, attributes := #[] }, { accessFlags := 9, nameIndex := 90, descriptorIndex := 91, attributes := #[] }, { accessFlags := 9, nameIndex := 101, descriptorIndex := 98, attributes := #[] }, { accessFlags := 10, nameIndex := 97, descriptorIndex := 98, attributes := #[] }] 48 4 #[] #[{ accessFlags := 4120, nameIndex := 121, descriptorIndex := 122, attributes := #[] }])
  fields := #[{ name := "$assertionsDisabled", type := .boolean, accessFlags := 4120, slot := 0, constantValue := 0 }]
  methods := #[k9m0, k9m1, k9m2, k9m3]
  instanceTypes := #[]
  staticTypes := #[.boolean]
  resolved := Array.replicate 395 none
  statics := none }

def pool10 : Array CpInfo := pool [(1, .class_ 2), (0, u "java/lang/Math"), (1, .class_ 6), (1, u "java/lang/Object"), (0, u "<init>"), (0, u "()V"), (89, .class_ 100), (1, u "java/lang/Math$RandomNumberGeneratorHolder"), (71, u "negativeZeroFloatBits"), (0, u "J"), (2, u "negativeZeroDoubleBits"), (21, u "max"), (2, u "min"), (43, u "$assertionsDisabled"), (0, u "Z"), (88, u "(II)I"), (2, u "twoToTheDoubleScaleDown"), (0, u "D"), (4, u "twoToTheDoubleScaleUp"), (9, u "E"), (3, u "PI"), (2, u "TAU"), (2, u "DEGREES_TO_RADIANS"), (0, u "RADIANS_TO_DEGREES")] 94

def k10m0 : Method := { name := "<init>", desc := "()V", sig := { parameters := [], returnType := none }, accessFlags := 2, code := none }
def k10c1 : Code := { maxStack := 2, maxLocals := 2, code := jdk_29_method_65_code, exceptionTable := #[], attributes := #[] }
def k10m1 : Method := { name := "max", desc := "(II)I", sig := { parameters := [.int, .int], returnType := some .int }, accessFlags := 9, code := some k10c1 }
def k10c2 : Code := { maxStack := 2, maxLocals := 2, code := jdk_29_method_69_code, exceptionTable := #[], attributes := #[] }
def k10m2 : Method := { name := "min", desc := "(II)I", sig := { parameters := [.int, .int], returnType := some .int }, accessFlags := 9, code := some k10c2 }
/-- java/lang/Math -/
def k10 : Class := { plain "java/lang/Math" (some 0) with
  accessFlags := 49
  interfaces := #[]
  cf := some (fileOf pool10 1 #[.nestMembers #[98]] #[{ accessFlags := 2, nameIndex := 7, descriptorIndex := 8, attributes := #[] }, { accessFlags := 9, nameIndex := 198, descriptorIndex := 335, attributes := #[] }, { accessFlags := 9, nameIndex := 201, descriptorIndex := 335, attributes := #[] }] 49 4 #[] #[{ accessFlags := 25, nameIndex := 354, descriptorIndex := 339, attributes := #[] }, { accessFlags := 25, nameIndex := 358, descriptorIndex := 339, attributes := #[] }, { accessFlags := 25, nameIndex := 361, descriptorIndex := 339, attributes := #[] }, { accessFlags := 26, nameIndex := 364, descriptorIndex := 339, attributes := #[] }, { accessFlags := 26, nameIndex := 365, descriptorIndex := 339, attributes := #[] }, { accessFlags := 26, nameIndex := 172, descriptorIndex := 173, attributes := #[] }, { accessFlags := 26, nameIndex := 176, descriptorIndex := 173, attributes := #[] }, { accessFlags := 8, nameIndex := 344, descriptorIndex := 339, attributes := #[] }, { accessFlags := 8, nameIndex := 338, descriptorIndex := 339, attributes := #[] }, { accessFlags := 4120, nameIndex := 245, descriptorIndex := 246, attributes := #[] }])
  fields := #[{ name := "E", type := .double, accessFlags := 25, slot := 0, constantValue := 0 }, { name := "PI", type := .double, accessFlags := 25, slot := 1, constantValue := 0 }, { name := "TAU", type := .double, accessFlags := 25, slot := 2, constantValue := 0 }, { name := "DEGREES_TO_RADIANS", type := .double, accessFlags := 26, slot := 3, constantValue := 0 }, { name := "RADIANS_TO_DEGREES", type := .double, accessFlags := 26, slot := 4, constantValue := 0 }, { name := "negativeZeroFloatBits", type := .long, accessFlags := 26, slot := 5, constantValue := 0 }, { name := "negativeZeroDoubleBits", type := .long, accessFlags := 26, slot := 6, constantValue := 0 }, { name := "twoToTheDoubleScaleUp", type := .double, accessFlags := 8, slot := 7, constantValue := 0 }, { name := "twoToTheDoubleScaleDown", type := .double, accessFlags := 8, slot := 8, constantValue := 0 }, { name := "$assertionsDisabled", type := .boolean, accessFlags := 4120, slot := 9, constantValue := 0 }]
  methods := #[k10m0, k10m1, k10m2]
  instanceTypes := #[]
  staticTypes := #[.double, .double, .double, .double, .double, .long, .long, .double, .double, .boolean]
  resolved := Array.replicate 460 none
  statics := none }

def pool11 : Array CpInfo := pool [(2, .class_ 4), (1, u "java/lang/Object"), (0, u "<init>"), (0, u "()V"), (17, .class_ 26), (1, u "jdk/internal/util/Preconditions"), (28, .class_ 56), (0, u "jdk/internal/util/Preconditions$4"), (57, .class_ 115), (0, u "jdk/internal/util/Preconditions$1"), (7, u "SIOOBE_FORMATTER"), (0, u "Ljava/util/function/BiFunction;"), (0, .class_ 126), (0, u "jdk/internal/util/Preconditions$2"), (3, u "AIOOBE_FORMATTER"), (0, .class_ 132), (0, u "jdk/internal/util/Preconditions$3"), (3, u "IOOBE_FORMATTER")] 57

def k11m0 : Method := { name := "<init>", desc := "()V", sig := { parameters := [], returnType := none }, accessFlags := 1, code := none }
/-- jdk/internal/util/Preconditions -/
def k11 : Class := { plain "jdk/internal/util/Preconditions" (some 0) with
  accessFlags := 33
  interfaces := #[]
  cf := some (fileOf pool11 24 #[.nestMembers #[55, 131, 125, 114]] #[{ accessFlags := 1, nameIndex := 5, descriptorIndex := 6, attributes := #[] }] 33 2 #[] #[{ accessFlags := 25, nameIndex := 123, descriptorIndex := 124, attributes := #[] }, { accessFlags := 25, nameIndex := 130, descriptorIndex := 124, attributes := #[] }, { accessFlags := 25, nameIndex := 136, descriptorIndex := 124, attributes := #[] }])
  fields := #[{ name := "SIOOBE_FORMATTER", type := (.object "java/util/function/BiFunction"), accessFlags := 25, slot := 0, constantValue := 0 }, { name := "AIOOBE_FORMATTER", type := (.object "java/util/function/BiFunction"), accessFlags := 25, slot := 1, constantValue := 0 }, { name := "IOOBE_FORMATTER", type := (.object "java/util/function/BiFunction"), accessFlags := 25, slot := 2, constantValue := 0 }]
  methods := #[k11m0]
  instanceTypes := #[]
  staticTypes := #[(.object "java/util/function/BiFunction"), (.object "java/util/function/BiFunction"), (.object "java/util/function/BiFunction")]
  resolved := Array.replicate 194 none
  statics := some 1 }

def pool12 : Array CpInfo := pool [(9, u "<init>"), (6, .class_ 18), (1, u "java/lang/Object"), (0, u "()V"), (1, .class_ 23), (1, u "jdk/internal/util/ArraysSupport"), (0, u "LOG2_ARRAY_LONG_INDEX_SCALE"), (0, u "I"), (2, u "U"), (0, u "Ljdk/internal/misc/Unsafe;"), (8, u "BIG_ENDIAN"), (0, u "Z"), (8, u "LOG2_BYTE_BIT_SIZE"), (4, u "LOG2_ARRAY_INT_INDEX_SCALE"), (54, u "JLA"), (0, u "Ljdk/internal/access/JavaLangAccess;"), (11, u "LOG2_ARRAY_BOOLEAN_INDEX_SCALE"), (9, u "LOG2_ARRAY_BYTE_INDEX_SCALE"), (5, u "LOG2_ARRAY_CHAR_INDEX_SCALE"), (5, u "LOG2_ARRAY_SHORT_INDEX_SCALE"), (18, u "LOG2_ARRAY_FLOAT_INDEX_SCALE"), (24, u "LOG2_ARRAY_DOUBLE_INDEX_SCALE"), (89, u "T_BOOLEAN"), (2, u "T_CHAR"), (1, u "T_FLOAT"), (1, u "T_DOUBLE"), (1, u "T_BYTE"), (1, u "T_SHORT"), (1, u "T_INT"), (1, u "T_LONG"), (1, u "SOFT_MAX_ARRAY_LENGTH")] 83

def k12m0 : Method := { name := "<init>", desc := "()V", sig := { parameters := [], returnType := none }, accessFlags := 2, code := none }
/-- jdk/internal/util/ArraysSupport -/
def k12 : Class := { plain "jdk/internal/util/ArraysSupport" (some 0) with
  accessFlags := 33
  interfaces := #[]
  cf := some (fileOf pool12 21 #[] #[{ accessFlags := 2, nameIndex := 9, descriptorIndex := 19, attributes := #[] }] 33 16 #[] #[{ accessFlags := 24, nameIndex := 28, descriptorIndex := 29, attributes := #[] }, { accessFlags := 26, nameIndex := 38, descriptorIndex := 39, attributes := #[] }, { accessFlags := 25, nameIndex := 121, descriptorIndex := 25, attributes := #[] }, { accessFlags := 25, nameIndex := 131, descriptorIndex := 25, attributes := #[] }, { accessFlags := 25, nameIndex := 137, descriptorIndex := 25, attributes := #[] }, { accessFlags := 25, nameIndex := 143, descriptorIndex := 25, attributes := #[] }, { accessFlags := 25, nameIndex := 53, descriptorIndex := 25, attributes := #[] }, { accessFlags := 25, nameIndex := 24, descriptorIndex := 25, attributes := #[] }, { accessFlags := 25, nameIndex := 162, descriptorIndex := 25, attributes := #[] }, { accessFlags := 25, nameIndex := 187, descriptorIndex := 25, attributes := #[] }, { accessFlags := 26, nameIndex := 48, descriptorIndex := 25, attributes := #[] }, { accessFlags := 25, nameIndex := 277, descriptorIndex := 25, attributes := #[] }, { accessFlags := 25, nameIndex := 280, descriptorIndex := 25, attributes := #[] }, { accessFlags := 25, nameIndex := 282, descriptorIndex := 25, attributes := #[] }, { accessFlags := 25, nameIndex := 284, descriptorIndex := 25, attributes := #[] }, { accessFlags := 25, nameIndex := 286, descriptorIndex := 25, attributes := #[] }, { accessFlags := 25, nameIndex := 288, descriptorIndex := 25, attributes := #[] }, { accessFlags := 25, nameIndex := 290, descriptorIndex := 25, attributes := #[] }, { accessFlags := 25, nameIndex := 292, descriptorIndex := 25, attributes := #[] }, { accessFlags := 26, nameIndex := 108, descriptorIndex := 109, attributes := #[] }, { accessFlags := 25, nameIndex := 294, descriptorIndex := 25, attributes := #[] }])
  fields := #[{ name := "U", type := (.object "jdk/internal/misc/Unsafe"), accessFlags := 24, slot := 0, constantValue := 0 }, { name := "BIG_ENDIAN", type := .boolean, accessFlags := 26, slot := 1, constantValue := 0 }, { name := "LOG2_ARRAY_BOOLEAN_INDEX_SCALE", type := .int, accessFlags := 25, slot := 2, constantValue := 0 }, { name := "LOG2_ARRAY_BYTE_INDEX_SCALE", type := .int, accessFlags := 25, slot := 3, constantValue := 0 }, { name := "LOG2_ARRAY_CHAR_INDEX_SCALE", type := .int, accessFlags := 25, slot := 4, constantValue := 0 }, { name := "LOG2_ARRAY_SHORT_INDEX_SCALE", type := .int, accessFlags := 25, slot := 5, constantValue := 0 }, { name := "LOG2_ARRAY_INT_INDEX_SCALE", type := .int, accessFlags := 25, slot := 6, constantValue := 0 }, { name := "LOG2_ARRAY_LONG_INDEX_SCALE", type := .int, accessFlags := 25, slot := 7, constantValue := 0 }, { name := "LOG2_ARRAY_FLOAT_INDEX_SCALE", type := .int, accessFlags := 25, slot := 8, constantValue := 0 }, { name := "LOG2_ARRAY_DOUBLE_INDEX_SCALE", type := .int, accessFlags := 25, slot := 9, constantValue := 0 }, { name := "LOG2_BYTE_BIT_SIZE", type := .int, accessFlags := 26, slot := 10, constantValue := 0 }, { name := "T_BOOLEAN", type := .int, accessFlags := 25, slot := 11, constantValue := 0 }, { name := "T_CHAR", type := .int, accessFlags := 25, slot := 12, constantValue := 0 }, { name := "T_FLOAT", type := .int, accessFlags := 25, slot := 13, constantValue := 0 }, { name := "T_DOUBLE", type := .int, accessFlags := 25, slot := 14, constantValue := 0 }, { name := "T_BYTE", type := .int, accessFlags := 25, slot := 15, constantValue := 0 }, { name := "T_SHORT", type := .int, accessFlags := 25, slot := 16, constantValue := 0 }, { name := "T_INT", type := .int, accessFlags := 25, slot := 17, constantValue := 0 }, { name := "T_LONG", type := .int, accessFlags := 25, slot := 18, constantValue := 0 }, { name := "JLA", type := (.object "jdk/internal/access/JavaLangAccess"), accessFlags := 26, slot := 19, constantValue := 0 }, { name := "SOFT_MAX_ARRAY_LENGTH", type := .int, accessFlags := 25, slot := 20, constantValue := 0 }]
  methods := #[k12m0]
  instanceTypes := #[]
  staticTypes := #[(.object "jdk/internal/misc/Unsafe"), .boolean, .int, .int, .int, .int, .int, .int, .int, .int, .int, .int, .int, .int, .int, .int, .int, .int, .int, (.object "jdk/internal/access/JavaLangAccess"), .int]
  resolved := Array.replicate 378 none
  statics := none }

def pool13 : Array CpInfo := pool [(1, u "java/lang/Cloneable"), (0, .class_ 1), (0, u "java/lang/Object"), (0, .class_ 3)] 3

/-- java/lang/Cloneable -/
def k13 : Class := { plain "java/lang/Cloneable" (some 0) with
  accessFlags := 1537
  interfaces := #[]
  cf := some (fileOf pool13 2 #[] #[] 1537 4 #[] #[])
  fields := #[]
  methods := #[]
  instanceTypes := #[]
  staticTypes := #[]
  resolved := Array.replicate 8 none
  statics := none }

/-- the primitive byte -/
def k14 : Class := { plain "byte" none with kind := .primitive 'B', accessFlags := 0x411 }
/-- [B -/
def k15 : Class := { plain "[B" (some 0) with kind := .array 14 .byte, interfaces := #[13, 3], accessFlags := 1041 }

/-- the primitive int -/
def k16 : Class := { plain "int" none with kind := .primitive 'I', accessFlags := 0x411 }
/-- [I -/
def k17 : Class := { plain "[I" (some 0) with kind := .array 16 .int, interfaces := #[13, 3], accessFlags := 1041 }

def heap : Heap := #[{ cls := 8, slots := #[.long 0, .int 1, .null, .int 0, .null, .int 0, .int 0], vm := .statics 8 },
  { cls := 11, slots := #[.null, .null, .null], vm := .statics 11 }]
def classes : Array Class := #[k0, k1, k2, k3, k4, k5, k6, k7, k8, k9, k10, k11, k12, k13, k14, k15, k16, k17]
def interned : List (Array UInt16 × Addr) := []
def slotsUsed : Nat := 10
def theMethod : MethodId := ⟨1, 1⟩
def args0 : Array Value := #[.int 5]
def aboutOver (below : List Frame) : State where
  vm := { classes := classes, interned := interned.toArray }
  heap := heap
  slotsUsed := slotsUsed
  threads := #[{ frames := .invoking theMethod args0 :: below }]
def below0 : List Frame := [.native { method := ⟨0, 0⟩, args := #[] }]
def about1 : State := aboutOver below0
def p0 : Program := .bare "" "" ""
def e0 : Env := launch0.env 0 0 0
theorem w_frames : about1.frames = Frame.invoking theMethod args0 :: below0 := rfl
set_option maxRecDepth 65536 in
theorem w_args : argsFit about1.vm theMethod args0 = true := by decide +kernel
set_option maxRecDepth 65536 in
theorem w_heap : heapFits about1 = true := by decide +kernel
set_option maxRecDepth 65536 in
theorem w_runnable : about1.curStatus? = some .runnable := by decide +kernel
set_option maxRecDepth 65536 in
theorem w_alone : about1.alone = true := by decide +kernel
set_option maxRecDepth 65536 in
theorem w_named : about1.methodNamed? x = some theMethod := by decide +kernel
set_option maxRecDepth 65536 in
theorem w_hears : about1.hears theMethod below0 = true := by decide +kernel
set_option maxRecDepth 65536 in
theorem w_ripe : about1.ripe theMethod args0 below0 = true := by decide +kernel
theorem w_running : about1.status = .running := rfl
set_option maxRecDepth 65536 in
theorem w_room : about1.hasRoom e0.platform room_1 = true :=
  launch0.hasRoom_least _ room_1 (by decide +kernel) (by decide +kernel) (by decide +kernel) (by decide +kernel) (by decide +kernel) (by decide +kernel)
theorem allAtoms_all (ts : List Jvm.Cond) (a : Array Jvm.Value) (st : Jvm.State) : (allAtoms ts).before a st = ts.all (fun c => c.before a st) := by
  induction ts with
  | nil => rfl
  | cons c t ih =>
    show (Jvm.Cond.and c (allAtoms t)).before a st = _
    rw [Jvm.Cond.before_and, ih, List.all_cons]
def words1 : List Jvm.Cond := Jvm.Cond.code x code maxLocals ret :: tables_1
/-- a 'code' word, met by the world's own term for the bytes: nothing is compared byte by byte -/
theorem code_word {y : MethodName} {bytes : ByteArray} {mx : Nat} {rt : Option FieldType} {a : Array Value} {s : State} {m : MethodId} {meth : Method} {c : Code} (h1 : s.methodNamed? y = some m) (h2 : s.vm.method? m = some meth) (h3 : meth.code = some c) (h4 : c.code = bytes)
    (h5 : (c.maxLocals == mx && c.exceptionTable.isEmpty && decide (c.maxStack ≤ mostOperands) && decide (meth.sig.returnType = rt) && !meth.locks && decide (parseMethodDescriptor y.desc = some meth.sig)) = true) : (Jvm.Cond.code y bytes mx rt).before a s = true := by
  simp only [Bool.and_eq_true, beq_iff_eq, Bool.not_eq_true', decide_eq_true_eq] at h5
  obtain ⟨⟨⟨⟨⟨g1, g2⟩, g3⟩, g4⟩, g5⟩, g6⟩ := h5
  simp [Cond.before, Cond.holds, Cond.value, h1, h2, h3, h4, g1, g2, g3, g4, g5, g6]
def isCode : Jvm.Cond → Bool
  | .code _ _ _ _ => true
  | _ => false
theorem all_split {L : List Jvm.Cond} {P : Jvm.Cond → Bool} (h1 : L.all (fun c => isCode c || P c) = true) (h2 : ∀ c ∈ L.filter isCode, P c = true) : L.all P = true := by
  refine List.all_eq_true.mpr fun c hc => ?_
  have h := List.all_eq_true.mp h1 c hc
  rcases Bool.eq_false_or_eq_true (isCode c) with hi | hi
  · exact h2 c (List.mem_filter.mpr ⟨hc, hi⟩)
  · simpa [hi] using h
set_option maxRecDepth 65536 in
theorem w_c0 : (Jvm.Cond.code x code maxLocals ret).before args0 about1 = true := code_word (m := ⟨1, 1⟩) (meth := k1m1) (c := k1c1) (by decide +kernel) rfl rfl rfl (by decide +kernel)
set_option maxRecDepth 65536 in
theorem w_c1 : (Jvm.Cond.code ({ cls := "com/example/path_template_matcher/pathtemplatematcher/PercentEncoding", name := "isUnreserved", desc := "(C)Z" } : Jvm.MethodName) prog_26_method_4_code (2 : Nat) (Option.some Jvm.ClassFile.FieldType.boolean)).before args0 about1 = true := code_word (m := ⟨2, 1⟩) (meth := k2m1) (c := k2c1) (by decide +kernel) rfl rfl rfl (by decide +kernel)
set_option maxRecDepth 65536 in
theorem w_c2 : (Jvm.Cond.code ({ cls := "java/lang/String", name := "indexOf", desc := "(I)I" } : Jvm.MethodName) jdk_42_method_79_code (2 : Nat) (Option.some Jvm.ClassFile.FieldType.int)).before args0 about1 = true := code_word (m := ⟨8, 2⟩) (meth := k8m2) (c := k8c2) (by decide +kernel) rfl rfl rfl (by decide +kernel)
set_option maxRecDepth 65536 in
theorem w_c3 : (Jvm.Cond.code ({ cls := "java/lang/String", name := "indexOf", desc := "(II)I" } : Jvm.MethodName) jdk_42_method_80_code (3 : Nat) (Option.some Jvm.ClassFile.FieldType.int)).before args0 about1 = true := code_word (m := ⟨8, 3⟩) (meth := k8m3) (c := k8c3) (by decide +kernel) rfl rfl rfl (by decide +kernel)
set_option maxRecDepth 65536 in
theorem w_c4 : (Jvm.Cond.code ({ cls := "java/lang/String", name := "isLatin1", desc := "()Z" } : Jvm.MethodName) jdk_42_method_154_code (1 : Nat) (Option.some Jvm.ClassFile.FieldType.boolean)).before args0 about1 = true := code_word (m := ⟨8, 5⟩) (meth := k8m5) (c := k8c5) (by decide +kernel) rfl rfl rfl (by decide +kernel)
set_option maxRecDepth 65536 in
theorem w_c5 : (Jvm.Cond.code ({ cls := "java/lang/String", name := "length", desc := "()I" } : Jvm.MethodName) jdk_42_method_54_code (1 : Nat) (Option.some Jvm.ClassFile.FieldType.int)).before args0 about1 = true := code_word (m := ⟨8, 1⟩) (meth := k8m1) (c := k8c1) (by decide +kernel) rfl rfl rfl (by decide +kernel)
set_option maxRecDepth 65536 in
theorem w_c6 : (Jvm.Cond.code ({ cls := "java/lang/String", name := "coder", desc := "()B" } : Jvm.MethodName) jdk_42_method_152_code (1 : Nat) (Option.some Jvm.ClassFile.FieldType.byte)).before args0 about1 = true := code_word (m := ⟨8, 4⟩) (meth := k8m4) (c := k8c4) (by decide +kernel) rfl rfl rfl (by decide +kernel)
set_option maxRecDepth 65536 in
theorem w_c7 : (Jvm.Cond.code ({ cls := "java/lang/StringLatin1", name := "indexOf", desc := "([BIII)I" } : Jvm.MethodName) jdk_43_method_22_code (4 : Nat) (Option.some Jvm.ClassFile.FieldType.int)).before args0 about1 = true := code_word (m := ⟨9, 2⟩) (meth := k9m2) (c := k9c2) (by decide +kernel) rfl rfl rfl (by decide +kernel)
set_option maxRecDepth 65536 in
theorem w_c8 : (Jvm.Cond.code ({ cls := "java/lang/StringLatin1", name := "canEncode", desc := "(I)Z" } : Jvm.MethodName) jdk_43_method_4_code (1 : Nat) (Option.some Jvm.ClassFile.FieldType.boolean)).before args0 about1 = true := code_word (m := ⟨9, 1⟩) (meth := k9m1) (c := k9c1) (by decide +kernel) rfl rfl rfl (by decide +kernel)
set_option maxRecDepth 65536 in
theorem w_c9 : (Jvm.Cond.code ({ cls := "java/lang/Math", name := "max", desc := "(II)I" } : Jvm.MethodName) jdk_29_method_65_code (2 : Nat) (Option.some Jvm.ClassFile.FieldType.int)).before args0 about1 = true := code_word (m := ⟨10, 1⟩) (meth := k10m1) (c := k10c1) (by decide +kernel) rfl rfl rfl (by decide +kernel)
set_option maxRecDepth 65536 in
theorem w_c10 : (Jvm.Cond.code ({ cls := "java/lang/Math", name := "min", desc := "(II)I" } : Jvm.MethodName) jdk_29_method_69_code (2 : Nat) (Option.some Jvm.ClassFile.FieldType.int)).before args0 about1 = true := code_word (m := ⟨10, 2⟩) (meth := k10m2) (c := k10c2) (by decide +kernel) rfl rfl rfl (by decide +kernel)
set_option maxRecDepth 65536 in
theorem w_c11 : (Jvm.Cond.code ({ cls := "java/lang/StringLatin1", name := "indexOfChar", desc := "([BIII)I" } : Jvm.MethodName) jdk_43_method_23_code (6 : Nat) (Option.some Jvm.ClassFile.FieldType.int)).before args0 about1 = true := code_word (m := ⟨9, 3⟩) (meth := k9m3) (c := k9c3) (by decide +kernel) rfl rfl rfl (by decide +kernel)
def codes1 : List Jvm.Cond := [Jvm.Cond.code x code maxLocals ret, Jvm.Cond.code ({ cls := "com/example/path_template_matcher/pathtemplatematcher/PercentEncoding", name := "isUnreserved", desc := "(C)Z" } : Jvm.MethodName) prog_26_method_4_code (2 : Nat) (Option.some Jvm.ClassFile.FieldType.boolean), Jvm.Cond.code ({ cls := "java/lang/String", name := "indexOf", desc := "(I)I" } : Jvm.MethodName) jdk_42_method_79_code (2 : Nat) (Option.some Jvm.ClassFile.FieldType.int), Jvm.Cond.code ({ cls := "java/lang/String", name := "indexOf", desc := "(II)I" } : Jvm.MethodName) jdk_42_method_80_code (3 : Nat) (Option.some Jvm.ClassFile.FieldType.int), Jvm.Cond.code ({ cls := "java/lang/String", name := "isLatin1", desc := "()Z" } : Jvm.MethodName) jdk_42_method_154_code (1 : Nat) (Option.some Jvm.ClassFile.FieldType.boolean), Jvm.Cond.code ({ cls := "java/lang/String", name := "length", desc := "()I" } : Jvm.MethodName) jdk_42_method_54_code (1 : Nat) (Option.some Jvm.ClassFile.FieldType.int), Jvm.Cond.code ({ cls := "java/lang/String", name := "coder", desc := "()B" } : Jvm.MethodName) jdk_42_method_152_code (1 : Nat) (Option.some Jvm.ClassFile.FieldType.byte), Jvm.Cond.code ({ cls := "java/lang/StringLatin1", name := "indexOf", desc := "([BIII)I" } : Jvm.MethodName) jdk_43_method_22_code (4 : Nat) (Option.some Jvm.ClassFile.FieldType.int), Jvm.Cond.code ({ cls := "java/lang/StringLatin1", name := "canEncode", desc := "(I)Z" } : Jvm.MethodName) jdk_43_method_4_code (1 : Nat) (Option.some Jvm.ClassFile.FieldType.boolean), Jvm.Cond.code ({ cls := "java/lang/Math", name := "max", desc := "(II)I" } : Jvm.MethodName) jdk_29_method_65_code (2 : Nat) (Option.some Jvm.ClassFile.FieldType.int), Jvm.Cond.code ({ cls := "java/lang/Math", name := "min", desc := "(II)I" } : Jvm.MethodName) jdk_29_method_69_code (2 : Nat) (Option.some Jvm.ClassFile.FieldType.int), Jvm.Cond.code ({ cls := "java/lang/StringLatin1", name := "indexOfChar", desc := "([BIII)I" } : Jvm.MethodName) jdk_43_method_23_code (6 : Nat) (Option.some Jvm.ClassFile.FieldType.int)]
set_option maxRecDepth 65536 in
theorem codes_eq : words1.filter isCode = codes1 := rfl
theorem w_codes : ∀ c ∈ words1.filter isCode, c.before args0 about1 = true := by
  rw [codes_eq]
  intro c hc
  simp only [codes1, List.mem_cons, List.not_mem_nil, or_false] at hc
  rcases hc with rfl | rfl | rfl | rfl | rfl | rfl | rfl | rfl | rfl | rfl | rfl | rfl
  · exact w_c0
  · exact w_c1
  · exact w_c2
  · exact w_c3
  · exact w_c4
  · exact w_c5
  · exact w_c6
  · exact w_c7
  · exact w_c8
  · exact w_c9
  · exact w_c10
  · exact w_c11
set_option maxRecDepth 65536 in
theorem w_t1 : (words1.take 24).all (fun c => isCode c || c.before args0 about1) = true := by decide +kernel
set_option maxRecDepth 65536 in
theorem w_t2 : ((words1.drop 24).take 24).all (fun c => isCode c || c.before args0 about1) = true := by decide +kernel
set_option maxRecDepth 65536 in
theorem w_t3 : ((words1.drop 24).drop 24).all (fun c => isCode c || c.before args0 about1) = true := by decide +kernel
theorem w_tables : (allAtoms (Jvm.Cond.code x code maxLocals ret :: tables_1)).before args0 about1 = true := by
  rw [allAtoms_all]
  show words1.all (fun c => c.before args0 about1) = true
  refine all_split ?_ w_codes
  rw [← List.take_append_drop 24 words1, List.all_append, w_t1, ← List.take_append_drop 24 (words1.drop 24), List.all_append, w_t2, w_t3]
  rfl
set_option maxRecDepth 65536 in
theorem w_rest : rest_1_c.before args0 about1 = true := by decide +kernel
set_option maxRecDepth 65536 in
theorem w_case : (Jvm.Cond.and given_1 narrow_1).before args0 about1 = true := by decide +kernel
set_option maxRecDepth 65536 in
theorem w_consts : constsHeld consts_1 about1 := Jvm.Lit.constsHeldB_iff.mp (by decide +kernel)
theorem w_applies : (headSpec (Jvm.Cond.code x code maxLocals ret :: tables_1) room_1).applies x e0.platform about1 = true :=
  (Spec.applies_iff w_frames).mpr ⟨w_running, w_runnable, w_alone, w_named, w_hears, w_ripe, w_room, w_tables⟩
theorem atStart : AtStart classFile x code maxLocals ret World_1 tables_1 room_1 Calls_1 rest_1 Pre_1 launch0 p0 e0 about1 theMethod args0 below0 :=
  ⟨lists_1, trivial, launch0.admits_env _ _ _, launch0.least_env, fairChoices_fair.cas, fairChoices_fair.clock, w_frames, w_args, w_heap, w_applies, ⟨w_consts, trivial⟩, w_rest, w_case⟩
end start1
theorem witness_1 : WitnessClaimed_1 := ⟨start1.p0, start1.e0, start1.about1, start1.theMethod, start1.args0, start1.below0, start1.atStart⟩
end Jvm.Pilot.@@N@@
