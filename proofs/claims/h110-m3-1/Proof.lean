import JvmDerived
import JvmDerived.Pilot.@@N@@Statement
import JvmDerived.Pilot.@@N@@Code
set_option linter.unusedVariables false
set_option linter.unusedSimpArgs false
namespace Jvm.RoadKit
open Sem ClassFile Op Lib Jvm.Stand Jvm.Free Jvm.LawKit
section New
variable {p : Program} {l : Launch} {e : Env} {R : Room} {s : State} {m : MethodId} {args : Array Value} {below : List Frame} {meth : Method} {c : Code} {T : State} {locs : List Loc} {cells slots : Nat}
theorem retI (X : Stand p l e R s m args below meth c T locs cells slots) (hx : p.tables.exec = Jvm.exec) {pc : Nat} {Ls : Array Slot} {z : Int32} {rest : List Value} (hret : meth.sig.returnType = some .int) (hd : decode c.code pc = .ok (.ireturn, 1)) {fs : List Frame}
    (hl : ∀ (f : JFrame) (acts : List Action), f.method = m → f.locked = none → f.entered = [] → (doReturn e (T.setTop f) acts (some (.int z))).1 = T.setFrames fs) : Steps p.tables e below (T.setTop (mkF m pc Ls (.int z :: rest))) (T.setFrames fs) := by
  have hm' : T.vm.method? m = some meth := X.method'
  have hn : narrow .int (.int z) = .int z := rfl
  show Steps p.tables e below (T.setTop { method := m, pc := pc, locals := Ls, stack := _ :: rest, locked := none }) _
  jvm_step X.here [X.here.top, hx, hd, hm', hret, hn]
  first | (intro acts; rw [hl _ acts rfl rfl rfl]) | rw [hl _ _ rfl rfl rfl]
  exact Steps.refl _
end New
end Jvm.RoadKit
namespace Jvm.Pilot.@@N@@
open Jvm Jvm.ClassFile Sem Op Lib Jvm.Free Jvm.Stand Jvm.LawKit Jvm.RoadKit Bundle Jvm.Pilot.@@N@@.Jvm.D
theorem own_tlt {a b : Int32} {x y : Int} (ha : a.toInt = x) (hb : b.toInt = y) (h : x < y) : if_icmp.holds .lt a b = true ∧ if_icmp.holds .ge a b = false ∧ if_icmp.holds .gt b a = true ∧ if_icmp.holds .le b a = false := tlt (Int32.lt_iff_toInt_lt.mpr (by rw [ha, hb]; exact h))
theorem own_flt {a b : Int32} {x y : Int} (ha : a.toInt = x) (hb : b.toInt = y) (h : ¬ x < y) : if_icmp.holds .lt a b = false ∧ if_icmp.holds .ge a b = true ∧ if_icmp.holds .gt b a = false ∧ if_icmp.holds .le b a = true := flt (fun q => h (by rw [← ha, ← hb]; exact Int32.lt_iff_toInt_lt.mp q))
theorem own_teq {a b : Int32} {x y : Int} (ha : a.toInt = x) (hb : b.toInt = y) (h : x = y) : if_icmp.holds .eq a b = true ∧ if_icmp.holds .ne a b = false := teq (Int32.toInt_inj.mp (by rw [ha, hb]; exact h))
theorem own_feq {a b : Int32} {x y : Int} (ha : a.toInt = x) (hb : b.toInt = y) (h : ¬ x = y) : if_icmp.holds .eq a b = false ∧ if_icmp.holds .ne a b = true := feq (fun q => h (by rw [← ha, ← hb, q]))
theorem own_if {cd : ClassFile.Cond} {x : Int32} {b : Bool} (h : if_icmp.holds cd x 0 = b) : ifCond.holds cd x = b := (if0 cd x).trans h
theorem own_tltL {x y : Int64} {a b : Int} (ha : x.toInt = a) (hb : y.toInt = b) (h : a < b) : if_icmp.holds .lt (lcmpW x y) 0 = true ∧ if_icmp.holds .ge (lcmpW x y) 0 = false := have q := tlt ((lw_lt x y).mpr (Int64.lt_iff_toInt_lt.mpr (by rw [ha, hb]; exact h))); ⟨q.1, q.2.1⟩
theorem own_fltL {x y : Int64} {a b : Int} (ha : x.toInt = a) (hb : y.toInt = b) (h : ¬ a < b) : if_icmp.holds .lt (lcmpW x y) 0 = false ∧ if_icmp.holds .ge (lcmpW x y) 0 = true := have q := flt (fun w => h (by rw [← ha, ← hb]; exact Int64.lt_iff_toInt_lt.mp ((lw_lt x y).mp w))); ⟨q.1, q.2.1⟩
theorem own_tgtL {x y : Int64} {a b : Int} (ha : x.toInt = a) (hb : y.toInt = b) (h : b < a) : if_icmp.holds .gt (lcmpW x y) 0 = true ∧ if_icmp.holds .le (lcmpW x y) 0 = false := have q := tlt ((lw_gt x y).mpr (Int64.lt_iff_toInt_lt.mpr (by rw [ha, hb]; exact h))); ⟨q.2.2.1, q.2.2.2⟩
theorem own_fgtL {x y : Int64} {a b : Int} (ha : x.toInt = a) (hb : y.toInt = b) (h : ¬ b < a) : if_icmp.holds .gt (lcmpW x y) 0 = false ∧ if_icmp.holds .le (lcmpW x y) 0 = true := have q := flt (fun w => h (by rw [← ha, ← hb]; exact Int64.lt_iff_toInt_lt.mp ((lw_gt x y).mp w))); ⟨q.2.2.1, q.2.2.2⟩
theorem own_teqL {x y : Int64} {a b : Int} (ha : x.toInt = a) (hb : y.toInt = b) (h : a = b) : if_icmp.holds .eq (lcmpW x y) 0 = true ∧ if_icmp.holds .ne (lcmpW x y) 0 = false := teq ((lw_eq x y).mpr (Int64.toInt_inj.mp (by rw [ha, hb]; exact h)))
theorem own_feqL {x y : Int64} {a b : Int} (ha : x.toInt = a) (hb : y.toInt = b) (h : ¬ a = b) : if_icmp.holds .eq (lcmpW x y) 0 = false ∧ if_icmp.holds .ne (lcmpW x y) 0 = true := feq (fun w => h (by rw [← ha, ← hb, (lw_eq x y).mp w]))
theorem own_nar01 {r : Int32} (h : r.toInt = 0 ∨ r.toInt = 1) : (nar .boolean r).toInt = r.toInt := by
  have e : nar .boolean r = r &&& 1 := rfl
  rw [e]; have : (r &&& (1 : Int32)).toInt = r.toInt % 2 := c_mask r 1 1 (by decide) (by decide); omega
theorem own_sh0 (f : Int32) : (f.toUInt32 >>> ((0 : Int32) &&& 31).toUInt32).toInt32 = f := by
  have e : ((0 : Int32) &&& 31).toUInt32 = 0 := by decide
  rw [e]; simp
theorem d1_0 : decode method_2_code 0 = .ok (.iload_n 0, 1) := by decide +kernel
theorem d1_1 : decode method_2_code 1 = .ok (.iload_n 1, 1) := by decide +kernel
theorem d1_2 : decode method_2_code 2 = .ok (.iushr, 1) := by decide +kernel
theorem d1_3 : decode method_2_code 3 = .ok (.iconst 1, 1) := by decide +kernel
theorem d1_4 : decode method_2_code 4 = .ok (.iand, 1) := by decide +kernel
theorem d1_5 : decode method_2_code 5 = .ok (.ifCond .eq 7, 3) := by decide +kernel
theorem d1_8 : decode method_2_code 8 = .ok (.iconst 1, 1) := by decide +kernel
theorem d1_9 : decode method_2_code 9 = .ok (.goto 4, 3) := by decide +kernel
theorem d1_12 : decode method_2_code 12 = .ok (.iconst 0, 1) := by decide +kernel
theorem d1_13 : decode method_2_code 13 = .ok (.ireturn, 1) := by decide +kernel
theorem pn_0 : plainName "com/example/foreslot/foreslot/ScheduleStoppedPinLaw" = true := by first | (simp [plainName, overriddenIn]; done) | decide +kernel
theorem ef_rm1 (m : MethodId) (x0 : Int32) (x1 : Int32) : entryFrame m #[(.int x0), (.int x1)] 2 = mkF m 0 #[.val (.int x0), .val (.int x1)] [] := by first | (simp [entryFrame, mkF, argsToLocals, Value.category]; done) | rfl
def Q1 (Z : State) (vf : Int32) (vi : Int32) (h0 : Heap) (n0 : Nat) (v : Option Value) (h : Heap) (L : List Loc) : Prop := ∃ z : Int32, v = some (.int z) ∧ (z.toInt = ((vf.toUInt32 >>> (vi &&& 31).toUInt32).toInt32).toInt % 2) ∧ Fr n0 L ∧ h = h0
set_option maxRecDepth 65536 in
set_option maxHeartbeats 40000000 in
theorem rm1 (l : Launch) (Z : State) (a0 : Array Value) (hw : ∀ d ∈ tables_1, d.before a0 Z = true) (ws : List Jvm.Cond) (vf : Int32) (vi : Int32) (h0 : Heap) (n0 : Nat) (Z0 : n0 ≤ h0.size) :
    MetFree l (⟨"com/example/foreslot/foreslot/ScheduleStoppedPinLaw", "bit", "(II)Z"⟩ : MethodName) (head1 (Jvm.Cond.code (⟨"com/example/foreslot/foreslot/ScheduleStoppedPinLaw", "bit", "(II)Z"⟩ : MethodName) method_2_code 2 (some .boolean) :: ws) ({ frames := 0, cells := 0, slots := 0, locals := 0 } : Room)) (fun a U => a = #[(.int vf), (.int vi)] ∧ Z.Warmed39 U.vm ∧ U.heap = h0) (fun _ _ _ _ _ => True) (fun _ U o U' => ∃ v L, o = .returned v ∧ Q1 Z vf vi h0 n0 v U'.heap L ∧ FrameEnd U o U' L ({ frames := 0, cells := 0, slots := 0, locals := 0 } : Room).cells ({ frames := 0, cells := 0, slots := 0, locals := 0 } : Room).slots) := by
  refine MetFree.of_bodySF (plainFor_of_name pn_0) hisR ?_
  intro p e s m args below meth c s₁ Bd hml0 hP hK
  obtain ⟨rfl, hZ, hh⟩ := hP
  have hx := Bd.exec
  have hby := Bd.bytes
  have hml : c.maxLocals = 2 := hml0
  have hown : s.vm.findClass "com/example/foreslot/foreslot/ScheduleStoppedPinLaw" = some m.cls := findClass_of_methodNamed Bd.named
  have hnm := (name_of_methodNamed Bd.named Bd.method).1
  have X0 : Stand p l e ({ frames := 0, cells := 0, slots := 0, locals := 0 } : Room) s m #[(.int vf), (.int vi)] below meth c s₁ [] 0 0 := Stand.of_body Bd
  have e0 : s₁.heap = h0 := by rw [← hh, Bd.state]; rfl
  have N0 := Fr.nil n0
  have pre0 : ∀ t, Steps p.tables e below (s₁.setTop (mkF m 0 #[.val (.int vf), .val (.int vi)] [])) t → Steps p.tables e below (s₁.setTop (entryFrame m #[(.int vf), (.int vi)] 2)) t := fun t k => castTop (ef_rm1 m vf vi) k
  have pre2 : ∀ t, Steps p.tables e below (s₁.setTop (mkF m 5 #[.val (.int vf), .val (.int vi)] [(.int (((vf.toUInt32 >>> (vi &&& 31).toUInt32).toInt32) &&& (1 : Int32)))])) t → Steps p.tables e below (s₁.setTop (entryFrame m #[(.int vf), (.int vi)] 2)) t := fun t kt => by
    refine pre0 _ ?_
    refine XS.iloadN X0.here hx rfl (hb hby d1_0) rfl ?_
    refine XS.iloadN X0.here hx rfl (hb hby d1_1) rfl ?_
    refine XS.iushr X0.here hx rfl (hb hby d1_2) rfl ?_
    refine XS.iconst X0.here hx rfl (hb hby d1_3) ?_
    show Steps p.tables e below (s₁.setTop (mkF m 4 #[.val (.int vf), .val (.int vi)] [(.int (1 : Int32)), (.int ((vf.toUInt32 >>> (vi &&& 31).toUInt32).toInt32))])) _
    refine XS.iand X0.here hx rfl (hb hby d1_4) rfl ?_
    exact kt
  by_cases hc5_1 : (((vf.toUInt32 >>> (vi &&& 31).toUInt32).toInt32) &&& (1 : Int32)).toInt = (0 : Int)
  · obtain ⟨fs, hr, hrun, hended, hW, hsame⟩ := X0.leave (v := some (.int (0 : Int32))) (fun h => by rw [Bd.returns] at h; cases h)
    refine ⟨_, _, pre2 _ ?_, hrun, hended, _, _, rfl, ?_, ⟨_, rfl⟩, hW, hsame.mono (by decide) (by decide)⟩
    · show Steps p.tables e below (s₁.setTop (mkF m 5 #[.val (.int vf), .val (.int vi)] [(.int (((vf.toUInt32 >>> (vi &&& 31).toUInt32).toInt32) &&& (1 : Int32)))])) _
      refine XS.ifYes X0.here hx rfl (pc0 := 5) (pc' := 12) rfl (hb hby d1_5) rfl (own_if (own_teq (a := (((vf.toUInt32 >>> (vi &&& 31).toUInt32).toInt32) &&& (1 : Int32))) (b := (0 : Int32)) rfl (by decide) hc5_1).1) (by decide) (by decide) ?_
      refine XS.iconst X0.here hx rfl (hb hby d1_12) ?_
      exact retN X0 hx (t := .boolean) Bd.returns (by simp) (hb hby d1_13) hr
    · show Q1 Z vf vi h0 n0 _ s₁.heap _
      rw [e0]
      exact ⟨_, rfl, by have iv : ((0 : Int32)).toInt = (0 : Int) := (by decide); have : (((vf.toUInt32 >>> (vi &&& 31).toUInt32).toInt32) &&& (1 : Int32)).toInt = ((vf.toUInt32 >>> (vi &&& 31).toUInt32).toInt32).toInt % 2 := c_mask _ 1 1 (by decide) (by decide); omega, N0, rfl⟩
  · obtain ⟨fs, hr, hrun, hended, hW, hsame⟩ := X0.leave (v := some (.int (1 : Int32))) (fun h => by rw [Bd.returns] at h; cases h)
    refine ⟨_, _, pre2 _ ?_, hrun, hended, _, _, rfl, ?_, ⟨_, rfl⟩, hW, hsame.mono (by decide) (by decide)⟩
    · show Steps p.tables e below (s₁.setTop (mkF m 5 #[.val (.int vf), .val (.int vi)] [(.int (((vf.toUInt32 >>> (vi &&& 31).toUInt32).toInt32) &&& (1 : Int32)))])) _
      refine XS.ifNo X0.here hx rfl (hb hby d1_5) rfl (own_if (own_feq (a := (((vf.toUInt32 >>> (vi &&& 31).toUInt32).toInt32) &&& (1 : Int32))) (b := (0 : Int32)) rfl (by decide) hc5_1).1) ?_
      refine XS.iconst X0.here hx rfl (hb hby d1_8) ?_
      refine XS.goto X0.here hx rfl (pc0 := 9) (pc' := 13) rfl (hb hby d1_9) (by decide) (by decide) ?_
      show Steps p.tables e below (s₁.setTop (mkF m 13 #[.val (.int vf), .val (.int vi)] [(.int (1 : Int32))])) _
      exact retN X0 hx (t := .boolean) Bd.returns (by simp) (hb hby d1_13) hr
    · show Q1 Z vf vi h0 n0 _ s₁.heap _
      rw [e0]
      exact ⟨_, rfl, by have iv : ((1 : Int32)).toInt = (1 : Int) := (by decide); have : (((vf.toUInt32 >>> (vi &&& 31).toUInt32).toInt32) &&& (1 : Int32)).toInt = ((vf.toUInt32 >>> (vi &&& 31).toUInt32).toInt32).toInt % 2 := c_mask _ 1 1 (by decide) (by decide); omega, N0, rfl⟩
theorem d2_0 : decode method_3_code 0 = .ok (.iload_n 0, 1) := by decide +kernel
theorem d2_1 : decode method_3_code 1 = .ok (.iload_n 1, 1) := by decide +kernel
theorem d2_2 : decode method_3_code 2 = .ok (.invokestatic 7, 3) := by decide +kernel
theorem d2_5 : decode method_3_code 5 = .ok (.ifCond .eq 8, 3) := by decide +kernel
theorem d2_8 : decode method_3_code 8 = .ok (.iload_n 1, 1) := by decide +kernel
theorem d2_9 : decode method_3_code 9 = .ok (.i2l, 1) := by decide +kernel
theorem d2_10 : decode method_3_code 10 = .ok (.goto 6, 3) := by decide +kernel
theorem d2_13 : decode method_3_code 13 = .ok (.ldc2_w 15, 3) := by decide +kernel
theorem d2_16 : decode method_3_code 16 = .ok (.lreturn, 1) := by decide +kernel
theorem ef_rm2 (m : MethodId) (x0 : Int32) (x1 : Int32) : entryFrame m #[(.int x0), (.int x1)] 2 = mkF m 0 #[.val (.int x0), .val (.int x1)] [] := by first | (simp [entryFrame, mkF, argsToLocals, Value.category]; done) | rfl
theorem pd_0 : parseMethodDescriptor "(II)Z" = some ⟨[.int, .int], some .boolean⟩ := by decide +kernel
def Q2 (Z : State) (vf : Int32) (vi : Int32) (h0 : Heap) (n0 : Nat) (v : Option Value) (h : Heap) (L : List Loc) : Prop := ∃ z : Int64, v = some (.long z) ∧ (True) ∧ Fr n0 L ∧ h = h0
set_option maxRecDepth 65536 in
set_option maxHeartbeats 40000000 in
theorem rm2 (l : Launch) (Z : State) (a0 : Array Value) (hw : ∀ d ∈ tables_1, d.before a0 Z = true) (ws : List Jvm.Cond) (vf : Int32) (vi : Int32) (h0 : Heap) (n0 : Nat) (Z0 : n0 ≤ h0.size) :
    MetFree l (⟨"com/example/foreslot/foreslot/ScheduleStoppedPinLaw", "startOf", "(II)J"⟩ : MethodName) (head1 (Jvm.Cond.code (⟨"com/example/foreslot/foreslot/ScheduleStoppedPinLaw", "startOf", "(II)J"⟩ : MethodName) method_3_code 2 (some .long) :: ws) ({ frames := 1, cells := 0, slots := 0, locals := 13 } : Room)) (fun a U => a = #[(.int vf), (.int vi)] ∧ Z.Warmed39 U.vm ∧ U.heap = h0) (fun _ _ _ _ _ => True) (fun _ U o U' => ∃ v L, o = .returned v ∧ Q2 Z vf vi h0 n0 v U'.heap L ∧ FrameEnd U o U' L ({ frames := 1, cells := 0, slots := 0, locals := 13 } : Room).cells ({ frames := 1, cells := 0, slots := 0, locals := 13 } : Room).slots) := by
  refine MetFree.of_bodySF (plainFor_of_name pn_0) hisR ?_
  intro p e s m args below meth c s₁ Bd hml0 hP hK
  obtain ⟨rfl, hZ, hh⟩ := hP
  have hx := Bd.exec
  have hby := Bd.bytes
  have hml : c.maxLocals = 2 := hml0
  have hown : s.vm.findClass "com/example/foreslot/foreslot/ScheduleStoppedPinLaw" = some m.cls := findClass_of_methodNamed Bd.named
  have hnm := (name_of_methodNamed Bd.named Bd.method).1
  have X0 : Stand p l e ({ frames := 1, cells := 0, slots := 0, locals := 13 } : Room) s m #[(.int vf), (.int vi)] below meth c s₁ [] 0 0 := Stand.of_body Bd
  have e0 : s₁.heap = h0 := by rw [← hh, Bd.state]; rfl
  have N0 := Fr.nil n0
  have pre0 : ∀ t, Steps p.tables e below (s₁.setTop (mkF m 0 #[.val (.int vf), .val (.int vi)] [])) t → Steps p.tables e below (s₁.setTop (entryFrame m #[(.int vf), (.int vi)] 2)) t := fun t k => castTop (ef_rm2 m vf vi) k
  obtain ⟨_, _, ⟨T1, L1, k1, n1⟩, -, X1, ⟨Lc1, hQ1, l1, y1, z1⟩, st1⟩ := Jvm.LawKit.callS X0 hx (y := (⟨"com/example/foreslot/foreslot/ScheduleStoppedPinLaw", "bit", "(II)Z"⟩ : MethodName)) hown (mvT hZ (hw _ (List.mem_of_getElem? (i := 2) rfl))) (mvT hZ (hw _ (List.mem_of_getElem? (i := 3) rfl))) (mvT hZ (hw _ (List.mem_of_getElem? (i := 4) rfl))) (mvT hZ (hw _ (List.mem_of_getElem? (i := 5) rfl))) (by decide) (backOf (W := 0) (rm1 l Z a0 hw [] vf vi h0 n0 Z0 ) hZ (hw _ (List.mem_of_getElem? (i := 5) rfl)) (hw _ (List.mem_of_getElem? (i := 4) rfl)) (by decide) (by decide)) (g := (mkF m 2 #[.val (.int vf), .val (.int vi)] [(.int vi), (.int vf)])) rfl (by rw [hml]; rfl) (argsL := [(.int vf), (.int vi)]) (rest := []) (lenOf pd_0 rfl) rfl (by show 2 * 0 + _ ≤ _; exact Nat.le_of_eq rfl) (hb hby d2_2) (fun _ _ => ⟨rfl, e0, (by decide : 0 + 0 ≤ _), (by decide : 0 + 0 ≤ _)⟩)
  dsimp only [Pt.U, Pt.locs, Pt.cells, Pt.slots] at X1 l1 y1 z1 st1 hQ1
  rw [l1, y1, z1] at X1
  obtain ⟨r1, rfl, hr1, N1q, e1⟩ := hQ1
  have N1 := Fr.app N0 N1q
  have pre3 : ∀ t, Steps p.tables e below (T1.setTop (mkF m 5 #[.val (.int vf), .val (.int vi)] [(.int r1)])) t → Steps p.tables e below (s₁.setTop (entryFrame m #[(.int vf), (.int vi)] 2)) t := fun t kt => by
    refine pre0 _ ?_
    refine XS.iloadN X0.here hx rfl (hb hby d2_0) rfl ?_
    refine XS.iloadN X0.here hx rfl (hb hby d2_1) rfl ?_
    refine st1 _ ?_
    exact kt
  by_cases hc5_2 : r1.toInt = (0 : Int)
  · obtain ⟨fs, hr, hrun, hended, hW, hsame⟩ := X1.leave (v := some (.long (-1 : Int64))) (fun h => by rw [Bd.returns] at h; cases h)
    refine ⟨_, _, pre3 _ ?_, hrun, hended, _, _, rfl, ?_, ⟨_, rfl⟩, hW, hsame.mono (by decide) (by decide)⟩
    · show Steps p.tables e below (T1.setTop (mkF m 5 #[.val (.int vf), .val (.int vi)] [(.int r1)])) _
      refine XS.ifYes X1.here hx rfl (pc0 := 5) (pc' := 13) rfl (hb hby d2_5) rfl (own_if (own_teq (a := r1) (b := (0 : Int32)) rfl (by decide) hc5_2).1) (by decide) (by decide) ?_
      refine X1.ldc2Long hx hown (mvT hZ (hw _ (List.mem_of_getElem? (i := 9) rfl))) (g := (mkF m 13 #[.val (.int vf), .val (.int vi)] [])) rfl (hb hby d2_13) _ ?_
      jvm_step X1.here [X1.here.top, hx, (hb hby d2_16), X1.method', Bd.returns, narrow]
      first | (intro acts; rw [hr _ acts rfl rfl rfl]) | rw [hr _ _ rfl rfl rfl]
      exact Steps.refl _
    · show Q2 Z vf vi h0 n0 _ T1.heap _
      rw [e1]
      exact ⟨_, rfl, trivial, N1, rfl⟩
  · obtain ⟨fs, hr, hrun, hended, hW, hsame⟩ := X1.leave (v := some (.long (vi.toInt64))) (fun h => by rw [Bd.returns] at h; cases h)
    refine ⟨_, _, pre3 _ ?_, hrun, hended, _, _, rfl, ?_, ⟨_, rfl⟩, hW, hsame.mono (by decide) (by decide)⟩
    · show Steps p.tables e below (T1.setTop (mkF m 5 #[.val (.int vf), .val (.int vi)] [(.int r1)])) _
      refine XS.ifNo X1.here hx rfl (hb hby d2_5) rfl (own_if (own_feq (a := r1) (b := (0 : Int32)) rfl (by decide) hc5_2).1) ?_
      refine XS.iloadN X1.here hx rfl (hb hby d2_8) rfl ?_
      refine XS.i2l X1.here hx rfl (hb hby d2_9) rfl ?_
      refine XS.goto X1.here hx rfl (pc0 := 10) (pc' := 16) rfl (hb hby d2_10) (by decide) (by decide) ?_
      jvm_step X1.here [X1.here.top, hx, (hb hby d2_16), X1.method', Bd.returns, narrow]
      first | (intro acts; rw [hr _ acts rfl rfl rfl]) | rw [hr _ _ rfl rfl rfl]
      exact Steps.refl _
    · show Q2 Z vf vi h0 n0 _ T1.heap _
      rw [e1]
      exact ⟨_, rfl, trivial, N1, rfl⟩
theorem d3_0 : decode method_4_code 0 = .ok (.iload_n 0, 1) := by decide +kernel
theorem d3_1 : decode method_4_code 1 = .ok (.iload_n 1, 1) := by decide +kernel
theorem d3_2 : decode method_4_code 2 = .ok (.invokestatic 7, 3) := by decide +kernel
theorem d3_5 : decode method_4_code 5 = .ok (.ifCond .eq 10, 3) := by decide +kernel
theorem d3_8 : decode method_4_code 8 = .ok (.iload_n 1, 1) := by decide +kernel
theorem d3_9 : decode method_4_code 9 = .ok (.iconst 1, 1) := by decide +kernel
theorem d3_10 : decode method_4_code 10 = .ok (.iadd, 1) := by decide +kernel
theorem d3_11 : decode method_4_code 11 = .ok (.i2l, 1) := by decide +kernel
theorem d3_12 : decode method_4_code 12 = .ok (.goto 6, 3) := by decide +kernel
theorem d3_15 : decode method_4_code 15 = .ok (.ldc2_w 15, 3) := by decide +kernel
theorem d3_18 : decode method_4_code 18 = .ok (.lreturn, 1) := by decide +kernel
theorem ef_rm3 (m : MethodId) (x0 : Int32) (x1 : Int32) : entryFrame m #[(.int x0), (.int x1)] 2 = mkF m 0 #[.val (.int x0), .val (.int x1)] [] := by first | (simp [entryFrame, mkF, argsToLocals, Value.category]; done) | rfl
def Q3 (Z : State) (vf : Int32) (vi : Int32) (h0 : Heap) (n0 : Nat) (v : Option Value) (h : Heap) (L : List Loc) : Prop := ∃ z : Int64, v = some (.long z) ∧ (True) ∧ Fr n0 L ∧ h = h0
set_option maxRecDepth 65536 in
set_option maxHeartbeats 40000000 in
theorem rm3 (l : Launch) (Z : State) (a0 : Array Value) (hw : ∀ d ∈ tables_1, d.before a0 Z = true) (ws : List Jvm.Cond) (vf : Int32) (vi : Int32) (h0 : Heap) (n0 : Nat) (Z0 : n0 ≤ h0.size) :
    MetFree l (⟨"com/example/foreslot/foreslot/ScheduleStoppedPinLaw", "endOf", "(II)J"⟩ : MethodName) (head1 (Jvm.Cond.code (⟨"com/example/foreslot/foreslot/ScheduleStoppedPinLaw", "endOf", "(II)J"⟩ : MethodName) method_4_code 2 (some .long) :: ws) ({ frames := 1, cells := 0, slots := 0, locals := 13 } : Room)) (fun a U => a = #[(.int vf), (.int vi)] ∧ Z.Warmed39 U.vm ∧ U.heap = h0) (fun _ _ _ _ _ => True) (fun _ U o U' => ∃ v L, o = .returned v ∧ Q3 Z vf vi h0 n0 v U'.heap L ∧ FrameEnd U o U' L ({ frames := 1, cells := 0, slots := 0, locals := 13 } : Room).cells ({ frames := 1, cells := 0, slots := 0, locals := 13 } : Room).slots) := by
  refine MetFree.of_bodySF (plainFor_of_name pn_0) hisR ?_
  intro p e s m args below meth c s₁ Bd hml0 hP hK
  obtain ⟨rfl, hZ, hh⟩ := hP
  have hx := Bd.exec
  have hby := Bd.bytes
  have hml : c.maxLocals = 2 := hml0
  have hown : s.vm.findClass "com/example/foreslot/foreslot/ScheduleStoppedPinLaw" = some m.cls := findClass_of_methodNamed Bd.named
  have hnm := (name_of_methodNamed Bd.named Bd.method).1
  have X0 : Stand p l e ({ frames := 1, cells := 0, slots := 0, locals := 13 } : Room) s m #[(.int vf), (.int vi)] below meth c s₁ [] 0 0 := Stand.of_body Bd
  have e0 : s₁.heap = h0 := by rw [← hh, Bd.state]; rfl
  have N0 := Fr.nil n0
  have pre0 : ∀ t, Steps p.tables e below (s₁.setTop (mkF m 0 #[.val (.int vf), .val (.int vi)] [])) t → Steps p.tables e below (s₁.setTop (entryFrame m #[(.int vf), (.int vi)] 2)) t := fun t k => castTop (ef_rm3 m vf vi) k
  obtain ⟨_, _, ⟨T1, L1, k1, n1⟩, -, X1, ⟨Lc1, hQ1, l1, y1, z1⟩, st1⟩ := Jvm.LawKit.callS X0 hx (y := (⟨"com/example/foreslot/foreslot/ScheduleStoppedPinLaw", "bit", "(II)Z"⟩ : MethodName)) hown (mvT hZ (hw _ (List.mem_of_getElem? (i := 2) rfl))) (mvT hZ (hw _ (List.mem_of_getElem? (i := 3) rfl))) (mvT hZ (hw _ (List.mem_of_getElem? (i := 4) rfl))) (mvT hZ (hw _ (List.mem_of_getElem? (i := 5) rfl))) (by decide) (backOf (W := 0) (rm1 l Z a0 hw [] vf vi h0 n0 Z0 ) hZ (hw _ (List.mem_of_getElem? (i := 5) rfl)) (hw _ (List.mem_of_getElem? (i := 4) rfl)) (by decide) (by decide)) (g := (mkF m 2 #[.val (.int vf), .val (.int vi)] [(.int vi), (.int vf)])) rfl (by rw [hml]; rfl) (argsL := [(.int vf), (.int vi)]) (rest := []) (lenOf pd_0 rfl) rfl (by show 2 * 0 + _ ≤ _; exact Nat.le_of_eq rfl) (hb hby d3_2) (fun _ _ => ⟨rfl, e0, (by decide : 0 + 0 ≤ _), (by decide : 0 + 0 ≤ _)⟩)
  dsimp only [Pt.U, Pt.locs, Pt.cells, Pt.slots] at X1 l1 y1 z1 st1 hQ1
  rw [l1, y1, z1] at X1
  obtain ⟨r1, rfl, hr1, N1q, e1⟩ := hQ1
  have N1 := Fr.app N0 N1q
  have pre3 : ∀ t, Steps p.tables e below (T1.setTop (mkF m 5 #[.val (.int vf), .val (.int vi)] [(.int r1)])) t → Steps p.tables e below (s₁.setTop (entryFrame m #[(.int vf), (.int vi)] 2)) t := fun t kt => by
    refine pre0 _ ?_
    refine XS.iloadN X0.here hx rfl (hb hby d3_0) rfl ?_
    refine XS.iloadN X0.here hx rfl (hb hby d3_1) rfl ?_
    refine st1 _ ?_
    exact kt
  by_cases hc5_2 : r1.toInt = (0 : Int)
  · obtain ⟨fs, hr, hrun, hended, hW, hsame⟩ := X1.leave (v := some (.long (-1 : Int64))) (fun h => by rw [Bd.returns] at h; cases h)
    refine ⟨_, _, pre3 _ ?_, hrun, hended, _, _, rfl, ?_, ⟨_, rfl⟩, hW, hsame.mono (by decide) (by decide)⟩
    · show Steps p.tables e below (T1.setTop (mkF m 5 #[.val (.int vf), .val (.int vi)] [(.int r1)])) _
      refine XS.ifYes X1.here hx rfl (pc0 := 5) (pc' := 15) rfl (hb hby d3_5) rfl (own_if (own_teq (a := r1) (b := (0 : Int32)) rfl (by decide) hc5_2).1) (by decide) (by decide) ?_
      refine X1.ldc2Long hx hown (mvT hZ (hw _ (List.mem_of_getElem? (i := 9) rfl))) (g := (mkF m 15 #[.val (.int vf), .val (.int vi)] [])) rfl (hb hby d3_15) _ ?_
      jvm_step X1.here [X1.here.top, hx, (hb hby d3_18), X1.method', Bd.returns, narrow]
      first | (intro acts; rw [hr _ acts rfl rfl rfl]) | rw [hr _ _ rfl rfl rfl]
      exact Steps.refl _
    · show Q3 Z vf vi h0 n0 _ T1.heap _
      rw [e1]
      exact ⟨_, rfl, trivial, N1, rfl⟩
  · obtain ⟨fs, hr, hrun, hended, hW, hsame⟩ := X1.leave (v := some (.long ((vi + (1 : Int32)).toInt64))) (fun h => by rw [Bd.returns] at h; cases h)
    refine ⟨_, _, pre3 _ ?_, hrun, hended, _, _, rfl, ?_, ⟨_, rfl⟩, hW, hsame.mono (by decide) (by decide)⟩
    · show Steps p.tables e below (T1.setTop (mkF m 5 #[.val (.int vf), .val (.int vi)] [(.int r1)])) _
      refine XS.ifNo X1.here hx rfl (hb hby d3_5) rfl (own_if (own_feq (a := r1) (b := (0 : Int32)) rfl (by decide) hc5_2).1) ?_
      refine XS.iloadN X1.here hx rfl (hb hby d3_8) rfl ?_
      refine XS.iconst X1.here hx rfl (hb hby d3_9) ?_
      refine XS.iadd X1.here hx rfl (hb hby d3_10) rfl ?_
      refine XS.i2l X1.here hx rfl (hb hby d3_11) rfl ?_
      show Steps p.tables e below (T1.setTop (mkF m 12 #[.val (.int vf), .val (.int vi)] [(.long ((vi + (1 : Int32)).toInt64))])) _
      refine XS.goto X1.here hx rfl (pc0 := 12) (pc' := 18) rfl (hb hby d3_12) (by decide) (by decide) ?_
      jvm_step X1.here [X1.here.top, hx, (hb hby d3_18), X1.method', Bd.returns, narrow]
      first | (intro acts; rw [hr _ acts rfl rfl rfl]) | rw [hr _ _ rfl rfl rfl]
      exact Steps.refl _
    · show Q3 Z vf vi h0 n0 _ T1.heap _
      rw [e1]
      exact ⟨_, rfl, trivial, N1, rfl⟩
theorem d6_0 : decode jdk_22_method_1_code 0 = .ok (.aload_n 0, 1) := by decide +kernel
theorem d6_1 : decode jdk_22_method_1_code 1 = .ok (.invokespecial 1, 3) := by decide +kernel
theorem d6_4 : decode jdk_22_method_1_code 4 = .ok (.return_, 1) := by decide +kernel
theorem pn_1 : plainName "java/util/AbstractCollection" = true := by first | (simp [plainName, overriddenIn]; done) | decide +kernel
theorem ef_rm6 (m : MethodId) (x0 : Addr) : entryFrame m #[(.ref x0)] 1 = mkF m 0 #[.val (.ref x0)] [] := by first | (simp [entryFrame, mkF, argsToLocals, Value.category]; done) | rfl
def Q6 (Z : State) (oa : Addr) (h0 : Heap) (n0 : Nat) (v : Option Value) (h : Heap) (L : List Loc) : Prop := v = none ∧ Fr n0 L ∧ h = h0
set_option maxRecDepth 65536 in
set_option maxHeartbeats 40000000 in
theorem rm6 (l : Launch) (Z : State) (a0 : Array Value) (hw : ∀ d ∈ tables_1, d.before a0 Z = true) (ws : List Jvm.Cond) (oa : Addr) (h0 : Heap) (n0 : Nat) (Z0 : n0 ≤ h0.size) :
    MetFree l (⟨"java/util/AbstractCollection", "<init>", "()V"⟩ : MethodName) (head1 (Jvm.Cond.code (⟨"java/util/AbstractCollection", "<init>", "()V"⟩ : MethodName) jdk_22_method_1_code 1 none :: ws) ({ frames := 1, cells := 0, slots := 0, locals := 12 } : Room)) (fun a U => a = #[(.ref oa)] ∧ Z.Warmed39 U.vm ∧ U.heap = h0) (fun _ _ _ _ _ => True) (fun _ U o U' => ∃ v L, o = .returned v ∧ Q6 Z oa h0 n0 v U'.heap L ∧ FrameEnd U o U' L ({ frames := 1, cells := 0, slots := 0, locals := 12 } : Room).cells ({ frames := 1, cells := 0, slots := 0, locals := 12 } : Room).slots) := by
  refine MetFree.of_bodySF (plainFor_of_name pn_1) hisR ?_
  intro p e s m args below meth c s₁ Bd hml0 hP hK
  obtain ⟨rfl, hZ, hh⟩ := hP
  have hx := Bd.exec
  have hby := Bd.bytes
  have hml : c.maxLocals = 1 := hml0
  have hown : s.vm.findClass "java/util/AbstractCollection" = some m.cls := findClass_of_methodNamed Bd.named
  have hnm := (name_of_methodNamed Bd.named Bd.method).1
  have X0 : Stand p l e ({ frames := 1, cells := 0, slots := 0, locals := 12 } : Room) s m #[(.ref oa)] below meth c s₁ [] 0 0 := Stand.of_body Bd
  have e0 : s₁.heap = h0 := by rw [← hh, Bd.state]; rfl
  have N0 := Fr.nil n0
  have pre0 : ∀ t, Steps p.tables e below (s₁.setTop (mkF m 0 #[.val (.ref oa)] [])) t → Steps p.tables e below (s₁.setTop (entryFrame m #[(.ref oa)] 1)) t := fun t k => castTop (ef_rm6 m oa) k
  obtain ⟨T1, X1, e1, st1⟩ := initO X0 hx hZ hown (hw _ (List.mem_of_getElem? (i := 34) rfl)) (hw _ (List.mem_of_getElem? (i := 35) rfl)) (hw _ (List.mem_of_getElem? (i := 36) rfl)) e0 (g := (mkF m 1 #[.val (.ref oa)] [(.ref oa)])) rfl (by rw [hml]; rfl) rfl (hb hby d6_1) (by decide) (W := 0) (by show 2 * 0 + _ ≤ _; exact Nat.le_of_eq rfl) (by decide)
  obtain ⟨fs, hr, hrun, hended, hW, hsame⟩ := X1.leave (v := none) (fun _ => rfl)
  refine ⟨_, _, pre0 _ ?_, hrun, hended, _, _, rfl, ?_, ⟨_, rfl⟩, hW, hsame.mono (by decide) (by decide)⟩
  · refine XS.aloadN X0.here hx rfl (hb hby d6_0) rfl rfl ?_
    refine st1 _ ?_
    exact X1.returnOut hx Bd.returns (hb hby d6_4) hr
  · show Q6 Z oa h0 n0 _ T1.heap _
    rw [e1]
    exact ⟨rfl, N0, rfl⟩
theorem d5_0 : decode jdk_39_method_1_code 0 = .ok (.aload_n 0, 1) := by decide +kernel
theorem d5_1 : decode jdk_39_method_1_code 1 = .ok (.invokespecial 1, 3) := by decide +kernel
theorem d5_4 : decode jdk_39_method_1_code 4 = .ok (.aload_n 0, 1) := by decide +kernel
theorem d5_5 : decode jdk_39_method_1_code 5 = .ok (.iconst 0, 1) := by decide +kernel
theorem d5_6 : decode jdk_39_method_1_code 6 = .ok (.putfield 7, 3) := by decide +kernel
theorem d5_9 : decode jdk_39_method_1_code 9 = .ok (.return_, 1) := by decide +kernel
theorem pn_2 : plainName "java/util/AbstractList" = true := by first | (simp [plainName, overriddenIn]; done) | decide +kernel
theorem ef_rm5 (m : MethodId) (x0 : Addr) : entryFrame m #[(.ref x0)] 1 = mkF m 0 #[.val (.ref x0)] [] := by first | (simp [entryFrame, mkF, argsToLocals, Value.category]; done) | rfl
theorem pd_1 : parseMethodDescriptor "()V" = some ⟨[], none⟩ := by decide +kernel
def Q5 (Z : State) (oa : Addr) (h0 : Heap) (n0 : Nat) (v : Option Value) (h : Heap) (L : List Loc) : Prop := v = none ∧ Fr n0 L ∧ Keep h0 h [oa] ∧ (∀ (C n d : String) (v : Value), Sta Z h0 C n d v → Sta Z h C n d v) ∧ Fld Z h oa "java/util/ArrayList" "elementData" "[Ljava/lang/Object;" .null
set_option maxRecDepth 65536 in
set_option maxHeartbeats 40000000 in
theorem rm5 (l : Launch) (Z : State) (a0 : Array Value) (hw : ∀ d ∈ tables_1, d.before a0 Z = true) (ws : List Jvm.Cond) (oa : Addr) (h0 : Heap) (n0 : Nat) (Z0 : n0 ≤ h0.size) (Ea : Exa Z h0 oa "java/util/ArrayList") (Fm : Fld Z h0 oa "java/util/AbstractList" "modCount" "I" (.int (0 : Int32))) (Fe : Fld Z h0 oa "java/util/ArrayList" "elementData" "[Ljava/lang/Object;" .null) (ga : n0 ≤ oa) :
    MetFree l (⟨"java/util/AbstractList", "<init>", "()V"⟩ : MethodName) (head1 (Jvm.Cond.code (⟨"java/util/AbstractList", "<init>", "()V"⟩ : MethodName) jdk_39_method_1_code 1 none :: ws) ({ frames := 2, cells := 0, slots := 0, locals := 24 } : Room)) (fun a U => a = #[(.ref oa)] ∧ Z.Warmed39 U.vm ∧ U.heap = h0) (fun _ _ _ _ _ => True) (fun _ U o U' => ∃ v L, o = .returned v ∧ Q5 Z oa h0 n0 v U'.heap L ∧ FrameEnd U o U' L ({ frames := 2, cells := 0, slots := 0, locals := 24 } : Room).cells ({ frames := 2, cells := 0, slots := 0, locals := 24 } : Room).slots) := by
  refine MetFree.of_bodySF (plainFor_of_name pn_2) hisR ?_
  intro p e s m args below meth c s₁ Bd hml0 hP hK
  obtain ⟨rfl, hZ, hh⟩ := hP
  have hx := Bd.exec
  have hby := Bd.bytes
  have hml : c.maxLocals = 1 := hml0
  have hown : s.vm.findClass "java/util/AbstractList" = some m.cls := findClass_of_methodNamed Bd.named
  have hnm := (name_of_methodNamed Bd.named Bd.method).1
  have X0 : Stand p l e ({ frames := 2, cells := 0, slots := 0, locals := 24 } : Room) s m #[(.ref oa)] below meth c s₁ [] 0 0 := Stand.of_body Bd
  have e0 : s₁.heap = h0 := by rw [← hh, Bd.state]; rfl
  have N0 := Fr.nil n0
  have pre0 : ∀ t, Steps p.tables e below (s₁.setTop (mkF m 0 #[.val (.ref oa)] [])) t → Steps p.tables e below (s₁.setTop (entryFrame m #[(.ref oa)] 1)) t := fun t k => castTop (ef_rm5 m oa) k
  obtain ⟨_, _, ⟨T1, L1, k1, n1⟩, -, X1, ⟨Lc1, hQ1, l1, y1, z1⟩, st1⟩ := X0.specialBack hx (y := (⟨"java/util/AbstractCollection", "<init>", "()V"⟩ : MethodName)) rfl hown (mvT hZ (hw _ (List.mem_of_getElem? (i := 28) rfl))) (mvT hZ (hw _ (List.mem_of_getElem? (i := 29) rfl))) (mvT hZ (hw _ (List.mem_of_getElem? (i := 33) rfl))) (by decide) (backOf (W := 0) (rm6 l Z a0 hw [] oa h0 n0 Z0 ) hZ (hw _ (List.mem_of_getElem? (i := 33) rfl)) (hw _ (List.mem_of_getElem? (i := 32) rfl)) (by decide) (by decide)) (g := (mkF m 1 #[.val (.ref oa)] [(.ref oa)])) rfl (by rw [hml]; rfl) (Steps.refl _) (a := oa) (argsL := []) (rest := []) (lenOf pd_1 rfl) rfl (by show 2 * 0 + _ ≤ _; exact Nat.le_of_eq rfl) (hb hby d5_1) (fun _ _ => ⟨rfl, e0, (by decide : 0 + 0 ≤ _), (by decide : 0 + 0 ≤ _)⟩)
  dsimp only [Pt.U, Pt.locs, Pt.cells, Pt.slots] at X1 l1 y1 z1 st1 hQ1
  rw [l1, y1, z1] at X1
  obtain ⟨rfl, N1q, e1⟩ := hQ1
  have N1 := Fr.app N0 N1q
  obtain ⟨T2, h2, X2, e2, W2, st2⟩ := putF X1 hx hZ hown (host := "") (Or.inl (hw _ (List.mem_of_getElem? (i := 37) rfl))) Via.refl e1 Fm Ea (Or.inl (hw _ (List.mem_of_getElem? (i := 38) rfl))) (hw _ (List.mem_of_getElem? (i := 17) rfl)) (ty := .int) (by decide) rfl rfl (g := (mkF m 6 #[.val (.ref oa)] [(.int (0 : Int32)), (.ref oa)])) rfl rfl (hb hby d5_6)
  have N2 := Fr.snoc X2 N1 ga
  have Zs3 : n0 ≤ h2.size := by rw [W2.size]; exact Z0
  have Fw2 := Fm.same W2
  obtain ⟨fs, hr, hrun, hended, hW, hsame⟩ := X2.leave (v := none) (fun _ => rfl)
  refine ⟨_, _, pre0 _ ?_, hrun, hended, _, _, rfl, ?_, ⟨_, rfl⟩, hW, hsame.mono (by decide) (by decide)⟩
  · refine XS.aloadN X0.here hx rfl (hb hby d5_0) rfl rfl ?_
    refine st1.trans ?_
    refine XS.aloadN X1.here hx rfl (hb hby d5_4) rfl rfl ?_
    refine XS.iconst X1.here hx rfl (hb hby d5_5) ?_
    show Steps p.tables e below (T1.setTop (mkF m 6 #[.val (.ref oa)] [(.int (0 : Int32)), (.ref oa)])) _
    refine st2 _ ?_
    exact X2.returnOut hx Bd.returns (hb hby d5_9) hr
  · show Q5 Z oa h0 n0 _ T2.heap _
    rw [e2]
    have f4 := ((Keep.refl h0 [oa]).wr W2 (Or.inl (List.mem_of_getElem? (i := 0) rfl)))
    have f5 := (Fe.other W2 (Or.inr (slot_ne (Or.inl (hw _ (List.mem_of_getElem? (i := 41) rfl))) (Or.inl (hw _ (List.mem_of_getElem? (i := 38) rfl))) (by decide) (t := (.array (.object "java/lang/Object"))) (t' := .int) (by decide) (by decide))))
    exact ⟨rfl, N2, f4, fun _ _ _ _ q => q.wr W2, f5⟩
theorem d4_0 : decode jdk_38_method_2_code 0 = .ok (.aload_n 0, 1) := by decide +kernel
theorem d4_1 : decode jdk_38_method_2_code 1 = .ok (.invokespecial 1, 3) := by decide +kernel
theorem d4_4 : decode jdk_38_method_2_code 4 = .ok (.aload_n 0, 1) := by decide +kernel
theorem d4_5 : decode jdk_38_method_2_code 5 = .ok (.getstatic 39, 3) := by decide +kernel
theorem d4_8 : decode jdk_38_method_2_code 8 = .ok (.putfield 9, 3) := by decide +kernel
theorem d4_11 : decode jdk_38_method_2_code 11 = .ok (.return_, 1) := by decide +kernel
theorem pn_3 : plainName "java/util/ArrayList" = true := by first | (simp [plainName, overriddenIn]; done) | decide +kernel
theorem ef_rm4 (m : MethodId) (x0 : Addr) : entryFrame m #[(.ref x0)] 1 = mkF m 0 #[.val (.ref x0)] [] := by first | (simp [entryFrame, mkF, argsToLocals, Value.category]; done) | rfl
def Q4 (Z : State) (oa : Addr) (wd : Addr) (h0 : Heap) (n0 : Nat) (v : Option Value) (h : Heap) (L : List Loc) : Prop := v = none ∧ Fr n0 L ∧ Keep h0 h [oa]
set_option maxRecDepth 65536 in
set_option maxHeartbeats 40000000 in
theorem rm4 (l : Launch) (Z : State) (a0 : Array Value) (hw : ∀ d ∈ tables_1, d.before a0 Z = true) (ws : List Jvm.Cond) (oa : Addr) (wd : Addr) (h0 : Heap) (n0 : Nat) (Z0 : n0 ≤ h0.size) (Ea : Exa Z h0 oa "java/util/ArrayList") (Fm : Fld Z h0 oa "java/util/AbstractList" "modCount" "I" (.int (0 : Int32))) (Fe : Fld Z h0 oa "java/util/ArrayList" "elementData" "[Ljava/lang/Object;" .null) (ga : n0 ≤ oa) (Sd : Sta Z h0 "java/util/ArrayList" "DEFAULTCAPACITY_EMPTY_ELEMENTDATA" "[Ljava/lang/Object;" (.ref wd)) :
    MetFree l (⟨"java/util/ArrayList", "<init>", "()V"⟩ : MethodName) (head1 (Jvm.Cond.code (⟨"java/util/ArrayList", "<init>", "()V"⟩ : MethodName) jdk_38_method_2_code 1 none :: ws) ({ frames := 3, cells := 0, slots := 0, locals := 36 } : Room)) (fun a U => a = #[(.ref oa)] ∧ Z.Warmed39 U.vm ∧ U.heap = h0) (fun _ _ _ _ _ => True) (fun _ U o U' => ∃ v L, o = .returned v ∧ Q4 Z oa wd h0 n0 v U'.heap L ∧ FrameEnd U o U' L ({ frames := 3, cells := 0, slots := 0, locals := 36 } : Room).cells ({ frames := 3, cells := 0, slots := 0, locals := 36 } : Room).slots) := by
  refine MetFree.of_bodySF (plainFor_of_name pn_3) hisR ?_
  intro p e s m args below meth c s₁ Bd hml0 hP hK
  obtain ⟨rfl, hZ, hh⟩ := hP
  have hx := Bd.exec
  have hby := Bd.bytes
  have hml : c.maxLocals = 1 := hml0
  have hown : s.vm.findClass "java/util/ArrayList" = some m.cls := findClass_of_methodNamed Bd.named
  have hnm := (name_of_methodNamed Bd.named Bd.method).1
  have X0 : Stand p l e ({ frames := 3, cells := 0, slots := 0, locals := 36 } : Room) s m #[(.ref oa)] below meth c s₁ [] 0 0 := Stand.of_body Bd
  have e0 : s₁.heap = h0 := by rw [← hh, Bd.state]; rfl
  have N0 := Fr.nil n0
  have pre0 : ∀ t, Steps p.tables e below (s₁.setTop (mkF m 0 #[.val (.ref oa)] [])) t → Steps p.tables e below (s₁.setTop (entryFrame m #[(.ref oa)] 1)) t := fun t k => castTop (ef_rm4 m oa) k
  obtain ⟨_, _, ⟨T1, L1, k1, n1⟩, -, X1, ⟨Lc1, hQ1, l1, y1, z1⟩, st1⟩ := X0.specialBack hx (y := (⟨"java/util/AbstractList", "<init>", "()V"⟩ : MethodName)) rfl hown (mvT hZ (hw _ (List.mem_of_getElem? (i := 22) rfl))) (mvT hZ (hw _ (List.mem_of_getElem? (i := 23) rfl))) (mvT hZ (hw _ (List.mem_of_getElem? (i := 27) rfl))) (by decide) (backOf (W := 0) (rm5 l Z a0 hw [] oa h0 n0 Z0 Ea Fm Fe ga) hZ (hw _ (List.mem_of_getElem? (i := 27) rfl)) (hw _ (List.mem_of_getElem? (i := 26) rfl)) (by decide) (by decide)) (g := (mkF m 1 #[.val (.ref oa)] [(.ref oa)])) rfl (by rw [hml]; rfl) (Steps.refl _) (a := oa) (argsL := []) (rest := []) (lenOf pd_1 rfl) rfl (by show 2 * 0 + _ ≤ _; exact Nat.le_of_eq rfl) (hb hby d4_1) (fun _ _ => ⟨rfl, e0, (by decide : 0 + 0 ≤ _), (by decide : 0 + 0 ≤ _)⟩)
  dsimp only [Pt.U, Pt.locs, Pt.cells, Pt.slots] at X1 l1 y1 z1 st1 hQ1
  rw [l1, y1, z1] at X1
  obtain ⟨rfl, N1q, K1, J1, Fe1⟩ := hQ1
  have N1 := Fr.app N0 N1q
  have Zs2 : n0 ≤ T1.heap.size := Nat.le_trans Z0 K1.1
  obtain ⟨T3, X3, e3, st3⟩ := getS2 X1 hx hZ hown (host := "") (Or.inl (hw _ (List.mem_of_getElem? (i := 39) rfl))) Via.refl rfl (J1 _ _ _ _ Sd) (g := (mkF m 5 #[.val (.ref oa)] [(.ref oa)])) rfl (hb hby d4_5)
  have f4 := (Ea.keep K1)
  obtain ⟨T5, h5, X5, e5, W5, st5⟩ := putF X3 hx hZ hown (host := "") (Or.inl (hw _ (List.mem_of_getElem? (i := 40) rfl))) Via.refl e3 Fe1 f4 (Or.inl (hw _ (List.mem_of_getElem? (i := 41) rfl))) (hw _ (List.mem_of_getElem? (i := 17) rfl)) (ty := (.array (.object "java/lang/Object"))) (by decide) rfl rfl (g := (mkF m 8 #[.val (.ref oa)] [(.ref wd), (.ref oa)])) rfl rfl (hb hby d4_8)
  have N5 := Fr.snoc X5 N1 ga
  have Zs6 : n0 ≤ h5.size := by rw [W5.size]; exact Zs2
  have Fw5 := Fe1.same W5
  obtain ⟨fs, hr, hrun, hended, hW, hsame⟩ := X5.leave (v := none) (fun _ => rfl)
  refine ⟨_, _, pre0 _ ?_, hrun, hended, _, _, rfl, ?_, ⟨_, rfl⟩, hW, hsame.mono (by decide) (by decide)⟩
  · refine XS.aloadN X0.here hx rfl (hb hby d4_0) rfl rfl ?_
    refine st1.trans ?_
    refine XS.aloadN X1.here hx rfl (hb hby d4_4) rfl rfl ?_
    refine st3 _ ?_
    show Steps p.tables e below (T3.setTop (mkF m 8 #[.val (.ref oa)] [(.ref wd), (.ref oa)])) _
    refine st5 _ ?_
    exact X5.returnOut hx Bd.returns (hb hby d4_11) hr
  · show Q4 Z oa wd h0 n0 _ T5.heap _
    rw [e5]
    have f7 := (((Keep.refl h0 [oa]).trans K1 (allS (P := fun x => x ∈ [oa] ∨ h0.size ≤ x) (Or.inl (List.mem_of_getElem? (i := 0) rfl)) all0)).wr W5 (Or.inl (List.mem_of_getElem? (i := 0) rfl)))
    exact ⟨rfl, N5, f7⟩
theorem d8_0 : decode prog_156_method_1_code 0 = .ok (.aload_n 0, 1) := by decide +kernel
theorem d8_1 : decode prog_156_method_1_code 1 = .ok (.invokespecial 1, 3) := by decide +kernel
theorem d8_4 : decode prog_156_method_1_code 4 = .ok (.aload_n 0, 1) := by decide +kernel
theorem d8_5 : decode prog_156_method_1_code 5 = .ok (.lload_n 1, 1) := by decide +kernel
theorem d8_6 : decode prog_156_method_1_code 6 = .ok (.putfield 7, 3) := by decide +kernel
theorem d8_9 : decode prog_156_method_1_code 9 = .ok (.aload_n 0, 1) := by decide +kernel
theorem d8_10 : decode prog_156_method_1_code 10 = .ok (.aload_n 3, 1) := by decide +kernel
theorem d8_11 : decode prog_156_method_1_code 11 = .ok (.putfield 13, 3) := by decide +kernel
theorem d8_14 : decode prog_156_method_1_code 14 = .ok (.aload_n 0, 1) := by decide +kernel
theorem d8_15 : decode prog_156_method_1_code 15 = .ok (.aload 4, 2) := by decide +kernel
theorem d8_17 : decode prog_156_method_1_code 17 = .ok (.putfield 17, 3) := by decide +kernel
theorem d8_20 : decode prog_156_method_1_code 20 = .ok (.aload_n 0, 1) := by decide +kernel
theorem d8_21 : decode prog_156_method_1_code 21 = .ok (.aload 5, 2) := by decide +kernel
theorem d8_23 : decode prog_156_method_1_code 23 = .ok (.putfield 21, 3) := by decide +kernel
theorem d8_26 : decode prog_156_method_1_code 26 = .ok (.aload_n 0, 1) := by decide +kernel
theorem d8_27 : decode prog_156_method_1_code 27 = .ok (.aload 6, 2) := by decide +kernel
theorem d8_29 : decode prog_156_method_1_code 29 = .ok (.putfield 24, 3) := by decide +kernel
theorem d8_32 : decode prog_156_method_1_code 32 = .ok (.aload_n 0, 1) := by decide +kernel
theorem d8_33 : decode prog_156_method_1_code 33 = .ok (.lload 7, 2) := by decide +kernel
theorem d8_35 : decode prog_156_method_1_code 35 = .ok (.putfield 28, 3) := by decide +kernel
theorem d8_38 : decode prog_156_method_1_code 38 = .ok (.aload_n 0, 1) := by decide +kernel
theorem d8_39 : decode prog_156_method_1_code 39 = .ok (.aload 9, 2) := by decide +kernel
theorem d8_41 : decode prog_156_method_1_code 41 = .ok (.putfield 31, 3) := by decide +kernel
theorem d8_44 : decode prog_156_method_1_code 44 = .ok (.aload_n 0, 1) := by decide +kernel
theorem d8_45 : decode prog_156_method_1_code 45 = .ok (.aload 10, 2) := by decide +kernel
theorem d8_47 : decode prog_156_method_1_code 47 = .ok (.putfield 34, 3) := by decide +kernel
theorem d8_50 : decode prog_156_method_1_code 50 = .ok (.return_, 1) := by decide +kernel
theorem pn_4 : plainName "com/example/foreslot/foreslot/Schedule" = true := by first | (simp [plainName, overriddenIn]; done) | decide +kernel
theorem ef_rm8 (m : MethodId) (x0 : Addr) (x1 : Int64) (x2 : Addr) (x3 : Addr) (x4 : Addr) (x5 : Addr) (x6 : Int64) (x7 : Addr) : entryFrame m #[(.ref x0), (.long x1), (.ref x2), (.ref x3), (.ref x4), (.ref x5), (.long x6), (.ref x7), .null] 11 = mkF m 0 #[.val (.ref x0), .val (.long x1), .second, .val (.ref x2), .val (.ref x3), .val (.ref x4), .val (.ref x5), .val (.long x6), .second, .val (.ref x7), .val .null] [] := by first | (simp [entryFrame, mkF, argsToLocals, Value.category]; done) | rfl
def Q8 (Z : State) (oa : Addr) (qp : Int64) (oj : Addr) (os : Addr) (oe : Addr) (ot : Addr) (qk : Int64) (ov : Addr) (h0 : Heap) (n0 : Nat) (v : Option Value) (h : Heap) (L : List Loc) : Prop := v = none ∧ Fr n0 L ∧ Keep h0 h [oa] ∧ Exa Z h oa "com/example/foreslot/foreslot/Schedule" ∧ Fld Z h oa "com/example/foreslot/foreslot/Schedule" "stopped" "[Z" (.ref ot)
set_option maxRecDepth 65536 in
set_option maxHeartbeats 40000000 in
theorem rm8 (l : Launch) (Z : State) (a0 : Array Value) (hw : ∀ d ∈ tables_1, d.before a0 Z = true) (ws : List Jvm.Cond) (oa : Addr) (qp : Int64) (oj : Addr) (os : Addr) (oe : Addr) (ot : Addr) (qk : Int64) (ov : Addr) (h0 : Heap) (n0 : Nat) (Z0 : n0 ≤ h0.size) (Ea : Exa Z h0 oa "com/example/foreslot/foreslot/Schedule") (F0 : Fld Z h0 oa "com/example/foreslot/foreslot/Schedule" "processors" "J" (.long (0 : Int64))) (F1 : Fld Z h0 oa "com/example/foreslot/foreslot/Schedule" "jobs" "Ljava/util/List;" .null) (F2 : Fld Z h0 oa "com/example/foreslot/foreslot/Schedule" "starts" "[J" .null) (F3 : Fld Z h0 oa "com/example/foreslot/foreslot/Schedule" "ends" "[J" .null) (F4 : Fld Z h0 oa "com/example/foreslot/foreslot/Schedule" "stopped" "[Z" .null) (F5 : Fld Z h0 oa "com/example/foreslot/foreslot/Schedule" "peakInUse" "J" (.long (0 : Int64))) (F6 : Fld Z h0 oa "com/example/foreslot/foreslot/Schedule" "reservations" "Ljava/util/List;" .null) (F7 : Fld Z h0 oa "com/example/foreslot/foreslot/Schedule" "snapshot" "Ljava/util/Optional;" .null) (ga : n0 ≤ oa) :
    MetFree l (⟨"com/example/foreslot/foreslot/Schedule", "<init>", "(JLjava/util/List;[J[J[ZJLjava/util/List;Ljava/util/Optional;)V"⟩ : MethodName) (head1 (Jvm.Cond.code (⟨"com/example/foreslot/foreslot/Schedule", "<init>", "(JLjava/util/List;[J[J[ZJLjava/util/List;Ljava/util/Optional;)V"⟩ : MethodName) prog_156_method_1_code 11 none :: ws) ({ frames := 1, cells := 0, slots := 0, locals := 12 } : Room)) (fun a U => a = #[(.ref oa), (.long qp), (.ref oj), (.ref os), (.ref oe), (.ref ot), (.long qk), (.ref ov), .null] ∧ Z.Warmed39 U.vm ∧ U.heap = h0) (fun _ _ _ _ _ => True) (fun _ U o U' => ∃ v L, o = .returned v ∧ Q8 Z oa qp oj os oe ot qk ov h0 n0 v U'.heap L ∧ FrameEnd U o U' L ({ frames := 1, cells := 0, slots := 0, locals := 12 } : Room).cells ({ frames := 1, cells := 0, slots := 0, locals := 12 } : Room).slots) := by
  refine MetFree.of_bodySF (plainFor_of_name pn_4) hisR ?_
  intro p e s m args below meth c s₁ Bd hml0 hP hK
  obtain ⟨rfl, hZ, hh⟩ := hP
  have hx := Bd.exec
  have hby := Bd.bytes
  have hml : c.maxLocals = 11 := hml0
  have hown : s.vm.findClass "com/example/foreslot/foreslot/Schedule" = some m.cls := findClass_of_methodNamed Bd.named
  have hnm := (name_of_methodNamed Bd.named Bd.method).1
  have X0 : Stand p l e ({ frames := 1, cells := 0, slots := 0, locals := 12 } : Room) s m #[(.ref oa), (.long qp), (.ref oj), (.ref os), (.ref oe), (.ref ot), (.long qk), (.ref ov), .null] below meth c s₁ [] 0 0 := Stand.of_body Bd
  have e0 : s₁.heap = h0 := by rw [← hh, Bd.state]; rfl
  have N0 := Fr.nil n0
  have pre0 : ∀ t, Steps p.tables e below (s₁.setTop (mkF m 0 #[.val (.ref oa), .val (.long qp), .second, .val (.ref oj), .val (.ref os), .val (.ref oe), .val (.ref ot), .val (.long qk), .second, .val (.ref ov), .val .null] [])) t → Steps p.tables e below (s₁.setTop (entryFrame m #[(.ref oa), (.long qp), (.ref oj), (.ref os), (.ref oe), (.ref ot), (.long qk), (.ref ov), .null] 11)) t := fun t k => castTop (ef_rm8 m oa qp oj os oe ot qk ov) k
  obtain ⟨T1, X1, e1, st1⟩ := initO X0 hx hZ hown (hw _ (List.mem_of_getElem? (i := 45) rfl)) (hw _ (List.mem_of_getElem? (i := 35) rfl)) (hw _ (List.mem_of_getElem? (i := 36) rfl)) e0 (g := (mkF m 1 #[.val (.ref oa), .val (.long qp), .second, .val (.ref oj), .val (.ref os), .val (.ref oe), .val (.ref ot), .val (.long qk), .second, .val (.ref ov), .val .null] [(.ref oa)])) rfl (by rw [hml]; rfl) rfl (hb hby d8_1) (by decide) (W := 0) (by show 2 * 0 + _ ≤ _; exact Nat.le_of_eq rfl) (by decide)
  obtain ⟨T2, h2, X2, e2, W2, st2⟩ := putF X1 hx hZ hown (host := "") (Or.inl (hw _ (List.mem_of_getElem? (i := 46) rfl))) Via.refl e1 F0 Ea (Or.inr ⟨(hw _ (List.mem_of_getElem? (i := 47) rfl)), rfl, hnm⟩) (hw _ (List.mem_of_getElem? (i := 14) rfl)) (ty := .long) (by decide) rfl rfl (g := (mkF m 6 #[.val (.ref oa), .val (.long qp), .second, .val (.ref oj), .val (.ref os), .val (.ref oe), .val (.ref ot), .val (.long qk), .second, .val (.ref ov), .val .null] [(.long qp), (.ref oa)])) rfl rfl (hb hby d8_6)
  have N2 := Fr.snoc X2 N0 ga
  have Zs3 : n0 ≤ h2.size := by rw [W2.size]; exact Z0
  have Fw2 := F0.same W2
  have f4 := (F1.other W2 (Or.inr (slot_ne (Or.inr (hw _ (List.mem_of_getElem? (i := 49) rfl))) (Or.inr (hw _ (List.mem_of_getElem? (i := 47) rfl))) (by decide) (t := (.object "java/util/List")) (t' := .long) (by decide) (by decide))))
  have f5 := (Ea.wr W2)
  obtain ⟨T6, h6, X6, e6, W6, st6⟩ := putF X2 hx hZ hown (host := "") (Or.inl (hw _ (List.mem_of_getElem? (i := 48) rfl))) Via.refl e2 f4 f5 (Or.inr ⟨(hw _ (List.mem_of_getElem? (i := 49) rfl)), rfl, hnm⟩) (hw _ (List.mem_of_getElem? (i := 14) rfl)) (ty := (.object "java/util/List")) (by decide) rfl rfl (g := (mkF m 11 #[.val (.ref oa), .val (.long qp), .second, .val (.ref oj), .val (.ref os), .val (.ref oe), .val (.ref ot), .val (.long qk), .second, .val (.ref ov), .val .null] [(.ref oj), (.ref oa)])) rfl rfl (hb hby d8_11)
  have N6 := Fr.snoc X6 N2 ga
  have Zs7 : n0 ≤ h6.size := by rw [W6.size]; exact Zs3
  have Fw6 := f4.same W6
  have f8 := ((F2.other W2 (Or.inr (slot_ne (Or.inr (hw _ (List.mem_of_getElem? (i := 51) rfl))) (Or.inr (hw _ (List.mem_of_getElem? (i := 47) rfl))) (by decide) (t := (.array .long)) (t' := .long) (by decide) (by decide)))).other W6 (Or.inr (slot_ne (Or.inr (hw _ (List.mem_of_getElem? (i := 51) rfl))) (Or.inr (hw _ (List.mem_of_getElem? (i := 49) rfl))) (by decide) (t := (.array .long)) (t' := (.object "java/util/List")) (by decide) (by decide))))
  have f9 := (f5.wr W6)
  obtain ⟨T10, h10, X10, e10, W10, st10⟩ := putF X6 hx hZ hown (host := "") (Or.inl (hw _ (List.mem_of_getElem? (i := 50) rfl))) Via.refl e6 f8 f9 (Or.inr ⟨(hw _ (List.mem_of_getElem? (i := 51) rfl)), rfl, hnm⟩) (hw _ (List.mem_of_getElem? (i := 14) rfl)) (ty := (.array .long)) (by decide) rfl rfl (g := (mkF m 17 #[.val (.ref oa), .val (.long qp), .second, .val (.ref oj), .val (.ref os), .val (.ref oe), .val (.ref ot), .val (.long qk), .second, .val (.ref ov), .val .null] [(.ref os), (.ref oa)])) rfl rfl (hb hby d8_17)
  have N10 := Fr.snoc X10 N6 ga
  have Zs11 : n0 ≤ h10.size := by rw [W10.size]; exact Zs7
  have Fw10 := f8.same W10
  have f12 := (((F3.other W2 (Or.inr (slot_ne (Or.inr (hw _ (List.mem_of_getElem? (i := 53) rfl))) (Or.inr (hw _ (List.mem_of_getElem? (i := 47) rfl))) (by decide) (t := (.array .long)) (t' := .long) (by decide) (by decide)))).other W6 (Or.inr (slot_ne (Or.inr (hw _ (List.mem_of_getElem? (i := 53) rfl))) (Or.inr (hw _ (List.mem_of_getElem? (i := 49) rfl))) (by decide) (t := (.array .long)) (t' := (.object "java/util/List")) (by decide) (by decide)))).other W10 (Or.inr (slot_ne (Or.inr (hw _ (List.mem_of_getElem? (i := 53) rfl))) (Or.inr (hw _ (List.mem_of_getElem? (i := 51) rfl))) (by decide) (t := (.array .long)) (t' := (.array .long)) (by decide) (by decide))))
  have f13 := (f9.wr W10)
  obtain ⟨T14, h14, X14, e14, W14, st14⟩ := putF X10 hx hZ hown (host := "") (Or.inl (hw _ (List.mem_of_getElem? (i := 52) rfl))) Via.refl e10 f12 f13 (Or.inr ⟨(hw _ (List.mem_of_getElem? (i := 53) rfl)), rfl, hnm⟩) (hw _ (List.mem_of_getElem? (i := 14) rfl)) (ty := (.array .long)) (by decide) rfl rfl (g := (mkF m 23 #[.val (.ref oa), .val (.long qp), .second, .val (.ref oj), .val (.ref os), .val (.ref oe), .val (.ref ot), .val (.long qk), .second, .val (.ref ov), .val .null] [(.ref oe), (.ref oa)])) rfl rfl (hb hby d8_23)
  have N14 := Fr.snoc X14 N10 ga
  have Zs15 : n0 ≤ h14.size := by rw [W14.size]; exact Zs11
  have Fw14 := f12.same W14
  have f16 := ((((F4.other W2 (Or.inr (slot_ne (Or.inr (hw _ (List.mem_of_getElem? (i := 55) rfl))) (Or.inr (hw _ (List.mem_of_getElem? (i := 47) rfl))) (by decide) (t := (.array .boolean)) (t' := .long) (by decide) (by decide)))).other W6 (Or.inr (slot_ne (Or.inr (hw _ (List.mem_of_getElem? (i := 55) rfl))) (Or.inr (hw _ (List.mem_of_getElem? (i := 49) rfl))) (by decide) (t := (.array .boolean)) (t' := (.object "java/util/List")) (by decide) (by decide)))).other W10 (Or.inr (slot_ne (Or.inr (hw _ (List.mem_of_getElem? (i := 55) rfl))) (Or.inr (hw _ (List.mem_of_getElem? (i := 51) rfl))) (by decide) (t := (.array .boolean)) (t' := (.array .long)) (by decide) (by decide)))).other W14 (Or.inr (slot_ne (Or.inr (hw _ (List.mem_of_getElem? (i := 55) rfl))) (Or.inr (hw _ (List.mem_of_getElem? (i := 53) rfl))) (by decide) (t := (.array .boolean)) (t' := (.array .long)) (by decide) (by decide))))
  have f17 := (f13.wr W14)
  obtain ⟨T18, h18, X18, e18, W18, st18⟩ := putF X14 hx hZ hown (host := "") (Or.inl (hw _ (List.mem_of_getElem? (i := 54) rfl))) Via.refl e14 f16 f17 (Or.inr ⟨(hw _ (List.mem_of_getElem? (i := 55) rfl)), rfl, hnm⟩) (hw _ (List.mem_of_getElem? (i := 14) rfl)) (ty := (.array .boolean)) (by decide) rfl rfl (g := (mkF m 29 #[.val (.ref oa), .val (.long qp), .second, .val (.ref oj), .val (.ref os), .val (.ref oe), .val (.ref ot), .val (.long qk), .second, .val (.ref ov), .val .null] [(.ref ot), (.ref oa)])) rfl rfl (hb hby d8_29)
  have N18 := Fr.snoc X18 N14 ga
  have Zs19 : n0 ≤ h18.size := by rw [W18.size]; exact Zs15
  have Fw18 := f16.same W18
  have f20 := (((((F5.other W2 (Or.inr (slot_ne (Or.inr (hw _ (List.mem_of_getElem? (i := 57) rfl))) (Or.inr (hw _ (List.mem_of_getElem? (i := 47) rfl))) (by decide) (t := .long) (t' := .long) (by decide) (by decide)))).other W6 (Or.inr (slot_ne (Or.inr (hw _ (List.mem_of_getElem? (i := 57) rfl))) (Or.inr (hw _ (List.mem_of_getElem? (i := 49) rfl))) (by decide) (t := .long) (t' := (.object "java/util/List")) (by decide) (by decide)))).other W10 (Or.inr (slot_ne (Or.inr (hw _ (List.mem_of_getElem? (i := 57) rfl))) (Or.inr (hw _ (List.mem_of_getElem? (i := 51) rfl))) (by decide) (t := .long) (t' := (.array .long)) (by decide) (by decide)))).other W14 (Or.inr (slot_ne (Or.inr (hw _ (List.mem_of_getElem? (i := 57) rfl))) (Or.inr (hw _ (List.mem_of_getElem? (i := 53) rfl))) (by decide) (t := .long) (t' := (.array .long)) (by decide) (by decide)))).other W18 (Or.inr (slot_ne (Or.inr (hw _ (List.mem_of_getElem? (i := 57) rfl))) (Or.inr (hw _ (List.mem_of_getElem? (i := 55) rfl))) (by decide) (t := .long) (t' := (.array .boolean)) (by decide) (by decide))))
  have f21 := (f17.wr W18)
  obtain ⟨T22, h22, X22, e22, W22, st22⟩ := putF X18 hx hZ hown (host := "") (Or.inl (hw _ (List.mem_of_getElem? (i := 56) rfl))) Via.refl e18 f20 f21 (Or.inr ⟨(hw _ (List.mem_of_getElem? (i := 57) rfl)), rfl, hnm⟩) (hw _ (List.mem_of_getElem? (i := 14) rfl)) (ty := .long) (by decide) rfl rfl (g := (mkF m 35 #[.val (.ref oa), .val (.long qp), .second, .val (.ref oj), .val (.ref os), .val (.ref oe), .val (.ref ot), .val (.long qk), .second, .val (.ref ov), .val .null] [(.long qk), (.ref oa)])) rfl rfl (hb hby d8_35)
  have N22 := Fr.snoc X22 N18 ga
  have Zs23 : n0 ≤ h22.size := by rw [W22.size]; exact Zs19
  have Fw22 := f20.same W22
  have f24 := ((((((F6.other W2 (Or.inr (slot_ne (Or.inr (hw _ (List.mem_of_getElem? (i := 59) rfl))) (Or.inr (hw _ (List.mem_of_getElem? (i := 47) rfl))) (by decide) (t := (.object "java/util/List")) (t' := .long) (by decide) (by decide)))).other W6 (Or.inr (slot_ne (Or.inr (hw _ (List.mem_of_getElem? (i := 59) rfl))) (Or.inr (hw _ (List.mem_of_getElem? (i := 49) rfl))) (by decide) (t := (.object "java/util/List")) (t' := (.object "java/util/List")) (by decide) (by decide)))).other W10 (Or.inr (slot_ne (Or.inr (hw _ (List.mem_of_getElem? (i := 59) rfl))) (Or.inr (hw _ (List.mem_of_getElem? (i := 51) rfl))) (by decide) (t := (.object "java/util/List")) (t' := (.array .long)) (by decide) (by decide)))).other W14 (Or.inr (slot_ne (Or.inr (hw _ (List.mem_of_getElem? (i := 59) rfl))) (Or.inr (hw _ (List.mem_of_getElem? (i := 53) rfl))) (by decide) (t := (.object "java/util/List")) (t' := (.array .long)) (by decide) (by decide)))).other W18 (Or.inr (slot_ne (Or.inr (hw _ (List.mem_of_getElem? (i := 59) rfl))) (Or.inr (hw _ (List.mem_of_getElem? (i := 55) rfl))) (by decide) (t := (.object "java/util/List")) (t' := (.array .boolean)) (by decide) (by decide)))).other W22 (Or.inr (slot_ne (Or.inr (hw _ (List.mem_of_getElem? (i := 59) rfl))) (Or.inr (hw _ (List.mem_of_getElem? (i := 57) rfl))) (by decide) (t := (.object "java/util/List")) (t' := .long) (by decide) (by decide))))
  have f25 := (f21.wr W22)
  obtain ⟨T26, h26, X26, e26, W26, st26⟩ := putF X22 hx hZ hown (host := "") (Or.inl (hw _ (List.mem_of_getElem? (i := 58) rfl))) Via.refl e22 f24 f25 (Or.inr ⟨(hw _ (List.mem_of_getElem? (i := 59) rfl)), rfl, hnm⟩) (hw _ (List.mem_of_getElem? (i := 14) rfl)) (ty := (.object "java/util/List")) (by decide) rfl rfl (g := (mkF m 41 #[.val (.ref oa), .val (.long qp), .second, .val (.ref oj), .val (.ref os), .val (.ref oe), .val (.ref ot), .val (.long qk), .second, .val (.ref ov), .val .null] [(.ref ov), (.ref oa)])) rfl rfl (hb hby d8_41)
  have N26 := Fr.snoc X26 N22 ga
  have Zs27 : n0 ≤ h26.size := by rw [W26.size]; exact Zs23
  have Fw26 := f24.same W26
  have f28 := (((((((F7.other W2 (Or.inr (slot_ne (Or.inr (hw _ (List.mem_of_getElem? (i := 61) rfl))) (Or.inr (hw _ (List.mem_of_getElem? (i := 47) rfl))) (by decide) (t := (.object "java/util/Optional")) (t' := .long) (by decide) (by decide)))).other W6 (Or.inr (slot_ne (Or.inr (hw _ (List.mem_of_getElem? (i := 61) rfl))) (Or.inr (hw _ (List.mem_of_getElem? (i := 49) rfl))) (by decide) (t := (.object "java/util/Optional")) (t' := (.object "java/util/List")) (by decide) (by decide)))).other W10 (Or.inr (slot_ne (Or.inr (hw _ (List.mem_of_getElem? (i := 61) rfl))) (Or.inr (hw _ (List.mem_of_getElem? (i := 51) rfl))) (by decide) (t := (.object "java/util/Optional")) (t' := (.array .long)) (by decide) (by decide)))).other W14 (Or.inr (slot_ne (Or.inr (hw _ (List.mem_of_getElem? (i := 61) rfl))) (Or.inr (hw _ (List.mem_of_getElem? (i := 53) rfl))) (by decide) (t := (.object "java/util/Optional")) (t' := (.array .long)) (by decide) (by decide)))).other W18 (Or.inr (slot_ne (Or.inr (hw _ (List.mem_of_getElem? (i := 61) rfl))) (Or.inr (hw _ (List.mem_of_getElem? (i := 55) rfl))) (by decide) (t := (.object "java/util/Optional")) (t' := (.array .boolean)) (by decide) (by decide)))).other W22 (Or.inr (slot_ne (Or.inr (hw _ (List.mem_of_getElem? (i := 61) rfl))) (Or.inr (hw _ (List.mem_of_getElem? (i := 57) rfl))) (by decide) (t := (.object "java/util/Optional")) (t' := .long) (by decide) (by decide)))).other W26 (Or.inr (slot_ne (Or.inr (hw _ (List.mem_of_getElem? (i := 61) rfl))) (Or.inr (hw _ (List.mem_of_getElem? (i := 59) rfl))) (by decide) (t := (.object "java/util/Optional")) (t' := (.object "java/util/List")) (by decide) (by decide))))
  have f29 := (f25.wr W26)
  obtain ⟨T30, h30, X30, e30, W30, st30⟩ := putF X26 hx hZ hown (host := "") (Or.inl (hw _ (List.mem_of_getElem? (i := 60) rfl))) Via.refl e26 f28 f29 (Or.inr ⟨(hw _ (List.mem_of_getElem? (i := 61) rfl)), rfl, hnm⟩) (hw _ (List.mem_of_getElem? (i := 14) rfl)) (ty := (.object "java/util/Optional")) (by decide) rfl rfl (g := (mkF m 47 #[.val (.ref oa), .val (.long qp), .second, .val (.ref oj), .val (.ref os), .val (.ref oe), .val (.ref ot), .val (.long qk), .second, .val (.ref ov), .val .null] [.null, (.ref oa)])) rfl rfl (hb hby d8_47)
  have N30 := Fr.snoc X30 N26 ga
  have Zs31 : n0 ≤ h30.size := by rw [W30.size]; exact Zs27
  have Fw30 := f28.same W30
  obtain ⟨fs, hr, hrun, hended, hW, hsame⟩ := X30.leave (v := none) (fun _ => rfl)
  refine ⟨_, _, pre0 _ ?_, hrun, hended, _, _, rfl, ?_, ⟨_, rfl⟩, hW, hsame.mono (by decide) (by decide)⟩
  · refine XS.aloadN X0.here hx rfl (hb hby d8_0) rfl rfl ?_
    refine st1 _ ?_
    refine XS.aloadN X1.here hx rfl (hb hby d8_4) rfl rfl ?_
    refine XS.lloadN X1.here hx rfl (hb hby d8_5) rfl ?_
    show Steps p.tables e below (T1.setTop (mkF m 6 #[.val (.ref oa), .val (.long qp), .second, .val (.ref oj), .val (.ref os), .val (.ref oe), .val (.ref ot), .val (.long qk), .second, .val (.ref ov), .val .null] [(.long qp), (.ref oa)])) _
    refine st2 _ ?_
    refine XS.aloadN X2.here hx rfl (hb hby d8_9) rfl rfl ?_
    refine XS.aloadN X2.here hx rfl (hb hby d8_10) rfl rfl ?_
    refine st6 _ ?_
    refine XS.aloadN X6.here hx rfl (hb hby d8_14) rfl rfl ?_
    show Steps p.tables e below (T6.setTop (mkF m 15 #[.val (.ref oa), .val (.long qp), .second, .val (.ref oj), .val (.ref os), .val (.ref oe), .val (.ref ot), .val (.long qk), .second, .val (.ref ov), .val .null] [(.ref oa)])) _
    refine XS.aload X6.here hx rfl (hb hby d8_15) rfl rfl ?_
    refine st10 _ ?_
    refine XS.aloadN X10.here hx rfl (hb hby d8_20) rfl rfl ?_
    refine XS.aload X10.here hx rfl (hb hby d8_21) rfl rfl ?_
    refine st14 _ ?_
    show Steps p.tables e below (T14.setTop (mkF m 26 #[.val (.ref oa), .val (.long qp), .second, .val (.ref oj), .val (.ref os), .val (.ref oe), .val (.ref ot), .val (.long qk), .second, .val (.ref ov), .val .null] [])) _
    refine XS.aloadN X14.here hx rfl (hb hby d8_26) rfl rfl ?_
    refine XS.aload X14.here hx rfl (hb hby d8_27) rfl rfl ?_
    refine st18 _ ?_
    refine XS.aloadN X18.here hx rfl (hb hby d8_32) rfl rfl ?_
    refine XS.lload X18.here hx rfl (hb hby d8_33) rfl ?_
    show Steps p.tables e below (T18.setTop (mkF m 35 #[.val (.ref oa), .val (.long qp), .second, .val (.ref oj), .val (.ref os), .val (.ref oe), .val (.ref ot), .val (.long qk), .second, .val (.ref ov), .val .null] [(.long qk), (.ref oa)])) _
    refine st22 _ ?_
    refine XS.aloadN X22.here hx rfl (hb hby d8_38) rfl rfl ?_
    refine XS.aload X22.here hx rfl (hb hby d8_39) rfl rfl ?_
    refine st26 _ ?_
    refine XS.aloadN X26.here hx rfl (hb hby d8_44) rfl rfl ?_
    show Steps p.tables e below (T26.setTop (mkF m 45 #[.val (.ref oa), .val (.long qp), .second, .val (.ref oj), .val (.ref os), .val (.ref oe), .val (.ref ot), .val (.long qk), .second, .val (.ref ov), .val .null] [(.ref oa)])) _
    refine XS.aload X26.here hx rfl (hb hby d8_45) rfl rfl ?_
    refine st30 _ ?_
    exact X30.returnOut hx Bd.returns (hb hby d8_50) hr
  · show Q8 Z oa qp oj os oe ot qk ov h0 n0 _ T30.heap _
    rw [e30]
    have f32 := (((((((((Keep.refl h0 [oa]).wr W2 (Or.inl (List.mem_of_getElem? (i := 0) rfl))).wr W6 (Or.inl (List.mem_of_getElem? (i := 0) rfl))).wr W10 (Or.inl (List.mem_of_getElem? (i := 0) rfl))).wr W14 (Or.inl (List.mem_of_getElem? (i := 0) rfl))).wr W18 (Or.inl (List.mem_of_getElem? (i := 0) rfl))).wr W22 (Or.inl (List.mem_of_getElem? (i := 0) rfl))).wr W26 (Or.inl (List.mem_of_getElem? (i := 0) rfl))).wr W30 (Or.inl (List.mem_of_getElem? (i := 0) rfl)))
    have f33 := (f29.wr W30)
    have f34 := (((Fw18.other W22 (Or.inr (slot_ne (Or.inr (hw _ (List.mem_of_getElem? (i := 55) rfl))) (Or.inr (hw _ (List.mem_of_getElem? (i := 57) rfl))) (by decide) (t := (.array .boolean)) (t' := .long) (by decide) (by decide)))).other W26 (Or.inr (slot_ne (Or.inr (hw _ (List.mem_of_getElem? (i := 55) rfl))) (Or.inr (hw _ (List.mem_of_getElem? (i := 59) rfl))) (by decide) (t := (.array .boolean)) (t' := (.object "java/util/List")) (by decide) (by decide)))).other W30 (Or.inr (slot_ne (Or.inr (hw _ (List.mem_of_getElem? (i := 55) rfl))) (Or.inr (hw _ (List.mem_of_getElem? (i := 61) rfl))) (by decide) (t := (.array .boolean)) (t' := (.object "java/util/Optional")) (by decide) (by decide))))
    exact ⟨rfl, N30, f32, f33, f34⟩
theorem d9_0 : decode prog_156_method_13_code 0 = .ok (.lconst 0, 1) := by decide +kernel
theorem d9_1 : decode prog_156_method_13_code 1 = .ok (.lstore_n 1, 1) := by decide +kernel
theorem d9_2 : decode prog_156_method_13_code 2 = .ok (.aload_n 0, 1) := by decide +kernel
theorem d9_3 : decode prog_156_method_13_code 3 = .ok (.getfield 24, 3) := by decide +kernel
theorem d9_6 : decode prog_156_method_13_code 6 = .ok (.astore_n 3, 1) := by decide +kernel
theorem d9_7 : decode prog_156_method_13_code 7 = .ok (.aload_n 3, 1) := by decide +kernel
theorem d9_8 : decode prog_156_method_13_code 8 = .ok (.arraylength, 1) := by decide +kernel
theorem d9_9 : decode prog_156_method_13_code 9 = .ok (.istore 4, 2) := by decide +kernel
theorem d9_11 : decode prog_156_method_13_code 11 = .ok (.iconst 0, 1) := by decide +kernel
theorem d9_12 : decode prog_156_method_13_code 12 = .ok (.istore 5, 2) := by decide +kernel
theorem d9_14 : decode prog_156_method_13_code 14 = .ok (.iload 5, 2) := by decide +kernel
theorem d9_16 : decode prog_156_method_13_code 16 = .ok (.iload 4, 2) := by decide +kernel
theorem d9_18 : decode prog_156_method_13_code 18 = .ok (.if_icmp .ge 24, 3) := by decide +kernel
theorem d9_21 : decode prog_156_method_13_code 21 = .ok (.aload_n 3, 1) := by decide +kernel
theorem d9_22 : decode prog_156_method_13_code 22 = .ok (.iload 5, 2) := by decide +kernel
theorem d9_24 : decode prog_156_method_13_code 24 = .ok (.baload, 1) := by decide +kernel
theorem d9_25 : decode prog_156_method_13_code 25 = .ok (.istore 6, 2) := by decide +kernel
theorem d9_27 : decode prog_156_method_13_code 27 = .ok (.iload 6, 2) := by decide +kernel
theorem d9_29 : decode prog_156_method_13_code 29 = .ok (.ifCond .eq 7, 3) := by decide +kernel
theorem d9_32 : decode prog_156_method_13_code 32 = .ok (.lload_n 1, 1) := by decide +kernel
theorem d9_33 : decode prog_156_method_13_code 33 = .ok (.lconst 1, 1) := by decide +kernel
theorem d9_34 : decode prog_156_method_13_code 34 = .ok (.ladd, 1) := by decide +kernel
theorem d9_35 : decode prog_156_method_13_code 35 = .ok (.lstore_n 1, 1) := by decide +kernel
theorem d9_36 : decode prog_156_method_13_code 36 = .ok (.iinc 5 1, 3) := by decide +kernel
theorem d9_39 : decode prog_156_method_13_code 39 = .ok (.goto (-25), 3) := by decide +kernel
theorem d9_42 : decode prog_156_method_13_code 42 = .ok (.lload_n 1, 1) := by decide +kernel
theorem d9_43 : decode prog_156_method_13_code 43 = .ok (.lreturn, 1) := by decide +kernel
theorem ef_rm_s8 (m : MethodId) (x0 : Addr) : entryFrame m #[(.ref x0)] 7 = mkF m 0 #[.val (.ref x0), .unset, .unset, .unset, .unset, .unset, .unset] [] := by first | (simp [entryFrame, mkF, argsToLocals, Value.category]; done) | rfl
def Q_s8 (Z : State) (oa : Addr) (ot : Addr) (kk : ClassId) (b0 : Int32) (b1 : Int32) (b2 : Int32) (b3 : Int32) (b4 : Int32) (b5 : Int32) (b6 : Int32) (b7 : Int32) (h0 : Heap) (n0 : Nat) (v : Option Value) (h : Heap) (L : List Loc) : Prop := ∃ z : Int64, v = some (.long z) ∧ (z.toInt = 0 + b0.toInt + b1.toInt + b2.toInt + b3.toInt + b4.toInt + b5.toInt + b6.toInt + b7.toInt) ∧ Fr n0 L ∧ h = h0
set_option maxRecDepth 65536 in
set_option maxHeartbeats 40000000 in
theorem rm_s8 (l : Launch) (Z : State) (a0 : Array Value) (hw : ∀ d ∈ tables_1, d.before a0 Z = true) (ws : List Jvm.Cond) (oa : Addr) (ot : Addr) (kk : ClassId) (b0 : Int32) (b1 : Int32) (b2 : Int32) (b3 : Int32) (b4 : Int32) (b5 : Int32) (b6 : Int32) (b7 : Int32) (h0 : Heap) (n0 : Nat) (Z0 : n0 ≤ h0.size) (Fs : Fld Z h0 oa "com/example/foreslot/foreslot/Schedule" "stopped" "[Z" (.ref ot)) (Vs : Arv Z h0 ot kk .boolean (8 : Int32) [(.int b0), (.int b1), (.int b2), (.int b3), (.int b4), (.int b5), (.int b6), (.int b7)] (.int (0 : Int32))) (qb0 : b0.toInt = 0 ∨ b0.toInt = 1) (qb1 : b1.toInt = 0 ∨ b1.toInt = 1) (qb2 : b2.toInt = 0 ∨ b2.toInt = 1) (qb3 : b3.toInt = 0 ∨ b3.toInt = 1) (qb4 : b4.toInt = 0 ∨ b4.toInt = 1) (qb5 : b5.toInt = 0 ∨ b5.toInt = 1) (qb6 : b6.toInt = 0 ∨ b6.toInt = 1) (qb7 : b7.toInt = 0 ∨ b7.toInt = 1) :
    MetFree l (⟨"com/example/foreslot/foreslot/Schedule", "stopped", "()J"⟩ : MethodName) (head1 (Jvm.Cond.code (⟨"com/example/foreslot/foreslot/Schedule", "stopped", "()J"⟩ : MethodName) prog_156_method_13_code 7 (some .long) :: ws) ({ frames := 0, cells := 0, slots := 0, locals := 0 } : Room)) (fun a U => a = #[(.ref oa)] ∧ Z.Warmed39 U.vm ∧ U.heap = h0) (fun _ _ _ _ _ => True) (fun _ U o U' => ∃ v L, o = .returned v ∧ Q_s8 Z oa ot kk b0 b1 b2 b3 b4 b5 b6 b7 h0 n0 v U'.heap L ∧ FrameEnd U o U' L ({ frames := 0, cells := 0, slots := 0, locals := 0 } : Room).cells ({ frames := 0, cells := 0, slots := 0, locals := 0 } : Room).slots) := by
  refine MetFree.of_bodySF (plainFor_of_name pn_4) hisR ?_
  intro p e s m args below meth c s₁ Bd hml0 hP hK
  obtain ⟨rfl, hZ, hh⟩ := hP
  have hx := Bd.exec
  have hby := Bd.bytes
  have hml : c.maxLocals = 7 := hml0
  have hown : s.vm.findClass "com/example/foreslot/foreslot/Schedule" = some m.cls := findClass_of_methodNamed Bd.named
  have hnm := (name_of_methodNamed Bd.named Bd.method).1
  have X0 : Stand p l e ({ frames := 0, cells := 0, slots := 0, locals := 0 } : Room) s m #[(.ref oa)] below meth c s₁ [] 0 0 := Stand.of_body Bd
  have e0 : s₁.heap = h0 := by rw [← hh, Bd.state]; rfl
  have N0 := Fr.nil n0
  have pre0 : ∀ t, Steps p.tables e below (s₁.setTop (mkF m 0 #[.val (.ref oa), .unset, .unset, .unset, .unset, .unset, .unset] [])) t → Steps p.tables e below (s₁.setTop (entryFrame m #[(.ref oa)] 7)) t := fun t k => castTop (ef_rm_s8 m oa) k
  obtain ⟨T1, X1, e1, st1⟩ := getF X0 hx hZ hown (host := "") (Or.inl (hw _ (List.mem_of_getElem? (i := 54) rfl))) Via.refl e0 Fs (g := (mkF m 3 #[.val (.ref oa), .val (.long (0 : Int64)), .second, .unset, .unset, .unset, .unset] [(.ref oa)])) rfl rfl (hb hby d9_3)
  obtain ⟨cl2, Ar2, q2, S2, M2, H2, G2⟩ := id Vs
  have hc18_3 : (0 : Int) < (8 : Int) := by decide
  obtain ⟨cl4, Ar4, q4, S4, M4, H4, G4⟩ := id Vs
  have hin4 : ¬ ((0 : Int32) < 0 ∨ cl4.slots.size ≤ ((0 : Int32)).toNatClampNeg) := inb_of S4 ⟨by decide, by decide⟩
  have hat4 : cl4.slots[((0 : Int32)).toNatClampNeg]? = some (.int b0) := Has.at H4 hin4 rfl
  have pre5 : ∀ t, Steps p.tables e below (T1.setTop (mkF m 27 #[.val (.ref oa), .val (.long (0 : Int64)), .second, .val (.ref ot), .val (.int (8 : Int32)), .val (.int (0 : Int32)), .val (.int b0)] [])) t → Steps p.tables e below (s₁.setTop (entryFrame m #[(.ref oa)] 7)) t := fun t kt => by
    refine pre0 _ ?_
    refine XS.lconst X0.here hx rfl (hb hby d9_0) ?_
    refine XS.lstoreN X0.here hx rfl (hb hby d9_1) rfl (l' := #[.val (.ref oa), .val (.long (0 : Int64)), .second, .unset, .unset, .unset, .unset]) rfl ?_
    refine XS.aloadN X0.here hx rfl (hb hby d9_2) rfl rfl ?_
    refine st1 _ ?_
    show Steps p.tables e below (T1.setTop (mkF m 6 #[.val (.ref oa), .val (.long (0 : Int64)), .second, .unset, .unset, .unset, .unset] [(.ref ot)])) _
    refine XS.astoreN X1.here hx rfl (hb hby d9_6) rfl rfl (l' := #[.val (.ref oa), .val (.long (0 : Int64)), .second, .val (.ref ot), .unset, .unset, .unset]) rfl ?_
    refine XS.aloadN X1.here hx rfl (hb hby d9_7) rfl rfl ?_
    refine X1.arraylength hx (by rw [e1]; exact Ar2.1) (State.isArrayOf_alike hZ.alike Ar2.2.1) (g := (mkF m 8 #[.val (.ref oa), .val (.long (0 : Int64)), .second, .val (.ref ot), .unset, .unset, .unset] [(.ref ot)])) rfl rfl (hb hby d9_8) _ ?_
    rw [len_of S2 M2]
    refine XS.istore X1.here hx rfl (hb hby d9_9) rfl (l' := #[.val (.ref oa), .val (.long (0 : Int64)), .second, .val (.ref ot), .val (.int (8 : Int32)), .unset, .unset]) rfl ?_
    refine XS.iconst X1.here hx rfl (hb hby d9_11) ?_
    show Steps p.tables e below (T1.setTop (mkF m 12 #[.val (.ref oa), .val (.long (0 : Int64)), .second, .val (.ref ot), .val (.int (8 : Int32)), .unset, .unset] [(.int (0 : Int32))])) _
    refine XS.istore X1.here hx rfl (hb hby d9_12) rfl (l' := #[.val (.ref oa), .val (.long (0 : Int64)), .second, .val (.ref ot), .val (.int (8 : Int32)), .val (.int (0 : Int32)), .unset]) rfl ?_
    refine XS.iload X1.here hx rfl (hb hby d9_14) rfl ?_
    refine XS.iload X1.here hx rfl (hb hby d9_16) rfl ?_
    refine XS.icmpNo X1.here hx rfl (hb hby d9_18) rfl (own_tlt (a := (0 : Int32)) (b := (8 : Int32)) (by decide) (by decide) hc18_3).2.1 ?_
    refine XS.aloadN X1.here hx rfl (hb hby d9_21) rfl rfl ?_
    show Steps p.tables e below (T1.setTop (mkF m 22 #[.val (.ref oa), .val (.long (0 : Int64)), .second, .val (.ref ot), .val (.int (8 : Int32)), .val (.int (0 : Int32)), .unset] [(.ref ot)])) _
    refine XS.iload X1.here hx rfl (hb hby d9_22) rfl ?_
    refine X1.baloadBooleans hx (j := (0 : Int32)) (v := (.int b0)) (by rw [e1]; exact Ar4.1) (State.isArrayOf_alike hZ.alike Ar4.2.1) Ar4.2.2 hin4 hat4 (g := (mkF m 24 #[.val (.ref oa), .val (.long (0 : Int64)), .second, .val (.ref ot), .val (.int (8 : Int32)), .val (.int (0 : Int32)), .unset] [(.int (0 : Int32)), (.ref ot)])) rfl rfl (hb hby d9_24) _ ?_
    refine XS.istore X1.here hx rfl (hb hby d9_25) rfl (l' := #[.val (.ref oa), .val (.long (0 : Int64)), .second, .val (.ref ot), .val (.int (8 : Int32)), .val (.int (0 : Int32)), .val (.int b0)]) rfl ?_
    exact kt
  obtain ⟨ct0, hct0, pre10⟩ : ∃ ct0 : Int64, (ct0.toInt = 0 + b0.toInt ∧ 0 ≤ ct0.toInt ∧ ct0.toInt ≤ 1) ∧ ∀ t, Steps p.tables e below (T1.setTop (mkF m 36 #[.val (.ref oa), .val (.long ct0), .second, .val (.ref ot), .val (.int (8 : Int32)), .val (.int (0 : Int32)), .val (.int b0)] [])) t → Steps p.tables e below (s₁.setTop (entryFrame m #[(.ref oa)] 7)) t := by
    have pre7 : ∀ t, Steps p.tables e below (T1.setTop (mkF m 29 #[.val (.ref oa), .val (.long (0 : Int64)), .second, .val (.ref ot), .val (.int (8 : Int32)), .val (.int (0 : Int32)), .val (.int b0)] [(.int b0)])) t → Steps p.tables e below (s₁.setTop (entryFrame m #[(.ref oa)] 7)) t := fun t kt => by
      refine pre5 _ ?_
      refine XS.iload X1.here hx rfl (hb hby d9_27) rfl ?_
      exact kt
    by_cases hc29_6 : b0.toInt = (0 : Int)
    · have pre8 : ∀ t, Steps p.tables e below (T1.setTop (mkF m 36 #[.val (.ref oa), .val (.long (0 : Int64)), .second, .val (.ref ot), .val (.int (8 : Int32)), .val (.int (0 : Int32)), .val (.int b0)] [])) t → Steps p.tables e below (s₁.setTop (entryFrame m #[(.ref oa)] 7)) t := fun t kt => by
        refine pre7 _ ?_
        show Steps p.tables e below (T1.setTop (mkF m 29 #[.val (.ref oa), .val (.long (0 : Int64)), .second, .val (.ref ot), .val (.int (8 : Int32)), .val (.int (0 : Int32)), .val (.int b0)] [(.int b0)])) _
        refine XS.ifYes X1.here hx rfl (pc0 := 29) (pc' := 36) rfl (hb hby d9_29) rfl (own_if (own_teq (a := b0) (b := (0 : Int32)) rfl (by decide) hc29_6).1) (by decide) (by decide) ?_
        exact kt
      exact ⟨(0 : Int64), by have : ((0 : Int64)).toInt = (0 : Int) := (by decide); omega, pre8⟩
    · have pre9 : ∀ t, Steps p.tables e below (T1.setTop (mkF m 36 #[.val (.ref oa), .val (.long (1 : Int64)), .second, .val (.ref ot), .val (.int (8 : Int32)), .val (.int (0 : Int32)), .val (.int b0)] [])) t → Steps p.tables e below (s₁.setTop (entryFrame m #[(.ref oa)] 7)) t := fun t kt => by
        refine pre7 _ ?_
        show Steps p.tables e below (T1.setTop (mkF m 29 #[.val (.ref oa), .val (.long (0 : Int64)), .second, .val (.ref ot), .val (.int (8 : Int32)), .val (.int (0 : Int32)), .val (.int b0)] [(.int b0)])) _
        refine XS.ifNo X1.here hx rfl (hb hby d9_29) rfl (own_if (own_feq (a := b0) (b := (0 : Int32)) rfl (by decide) hc29_6).1) ?_
        refine XS.lloadN X1.here hx rfl (hb hby d9_32) rfl ?_
        refine XS.lconst X1.here hx rfl (hb hby d9_33) ?_
        refine XS.ladd X1.here hx rfl (hb hby d9_34) rfl ?_
        refine XS.lstoreN X1.here hx rfl (hb hby d9_35) rfl (l' := #[.val (.ref oa), .val (.long (1 : Int64)), .second, .val (.ref ot), .val (.int (8 : Int32)), .val (.int (0 : Int32)), .val (.int b0)]) rfl ?_
        exact kt
      exact ⟨(1 : Int64), by have : ((1 : Int64)).toInt = (1 : Int) := (by decide); omega, pre9⟩
  have hc18_11 : (1 : Int) < (8 : Int) := by decide
  obtain ⟨cl12, Ar12, q12, S12, M12, H12, G12⟩ := id Vs
  have hin12 : ¬ ((1 : Int32) < 0 ∨ cl12.slots.size ≤ ((1 : Int32)).toNatClampNeg) := inb_of S12 ⟨by decide, by decide⟩
  have hat12 : cl12.slots[((1 : Int32)).toNatClampNeg]? = some (.int b1) := Has.at H12 hin12 rfl
  have pre13 : ∀ t, Steps p.tables e below (T1.setTop (mkF m 27 #[.val (.ref oa), .val (.long ct0), .second, .val (.ref ot), .val (.int (8 : Int32)), .val (.int (1 : Int32)), .val (.int b1)] [])) t → Steps p.tables e below (s₁.setTop (entryFrame m #[(.ref oa)] 7)) t := fun t kt => by
    refine pre10 _ ?_
    refine XS.iinc X1.here hx rfl (hb hby d9_36) rfl (l' := #[.val (.ref oa), .val (.long ct0), .second, .val (.ref ot), .val (.int (8 : Int32)), .val (.int (1 : Int32)), .val (.int b0)]) rfl ?_
    refine XS.goto X1.here hx rfl (pc0 := 39) (pc' := 14) rfl (hb hby d9_39) (by decide) (by decide) ?_
    show Steps p.tables e below (T1.setTop (mkF m 14 #[.val (.ref oa), .val (.long ct0), .second, .val (.ref ot), .val (.int (8 : Int32)), .val (.int (1 : Int32)), .val (.int b0)] [])) _
    refine XS.iload X1.here hx rfl (hb hby d9_14) rfl ?_
    refine XS.iload X1.here hx rfl (hb hby d9_16) rfl ?_
    refine XS.icmpNo X1.here hx rfl (hb hby d9_18) rfl (own_tlt (a := (1 : Int32)) (b := (8 : Int32)) (by decide) (by decide) hc18_11).2.1 ?_
    refine XS.aloadN X1.here hx rfl (hb hby d9_21) rfl rfl ?_
    refine XS.iload X1.here hx rfl (hb hby d9_22) rfl ?_
    show Steps p.tables e below (T1.setTop (mkF m 24 #[.val (.ref oa), .val (.long ct0), .second, .val (.ref ot), .val (.int (8 : Int32)), .val (.int (1 : Int32)), .val (.int b0)] [(.int (1 : Int32)), (.ref ot)])) _
    refine X1.baloadBooleans hx (j := (1 : Int32)) (v := (.int b1)) (by rw [e1]; exact Ar12.1) (State.isArrayOf_alike hZ.alike Ar12.2.1) Ar12.2.2 hin12 hat12 (g := (mkF m 24 #[.val (.ref oa), .val (.long ct0), .second, .val (.ref ot), .val (.int (8 : Int32)), .val (.int (1 : Int32)), .val (.int b0)] [(.int (1 : Int32)), (.ref ot)])) rfl rfl (hb hby d9_24) _ ?_
    refine XS.istore X1.here hx rfl (hb hby d9_25) rfl (l' := #[.val (.ref oa), .val (.long ct0), .second, .val (.ref ot), .val (.int (8 : Int32)), .val (.int (1 : Int32)), .val (.int b1)]) rfl ?_
    exact kt
  obtain ⟨ct1, hct1, pre18⟩ : ∃ ct1 : Int64, (ct1.toInt = 0 + b0.toInt + b1.toInt ∧ 0 ≤ ct1.toInt ∧ ct1.toInt ≤ 2) ∧ ∀ t, Steps p.tables e below (T1.setTop (mkF m 36 #[.val (.ref oa), .val (.long ct1), .second, .val (.ref ot), .val (.int (8 : Int32)), .val (.int (1 : Int32)), .val (.int b1)] [])) t → Steps p.tables e below (s₁.setTop (entryFrame m #[(.ref oa)] 7)) t := by
    have pre15 : ∀ t, Steps p.tables e below (T1.setTop (mkF m 29 #[.val (.ref oa), .val (.long ct0), .second, .val (.ref ot), .val (.int (8 : Int32)), .val (.int (1 : Int32)), .val (.int b1)] [(.int b1)])) t → Steps p.tables e below (s₁.setTop (entryFrame m #[(.ref oa)] 7)) t := fun t kt => by
      refine pre13 _ ?_
      refine XS.iload X1.here hx rfl (hb hby d9_27) rfl ?_
      exact kt
    by_cases hc29_14 : b1.toInt = (0 : Int)
    · have pre16 : ∀ t, Steps p.tables e below (T1.setTop (mkF m 36 #[.val (.ref oa), .val (.long ct0), .second, .val (.ref ot), .val (.int (8 : Int32)), .val (.int (1 : Int32)), .val (.int b1)] [])) t → Steps p.tables e below (s₁.setTop (entryFrame m #[(.ref oa)] 7)) t := fun t kt => by
        refine pre15 _ ?_
        show Steps p.tables e below (T1.setTop (mkF m 29 #[.val (.ref oa), .val (.long ct0), .second, .val (.ref ot), .val (.int (8 : Int32)), .val (.int (1 : Int32)), .val (.int b1)] [(.int b1)])) _
        refine XS.ifYes X1.here hx rfl (pc0 := 29) (pc' := 36) rfl (hb hby d9_29) rfl (own_if (own_teq (a := b1) (b := (0 : Int32)) rfl (by decide) hc29_14).1) (by decide) (by decide) ?_
        exact kt
      exact ⟨ct0, by have := rng64 ct0; omega, pre16⟩
    · have pre17 : ∀ t, Steps p.tables e below (T1.setTop (mkF m 36 #[.val (.ref oa), .val (.long (ct0 + (1 : Int64))), .second, .val (.ref ot), .val (.int (8 : Int32)), .val (.int (1 : Int32)), .val (.int b1)] [])) t → Steps p.tables e below (s₁.setTop (entryFrame m #[(.ref oa)] 7)) t := fun t kt => by
        refine pre15 _ ?_
        show Steps p.tables e below (T1.setTop (mkF m 29 #[.val (.ref oa), .val (.long ct0), .second, .val (.ref ot), .val (.int (8 : Int32)), .val (.int (1 : Int32)), .val (.int b1)] [(.int b1)])) _
        refine XS.ifNo X1.here hx rfl (hb hby d9_29) rfl (own_if (own_feq (a := b1) (b := (0 : Int32)) rfl (by decide) hc29_14).1) ?_
        show Steps p.tables e below (T1.setTop (mkF m 32 #[.val (.ref oa), .val (.long ct0), .second, .val (.ref ot), .val (.int (8 : Int32)), .val (.int (1 : Int32)), .val (.int b1)] [])) _
        refine XS.lloadN X1.here hx rfl (hb hby d9_32) rfl ?_
        refine XS.lconst X1.here hx rfl (hb hby d9_33) ?_
        refine XS.ladd X1.here hx rfl (hb hby d9_34) rfl ?_
        refine XS.lstoreN X1.here hx rfl (hb hby d9_35) rfl (l' := #[.val (.ref oa), .val (.long (ct0 + (1 : Int64))), .second, .val (.ref ot), .val (.int (8 : Int32)), .val (.int (1 : Int32)), .val (.int b1)]) rfl ?_
        exact kt
      exact ⟨(ct0 + (1 : Int64)), by have := rng64 ct0; (first | (have : ((ct0 + (1 : Int64))).toInt = ct0.toInt + (1 : Int) := (by have : (((ct0 + (1 : Int64))).toInt - (ct0.toInt + (1 : Int))) % 18446744073709551616 = 0 := c_ladd ct0 (1 : Int64); have := rng64 (ct0 + (1 : Int64)); omega)) | (have : (((ct0 + (1 : Int64))).toInt - (ct0.toInt + (1 : Int))) % 18446744073709551616 = 0 := c_ladd ct0 (1 : Int64); have := rng64 (ct0 + (1 : Int64)))); omega, pre17⟩
  have hc18_19 : (2 : Int) < (8 : Int) := by decide
  obtain ⟨cl20, Ar20, q20, S20, M20, H20, G20⟩ := id Vs
  have hin20 : ¬ ((2 : Int32) < 0 ∨ cl20.slots.size ≤ ((2 : Int32)).toNatClampNeg) := inb_of S20 ⟨by decide, by decide⟩
  have hat20 : cl20.slots[((2 : Int32)).toNatClampNeg]? = some (.int b2) := Has.at H20 hin20 rfl
  have pre21 : ∀ t, Steps p.tables e below (T1.setTop (mkF m 27 #[.val (.ref oa), .val (.long ct1), .second, .val (.ref ot), .val (.int (8 : Int32)), .val (.int (2 : Int32)), .val (.int b2)] [])) t → Steps p.tables e below (s₁.setTop (entryFrame m #[(.ref oa)] 7)) t := fun t kt => by
    refine pre18 _ ?_
    refine XS.iinc X1.here hx rfl (hb hby d9_36) rfl (l' := #[.val (.ref oa), .val (.long ct1), .second, .val (.ref ot), .val (.int (8 : Int32)), .val (.int (2 : Int32)), .val (.int b1)]) rfl ?_
    refine XS.goto X1.here hx rfl (pc0 := 39) (pc' := 14) rfl (hb hby d9_39) (by decide) (by decide) ?_
    refine XS.iload X1.here hx rfl (hb hby d9_14) rfl ?_
    show Steps p.tables e below (T1.setTop (mkF m 16 #[.val (.ref oa), .val (.long ct1), .second, .val (.ref ot), .val (.int (8 : Int32)), .val (.int (2 : Int32)), .val (.int b1)] [(.int (2 : Int32))])) _
    refine XS.iload X1.here hx rfl (hb hby d9_16) rfl ?_
    refine XS.icmpNo X1.here hx rfl (hb hby d9_18) rfl (own_tlt (a := (2 : Int32)) (b := (8 : Int32)) (by decide) (by decide) hc18_19).2.1 ?_
    refine XS.aloadN X1.here hx rfl (hb hby d9_21) rfl rfl ?_
    refine XS.iload X1.here hx rfl (hb hby d9_22) rfl ?_
    refine X1.baloadBooleans hx (j := (2 : Int32)) (v := (.int b2)) (by rw [e1]; exact Ar20.1) (State.isArrayOf_alike hZ.alike Ar20.2.1) Ar20.2.2 hin20 hat20 (g := (mkF m 24 #[.val (.ref oa), .val (.long ct1), .second, .val (.ref ot), .val (.int (8 : Int32)), .val (.int (2 : Int32)), .val (.int b1)] [(.int (2 : Int32)), (.ref ot)])) rfl rfl (hb hby d9_24) _ ?_
    show Steps p.tables e below (T1.setTop (mkF m 25 #[.val (.ref oa), .val (.long ct1), .second, .val (.ref ot), .val (.int (8 : Int32)), .val (.int (2 : Int32)), .val (.int b1)] [(.int b2)])) _
    refine XS.istore X1.here hx rfl (hb hby d9_25) rfl (l' := #[.val (.ref oa), .val (.long ct1), .second, .val (.ref ot), .val (.int (8 : Int32)), .val (.int (2 : Int32)), .val (.int b2)]) rfl ?_
    exact kt
  obtain ⟨ct2, hct2, pre26⟩ : ∃ ct2 : Int64, (ct2.toInt = 0 + b0.toInt + b1.toInt + b2.toInt ∧ 0 ≤ ct2.toInt ∧ ct2.toInt ≤ 3) ∧ ∀ t, Steps p.tables e below (T1.setTop (mkF m 36 #[.val (.ref oa), .val (.long ct2), .second, .val (.ref ot), .val (.int (8 : Int32)), .val (.int (2 : Int32)), .val (.int b2)] [])) t → Steps p.tables e below (s₁.setTop (entryFrame m #[(.ref oa)] 7)) t := by
    have pre23 : ∀ t, Steps p.tables e below (T1.setTop (mkF m 29 #[.val (.ref oa), .val (.long ct1), .second, .val (.ref ot), .val (.int (8 : Int32)), .val (.int (2 : Int32)), .val (.int b2)] [(.int b2)])) t → Steps p.tables e below (s₁.setTop (entryFrame m #[(.ref oa)] 7)) t := fun t kt => by
      refine pre21 _ ?_
      refine XS.iload X1.here hx rfl (hb hby d9_27) rfl ?_
      exact kt
    by_cases hc29_22 : b2.toInt = (0 : Int)
    · have pre24 : ∀ t, Steps p.tables e below (T1.setTop (mkF m 36 #[.val (.ref oa), .val (.long ct1), .second, .val (.ref ot), .val (.int (8 : Int32)), .val (.int (2 : Int32)), .val (.int b2)] [])) t → Steps p.tables e below (s₁.setTop (entryFrame m #[(.ref oa)] 7)) t := fun t kt => by
        refine pre23 _ ?_
        show Steps p.tables e below (T1.setTop (mkF m 29 #[.val (.ref oa), .val (.long ct1), .second, .val (.ref ot), .val (.int (8 : Int32)), .val (.int (2 : Int32)), .val (.int b2)] [(.int b2)])) _
        refine XS.ifYes X1.here hx rfl (pc0 := 29) (pc' := 36) rfl (hb hby d9_29) rfl (own_if (own_teq (a := b2) (b := (0 : Int32)) rfl (by decide) hc29_22).1) (by decide) (by decide) ?_
        exact kt
      exact ⟨ct1, by have := rng64 ct1; omega, pre24⟩
    · have pre25 : ∀ t, Steps p.tables e below (T1.setTop (mkF m 36 #[.val (.ref oa), .val (.long (ct1 + (1 : Int64))), .second, .val (.ref ot), .val (.int (8 : Int32)), .val (.int (2 : Int32)), .val (.int b2)] [])) t → Steps p.tables e below (s₁.setTop (entryFrame m #[(.ref oa)] 7)) t := fun t kt => by
        refine pre23 _ ?_
        show Steps p.tables e below (T1.setTop (mkF m 29 #[.val (.ref oa), .val (.long ct1), .second, .val (.ref ot), .val (.int (8 : Int32)), .val (.int (2 : Int32)), .val (.int b2)] [(.int b2)])) _
        refine XS.ifNo X1.here hx rfl (hb hby d9_29) rfl (own_if (own_feq (a := b2) (b := (0 : Int32)) rfl (by decide) hc29_22).1) ?_
        refine XS.lloadN X1.here hx rfl (hb hby d9_32) rfl ?_
        show Steps p.tables e below (T1.setTop (mkF m 33 #[.val (.ref oa), .val (.long ct1), .second, .val (.ref ot), .val (.int (8 : Int32)), .val (.int (2 : Int32)), .val (.int b2)] [(.long ct1)])) _
        refine XS.lconst X1.here hx rfl (hb hby d9_33) ?_
        refine XS.ladd X1.here hx rfl (hb hby d9_34) rfl ?_
        refine XS.lstoreN X1.here hx rfl (hb hby d9_35) rfl (l' := #[.val (.ref oa), .val (.long (ct1 + (1 : Int64))), .second, .val (.ref ot), .val (.int (8 : Int32)), .val (.int (2 : Int32)), .val (.int b2)]) rfl ?_
        exact kt
      exact ⟨(ct1 + (1 : Int64)), by have := rng64 ct1; (first | (have : ((ct1 + (1 : Int64))).toInt = ct1.toInt + (1 : Int) := (by have : (((ct1 + (1 : Int64))).toInt - (ct1.toInt + (1 : Int))) % 18446744073709551616 = 0 := c_ladd ct1 (1 : Int64); have := rng64 (ct1 + (1 : Int64)); omega)) | (have : (((ct1 + (1 : Int64))).toInt - (ct1.toInt + (1 : Int))) % 18446744073709551616 = 0 := c_ladd ct1 (1 : Int64); have := rng64 (ct1 + (1 : Int64)))); omega, pre25⟩
  have hc18_27 : (3 : Int) < (8 : Int) := by decide
  obtain ⟨cl28, Ar28, q28, S28, M28, H28, G28⟩ := id Vs
  have hin28 : ¬ ((3 : Int32) < 0 ∨ cl28.slots.size ≤ ((3 : Int32)).toNatClampNeg) := inb_of S28 ⟨by decide, by decide⟩
  have hat28 : cl28.slots[((3 : Int32)).toNatClampNeg]? = some (.int b3) := Has.at H28 hin28 rfl
  have pre29 : ∀ t, Steps p.tables e below (T1.setTop (mkF m 27 #[.val (.ref oa), .val (.long ct2), .second, .val (.ref ot), .val (.int (8 : Int32)), .val (.int (3 : Int32)), .val (.int b3)] [])) t → Steps p.tables e below (s₁.setTop (entryFrame m #[(.ref oa)] 7)) t := fun t kt => by
    refine pre26 _ ?_
    refine XS.iinc X1.here hx rfl (hb hby d9_36) rfl (l' := #[.val (.ref oa), .val (.long ct2), .second, .val (.ref ot), .val (.int (8 : Int32)), .val (.int (3 : Int32)), .val (.int b2)]) rfl ?_
    refine XS.goto X1.here hx rfl (pc0 := 39) (pc' := 14) rfl (hb hby d9_39) (by decide) (by decide) ?_
    refine XS.iload X1.here hx rfl (hb hby d9_14) rfl ?_
    refine XS.iload X1.here hx rfl (hb hby d9_16) rfl ?_
    show Steps p.tables e below (T1.setTop (mkF m 18 #[.val (.ref oa), .val (.long ct2), .second, .val (.ref ot), .val (.int (8 : Int32)), .val (.int (3 : Int32)), .val (.int b2)] [(.int (8 : Int32)), (.int (3 : Int32))])) _
    refine XS.icmpNo X1.here hx rfl (hb hby d9_18) rfl (own_tlt (a := (3 : Int32)) (b := (8 : Int32)) (by decide) (by decide) hc18_27).2.1 ?_
    refine XS.aloadN X1.here hx rfl (hb hby d9_21) rfl rfl ?_
    refine XS.iload X1.here hx rfl (hb hby d9_22) rfl ?_
    refine X1.baloadBooleans hx (j := (3 : Int32)) (v := (.int b3)) (by rw [e1]; exact Ar28.1) (State.isArrayOf_alike hZ.alike Ar28.2.1) Ar28.2.2 hin28 hat28 (g := (mkF m 24 #[.val (.ref oa), .val (.long ct2), .second, .val (.ref ot), .val (.int (8 : Int32)), .val (.int (3 : Int32)), .val (.int b2)] [(.int (3 : Int32)), (.ref ot)])) rfl rfl (hb hby d9_24) _ ?_
    refine XS.istore X1.here hx rfl (hb hby d9_25) rfl (l' := #[.val (.ref oa), .val (.long ct2), .second, .val (.ref ot), .val (.int (8 : Int32)), .val (.int (3 : Int32)), .val (.int b3)]) rfl ?_
    exact kt
  obtain ⟨ct3, hct3, pre34⟩ : ∃ ct3 : Int64, (ct3.toInt = 0 + b0.toInt + b1.toInt + b2.toInt + b3.toInt ∧ 0 ≤ ct3.toInt ∧ ct3.toInt ≤ 4) ∧ ∀ t, Steps p.tables e below (T1.setTop (mkF m 36 #[.val (.ref oa), .val (.long ct3), .second, .val (.ref ot), .val (.int (8 : Int32)), .val (.int (3 : Int32)), .val (.int b3)] [])) t → Steps p.tables e below (s₁.setTop (entryFrame m #[(.ref oa)] 7)) t := by
    have pre31 : ∀ t, Steps p.tables e below (T1.setTop (mkF m 29 #[.val (.ref oa), .val (.long ct2), .second, .val (.ref ot), .val (.int (8 : Int32)), .val (.int (3 : Int32)), .val (.int b3)] [(.int b3)])) t → Steps p.tables e below (s₁.setTop (entryFrame m #[(.ref oa)] 7)) t := fun t kt => by
      refine pre29 _ ?_
      show Steps p.tables e below (T1.setTop (mkF m 27 #[.val (.ref oa), .val (.long ct2), .second, .val (.ref ot), .val (.int (8 : Int32)), .val (.int (3 : Int32)), .val (.int b3)] [])) _
      refine XS.iload X1.here hx rfl (hb hby d9_27) rfl ?_
      exact kt
    by_cases hc29_30 : b3.toInt = (0 : Int)
    · have pre32 : ∀ t, Steps p.tables e below (T1.setTop (mkF m 36 #[.val (.ref oa), .val (.long ct2), .second, .val (.ref ot), .val (.int (8 : Int32)), .val (.int (3 : Int32)), .val (.int b3)] [])) t → Steps p.tables e below (s₁.setTop (entryFrame m #[(.ref oa)] 7)) t := fun t kt => by
        refine pre31 _ ?_
        show Steps p.tables e below (T1.setTop (mkF m 29 #[.val (.ref oa), .val (.long ct2), .second, .val (.ref ot), .val (.int (8 : Int32)), .val (.int (3 : Int32)), .val (.int b3)] [(.int b3)])) _
        refine XS.ifYes X1.here hx rfl (pc0 := 29) (pc' := 36) rfl (hb hby d9_29) rfl (own_if (own_teq (a := b3) (b := (0 : Int32)) rfl (by decide) hc29_30).1) (by decide) (by decide) ?_
        exact kt
      exact ⟨ct2, by have := rng64 ct2; omega, pre32⟩
    · have pre33 : ∀ t, Steps p.tables e below (T1.setTop (mkF m 36 #[.val (.ref oa), .val (.long (ct2 + (1 : Int64))), .second, .val (.ref ot), .val (.int (8 : Int32)), .val (.int (3 : Int32)), .val (.int b3)] [])) t → Steps p.tables e below (s₁.setTop (entryFrame m #[(.ref oa)] 7)) t := fun t kt => by
        refine pre31 _ ?_
        show Steps p.tables e below (T1.setTop (mkF m 29 #[.val (.ref oa), .val (.long ct2), .second, .val (.ref ot), .val (.int (8 : Int32)), .val (.int (3 : Int32)), .val (.int b3)] [(.int b3)])) _
        refine XS.ifNo X1.here hx rfl (hb hby d9_29) rfl (own_if (own_feq (a := b3) (b := (0 : Int32)) rfl (by decide) hc29_30).1) ?_
        refine XS.lloadN X1.here hx rfl (hb hby d9_32) rfl ?_
        refine XS.lconst X1.here hx rfl (hb hby d9_33) ?_
        show Steps p.tables e below (T1.setTop (mkF m 34 #[.val (.ref oa), .val (.long ct2), .second, .val (.ref ot), .val (.int (8 : Int32)), .val (.int (3 : Int32)), .val (.int b3)] [(.long (1 : Int64)), (.long ct2)])) _
        refine XS.ladd X1.here hx rfl (hb hby d9_34) rfl ?_
        refine XS.lstoreN X1.here hx rfl (hb hby d9_35) rfl (l' := #[.val (.ref oa), .val (.long (ct2 + (1 : Int64))), .second, .val (.ref ot), .val (.int (8 : Int32)), .val (.int (3 : Int32)), .val (.int b3)]) rfl ?_
        exact kt
      exact ⟨(ct2 + (1 : Int64)), by have := rng64 ct2; (first | (have : ((ct2 + (1 : Int64))).toInt = ct2.toInt + (1 : Int) := (by have : (((ct2 + (1 : Int64))).toInt - (ct2.toInt + (1 : Int))) % 18446744073709551616 = 0 := c_ladd ct2 (1 : Int64); have := rng64 (ct2 + (1 : Int64)); omega)) | (have : (((ct2 + (1 : Int64))).toInt - (ct2.toInt + (1 : Int))) % 18446744073709551616 = 0 := c_ladd ct2 (1 : Int64); have := rng64 (ct2 + (1 : Int64)))); omega, pre33⟩
  have hc18_35 : (4 : Int) < (8 : Int) := by decide
  obtain ⟨cl36, Ar36, q36, S36, M36, H36, G36⟩ := id Vs
  have hin36 : ¬ ((4 : Int32) < 0 ∨ cl36.slots.size ≤ ((4 : Int32)).toNatClampNeg) := inb_of S36 ⟨by decide, by decide⟩
  have hat36 : cl36.slots[((4 : Int32)).toNatClampNeg]? = some (.int b4) := Has.at H36 hin36 rfl
  have pre37 : ∀ t, Steps p.tables e below (T1.setTop (mkF m 27 #[.val (.ref oa), .val (.long ct3), .second, .val (.ref ot), .val (.int (8 : Int32)), .val (.int (4 : Int32)), .val (.int b4)] [])) t → Steps p.tables e below (s₁.setTop (entryFrame m #[(.ref oa)] 7)) t := fun t kt => by
    refine pre34 _ ?_
    show Steps p.tables e below (T1.setTop (mkF m 36 #[.val (.ref oa), .val (.long ct3), .second, .val (.ref ot), .val (.int (8 : Int32)), .val (.int (3 : Int32)), .val (.int b3)] [])) _
    refine XS.iinc X1.here hx rfl (hb hby d9_36) rfl (l' := #[.val (.ref oa), .val (.long ct3), .second, .val (.ref ot), .val (.int (8 : Int32)), .val (.int (4 : Int32)), .val (.int b3)]) rfl ?_
    refine XS.goto X1.here hx rfl (pc0 := 39) (pc' := 14) rfl (hb hby d9_39) (by decide) (by decide) ?_
    refine XS.iload X1.here hx rfl (hb hby d9_14) rfl ?_
    refine XS.iload X1.here hx rfl (hb hby d9_16) rfl ?_
    refine XS.icmpNo X1.here hx rfl (hb hby d9_18) rfl (own_tlt (a := (4 : Int32)) (b := (8 : Int32)) (by decide) (by decide) hc18_35).2.1 ?_
    show Steps p.tables e below (T1.setTop (mkF m 21 #[.val (.ref oa), .val (.long ct3), .second, .val (.ref ot), .val (.int (8 : Int32)), .val (.int (4 : Int32)), .val (.int b3)] [])) _
    refine XS.aloadN X1.here hx rfl (hb hby d9_21) rfl rfl ?_
    refine XS.iload X1.here hx rfl (hb hby d9_22) rfl ?_
    refine X1.baloadBooleans hx (j := (4 : Int32)) (v := (.int b4)) (by rw [e1]; exact Ar36.1) (State.isArrayOf_alike hZ.alike Ar36.2.1) Ar36.2.2 hin36 hat36 (g := (mkF m 24 #[.val (.ref oa), .val (.long ct3), .second, .val (.ref ot), .val (.int (8 : Int32)), .val (.int (4 : Int32)), .val (.int b3)] [(.int (4 : Int32)), (.ref ot)])) rfl rfl (hb hby d9_24) _ ?_
    refine XS.istore X1.here hx rfl (hb hby d9_25) rfl (l' := #[.val (.ref oa), .val (.long ct3), .second, .val (.ref ot), .val (.int (8 : Int32)), .val (.int (4 : Int32)), .val (.int b4)]) rfl ?_
    exact kt
  obtain ⟨ct4, hct4, pre42⟩ : ∃ ct4 : Int64, (ct4.toInt = 0 + b0.toInt + b1.toInt + b2.toInt + b3.toInt + b4.toInt ∧ 0 ≤ ct4.toInt ∧ ct4.toInt ≤ 5) ∧ ∀ t, Steps p.tables e below (T1.setTop (mkF m 36 #[.val (.ref oa), .val (.long ct4), .second, .val (.ref ot), .val (.int (8 : Int32)), .val (.int (4 : Int32)), .val (.int b4)] [])) t → Steps p.tables e below (s₁.setTop (entryFrame m #[(.ref oa)] 7)) t := by
    have pre39 : ∀ t, Steps p.tables e below (T1.setTop (mkF m 29 #[.val (.ref oa), .val (.long ct3), .second, .val (.ref ot), .val (.int (8 : Int32)), .val (.int (4 : Int32)), .val (.int b4)] [(.int b4)])) t → Steps p.tables e below (s₁.setTop (entryFrame m #[(.ref oa)] 7)) t := fun t kt => by
      refine pre37 _ ?_
      refine XS.iload X1.here hx rfl (hb hby d9_27) rfl ?_
      exact kt
    by_cases hc29_38 : b4.toInt = (0 : Int)
    · have pre40 : ∀ t, Steps p.tables e below (T1.setTop (mkF m 36 #[.val (.ref oa), .val (.long ct3), .second, .val (.ref ot), .val (.int (8 : Int32)), .val (.int (4 : Int32)), .val (.int b4)] [])) t → Steps p.tables e below (s₁.setTop (entryFrame m #[(.ref oa)] 7)) t := fun t kt => by
        refine pre39 _ ?_
        show Steps p.tables e below (T1.setTop (mkF m 29 #[.val (.ref oa), .val (.long ct3), .second, .val (.ref ot), .val (.int (8 : Int32)), .val (.int (4 : Int32)), .val (.int b4)] [(.int b4)])) _
        refine XS.ifYes X1.here hx rfl (pc0 := 29) (pc' := 36) rfl (hb hby d9_29) rfl (own_if (own_teq (a := b4) (b := (0 : Int32)) rfl (by decide) hc29_38).1) (by decide) (by decide) ?_
        exact kt
      exact ⟨ct3, by have := rng64 ct3; omega, pre40⟩
    · have pre41 : ∀ t, Steps p.tables e below (T1.setTop (mkF m 36 #[.val (.ref oa), .val (.long (ct3 + (1 : Int64))), .second, .val (.ref ot), .val (.int (8 : Int32)), .val (.int (4 : Int32)), .val (.int b4)] [])) t → Steps p.tables e below (s₁.setTop (entryFrame m #[(.ref oa)] 7)) t := fun t kt => by
        refine pre39 _ ?_
        show Steps p.tables e below (T1.setTop (mkF m 29 #[.val (.ref oa), .val (.long ct3), .second, .val (.ref ot), .val (.int (8 : Int32)), .val (.int (4 : Int32)), .val (.int b4)] [(.int b4)])) _
        refine XS.ifNo X1.here hx rfl (hb hby d9_29) rfl (own_if (own_feq (a := b4) (b := (0 : Int32)) rfl (by decide) hc29_38).1) ?_
        refine XS.lloadN X1.here hx rfl (hb hby d9_32) rfl ?_
        refine XS.lconst X1.here hx rfl (hb hby d9_33) ?_
        refine XS.ladd X1.here hx rfl (hb hby d9_34) rfl ?_
        show Steps p.tables e below (T1.setTop (mkF m 35 #[.val (.ref oa), .val (.long ct3), .second, .val (.ref ot), .val (.int (8 : Int32)), .val (.int (4 : Int32)), .val (.int b4)] [(.long (ct3 + (1 : Int64)))])) _
        refine XS.lstoreN X1.here hx rfl (hb hby d9_35) rfl (l' := #[.val (.ref oa), .val (.long (ct3 + (1 : Int64))), .second, .val (.ref ot), .val (.int (8 : Int32)), .val (.int (4 : Int32)), .val (.int b4)]) rfl ?_
        exact kt
      exact ⟨(ct3 + (1 : Int64)), by have := rng64 ct3; (first | (have : ((ct3 + (1 : Int64))).toInt = ct3.toInt + (1 : Int) := (by have : (((ct3 + (1 : Int64))).toInt - (ct3.toInt + (1 : Int))) % 18446744073709551616 = 0 := c_ladd ct3 (1 : Int64); have := rng64 (ct3 + (1 : Int64)); omega)) | (have : (((ct3 + (1 : Int64))).toInt - (ct3.toInt + (1 : Int))) % 18446744073709551616 = 0 := c_ladd ct3 (1 : Int64); have := rng64 (ct3 + (1 : Int64)))); omega, pre41⟩
  have hc18_43 : (5 : Int) < (8 : Int) := by decide
  obtain ⟨cl44, Ar44, q44, S44, M44, H44, G44⟩ := id Vs
  have hin44 : ¬ ((5 : Int32) < 0 ∨ cl44.slots.size ≤ ((5 : Int32)).toNatClampNeg) := inb_of S44 ⟨by decide, by decide⟩
  have hat44 : cl44.slots[((5 : Int32)).toNatClampNeg]? = some (.int b5) := Has.at H44 hin44 rfl
  have pre45 : ∀ t, Steps p.tables e below (T1.setTop (mkF m 27 #[.val (.ref oa), .val (.long ct4), .second, .val (.ref ot), .val (.int (8 : Int32)), .val (.int (5 : Int32)), .val (.int b5)] [])) t → Steps p.tables e below (s₁.setTop (entryFrame m #[(.ref oa)] 7)) t := fun t kt => by
    refine pre42 _ ?_
    refine XS.iinc X1.here hx rfl (hb hby d9_36) rfl (l' := #[.val (.ref oa), .val (.long ct4), .second, .val (.ref ot), .val (.int (8 : Int32)), .val (.int (5 : Int32)), .val (.int b4)]) rfl ?_
    show Steps p.tables e below (T1.setTop (mkF m 39 #[.val (.ref oa), .val (.long ct4), .second, .val (.ref ot), .val (.int (8 : Int32)), .val (.int (5 : Int32)), .val (.int b4)] [])) _
    refine XS.goto X1.here hx rfl (pc0 := 39) (pc' := 14) rfl (hb hby d9_39) (by decide) (by decide) ?_
    refine XS.iload X1.here hx rfl (hb hby d9_14) rfl ?_
    refine XS.iload X1.here hx rfl (hb hby d9_16) rfl ?_
    refine XS.icmpNo X1.here hx rfl (hb hby d9_18) rfl (own_tlt (a := (5 : Int32)) (b := (8 : Int32)) (by decide) (by decide) hc18_43).2.1 ?_
    refine XS.aloadN X1.here hx rfl (hb hby d9_21) rfl rfl ?_
    show Steps p.tables e below (T1.setTop (mkF m 22 #[.val (.ref oa), .val (.long ct4), .second, .val (.ref ot), .val (.int (8 : Int32)), .val (.int (5 : Int32)), .val (.int b4)] [(.ref ot)])) _
    refine XS.iload X1.here hx rfl (hb hby d9_22) rfl ?_
    refine X1.baloadBooleans hx (j := (5 : Int32)) (v := (.int b5)) (by rw [e1]; exact Ar44.1) (State.isArrayOf_alike hZ.alike Ar44.2.1) Ar44.2.2 hin44 hat44 (g := (mkF m 24 #[.val (.ref oa), .val (.long ct4), .second, .val (.ref ot), .val (.int (8 : Int32)), .val (.int (5 : Int32)), .val (.int b4)] [(.int (5 : Int32)), (.ref ot)])) rfl rfl (hb hby d9_24) _ ?_
    refine XS.istore X1.here hx rfl (hb hby d9_25) rfl (l' := #[.val (.ref oa), .val (.long ct4), .second, .val (.ref ot), .val (.int (8 : Int32)), .val (.int (5 : Int32)), .val (.int b5)]) rfl ?_
    exact kt
  obtain ⟨ct5, hct5, pre50⟩ : ∃ ct5 : Int64, (ct5.toInt = 0 + b0.toInt + b1.toInt + b2.toInt + b3.toInt + b4.toInt + b5.toInt ∧ 0 ≤ ct5.toInt ∧ ct5.toInt ≤ 6) ∧ ∀ t, Steps p.tables e below (T1.setTop (mkF m 36 #[.val (.ref oa), .val (.long ct5), .second, .val (.ref ot), .val (.int (8 : Int32)), .val (.int (5 : Int32)), .val (.int b5)] [])) t → Steps p.tables e below (s₁.setTop (entryFrame m #[(.ref oa)] 7)) t := by
    have pre47 : ∀ t, Steps p.tables e below (T1.setTop (mkF m 29 #[.val (.ref oa), .val (.long ct4), .second, .val (.ref ot), .val (.int (8 : Int32)), .val (.int (5 : Int32)), .val (.int b5)] [(.int b5)])) t → Steps p.tables e below (s₁.setTop (entryFrame m #[(.ref oa)] 7)) t := fun t kt => by
      refine pre45 _ ?_
      refine XS.iload X1.here hx rfl (hb hby d9_27) rfl ?_
      exact kt
    by_cases hc29_46 : b5.toInt = (0 : Int)
    · have pre48 : ∀ t, Steps p.tables e below (T1.setTop (mkF m 36 #[.val (.ref oa), .val (.long ct4), .second, .val (.ref ot), .val (.int (8 : Int32)), .val (.int (5 : Int32)), .val (.int b5)] [])) t → Steps p.tables e below (s₁.setTop (entryFrame m #[(.ref oa)] 7)) t := fun t kt => by
        refine pre47 _ ?_
        show Steps p.tables e below (T1.setTop (mkF m 29 #[.val (.ref oa), .val (.long ct4), .second, .val (.ref ot), .val (.int (8 : Int32)), .val (.int (5 : Int32)), .val (.int b5)] [(.int b5)])) _
        refine XS.ifYes X1.here hx rfl (pc0 := 29) (pc' := 36) rfl (hb hby d9_29) rfl (own_if (own_teq (a := b5) (b := (0 : Int32)) rfl (by decide) hc29_46).1) (by decide) (by decide) ?_
        exact kt
      exact ⟨ct4, by have := rng64 ct4; omega, pre48⟩
    · have pre49 : ∀ t, Steps p.tables e below (T1.setTop (mkF m 36 #[.val (.ref oa), .val (.long (ct4 + (1 : Int64))), .second, .val (.ref ot), .val (.int (8 : Int32)), .val (.int (5 : Int32)), .val (.int b5)] [])) t → Steps p.tables e below (s₁.setTop (entryFrame m #[(.ref oa)] 7)) t := fun t kt => by
        refine pre47 _ ?_
        show Steps p.tables e below (T1.setTop (mkF m 29 #[.val (.ref oa), .val (.long ct4), .second, .val (.ref ot), .val (.int (8 : Int32)), .val (.int (5 : Int32)), .val (.int b5)] [(.int b5)])) _
        refine XS.ifNo X1.here hx rfl (hb hby d9_29) rfl (own_if (own_feq (a := b5) (b := (0 : Int32)) rfl (by decide) hc29_46).1) ?_
        refine XS.lloadN X1.here hx rfl (hb hby d9_32) rfl ?_
        refine XS.lconst X1.here hx rfl (hb hby d9_33) ?_
        refine XS.ladd X1.here hx rfl (hb hby d9_34) rfl ?_
        refine XS.lstoreN X1.here hx rfl (hb hby d9_35) rfl (l' := #[.val (.ref oa), .val (.long (ct4 + (1 : Int64))), .second, .val (.ref ot), .val (.int (8 : Int32)), .val (.int (5 : Int32)), .val (.int b5)]) rfl ?_
        exact kt
      exact ⟨(ct4 + (1 : Int64)), by have := rng64 ct4; (first | (have : ((ct4 + (1 : Int64))).toInt = ct4.toInt + (1 : Int) := (by have : (((ct4 + (1 : Int64))).toInt - (ct4.toInt + (1 : Int))) % 18446744073709551616 = 0 := c_ladd ct4 (1 : Int64); have := rng64 (ct4 + (1 : Int64)); omega)) | (have : (((ct4 + (1 : Int64))).toInt - (ct4.toInt + (1 : Int))) % 18446744073709551616 = 0 := c_ladd ct4 (1 : Int64); have := rng64 (ct4 + (1 : Int64)))); omega, pre49⟩
  have hc18_51 : (6 : Int) < (8 : Int) := by decide
  obtain ⟨cl52, Ar52, q52, S52, M52, H52, G52⟩ := id Vs
  have hin52 : ¬ ((6 : Int32) < 0 ∨ cl52.slots.size ≤ ((6 : Int32)).toNatClampNeg) := inb_of S52 ⟨by decide, by decide⟩
  have hat52 : cl52.slots[((6 : Int32)).toNatClampNeg]? = some (.int b6) := Has.at H52 hin52 rfl
  have pre53 : ∀ t, Steps p.tables e below (T1.setTop (mkF m 27 #[.val (.ref oa), .val (.long ct5), .second, .val (.ref ot), .val (.int (8 : Int32)), .val (.int (6 : Int32)), .val (.int b6)] [])) t → Steps p.tables e below (s₁.setTop (entryFrame m #[(.ref oa)] 7)) t := fun t kt => by
    refine pre50 _ ?_
    refine XS.iinc X1.here hx rfl (hb hby d9_36) rfl (l' := #[.val (.ref oa), .val (.long ct5), .second, .val (.ref ot), .val (.int (8 : Int32)), .val (.int (6 : Int32)), .val (.int b5)]) rfl ?_
    refine XS.goto X1.here hx rfl (pc0 := 39) (pc' := 14) rfl (hb hby d9_39) (by decide) (by decide) ?_
    show Steps p.tables e below (T1.setTop (mkF m 14 #[.val (.ref oa), .val (.long ct5), .second, .val (.ref ot), .val (.int (8 : Int32)), .val (.int (6 : Int32)), .val (.int b5)] [])) _
    refine XS.iload X1.here hx rfl (hb hby d9_14) rfl ?_
    refine XS.iload X1.here hx rfl (hb hby d9_16) rfl ?_
    refine XS.icmpNo X1.here hx rfl (hb hby d9_18) rfl (own_tlt (a := (6 : Int32)) (b := (8 : Int32)) (by decide) (by decide) hc18_51).2.1 ?_
    refine XS.aloadN X1.here hx rfl (hb hby d9_21) rfl rfl ?_
    refine XS.iload X1.here hx rfl (hb hby d9_22) rfl ?_
    show Steps p.tables e below (T1.setTop (mkF m 24 #[.val (.ref oa), .val (.long ct5), .second, .val (.ref ot), .val (.int (8 : Int32)), .val (.int (6 : Int32)), .val (.int b5)] [(.int (6 : Int32)), (.ref ot)])) _
    refine X1.baloadBooleans hx (j := (6 : Int32)) (v := (.int b6)) (by rw [e1]; exact Ar52.1) (State.isArrayOf_alike hZ.alike Ar52.2.1) Ar52.2.2 hin52 hat52 (g := (mkF m 24 #[.val (.ref oa), .val (.long ct5), .second, .val (.ref ot), .val (.int (8 : Int32)), .val (.int (6 : Int32)), .val (.int b5)] [(.int (6 : Int32)), (.ref ot)])) rfl rfl (hb hby d9_24) _ ?_
    refine XS.istore X1.here hx rfl (hb hby d9_25) rfl (l' := #[.val (.ref oa), .val (.long ct5), .second, .val (.ref ot), .val (.int (8 : Int32)), .val (.int (6 : Int32)), .val (.int b6)]) rfl ?_
    exact kt
  obtain ⟨ct6, hct6, pre58⟩ : ∃ ct6 : Int64, (ct6.toInt = 0 + b0.toInt + b1.toInt + b2.toInt + b3.toInt + b4.toInt + b5.toInt + b6.toInt ∧ 0 ≤ ct6.toInt ∧ ct6.toInt ≤ 7) ∧ ∀ t, Steps p.tables e below (T1.setTop (mkF m 36 #[.val (.ref oa), .val (.long ct6), .second, .val (.ref ot), .val (.int (8 : Int32)), .val (.int (6 : Int32)), .val (.int b6)] [])) t → Steps p.tables e below (s₁.setTop (entryFrame m #[(.ref oa)] 7)) t := by
    have pre55 : ∀ t, Steps p.tables e below (T1.setTop (mkF m 29 #[.val (.ref oa), .val (.long ct5), .second, .val (.ref ot), .val (.int (8 : Int32)), .val (.int (6 : Int32)), .val (.int b6)] [(.int b6)])) t → Steps p.tables e below (s₁.setTop (entryFrame m #[(.ref oa)] 7)) t := fun t kt => by
      refine pre53 _ ?_
      refine XS.iload X1.here hx rfl (hb hby d9_27) rfl ?_
      exact kt
    by_cases hc29_54 : b6.toInt = (0 : Int)
    · have pre56 : ∀ t, Steps p.tables e below (T1.setTop (mkF m 36 #[.val (.ref oa), .val (.long ct5), .second, .val (.ref ot), .val (.int (8 : Int32)), .val (.int (6 : Int32)), .val (.int b6)] [])) t → Steps p.tables e below (s₁.setTop (entryFrame m #[(.ref oa)] 7)) t := fun t kt => by
        refine pre55 _ ?_
        show Steps p.tables e below (T1.setTop (mkF m 29 #[.val (.ref oa), .val (.long ct5), .second, .val (.ref ot), .val (.int (8 : Int32)), .val (.int (6 : Int32)), .val (.int b6)] [(.int b6)])) _
        refine XS.ifYes X1.here hx rfl (pc0 := 29) (pc' := 36) rfl (hb hby d9_29) rfl (own_if (own_teq (a := b6) (b := (0 : Int32)) rfl (by decide) hc29_54).1) (by decide) (by decide) ?_
        exact kt
      exact ⟨ct5, by have := rng64 ct5; omega, pre56⟩
    · have pre57 : ∀ t, Steps p.tables e below (T1.setTop (mkF m 36 #[.val (.ref oa), .val (.long (ct5 + (1 : Int64))), .second, .val (.ref ot), .val (.int (8 : Int32)), .val (.int (6 : Int32)), .val (.int b6)] [])) t → Steps p.tables e below (s₁.setTop (entryFrame m #[(.ref oa)] 7)) t := fun t kt => by
        refine pre55 _ ?_
        show Steps p.tables e below (T1.setTop (mkF m 29 #[.val (.ref oa), .val (.long ct5), .second, .val (.ref ot), .val (.int (8 : Int32)), .val (.int (6 : Int32)), .val (.int b6)] [(.int b6)])) _
        refine XS.ifNo X1.here hx rfl (hb hby d9_29) rfl (own_if (own_feq (a := b6) (b := (0 : Int32)) rfl (by decide) hc29_54).1) ?_
        show Steps p.tables e below (T1.setTop (mkF m 32 #[.val (.ref oa), .val (.long ct5), .second, .val (.ref ot), .val (.int (8 : Int32)), .val (.int (6 : Int32)), .val (.int b6)] [])) _
        refine XS.lloadN X1.here hx rfl (hb hby d9_32) rfl ?_
        refine XS.lconst X1.here hx rfl (hb hby d9_33) ?_
        refine XS.ladd X1.here hx rfl (hb hby d9_34) rfl ?_
        refine XS.lstoreN X1.here hx rfl (hb hby d9_35) rfl (l' := #[.val (.ref oa), .val (.long (ct5 + (1 : Int64))), .second, .val (.ref ot), .val (.int (8 : Int32)), .val (.int (6 : Int32)), .val (.int b6)]) rfl ?_
        exact kt
      exact ⟨(ct5 + (1 : Int64)), by have := rng64 ct5; (first | (have : ((ct5 + (1 : Int64))).toInt = ct5.toInt + (1 : Int) := (by have : (((ct5 + (1 : Int64))).toInt - (ct5.toInt + (1 : Int))) % 18446744073709551616 = 0 := c_ladd ct5 (1 : Int64); have := rng64 (ct5 + (1 : Int64)); omega)) | (have : (((ct5 + (1 : Int64))).toInt - (ct5.toInt + (1 : Int))) % 18446744073709551616 = 0 := c_ladd ct5 (1 : Int64); have := rng64 (ct5 + (1 : Int64)))); omega, pre57⟩
  have hc18_59 : (7 : Int) < (8 : Int) := by decide
  obtain ⟨cl60, Ar60, q60, S60, M60, H60, G60⟩ := id Vs
  have hin60 : ¬ ((7 : Int32) < 0 ∨ cl60.slots.size ≤ ((7 : Int32)).toNatClampNeg) := inb_of S60 ⟨by decide, by decide⟩
  have hat60 : cl60.slots[((7 : Int32)).toNatClampNeg]? = some (.int b7) := Has.at H60 hin60 rfl
  have pre61 : ∀ t, Steps p.tables e below (T1.setTop (mkF m 27 #[.val (.ref oa), .val (.long ct6), .second, .val (.ref ot), .val (.int (8 : Int32)), .val (.int (7 : Int32)), .val (.int b7)] [])) t → Steps p.tables e below (s₁.setTop (entryFrame m #[(.ref oa)] 7)) t := fun t kt => by
    refine pre58 _ ?_
    refine XS.iinc X1.here hx rfl (hb hby d9_36) rfl (l' := #[.val (.ref oa), .val (.long ct6), .second, .val (.ref ot), .val (.int (8 : Int32)), .val (.int (7 : Int32)), .val (.int b6)]) rfl ?_
    refine XS.goto X1.here hx rfl (pc0 := 39) (pc' := 14) rfl (hb hby d9_39) (by decide) (by decide) ?_
    refine XS.iload X1.here hx rfl (hb hby d9_14) rfl ?_
    show Steps p.tables e below (T1.setTop (mkF m 16 #[.val (.ref oa), .val (.long ct6), .second, .val (.ref ot), .val (.int (8 : Int32)), .val (.int (7 : Int32)), .val (.int b6)] [(.int (7 : Int32))])) _
    refine XS.iload X1.here hx rfl (hb hby d9_16) rfl ?_
    refine XS.icmpNo X1.here hx rfl (hb hby d9_18) rfl (own_tlt (a := (7 : Int32)) (b := (8 : Int32)) (by decide) (by decide) hc18_59).2.1 ?_
    refine XS.aloadN X1.here hx rfl (hb hby d9_21) rfl rfl ?_
    refine XS.iload X1.here hx rfl (hb hby d9_22) rfl ?_
    refine X1.baloadBooleans hx (j := (7 : Int32)) (v := (.int b7)) (by rw [e1]; exact Ar60.1) (State.isArrayOf_alike hZ.alike Ar60.2.1) Ar60.2.2 hin60 hat60 (g := (mkF m 24 #[.val (.ref oa), .val (.long ct6), .second, .val (.ref ot), .val (.int (8 : Int32)), .val (.int (7 : Int32)), .val (.int b6)] [(.int (7 : Int32)), (.ref ot)])) rfl rfl (hb hby d9_24) _ ?_
    show Steps p.tables e below (T1.setTop (mkF m 25 #[.val (.ref oa), .val (.long ct6), .second, .val (.ref ot), .val (.int (8 : Int32)), .val (.int (7 : Int32)), .val (.int b6)] [(.int b7)])) _
    refine XS.istore X1.here hx rfl (hb hby d9_25) rfl (l' := #[.val (.ref oa), .val (.long ct6), .second, .val (.ref ot), .val (.int (8 : Int32)), .val (.int (7 : Int32)), .val (.int b7)]) rfl ?_
    exact kt
  obtain ⟨ct7, hct7, pre66⟩ : ∃ ct7 : Int64, (ct7.toInt = 0 + b0.toInt + b1.toInt + b2.toInt + b3.toInt + b4.toInt + b5.toInt + b6.toInt + b7.toInt ∧ 0 ≤ ct7.toInt ∧ ct7.toInt ≤ 8) ∧ ∀ t, Steps p.tables e below (T1.setTop (mkF m 36 #[.val (.ref oa), .val (.long ct7), .second, .val (.ref ot), .val (.int (8 : Int32)), .val (.int (7 : Int32)), .val (.int b7)] [])) t → Steps p.tables e below (s₁.setTop (entryFrame m #[(.ref oa)] 7)) t := by
    have pre63 : ∀ t, Steps p.tables e below (T1.setTop (mkF m 29 #[.val (.ref oa), .val (.long ct6), .second, .val (.ref ot), .val (.int (8 : Int32)), .val (.int (7 : Int32)), .val (.int b7)] [(.int b7)])) t → Steps p.tables e below (s₁.setTop (entryFrame m #[(.ref oa)] 7)) t := fun t kt => by
      refine pre61 _ ?_
      refine XS.iload X1.here hx rfl (hb hby d9_27) rfl ?_
      exact kt
    by_cases hc29_62 : b7.toInt = (0 : Int)
    · have pre64 : ∀ t, Steps p.tables e below (T1.setTop (mkF m 36 #[.val (.ref oa), .val (.long ct6), .second, .val (.ref ot), .val (.int (8 : Int32)), .val (.int (7 : Int32)), .val (.int b7)] [])) t → Steps p.tables e below (s₁.setTop (entryFrame m #[(.ref oa)] 7)) t := fun t kt => by
        refine pre63 _ ?_
        show Steps p.tables e below (T1.setTop (mkF m 29 #[.val (.ref oa), .val (.long ct6), .second, .val (.ref ot), .val (.int (8 : Int32)), .val (.int (7 : Int32)), .val (.int b7)] [(.int b7)])) _
        refine XS.ifYes X1.here hx rfl (pc0 := 29) (pc' := 36) rfl (hb hby d9_29) rfl (own_if (own_teq (a := b7) (b := (0 : Int32)) rfl (by decide) hc29_62).1) (by decide) (by decide) ?_
        exact kt
      exact ⟨ct6, by have := rng64 ct6; omega, pre64⟩
    · have pre65 : ∀ t, Steps p.tables e below (T1.setTop (mkF m 36 #[.val (.ref oa), .val (.long (ct6 + (1 : Int64))), .second, .val (.ref ot), .val (.int (8 : Int32)), .val (.int (7 : Int32)), .val (.int b7)] [])) t → Steps p.tables e below (s₁.setTop (entryFrame m #[(.ref oa)] 7)) t := fun t kt => by
        refine pre63 _ ?_
        show Steps p.tables e below (T1.setTop (mkF m 29 #[.val (.ref oa), .val (.long ct6), .second, .val (.ref ot), .val (.int (8 : Int32)), .val (.int (7 : Int32)), .val (.int b7)] [(.int b7)])) _
        refine XS.ifNo X1.here hx rfl (hb hby d9_29) rfl (own_if (own_feq (a := b7) (b := (0 : Int32)) rfl (by decide) hc29_62).1) ?_
        refine XS.lloadN X1.here hx rfl (hb hby d9_32) rfl ?_
        show Steps p.tables e below (T1.setTop (mkF m 33 #[.val (.ref oa), .val (.long ct6), .second, .val (.ref ot), .val (.int (8 : Int32)), .val (.int (7 : Int32)), .val (.int b7)] [(.long ct6)])) _
        refine XS.lconst X1.here hx rfl (hb hby d9_33) ?_
        refine XS.ladd X1.here hx rfl (hb hby d9_34) rfl ?_
        refine XS.lstoreN X1.here hx rfl (hb hby d9_35) rfl (l' := #[.val (.ref oa), .val (.long (ct6 + (1 : Int64))), .second, .val (.ref ot), .val (.int (8 : Int32)), .val (.int (7 : Int32)), .val (.int b7)]) rfl ?_
        exact kt
      exact ⟨(ct6 + (1 : Int64)), by have := rng64 ct6; (first | (have : ((ct6 + (1 : Int64))).toInt = ct6.toInt + (1 : Int) := (by have : (((ct6 + (1 : Int64))).toInt - (ct6.toInt + (1 : Int))) % 18446744073709551616 = 0 := c_ladd ct6 (1 : Int64); have := rng64 (ct6 + (1 : Int64)); omega)) | (have : (((ct6 + (1 : Int64))).toInt - (ct6.toInt + (1 : Int))) % 18446744073709551616 = 0 := c_ladd ct6 (1 : Int64); have := rng64 (ct6 + (1 : Int64)))); omega, pre65⟩
  have hc18_67 : ¬ ((8 : Int) < (8 : Int)) := by decide
  obtain ⟨fs, hr, hrun, hended, hW, hsame⟩ := X1.leave (v := some (.long ct7)) (fun h => by rw [Bd.returns] at h; cases h)
  refine ⟨_, _, pre66 _ ?_, hrun, hended, _, _, rfl, ?_, ⟨_, rfl⟩, hW, hsame.mono (by decide) (by decide)⟩
  · refine XS.iinc X1.here hx rfl (hb hby d9_36) rfl (l' := #[.val (.ref oa), .val (.long ct7), .second, .val (.ref ot), .val (.int (8 : Int32)), .val (.int (8 : Int32)), .val (.int b7)]) rfl ?_
    refine XS.goto X1.here hx rfl (pc0 := 39) (pc' := 14) rfl (hb hby d9_39) (by decide) (by decide) ?_
    refine XS.iload X1.here hx rfl (hb hby d9_14) rfl ?_
    refine XS.iload X1.here hx rfl (hb hby d9_16) rfl ?_
    show Steps p.tables e below (T1.setTop (mkF m 18 #[.val (.ref oa), .val (.long ct7), .second, .val (.ref ot), .val (.int (8 : Int32)), .val (.int (8 : Int32)), .val (.int b7)] [(.int (8 : Int32)), (.int (8 : Int32))])) _
    refine XS.icmpYes X1.here hx rfl (pc0 := 18) (pc' := 42) rfl (hb hby d9_18) rfl (own_flt (a := (8 : Int32)) (b := (8 : Int32)) (by decide) (by decide) hc18_67).2.1 (by decide) (by decide) ?_
    refine XS.lloadN X1.here hx rfl (hb hby d9_42) rfl ?_
    jvm_step X1.here [X1.here.top, hx, (hb hby d9_43), X1.method', Bd.returns, narrow]
    first | (intro acts; rw [hr _ acts rfl rfl rfl]) | rw [hr _ _ rfl rfl rfl]
    exact Steps.refl _
  · show Q_s8 Z oa ot kk b0 b1 b2 b3 b4 b5 b6 b7 h0 n0 _ T1.heap _
    rw [e1]
    exact ⟨_, rfl, by have := rng64 ct7; omega, N0, rfl⟩
theorem ef_rm_s0 (m : MethodId) (x0 : Addr) : entryFrame m #[(.ref x0)] 7 = mkF m 0 #[.val (.ref x0), .unset, .unset, .unset, .unset, .unset, .unset] [] := by first | (simp [entryFrame, mkF, argsToLocals, Value.category]; done) | rfl
def Q_s0 (Z : State) (oa : Addr) (ot : Addr) (kk : ClassId) (h0 : Heap) (n0 : Nat) (v : Option Value) (h : Heap) (L : List Loc) : Prop := ∃ z : Int64, v = some (.long z) ∧ (z.toInt = 0) ∧ Fr n0 L ∧ h = h0
set_option maxRecDepth 65536 in
set_option maxHeartbeats 40000000 in
theorem rm_s0 (l : Launch) (Z : State) (a0 : Array Value) (hw : ∀ d ∈ tables_1, d.before a0 Z = true) (ws : List Jvm.Cond) (oa : Addr) (ot : Addr) (kk : ClassId) (h0 : Heap) (n0 : Nat) (Z0 : n0 ≤ h0.size) (Fs : Fld Z h0 oa "com/example/foreslot/foreslot/Schedule" "stopped" "[Z" (.ref ot)) (Vs : Arv Z h0 ot kk .boolean (0 : Int32) [] (.int (0 : Int32))) :
    MetFree l (⟨"com/example/foreslot/foreslot/Schedule", "stopped", "()J"⟩ : MethodName) (head1 (Jvm.Cond.code (⟨"com/example/foreslot/foreslot/Schedule", "stopped", "()J"⟩ : MethodName) prog_156_method_13_code 7 (some .long) :: ws) ({ frames := 0, cells := 0, slots := 0, locals := 0 } : Room)) (fun a U => a = #[(.ref oa)] ∧ Z.Warmed39 U.vm ∧ U.heap = h0) (fun _ _ _ _ _ => True) (fun _ U o U' => ∃ v L, o = .returned v ∧ Q_s0 Z oa ot kk h0 n0 v U'.heap L ∧ FrameEnd U o U' L ({ frames := 0, cells := 0, slots := 0, locals := 0 } : Room).cells ({ frames := 0, cells := 0, slots := 0, locals := 0 } : Room).slots) := by
  refine MetFree.of_bodySF (plainFor_of_name pn_4) hisR ?_
  intro p e s m args below meth c s₁ Bd hml0 hP hK
  obtain ⟨rfl, hZ, hh⟩ := hP
  have hx := Bd.exec
  have hby := Bd.bytes
  have hml : c.maxLocals = 7 := hml0
  have hown : s.vm.findClass "com/example/foreslot/foreslot/Schedule" = some m.cls := findClass_of_methodNamed Bd.named
  have hnm := (name_of_methodNamed Bd.named Bd.method).1
  have X0 : Stand p l e ({ frames := 0, cells := 0, slots := 0, locals := 0 } : Room) s m #[(.ref oa)] below meth c s₁ [] 0 0 := Stand.of_body Bd
  have e0 : s₁.heap = h0 := by rw [← hh, Bd.state]; rfl
  have N0 := Fr.nil n0
  have pre0 : ∀ t, Steps p.tables e below (s₁.setTop (mkF m 0 #[.val (.ref oa), .unset, .unset, .unset, .unset, .unset, .unset] [])) t → Steps p.tables e below (s₁.setTop (entryFrame m #[(.ref oa)] 7)) t := fun t k => castTop (ef_rm_s0 m oa) k
  obtain ⟨T1, X1, e1, st1⟩ := getF X0 hx hZ hown (host := "") (Or.inl (hw _ (List.mem_of_getElem? (i := 54) rfl))) Via.refl e0 Fs (g := (mkF m 3 #[.val (.ref oa), .val (.long (0 : Int64)), .second, .unset, .unset, .unset, .unset] [(.ref oa)])) rfl rfl (hb hby d9_3)
  obtain ⟨cl2, Ar2, q2, S2, M2, H2, G2⟩ := id Vs
  have hc18_3 : ¬ ((0 : Int) < (0 : Int)) := by decide
  obtain ⟨fs, hr, hrun, hended, hW, hsame⟩ := X1.leave (v := some (.long (0 : Int64))) (fun h => by rw [Bd.returns] at h; cases h)
  refine ⟨_, _, pre0 _ ?_, hrun, hended, _, _, rfl, ?_, ⟨_, rfl⟩, hW, hsame.mono (by decide) (by decide)⟩
  · refine XS.lconst X0.here hx rfl (hb hby d9_0) ?_
    refine XS.lstoreN X0.here hx rfl (hb hby d9_1) rfl (l' := #[.val (.ref oa), .val (.long (0 : Int64)), .second, .unset, .unset, .unset, .unset]) rfl ?_
    refine XS.aloadN X0.here hx rfl (hb hby d9_2) rfl rfl ?_
    refine st1 _ ?_
    show Steps p.tables e below (T1.setTop (mkF m 6 #[.val (.ref oa), .val (.long (0 : Int64)), .second, .unset, .unset, .unset, .unset] [(.ref ot)])) _
    refine XS.astoreN X1.here hx rfl (hb hby d9_6) rfl rfl (l' := #[.val (.ref oa), .val (.long (0 : Int64)), .second, .val (.ref ot), .unset, .unset, .unset]) rfl ?_
    refine XS.aloadN X1.here hx rfl (hb hby d9_7) rfl rfl ?_
    refine X1.arraylength hx (by rw [e1]; exact Ar2.1) (State.isArrayOf_alike hZ.alike Ar2.2.1) (g := (mkF m 8 #[.val (.ref oa), .val (.long (0 : Int64)), .second, .val (.ref ot), .unset, .unset, .unset] [(.ref ot)])) rfl rfl (hb hby d9_8) _ ?_
    rw [len_of S2 M2]
    refine XS.istore X1.here hx rfl (hb hby d9_9) rfl (l' := #[.val (.ref oa), .val (.long (0 : Int64)), .second, .val (.ref ot), .val (.int (0 : Int32)), .unset, .unset]) rfl ?_
    refine XS.iconst X1.here hx rfl (hb hby d9_11) ?_
    show Steps p.tables e below (T1.setTop (mkF m 12 #[.val (.ref oa), .val (.long (0 : Int64)), .second, .val (.ref ot), .val (.int (0 : Int32)), .unset, .unset] [(.int (0 : Int32))])) _
    refine XS.istore X1.here hx rfl (hb hby d9_12) rfl (l' := #[.val (.ref oa), .val (.long (0 : Int64)), .second, .val (.ref ot), .val (.int (0 : Int32)), .val (.int (0 : Int32)), .unset]) rfl ?_
    refine XS.iload X1.here hx rfl (hb hby d9_14) rfl ?_
    refine XS.iload X1.here hx rfl (hb hby d9_16) rfl ?_
    refine XS.icmpYes X1.here hx rfl (pc0 := 18) (pc' := 42) rfl (hb hby d9_18) rfl (own_flt (a := (0 : Int32)) (b := (0 : Int32)) (by decide) (by decide) hc18_3).2.1 (by decide) (by decide) ?_
    refine XS.lloadN X1.here hx rfl (hb hby d9_42) rfl ?_
    show Steps p.tables e below (T1.setTop (mkF m 43 #[.val (.ref oa), .val (.long (0 : Int64)), .second, .val (.ref ot), .val (.int (0 : Int32)), .val (.int (0 : Int32)), .unset] [(.long (0 : Int64))])) _
    jvm_step X1.here [X1.here.top, hx, (hb hby d9_43), X1.method', Bd.returns, narrow]
    first | (intro acts; rw [hr _ acts rfl rfl rfl]) | rw [hr _ _ rfl rfl rfl]
    exact Steps.refl _
  · show Q_s0 Z oa ot kk h0 n0 _ T1.heap _
    rw [e1]
    exact ⟨_, rfl, by have iv : ((0 : Int64)).toInt = (0 : Int) := (by decide); omega, N0, rfl⟩
theorem ef_rm0 (m : MethodId) (x0 : Int32) (x1 : Int32) (x2 : Int32) (x3 : Int64) (x4 : Int64) : entryFrame m #[(.int x0), (.int x1), (.int x2), (.long x3), (.long x4)] maxLocals = mkF m 0 #[.val (.int x0), .val (.int x1), .val (.int x2), .val (.long x3), .second, .val (.long x4), .second, .unset, .unset, .unset, .unset, .unset, .unset, .unset, .unset, .unset, .unset, .unset] [] := by first | (simp [entryFrame, mkF, argsToLocals, Value.category, maxLocals]; done) | rfl
theorem pd_2 : parseMethodDescriptor "(II)J" = some ⟨[.int, .int], some .long⟩ := by decide +kernel
theorem pd_3 : parseMethodDescriptor "(JLjava/util/List;[J[J[ZJLjava/util/List;Ljava/util/Optional;)V" = some ⟨[.long, (.object "java/util/List"), (.array .long), (.array .long), (.array .boolean), .long, (.object "java/util/List"), (.object "java/util/Optional")], none⟩ := by decide +kernel
theorem pd_4 : parseMethodDescriptor "()J" = some ⟨[], some .long⟩ := by decide +kernel
def Q0 (Z : State) (vf : Int32) (vr : Int32) (vm : Int32) (qk : Int64) (qp : Int64) (wd : Addr) (h0 : Heap) (n0 : Nat) (v : Option Value) (h : Heap) (L : List Loc) : Prop := v = some (.int 1) ∧ Fr n0 L
set_option maxRecDepth 65536 in
set_option maxHeartbeats 40000000 in
theorem rm0 (l : Launch) (Z : State) (a0 : Array Value) (hw : ∀ d ∈ tables_1, d.before a0 Z = true) (ws : List Jvm.Cond) (vf : Int32) (vr : Int32) (vm : Int32) (qk : Int64) (qp : Int64) (wd : Addr) (h0 : Heap) (n0 : Nat) (Z0 : n0 ≤ h0.size) (O0 : Old Z n0 h0) (Sd : Sta Z Z.heap "java/util/ArrayList" "DEFAULTCAPACITY_EMPTY_ELEMENTDATA" "[Ljava/lang/Object;" (.ref wd)) :
    MetFree l x (head1 (Jvm.Cond.code x code maxLocals ret :: ws) room_1) (fun a U => a = #[(.int vf), (.int vr), (.int vm), (.long qk), (.long qp)] ∧ Z.Warmed39 U.vm ∧ U.heap = h0) (fun _ _ _ _ _ => True) (fun _ U o U' => ∃ v L, o = .returned v ∧ Q0 Z vf vr vm qk qp wd h0 n0 v U'.heap L ∧ FrameEnd U o U' L room_1.cells room_1.slots) := by
  refine MetFree.of_bodySF (plainFor_of_name pn_0) hisR ?_
  intro p e s m args below meth c s₁ Bd hml0 hP hK
  obtain ⟨rfl, hZ, hh⟩ := hP
  have hx := Bd.exec
  have hby := Bd.bytes
  have hml : c.maxLocals = 18 := hml0
  have hown : s.vm.findClass "com/example/foreslot/foreslot/ScheduleStoppedPinLaw" = some m.cls := findClass_of_methodNamed Bd.named
  have hnm := (name_of_methodNamed Bd.named Bd.method).1
  have X0 : Stand p l e room_1 s m #[(.int vf), (.int vr), (.int vm), (.long qk), (.long qp)] below meth c s₁ [] 0 0 := Stand.of_body Bd
  have e0 : s₁.heap = h0 := by rw [← hh, Bd.state]; rfl
  have N0 := Fr.nil n0
  have pre0 : ∀ t, Steps p.tables e below (s₁.setTop (mkF m 0 #[.val (.int vf), .val (.int vr), .val (.int vm), .val (.long qk), .second, .val (.long qp), .second, .unset, .unset, .unset, .unset, .unset, .unset, .unset, .unset, .unset, .unset, .unset] [])) t → Steps p.tables e below (s₁.setTop (entryFrame m #[(.int vf), (.int vr), (.int vm), (.long qk), (.long qp)] maxLocals)) t := fun t k => castTop (ef_rm0 m vf vr vm qk qp) k
  have pre2 : ∀ t, Steps p.tables e below (s₁.setTop (mkF m 3 #[.val (.int vf), .val (.int vr), .val (.int vm), .val (.long qk), .second, .val (.long qp), .second, .unset, .unset, .unset, .unset, .unset, .unset, .unset, .unset, .unset, .unset, .unset] [(.int (vm &&& (1 : Int32)))])) t → Steps p.tables e below (s₁.setTop (entryFrame m #[(.int vf), (.int vr), (.int vm), (.long qk), (.long qp)] maxLocals)) t := fun t kt => by
    refine pre0 _ ?_
    refine XS.iloadN X0.here hx rfl (hb hby at_0) rfl ?_
    refine XS.iconst X0.here hx rfl (hb hby at_1) ?_
    refine XS.iand X0.here hx rfl (hb hby at_2) rfl ?_
    exact kt
  by_cases hc3_1 : (vm &&& (1 : Int32)).toInt = (0 : Int)
  · have hc15_3 : (0 : Int) = (0 : Int) := by decide
    obtain ⟨T4, h4, k4, X4, e4, E4, A4, st4⟩ := newP X0 hx hZ (hw _ (List.mem_of_getElem? (i := 0) rfl)) e0 (g := (mkF m 41 #[.val (.int vf), .val (.int vr), .val (.int vm), .val (.long qk), .second, .val (.long qp), .second, .val (.int (0 : Int32)), .unset, .unset, .unset, .unset, .unset, .unset, .unset, .unset, .unset, .unset] [(.int (8 : Int32))])) rfl (hb hby at_41) rfl (by decide) (cap := 8) (by decide) (by decide) (by decide) (by decide)
    obtain ⟨b4, g4⟩ : ∃ z, z = h0.size := ⟨_, rfl⟩
    have g_b4 : n0 ≤ b4 := Nat.le_trans Z0 (Nat.le_of_eq g4.symm)
    have sz_b4 : h0.size ≤ b4 := Nat.le_trans (Keep.refl h0 []).1 (Nat.le_of_eq g4.symm)
    rw [← g4] at A4 st4
    have Zs5 : n0 ≤ h4.size := Nat.le_trans Z0 E4.1
    have V4 : Arv Z h4 b4 k4 .boolean (8 : Int32) [(.int (0 : Int32)), (.int (0 : Int32)), (.int (0 : Int32)), (.int (0 : Int32)), (.int (0 : Int32)), (.int (0 : Int32)), (.int (0 : Int32)), (.int (0 : Int32))] (.int (0 : Int32)) := (Arv.new A4 (by decide)).pad (pad_rep [] (.int (0 : Int32)) 8)
    obtain ⟨T6, h6, k6, X6, e6, E6, A6, st6⟩ := newP X4 hx hZ (hw _ (List.mem_of_getElem? (i := 1) rfl)) e4 (g := (mkF m 47 #[.val (.int vf), .val (.int vr), .val (.int vm), .val (.long qk), .second, .val (.long qp), .second, .val (.int (0 : Int32)), .val (.ref b4), .unset, .unset, .unset, .unset, .unset, .unset, .unset, .unset, .unset] [(.int (8 : Int32))])) rfl (hb hby at_47) rfl (by decide) (cap := 8) (by decide) (by decide) (by decide) (by decide)
    obtain ⟨b6, g6⟩ : ∃ z, z = h4.size := ⟨_, rfl⟩
    have ne_b4_b6 : b4 ≠ b6 := Nat.ne_of_lt (Nat.lt_of_lt_of_le V4.lt (Nat.le_of_eq g6.symm))
    have g_b6 : n0 ≤ b6 := Nat.le_trans Zs5 (Nat.le_of_eq g6.symm)
    have f7 := ((Keep.refl h0 []).ext E4)
    have sz_b6 : h0.size ≤ b6 := Nat.le_trans f7.1 (Nat.le_of_eq g6.symm)
    rw [← g6] at A6 st6
    have Zs8 : n0 ≤ h6.size := Nat.le_trans Zs5 E6.1
    have V6 : Arv Z h6 b6 k6 .long (8 : Int32) [(.long (0 : Int64)), (.long (0 : Int64)), (.long (0 : Int64)), (.long (0 : Int64)), (.long (0 : Int64)), (.long (0 : Int64)), (.long (0 : Int64)), (.long (0 : Int64))] (.long (0 : Int64)) := (Arv.new A6 (by decide)).pad (pad_rep [] (.long (0 : Int64)) 8)
    have f9 := (V4.ext E6)
    obtain ⟨T10, h10, k10, X10, e10, E10, A10, st10⟩ := newP X6 hx hZ (hw _ (List.mem_of_getElem? (i := 1) rfl)) e6 (g := (mkF m 53 #[.val (.int vf), .val (.int vr), .val (.int vm), .val (.long qk), .second, .val (.long qp), .second, .val (.int (0 : Int32)), .val (.ref b4), .val (.ref b6), .unset, .unset, .unset, .unset, .unset, .unset, .unset, .unset] [(.int (8 : Int32))])) rfl (hb hby at_53) rfl (by decide) (cap := 8) (by decide) (by decide) (by decide) (by decide)
    obtain ⟨b10, g10⟩ : ∃ z, z = h6.size := ⟨_, rfl⟩
    have ne_b4_b10 : b4 ≠ b10 := Nat.ne_of_lt (Nat.lt_of_lt_of_le f9.lt (Nat.le_of_eq g10.symm))
    have ne_b6_b10 : b6 ≠ b10 := Nat.ne_of_lt (Nat.lt_of_lt_of_le V6.lt (Nat.le_of_eq g10.symm))
    have g_b10 : n0 ≤ b10 := Nat.le_trans Zs8 (Nat.le_of_eq g10.symm)
    have f11 := (f7.ext E6)
    have sz_b10 : h0.size ≤ b10 := Nat.le_trans f11.1 (Nat.le_of_eq g10.symm)
    rw [← g10] at A10 st10
    have Zs12 : n0 ≤ h10.size := Nat.le_trans Zs8 E10.1
    have V10 : Arv Z h10 b10 k10 .long (8 : Int32) [(.long (0 : Int64)), (.long (0 : Int64)), (.long (0 : Int64)), (.long (0 : Int64)), (.long (0 : Int64)), (.long (0 : Int64)), (.long (0 : Int64)), (.long (0 : Int64))] (.long (0 : Int64)) := (Arv.new A10 (by decide)).pad (pad_rep [] (.long (0 : Int64)) 8)
    obtain ⟨_, _, ⟨T13, L13, k13, n13⟩, -, X13, ⟨Lc13, hQ13, l13, y13, z13⟩, st13⟩ := Jvm.LawKit.callS X10 hx (y := (⟨"com/example/foreslot/foreslot/ScheduleStoppedPinLaw", "bit", "(II)Z"⟩ : MethodName)) hown (mvT hZ (hw _ (List.mem_of_getElem? (i := 2) rfl))) (mvT hZ (hw _ (List.mem_of_getElem? (i := 3) rfl))) (mvT hZ (hw _ (List.mem_of_getElem? (i := 4) rfl))) (mvT hZ (hw _ (List.mem_of_getElem? (i := 5) rfl))) (by decide) (backOf (W := 2) (rm1 l Z a0 hw [] vf (0 : Int32) h10 n0 Zs12 ) hZ (hw _ (List.mem_of_getElem? (i := 5) rfl)) (hw _ (List.mem_of_getElem? (i := 4) rfl)) (by decide) (by decide)) (g := (mkF m 62 #[.val (.int vf), .val (.int vr), .val (.int vm), .val (.long qk), .second, .val (.long qp), .second, .val (.int (0 : Int32)), .val (.ref b4), .val (.ref b6), .val (.ref b10), .unset, .unset, .unset, .unset, .unset, .unset, .unset] [(.int (0 : Int32)), (.int vf), (.int (0 : Int32)), (.ref b4)])) rfl (by rw [hml]; rfl) (argsL := [(.int vf), (.int (0 : Int32))]) (rest := [(.int (0 : Int32)), (.ref b4)]) (lenOf pd_0 rfl) rfl (by show 2 * 0 + _ ≤ _; exact Nat.le_of_eq rfl) (hb hby at_62) (fun _ _ => ⟨rfl, e10, (by decide : 3 + 0 ≤ _), (by decide : 24 + 0 ≤ _)⟩)
    dsimp only [Pt.U, Pt.locs, Pt.cells, Pt.slots] at X13 l13 y13 z13 st13 hQ13
    rw [l13, y13, z13] at X13
    obtain ⟨r0, rfl, hr0, N13q, e13⟩ := hQ13
    have N13 := Fr.app N0 N13q
    have b01_0 : r0.toInt = 0 ∨ r0.toInt = 1 := by omega
    have f14 := (f9.ext E10)
    obtain ⟨cl15, Ar15, q15, S15, M15, H15, G15⟩ := id f14
    have hin15 : ¬ ((0 : Int32) < 0 ∨ cl15.slots.size ≤ ((0 : Int32)).toNatClampNeg) := inb_of S15 ⟨by decide, by decide⟩
    obtain ⟨T16, h16, X16, e16, W16, st16⟩ := stZ X13 hx hZ e13 Ar15 (j := (0 : Int32)) hin15 (g := (mkF m 65 #[.val (.int vf), .val (.int vr), .val (.int vm), .val (.long qk), .second, .val (.long qp), .second, .val (.int (0 : Int32)), .val (.ref b4), .val (.ref b6), .val (.ref b10), .unset, .unset, .unset, .unset, .unset, .unset, .unset] [(.int r0), (.int (0 : Int32)), (.ref b4)])) rfl rfl (hb hby at_65)
    have N16 := Fr.snoc X16 N13 g_b4
    have Zs17 : n0 ≤ h16.size := by rw [W16.size]; exact Zs12
    have V16 : Arv Z h16 b4 k4 .boolean (8 : Int32) [(.int (nar .boolean r0)), (.int (0 : Int32)), (.int (0 : Int32)), (.int (0 : Int32)), (.int (0 : Int32)), (.int (0 : Int32)), (.int (0 : Int32)), (.int (0 : Int32))] (.int (0 : Int32)) := Arv.set Ar15 q15 S15 M15 H15 G15 (fits_nar_bool _) W16 0 rfl (Nat.le_of_ble_eq_true rfl)
    obtain ⟨_, _, ⟨T18, L18, k18, n18⟩, -, X18, ⟨Lc18, hQ18, l18, y18, z18⟩, st18⟩ := Jvm.LawKit.callS X16 hx (y := (⟨"com/example/foreslot/foreslot/ScheduleStoppedPinLaw", "bit", "(II)Z"⟩ : MethodName)) hown (mvT hZ (hw _ (List.mem_of_getElem? (i := 2) rfl))) (mvT hZ (hw _ (List.mem_of_getElem? (i := 3) rfl))) (mvT hZ (hw _ (List.mem_of_getElem? (i := 4) rfl))) (mvT hZ (hw _ (List.mem_of_getElem? (i := 5) rfl))) (by decide) (backOf (W := 2) (rm1 l Z a0 hw [] vf (1 : Int32) h16 n0 Zs17 ) hZ (hw _ (List.mem_of_getElem? (i := 5) rfl)) (hw _ (List.mem_of_getElem? (i := 4) rfl)) (by decide) (by decide)) (g := (mkF m 71 #[.val (.int vf), .val (.int vr), .val (.int vm), .val (.long qk), .second, .val (.long qp), .second, .val (.int (0 : Int32)), .val (.ref b4), .val (.ref b6), .val (.ref b10), .unset, .unset, .unset, .unset, .unset, .unset, .unset] [(.int (1 : Int32)), (.int vf), (.int (1 : Int32)), (.ref b4)])) rfl (by rw [hml]; rfl) (argsL := [(.int vf), (.int (1 : Int32))]) (rest := [(.int (1 : Int32)), (.ref b4)]) (lenOf pd_0 rfl) rfl (by show 2 * 0 + _ ≤ _; exact Nat.le_of_eq rfl) (hb hby at_71) (fun _ _ => ⟨rfl, e16, (by decide : 3 + 0 ≤ _), (by decide : 24 + 0 ≤ _)⟩)
    dsimp only [Pt.U, Pt.locs, Pt.cells, Pt.slots] at X18 l18 y18 z18 st18 hQ18
    rw [l18, y18, z18] at X18
    obtain ⟨r1, rfl, hr1, N18q, e18⟩ := hQ18
    have N18 := Fr.app N16 N18q
    have b01_1 : r1.toInt = 0 ∨ r1.toInt = 1 := by omega
    obtain ⟨cl19, Ar19, q19, S19, M19, H19, G19⟩ := id V16
    have hin19 : ¬ ((1 : Int32) < 0 ∨ cl19.slots.size ≤ ((1 : Int32)).toNatClampNeg) := inb_of S19 ⟨by decide, by decide⟩
    obtain ⟨T20, h20, X20, e20, W20, st20⟩ := stZ X18 hx hZ e18 Ar19 (j := (1 : Int32)) hin19 (g := (mkF m 74 #[.val (.int vf), .val (.int vr), .val (.int vm), .val (.long qk), .second, .val (.long qp), .second, .val (.int (0 : Int32)), .val (.ref b4), .val (.ref b6), .val (.ref b10), .unset, .unset, .unset, .unset, .unset, .unset, .unset] [(.int r1), (.int (1 : Int32)), (.ref b4)])) rfl rfl (hb hby at_74)
    have N20 := Fr.snoc X20 N18 g_b4
    have Zs21 : n0 ≤ h20.size := by rw [W20.size]; exact Zs17
    have V20 : Arv Z h20 b4 k4 .boolean (8 : Int32) [(.int (nar .boolean r0)), (.int (nar .boolean r1)), (.int (0 : Int32)), (.int (0 : Int32)), (.int (0 : Int32)), (.int (0 : Int32)), (.int (0 : Int32)), (.int (0 : Int32))] (.int (0 : Int32)) := Arv.set Ar19 q19 S19 M19 H19 G19 (fits_nar_bool _) W20 1 rfl (Nat.le_of_ble_eq_true rfl)
    obtain ⟨_, _, ⟨T22, L22, k22, n22⟩, -, X22, ⟨Lc22, hQ22, l22, y22, z22⟩, st22⟩ := Jvm.LawKit.callS X20 hx (y := (⟨"com/example/foreslot/foreslot/ScheduleStoppedPinLaw", "bit", "(II)Z"⟩ : MethodName)) hown (mvT hZ (hw _ (List.mem_of_getElem? (i := 2) rfl))) (mvT hZ (hw _ (List.mem_of_getElem? (i := 3) rfl))) (mvT hZ (hw _ (List.mem_of_getElem? (i := 4) rfl))) (mvT hZ (hw _ (List.mem_of_getElem? (i := 5) rfl))) (by decide) (backOf (W := 2) (rm1 l Z a0 hw [] vf (2 : Int32) h20 n0 Zs21 ) hZ (hw _ (List.mem_of_getElem? (i := 5) rfl)) (hw _ (List.mem_of_getElem? (i := 4) rfl)) (by decide) (by decide)) (g := (mkF m 80 #[.val (.int vf), .val (.int vr), .val (.int vm), .val (.long qk), .second, .val (.long qp), .second, .val (.int (0 : Int32)), .val (.ref b4), .val (.ref b6), .val (.ref b10), .unset, .unset, .unset, .unset, .unset, .unset, .unset] [(.int (2 : Int32)), (.int vf), (.int (2 : Int32)), (.ref b4)])) rfl (by rw [hml]; rfl) (argsL := [(.int vf), (.int (2 : Int32))]) (rest := [(.int (2 : Int32)), (.ref b4)]) (lenOf pd_0 rfl) rfl (by show 2 * 0 + _ ≤ _; exact Nat.le_of_eq rfl) (hb hby at_80) (fun _ _ => ⟨rfl, e20, (by decide : 3 + 0 ≤ _), (by decide : 24 + 0 ≤ _)⟩)
    dsimp only [Pt.U, Pt.locs, Pt.cells, Pt.slots] at X22 l22 y22 z22 st22 hQ22
    rw [l22, y22, z22] at X22
    obtain ⟨r2, rfl, hr2, N22q, e22⟩ := hQ22
    have N22 := Fr.app N20 N22q
    have b01_2 : r2.toInt = 0 ∨ r2.toInt = 1 := by omega
    obtain ⟨cl23, Ar23, q23, S23, M23, H23, G23⟩ := id V20
    have hin23 : ¬ ((2 : Int32) < 0 ∨ cl23.slots.size ≤ ((2 : Int32)).toNatClampNeg) := inb_of S23 ⟨by decide, by decide⟩
    obtain ⟨T24, h24, X24, e24, W24, st24⟩ := stZ X22 hx hZ e22 Ar23 (j := (2 : Int32)) hin23 (g := (mkF m 83 #[.val (.int vf), .val (.int vr), .val (.int vm), .val (.long qk), .second, .val (.long qp), .second, .val (.int (0 : Int32)), .val (.ref b4), .val (.ref b6), .val (.ref b10), .unset, .unset, .unset, .unset, .unset, .unset, .unset] [(.int r2), (.int (2 : Int32)), (.ref b4)])) rfl rfl (hb hby at_83)
    have N24 := Fr.snoc X24 N22 g_b4
    have Zs25 : n0 ≤ h24.size := by rw [W24.size]; exact Zs21
    have V24 : Arv Z h24 b4 k4 .boolean (8 : Int32) [(.int (nar .boolean r0)), (.int (nar .boolean r1)), (.int (nar .boolean r2)), (.int (0 : Int32)), (.int (0 : Int32)), (.int (0 : Int32)), (.int (0 : Int32)), (.int (0 : Int32))] (.int (0 : Int32)) := Arv.set Ar23 q23 S23 M23 H23 G23 (fits_nar_bool _) W24 2 rfl (Nat.le_of_ble_eq_true rfl)
    obtain ⟨_, _, ⟨T26, L26, k26, n26⟩, -, X26, ⟨Lc26, hQ26, l26, y26, z26⟩, st26⟩ := Jvm.LawKit.callS X24 hx (y := (⟨"com/example/foreslot/foreslot/ScheduleStoppedPinLaw", "bit", "(II)Z"⟩ : MethodName)) hown (mvT hZ (hw _ (List.mem_of_getElem? (i := 2) rfl))) (mvT hZ (hw _ (List.mem_of_getElem? (i := 3) rfl))) (mvT hZ (hw _ (List.mem_of_getElem? (i := 4) rfl))) (mvT hZ (hw _ (List.mem_of_getElem? (i := 5) rfl))) (by decide) (backOf (W := 2) (rm1 l Z a0 hw [] vf (3 : Int32) h24 n0 Zs25 ) hZ (hw _ (List.mem_of_getElem? (i := 5) rfl)) (hw _ (List.mem_of_getElem? (i := 4) rfl)) (by decide) (by decide)) (g := (mkF m 89 #[.val (.int vf), .val (.int vr), .val (.int vm), .val (.long qk), .second, .val (.long qp), .second, .val (.int (0 : Int32)), .val (.ref b4), .val (.ref b6), .val (.ref b10), .unset, .unset, .unset, .unset, .unset, .unset, .unset] [(.int (3 : Int32)), (.int vf), (.int (3 : Int32)), (.ref b4)])) rfl (by rw [hml]; rfl) (argsL := [(.int vf), (.int (3 : Int32))]) (rest := [(.int (3 : Int32)), (.ref b4)]) (lenOf pd_0 rfl) rfl (by show 2 * 0 + _ ≤ _; exact Nat.le_of_eq rfl) (hb hby at_89) (fun _ _ => ⟨rfl, e24, (by decide : 3 + 0 ≤ _), (by decide : 24 + 0 ≤ _)⟩)
    dsimp only [Pt.U, Pt.locs, Pt.cells, Pt.slots] at X26 l26 y26 z26 st26 hQ26
    rw [l26, y26, z26] at X26
    obtain ⟨r3, rfl, hr3, N26q, e26⟩ := hQ26
    have N26 := Fr.app N24 N26q
    have b01_3 : r3.toInt = 0 ∨ r3.toInt = 1 := by omega
    obtain ⟨cl27, Ar27, q27, S27, M27, H27, G27⟩ := id V24
    have hin27 : ¬ ((3 : Int32) < 0 ∨ cl27.slots.size ≤ ((3 : Int32)).toNatClampNeg) := inb_of S27 ⟨by decide, by decide⟩
    obtain ⟨T28, h28, X28, e28, W28, st28⟩ := stZ X26 hx hZ e26 Ar27 (j := (3 : Int32)) hin27 (g := (mkF m 92 #[.val (.int vf), .val (.int vr), .val (.int vm), .val (.long qk), .second, .val (.long qp), .second, .val (.int (0 : Int32)), .val (.ref b4), .val (.ref b6), .val (.ref b10), .unset, .unset, .unset, .unset, .unset, .unset, .unset] [(.int r3), (.int (3 : Int32)), (.ref b4)])) rfl rfl (hb hby at_92)
    have N28 := Fr.snoc X28 N26 g_b4
    have Zs29 : n0 ≤ h28.size := by rw [W28.size]; exact Zs25
    have V28 : Arv Z h28 b4 k4 .boolean (8 : Int32) [(.int (nar .boolean r0)), (.int (nar .boolean r1)), (.int (nar .boolean r2)), (.int (nar .boolean r3)), (.int (0 : Int32)), (.int (0 : Int32)), (.int (0 : Int32)), (.int (0 : Int32))] (.int (0 : Int32)) := Arv.set Ar27 q27 S27 M27 H27 G27 (fits_nar_bool _) W28 3 rfl (Nat.le_of_ble_eq_true rfl)
    obtain ⟨_, _, ⟨T30, L30, k30, n30⟩, -, X30, ⟨Lc30, hQ30, l30, y30, z30⟩, st30⟩ := Jvm.LawKit.callS X28 hx (y := (⟨"com/example/foreslot/foreslot/ScheduleStoppedPinLaw", "bit", "(II)Z"⟩ : MethodName)) hown (mvT hZ (hw _ (List.mem_of_getElem? (i := 2) rfl))) (mvT hZ (hw _ (List.mem_of_getElem? (i := 3) rfl))) (mvT hZ (hw _ (List.mem_of_getElem? (i := 4) rfl))) (mvT hZ (hw _ (List.mem_of_getElem? (i := 5) rfl))) (by decide) (backOf (W := 2) (rm1 l Z a0 hw [] vf (4 : Int32) h28 n0 Zs29 ) hZ (hw _ (List.mem_of_getElem? (i := 5) rfl)) (hw _ (List.mem_of_getElem? (i := 4) rfl)) (by decide) (by decide)) (g := (mkF m 98 #[.val (.int vf), .val (.int vr), .val (.int vm), .val (.long qk), .second, .val (.long qp), .second, .val (.int (0 : Int32)), .val (.ref b4), .val (.ref b6), .val (.ref b10), .unset, .unset, .unset, .unset, .unset, .unset, .unset] [(.int (4 : Int32)), (.int vf), (.int (4 : Int32)), (.ref b4)])) rfl (by rw [hml]; rfl) (argsL := [(.int vf), (.int (4 : Int32))]) (rest := [(.int (4 : Int32)), (.ref b4)]) (lenOf pd_0 rfl) rfl (by show 2 * 0 + _ ≤ _; exact Nat.le_of_eq rfl) (hb hby at_98) (fun _ _ => ⟨rfl, e28, (by decide : 3 + 0 ≤ _), (by decide : 24 + 0 ≤ _)⟩)
    dsimp only [Pt.U, Pt.locs, Pt.cells, Pt.slots] at X30 l30 y30 z30 st30 hQ30
    rw [l30, y30, z30] at X30
    obtain ⟨r4, rfl, hr4, N30q, e30⟩ := hQ30
    have N30 := Fr.app N28 N30q
    have b01_4 : r4.toInt = 0 ∨ r4.toInt = 1 := by omega
    obtain ⟨cl31, Ar31, q31, S31, M31, H31, G31⟩ := id V28
    have hin31 : ¬ ((4 : Int32) < 0 ∨ cl31.slots.size ≤ ((4 : Int32)).toNatClampNeg) := inb_of S31 ⟨by decide, by decide⟩
    obtain ⟨T32, h32, X32, e32, W32, st32⟩ := stZ X30 hx hZ e30 Ar31 (j := (4 : Int32)) hin31 (g := (mkF m 101 #[.val (.int vf), .val (.int vr), .val (.int vm), .val (.long qk), .second, .val (.long qp), .second, .val (.int (0 : Int32)), .val (.ref b4), .val (.ref b6), .val (.ref b10), .unset, .unset, .unset, .unset, .unset, .unset, .unset] [(.int r4), (.int (4 : Int32)), (.ref b4)])) rfl rfl (hb hby at_101)
    have N32 := Fr.snoc X32 N30 g_b4
    have Zs33 : n0 ≤ h32.size := by rw [W32.size]; exact Zs29
    have V32 : Arv Z h32 b4 k4 .boolean (8 : Int32) [(.int (nar .boolean r0)), (.int (nar .boolean r1)), (.int (nar .boolean r2)), (.int (nar .boolean r3)), (.int (nar .boolean r4)), (.int (0 : Int32)), (.int (0 : Int32)), (.int (0 : Int32))] (.int (0 : Int32)) := Arv.set Ar31 q31 S31 M31 H31 G31 (fits_nar_bool _) W32 4 rfl (Nat.le_of_ble_eq_true rfl)
    obtain ⟨_, _, ⟨T34, L34, k34, n34⟩, -, X34, ⟨Lc34, hQ34, l34, y34, z34⟩, st34⟩ := Jvm.LawKit.callS X32 hx (y := (⟨"com/example/foreslot/foreslot/ScheduleStoppedPinLaw", "bit", "(II)Z"⟩ : MethodName)) hown (mvT hZ (hw _ (List.mem_of_getElem? (i := 2) rfl))) (mvT hZ (hw _ (List.mem_of_getElem? (i := 3) rfl))) (mvT hZ (hw _ (List.mem_of_getElem? (i := 4) rfl))) (mvT hZ (hw _ (List.mem_of_getElem? (i := 5) rfl))) (by decide) (backOf (W := 2) (rm1 l Z a0 hw [] vf (5 : Int32) h32 n0 Zs33 ) hZ (hw _ (List.mem_of_getElem? (i := 5) rfl)) (hw _ (List.mem_of_getElem? (i := 4) rfl)) (by decide) (by decide)) (g := (mkF m 107 #[.val (.int vf), .val (.int vr), .val (.int vm), .val (.long qk), .second, .val (.long qp), .second, .val (.int (0 : Int32)), .val (.ref b4), .val (.ref b6), .val (.ref b10), .unset, .unset, .unset, .unset, .unset, .unset, .unset] [(.int (5 : Int32)), (.int vf), (.int (5 : Int32)), (.ref b4)])) rfl (by rw [hml]; rfl) (argsL := [(.int vf), (.int (5 : Int32))]) (rest := [(.int (5 : Int32)), (.ref b4)]) (lenOf pd_0 rfl) rfl (by show 2 * 0 + _ ≤ _; exact Nat.le_of_eq rfl) (hb hby at_107) (fun _ _ => ⟨rfl, e32, (by decide : 3 + 0 ≤ _), (by decide : 24 + 0 ≤ _)⟩)
    dsimp only [Pt.U, Pt.locs, Pt.cells, Pt.slots] at X34 l34 y34 z34 st34 hQ34
    rw [l34, y34, z34] at X34
    obtain ⟨r5, rfl, hr5, N34q, e34⟩ := hQ34
    have N34 := Fr.app N32 N34q
    have b01_5 : r5.toInt = 0 ∨ r5.toInt = 1 := by omega
    obtain ⟨cl35, Ar35, q35, S35, M35, H35, G35⟩ := id V32
    have hin35 : ¬ ((5 : Int32) < 0 ∨ cl35.slots.size ≤ ((5 : Int32)).toNatClampNeg) := inb_of S35 ⟨by decide, by decide⟩
    obtain ⟨T36, h36, X36, e36, W36, st36⟩ := stZ X34 hx hZ e34 Ar35 (j := (5 : Int32)) hin35 (g := (mkF m 110 #[.val (.int vf), .val (.int vr), .val (.int vm), .val (.long qk), .second, .val (.long qp), .second, .val (.int (0 : Int32)), .val (.ref b4), .val (.ref b6), .val (.ref b10), .unset, .unset, .unset, .unset, .unset, .unset, .unset] [(.int r5), (.int (5 : Int32)), (.ref b4)])) rfl rfl (hb hby at_110)
    have N36 := Fr.snoc X36 N34 g_b4
    have Zs37 : n0 ≤ h36.size := by rw [W36.size]; exact Zs33
    have V36 : Arv Z h36 b4 k4 .boolean (8 : Int32) [(.int (nar .boolean r0)), (.int (nar .boolean r1)), (.int (nar .boolean r2)), (.int (nar .boolean r3)), (.int (nar .boolean r4)), (.int (nar .boolean r5)), (.int (0 : Int32)), (.int (0 : Int32))] (.int (0 : Int32)) := Arv.set Ar35 q35 S35 M35 H35 G35 (fits_nar_bool _) W36 5 rfl (Nat.le_of_ble_eq_true rfl)
    obtain ⟨_, _, ⟨T38, L38, k38, n38⟩, -, X38, ⟨Lc38, hQ38, l38, y38, z38⟩, st38⟩ := Jvm.LawKit.callS X36 hx (y := (⟨"com/example/foreslot/foreslot/ScheduleStoppedPinLaw", "bit", "(II)Z"⟩ : MethodName)) hown (mvT hZ (hw _ (List.mem_of_getElem? (i := 2) rfl))) (mvT hZ (hw _ (List.mem_of_getElem? (i := 3) rfl))) (mvT hZ (hw _ (List.mem_of_getElem? (i := 4) rfl))) (mvT hZ (hw _ (List.mem_of_getElem? (i := 5) rfl))) (by decide) (backOf (W := 2) (rm1 l Z a0 hw [] vf (6 : Int32) h36 n0 Zs37 ) hZ (hw _ (List.mem_of_getElem? (i := 5) rfl)) (hw _ (List.mem_of_getElem? (i := 4) rfl)) (by decide) (by decide)) (g := (mkF m 118 #[.val (.int vf), .val (.int vr), .val (.int vm), .val (.long qk), .second, .val (.long qp), .second, .val (.int (0 : Int32)), .val (.ref b4), .val (.ref b6), .val (.ref b10), .unset, .unset, .unset, .unset, .unset, .unset, .unset] [(.int (6 : Int32)), (.int vf), (.int (6 : Int32)), (.ref b4)])) rfl (by rw [hml]; rfl) (argsL := [(.int vf), (.int (6 : Int32))]) (rest := [(.int (6 : Int32)), (.ref b4)]) (lenOf pd_0 rfl) rfl (by show 2 * 0 + _ ≤ _; exact Nat.le_of_eq rfl) (hb hby at_118) (fun _ _ => ⟨rfl, e36, (by decide : 3 + 0 ≤ _), (by decide : 24 + 0 ≤ _)⟩)
    dsimp only [Pt.U, Pt.locs, Pt.cells, Pt.slots] at X38 l38 y38 z38 st38 hQ38
    rw [l38, y38, z38] at X38
    obtain ⟨r6, rfl, hr6, N38q, e38⟩ := hQ38
    have N38 := Fr.app N36 N38q
    have b01_6 : r6.toInt = 0 ∨ r6.toInt = 1 := by omega
    obtain ⟨cl39, Ar39, q39, S39, M39, H39, G39⟩ := id V36
    have hin39 : ¬ ((6 : Int32) < 0 ∨ cl39.slots.size ≤ ((6 : Int32)).toNatClampNeg) := inb_of S39 ⟨by decide, by decide⟩
    obtain ⟨T40, h40, X40, e40, W40, st40⟩ := stZ X38 hx hZ e38 Ar39 (j := (6 : Int32)) hin39 (g := (mkF m 121 #[.val (.int vf), .val (.int vr), .val (.int vm), .val (.long qk), .second, .val (.long qp), .second, .val (.int (0 : Int32)), .val (.ref b4), .val (.ref b6), .val (.ref b10), .unset, .unset, .unset, .unset, .unset, .unset, .unset] [(.int r6), (.int (6 : Int32)), (.ref b4)])) rfl rfl (hb hby at_121)
    have N40 := Fr.snoc X40 N38 g_b4
    have Zs41 : n0 ≤ h40.size := by rw [W40.size]; exact Zs37
    have V40 : Arv Z h40 b4 k4 .boolean (8 : Int32) [(.int (nar .boolean r0)), (.int (nar .boolean r1)), (.int (nar .boolean r2)), (.int (nar .boolean r3)), (.int (nar .boolean r4)), (.int (nar .boolean r5)), (.int (nar .boolean r6)), (.int (0 : Int32))] (.int (0 : Int32)) := Arv.set Ar39 q39 S39 M39 H39 G39 (fits_nar_bool _) W40 6 rfl (Nat.le_of_ble_eq_true rfl)
    obtain ⟨_, _, ⟨T42, L42, k42, n42⟩, -, X42, ⟨Lc42, hQ42, l42, y42, z42⟩, st42⟩ := Jvm.LawKit.callS X40 hx (y := (⟨"com/example/foreslot/foreslot/ScheduleStoppedPinLaw", "bit", "(II)Z"⟩ : MethodName)) hown (mvT hZ (hw _ (List.mem_of_getElem? (i := 2) rfl))) (mvT hZ (hw _ (List.mem_of_getElem? (i := 3) rfl))) (mvT hZ (hw _ (List.mem_of_getElem? (i := 4) rfl))) (mvT hZ (hw _ (List.mem_of_getElem? (i := 5) rfl))) (by decide) (backOf (W := 2) (rm1 l Z a0 hw [] vf (7 : Int32) h40 n0 Zs41 ) hZ (hw _ (List.mem_of_getElem? (i := 5) rfl)) (hw _ (List.mem_of_getElem? (i := 4) rfl)) (by decide) (by decide)) (g := (mkF m 129 #[.val (.int vf), .val (.int vr), .val (.int vm), .val (.long qk), .second, .val (.long qp), .second, .val (.int (0 : Int32)), .val (.ref b4), .val (.ref b6), .val (.ref b10), .unset, .unset, .unset, .unset, .unset, .unset, .unset] [(.int (7 : Int32)), (.int vf), (.int (7 : Int32)), (.ref b4)])) rfl (by rw [hml]; rfl) (argsL := [(.int vf), (.int (7 : Int32))]) (rest := [(.int (7 : Int32)), (.ref b4)]) (lenOf pd_0 rfl) rfl (by show 2 * 0 + _ ≤ _; exact Nat.le_of_eq rfl) (hb hby at_129) (fun _ _ => ⟨rfl, e40, (by decide : 3 + 0 ≤ _), (by decide : 24 + 0 ≤ _)⟩)
    dsimp only [Pt.U, Pt.locs, Pt.cells, Pt.slots] at X42 l42 y42 z42 st42 hQ42
    rw [l42, y42, z42] at X42
    obtain ⟨r7, rfl, hr7, N42q, e42⟩ := hQ42
    have N42 := Fr.app N40 N42q
    have b01_7 : r7.toInt = 0 ∨ r7.toInt = 1 := by omega
    obtain ⟨cl43, Ar43, q43, S43, M43, H43, G43⟩ := id V40
    have hin43 : ¬ ((7 : Int32) < 0 ∨ cl43.slots.size ≤ ((7 : Int32)).toNatClampNeg) := inb_of S43 ⟨by decide, by decide⟩
    obtain ⟨T44, h44, X44, e44, W44, st44⟩ := stZ X42 hx hZ e42 Ar43 (j := (7 : Int32)) hin43 (g := (mkF m 132 #[.val (.int vf), .val (.int vr), .val (.int vm), .val (.long qk), .second, .val (.long qp), .second, .val (.int (0 : Int32)), .val (.ref b4), .val (.ref b6), .val (.ref b10), .unset, .unset, .unset, .unset, .unset, .unset, .unset] [(.int r7), (.int (7 : Int32)), (.ref b4)])) rfl rfl (hb hby at_132)
    have N44 := Fr.snoc X44 N42 g_b4
    have Zs45 : n0 ≤ h44.size := by rw [W44.size]; exact Zs41
    have V44 : Arv Z h44 b4 k4 .boolean (8 : Int32) [(.int (nar .boolean r0)), (.int (nar .boolean r1)), (.int (nar .boolean r2)), (.int (nar .boolean r3)), (.int (nar .boolean r4)), (.int (nar .boolean r5)), (.int (nar .boolean r6)), (.int (nar .boolean r7))] (.int (0 : Int32)) := Arv.set Ar43 q43 S43 M43 H43 G43 (fits_nar_bool _) W44 7 rfl (Nat.le_of_ble_eq_true rfl)
    obtain ⟨_, _, ⟨T46, L46, k46, n46⟩, -, X46, ⟨Lc46, hQ46, l46, y46, z46⟩, st46⟩ := Jvm.LawKit.callS X44 hx (y := (⟨"com/example/foreslot/foreslot/ScheduleStoppedPinLaw", "startOf", "(II)J"⟩ : MethodName)) hown (mvT hZ (hw _ (List.mem_of_getElem? (i := 6) rfl))) (mvT hZ (hw _ (List.mem_of_getElem? (i := 7) rfl))) (mvT hZ (hw _ (List.mem_of_getElem? (i := 4) rfl))) (mvT hZ (hw _ (List.mem_of_getElem? (i := 8) rfl))) (by decide) (backOf (W := 2) (rm2 l Z a0 hw [] vr (0 : Int32) h44 n0 Zs45 ) hZ (hw _ (List.mem_of_getElem? (i := 8) rfl)) (hw _ (List.mem_of_getElem? (i := 4) rfl)) (by decide) (by decide)) (g := (mkF m 138 #[.val (.int vf), .val (.int vr), .val (.int vm), .val (.long qk), .second, .val (.long qp), .second, .val (.int (0 : Int32)), .val (.ref b4), .val (.ref b6), .val (.ref b10), .unset, .unset, .unset, .unset, .unset, .unset, .unset] [(.int (0 : Int32)), (.int vr), (.int (0 : Int32)), (.ref b6)])) rfl (by rw [hml]; rfl) (argsL := [(.int vr), (.int (0 : Int32))]) (rest := [(.int (0 : Int32)), (.ref b6)]) (lenOf pd_2 rfl) rfl (by show 2 * 0 + _ ≤ _; exact Nat.le_of_eq rfl) (hb hby at_138) (fun _ _ => ⟨rfl, e44, (by decide : 3 + 0 ≤ _), (by decide : 24 + 0 ≤ _)⟩)
    dsimp only [Pt.U, Pt.locs, Pt.cells, Pt.slots] at X46 l46 y46 z46 st46 hQ46
    rw [l46, y46, z46] at X46
    obtain ⟨r46, rfl, hr46, N46q, e46⟩ := hQ46
    have N46 := Fr.app N44 N46q
    have f47 := (((((((((V6.ext E10).other W16 (Ne.symm ne_b4_b6)).other W20 (Ne.symm ne_b4_b6)).other W24 (Ne.symm ne_b4_b6)).other W28 (Ne.symm ne_b4_b6)).other W32 (Ne.symm ne_b4_b6)).other W36 (Ne.symm ne_b4_b6)).other W40 (Ne.symm ne_b4_b6)).other W44 (Ne.symm ne_b4_b6))
    obtain ⟨cl48, Ar48, q48, S48, M48, H48, G48⟩ := id f47
    have hin48 : ¬ ((0 : Int32) < 0 ∨ cl48.slots.size ≤ ((0 : Int32)).toNatClampNeg) := inb_of S48 ⟨by decide, by decide⟩
    obtain ⟨T49, h49, X49, e49, W49, st49⟩ := stJ X46 hx hZ e46 Ar48 (j := (0 : Int32)) hin48 (g := (mkF m 141 #[.val (.int vf), .val (.int vr), .val (.int vm), .val (.long qk), .second, .val (.long qp), .second, .val (.int (0 : Int32)), .val (.ref b4), .val (.ref b6), .val (.ref b10), .unset, .unset, .unset, .unset, .unset, .unset, .unset] [(.long r46), (.int (0 : Int32)), (.ref b6)])) rfl rfl (hb hby at_141)
    have N49 := Fr.snoc X49 N46 g_b6
    have Zs50 : n0 ≤ h49.size := by rw [W49.size]; exact Zs45
    have V49 : Arv Z h49 b6 k6 .long (8 : Int32) [(.long r46), (.long (0 : Int64)), (.long (0 : Int64)), (.long (0 : Int64)), (.long (0 : Int64)), (.long (0 : Int64)), (.long (0 : Int64)), (.long (0 : Int64))] (.long (0 : Int64)) := Arv.set Ar48 q48 S48 M48 H48 G48 rfl W49 0 rfl (Nat.le_of_ble_eq_true rfl)
    obtain ⟨_, _, ⟨T51, L51, k51, n51⟩, -, X51, ⟨Lc51, hQ51, l51, y51, z51⟩, st51⟩ := Jvm.LawKit.callS X49 hx (y := (⟨"com/example/foreslot/foreslot/ScheduleStoppedPinLaw", "startOf", "(II)J"⟩ : MethodName)) hown (mvT hZ (hw _ (List.mem_of_getElem? (i := 6) rfl))) (mvT hZ (hw _ (List.mem_of_getElem? (i := 7) rfl))) (mvT hZ (hw _ (List.mem_of_getElem? (i := 4) rfl))) (mvT hZ (hw _ (List.mem_of_getElem? (i := 8) rfl))) (by decide) (backOf (W := 2) (rm2 l Z a0 hw [] vr (1 : Int32) h49 n0 Zs50 ) hZ (hw _ (List.mem_of_getElem? (i := 8) rfl)) (hw _ (List.mem_of_getElem? (i := 4) rfl)) (by decide) (by decide)) (g := (mkF m 147 #[.val (.int vf), .val (.int vr), .val (.int vm), .val (.long qk), .second, .val (.long qp), .second, .val (.int (0 : Int32)), .val (.ref b4), .val (.ref b6), .val (.ref b10), .unset, .unset, .unset, .unset, .unset, .unset, .unset] [(.int (1 : Int32)), (.int vr), (.int (1 : Int32)), (.ref b6)])) rfl (by rw [hml]; rfl) (argsL := [(.int vr), (.int (1 : Int32))]) (rest := [(.int (1 : Int32)), (.ref b6)]) (lenOf pd_2 rfl) rfl (by show 2 * 0 + _ ≤ _; exact Nat.le_of_eq rfl) (hb hby at_147) (fun _ _ => ⟨rfl, e49, (by decide : 3 + 0 ≤ _), (by decide : 24 + 0 ≤ _)⟩)
    dsimp only [Pt.U, Pt.locs, Pt.cells, Pt.slots] at X51 l51 y51 z51 st51 hQ51
    rw [l51, y51, z51] at X51
    obtain ⟨r51, rfl, hr51, N51q, e51⟩ := hQ51
    have N51 := Fr.app N49 N51q
    obtain ⟨cl52, Ar52, q52, S52, M52, H52, G52⟩ := id V49
    have hin52 : ¬ ((1 : Int32) < 0 ∨ cl52.slots.size ≤ ((1 : Int32)).toNatClampNeg) := inb_of S52 ⟨by decide, by decide⟩
    obtain ⟨T53, h53, X53, e53, W53, st53⟩ := stJ X51 hx hZ e51 Ar52 (j := (1 : Int32)) hin52 (g := (mkF m 150 #[.val (.int vf), .val (.int vr), .val (.int vm), .val (.long qk), .second, .val (.long qp), .second, .val (.int (0 : Int32)), .val (.ref b4), .val (.ref b6), .val (.ref b10), .unset, .unset, .unset, .unset, .unset, .unset, .unset] [(.long r51), (.int (1 : Int32)), (.ref b6)])) rfl rfl (hb hby at_150)
    have N53 := Fr.snoc X53 N51 g_b6
    have Zs54 : n0 ≤ h53.size := by rw [W53.size]; exact Zs50
    have V53 : Arv Z h53 b6 k6 .long (8 : Int32) [(.long r46), (.long r51), (.long (0 : Int64)), (.long (0 : Int64)), (.long (0 : Int64)), (.long (0 : Int64)), (.long (0 : Int64)), (.long (0 : Int64))] (.long (0 : Int64)) := Arv.set Ar52 q52 S52 M52 H52 G52 rfl W53 1 rfl (Nat.le_of_ble_eq_true rfl)
    obtain ⟨_, _, ⟨T55, L55, k55, n55⟩, -, X55, ⟨Lc55, hQ55, l55, y55, z55⟩, st55⟩ := Jvm.LawKit.callS X53 hx (y := (⟨"com/example/foreslot/foreslot/ScheduleStoppedPinLaw", "startOf", "(II)J"⟩ : MethodName)) hown (mvT hZ (hw _ (List.mem_of_getElem? (i := 6) rfl))) (mvT hZ (hw _ (List.mem_of_getElem? (i := 7) rfl))) (mvT hZ (hw _ (List.mem_of_getElem? (i := 4) rfl))) (mvT hZ (hw _ (List.mem_of_getElem? (i := 8) rfl))) (by decide) (backOf (W := 2) (rm2 l Z a0 hw [] vr (2 : Int32) h53 n0 Zs54 ) hZ (hw _ (List.mem_of_getElem? (i := 8) rfl)) (hw _ (List.mem_of_getElem? (i := 4) rfl)) (by decide) (by decide)) (g := (mkF m 156 #[.val (.int vf), .val (.int vr), .val (.int vm), .val (.long qk), .second, .val (.long qp), .second, .val (.int (0 : Int32)), .val (.ref b4), .val (.ref b6), .val (.ref b10), .unset, .unset, .unset, .unset, .unset, .unset, .unset] [(.int (2 : Int32)), (.int vr), (.int (2 : Int32)), (.ref b6)])) rfl (by rw [hml]; rfl) (argsL := [(.int vr), (.int (2 : Int32))]) (rest := [(.int (2 : Int32)), (.ref b6)]) (lenOf pd_2 rfl) rfl (by show 2 * 0 + _ ≤ _; exact Nat.le_of_eq rfl) (hb hby at_156) (fun _ _ => ⟨rfl, e53, (by decide : 3 + 0 ≤ _), (by decide : 24 + 0 ≤ _)⟩)
    dsimp only [Pt.U, Pt.locs, Pt.cells, Pt.slots] at X55 l55 y55 z55 st55 hQ55
    rw [l55, y55, z55] at X55
    obtain ⟨r55, rfl, hr55, N55q, e55⟩ := hQ55
    have N55 := Fr.app N53 N55q
    obtain ⟨cl56, Ar56, q56, S56, M56, H56, G56⟩ := id V53
    have hin56 : ¬ ((2 : Int32) < 0 ∨ cl56.slots.size ≤ ((2 : Int32)).toNatClampNeg) := inb_of S56 ⟨by decide, by decide⟩
    obtain ⟨T57, h57, X57, e57, W57, st57⟩ := stJ X55 hx hZ e55 Ar56 (j := (2 : Int32)) hin56 (g := (mkF m 159 #[.val (.int vf), .val (.int vr), .val (.int vm), .val (.long qk), .second, .val (.long qp), .second, .val (.int (0 : Int32)), .val (.ref b4), .val (.ref b6), .val (.ref b10), .unset, .unset, .unset, .unset, .unset, .unset, .unset] [(.long r55), (.int (2 : Int32)), (.ref b6)])) rfl rfl (hb hby at_159)
    have N57 := Fr.snoc X57 N55 g_b6
    have Zs58 : n0 ≤ h57.size := by rw [W57.size]; exact Zs54
    have V57 : Arv Z h57 b6 k6 .long (8 : Int32) [(.long r46), (.long r51), (.long r55), (.long (0 : Int64)), (.long (0 : Int64)), (.long (0 : Int64)), (.long (0 : Int64)), (.long (0 : Int64))] (.long (0 : Int64)) := Arv.set Ar56 q56 S56 M56 H56 G56 rfl W57 2 rfl (Nat.le_of_ble_eq_true rfl)
    obtain ⟨_, _, ⟨T59, L59, k59, n59⟩, -, X59, ⟨Lc59, hQ59, l59, y59, z59⟩, st59⟩ := Jvm.LawKit.callS X57 hx (y := (⟨"com/example/foreslot/foreslot/ScheduleStoppedPinLaw", "startOf", "(II)J"⟩ : MethodName)) hown (mvT hZ (hw _ (List.mem_of_getElem? (i := 6) rfl))) (mvT hZ (hw _ (List.mem_of_getElem? (i := 7) rfl))) (mvT hZ (hw _ (List.mem_of_getElem? (i := 4) rfl))) (mvT hZ (hw _ (List.mem_of_getElem? (i := 8) rfl))) (by decide) (backOf (W := 2) (rm2 l Z a0 hw [] vr (3 : Int32) h57 n0 Zs58 ) hZ (hw _ (List.mem_of_getElem? (i := 8) rfl)) (hw _ (List.mem_of_getElem? (i := 4) rfl)) (by decide) (by decide)) (g := (mkF m 165 #[.val (.int vf), .val (.int vr), .val (.int vm), .val (.long qk), .second, .val (.long qp), .second, .val (.int (0 : Int32)), .val (.ref b4), .val (.ref b6), .val (.ref b10), .unset, .unset, .unset, .unset, .unset, .unset, .unset] [(.int (3 : Int32)), (.int vr), (.int (3 : Int32)), (.ref b6)])) rfl (by rw [hml]; rfl) (argsL := [(.int vr), (.int (3 : Int32))]) (rest := [(.int (3 : Int32)), (.ref b6)]) (lenOf pd_2 rfl) rfl (by show 2 * 0 + _ ≤ _; exact Nat.le_of_eq rfl) (hb hby at_165) (fun _ _ => ⟨rfl, e57, (by decide : 3 + 0 ≤ _), (by decide : 24 + 0 ≤ _)⟩)
    dsimp only [Pt.U, Pt.locs, Pt.cells, Pt.slots] at X59 l59 y59 z59 st59 hQ59
    rw [l59, y59, z59] at X59
    obtain ⟨r59, rfl, hr59, N59q, e59⟩ := hQ59
    have N59 := Fr.app N57 N59q
    obtain ⟨cl60, Ar60, q60, S60, M60, H60, G60⟩ := id V57
    have hin60 : ¬ ((3 : Int32) < 0 ∨ cl60.slots.size ≤ ((3 : Int32)).toNatClampNeg) := inb_of S60 ⟨by decide, by decide⟩
    obtain ⟨T61, h61, X61, e61, W61, st61⟩ := stJ X59 hx hZ e59 Ar60 (j := (3 : Int32)) hin60 (g := (mkF m 168 #[.val (.int vf), .val (.int vr), .val (.int vm), .val (.long qk), .second, .val (.long qp), .second, .val (.int (0 : Int32)), .val (.ref b4), .val (.ref b6), .val (.ref b10), .unset, .unset, .unset, .unset, .unset, .unset, .unset] [(.long r59), (.int (3 : Int32)), (.ref b6)])) rfl rfl (hb hby at_168)
    have N61 := Fr.snoc X61 N59 g_b6
    have Zs62 : n0 ≤ h61.size := by rw [W61.size]; exact Zs58
    have V61 : Arv Z h61 b6 k6 .long (8 : Int32) [(.long r46), (.long r51), (.long r55), (.long r59), (.long (0 : Int64)), (.long (0 : Int64)), (.long (0 : Int64)), (.long (0 : Int64))] (.long (0 : Int64)) := Arv.set Ar60 q60 S60 M60 H60 G60 rfl W61 3 rfl (Nat.le_of_ble_eq_true rfl)
    obtain ⟨_, _, ⟨T63, L63, k63, n63⟩, -, X63, ⟨Lc63, hQ63, l63, y63, z63⟩, st63⟩ := Jvm.LawKit.callS X61 hx (y := (⟨"com/example/foreslot/foreslot/ScheduleStoppedPinLaw", "startOf", "(II)J"⟩ : MethodName)) hown (mvT hZ (hw _ (List.mem_of_getElem? (i := 6) rfl))) (mvT hZ (hw _ (List.mem_of_getElem? (i := 7) rfl))) (mvT hZ (hw _ (List.mem_of_getElem? (i := 4) rfl))) (mvT hZ (hw _ (List.mem_of_getElem? (i := 8) rfl))) (by decide) (backOf (W := 2) (rm2 l Z a0 hw [] vr (4 : Int32) h61 n0 Zs62 ) hZ (hw _ (List.mem_of_getElem? (i := 8) rfl)) (hw _ (List.mem_of_getElem? (i := 4) rfl)) (by decide) (by decide)) (g := (mkF m 174 #[.val (.int vf), .val (.int vr), .val (.int vm), .val (.long qk), .second, .val (.long qp), .second, .val (.int (0 : Int32)), .val (.ref b4), .val (.ref b6), .val (.ref b10), .unset, .unset, .unset, .unset, .unset, .unset, .unset] [(.int (4 : Int32)), (.int vr), (.int (4 : Int32)), (.ref b6)])) rfl (by rw [hml]; rfl) (argsL := [(.int vr), (.int (4 : Int32))]) (rest := [(.int (4 : Int32)), (.ref b6)]) (lenOf pd_2 rfl) rfl (by show 2 * 0 + _ ≤ _; exact Nat.le_of_eq rfl) (hb hby at_174) (fun _ _ => ⟨rfl, e61, (by decide : 3 + 0 ≤ _), (by decide : 24 + 0 ≤ _)⟩)
    dsimp only [Pt.U, Pt.locs, Pt.cells, Pt.slots] at X63 l63 y63 z63 st63 hQ63
    rw [l63, y63, z63] at X63
    obtain ⟨r63, rfl, hr63, N63q, e63⟩ := hQ63
    have N63 := Fr.app N61 N63q
    obtain ⟨cl64, Ar64, q64, S64, M64, H64, G64⟩ := id V61
    have hin64 : ¬ ((4 : Int32) < 0 ∨ cl64.slots.size ≤ ((4 : Int32)).toNatClampNeg) := inb_of S64 ⟨by decide, by decide⟩
    obtain ⟨T65, h65, X65, e65, W65, st65⟩ := stJ X63 hx hZ e63 Ar64 (j := (4 : Int32)) hin64 (g := (mkF m 177 #[.val (.int vf), .val (.int vr), .val (.int vm), .val (.long qk), .second, .val (.long qp), .second, .val (.int (0 : Int32)), .val (.ref b4), .val (.ref b6), .val (.ref b10), .unset, .unset, .unset, .unset, .unset, .unset, .unset] [(.long r63), (.int (4 : Int32)), (.ref b6)])) rfl rfl (hb hby at_177)
    have N65 := Fr.snoc X65 N63 g_b6
    have Zs66 : n0 ≤ h65.size := by rw [W65.size]; exact Zs62
    have V65 : Arv Z h65 b6 k6 .long (8 : Int32) [(.long r46), (.long r51), (.long r55), (.long r59), (.long r63), (.long (0 : Int64)), (.long (0 : Int64)), (.long (0 : Int64))] (.long (0 : Int64)) := Arv.set Ar64 q64 S64 M64 H64 G64 rfl W65 4 rfl (Nat.le_of_ble_eq_true rfl)
    obtain ⟨_, _, ⟨T67, L67, k67, n67⟩, -, X67, ⟨Lc67, hQ67, l67, y67, z67⟩, st67⟩ := Jvm.LawKit.callS X65 hx (y := (⟨"com/example/foreslot/foreslot/ScheduleStoppedPinLaw", "startOf", "(II)J"⟩ : MethodName)) hown (mvT hZ (hw _ (List.mem_of_getElem? (i := 6) rfl))) (mvT hZ (hw _ (List.mem_of_getElem? (i := 7) rfl))) (mvT hZ (hw _ (List.mem_of_getElem? (i := 4) rfl))) (mvT hZ (hw _ (List.mem_of_getElem? (i := 8) rfl))) (by decide) (backOf (W := 2) (rm2 l Z a0 hw [] vr (5 : Int32) h65 n0 Zs66 ) hZ (hw _ (List.mem_of_getElem? (i := 8) rfl)) (hw _ (List.mem_of_getElem? (i := 4) rfl)) (by decide) (by decide)) (g := (mkF m 183 #[.val (.int vf), .val (.int vr), .val (.int vm), .val (.long qk), .second, .val (.long qp), .second, .val (.int (0 : Int32)), .val (.ref b4), .val (.ref b6), .val (.ref b10), .unset, .unset, .unset, .unset, .unset, .unset, .unset] [(.int (5 : Int32)), (.int vr), (.int (5 : Int32)), (.ref b6)])) rfl (by rw [hml]; rfl) (argsL := [(.int vr), (.int (5 : Int32))]) (rest := [(.int (5 : Int32)), (.ref b6)]) (lenOf pd_2 rfl) rfl (by show 2 * 0 + _ ≤ _; exact Nat.le_of_eq rfl) (hb hby at_183) (fun _ _ => ⟨rfl, e65, (by decide : 3 + 0 ≤ _), (by decide : 24 + 0 ≤ _)⟩)
    dsimp only [Pt.U, Pt.locs, Pt.cells, Pt.slots] at X67 l67 y67 z67 st67 hQ67
    rw [l67, y67, z67] at X67
    obtain ⟨r67, rfl, hr67, N67q, e67⟩ := hQ67
    have N67 := Fr.app N65 N67q
    obtain ⟨cl68, Ar68, q68, S68, M68, H68, G68⟩ := id V65
    have hin68 : ¬ ((5 : Int32) < 0 ∨ cl68.slots.size ≤ ((5 : Int32)).toNatClampNeg) := inb_of S68 ⟨by decide, by decide⟩
    obtain ⟨T69, h69, X69, e69, W69, st69⟩ := stJ X67 hx hZ e67 Ar68 (j := (5 : Int32)) hin68 (g := (mkF m 186 #[.val (.int vf), .val (.int vr), .val (.int vm), .val (.long qk), .second, .val (.long qp), .second, .val (.int (0 : Int32)), .val (.ref b4), .val (.ref b6), .val (.ref b10), .unset, .unset, .unset, .unset, .unset, .unset, .unset] [(.long r67), (.int (5 : Int32)), (.ref b6)])) rfl rfl (hb hby at_186)
    have N69 := Fr.snoc X69 N67 g_b6
    have Zs70 : n0 ≤ h69.size := by rw [W69.size]; exact Zs66
    have V69 : Arv Z h69 b6 k6 .long (8 : Int32) [(.long r46), (.long r51), (.long r55), (.long r59), (.long r63), (.long r67), (.long (0 : Int64)), (.long (0 : Int64))] (.long (0 : Int64)) := Arv.set Ar68 q68 S68 M68 H68 G68 rfl W69 5 rfl (Nat.le_of_ble_eq_true rfl)
    obtain ⟨_, _, ⟨T71, L71, k71, n71⟩, -, X71, ⟨Lc71, hQ71, l71, y71, z71⟩, st71⟩ := Jvm.LawKit.callS X69 hx (y := (⟨"com/example/foreslot/foreslot/ScheduleStoppedPinLaw", "startOf", "(II)J"⟩ : MethodName)) hown (mvT hZ (hw _ (List.mem_of_getElem? (i := 6) rfl))) (mvT hZ (hw _ (List.mem_of_getElem? (i := 7) rfl))) (mvT hZ (hw _ (List.mem_of_getElem? (i := 4) rfl))) (mvT hZ (hw _ (List.mem_of_getElem? (i := 8) rfl))) (by decide) (backOf (W := 2) (rm2 l Z a0 hw [] vr (6 : Int32) h69 n0 Zs70 ) hZ (hw _ (List.mem_of_getElem? (i := 8) rfl)) (hw _ (List.mem_of_getElem? (i := 4) rfl)) (by decide) (by decide)) (g := (mkF m 194 #[.val (.int vf), .val (.int vr), .val (.int vm), .val (.long qk), .second, .val (.long qp), .second, .val (.int (0 : Int32)), .val (.ref b4), .val (.ref b6), .val (.ref b10), .unset, .unset, .unset, .unset, .unset, .unset, .unset] [(.int (6 : Int32)), (.int vr), (.int (6 : Int32)), (.ref b6)])) rfl (by rw [hml]; rfl) (argsL := [(.int vr), (.int (6 : Int32))]) (rest := [(.int (6 : Int32)), (.ref b6)]) (lenOf pd_2 rfl) rfl (by show 2 * 0 + _ ≤ _; exact Nat.le_of_eq rfl) (hb hby at_194) (fun _ _ => ⟨rfl, e69, (by decide : 3 + 0 ≤ _), (by decide : 24 + 0 ≤ _)⟩)
    dsimp only [Pt.U, Pt.locs, Pt.cells, Pt.slots] at X71 l71 y71 z71 st71 hQ71
    rw [l71, y71, z71] at X71
    obtain ⟨r71, rfl, hr71, N71q, e71⟩ := hQ71
    have N71 := Fr.app N69 N71q
    obtain ⟨cl72, Ar72, q72, S72, M72, H72, G72⟩ := id V69
    have hin72 : ¬ ((6 : Int32) < 0 ∨ cl72.slots.size ≤ ((6 : Int32)).toNatClampNeg) := inb_of S72 ⟨by decide, by decide⟩
    obtain ⟨T73, h73, X73, e73, W73, st73⟩ := stJ X71 hx hZ e71 Ar72 (j := (6 : Int32)) hin72 (g := (mkF m 197 #[.val (.int vf), .val (.int vr), .val (.int vm), .val (.long qk), .second, .val (.long qp), .second, .val (.int (0 : Int32)), .val (.ref b4), .val (.ref b6), .val (.ref b10), .unset, .unset, .unset, .unset, .unset, .unset, .unset] [(.long r71), (.int (6 : Int32)), (.ref b6)])) rfl rfl (hb hby at_197)
    have N73 := Fr.snoc X73 N71 g_b6
    have Zs74 : n0 ≤ h73.size := by rw [W73.size]; exact Zs70
    have V73 : Arv Z h73 b6 k6 .long (8 : Int32) [(.long r46), (.long r51), (.long r55), (.long r59), (.long r63), (.long r67), (.long r71), (.long (0 : Int64))] (.long (0 : Int64)) := Arv.set Ar72 q72 S72 M72 H72 G72 rfl W73 6 rfl (Nat.le_of_ble_eq_true rfl)
    obtain ⟨_, _, ⟨T75, L75, k75, n75⟩, -, X75, ⟨Lc75, hQ75, l75, y75, z75⟩, st75⟩ := Jvm.LawKit.callS X73 hx (y := (⟨"com/example/foreslot/foreslot/ScheduleStoppedPinLaw", "startOf", "(II)J"⟩ : MethodName)) hown (mvT hZ (hw _ (List.mem_of_getElem? (i := 6) rfl))) (mvT hZ (hw _ (List.mem_of_getElem? (i := 7) rfl))) (mvT hZ (hw _ (List.mem_of_getElem? (i := 4) rfl))) (mvT hZ (hw _ (List.mem_of_getElem? (i := 8) rfl))) (by decide) (backOf (W := 2) (rm2 l Z a0 hw [] vr (7 : Int32) h73 n0 Zs74 ) hZ (hw _ (List.mem_of_getElem? (i := 8) rfl)) (hw _ (List.mem_of_getElem? (i := 4) rfl)) (by decide) (by decide)) (g := (mkF m 205 #[.val (.int vf), .val (.int vr), .val (.int vm), .val (.long qk), .second, .val (.long qp), .second, .val (.int (0 : Int32)), .val (.ref b4), .val (.ref b6), .val (.ref b10), .unset, .unset, .unset, .unset, .unset, .unset, .unset] [(.int (7 : Int32)), (.int vr), (.int (7 : Int32)), (.ref b6)])) rfl (by rw [hml]; rfl) (argsL := [(.int vr), (.int (7 : Int32))]) (rest := [(.int (7 : Int32)), (.ref b6)]) (lenOf pd_2 rfl) rfl (by show 2 * 0 + _ ≤ _; exact Nat.le_of_eq rfl) (hb hby at_205) (fun _ _ => ⟨rfl, e73, (by decide : 3 + 0 ≤ _), (by decide : 24 + 0 ≤ _)⟩)
    dsimp only [Pt.U, Pt.locs, Pt.cells, Pt.slots] at X75 l75 y75 z75 st75 hQ75
    rw [l75, y75, z75] at X75
    obtain ⟨r75, rfl, hr75, N75q, e75⟩ := hQ75
    have N75 := Fr.app N73 N75q
    obtain ⟨cl76, Ar76, q76, S76, M76, H76, G76⟩ := id V73
    have hin76 : ¬ ((7 : Int32) < 0 ∨ cl76.slots.size ≤ ((7 : Int32)).toNatClampNeg) := inb_of S76 ⟨by decide, by decide⟩
    obtain ⟨T77, h77, X77, e77, W77, st77⟩ := stJ X75 hx hZ e75 Ar76 (j := (7 : Int32)) hin76 (g := (mkF m 208 #[.val (.int vf), .val (.int vr), .val (.int vm), .val (.long qk), .second, .val (.long qp), .second, .val (.int (0 : Int32)), .val (.ref b4), .val (.ref b6), .val (.ref b10), .unset, .unset, .unset, .unset, .unset, .unset, .unset] [(.long r75), (.int (7 : Int32)), (.ref b6)])) rfl rfl (hb hby at_208)
    have N77 := Fr.snoc X77 N75 g_b6
    have Zs78 : n0 ≤ h77.size := by rw [W77.size]; exact Zs74
    have V77 : Arv Z h77 b6 k6 .long (8 : Int32) [(.long r46), (.long r51), (.long r55), (.long r59), (.long r63), (.long r67), (.long r71), (.long r75)] (.long (0 : Int64)) := Arv.set Ar76 q76 S76 M76 H76 G76 rfl W77 7 rfl (Nat.le_of_ble_eq_true rfl)
    obtain ⟨_, _, ⟨T79, L79, k79, n79⟩, -, X79, ⟨Lc79, hQ79, l79, y79, z79⟩, st79⟩ := Jvm.LawKit.callS X77 hx (y := (⟨"com/example/foreslot/foreslot/ScheduleStoppedPinLaw", "endOf", "(II)J"⟩ : MethodName)) hown (mvT hZ (hw _ (List.mem_of_getElem? (i := 10) rfl))) (mvT hZ (hw _ (List.mem_of_getElem? (i := 11) rfl))) (mvT hZ (hw _ (List.mem_of_getElem? (i := 4) rfl))) (mvT hZ (hw _ (List.mem_of_getElem? (i := 12) rfl))) (by decide) (backOf (W := 2) (rm3 l Z a0 hw [] vr (0 : Int32) h77 n0 Zs78 ) hZ (hw _ (List.mem_of_getElem? (i := 12) rfl)) (hw _ (List.mem_of_getElem? (i := 4) rfl)) (by decide) (by decide)) (g := (mkF m 214 #[.val (.int vf), .val (.int vr), .val (.int vm), .val (.long qk), .second, .val (.long qp), .second, .val (.int (0 : Int32)), .val (.ref b4), .val (.ref b6), .val (.ref b10), .unset, .unset, .unset, .unset, .unset, .unset, .unset] [(.int (0 : Int32)), (.int vr), (.int (0 : Int32)), (.ref b10)])) rfl (by rw [hml]; rfl) (argsL := [(.int vr), (.int (0 : Int32))]) (rest := [(.int (0 : Int32)), (.ref b10)]) (lenOf pd_2 rfl) rfl (by show 2 * 0 + _ ≤ _; exact Nat.le_of_eq rfl) (hb hby at_214) (fun _ _ => ⟨rfl, e77, (by decide : 3 + 0 ≤ _), (by decide : 24 + 0 ≤ _)⟩)
    dsimp only [Pt.U, Pt.locs, Pt.cells, Pt.slots] at X79 l79 y79 z79 st79 hQ79
    rw [l79, y79, z79] at X79
    obtain ⟨r79, rfl, hr79, N79q, e79⟩ := hQ79
    have N79 := Fr.app N77 N79q
    have f80 := ((((((((((((((((V10.other W16 (Ne.symm ne_b4_b10)).other W20 (Ne.symm ne_b4_b10)).other W24 (Ne.symm ne_b4_b10)).other W28 (Ne.symm ne_b4_b10)).other W32 (Ne.symm ne_b4_b10)).other W36 (Ne.symm ne_b4_b10)).other W40 (Ne.symm ne_b4_b10)).other W44 (Ne.symm ne_b4_b10)).other W49 (Ne.symm ne_b6_b10)).other W53 (Ne.symm ne_b6_b10)).other W57 (Ne.symm ne_b6_b10)).other W61 (Ne.symm ne_b6_b10)).other W65 (Ne.symm ne_b6_b10)).other W69 (Ne.symm ne_b6_b10)).other W73 (Ne.symm ne_b6_b10)).other W77 (Ne.symm ne_b6_b10))
    obtain ⟨cl81, Ar81, q81, S81, M81, H81, G81⟩ := id f80
    have hin81 : ¬ ((0 : Int32) < 0 ∨ cl81.slots.size ≤ ((0 : Int32)).toNatClampNeg) := inb_of S81 ⟨by decide, by decide⟩
    obtain ⟨T82, h82, X82, e82, W82, st82⟩ := stJ X79 hx hZ e79 Ar81 (j := (0 : Int32)) hin81 (g := (mkF m 217 #[.val (.int vf), .val (.int vr), .val (.int vm), .val (.long qk), .second, .val (.long qp), .second, .val (.int (0 : Int32)), .val (.ref b4), .val (.ref b6), .val (.ref b10), .unset, .unset, .unset, .unset, .unset, .unset, .unset] [(.long r79), (.int (0 : Int32)), (.ref b10)])) rfl rfl (hb hby at_217)
    have N82 := Fr.snoc X82 N79 g_b10
    have Zs83 : n0 ≤ h82.size := by rw [W82.size]; exact Zs78
    have V82 : Arv Z h82 b10 k10 .long (8 : Int32) [(.long r79), (.long (0 : Int64)), (.long (0 : Int64)), (.long (0 : Int64)), (.long (0 : Int64)), (.long (0 : Int64)), (.long (0 : Int64)), (.long (0 : Int64))] (.long (0 : Int64)) := Arv.set Ar81 q81 S81 M81 H81 G81 rfl W82 0 rfl (Nat.le_of_ble_eq_true rfl)
    obtain ⟨_, _, ⟨T84, L84, k84, n84⟩, -, X84, ⟨Lc84, hQ84, l84, y84, z84⟩, st84⟩ := Jvm.LawKit.callS X82 hx (y := (⟨"com/example/foreslot/foreslot/ScheduleStoppedPinLaw", "endOf", "(II)J"⟩ : MethodName)) hown (mvT hZ (hw _ (List.mem_of_getElem? (i := 10) rfl))) (mvT hZ (hw _ (List.mem_of_getElem? (i := 11) rfl))) (mvT hZ (hw _ (List.mem_of_getElem? (i := 4) rfl))) (mvT hZ (hw _ (List.mem_of_getElem? (i := 12) rfl))) (by decide) (backOf (W := 2) (rm3 l Z a0 hw [] vr (1 : Int32) h82 n0 Zs83 ) hZ (hw _ (List.mem_of_getElem? (i := 12) rfl)) (hw _ (List.mem_of_getElem? (i := 4) rfl)) (by decide) (by decide)) (g := (mkF m 223 #[.val (.int vf), .val (.int vr), .val (.int vm), .val (.long qk), .second, .val (.long qp), .second, .val (.int (0 : Int32)), .val (.ref b4), .val (.ref b6), .val (.ref b10), .unset, .unset, .unset, .unset, .unset, .unset, .unset] [(.int (1 : Int32)), (.int vr), (.int (1 : Int32)), (.ref b10)])) rfl (by rw [hml]; rfl) (argsL := [(.int vr), (.int (1 : Int32))]) (rest := [(.int (1 : Int32)), (.ref b10)]) (lenOf pd_2 rfl) rfl (by show 2 * 0 + _ ≤ _; exact Nat.le_of_eq rfl) (hb hby at_223) (fun _ _ => ⟨rfl, e82, (by decide : 3 + 0 ≤ _), (by decide : 24 + 0 ≤ _)⟩)
    dsimp only [Pt.U, Pt.locs, Pt.cells, Pt.slots] at X84 l84 y84 z84 st84 hQ84
    rw [l84, y84, z84] at X84
    obtain ⟨r84, rfl, hr84, N84q, e84⟩ := hQ84
    have N84 := Fr.app N82 N84q
    obtain ⟨cl85, Ar85, q85, S85, M85, H85, G85⟩ := id V82
    have hin85 : ¬ ((1 : Int32) < 0 ∨ cl85.slots.size ≤ ((1 : Int32)).toNatClampNeg) := inb_of S85 ⟨by decide, by decide⟩
    obtain ⟨T86, h86, X86, e86, W86, st86⟩ := stJ X84 hx hZ e84 Ar85 (j := (1 : Int32)) hin85 (g := (mkF m 226 #[.val (.int vf), .val (.int vr), .val (.int vm), .val (.long qk), .second, .val (.long qp), .second, .val (.int (0 : Int32)), .val (.ref b4), .val (.ref b6), .val (.ref b10), .unset, .unset, .unset, .unset, .unset, .unset, .unset] [(.long r84), (.int (1 : Int32)), (.ref b10)])) rfl rfl (hb hby at_226)
    have N86 := Fr.snoc X86 N84 g_b10
    have Zs87 : n0 ≤ h86.size := by rw [W86.size]; exact Zs83
    have V86 : Arv Z h86 b10 k10 .long (8 : Int32) [(.long r79), (.long r84), (.long (0 : Int64)), (.long (0 : Int64)), (.long (0 : Int64)), (.long (0 : Int64)), (.long (0 : Int64)), (.long (0 : Int64))] (.long (0 : Int64)) := Arv.set Ar85 q85 S85 M85 H85 G85 rfl W86 1 rfl (Nat.le_of_ble_eq_true rfl)
    obtain ⟨_, _, ⟨T88, L88, k88, n88⟩, -, X88, ⟨Lc88, hQ88, l88, y88, z88⟩, st88⟩ := Jvm.LawKit.callS X86 hx (y := (⟨"com/example/foreslot/foreslot/ScheduleStoppedPinLaw", "endOf", "(II)J"⟩ : MethodName)) hown (mvT hZ (hw _ (List.mem_of_getElem? (i := 10) rfl))) (mvT hZ (hw _ (List.mem_of_getElem? (i := 11) rfl))) (mvT hZ (hw _ (List.mem_of_getElem? (i := 4) rfl))) (mvT hZ (hw _ (List.mem_of_getElem? (i := 12) rfl))) (by decide) (backOf (W := 2) (rm3 l Z a0 hw [] vr (2 : Int32) h86 n0 Zs87 ) hZ (hw _ (List.mem_of_getElem? (i := 12) rfl)) (hw _ (List.mem_of_getElem? (i := 4) rfl)) (by decide) (by decide)) (g := (mkF m 232 #[.val (.int vf), .val (.int vr), .val (.int vm), .val (.long qk), .second, .val (.long qp), .second, .val (.int (0 : Int32)), .val (.ref b4), .val (.ref b6), .val (.ref b10), .unset, .unset, .unset, .unset, .unset, .unset, .unset] [(.int (2 : Int32)), (.int vr), (.int (2 : Int32)), (.ref b10)])) rfl (by rw [hml]; rfl) (argsL := [(.int vr), (.int (2 : Int32))]) (rest := [(.int (2 : Int32)), (.ref b10)]) (lenOf pd_2 rfl) rfl (by show 2 * 0 + _ ≤ _; exact Nat.le_of_eq rfl) (hb hby at_232) (fun _ _ => ⟨rfl, e86, (by decide : 3 + 0 ≤ _), (by decide : 24 + 0 ≤ _)⟩)
    dsimp only [Pt.U, Pt.locs, Pt.cells, Pt.slots] at X88 l88 y88 z88 st88 hQ88
    rw [l88, y88, z88] at X88
    obtain ⟨r88, rfl, hr88, N88q, e88⟩ := hQ88
    have N88 := Fr.app N86 N88q
    obtain ⟨cl89, Ar89, q89, S89, M89, H89, G89⟩ := id V86
    have hin89 : ¬ ((2 : Int32) < 0 ∨ cl89.slots.size ≤ ((2 : Int32)).toNatClampNeg) := inb_of S89 ⟨by decide, by decide⟩
    obtain ⟨T90, h90, X90, e90, W90, st90⟩ := stJ X88 hx hZ e88 Ar89 (j := (2 : Int32)) hin89 (g := (mkF m 235 #[.val (.int vf), .val (.int vr), .val (.int vm), .val (.long qk), .second, .val (.long qp), .second, .val (.int (0 : Int32)), .val (.ref b4), .val (.ref b6), .val (.ref b10), .unset, .unset, .unset, .unset, .unset, .unset, .unset] [(.long r88), (.int (2 : Int32)), (.ref b10)])) rfl rfl (hb hby at_235)
    have N90 := Fr.snoc X90 N88 g_b10
    have Zs91 : n0 ≤ h90.size := by rw [W90.size]; exact Zs87
    have V90 : Arv Z h90 b10 k10 .long (8 : Int32) [(.long r79), (.long r84), (.long r88), (.long (0 : Int64)), (.long (0 : Int64)), (.long (0 : Int64)), (.long (0 : Int64)), (.long (0 : Int64))] (.long (0 : Int64)) := Arv.set Ar89 q89 S89 M89 H89 G89 rfl W90 2 rfl (Nat.le_of_ble_eq_true rfl)
    obtain ⟨_, _, ⟨T92, L92, k92, n92⟩, -, X92, ⟨Lc92, hQ92, l92, y92, z92⟩, st92⟩ := Jvm.LawKit.callS X90 hx (y := (⟨"com/example/foreslot/foreslot/ScheduleStoppedPinLaw", "endOf", "(II)J"⟩ : MethodName)) hown (mvT hZ (hw _ (List.mem_of_getElem? (i := 10) rfl))) (mvT hZ (hw _ (List.mem_of_getElem? (i := 11) rfl))) (mvT hZ (hw _ (List.mem_of_getElem? (i := 4) rfl))) (mvT hZ (hw _ (List.mem_of_getElem? (i := 12) rfl))) (by decide) (backOf (W := 2) (rm3 l Z a0 hw [] vr (3 : Int32) h90 n0 Zs91 ) hZ (hw _ (List.mem_of_getElem? (i := 12) rfl)) (hw _ (List.mem_of_getElem? (i := 4) rfl)) (by decide) (by decide)) (g := (mkF m 241 #[.val (.int vf), .val (.int vr), .val (.int vm), .val (.long qk), .second, .val (.long qp), .second, .val (.int (0 : Int32)), .val (.ref b4), .val (.ref b6), .val (.ref b10), .unset, .unset, .unset, .unset, .unset, .unset, .unset] [(.int (3 : Int32)), (.int vr), (.int (3 : Int32)), (.ref b10)])) rfl (by rw [hml]; rfl) (argsL := [(.int vr), (.int (3 : Int32))]) (rest := [(.int (3 : Int32)), (.ref b10)]) (lenOf pd_2 rfl) rfl (by show 2 * 0 + _ ≤ _; exact Nat.le_of_eq rfl) (hb hby at_241) (fun _ _ => ⟨rfl, e90, (by decide : 3 + 0 ≤ _), (by decide : 24 + 0 ≤ _)⟩)
    dsimp only [Pt.U, Pt.locs, Pt.cells, Pt.slots] at X92 l92 y92 z92 st92 hQ92
    rw [l92, y92, z92] at X92
    obtain ⟨r92, rfl, hr92, N92q, e92⟩ := hQ92
    have N92 := Fr.app N90 N92q
    obtain ⟨cl93, Ar93, q93, S93, M93, H93, G93⟩ := id V90
    have hin93 : ¬ ((3 : Int32) < 0 ∨ cl93.slots.size ≤ ((3 : Int32)).toNatClampNeg) := inb_of S93 ⟨by decide, by decide⟩
    obtain ⟨T94, h94, X94, e94, W94, st94⟩ := stJ X92 hx hZ e92 Ar93 (j := (3 : Int32)) hin93 (g := (mkF m 244 #[.val (.int vf), .val (.int vr), .val (.int vm), .val (.long qk), .second, .val (.long qp), .second, .val (.int (0 : Int32)), .val (.ref b4), .val (.ref b6), .val (.ref b10), .unset, .unset, .unset, .unset, .unset, .unset, .unset] [(.long r92), (.int (3 : Int32)), (.ref b10)])) rfl rfl (hb hby at_244)
    have N94 := Fr.snoc X94 N92 g_b10
    have Zs95 : n0 ≤ h94.size := by rw [W94.size]; exact Zs91
    have V94 : Arv Z h94 b10 k10 .long (8 : Int32) [(.long r79), (.long r84), (.long r88), (.long r92), (.long (0 : Int64)), (.long (0 : Int64)), (.long (0 : Int64)), (.long (0 : Int64))] (.long (0 : Int64)) := Arv.set Ar93 q93 S93 M93 H93 G93 rfl W94 3 rfl (Nat.le_of_ble_eq_true rfl)
    obtain ⟨_, _, ⟨T96, L96, k96, n96⟩, -, X96, ⟨Lc96, hQ96, l96, y96, z96⟩, st96⟩ := Jvm.LawKit.callS X94 hx (y := (⟨"com/example/foreslot/foreslot/ScheduleStoppedPinLaw", "endOf", "(II)J"⟩ : MethodName)) hown (mvT hZ (hw _ (List.mem_of_getElem? (i := 10) rfl))) (mvT hZ (hw _ (List.mem_of_getElem? (i := 11) rfl))) (mvT hZ (hw _ (List.mem_of_getElem? (i := 4) rfl))) (mvT hZ (hw _ (List.mem_of_getElem? (i := 12) rfl))) (by decide) (backOf (W := 2) (rm3 l Z a0 hw [] vr (4 : Int32) h94 n0 Zs95 ) hZ (hw _ (List.mem_of_getElem? (i := 12) rfl)) (hw _ (List.mem_of_getElem? (i := 4) rfl)) (by decide) (by decide)) (g := (mkF m 250 #[.val (.int vf), .val (.int vr), .val (.int vm), .val (.long qk), .second, .val (.long qp), .second, .val (.int (0 : Int32)), .val (.ref b4), .val (.ref b6), .val (.ref b10), .unset, .unset, .unset, .unset, .unset, .unset, .unset] [(.int (4 : Int32)), (.int vr), (.int (4 : Int32)), (.ref b10)])) rfl (by rw [hml]; rfl) (argsL := [(.int vr), (.int (4 : Int32))]) (rest := [(.int (4 : Int32)), (.ref b10)]) (lenOf pd_2 rfl) rfl (by show 2 * 0 + _ ≤ _; exact Nat.le_of_eq rfl) (hb hby at_250) (fun _ _ => ⟨rfl, e94, (by decide : 3 + 0 ≤ _), (by decide : 24 + 0 ≤ _)⟩)
    dsimp only [Pt.U, Pt.locs, Pt.cells, Pt.slots] at X96 l96 y96 z96 st96 hQ96
    rw [l96, y96, z96] at X96
    obtain ⟨r96, rfl, hr96, N96q, e96⟩ := hQ96
    have N96 := Fr.app N94 N96q
    obtain ⟨cl97, Ar97, q97, S97, M97, H97, G97⟩ := id V94
    have hin97 : ¬ ((4 : Int32) < 0 ∨ cl97.slots.size ≤ ((4 : Int32)).toNatClampNeg) := inb_of S97 ⟨by decide, by decide⟩
    obtain ⟨T98, h98, X98, e98, W98, st98⟩ := stJ X96 hx hZ e96 Ar97 (j := (4 : Int32)) hin97 (g := (mkF m 253 #[.val (.int vf), .val (.int vr), .val (.int vm), .val (.long qk), .second, .val (.long qp), .second, .val (.int (0 : Int32)), .val (.ref b4), .val (.ref b6), .val (.ref b10), .unset, .unset, .unset, .unset, .unset, .unset, .unset] [(.long r96), (.int (4 : Int32)), (.ref b10)])) rfl rfl (hb hby at_253)
    have N98 := Fr.snoc X98 N96 g_b10
    have Zs99 : n0 ≤ h98.size := by rw [W98.size]; exact Zs95
    have V98 : Arv Z h98 b10 k10 .long (8 : Int32) [(.long r79), (.long r84), (.long r88), (.long r92), (.long r96), (.long (0 : Int64)), (.long (0 : Int64)), (.long (0 : Int64))] (.long (0 : Int64)) := Arv.set Ar97 q97 S97 M97 H97 G97 rfl W98 4 rfl (Nat.le_of_ble_eq_true rfl)
    obtain ⟨_, _, ⟨T100, L100, k100, n100⟩, -, X100, ⟨Lc100, hQ100, l100, y100, z100⟩, st100⟩ := Jvm.LawKit.callS X98 hx (y := (⟨"com/example/foreslot/foreslot/ScheduleStoppedPinLaw", "endOf", "(II)J"⟩ : MethodName)) hown (mvT hZ (hw _ (List.mem_of_getElem? (i := 10) rfl))) (mvT hZ (hw _ (List.mem_of_getElem? (i := 11) rfl))) (mvT hZ (hw _ (List.mem_of_getElem? (i := 4) rfl))) (mvT hZ (hw _ (List.mem_of_getElem? (i := 12) rfl))) (by decide) (backOf (W := 2) (rm3 l Z a0 hw [] vr (5 : Int32) h98 n0 Zs99 ) hZ (hw _ (List.mem_of_getElem? (i := 12) rfl)) (hw _ (List.mem_of_getElem? (i := 4) rfl)) (by decide) (by decide)) (g := (mkF m 259 #[.val (.int vf), .val (.int vr), .val (.int vm), .val (.long qk), .second, .val (.long qp), .second, .val (.int (0 : Int32)), .val (.ref b4), .val (.ref b6), .val (.ref b10), .unset, .unset, .unset, .unset, .unset, .unset, .unset] [(.int (5 : Int32)), (.int vr), (.int (5 : Int32)), (.ref b10)])) rfl (by rw [hml]; rfl) (argsL := [(.int vr), (.int (5 : Int32))]) (rest := [(.int (5 : Int32)), (.ref b10)]) (lenOf pd_2 rfl) rfl (by show 2 * 0 + _ ≤ _; exact Nat.le_of_eq rfl) (hb hby at_259) (fun _ _ => ⟨rfl, e98, (by decide : 3 + 0 ≤ _), (by decide : 24 + 0 ≤ _)⟩)
    dsimp only [Pt.U, Pt.locs, Pt.cells, Pt.slots] at X100 l100 y100 z100 st100 hQ100
    rw [l100, y100, z100] at X100
    obtain ⟨r100, rfl, hr100, N100q, e100⟩ := hQ100
    have N100 := Fr.app N98 N100q
    obtain ⟨cl101, Ar101, q101, S101, M101, H101, G101⟩ := id V98
    have hin101 : ¬ ((5 : Int32) < 0 ∨ cl101.slots.size ≤ ((5 : Int32)).toNatClampNeg) := inb_of S101 ⟨by decide, by decide⟩
    obtain ⟨T102, h102, X102, e102, W102, st102⟩ := stJ X100 hx hZ e100 Ar101 (j := (5 : Int32)) hin101 (g := (mkF m 262 #[.val (.int vf), .val (.int vr), .val (.int vm), .val (.long qk), .second, .val (.long qp), .second, .val (.int (0 : Int32)), .val (.ref b4), .val (.ref b6), .val (.ref b10), .unset, .unset, .unset, .unset, .unset, .unset, .unset] [(.long r100), (.int (5 : Int32)), (.ref b10)])) rfl rfl (hb hby at_262)
    have N102 := Fr.snoc X102 N100 g_b10
    have Zs103 : n0 ≤ h102.size := by rw [W102.size]; exact Zs99
    have V102 : Arv Z h102 b10 k10 .long (8 : Int32) [(.long r79), (.long r84), (.long r88), (.long r92), (.long r96), (.long r100), (.long (0 : Int64)), (.long (0 : Int64))] (.long (0 : Int64)) := Arv.set Ar101 q101 S101 M101 H101 G101 rfl W102 5 rfl (Nat.le_of_ble_eq_true rfl)
    obtain ⟨_, _, ⟨T104, L104, k104, n104⟩, -, X104, ⟨Lc104, hQ104, l104, y104, z104⟩, st104⟩ := Jvm.LawKit.callS X102 hx (y := (⟨"com/example/foreslot/foreslot/ScheduleStoppedPinLaw", "endOf", "(II)J"⟩ : MethodName)) hown (mvT hZ (hw _ (List.mem_of_getElem? (i := 10) rfl))) (mvT hZ (hw _ (List.mem_of_getElem? (i := 11) rfl))) (mvT hZ (hw _ (List.mem_of_getElem? (i := 4) rfl))) (mvT hZ (hw _ (List.mem_of_getElem? (i := 12) rfl))) (by decide) (backOf (W := 2) (rm3 l Z a0 hw [] vr (6 : Int32) h102 n0 Zs103 ) hZ (hw _ (List.mem_of_getElem? (i := 12) rfl)) (hw _ (List.mem_of_getElem? (i := 4) rfl)) (by decide) (by decide)) (g := (mkF m 270 #[.val (.int vf), .val (.int vr), .val (.int vm), .val (.long qk), .second, .val (.long qp), .second, .val (.int (0 : Int32)), .val (.ref b4), .val (.ref b6), .val (.ref b10), .unset, .unset, .unset, .unset, .unset, .unset, .unset] [(.int (6 : Int32)), (.int vr), (.int (6 : Int32)), (.ref b10)])) rfl (by rw [hml]; rfl) (argsL := [(.int vr), (.int (6 : Int32))]) (rest := [(.int (6 : Int32)), (.ref b10)]) (lenOf pd_2 rfl) rfl (by show 2 * 0 + _ ≤ _; exact Nat.le_of_eq rfl) (hb hby at_270) (fun _ _ => ⟨rfl, e102, (by decide : 3 + 0 ≤ _), (by decide : 24 + 0 ≤ _)⟩)
    dsimp only [Pt.U, Pt.locs, Pt.cells, Pt.slots] at X104 l104 y104 z104 st104 hQ104
    rw [l104, y104, z104] at X104
    obtain ⟨r104, rfl, hr104, N104q, e104⟩ := hQ104
    have N104 := Fr.app N102 N104q
    obtain ⟨cl105, Ar105, q105, S105, M105, H105, G105⟩ := id V102
    have hin105 : ¬ ((6 : Int32) < 0 ∨ cl105.slots.size ≤ ((6 : Int32)).toNatClampNeg) := inb_of S105 ⟨by decide, by decide⟩
    obtain ⟨T106, h106, X106, e106, W106, st106⟩ := stJ X104 hx hZ e104 Ar105 (j := (6 : Int32)) hin105 (g := (mkF m 273 #[.val (.int vf), .val (.int vr), .val (.int vm), .val (.long qk), .second, .val (.long qp), .second, .val (.int (0 : Int32)), .val (.ref b4), .val (.ref b6), .val (.ref b10), .unset, .unset, .unset, .unset, .unset, .unset, .unset] [(.long r104), (.int (6 : Int32)), (.ref b10)])) rfl rfl (hb hby at_273)
    have N106 := Fr.snoc X106 N104 g_b10
    have Zs107 : n0 ≤ h106.size := by rw [W106.size]; exact Zs103
    have V106 : Arv Z h106 b10 k10 .long (8 : Int32) [(.long r79), (.long r84), (.long r88), (.long r92), (.long r96), (.long r100), (.long r104), (.long (0 : Int64))] (.long (0 : Int64)) := Arv.set Ar105 q105 S105 M105 H105 G105 rfl W106 6 rfl (Nat.le_of_ble_eq_true rfl)
    obtain ⟨_, _, ⟨T108, L108, k108, n108⟩, -, X108, ⟨Lc108, hQ108, l108, y108, z108⟩, st108⟩ := Jvm.LawKit.callS X106 hx (y := (⟨"com/example/foreslot/foreslot/ScheduleStoppedPinLaw", "endOf", "(II)J"⟩ : MethodName)) hown (mvT hZ (hw _ (List.mem_of_getElem? (i := 10) rfl))) (mvT hZ (hw _ (List.mem_of_getElem? (i := 11) rfl))) (mvT hZ (hw _ (List.mem_of_getElem? (i := 4) rfl))) (mvT hZ (hw _ (List.mem_of_getElem? (i := 12) rfl))) (by decide) (backOf (W := 2) (rm3 l Z a0 hw [] vr (7 : Int32) h106 n0 Zs107 ) hZ (hw _ (List.mem_of_getElem? (i := 12) rfl)) (hw _ (List.mem_of_getElem? (i := 4) rfl)) (by decide) (by decide)) (g := (mkF m 281 #[.val (.int vf), .val (.int vr), .val (.int vm), .val (.long qk), .second, .val (.long qp), .second, .val (.int (0 : Int32)), .val (.ref b4), .val (.ref b6), .val (.ref b10), .unset, .unset, .unset, .unset, .unset, .unset, .unset] [(.int (7 : Int32)), (.int vr), (.int (7 : Int32)), (.ref b10)])) rfl (by rw [hml]; rfl) (argsL := [(.int vr), (.int (7 : Int32))]) (rest := [(.int (7 : Int32)), (.ref b10)]) (lenOf pd_2 rfl) rfl (by show 2 * 0 + _ ≤ _; exact Nat.le_of_eq rfl) (hb hby at_281) (fun _ _ => ⟨rfl, e106, (by decide : 3 + 0 ≤ _), (by decide : 24 + 0 ≤ _)⟩)
    dsimp only [Pt.U, Pt.locs, Pt.cells, Pt.slots] at X108 l108 y108 z108 st108 hQ108
    rw [l108, y108, z108] at X108
    obtain ⟨r108, rfl, hr108, N108q, e108⟩ := hQ108
    have N108 := Fr.app N106 N108q
    obtain ⟨cl109, Ar109, q109, S109, M109, H109, G109⟩ := id V106
    have hin109 : ¬ ((7 : Int32) < 0 ∨ cl109.slots.size ≤ ((7 : Int32)).toNatClampNeg) := inb_of S109 ⟨by decide, by decide⟩
    obtain ⟨T110, h110, X110, e110, W110, st110⟩ := stJ X108 hx hZ e108 Ar109 (j := (7 : Int32)) hin109 (g := (mkF m 284 #[.val (.int vf), .val (.int vr), .val (.int vm), .val (.long qk), .second, .val (.long qp), .second, .val (.int (0 : Int32)), .val (.ref b4), .val (.ref b6), .val (.ref b10), .unset, .unset, .unset, .unset, .unset, .unset, .unset] [(.long r108), (.int (7 : Int32)), (.ref b10)])) rfl rfl (hb hby at_284)
    have N110 := Fr.snoc X110 N108 g_b10
    have Zs111 : n0 ≤ h110.size := by rw [W110.size]; exact Zs107
    have V110 : Arv Z h110 b10 k10 .long (8 : Int32) [(.long r79), (.long r84), (.long r88), (.long r92), (.long r96), (.long r100), (.long r104), (.long r108)] (.long (0 : Int64)) := Arv.set Ar109 q109 S109 M109 H109 G109 rfl W110 7 rfl (Nat.le_of_ble_eq_true rfl)
    have pre112 : ∀ t, Steps p.tables e below (T110.setTop (mkF m 332 #[.val (.int vf), .val (.int vr), .val (.int vm), .val (.long qk), .second, .val (.long qp), .second, .val (.int (0 : Int32)), .val (.ref b4), .val (.ref b6), .val (.ref b10), .unset, .unset, .unset, .unset, .unset, .unset, .unset] [(.int ((((((((vf &&& (1 : Int32)) + (((vf.toUInt32 >>> ((1 : Int32) &&& 31).toUInt32).toInt32) &&& (1 : Int32))) + (((vf.toUInt32 >>> ((2 : Int32) &&& 31).toUInt32).toInt32) &&& (1 : Int32))) + (((vf.toUInt32 >>> ((3 : Int32) &&& 31).toUInt32).toInt32) &&& (1 : Int32))) + (((vf.toUInt32 >>> ((4 : Int32) &&& 31).toUInt32).toInt32) &&& (1 : Int32))) + (((vf.toUInt32 >>> ((5 : Int32) &&& 31).toUInt32).toInt32) &&& (1 : Int32))) + (((vf.toUInt32 >>> ((6 : Int32) &&& 31).toUInt32).toInt32) &&& (1 : Int32))) + (((vf.toUInt32 >>> ((7 : Int32) &&& 31).toUInt32).toInt32) &&& (1 : Int32))))])) t → Steps p.tables e below (s₁.setTop (entryFrame m #[(.int vf), (.int vr), (.int vm), (.long qk), (.long qp)] maxLocals)) t := fun t kt => by
      refine pre2 _ ?_
      show Steps p.tables e below (s₁.setTop (mkF m 3 #[.val (.int vf), .val (.int vr), .val (.int vm), .val (.long qk), .second, .val (.long qp), .second, .unset, .unset, .unset, .unset, .unset, .unset, .unset, .unset, .unset, .unset, .unset] [(.int (vm &&& (1 : Int32)))])) _
      refine XS.ifYes X0.here hx rfl (pc0 := 3) (pc' := 10) rfl (hb hby at_3) rfl (own_if (own_teq (a := (vm &&& (1 : Int32))) (b := (0 : Int32)) rfl (by decide) hc3_1).1) (by decide) (by decide) ?_
      refine XS.iconst X0.here hx rfl (hb hby at_10) ?_
      refine XS.istore X0.here hx rfl (hb hby at_11) rfl (l' := #[.val (.int vf), .val (.int vr), .val (.int vm), .val (.long qk), .second, .val (.long qp), .second, .val (.int (0 : Int32)), .unset, .unset, .unset, .unset, .unset, .unset, .unset, .unset, .unset, .unset]) rfl ?_
      refine XS.iload X0.here hx rfl (hb hby at_13) rfl ?_
      refine XS.ifYes X0.here hx rfl (pc0 := 15) (pc' := 39) rfl (hb hby at_15) rfl (own_if (own_teq (a := (0 : Int32)) (b := (0 : Int32)) (by decide) (by decide) hc15_3).1) (by decide) (by decide) ?_
      show Steps p.tables e below (s₁.setTop (mkF m 39 #[.val (.int vf), .val (.int vr), .val (.int vm), .val (.long qk), .second, .val (.long qp), .second, .val (.int (0 : Int32)), .unset, .unset, .unset, .unset, .unset, .unset, .unset, .unset, .unset, .unset] [])) _
      refine XS.bipush X0.here hx rfl (hb hby at_39) ?_
      refine st4 _ ?_
      refine XS.astore X4.here hx rfl (hb hby at_43) rfl rfl (l' := #[.val (.int vf), .val (.int vr), .val (.int vm), .val (.long qk), .second, .val (.long qp), .second, .val (.int (0 : Int32)), .val (.ref b4), .unset, .unset, .unset, .unset, .unset, .unset, .unset, .unset, .unset]) rfl ?_
      refine XS.bipush X4.here hx rfl (hb hby at_45) ?_
      refine st6 _ ?_
      show Steps p.tables e below (T6.setTop (mkF m 49 #[.val (.int vf), .val (.int vr), .val (.int vm), .val (.long qk), .second, .val (.long qp), .second, .val (.int (0 : Int32)), .val (.ref b4), .unset, .unset, .unset, .unset, .unset, .unset, .unset, .unset, .unset] [(.ref b6)])) _
      refine XS.astore X6.here hx rfl (hb hby at_49) rfl rfl (l' := #[.val (.int vf), .val (.int vr), .val (.int vm), .val (.long qk), .second, .val (.long qp), .second, .val (.int (0 : Int32)), .val (.ref b4), .val (.ref b6), .unset, .unset, .unset, .unset, .unset, .unset, .unset, .unset]) rfl ?_
      refine XS.bipush X6.here hx rfl (hb hby at_51) ?_
      refine st10 _ ?_
      refine XS.astore X10.here hx rfl (hb hby at_55) rfl rfl (l' := #[.val (.int vf), .val (.int vr), .val (.int vm), .val (.long qk), .second, .val (.long qp), .second, .val (.int (0 : Int32)), .val (.ref b4), .val (.ref b6), .val (.ref b10), .unset, .unset, .unset, .unset, .unset, .unset, .unset]) rfl ?_
      refine XS.aload X10.here hx rfl (hb hby at_57) rfl rfl ?_
      show Steps p.tables e below (T10.setTop (mkF m 59 #[.val (.int vf), .val (.int vr), .val (.int vm), .val (.long qk), .second, .val (.long qp), .second, .val (.int (0 : Int32)), .val (.ref b4), .val (.ref b6), .val (.ref b10), .unset, .unset, .unset, .unset, .unset, .unset, .unset] [(.ref b4)])) _
      refine XS.iconst X10.here hx rfl (hb hby at_59) ?_
      refine XS.iloadN X10.here hx rfl (hb hby at_60) rfl ?_
      refine XS.iconst X10.here hx rfl (hb hby at_61) ?_
      refine st13 _ ?_
      refine st16 _ ?_
      show Steps p.tables e below (T16.setTop (mkF m 66 #[.val (.int vf), .val (.int vr), .val (.int vm), .val (.long qk), .second, .val (.long qp), .second, .val (.int (0 : Int32)), .val (.ref b4), .val (.ref b6), .val (.ref b10), .unset, .unset, .unset, .unset, .unset, .unset, .unset] [])) _
      refine XS.aload X16.here hx rfl (hb hby at_66) rfl rfl ?_
      refine XS.iconst X16.here hx rfl (hb hby at_68) ?_
      refine XS.iloadN X16.here hx rfl (hb hby at_69) rfl ?_
      refine XS.iconst X16.here hx rfl (hb hby at_70) ?_
      refine st18 _ ?_
      show Steps p.tables e below (T18.setTop (mkF m 74 #[.val (.int vf), .val (.int vr), .val (.int vm), .val (.long qk), .second, .val (.long qp), .second, .val (.int (0 : Int32)), .val (.ref b4), .val (.ref b6), .val (.ref b10), .unset, .unset, .unset, .unset, .unset, .unset, .unset] [(.int r1), (.int (1 : Int32)), (.ref b4)])) _
      refine st20 _ ?_
      refine XS.aload X20.here hx rfl (hb hby at_75) rfl rfl ?_
      refine XS.iconst X20.here hx rfl (hb hby at_77) ?_
      refine XS.iloadN X20.here hx rfl (hb hby at_78) rfl ?_
      refine XS.iconst X20.here hx rfl (hb hby at_79) ?_
      show Steps p.tables e below (T20.setTop (mkF m 80 #[.val (.int vf), .val (.int vr), .val (.int vm), .val (.long qk), .second, .val (.long qp), .second, .val (.int (0 : Int32)), .val (.ref b4), .val (.ref b6), .val (.ref b10), .unset, .unset, .unset, .unset, .unset, .unset, .unset] [(.int (2 : Int32)), (.int vf), (.int (2 : Int32)), (.ref b4)])) _
      refine st22 _ ?_
      refine st24 _ ?_
      refine XS.aload X24.here hx rfl (hb hby at_84) rfl rfl ?_
      refine XS.iconst X24.here hx rfl (hb hby at_86) ?_
      refine XS.iloadN X24.here hx rfl (hb hby at_87) rfl ?_
      show Steps p.tables e below (T24.setTop (mkF m 88 #[.val (.int vf), .val (.int vr), .val (.int vm), .val (.long qk), .second, .val (.long qp), .second, .val (.int (0 : Int32)), .val (.ref b4), .val (.ref b6), .val (.ref b10), .unset, .unset, .unset, .unset, .unset, .unset, .unset] [(.int vf), (.int (3 : Int32)), (.ref b4)])) _
      refine XS.iconst X24.here hx rfl (hb hby at_88) ?_
      refine st26 _ ?_
      refine st28 _ ?_
      refine XS.aload X28.here hx rfl (hb hby at_93) rfl rfl ?_
      refine XS.iconst X28.here hx rfl (hb hby at_95) ?_
      show Steps p.tables e below (T28.setTop (mkF m 96 #[.val (.int vf), .val (.int vr), .val (.int vm), .val (.long qk), .second, .val (.long qp), .second, .val (.int (0 : Int32)), .val (.ref b4), .val (.ref b6), .val (.ref b10), .unset, .unset, .unset, .unset, .unset, .unset, .unset] [(.int (4 : Int32)), (.ref b4)])) _
      refine XS.iloadN X28.here hx rfl (hb hby at_96) rfl ?_
      refine XS.iconst X28.here hx rfl (hb hby at_97) ?_
      refine st30 _ ?_
      refine st32 _ ?_
      refine XS.aload X32.here hx rfl (hb hby at_102) rfl rfl ?_
      show Steps p.tables e below (T32.setTop (mkF m 104 #[.val (.int vf), .val (.int vr), .val (.int vm), .val (.long qk), .second, .val (.long qp), .second, .val (.int (0 : Int32)), .val (.ref b4), .val (.ref b6), .val (.ref b10), .unset, .unset, .unset, .unset, .unset, .unset, .unset] [(.ref b4)])) _
      refine XS.iconst X32.here hx rfl (hb hby at_104) ?_
      refine XS.iloadN X32.here hx rfl (hb hby at_105) rfl ?_
      refine XS.iconst X32.here hx rfl (hb hby at_106) ?_
      refine st34 _ ?_
      refine st36 _ ?_
      show Steps p.tables e below (T36.setTop (mkF m 111 #[.val (.int vf), .val (.int vr), .val (.int vm), .val (.long qk), .second, .val (.long qp), .second, .val (.int (0 : Int32)), .val (.ref b4), .val (.ref b6), .val (.ref b10), .unset, .unset, .unset, .unset, .unset, .unset, .unset] [])) _
      refine XS.aload X36.here hx rfl (hb hby at_111) rfl rfl ?_
      refine XS.bipush X36.here hx rfl (hb hby at_113) ?_
      refine XS.iloadN X36.here hx rfl (hb hby at_115) rfl ?_
      refine XS.bipush X36.here hx rfl (hb hby at_116) ?_
      refine st38 _ ?_
      show Steps p.tables e below (T38.setTop (mkF m 121 #[.val (.int vf), .val (.int vr), .val (.int vm), .val (.long qk), .second, .val (.long qp), .second, .val (.int (0 : Int32)), .val (.ref b4), .val (.ref b6), .val (.ref b10), .unset, .unset, .unset, .unset, .unset, .unset, .unset] [(.int r6), (.int (6 : Int32)), (.ref b4)])) _
      refine st40 _ ?_
      refine XS.aload X40.here hx rfl (hb hby at_122) rfl rfl ?_
      refine XS.bipush X40.here hx rfl (hb hby at_124) ?_
      refine XS.iloadN X40.here hx rfl (hb hby at_126) rfl ?_
      refine XS.bipush X40.here hx rfl (hb hby at_127) ?_
      show Steps p.tables e below (T40.setTop (mkF m 129 #[.val (.int vf), .val (.int vr), .val (.int vm), .val (.long qk), .second, .val (.long qp), .second, .val (.int (0 : Int32)), .val (.ref b4), .val (.ref b6), .val (.ref b10), .unset, .unset, .unset, .unset, .unset, .unset, .unset] [(.int (7 : Int32)), (.int vf), (.int (7 : Int32)), (.ref b4)])) _
      refine st42 _ ?_
      refine st44 _ ?_
      refine XS.aload X44.here hx rfl (hb hby at_133) rfl rfl ?_
      refine XS.iconst X44.here hx rfl (hb hby at_135) ?_
      refine XS.iloadN X44.here hx rfl (hb hby at_136) rfl ?_
      show Steps p.tables e below (T44.setTop (mkF m 137 #[.val (.int vf), .val (.int vr), .val (.int vm), .val (.long qk), .second, .val (.long qp), .second, .val (.int (0 : Int32)), .val (.ref b4), .val (.ref b6), .val (.ref b10), .unset, .unset, .unset, .unset, .unset, .unset, .unset] [(.int vr), (.int (0 : Int32)), (.ref b6)])) _
      refine XS.iconst X44.here hx rfl (hb hby at_137) ?_
      refine st46 _ ?_
      refine st49 _ ?_
      refine XS.aload X49.here hx rfl (hb hby at_142) rfl rfl ?_
      refine XS.iconst X49.here hx rfl (hb hby at_144) ?_
      show Steps p.tables e below (T49.setTop (mkF m 145 #[.val (.int vf), .val (.int vr), .val (.int vm), .val (.long qk), .second, .val (.long qp), .second, .val (.int (0 : Int32)), .val (.ref b4), .val (.ref b6), .val (.ref b10), .unset, .unset, .unset, .unset, .unset, .unset, .unset] [(.int (1 : Int32)), (.ref b6)])) _
      refine XS.iloadN X49.here hx rfl (hb hby at_145) rfl ?_
      refine XS.iconst X49.here hx rfl (hb hby at_146) ?_
      refine st51 _ ?_
      refine st53 _ ?_
      refine XS.aload X53.here hx rfl (hb hby at_151) rfl rfl ?_
      show Steps p.tables e below (T53.setTop (mkF m 153 #[.val (.int vf), .val (.int vr), .val (.int vm), .val (.long qk), .second, .val (.long qp), .second, .val (.int (0 : Int32)), .val (.ref b4), .val (.ref b6), .val (.ref b10), .unset, .unset, .unset, .unset, .unset, .unset, .unset] [(.ref b6)])) _
      refine XS.iconst X53.here hx rfl (hb hby at_153) ?_
      refine XS.iloadN X53.here hx rfl (hb hby at_154) rfl ?_
      refine XS.iconst X53.here hx rfl (hb hby at_155) ?_
      refine st55 _ ?_
      refine st57 _ ?_
      show Steps p.tables e below (T57.setTop (mkF m 160 #[.val (.int vf), .val (.int vr), .val (.int vm), .val (.long qk), .second, .val (.long qp), .second, .val (.int (0 : Int32)), .val (.ref b4), .val (.ref b6), .val (.ref b10), .unset, .unset, .unset, .unset, .unset, .unset, .unset] [])) _
      refine XS.aload X57.here hx rfl (hb hby at_160) rfl rfl ?_
      refine XS.iconst X57.here hx rfl (hb hby at_162) ?_
      refine XS.iloadN X57.here hx rfl (hb hby at_163) rfl ?_
      refine XS.iconst X57.here hx rfl (hb hby at_164) ?_
      refine st59 _ ?_
      show Steps p.tables e below (T59.setTop (mkF m 168 #[.val (.int vf), .val (.int vr), .val (.int vm), .val (.long qk), .second, .val (.long qp), .second, .val (.int (0 : Int32)), .val (.ref b4), .val (.ref b6), .val (.ref b10), .unset, .unset, .unset, .unset, .unset, .unset, .unset] [(.long r59), (.int (3 : Int32)), (.ref b6)])) _
      refine st61 _ ?_
      refine XS.aload X61.here hx rfl (hb hby at_169) rfl rfl ?_
      refine XS.iconst X61.here hx rfl (hb hby at_171) ?_
      refine XS.iloadN X61.here hx rfl (hb hby at_172) rfl ?_
      refine XS.iconst X61.here hx rfl (hb hby at_173) ?_
      show Steps p.tables e below (T61.setTop (mkF m 174 #[.val (.int vf), .val (.int vr), .val (.int vm), .val (.long qk), .second, .val (.long qp), .second, .val (.int (0 : Int32)), .val (.ref b4), .val (.ref b6), .val (.ref b10), .unset, .unset, .unset, .unset, .unset, .unset, .unset] [(.int (4 : Int32)), (.int vr), (.int (4 : Int32)), (.ref b6)])) _
      refine st63 _ ?_
      refine st65 _ ?_
      refine XS.aload X65.here hx rfl (hb hby at_178) rfl rfl ?_
      refine XS.iconst X65.here hx rfl (hb hby at_180) ?_
      refine XS.iloadN X65.here hx rfl (hb hby at_181) rfl ?_
      show Steps p.tables e below (T65.setTop (mkF m 182 #[.val (.int vf), .val (.int vr), .val (.int vm), .val (.long qk), .second, .val (.long qp), .second, .val (.int (0 : Int32)), .val (.ref b4), .val (.ref b6), .val (.ref b10), .unset, .unset, .unset, .unset, .unset, .unset, .unset] [(.int vr), (.int (5 : Int32)), (.ref b6)])) _
      refine XS.iconst X65.here hx rfl (hb hby at_182) ?_
      refine st67 _ ?_
      refine st69 _ ?_
      refine XS.aload X69.here hx rfl (hb hby at_187) rfl rfl ?_
      refine XS.bipush X69.here hx rfl (hb hby at_189) ?_
      show Steps p.tables e below (T69.setTop (mkF m 191 #[.val (.int vf), .val (.int vr), .val (.int vm), .val (.long qk), .second, .val (.long qp), .second, .val (.int (0 : Int32)), .val (.ref b4), .val (.ref b6), .val (.ref b10), .unset, .unset, .unset, .unset, .unset, .unset, .unset] [(.int (6 : Int32)), (.ref b6)])) _
      refine XS.iloadN X69.here hx rfl (hb hby at_191) rfl ?_
      refine XS.bipush X69.here hx rfl (hb hby at_192) ?_
      refine st71 _ ?_
      refine st73 _ ?_
      refine XS.aload X73.here hx rfl (hb hby at_198) rfl rfl ?_
      show Steps p.tables e below (T73.setTop (mkF m 200 #[.val (.int vf), .val (.int vr), .val (.int vm), .val (.long qk), .second, .val (.long qp), .second, .val (.int (0 : Int32)), .val (.ref b4), .val (.ref b6), .val (.ref b10), .unset, .unset, .unset, .unset, .unset, .unset, .unset] [(.ref b6)])) _
      refine XS.bipush X73.here hx rfl (hb hby at_200) ?_
      refine XS.iloadN X73.here hx rfl (hb hby at_202) rfl ?_
      refine XS.bipush X73.here hx rfl (hb hby at_203) ?_
      refine st75 _ ?_
      refine st77 _ ?_
      show Steps p.tables e below (T77.setTop (mkF m 209 #[.val (.int vf), .val (.int vr), .val (.int vm), .val (.long qk), .second, .val (.long qp), .second, .val (.int (0 : Int32)), .val (.ref b4), .val (.ref b6), .val (.ref b10), .unset, .unset, .unset, .unset, .unset, .unset, .unset] [])) _
      refine XS.aload X77.here hx rfl (hb hby at_209) rfl rfl ?_
      refine XS.iconst X77.here hx rfl (hb hby at_211) ?_
      refine XS.iloadN X77.here hx rfl (hb hby at_212) rfl ?_
      refine XS.iconst X77.here hx rfl (hb hby at_213) ?_
      refine st79 _ ?_
      show Steps p.tables e below (T79.setTop (mkF m 217 #[.val (.int vf), .val (.int vr), .val (.int vm), .val (.long qk), .second, .val (.long qp), .second, .val (.int (0 : Int32)), .val (.ref b4), .val (.ref b6), .val (.ref b10), .unset, .unset, .unset, .unset, .unset, .unset, .unset] [(.long r79), (.int (0 : Int32)), (.ref b10)])) _
      refine st82 _ ?_
      refine XS.aload X82.here hx rfl (hb hby at_218) rfl rfl ?_
      refine XS.iconst X82.here hx rfl (hb hby at_220) ?_
      refine XS.iloadN X82.here hx rfl (hb hby at_221) rfl ?_
      refine XS.iconst X82.here hx rfl (hb hby at_222) ?_
      show Steps p.tables e below (T82.setTop (mkF m 223 #[.val (.int vf), .val (.int vr), .val (.int vm), .val (.long qk), .second, .val (.long qp), .second, .val (.int (0 : Int32)), .val (.ref b4), .val (.ref b6), .val (.ref b10), .unset, .unset, .unset, .unset, .unset, .unset, .unset] [(.int (1 : Int32)), (.int vr), (.int (1 : Int32)), (.ref b10)])) _
      refine st84 _ ?_
      refine st86 _ ?_
      refine XS.aload X86.here hx rfl (hb hby at_227) rfl rfl ?_
      refine XS.iconst X86.here hx rfl (hb hby at_229) ?_
      refine XS.iloadN X86.here hx rfl (hb hby at_230) rfl ?_
      show Steps p.tables e below (T86.setTop (mkF m 231 #[.val (.int vf), .val (.int vr), .val (.int vm), .val (.long qk), .second, .val (.long qp), .second, .val (.int (0 : Int32)), .val (.ref b4), .val (.ref b6), .val (.ref b10), .unset, .unset, .unset, .unset, .unset, .unset, .unset] [(.int vr), (.int (2 : Int32)), (.ref b10)])) _
      refine XS.iconst X86.here hx rfl (hb hby at_231) ?_
      refine st88 _ ?_
      refine st90 _ ?_
      refine XS.aload X90.here hx rfl (hb hby at_236) rfl rfl ?_
      refine XS.iconst X90.here hx rfl (hb hby at_238) ?_
      show Steps p.tables e below (T90.setTop (mkF m 239 #[.val (.int vf), .val (.int vr), .val (.int vm), .val (.long qk), .second, .val (.long qp), .second, .val (.int (0 : Int32)), .val (.ref b4), .val (.ref b6), .val (.ref b10), .unset, .unset, .unset, .unset, .unset, .unset, .unset] [(.int (3 : Int32)), (.ref b10)])) _
      refine XS.iloadN X90.here hx rfl (hb hby at_239) rfl ?_
      refine XS.iconst X90.here hx rfl (hb hby at_240) ?_
      refine st92 _ ?_
      refine st94 _ ?_
      refine XS.aload X94.here hx rfl (hb hby at_245) rfl rfl ?_
      show Steps p.tables e below (T94.setTop (mkF m 247 #[.val (.int vf), .val (.int vr), .val (.int vm), .val (.long qk), .second, .val (.long qp), .second, .val (.int (0 : Int32)), .val (.ref b4), .val (.ref b6), .val (.ref b10), .unset, .unset, .unset, .unset, .unset, .unset, .unset] [(.ref b10)])) _
      refine XS.iconst X94.here hx rfl (hb hby at_247) ?_
      refine XS.iloadN X94.here hx rfl (hb hby at_248) rfl ?_
      refine XS.iconst X94.here hx rfl (hb hby at_249) ?_
      refine st96 _ ?_
      refine st98 _ ?_
      show Steps p.tables e below (T98.setTop (mkF m 254 #[.val (.int vf), .val (.int vr), .val (.int vm), .val (.long qk), .second, .val (.long qp), .second, .val (.int (0 : Int32)), .val (.ref b4), .val (.ref b6), .val (.ref b10), .unset, .unset, .unset, .unset, .unset, .unset, .unset] [])) _
      refine XS.aload X98.here hx rfl (hb hby at_254) rfl rfl ?_
      refine XS.iconst X98.here hx rfl (hb hby at_256) ?_
      refine XS.iloadN X98.here hx rfl (hb hby at_257) rfl ?_
      refine XS.iconst X98.here hx rfl (hb hby at_258) ?_
      refine st100 _ ?_
      show Steps p.tables e below (T100.setTop (mkF m 262 #[.val (.int vf), .val (.int vr), .val (.int vm), .val (.long qk), .second, .val (.long qp), .second, .val (.int (0 : Int32)), .val (.ref b4), .val (.ref b6), .val (.ref b10), .unset, .unset, .unset, .unset, .unset, .unset, .unset] [(.long r100), (.int (5 : Int32)), (.ref b10)])) _
      refine st102 _ ?_
      refine XS.aload X102.here hx rfl (hb hby at_263) rfl rfl ?_
      refine XS.bipush X102.here hx rfl (hb hby at_265) ?_
      refine XS.iloadN X102.here hx rfl (hb hby at_267) rfl ?_
      refine XS.bipush X102.here hx rfl (hb hby at_268) ?_
      show Steps p.tables e below (T102.setTop (mkF m 270 #[.val (.int vf), .val (.int vr), .val (.int vm), .val (.long qk), .second, .val (.long qp), .second, .val (.int (0 : Int32)), .val (.ref b4), .val (.ref b6), .val (.ref b10), .unset, .unset, .unset, .unset, .unset, .unset, .unset] [(.int (6 : Int32)), (.int vr), (.int (6 : Int32)), (.ref b10)])) _
      refine st104 _ ?_
      refine st106 _ ?_
      refine XS.aload X106.here hx rfl (hb hby at_274) rfl rfl ?_
      refine XS.bipush X106.here hx rfl (hb hby at_276) ?_
      refine XS.iloadN X106.here hx rfl (hb hby at_278) rfl ?_
      show Steps p.tables e below (T106.setTop (mkF m 279 #[.val (.int vf), .val (.int vr), .val (.int vm), .val (.long qk), .second, .val (.long qp), .second, .val (.int (0 : Int32)), .val (.ref b4), .val (.ref b6), .val (.ref b10), .unset, .unset, .unset, .unset, .unset, .unset, .unset] [(.int vr), (.int (7 : Int32)), (.ref b10)])) _
      refine XS.bipush X106.here hx rfl (hb hby at_279) ?_
      refine st108 _ ?_
      refine st110 _ ?_
      refine XS.iloadN X110.here hx rfl (hb hby at_285) rfl ?_
      refine XS.iconst X110.here hx rfl (hb hby at_286) ?_
      show Steps p.tables e below (T110.setTop (mkF m 287 #[.val (.int vf), .val (.int vr), .val (.int vm), .val (.long qk), .second, .val (.long qp), .second, .val (.int (0 : Int32)), .val (.ref b4), .val (.ref b6), .val (.ref b10), .unset, .unset, .unset, .unset, .unset, .unset, .unset] [(.int (1 : Int32)), (.int vf)])) _
      refine XS.iand X110.here hx rfl (hb hby at_287) rfl ?_
      refine XS.iloadN X110.here hx rfl (hb hby at_288) rfl ?_
      refine XS.iconst X110.here hx rfl (hb hby at_289) ?_
      refine XS.iushr X110.here hx rfl (hb hby at_290) rfl ?_
      refine XS.iconst X110.here hx rfl (hb hby at_291) ?_
      show Steps p.tables e below (T110.setTop (mkF m 292 #[.val (.int vf), .val (.int vr), .val (.int vm), .val (.long qk), .second, .val (.long qp), .second, .val (.int (0 : Int32)), .val (.ref b4), .val (.ref b6), .val (.ref b10), .unset, .unset, .unset, .unset, .unset, .unset, .unset] [(.int (1 : Int32)), (.int ((vf.toUInt32 >>> ((1 : Int32) &&& 31).toUInt32).toInt32)), (.int (vf &&& (1 : Int32)))])) _
      refine XS.iand X110.here hx rfl (hb hby at_292) rfl ?_
      refine XS.iadd X110.here hx rfl (hb hby at_293) rfl ?_
      refine XS.iloadN X110.here hx rfl (hb hby at_294) rfl ?_
      refine XS.iconst X110.here hx rfl (hb hby at_295) ?_
      refine XS.iushr X110.here hx rfl (hb hby at_296) rfl ?_
      show Steps p.tables e below (T110.setTop (mkF m 297 #[.val (.int vf), .val (.int vr), .val (.int vm), .val (.long qk), .second, .val (.long qp), .second, .val (.int (0 : Int32)), .val (.ref b4), .val (.ref b6), .val (.ref b10), .unset, .unset, .unset, .unset, .unset, .unset, .unset] [(.int ((vf.toUInt32 >>> ((2 : Int32) &&& 31).toUInt32).toInt32)), (.int ((vf &&& (1 : Int32)) + (((vf.toUInt32 >>> ((1 : Int32) &&& 31).toUInt32).toInt32) &&& (1 : Int32))))])) _
      refine XS.iconst X110.here hx rfl (hb hby at_297) ?_
      refine XS.iand X110.here hx rfl (hb hby at_298) rfl ?_
      refine XS.iadd X110.here hx rfl (hb hby at_299) rfl ?_
      refine XS.iloadN X110.here hx rfl (hb hby at_300) rfl ?_
      refine XS.iconst X110.here hx rfl (hb hby at_301) ?_
      show Steps p.tables e below (T110.setTop (mkF m 302 #[.val (.int vf), .val (.int vr), .val (.int vm), .val (.long qk), .second, .val (.long qp), .second, .val (.int (0 : Int32)), .val (.ref b4), .val (.ref b6), .val (.ref b10), .unset, .unset, .unset, .unset, .unset, .unset, .unset] [(.int (3 : Int32)), (.int vf), (.int (((vf &&& (1 : Int32)) + (((vf.toUInt32 >>> ((1 : Int32) &&& 31).toUInt32).toInt32) &&& (1 : Int32))) + (((vf.toUInt32 >>> ((2 : Int32) &&& 31).toUInt32).toInt32) &&& (1 : Int32))))])) _
      refine XS.iushr X110.here hx rfl (hb hby at_302) rfl ?_
      refine XS.iconst X110.here hx rfl (hb hby at_303) ?_
      refine XS.iand X110.here hx rfl (hb hby at_304) rfl ?_
      refine XS.iadd X110.here hx rfl (hb hby at_305) rfl ?_
      refine XS.iloadN X110.here hx rfl (hb hby at_306) rfl ?_
      show Steps p.tables e below (T110.setTop (mkF m 307 #[.val (.int vf), .val (.int vr), .val (.int vm), .val (.long qk), .second, .val (.long qp), .second, .val (.int (0 : Int32)), .val (.ref b4), .val (.ref b6), .val (.ref b10), .unset, .unset, .unset, .unset, .unset, .unset, .unset] [(.int vf), (.int ((((vf &&& (1 : Int32)) + (((vf.toUInt32 >>> ((1 : Int32) &&& 31).toUInt32).toInt32) &&& (1 : Int32))) + (((vf.toUInt32 >>> ((2 : Int32) &&& 31).toUInt32).toInt32) &&& (1 : Int32))) + (((vf.toUInt32 >>> ((3 : Int32) &&& 31).toUInt32).toInt32) &&& (1 : Int32))))])) _
      refine XS.iconst X110.here hx rfl (hb hby at_307) ?_
      refine XS.iushr X110.here hx rfl (hb hby at_308) rfl ?_
      refine XS.iconst X110.here hx rfl (hb hby at_309) ?_
      refine XS.iand X110.here hx rfl (hb hby at_310) rfl ?_
      refine XS.iadd X110.here hx rfl (hb hby at_311) rfl ?_
      show Steps p.tables e below (T110.setTop (mkF m 312 #[.val (.int vf), .val (.int vr), .val (.int vm), .val (.long qk), .second, .val (.long qp), .second, .val (.int (0 : Int32)), .val (.ref b4), .val (.ref b6), .val (.ref b10), .unset, .unset, .unset, .unset, .unset, .unset, .unset] [(.int (((((vf &&& (1 : Int32)) + (((vf.toUInt32 >>> ((1 : Int32) &&& 31).toUInt32).toInt32) &&& (1 : Int32))) + (((vf.toUInt32 >>> ((2 : Int32) &&& 31).toUInt32).toInt32) &&& (1 : Int32))) + (((vf.toUInt32 >>> ((3 : Int32) &&& 31).toUInt32).toInt32) &&& (1 : Int32))) + (((vf.toUInt32 >>> ((4 : Int32) &&& 31).toUInt32).toInt32) &&& (1 : Int32))))])) _
      refine XS.iloadN X110.here hx rfl (hb hby at_312) rfl ?_
      refine XS.iconst X110.here hx rfl (hb hby at_313) ?_
      refine XS.iushr X110.here hx rfl (hb hby at_314) rfl ?_
      refine XS.iconst X110.here hx rfl (hb hby at_315) ?_
      refine XS.iand X110.here hx rfl (hb hby at_316) rfl ?_
      show Steps p.tables e below (T110.setTop (mkF m 317 #[.val (.int vf), .val (.int vr), .val (.int vm), .val (.long qk), .second, .val (.long qp), .second, .val (.int (0 : Int32)), .val (.ref b4), .val (.ref b6), .val (.ref b10), .unset, .unset, .unset, .unset, .unset, .unset, .unset] [(.int (((vf.toUInt32 >>> ((5 : Int32) &&& 31).toUInt32).toInt32) &&& (1 : Int32))), (.int (((((vf &&& (1 : Int32)) + (((vf.toUInt32 >>> ((1 : Int32) &&& 31).toUInt32).toInt32) &&& (1 : Int32))) + (((vf.toUInt32 >>> ((2 : Int32) &&& 31).toUInt32).toInt32) &&& (1 : Int32))) + (((vf.toUInt32 >>> ((3 : Int32) &&& 31).toUInt32).toInt32) &&& (1 : Int32))) + (((vf.toUInt32 >>> ((4 : Int32) &&& 31).toUInt32).toInt32) &&& (1 : Int32))))])) _
      refine XS.iadd X110.here hx rfl (hb hby at_317) rfl ?_
      refine XS.iloadN X110.here hx rfl (hb hby at_318) rfl ?_
      refine XS.bipush X110.here hx rfl (hb hby at_319) ?_
      refine XS.iushr X110.here hx rfl (hb hby at_321) rfl ?_
      refine XS.iconst X110.here hx rfl (hb hby at_322) ?_
      show Steps p.tables e below (T110.setTop (mkF m 323 #[.val (.int vf), .val (.int vr), .val (.int vm), .val (.long qk), .second, .val (.long qp), .second, .val (.int (0 : Int32)), .val (.ref b4), .val (.ref b6), .val (.ref b10), .unset, .unset, .unset, .unset, .unset, .unset, .unset] [(.int (1 : Int32)), (.int ((vf.toUInt32 >>> ((6 : Int32) &&& 31).toUInt32).toInt32)), (.int ((((((vf &&& (1 : Int32)) + (((vf.toUInt32 >>> ((1 : Int32) &&& 31).toUInt32).toInt32) &&& (1 : Int32))) + (((vf.toUInt32 >>> ((2 : Int32) &&& 31).toUInt32).toInt32) &&& (1 : Int32))) + (((vf.toUInt32 >>> ((3 : Int32) &&& 31).toUInt32).toInt32) &&& (1 : Int32))) + (((vf.toUInt32 >>> ((4 : Int32) &&& 31).toUInt32).toInt32) &&& (1 : Int32))) + (((vf.toUInt32 >>> ((5 : Int32) &&& 31).toUInt32).toInt32) &&& (1 : Int32))))])) _
      refine XS.iand X110.here hx rfl (hb hby at_323) rfl ?_
      refine XS.iadd X110.here hx rfl (hb hby at_324) rfl ?_
      refine XS.iloadN X110.here hx rfl (hb hby at_325) rfl ?_
      refine XS.bipush X110.here hx rfl (hb hby at_326) ?_
      refine XS.iushr X110.here hx rfl (hb hby at_328) rfl ?_
      show Steps p.tables e below (T110.setTop (mkF m 329 #[.val (.int vf), .val (.int vr), .val (.int vm), .val (.long qk), .second, .val (.long qp), .second, .val (.int (0 : Int32)), .val (.ref b4), .val (.ref b6), .val (.ref b10), .unset, .unset, .unset, .unset, .unset, .unset, .unset] [(.int ((vf.toUInt32 >>> ((7 : Int32) &&& 31).toUInt32).toInt32)), (.int (((((((vf &&& (1 : Int32)) + (((vf.toUInt32 >>> ((1 : Int32) &&& 31).toUInt32).toInt32) &&& (1 : Int32))) + (((vf.toUInt32 >>> ((2 : Int32) &&& 31).toUInt32).toInt32) &&& (1 : Int32))) + (((vf.toUInt32 >>> ((3 : Int32) &&& 31).toUInt32).toInt32) &&& (1 : Int32))) + (((vf.toUInt32 >>> ((4 : Int32) &&& 31).toUInt32).toInt32) &&& (1 : Int32))) + (((vf.toUInt32 >>> ((5 : Int32) &&& 31).toUInt32).toInt32) &&& (1 : Int32))) + (((vf.toUInt32 >>> ((6 : Int32) &&& 31).toUInt32).toInt32) &&& (1 : Int32))))])) _
      refine XS.iconst X110.here hx rfl (hb hby at_329) ?_
      refine XS.iand X110.here hx rfl (hb hby at_330) rfl ?_
      refine XS.iadd X110.here hx rfl (hb hby at_331) rfl ?_
      exact kt
    obtain ⟨ex, hex⟩ : ∃ z : Int32, z = ((((((((vf &&& (1 : Int32)) + (((vf.toUInt32 >>> ((1 : Int32) &&& 31).toUInt32).toInt32) &&& (1 : Int32))) + (((vf.toUInt32 >>> ((2 : Int32) &&& 31).toUInt32).toInt32) &&& (1 : Int32))) + (((vf.toUInt32 >>> ((3 : Int32) &&& 31).toUInt32).toInt32) &&& (1 : Int32))) + (((vf.toUInt32 >>> ((4 : Int32) &&& 31).toUInt32).toInt32) &&& (1 : Int32))) + (((vf.toUInt32 >>> ((5 : Int32) &&& 31).toUInt32).toInt32) &&& (1 : Int32))) + (((vf.toUInt32 >>> ((6 : Int32) &&& 31).toUInt32).toInt32) &&& (1 : Int32))) + (((vf.toUInt32 >>> ((7 : Int32) &&& 31).toUInt32).toInt32) &&& (1 : Int32))) := ⟨_, rfl⟩
    have iex : ex.toInt = r0.toInt + r1.toInt + r2.toInt + r3.toInt + r4.toInt + r5.toInt + r6.toInt + r7.toInt := by rw [hex]; have := rng32 vf; have : ((vf &&& (1 : Int32))).toInt = vf.toInt % 2 := c_mask vf (1 : Int32) 1 (by decide) (by decide); have : (((vf.toUInt32 >>> ((1 : Int32) &&& 31).toUInt32).toInt32)).toInt = (vf.toInt % 4294967296) / 2 := c_iushr vf (1 : Int32) 1 (by decide) (by decide); have : ((((vf.toUInt32 >>> ((1 : Int32) &&& 31).toUInt32).toInt32) &&& (1 : Int32))).toInt = ((vf.toUInt32 >>> ((1 : Int32) &&& 31).toUInt32).toInt32).toInt % 2 := c_mask ((vf.toUInt32 >>> ((1 : Int32) &&& 31).toUInt32).toInt32) (1 : Int32) 1 (by decide) (by decide); (first | (have : (((vf &&& (1 : Int32)) + (((vf.toUInt32 >>> ((1 : Int32) &&& 31).toUInt32).toInt32) &&& (1 : Int32)))).toInt = (vf &&& (1 : Int32)).toInt + (((vf.toUInt32 >>> ((1 : Int32) &&& 31).toUInt32).toInt32) &&& (1 : Int32)).toInt := (by have : ((((vf &&& (1 : Int32)) + (((vf.toUInt32 >>> ((1 : Int32) &&& 31).toUInt32).toInt32) &&& (1 : Int32)))).toInt - ((vf &&& (1 : Int32)).toInt + (((vf.toUInt32 >>> ((1 : Int32) &&& 31).toUInt32).toInt32) &&& (1 : Int32)).toInt)) % 4294967296 = 0 := c_iadd (vf &&& (1 : Int32)) (((vf.toUInt32 >>> ((1 : Int32) &&& 31).toUInt32).toInt32) &&& (1 : Int32)); have := rng32 ((vf &&& (1 : Int32)) + (((vf.toUInt32 >>> ((1 : Int32) &&& 31).toUInt32).toInt32) &&& (1 : Int32))); omega)) | (have : ((((vf &&& (1 : Int32)) + (((vf.toUInt32 >>> ((1 : Int32) &&& 31).toUInt32).toInt32) &&& (1 : Int32)))).toInt - ((vf &&& (1 : Int32)).toInt + (((vf.toUInt32 >>> ((1 : Int32) &&& 31).toUInt32).toInt32) &&& (1 : Int32)).toInt)) % 4294967296 = 0 := c_iadd (vf &&& (1 : Int32)) (((vf.toUInt32 >>> ((1 : Int32) &&& 31).toUInt32).toInt32) &&& (1 : Int32)); have := rng32 ((vf &&& (1 : Int32)) + (((vf.toUInt32 >>> ((1 : Int32) &&& 31).toUInt32).toInt32) &&& (1 : Int32))))); have : (((vf.toUInt32 >>> ((2 : Int32) &&& 31).toUInt32).toInt32)).toInt = (vf.toInt % 4294967296) / 4 := c_iushr vf (2 : Int32) 2 (by decide) (by decide); have : ((((vf.toUInt32 >>> ((2 : Int32) &&& 31).toUInt32).toInt32) &&& (1 : Int32))).toInt = ((vf.toUInt32 >>> ((2 : Int32) &&& 31).toUInt32).toInt32).toInt % 2 := c_mask ((vf.toUInt32 >>> ((2 : Int32) &&& 31).toUInt32).toInt32) (1 : Int32) 1 (by decide) (by decide); (first | (have : ((((vf &&& (1 : Int32)) + (((vf.toUInt32 >>> ((1 : Int32) &&& 31).toUInt32).toInt32) &&& (1 : Int32))) + (((vf.toUInt32 >>> ((2 : Int32) &&& 31).toUInt32).toInt32) &&& (1 : Int32)))).toInt = ((vf &&& (1 : Int32)) + (((vf.toUInt32 >>> ((1 : Int32) &&& 31).toUInt32).toInt32) &&& (1 : Int32))).toInt + (((vf.toUInt32 >>> ((2 : Int32) &&& 31).toUInt32).toInt32) &&& (1 : Int32)).toInt := (by have : (((((vf &&& (1 : Int32)) + (((vf.toUInt32 >>> ((1 : Int32) &&& 31).toUInt32).toInt32) &&& (1 : Int32))) + (((vf.toUInt32 >>> ((2 : Int32) &&& 31).toUInt32).toInt32) &&& (1 : Int32)))).toInt - (((vf &&& (1 : Int32)) + (((vf.toUInt32 >>> ((1 : Int32) &&& 31).toUInt32).toInt32) &&& (1 : Int32))).toInt + (((vf.toUInt32 >>> ((2 : Int32) &&& 31).toUInt32).toInt32) &&& (1 : Int32)).toInt)) % 4294967296 = 0 := c_iadd ((vf &&& (1 : Int32)) + (((vf.toUInt32 >>> ((1 : Int32) &&& 31).toUInt32).toInt32) &&& (1 : Int32))) (((vf.toUInt32 >>> ((2 : Int32) &&& 31).toUInt32).toInt32) &&& (1 : Int32)); have := rng32 (((vf &&& (1 : Int32)) + (((vf.toUInt32 >>> ((1 : Int32) &&& 31).toUInt32).toInt32) &&& (1 : Int32))) + (((vf.toUInt32 >>> ((2 : Int32) &&& 31).toUInt32).toInt32) &&& (1 : Int32))); omega)) | (have : (((((vf &&& (1 : Int32)) + (((vf.toUInt32 >>> ((1 : Int32) &&& 31).toUInt32).toInt32) &&& (1 : Int32))) + (((vf.toUInt32 >>> ((2 : Int32) &&& 31).toUInt32).toInt32) &&& (1 : Int32)))).toInt - (((vf &&& (1 : Int32)) + (((vf.toUInt32 >>> ((1 : Int32) &&& 31).toUInt32).toInt32) &&& (1 : Int32))).toInt + (((vf.toUInt32 >>> ((2 : Int32) &&& 31).toUInt32).toInt32) &&& (1 : Int32)).toInt)) % 4294967296 = 0 := c_iadd ((vf &&& (1 : Int32)) + (((vf.toUInt32 >>> ((1 : Int32) &&& 31).toUInt32).toInt32) &&& (1 : Int32))) (((vf.toUInt32 >>> ((2 : Int32) &&& 31).toUInt32).toInt32) &&& (1 : Int32)); have := rng32 (((vf &&& (1 : Int32)) + (((vf.toUInt32 >>> ((1 : Int32) &&& 31).toUInt32).toInt32) &&& (1 : Int32))) + (((vf.toUInt32 >>> ((2 : Int32) &&& 31).toUInt32).toInt32) &&& (1 : Int32))))); have : (((vf.toUInt32 >>> ((3 : Int32) &&& 31).toUInt32).toInt32)).toInt = (vf.toInt % 4294967296) / 8 := c_iushr vf (3 : Int32) 3 (by decide) (by decide); have : ((((vf.toUInt32 >>> ((3 : Int32) &&& 31).toUInt32).toInt32) &&& (1 : Int32))).toInt = ((vf.toUInt32 >>> ((3 : Int32) &&& 31).toUInt32).toInt32).toInt % 2 := c_mask ((vf.toUInt32 >>> ((3 : Int32) &&& 31).toUInt32).toInt32) (1 : Int32) 1 (by decide) (by decide); (first | (have : (((((vf &&& (1 : Int32)) + (((vf.toUInt32 >>> ((1 : Int32) &&& 31).toUInt32).toInt32) &&& (1 : Int32))) + (((vf.toUInt32 >>> ((2 : Int32) &&& 31).toUInt32).toInt32) &&& (1 : Int32))) + (((vf.toUInt32 >>> ((3 : Int32) &&& 31).toUInt32).toInt32) &&& (1 : Int32)))).toInt = (((vf &&& (1 : Int32)) + (((vf.toUInt32 >>> ((1 : Int32) &&& 31).toUInt32).toInt32) &&& (1 : Int32))) + (((vf.toUInt32 >>> ((2 : Int32) &&& 31).toUInt32).toInt32) &&& (1 : Int32))).toInt + (((vf.toUInt32 >>> ((3 : Int32) &&& 31).toUInt32).toInt32) &&& (1 : Int32)).toInt := (by have : ((((((vf &&& (1 : Int32)) + (((vf.toUInt32 >>> ((1 : Int32) &&& 31).toUInt32).toInt32) &&& (1 : Int32))) + (((vf.toUInt32 >>> ((2 : Int32) &&& 31).toUInt32).toInt32) &&& (1 : Int32))) + (((vf.toUInt32 >>> ((3 : Int32) &&& 31).toUInt32).toInt32) &&& (1 : Int32)))).toInt - ((((vf &&& (1 : Int32)) + (((vf.toUInt32 >>> ((1 : Int32) &&& 31).toUInt32).toInt32) &&& (1 : Int32))) + (((vf.toUInt32 >>> ((2 : Int32) &&& 31).toUInt32).toInt32) &&& (1 : Int32))).toInt + (((vf.toUInt32 >>> ((3 : Int32) &&& 31).toUInt32).toInt32) &&& (1 : Int32)).toInt)) % 4294967296 = 0 := c_iadd (((vf &&& (1 : Int32)) + (((vf.toUInt32 >>> ((1 : Int32) &&& 31).toUInt32).toInt32) &&& (1 : Int32))) + (((vf.toUInt32 >>> ((2 : Int32) &&& 31).toUInt32).toInt32) &&& (1 : Int32))) (((vf.toUInt32 >>> ((3 : Int32) &&& 31).toUInt32).toInt32) &&& (1 : Int32)); have := rng32 ((((vf &&& (1 : Int32)) + (((vf.toUInt32 >>> ((1 : Int32) &&& 31).toUInt32).toInt32) &&& (1 : Int32))) + (((vf.toUInt32 >>> ((2 : Int32) &&& 31).toUInt32).toInt32) &&& (1 : Int32))) + (((vf.toUInt32 >>> ((3 : Int32) &&& 31).toUInt32).toInt32) &&& (1 : Int32))); omega)) | (have : ((((((vf &&& (1 : Int32)) + (((vf.toUInt32 >>> ((1 : Int32) &&& 31).toUInt32).toInt32) &&& (1 : Int32))) + (((vf.toUInt32 >>> ((2 : Int32) &&& 31).toUInt32).toInt32) &&& (1 : Int32))) + (((vf.toUInt32 >>> ((3 : Int32) &&& 31).toUInt32).toInt32) &&& (1 : Int32)))).toInt - ((((vf &&& (1 : Int32)) + (((vf.toUInt32 >>> ((1 : Int32) &&& 31).toUInt32).toInt32) &&& (1 : Int32))) + (((vf.toUInt32 >>> ((2 : Int32) &&& 31).toUInt32).toInt32) &&& (1 : Int32))).toInt + (((vf.toUInt32 >>> ((3 : Int32) &&& 31).toUInt32).toInt32) &&& (1 : Int32)).toInt)) % 4294967296 = 0 := c_iadd (((vf &&& (1 : Int32)) + (((vf.toUInt32 >>> ((1 : Int32) &&& 31).toUInt32).toInt32) &&& (1 : Int32))) + (((vf.toUInt32 >>> ((2 : Int32) &&& 31).toUInt32).toInt32) &&& (1 : Int32))) (((vf.toUInt32 >>> ((3 : Int32) &&& 31).toUInt32).toInt32) &&& (1 : Int32)); have := rng32 ((((vf &&& (1 : Int32)) + (((vf.toUInt32 >>> ((1 : Int32) &&& 31).toUInt32).toInt32) &&& (1 : Int32))) + (((vf.toUInt32 >>> ((2 : Int32) &&& 31).toUInt32).toInt32) &&& (1 : Int32))) + (((vf.toUInt32 >>> ((3 : Int32) &&& 31).toUInt32).toInt32) &&& (1 : Int32))))); have : (((vf.toUInt32 >>> ((4 : Int32) &&& 31).toUInt32).toInt32)).toInt = (vf.toInt % 4294967296) / 16 := c_iushr vf (4 : Int32) 4 (by decide) (by decide); have : ((((vf.toUInt32 >>> ((4 : Int32) &&& 31).toUInt32).toInt32) &&& (1 : Int32))).toInt = ((vf.toUInt32 >>> ((4 : Int32) &&& 31).toUInt32).toInt32).toInt % 2 := c_mask ((vf.toUInt32 >>> ((4 : Int32) &&& 31).toUInt32).toInt32) (1 : Int32) 1 (by decide) (by decide); (first | (have : ((((((vf &&& (1 : Int32)) + (((vf.toUInt32 >>> ((1 : Int32) &&& 31).toUInt32).toInt32) &&& (1 : Int32))) + (((vf.toUInt32 >>> ((2 : Int32) &&& 31).toUInt32).toInt32) &&& (1 : Int32))) + (((vf.toUInt32 >>> ((3 : Int32) &&& 31).toUInt32).toInt32) &&& (1 : Int32))) + (((vf.toUInt32 >>> ((4 : Int32) &&& 31).toUInt32).toInt32) &&& (1 : Int32)))).toInt = ((((vf &&& (1 : Int32)) + (((vf.toUInt32 >>> ((1 : Int32) &&& 31).toUInt32).toInt32) &&& (1 : Int32))) + (((vf.toUInt32 >>> ((2 : Int32) &&& 31).toUInt32).toInt32) &&& (1 : Int32))) + (((vf.toUInt32 >>> ((3 : Int32) &&& 31).toUInt32).toInt32) &&& (1 : Int32))).toInt + (((vf.toUInt32 >>> ((4 : Int32) &&& 31).toUInt32).toInt32) &&& (1 : Int32)).toInt := (by have : (((((((vf &&& (1 : Int32)) + (((vf.toUInt32 >>> ((1 : Int32) &&& 31).toUInt32).toInt32) &&& (1 : Int32))) + (((vf.toUInt32 >>> ((2 : Int32) &&& 31).toUInt32).toInt32) &&& (1 : Int32))) + (((vf.toUInt32 >>> ((3 : Int32) &&& 31).toUInt32).toInt32) &&& (1 : Int32))) + (((vf.toUInt32 >>> ((4 : Int32) &&& 31).toUInt32).toInt32) &&& (1 : Int32)))).toInt - (((((vf &&& (1 : Int32)) + (((vf.toUInt32 >>> ((1 : Int32) &&& 31).toUInt32).toInt32) &&& (1 : Int32))) + (((vf.toUInt32 >>> ((2 : Int32) &&& 31).toUInt32).toInt32) &&& (1 : Int32))) + (((vf.toUInt32 >>> ((3 : Int32) &&& 31).toUInt32).toInt32) &&& (1 : Int32))).toInt + (((vf.toUInt32 >>> ((4 : Int32) &&& 31).toUInt32).toInt32) &&& (1 : Int32)).toInt)) % 4294967296 = 0 := c_iadd ((((vf &&& (1 : Int32)) + (((vf.toUInt32 >>> ((1 : Int32) &&& 31).toUInt32).toInt32) &&& (1 : Int32))) + (((vf.toUInt32 >>> ((2 : Int32) &&& 31).toUInt32).toInt32) &&& (1 : Int32))) + (((vf.toUInt32 >>> ((3 : Int32) &&& 31).toUInt32).toInt32) &&& (1 : Int32))) (((vf.toUInt32 >>> ((4 : Int32) &&& 31).toUInt32).toInt32) &&& (1 : Int32)); have := rng32 (((((vf &&& (1 : Int32)) + (((vf.toUInt32 >>> ((1 : Int32) &&& 31).toUInt32).toInt32) &&& (1 : Int32))) + (((vf.toUInt32 >>> ((2 : Int32) &&& 31).toUInt32).toInt32) &&& (1 : Int32))) + (((vf.toUInt32 >>> ((3 : Int32) &&& 31).toUInt32).toInt32) &&& (1 : Int32))) + (((vf.toUInt32 >>> ((4 : Int32) &&& 31).toUInt32).toInt32) &&& (1 : Int32))); omega)) | (have : (((((((vf &&& (1 : Int32)) + (((vf.toUInt32 >>> ((1 : Int32) &&& 31).toUInt32).toInt32) &&& (1 : Int32))) + (((vf.toUInt32 >>> ((2 : Int32) &&& 31).toUInt32).toInt32) &&& (1 : Int32))) + (((vf.toUInt32 >>> ((3 : Int32) &&& 31).toUInt32).toInt32) &&& (1 : Int32))) + (((vf.toUInt32 >>> ((4 : Int32) &&& 31).toUInt32).toInt32) &&& (1 : Int32)))).toInt - (((((vf &&& (1 : Int32)) + (((vf.toUInt32 >>> ((1 : Int32) &&& 31).toUInt32).toInt32) &&& (1 : Int32))) + (((vf.toUInt32 >>> ((2 : Int32) &&& 31).toUInt32).toInt32) &&& (1 : Int32))) + (((vf.toUInt32 >>> ((3 : Int32) &&& 31).toUInt32).toInt32) &&& (1 : Int32))).toInt + (((vf.toUInt32 >>> ((4 : Int32) &&& 31).toUInt32).toInt32) &&& (1 : Int32)).toInt)) % 4294967296 = 0 := c_iadd ((((vf &&& (1 : Int32)) + (((vf.toUInt32 >>> ((1 : Int32) &&& 31).toUInt32).toInt32) &&& (1 : Int32))) + (((vf.toUInt32 >>> ((2 : Int32) &&& 31).toUInt32).toInt32) &&& (1 : Int32))) + (((vf.toUInt32 >>> ((3 : Int32) &&& 31).toUInt32).toInt32) &&& (1 : Int32))) (((vf.toUInt32 >>> ((4 : Int32) &&& 31).toUInt32).toInt32) &&& (1 : Int32)); have := rng32 (((((vf &&& (1 : Int32)) + (((vf.toUInt32 >>> ((1 : Int32) &&& 31).toUInt32).toInt32) &&& (1 : Int32))) + (((vf.toUInt32 >>> ((2 : Int32) &&& 31).toUInt32).toInt32) &&& (1 : Int32))) + (((vf.toUInt32 >>> ((3 : Int32) &&& 31).toUInt32).toInt32) &&& (1 : Int32))) + (((vf.toUInt32 >>> ((4 : Int32) &&& 31).toUInt32).toInt32) &&& (1 : Int32))))); have : (((vf.toUInt32 >>> ((5 : Int32) &&& 31).toUInt32).toInt32)).toInt = (vf.toInt % 4294967296) / 32 := c_iushr vf (5 : Int32) 5 (by decide) (by decide); have : ((((vf.toUInt32 >>> ((5 : Int32) &&& 31).toUInt32).toInt32) &&& (1 : Int32))).toInt = ((vf.toUInt32 >>> ((5 : Int32) &&& 31).toUInt32).toInt32).toInt % 2 := c_mask ((vf.toUInt32 >>> ((5 : Int32) &&& 31).toUInt32).toInt32) (1 : Int32) 1 (by decide) (by decide); (first | (have : (((((((vf &&& (1 : Int32)) + (((vf.toUInt32 >>> ((1 : Int32) &&& 31).toUInt32).toInt32) &&& (1 : Int32))) + (((vf.toUInt32 >>> ((2 : Int32) &&& 31).toUInt32).toInt32) &&& (1 : Int32))) + (((vf.toUInt32 >>> ((3 : Int32) &&& 31).toUInt32).toInt32) &&& (1 : Int32))) + (((vf.toUInt32 >>> ((4 : Int32) &&& 31).toUInt32).toInt32) &&& (1 : Int32))) + (((vf.toUInt32 >>> ((5 : Int32) &&& 31).toUInt32).toInt32) &&& (1 : Int32)))).toInt = (((((vf &&& (1 : Int32)) + (((vf.toUInt32 >>> ((1 : Int32) &&& 31).toUInt32).toInt32) &&& (1 : Int32))) + (((vf.toUInt32 >>> ((2 : Int32) &&& 31).toUInt32).toInt32) &&& (1 : Int32))) + (((vf.toUInt32 >>> ((3 : Int32) &&& 31).toUInt32).toInt32) &&& (1 : Int32))) + (((vf.toUInt32 >>> ((4 : Int32) &&& 31).toUInt32).toInt32) &&& (1 : Int32))).toInt + (((vf.toUInt32 >>> ((5 : Int32) &&& 31).toUInt32).toInt32) &&& (1 : Int32)).toInt := (by have : ((((((((vf &&& (1 : Int32)) + (((vf.toUInt32 >>> ((1 : Int32) &&& 31).toUInt32).toInt32) &&& (1 : Int32))) + (((vf.toUInt32 >>> ((2 : Int32) &&& 31).toUInt32).toInt32) &&& (1 : Int32))) + (((vf.toUInt32 >>> ((3 : Int32) &&& 31).toUInt32).toInt32) &&& (1 : Int32))) + (((vf.toUInt32 >>> ((4 : Int32) &&& 31).toUInt32).toInt32) &&& (1 : Int32))) + (((vf.toUInt32 >>> ((5 : Int32) &&& 31).toUInt32).toInt32) &&& (1 : Int32)))).toInt - ((((((vf &&& (1 : Int32)) + (((vf.toUInt32 >>> ((1 : Int32) &&& 31).toUInt32).toInt32) &&& (1 : Int32))) + (((vf.toUInt32 >>> ((2 : Int32) &&& 31).toUInt32).toInt32) &&& (1 : Int32))) + (((vf.toUInt32 >>> ((3 : Int32) &&& 31).toUInt32).toInt32) &&& (1 : Int32))) + (((vf.toUInt32 >>> ((4 : Int32) &&& 31).toUInt32).toInt32) &&& (1 : Int32))).toInt + (((vf.toUInt32 >>> ((5 : Int32) &&& 31).toUInt32).toInt32) &&& (1 : Int32)).toInt)) % 4294967296 = 0 := c_iadd (((((vf &&& (1 : Int32)) + (((vf.toUInt32 >>> ((1 : Int32) &&& 31).toUInt32).toInt32) &&& (1 : Int32))) + (((vf.toUInt32 >>> ((2 : Int32) &&& 31).toUInt32).toInt32) &&& (1 : Int32))) + (((vf.toUInt32 >>> ((3 : Int32) &&& 31).toUInt32).toInt32) &&& (1 : Int32))) + (((vf.toUInt32 >>> ((4 : Int32) &&& 31).toUInt32).toInt32) &&& (1 : Int32))) (((vf.toUInt32 >>> ((5 : Int32) &&& 31).toUInt32).toInt32) &&& (1 : Int32)); have := rng32 ((((((vf &&& (1 : Int32)) + (((vf.toUInt32 >>> ((1 : Int32) &&& 31).toUInt32).toInt32) &&& (1 : Int32))) + (((vf.toUInt32 >>> ((2 : Int32) &&& 31).toUInt32).toInt32) &&& (1 : Int32))) + (((vf.toUInt32 >>> ((3 : Int32) &&& 31).toUInt32).toInt32) &&& (1 : Int32))) + (((vf.toUInt32 >>> ((4 : Int32) &&& 31).toUInt32).toInt32) &&& (1 : Int32))) + (((vf.toUInt32 >>> ((5 : Int32) &&& 31).toUInt32).toInt32) &&& (1 : Int32))); omega)) | (have : ((((((((vf &&& (1 : Int32)) + (((vf.toUInt32 >>> ((1 : Int32) &&& 31).toUInt32).toInt32) &&& (1 : Int32))) + (((vf.toUInt32 >>> ((2 : Int32) &&& 31).toUInt32).toInt32) &&& (1 : Int32))) + (((vf.toUInt32 >>> ((3 : Int32) &&& 31).toUInt32).toInt32) &&& (1 : Int32))) + (((vf.toUInt32 >>> ((4 : Int32) &&& 31).toUInt32).toInt32) &&& (1 : Int32))) + (((vf.toUInt32 >>> ((5 : Int32) &&& 31).toUInt32).toInt32) &&& (1 : Int32)))).toInt - ((((((vf &&& (1 : Int32)) + (((vf.toUInt32 >>> ((1 : Int32) &&& 31).toUInt32).toInt32) &&& (1 : Int32))) + (((vf.toUInt32 >>> ((2 : Int32) &&& 31).toUInt32).toInt32) &&& (1 : Int32))) + (((vf.toUInt32 >>> ((3 : Int32) &&& 31).toUInt32).toInt32) &&& (1 : Int32))) + (((vf.toUInt32 >>> ((4 : Int32) &&& 31).toUInt32).toInt32) &&& (1 : Int32))).toInt + (((vf.toUInt32 >>> ((5 : Int32) &&& 31).toUInt32).toInt32) &&& (1 : Int32)).toInt)) % 4294967296 = 0 := c_iadd (((((vf &&& (1 : Int32)) + (((vf.toUInt32 >>> ((1 : Int32) &&& 31).toUInt32).toInt32) &&& (1 : Int32))) + (((vf.toUInt32 >>> ((2 : Int32) &&& 31).toUInt32).toInt32) &&& (1 : Int32))) + (((vf.toUInt32 >>> ((3 : Int32) &&& 31).toUInt32).toInt32) &&& (1 : Int32))) + (((vf.toUInt32 >>> ((4 : Int32) &&& 31).toUInt32).toInt32) &&& (1 : Int32))) (((vf.toUInt32 >>> ((5 : Int32) &&& 31).toUInt32).toInt32) &&& (1 : Int32)); have := rng32 ((((((vf &&& (1 : Int32)) + (((vf.toUInt32 >>> ((1 : Int32) &&& 31).toUInt32).toInt32) &&& (1 : Int32))) + (((vf.toUInt32 >>> ((2 : Int32) &&& 31).toUInt32).toInt32) &&& (1 : Int32))) + (((vf.toUInt32 >>> ((3 : Int32) &&& 31).toUInt32).toInt32) &&& (1 : Int32))) + (((vf.toUInt32 >>> ((4 : Int32) &&& 31).toUInt32).toInt32) &&& (1 : Int32))) + (((vf.toUInt32 >>> ((5 : Int32) &&& 31).toUInt32).toInt32) &&& (1 : Int32))))); have : (((vf.toUInt32 >>> ((6 : Int32) &&& 31).toUInt32).toInt32)).toInt = (vf.toInt % 4294967296) / 64 := c_iushr vf (6 : Int32) 6 (by decide) (by decide); have : ((((vf.toUInt32 >>> ((6 : Int32) &&& 31).toUInt32).toInt32) &&& (1 : Int32))).toInt = ((vf.toUInt32 >>> ((6 : Int32) &&& 31).toUInt32).toInt32).toInt % 2 := c_mask ((vf.toUInt32 >>> ((6 : Int32) &&& 31).toUInt32).toInt32) (1 : Int32) 1 (by decide) (by decide); (first | (have : ((((((((vf &&& (1 : Int32)) + (((vf.toUInt32 >>> ((1 : Int32) &&& 31).toUInt32).toInt32) &&& (1 : Int32))) + (((vf.toUInt32 >>> ((2 : Int32) &&& 31).toUInt32).toInt32) &&& (1 : Int32))) + (((vf.toUInt32 >>> ((3 : Int32) &&& 31).toUInt32).toInt32) &&& (1 : Int32))) + (((vf.toUInt32 >>> ((4 : Int32) &&& 31).toUInt32).toInt32) &&& (1 : Int32))) + (((vf.toUInt32 >>> ((5 : Int32) &&& 31).toUInt32).toInt32) &&& (1 : Int32))) + (((vf.toUInt32 >>> ((6 : Int32) &&& 31).toUInt32).toInt32) &&& (1 : Int32)))).toInt = ((((((vf &&& (1 : Int32)) + (((vf.toUInt32 >>> ((1 : Int32) &&& 31).toUInt32).toInt32) &&& (1 : Int32))) + (((vf.toUInt32 >>> ((2 : Int32) &&& 31).toUInt32).toInt32) &&& (1 : Int32))) + (((vf.toUInt32 >>> ((3 : Int32) &&& 31).toUInt32).toInt32) &&& (1 : Int32))) + (((vf.toUInt32 >>> ((4 : Int32) &&& 31).toUInt32).toInt32) &&& (1 : Int32))) + (((vf.toUInt32 >>> ((5 : Int32) &&& 31).toUInt32).toInt32) &&& (1 : Int32))).toInt + (((vf.toUInt32 >>> ((6 : Int32) &&& 31).toUInt32).toInt32) &&& (1 : Int32)).toInt := (by have : (((((((((vf &&& (1 : Int32)) + (((vf.toUInt32 >>> ((1 : Int32) &&& 31).toUInt32).toInt32) &&& (1 : Int32))) + (((vf.toUInt32 >>> ((2 : Int32) &&& 31).toUInt32).toInt32) &&& (1 : Int32))) + (((vf.toUInt32 >>> ((3 : Int32) &&& 31).toUInt32).toInt32) &&& (1 : Int32))) + (((vf.toUInt32 >>> ((4 : Int32) &&& 31).toUInt32).toInt32) &&& (1 : Int32))) + (((vf.toUInt32 >>> ((5 : Int32) &&& 31).toUInt32).toInt32) &&& (1 : Int32))) + (((vf.toUInt32 >>> ((6 : Int32) &&& 31).toUInt32).toInt32) &&& (1 : Int32)))).toInt - (((((((vf &&& (1 : Int32)) + (((vf.toUInt32 >>> ((1 : Int32) &&& 31).toUInt32).toInt32) &&& (1 : Int32))) + (((vf.toUInt32 >>> ((2 : Int32) &&& 31).toUInt32).toInt32) &&& (1 : Int32))) + (((vf.toUInt32 >>> ((3 : Int32) &&& 31).toUInt32).toInt32) &&& (1 : Int32))) + (((vf.toUInt32 >>> ((4 : Int32) &&& 31).toUInt32).toInt32) &&& (1 : Int32))) + (((vf.toUInt32 >>> ((5 : Int32) &&& 31).toUInt32).toInt32) &&& (1 : Int32))).toInt + (((vf.toUInt32 >>> ((6 : Int32) &&& 31).toUInt32).toInt32) &&& (1 : Int32)).toInt)) % 4294967296 = 0 := c_iadd ((((((vf &&& (1 : Int32)) + (((vf.toUInt32 >>> ((1 : Int32) &&& 31).toUInt32).toInt32) &&& (1 : Int32))) + (((vf.toUInt32 >>> ((2 : Int32) &&& 31).toUInt32).toInt32) &&& (1 : Int32))) + (((vf.toUInt32 >>> ((3 : Int32) &&& 31).toUInt32).toInt32) &&& (1 : Int32))) + (((vf.toUInt32 >>> ((4 : Int32) &&& 31).toUInt32).toInt32) &&& (1 : Int32))) + (((vf.toUInt32 >>> ((5 : Int32) &&& 31).toUInt32).toInt32) &&& (1 : Int32))) (((vf.toUInt32 >>> ((6 : Int32) &&& 31).toUInt32).toInt32) &&& (1 : Int32)); have := rng32 (((((((vf &&& (1 : Int32)) + (((vf.toUInt32 >>> ((1 : Int32) &&& 31).toUInt32).toInt32) &&& (1 : Int32))) + (((vf.toUInt32 >>> ((2 : Int32) &&& 31).toUInt32).toInt32) &&& (1 : Int32))) + (((vf.toUInt32 >>> ((3 : Int32) &&& 31).toUInt32).toInt32) &&& (1 : Int32))) + (((vf.toUInt32 >>> ((4 : Int32) &&& 31).toUInt32).toInt32) &&& (1 : Int32))) + (((vf.toUInt32 >>> ((5 : Int32) &&& 31).toUInt32).toInt32) &&& (1 : Int32))) + (((vf.toUInt32 >>> ((6 : Int32) &&& 31).toUInt32).toInt32) &&& (1 : Int32))); omega)) | (have : (((((((((vf &&& (1 : Int32)) + (((vf.toUInt32 >>> ((1 : Int32) &&& 31).toUInt32).toInt32) &&& (1 : Int32))) + (((vf.toUInt32 >>> ((2 : Int32) &&& 31).toUInt32).toInt32) &&& (1 : Int32))) + (((vf.toUInt32 >>> ((3 : Int32) &&& 31).toUInt32).toInt32) &&& (1 : Int32))) + (((vf.toUInt32 >>> ((4 : Int32) &&& 31).toUInt32).toInt32) &&& (1 : Int32))) + (((vf.toUInt32 >>> ((5 : Int32) &&& 31).toUInt32).toInt32) &&& (1 : Int32))) + (((vf.toUInt32 >>> ((6 : Int32) &&& 31).toUInt32).toInt32) &&& (1 : Int32)))).toInt - (((((((vf &&& (1 : Int32)) + (((vf.toUInt32 >>> ((1 : Int32) &&& 31).toUInt32).toInt32) &&& (1 : Int32))) + (((vf.toUInt32 >>> ((2 : Int32) &&& 31).toUInt32).toInt32) &&& (1 : Int32))) + (((vf.toUInt32 >>> ((3 : Int32) &&& 31).toUInt32).toInt32) &&& (1 : Int32))) + (((vf.toUInt32 >>> ((4 : Int32) &&& 31).toUInt32).toInt32) &&& (1 : Int32))) + (((vf.toUInt32 >>> ((5 : Int32) &&& 31).toUInt32).toInt32) &&& (1 : Int32))).toInt + (((vf.toUInt32 >>> ((6 : Int32) &&& 31).toUInt32).toInt32) &&& (1 : Int32)).toInt)) % 4294967296 = 0 := c_iadd ((((((vf &&& (1 : Int32)) + (((vf.toUInt32 >>> ((1 : Int32) &&& 31).toUInt32).toInt32) &&& (1 : Int32))) + (((vf.toUInt32 >>> ((2 : Int32) &&& 31).toUInt32).toInt32) &&& (1 : Int32))) + (((vf.toUInt32 >>> ((3 : Int32) &&& 31).toUInt32).toInt32) &&& (1 : Int32))) + (((vf.toUInt32 >>> ((4 : Int32) &&& 31).toUInt32).toInt32) &&& (1 : Int32))) + (((vf.toUInt32 >>> ((5 : Int32) &&& 31).toUInt32).toInt32) &&& (1 : Int32))) (((vf.toUInt32 >>> ((6 : Int32) &&& 31).toUInt32).toInt32) &&& (1 : Int32)); have := rng32 (((((((vf &&& (1 : Int32)) + (((vf.toUInt32 >>> ((1 : Int32) &&& 31).toUInt32).toInt32) &&& (1 : Int32))) + (((vf.toUInt32 >>> ((2 : Int32) &&& 31).toUInt32).toInt32) &&& (1 : Int32))) + (((vf.toUInt32 >>> ((3 : Int32) &&& 31).toUInt32).toInt32) &&& (1 : Int32))) + (((vf.toUInt32 >>> ((4 : Int32) &&& 31).toUInt32).toInt32) &&& (1 : Int32))) + (((vf.toUInt32 >>> ((5 : Int32) &&& 31).toUInt32).toInt32) &&& (1 : Int32))) + (((vf.toUInt32 >>> ((6 : Int32) &&& 31).toUInt32).toInt32) &&& (1 : Int32))))); have : (((vf.toUInt32 >>> ((7 : Int32) &&& 31).toUInt32).toInt32)).toInt = (vf.toInt % 4294967296) / 128 := c_iushr vf (7 : Int32) 7 (by decide) (by decide); have : ((((vf.toUInt32 >>> ((7 : Int32) &&& 31).toUInt32).toInt32) &&& (1 : Int32))).toInt = ((vf.toUInt32 >>> ((7 : Int32) &&& 31).toUInt32).toInt32).toInt % 2 := c_mask ((vf.toUInt32 >>> ((7 : Int32) &&& 31).toUInt32).toInt32) (1 : Int32) 1 (by decide) (by decide); (first | (have : (((((((((vf &&& (1 : Int32)) + (((vf.toUInt32 >>> ((1 : Int32) &&& 31).toUInt32).toInt32) &&& (1 : Int32))) + (((vf.toUInt32 >>> ((2 : Int32) &&& 31).toUInt32).toInt32) &&& (1 : Int32))) + (((vf.toUInt32 >>> ((3 : Int32) &&& 31).toUInt32).toInt32) &&& (1 : Int32))) + (((vf.toUInt32 >>> ((4 : Int32) &&& 31).toUInt32).toInt32) &&& (1 : Int32))) + (((vf.toUInt32 >>> ((5 : Int32) &&& 31).toUInt32).toInt32) &&& (1 : Int32))) + (((vf.toUInt32 >>> ((6 : Int32) &&& 31).toUInt32).toInt32) &&& (1 : Int32))) + (((vf.toUInt32 >>> ((7 : Int32) &&& 31).toUInt32).toInt32) &&& (1 : Int32)))).toInt = (((((((vf &&& (1 : Int32)) + (((vf.toUInt32 >>> ((1 : Int32) &&& 31).toUInt32).toInt32) &&& (1 : Int32))) + (((vf.toUInt32 >>> ((2 : Int32) &&& 31).toUInt32).toInt32) &&& (1 : Int32))) + (((vf.toUInt32 >>> ((3 : Int32) &&& 31).toUInt32).toInt32) &&& (1 : Int32))) + (((vf.toUInt32 >>> ((4 : Int32) &&& 31).toUInt32).toInt32) &&& (1 : Int32))) + (((vf.toUInt32 >>> ((5 : Int32) &&& 31).toUInt32).toInt32) &&& (1 : Int32))) + (((vf.toUInt32 >>> ((6 : Int32) &&& 31).toUInt32).toInt32) &&& (1 : Int32))).toInt + (((vf.toUInt32 >>> ((7 : Int32) &&& 31).toUInt32).toInt32) &&& (1 : Int32)).toInt := (by have : ((((((((((vf &&& (1 : Int32)) + (((vf.toUInt32 >>> ((1 : Int32) &&& 31).toUInt32).toInt32) &&& (1 : Int32))) + (((vf.toUInt32 >>> ((2 : Int32) &&& 31).toUInt32).toInt32) &&& (1 : Int32))) + (((vf.toUInt32 >>> ((3 : Int32) &&& 31).toUInt32).toInt32) &&& (1 : Int32))) + (((vf.toUInt32 >>> ((4 : Int32) &&& 31).toUInt32).toInt32) &&& (1 : Int32))) + (((vf.toUInt32 >>> ((5 : Int32) &&& 31).toUInt32).toInt32) &&& (1 : Int32))) + (((vf.toUInt32 >>> ((6 : Int32) &&& 31).toUInt32).toInt32) &&& (1 : Int32))) + (((vf.toUInt32 >>> ((7 : Int32) &&& 31).toUInt32).toInt32) &&& (1 : Int32)))).toInt - ((((((((vf &&& (1 : Int32)) + (((vf.toUInt32 >>> ((1 : Int32) &&& 31).toUInt32).toInt32) &&& (1 : Int32))) + (((vf.toUInt32 >>> ((2 : Int32) &&& 31).toUInt32).toInt32) &&& (1 : Int32))) + (((vf.toUInt32 >>> ((3 : Int32) &&& 31).toUInt32).toInt32) &&& (1 : Int32))) + (((vf.toUInt32 >>> ((4 : Int32) &&& 31).toUInt32).toInt32) &&& (1 : Int32))) + (((vf.toUInt32 >>> ((5 : Int32) &&& 31).toUInt32).toInt32) &&& (1 : Int32))) + (((vf.toUInt32 >>> ((6 : Int32) &&& 31).toUInt32).toInt32) &&& (1 : Int32))).toInt + (((vf.toUInt32 >>> ((7 : Int32) &&& 31).toUInt32).toInt32) &&& (1 : Int32)).toInt)) % 4294967296 = 0 := c_iadd (((((((vf &&& (1 : Int32)) + (((vf.toUInt32 >>> ((1 : Int32) &&& 31).toUInt32).toInt32) &&& (1 : Int32))) + (((vf.toUInt32 >>> ((2 : Int32) &&& 31).toUInt32).toInt32) &&& (1 : Int32))) + (((vf.toUInt32 >>> ((3 : Int32) &&& 31).toUInt32).toInt32) &&& (1 : Int32))) + (((vf.toUInt32 >>> ((4 : Int32) &&& 31).toUInt32).toInt32) &&& (1 : Int32))) + (((vf.toUInt32 >>> ((5 : Int32) &&& 31).toUInt32).toInt32) &&& (1 : Int32))) + (((vf.toUInt32 >>> ((6 : Int32) &&& 31).toUInt32).toInt32) &&& (1 : Int32))) (((vf.toUInt32 >>> ((7 : Int32) &&& 31).toUInt32).toInt32) &&& (1 : Int32)); have := rng32 ((((((((vf &&& (1 : Int32)) + (((vf.toUInt32 >>> ((1 : Int32) &&& 31).toUInt32).toInt32) &&& (1 : Int32))) + (((vf.toUInt32 >>> ((2 : Int32) &&& 31).toUInt32).toInt32) &&& (1 : Int32))) + (((vf.toUInt32 >>> ((3 : Int32) &&& 31).toUInt32).toInt32) &&& (1 : Int32))) + (((vf.toUInt32 >>> ((4 : Int32) &&& 31).toUInt32).toInt32) &&& (1 : Int32))) + (((vf.toUInt32 >>> ((5 : Int32) &&& 31).toUInt32).toInt32) &&& (1 : Int32))) + (((vf.toUInt32 >>> ((6 : Int32) &&& 31).toUInt32).toInt32) &&& (1 : Int32))) + (((vf.toUInt32 >>> ((7 : Int32) &&& 31).toUInt32).toInt32) &&& (1 : Int32))); omega)) | (have : ((((((((((vf &&& (1 : Int32)) + (((vf.toUInt32 >>> ((1 : Int32) &&& 31).toUInt32).toInt32) &&& (1 : Int32))) + (((vf.toUInt32 >>> ((2 : Int32) &&& 31).toUInt32).toInt32) &&& (1 : Int32))) + (((vf.toUInt32 >>> ((3 : Int32) &&& 31).toUInt32).toInt32) &&& (1 : Int32))) + (((vf.toUInt32 >>> ((4 : Int32) &&& 31).toUInt32).toInt32) &&& (1 : Int32))) + (((vf.toUInt32 >>> ((5 : Int32) &&& 31).toUInt32).toInt32) &&& (1 : Int32))) + (((vf.toUInt32 >>> ((6 : Int32) &&& 31).toUInt32).toInt32) &&& (1 : Int32))) + (((vf.toUInt32 >>> ((7 : Int32) &&& 31).toUInt32).toInt32) &&& (1 : Int32)))).toInt - ((((((((vf &&& (1 : Int32)) + (((vf.toUInt32 >>> ((1 : Int32) &&& 31).toUInt32).toInt32) &&& (1 : Int32))) + (((vf.toUInt32 >>> ((2 : Int32) &&& 31).toUInt32).toInt32) &&& (1 : Int32))) + (((vf.toUInt32 >>> ((3 : Int32) &&& 31).toUInt32).toInt32) &&& (1 : Int32))) + (((vf.toUInt32 >>> ((4 : Int32) &&& 31).toUInt32).toInt32) &&& (1 : Int32))) + (((vf.toUInt32 >>> ((5 : Int32) &&& 31).toUInt32).toInt32) &&& (1 : Int32))) + (((vf.toUInt32 >>> ((6 : Int32) &&& 31).toUInt32).toInt32) &&& (1 : Int32))).toInt + (((vf.toUInt32 >>> ((7 : Int32) &&& 31).toUInt32).toInt32) &&& (1 : Int32)).toInt)) % 4294967296 = 0 := c_iadd (((((((vf &&& (1 : Int32)) + (((vf.toUInt32 >>> ((1 : Int32) &&& 31).toUInt32).toInt32) &&& (1 : Int32))) + (((vf.toUInt32 >>> ((2 : Int32) &&& 31).toUInt32).toInt32) &&& (1 : Int32))) + (((vf.toUInt32 >>> ((3 : Int32) &&& 31).toUInt32).toInt32) &&& (1 : Int32))) + (((vf.toUInt32 >>> ((4 : Int32) &&& 31).toUInt32).toInt32) &&& (1 : Int32))) + (((vf.toUInt32 >>> ((5 : Int32) &&& 31).toUInt32).toInt32) &&& (1 : Int32))) + (((vf.toUInt32 >>> ((6 : Int32) &&& 31).toUInt32).toInt32) &&& (1 : Int32))) (((vf.toUInt32 >>> ((7 : Int32) &&& 31).toUInt32).toInt32) &&& (1 : Int32)); have := rng32 ((((((((vf &&& (1 : Int32)) + (((vf.toUInt32 >>> ((1 : Int32) &&& 31).toUInt32).toInt32) &&& (1 : Int32))) + (((vf.toUInt32 >>> ((2 : Int32) &&& 31).toUInt32).toInt32) &&& (1 : Int32))) + (((vf.toUInt32 >>> ((3 : Int32) &&& 31).toUInt32).toInt32) &&& (1 : Int32))) + (((vf.toUInt32 >>> ((4 : Int32) &&& 31).toUInt32).toInt32) &&& (1 : Int32))) + (((vf.toUInt32 >>> ((5 : Int32) &&& 31).toUInt32).toInt32) &&& (1 : Int32))) + (((vf.toUInt32 >>> ((6 : Int32) &&& 31).toUInt32).toInt32) &&& (1 : Int32))) + (((vf.toUInt32 >>> ((7 : Int32) &&& 31).toUInt32).toInt32) &&& (1 : Int32))))); have h00 := hr0; rw [own_sh0] at h00; omega
    have pre113 : ∀ t, Steps p.tables e below (T110.setTop (mkF m 332 #[.val (.int vf), .val (.int vr), .val (.int vm), .val (.long qk), .second, .val (.long qp), .second, .val (.int (0 : Int32)), .val (.ref b4), .val (.ref b6), .val (.ref b10), .unset, .unset, .unset, .unset, .unset, .unset, .unset] [(.int ex)])) t → Steps p.tables e below (s₁.setTop (entryFrame m #[(.int vf), (.int vr), (.int vm), (.long qk), (.long qp)] maxLocals)) t := by rw [hex]; exact pre112
    have f114 := ((((((((((((((((V44.other W49 ne_b4_b6).other W53 ne_b4_b6).other W57 ne_b4_b6).other W61 ne_b4_b6).other W65 ne_b4_b6).other W69 ne_b4_b6).other W73 ne_b4_b6).other W77 ne_b4_b6).other W82 ne_b4_b10).other W86 ne_b4_b10).other W90 ne_b4_b10).other W94 ne_b4_b10).other W98 ne_b4_b10).other W102 ne_b4_b10).other W106 ne_b4_b10).other W110 ne_b4_b10)
    have f115 := ((((((((V77.other W82 ne_b6_b10).other W86 ne_b6_b10).other W90 ne_b6_b10).other W94 ne_b6_b10).other W98 ne_b6_b10).other W102 ne_b6_b10).other W106 ne_b6_b10).other W110 ne_b6_b10)
    obtain ⟨T116, h116, X116, e116, E116, A116, D116, -, st116⟩ := newO X110 hx hZ hown (hw _ (List.mem_of_getElem? (i := 13) rfl)) (hw _ (List.mem_of_getElem? (i := 14) rfl)) (hw _ (List.mem_of_getElem? (i := 15) rfl)) e110 (g := (mkF m 335 #[.val (.int vf), .val (.int vr), .val (.int vm), .val (.long qk), .second, .val (.long qp), .second, .val (.int (0 : Int32)), .val (.ref b4), .val (.ref b6), .val (.ref b10), .val (.long (ex.toInt64)), .second, .unset, .unset, .unset, .unset, .unset] [])) rfl (hb hby at_335) (by decide) (by decide)
    obtain ⟨b116, g116⟩ : ∃ z, z = h110.size := ⟨_, rfl⟩
    have ne_b4_b116 : b4 ≠ b116 := Nat.ne_of_lt (Nat.lt_of_lt_of_le f114.lt (Nat.le_of_eq g116.symm))
    have ne_b6_b116 : b6 ≠ b116 := Nat.ne_of_lt (Nat.lt_of_lt_of_le f115.lt (Nat.le_of_eq g116.symm))
    have ne_b10_b116 : b10 ≠ b116 := Nat.ne_of_lt (Nat.lt_of_lt_of_le V110.lt (Nat.le_of_eq g116.symm))
    have g_b116 : n0 ≤ b116 := Nat.le_trans Zs111 (Nat.le_of_eq g116.symm)
    have f117 := (((((((((((((((((((((((((f11.ext E10).wr W16 (Or.inr sz_b4)).wr W20 (Or.inr sz_b4)).wr W24 (Or.inr sz_b4)).wr W28 (Or.inr sz_b4)).wr W32 (Or.inr sz_b4)).wr W36 (Or.inr sz_b4)).wr W40 (Or.inr sz_b4)).wr W44 (Or.inr sz_b4)).wr W49 (Or.inr sz_b6)).wr W53 (Or.inr sz_b6)).wr W57 (Or.inr sz_b6)).wr W61 (Or.inr sz_b6)).wr W65 (Or.inr sz_b6)).wr W69 (Or.inr sz_b6)).wr W73 (Or.inr sz_b6)).wr W77 (Or.inr sz_b6)).wr W82 (Or.inr sz_b10)).wr W86 (Or.inr sz_b10)).wr W90 (Or.inr sz_b10)).wr W94 (Or.inr sz_b10)).wr W98 (Or.inr sz_b10)).wr W102 (Or.inr sz_b10)).wr W106 (Or.inr sz_b10)).wr W110 (Or.inr sz_b10))
    have sz_b116 : h0.size ≤ b116 := Nat.le_trans f117.1 (Nat.le_of_eq g116.symm)
    rw [← g116] at A116 D116 st116
    have Zs118 : n0 ≤ h116.size := Nat.le_trans Zs111 E116.1
    have F116_processors : Fld Z h116 b116 "com/example/foreslot/foreslot/Schedule" "processors" "J" (.long (0 : Int64)) := D116 (Or.inr (hw _ (List.mem_of_getElem? (i := 47) rfl))) (ty := .long) (by decide)
    have F116_jobs : Fld Z h116 b116 "com/example/foreslot/foreslot/Schedule" "jobs" "Ljava/util/List;" .null := D116 (Or.inr (hw _ (List.mem_of_getElem? (i := 49) rfl))) (ty := (.object "java/util/List")) (by decide)
    have F116_starts : Fld Z h116 b116 "com/example/foreslot/foreslot/Schedule" "starts" "[J" .null := D116 (Or.inr (hw _ (List.mem_of_getElem? (i := 51) rfl))) (ty := (.array .long)) (by decide)
    have F116_ends : Fld Z h116 b116 "com/example/foreslot/foreslot/Schedule" "ends" "[J" .null := D116 (Or.inr (hw _ (List.mem_of_getElem? (i := 53) rfl))) (ty := (.array .long)) (by decide)
    have F116_stopped : Fld Z h116 b116 "com/example/foreslot/foreslot/Schedule" "stopped" "[Z" .null := D116 (Or.inr (hw _ (List.mem_of_getElem? (i := 55) rfl))) (ty := (.array .boolean)) (by decide)
    have F116_peakInUse : Fld Z h116 b116 "com/example/foreslot/foreslot/Schedule" "peakInUse" "J" (.long (0 : Int64)) := D116 (Or.inr (hw _ (List.mem_of_getElem? (i := 57) rfl))) (ty := .long) (by decide)
    have F116_reservations : Fld Z h116 b116 "com/example/foreslot/foreslot/Schedule" "reservations" "Ljava/util/List;" .null := D116 (Or.inr (hw _ (List.mem_of_getElem? (i := 59) rfl))) (ty := (.object "java/util/List")) (by decide)
    have F116_snapshot : Fld Z h116 b116 "com/example/foreslot/foreslot/Schedule" "snapshot" "Ljava/util/Optional;" .null := D116 (Or.inr (hw _ (List.mem_of_getElem? (i := 61) rfl))) (ty := (.object "java/util/Optional")) (by decide)
    have f119 := (f114.ext E116)
    have f120 := (f115.ext E116)
    have f121 := (V110.ext E116)
    obtain ⟨T122, h122, X122, e122, E122, A122, D122, -, st122⟩ := newO X116 hx hZ hown (hw _ (List.mem_of_getElem? (i := 16) rfl)) (hw _ (List.mem_of_getElem? (i := 17) rfl)) (hw _ (List.mem_of_getElem? (i := 18) rfl)) e116 (g := (mkF m 341 #[.val (.int vf), .val (.int vr), .val (.int vm), .val (.long qk), .second, .val (.long qp), .second, .val (.int (0 : Int32)), .val (.ref b4), .val (.ref b6), .val (.ref b10), .val (.long (ex.toInt64)), .second, .unset, .unset, .unset, .unset, .unset] [(.long qp), (.ref b116), (.ref b116)])) rfl (hb hby at_341) (by decide) (by decide)
    obtain ⟨b122, g122⟩ : ∃ z, z = h116.size := ⟨_, rfl⟩
    have ne_b4_b122 : b4 ≠ b122 := Nat.ne_of_lt (Nat.lt_of_lt_of_le f119.lt (Nat.le_of_eq g122.symm))
    have ne_b6_b122 : b6 ≠ b122 := Nat.ne_of_lt (Nat.lt_of_lt_of_le f120.lt (Nat.le_of_eq g122.symm))
    have ne_b10_b122 : b10 ≠ b122 := Nat.ne_of_lt (Nat.lt_of_lt_of_le f121.lt (Nat.le_of_eq g122.symm))
    have ne_b116_b122 : b116 ≠ b122 := Nat.ne_of_lt (Nat.lt_of_lt_of_le A116.lt (Nat.le_of_eq g122.symm))
    have g_b122 : n0 ≤ b122 := Nat.le_trans Zs118 (Nat.le_of_eq g122.symm)
    have f123 := (f117.ext E116)
    have sz_b122 : h0.size ≤ b122 := Nat.le_trans f123.1 (Nat.le_of_eq g122.symm)
    rw [← g122] at A122 D122 st122
    have Zs124 : n0 ≤ h122.size := Nat.le_trans Zs118 E122.1
    have F122_modCount : Fld Z h122 b122 "java/util/AbstractList" "modCount" "I" (.int (0 : Int32)) := D122 (Or.inl (hw _ (List.mem_of_getElem? (i := 38) rfl))) (ty := .int) (by decide)
    have F122_elementData : Fld Z h122 b122 "java/util/ArrayList" "elementData" "[Ljava/lang/Object;" .null := D122 (Or.inl (hw _ (List.mem_of_getElem? (i := 41) rfl))) (ty := (.array (.object "java/lang/Object"))) (by decide)
    have f126 := (((((((((((((((((((((((((((((O0.ext E4).ext E6).ext E10).wr W16 g_b4).wr W20 g_b4).wr W24 g_b4).wr W28 g_b4).wr W32 g_b4).wr W36 g_b4).wr W40 g_b4).wr W44 g_b4).wr W49 g_b6).wr W53 g_b6).wr W57 g_b6).wr W61 g_b6).wr W65 g_b6).wr W69 g_b6).wr W73 g_b6).wr W77 g_b6).wr W82 g_b10).wr W86 g_b10).wr W90 g_b10).wr W94 g_b10).wr W98 g_b10).wr W102 g_b10).wr W106 g_b10).wr W110 g_b10).ext E116).ext E122)
    have sd127 := Sd.ext ⟨by have q1 := f126.1; have q2 := f126.2.1; omega, f126.2.2⟩
    obtain ⟨_, _, ⟨T125, L125, k125, n125⟩, -, X125, ⟨Lc125, hQ125, l125, y125, z125⟩, st125⟩ := X122.specialBack hx (y := (⟨"java/util/ArrayList", "<init>", "()V"⟩ : MethodName)) rfl hown (mvT hZ (hw _ (List.mem_of_getElem? (i := 19) rfl))) (mvT hZ (hw _ (List.mem_of_getElem? (i := 20) rfl))) (mvT hZ (hw _ (List.mem_of_getElem? (i := 21) rfl))) (by decide) (backOf (W := 5) (rm4 l Z a0 hw [] b122 wd h122 n0 Zs124 A122 F122_modCount F122_elementData g_b122 sd127) hZ (hw _ (List.mem_of_getElem? (i := 21) rfl)) (hw _ (List.mem_of_getElem? (i := 18) rfl)) (by decide) (by decide)) (g := (mkF m 345 #[.val (.int vf), .val (.int vr), .val (.int vm), .val (.long qk), .second, .val (.long qp), .second, .val (.int (0 : Int32)), .val (.ref b4), .val (.ref b6), .val (.ref b10), .val (.long (ex.toInt64)), .second, .unset, .unset, .unset, .unset, .unset] [(.ref b122), (.ref b122), (.long qp), (.ref b116), (.ref b116)])) rfl (by rw [hml]; rfl) (Steps.refl _) (a := b122) (argsL := []) (rest := [(.ref b122), (.long qp), (.ref b116), (.ref b116)]) (lenOf pd_1 rfl) rfl (by show 2 * 0 + _ ≤ _; exact Nat.le_of_eq rfl) (hb hby at_345) (fun _ _ => ⟨rfl, e122, (by decide : 5 + 0 ≤ _), (by decide : 35 + 0 ≤ _)⟩)
    dsimp only [Pt.U, Pt.locs, Pt.cells, Pt.slots] at X125 l125 y125 z125 st125 hQ125
    rw [l125, y125, z125] at X125
    obtain ⟨rfl, N125q, K125⟩ := hQ125
    have N125 := Fr.app N110 N125q
    have Zs128 : n0 ≤ T125.heap.size := Nat.le_trans Zs124 K125.1
    have f129 := ((f119.ext E122).keep K125 (ninS ne_b4_b122 nin0))
    have f130 := ((f120.ext E122).keep K125 (ninS ne_b6_b122 nin0))
    have f131 := ((f121.ext E122).keep K125 (ninS ne_b10_b122 nin0))
    have f132 := ((A116.ext E122).keep K125)
    have f133 := (A122.keep K125)
    obtain ⟨T134, h134, X134, e134, E134, A134, D134, -, st134⟩ := newO X125 hx hZ hown (hw _ (List.mem_of_getElem? (i := 16) rfl)) (hw _ (List.mem_of_getElem? (i := 17) rfl)) (hw _ (List.mem_of_getElem? (i := 18) rfl)) rfl (g := (mkF m 355 #[.val (.int vf), .val (.int vr), .val (.int vm), .val (.long qk), .second, .val (.long qp), .second, .val (.int (0 : Int32)), .val (.ref b4), .val (.ref b6), .val (.ref b10), .val (.long (ex.toInt64)), .second, .unset, .unset, .unset, .unset, .unset] [(.long qk), (.ref b4), (.ref b10), (.ref b6), (.ref b122), (.long qp), (.ref b116), (.ref b116)])) rfl (hb hby at_355) (by decide) (by decide)
    obtain ⟨b134, g134⟩ : ∃ z, z = T125.heap.size := ⟨_, rfl⟩
    have ne_b4_b134 : b4 ≠ b134 := Nat.ne_of_lt (Nat.lt_of_lt_of_le f129.lt (Nat.le_of_eq g134.symm))
    have ne_b6_b134 : b6 ≠ b134 := Nat.ne_of_lt (Nat.lt_of_lt_of_le f130.lt (Nat.le_of_eq g134.symm))
    have ne_b10_b134 : b10 ≠ b134 := Nat.ne_of_lt (Nat.lt_of_lt_of_le f131.lt (Nat.le_of_eq g134.symm))
    have ne_b116_b134 : b116 ≠ b134 := Nat.ne_of_lt (Nat.lt_of_lt_of_le f132.lt (Nat.le_of_eq g134.symm))
    have ne_b122_b134 : b122 ≠ b134 := Nat.ne_of_lt (Nat.lt_of_lt_of_le f133.lt (Nat.le_of_eq g134.symm))
    have g_b134 : n0 ≤ b134 := Nat.le_trans Zs128 (Nat.le_of_eq g134.symm)
    have f135 := ((f123.ext E122).trans K125 (allS (P := fun x => x ∈ [] ∨ h0.size ≤ x) (Or.inr sz_b122) all0))
    have sz_b134 : h0.size ≤ b134 := Nat.le_trans f135.1 (Nat.le_of_eq g134.symm)
    rw [← g134] at A134 D134 st134
    have Zs136 : n0 ≤ h134.size := Nat.le_trans Zs128 E134.1
    have F134_modCount : Fld Z h134 b134 "java/util/AbstractList" "modCount" "I" (.int (0 : Int32)) := D134 (Or.inl (hw _ (List.mem_of_getElem? (i := 38) rfl))) (ty := .int) (by decide)
    have F134_elementData : Fld Z h134 b134 "java/util/ArrayList" "elementData" "[Ljava/lang/Object;" .null := D134 (Or.inl (hw _ (List.mem_of_getElem? (i := 41) rfl))) (ty := (.array (.object "java/lang/Object"))) (by decide)
    have f138 := ((f126.keep K125 (allS g_b122 all0)).ext E134)
    have sd139 := Sd.ext ⟨by have q1 := f138.1; have q2 := f138.2.1; omega, f138.2.2⟩
    obtain ⟨_, _, ⟨T137, L137, k137, n137⟩, -, X137, ⟨Lc137, hQ137, l137, y137, z137⟩, st137⟩ := X134.specialBack hx (y := (⟨"java/util/ArrayList", "<init>", "()V"⟩ : MethodName)) rfl hown (mvT hZ (hw _ (List.mem_of_getElem? (i := 19) rfl))) (mvT hZ (hw _ (List.mem_of_getElem? (i := 20) rfl))) (mvT hZ (hw _ (List.mem_of_getElem? (i := 21) rfl))) (by decide) (backOf (W := 11) (rm4 l Z a0 hw [] b134 wd h134 n0 Zs136 A134 F134_modCount F134_elementData g_b134 sd139) hZ (hw _ (List.mem_of_getElem? (i := 21) rfl)) (hw _ (List.mem_of_getElem? (i := 18) rfl)) (by decide) (by decide)) (g := (mkF m 359 #[.val (.int vf), .val (.int vr), .val (.int vm), .val (.long qk), .second, .val (.long qp), .second, .val (.int (0 : Int32)), .val (.ref b4), .val (.ref b6), .val (.ref b10), .val (.long (ex.toInt64)), .second, .unset, .unset, .unset, .unset, .unset] [(.ref b134), (.ref b134), (.long qk), (.ref b4), (.ref b10), (.ref b6), (.ref b122), (.long qp), (.ref b116), (.ref b116)])) rfl (by rw [hml]; rfl) (Steps.refl _) (a := b134) (argsL := []) (rest := [(.ref b134), (.long qk), (.ref b4), (.ref b10), (.ref b6), (.ref b122), (.long qp), (.ref b116), (.ref b116)]) (lenOf pd_1 rfl) rfl (by show 2 * 0 + _ ≤ _; exact Nat.le_of_eq rfl) (hb hby at_359) (fun _ _ => ⟨rfl, e134, (by decide : 6 + 0 ≤ _), (by decide : 38 + 0 ≤ _)⟩)
    dsimp only [Pt.U, Pt.locs, Pt.cells, Pt.slots] at X137 l137 y137 z137 st137 hQ137
    rw [l137, y137, z137] at X137
    obtain ⟨rfl, N137q, K137⟩ := hQ137
    have N137 := Fr.app N125 N137q
    have Zs140 : n0 ≤ T137.heap.size := Nat.le_trans Zs136 K137.1
    have f142 := ((f132.ext E134).keep K137)
    have f143 := ((((F116_processors.ext E122).keep K125 (ninS ne_b116_b122 nin0)).ext E134).keep K137 (ninS ne_b116_b134 nin0))
    have f144 := ((((F116_jobs.ext E122).keep K125 (ninS ne_b116_b122 nin0)).ext E134).keep K137 (ninS ne_b116_b134 nin0))
    have f145 := ((((F116_starts.ext E122).keep K125 (ninS ne_b116_b122 nin0)).ext E134).keep K137 (ninS ne_b116_b134 nin0))
    have f146 := ((((F116_ends.ext E122).keep K125 (ninS ne_b116_b122 nin0)).ext E134).keep K137 (ninS ne_b116_b134 nin0))
    have f147 := ((((F116_stopped.ext E122).keep K125 (ninS ne_b116_b122 nin0)).ext E134).keep K137 (ninS ne_b116_b134 nin0))
    have f148 := ((((F116_peakInUse.ext E122).keep K125 (ninS ne_b116_b122 nin0)).ext E134).keep K137 (ninS ne_b116_b134 nin0))
    have f149 := ((((F116_reservations.ext E122).keep K125 (ninS ne_b116_b122 nin0)).ext E134).keep K137 (ninS ne_b116_b134 nin0))
    have f150 := ((((F116_snapshot.ext E122).keep K125 (ninS ne_b116_b122 nin0)).ext E134).keep K137 (ninS ne_b116_b134 nin0))
    obtain ⟨_, _, ⟨T141, L141, k141, n141⟩, -, X141, ⟨Lc141, hQ141, l141, y141, z141⟩, st141⟩ := X137.specialBack hx (y := (⟨"com/example/foreslot/foreslot/Schedule", "<init>", "(JLjava/util/List;[J[J[ZJLjava/util/List;Ljava/util/Optional;)V"⟩ : MethodName)) rfl hown (mvT hZ (hw _ (List.mem_of_getElem? (i := 42) rfl))) (mvT hZ (hw _ (List.mem_of_getElem? (i := 43) rfl))) (mvT hZ (hw _ (List.mem_of_getElem? (i := 44) rfl))) (by decide) (backOf (W := 1) (rm8 l Z a0 hw [] b116 qp b122 b6 b10 b4 qk b134 T137.heap n0 Zs140 f142 f143 f144 f145 f146 f147 f148 f149 f150 g_b116) hZ (hw _ (List.mem_of_getElem? (i := 44) rfl)) (hw _ (List.mem_of_getElem? (i := 15) rfl)) (by decide) (by decide)) (g := (mkF m 363 #[.val (.int vf), .val (.int vr), .val (.int vm), .val (.long qk), .second, .val (.long qp), .second, .val (.int (0 : Int32)), .val (.ref b4), .val (.ref b6), .val (.ref b10), .val (.long (ex.toInt64)), .second, .unset, .unset, .unset, .unset, .unset] [.null, (.ref b134), (.long qk), (.ref b4), (.ref b10), (.ref b6), (.ref b122), (.long qp), (.ref b116), (.ref b116)])) rfl (by rw [hml]; rfl) (Steps.refl _) (a := b116) (argsL := [(.long qp), (.ref b122), (.ref b6), (.ref b10), (.ref b4), (.long qk), (.ref b134), .null]) (rest := [(.ref b116)]) (lenOf pd_3 rfl) rfl (by show 2 * 0 + _ ≤ _; exact Nat.le_of_eq rfl) (hb hby at_363) (fun _ _ => ⟨rfl, rfl, (by decide : 6 + 0 ≤ _), (by decide : 38 + 0 ≤ _)⟩)
    dsimp only [Pt.U, Pt.locs, Pt.cells, Pt.slots] at X141 l141 y141 z141 st141 hQ141
    rw [l141, y141, z141] at X141
    obtain ⟨rfl, N141q, K141, A141, Fs141⟩ := hQ141
    have N141 := Fr.app N137 N141q
    have Zs151 : n0 ≤ T141.heap.size := Nat.le_trans Zs140 K141.1
    have f153 := (((f129.ext E134).keep K137 (ninS ne_b4_b134 nin0)).keep K141 (ninS ne_b4_b116 nin0))
    obtain ⟨cq152, kq152, q152a, q152b, q152c⟩ := isOf hZ rfl A141
    obtain ⟨_, _, ⟨T152, L152, k152, n152⟩, -, X152, ⟨Lc152, hQ152, l152, y152, z152⟩, st152⟩ := X141.virtualBack hx (y := (⟨"com/example/foreslot/foreslot/Schedule", "stopped", "()J"⟩ : MethodName)) (z := (⟨"com/example/foreslot/foreslot/Schedule", "stopped", "()J"⟩ : MethodName)) hown (mvT hZ (hw _ (List.mem_of_getElem? (i := 62) rfl))) (mvT hZ (hw _ (List.mem_of_getElem? (i := 63) rfl))) (notFace_of_selects (args := #[]) (mvT hZ (hw _ (List.mem_of_getElem? (i := 65) rfl)))) (mvT hZ (hw _ (List.mem_of_getElem? (i := 65) rfl))) (mvT hZ (hw _ (List.mem_of_getElem? (i := 64) rfl))) (by decide) (backOf (W := 0) (rm_s8 l Z a0 hw [] b116 b4 k4 (nar .boolean r0) (nar .boolean r1) (nar .boolean r2) (nar .boolean r3) (nar .boolean r4) (nar .boolean r5) (nar .boolean r6) (nar .boolean r7) T141.heap n0 Zs151 Fs141 f153 (by rw [own_nar01 b01_0]; exact b01_0) (by rw [own_nar01 b01_1]; exact b01_1) (by rw [own_nar01 b01_2]; exact b01_2) (by rw [own_nar01 b01_3]; exact b01_3) (by rw [own_nar01 b01_4]; exact b01_4) (by rw [own_nar01 b01_5]; exact b01_5) (by rw [own_nar01 b01_6]; exact b01_6) (by rw [own_nar01 b01_7]; exact b01_7)) hZ (hw _ (List.mem_of_getElem? (i := 66) rfl)) (hw _ (List.mem_of_getElem? (i := 15) rfl)) (by decide) (by decide)) q152a q152c (g := (mkF m 370 #[.val (.int vf), .val (.int vr), .val (.int vm), .val (.long qk), .second, .val (.long qp), .second, .val (.int (0 : Int32)), .val (.ref b4), .val (.ref b6), .val (.ref b10), .val (.long (ex.toInt64)), .second, .val (.ref b116), .unset, .unset, .unset, .unset] [(.ref b116)])) rfl (by rw [hml]; rfl) (Steps.refl _) (argsL := []) (rest := []) (lenOf pd_4 rfl) rfl (by show 2 * 0 + _ ≤ _; exact Nat.le_of_eq rfl) (hb hby at_370) (fun _ _ => ⟨rfl, rfl, (by decide : 6 + 0 ≤ _), (by decide : 38 + 0 ≤ _)⟩)
    dsimp only [Pt.U, Pt.locs, Pt.cells, Pt.slots] at X152 l152 y152 z152 st152 hQ152
    rw [l152, y152, z152] at X152
    obtain ⟨sum370, rfl, hsum370, N152q, e152⟩ := hQ152
    have N152 := Fr.app N141 N152q
    have isum370 : sum370.toInt = 0 + r0.toInt + r1.toInt + r2.toInt + r3.toInt + r4.toInt + r5.toInt + r6.toInt + r7.toInt := by rw [hsum370, own_nar01 b01_0, own_nar01 b01_1, own_nar01 b01_2, own_nar01 b01_3, own_nar01 b01_4, own_nar01 b01_5, own_nar01 b01_6, own_nar01 b01_7]
    obtain ⟨cq154, kq154, q154a, q154b, q154c⟩ := isOf hZ e152 A141
    obtain ⟨_, _, ⟨T154, L154, k154, n154⟩, -, X154, ⟨Lc154, hQ154, l154, y154, z154⟩, st154⟩ := X152.virtualBack hx (y := (⟨"com/example/foreslot/foreslot/Schedule", "stopped", "()J"⟩ : MethodName)) (z := (⟨"com/example/foreslot/foreslot/Schedule", "stopped", "()J"⟩ : MethodName)) hown (mvT hZ (hw _ (List.mem_of_getElem? (i := 62) rfl))) (mvT hZ (hw _ (List.mem_of_getElem? (i := 63) rfl))) (notFace_of_selects (args := #[]) (mvT hZ (hw _ (List.mem_of_getElem? (i := 65) rfl)))) (mvT hZ (hw _ (List.mem_of_getElem? (i := 65) rfl))) (mvT hZ (hw _ (List.mem_of_getElem? (i := 64) rfl))) (by decide) (backOf (W := 0) (rm_s8 l Z a0 hw [] b116 b4 k4 (nar .boolean r0) (nar .boolean r1) (nar .boolean r2) (nar .boolean r3) (nar .boolean r4) (nar .boolean r5) (nar .boolean r6) (nar .boolean r7) T141.heap n0 Zs151 Fs141 f153 (by rw [own_nar01 b01_0]; exact b01_0) (by rw [own_nar01 b01_1]; exact b01_1) (by rw [own_nar01 b01_2]; exact b01_2) (by rw [own_nar01 b01_3]; exact b01_3) (by rw [own_nar01 b01_4]; exact b01_4) (by rw [own_nar01 b01_5]; exact b01_5) (by rw [own_nar01 b01_6]; exact b01_6) (by rw [own_nar01 b01_7]; exact b01_7)) hZ (hw _ (List.mem_of_getElem? (i := 66) rfl)) (hw _ (List.mem_of_getElem? (i := 15) rfl)) (by decide) (by decide)) q154a q154c (g := (mkF m 377 #[.val (.int vf), .val (.int vr), .val (.int vm), .val (.long qk), .second, .val (.long qp), .second, .val (.int (0 : Int32)), .val (.ref b4), .val (.ref b6), .val (.ref b10), .val (.long (ex.toInt64)), .second, .val (.ref b116), .val (.long sum370), .second, .unset, .unset] [(.ref b116)])) rfl (by rw [hml]; rfl) (Steps.refl _) (argsL := []) (rest := []) (lenOf pd_4 rfl) rfl (by show 2 * 0 + _ ≤ _; exact Nat.le_of_eq rfl) (hb hby at_377) (fun _ _ => ⟨rfl, e152, (by decide : 6 + 0 ≤ _), (by decide : 38 + 0 ≤ _)⟩)
    dsimp only [Pt.U, Pt.locs, Pt.cells, Pt.slots] at X154 l154 y154 z154 st154 hQ154
    rw [l154, y154, z154] at X154
    obtain ⟨sum377, rfl, hsum377, N154q, e154⟩ := hQ154
    have N154 := Fr.app N152 N154q
    have isum377 : sum377.toInt = 0 + r0.toInt + r1.toInt + r2.toInt + r3.toInt + r4.toInt + r5.toInt + r6.toInt + r7.toInt := by rw [hsum377, own_nar01 b01_0, own_nar01 b01_1, own_nar01 b01_2, own_nar01 b01_3, own_nar01 b01_4, own_nar01 b01_5, own_nar01 b01_6, own_nar01 b01_7]
    have hc387_155 : sum370.toInt = (ex.toInt64).toInt := by have := rng64 sum370; have := rng32 ex; have := c_i2l ex; omega
    have hc395_156 : sum377.toInt = (ex.toInt64).toInt := by have := rng64 sum377; have := rng32 ex; have := c_i2l ex; omega
    obtain ⟨fs, hr, hrun, hended, hW, hsame⟩ := X154.leave (v := some (.int (1 : Int32))) (fun h => by rw [Bd.returns] at h; cases h)
    refine ⟨_, _, pre113 _ ?_, hrun, hended, _, _, rfl, ?_, ⟨_, rfl⟩, hW, hsame.mono (by decide) (by decide)⟩
    · refine XS.i2l X110.here hx rfl (hb hby at_332) rfl ?_
      refine XS.lstore X110.here hx rfl (hb hby at_333) rfl (l' := #[.val (.int vf), .val (.int vr), .val (.int vm), .val (.long qk), .second, .val (.long qp), .second, .val (.int (0 : Int32)), .val (.ref b4), .val (.ref b6), .val (.ref b10), .val (.long (ex.toInt64)), .second, .unset, .unset, .unset, .unset, .unset]) rfl ?_
      show Steps p.tables e below (T110.setTop (mkF m 335 #[.val (.int vf), .val (.int vr), .val (.int vm), .val (.long qk), .second, .val (.long qp), .second, .val (.int (0 : Int32)), .val (.ref b4), .val (.ref b6), .val (.ref b10), .val (.long (ex.toInt64)), .second, .unset, .unset, .unset, .unset, .unset] [])) _
      refine st116 _ ?_
      refine XS.dup X116.here hx rfl (hb hby at_338) rfl rfl ?_
      refine XS.lload X116.here hx rfl (hb hby at_339) rfl ?_
      refine st122 _ ?_
      refine XS.dup X122.here hx rfl (hb hby at_344) rfl rfl ?_
      show Steps p.tables e below (T122.setTop (mkF m 345 #[.val (.int vf), .val (.int vr), .val (.int vm), .val (.long qk), .second, .val (.long qp), .second, .val (.int (0 : Int32)), .val (.ref b4), .val (.ref b6), .val (.ref b10), .val (.long (ex.toInt64)), .second, .unset, .unset, .unset, .unset, .unset] [(.ref b122), (.ref b122), (.long qp), (.ref b116), (.ref b116)])) _
      refine st125.trans ?_
      refine XS.aload X125.here hx rfl (hb hby at_348) rfl rfl ?_
      refine XS.aload X125.here hx rfl (hb hby at_350) rfl rfl ?_
      refine XS.aload X125.here hx rfl (hb hby at_352) rfl rfl ?_
      refine XS.lloadN X125.here hx rfl (hb hby at_354) rfl ?_
      show Steps p.tables e below (T125.setTop (mkF m 355 #[.val (.int vf), .val (.int vr), .val (.int vm), .val (.long qk), .second, .val (.long qp), .second, .val (.int (0 : Int32)), .val (.ref b4), .val (.ref b6), .val (.ref b10), .val (.long (ex.toInt64)), .second, .unset, .unset, .unset, .unset, .unset] [(.long qk), (.ref b4), (.ref b10), (.ref b6), (.ref b122), (.long qp), (.ref b116), (.ref b116)])) _
      refine st134 _ ?_
      refine XS.dup X134.here hx rfl (hb hby at_358) rfl rfl ?_
      refine st137.trans ?_
      refine XS.aconstNull X137.here hx rfl (hb hby at_362) ?_
      refine st141.trans ?_
      show Steps p.tables e below (T141.setTop (mkF m 366 #[.val (.int vf), .val (.int vr), .val (.int vm), .val (.long qk), .second, .val (.long qp), .second, .val (.int (0 : Int32)), .val (.ref b4), .val (.ref b6), .val (.ref b10), .val (.long (ex.toInt64)), .second, .unset, .unset, .unset, .unset, .unset] [(.ref b116)])) _
      refine XS.astore X141.here hx rfl (hb hby at_366) rfl rfl (l' := #[.val (.int vf), .val (.int vr), .val (.int vm), .val (.long qk), .second, .val (.long qp), .second, .val (.int (0 : Int32)), .val (.ref b4), .val (.ref b6), .val (.ref b10), .val (.long (ex.toInt64)), .second, .val (.ref b116), .unset, .unset, .unset, .unset]) rfl ?_
      refine XS.aload X141.here hx rfl (hb hby at_368) rfl rfl ?_
      refine st152.trans ?_
      refine XS.lstore X152.here hx rfl (hb hby at_373) rfl (l' := #[.val (.int vf), .val (.int vr), .val (.int vm), .val (.long qk), .second, .val (.long qp), .second, .val (.int (0 : Int32)), .val (.ref b4), .val (.ref b6), .val (.ref b10), .val (.long (ex.toInt64)), .second, .val (.ref b116), .val (.long sum370), .second, .unset, .unset]) rfl ?_
      refine XS.aload X152.here hx rfl (hb hby at_375) rfl rfl ?_
      show Steps p.tables e below (T152.setTop (mkF m 377 #[.val (.int vf), .val (.int vr), .val (.int vm), .val (.long qk), .second, .val (.long qp), .second, .val (.int (0 : Int32)), .val (.ref b4), .val (.ref b6), .val (.ref b10), .val (.long (ex.toInt64)), .second, .val (.ref b116), .val (.long sum370), .second, .unset, .unset] [(.ref b116)])) _
      refine st154.trans ?_
      refine XS.lstore X154.here hx rfl (hb hby at_380) rfl (l' := #[.val (.int vf), .val (.int vr), .val (.int vm), .val (.long qk), .second, .val (.long qp), .second, .val (.int (0 : Int32)), .val (.ref b4), .val (.ref b6), .val (.ref b10), .val (.long (ex.toInt64)), .second, .val (.ref b116), .val (.long sum370), .second, .val (.long sum377), .second]) rfl ?_
      refine XS.lload X154.here hx rfl (hb hby at_382) rfl ?_
      refine XS.lload X154.here hx rfl (hb hby at_384) rfl ?_
      refine XS.lcmp X154.here hx rfl (hb hby at_386) rfl ?_
      show Steps p.tables e below (T154.setTop (mkF m 387 #[.val (.int vf), .val (.int vr), .val (.int vm), .val (.long qk), .second, .val (.long qp), .second, .val (.int (0 : Int32)), .val (.ref b4), .val (.ref b6), .val (.ref b10), .val (.long (ex.toInt64)), .second, .val (.ref b116), .val (.long sum370), .second, .val (.long sum377), .second] [(.int (lcmpW sum370 (ex.toInt64)))])) _
      refine XS.ifNo X154.here hx rfl (hb hby at_387) rfl (own_if (own_teqL (x := sum370) (y := (ex.toInt64)) rfl rfl hc387_155).2) ?_
      refine XS.lload X154.here hx rfl (hb hby at_390) rfl ?_
      refine XS.lload X154.here hx rfl (hb hby at_392) rfl ?_
      refine XS.lcmp X154.here hx rfl (hb hby at_394) rfl ?_
      refine XS.ifNo X154.here hx rfl (hb hby at_395) rfl (own_if (own_teqL (x := sum377) (y := (ex.toInt64)) rfl rfl hc395_156).2) ?_
      show Steps p.tables e below (T154.setTop (mkF m 398 #[.val (.int vf), .val (.int vr), .val (.int vm), .val (.long qk), .second, .val (.long qp), .second, .val (.int (0 : Int32)), .val (.ref b4), .val (.ref b6), .val (.ref b10), .val (.long (ex.toInt64)), .second, .val (.ref b116), .val (.long sum370), .second, .val (.long sum377), .second] [])) _
      refine XS.iconst X154.here hx rfl (hb hby at_398) ?_
      refine XS.goto X154.here hx rfl (pc0 := 399) (pc' := 403) rfl (hb hby at_399) (by decide) (by decide) ?_
      exact retN X154 hx (t := .boolean) Bd.returns (by simp) (hb hby at_403) hr
    · show Q0 Z vf vr vm qk qp wd h0 n0 _ T154.heap _
      rw [e154]
      exact ⟨rfl, N154⟩
  · have hc15_157 : ¬ ((1 : Int) = (0 : Int)) := by decide
    obtain ⟨T158, h158, k158, X158, e158, E158, A158, st158⟩ := newP X0 hx hZ (hw _ (List.mem_of_getElem? (i := 0) rfl)) e0 (g := (mkF m 19 #[.val (.int vf), .val (.int vr), .val (.int vm), .val (.long qk), .second, .val (.long qp), .second, .val (.int (1 : Int32)), .unset, .unset, .unset, .unset, .unset, .unset, .unset, .unset, .unset, .unset] [(.int (0 : Int32))])) rfl (hb hby at_19) rfl (by decide) (cap := 0) (by decide) (by decide) (by decide) (by decide)
    obtain ⟨b158, g158⟩ : ∃ z, z = h0.size := ⟨_, rfl⟩
    have g_b158 : n0 ≤ b158 := Nat.le_trans Z0 (Nat.le_of_eq g158.symm)
    have sz_b158 : h0.size ≤ b158 := Nat.le_trans (Keep.refl h0 []).1 (Nat.le_of_eq g158.symm)
    rw [← g158] at A158 st158
    have Zs159 : n0 ≤ h158.size := Nat.le_trans Z0 E158.1
    have V158 : Arv Z h158 b158 k158 .boolean (0 : Int32) [] (.int (0 : Int32)) := (Arv.new A158 (by decide)).pad (pad_rep [] (.int (0 : Int32)) 0)
    obtain ⟨T160, h160, k160, X160, e160, E160, A160, st160⟩ := newP X158 hx hZ (hw _ (List.mem_of_getElem? (i := 1) rfl)) e158 (g := (mkF m 24 #[.val (.int vf), .val (.int vr), .val (.int vm), .val (.long qk), .second, .val (.long qp), .second, .val (.int (1 : Int32)), .val (.ref b158), .unset, .unset, .unset, .unset, .unset, .unset, .unset, .unset, .unset] [(.int (0 : Int32))])) rfl (hb hby at_24) rfl (by decide) (cap := 0) (by decide) (by decide) (by decide) (by decide)
    obtain ⟨b160, g160⟩ : ∃ z, z = h158.size := ⟨_, rfl⟩
    have ne_b158_b160 : b158 ≠ b160 := Nat.ne_of_lt (Nat.lt_of_lt_of_le V158.lt (Nat.le_of_eq g160.symm))
    have g_b160 : n0 ≤ b160 := Nat.le_trans Zs159 (Nat.le_of_eq g160.symm)
    have f161 := ((Keep.refl h0 []).ext E158)
    have sz_b160 : h0.size ≤ b160 := Nat.le_trans f161.1 (Nat.le_of_eq g160.symm)
    rw [← g160] at A160 st160
    have Zs162 : n0 ≤ h160.size := Nat.le_trans Zs159 E160.1
    have V160 : Arv Z h160 b160 k160 .long (0 : Int32) [] (.long (0 : Int64)) := (Arv.new A160 (by decide)).pad (pad_rep [] (.long (0 : Int64)) 0)
    have f163 := (V158.ext E160)
    obtain ⟨T164, h164, k164, X164, e164, E164, A164, st164⟩ := newP X160 hx hZ (hw _ (List.mem_of_getElem? (i := 1) rfl)) e160 (g := (mkF m 29 #[.val (.int vf), .val (.int vr), .val (.int vm), .val (.long qk), .second, .val (.long qp), .second, .val (.int (1 : Int32)), .val (.ref b158), .val (.ref b160), .unset, .unset, .unset, .unset, .unset, .unset, .unset, .unset] [(.int (0 : Int32))])) rfl (hb hby at_29) rfl (by decide) (cap := 0) (by decide) (by decide) (by decide) (by decide)
    obtain ⟨b164, g164⟩ : ∃ z, z = h160.size := ⟨_, rfl⟩
    have ne_b158_b164 : b158 ≠ b164 := Nat.ne_of_lt (Nat.lt_of_lt_of_le f163.lt (Nat.le_of_eq g164.symm))
    have ne_b160_b164 : b160 ≠ b164 := Nat.ne_of_lt (Nat.lt_of_lt_of_le V160.lt (Nat.le_of_eq g164.symm))
    have g_b164 : n0 ≤ b164 := Nat.le_trans Zs162 (Nat.le_of_eq g164.symm)
    have f165 := (f161.ext E160)
    have sz_b164 : h0.size ≤ b164 := Nat.le_trans f165.1 (Nat.le_of_eq g164.symm)
    rw [← g164] at A164 st164
    have Zs166 : n0 ≤ h164.size := Nat.le_trans Zs162 E164.1
    have V164 : Arv Z h164 b164 k164 .long (0 : Int32) [] (.long (0 : Int64)) := (Arv.new A164 (by decide)).pad (pad_rep [] (.long (0 : Int64)) 0)
    have f167 := (f163.ext E164)
    have f168 := (V160.ext E164)
    obtain ⟨T169, h169, X169, e169, E169, A169, D169, -, st169⟩ := newO X164 hx hZ hown (hw _ (List.mem_of_getElem? (i := 13) rfl)) (hw _ (List.mem_of_getElem? (i := 14) rfl)) (hw _ (List.mem_of_getElem? (i := 15) rfl)) e164 (g := (mkF m 335 #[.val (.int vf), .val (.int vr), .val (.int vm), .val (.long qk), .second, .val (.long qp), .second, .val (.int (1 : Int32)), .val (.ref b158), .val (.ref b160), .val (.ref b164), .val (.long (0 : Int64)), .second, .unset, .unset, .unset, .unset, .unset] [])) rfl (hb hby at_335) (by decide) (by decide)
    obtain ⟨b169, g169⟩ : ∃ z, z = h164.size := ⟨_, rfl⟩
    have ne_b158_b169 : b158 ≠ b169 := Nat.ne_of_lt (Nat.lt_of_lt_of_le f167.lt (Nat.le_of_eq g169.symm))
    have ne_b160_b169 : b160 ≠ b169 := Nat.ne_of_lt (Nat.lt_of_lt_of_le f168.lt (Nat.le_of_eq g169.symm))
    have ne_b164_b169 : b164 ≠ b169 := Nat.ne_of_lt (Nat.lt_of_lt_of_le V164.lt (Nat.le_of_eq g169.symm))
    have g_b169 : n0 ≤ b169 := Nat.le_trans Zs166 (Nat.le_of_eq g169.symm)
    have f170 := (f165.ext E164)
    have sz_b169 : h0.size ≤ b169 := Nat.le_trans f170.1 (Nat.le_of_eq g169.symm)
    rw [← g169] at A169 D169 st169
    have Zs171 : n0 ≤ h169.size := Nat.le_trans Zs166 E169.1
    have F169_processors : Fld Z h169 b169 "com/example/foreslot/foreslot/Schedule" "processors" "J" (.long (0 : Int64)) := D169 (Or.inr (hw _ (List.mem_of_getElem? (i := 47) rfl))) (ty := .long) (by decide)
    have F169_jobs : Fld Z h169 b169 "com/example/foreslot/foreslot/Schedule" "jobs" "Ljava/util/List;" .null := D169 (Or.inr (hw _ (List.mem_of_getElem? (i := 49) rfl))) (ty := (.object "java/util/List")) (by decide)
    have F169_starts : Fld Z h169 b169 "com/example/foreslot/foreslot/Schedule" "starts" "[J" .null := D169 (Or.inr (hw _ (List.mem_of_getElem? (i := 51) rfl))) (ty := (.array .long)) (by decide)
    have F169_ends : Fld Z h169 b169 "com/example/foreslot/foreslot/Schedule" "ends" "[J" .null := D169 (Or.inr (hw _ (List.mem_of_getElem? (i := 53) rfl))) (ty := (.array .long)) (by decide)
    have F169_stopped : Fld Z h169 b169 "com/example/foreslot/foreslot/Schedule" "stopped" "[Z" .null := D169 (Or.inr (hw _ (List.mem_of_getElem? (i := 55) rfl))) (ty := (.array .boolean)) (by decide)
    have F169_peakInUse : Fld Z h169 b169 "com/example/foreslot/foreslot/Schedule" "peakInUse" "J" (.long (0 : Int64)) := D169 (Or.inr (hw _ (List.mem_of_getElem? (i := 57) rfl))) (ty := .long) (by decide)
    have F169_reservations : Fld Z h169 b169 "com/example/foreslot/foreslot/Schedule" "reservations" "Ljava/util/List;" .null := D169 (Or.inr (hw _ (List.mem_of_getElem? (i := 59) rfl))) (ty := (.object "java/util/List")) (by decide)
    have F169_snapshot : Fld Z h169 b169 "com/example/foreslot/foreslot/Schedule" "snapshot" "Ljava/util/Optional;" .null := D169 (Or.inr (hw _ (List.mem_of_getElem? (i := 61) rfl))) (ty := (.object "java/util/Optional")) (by decide)
    have f172 := (f167.ext E169)
    have f173 := (f168.ext E169)
    have f174 := (V164.ext E169)
    obtain ⟨T175, h175, X175, e175, E175, A175, D175, -, st175⟩ := newO X169 hx hZ hown (hw _ (List.mem_of_getElem? (i := 16) rfl)) (hw _ (List.mem_of_getElem? (i := 17) rfl)) (hw _ (List.mem_of_getElem? (i := 18) rfl)) e169 (g := (mkF m 341 #[.val (.int vf), .val (.int vr), .val (.int vm), .val (.long qk), .second, .val (.long qp), .second, .val (.int (1 : Int32)), .val (.ref b158), .val (.ref b160), .val (.ref b164), .val (.long (0 : Int64)), .second, .unset, .unset, .unset, .unset, .unset] [(.long qp), (.ref b169), (.ref b169)])) rfl (hb hby at_341) (by decide) (by decide)
    obtain ⟨b175, g175⟩ : ∃ z, z = h169.size := ⟨_, rfl⟩
    have ne_b158_b175 : b158 ≠ b175 := Nat.ne_of_lt (Nat.lt_of_lt_of_le f172.lt (Nat.le_of_eq g175.symm))
    have ne_b160_b175 : b160 ≠ b175 := Nat.ne_of_lt (Nat.lt_of_lt_of_le f173.lt (Nat.le_of_eq g175.symm))
    have ne_b164_b175 : b164 ≠ b175 := Nat.ne_of_lt (Nat.lt_of_lt_of_le f174.lt (Nat.le_of_eq g175.symm))
    have ne_b169_b175 : b169 ≠ b175 := Nat.ne_of_lt (Nat.lt_of_lt_of_le A169.lt (Nat.le_of_eq g175.symm))
    have g_b175 : n0 ≤ b175 := Nat.le_trans Zs171 (Nat.le_of_eq g175.symm)
    have f176 := (f170.ext E169)
    have sz_b175 : h0.size ≤ b175 := Nat.le_trans f176.1 (Nat.le_of_eq g175.symm)
    rw [← g175] at A175 D175 st175
    have Zs177 : n0 ≤ h175.size := Nat.le_trans Zs171 E175.1
    have F175_modCount : Fld Z h175 b175 "java/util/AbstractList" "modCount" "I" (.int (0 : Int32)) := D175 (Or.inl (hw _ (List.mem_of_getElem? (i := 38) rfl))) (ty := .int) (by decide)
    have F175_elementData : Fld Z h175 b175 "java/util/ArrayList" "elementData" "[Ljava/lang/Object;" .null := D175 (Or.inl (hw _ (List.mem_of_getElem? (i := 41) rfl))) (ty := (.array (.object "java/lang/Object"))) (by decide)
    have f179 := (((((O0.ext E158).ext E160).ext E164).ext E169).ext E175)
    have sd180 := Sd.ext ⟨by have q1 := f179.1; have q2 := f179.2.1; omega, f179.2.2⟩
    obtain ⟨_, _, ⟨T178, L178, k178, n178⟩, -, X178, ⟨Lc178, hQ178, l178, y178, z178⟩, st178⟩ := X175.specialBack hx (y := (⟨"java/util/ArrayList", "<init>", "()V"⟩ : MethodName)) rfl hown (mvT hZ (hw _ (List.mem_of_getElem? (i := 19) rfl))) (mvT hZ (hw _ (List.mem_of_getElem? (i := 20) rfl))) (mvT hZ (hw _ (List.mem_of_getElem? (i := 21) rfl))) (by decide) (backOf (W := 5) (rm4 l Z a0 hw [] b175 wd h175 n0 Zs177 A175 F175_modCount F175_elementData g_b175 sd180) hZ (hw _ (List.mem_of_getElem? (i := 21) rfl)) (hw _ (List.mem_of_getElem? (i := 18) rfl)) (by decide) (by decide)) (g := (mkF m 345 #[.val (.int vf), .val (.int vr), .val (.int vm), .val (.long qk), .second, .val (.long qp), .second, .val (.int (1 : Int32)), .val (.ref b158), .val (.ref b160), .val (.ref b164), .val (.long (0 : Int64)), .second, .unset, .unset, .unset, .unset, .unset] [(.ref b175), (.ref b175), (.long qp), (.ref b169), (.ref b169)])) rfl (by rw [hml]; rfl) (Steps.refl _) (a := b175) (argsL := []) (rest := [(.ref b175), (.long qp), (.ref b169), (.ref b169)]) (lenOf pd_1 rfl) rfl (by show 2 * 0 + _ ≤ _; exact Nat.le_of_eq rfl) (hb hby at_345) (fun _ _ => ⟨rfl, e175, (by decide : 5 + 0 ≤ _), (by decide : 11 + 0 ≤ _)⟩)
    dsimp only [Pt.U, Pt.locs, Pt.cells, Pt.slots] at X178 l178 y178 z178 st178 hQ178
    rw [l178, y178, z178] at X178
    obtain ⟨rfl, N178q, K178⟩ := hQ178
    have N178 := Fr.app N0 N178q
    have Zs181 : n0 ≤ T178.heap.size := Nat.le_trans Zs177 K178.1
    have f182 := ((f172.ext E175).keep K178 (ninS ne_b158_b175 nin0))
    have f183 := ((f173.ext E175).keep K178 (ninS ne_b160_b175 nin0))
    have f184 := ((f174.ext E175).keep K178 (ninS ne_b164_b175 nin0))
    have f185 := ((A169.ext E175).keep K178)
    have f186 := (A175.keep K178)
    obtain ⟨T187, h187, X187, e187, E187, A187, D187, -, st187⟩ := newO X178 hx hZ hown (hw _ (List.mem_of_getElem? (i := 16) rfl)) (hw _ (List.mem_of_getElem? (i := 17) rfl)) (hw _ (List.mem_of_getElem? (i := 18) rfl)) rfl (g := (mkF m 355 #[.val (.int vf), .val (.int vr), .val (.int vm), .val (.long qk), .second, .val (.long qp), .second, .val (.int (1 : Int32)), .val (.ref b158), .val (.ref b160), .val (.ref b164), .val (.long (0 : Int64)), .second, .unset, .unset, .unset, .unset, .unset] [(.long qk), (.ref b158), (.ref b164), (.ref b160), (.ref b175), (.long qp), (.ref b169), (.ref b169)])) rfl (hb hby at_355) (by decide) (by decide)
    obtain ⟨b187, g187⟩ : ∃ z, z = T178.heap.size := ⟨_, rfl⟩
    have ne_b158_b187 : b158 ≠ b187 := Nat.ne_of_lt (Nat.lt_of_lt_of_le f182.lt (Nat.le_of_eq g187.symm))
    have ne_b160_b187 : b160 ≠ b187 := Nat.ne_of_lt (Nat.lt_of_lt_of_le f183.lt (Nat.le_of_eq g187.symm))
    have ne_b164_b187 : b164 ≠ b187 := Nat.ne_of_lt (Nat.lt_of_lt_of_le f184.lt (Nat.le_of_eq g187.symm))
    have ne_b169_b187 : b169 ≠ b187 := Nat.ne_of_lt (Nat.lt_of_lt_of_le f185.lt (Nat.le_of_eq g187.symm))
    have ne_b175_b187 : b175 ≠ b187 := Nat.ne_of_lt (Nat.lt_of_lt_of_le f186.lt (Nat.le_of_eq g187.symm))
    have g_b187 : n0 ≤ b187 := Nat.le_trans Zs181 (Nat.le_of_eq g187.symm)
    have f188 := ((f176.ext E175).trans K178 (allS (P := fun x => x ∈ [] ∨ h0.size ≤ x) (Or.inr sz_b175) all0))
    have sz_b187 : h0.size ≤ b187 := Nat.le_trans f188.1 (Nat.le_of_eq g187.symm)
    rw [← g187] at A187 D187 st187
    have Zs189 : n0 ≤ h187.size := Nat.le_trans Zs181 E187.1
    have F187_modCount : Fld Z h187 b187 "java/util/AbstractList" "modCount" "I" (.int (0 : Int32)) := D187 (Or.inl (hw _ (List.mem_of_getElem? (i := 38) rfl))) (ty := .int) (by decide)
    have F187_elementData : Fld Z h187 b187 "java/util/ArrayList" "elementData" "[Ljava/lang/Object;" .null := D187 (Or.inl (hw _ (List.mem_of_getElem? (i := 41) rfl))) (ty := (.array (.object "java/lang/Object"))) (by decide)
    have f191 := ((f179.keep K178 (allS g_b175 all0)).ext E187)
    have sd192 := Sd.ext ⟨by have q1 := f191.1; have q2 := f191.2.1; omega, f191.2.2⟩
    obtain ⟨_, _, ⟨T190, L190, k190, n190⟩, -, X190, ⟨Lc190, hQ190, l190, y190, z190⟩, st190⟩ := X187.specialBack hx (y := (⟨"java/util/ArrayList", "<init>", "()V"⟩ : MethodName)) rfl hown (mvT hZ (hw _ (List.mem_of_getElem? (i := 19) rfl))) (mvT hZ (hw _ (List.mem_of_getElem? (i := 20) rfl))) (mvT hZ (hw _ (List.mem_of_getElem? (i := 21) rfl))) (by decide) (backOf (W := 11) (rm4 l Z a0 hw [] b187 wd h187 n0 Zs189 A187 F187_modCount F187_elementData g_b187 sd192) hZ (hw _ (List.mem_of_getElem? (i := 21) rfl)) (hw _ (List.mem_of_getElem? (i := 18) rfl)) (by decide) (by decide)) (g := (mkF m 359 #[.val (.int vf), .val (.int vr), .val (.int vm), .val (.long qk), .second, .val (.long qp), .second, .val (.int (1 : Int32)), .val (.ref b158), .val (.ref b160), .val (.ref b164), .val (.long (0 : Int64)), .second, .unset, .unset, .unset, .unset, .unset] [(.ref b187), (.ref b187), (.long qk), (.ref b158), (.ref b164), (.ref b160), (.ref b175), (.long qp), (.ref b169), (.ref b169)])) rfl (by rw [hml]; rfl) (Steps.refl _) (a := b187) (argsL := []) (rest := [(.ref b187), (.long qk), (.ref b158), (.ref b164), (.ref b160), (.ref b175), (.long qp), (.ref b169), (.ref b169)]) (lenOf pd_1 rfl) rfl (by show 2 * 0 + _ ≤ _; exact Nat.le_of_eq rfl) (hb hby at_359) (fun _ _ => ⟨rfl, e187, (by decide : 6 + 0 ≤ _), (by decide : 14 + 0 ≤ _)⟩)
    dsimp only [Pt.U, Pt.locs, Pt.cells, Pt.slots] at X190 l190 y190 z190 st190 hQ190
    rw [l190, y190, z190] at X190
    obtain ⟨rfl, N190q, K190⟩ := hQ190
    have N190 := Fr.app N178 N190q
    have Zs193 : n0 ≤ T190.heap.size := Nat.le_trans Zs189 K190.1
    have f195 := ((f185.ext E187).keep K190)
    have f196 := ((((F169_processors.ext E175).keep K178 (ninS ne_b169_b175 nin0)).ext E187).keep K190 (ninS ne_b169_b187 nin0))
    have f197 := ((((F169_jobs.ext E175).keep K178 (ninS ne_b169_b175 nin0)).ext E187).keep K190 (ninS ne_b169_b187 nin0))
    have f198 := ((((F169_starts.ext E175).keep K178 (ninS ne_b169_b175 nin0)).ext E187).keep K190 (ninS ne_b169_b187 nin0))
    have f199 := ((((F169_ends.ext E175).keep K178 (ninS ne_b169_b175 nin0)).ext E187).keep K190 (ninS ne_b169_b187 nin0))
    have f200 := ((((F169_stopped.ext E175).keep K178 (ninS ne_b169_b175 nin0)).ext E187).keep K190 (ninS ne_b169_b187 nin0))
    have f201 := ((((F169_peakInUse.ext E175).keep K178 (ninS ne_b169_b175 nin0)).ext E187).keep K190 (ninS ne_b169_b187 nin0))
    have f202 := ((((F169_reservations.ext E175).keep K178 (ninS ne_b169_b175 nin0)).ext E187).keep K190 (ninS ne_b169_b187 nin0))
    have f203 := ((((F169_snapshot.ext E175).keep K178 (ninS ne_b169_b175 nin0)).ext E187).keep K190 (ninS ne_b169_b187 nin0))
    obtain ⟨_, _, ⟨T194, L194, k194, n194⟩, -, X194, ⟨Lc194, hQ194, l194, y194, z194⟩, st194⟩ := X190.specialBack hx (y := (⟨"com/example/foreslot/foreslot/Schedule", "<init>", "(JLjava/util/List;[J[J[ZJLjava/util/List;Ljava/util/Optional;)V"⟩ : MethodName)) rfl hown (mvT hZ (hw _ (List.mem_of_getElem? (i := 42) rfl))) (mvT hZ (hw _ (List.mem_of_getElem? (i := 43) rfl))) (mvT hZ (hw _ (List.mem_of_getElem? (i := 44) rfl))) (by decide) (backOf (W := 1) (rm8 l Z a0 hw [] b169 qp b175 b160 b164 b158 qk b187 T190.heap n0 Zs193 f195 f196 f197 f198 f199 f200 f201 f202 f203 g_b169) hZ (hw _ (List.mem_of_getElem? (i := 44) rfl)) (hw _ (List.mem_of_getElem? (i := 15) rfl)) (by decide) (by decide)) (g := (mkF m 363 #[.val (.int vf), .val (.int vr), .val (.int vm), .val (.long qk), .second, .val (.long qp), .second, .val (.int (1 : Int32)), .val (.ref b158), .val (.ref b160), .val (.ref b164), .val (.long (0 : Int64)), .second, .unset, .unset, .unset, .unset, .unset] [.null, (.ref b187), (.long qk), (.ref b158), (.ref b164), (.ref b160), (.ref b175), (.long qp), (.ref b169), (.ref b169)])) rfl (by rw [hml]; rfl) (Steps.refl _) (a := b169) (argsL := [(.long qp), (.ref b175), (.ref b160), (.ref b164), (.ref b158), (.long qk), (.ref b187), .null]) (rest := [(.ref b169)]) (lenOf pd_3 rfl) rfl (by show 2 * 0 + _ ≤ _; exact Nat.le_of_eq rfl) (hb hby at_363) (fun _ _ => ⟨rfl, rfl, (by decide : 6 + 0 ≤ _), (by decide : 14 + 0 ≤ _)⟩)
    dsimp only [Pt.U, Pt.locs, Pt.cells, Pt.slots] at X194 l194 y194 z194 st194 hQ194
    rw [l194, y194, z194] at X194
    obtain ⟨rfl, N194q, K194, A194, Fs194⟩ := hQ194
    have N194 := Fr.app N190 N194q
    have Zs204 : n0 ≤ T194.heap.size := Nat.le_trans Zs193 K194.1
    have f206 := (((f182.ext E187).keep K190 (ninS ne_b158_b187 nin0)).keep K194 (ninS ne_b158_b169 nin0))
    obtain ⟨cq205, kq205, q205a, q205b, q205c⟩ := isOf hZ rfl A194
    obtain ⟨_, _, ⟨T205, L205, k205, n205⟩, -, X205, ⟨Lc205, hQ205, l205, y205, z205⟩, st205⟩ := X194.virtualBack hx (y := (⟨"com/example/foreslot/foreslot/Schedule", "stopped", "()J"⟩ : MethodName)) (z := (⟨"com/example/foreslot/foreslot/Schedule", "stopped", "()J"⟩ : MethodName)) hown (mvT hZ (hw _ (List.mem_of_getElem? (i := 62) rfl))) (mvT hZ (hw _ (List.mem_of_getElem? (i := 63) rfl))) (notFace_of_selects (args := #[]) (mvT hZ (hw _ (List.mem_of_getElem? (i := 65) rfl)))) (mvT hZ (hw _ (List.mem_of_getElem? (i := 65) rfl))) (mvT hZ (hw _ (List.mem_of_getElem? (i := 64) rfl))) (by decide) (backOf (W := 0) (rm_s0 l Z a0 hw [] b169 b158 k158 T194.heap n0 Zs204 Fs194 f206) hZ (hw _ (List.mem_of_getElem? (i := 66) rfl)) (hw _ (List.mem_of_getElem? (i := 15) rfl)) (by decide) (by decide)) q205a q205c (g := (mkF m 370 #[.val (.int vf), .val (.int vr), .val (.int vm), .val (.long qk), .second, .val (.long qp), .second, .val (.int (1 : Int32)), .val (.ref b158), .val (.ref b160), .val (.ref b164), .val (.long (0 : Int64)), .second, .val (.ref b169), .unset, .unset, .unset, .unset] [(.ref b169)])) rfl (by rw [hml]; rfl) (Steps.refl _) (argsL := []) (rest := []) (lenOf pd_4 rfl) rfl (by show 2 * 0 + _ ≤ _; exact Nat.le_of_eq rfl) (hb hby at_370) (fun _ _ => ⟨rfl, rfl, (by decide : 6 + 0 ≤ _), (by decide : 14 + 0 ≤ _)⟩)
    dsimp only [Pt.U, Pt.locs, Pt.cells, Pt.slots] at X205 l205 y205 z205 st205 hQ205
    rw [l205, y205, z205] at X205
    obtain ⟨sum370, rfl, hsum370, N205q, e205⟩ := hQ205
    have N205 := Fr.app N194 N205q
    have isum370 : sum370.toInt = 0 := by rw [hsum370]
    obtain ⟨cq207, kq207, q207a, q207b, q207c⟩ := isOf hZ e205 A194
    obtain ⟨_, _, ⟨T207, L207, k207, n207⟩, -, X207, ⟨Lc207, hQ207, l207, y207, z207⟩, st207⟩ := X205.virtualBack hx (y := (⟨"com/example/foreslot/foreslot/Schedule", "stopped", "()J"⟩ : MethodName)) (z := (⟨"com/example/foreslot/foreslot/Schedule", "stopped", "()J"⟩ : MethodName)) hown (mvT hZ (hw _ (List.mem_of_getElem? (i := 62) rfl))) (mvT hZ (hw _ (List.mem_of_getElem? (i := 63) rfl))) (notFace_of_selects (args := #[]) (mvT hZ (hw _ (List.mem_of_getElem? (i := 65) rfl)))) (mvT hZ (hw _ (List.mem_of_getElem? (i := 65) rfl))) (mvT hZ (hw _ (List.mem_of_getElem? (i := 64) rfl))) (by decide) (backOf (W := 0) (rm_s0 l Z a0 hw [] b169 b158 k158 T194.heap n0 Zs204 Fs194 f206) hZ (hw _ (List.mem_of_getElem? (i := 66) rfl)) (hw _ (List.mem_of_getElem? (i := 15) rfl)) (by decide) (by decide)) q207a q207c (g := (mkF m 377 #[.val (.int vf), .val (.int vr), .val (.int vm), .val (.long qk), .second, .val (.long qp), .second, .val (.int (1 : Int32)), .val (.ref b158), .val (.ref b160), .val (.ref b164), .val (.long (0 : Int64)), .second, .val (.ref b169), .val (.long sum370), .second, .unset, .unset] [(.ref b169)])) rfl (by rw [hml]; rfl) (Steps.refl _) (argsL := []) (rest := []) (lenOf pd_4 rfl) rfl (by show 2 * 0 + _ ≤ _; exact Nat.le_of_eq rfl) (hb hby at_377) (fun _ _ => ⟨rfl, e205, (by decide : 6 + 0 ≤ _), (by decide : 14 + 0 ≤ _)⟩)
    dsimp only [Pt.U, Pt.locs, Pt.cells, Pt.slots] at X207 l207 y207 z207 st207 hQ207
    rw [l207, y207, z207] at X207
    obtain ⟨sum377, rfl, hsum377, N207q, e207⟩ := hQ207
    have N207 := Fr.app N205 N207q
    have isum377 : sum377.toInt = 0 := by rw [hsum377]
    have hc387_208 : sum370.toInt = (0 : Int) := by have := rng64 sum370; have : ((0 : Int64)).toInt = (0 : Int) := (by decide); omega
    have hc395_209 : sum377.toInt = (0 : Int) := by have := rng64 sum377; have : ((0 : Int64)).toInt = (0 : Int) := (by decide); omega
    obtain ⟨fs, hr, hrun, hended, hW, hsame⟩ := X207.leave (v := some (.int (1 : Int32))) (fun h => by rw [Bd.returns] at h; cases h)
    refine ⟨_, _, pre2 _ ?_, hrun, hended, _, _, rfl, ?_, ⟨_, rfl⟩, hW, hsame.mono (by decide) (by decide)⟩
    · show Steps p.tables e below (s₁.setTop (mkF m 3 #[.val (.int vf), .val (.int vr), .val (.int vm), .val (.long qk), .second, .val (.long qp), .second, .unset, .unset, .unset, .unset, .unset, .unset, .unset, .unset, .unset, .unset, .unset] [(.int (vm &&& (1 : Int32)))])) _
      refine XS.ifNo X0.here hx rfl (hb hby at_3) rfl (own_if (own_feq (a := (vm &&& (1 : Int32))) (b := (0 : Int32)) rfl (by decide) hc3_1).1) ?_
      refine XS.iconst X0.here hx rfl (hb hby at_6) ?_
      refine XS.goto X0.here hx rfl (pc0 := 7) (pc' := 11) rfl (hb hby at_7) (by decide) (by decide) ?_
      refine XS.istore X0.here hx rfl (hb hby at_11) rfl (l' := #[.val (.int vf), .val (.int vr), .val (.int vm), .val (.long qk), .second, .val (.long qp), .second, .val (.int (1 : Int32)), .unset, .unset, .unset, .unset, .unset, .unset, .unset, .unset, .unset, .unset]) rfl ?_
      refine XS.iload X0.here hx rfl (hb hby at_13) rfl ?_
      show Steps p.tables e below (s₁.setTop (mkF m 15 #[.val (.int vf), .val (.int vr), .val (.int vm), .val (.long qk), .second, .val (.long qp), .second, .val (.int (1 : Int32)), .unset, .unset, .unset, .unset, .unset, .unset, .unset, .unset, .unset, .unset] [(.int (1 : Int32))])) _
      refine XS.ifNo X0.here hx rfl (hb hby at_15) rfl (own_if (own_feq (a := (1 : Int32)) (b := (0 : Int32)) (by decide) (by decide) hc15_157).1) ?_
      refine XS.iconst X0.here hx rfl (hb hby at_18) ?_
      refine st158 _ ?_
      refine XS.astore X158.here hx rfl (hb hby at_21) rfl rfl (l' := #[.val (.int vf), .val (.int vr), .val (.int vm), .val (.long qk), .second, .val (.long qp), .second, .val (.int (1 : Int32)), .val (.ref b158), .unset, .unset, .unset, .unset, .unset, .unset, .unset, .unset, .unset]) rfl ?_
      refine XS.iconst X158.here hx rfl (hb hby at_23) ?_
      show Steps p.tables e below (T158.setTop (mkF m 24 #[.val (.int vf), .val (.int vr), .val (.int vm), .val (.long qk), .second, .val (.long qp), .second, .val (.int (1 : Int32)), .val (.ref b158), .unset, .unset, .unset, .unset, .unset, .unset, .unset, .unset, .unset] [(.int (0 : Int32))])) _
      refine st160 _ ?_
      refine XS.astore X160.here hx rfl (hb hby at_26) rfl rfl (l' := #[.val (.int vf), .val (.int vr), .val (.int vm), .val (.long qk), .second, .val (.long qp), .second, .val (.int (1 : Int32)), .val (.ref b158), .val (.ref b160), .unset, .unset, .unset, .unset, .unset, .unset, .unset, .unset]) rfl ?_
      refine XS.iconst X160.here hx rfl (hb hby at_28) ?_
      refine st164 _ ?_
      refine XS.astore X164.here hx rfl (hb hby at_31) rfl rfl (l' := #[.val (.int vf), .val (.int vr), .val (.int vm), .val (.long qk), .second, .val (.long qp), .second, .val (.int (1 : Int32)), .val (.ref b158), .val (.ref b160), .val (.ref b164), .unset, .unset, .unset, .unset, .unset, .unset, .unset]) rfl ?_
      show Steps p.tables e below (T164.setTop (mkF m 33 #[.val (.int vf), .val (.int vr), .val (.int vm), .val (.long qk), .second, .val (.long qp), .second, .val (.int (1 : Int32)), .val (.ref b158), .val (.ref b160), .val (.ref b164), .unset, .unset, .unset, .unset, .unset, .unset, .unset] [])) _
      refine XS.lconst X164.here hx rfl (hb hby at_33) ?_
      refine XS.lstore X164.here hx rfl (hb hby at_34) rfl (l' := #[.val (.int vf), .val (.int vr), .val (.int vm), .val (.long qk), .second, .val (.long qp), .second, .val (.int (1 : Int32)), .val (.ref b158), .val (.ref b160), .val (.ref b164), .val (.long (0 : Int64)), .second, .unset, .unset, .unset, .unset, .unset]) rfl ?_
      refine XS.goto X164.here hx rfl (pc0 := 36) (pc' := 335) rfl (hb hby at_36) (by decide) (by decide) ?_
      refine st169 _ ?_
      refine XS.dup X169.here hx rfl (hb hby at_338) rfl rfl ?_
      show Steps p.tables e below (T169.setTop (mkF m 339 #[.val (.int vf), .val (.int vr), .val (.int vm), .val (.long qk), .second, .val (.long qp), .second, .val (.int (1 : Int32)), .val (.ref b158), .val (.ref b160), .val (.ref b164), .val (.long (0 : Int64)), .second, .unset, .unset, .unset, .unset, .unset] [(.ref b169), (.ref b169)])) _
      refine XS.lload X169.here hx rfl (hb hby at_339) rfl ?_
      refine st175 _ ?_
      refine XS.dup X175.here hx rfl (hb hby at_344) rfl rfl ?_
      refine st178.trans ?_
      refine XS.aload X178.here hx rfl (hb hby at_348) rfl rfl ?_
      show Steps p.tables e below (T178.setTop (mkF m 350 #[.val (.int vf), .val (.int vr), .val (.int vm), .val (.long qk), .second, .val (.long qp), .second, .val (.int (1 : Int32)), .val (.ref b158), .val (.ref b160), .val (.ref b164), .val (.long (0 : Int64)), .second, .unset, .unset, .unset, .unset, .unset] [(.ref b160), (.ref b175), (.long qp), (.ref b169), (.ref b169)])) _
      refine XS.aload X178.here hx rfl (hb hby at_350) rfl rfl ?_
      refine XS.aload X178.here hx rfl (hb hby at_352) rfl rfl ?_
      refine XS.lloadN X178.here hx rfl (hb hby at_354) rfl ?_
      refine st187 _ ?_
      refine XS.dup X187.here hx rfl (hb hby at_358) rfl rfl ?_
      show Steps p.tables e below (T187.setTop (mkF m 359 #[.val (.int vf), .val (.int vr), .val (.int vm), .val (.long qk), .second, .val (.long qp), .second, .val (.int (1 : Int32)), .val (.ref b158), .val (.ref b160), .val (.ref b164), .val (.long (0 : Int64)), .second, .unset, .unset, .unset, .unset, .unset] [(.ref b187), (.ref b187), (.long qk), (.ref b158), (.ref b164), (.ref b160), (.ref b175), (.long qp), (.ref b169), (.ref b169)])) _
      refine st190.trans ?_
      refine XS.aconstNull X190.here hx rfl (hb hby at_362) ?_
      refine st194.trans ?_
      refine XS.astore X194.here hx rfl (hb hby at_366) rfl rfl (l' := #[.val (.int vf), .val (.int vr), .val (.int vm), .val (.long qk), .second, .val (.long qp), .second, .val (.int (1 : Int32)), .val (.ref b158), .val (.ref b160), .val (.ref b164), .val (.long (0 : Int64)), .second, .val (.ref b169), .unset, .unset, .unset, .unset]) rfl ?_
      refine XS.aload X194.here hx rfl (hb hby at_368) rfl rfl ?_
      show Steps p.tables e below (T194.setTop (mkF m 370 #[.val (.int vf), .val (.int vr), .val (.int vm), .val (.long qk), .second, .val (.long qp), .second, .val (.int (1 : Int32)), .val (.ref b158), .val (.ref b160), .val (.ref b164), .val (.long (0 : Int64)), .second, .val (.ref b169), .unset, .unset, .unset, .unset] [(.ref b169)])) _
      refine st205.trans ?_
      refine XS.lstore X205.here hx rfl (hb hby at_373) rfl (l' := #[.val (.int vf), .val (.int vr), .val (.int vm), .val (.long qk), .second, .val (.long qp), .second, .val (.int (1 : Int32)), .val (.ref b158), .val (.ref b160), .val (.ref b164), .val (.long (0 : Int64)), .second, .val (.ref b169), .val (.long sum370), .second, .unset, .unset]) rfl ?_
      refine XS.aload X205.here hx rfl (hb hby at_375) rfl rfl ?_
      refine st207.trans ?_
      refine XS.lstore X207.here hx rfl (hb hby at_380) rfl (l' := #[.val (.int vf), .val (.int vr), .val (.int vm), .val (.long qk), .second, .val (.long qp), .second, .val (.int (1 : Int32)), .val (.ref b158), .val (.ref b160), .val (.ref b164), .val (.long (0 : Int64)), .second, .val (.ref b169), .val (.long sum370), .second, .val (.long sum377), .second]) rfl ?_
      show Steps p.tables e below (T207.setTop (mkF m 382 #[.val (.int vf), .val (.int vr), .val (.int vm), .val (.long qk), .second, .val (.long qp), .second, .val (.int (1 : Int32)), .val (.ref b158), .val (.ref b160), .val (.ref b164), .val (.long (0 : Int64)), .second, .val (.ref b169), .val (.long sum370), .second, .val (.long sum377), .second] [])) _
      refine XS.lload X207.here hx rfl (hb hby at_382) rfl ?_
      refine XS.lload X207.here hx rfl (hb hby at_384) rfl ?_
      refine XS.lcmp X207.here hx rfl (hb hby at_386) rfl ?_
      refine XS.ifNo X207.here hx rfl (hb hby at_387) rfl (own_if (own_teqL (x := sum370) (y := (0 : Int64)) rfl (by decide) hc387_208).2) ?_
      refine XS.lload X207.here hx rfl (hb hby at_390) rfl ?_
      show Steps p.tables e below (T207.setTop (mkF m 392 #[.val (.int vf), .val (.int vr), .val (.int vm), .val (.long qk), .second, .val (.long qp), .second, .val (.int (1 : Int32)), .val (.ref b158), .val (.ref b160), .val (.ref b164), .val (.long (0 : Int64)), .second, .val (.ref b169), .val (.long sum370), .second, .val (.long sum377), .second] [(.long sum377)])) _
      refine XS.lload X207.here hx rfl (hb hby at_392) rfl ?_
      refine XS.lcmp X207.here hx rfl (hb hby at_394) rfl ?_
      refine XS.ifNo X207.here hx rfl (hb hby at_395) rfl (own_if (own_teqL (x := sum377) (y := (0 : Int64)) rfl (by decide) hc395_209).2) ?_
      refine XS.iconst X207.here hx rfl (hb hby at_398) ?_
      refine XS.goto X207.here hx rfl (pc0 := 399) (pc' := 403) rfl (hb hby at_399) (by decide) (by decide) ?_
      show Steps p.tables e below (T207.setTop (mkF m 403 #[.val (.int vf), .val (.int vr), .val (.int vm), .val (.long qk), .second, .val (.long qp), .second, .val (.int (1 : Int32)), .val (.ref b158), .val (.ref b160), .val (.ref b164), .val (.long (0 : Int64)), .second, .val (.ref b169), .val (.long sum370), .second, .val (.long sum377), .second] [(.int (1 : Int32))])) _
      exact retN X207 hx (t := .boolean) Bd.returns (by simp) (hb hby at_403) hr
    · show Q0 Z vf vr vm qk qp wd h0 n0 _ T207.heap _
      rw [e207]
      exact ⟨rfl, N207⟩
set_option maxRecDepth 65536 in
set_option maxHeartbeats 40000000 in
theorem comes_1 {Post : Tables → Env → Array Value → State → Outcome → State → Prop} (hpost : ∀ tb e args s v u, (limb_1_1.after args s (.returned v) u = true ∧ limb_1_2.after args s (.returned v) u = true ∧ True) → FrameEnd s (.returned v) u (Jvm.fieldLocs frame_1_writes args s ++ Jvm.arrayLocs frame_1_arrays args s ++ Jvm.staticLocs frame_1_statics s) 24 192 → Post tb e args s (.returned v) u) :
    ArmFor flags0 classFile x code maxLocals ret World_1 tables_1 room_1 Calls_1 rest_1 Pre_1 Post := by
  intro l hfl _ _ p e ha hc hk s m args below hf hA hF happ hP
  obtain ⟨hcalls, hrest, hpre⟩ := hP
  obtain ⟨-, -, -, hnamed, -, -, -, hat⟩ := (Spec.applies_iff hf).mp happ
  obtain ⟨hg, hn⟩ := and_e (Cond.before_iff.mp (show (Jvm.Cond.and given_1 narrow_1).before args s = true from hpre))
  obtain ⟨g0, gr0⟩ := and_e hg
  obtain ⟨ga0, gr1⟩ := and_e gr0
  obtain ⟨ga1, gr2⟩ := and_e gr1
  obtain ⟨ga2, gr3⟩ := and_e gr2
  obtain ⟨ga3, gr4⟩ := and_e gr3
  obtain ⟨w0, w1, w2, w3, w4, rfl⟩ : ∃ w0 w1 w2 w3 w4 : Value, args = #[w0, w1, w2, w3, w4] := by
    have hs : args.size = 5 := by simpa [Cond.value, given_1] using g0
    obtain ⟨L⟩ := args
    match L, hs with
    | [w0, w1, w2, w3, w4], _ => exact ⟨w0, w1, w2, w3, w4, rfl⟩
  have hw := fun d (hd : d ∈ tables_1) => atoms_spec (ws := Jvm.Cond.code x code maxLocals ret :: tables_1) hat d (List.mem_cons_of_mem _ hd)
  have hfit : Fit s := fun {y c} hc i hi => by
    obtain ⟨ha, rfl⟩ := Array.getElem?_eq_some_iff.mp hc
    have q := List.all_eq_true.mp ((Array.all_eq_true_iff_forall_mem.mp hF) _ (Array.getElem_mem ha)) i (List.mem_range.mpr hi)
    simpa [Array.getElem?_eq_getElem hi] using q
  obtain ⟨hsets, hown0⟩ := atoms_of _ (rest_1_c_eq ▸ (show rest_1_c.before _ s = true from hrest))
  have hr0 := Cond.before_iff.mp hown0
  obtain ⟨i0, ei0⟩ := is_v ga0
  obtain rfl : w0 = (.int i0) := Option.some.inj ei0
  obtain ⟨i1, ei1⟩ := is_v ga1
  obtain rfl : w1 = (.int i1) := Option.some.inj ei1
  obtain ⟨i2, ei2⟩ := is_v ga2
  obtain rfl : w2 = (.int i2) := Option.some.inj ei2
  obtain ⟨i3, ei3⟩ := isL_v ga3
  obtain rfl : w3 = (.long i3) := Option.some.inj ei3
  obtain ⟨i4, ei4⟩ := isL_v gr4
  obtain rfl : w4 = (.long i4) := Option.some.inj ei4
  obtain ⟨wd, ed⟩ := arr_v (Cond.before_iff.mp (hsets _ (List.mem_of_getElem? (i := 6) rfl)))
  have Sd := Sta.start ed (Or.inr ⟨hw _ (List.mem_of_getElem? (i := 18) rfl), hsets _ (List.mem_of_getElem? (i := 2) rfl)⟩)
  obtain ⟨n, o, h1, h2, h3, v0, L, rfl, hQ, hq⟩ := rm0 l s _ hw tables_1 i0 i1 i2 i3 i4 wd s.heap s.heap.size (Nat.le_refl _) (Old.start s) Sd p e ha hc hk s m _ below hf ((Spec.applies_iff_loose hf).mp happ).1 ⟨rfl, State.Warmed39.refl s, rfl⟩ trivial
  obtain ⟨rfl, N⟩ : v0 = some (.int (1 : Int32)) ∧ Fr s.heap.size L := hQ
  refine ⟨n, _, h1, h2, h3, hpost _ _ _ _ _ _ ⟨Cond.after_iff.mpr rfl, Cond.after_iff.mpr (eq_i res_at (Term.int_eval (1)) rfl), trivial⟩ ⟨hq.1, hq.2.1, (hq.2.2.sift fun y hy => Or.inr (N y hy)).mono (by decide) (by decide)⟩⟩
theorem main_1_1 : Claimed_1_1 := comes_1 fun _ _ _ _ _ _ h hF => ⟨h.1, hF⟩
theorem main_1_2 : Claimed_1_2 := comes_1 fun _ _ _ _ _ _ h hF => ⟨h.2.1, hF⟩
end Jvm.Pilot.@@N@@
namespace Jvm.Pilot.@@N@@
open Jvm Jvm.ClassFile Sem Op Lib Jvm.Free Jvm.Stand Jvm.Pilot.@@N@@.Jvm.D
/-! MADE BY PROGRAM (witnessworld.py) out of the Statement's table words and the real class files: 22 classes; the members and pool entries that the words name. The judged class is class 1, her method 4. -/
namespace start1
open Jvm.ClassFile
def u (s : String) : CpInfo := .utf8 (stringToUtf16 s)
/-- a pool by its gaps: so many unusable entries, then the entry; so many at the end -/
def gap : Nat → List CpInfo → List CpInfo
  | 0, r => r
  | n + 1, r => .unusable :: gap n r
def poolList (es : List (Nat × CpInfo)) (last : Nat) : List CpInfo := es.foldr (fun e r => gap e.1 (e.2 :: r)) (gap last [])
def pool (es : List (Nat × CpInfo)) (last : Nat) : Array CpInfo := ⟨poolList es last⟩
def fileOf (pool : Array CpInfo) (this : Nat) (attrs : Array Attribute := #[]) (ms : Array MethodInfo := #[]) (fl : Nat := 33) (sup : Nat := 0) (ifs : Array Nat := #[]) (fds : Array FieldInfo := #[]) : ClassFile where
  minorVersion := 0
  majorVersion := 65
  constantPool := pool
  accessFlags := fl
  thisClass := this
  superClass := sup
  interfaces := ifs
  fields := fds
  methods := ms
  attributes := attrs
def plain (name : String) (sup : Option ClassId) : Class where
  name := name
  kind := .ordinary
  loader := none
  accessFlags := 33
  super := sup
  interfaces := #[]
  cf := none
  fields := #[]
  methods := #[]
  instanceTypes := #[]
  staticTypes := #[]
  resolved := #[]
  callSites := []
  init := .initialized
  statics := none
  mirror := none

def pool0 : Array CpInfo := pool [(5, u "<init>"), (0, u "()V"), (1, .class_ 10), (1, u "java/lang/Object")] 113

def k0c0 : Code := { maxStack := 0, maxLocals := 1, code := object_method_1_code, exceptionTable := #[], attributes := #[] }
def k0m0 : Method := { name := "<init>", desc := "()V", sig := { parameters := [], returnType := none }, accessFlags := 1, code := some k0c0 }
/-- java/lang/Object -/
def k0 : Class := { plain "java/lang/Object" none with
  accessFlags := 33
  interfaces := #[]
  cf := some (fileOf pool0 8 #[] #[{ accessFlags := 1, nameIndex := 5, descriptorIndex := 6, attributes := #[] }] 33 0 #[] #[])
  fields := #[]
  methods := #[k0m0]
  instanceTypes := #[]
  staticTypes := #[]
  resolved := Array.replicate 124 none
  statics := none }

def pool1 : Array CpInfo := pool [(2, .class_ 4), (0, .nameAndType 5 6), (0, u "java/lang/Object"), (0, u "<init>"), (0, u "()V"), (0, .methodref 8 9), (0, .class_ 10), (0, .nameAndType 11 12), (0, u "com/example/foreslot/foreslot/ScheduleStoppedPinLaw"), (0, u "bit"), (0, u "(II)Z"), (2, .long 18446744073709551615), (1, .methodref 8 18), (0, .nameAndType 19 20), (0, u "startOf"), (0, u "(II)J"), (0, .methodref 8 22), (0, .nameAndType 23 20), (0, u "endOf"), (0, .class_ 25), (0, u "com/example/foreslot/foreslot/Schedule"), (0, .class_ 27), (0, u "java/util/ArrayList"), (0, .methodref 26 3), (0, .methodref 24 30), (0, .nameAndType 5 31), (0, u "(JLjava/util/List;[J[J[ZJLjava/util/List;Ljava/util/Optional;)V"), (0, .methodref 24 33), (0, .nameAndType 34 35), (0, u "stopped"), (0, u "()J"), (3, u "law"), (0, u "(IIIJJ)Z")] 6

def k1m0 : Method := { name := "<init>", desc := "()V", sig := { parameters := [], returnType := none }, accessFlags := 1, code := none }
def k1c1 : Code := { maxStack := 2, maxLocals := 2, code := method_2_code, exceptionTable := #[], attributes := #[] }
def k1m1 : Method := { name := "bit", desc := "(II)Z", sig := { parameters := [.int, .int], returnType := some .boolean }, accessFlags := 10, code := some k1c1 }
def k1c2 : Code := { maxStack := 2, maxLocals := 2, code := method_3_code, exceptionTable := #[], attributes := #[] }
def k1m2 : Method := { name := "startOf", desc := "(II)J", sig := { parameters := [.int, .int], returnType := some .long }, accessFlags := 10, code := some k1c2 }
def k1c3 : Code := { maxStack := 2, maxLocals := 2, code := method_4_code, exceptionTable := #[], attributes := #[] }
def k1m3 : Method := { name := "endOf", desc := "(II)J", sig := { parameters := [.int, .int], returnType := some .long }, accessFlags := 10, code := some k1c3 }
def k1c4 : Code := { maxStack := 12, maxLocals := 18, code := code, exceptionTable := #[], attributes := #[] }
def k1m4 : Method := { name := "law", desc := "(IIIJJ)Z", sig := { parameters := [.int, .int, .int, .long, .long], returnType := some .boolean }, accessFlags := 9, code := some k1c4 }
/-- com/example/foreslot/foreslot/ScheduleStoppedPinLaw -/
def k1 : Class := { plain "com/example/foreslot/foreslot/ScheduleStoppedPinLaw" (some 0) with
  accessFlags := 49
  interfaces := #[]
  cf := some (fileOf pool1 8 #[] #[{ accessFlags := 1, nameIndex := 5, descriptorIndex := 6, attributes := #[] }, { accessFlags := 10, nameIndex := 11, descriptorIndex := 12, attributes := #[] }, { accessFlags := 10, nameIndex := 19, descriptorIndex := 20, attributes := #[] }, { accessFlags := 10, nameIndex := 23, descriptorIndex := 20, attributes := #[] }, { accessFlags := 9, nameIndex := 39, descriptorIndex := 40, attributes := #[] }] 49 2 #[] #[])
  fields := #[]
  methods := #[k1m0, k1m1, k1m2, k1m3, k1m4]
  instanceTypes := #[]
  staticTypes := #[]
  resolved := Array.replicate 47 none
  statics := none }

def pool2 : Array CpInfo := pool [(1, .methodref 2 3), (0, .class_ 4), (0, .nameAndType 5 6), (0, u "java/lang/Object"), (0, u "<init>"), (0, u "()V"), (0, .fieldref 8 9), (0, .class_ 10), (0, .nameAndType 11 12), (0, u "com/example/foreslot/foreslot/Schedule"), (0, u "processors"), (0, u "J"), (0, .fieldref 8 14), (0, .nameAndType 15 16), (0, u "jobs"), (0, u "Ljava/util/List;"), (0, .fieldref 8 18), (0, .nameAndType 19 20), (0, u "starts"), (0, u "[J"), (0, .fieldref 8 22), (0, .nameAndType 23 20), (0, u "ends"), (0, .fieldref 8 25), (0, .nameAndType 26 27), (0, u "stopped"), (0, u "[Z"), (0, .fieldref 8 29), (0, .nameAndType 30 12), (0, u "peakInUse"), (0, .fieldref 8 32), (0, .nameAndType 33 16), (0, u "reservations"), (0, .fieldref 8 35), (0, .nameAndType 36 37), (0, u "snapshot"), (0, u "Ljava/util/Optional;"), (27, u "()J"), (12, u "EVERY_JOB"), (0, u "Ljava/util/function/IntPredicate;"), (99, .class_ 180), (0, u "com/example/foreslot/foreslot/Schedule$1"), (5, u "(JLjava/util/List;[J[J[ZJLjava/util/List;Ljava/util/Optional;)V")] 29

def k2c0 : Code := { maxStack := 3, maxLocals := 11, code := prog_156_method_1_code, exceptionTable := #[], attributes := #[] }
def k2m0 : Method := { name := "<init>", desc := "(JLjava/util/List;[J[J[ZJLjava/util/List;Ljava/util/Optional;)V", sig := { parameters := [.long, (.object "java/util/List"), (.array .long), (.array .long), (.array .boolean), .long, (.object "java/util/List"), (.object "java/util/Optional")], returnType := none }, accessFlags := 0, code := some k2c0 }
def k2c1 : Code := { maxStack := 4, maxLocals := 7, code := prog_156_method_13_code, exceptionTable := #[], attributes := #[] }
def k2m1 : Method := { name := "stopped", desc := "()J", sig := { parameters := [], returnType := some .long }, accessFlags := 0, code := some k2c1 }
/-- com/example/foreslot/foreslot/Schedule -/
def k2 : Class := { plain "com/example/foreslot/foreslot/Schedule" (some 0) with
  accessFlags := 48
  interfaces := #[]
  cf := some (fileOf pool2 8 #[.nestMembers #[179]] #[{ accessFlags := 0, nameIndex := 5, descriptorIndex := 186, attributes := #[] }, { accessFlags := 0, nameIndex := 26, descriptorIndex := 65, attributes := #[] }] 48 2 #[] #[{ accessFlags := 26, nameIndex := 78, descriptorIndex := 79, attributes := #[] }, { accessFlags := 18, nameIndex := 11, descriptorIndex := 12, attributes := #[] }, { accessFlags := 18, nameIndex := 15, descriptorIndex := 16, attributes := #[] }, { accessFlags := 18, nameIndex := 19, descriptorIndex := 20, attributes := #[] }, { accessFlags := 18, nameIndex := 23, descriptorIndex := 20, attributes := #[] }, { accessFlags := 18, nameIndex := 26, descriptorIndex := 27, attributes := #[] }, { accessFlags := 18, nameIndex := 30, descriptorIndex := 12, attributes := #[] }, { accessFlags := 18, nameIndex := 33, descriptorIndex := 16, attributes := #[] }, { accessFlags := 18, nameIndex := 36, descriptorIndex := 37, attributes := #[] }])
  fields := #[{ name := "EVERY_JOB", type := (.object "java/util/function/IntPredicate"), accessFlags := 26, slot := 0, constantValue := 0 }, { name := "processors", type := .long, accessFlags := 18, slot := 0, constantValue := 0 }, { name := "jobs", type := (.object "java/util/List"), accessFlags := 18, slot := 1, constantValue := 0 }, { name := "starts", type := (.array .long), accessFlags := 18, slot := 2, constantValue := 0 }, { name := "ends", type := (.array .long), accessFlags := 18, slot := 3, constantValue := 0 }, { name := "stopped", type := (.array .boolean), accessFlags := 18, slot := 4, constantValue := 0 }, { name := "peakInUse", type := .long, accessFlags := 18, slot := 5, constantValue := 0 }, { name := "reservations", type := (.object "java/util/List"), accessFlags := 18, slot := 6, constantValue := 0 }, { name := "snapshot", type := (.object "java/util/Optional"), accessFlags := 18, slot := 7, constantValue := 0 }]
  methods := #[k2m0, k2m1]
  instanceTypes := #[.long, (.object "java/util/List"), (.array .long), (.array .long), (.array .boolean), .long, (.object "java/util/List"), (.object "java/util/Optional")]
  staticTypes := #[(.object "java/util/function/IntPredicate")]
  resolved := Array.replicate 216 none
  statics := none }

def pool3 : Array CpInfo := pool [(8, .class_ 10), (1, u "java/lang/Iterable"), (24, .class_ 36), (0, u "java/lang/Object")] 25

/-- java/lang/Iterable -/
def k3 : Class := { plain "java/lang/Iterable" (some 0) with
  accessFlags := 1537
  interfaces := #[]
  cf := some (fileOf pool3 8 #[] #[] 1537 35 #[] #[])
  fields := #[]
  methods := #[]
  instanceTypes := #[]
  staticTypes := #[]
  resolved := Array.replicate 62 none
  statics := none }

def pool4 : Array CpInfo := pool [(10, .class_ 12), (1, u "java/util/Collection"), (47, .class_ 61), (0, u "java/lang/Object"), (0, .class_ 63), (0, u "java/lang/Iterable")] 51

/-- java/util/Collection -/
def k4 : Class := { plain "java/util/Collection" (some 0) with
  accessFlags := 1537
  interfaces := #[3]
  cf := some (fileOf pool4 10 #[] #[] 1537 60 #[62] #[])
  fields := #[]
  methods := #[]
  instanceTypes := #[]
  staticTypes := #[]
  resolved := Array.replicate 115 none
  statics := none }

def pool5 : Array CpInfo := pool [(1, .methodref 2 3), (0, .class_ 4), (0, .nameAndType 5 6), (0, u "java/lang/Object"), (0, u "<init>"), (0, u "()V"), (1, .class_ 10), (1, u "java/util/AbstractCollection"), (66, .class_ 78), (0, u "java/util/Collection")] 81

def k5c0 : Code := { maxStack := 1, maxLocals := 1, code := jdk_22_method_1_code, exceptionTable := #[], attributes := #[] }
def k5m0 : Method := { name := "<init>", desc := "()V", sig := { parameters := [], returnType := none }, accessFlags := 4, code := some k5c0 }
/-- java/util/AbstractCollection -/
def k5 : Class := { plain "java/util/AbstractCollection" (some 0) with
  accessFlags := 1057
  interfaces := #[4]
  cf := some (fileOf pool5 8 #[] #[{ accessFlags := 4, nameIndex := 5, descriptorIndex := 6, attributes := #[] }] 1057 2 #[77] #[])
  fields := #[]
  methods := #[k5m0]
  instanceTypes := #[]
  staticTypes := #[]
  resolved := Array.replicate 160 none
  statics := none }

def pool6 : Array CpInfo := pool [(8, .class_ 10), (1, u "java/util/SequencedCollection"), (15, .class_ 27), (0, u "java/lang/Object"), (0, .class_ 29), (0, u "java/util/Collection")] 27

/-- java/util/SequencedCollection -/
def k6 : Class := { plain "java/util/SequencedCollection" (some 0) with
  accessFlags := 1537
  interfaces := #[4]
  cf := some (fileOf pool6 8 #[] #[] 1537 26 #[28] #[])
  fields := #[]
  methods := #[]
  instanceTypes := #[]
  staticTypes := #[]
  resolved := Array.replicate 57 none
  statics := none }

def pool7 : Array CpInfo := pool [(8, .class_ 10), (1, u "java/util/List"), (92, .class_ 104), (0, u "java/lang/Object"), (15, .class_ 121), (0, u "java/util/SequencedCollection")] 129

/-- java/util/List -/
def k7 : Class := { plain "java/util/List" (some 0) with
  accessFlags := 1537
  interfaces := #[6]
  cf := some (fileOf pool7 8 #[] #[] 1537 103 #[120] #[])
  fields := #[]
  methods := #[]
  instanceTypes := #[]
  staticTypes := #[]
  resolved := Array.replicate 251 none
  statics := none }

def pool8 : Array CpInfo := pool [(1, .methodref 2 3), (0, .class_ 4), (0, .nameAndType 5 6), (0, u "java/util/AbstractCollection"), (0, u "<init>"), (0, u "()V"), (0, .fieldref 8 9), (0, .class_ 10), (0, .nameAndType 11 12), (0, u "java/util/AbstractList"), (0, u "modCount"), (0, u "I"), (64, .class_ 78), (0, u "java/util/AbstractList$Itr"), (3, .class_ 83), (0, u "java/util/AbstractList$ListItr"), (9, .class_ 94), (0, u "java/util/AbstractList$RandomAccessSubList"), (3, .class_ 99), (0, u "java/util/AbstractList$SubList"), (33, .class_ 134), (0, u "java/util/List"), (73, .class_ 209), (0, u "java/util/AbstractList$SubList$1"), (0, .class_ 211), (0, u "java/util/AbstractList$RandomAccessSpliterator")] 6

def k8c0 : Code := { maxStack := 2, maxLocals := 1, code := jdk_39_method_1_code, exceptionTable := #[], attributes := #[] }
def k8m0 : Method := { name := "<init>", desc := "()V", sig := { parameters := [], returnType := none }, accessFlags := 4, code := some k8c0 }
/-- java/util/AbstractList -/
def k8 : Class := { plain "java/util/AbstractList" (some 5) with
  accessFlags := 1057
  interfaces := #[7]
  cf := some (fileOf pool8 8 #[.nestMembers #[93, 98, 208, 210, 82, 77]] #[{ accessFlags := 4, nameIndex := 5, descriptorIndex := 6, attributes := #[] }] 1057 2 #[133] #[{ accessFlags := 132, nameIndex := 11, descriptorIndex := 12, attributes := #[] }])
  fields := #[{ name := "modCount", type := .int, accessFlags := 132, slot := 0, constantValue := 0 }]
  methods := #[k8m0]
  instanceTypes := #[.int]
  staticTypes := #[]
  resolved := Array.replicate 218 none
  statics := none }

def pool9 : Array CpInfo := pool [(1, .class_ 2), (0, u "java/util/RandomAccess"), (0, .class_ 4), (0, u "java/lang/Object")] 2

/-- java/util/RandomAccess -/
def k9 : Class := { plain "java/util/RandomAccess" (some 0) with
  accessFlags := 1537
  interfaces := #[]
  cf := some (fileOf pool9 1 #[] #[] 1537 3 #[] #[])
  fields := #[]
  methods := #[]
  instanceTypes := #[]
  staticTypes := #[]
  resolved := Array.replicate 7 none
  statics := none }

def pool10 : Array CpInfo := pool [(1, .class_ 2), (0, u "java/lang/Cloneable"), (0, .class_ 4), (0, u "java/lang/Object")] 2

/-- java/lang/Cloneable -/
def k10 : Class := { plain "java/lang/Cloneable" (some 0) with
  accessFlags := 1537
  interfaces := #[]
  cf := some (fileOf pool10 1 #[] #[] 1537 3 #[] #[])
  fields := #[]
  methods := #[]
  instanceTypes := #[]
  staticTypes := #[]
  resolved := Array.replicate 7 none
  statics := none }

def pool11 : Array CpInfo := pool [(1, .class_ 2), (0, u "java/io/Serializable"), (0, .class_ 4), (0, u "java/lang/Object")] 2

/-- java/io/Serializable -/
def k11 : Class := { plain "java/io/Serializable" (some 0) with
  accessFlags := 1537
  interfaces := #[]
  cf := some (fileOf pool11 1 #[] #[] 1537 3 #[] #[])
  fields := #[]
  methods := #[]
  instanceTypes := #[]
  staticTypes := #[]
  resolved := Array.replicate 7 none
  statics := none }

def pool12 : Array CpInfo := pool [(1, .methodref 2 3), (0, .class_ 4), (0, .nameAndType 5 6), (0, u "java/util/AbstractList"), (0, u "<init>"), (0, u "()V"), (2, .fieldref 10 11), (0, .class_ 12), (0, .nameAndType 13 14), (0, u "java/util/ArrayList"), (0, u "elementData"), (0, u "[Ljava/lang/Object;"), (2, u "EMPTY_ELEMENTDATA"), (21, .fieldref 10 40), (0, .nameAndType 41 14), (0, u "DEFAULTCAPACITY_EMPTY_ELEMENTDATA"), (8, u "size"), (0, u "I"), (96, .class_ 149), (0, u "java/util/List"), (112, .class_ 263), (0, u "java/util/ArrayList$ListItr"), (3, .class_ 268), (0, u "java/util/ArrayList$Itr"), (7, .class_ 277), (0, u "java/util/ArrayList$SubList"), (12, .class_ 291), (0, u "java/util/ArrayList$ArrayListSpliterator"), (37, .class_ 330), (0, u "java/util/RandomAccess"), (0, .class_ 332), (0, u "java/lang/Cloneable"), (0, .class_ 334), (0, u "java/io/Serializable"), (0, u "serialVersionUID"), (0, u "J"), (3, u "DEFAULT_CAPACITY"), (159, .class_ 501), (0, u "java/util/ArrayList$SubList$2"), (0, .class_ 503), (0, u "java/util/ArrayList$SubList$1")] 5

def k12c0 : Code := { maxStack := 2, maxLocals := 1, code := jdk_38_method_2_code, exceptionTable := #[], attributes := #[] }
def k12m0 : Method := { name := "<init>", desc := "()V", sig := { parameters := [], returnType := none }, accessFlags := 1, code := some k12c0 }
/-- java/util/ArrayList -/
def k12 : Class := { plain "java/util/ArrayList" (some 8) with
  accessFlags := 33
  interfaces := #[7, 9, 10, 11]
  cf := some (fileOf pool12 10 #[.nestMembers #[290, 276, 500, 502, 262, 267]] #[{ accessFlags := 1, nameIndex := 5, descriptorIndex := 6, attributes := #[] }] 33 2 #[148, 329, 331, 333] #[{ accessFlags := 26, nameIndex := 335, descriptorIndex := 336, attributes := #[] }, { accessFlags := 26, nameIndex := 340, descriptorIndex := 51, attributes := #[] }, { accessFlags := 26, nameIndex := 17, descriptorIndex := 14, attributes := #[] }, { accessFlags := 26, nameIndex := 41, descriptorIndex := 14, attributes := #[] }, { accessFlags := 128, nameIndex := 13, descriptorIndex := 14, attributes := #[] }, { accessFlags := 2, nameIndex := 50, descriptorIndex := 51, attributes := #[] }])
  fields := #[{ name := "serialVersionUID", type := .long, accessFlags := 26, slot := 0, constantValue := 0 }, { name := "DEFAULT_CAPACITY", type := .int, accessFlags := 26, slot := 1, constantValue := 0 }, { name := "EMPTY_ELEMENTDATA", type := (.array (.object "java/lang/Object")), accessFlags := 26, slot := 2, constantValue := 0 }, { name := "DEFAULTCAPACITY_EMPTY_ELEMENTDATA", type := (.array (.object "java/lang/Object")), accessFlags := 26, slot := 3, constantValue := 0 }, { name := "elementData", type := (.array (.object "java/lang/Object")), accessFlags := 128, slot := 1, constantValue := 0 }, { name := "size", type := .int, accessFlags := 2, slot := 2, constantValue := 0 }]
  methods := #[k12m0]
  instanceTypes := #[.int, (.array (.object "java/lang/Object")), .int]
  staticTypes := #[.long, .int, (.array (.object "java/lang/Object")), (.array (.object "java/lang/Object"))]
  resolved := Array.replicate 509 none
  statics := some 0 }

/-- the primitive boolean -/
def k13 : Class := { plain "boolean" none with kind := .primitive 'Z', accessFlags := 0x411 }
/-- [Z -/
def k14 : Class := { plain "[Z" (some 0) with kind := .array 13 .boolean, interfaces := #[10, 11], accessFlags := 1041 }

/-- the primitive byte -/
def k15 : Class := { plain "byte" none with kind := .primitive 'B', accessFlags := 0x411 }
/-- [B -/
def k16 : Class := { plain "[B" (some 0) with kind := .array 15 .byte, interfaces := #[10, 11], accessFlags := 1041 }

/-- the primitive int -/
def k17 : Class := { plain "int" none with kind := .primitive 'I', accessFlags := 0x411 }
/-- [I -/
def k18 : Class := { plain "[I" (some 0) with kind := .array 17 .int, interfaces := #[10, 11], accessFlags := 1041 }

/-- the primitive long -/
def k19 : Class := { plain "long" none with kind := .primitive 'J', accessFlags := 0x411 }
/-- [J -/
def k20 : Class := { plain "[J" (some 0) with kind := .array 19 .long, interfaces := #[10, 11], accessFlags := 1041 }

/-- [Ljava/lang/Object; -/
def k21 : Class := { plain "[Ljava/lang/Object;" (some 0) with kind := .array 0 (.object "java/lang/Object"), interfaces := #[10, 11], accessFlags := 1041 }

def heap : Heap := #[{ cls := 12, slots := #[.long 0, .int 0, .ref 1, .ref 2], vm := .statics 12 },
  { cls := 21, slots := #[], vm := .none },
  { cls := 21, slots := #[], vm := .none }]
def classes : Array Class := #[k0, k1, k2, k3, k4, k5, k6, k7, k8, k9, k10, k11, k12, k13, k14, k15, k16, k17, k18, k19, k20, k21]
def interned : List (Array UInt16 × Addr) := []
def slotsUsed : Nat := 4
def theMethod : MethodId := ⟨1, 4⟩
def args0 : Array Value := #[.int 5, .int 6, .int 0, .long 7, .long 8]
def aboutOver (below : List Frame) : State where
  vm := { classes := classes, interned := interned.toArray }
  heap := heap
  slotsUsed := slotsUsed
  threads := #[{ frames := .invoking theMethod args0 :: below }]
def below0 : List Frame := [.native { method := ⟨0, 0⟩, args := #[] }]
def about1 : State := aboutOver below0
def p0 : Program := .bare "" "" ""
def e0 : Env := launch0.env 0 0 0
theorem w_frames : about1.frames = Frame.invoking theMethod args0 :: below0 := rfl
set_option maxRecDepth 65536 in
theorem w_args : argsFit about1.vm theMethod args0 = true := by decide +kernel
set_option maxRecDepth 65536 in
theorem w_heap : heapFits about1 = true := by decide +kernel
set_option maxRecDepth 65536 in
theorem w_runnable : about1.curStatus? = some .runnable := by decide +kernel
set_option maxRecDepth 65536 in
theorem w_alone : about1.alone = true := by decide +kernel
set_option maxRecDepth 65536 in
theorem w_named : about1.methodNamed? x = some theMethod := by decide +kernel
set_option maxRecDepth 65536 in
theorem w_hears : about1.hears theMethod below0 = true := by decide +kernel
set_option maxRecDepth 65536 in
theorem w_ripe : about1.ripe theMethod args0 below0 = true := by decide +kernel
theorem w_running : about1.status = .running := rfl
set_option maxRecDepth 65536 in
theorem w_room : about1.hasRoom e0.platform room_1 = true :=
  launch0.hasRoom_least _ room_1 (by decide +kernel) (by decide +kernel) (by decide +kernel) (by decide +kernel) (by decide +kernel) (by decide +kernel)
theorem allAtoms_all (ts : List Jvm.Cond) (a : Array Jvm.Value) (st : Jvm.State) : (allAtoms ts).before a st = ts.all (fun c => c.before a st) := by
  induction ts with
  | nil => rfl
  | cons c t ih =>
    show (Jvm.Cond.and c (allAtoms t)).before a st = _
    rw [Jvm.Cond.before_and, ih, List.all_cons]
def words1 : List Jvm.Cond := Jvm.Cond.code x code maxLocals ret :: tables_1
/-- a 'code' word, met by the world's own term for the bytes: nothing is compared byte by byte -/
theorem code_word {y : MethodName} {bytes : ByteArray} {mx : Nat} {rt : Option FieldType} {a : Array Value} {s : State} {m : MethodId} {meth : Method} {c : Code} (h1 : s.methodNamed? y = some m) (h2 : s.vm.method? m = some meth) (h3 : meth.code = some c) (h4 : c.code = bytes)
    (h5 : (c.maxLocals == mx && c.exceptionTable.isEmpty && decide (c.maxStack ≤ mostOperands) && decide (meth.sig.returnType = rt) && !meth.locks && decide (parseMethodDescriptor y.desc = some meth.sig)) = true) : (Jvm.Cond.code y bytes mx rt).before a s = true := by
  simp only [Bool.and_eq_true, beq_iff_eq, Bool.not_eq_true', decide_eq_true_eq] at h5
  obtain ⟨⟨⟨⟨⟨g1, g2⟩, g3⟩, g4⟩, g5⟩, g6⟩ := h5
  simp [Cond.before, Cond.holds, Cond.value, h1, h2, h3, h4, g1, g2, g3, g4, g5, g6]
def isCode : Jvm.Cond → Bool
  | .code _ _ _ _ => true
  | _ => false
theorem all_split {L : List Jvm.Cond} {P : Jvm.Cond → Bool} (h1 : L.all (fun c => isCode c || P c) = true) (h2 : ∀ c ∈ L.filter isCode, P c = true) : L.all P = true := by
  refine List.all_eq_true.mpr fun c hc => ?_
  have h := List.all_eq_true.mp h1 c hc
  rcases Bool.eq_false_or_eq_true (isCode c) with hi | hi
  · exact h2 c (List.mem_filter.mpr ⟨hc, hi⟩)
  · simpa [hi] using h
set_option maxRecDepth 65536 in
theorem w_c0 : (Jvm.Cond.code x code maxLocals ret).before args0 about1 = true := code_word (m := ⟨1, 4⟩) (meth := k1m4) (c := k1c4) (by decide +kernel) rfl rfl rfl (by decide +kernel)
set_option maxRecDepth 65536 in
theorem w_c1 : (Jvm.Cond.code ({ cls := "com/example/foreslot/foreslot/ScheduleStoppedPinLaw", name := "bit", desc := "(II)Z" } : Jvm.MethodName) method_2_code (2 : Nat) (Option.some Jvm.ClassFile.FieldType.boolean)).before args0 about1 = true := code_word (m := ⟨1, 1⟩) (meth := k1m1) (c := k1c1) (by decide +kernel) rfl rfl rfl (by decide +kernel)
set_option maxRecDepth 65536 in
theorem w_c2 : (Jvm.Cond.code ({ cls := "com/example/foreslot/foreslot/ScheduleStoppedPinLaw", name := "startOf", desc := "(II)J" } : Jvm.MethodName) method_3_code (2 : Nat) (Option.some Jvm.ClassFile.FieldType.long)).before args0 about1 = true := code_word (m := ⟨1, 2⟩) (meth := k1m2) (c := k1c2) (by decide +kernel) rfl rfl rfl (by decide +kernel)
set_option maxRecDepth 65536 in
theorem w_c3 : (Jvm.Cond.code ({ cls := "com/example/foreslot/foreslot/ScheduleStoppedPinLaw", name := "endOf", desc := "(II)J" } : Jvm.MethodName) method_4_code (2 : Nat) (Option.some Jvm.ClassFile.FieldType.long)).before args0 about1 = true := code_word (m := ⟨1, 3⟩) (meth := k1m3) (c := k1c3) (by decide +kernel) rfl rfl rfl (by decide +kernel)
set_option maxRecDepth 65536 in
theorem w_c4 : (Jvm.Cond.code ({ cls := "java/util/ArrayList", name := "<init>", desc := "()V" } : Jvm.MethodName) jdk_38_method_2_code (1 : Nat) (Option.none : Option Jvm.ClassFile.FieldType)).before args0 about1 = true := code_word (m := ⟨12, 0⟩) (meth := k12m0) (c := k12c0) (by decide +kernel) rfl rfl rfl (by decide +kernel)
set_option maxRecDepth 65536 in
theorem w_c5 : (Jvm.Cond.code ({ cls := "java/util/AbstractList", name := "<init>", desc := "()V" } : Jvm.MethodName) jdk_39_method_1_code (1 : Nat) (Option.none : Option Jvm.ClassFile.FieldType)).before args0 about1 = true := code_word (m := ⟨8, 0⟩) (meth := k8m0) (c := k8c0) (by decide +kernel) rfl rfl rfl (by decide +kernel)
set_option maxRecDepth 65536 in
theorem w_c6 : (Jvm.Cond.code ({ cls := "java/util/AbstractCollection", name := "<init>", desc := "()V" } : Jvm.MethodName) jdk_22_method_1_code (1 : Nat) (Option.none : Option Jvm.ClassFile.FieldType)).before args0 about1 = true := code_word (m := ⟨5, 0⟩) (meth := k5m0) (c := k5c0) (by decide +kernel) rfl rfl rfl (by decide +kernel)
set_option maxRecDepth 65536 in
theorem w_c7 : (Jvm.Cond.code ({ cls := "java/lang/Object", name := "<init>", desc := "()V" } : Jvm.MethodName) object_method_1_code (1 : Nat) (Option.none : Option Jvm.ClassFile.FieldType)).before args0 about1 = true := code_word (m := ⟨0, 0⟩) (meth := k0m0) (c := k0c0) (by decide +kernel) rfl rfl rfl (by decide +kernel)
set_option maxRecDepth 65536 in
theorem w_c8 : (Jvm.Cond.code ({ cls := "com/example/foreslot/foreslot/Schedule", name := "<init>", desc := "(JLjava/util/List;[J[J[ZJLjava/util/List;Ljava/util/Optional;)V" } : Jvm.MethodName) prog_156_method_1_code (11 : Nat) (Option.none : Option Jvm.ClassFile.FieldType)).before args0 about1 = true := code_word (m := ⟨2, 0⟩) (meth := k2m0) (c := k2c0) (by decide +kernel) rfl rfl rfl (by decide +kernel)
set_option maxRecDepth 65536 in
theorem w_c9 : (Jvm.Cond.code ({ cls := "com/example/foreslot/foreslot/Schedule", name := "stopped", desc := "()J" } : Jvm.MethodName) prog_156_method_13_code (7 : Nat) (Option.some Jvm.ClassFile.FieldType.long)).before args0 about1 = true := code_word (m := ⟨2, 1⟩) (meth := k2m1) (c := k2c1) (by decide +kernel) rfl rfl rfl (by decide +kernel)
def codes1 : List Jvm.Cond := [Jvm.Cond.code x code maxLocals ret, Jvm.Cond.code ({ cls := "com/example/foreslot/foreslot/ScheduleStoppedPinLaw", name := "bit", desc := "(II)Z" } : Jvm.MethodName) method_2_code (2 : Nat) (Option.some Jvm.ClassFile.FieldType.boolean), Jvm.Cond.code ({ cls := "com/example/foreslot/foreslot/ScheduleStoppedPinLaw", name := "startOf", desc := "(II)J" } : Jvm.MethodName) method_3_code (2 : Nat) (Option.some Jvm.ClassFile.FieldType.long), Jvm.Cond.code ({ cls := "com/example/foreslot/foreslot/ScheduleStoppedPinLaw", name := "endOf", desc := "(II)J" } : Jvm.MethodName) method_4_code (2 : Nat) (Option.some Jvm.ClassFile.FieldType.long), Jvm.Cond.code ({ cls := "java/util/ArrayList", name := "<init>", desc := "()V" } : Jvm.MethodName) jdk_38_method_2_code (1 : Nat) (Option.none : Option Jvm.ClassFile.FieldType), Jvm.Cond.code ({ cls := "java/util/AbstractList", name := "<init>", desc := "()V" } : Jvm.MethodName) jdk_39_method_1_code (1 : Nat) (Option.none : Option Jvm.ClassFile.FieldType), Jvm.Cond.code ({ cls := "java/util/AbstractCollection", name := "<init>", desc := "()V" } : Jvm.MethodName) jdk_22_method_1_code (1 : Nat) (Option.none : Option Jvm.ClassFile.FieldType), Jvm.Cond.code ({ cls := "java/lang/Object", name := "<init>", desc := "()V" } : Jvm.MethodName) object_method_1_code (1 : Nat) (Option.none : Option Jvm.ClassFile.FieldType), Jvm.Cond.code ({ cls := "com/example/foreslot/foreslot/Schedule", name := "<init>", desc := "(JLjava/util/List;[J[J[ZJLjava/util/List;Ljava/util/Optional;)V" } : Jvm.MethodName) prog_156_method_1_code (11 : Nat) (Option.none : Option Jvm.ClassFile.FieldType), Jvm.Cond.code ({ cls := "com/example/foreslot/foreslot/Schedule", name := "stopped", desc := "()J" } : Jvm.MethodName) prog_156_method_13_code (7 : Nat) (Option.some Jvm.ClassFile.FieldType.long)]
set_option maxRecDepth 65536 in
theorem codes_eq : words1.filter isCode = codes1 := rfl
theorem w_codes : ∀ c ∈ words1.filter isCode, c.before args0 about1 = true := by
  rw [codes_eq]
  intro c hc
  simp only [codes1, List.mem_cons, List.not_mem_nil, or_false] at hc
  rcases hc with rfl | rfl | rfl | rfl | rfl | rfl | rfl | rfl | rfl | rfl
  · exact w_c0
  · exact w_c1
  · exact w_c2
  · exact w_c3
  · exact w_c4
  · exact w_c5
  · exact w_c6
  · exact w_c7
  · exact w_c8
  · exact w_c9
set_option maxRecDepth 65536 in
theorem w_t1 : (words1.take 24).all (fun c => isCode c || c.before args0 about1) = true := by decide +kernel
set_option maxRecDepth 65536 in
theorem w_t2 : ((words1.drop 24).take 24).all (fun c => isCode c || c.before args0 about1) = true := by decide +kernel
set_option maxRecDepth 65536 in
theorem w_t3 : ((words1.drop 24).drop 24).all (fun c => isCode c || c.before args0 about1) = true := by decide +kernel
theorem w_tables : (allAtoms (Jvm.Cond.code x code maxLocals ret :: tables_1)).before args0 about1 = true := by
  rw [allAtoms_all]
  show words1.all (fun c => c.before args0 about1) = true
  refine all_split ?_ w_codes
  rw [← List.take_append_drop 24 words1, List.all_append, w_t1, ← List.take_append_drop 24 (words1.drop 24), List.all_append, w_t2, w_t3]
  rfl
set_option maxRecDepth 65536 in
theorem w_rest : rest_1_c.before args0 about1 = true := by decide +kernel
set_option maxRecDepth 65536 in
theorem w_case : (Jvm.Cond.and given_1 narrow_1).before args0 about1 = true := by decide +kernel
theorem w_applies : (headSpec (Jvm.Cond.code x code maxLocals ret :: tables_1) room_1).applies x e0.platform about1 = true :=
  (Spec.applies_iff w_frames).mpr ⟨w_running, w_runnable, w_alone, w_named, w_hears, w_ripe, w_room, w_tables⟩
theorem atStart : AtStart classFile x code maxLocals ret World_1 tables_1 room_1 Calls_1 rest_1 Pre_1 launch0 p0 e0 about1 theMethod args0 below0 :=
  ⟨lists_1, trivial, launch0.admits_env _ _ _, launch0.least_env, fairChoices_fair.cas, fairChoices_fair.clock, w_frames, w_args, w_heap, w_applies, trivial, w_rest, w_case⟩
end start1
theorem witness_1 : WitnessClaimed_1 := ⟨start1.p0, start1.e0, start1.about1, start1.theMethod, start1.args0, start1.below0, start1.atStart⟩
end Jvm.Pilot.@@N@@
