import JvmDerived
import JvmDerived.Pilot.@@N@@Statement
import JvmDerived.Pilot.@@N@@Code
set_option linter.unusedVariables false
set_option linter.unusedSimpArgs false
namespace Jvm.RoadKit
open Sem ClassFile Op Lib Jvm.Stand Jvm.Free Jvm.LawKit
section New
variable {p : Program} {l : Launch} {e : Env} {R : Room} {s : State} {m : MethodId} {args : Array Value} {below : List Frame} {meth : Method} {c : Code} {T : State} {locs : List Loc} {cells slots : Nat}
theorem retI (X : Stand p l e R s m args below meth c T locs cells slots) (hx : p.tables.exec = Jvm.exec) {pc : Nat} {Ls : Array Slot} {z : Int32} {rest : List Value} (hret : meth.sig.returnType = some .int) (hd : decode c.code pc = .ok (.ireturn, 1)) {fs : List Frame}
    (hl : ∀ (f : JFrame) (acts : List Action), f.method = m → f.locked = none → f.entered = [] → (doReturn e (T.setTop f) acts (some (.int z))).1 = T.setFrames fs) : Steps p.tables e below (T.setTop (mkF m pc Ls (.int z :: rest))) (T.setFrames fs) := by
  have hm' : T.vm.method? m = some meth := X.method'
  have hn : narrow .int (.int z) = .int z := rfl
  show Steps p.tables e below (T.setTop { method := m, pc := pc, locals := Ls, stack := _ :: rest, locked := none }) _
  jvm_step X.here [X.here.top, hx, hd, hm', hret, hn]
  first | (intro acts; rw [hl _ acts rfl rfl rfl]) | rw [hl _ _ rfl rfl rfl]
  exact Steps.refl _
end New
end Jvm.RoadKit
namespace Jvm.Pilot.@@N@@
open Jvm Jvm.ClassFile Sem Op Lib Jvm.Free Jvm.Stand Jvm.LawKit Jvm.RoadKit Bundle Jvm.Pilot.@@N@@.Jvm.D
theorem own_tlt {a b : Int32} {x y : Int} (ha : a.toInt = x) (hb : b.toInt = y) (h : x < y) : if_icmp.holds .lt a b = true ∧ if_icmp.holds .ge a b = false ∧ if_icmp.holds .gt b a = true ∧ if_icmp.holds .le b a = false := tlt (Int32.lt_iff_toInt_lt.mpr (by rw [ha, hb]; exact h))
theorem own_flt {a b : Int32} {x y : Int} (ha : a.toInt = x) (hb : b.toInt = y) (h : ¬ x < y) : if_icmp.holds .lt a b = false ∧ if_icmp.holds .ge a b = true ∧ if_icmp.holds .gt b a = false ∧ if_icmp.holds .le b a = true := flt (fun q => h (by rw [← ha, ← hb]; exact Int32.lt_iff_toInt_lt.mp q))
theorem own_teq {a b : Int32} {x y : Int} (ha : a.toInt = x) (hb : b.toInt = y) (h : x = y) : if_icmp.holds .eq a b = true ∧ if_icmp.holds .ne a b = false := teq (Int32.toInt_inj.mp (by rw [ha, hb]; exact h))
theorem own_feq {a b : Int32} {x y : Int} (ha : a.toInt = x) (hb : b.toInt = y) (h : ¬ x = y) : if_icmp.holds .eq a b = false ∧ if_icmp.holds .ne a b = true := feq (fun q => h (by rw [← ha, ← hb, q]))
theorem own_if {cd : ClassFile.Cond} {x : Int32} {b : Bool} (h : if_icmp.holds cd x 0 = b) : ifCond.holds cd x = b := (if0 cd x).trans h
theorem own_tltL {x y : Int64} {a b : Int} (ha : x.toInt = a) (hb : y.toInt = b) (h : a < b) : if_icmp.holds .lt (lcmpW x y) 0 = true ∧ if_icmp.holds .ge (lcmpW x y) 0 = false := have q := tlt ((lw_lt x y).mpr (Int64.lt_iff_toInt_lt.mpr (by rw [ha, hb]; exact h))); ⟨q.1, q.2.1⟩
theorem own_fltL {x y : Int64} {a b : Int} (ha : x.toInt = a) (hb : y.toInt = b) (h : ¬ a < b) : if_icmp.holds .lt (lcmpW x y) 0 = false ∧ if_icmp.holds .ge (lcmpW x y) 0 = true := have q := flt (fun w => h (by rw [← ha, ← hb]; exact Int64.lt_iff_toInt_lt.mp ((lw_lt x y).mp w))); ⟨q.1, q.2.1⟩
theorem own_tgtL {x y : Int64} {a b : Int} (ha : x.toInt = a) (hb : y.toInt = b) (h : b < a) : if_icmp.holds .gt (lcmpW x y) 0 = true ∧ if_icmp.holds .le (lcmpW x y) 0 = false := have q := tlt ((lw_gt x y).mpr (Int64.lt_iff_toInt_lt.mpr (by rw [ha, hb]; exact h))); ⟨q.2.2.1, q.2.2.2⟩
theorem own_fgtL {x y : Int64} {a b : Int} (ha : x.toInt = a) (hb : y.toInt = b) (h : ¬ b < a) : if_icmp.holds .gt (lcmpW x y) 0 = false ∧ if_icmp.holds .le (lcmpW x y) 0 = true := have q := flt (fun w => h (by rw [← ha, ← hb]; exact Int64.lt_iff_toInt_lt.mp ((lw_gt x y).mp w))); ⟨q.2.2.1, q.2.2.2⟩
theorem own_teqL {x y : Int64} {a b : Int} (ha : x.toInt = a) (hb : y.toInt = b) (h : a = b) : if_icmp.holds .eq (lcmpW x y) 0 = true ∧ if_icmp.holds .ne (lcmpW x y) 0 = false := teq ((lw_eq x y).mpr (Int64.toInt_inj.mp (by rw [ha, hb]; exact h)))
theorem own_feqL {x y : Int64} {a b : Int} (ha : x.toInt = a) (hb : y.toInt = b) (h : ¬ a = b) : if_icmp.holds .eq (lcmpW x y) 0 = false ∧ if_icmp.holds .ne (lcmpW x y) 0 = true := feq (fun w => h (by rw [← ha, ← hb, (lw_eq x y).mp w]))
theorem own_leapdiff (y : Int) : ((y / 4 - y / 100 + y / 400) - ((y - 1) / 4 - (y - 1) / 100 + (y - 1) / 400) = 1 ∧ (y % 4 = 0 ∧ (¬ y % 100 = 0 ∨ y % 400 = 0))) ∨ ((y / 4 - y / 100 + y / 400) - ((y - 1) / 4 - (y - 1) / 100 + (y - 1) / 400) = 0 ∧ ¬ (y % 4 = 0 ∧ (¬ y % 100 = 0 ∨ y % 400 = 0))) := by
  have a4 : (y % 4 = 0 ∧ y / 4 = (y - 1) / 4 + 1) ∨ (¬ y % 4 = 0 ∧ y / 4 = (y - 1) / 4) := by omega
  have a1 : (y % 100 = 0 ∧ y / 100 = (y - 1) / 100 + 1) ∨ (¬ y % 100 = 0 ∧ y / 100 = (y - 1) / 100) := by omega
  have a0 : (y % 400 = 0 ∧ y / 400 = (y - 1) / 400 + 1) ∨ (¬ y % 400 = 0 ∧ y / 400 = (y - 1) / 400) := by omega
  have d1 : y % 100 = 0 → y % 4 = 0 := by omega
  have d0 : y % 400 = 0 → y % 100 = 0 := by omega
  generalize y / 4 = q4 at *
  generalize (y - 1) / 4 = p4 at *
  generalize y / 100 = q1 at *
  generalize (y - 1) / 100 = p1 at *
  generalize y / 400 = q0 at *
  generalize (y - 1) / 400 = p0 at *
  generalize y % 4 = r4 at *
  generalize y % 100 = r1 at *
  generalize y % 400 = r0 at *
  omega
def own_lu (a : Int) : Int := a / 4 - a / 100 + a / 400
theorem own_lu_le (a : Int) (h1 : -4294967296 ≤ a) (h2 : a ≤ 4294967296) : -4294967296 ≤ own_lu a ∧ own_lu a ≤ 4294967296 := by unfold own_lu; omega
theorem own_lud (y : Int) : (own_lu y - own_lu (y - 1) = 1 ∧ (y % 4 = 0 ∧ (¬ y % 100 = 0 ∨ y % 400 = 0))) ∨ (own_lu y - own_lu (y - 1) = 0 ∧ ¬ (y % 4 = 0 ∧ (¬ y % 100 = 0 ∨ y % 400 = 0))) := own_leapdiff y
theorem d5_0 : decode method_2_code 0 = .ok (.lload_n 0, 1) := by decide +kernel
theorem d5_1 : decode method_2_code 1 = .ok (.lconst 0, 1) := by decide +kernel
theorem d5_2 : decode method_2_code 2 = .ok (.lcmp, 1) := by decide +kernel
theorem d5_3 : decode method_2_code 3 = .ok (.ifCond .lt 9, 3) := by decide +kernel
theorem d5_6 : decode method_2_code 6 = .ok (.lload_n 0, 1) := by decide +kernel
theorem d5_7 : decode method_2_code 7 = .ok (.lload_n 2, 1) := by decide +kernel
theorem d5_8 : decode method_2_code 8 = .ok (.ldiv, 1) := by decide +kernel
theorem d5_9 : decode method_2_code 9 = .ok (.goto 12, 3) := by decide +kernel
theorem d5_12 : decode method_2_code 12 = .ok (.lload_n 0, 1) := by decide +kernel
theorem d5_13 : decode method_2_code 13 = .ok (.lneg, 1) := by decide +kernel
theorem d5_14 : decode method_2_code 14 = .ok (.lload_n 2, 1) := by decide +kernel
theorem d5_15 : decode method_2_code 15 = .ok (.ladd, 1) := by decide +kernel
theorem d5_16 : decode method_2_code 16 = .ok (.lconst 1, 1) := by decide +kernel
theorem d5_17 : decode method_2_code 17 = .ok (.lsub, 1) := by decide +kernel
theorem d5_18 : decode method_2_code 18 = .ok (.lload_n 2, 1) := by decide +kernel
theorem d5_19 : decode method_2_code 19 = .ok (.ldiv, 1) := by decide +kernel
theorem d5_20 : decode method_2_code 20 = .ok (.lneg, 1) := by decide +kernel
theorem d5_21 : decode method_2_code 21 = .ok (.lreturn, 1) := by decide +kernel
theorem pn_0 : plainName "com/example/mod7/mod7/calendar/DatesIsLeapPinLaw" = true := by first | (simp [plainName, overriddenIn]; done) | decide +kernel
theorem ef_rm5 (m : MethodId) (x0 : Int64) (x1 : Int64) : entryFrame m #[(.long x0), (.long x1)] 4 = mkF m 0 #[.val (.long x0), .second, .val (.long x1), .second] [] := by first | (simp [entryFrame, mkF, argsToLocals, Value.category]; done) | rfl
def Q5 (Z : State) (va : Int64) (vb : Int64) (h0 : Heap) (n0 : Nat) (v : Option Value) (h : Heap) (L : List Loc) : Prop := ∃ z : Int64, v = some (.long z) ∧ ((vb.toInt = 4 → z.toInt = va.toInt / 4) ∧ (vb.toInt = 100 → z.toInt = va.toInt / 100) ∧ (vb.toInt = 400 → z.toInt = va.toInt / 400)) ∧ Fr n0 L ∧ h = h0
set_option maxRecDepth 65536 in
set_option maxHeartbeats 40000000 in
theorem rm5 (l : Launch) (Z : State) (a0 : Array Value) (hw : ∀ d ∈ tables_1, d.before a0 Z = true) (ws : List Jvm.Cond) (va : Int64) (vb : Int64) (h0 : Heap) (n0 : Nat) (Z0 : n0 ≤ h0.size) (ra1 : -4294967296 ≤ va.toInt) (ra2 : va.toInt ≤ 4294967296) (rb1 : 4 ≤ vb.toInt) (rb2 : vb.toInt ≤ 400) :
    MetFree l (⟨"com/example/mod7/mod7/calendar/DatesIsLeapPinLaw", "fd", "(JJ)J"⟩ : MethodName) (head1 (Jvm.Cond.code (⟨"com/example/mod7/mod7/calendar/DatesIsLeapPinLaw", "fd", "(JJ)J"⟩ : MethodName) method_2_code 4 (some .long) :: ws) ({ frames := 0, cells := 0, slots := 0, locals := 0 } : Room)) (fun a U => a = #[(.long va), (.long vb)] ∧ Z.Warmed39 U.vm ∧ U.heap = h0) (fun _ _ _ _ _ => True) (fun _ U o U' => ∃ v L, o = .returned v ∧ Q5 Z va vb h0 n0 v U'.heap L ∧ FrameEnd U o U' L ({ frames := 0, cells := 0, slots := 0, locals := 0 } : Room).cells ({ frames := 0, cells := 0, slots := 0, locals := 0 } : Room).slots) := by
  refine MetFree.of_bodySF (plainFor_of_name pn_0) hisR ?_
  intro p e s m args below meth c s₁ Bd hml0 hP hK
  obtain ⟨rfl, hZ, hh⟩ := hP
  have hx := Bd.exec
  have hby := Bd.bytes
  have hml : c.maxLocals = 4 := hml0
  have hown : s.vm.findClass "com/example/mod7/mod7/calendar/DatesIsLeapPinLaw" = some m.cls := findClass_of_methodNamed Bd.named
  have hnm := (name_of_methodNamed Bd.named Bd.method).1
  have X0 : Stand p l e ({ frames := 0, cells := 0, slots := 0, locals := 0 } : Room) s m #[(.long va), (.long vb)] below meth c s₁ [] 0 0 := Stand.of_body Bd
  have e0 : s₁.heap = h0 := by rw [← hh, Bd.state]; rfl
  have N0 := Fr.nil n0
  have pre0 : ∀ t, Steps p.tables e below (s₁.setTop (mkF m 0 #[.val (.long va), .second, .val (.long vb), .second] [])) t → Steps p.tables e below (s₁.setTop (entryFrame m #[(.long va), (.long vb)] 4)) t := fun t k => castTop (ef_rm5 m va vb) k
  have pre2 : ∀ t, Steps p.tables e below (s₁.setTop (mkF m 3 #[.val (.long va), .second, .val (.long vb), .second] [(.int (lcmpW va (0 : Int64)))])) t → Steps p.tables e below (s₁.setTop (entryFrame m #[(.long va), (.long vb)] 4)) t := fun t kt => by
    refine pre0 _ ?_
    refine XS.lloadN X0.here hx rfl (hb hby d5_0) rfl ?_
    refine XS.lconst X0.here hx rfl (hb hby d5_1) ?_
    refine XS.lcmp X0.here hx rfl (hb hby d5_2) rfl ?_
    exact kt
  by_cases hc3_1 : va.toInt < (0 : Int)
  · have nz19_2 : vb ≠ 0 := by
      intro q
      have q' : vb.toInt = 0 := by rw [q]; decide
      have := rng64 vb; omega
    obtain ⟨fs, hr, hrun, hended, hW, hsame⟩ := X0.leave (v := some (.long (-((((-va) + vb) - (1 : Int64)) / vb)))) (fun h => by rw [Bd.returns] at h; cases h)
    refine ⟨_, _, pre2 _ ?_, hrun, hended, _, _, rfl, ?_, ⟨_, rfl⟩, hW, hsame.mono (by decide) (by decide)⟩
    · show Steps p.tables e below (s₁.setTop (mkF m 3 #[.val (.long va), .second, .val (.long vb), .second] [(.int (lcmpW va (0 : Int64)))])) _
      refine XS.ifYes X0.here hx rfl (pc0 := 3) (pc' := 12) rfl (hb hby d5_3) rfl (own_if (own_tltL (x := va) (y := (0 : Int64)) rfl (by decide) hc3_1).1) (by decide) (by decide) ?_
      refine XS.lloadN X0.here hx rfl (hb hby d5_12) rfl ?_
      refine XS.lneg X0.here hx rfl (hb hby d5_13) rfl ?_
      refine XS.lloadN X0.here hx rfl (hb hby d5_14) rfl ?_
      refine XS.ladd X0.here hx rfl (hb hby d5_15) rfl ?_
      show Steps p.tables e below (s₁.setTop (mkF m 16 #[.val (.long va), .second, .val (.long vb), .second] [(.long ((-va) + vb))])) _
      refine XS.lconst X0.here hx rfl (hb hby d5_16) ?_
      refine XS.lsub X0.here hx rfl (hb hby d5_17) rfl ?_
      refine XS.lloadN X0.here hx rfl (hb hby d5_18) rfl ?_
      refine XS.ldiv X0.here hx rfl (hb hby d5_19) rfl nz19_2 ?_
      refine XS.lneg X0.here hx rfl (hb hby d5_20) rfl ?_
      show Steps p.tables e below (s₁.setTop (mkF m 21 #[.val (.long va), .second, .val (.long vb), .second] [(.long (-((((-va) + vb) - (1 : Int64)) / vb)))])) _
      jvm_step X0.here [X0.here.top, hx, (hb hby d5_21), X0.method', Bd.returns, narrow]
      first | (intro acts; rw [hr _ acts rfl rfl rfl]) | rw [hr _ _ rfl rfl rfl]
      exact Steps.refl _
    · show Q5 Z va vb h0 n0 _ s₁.heap _
      rw [e0]
      exact ⟨_, rfl, by
          have q4 : vb.toInt = 4 → ((-((((-va) + vb) - (1 : Int64)) / vb))).toInt = va.toInt / 4 := fun q => by
            have := rng64 va; (first | (have : ((-va)).toInt = -(va.toInt) := (by have := c_lneg va; have := rng64 (-va); omega)) | (have := c_lneg va; have := rng64 (-va))); have := rng64 vb; (first | (have : (((-va) + vb)).toInt = (-va).toInt + vb.toInt := (by have : ((((-va) + vb)).toInt - ((-va).toInt + vb.toInt)) % 18446744073709551616 = 0 := c_ladd (-va) vb; have := rng64 ((-va) + vb); omega)) | (have : ((((-va) + vb)).toInt - ((-va).toInt + vb.toInt)) % 18446744073709551616 = 0 := c_ladd (-va) vb; have := rng64 ((-va) + vb))); (first | (have : ((((-va) + vb) - (1 : Int64))).toInt = ((-va) + vb).toInt - (1 : Int) := (by have : (((((-va) + vb) - (1 : Int64))).toInt - (((-va) + vb).toInt - (1 : Int))) % 18446744073709551616 = 0 := c_lsub ((-va) + vb) (1 : Int64); have := rng64 (((-va) + vb) - (1 : Int64)); omega)) | (have : (((((-va) + vb) - (1 : Int64))).toInt - (((-va) + vb).toInt - (1 : Int))) % 18446744073709551616 = 0 := c_lsub ((-va) + vb) (1 : Int64); have := rng64 (((-va) + vb) - (1 : Int64)))); have := c_ldiv (((-va) + vb) - (1 : Int64)) vb 4 q (by intro w; rw [w] at q; revert q; decide); have := c_lneg ((((-va) + vb) - (1 : Int64)) / vb); have := rng64 (-((((-va) + vb) - (1 : Int64)) / vb)); omega
          have q100 : vb.toInt = 100 → ((-((((-va) + vb) - (1 : Int64)) / vb))).toInt = va.toInt / 100 := fun q => by
            have := rng64 va; (first | (have : ((-va)).toInt = -(va.toInt) := (by have := c_lneg va; have := rng64 (-va); omega)) | (have := c_lneg va; have := rng64 (-va))); have := rng64 vb; (first | (have : (((-va) + vb)).toInt = (-va).toInt + vb.toInt := (by have : ((((-va) + vb)).toInt - ((-va).toInt + vb.toInt)) % 18446744073709551616 = 0 := c_ladd (-va) vb; have := rng64 ((-va) + vb); omega)) | (have : ((((-va) + vb)).toInt - ((-va).toInt + vb.toInt)) % 18446744073709551616 = 0 := c_ladd (-va) vb; have := rng64 ((-va) + vb))); (first | (have : ((((-va) + vb) - (1 : Int64))).toInt = ((-va) + vb).toInt - (1 : Int) := (by have : (((((-va) + vb) - (1 : Int64))).toInt - (((-va) + vb).toInt - (1 : Int))) % 18446744073709551616 = 0 := c_lsub ((-va) + vb) (1 : Int64); have := rng64 (((-va) + vb) - (1 : Int64)); omega)) | (have : (((((-va) + vb) - (1 : Int64))).toInt - (((-va) + vb).toInt - (1 : Int))) % 18446744073709551616 = 0 := c_lsub ((-va) + vb) (1 : Int64); have := rng64 (((-va) + vb) - (1 : Int64)))); have := c_ldiv (((-va) + vb) - (1 : Int64)) vb 100 q (by intro w; rw [w] at q; revert q; decide); have := c_lneg ((((-va) + vb) - (1 : Int64)) / vb); have := rng64 (-((((-va) + vb) - (1 : Int64)) / vb)); omega
          have q400 : vb.toInt = 400 → ((-((((-va) + vb) - (1 : Int64)) / vb))).toInt = va.toInt / 400 := fun q => by
            have := rng64 va; (first | (have : ((-va)).toInt = -(va.toInt) := (by have := c_lneg va; have := rng64 (-va); omega)) | (have := c_lneg va; have := rng64 (-va))); have := rng64 vb; (first | (have : (((-va) + vb)).toInt = (-va).toInt + vb.toInt := (by have : ((((-va) + vb)).toInt - ((-va).toInt + vb.toInt)) % 18446744073709551616 = 0 := c_ladd (-va) vb; have := rng64 ((-va) + vb); omega)) | (have : ((((-va) + vb)).toInt - ((-va).toInt + vb.toInt)) % 18446744073709551616 = 0 := c_ladd (-va) vb; have := rng64 ((-va) + vb))); (first | (have : ((((-va) + vb) - (1 : Int64))).toInt = ((-va) + vb).toInt - (1 : Int) := (by have : (((((-va) + vb) - (1 : Int64))).toInt - (((-va) + vb).toInt - (1 : Int))) % 18446744073709551616 = 0 := c_lsub ((-va) + vb) (1 : Int64); have := rng64 (((-va) + vb) - (1 : Int64)); omega)) | (have : (((((-va) + vb) - (1 : Int64))).toInt - (((-va) + vb).toInt - (1 : Int))) % 18446744073709551616 = 0 := c_lsub ((-va) + vb) (1 : Int64); have := rng64 (((-va) + vb) - (1 : Int64)))); have := c_ldiv (((-va) + vb) - (1 : Int64)) vb 400 q (by intro w; rw [w] at q; revert q; decide); have := c_lneg ((((-va) + vb) - (1 : Int64)) / vb); have := rng64 (-((((-va) + vb) - (1 : Int64)) / vb)); omega
          exact ⟨q4, q100, q400⟩, N0, rfl⟩
  · have nz8_3 : vb ≠ 0 := by
      intro q
      have q' : vb.toInt = 0 := by rw [q]; decide
      have := rng64 vb; omega
    obtain ⟨fs, hr, hrun, hended, hW, hsame⟩ := X0.leave (v := some (.long (va / vb))) (fun h => by rw [Bd.returns] at h; cases h)
    refine ⟨_, _, pre2 _ ?_, hrun, hended, _, _, rfl, ?_, ⟨_, rfl⟩, hW, hsame.mono (by decide) (by decide)⟩
    · show Steps p.tables e below (s₁.setTop (mkF m 3 #[.val (.long va), .second, .val (.long vb), .second] [(.int (lcmpW va (0 : Int64)))])) _
      refine XS.ifNo X0.here hx rfl (hb hby d5_3) rfl (own_if (own_fltL (x := va) (y := (0 : Int64)) rfl (by decide) hc3_1).1) ?_
      refine XS.lloadN X0.here hx rfl (hb hby d5_6) rfl ?_
      refine XS.lloadN X0.here hx rfl (hb hby d5_7) rfl ?_
      refine XS.ldiv X0.here hx rfl (hb hby d5_8) rfl nz8_3 ?_
      refine XS.goto X0.here hx rfl (pc0 := 9) (pc' := 21) rfl (hb hby d5_9) (by decide) (by decide) ?_
      show Steps p.tables e below (s₁.setTop (mkF m 21 #[.val (.long va), .second, .val (.long vb), .second] [(.long (va / vb))])) _
      jvm_step X0.here [X0.here.top, hx, (hb hby d5_21), X0.method', Bd.returns, narrow]
      first | (intro acts; rw [hr _ acts rfl rfl rfl]) | rw [hr _ _ rfl rfl rfl]
      exact Steps.refl _
    · show Q5 Z va vb h0 n0 _ s₁.heap _
      rw [e0]
      exact ⟨_, rfl, by
          have q4 : vb.toInt = 4 → ((va / vb)).toInt = va.toInt / 4 := fun q => by
            have := rng64 va; have := c_ldiv va vb 4 q (by intro w; rw [w] at q; revert q; decide); omega
          have q100 : vb.toInt = 100 → ((va / vb)).toInt = va.toInt / 100 := fun q => by
            have := rng64 va; have := c_ldiv va vb 100 q (by intro w; rw [w] at q; revert q; decide); omega
          have q400 : vb.toInt = 400 → ((va / vb)).toInt = va.toInt / 400 := fun q => by
            have := rng64 va; have := c_ldiv va vb 400 q (by intro w; rw [w] at q; revert q; decide); omega
          exact ⟨q4, q100, q400⟩, N0, rfl⟩
theorem d4_0 : decode method_3_code 0 = .ok (.lload_n 0, 1) := by decide +kernel
theorem d4_1 : decode method_3_code 1 = .ok (.ldc2_w 7, 3) := by decide +kernel
theorem d4_4 : decode method_3_code 4 = .ok (.invokestatic 9, 3) := by decide +kernel
theorem d4_7 : decode method_3_code 7 = .ok (.lload_n 0, 1) := by decide +kernel
theorem d4_8 : decode method_3_code 8 = .ok (.ldc2_w 15, 3) := by decide +kernel
theorem d4_11 : decode method_3_code 11 = .ok (.invokestatic 9, 3) := by decide +kernel
theorem d4_14 : decode method_3_code 14 = .ok (.lsub, 1) := by decide +kernel
theorem d4_15 : decode method_3_code 15 = .ok (.lload_n 0, 1) := by decide +kernel
theorem d4_16 : decode method_3_code 16 = .ok (.ldc2_w 17, 3) := by decide +kernel
theorem d4_19 : decode method_3_code 19 = .ok (.invokestatic 9, 3) := by decide +kernel
theorem d4_22 : decode method_3_code 22 = .ok (.ladd, 1) := by decide +kernel
theorem d4_23 : decode method_3_code 23 = .ok (.lreturn, 1) := by decide +kernel
theorem ef_rm4 (m : MethodId) (x0 : Int64) : entryFrame m #[(.long x0)] 2 = mkF m 0 #[.val (.long x0), .second] [] := by first | (simp [entryFrame, mkF, argsToLocals, Value.category]; done) | rfl
theorem pd_0 : parseMethodDescriptor "(JJ)J" = some ⟨[.long, .long], some .long⟩ := by decide +kernel
def Q4 (Z : State) (va : Int64) (h0 : Heap) (n0 : Nat) (v : Option Value) (h : Heap) (L : List Loc) : Prop := ∃ z : Int64, v = some (.long z) ∧ (z.toInt = own_lu va.toInt) ∧ Fr n0 L ∧ h = h0
set_option maxRecDepth 65536 in
set_option maxHeartbeats 40000000 in
theorem rm4 (l : Launch) (Z : State) (a0 : Array Value) (hw : ∀ d ∈ tables_1, d.before a0 Z = true) (ws : List Jvm.Cond) (va : Int64) (h0 : Heap) (n0 : Nat) (Z0 : n0 ≤ h0.size) (ra1 : -4294967296 ≤ va.toInt) (ra2 : va.toInt ≤ 4294967296) :
    MetFree l (⟨"com/example/mod7/mod7/calendar/DatesIsLeapPinLaw", "leapsUpTo", "(J)J"⟩ : MethodName) (head1 (Jvm.Cond.code (⟨"com/example/mod7/mod7/calendar/DatesIsLeapPinLaw", "leapsUpTo", "(J)J"⟩ : MethodName) method_3_code 2 (some .long) :: ws) ({ frames := 1, cells := 0, slots := 0, locals := 17 } : Room)) (fun a U => a = #[(.long va)] ∧ Z.Warmed39 U.vm ∧ U.heap = h0) (fun _ _ _ _ _ => True) (fun _ U o U' => ∃ v L, o = .returned v ∧ Q4 Z va h0 n0 v U'.heap L ∧ FrameEnd U o U' L ({ frames := 1, cells := 0, slots := 0, locals := 17 } : Room).cells ({ frames := 1, cells := 0, slots := 0, locals := 17 } : Room).slots) := by
  refine MetFree.of_bodySF (plainFor_of_name pn_0) hisR ?_
  intro p e s m args below meth c s₁ Bd hml0 hP hK
  obtain ⟨rfl, hZ, hh⟩ := hP
  have hx := Bd.exec
  have hby := Bd.bytes
  have hml : c.maxLocals = 2 := hml0
  have hown : s.vm.findClass "com/example/mod7/mod7/calendar/DatesIsLeapPinLaw" = some m.cls := findClass_of_methodNamed Bd.named
  have hnm := (name_of_methodNamed Bd.named Bd.method).1
  have X0 : Stand p l e ({ frames := 1, cells := 0, slots := 0, locals := 17 } : Room) s m #[(.long va)] below meth c s₁ [] 0 0 := Stand.of_body Bd
  have e0 : s₁.heap = h0 := by rw [← hh, Bd.state]; rfl
  have N0 := Fr.nil n0
  have pre0 : ∀ t, Steps p.tables e below (s₁.setTop (mkF m 0 #[.val (.long va), .second] [])) t → Steps p.tables e below (s₁.setTop (entryFrame m #[(.long va)] 2)) t := fun t k => castTop (ef_rm4 m va) k
  obtain ⟨_, _, ⟨T1, L1, k1, n1⟩, -, X1, ⟨Lc1, hQ1, l1, y1, z1⟩, st1⟩ := Jvm.LawKit.callS X0 hx (y := (⟨"com/example/mod7/mod7/calendar/DatesIsLeapPinLaw", "fd", "(JJ)J"⟩ : MethodName)) hown (mvT hZ (hw _ (List.mem_of_getElem? (i := 15) rfl))) (mvT hZ (hw _ (List.mem_of_getElem? (i := 16) rfl))) (mvT hZ (hw _ (List.mem_of_getElem? (i := 2) rfl))) (mvT hZ (hw _ (List.mem_of_getElem? (i := 17) rfl))) (by decide) (backOf (W := 0) (rm5 l Z a0 hw [] va (4 : Int64) h0 n0 Z0 ra1 ra2 (by decide) (by decide)) hZ (hw _ (List.mem_of_getElem? (i := 17) rfl)) (hw _ (List.mem_of_getElem? (i := 2) rfl)) (by decide) (by decide)) (g := (mkF m 4 #[.val (.long va), .second] [(.long (4 : Int64)), (.long va)])) rfl (by rw [hml]; rfl) (argsL := [(.long va), (.long (4 : Int64))]) (rest := []) (lenOf pd_0 rfl) rfl (by show 2 * 0 + _ ≤ _; exact Nat.le_of_eq rfl) (hb hby d4_4) (fun _ _ => ⟨rfl, e0, (by decide : 0 + 0 ≤ _), (by decide : 0 + 0 ≤ _)⟩)
  dsimp only [Pt.U, Pt.locs, Pt.cells, Pt.slots] at X1 l1 y1 z1 st1 hQ1
  subst l1 y1 z1
  obtain ⟨f4, rfl, hf4, N1q, e1⟩ := hQ1
  have N1 := Fr.app N0 N1q
  have if4 : f4.toInt = va.toInt / 4 := hf4.1 (by decide)
  obtain ⟨_, _, ⟨T2, L2, k2, n2⟩, -, X2, ⟨Lc2, hQ2, l2, y2, z2⟩, st2⟩ := Jvm.LawKit.callS X1 hx (y := (⟨"com/example/mod7/mod7/calendar/DatesIsLeapPinLaw", "fd", "(JJ)J"⟩ : MethodName)) hown (mvT hZ (hw _ (List.mem_of_getElem? (i := 15) rfl))) (mvT hZ (hw _ (List.mem_of_getElem? (i := 16) rfl))) (mvT hZ (hw _ (List.mem_of_getElem? (i := 2) rfl))) (mvT hZ (hw _ (List.mem_of_getElem? (i := 17) rfl))) (by decide) (backOf (W := 2) (rm5 l Z a0 hw [] va (100 : Int64) h0 n0 Z0 ra1 ra2 (by decide) (by decide)) hZ (hw _ (List.mem_of_getElem? (i := 17) rfl)) (hw _ (List.mem_of_getElem? (i := 2) rfl)) (by decide) (by decide)) (g := (mkF m 11 #[.val (.long va), .second] [(.long (100 : Int64)), (.long va), (.long f4)])) rfl (by rw [hml]; rfl) (argsL := [(.long va), (.long (100 : Int64))]) (rest := [(.long f4)]) (lenOf pd_0 rfl) rfl (by show 2 * 0 + _ ≤ _; exact Nat.le_of_eq rfl) (hb hby d4_11) (fun _ _ => ⟨rfl, e1, (by decide : 0 + 0 ≤ _), (by decide : 0 + 0 ≤ _)⟩)
  dsimp only [Pt.U, Pt.locs, Pt.cells, Pt.slots] at X2 l2 y2 z2 st2 hQ2
  subst l2 y2 z2
  obtain ⟨f100, rfl, hf100, N2q, e2⟩ := hQ2
  have N2 := Fr.app N1 N2q
  have if100 : f100.toInt = va.toInt / 100 := hf100.2.1 (by decide)
  obtain ⟨_, _, ⟨T3, L3, k3, n3⟩, -, X3, ⟨Lc3, hQ3, l3, y3, z3⟩, st3⟩ := Jvm.LawKit.callS X2 hx (y := (⟨"com/example/mod7/mod7/calendar/DatesIsLeapPinLaw", "fd", "(JJ)J"⟩ : MethodName)) hown (mvT hZ (hw _ (List.mem_of_getElem? (i := 15) rfl))) (mvT hZ (hw _ (List.mem_of_getElem? (i := 16) rfl))) (mvT hZ (hw _ (List.mem_of_getElem? (i := 2) rfl))) (mvT hZ (hw _ (List.mem_of_getElem? (i := 17) rfl))) (by decide) (backOf (W := 2) (rm5 l Z a0 hw [] va (400 : Int64) h0 n0 Z0 ra1 ra2 (by decide) (by decide)) hZ (hw _ (List.mem_of_getElem? (i := 17) rfl)) (hw _ (List.mem_of_getElem? (i := 2) rfl)) (by decide) (by decide)) (g := (mkF m 19 #[.val (.long va), .second] [(.long (400 : Int64)), (.long va), (.long (f4 - f100))])) rfl (by rw [hml]; rfl) (argsL := [(.long va), (.long (400 : Int64))]) (rest := [(.long (f4 - f100))]) (lenOf pd_0 rfl) rfl (by show 2 * 0 + _ ≤ _; exact Nat.le_of_eq rfl) (hb hby d4_19) (fun _ _ => ⟨rfl, e2, (by decide : 0 + 0 ≤ _), (by decide : 0 + 0 ≤ _)⟩)
  dsimp only [Pt.U, Pt.locs, Pt.cells, Pt.slots] at X3 l3 y3 z3 st3 hQ3
  subst l3 y3 z3
  obtain ⟨f400, rfl, hf400, N3q, e3⟩ := hQ3
  have N3 := Fr.app N2 N3q
  have if400 : f400.toInt = va.toInt / 400 := hf400.2.2 (by decide)
  obtain ⟨fs, hr, hrun, hended, hW, hsame⟩ := X3.leave (v := some (.long ((f4 - f100) + f400))) (fun h => by rw [Bd.returns] at h; cases h)
  refine ⟨_, _, pre0 _ ?_, hrun, hended, _, _, rfl, ?_, ⟨_, rfl⟩, hW, hsame.mono (by decide) (by decide)⟩
  · refine XS.lloadN X0.here hx rfl (hb hby d4_0) rfl ?_
    refine X0.ldc2Long hx hown (mvT hZ (hw _ (List.mem_of_getElem? (i := 14) rfl))) (g := (mkF m 1 #[.val (.long va), .second] [(.long va)])) rfl (hb hby d4_1) _ ?_
    refine st1 _ ?_
    refine XS.lloadN X1.here hx rfl (hb hby d4_7) rfl ?_
    show Steps p.tables e below (T1.setTop (mkF m 8 #[.val (.long va), .second] [(.long va), (.long f4)])) _
    refine X1.ldc2Long hx hown (mvT hZ (hw _ (List.mem_of_getElem? (i := 18) rfl))) (g := (mkF m 8 #[.val (.long va), .second] [(.long va), (.long f4)])) rfl (hb hby d4_8) _ ?_
    refine st2 _ ?_
    refine XS.lsub X2.here hx rfl (hb hby d4_14) rfl ?_
    refine XS.lloadN X2.here hx rfl (hb hby d4_15) rfl ?_
    refine X2.ldc2Long hx hown (mvT hZ (hw _ (List.mem_of_getElem? (i := 19) rfl))) (g := (mkF m 16 #[.val (.long va), .second] [(.long va), (.long (f4 - f100))])) rfl (hb hby d4_16) _ ?_
    show Steps p.tables e below (T2.setTop (mkF m 19 #[.val (.long va), .second] [(.long (400 : Int64)), (.long va), (.long (f4 - f100))])) _
    refine st3 _ ?_
    refine XS.ladd X3.here hx rfl (hb hby d4_22) rfl ?_
    jvm_step X3.here [X3.here.top, hx, (hb hby d4_23), X3.method', Bd.returns, narrow]
    first | (intro acts; rw [hr _ acts rfl rfl rfl]) | rw [hr _ _ rfl rfl rfl]
    exact Steps.refl _
  · show Q4 Z va h0 n0 _ T3.heap _
    rw [e3]
    exact ⟨_, rfl, by unfold own_lu; have := rng64 f4; have := rng64 f100; (first | (have : ((f4 - f100)).toInt = f4.toInt - f100.toInt := (by have : (((f4 - f100)).toInt - (f4.toInt - f100.toInt)) % 18446744073709551616 = 0 := c_lsub f4 f100; have := rng64 (f4 - f100); omega)) | (have : (((f4 - f100)).toInt - (f4.toInt - f100.toInt)) % 18446744073709551616 = 0 := c_lsub f4 f100; have := rng64 (f4 - f100))); have := rng64 f400; (first | (have : (((f4 - f100) + f400)).toInt = (f4 - f100).toInt + f400.toInt := (by have : ((((f4 - f100) + f400)).toInt - ((f4 - f100).toInt + f400.toInt)) % 18446744073709551616 = 0 := c_ladd (f4 - f100) f400; have := rng64 ((f4 - f100) + f400); omega)) | (have : ((((f4 - f100) + f400)).toInt - ((f4 - f100).toInt + f400.toInt)) % 18446744073709551616 = 0 := c_ladd (f4 - f100) f400; have := rng64 ((f4 - f100) + f400))); omega, N3, rfl⟩
theorem d3_0 : decode method_4_code 0 = .ok (.iload_n 0, 1) := by decide +kernel
theorem d3_1 : decode method_4_code 1 = .ok (.i2l, 1) := by decide +kernel
theorem d3_2 : decode method_4_code 2 = .ok (.lstore_n 1, 1) := by decide +kernel
theorem d3_3 : decode method_4_code 3 = .ok (.lload_n 1, 1) := by decide +kernel
theorem d3_4 : decode method_4_code 4 = .ok (.invokestatic 19, 3) := by decide +kernel
theorem d3_7 : decode method_4_code 7 = .ok (.lload_n 1, 1) := by decide +kernel
theorem d3_8 : decode method_4_code 8 = .ok (.lconst 1, 1) := by decide +kernel
theorem d3_9 : decode method_4_code 9 = .ok (.lsub, 1) := by decide +kernel
theorem d3_10 : decode method_4_code 10 = .ok (.invokestatic 19, 3) := by decide +kernel
theorem d3_13 : decode method_4_code 13 = .ok (.lsub, 1) := by decide +kernel
theorem d3_14 : decode method_4_code 14 = .ok (.lconst 1, 1) := by decide +kernel
theorem d3_15 : decode method_4_code 15 = .ok (.lcmp, 1) := by decide +kernel
theorem d3_16 : decode method_4_code 16 = .ok (.ifCond .ne 7, 3) := by decide +kernel
theorem d3_19 : decode method_4_code 19 = .ok (.iconst 1, 1) := by decide +kernel
theorem d3_20 : decode method_4_code 20 = .ok (.goto 4, 3) := by decide +kernel
theorem d3_23 : decode method_4_code 23 = .ok (.iconst 0, 1) := by decide +kernel
theorem d3_24 : decode method_4_code 24 = .ok (.ireturn, 1) := by decide +kernel
theorem ef_rm3 (m : MethodId) (x0 : Int32) : entryFrame m #[(.int x0)] 3 = mkF m 0 #[.val (.int x0), .unset, .unset] [] := by first | (simp [entryFrame, mkF, argsToLocals, Value.category]; done) | rfl
theorem pd_1 : parseMethodDescriptor "(J)J" = some ⟨[.long], some .long⟩ := by decide +kernel
def Q3 (Z : State) (vy : Int32) (h0 : Heap) (n0 : Nat) (v : Option Value) (h : Heap) (L : List Loc) : Prop := ∃ z : Int32, v = some (.int z) ∧ ((z.toInt = 1 ∧ (vy.toInt % 4 = 0 ∧ (¬ vy.toInt % 100 = 0 ∨ vy.toInt % 400 = 0))) ∨ (z.toInt = 0 ∧ ¬ (vy.toInt % 4 = 0 ∧ (¬ vy.toInt % 100 = 0 ∨ vy.toInt % 400 = 0)))) ∧ Fr n0 L ∧ h = h0
set_option maxRecDepth 65536 in
set_option maxHeartbeats 40000000 in
theorem rm3 (l : Launch) (Z : State) (a0 : Array Value) (hw : ∀ d ∈ tables_1, d.before a0 Z = true) (ws : List Jvm.Cond) (vy : Int32) (h0 : Heap) (n0 : Nat) (Z0 : n0 ≤ h0.size) :
    MetFree l (⟨"com/example/mod7/mod7/calendar/DatesIsLeapPinLaw", "ref", "(I)Z"⟩ : MethodName) (head1 (Jvm.Cond.code (⟨"com/example/mod7/mod7/calendar/DatesIsLeapPinLaw", "ref", "(I)Z"⟩ : MethodName) method_4_code 3 (some .boolean) :: ws) ({ frames := 2, cells := 0, slots := 0, locals := 32 } : Room)) (fun a U => a = #[(.int vy)] ∧ Z.Warmed39 U.vm ∧ U.heap = h0) (fun _ _ _ _ _ => True) (fun _ U o U' => ∃ v L, o = .returned v ∧ Q3 Z vy h0 n0 v U'.heap L ∧ FrameEnd U o U' L ({ frames := 2, cells := 0, slots := 0, locals := 32 } : Room).cells ({ frames := 2, cells := 0, slots := 0, locals := 32 } : Room).slots) := by
  refine MetFree.of_bodySF (plainFor_of_name pn_0) hisR ?_
  intro p e s m args below meth c s₁ Bd hml0 hP hK
  obtain ⟨rfl, hZ, hh⟩ := hP
  have hx := Bd.exec
  have hby := Bd.bytes
  have hml : c.maxLocals = 3 := hml0
  have hown : s.vm.findClass "com/example/mod7/mod7/calendar/DatesIsLeapPinLaw" = some m.cls := findClass_of_methodNamed Bd.named
  have hnm := (name_of_methodNamed Bd.named Bd.method).1
  have X0 : Stand p l e ({ frames := 2, cells := 0, slots := 0, locals := 32 } : Room) s m #[(.int vy)] below meth c s₁ [] 0 0 := Stand.of_body Bd
  have e0 : s₁.heap = h0 := by rw [← hh, Bd.state]; rfl
  have N0 := Fr.nil n0
  have pre0 : ∀ t, Steps p.tables e below (s₁.setTop (mkF m 0 #[.val (.int vy), .unset, .unset] [])) t → Steps p.tables e below (s₁.setTop (entryFrame m #[(.int vy)] 3)) t := fun t k => castTop (ef_rm3 m vy) k
  have pre1 : ∀ t, Steps p.tables e below (s₁.setTop (mkF m 2 #[.val (.int vy), .unset, .unset] [(.long (vy.toInt64))])) t → Steps p.tables e below (s₁.setTop (entryFrame m #[(.int vy)] 3)) t := fun t kt => by
    refine pre0 _ ?_
    refine XS.iloadN X0.here hx rfl (hb hby d3_0) rfl ?_
    refine XS.i2l X0.here hx rfl (hb hby d3_1) rfl ?_
    exact kt
  obtain ⟨yl, hyl⟩ : ∃ z : Int64, z = (vy.toInt64) := ⟨_, rfl⟩
  have iyl : yl.toInt = vy.toInt := by rw [hyl]; have := rng32 vy; have := c_i2l vy; omega
  have pre2 : ∀ t, Steps p.tables e below (s₁.setTop (mkF m 2 #[.val (.int vy), .unset, .unset] [(.long yl)])) t → Steps p.tables e below (s₁.setTop (entryFrame m #[(.int vy)] 3)) t := by rw [hyl]; exact pre1
  obtain ⟨_, _, ⟨T3, L3, k3, n3⟩, -, X3, ⟨Lc3, hQ3, l3, y3, z3⟩, st3⟩ := Jvm.LawKit.callS X0 hx (y := (⟨"com/example/mod7/mod7/calendar/DatesIsLeapPinLaw", "leapsUpTo", "(J)J"⟩ : MethodName)) hown (mvT hZ (hw _ (List.mem_of_getElem? (i := 11) rfl))) (mvT hZ (hw _ (List.mem_of_getElem? (i := 12) rfl))) (mvT hZ (hw _ (List.mem_of_getElem? (i := 2) rfl))) (mvT hZ (hw _ (List.mem_of_getElem? (i := 13) rfl))) (by decide) (backOf (W := 0) (rm4 l Z a0 hw [] yl h0 n0 Z0 (by have := rng32 vy; omega) (by have := rng32 vy; omega)) hZ (hw _ (List.mem_of_getElem? (i := 13) rfl)) (hw _ (List.mem_of_getElem? (i := 2) rfl)) (by decide) (by decide)) (g := (mkF m 4 #[.val (.int vy), .val (.long yl), .second] [(.long yl)])) rfl (by rw [hml]; rfl) (argsL := [(.long yl)]) (rest := []) (lenOf pd_1 rfl) rfl (by show 2 * 0 + _ ≤ _; exact Nat.le_of_eq rfl) (hb hby d3_4) (fun _ _ => ⟨rfl, e0, (by decide : 0 + 0 ≤ _), (by decide : 0 + 0 ≤ _)⟩)
  dsimp only [Pt.U, Pt.locs, Pt.cells, Pt.slots] at X3 l3 y3 z3 st3 hQ3
  subst l3 y3 z3
  obtain ⟨ua, rfl, hua, N3q, e3⟩ := hQ3
  have N3 := Fr.app N0 N3q
  have pre4 : ∀ t, Steps p.tables e below (T3.setTop (mkF m 10 #[.val (.int vy), .val (.long yl), .second] [(.long (yl - (1 : Int64))), (.long ua)])) t → Steps p.tables e below (s₁.setTop (entryFrame m #[(.int vy)] 3)) t := fun t kt => by
    refine pre2 _ ?_
    refine XS.lstoreN X0.here hx rfl (hb hby d3_2) rfl (l' := #[.val (.int vy), .val (.long yl), .second]) rfl ?_
    refine XS.lloadN X0.here hx rfl (hb hby d3_3) rfl ?_
    show Steps p.tables e below (s₁.setTop (mkF m 4 #[.val (.int vy), .val (.long yl), .second] [(.long yl)])) _
    refine st3 _ ?_
    refine XS.lloadN X3.here hx rfl (hb hby d3_7) rfl ?_
    refine XS.lconst X3.here hx rfl (hb hby d3_8) ?_
    refine XS.lsub X3.here hx rfl (hb hby d3_9) rfl ?_
    exact kt
  obtain ⟨ym, hym⟩ : ∃ z : Int64, z = (yl - (1 : Int64)) := ⟨_, rfl⟩
  have iym : ym.toInt = vy.toInt - 1 := by rw [hym]; have := rng64 yl; (first | (have : ((yl - (1 : Int64))).toInt = yl.toInt - (1 : Int) := (by have : (((yl - (1 : Int64))).toInt - (yl.toInt - (1 : Int))) % 18446744073709551616 = 0 := c_lsub yl (1 : Int64); have := rng64 (yl - (1 : Int64)); omega)) | (have : (((yl - (1 : Int64))).toInt - (yl.toInt - (1 : Int))) % 18446744073709551616 = 0 := c_lsub yl (1 : Int64); have := rng64 (yl - (1 : Int64)))); have := rng32 vy; omega
  have pre5 : ∀ t, Steps p.tables e below (T3.setTop (mkF m 10 #[.val (.int vy), .val (.long yl), .second] [(.long ym), (.long ua)])) t → Steps p.tables e below (s₁.setTop (entryFrame m #[(.int vy)] 3)) t := by rw [hym]; exact pre4
  obtain ⟨_, _, ⟨T6, L6, k6, n6⟩, -, X6, ⟨Lc6, hQ6, l6, y6, z6⟩, st6⟩ := Jvm.LawKit.callS X3 hx (y := (⟨"com/example/mod7/mod7/calendar/DatesIsLeapPinLaw", "leapsUpTo", "(J)J"⟩ : MethodName)) hown (mvT hZ (hw _ (List.mem_of_getElem? (i := 11) rfl))) (mvT hZ (hw _ (List.mem_of_getElem? (i := 12) rfl))) (mvT hZ (hw _ (List.mem_of_getElem? (i := 2) rfl))) (mvT hZ (hw _ (List.mem_of_getElem? (i := 13) rfl))) (by decide) (backOf (W := 2) (rm4 l Z a0 hw [] ym h0 n0 Z0 (by have := rng32 vy; omega) (by have := rng32 vy; omega)) hZ (hw _ (List.mem_of_getElem? (i := 13) rfl)) (hw _ (List.mem_of_getElem? (i := 2) rfl)) (by decide) (by decide)) (g := (mkF m 10 #[.val (.int vy), .val (.long yl), .second] [(.long ym), (.long ua)])) rfl (by rw [hml]; rfl) (argsL := [(.long ym)]) (rest := [(.long ua)]) (lenOf pd_1 rfl) rfl (by show 2 * 0 + _ ≤ _; exact Nat.le_of_eq rfl) (hb hby d3_10) (fun _ _ => ⟨rfl, e3, (by decide : 0 + 0 ≤ _), (by decide : 0 + 0 ≤ _)⟩)
  dsimp only [Pt.U, Pt.locs, Pt.cells, Pt.slots] at X6 l6 y6 z6 st6 hQ6
  subst l6 y6 z6
  obtain ⟨ub, rfl, hub, N6q, e6⟩ := hQ6
  have N6 := Fr.app N3 N6q
  have bua := own_lu_le yl.toInt (by have := rng32 vy; omega) (by have := rng32 vy; omega)
  have bub := own_lu_le ym.toInt (by have := rng32 vy; omega) (by have := rng32 vy; omega)
  have pre7 : ∀ t, Steps p.tables e below (T6.setTop (mkF m 14 #[.val (.int vy), .val (.long yl), .second] [(.long (ua - ub))])) t → Steps p.tables e below (s₁.setTop (entryFrame m #[(.int vy)] 3)) t := fun t kt => by
    refine pre5 _ ?_
    refine st6 _ ?_
    show Steps p.tables e below (T6.setTop (mkF m 13 #[.val (.int vy), .val (.long yl), .second] [(.long ub), (.long ua)])) _
    refine XS.lsub X6.here hx rfl (hb hby d3_13) rfl ?_
    exact kt
  obtain ⟨df, hdf⟩ : ∃ z : Int64, z = (ua - ub) := ⟨_, rfl⟩
  have idf : df.toInt = ua.toInt - ub.toInt := by rw [hdf]; have := rng64 ua; have := rng64 ub; (first | (have : ((ua - ub)).toInt = ua.toInt - ub.toInt := (by have : (((ua - ub)).toInt - (ua.toInt - ub.toInt)) % 18446744073709551616 = 0 := c_lsub ua ub; have := rng64 (ua - ub); omega)) | (have : (((ua - ub)).toInt - (ua.toInt - ub.toInt)) % 18446744073709551616 = 0 := c_lsub ua ub; have := rng64 (ua - ub))); omega
  have pre8 : ∀ t, Steps p.tables e below (T6.setTop (mkF m 14 #[.val (.int vy), .val (.long yl), .second] [(.long df)])) t → Steps p.tables e below (s₁.setTop (entryFrame m #[(.int vy)] 3)) t := by rw [hdf]; exact pre7
  have pre10 : ∀ t, Steps p.tables e below (T6.setTop (mkF m 16 #[.val (.int vy), .val (.long yl), .second] [(.int (lcmpW df (1 : Int64)))])) t → Steps p.tables e below (s₁.setTop (entryFrame m #[(.int vy)] 3)) t := fun t kt => by
    refine pre8 _ ?_
    refine XS.lconst X6.here hx rfl (hb hby d3_14) ?_
    refine XS.lcmp X6.here hx rfl (hb hby d3_15) rfl ?_
    exact kt
  by_cases hc16_9 : df.toInt = (1 : Int)
  · obtain ⟨fs, hr, hrun, hended, hW, hsame⟩ := X6.leave (v := some (.int (1 : Int32))) (fun h => by rw [Bd.returns] at h; cases h)
    refine ⟨_, _, pre10 _ ?_, hrun, hended, _, _, rfl, ?_, ⟨_, rfl⟩, hW, hsame.mono (by decide) (by decide)⟩
    · show Steps p.tables e below (T6.setTop (mkF m 16 #[.val (.int vy), .val (.long yl), .second] [(.int (lcmpW df (1 : Int64)))])) _
      refine XS.ifNo X6.here hx rfl (hb hby d3_16) rfl (own_if (own_teqL (x := df) (y := (1 : Int64)) rfl (by decide) hc16_9).2) ?_
      show Steps p.tables e below (T6.setTop (mkF m 19 #[.val (.int vy), .val (.long yl), .second] [])) _
      refine XS.iconst X6.here hx rfl (hb hby d3_19) ?_
      refine XS.goto X6.here hx rfl (pc0 := 20) (pc' := 24) rfl (hb hby d3_20) (by decide) (by decide) ?_
      exact retN X6 hx (t := .boolean) Bd.returns (by simp) (hb hby d3_24) hr
    · show Q3 Z vy h0 n0 _ T6.heap _
      rw [e6]
      exact ⟨_, rfl, by have ld := own_lud vy.toInt; rw [iyl] at hua; rw [iym] at hub; rw [← hua, ← hub, ← idf] at ld; rcases ld with ⟨a, b⟩ | ⟨a, b⟩ <;> first | exact Or.inl ⟨by decide, b⟩ | exact Or.inr ⟨by decide, b⟩ | omega, N6, rfl⟩
  · obtain ⟨fs, hr, hrun, hended, hW, hsame⟩ := X6.leave (v := some (.int (0 : Int32))) (fun h => by rw [Bd.returns] at h; cases h)
    refine ⟨_, _, pre10 _ ?_, hrun, hended, _, _, rfl, ?_, ⟨_, rfl⟩, hW, hsame.mono (by decide) (by decide)⟩
    · show Steps p.tables e below (T6.setTop (mkF m 16 #[.val (.int vy), .val (.long yl), .second] [(.int (lcmpW df (1 : Int64)))])) _
      refine XS.ifYes X6.here hx rfl (pc0 := 16) (pc' := 23) rfl (hb hby d3_16) rfl (own_if (own_feqL (x := df) (y := (1 : Int64)) rfl (by decide) hc16_9).2) (by decide) (by decide) ?_
      show Steps p.tables e below (T6.setTop (mkF m 23 #[.val (.int vy), .val (.long yl), .second] [])) _
      refine XS.iconst X6.here hx rfl (hb hby d3_23) ?_
      exact retN X6 hx (t := .boolean) Bd.returns (by simp) (hb hby d3_24) hr
    · show Q3 Z vy h0 n0 _ T6.heap _
      rw [e6]
      exact ⟨_, rfl, by have ld := own_lud vy.toInt; rw [iyl] at hua; rw [iym] at hub; rw [← hua, ← hub, ← idf] at ld; rcases ld with ⟨a, b⟩ | ⟨a, b⟩ <;> first | exact Or.inl ⟨by decide, b⟩ | exact Or.inr ⟨by decide, b⟩ | omega, N6, rfl⟩
theorem d2_0 : decode prog_2_method_11_code 0 = .ok (.iload_n 0, 1) := by decide +kernel
theorem d2_1 : decode prog_2_method_11_code 1 = .ok (.iconst 3, 1) := by decide +kernel
theorem d2_2 : decode prog_2_method_11_code 2 = .ok (.iand, 1) := by decide +kernel
theorem d2_3 : decode prog_2_method_11_code 3 = .ok (.ifCond .ne 22, 3) := by decide +kernel
theorem d2_6 : decode prog_2_method_11_code 6 = .ok (.iload_n 0, 1) := by decide +kernel
theorem d2_7 : decode prog_2_method_11_code 7 = .ok (.bipush 100, 2) := by decide +kernel
theorem d2_9 : decode prog_2_method_11_code 9 = .ok (.irem, 1) := by decide +kernel
theorem d2_10 : decode prog_2_method_11_code 10 = .ok (.ifCond .ne 11, 3) := by decide +kernel
theorem d2_13 : decode prog_2_method_11_code 13 = .ok (.iload_n 0, 1) := by decide +kernel
theorem d2_14 : decode prog_2_method_11_code 14 = .ok (.sipush 400, 3) := by decide +kernel
theorem d2_17 : decode prog_2_method_11_code 17 = .ok (.irem, 1) := by decide +kernel
theorem d2_18 : decode prog_2_method_11_code 18 = .ok (.ifCond .ne 7, 3) := by decide +kernel
theorem d2_21 : decode prog_2_method_11_code 21 = .ok (.iconst 1, 1) := by decide +kernel
theorem d2_22 : decode prog_2_method_11_code 22 = .ok (.goto 4, 3) := by decide +kernel
theorem d2_25 : decode prog_2_method_11_code 25 = .ok (.iconst 0, 1) := by decide +kernel
theorem d2_26 : decode prog_2_method_11_code 26 = .ok (.ireturn, 1) := by decide +kernel
theorem pn_1 : plainName "com/example/mod7/mod7/calendar/Dates" = true := by first | (simp [plainName, overriddenIn]; done) | decide +kernel
theorem ef_rm2 (m : MethodId) (x0 : Int32) : entryFrame m #[(.int x0)] 1 = mkF m 0 #[.val (.int x0)] [] := by first | (simp [entryFrame, mkF, argsToLocals, Value.category]; done) | rfl
def Q2 (Z : State) (vy : Int32) (h0 : Heap) (n0 : Nat) (v : Option Value) (h : Heap) (L : List Loc) : Prop := ∃ z : Int32, v = some (.int z) ∧ ((z.toInt = 1 ∧ (vy.toInt % 4 = 0 ∧ (¬ vy.toInt % 100 = 0 ∨ vy.toInt % 400 = 0))) ∨ (z.toInt = 0 ∧ ¬ (vy.toInt % 4 = 0 ∧ (¬ vy.toInt % 100 = 0 ∨ vy.toInt % 400 = 0)))) ∧ Fr n0 L ∧ h = h0
set_option maxRecDepth 65536 in
set_option maxHeartbeats 40000000 in
theorem rm2 (l : Launch) (Z : State) (a0 : Array Value) (hw : ∀ d ∈ tables_1, d.before a0 Z = true) (ws : List Jvm.Cond) (vy : Int32) (h0 : Heap) (n0 : Nat) (Z0 : n0 ≤ h0.size) :
    MetFree l (⟨"com/example/mod7/mod7/calendar/Dates", "isLeap", "(I)Z"⟩ : MethodName) (head1 (Jvm.Cond.code (⟨"com/example/mod7/mod7/calendar/Dates", "isLeap", "(I)Z"⟩ : MethodName) prog_2_method_11_code 1 (some .boolean) :: ws) ({ frames := 0, cells := 0, slots := 0, locals := 0 } : Room)) (fun a U => a = #[(.int vy)] ∧ Z.Warmed39 U.vm ∧ U.heap = h0) (fun _ _ _ _ _ => True) (fun _ U o U' => ∃ v L, o = .returned v ∧ Q2 Z vy h0 n0 v U'.heap L ∧ FrameEnd U o U' L ({ frames := 0, cells := 0, slots := 0, locals := 0 } : Room).cells ({ frames := 0, cells := 0, slots := 0, locals := 0 } : Room).slots) := by
  refine MetFree.of_bodySF (plainFor_of_name pn_1) hisR ?_
  intro p e s m args below meth c s₁ Bd hml0 hP hK
  obtain ⟨rfl, hZ, hh⟩ := hP
  have hx := Bd.exec
  have hby := Bd.bytes
  have hml : c.maxLocals = 1 := hml0
  have hown : s.vm.findClass "com/example/mod7/mod7/calendar/Dates" = some m.cls := findClass_of_methodNamed Bd.named
  have hnm := (name_of_methodNamed Bd.named Bd.method).1
  have X0 : Stand p l e ({ frames := 0, cells := 0, slots := 0, locals := 0 } : Room) s m #[(.int vy)] below meth c s₁ [] 0 0 := Stand.of_body Bd
  have e0 : s₁.heap = h0 := by rw [← hh, Bd.state]; rfl
  have N0 := Fr.nil n0
  have pre0 : ∀ t, Steps p.tables e below (s₁.setTop (mkF m 0 #[.val (.int vy)] [])) t → Steps p.tables e below (s₁.setTop (entryFrame m #[(.int vy)] 1)) t := fun t k => castTop (ef_rm2 m vy) k
  have pre2 : ∀ t, Steps p.tables e below (s₁.setTop (mkF m 3 #[.val (.int vy)] [(.int (vy &&& (3 : Int32)))])) t → Steps p.tables e below (s₁.setTop (entryFrame m #[(.int vy)] 1)) t := fun t kt => by
    refine pre0 _ ?_
    refine XS.iloadN X0.here hx rfl (hb hby d2_0) rfl ?_
    refine XS.iconst X0.here hx rfl (hb hby d2_1) ?_
    refine XS.iand X0.here hx rfl (hb hby d2_2) rfl ?_
    exact kt
  by_cases hc3_1 : (vy &&& (3 : Int32)).toInt = (0 : Int)
  · have pre4 : ∀ t, Steps p.tables e below (s₁.setTop (mkF m 10 #[.val (.int vy)] [(.int (vy % (100 : Int32)))])) t → Steps p.tables e below (s₁.setTop (entryFrame m #[(.int vy)] 1)) t := fun t kt => by
      refine pre2 _ ?_
      show Steps p.tables e below (s₁.setTop (mkF m 3 #[.val (.int vy)] [(.int (vy &&& (3 : Int32)))])) _
      refine XS.ifNo X0.here hx rfl (hb hby d2_3) rfl (own_if (own_teq (a := (vy &&& (3 : Int32))) (b := (0 : Int32)) rfl (by decide) hc3_1).2) ?_
      refine XS.iloadN X0.here hx rfl (hb hby d2_6) rfl ?_
      refine XS.bipush X0.here hx rfl (hb hby d2_7) ?_
      refine iremM X0 hx rfl (hb hby d2_9) rfl (by decide) ?_
      exact kt
    by_cases hc10_3 : (vy % (100 : Int32)).toInt = (0 : Int)
    · have pre6 : ∀ t, Steps p.tables e below (s₁.setTop (mkF m 18 #[.val (.int vy)] [(.int (vy % (400 : Int32)))])) t → Steps p.tables e below (s₁.setTop (entryFrame m #[(.int vy)] 1)) t := fun t kt => by
        refine pre4 _ ?_
        show Steps p.tables e below (s₁.setTop (mkF m 10 #[.val (.int vy)] [(.int (vy % (100 : Int32)))])) _
        refine XS.ifNo X0.here hx rfl (hb hby d2_10) rfl (own_if (own_teq (a := (vy % (100 : Int32))) (b := (0 : Int32)) rfl (by decide) hc10_3).2) ?_
        refine XS.iloadN X0.here hx rfl (hb hby d2_13) rfl ?_
        refine XS.sipush X0.here hx rfl (hb hby d2_14) ?_
        refine iremM X0 hx rfl (hb hby d2_17) rfl (by decide) ?_
        exact kt
      by_cases hc18_5 : (vy % (400 : Int32)).toInt = (0 : Int)
      · obtain ⟨fs, hr, hrun, hended, hW, hsame⟩ := X0.leave (v := some (.int (1 : Int32))) (fun h => by rw [Bd.returns] at h; cases h)
        refine ⟨_, _, pre6 _ ?_, hrun, hended, _, _, rfl, ?_, ⟨_, rfl⟩, hW, hsame.mono (by decide) (by decide)⟩
        · show Steps p.tables e below (s₁.setTop (mkF m 18 #[.val (.int vy)] [(.int (vy % (400 : Int32)))])) _
          refine XS.ifNo X0.here hx rfl (hb hby d2_18) rfl (own_if (own_teq (a := (vy % (400 : Int32))) (b := (0 : Int32)) rfl (by decide) hc18_5).2) ?_
          refine XS.iconst X0.here hx rfl (hb hby d2_21) ?_
          refine XS.goto X0.here hx rfl (pc0 := 22) (pc' := 26) rfl (hb hby d2_22) (by decide) (by decide) ?_
          exact retN X0 hx (t := .boolean) Bd.returns (by simp) (hb hby d2_26) hr
        · show Q2 Z vy h0 n0 _ s₁.heap _
          rw [e0]
          exact ⟨_, rfl, by have iv : ((1 : Int32)).toInt = (1 : Int) := (by decide); have := rng32 vy; have : ((vy &&& (3 : Int32))).toInt = vy.toInt % 4 := c_mask vy (3 : Int32) 2 (by decide) (by decide); have := c_irem vy (100 : Int32) 100 (by decide); have := c_irem vy (400 : Int32) 400 (by decide); omega, N0, rfl⟩
      · obtain ⟨fs, hr, hrun, hended, hW, hsame⟩ := X0.leave (v := some (.int (0 : Int32))) (fun h => by rw [Bd.returns] at h; cases h)
        refine ⟨_, _, pre6 _ ?_, hrun, hended, _, _, rfl, ?_, ⟨_, rfl⟩, hW, hsame.mono (by decide) (by decide)⟩
        · show Steps p.tables e below (s₁.setTop (mkF m 18 #[.val (.int vy)] [(.int (vy % (400 : Int32)))])) _
          refine XS.ifYes X0.here hx rfl (pc0 := 18) (pc' := 25) rfl (hb hby d2_18) rfl (own_if (own_feq (a := (vy % (400 : Int32))) (b := (0 : Int32)) rfl (by decide) hc18_5).2) (by decide) (by decide) ?_
          refine XS.iconst X0.here hx rfl (hb hby d2_25) ?_
          exact retN X0 hx (t := .boolean) Bd.returns (by simp) (hb hby d2_26) hr
        · show Q2 Z vy h0 n0 _ s₁.heap _
          rw [e0]
          exact ⟨_, rfl, by have iv : ((0 : Int32)).toInt = (0 : Int) := (by decide); have := rng32 vy; have : ((vy &&& (3 : Int32))).toInt = vy.toInt % 4 := c_mask vy (3 : Int32) 2 (by decide) (by decide); have := c_irem vy (100 : Int32) 100 (by decide); have := c_irem vy (400 : Int32) 400 (by decide); omega, N0, rfl⟩
    · obtain ⟨fs, hr, hrun, hended, hW, hsame⟩ := X0.leave (v := some (.int (1 : Int32))) (fun h => by rw [Bd.returns] at h; cases h)
      refine ⟨_, _, pre4 _ ?_, hrun, hended, _, _, rfl, ?_, ⟨_, rfl⟩, hW, hsame.mono (by decide) (by decide)⟩
      · show Steps p.tables e below (s₁.setTop (mkF m 10 #[.val (.int vy)] [(.int (vy % (100 : Int32)))])) _
        refine XS.ifYes X0.here hx rfl (pc0 := 10) (pc' := 21) rfl (hb hby d2_10) rfl (own_if (own_feq (a := (vy % (100 : Int32))) (b := (0 : Int32)) rfl (by decide) hc10_3).2) (by decide) (by decide) ?_
        refine XS.iconst X0.here hx rfl (hb hby d2_21) ?_
        refine XS.goto X0.here hx rfl (pc0 := 22) (pc' := 26) rfl (hb hby d2_22) (by decide) (by decide) ?_
        exact retN X0 hx (t := .boolean) Bd.returns (by simp) (hb hby d2_26) hr
      · show Q2 Z vy h0 n0 _ s₁.heap _
        rw [e0]
        exact ⟨_, rfl, by have iv : ((1 : Int32)).toInt = (1 : Int) := (by decide); have := rng32 vy; have : ((vy &&& (3 : Int32))).toInt = vy.toInt % 4 := c_mask vy (3 : Int32) 2 (by decide) (by decide); have := c_irem vy (100 : Int32) 100 (by decide); have := c_irem vy (400 : Int32) 400 (by decide); omega, N0, rfl⟩
  · obtain ⟨fs, hr, hrun, hended, hW, hsame⟩ := X0.leave (v := some (.int (0 : Int32))) (fun h => by rw [Bd.returns] at h; cases h)
    refine ⟨_, _, pre2 _ ?_, hrun, hended, _, _, rfl, ?_, ⟨_, rfl⟩, hW, hsame.mono (by decide) (by decide)⟩
    · show Steps p.tables e below (s₁.setTop (mkF m 3 #[.val (.int vy)] [(.int (vy &&& (3 : Int32)))])) _
      refine XS.ifYes X0.here hx rfl (pc0 := 3) (pc' := 25) rfl (hb hby d2_3) rfl (own_if (own_feq (a := (vy &&& (3 : Int32))) (b := (0 : Int32)) rfl (by decide) hc3_1).2) (by decide) (by decide) ?_
      refine XS.iconst X0.here hx rfl (hb hby d2_25) ?_
      exact retN X0 hx (t := .boolean) Bd.returns (by simp) (hb hby d2_26) hr
    · show Q2 Z vy h0 n0 _ s₁.heap _
      rw [e0]
      exact ⟨_, rfl, by have iv : ((0 : Int32)).toInt = (0 : Int) := (by decide); have := rng32 vy; have : ((vy &&& (3 : Int32))).toInt = vy.toInt % 4 := c_mask vy (3 : Int32) 2 (by decide) (by decide); have := c_irem vy (100 : Int32) 100 (by decide); have := c_irem vy (400 : Int32) 400 (by decide); omega, N0, rfl⟩
theorem d1_0 : decode method_5_code 0 = .ok (.iload_n 0, 1) := by decide +kernel
theorem d1_1 : decode method_5_code 1 = .ok (.invokestatic 23, 3) := by decide +kernel
theorem d1_4 : decode method_5_code 4 = .ok (.iload_n 0, 1) := by decide +kernel
theorem d1_5 : decode method_5_code 5 = .ok (.invokestatic 29, 3) := by decide +kernel
theorem d1_8 : decode method_5_code 8 = .ok (.if_icmp .ne 7, 3) := by decide +kernel
theorem d1_11 : decode method_5_code 11 = .ok (.iconst 1, 1) := by decide +kernel
theorem d1_12 : decode method_5_code 12 = .ok (.goto 4, 3) := by decide +kernel
theorem d1_16 : decode method_5_code 16 = .ok (.ireturn, 1) := by decide +kernel
theorem ef_rm1 (m : MethodId) (x0 : Int32) : entryFrame m #[(.int x0)] 1 = mkF m 0 #[.val (.int x0)] [] := by first | (simp [entryFrame, mkF, argsToLocals, Value.category]; done) | rfl
theorem pd_2 : parseMethodDescriptor "(I)Z" = some ⟨[.int], some .boolean⟩ := by decide +kernel
def Q1 (Z : State) (vy : Int32) (h0 : Heap) (n0 : Nat) (v : Option Value) (h : Heap) (L : List Loc) : Prop := ∃ z : Int32, v = some (.int z) ∧ (z.toInt = 1) ∧ Fr n0 L ∧ h = h0
set_option maxRecDepth 65536 in
set_option maxHeartbeats 40000000 in
theorem rm1 (l : Launch) (Z : State) (a0 : Array Value) (hw : ∀ d ∈ tables_1, d.before a0 Z = true) (ws : List Jvm.Cond) (vy : Int32) (h0 : Heap) (n0 : Nat) (Z0 : n0 ≤ h0.size) :
    MetFree l (⟨"com/example/mod7/mod7/calendar/DatesIsLeapPinLaw", "check", "(I)Z"⟩ : MethodName) (head1 (Jvm.Cond.code (⟨"com/example/mod7/mod7/calendar/DatesIsLeapPinLaw", "check", "(I)Z"⟩ : MethodName) method_5_code 1 (some .boolean) :: ws) ({ frames := 3, cells := 0, slots := 0, locals := 47 } : Room)) (fun a U => a = #[(.int vy)] ∧ Z.Warmed39 U.vm ∧ U.heap = h0) (fun _ _ _ _ _ => True) (fun _ U o U' => ∃ v L, o = .returned v ∧ Q1 Z vy h0 n0 v U'.heap L ∧ FrameEnd U o U' L ({ frames := 3, cells := 0, slots := 0, locals := 47 } : Room).cells ({ frames := 3, cells := 0, slots := 0, locals := 47 } : Room).slots) := by
  refine MetFree.of_bodySF (plainFor_of_name pn_0) hisR ?_
  intro p e s m args below meth c s₁ Bd hml0 hP hK
  obtain ⟨rfl, hZ, hh⟩ := hP
  have hx := Bd.exec
  have hby := Bd.bytes
  have hml : c.maxLocals = 1 := hml0
  have hown : s.vm.findClass "com/example/mod7/mod7/calendar/DatesIsLeapPinLaw" = some m.cls := findClass_of_methodNamed Bd.named
  have hnm := (name_of_methodNamed Bd.named Bd.method).1
  have X0 : Stand p l e ({ frames := 3, cells := 0, slots := 0, locals := 47 } : Room) s m #[(.int vy)] below meth c s₁ [] 0 0 := Stand.of_body Bd
  have e0 : s₁.heap = h0 := by rw [← hh, Bd.state]; rfl
  have N0 := Fr.nil n0
  have pre0 : ∀ t, Steps p.tables e below (s₁.setTop (mkF m 0 #[.val (.int vy)] [])) t → Steps p.tables e below (s₁.setTop (entryFrame m #[(.int vy)] 1)) t := fun t k => castTop (ef_rm1 m vy) k
  obtain ⟨_, _, ⟨T1, L1, k1, n1⟩, -, X1, ⟨Lc1, hQ1, l1, y1, z1⟩, st1⟩ := Jvm.LawKit.callS X0 hx (y := (⟨"com/example/mod7/mod7/calendar/Dates", "isLeap", "(I)Z"⟩ : MethodName)) hown (mvT hZ (hw _ (List.mem_of_getElem? (i := 4) rfl))) (mvT hZ (hw _ (List.mem_of_getElem? (i := 5) rfl))) (mvT hZ (hw _ (List.mem_of_getElem? (i := 6) rfl))) (mvT hZ (hw _ (List.mem_of_getElem? (i := 7) rfl))) (by decide) (backOf (W := 0) (rm2 l Z a0 hw [] vy h0 n0 Z0 ) hZ (hw _ (List.mem_of_getElem? (i := 7) rfl)) (hw _ (List.mem_of_getElem? (i := 6) rfl)) (by decide) (by decide)) (g := (mkF m 1 #[.val (.int vy)] [(.int vy)])) rfl (by rw [hml]; rfl) (argsL := [(.int vy)]) (rest := []) (lenOf pd_2 rfl) rfl (by show 2 * 0 + _ ≤ _; exact Nat.le_of_eq rfl) (hb hby d1_1) (fun _ _ => ⟨rfl, e0, (by decide : 0 + 0 ≤ _), (by decide : 0 + 0 ≤ _)⟩)
  dsimp only [Pt.U, Pt.locs, Pt.cells, Pt.slots] at X1 l1 y1 z1 st1 hQ1
  subst l1 y1 z1
  obtain ⟨ra, rfl, hra, N1q, e1⟩ := hQ1
  have N1 := Fr.app N0 N1q
  obtain ⟨_, _, ⟨T2, L2, k2, n2⟩, -, X2, ⟨Lc2, hQ2, l2, y2, z2⟩, st2⟩ := Jvm.LawKit.callS X1 hx (y := (⟨"com/example/mod7/mod7/calendar/DatesIsLeapPinLaw", "ref", "(I)Z"⟩ : MethodName)) hown (mvT hZ (hw _ (List.mem_of_getElem? (i := 8) rfl))) (mvT hZ (hw _ (List.mem_of_getElem? (i := 9) rfl))) (mvT hZ (hw _ (List.mem_of_getElem? (i := 2) rfl))) (mvT hZ (hw _ (List.mem_of_getElem? (i := 10) rfl))) (by decide) (backOf (W := 1) (rm3 l Z a0 hw [] vy h0 n0 Z0 ) hZ (hw _ (List.mem_of_getElem? (i := 10) rfl)) (hw _ (List.mem_of_getElem? (i := 2) rfl)) (by decide) (by decide)) (g := (mkF m 5 #[.val (.int vy)] [(.int vy), (.int ra)])) rfl (by rw [hml]; rfl) (argsL := [(.int vy)]) (rest := [(.int ra)]) (lenOf pd_2 rfl) rfl (by show 2 * 0 + _ ≤ _; exact Nat.le_of_eq rfl) (hb hby d1_5) (fun _ _ => ⟨rfl, e1, (by decide : 0 + 0 ≤ _), (by decide : 0 + 0 ≤ _)⟩)
  dsimp only [Pt.U, Pt.locs, Pt.cells, Pt.slots] at X2 l2 y2 z2 st2 hQ2
  subst l2 y2 z2
  obtain ⟨rb, rfl, hrb, N2q, e2⟩ := hQ2
  have N2 := Fr.app N1 N2q
  have hc8_3 : ra.toInt = rb.toInt := by omega
  obtain ⟨fs, hr, hrun, hended, hW, hsame⟩ := X2.leave (v := some (.int (1 : Int32))) (fun h => by rw [Bd.returns] at h; cases h)
  refine ⟨_, _, pre0 _ ?_, hrun, hended, _, _, rfl, ?_, ⟨_, rfl⟩, hW, hsame.mono (by decide) (by decide)⟩
  · refine XS.iloadN X0.here hx rfl (hb hby d1_0) rfl ?_
    refine st1 _ ?_
    refine XS.iloadN X1.here hx rfl (hb hby d1_4) rfl ?_
    refine st2 _ ?_
    show Steps p.tables e below (T2.setTop (mkF m 8 #[.val (.int vy)] [(.int rb), (.int ra)])) _
    refine XS.icmpNo X2.here hx rfl (hb hby d1_8) rfl (own_teq (a := ra) (b := rb) rfl rfl hc8_3).2 ?_
    refine XS.iconst X2.here hx rfl (hb hby d1_11) ?_
    refine XS.goto X2.here hx rfl (pc0 := 12) (pc' := 16) rfl (hb hby d1_12) (by decide) (by decide) ?_
    exact retN X2 hx (t := .boolean) Bd.returns (by simp) (hb hby d1_16) hr
  · show Q1 Z vy h0 n0 _ T2.heap _
    rw [e2]
    exact ⟨_, rfl, by have iv : ((1 : Int32)).toInt = (1 : Int) := (by decide); omega, N2, rfl⟩
theorem ef_rm0 (m : MethodId) (x0 : Int32) : entryFrame m #[(.int x0)] maxLocals = mkF m 0 #[.val (.int x0), .unset, .unset, .unset] [] := by first | (simp [entryFrame, mkF, argsToLocals, Value.category, maxLocals]; done) | rfl
def Q0 (Z : State) (vy : Int32) (h0 : Heap) (n0 : Nat) (v : Option Value) (h : Heap) (L : List Loc) : Prop := ∃ z : Int32, v = some (.int z) ∧ (z = 1) ∧ Fr n0 L ∧ h = h0
set_option maxRecDepth 65536 in
set_option maxHeartbeats 40000000 in
theorem rm0 (l : Launch) (Z : State) (a0 : Array Value) (hw : ∀ d ∈ tables_1, d.before a0 Z = true) (ws : List Jvm.Cond) (vy : Int32) (h0 : Heap) (n0 : Nat) (Z0 : n0 ≤ h0.size) :
    MetFree l x (head1 (Jvm.Cond.code x code maxLocals ret :: ws) room_1) (fun a U => a = #[(.int vy)] ∧ Z.Warmed39 U.vm ∧ U.heap = h0) (fun _ _ _ _ _ => True) (fun _ U o U' => ∃ v L, o = .returned v ∧ Q0 Z vy h0 n0 v U'.heap L ∧ FrameEnd U o U' L room_1.cells room_1.slots) := by
  refine MetFree.of_bodySF (plainFor_of_name pn_0) hisR ?_
  intro p e s m args below meth c s₁ Bd hml0 hP hK
  obtain ⟨rfl, hZ, hh⟩ := hP
  have hx := Bd.exec
  have hby := Bd.bytes
  have hml : c.maxLocals = 4 := hml0
  have hown : s.vm.findClass "com/example/mod7/mod7/calendar/DatesIsLeapPinLaw" = some m.cls := findClass_of_methodNamed Bd.named
  have hnm := (name_of_methodNamed Bd.named Bd.method).1
  have X0 : Stand p l e room_1 s m #[(.int vy)] below meth c s₁ [] 0 0 := Stand.of_body Bd
  have e0 : s₁.heap = h0 := by rw [← hh, Bd.state]; rfl
  have N0 := Fr.nil n0
  have pre0 : ∀ t, Steps p.tables e below (s₁.setTop (mkF m 0 #[.val (.int vy), .unset, .unset, .unset] [])) t → Steps p.tables e below (s₁.setTop (entryFrame m #[(.int vy)] maxLocals)) t := fun t k => castTop (ef_rm0 m vy) k
  obtain ⟨_, _, ⟨T1, L1, k1, n1⟩, -, X1, ⟨Lc1, hQ1, l1, y1, z1⟩, st1⟩ := Jvm.LawKit.callS X0 hx (y := (⟨"com/example/mod7/mod7/calendar/DatesIsLeapPinLaw", "check", "(I)Z"⟩ : MethodName)) hown (mvT hZ (hw _ (List.mem_of_getElem? (i := 0) rfl))) (mvT hZ (hw _ (List.mem_of_getElem? (i := 1) rfl))) (mvT hZ (hw _ (List.mem_of_getElem? (i := 2) rfl))) (mvT hZ (hw _ (List.mem_of_getElem? (i := 3) rfl))) (by decide) (backOf (W := 0) (rm1 l Z a0 hw [] vy h0 n0 Z0 ) hZ (hw _ (List.mem_of_getElem? (i := 3) rfl)) (hw _ (List.mem_of_getElem? (i := 2) rfl)) (by decide) (by decide)) (g := (mkF m 21 #[.val (.int vy), .val (.int (vy &&& (-4 : Int32))), .val (.int (vy - (vy % (100 : Int32)))), .val (.int (vy - (vy % (400 : Int32))))] [(.int vy)])) rfl (by rw [hml]; rfl) (argsL := [(.int vy)]) (rest := []) (lenOf pd_2 rfl) rfl (by show 2 * 0 + _ ≤ _; exact Nat.le_of_eq rfl) (hb hby at_21) (fun _ _ => ⟨rfl, e0, (by decide : 0 + 0 ≤ _), (by decide : 0 + 0 ≤ _)⟩)
  dsimp only [Pt.U, Pt.locs, Pt.cells, Pt.slots] at X1 l1 y1 z1 st1 hQ1
  subst l1 y1 z1
  obtain ⟨ra, rfl, hra, N1q, e1⟩ := hQ1
  have N1 := Fr.app N0 N1q
  have hc24_2 : ¬ (ra.toInt = (0 : Int)) := by omega
  obtain ⟨_, _, ⟨T3, L3, k3, n3⟩, -, X3, ⟨Lc3, hQ3, l3, y3, z3⟩, st3⟩ := Jvm.LawKit.callS X1 hx (y := (⟨"com/example/mod7/mod7/calendar/DatesIsLeapPinLaw", "check", "(I)Z"⟩ : MethodName)) hown (mvT hZ (hw _ (List.mem_of_getElem? (i := 0) rfl))) (mvT hZ (hw _ (List.mem_of_getElem? (i := 1) rfl))) (mvT hZ (hw _ (List.mem_of_getElem? (i := 2) rfl))) (mvT hZ (hw _ (List.mem_of_getElem? (i := 3) rfl))) (by decide) (backOf (W := 0) (rm1 l Z a0 hw [] (vy &&& (-4 : Int32)) h0 n0 Z0 ) hZ (hw _ (List.mem_of_getElem? (i := 3) rfl)) (hw _ (List.mem_of_getElem? (i := 2) rfl)) (by decide) (by decide)) (g := (mkF m 28 #[.val (.int vy), .val (.int (vy &&& (-4 : Int32))), .val (.int (vy - (vy % (100 : Int32)))), .val (.int (vy - (vy % (400 : Int32))))] [(.int (vy &&& (-4 : Int32)))])) rfl (by rw [hml]; rfl) (argsL := [(.int (vy &&& (-4 : Int32)))]) (rest := []) (lenOf pd_2 rfl) rfl (by show 2 * 0 + _ ≤ _; exact Nat.le_of_eq rfl) (hb hby at_28) (fun _ _ => ⟨rfl, e1, (by decide : 0 + 0 ≤ _), (by decide : 0 + 0 ≤ _)⟩)
  dsimp only [Pt.U, Pt.locs, Pt.cells, Pt.slots] at X3 l3 y3 z3 st3 hQ3
  subst l3 y3 z3
  obtain ⟨rb, rfl, hrb, N3q, e3⟩ := hQ3
  have N3 := Fr.app N1 N3q
  have hc31_4 : ¬ (rb.toInt = (0 : Int)) := by omega
  obtain ⟨_, _, ⟨T5, L5, k5, n5⟩, -, X5, ⟨Lc5, hQ5, l5, y5, z5⟩, st5⟩ := Jvm.LawKit.callS X3 hx (y := (⟨"com/example/mod7/mod7/calendar/DatesIsLeapPinLaw", "check", "(I)Z"⟩ : MethodName)) hown (mvT hZ (hw _ (List.mem_of_getElem? (i := 0) rfl))) (mvT hZ (hw _ (List.mem_of_getElem? (i := 1) rfl))) (mvT hZ (hw _ (List.mem_of_getElem? (i := 2) rfl))) (mvT hZ (hw _ (List.mem_of_getElem? (i := 3) rfl))) (by decide) (backOf (W := 0) (rm1 l Z a0 hw [] (vy - (vy % (100 : Int32))) h0 n0 Z0 ) hZ (hw _ (List.mem_of_getElem? (i := 3) rfl)) (hw _ (List.mem_of_getElem? (i := 2) rfl)) (by decide) (by decide)) (g := (mkF m 35 #[.val (.int vy), .val (.int (vy &&& (-4 : Int32))), .val (.int (vy - (vy % (100 : Int32)))), .val (.int (vy - (vy % (400 : Int32))))] [(.int (vy - (vy % (100 : Int32))))])) rfl (by rw [hml]; rfl) (argsL := [(.int (vy - (vy % (100 : Int32))))]) (rest := []) (lenOf pd_2 rfl) rfl (by show 2 * 0 + _ ≤ _; exact Nat.le_of_eq rfl) (hb hby at_35) (fun _ _ => ⟨rfl, e3, (by decide : 0 + 0 ≤ _), (by decide : 0 + 0 ≤ _)⟩)
  dsimp only [Pt.U, Pt.locs, Pt.cells, Pt.slots] at X5 l5 y5 z5 st5 hQ5
  subst l5 y5 z5
  obtain ⟨rc, rfl, hrc, N5q, e5⟩ := hQ5
  have N5 := Fr.app N3 N5q
  have hc38_6 : ¬ (rc.toInt = (0 : Int)) := by omega
  obtain ⟨_, _, ⟨T7, L7, k7, n7⟩, -, X7, ⟨Lc7, hQ7, l7, y7, z7⟩, st7⟩ := Jvm.LawKit.callS X5 hx (y := (⟨"com/example/mod7/mod7/calendar/DatesIsLeapPinLaw", "check", "(I)Z"⟩ : MethodName)) hown (mvT hZ (hw _ (List.mem_of_getElem? (i := 0) rfl))) (mvT hZ (hw _ (List.mem_of_getElem? (i := 1) rfl))) (mvT hZ (hw _ (List.mem_of_getElem? (i := 2) rfl))) (mvT hZ (hw _ (List.mem_of_getElem? (i := 3) rfl))) (by decide) (backOf (W := 0) (rm1 l Z a0 hw [] (vy - (vy % (400 : Int32))) h0 n0 Z0 ) hZ (hw _ (List.mem_of_getElem? (i := 3) rfl)) (hw _ (List.mem_of_getElem? (i := 2) rfl)) (by decide) (by decide)) (g := (mkF m 42 #[.val (.int vy), .val (.int (vy &&& (-4 : Int32))), .val (.int (vy - (vy % (100 : Int32)))), .val (.int (vy - (vy % (400 : Int32))))] [(.int (vy - (vy % (400 : Int32))))])) rfl (by rw [hml]; rfl) (argsL := [(.int (vy - (vy % (400 : Int32))))]) (rest := []) (lenOf pd_2 rfl) rfl (by show 2 * 0 + _ ≤ _; exact Nat.le_of_eq rfl) (hb hby at_42) (fun _ _ => ⟨rfl, e5, (by decide : 0 + 0 ≤ _), (by decide : 0 + 0 ≤ _)⟩)
  dsimp only [Pt.U, Pt.locs, Pt.cells, Pt.slots] at X7 l7 y7 z7 st7 hQ7
  subst l7 y7 z7
  obtain ⟨rd, rfl, hrd, N7q, e7⟩ := hQ7
  have N7 := Fr.app N5 N7q
  have hc45_8 : ¬ (rd.toInt = (0 : Int)) := by omega
  obtain ⟨fs, hr, hrun, hended, hW, hsame⟩ := X7.leave (v := some (.int (1 : Int32))) (fun h => by rw [Bd.returns] at h; cases h)
  refine ⟨_, _, pre0 _ ?_, hrun, hended, _, _, rfl, ?_, ⟨_, rfl⟩, hW, hsame.mono (by decide) (by decide)⟩
  · refine XS.iloadN X0.here hx rfl (hb hby at_0) rfl ?_
    refine XS.bipush X0.here hx rfl (hb hby at_1) ?_
    refine XS.iand X0.here hx rfl (hb hby at_3) rfl ?_
    refine XS.istoreN X0.here hx rfl (hb hby at_4) rfl (l' := #[.val (.int vy), .val (.int (vy &&& (-4 : Int32))), .unset, .unset]) rfl ?_
    show Steps p.tables e below (s₁.setTop (mkF m 5 #[.val (.int vy), .val (.int (vy &&& (-4 : Int32))), .unset, .unset] [])) _
    refine XS.iloadN X0.here hx rfl (hb hby at_5) rfl ?_
    refine XS.iloadN X0.here hx rfl (hb hby at_6) rfl ?_
    refine XS.bipush X0.here hx rfl (hb hby at_7) ?_
    refine iremM X0 hx rfl (hb hby at_9) rfl (by decide) ?_
    refine XS.isub X0.here hx rfl (hb hby at_10) rfl ?_
    show Steps p.tables e below (s₁.setTop (mkF m 11 #[.val (.int vy), .val (.int (vy &&& (-4 : Int32))), .unset, .unset] [(.int (vy - (vy % (100 : Int32))))])) _
    refine XS.istoreN X0.here hx rfl (hb hby at_11) rfl (l' := #[.val (.int vy), .val (.int (vy &&& (-4 : Int32))), .val (.int (vy - (vy % (100 : Int32)))), .unset]) rfl ?_
    refine XS.iloadN X0.here hx rfl (hb hby at_12) rfl ?_
    refine XS.iloadN X0.here hx rfl (hb hby at_13) rfl ?_
    refine XS.sipush X0.here hx rfl (hb hby at_14) ?_
    refine iremM X0 hx rfl (hb hby at_17) rfl (by decide) ?_
    show Steps p.tables e below (s₁.setTop (mkF m 18 #[.val (.int vy), .val (.int (vy &&& (-4 : Int32))), .val (.int (vy - (vy % (100 : Int32)))), .unset] [(.int (vy % (400 : Int32))), (.int vy)])) _
    refine XS.isub X0.here hx rfl (hb hby at_18) rfl ?_
    refine XS.istoreN X0.here hx rfl (hb hby at_19) rfl (l' := #[.val (.int vy), .val (.int (vy &&& (-4 : Int32))), .val (.int (vy - (vy % (100 : Int32)))), .val (.int (vy - (vy % (400 : Int32))))]) rfl ?_
    refine XS.iloadN X0.here hx rfl (hb hby at_20) rfl ?_
    refine st1 _ ?_
    refine XS.ifNo X1.here hx rfl (hb hby at_24) rfl (own_if (own_feq (a := ra) (b := (0 : Int32)) rfl (by decide) hc24_2).1) ?_
    show Steps p.tables e below (T1.setTop (mkF m 27 #[.val (.int vy), .val (.int (vy &&& (-4 : Int32))), .val (.int (vy - (vy % (100 : Int32)))), .val (.int (vy - (vy % (400 : Int32))))] [])) _
    refine XS.iloadN X1.here hx rfl (hb hby at_27) rfl ?_
    refine st3 _ ?_
    refine XS.ifNo X3.here hx rfl (hb hby at_31) rfl (own_if (own_feq (a := rb) (b := (0 : Int32)) rfl (by decide) hc31_4).1) ?_
    refine XS.iloadN X3.here hx rfl (hb hby at_34) rfl ?_
    refine st5 _ ?_
    show Steps p.tables e below (T5.setTop (mkF m 38 #[.val (.int vy), .val (.int (vy &&& (-4 : Int32))), .val (.int (vy - (vy % (100 : Int32)))), .val (.int (vy - (vy % (400 : Int32))))] [(.int rc)])) _
    refine XS.ifNo X5.here hx rfl (hb hby at_38) rfl (own_if (own_feq (a := rc) (b := (0 : Int32)) rfl (by decide) hc38_6).1) ?_
    refine XS.iloadN X5.here hx rfl (hb hby at_41) rfl ?_
    refine st7 _ ?_
    refine XS.ifNo X7.here hx rfl (hb hby at_45) rfl (own_if (own_feq (a := rd) (b := (0 : Int32)) rfl (by decide) hc45_8).1) ?_
    refine XS.iconst X7.here hx rfl (hb hby at_48) ?_
    show Steps p.tables e below (T7.setTop (mkF m 49 #[.val (.int vy), .val (.int (vy &&& (-4 : Int32))), .val (.int (vy - (vy % (100 : Int32)))), .val (.int (vy - (vy % (400 : Int32))))] [(.int (1 : Int32))])) _
    refine XS.goto X7.here hx rfl (pc0 := 49) (pc' := 53) rfl (hb hby at_49) (by decide) (by decide) ?_
    exact retN X7 hx (t := .boolean) Bd.returns (by simp) (hb hby at_53) hr
  · show Q0 Z vy h0 n0 _ T7.heap _
    rw [e7]
    exact ⟨_, rfl, rfl, N7, rfl⟩
set_option maxRecDepth 65536 in
set_option maxHeartbeats 40000000 in
theorem comes_1 {Post : Tables → Env → Array Value → State → Outcome → State → Prop} (hpost : ∀ tb e args s v u, (limb_1_1.after args s (.returned v) u = true ∧ limb_1_2.after args s (.returned v) u = true ∧ True) → FrameEnd s (.returned v) u (Jvm.fieldLocs frame_1_writes args s ++ Jvm.arrayLocs frame_1_arrays args s ++ Jvm.staticLocs frame_1_statics s) 0 0 → Post tb e args s (.returned v) u) :
    ArmFor flags0 classFile x code maxLocals ret World_1 tables_1 room_1 Calls_1 rest_1 Pre_1 Post := by
  intro l hfl _ _ p e ha hc hk s m args below hf hA hF happ hP
  obtain ⟨hcalls, hrest, hpre⟩ := hP
  obtain ⟨-, -, -, hnamed, -, -, -, hat⟩ := (Spec.applies_iff hf).mp happ
  obtain ⟨hg, hn⟩ := and_e (Cond.before_iff.mp (show (Jvm.Cond.and given_1 narrow_1).before args s = true from hpre))
  obtain ⟨g0, gr0⟩ := and_e hg
  obtain ⟨w0, rfl⟩ : ∃ w0 : Value, args = #[w0] := by
    have hs : args.size = 1 := by simpa [Cond.value, given_1] using g0
    obtain ⟨L⟩ := args
    match L, hs with
    | [w0], _ => exact ⟨w0, rfl⟩
  have hw := fun d (hd : d ∈ tables_1) => atoms_spec (ws := Jvm.Cond.code x code maxLocals ret :: tables_1) hat d (List.mem_cons_of_mem _ hd)
  have hfit : Fit s := fun {y c} hc i hi => by
    obtain ⟨ha, rfl⟩ := Array.getElem?_eq_some_iff.mp hc
    have q := List.all_eq_true.mp ((Array.all_eq_true_iff_forall_mem.mp hF) _ (Array.getElem_mem ha)) i (List.mem_range.mpr hi)
    simpa [Array.getElem?_eq_getElem hi] using q
  obtain ⟨i0, ei0⟩ := is_v gr0
  obtain rfl : w0 = (.int i0) := Option.some.inj ei0
  obtain ⟨n, o, h1, h2, h3, v0, L, rfl, hQ, hq⟩ := rm0 l s _ hw tables_1 i0 s.heap s.heap.size (Nat.le_refl _)  p e ha hc hk s m _ below hf ((Spec.applies_iff_loose hf).mp happ).1 ⟨rfl, State.Warmed39.refl s, rfl⟩ trivial
  obtain ⟨rfl, N⟩ : v0 = some (.int (1 : Int32)) ∧ Fr s.heap.size L := by obtain ⟨z, rfl, rfl, N, -⟩ := hQ; exact ⟨rfl, N⟩
  refine ⟨n, _, h1, h2, h3, hpost _ _ _ _ _ _ ⟨Cond.after_iff.mpr rfl, Cond.after_iff.mpr (eq_i res_at (Term.int_eval (1)) rfl), trivial⟩ ⟨hq.1, hq.2.1, (hq.2.2.sift fun y hy => Or.inr (N y hy)).mono (by decide) (by decide)⟩⟩
theorem main_1_1 : Claimed_1_1 := comes_1 fun _ _ _ _ _ _ h hF => ⟨h.1, hF⟩
theorem main_1_2 : Claimed_1_2 := comes_1 fun _ _ _ _ _ _ h hF => ⟨h.2.1, hF⟩
end Jvm.Pilot.@@N@@
namespace Jvm.Pilot.@@N@@
open Jvm Jvm.ClassFile Sem Op Lib Jvm.Free Jvm.Stand Jvm.Pilot.@@N@@.Jvm.D
/-! MADE BY PROGRAM (witnessworld.py) out of the Statement's table words and the real class files: 9 classes; the members and pool entries that the words name. The judged class is class 1, her method 5. -/
namespace start1
open Jvm.ClassFile
def u (s : String) : CpInfo := .utf8 (stringToUtf16 s)
/-- a pool by its gaps: so many unusable entries, then the entry; so many at the end -/
def gap : Nat → List CpInfo → List CpInfo
  | 0, r => r
  | n + 1, r => .unusable :: gap n r
def poolList (es : List (Nat × CpInfo)) (last : Nat) : List CpInfo := es.foldr (fun e r => gap e.1 (e.2 :: r)) (gap last [])
def pool (es : List (Nat × CpInfo)) (last : Nat) : Array CpInfo := ⟨poolList es last⟩
def fileOf (pool : Array CpInfo) (this : Nat) (attrs : Array Attribute := #[]) (ms : Array MethodInfo := #[]) (fl : Nat := 33) (sup : Nat := 0) (ifs : Array Nat := #[]) (fds : Array FieldInfo := #[]) : ClassFile where
  minorVersion := 0
  majorVersion := 65
  constantPool := pool
  accessFlags := fl
  thisClass := this
  superClass := sup
  interfaces := ifs
  fields := fds
  methods := ms
  attributes := attrs
def plain (name : String) (sup : Option ClassId) : Class where
  name := name
  kind := .ordinary
  loader := none
  accessFlags := 33
  super := sup
  interfaces := #[]
  cf := none
  fields := #[]
  methods := #[]
  instanceTypes := #[]
  staticTypes := #[]
  resolved := #[]
  callSites := []
  init := .initialized
  statics := none
  mirror := none

def pool0 : Array CpInfo := pool [(5, u "<init>"), (0, u "()V"), (1, .class_ 10), (1, u "java/lang/Object")] 113

def k0m0 : Method := { name := "<init>", desc := "()V", sig := { parameters := [], returnType := none }, accessFlags := 1, code := none }
/-- java/lang/Object -/
def k0 : Class := { plain "java/lang/Object" none with
  accessFlags := 33
  interfaces := #[]
  cf := some (fileOf pool0 8 #[] #[{ accessFlags := 1, nameIndex := 5, descriptorIndex := 6, attributes := #[] }] 33 0 #[] #[])
  fields := #[]
  methods := #[k0m0]
  instanceTypes := #[]
  staticTypes := #[]
  resolved := Array.replicate 124 none
  statics := none }

def pool1 : Array CpInfo := pool [(2, .class_ 4), (1, u "java/lang/Object"), (0, u "<init>"), (0, u "()V"), (0, .long 4), (1, .methodref 10 11), (0, .class_ 12), (0, .nameAndType 13 14), (0, u "com/example/mod7/mod7/calendar/DatesIsLeapPinLaw"), (0, u "fd"), (0, u "(JJ)J"), (0, .long 100), (1, .long 400), (1, .methodref 10 20), (0, .nameAndType 21 22), (0, u "leapsUpTo"), (0, u "(J)J"), (0, .methodref 24 25), (0, .class_ 26), (0, .nameAndType 27 28), (0, u "com/example/mod7/mod7/calendar/Dates"), (0, u "isLeap"), (0, u "(I)Z"), (0, .methodref 10 30), (0, .nameAndType 31 28), (0, u "ref"), (0, .methodref 10 33), (0, .nameAndType 34 28), (0, u "check"), (3, u "law")] 2

def k1m0 : Method := { name := "<init>", desc := "()V", sig := { parameters := [], returnType := none }, accessFlags := 2, code := none }
def k1c1 : Code := { maxStack := 4, maxLocals := 4, code := method_2_code, exceptionTable := #[], attributes := #[] }
def k1m1 : Method := { name := "fd", desc := "(JJ)J", sig := { parameters := [.long, .long], returnType := some .long }, accessFlags := 10, code := some k1c1 }
def k1c2 : Code := { maxStack := 6, maxLocals := 2, code := method_3_code, exceptionTable := #[], attributes := #[] }
def k1m2 : Method := { name := "leapsUpTo", desc := "(J)J", sig := { parameters := [.long], returnType := some .long }, accessFlags := 10, code := some k1c2 }
def k1c3 : Code := { maxStack := 6, maxLocals := 3, code := method_4_code, exceptionTable := #[], attributes := #[] }
def k1m3 : Method := { name := "ref", desc := "(I)Z", sig := { parameters := [.int], returnType := some .boolean }, accessFlags := 10, code := some k1c3 }
def k1c4 : Code := { maxStack := 2, maxLocals := 1, code := method_5_code, exceptionTable := #[], attributes := #[] }
def k1m4 : Method := { name := "check", desc := "(I)Z", sig := { parameters := [.int], returnType := some .boolean }, accessFlags := 10, code := some k1c4 }
def k1c5 : Code := { maxStack := 3, maxLocals := 4, code := code, exceptionTable := #[], attributes := #[] }
def k1m5 : Method := { name := "law", desc := "(I)Z", sig := { parameters := [.int], returnType := some .boolean }, accessFlags := 9, code := some k1c5 }
/-- com/example/mod7/mod7/calendar/DatesIsLeapPinLaw -/
def k1 : Class := { plain "com/example/mod7/mod7/calendar/DatesIsLeapPinLaw" (some 0) with
  accessFlags := 49
  interfaces := #[]
  cf := some (fileOf pool1 10 #[] #[{ accessFlags := 2, nameIndex := 5, descriptorIndex := 6, attributes := #[] }, { accessFlags := 10, nameIndex := 13, descriptorIndex := 14, attributes := #[] }, { accessFlags := 10, nameIndex := 21, descriptorIndex := 22, attributes := #[] }, { accessFlags := 10, nameIndex := 31, descriptorIndex := 28, attributes := #[] }, { accessFlags := 10, nameIndex := 34, descriptorIndex := 28, attributes := #[] }, { accessFlags := 9, nameIndex := 38, descriptorIndex := 28, attributes := #[] }] 49 2 #[] #[])
  fields := #[]
  methods := #[k1m0, k1m1, k1m2, k1m3, k1m4, k1m5]
  instanceTypes := #[]
  staticTypes := #[]
  resolved := Array.replicate 41 none
  statics := none }

def pool2 : Array CpInfo := pool [(1, .class_ 2), (0, u "com/example/mod7/mod7/calendar/Dates"), (1, .class_ 6), (1, u "java/lang/Object"), (0, u "<init>"), (0, u "()V"), (10, u "FIRST"), (0, u "Ljava/time/LocalDate;"), (8, u "LAST"), (57, u "DAYS_BEFORE_MONTH"), (0, u "[I"), (2, u "isLeap"), (0, u "(I)Z"), (68, u "WRITTEN_LENGTH"), (0, u "I"), (2, u "YEAR_ONE_TO_1970"), (0, u "J"), (0, u "MARCH_OF_YEAR_ZERO_TO_1970"), (0, u "DAYS_IN_ERA"), (0, u "YEARS_IN_ERA")] 39

def k2m0 : Method := { name := "<init>", desc := "()V", sig := { parameters := [], returnType := none }, accessFlags := 2, code := none }
def k2c1 : Code := { maxStack := 2, maxLocals := 1, code := prog_2_method_11_code, exceptionTable := #[], attributes := #[] }
def k2m1 : Method := { name := "isLeap", desc := "(I)Z", sig := { parameters := [.int], returnType := some .boolean }, accessFlags := 9, code := some k2c1 }
/-- com/example/mod7/mod7/calendar/Dates -/
def k2 : Class := { plain "com/example/mod7/mod7/calendar/Dates" (some 0) with
  accessFlags := 33
  interfaces := #[]
  cf := some (fileOf pool2 1 #[] #[{ accessFlags := 2, nameIndex := 7, descriptorIndex := 8, attributes := #[] }, { accessFlags := 9, nameIndex := 91, descriptorIndex := 92, attributes := #[] }] 33 4 #[] #[{ accessFlags := 25, nameIndex := 19, descriptorIndex := 20, attributes := #[] }, { accessFlags := 25, nameIndex := 29, descriptorIndex := 20, attributes := #[] }, { accessFlags := 25, nameIndex := 161, descriptorIndex := 162, attributes := #[] }, { accessFlags := 26, nameIndex := 87, descriptorIndex := 88, attributes := #[] }, { accessFlags := 26, nameIndex := 165, descriptorIndex := 166, attributes := #[] }, { accessFlags := 26, nameIndex := 167, descriptorIndex := 166, attributes := #[] }, { accessFlags := 26, nameIndex := 168, descriptorIndex := 162, attributes := #[] }, { accessFlags := 26, nameIndex := 169, descriptorIndex := 162, attributes := #[] }])
  fields := #[{ name := "FIRST", type := (.object "java/time/LocalDate"), accessFlags := 25, slot := 0, constantValue := 0 }, { name := "LAST", type := (.object "java/time/LocalDate"), accessFlags := 25, slot := 1, constantValue := 0 }, { name := "WRITTEN_LENGTH", type := .int, accessFlags := 25, slot := 2, constantValue := 0 }, { name := "DAYS_BEFORE_MONTH", type := (.array .int), accessFlags := 26, slot := 3, constantValue := 0 }, { name := "YEAR_ONE_TO_1970", type := .long, accessFlags := 26, slot := 4, constantValue := 0 }, { name := "MARCH_OF_YEAR_ZERO_TO_1970", type := .long, accessFlags := 26, slot := 5, constantValue := 0 }, { name := "DAYS_IN_ERA", type := .int, accessFlags := 26, slot := 6, constantValue := 0 }, { name := "YEARS_IN_ERA", type := .int, accessFlags := 26, slot := 7, constantValue := 0 }]
  methods := #[k2m0, k2m1]
  instanceTypes := #[]
  staticTypes := #[(.object "java/time/LocalDate"), (.object "java/time/LocalDate"), .int, (.array .int), .long, .long, .int, .int]
  resolved := Array.replicate 209 none
  statics := none }

def pool3 : Array CpInfo := pool [(1, u "java/lang/Cloneable"), (0, .class_ 1), (0, u "java/lang/Object"), (0, .class_ 3)] 3

/-- java/lang/Cloneable -/
def k3 : Class := { plain "java/lang/Cloneable" (some 0) with
  accessFlags := 1537
  interfaces := #[]
  cf := some (fileOf pool3 2 #[] #[] 1537 4 #[] #[])
  fields := #[]
  methods := #[]
  instanceTypes := #[]
  staticTypes := #[]
  resolved := Array.replicate 8 none
  statics := none }

def pool4 : Array CpInfo := pool [(1, u "java/io/Serializable"), (0, .class_ 1), (0, u "java/lang/Object"), (0, .class_ 3)] 3

/-- java/io/Serializable -/
def k4 : Class := { plain "java/io/Serializable" (some 0) with
  accessFlags := 1537
  interfaces := #[]
  cf := some (fileOf pool4 2 #[] #[] 1537 4 #[] #[])
  fields := #[]
  methods := #[]
  instanceTypes := #[]
  staticTypes := #[]
  resolved := Array.replicate 8 none
  statics := none }

/-- the primitive byte -/
def k5 : Class := { plain "byte" none with kind := .primitive 'B', accessFlags := 0x411 }
/-- [B -/
def k6 : Class := { plain "[B" (some 0) with kind := .array 5 .byte, interfaces := #[3, 4], accessFlags := 1041 }

/-- the primitive int -/
def k7 : Class := { plain "int" none with kind := .primitive 'I', accessFlags := 0x411 }
/-- [I -/
def k8 : Class := { plain "[I" (some 0) with kind := .array 7 .int, interfaces := #[3, 4], accessFlags := 1041 }

def heap : Heap := #[]
def classes : Array Class := #[k0, k1, k2, k3, k4, k5, k6, k7, k8]
def interned : List (Array UInt16 × Addr) := []
def slotsUsed : Nat := 0
def theMethod : MethodId := ⟨1, 5⟩
def args0 : Array Value := #[.int 5]
def aboutOver (below : List Frame) : State where
  vm := { classes := classes, interned := interned.toArray }
  heap := heap
  slotsUsed := slotsUsed
  threads := #[{ frames := .invoking theMethod args0 :: below }]
def below0 : List Frame := [.native { method := ⟨0, 0⟩, args := #[] }]
def about1 : State := aboutOver below0
def p0 : Program := .bare "" "" ""
def e0 : Env := launch0.env 0 0 0
theorem w_frames : about1.frames = Frame.invoking theMethod args0 :: below0 := rfl
set_option maxRecDepth 65536 in
theorem w_args : argsFit about1.vm theMethod args0 = true := by decide +kernel
set_option maxRecDepth 65536 in
theorem w_heap : heapFits about1 = true := by decide +kernel
set_option maxRecDepth 65536 in
theorem w_runnable : about1.curStatus? = some .runnable := by decide +kernel
set_option maxRecDepth 65536 in
theorem w_alone : about1.alone = true := by decide +kernel
set_option maxRecDepth 65536 in
theorem w_named : about1.methodNamed? x = some theMethod := by decide +kernel
set_option maxRecDepth 65536 in
theorem w_hears : about1.hears theMethod below0 = true := by decide +kernel
set_option maxRecDepth 65536 in
theorem w_ripe : about1.ripe theMethod args0 below0 = true := by decide +kernel
theorem w_running : about1.status = .running := rfl
set_option maxRecDepth 65536 in
theorem w_room : about1.hasRoom e0.platform room_1 = true :=
  launch0.hasRoom_least _ room_1 (by decide +kernel) (by decide +kernel) (by decide +kernel) (by decide +kernel) (by decide +kernel) (by decide +kernel)
theorem allAtoms_all (ts : List Jvm.Cond) (a : Array Jvm.Value) (st : Jvm.State) : (allAtoms ts).before a st = ts.all (fun c => c.before a st) := by
  induction ts with
  | nil => rfl
  | cons c t ih =>
    show (Jvm.Cond.and c (allAtoms t)).before a st = _
    rw [Jvm.Cond.before_and, ih, List.all_cons]
def words1 : List Jvm.Cond := Jvm.Cond.code x code maxLocals ret :: tables_1
/-- a 'code' word, met by the world's own term for the bytes: nothing is compared byte by byte -/
theorem code_word {y : MethodName} {bytes : ByteArray} {mx : Nat} {rt : Option FieldType} {a : Array Value} {s : State} {m : MethodId} {meth : Method} {c : Code} (h1 : s.methodNamed? y = some m) (h2 : s.vm.method? m = some meth) (h3 : meth.code = some c) (h4 : c.code = bytes)
    (h5 : (c.maxLocals == mx && c.exceptionTable.isEmpty && decide (c.maxStack ≤ mostOperands) && decide (meth.sig.returnType = rt) && !meth.locks && decide (parseMethodDescriptor y.desc = some meth.sig)) = true) : (Jvm.Cond.code y bytes mx rt).before a s = true := by
  simp only [Bool.and_eq_true, beq_iff_eq, Bool.not_eq_true', decide_eq_true_eq] at h5
  obtain ⟨⟨⟨⟨⟨g1, g2⟩, g3⟩, g4⟩, g5⟩, g6⟩ := h5
  simp [Cond.before, Cond.holds, Cond.value, h1, h2, h3, h4, g1, g2, g3, g4, g5, g6]
def isCode : Jvm.Cond → Bool
  | .code _ _ _ _ => true
  | _ => false
theorem all_split {L : List Jvm.Cond} {P : Jvm.Cond → Bool} (h1 : L.all (fun c => isCode c || P c) = true) (h2 : ∀ c ∈ L.filter isCode, P c = true) : L.all P = true := by
  refine List.all_eq_true.mpr fun c hc => ?_
  have h := List.all_eq_true.mp h1 c hc
  rcases Bool.eq_false_or_eq_true (isCode c) with hi | hi
  · exact h2 c (List.mem_filter.mpr ⟨hc, hi⟩)
  · simpa [hi] using h
set_option maxRecDepth 65536 in
theorem w_c0 : (Jvm.Cond.code x code maxLocals ret).before args0 about1 = true := code_word (m := ⟨1, 5⟩) (meth := k1m5) (c := k1c5) (by decide +kernel) rfl rfl rfl (by decide +kernel)
set_option maxRecDepth 65536 in
theorem w_c1 : (Jvm.Cond.code ({ cls := "com/example/mod7/mod7/calendar/DatesIsLeapPinLaw", name := "check", desc := "(I)Z" } : Jvm.MethodName) method_5_code (1 : Nat) (Option.some Jvm.ClassFile.FieldType.boolean)).before args0 about1 = true := code_word (m := ⟨1, 4⟩) (meth := k1m4) (c := k1c4) (by decide +kernel) rfl rfl rfl (by decide +kernel)
set_option maxRecDepth 65536 in
theorem w_c2 : (Jvm.Cond.code ({ cls := "com/example/mod7/mod7/calendar/Dates", name := "isLeap", desc := "(I)Z" } : Jvm.MethodName) prog_2_method_11_code (1 : Nat) (Option.some Jvm.ClassFile.FieldType.boolean)).before args0 about1 = true := code_word (m := ⟨2, 1⟩) (meth := k2m1) (c := k2c1) (by decide +kernel) rfl rfl rfl (by decide +kernel)
set_option maxRecDepth 65536 in
theorem w_c3 : (Jvm.Cond.code ({ cls := "com/example/mod7/mod7/calendar/DatesIsLeapPinLaw", name := "ref", desc := "(I)Z" } : Jvm.MethodName) method_4_code (3 : Nat) (Option.some Jvm.ClassFile.FieldType.boolean)).before args0 about1 = true := code_word (m := ⟨1, 3⟩) (meth := k1m3) (c := k1c3) (by decide +kernel) rfl rfl rfl (by decide +kernel)
set_option maxRecDepth 65536 in
theorem w_c4 : (Jvm.Cond.code ({ cls := "com/example/mod7/mod7/calendar/DatesIsLeapPinLaw", name := "leapsUpTo", desc := "(J)J" } : Jvm.MethodName) method_3_code (2 : Nat) (Option.some Jvm.ClassFile.FieldType.long)).before args0 about1 = true := code_word (m := ⟨1, 2⟩) (meth := k1m2) (c := k1c2) (by decide +kernel) rfl rfl rfl (by decide +kernel)
set_option maxRecDepth 65536 in
theorem w_c5 : (Jvm.Cond.code ({ cls := "com/example/mod7/mod7/calendar/DatesIsLeapPinLaw", name := "fd", desc := "(JJ)J" } : Jvm.MethodName) method_2_code (4 : Nat) (Option.some Jvm.ClassFile.FieldType.long)).before args0 about1 = true := code_word (m := ⟨1, 1⟩) (meth := k1m1) (c := k1c1) (by decide +kernel) rfl rfl rfl (by decide +kernel)
def codes1 : List Jvm.Cond := [Jvm.Cond.code x code maxLocals ret, Jvm.Cond.code ({ cls := "com/example/mod7/mod7/calendar/DatesIsLeapPinLaw", name := "check", desc := "(I)Z" } : Jvm.MethodName) method_5_code (1 : Nat) (Option.some Jvm.ClassFile.FieldType.boolean), Jvm.Cond.code ({ cls := "com/example/mod7/mod7/calendar/Dates", name := "isLeap", desc := "(I)Z" } : Jvm.MethodName) prog_2_method_11_code (1 : Nat) (Option.some Jvm.ClassFile.FieldType.boolean), Jvm.Cond.code ({ cls := "com/example/mod7/mod7/calendar/DatesIsLeapPinLaw", name := "ref", desc := "(I)Z" } : Jvm.MethodName) method_4_code (3 : Nat) (Option.some Jvm.ClassFile.FieldType.boolean), Jvm.Cond.code ({ cls := "com/example/mod7/mod7/calendar/DatesIsLeapPinLaw", name := "leapsUpTo", desc := "(J)J" } : Jvm.MethodName) method_3_code (2 : Nat) (Option.some Jvm.ClassFile.FieldType.long), Jvm.Cond.code ({ cls := "com/example/mod7/mod7/calendar/DatesIsLeapPinLaw", name := "fd", desc := "(JJ)J" } : Jvm.MethodName) method_2_code (4 : Nat) (Option.some Jvm.ClassFile.FieldType.long)]
set_option maxRecDepth 65536 in
theorem codes_eq : words1.filter isCode = codes1 := rfl
theorem w_codes : ∀ c ∈ words1.filter isCode, c.before args0 about1 = true := by
  rw [codes_eq]
  intro c hc
  simp only [codes1, List.mem_cons, List.not_mem_nil, or_false] at hc
  rcases hc with rfl | rfl | rfl | rfl | rfl | rfl
  · exact w_c0
  · exact w_c1
  · exact w_c2
  · exact w_c3
  · exact w_c4
  · exact w_c5
set_option maxRecDepth 65536 in
theorem w_t1 : words1.all (fun c => isCode c || c.before args0 about1) = true := by decide +kernel
theorem w_tables : (allAtoms (Jvm.Cond.code x code maxLocals ret :: tables_1)).before args0 about1 = true := by
  rw [allAtoms_all]
  show words1.all (fun c => c.before args0 about1) = true
  refine all_split ?_ w_codes
  rw [w_t1]
set_option maxRecDepth 65536 in
theorem w_case : (Jvm.Cond.and given_1 narrow_1).before args0 about1 = true := by decide +kernel
theorem w_applies : (headSpec (Jvm.Cond.code x code maxLocals ret :: tables_1) room_1).applies x e0.platform about1 = true :=
  (Spec.applies_iff w_frames).mpr ⟨w_running, w_runnable, w_alone, w_named, w_hears, w_ripe, w_room, w_tables⟩
theorem atStart : AtStart classFile x code maxLocals ret World_1 tables_1 room_1 Calls_1 rest_1 Pre_1 launch0 p0 e0 about1 theMethod args0 below0 :=
  ⟨lists_1, trivial, launch0.admits_env _ _ _, launch0.least_env, fairChoices_fair.cas, fairChoices_fair.clock, w_frames, w_args, w_heap, w_applies, trivial, trivial, w_case⟩
end start1
theorem witness_1 : WitnessClaimed_1 := ⟨start1.p0, start1.e0, start1.about1, start1.theMethod, start1.args0, start1.below0, start1.atStart⟩
end Jvm.Pilot.@@N@@
