import JvmDerived
import JvmDerived.Pilot.@@N@@Statement
import JvmDerived.Pilot.@@N@@Code
set_option linter.unusedVariables false
set_option linter.unusedSimpArgs false
namespace Jvm.RoadKit
open Sem ClassFile Op Lib Jvm.Stand Jvm.Free Jvm.LawKit
section New
variable {p : Program} {l : Launch} {e : Env} {R : Room} {s : State} {m : MethodId} {args : Array Value} {below : List Frame} {meth : Method} {c : Code} {T : State} {locs : List Loc} {cells slots : Nat}
theorem retI (X : Stand p l e R s m args below meth c T locs cells slots) (hx : p.tables.exec = Jvm.exec) {pc : Nat} {Ls : Array Slot} {z : Int32} {rest : List Value} (hret : meth.sig.returnType = some .int) (hd : decode c.code pc = .ok (.ireturn, 1)) {fs : List Frame}
    (hl : ∀ (f : JFrame) (acts : List Action), f.method = m → f.locked = none → f.entered = [] → (doReturn e (T.setTop f) acts (some (.int z))).1 = T.setFrames fs) : Steps p.tables e below (T.setTop (mkF m pc Ls (.int z :: rest))) (T.setFrames fs) := by
  have hm' : T.vm.method? m = some meth := X.method'
  have hn : narrow .int (.int z) = .int z := rfl
  show Steps p.tables e below (T.setTop { method := m, pc := pc, locals := Ls, stack := _ :: rest, locked := none }) _
  jvm_step X.here [X.here.top, hx, hd, hm', hret, hn]
  first | (intro acts; rw [hl _ acts rfl rfl rfl]) | rw [hl _ _ rfl rfl rfl]
  exact Steps.refl _
end New
end Jvm.RoadKit
namespace Jvm.Pilot.@@N@@
open Jvm Jvm.ClassFile Sem Op Lib Jvm.Free Jvm.Stand Jvm.LawKit Jvm.RoadKit Bundle Jvm.Pilot.@@N@@.Jvm.D
theorem own_tlt {a b : Int32} {x y : Int} (ha : a.toInt = x) (hb : b.toInt = y) (h : x < y) : if_icmp.holds .lt a b = true ∧ if_icmp.holds .ge a b = false ∧ if_icmp.holds .gt b a = true ∧ if_icmp.holds .le b a = false := tlt (Int32.lt_iff_toInt_lt.mpr (by rw [ha, hb]; exact h))
theorem own_flt {a b : Int32} {x y : Int} (ha : a.toInt = x) (hb : b.toInt = y) (h : ¬ x < y) : if_icmp.holds .lt a b = false ∧ if_icmp.holds .ge a b = true ∧ if_icmp.holds .gt b a = false ∧ if_icmp.holds .le b a = true := flt (fun q => h (by rw [← ha, ← hb]; exact Int32.lt_iff_toInt_lt.mp q))
theorem own_teq {a b : Int32} {x y : Int} (ha : a.toInt = x) (hb : b.toInt = y) (h : x = y) : if_icmp.holds .eq a b = true ∧ if_icmp.holds .ne a b = false := teq (Int32.toInt_inj.mp (by rw [ha, hb]; exact h))
theorem own_feq {a b : Int32} {x y : Int} (ha : a.toInt = x) (hb : b.toInt = y) (h : ¬ x = y) : if_icmp.holds .eq a b = false ∧ if_icmp.holds .ne a b = true := feq (fun q => h (by rw [← ha, ← hb, q]))
theorem own_if {cd : ClassFile.Cond} {x : Int32} {b : Bool} (h : if_icmp.holds cd x 0 = b) : ifCond.holds cd x = b := (if0 cd x).trans h
theorem own_tltL {x y : Int64} {a b : Int} (ha : x.toInt = a) (hb : y.toInt = b) (h : a < b) : if_icmp.holds .lt (lcmpW x y) 0 = true ∧ if_icmp.holds .ge (lcmpW x y) 0 = false := have q := tlt ((lw_lt x y).mpr (Int64.lt_iff_toInt_lt.mpr (by rw [ha, hb]; exact h))); ⟨q.1, q.2.1⟩
theorem own_fltL {x y : Int64} {a b : Int} (ha : x.toInt = a) (hb : y.toInt = b) (h : ¬ a < b) : if_icmp.holds .lt (lcmpW x y) 0 = false ∧ if_icmp.holds .ge (lcmpW x y) 0 = true := have q := flt (fun w => h (by rw [← ha, ← hb]; exact Int64.lt_iff_toInt_lt.mp ((lw_lt x y).mp w))); ⟨q.1, q.2.1⟩
theorem own_tgtL {x y : Int64} {a b : Int} (ha : x.toInt = a) (hb : y.toInt = b) (h : b < a) : if_icmp.holds .gt (lcmpW x y) 0 = true ∧ if_icmp.holds .le (lcmpW x y) 0 = false := have q := tlt ((lw_gt x y).mpr (Int64.lt_iff_toInt_lt.mpr (by rw [ha, hb]; exact h))); ⟨q.2.2.1, q.2.2.2⟩
theorem own_fgtL {x y : Int64} {a b : Int} (ha : x.toInt = a) (hb : y.toInt = b) (h : ¬ b < a) : if_icmp.holds .gt (lcmpW x y) 0 = false ∧ if_icmp.holds .le (lcmpW x y) 0 = true := have q := flt (fun w => h (by rw [← ha, ← hb]; exact Int64.lt_iff_toInt_lt.mp ((lw_gt x y).mp w))); ⟨q.2.2.1, q.2.2.2⟩
theorem own_teqL {x y : Int64} {a b : Int} (ha : x.toInt = a) (hb : y.toInt = b) (h : a = b) : if_icmp.holds .eq (lcmpW x y) 0 = true ∧ if_icmp.holds .ne (lcmpW x y) 0 = false := teq ((lw_eq x y).mpr (Int64.toInt_inj.mp (by rw [ha, hb]; exact h)))
theorem own_feqL {x y : Int64} {a b : Int} (ha : x.toInt = a) (hb : y.toInt = b) (h : ¬ a = b) : if_icmp.holds .eq (lcmpW x y) 0 = false ∧ if_icmp.holds .ne (lcmpW x y) 0 = true := feq (fun w => h (by rw [← ha, ← hb, (lw_eq x y).mp w]))
/-! plain facts: the calendar, a list with ten places set -/
def own_leap (Y : Int) : Prop := Y % 4 = 0 ∧ (¬ Y % 100 = 0 ∨ Y % 400 = 0)
instance (Y : Int) : Decidable (own_leap Y) := by unfold own_leap; infer_instance
def own_lp (Y M : Int) : Int := if 2 < M ∧ (Y % 4 = 0 ∧ (¬ Y % 100 = 0 ∨ Y % 400 = 0)) then 1 else 0
def own_dbm (M : Int) : Int := if M = 1 then 0 else if M = 2 then 31 else if M = 3 then 59 else if M = 4 then 90 else if M = 5 then 120 else if M = 6 then 151 else if M = 7 then 181 else if M = 8 then 212 else if M = 9 then 243 else if M = 10 then 273 else if M = 11 then 304 else 334
def own_ep (Y M D : Int) : Int := 365 * (Y - 1) + ((Y - 1) / 4 - (Y - 1) / 100 + (Y - 1) / 400) + own_dbm M + D - 1 + own_lp Y M - 719162
theorem own_dbm_le (M : Int) : 0 ≤ own_dbm M ∧ own_dbm M ≤ 334 := by unfold own_dbm; repeat' split
                                                                     all_goals omega
def own_tab : List Int32 := [0, 31, 59, 90, 120, 151, 181, 212, 243, 273, 304, 334]
theorem own_tab_at : ∀ n : Fin 12, (own_tab.getD n.1 0).toInt = own_dbm ((n.1 : Int) + 1) := by decide
theorem own_nat {j : Int32} {n : Nat} (h : j.toInt = (n : Int)) : j.toNatClampNeg = n := by
  unfold Int32.toNatClampNeg; rw [h]; rfl
theorem own_dbm_at (j : Int32) (M : Int) (h1 : 1 ≤ M) (h2 : M ≤ 12) (hj : j.toInt = M - 1) :
    ∃ tv : Int32, ([(.int (0 : Int32)), (.int (31 : Int32)), (.int (59 : Int32)), (.int (90 : Int32)), (.int (120 : Int32)), (.int (151 : Int32)), (.int (181 : Int32)), (.int (212 : Int32)), (.int (243 : Int32)), (.int (273 : Int32)), (.int (304 : Int32)), (.int (334 : Int32))] : List Value).getD j.toNatClampNeg (.int (0 : Int32)) = .int tv ∧ tv.toInt = own_dbm M := by
  obtain ⟨n, hn⟩ : ∃ n : Nat, M - 1 = n := ⟨(M - 1).toNat, by omega⟩
  have hn12 : n < 12 := by omega
  have e := own_nat (j := j) (n := n) (by omega)
  refine ⟨own_tab.getD n 0, ?_, ?_⟩
  · rw [e]
    have q : ∀ k : Fin 12, ([(.int (0 : Int32)), (.int (31 : Int32)), (.int (59 : Int32)), (.int (90 : Int32)), (.int (120 : Int32)), (.int (151 : Int32)), (.int (181 : Int32)), (.int (212 : Int32)), (.int (243 : Int32)), (.int (273 : Int32)), (.int (304 : Int32)), (.int (334 : Int32))] : List Value).getD k.1 (.int (0 : Int32)) = .int (own_tab.getD k.1 0) := by decide
    exact q ⟨n, hn12⟩
  · have q := own_tab_at ⟨n, hn12⟩
    rw [q]; congr 1; show (n : Int) + 1 = M; omega
theorem own_narb (x : Int32) (h1 : -128 ≤ x.toInt) (h2 : x.toInt ≤ 127) : nar .byte x = x := by
  have e : nar .byte x = x.toInt8.toInt32 := rfl
  have q := c_i2b x
  rw [e]; apply Int32.toInt_inj.mp; omega
def own_ten (vs : List Value) (pn : Nat) (w0 w1 w2 w3 w4 w5 w6 w7 w8 w9 : Int32) : List Value :=
  ((((((((((vs.set pn (.int w0)).set (pn + 1) (.int w1)).set (pn + 2) (.int w2)).set (pn + 3) (.int w3)).set (pn + 4) (.int w4)).set (pn + 5) (.int w5)).set (pn + 6) (.int w6)).set (pn + 7) (.int w7)).set (pn + 8) (.int w8)).set (pn + 9) (.int w9))
theorem own_p4 {pn : Nat} (h : pn ≤ 3) : pn = 0 ∨ pn = 1 ∨ pn = 2 ∨ pn = 3 := by omega
theorem own_at0 (pn : Nat) (h : pn ≤ 3) (f w0 w1 w2 w3 w4 w5 w6 w7 w8 w9 : Int32) : (own_ten (List.replicate 14 (.int f)) pn w0 w1 w2 w3 w4 w5 w6 w7 w8 w9).getD (pn + 0) (.int (0 : Int32)) = .int w0 := by
  rcases own_p4 h with rfl | rfl | rfl | rfl <;> rfl
theorem own_at1 (pn : Nat) (h : pn ≤ 3) (f w0 w1 w2 w3 w4 w5 w6 w7 w8 w9 : Int32) : (own_ten (List.replicate 14 (.int f)) pn w0 w1 w2 w3 w4 w5 w6 w7 w8 w9).getD (pn + 1) (.int (0 : Int32)) = .int w1 := by
  rcases own_p4 h with rfl | rfl | rfl | rfl <;> rfl
theorem own_at2 (pn : Nat) (h : pn ≤ 3) (f w0 w1 w2 w3 w4 w5 w6 w7 w8 w9 : Int32) : (own_ten (List.replicate 14 (.int f)) pn w0 w1 w2 w3 w4 w5 w6 w7 w8 w9).getD (pn + 2) (.int (0 : Int32)) = .int w2 := by
  rcases own_p4 h with rfl | rfl | rfl | rfl <;> rfl
theorem own_at3 (pn : Nat) (h : pn ≤ 3) (f w0 w1 w2 w3 w4 w5 w6 w7 w8 w9 : Int32) : (own_ten (List.replicate 14 (.int f)) pn w0 w1 w2 w3 w4 w5 w6 w7 w8 w9).getD (pn + 3) (.int (0 : Int32)) = .int w3 := by
  rcases own_p4 h with rfl | rfl | rfl | rfl <;> rfl
theorem own_at4 (pn : Nat) (h : pn ≤ 3) (f w0 w1 w2 w3 w4 w5 w6 w7 w8 w9 : Int32) : (own_ten (List.replicate 14 (.int f)) pn w0 w1 w2 w3 w4 w5 w6 w7 w8 w9).getD (pn + 4) (.int (0 : Int32)) = .int w4 := by
  rcases own_p4 h with rfl | rfl | rfl | rfl <;> rfl
theorem own_at5 (pn : Nat) (h : pn ≤ 3) (f w0 w1 w2 w3 w4 w5 w6 w7 w8 w9 : Int32) : (own_ten (List.replicate 14 (.int f)) pn w0 w1 w2 w3 w4 w5 w6 w7 w8 w9).getD (pn + 5) (.int (0 : Int32)) = .int w5 := by
  rcases own_p4 h with rfl | rfl | rfl | rfl <;> rfl
theorem own_at6 (pn : Nat) (h : pn ≤ 3) (f w0 w1 w2 w3 w4 w5 w6 w7 w8 w9 : Int32) : (own_ten (List.replicate 14 (.int f)) pn w0 w1 w2 w3 w4 w5 w6 w7 w8 w9).getD (pn + 6) (.int (0 : Int32)) = .int w6 := by
  rcases own_p4 h with rfl | rfl | rfl | rfl <;> rfl
theorem own_at7 (pn : Nat) (h : pn ≤ 3) (f w0 w1 w2 w3 w4 w5 w6 w7 w8 w9 : Int32) : (own_ten (List.replicate 14 (.int f)) pn w0 w1 w2 w3 w4 w5 w6 w7 w8 w9).getD (pn + 7) (.int (0 : Int32)) = .int w7 := by
  rcases own_p4 h with rfl | rfl | rfl | rfl <;> rfl
theorem own_at8 (pn : Nat) (h : pn ≤ 3) (f w0 w1 w2 w3 w4 w5 w6 w7 w8 w9 : Int32) : (own_ten (List.replicate 14 (.int f)) pn w0 w1 w2 w3 w4 w5 w6 w7 w8 w9).getD (pn + 8) (.int (0 : Int32)) = .int w8 := by
  rcases own_p4 h with rfl | rfl | rfl | rfl <;> rfl
theorem own_at9 (pn : Nat) (h : pn ≤ 3) (f w0 w1 w2 w3 w4 w5 w6 w7 w8 w9 : Int32) : (own_ten (List.replicate 14 (.int f)) pn w0 w1 w2 w3 w4 w5 w6 w7 w8 w9).getD (pn + 9) (.int (0 : Int32)) = .int w9 := by
  rcases own_p4 h with rfl | rfl | rfl | rfl <;> rfl
theorem own_out (pn : Nat) (h : pn ≤ 3) (f w0 w1 w2 w3 w4 w5 w6 w7 w8 w9 : Int32) (i : Nat) (hi : i < 14) (q : i < pn ∨ pn + 10 ≤ i) : (own_ten (List.replicate 14 (.int f)) pn w0 w1 w2 w3 w4 w5 w6 w7 w8 w9).getD i (.int (0 : Int32)) = .int f := by
  rcases own_p4 h with rfl | rfl | rfl | rfl
  all_goals
    have c : i = 0 ∨ i = 1 ∨ i = 2 ∨ i = 10 ∨ i = 11 ∨ i = 12 ∨ i = 13 := by omega
    rcases c with rfl | rfl | rfl | rfl | rfl | rfl | rfl <;> first | rfl | omega
theorem own_leapdiff (y : Int) : ((y / 4 - y / 100 + y / 400) - ((y - 1) / 4 - (y - 1) / 100 + (y - 1) / 400) = 1 ∧ (y % 4 = 0 ∧ (¬ y % 100 = 0 ∨ y % 400 = 0))) ∨ ((y / 4 - y / 100 + y / 400) - ((y - 1) / 4 - (y - 1) / 100 + (y - 1) / 400) = 0 ∧ ¬ (y % 4 = 0 ∧ (¬ y % 100 = 0 ∨ y % 400 = 0))) := by
  have a4 : (y % 4 = 0 ∧ y / 4 = (y - 1) / 4 + 1) ∨ (¬ y % 4 = 0 ∧ y / 4 = (y - 1) / 4) := by omega
  have a1 : (y % 100 = 0 ∧ y / 100 = (y - 1) / 100 + 1) ∨ (¬ y % 100 = 0 ∧ y / 100 = (y - 1) / 100) := by omega
  have a0 : (y % 400 = 0 ∧ y / 400 = (y - 1) / 400 + 1) ∨ (¬ y % 400 = 0 ∧ y / 400 = (y - 1) / 400) := by omega
  have d1 : y % 100 = 0 → y % 4 = 0 := by omega
  have d0 : y % 400 = 0 → y % 100 = 0 := by omega
  generalize y / 4 = q4 at *
  generalize (y - 1) / 4 = p4 at *
  generalize y / 100 = q1 at *
  generalize (y - 1) / 100 = p1 at *
  generalize y / 400 = q0 at *
  generalize (y - 1) / 400 = p0 at *
  generalize y % 4 = r4 at *
  generalize y % 100 = r1 at *
  generalize y % 400 = r0 at *
  omega
theorem own_doyC (c r t u w doy : Int) (hc : 0 ≤ c) (hc3 : c ≤ 3) (hr : 0 ≤ r) (hr2 : r ≤ 36523) (ht : t = (24 * c + r) / 1460) (hu : u = (r - t) / 365) (hw : w = u / 4) (hd : doy = r - 365 * u - w) :
    0 ≤ doy ∧ doy ≤ 365 ∧ 0 ≤ u ∧ u ≤ 99 ∧ (doy = 365 → u = 4 * w + 3 ∧ u ≤ 95) := by
  have ht1 : 1460 * t ≤ 24 * c + r ∧ 24 * c + r < 1460 * t + 1460 := by omega
  have hu1 : 365 * u ≤ r - t ∧ r - t < 365 * u + 365 := by omega
  have hw1 : 4 * w ≤ u ∧ u ≤ 4 * w + 3 := by omega
  clear ht hu hw
  have hlo : w ≤ t := by omega
  have hu0 : 0 ≤ u ∧ u ≤ 99 := by omega
  have hhi : doy ≤ 365 := by omega
  have h3 : doy = 365 → u = 4 * w + 3 := by omega
  refine ⟨by omega, hhi, hu0.1, hu0.2, fun q => ⟨h3 q, ?_⟩⟩
  have := h3 q
  omega
theorem own_doy (doe yoe doy : Int) (h1 : 0 ≤ doe) (h2 : doe ≤ 146096) (hy : yoe = (doe - doe / 1460 + doe / 36524 - doe / 146096) / 365) (hd : doy = doe - (365 * yoe + yoe / 4 - yoe / 100)) :
    0 ≤ doy ∧ doy ≤ 365 ∧ 0 ≤ yoe ∧ yoe ≤ 399 ∧ (doy = 365 → (yoe + 1) % 4 = 0 ∧ (¬ (yoe + 1) % 100 = 0 ∨ (yoe + 1) % 400 = 0)) := by
  by_cases hz : doe = 146096
  · subst hz
    have e1 : yoe = 399 := by omega
    subst e1
    omega
  · obtain ⟨c, hc⟩ : ∃ c, c = doe / 36524 := ⟨_, rfl⟩
    obtain ⟨r, hr⟩ : ∃ r, r = doe - 36524 * c := ⟨_, rfl⟩
    have hc3 : 0 ≤ c ∧ c ≤ 3 := by omega
    have hr2 : 0 ≤ r ∧ r ≤ 36523 := by omega
    obtain ⟨t, ht⟩ : ∃ t, t = (24 * c + r) / 1460 := ⟨_, rfl⟩
    obtain ⟨u, hu⟩ : ∃ u, u = (r - t) / 365 := ⟨_, rfl⟩
    have e1 : doe / 1460 = 25 * c + t := by omega
    have e2 : doe / 146096 = 0 := by omega
    have e3 : yoe = 100 * c + u := by rw [e1, e2, ← hc] at hy; omega
    clear hy e1 e2 hc hz
    obtain ⟨k1, k2, k3, k4, k5⟩ := own_doyC c r t u (u / 4) (r - 365 * u - u / 4) hc3.1 hc3.2 hr2.1 hr2.2 ht hu rfl rfl
    have e4 : yoe / 4 = 25 * c + u / 4 := by omega
    have e5 : yoe / 100 = c := by omega
    have e6 : doy = r - 365 * u - u / 4 := by omega
    rw [← e6] at k1 k2 k5
    refine ⟨k1, k2, by omega, by omega, fun q => ?_⟩
    obtain ⟨w1, w2⟩ := k5 q
    clear e6 ht hu hd e4 e5
    omega
def own_date (e Y Mo Da : Int) : Prop := 1583 ≤ Y ∧ Y ≤ 4099 ∧ 1 ≤ Mo ∧ Mo ≤ 12 ∧ 1 ≤ Da ∧ Da ≤ 31 ∧ (Mo = 2 → Da ≤ 29) ∧ (Mo = 2 → ¬ (Y % 4 = 0 ∧ (¬ Y % 100 = 0 ∨ Y % 400 = 0)) → Da ≤ 28) ∧ (Mo = 4 ∨ Mo = 6 ∨ Mo = 9 ∨ Mo = 11 → Da ≤ 30) ∧ own_ep Y Mo Da = e
set_option maxHeartbeats 4000000 in
theorem own_civil (e D era doe yoe doy mp da mo bump yy : Int) (h1 : -141349 ≤ e) (h2 : e ≤ 777966) (hD : D = e + 719468) (hera : era = D / 146097) (hdoe : doe = D - 146097 * era) (hyoe : yoe = (doe - doe / 1460 + doe / 36524 - doe / 146096) / 365) (hdoy : doy = doe - (365 * yoe + yoe / 4 - yoe / 100))
    (hmp : mp = (5 * doy + 2) / 153) (hda : da = doy - (153 * mp + 2) / 5 + 1) (hm1 : mp < 10 → mo = mp + 3) (hm2 : ¬ mp < 10 → mo = mp - 9) (hb1 : mo ≤ 2 → bump = 1) (hb2 : ¬ mo ≤ 2 → bump = 0) (hyy : yy = 400 * era + yoe + bump) : own_date e yy mo da := by
  obtain ⟨d1, d2, y1, y2, d3⟩ := own_doy doe yoe doy (by omega) (by omega) hyoe hdoy
  have hdoe' : doe = 365 * yoe + yoe / 4 - yoe / 100 + doy := by omega
  clear hyoe hdoy
  have hera' : 3 ≤ era ∧ era ≤ 10 := by omega
  obtain ⟨Yb, hYb⟩ : ∃ Yb, Yb = 400 * era + yoe := ⟨_, rfl⟩
  have f4 : Yb / 4 = 100 * era + yoe / 4 := by omega
  have f1 : Yb / 100 = 4 * era + yoe / 100 := by omega
  have f0 : Yb / 400 = era := by omega
  have hE : e = 365 * Yb + (Yb / 4 - Yb / 100 + Yb / 400) + doy - 719468 := by omega
  have hR : 1582 ≤ Yb ∧ Yb ≤ 4099 := by omega
  have hR2 : Yb = 1582 → 306 ≤ doy := by omega
  have hR3 : Yb = 4099 → doy < 306 := by omega
  have hL : doy = 365 → (Yb + 1) % 4 = 0 ∧ (¬ (Yb + 1) % 100 = 0 ∨ (Yb + 1) % 400 = 0) := by omega
  have hyy' : yy = Yb + bump := by omega
  clear hdoe hera hD hdoe' f4 f1 f0 d3 hera' hYb h1 h2 hyy y1 y2
  have hc : mp = 0 ∨ mp = 1 ∨ mp = 2 ∨ mp = 3 ∨ mp = 4 ∨ mp = 5 ∨ mp = 6 ∨ mp = 7 ∨ mp = 8 ∨ mp = 9 ∨ mp = 10 ∨ mp = 11 := by omega
  rcases hc with hc | hc | hc | hc | hc | hc | hc | hc | hc | hc | hc | hc
  · have e1 : mo = 3 := by omega
    have e2 : bump = 0 := by omega
    have e3 : own_dbm mo = 59 := by rw [e1]; decide
    have e7 : 0 ≤ doy ∧ doy ≤ 30 ∧ da = doy - 0 + 1 := by omega
    clear hm1 hm2 hb1 hb2 hmp hda
    unfold own_date own_ep
    rw [e3]
    subst e1 e2 hyy'
    have e6 : Yb + 0 = Yb := by omega
    rw [e6]
    have e5 : (own_lp Yb 3 = 1 ∧ (Yb % 4 = 0 ∧ (¬ Yb % 100 = 0 ∨ Yb % 400 = 0))) ∨ (own_lp Yb 3 = 0 ∧ ¬ (Yb % 4 = 0 ∧ (¬ Yb % 100 = 0 ∨ Yb % 400 = 0))) := by
      by_cases q : Yb % 4 = 0 ∧ (¬ Yb % 100 = 0 ∨ Yb % 400 = 0)
      · exact Or.inl ⟨if_pos ⟨by decide, q⟩, q⟩
      · exact Or.inr ⟨if_neg (fun w => q w.2), q⟩
    have ld := own_leapdiff Yb
    have e8 : own_lp Yb 3 = (Yb / 4 - Yb / 100 + Yb / 400) - ((Yb - 1) / 4 - (Yb - 1) / 100 + (Yb - 1) / 400) := by
      rcases e5 with ⟨u, v⟩ | ⟨u, v⟩
      · rcases ld with ⟨w, -⟩ | ⟨-, w⟩
        · rw [u, w]
        · exact absurd v w
      · rcases ld with ⟨-, w⟩ | ⟨w, -⟩
        · exact absurd w v
        · rw [u, w]
    rw [e8]
    clear ld e5 e8 hL
    refine ⟨by omega, by omega, by omega, by omega, by omega, by omega, fun q => by omega, fun q r => by omega, fun q => by omega, by omega⟩
  · have e1 : mo = 4 := by omega
    have e2 : bump = 0 := by omega
    have e3 : own_dbm mo = 90 := by rw [e1]; decide
    have e7 : 31 ≤ doy ∧ doy ≤ 60 ∧ da = doy - 31 + 1 := by omega
    clear hm1 hm2 hb1 hb2 hmp hda
    unfold own_date own_ep
    rw [e3]
    subst e1 e2 hyy'
    have e6 : Yb + 0 = Yb := by omega
    rw [e6]
    have e5 : (own_lp Yb 4 = 1 ∧ (Yb % 4 = 0 ∧ (¬ Yb % 100 = 0 ∨ Yb % 400 = 0))) ∨ (own_lp Yb 4 = 0 ∧ ¬ (Yb % 4 = 0 ∧ (¬ Yb % 100 = 0 ∨ Yb % 400 = 0))) := by
      by_cases q : Yb % 4 = 0 ∧ (¬ Yb % 100 = 0 ∨ Yb % 400 = 0)
      · exact Or.inl ⟨if_pos ⟨by decide, q⟩, q⟩
      · exact Or.inr ⟨if_neg (fun w => q w.2), q⟩
    have ld := own_leapdiff Yb
    have e8 : own_lp Yb 4 = (Yb / 4 - Yb / 100 + Yb / 400) - ((Yb - 1) / 4 - (Yb - 1) / 100 + (Yb - 1) / 400) := by
      rcases e5 with ⟨u, v⟩ | ⟨u, v⟩
      · rcases ld with ⟨w, -⟩ | ⟨-, w⟩
        · rw [u, w]
        · exact absurd v w
      · rcases ld with ⟨-, w⟩ | ⟨w, -⟩
        · exact absurd w v
        · rw [u, w]
    rw [e8]
    clear ld e5 e8 hL
    refine ⟨by omega, by omega, by omega, by omega, by omega, by omega, fun q => by omega, fun q r => by omega, fun q => by omega, by omega⟩
  · have e1 : mo = 5 := by omega
    have e2 : bump = 0 := by omega
    have e3 : own_dbm mo = 120 := by rw [e1]; decide
    have e7 : 61 ≤ doy ∧ doy ≤ 91 ∧ da = doy - 61 + 1 := by omega
    clear hm1 hm2 hb1 hb2 hmp hda
    unfold own_date own_ep
    rw [e3]
    subst e1 e2 hyy'
    have e6 : Yb + 0 = Yb := by omega
    rw [e6]
    have e5 : (own_lp Yb 5 = 1 ∧ (Yb % 4 = 0 ∧ (¬ Yb % 100 = 0 ∨ Yb % 400 = 0))) ∨ (own_lp Yb 5 = 0 ∧ ¬ (Yb % 4 = 0 ∧ (¬ Yb % 100 = 0 ∨ Yb % 400 = 0))) := by
      by_cases q : Yb % 4 = 0 ∧ (¬ Yb % 100 = 0 ∨ Yb % 400 = 0)
      · exact Or.inl ⟨if_pos ⟨by decide, q⟩, q⟩
      · exact Or.inr ⟨if_neg (fun w => q w.2), q⟩
    have ld := own_leapdiff Yb
    have e8 : own_lp Yb 5 = (Yb / 4 - Yb / 100 + Yb / 400) - ((Yb - 1) / 4 - (Yb - 1) / 100 + (Yb - 1) / 400) := by
      rcases e5 with ⟨u, v⟩ | ⟨u, v⟩
      · rcases ld with ⟨w, -⟩ | ⟨-, w⟩
        · rw [u, w]
        · exact absurd v w
      · rcases ld with ⟨-, w⟩ | ⟨w, -⟩
        · exact absurd w v
        · rw [u, w]
    rw [e8]
    clear ld e5 e8 hL
    refine ⟨by omega, by omega, by omega, by omega, by omega, by omega, fun q => by omega, fun q r => by omega, fun q => by omega, by omega⟩
  · have e1 : mo = 6 := by omega
    have e2 : bump = 0 := by omega
    have e3 : own_dbm mo = 151 := by rw [e1]; decide
    have e7 : 92 ≤ doy ∧ doy ≤ 121 ∧ da = doy - 92 + 1 := by omega
    clear hm1 hm2 hb1 hb2 hmp hda
    unfold own_date own_ep
    rw [e3]
    subst e1 e2 hyy'
    have e6 : Yb + 0 = Yb := by omega
    rw [e6]
    have e5 : (own_lp Yb 6 = 1 ∧ (Yb % 4 = 0 ∧ (¬ Yb % 100 = 0 ∨ Yb % 400 = 0))) ∨ (own_lp Yb 6 = 0 ∧ ¬ (Yb % 4 = 0 ∧ (¬ Yb % 100 = 0 ∨ Yb % 400 = 0))) := by
      by_cases q : Yb % 4 = 0 ∧ (¬ Yb % 100 = 0 ∨ Yb % 400 = 0)
      · exact Or.inl ⟨if_pos ⟨by decide, q⟩, q⟩
      · exact Or.inr ⟨if_neg (fun w => q w.2), q⟩
    have ld := own_leapdiff Yb
    have e8 : own_lp Yb 6 = (Yb / 4 - Yb / 100 + Yb / 400) - ((Yb - 1) / 4 - (Yb - 1) / 100 + (Yb - 1) / 400) := by
      rcases e5 with ⟨u, v⟩ | ⟨u, v⟩
      · rcases ld with ⟨w, -⟩ | ⟨-, w⟩
        · rw [u, w]
        · exact absurd v w
      · rcases ld with ⟨-, w⟩ | ⟨w, -⟩
        · exact absurd w v
        · rw [u, w]
    rw [e8]
    clear ld e5 e8 hL
    refine ⟨by omega, by omega, by omega, by omega, by omega, by omega, fun q => by omega, fun q r => by omega, fun q => by omega, by omega⟩
  · have e1 : mo = 7 := by omega
    have e2 : bump = 0 := by omega
    have e3 : own_dbm mo = 181 := by rw [e1]; decide
    have e7 : 122 ≤ doy ∧ doy ≤ 152 ∧ da = doy - 122 + 1 := by omega
    clear hm1 hm2 hb1 hb2 hmp hda
    unfold own_date own_ep
    rw [e3]
    subst e1 e2 hyy'
    have e6 : Yb + 0 = Yb := by omega
    rw [e6]
    have e5 : (own_lp Yb 7 = 1 ∧ (Yb % 4 = 0 ∧ (¬ Yb % 100 = 0 ∨ Yb % 400 = 0))) ∨ (own_lp Yb 7 = 0 ∧ ¬ (Yb % 4 = 0 ∧ (¬ Yb % 100 = 0 ∨ Yb % 400 = 0))) := by
      by_cases q : Yb % 4 = 0 ∧ (¬ Yb % 100 = 0 ∨ Yb % 400 = 0)
      · exact Or.inl ⟨if_pos ⟨by decide, q⟩, q⟩
      · exact Or.inr ⟨if_neg (fun w => q w.2), q⟩
    have ld := own_leapdiff Yb
    have e8 : own_lp Yb 7 = (Yb / 4 - Yb / 100 + Yb / 400) - ((Yb - 1) / 4 - (Yb - 1) / 100 + (Yb - 1) / 400) := by
      rcases e5 with ⟨u, v⟩ | ⟨u, v⟩
      · rcases ld with ⟨w, -⟩ | ⟨-, w⟩
        · rw [u, w]
        · exact absurd v w
      · rcases ld with ⟨-, w⟩ | ⟨w, -⟩
        · exact absurd w v
        · rw [u, w]
    rw [e8]
    clear ld e5 e8 hL
    refine ⟨by omega, by omega, by omega, by omega, by omega, by omega, fun q => by omega, fun q r => by omega, fun q => by omega, by omega⟩
  · have e1 : mo = 8 := by omega
    have e2 : bump = 0 := by omega
    have e3 : own_dbm mo = 212 := by rw [e1]; decide
    have e7 : 153 ≤ doy ∧ doy ≤ 183 ∧ da = doy - 153 + 1 := by omega
    clear hm1 hm2 hb1 hb2 hmp hda
    unfold own_date own_ep
    rw [e3]
    subst e1 e2 hyy'
    have e6 : Yb + 0 = Yb := by omega
    rw [e6]
    have e5 : (own_lp Yb 8 = 1 ∧ (Yb % 4 = 0 ∧ (¬ Yb % 100 = 0 ∨ Yb % 400 = 0))) ∨ (own_lp Yb 8 = 0 ∧ ¬ (Yb % 4 = 0 ∧ (¬ Yb % 100 = 0 ∨ Yb % 400 = 0))) := by
      by_cases q : Yb % 4 = 0 ∧ (¬ Yb % 100 = 0 ∨ Yb % 400 = 0)
      · exact Or.inl ⟨if_pos ⟨by decide, q⟩, q⟩
      · exact Or.inr ⟨if_neg (fun w => q w.2), q⟩
    have ld := own_leapdiff Yb
    have e8 : own_lp Yb 8 = (Yb / 4 - Yb / 100 + Yb / 400) - ((Yb - 1) / 4 - (Yb - 1) / 100 + (Yb - 1) / 400) := by
      rcases e5 with ⟨u, v⟩ | ⟨u, v⟩
      · rcases ld with ⟨w, -⟩ | ⟨-, w⟩
        · rw [u, w]
        · exact absurd v w
      · rcases ld with ⟨-, w⟩ | ⟨w, -⟩
        · exact absurd w v
        · rw [u, w]
    rw [e8]
    clear ld e5 e8 hL
    refine ⟨by omega, by omega, by omega, by omega, by omega, by omega, fun q => by omega, fun q r => by omega, fun q => by omega, by omega⟩
  · have e1 : mo = 9 := by omega
    have e2 : bump = 0 := by omega
    have e3 : own_dbm mo = 243 := by rw [e1]; decide
    have e7 : 184 ≤ doy ∧ doy ≤ 213 ∧ da = doy - 184 + 1 := by omega
    clear hm1 hm2 hb1 hb2 hmp hda
    unfold own_date own_ep
    rw [e3]
    subst e1 e2 hyy'
    have e6 : Yb + 0 = Yb := by omega
    rw [e6]
    have e5 : (own_lp Yb 9 = 1 ∧ (Yb % 4 = 0 ∧ (¬ Yb % 100 = 0 ∨ Yb % 400 = 0))) ∨ (own_lp Yb 9 = 0 ∧ ¬ (Yb % 4 = 0 ∧ (¬ Yb % 100 = 0 ∨ Yb % 400 = 0))) := by
      by_cases q : Yb % 4 = 0 ∧ (¬ Yb % 100 = 0 ∨ Yb % 400 = 0)
      · exact Or.inl ⟨if_pos ⟨by decide, q⟩, q⟩
      · exact Or.inr ⟨if_neg (fun w => q w.2), q⟩
    have ld := own_leapdiff Yb
    have e8 : own_lp Yb 9 = (Yb / 4 - Yb / 100 + Yb / 400) - ((Yb - 1) / 4 - (Yb - 1) / 100 + (Yb - 1) / 400) := by
      rcases e5 with ⟨u, v⟩ | ⟨u, v⟩
      · rcases ld with ⟨w, -⟩ | ⟨-, w⟩
        · rw [u, w]
        · exact absurd v w
      · rcases ld with ⟨-, w⟩ | ⟨w, -⟩
        · exact absurd w v
        · rw [u, w]
    rw [e8]
    clear ld e5 e8 hL
    refine ⟨by omega, by omega, by omega, by omega, by omega, by omega, fun q => by omega, fun q r => by omega, fun q => by omega, by omega⟩
  · have e1 : mo = 10 := by omega
    have e2 : bump = 0 := by omega
    have e3 : own_dbm mo = 273 := by rw [e1]; decide
    have e7 : 214 ≤ doy ∧ doy ≤ 244 ∧ da = doy - 214 + 1 := by omega
    clear hm1 hm2 hb1 hb2 hmp hda
    unfold own_date own_ep
    rw [e3]
    subst e1 e2 hyy'
    have e6 : Yb + 0 = Yb := by omega
    rw [e6]
    have e5 : (own_lp Yb 10 = 1 ∧ (Yb % 4 = 0 ∧ (¬ Yb % 100 = 0 ∨ Yb % 400 = 0))) ∨ (own_lp Yb 10 = 0 ∧ ¬ (Yb % 4 = 0 ∧ (¬ Yb % 100 = 0 ∨ Yb % 400 = 0))) := by
      by_cases q : Yb % 4 = 0 ∧ (¬ Yb % 100 = 0 ∨ Yb % 400 = 0)
      · exact Or.inl ⟨if_pos ⟨by decide, q⟩, q⟩
      · exact Or.inr ⟨if_neg (fun w => q w.2), q⟩
    have ld := own_leapdiff Yb
    have e8 : own_lp Yb 10 = (Yb / 4 - Yb / 100 + Yb / 400) - ((Yb - 1) / 4 - (Yb - 1) / 100 + (Yb - 1) / 400) := by
      rcases e5 with ⟨u, v⟩ | ⟨u, v⟩
      · rcases ld with ⟨w, -⟩ | ⟨-, w⟩
        · rw [u, w]
        · exact absurd v w
      · rcases ld with ⟨-, w⟩ | ⟨w, -⟩
        · exact absurd w v
        · rw [u, w]
    rw [e8]
    clear ld e5 e8 hL
    refine ⟨by omega, by omega, by omega, by omega, by omega, by omega, fun q => by omega, fun q r => by omega, fun q => by omega, by omega⟩
  · have e1 : mo = 11 := by omega
    have e2 : bump = 0 := by omega
    have e3 : own_dbm mo = 304 := by rw [e1]; decide
    have e7 : 245 ≤ doy ∧ doy ≤ 274 ∧ da = doy - 245 + 1 := by omega
    clear hm1 hm2 hb1 hb2 hmp hda
    unfold own_date own_ep
    rw [e3]
    subst e1 e2 hyy'
    have e6 : Yb + 0 = Yb := by omega
    rw [e6]
    have e5 : (own_lp Yb 11 = 1 ∧ (Yb % 4 = 0 ∧ (¬ Yb % 100 = 0 ∨ Yb % 400 = 0))) ∨ (own_lp Yb 11 = 0 ∧ ¬ (Yb % 4 = 0 ∧ (¬ Yb % 100 = 0 ∨ Yb % 400 = 0))) := by
      by_cases q : Yb % 4 = 0 ∧ (¬ Yb % 100 = 0 ∨ Yb % 400 = 0)
      · exact Or.inl ⟨if_pos ⟨by decide, q⟩, q⟩
      · exact Or.inr ⟨if_neg (fun w => q w.2), q⟩
    have ld := own_leapdiff Yb
    have e8 : own_lp Yb 11 = (Yb / 4 - Yb / 100 + Yb / 400) - ((Yb - 1) / 4 - (Yb - 1) / 100 + (Yb - 1) / 400) := by
      rcases e5 with ⟨u, v⟩ | ⟨u, v⟩
      · rcases ld with ⟨w, -⟩ | ⟨-, w⟩
        · rw [u, w]
        · exact absurd v w
      · rcases ld with ⟨-, w⟩ | ⟨w, -⟩
        · exact absurd w v
        · rw [u, w]
    rw [e8]
    clear ld e5 e8 hL
    refine ⟨by omega, by omega, by omega, by omega, by omega, by omega, fun q => by omega, fun q r => by omega, fun q => by omega, by omega⟩
  · have e1 : mo = 12 := by omega
    have e2 : bump = 0 := by omega
    have e3 : own_dbm mo = 334 := by rw [e1]; decide
    have e7 : 275 ≤ doy ∧ doy ≤ 305 ∧ da = doy - 275 + 1 := by omega
    clear hm1 hm2 hb1 hb2 hmp hda
    unfold own_date own_ep
    rw [e3]
    subst e1 e2 hyy'
    have e6 : Yb + 0 = Yb := by omega
    rw [e6]
    have e5 : (own_lp Yb 12 = 1 ∧ (Yb % 4 = 0 ∧ (¬ Yb % 100 = 0 ∨ Yb % 400 = 0))) ∨ (own_lp Yb 12 = 0 ∧ ¬ (Yb % 4 = 0 ∧ (¬ Yb % 100 = 0 ∨ Yb % 400 = 0))) := by
      by_cases q : Yb % 4 = 0 ∧ (¬ Yb % 100 = 0 ∨ Yb % 400 = 0)
      · exact Or.inl ⟨if_pos ⟨by decide, q⟩, q⟩
      · exact Or.inr ⟨if_neg (fun w => q w.2), q⟩
    have ld := own_leapdiff Yb
    have e8 : own_lp Yb 12 = (Yb / 4 - Yb / 100 + Yb / 400) - ((Yb - 1) / 4 - (Yb - 1) / 100 + (Yb - 1) / 400) := by
      rcases e5 with ⟨u, v⟩ | ⟨u, v⟩
      · rcases ld with ⟨w, -⟩ | ⟨-, w⟩
        · rw [u, w]
        · exact absurd v w
      · rcases ld with ⟨-, w⟩ | ⟨w, -⟩
        · exact absurd w v
        · rw [u, w]
    rw [e8]
    clear ld e5 e8 hL
    refine ⟨by omega, by omega, by omega, by omega, by omega, by omega, fun q => by omega, fun q r => by omega, fun q => by omega, by omega⟩
  · have e1 : mo = 1 := by omega
    have e2 : bump = 1 := by omega
    have e3 : own_dbm mo = 0 := by rw [e1]; decide
    have e7 : 306 ≤ doy ∧ doy ≤ 336 ∧ da = doy - 306 + 1 := by omega
    clear hm1 hm2 hb1 hb2 hmp hda
    unfold own_date own_ep
    rw [e3]
    subst e1 e2 hyy'
    have e5 : own_lp (Yb + 1) 1 = 0 := if_neg (fun q => by have := q.1; omega)
    have e6 : Yb + 1 - 1 = Yb := by omega
    rw [e5, e6]
    refine ⟨by omega, by omega, by omega, by omega, by omega, by omega, fun q => by omega, fun q r => ?_, fun q => by omega, by omega⟩
    have : ¬ doy = 365 := fun w => r (hL w)
    omega
  · have e1 : mo = 2 := by omega
    have e2 : bump = 1 := by omega
    have e3 : own_dbm mo = 31 := by rw [e1]; decide
    have e7 : 337 ≤ doy ∧ doy ≤ 365 ∧ da = doy - 337 + 1 := by omega
    clear hm1 hm2 hb1 hb2 hmp hda
    unfold own_date own_ep
    rw [e3]
    subst e1 e2 hyy'
    have e5 : own_lp (Yb + 1) 2 = 0 := if_neg (fun q => by have := q.1; omega)
    have e6 : Yb + 1 - 1 = Yb := by omega
    rw [e5, e6]
    refine ⟨by omega, by omega, by omega, by omega, by omega, by omega, fun q => by omega, fun q r => ?_, fun q => by omega, by omega⟩
    have : ¬ doy = 365 := fun w => r (hL w)
    omega
theorem d6_0 : decode prog_2_method_11_code 0 = .ok (.iload_n 0, 1) := by decide +kernel
theorem d6_1 : decode prog_2_method_11_code 1 = .ok (.iconst 3, 1) := by decide +kernel
theorem d6_2 : decode prog_2_method_11_code 2 = .ok (.iand, 1) := by decide +kernel
theorem d6_3 : decode prog_2_method_11_code 3 = .ok (.ifCond .ne 22, 3) := by decide +kernel
theorem d6_6 : decode prog_2_method_11_code 6 = .ok (.iload_n 0, 1) := by decide +kernel
theorem d6_7 : decode prog_2_method_11_code 7 = .ok (.bipush 100, 2) := by decide +kernel
theorem d6_9 : decode prog_2_method_11_code 9 = .ok (.irem, 1) := by decide +kernel
theorem d6_10 : decode prog_2_method_11_code 10 = .ok (.ifCond .ne 11, 3) := by decide +kernel
theorem d6_13 : decode prog_2_method_11_code 13 = .ok (.iload_n 0, 1) := by decide +kernel
theorem d6_14 : decode prog_2_method_11_code 14 = .ok (.sipush 400, 3) := by decide +kernel
theorem d6_17 : decode prog_2_method_11_code 17 = .ok (.irem, 1) := by decide +kernel
theorem d6_18 : decode prog_2_method_11_code 18 = .ok (.ifCond .ne 7, 3) := by decide +kernel
theorem d6_21 : decode prog_2_method_11_code 21 = .ok (.iconst 1, 1) := by decide +kernel
theorem d6_22 : decode prog_2_method_11_code 22 = .ok (.goto 4, 3) := by decide +kernel
theorem d6_25 : decode prog_2_method_11_code 25 = .ok (.iconst 0, 1) := by decide +kernel
theorem d6_26 : decode prog_2_method_11_code 26 = .ok (.ireturn, 1) := by decide +kernel
theorem pn_0 : plainName "com/example/mod7/mod7/calendar/Dates" = true := by first | (simp [plainName, overriddenIn]; done) | decide +kernel
theorem ef_rm6 (m : MethodId) (x0 : Int32) : entryFrame m #[(.int x0)] 1 = mkF m 0 #[.val (.int x0)] [] := by first | (simp [entryFrame, mkF, argsToLocals, Value.category]; done) | rfl
def Q6 (Z : State) (vy : Int32) (h0 : Heap) (n0 : Nat) (v : Option Value) (h : Heap) (L : List Loc) : Prop := ∃ z : Int32, v = some (.int z) ∧ ((z.toInt = 1 ∧ (vy.toInt % 4 = 0 ∧ (¬ vy.toInt % 100 = 0 ∨ vy.toInt % 400 = 0))) ∨ (z.toInt = 0 ∧ ¬ (vy.toInt % 4 = 0 ∧ (¬ vy.toInt % 100 = 0 ∨ vy.toInt % 400 = 0)))) ∧ Fr n0 L ∧ h = h0
set_option maxRecDepth 65536 in
set_option maxHeartbeats 40000000 in
theorem rm6 (l : Launch) (Z : State) (a0 : Array Value) (hw : ∀ d ∈ tables_1, d.before a0 Z = true) (ws : List Jvm.Cond) (vy : Int32) (h0 : Heap) (n0 : Nat) (Z0 : n0 ≤ h0.size) :
    MetFree l (⟨"com/example/mod7/mod7/calendar/Dates", "isLeap", "(I)Z"⟩ : MethodName) (head1 (Jvm.Cond.code (⟨"com/example/mod7/mod7/calendar/Dates", "isLeap", "(I)Z"⟩ : MethodName) prog_2_method_11_code 1 (some .boolean) :: ws) ({ frames := 0, cells := 0, slots := 0, locals := 0 } : Room)) (fun a U => a = #[(.int vy)] ∧ Z.Warmed39 U.vm ∧ U.heap = h0) (fun _ _ _ _ _ => True) (fun _ U o U' => ∃ v L, o = .returned v ∧ Q6 Z vy h0 n0 v U'.heap L ∧ FrameEnd U o U' L ({ frames := 0, cells := 0, slots := 0, locals := 0 } : Room).cells ({ frames := 0, cells := 0, slots := 0, locals := 0 } : Room).slots) := by
  refine MetFree.of_bodySF (plainFor_of_name pn_0) hisR ?_
  intro p e s m args below meth c s₁ Bd hml0 hP hK
  obtain ⟨rfl, hZ, hh⟩ := hP
  have hx := Bd.exec
  have hby := Bd.bytes
  have hml : c.maxLocals = 1 := hml0
  have hown : s.vm.findClass "com/example/mod7/mod7/calendar/Dates" = some m.cls := findClass_of_methodNamed Bd.named
  have hnm := (name_of_methodNamed Bd.named Bd.method).1
  have X0 : Stand p l e ({ frames := 0, cells := 0, slots := 0, locals := 0 } : Room) s m #[(.int vy)] below meth c s₁ [] 0 0 := Stand.of_body Bd
  have e0 : s₁.heap = h0 := by rw [← hh, Bd.state]; rfl
  have N0 := Fr.nil n0
  have pre0 : ∀ t, Steps p.tables e below (s₁.setTop (mkF m 0 #[.val (.int vy)] [])) t → Steps p.tables e below (s₁.setTop (entryFrame m #[(.int vy)] 1)) t := fun t k => castTop (ef_rm6 m vy) k
  have pre2 : ∀ t, Steps p.tables e below (s₁.setTop (mkF m 3 #[.val (.int vy)] [(.int (vy &&& (3 : Int32)))])) t → Steps p.tables e below (s₁.setTop (entryFrame m #[(.int vy)] 1)) t := fun t kt => by
    refine pre0 _ ?_
    refine XS.iloadN X0.here hx rfl (hb hby d6_0) rfl ?_
    refine XS.iconst X0.here hx rfl (hb hby d6_1) ?_
    refine XS.iand X0.here hx rfl (hb hby d6_2) rfl ?_
    exact kt
  by_cases hc3_1 : (vy &&& (3 : Int32)).toInt = (0 : Int)
  · have pre4 : ∀ t, Steps p.tables e below (s₁.setTop (mkF m 10 #[.val (.int vy)] [(.int (vy % (100 : Int32)))])) t → Steps p.tables e below (s₁.setTop (entryFrame m #[(.int vy)] 1)) t := fun t kt => by
      refine pre2 _ ?_
      show Steps p.tables e below (s₁.setTop (mkF m 3 #[.val (.int vy)] [(.int (vy &&& (3 : Int32)))])) _
      refine XS.ifNo X0.here hx rfl (hb hby d6_3) rfl (own_if (own_teq (a := (vy &&& (3 : Int32))) (b := (0 : Int32)) rfl (by decide) hc3_1).2) ?_
      refine XS.iloadN X0.here hx rfl (hb hby d6_6) rfl ?_
      refine XS.bipush X0.here hx rfl (hb hby d6_7) ?_
      refine iremM X0 hx rfl (hb hby d6_9) rfl (by decide) ?_
      exact kt
    by_cases hc10_3 : (vy % (100 : Int32)).toInt = (0 : Int)
    · have pre6 : ∀ t, Steps p.tables e below (s₁.setTop (mkF m 18 #[.val (.int vy)] [(.int (vy % (400 : Int32)))])) t → Steps p.tables e below (s₁.setTop (entryFrame m #[(.int vy)] 1)) t := fun t kt => by
        refine pre4 _ ?_
        show Steps p.tables e below (s₁.setTop (mkF m 10 #[.val (.int vy)] [(.int (vy % (100 : Int32)))])) _
        refine XS.ifNo X0.here hx rfl (hb hby d6_10) rfl (own_if (own_teq (a := (vy % (100 : Int32))) (b := (0 : Int32)) rfl (by decide) hc10_3).2) ?_
        refine XS.iloadN X0.here hx rfl (hb hby d6_13) rfl ?_
        refine XS.sipush X0.here hx rfl (hb hby d6_14) ?_
        refine iremM X0 hx rfl (hb hby d6_17) rfl (by decide) ?_
        exact kt
      by_cases hc18_5 : (vy % (400 : Int32)).toInt = (0 : Int)
      · obtain ⟨fs, hr, hrun, hended, hW, hsame⟩ := X0.leave (v := some (.int (1 : Int32))) (fun h => by rw [Bd.returns] at h; cases h)
        refine ⟨_, _, pre6 _ ?_, hrun, hended, _, _, rfl, ?_, ⟨_, rfl⟩, hW, hsame.mono (by decide) (by decide)⟩
        · show Steps p.tables e below (s₁.setTop (mkF m 18 #[.val (.int vy)] [(.int (vy % (400 : Int32)))])) _
          refine XS.ifNo X0.here hx rfl (hb hby d6_18) rfl (own_if (own_teq (a := (vy % (400 : Int32))) (b := (0 : Int32)) rfl (by decide) hc18_5).2) ?_
          refine XS.iconst X0.here hx rfl (hb hby d6_21) ?_
          refine XS.goto X0.here hx rfl (pc0 := 22) (pc' := 26) rfl (hb hby d6_22) (by decide) (by decide) ?_
          exact retN X0 hx (t := .boolean) Bd.returns (by simp) (hb hby d6_26) hr
        · show Q6 Z vy h0 n0 _ s₁.heap _
          rw [e0]
          exact ⟨_, rfl, by have iv : ((1 : Int32)).toInt = (1 : Int) := (by decide); have := rng32 vy; have : ((vy &&& (3 : Int32))).toInt = vy.toInt % 4 := c_mask vy (3 : Int32) 2 (by decide) (by decide); have := c_irem vy (100 : Int32) 100 (by decide); have := c_irem vy (400 : Int32) 400 (by decide); omega, N0, rfl⟩
      · obtain ⟨fs, hr, hrun, hended, hW, hsame⟩ := X0.leave (v := some (.int (0 : Int32))) (fun h => by rw [Bd.returns] at h; cases h)
        refine ⟨_, _, pre6 _ ?_, hrun, hended, _, _, rfl, ?_, ⟨_, rfl⟩, hW, hsame.mono (by decide) (by decide)⟩
        · show Steps p.tables e below (s₁.setTop (mkF m 18 #[.val (.int vy)] [(.int (vy % (400 : Int32)))])) _
          refine XS.ifYes X0.here hx rfl (pc0 := 18) (pc' := 25) rfl (hb hby d6_18) rfl (own_if (own_feq (a := (vy % (400 : Int32))) (b := (0 : Int32)) rfl (by decide) hc18_5).2) (by decide) (by decide) ?_
          refine XS.iconst X0.here hx rfl (hb hby d6_25) ?_
          exact retN X0 hx (t := .boolean) Bd.returns (by simp) (hb hby d6_26) hr
        · show Q6 Z vy h0 n0 _ s₁.heap _
          rw [e0]
          exact ⟨_, rfl, by have iv : ((0 : Int32)).toInt = (0 : Int) := (by decide); have := rng32 vy; have : ((vy &&& (3 : Int32))).toInt = vy.toInt % 4 := c_mask vy (3 : Int32) 2 (by decide) (by decide); have := c_irem vy (100 : Int32) 100 (by decide); have := c_irem vy (400 : Int32) 400 (by decide); omega, N0, rfl⟩
    · obtain ⟨fs, hr, hrun, hended, hW, hsame⟩ := X0.leave (v := some (.int (1 : Int32))) (fun h => by rw [Bd.returns] at h; cases h)
      refine ⟨_, _, pre4 _ ?_, hrun, hended, _, _, rfl, ?_, ⟨_, rfl⟩, hW, hsame.mono (by decide) (by decide)⟩
      · show Steps p.tables e below (s₁.setTop (mkF m 10 #[.val (.int vy)] [(.int (vy % (100 : Int32)))])) _
        refine XS.ifYes X0.here hx rfl (pc0 := 10) (pc' := 21) rfl (hb hby d6_10) rfl (own_if (own_feq (a := (vy % (100 : Int32))) (b := (0 : Int32)) rfl (by decide) hc10_3).2) (by decide) (by decide) ?_
        refine XS.iconst X0.here hx rfl (hb hby d6_21) ?_
        refine XS.goto X0.here hx rfl (pc0 := 22) (pc' := 26) rfl (hb hby d6_22) (by decide) (by decide) ?_
        exact retN X0 hx (t := .boolean) Bd.returns (by simp) (hb hby d6_26) hr
      · show Q6 Z vy h0 n0 _ s₁.heap _
        rw [e0]
        exact ⟨_, rfl, by have iv : ((1 : Int32)).toInt = (1 : Int) := (by decide); have := rng32 vy; have : ((vy &&& (3 : Int32))).toInt = vy.toInt % 4 := c_mask vy (3 : Int32) 2 (by decide) (by decide); have := c_irem vy (100 : Int32) 100 (by decide); have := c_irem vy (400 : Int32) 400 (by decide); omega, N0, rfl⟩
  · obtain ⟨fs, hr, hrun, hended, hW, hsame⟩ := X0.leave (v := some (.int (0 : Int32))) (fun h => by rw [Bd.returns] at h; cases h)
    refine ⟨_, _, pre2 _ ?_, hrun, hended, _, _, rfl, ?_, ⟨_, rfl⟩, hW, hsame.mono (by decide) (by decide)⟩
    · show Steps p.tables e below (s₁.setTop (mkF m 3 #[.val (.int vy)] [(.int (vy &&& (3 : Int32)))])) _
      refine XS.ifYes X0.here hx rfl (pc0 := 3) (pc' := 25) rfl (hb hby d6_3) rfl (own_if (own_feq (a := (vy &&& (3 : Int32))) (b := (0 : Int32)) rfl (by decide) hc3_1).2) (by decide) (by decide) ?_
      refine XS.iconst X0.here hx rfl (hb hby d6_25) ?_
      exact retN X0 hx (t := .boolean) Bd.returns (by simp) (hb hby d6_26) hr
    · show Q6 Z vy h0 n0 _ s₁.heap _
      rw [e0]
      exact ⟨_, rfl, by have iv : ((0 : Int32)).toInt = (0 : Int) := (by decide); have := rng32 vy; have : ((vy &&& (3 : Int32))).toInt = vy.toInt % 4 := c_mask vy (3 : Int32) 2 (by decide) (by decide); have := c_irem vy (100 : Int32) 100 (by decide); have := c_irem vy (400 : Int32) 400 (by decide); omega, N0, rfl⟩
theorem d5_0 : decode prog_2_method_7_code 0 = .ok (.iload_n 0, 1) := by decide +kernel
theorem d5_1 : decode prog_2_method_7_code 1 = .ok (.i2l, 1) := by decide +kernel
theorem d5_2 : decode prog_2_method_7_code 2 = .ok (.lconst 1, 1) := by decide +kernel
theorem d5_3 : decode prog_2_method_7_code 3 = .ok (.lsub, 1) := by decide +kernel
theorem d5_4 : decode prog_2_method_7_code 4 = .ok (.lstore_n 3, 1) := by decide +kernel
theorem d5_5 : decode prog_2_method_7_code 5 = .ok (.lload_n 3, 1) := by decide +kernel
theorem d5_6 : decode prog_2_method_7_code 6 = .ok (.lconst 0, 1) := by decide +kernel
theorem d5_7 : decode prog_2_method_7_code 7 = .ok (.lcmp, 1) := by decide +kernel
theorem d5_8 : decode prog_2_method_7_code 8 = .ok (.ifCond .lt 23, 3) := by decide +kernel
theorem d5_11 : decode prog_2_method_7_code 11 = .ok (.lload_n 3, 1) := by decide +kernel
theorem d5_12 : decode prog_2_method_7_code 12 = .ok (.ldc2_w 71, 3) := by decide +kernel
theorem d5_15 : decode prog_2_method_7_code 15 = .ok (.ldiv, 1) := by decide +kernel
theorem d5_16 : decode prog_2_method_7_code 16 = .ok (.lload_n 3, 1) := by decide +kernel
theorem d5_17 : decode prog_2_method_7_code 17 = .ok (.ldc2_w 73, 3) := by decide +kernel
theorem d5_20 : decode prog_2_method_7_code 20 = .ok (.ldiv, 1) := by decide +kernel
theorem d5_21 : decode prog_2_method_7_code 21 = .ok (.lsub, 1) := by decide +kernel
theorem d5_22 : decode prog_2_method_7_code 22 = .ok (.lload_n 3, 1) := by decide +kernel
theorem d5_23 : decode prog_2_method_7_code 23 = .ok (.ldc2_w 75, 3) := by decide +kernel
theorem d5_26 : decode prog_2_method_7_code 26 = .ok (.ldiv, 1) := by decide +kernel
theorem d5_27 : decode prog_2_method_7_code 27 = .ok (.ladd, 1) := by decide +kernel
theorem d5_28 : decode prog_2_method_7_code 28 = .ok (.goto 23, 3) := by decide +kernel
theorem d5_51 : decode prog_2_method_7_code 51 = .ok (.lstore 5, 2) := by decide +kernel
theorem d5_53 : decode prog_2_method_7_code 53 = .ok (.ldc2_w 83, 3) := by decide +kernel
theorem d5_56 : decode prog_2_method_7_code 56 = .ok (.lload_n 3, 1) := by decide +kernel
theorem d5_57 : decode prog_2_method_7_code 57 = .ok (.lmul, 1) := by decide +kernel
theorem d5_58 : decode prog_2_method_7_code 58 = .ok (.lload 5, 2) := by decide +kernel
theorem d5_60 : decode prog_2_method_7_code 60 = .ok (.ladd, 1) := by decide +kernel
theorem d5_61 : decode prog_2_method_7_code 61 = .ok (.getstatic 85, 3) := by decide +kernel
theorem d5_64 : decode prog_2_method_7_code 64 = .ok (.iload_n 1, 1) := by decide +kernel
theorem d5_65 : decode prog_2_method_7_code 65 = .ok (.iconst 1, 1) := by decide +kernel
theorem d5_66 : decode prog_2_method_7_code 66 = .ok (.isub, 1) := by decide +kernel
theorem d5_67 : decode prog_2_method_7_code 67 = .ok (.iaload, 1) := by decide +kernel
theorem d5_68 : decode prog_2_method_7_code 68 = .ok (.i2l, 1) := by decide +kernel
theorem d5_69 : decode prog_2_method_7_code 69 = .ok (.ladd, 1) := by decide +kernel
theorem d5_70 : decode prog_2_method_7_code 70 = .ok (.iload_n 2, 1) := by decide +kernel
theorem d5_71 : decode prog_2_method_7_code 71 = .ok (.i2l, 1) := by decide +kernel
theorem d5_72 : decode prog_2_method_7_code 72 = .ok (.ladd, 1) := by decide +kernel
theorem d5_73 : decode prog_2_method_7_code 73 = .ok (.lconst 1, 1) := by decide +kernel
theorem d5_74 : decode prog_2_method_7_code 74 = .ok (.lsub, 1) := by decide +kernel
theorem d5_75 : decode prog_2_method_7_code 75 = .ok (.lstore 7, 2) := by decide +kernel
theorem d5_77 : decode prog_2_method_7_code 77 = .ok (.iload_n 1, 1) := by decide +kernel
theorem d5_78 : decode prog_2_method_7_code 78 = .ok (.iconst 2, 1) := by decide +kernel
theorem d5_79 : decode prog_2_method_7_code 79 = .ok (.if_icmp .le 16, 3) := by decide +kernel
theorem d5_82 : decode prog_2_method_7_code 82 = .ok (.iload_n 0, 1) := by decide +kernel
theorem d5_83 : decode prog_2_method_7_code 83 = .ok (.invokestatic 89, 3) := by decide +kernel
theorem d5_86 : decode prog_2_method_7_code 86 = .ok (.ifCond .eq 9, 3) := by decide +kernel
theorem d5_89 : decode prog_2_method_7_code 89 = .ok (.lload 7, 2) := by decide +kernel
theorem d5_91 : decode prog_2_method_7_code 91 = .ok (.lconst 1, 1) := by decide +kernel
theorem d5_92 : decode prog_2_method_7_code 92 = .ok (.ladd, 1) := by decide +kernel
theorem d5_93 : decode prog_2_method_7_code 93 = .ok (.lstore 7, 2) := by decide +kernel
theorem d5_95 : decode prog_2_method_7_code 95 = .ok (.lload 7, 2) := by decide +kernel
theorem d5_97 : decode prog_2_method_7_code 97 = .ok (.ldc2_w 93, 3) := by decide +kernel
theorem d5_100 : decode prog_2_method_7_code 100 = .ok (.lsub, 1) := by decide +kernel
theorem d5_101 : decode prog_2_method_7_code 101 = .ok (.lreturn, 1) := by decide +kernel
theorem ef_rm5 (m : MethodId) (x0 : Int32) (x1 : Int32) (x2 : Int32) : entryFrame m #[(.int x0), (.int x1), (.int x2)] 9 = mkF m 0 #[.val (.int x0), .val (.int x1), .val (.int x2), .unset, .unset, .unset, .unset, .unset, .unset] [] := by first | (simp [entryFrame, mkF, argsToLocals, Value.category]; done) | rfl
theorem pd_0 : parseMethodDescriptor "(I)Z" = some ⟨[.int], some .boolean⟩ := by decide +kernel
def Q5 (Z : State) (vy : Int32) (vm : Int32) (vd : Int32) (wd : Addr) (kd : ClassId) (h0 : Heap) (n0 : Nat) (v : Option Value) (h : Heap) (L : List Loc) : Prop := ∃ z : Int64, v = some (.long z) ∧ (z.toInt = own_ep vy.toInt vm.toInt vd.toInt) ∧ Fr n0 L ∧ h = h0
set_option maxRecDepth 65536 in
set_option maxHeartbeats 40000000 in
theorem rm5 (l : Launch) (Z : State) (a0 : Array Value) (hw : ∀ d ∈ tables_1, d.before a0 Z = true) (ws : List Jvm.Cond) (vy : Int32) (vm : Int32) (vd : Int32) (wd : Addr) (kd : ClassId) (h0 : Heap) (n0 : Nat) (Z0 : n0 ≤ h0.size) (iy1 : 1 ≤ vy.toInt) (iy2 : vy.toInt ≤ 9999) (im1 : 1 ≤ vm.toInt) (im2 : vm.toInt ≤ 12) (id1 : 1 ≤ vd.toInt) (id2 : vd.toInt ≤ 31) (Sd : Sta Z h0 "com/example/mod7/mod7/calendar/Dates" "DAYS_BEFORE_MONTH" "[I" (.ref wd)) (Vd : Arv Z h0 wd kd .int (12 : Int32) [(.int (0 : Int32)), (.int (31 : Int32)), (.int (59 : Int32)), (.int (90 : Int32)), (.int (120 : Int32)), (.int (151 : Int32)), (.int (181 : Int32)), (.int (212 : Int32)), (.int (243 : Int32)), (.int (273 : Int32)), (.int (304 : Int32)), (.int (334 : Int32))] (.int (0 : Int32))) :
    MetFree l (⟨"com/example/mod7/mod7/calendar/Dates", "epochDay", "(III)J"⟩ : MethodName) (head1 (Jvm.Cond.code (⟨"com/example/mod7/mod7/calendar/Dates", "epochDay", "(III)J"⟩ : MethodName) prog_2_method_7_code 9 (some .long) :: ws) ({ frames := 1, cells := 0, slots := 0, locals := 12 } : Room)) (fun a U => a = #[(.int vy), (.int vm), (.int vd)] ∧ Z.Warmed39 U.vm ∧ U.heap = h0) (fun _ _ _ _ _ => True) (fun _ U o U' => ∃ v L, o = .returned v ∧ Q5 Z vy vm vd wd kd h0 n0 v U'.heap L ∧ FrameEnd U o U' L ({ frames := 1, cells := 0, slots := 0, locals := 12 } : Room).cells ({ frames := 1, cells := 0, slots := 0, locals := 12 } : Room).slots) := by
  refine MetFree.of_bodySF (plainFor_of_name pn_0) hisR ?_
  intro p e s m args below meth c s₁ Bd hml0 hP hK
  obtain ⟨rfl, hZ, hh⟩ := hP
  have hx := Bd.exec
  have hby := Bd.bytes
  have hml : c.maxLocals = 9 := hml0
  have hown : s.vm.findClass "com/example/mod7/mod7/calendar/Dates" = some m.cls := findClass_of_methodNamed Bd.named
  have hnm := (name_of_methodNamed Bd.named Bd.method).1
  have X0 : Stand p l e ({ frames := 1, cells := 0, slots := 0, locals := 12 } : Room) s m #[(.int vy), (.int vm), (.int vd)] below meth c s₁ [] 0 0 := Stand.of_body Bd
  have e0 : s₁.heap = h0 := by rw [← hh, Bd.state]; rfl
  have N0 := Fr.nil n0
  have pre0 : ∀ t, Steps p.tables e below (s₁.setTop (mkF m 0 #[.val (.int vy), .val (.int vm), .val (.int vd), .unset, .unset, .unset, .unset, .unset, .unset] [])) t → Steps p.tables e below (s₁.setTop (entryFrame m #[(.int vy), (.int vm), (.int vd)] 9)) t := fun t k => castTop (ef_rm5 m vy vm vd) k
  have pre1 : ∀ t, Steps p.tables e below (s₁.setTop (mkF m 4 #[.val (.int vy), .val (.int vm), .val (.int vd), .unset, .unset, .unset, .unset, .unset, .unset] [(.long ((vy.toInt64) - (1 : Int64)))])) t → Steps p.tables e below (s₁.setTop (entryFrame m #[(.int vy), (.int vm), (.int vd)] 9)) t := fun t kt => by
    refine pre0 _ ?_
    refine XS.iloadN X0.here hx rfl (hb hby d5_0) rfl ?_
    refine XS.i2l X0.here hx rfl (hb hby d5_1) rfl ?_
    refine XS.lconst X0.here hx rfl (hb hby d5_2) ?_
    refine XS.lsub X0.here hx rfl (hb hby d5_3) rfl ?_
    exact kt
  obtain ⟨yb, hyb⟩ : ∃ z : Int64, z = ((vy.toInt64) - (1 : Int64)) := ⟨_, rfl⟩
  have iyb : yb.toInt = vy.toInt - 1 := by rw [hyb]; have := rng32 vy; have := c_i2l vy; (first | (have : (((vy.toInt64) - (1 : Int64))).toInt = (vy.toInt64).toInt - (1 : Int) := (by have : ((((vy.toInt64) - (1 : Int64))).toInt - ((vy.toInt64).toInt - (1 : Int))) % 18446744073709551616 = 0 := c_lsub (vy.toInt64) (1 : Int64); have := rng64 ((vy.toInt64) - (1 : Int64)); omega)) | (have : ((((vy.toInt64) - (1 : Int64))).toInt - ((vy.toInt64).toInt - (1 : Int))) % 18446744073709551616 = 0 := c_lsub (vy.toInt64) (1 : Int64); have := rng64 ((vy.toInt64) - (1 : Int64)))); omega
  have pre2 : ∀ t, Steps p.tables e below (s₁.setTop (mkF m 4 #[.val (.int vy), .val (.int vm), .val (.int vd), .unset, .unset, .unset, .unset, .unset, .unset] [(.long yb)])) t → Steps p.tables e below (s₁.setTop (entryFrame m #[(.int vy), (.int vm), (.int vd)] 9)) t := by rw [hyb]; exact pre1
  have hc8_3 : ¬ (yb.toInt < (0 : Int)) := by omega
  have pre4 : ∀ t, Steps p.tables e below (s₁.setTop (mkF m 28 #[.val (.int vy), .val (.int vm), .val (.int vd), .val (.long yb), .second, .unset, .unset, .unset, .unset] [(.long (((yb / (4 : Int64)) - (yb / (100 : Int64))) + (yb / (400 : Int64))))])) t → Steps p.tables e below (s₁.setTop (entryFrame m #[(.int vy), (.int vm), (.int vd)] 9)) t := fun t kt => by
    refine pre2 _ ?_
    show Steps p.tables e below (s₁.setTop (mkF m 4 #[.val (.int vy), .val (.int vm), .val (.int vd), .unset, .unset, .unset, .unset, .unset, .unset] [(.long yb)])) _
    refine XS.lstoreN X0.here hx rfl (hb hby d5_4) rfl (l' := #[.val (.int vy), .val (.int vm), .val (.int vd), .val (.long yb), .second, .unset, .unset, .unset, .unset]) rfl ?_
    refine XS.lloadN X0.here hx rfl (hb hby d5_5) rfl ?_
    refine XS.lconst X0.here hx rfl (hb hby d5_6) ?_
    refine XS.lcmp X0.here hx rfl (hb hby d5_7) rfl ?_
    refine XS.ifNo X0.here hx rfl (hb hby d5_8) rfl (own_if (own_fltL (x := yb) (y := (0 : Int64)) rfl (by decide) hc8_3).1) ?_
    show Steps p.tables e below (s₁.setTop (mkF m 11 #[.val (.int vy), .val (.int vm), .val (.int vd), .val (.long yb), .second, .unset, .unset, .unset, .unset] [])) _
    refine XS.lloadN X0.here hx rfl (hb hby d5_11) rfl ?_
    refine X0.ldc2Long hx hown (mvT hZ (hw _ (List.mem_of_getElem? (i := 25) rfl))) (g := (mkF m 12 #[.val (.int vy), .val (.int vm), .val (.int vd), .val (.long yb), .second, .unset, .unset, .unset, .unset] [(.long yb)])) rfl (hb hby d5_12) _ ?_
    refine XS.ldiv X0.here hx rfl (hb hby d5_15) rfl (by decide) ?_
    refine XS.lloadN X0.here hx rfl (hb hby d5_16) rfl ?_
    refine X0.ldc2Long hx hown (mvT hZ (hw _ (List.mem_of_getElem? (i := 26) rfl))) (g := (mkF m 17 #[.val (.int vy), .val (.int vm), .val (.int vd), .val (.long yb), .second, .unset, .unset, .unset, .unset] [(.long yb), (.long (yb / (4 : Int64)))])) rfl (hb hby d5_17) _ ?_
    show Steps p.tables e below (s₁.setTop (mkF m 20 #[.val (.int vy), .val (.int vm), .val (.int vd), .val (.long yb), .second, .unset, .unset, .unset, .unset] [(.long (100 : Int64)), (.long yb), (.long (yb / (4 : Int64)))])) _
    refine XS.ldiv X0.here hx rfl (hb hby d5_20) rfl (by decide) ?_
    refine XS.lsub X0.here hx rfl (hb hby d5_21) rfl ?_
    refine XS.lloadN X0.here hx rfl (hb hby d5_22) rfl ?_
    refine X0.ldc2Long hx hown (mvT hZ (hw _ (List.mem_of_getElem? (i := 27) rfl))) (g := (mkF m 23 #[.val (.int vy), .val (.int vm), .val (.int vd), .val (.long yb), .second, .unset, .unset, .unset, .unset] [(.long yb), (.long ((yb / (4 : Int64)) - (yb / (100 : Int64))))])) rfl (hb hby d5_23) _ ?_
    refine XS.ldiv X0.here hx rfl (hb hby d5_26) rfl (by decide) ?_
    show Steps p.tables e below (s₁.setTop (mkF m 27 #[.val (.int vy), .val (.int vm), .val (.int vd), .val (.long yb), .second, .unset, .unset, .unset, .unset] [(.long (yb / (400 : Int64))), (.long ((yb / (4 : Int64)) - (yb / (100 : Int64))))])) _
    refine XS.ladd X0.here hx rfl (hb hby d5_27) rfl ?_
    exact kt
  obtain ⟨lpd, hlpd⟩ : ∃ z : Int64, z = (((yb / (4 : Int64)) - (yb / (100 : Int64))) + (yb / (400 : Int64))) := ⟨_, rfl⟩
  have ilpd : lpd.toInt = yb.toInt / 4 - yb.toInt / 100 + yb.toInt / 400 := by rw [hlpd]; have := rng64 yb; have := c_ldiv yb (4 : Int64) 4 (by decide) (by decide); have := c_ldiv yb (100 : Int64) 100 (by decide) (by decide); (first | (have : (((yb / (4 : Int64)) - (yb / (100 : Int64)))).toInt = (yb / (4 : Int64)).toInt - (yb / (100 : Int64)).toInt := (by have : ((((yb / (4 : Int64)) - (yb / (100 : Int64)))).toInt - ((yb / (4 : Int64)).toInt - (yb / (100 : Int64)).toInt)) % 18446744073709551616 = 0 := c_lsub (yb / (4 : Int64)) (yb / (100 : Int64)); have := rng64 ((yb / (4 : Int64)) - (yb / (100 : Int64))); omega)) | (have : ((((yb / (4 : Int64)) - (yb / (100 : Int64)))).toInt - ((yb / (4 : Int64)).toInt - (yb / (100 : Int64)).toInt)) % 18446744073709551616 = 0 := c_lsub (yb / (4 : Int64)) (yb / (100 : Int64)); have := rng64 ((yb / (4 : Int64)) - (yb / (100 : Int64))))); have := c_ldiv yb (400 : Int64) 400 (by decide) (by decide); (first | (have : ((((yb / (4 : Int64)) - (yb / (100 : Int64))) + (yb / (400 : Int64)))).toInt = ((yb / (4 : Int64)) - (yb / (100 : Int64))).toInt + (yb / (400 : Int64)).toInt := (by have : (((((yb / (4 : Int64)) - (yb / (100 : Int64))) + (yb / (400 : Int64)))).toInt - (((yb / (4 : Int64)) - (yb / (100 : Int64))).toInt + (yb / (400 : Int64)).toInt)) % 18446744073709551616 = 0 := c_ladd ((yb / (4 : Int64)) - (yb / (100 : Int64))) (yb / (400 : Int64)); have := rng64 (((yb / (4 : Int64)) - (yb / (100 : Int64))) + (yb / (400 : Int64))); omega)) | (have : (((((yb / (4 : Int64)) - (yb / (100 : Int64))) + (yb / (400 : Int64)))).toInt - (((yb / (4 : Int64)) - (yb / (100 : Int64))).toInt + (yb / (400 : Int64)).toInt)) % 18446744073709551616 = 0 := c_ladd ((yb / (4 : Int64)) - (yb / (100 : Int64))) (yb / (400 : Int64)); have := rng64 (((yb / (4 : Int64)) - (yb / (100 : Int64))) + (yb / (400 : Int64))))); omega
  have pre5 : ∀ t, Steps p.tables e below (s₁.setTop (mkF m 28 #[.val (.int vy), .val (.int vm), .val (.int vd), .val (.long yb), .second, .unset, .unset, .unset, .unset] [(.long lpd)])) t → Steps p.tables e below (s₁.setTop (entryFrame m #[(.int vy), (.int vm), (.int vd)] 9)) t := by rw [hlpd]; exact pre4
  obtain ⟨T6, X6, e6, st6⟩ := getS2 X0 hx hZ hown (host := "") (Or.inl (hw _ (List.mem_of_getElem? (i := 29) rfl))) Via.refl e0 Sd (g := (mkF m 61 #[.val (.int vy), .val (.int vm), .val (.int vd), .val (.long yb), .second, .val (.long lpd), .second, .unset, .unset] [(.long (((365 : Int64) * yb) + lpd))])) rfl (hb hby d5_61)
  have pre7 : ∀ t, Steps p.tables e below (T6.setTop (mkF m 67 #[.val (.int vy), .val (.int vm), .val (.int vd), .val (.long yb), .second, .val (.long lpd), .second, .unset, .unset] [(.int (vm - (1 : Int32))), (.ref wd), (.long (((365 : Int64) * yb) + lpd))])) t → Steps p.tables e below (s₁.setTop (entryFrame m #[(.int vy), (.int vm), (.int vd)] 9)) t := fun t kt => by
    refine pre5 _ ?_
    refine XS.goto X0.here hx rfl (pc0 := 28) (pc' := 51) rfl (hb hby d5_28) (by decide) (by decide) ?_
    refine XS.lstore X0.here hx rfl (hb hby d5_51) rfl (l' := #[.val (.int vy), .val (.int vm), .val (.int vd), .val (.long yb), .second, .val (.long lpd), .second, .unset, .unset]) rfl ?_
    refine X0.ldc2Long hx hown (mvT hZ (hw _ (List.mem_of_getElem? (i := 28) rfl))) (g := (mkF m 53 #[.val (.int vy), .val (.int vm), .val (.int vd), .val (.long yb), .second, .val (.long lpd), .second, .unset, .unset] [])) rfl (hb hby d5_53) _ ?_
    refine XS.lloadN X0.here hx rfl (hb hby d5_56) rfl ?_
    show Steps p.tables e below (s₁.setTop (mkF m 57 #[.val (.int vy), .val (.int vm), .val (.int vd), .val (.long yb), .second, .val (.long lpd), .second, .unset, .unset] [(.long yb), (.long (365 : Int64))])) _
    refine XS.lmul X0.here hx rfl (hb hby d5_57) rfl ?_
    refine XS.lload X0.here hx rfl (hb hby d5_58) rfl ?_
    refine XS.ladd X0.here hx rfl (hb hby d5_60) rfl ?_
    refine st6 _ ?_
    refine XS.iloadN X6.here hx rfl (hb hby d5_64) rfl ?_
    show Steps p.tables e below (T6.setTop (mkF m 65 #[.val (.int vy), .val (.int vm), .val (.int vd), .val (.long yb), .second, .val (.long lpd), .second, .unset, .unset] [(.int vm), (.ref wd), (.long (((365 : Int64) * yb) + lpd))])) _
    refine XS.iconst X6.here hx rfl (hb hby d5_65) ?_
    refine XS.isub X6.here hx rfl (hb hby d5_66) rfl ?_
    exact kt
  obtain ⟨ix, hix⟩ : ∃ z : Int32, z = (vm - (1 : Int32)) := ⟨_, rfl⟩
  have iix : ix.toInt = vm.toInt - 1 := by rw [hix]; have := rng32 vm; (first | (have : ((vm - (1 : Int32))).toInt = vm.toInt - (1 : Int) := (by have : (((vm - (1 : Int32))).toInt - (vm.toInt - (1 : Int))) % 4294967296 = 0 := c_isub vm (1 : Int32); have := rng32 (vm - (1 : Int32)); omega)) | (have : (((vm - (1 : Int32))).toInt - (vm.toInt - (1 : Int))) % 4294967296 = 0 := c_isub vm (1 : Int32); have := rng32 (vm - (1 : Int32)))); omega
  have pre8 : ∀ t, Steps p.tables e below (T6.setTop (mkF m 67 #[.val (.int vy), .val (.int vm), .val (.int vd), .val (.long yb), .second, .val (.long lpd), .second, .unset, .unset] [(.int ix), (.ref wd), (.long (((365 : Int64) * yb) + lpd))])) t → Steps p.tables e below (s₁.setTop (entryFrame m #[(.int vy), (.int vm), (.int vd)] 9)) t := by rw [hix]; exact pre7
  obtain ⟨cl9, Ar9, q9, S9, M9, H9, G9⟩ := id Vd
  have hin9 : ¬ (ix < 0 ∨ cl9.slots.size ≤ (ix).toNatClampNeg) := inb_of S9 ⟨by rw [Int32.lt_iff_toInt_lt]; have k0 : (0 : Int32).toInt = 0 := (by decide); omega, by rw [Int32.lt_iff_toInt_lt]; have k0 : (12 : Int32).toInt = 12 := (by decide); omega⟩
  obtain ⟨tv, htv, itv⟩ := own_dbm_at ix vm.toInt im1 im2 (by rw [iix])
  have hat9 : cl9.slots[(ix).toNatClampNeg]? = some (.int tv) := Has.at H9 hin9 htv
  have pre10 : ∀ t, Steps p.tables e below (T6.setTop (mkF m 75 #[.val (.int vy), .val (.int vm), .val (.int vd), .val (.long yb), .second, .val (.long lpd), .second, .unset, .unset] [(.long ((((((365 : Int64) * yb) + lpd) + (tv.toInt64)) + (vd.toInt64)) - (1 : Int64)))])) t → Steps p.tables e below (s₁.setTop (entryFrame m #[(.int vy), (.int vm), (.int vd)] 9)) t := fun t kt => by
    refine pre8 _ ?_
    refine X6.iaload hx (j := ix) (v := (.int tv)) (by rw [e6]; exact Ar9.1) (State.isArrayOf_alike hZ.alike Ar9.2.1) Ar9.2.2 hin9 hat9 (g := (mkF m 67 #[.val (.int vy), .val (.int vm), .val (.int vd), .val (.long yb), .second, .val (.long lpd), .second, .unset, .unset] [(.int ix), (.ref wd), (.long (((365 : Int64) * yb) + lpd))])) rfl rfl (hb hby d5_67) _ ?_
    refine XS.i2l X6.here hx rfl (hb hby d5_68) rfl ?_
    refine XS.ladd X6.here hx rfl (hb hby d5_69) rfl ?_
    show Steps p.tables e below (T6.setTop (mkF m 70 #[.val (.int vy), .val (.int vm), .val (.int vd), .val (.long yb), .second, .val (.long lpd), .second, .unset, .unset] [(.long ((((365 : Int64) * yb) + lpd) + (tv.toInt64)))])) _
    refine XS.iloadN X6.here hx rfl (hb hby d5_70) rfl ?_
    refine XS.i2l X6.here hx rfl (hb hby d5_71) rfl ?_
    refine XS.ladd X6.here hx rfl (hb hby d5_72) rfl ?_
    refine XS.lconst X6.here hx rfl (hb hby d5_73) ?_
    refine XS.lsub X6.here hx rfl (hb hby d5_74) rfl ?_
    exact kt
  obtain ⟨dd, hdd⟩ : ∃ z : Int64, z = ((((((365 : Int64) * yb) + lpd) + (tv.toInt64)) + (vd.toInt64)) - (1 : Int64)) := ⟨_, rfl⟩
  have idd : dd.toInt = 365 * yb.toInt + lpd.toInt + tv.toInt + vd.toInt - 1 := by rw [hdd]; have := rng64 yb; (first | (have : (((365 : Int64) * yb)).toInt = (365 : Int) * yb.toInt := (by have : ((((365 : Int64) * yb)).toInt - ((365 : Int) * yb.toInt)) % 18446744073709551616 = 0 := c_lmul (365 : Int64) yb; have := rng64 ((365 : Int64) * yb); omega)) | (have : ((((365 : Int64) * yb)).toInt - ((365 : Int) * yb.toInt)) % 18446744073709551616 = 0 := c_lmul (365 : Int64) yb; have := rng64 ((365 : Int64) * yb))); have := rng64 lpd; (first | (have : ((((365 : Int64) * yb) + lpd)).toInt = ((365 : Int64) * yb).toInt + lpd.toInt := (by have : (((((365 : Int64) * yb) + lpd)).toInt - (((365 : Int64) * yb).toInt + lpd.toInt)) % 18446744073709551616 = 0 := c_ladd ((365 : Int64) * yb) lpd; have := rng64 (((365 : Int64) * yb) + lpd); omega)) | (have : (((((365 : Int64) * yb) + lpd)).toInt - (((365 : Int64) * yb).toInt + lpd.toInt)) % 18446744073709551616 = 0 := c_ladd ((365 : Int64) * yb) lpd; have := rng64 (((365 : Int64) * yb) + lpd))); have := rng32 tv; have := c_i2l tv; (first | (have : (((((365 : Int64) * yb) + lpd) + (tv.toInt64))).toInt = (((365 : Int64) * yb) + lpd).toInt + (tv.toInt64).toInt := (by have : ((((((365 : Int64) * yb) + lpd) + (tv.toInt64))).toInt - ((((365 : Int64) * yb) + lpd).toInt + (tv.toInt64).toInt)) % 18446744073709551616 = 0 := c_ladd (((365 : Int64) * yb) + lpd) (tv.toInt64); have := rng64 ((((365 : Int64) * yb) + lpd) + (tv.toInt64)); omega)) | (have : ((((((365 : Int64) * yb) + lpd) + (tv.toInt64))).toInt - ((((365 : Int64) * yb) + lpd).toInt + (tv.toInt64).toInt)) % 18446744073709551616 = 0 := c_ladd (((365 : Int64) * yb) + lpd) (tv.toInt64); have := rng64 ((((365 : Int64) * yb) + lpd) + (tv.toInt64)))); have := rng32 vd; have := c_i2l vd; (first | (have : ((((((365 : Int64) * yb) + lpd) + (tv.toInt64)) + (vd.toInt64))).toInt = ((((365 : Int64) * yb) + lpd) + (tv.toInt64)).toInt + (vd.toInt64).toInt := (by have : (((((((365 : Int64) * yb) + lpd) + (tv.toInt64)) + (vd.toInt64))).toInt - (((((365 : Int64) * yb) + lpd) + (tv.toInt64)).toInt + (vd.toInt64).toInt)) % 18446744073709551616 = 0 := c_ladd ((((365 : Int64) * yb) + lpd) + (tv.toInt64)) (vd.toInt64); have := rng64 (((((365 : Int64) * yb) + lpd) + (tv.toInt64)) + (vd.toInt64)); omega)) | (have : (((((((365 : Int64) * yb) + lpd) + (tv.toInt64)) + (vd.toInt64))).toInt - (((((365 : Int64) * yb) + lpd) + (tv.toInt64)).toInt + (vd.toInt64).toInt)) % 18446744073709551616 = 0 := c_ladd ((((365 : Int64) * yb) + lpd) + (tv.toInt64)) (vd.toInt64); have := rng64 (((((365 : Int64) * yb) + lpd) + (tv.toInt64)) + (vd.toInt64)))); (first | (have : (((((((365 : Int64) * yb) + lpd) + (tv.toInt64)) + (vd.toInt64)) - (1 : Int64))).toInt = (((((365 : Int64) * yb) + lpd) + (tv.toInt64)) + (vd.toInt64)).toInt - (1 : Int) := (by have : ((((((((365 : Int64) * yb) + lpd) + (tv.toInt64)) + (vd.toInt64)) - (1 : Int64))).toInt - ((((((365 : Int64) * yb) + lpd) + (tv.toInt64)) + (vd.toInt64)).toInt - (1 : Int))) % 18446744073709551616 = 0 := c_lsub (((((365 : Int64) * yb) + lpd) + (tv.toInt64)) + (vd.toInt64)) (1 : Int64); have := rng64 ((((((365 : Int64) * yb) + lpd) + (tv.toInt64)) + (vd.toInt64)) - (1 : Int64)); omega)) | (have : ((((((((365 : Int64) * yb) + lpd) + (tv.toInt64)) + (vd.toInt64)) - (1 : Int64))).toInt - ((((((365 : Int64) * yb) + lpd) + (tv.toInt64)) + (vd.toInt64)).toInt - (1 : Int))) % 18446744073709551616 = 0 := c_lsub (((((365 : Int64) * yb) + lpd) + (tv.toInt64)) + (vd.toInt64)) (1 : Int64); have := rng64 ((((((365 : Int64) * yb) + lpd) + (tv.toInt64)) + (vd.toInt64)) - (1 : Int64)))); have := own_dbm_le vm.toInt; omega
  have pre11 : ∀ t, Steps p.tables e below (T6.setTop (mkF m 75 #[.val (.int vy), .val (.int vm), .val (.int vd), .val (.long yb), .second, .val (.long lpd), .second, .unset, .unset] [(.long dd)])) t → Steps p.tables e below (s₁.setTop (entryFrame m #[(.int vy), (.int vm), (.int vd)] 9)) t := by rw [hdd]; exact pre10
  have pre13 : ∀ t, Steps p.tables e below (T6.setTop (mkF m 79 #[.val (.int vy), .val (.int vm), .val (.int vd), .val (.long yb), .second, .val (.long lpd), .second, .val (.long dd), .second] [(.int (2 : Int32)), (.int vm)])) t → Steps p.tables e below (s₁.setTop (entryFrame m #[(.int vy), (.int vm), (.int vd)] 9)) t := fun t kt => by
    refine pre11 _ ?_
    show Steps p.tables e below (T6.setTop (mkF m 75 #[.val (.int vy), .val (.int vm), .val (.int vd), .val (.long yb), .second, .val (.long lpd), .second, .unset, .unset] [(.long dd)])) _
    refine XS.lstore X6.here hx rfl (hb hby d5_75) rfl (l' := #[.val (.int vy), .val (.int vm), .val (.int vd), .val (.long yb), .second, .val (.long lpd), .second, .val (.long dd), .second]) rfl ?_
    refine XS.iloadN X6.here hx rfl (hb hby d5_77) rfl ?_
    refine XS.iconst X6.here hx rfl (hb hby d5_78) ?_
    exact kt
  by_cases hc79_12 : (2 : Int) < vm.toInt
  · obtain ⟨_, _, ⟨T14, L14, k14, n14⟩, -, X14, ⟨Lc14, hQ14, l14, y14, z14⟩, st14⟩ := Jvm.LawKit.callS X6 hx (y := (⟨"com/example/mod7/mod7/calendar/Dates", "isLeap", "(I)Z"⟩ : MethodName)) hown (mvT hZ (hw _ (List.mem_of_getElem? (i := 32) rfl))) (mvT hZ (hw _ (List.mem_of_getElem? (i := 33) rfl))) (mvT hZ (hw _ (List.mem_of_getElem? (i := 6) rfl))) (mvT hZ (hw _ (List.mem_of_getElem? (i := 34) rfl))) (by decide) (backOf (W := 0) (rm6 l Z a0 hw [] vy h0 n0 Z0 ) hZ (hw _ (List.mem_of_getElem? (i := 34) rfl)) (hw _ (List.mem_of_getElem? (i := 6) rfl)) (by decide) (by decide)) (g := (mkF m 83 #[.val (.int vy), .val (.int vm), .val (.int vd), .val (.long yb), .second, .val (.long lpd), .second, .val (.long dd), .second] [(.int vy)])) rfl (by rw [hml]; rfl) (argsL := [(.int vy)]) (rest := []) (lenOf pd_0 rfl) rfl (by show 2 * 0 + _ ≤ _; exact Nat.le_of_eq rfl) (hb hby d5_83) (fun _ _ => ⟨rfl, e6, (by decide : 0 + 0 ≤ _), (by decide : 0 + 0 ≤ _)⟩)
    dsimp only [Pt.U, Pt.locs, Pt.cells, Pt.slots] at X14 l14 y14 z14 st14 hQ14
    rw [l14, y14, z14] at X14
    obtain ⟨lpz, rfl, hlpz, N14q, e14⟩ := hQ14
    have N14 := Fr.app N0 N14q
    have pre16 : ∀ t, Steps p.tables e below (T14.setTop (mkF m 86 #[.val (.int vy), .val (.int vm), .val (.int vd), .val (.long yb), .second, .val (.long lpd), .second, .val (.long dd), .second] [(.int lpz)])) t → Steps p.tables e below (s₁.setTop (entryFrame m #[(.int vy), (.int vm), (.int vd)] 9)) t := fun t kt => by
      refine pre13 _ ?_
      show Steps p.tables e below (T6.setTop (mkF m 79 #[.val (.int vy), .val (.int vm), .val (.int vd), .val (.long yb), .second, .val (.long lpd), .second, .val (.long dd), .second] [(.int (2 : Int32)), (.int vm)])) _
      refine XS.icmpNo X6.here hx rfl (hb hby d5_79) rfl (own_tlt (a := (2 : Int32)) (b := vm) (by decide) rfl hc79_12).2.2.2 ?_
      show Steps p.tables e below (T6.setTop (mkF m 82 #[.val (.int vy), .val (.int vm), .val (.int vd), .val (.long yb), .second, .val (.long lpd), .second, .val (.long dd), .second] [])) _
      refine XS.iloadN X6.here hx rfl (hb hby d5_82) rfl ?_
      refine st14 _ ?_
      exact kt
    by_cases hc86_15 : lpz.toInt = (0 : Int)
    · obtain ⟨fs, hr, hrun, hended, hW, hsame⟩ := X14.leave (v := some (.long (dd - (719162 : Int64)))) (fun h => by rw [Bd.returns] at h; cases h)
      refine ⟨_, _, pre16 _ ?_, hrun, hended, _, _, rfl, ?_, ⟨_, rfl⟩, hW, hsame.mono (by decide) (by decide)⟩
      · show Steps p.tables e below (T14.setTop (mkF m 86 #[.val (.int vy), .val (.int vm), .val (.int vd), .val (.long yb), .second, .val (.long lpd), .second, .val (.long dd), .second] [(.int lpz)])) _
        refine XS.ifYes X14.here hx rfl (pc0 := 86) (pc' := 95) rfl (hb hby d5_86) rfl (own_if (own_teq (a := lpz) (b := (0 : Int32)) rfl (by decide) hc86_15).1) (by decide) (by decide) ?_
        refine XS.lload X14.here hx rfl (hb hby d5_95) rfl ?_
        show Steps p.tables e below (T14.setTop (mkF m 97 #[.val (.int vy), .val (.int vm), .val (.int vd), .val (.long yb), .second, .val (.long lpd), .second, .val (.long dd), .second] [(.long dd)])) _
        refine X14.ldc2Long hx hown (mvT hZ (hw _ (List.mem_of_getElem? (i := 31) rfl))) (g := (mkF m 97 #[.val (.int vy), .val (.int vm), .val (.int vd), .val (.long yb), .second, .val (.long lpd), .second, .val (.long dd), .second] [(.long dd)])) rfl (hb hby d5_97) _ ?_
        refine XS.lsub X14.here hx rfl (hb hby d5_100) rfl ?_
        jvm_step X14.here [X14.here.top, hx, (hb hby d5_101), X14.method', Bd.returns, narrow]
        first | (intro acts; rw [hr _ acts rfl rfl rfl]) | rw [hr _ _ rfl rfl rfl]
        exact Steps.refl _
      · show Q5 Z vy vm vd wd kd h0 n0 _ T14.heap _
        rw [e14]
        exact ⟨_, rfl, by have hl : own_lp vy.toInt vm.toInt = 0 := (if_neg (fun q => by obtain ⟨q1, q2⟩ := q; omega)); unfold own_ep; rw [hl, ← iyb]; have := own_dbm_le vm.toInt; have := rng64 dd; (first | (have : ((dd - (719162 : Int64))).toInt = dd.toInt - (719162 : Int) := (by have : (((dd - (719162 : Int64))).toInt - (dd.toInt - (719162 : Int))) % 18446744073709551616 = 0 := c_lsub dd (719162 : Int64); have := rng64 (dd - (719162 : Int64)); omega)) | (have : (((dd - (719162 : Int64))).toInt - (dd.toInt - (719162 : Int))) % 18446744073709551616 = 0 := c_lsub dd (719162 : Int64); have := rng64 (dd - (719162 : Int64)))); omega, N14, rfl⟩
    · obtain ⟨fs, hr, hrun, hended, hW, hsame⟩ := X14.leave (v := some (.long ((dd + (1 : Int64)) - (719162 : Int64)))) (fun h => by rw [Bd.returns] at h; cases h)
      refine ⟨_, _, pre16 _ ?_, hrun, hended, _, _, rfl, ?_, ⟨_, rfl⟩, hW, hsame.mono (by decide) (by decide)⟩
      · show Steps p.tables e below (T14.setTop (mkF m 86 #[.val (.int vy), .val (.int vm), .val (.int vd), .val (.long yb), .second, .val (.long lpd), .second, .val (.long dd), .second] [(.int lpz)])) _
        refine XS.ifNo X14.here hx rfl (hb hby d5_86) rfl (own_if (own_feq (a := lpz) (b := (0 : Int32)) rfl (by decide) hc86_15).1) ?_
        refine XS.lload X14.here hx rfl (hb hby d5_89) rfl ?_
        show Steps p.tables e below (T14.setTop (mkF m 91 #[.val (.int vy), .val (.int vm), .val (.int vd), .val (.long yb), .second, .val (.long lpd), .second, .val (.long dd), .second] [(.long dd)])) _
        refine XS.lconst X14.here hx rfl (hb hby d5_91) ?_
        refine XS.ladd X14.here hx rfl (hb hby d5_92) rfl ?_
        refine XS.lstore X14.here hx rfl (hb hby d5_93) rfl (l' := #[.val (.int vy), .val (.int vm), .val (.int vd), .val (.long yb), .second, .val (.long lpd), .second, .val (.long (dd + (1 : Int64))), .second]) rfl ?_
        refine XS.lload X14.here hx rfl (hb hby d5_95) rfl ?_
        refine X14.ldc2Long hx hown (mvT hZ (hw _ (List.mem_of_getElem? (i := 31) rfl))) (g := (mkF m 97 #[.val (.int vy), .val (.int vm), .val (.int vd), .val (.long yb), .second, .val (.long lpd), .second, .val (.long (dd + (1 : Int64))), .second] [(.long (dd + (1 : Int64)))])) rfl (hb hby d5_97) _ ?_
        show Steps p.tables e below (T14.setTop (mkF m 100 #[.val (.int vy), .val (.int vm), .val (.int vd), .val (.long yb), .second, .val (.long lpd), .second, .val (.long (dd + (1 : Int64))), .second] [(.long (719162 : Int64)), (.long (dd + (1 : Int64)))])) _
        refine XS.lsub X14.here hx rfl (hb hby d5_100) rfl ?_
        jvm_step X14.here [X14.here.top, hx, (hb hby d5_101), X14.method', Bd.returns, narrow]
        first | (intro acts; rw [hr _ acts rfl rfl rfl]) | rw [hr _ _ rfl rfl rfl]
        exact Steps.refl _
      · show Q5 Z vy vm vd wd kd h0 n0 _ T14.heap _
        rw [e14]
        exact ⟨_, rfl, by have hl : own_lp vy.toInt vm.toInt = 1 := (if_pos ⟨by omega, by omega⟩); unfold own_ep; rw [hl, ← iyb]; have := own_dbm_le vm.toInt; have := rng64 dd; (first | (have : ((dd + (1 : Int64))).toInt = dd.toInt + (1 : Int) := (by have : (((dd + (1 : Int64))).toInt - (dd.toInt + (1 : Int))) % 18446744073709551616 = 0 := c_ladd dd (1 : Int64); have := rng64 (dd + (1 : Int64)); omega)) | (have : (((dd + (1 : Int64))).toInt - (dd.toInt + (1 : Int))) % 18446744073709551616 = 0 := c_ladd dd (1 : Int64); have := rng64 (dd + (1 : Int64)))); (first | (have : (((dd + (1 : Int64)) - (719162 : Int64))).toInt = (dd + (1 : Int64)).toInt - (719162 : Int) := (by have : ((((dd + (1 : Int64)) - (719162 : Int64))).toInt - ((dd + (1 : Int64)).toInt - (719162 : Int))) % 18446744073709551616 = 0 := c_lsub (dd + (1 : Int64)) (719162 : Int64); have := rng64 ((dd + (1 : Int64)) - (719162 : Int64)); omega)) | (have : ((((dd + (1 : Int64)) - (719162 : Int64))).toInt - ((dd + (1 : Int64)).toInt - (719162 : Int))) % 18446744073709551616 = 0 := c_lsub (dd + (1 : Int64)) (719162 : Int64); have := rng64 ((dd + (1 : Int64)) - (719162 : Int64)))); omega, N14, rfl⟩
  · obtain ⟨fs, hr, hrun, hended, hW, hsame⟩ := X6.leave (v := some (.long (dd - (719162 : Int64)))) (fun h => by rw [Bd.returns] at h; cases h)
    refine ⟨_, _, pre13 _ ?_, hrun, hended, _, _, rfl, ?_, ⟨_, rfl⟩, hW, hsame.mono (by decide) (by decide)⟩
    · show Steps p.tables e below (T6.setTop (mkF m 79 #[.val (.int vy), .val (.int vm), .val (.int vd), .val (.long yb), .second, .val (.long lpd), .second, .val (.long dd), .second] [(.int (2 : Int32)), (.int vm)])) _
      refine XS.icmpYes X6.here hx rfl (pc0 := 79) (pc' := 95) rfl (hb hby d5_79) rfl (own_flt (a := (2 : Int32)) (b := vm) (by decide) rfl hc79_12).2.2.2 (by decide) (by decide) ?_
      show Steps p.tables e below (T6.setTop (mkF m 95 #[.val (.int vy), .val (.int vm), .val (.int vd), .val (.long yb), .second, .val (.long lpd), .second, .val (.long dd), .second] [])) _
      refine XS.lload X6.here hx rfl (hb hby d5_95) rfl ?_
      refine X6.ldc2Long hx hown (mvT hZ (hw _ (List.mem_of_getElem? (i := 31) rfl))) (g := (mkF m 97 #[.val (.int vy), .val (.int vm), .val (.int vd), .val (.long yb), .second, .val (.long lpd), .second, .val (.long dd), .second] [(.long dd)])) rfl (hb hby d5_97) _ ?_
      refine XS.lsub X6.here hx rfl (hb hby d5_100) rfl ?_
      jvm_step X6.here [X6.here.top, hx, (hb hby d5_101), X6.method', Bd.returns, narrow]
      first | (intro acts; rw [hr _ acts rfl rfl rfl]) | rw [hr _ _ rfl rfl rfl]
      exact Steps.refl _
    · show Q5 Z vy vm vd wd kd h0 n0 _ T6.heap _
      rw [e6]
      exact ⟨_, rfl, by have hl : own_lp vy.toInt vm.toInt = 0 := (if_neg (fun q => by obtain ⟨q1, q2⟩ := q; omega)); unfold own_ep; rw [hl, ← iyb]; have := own_dbm_le vm.toInt; have := rng64 dd; (first | (have : ((dd - (719162 : Int64))).toInt = dd.toInt - (719162 : Int) := (by have : (((dd - (719162 : Int64))).toInt - (dd.toInt - (719162 : Int))) % 18446744073709551616 = 0 := c_lsub dd (719162 : Int64); have := rng64 (dd - (719162 : Int64)); omega)) | (have : (((dd - (719162 : Int64))).toInt - (dd.toInt - (719162 : Int))) % 18446744073709551616 = 0 := c_lsub dd (719162 : Int64); have := rng64 (dd - (719162 : Int64)))); omega, N0, rfl⟩
theorem d4_0 : decode method_4_code 0 = .ok (.iload_n 0, 1) := by decide +kernel
theorem d4_1 : decode method_4_code 1 = .ok (.iconst 4, 1) := by decide +kernel
theorem d4_2 : decode method_4_code 2 = .ok (.irem, 1) := by decide +kernel
theorem d4_3 : decode method_4_code 3 = .ok (.ifCond .ne 22, 3) := by decide +kernel
theorem d4_6 : decode method_4_code 6 = .ok (.iload_n 0, 1) := by decide +kernel
theorem d4_7 : decode method_4_code 7 = .ok (.bipush 100, 2) := by decide +kernel
theorem d4_9 : decode method_4_code 9 = .ok (.irem, 1) := by decide +kernel
theorem d4_10 : decode method_4_code 10 = .ok (.ifCond .ne 11, 3) := by decide +kernel
theorem d4_13 : decode method_4_code 13 = .ok (.iload_n 0, 1) := by decide +kernel
theorem d4_14 : decode method_4_code 14 = .ok (.sipush 400, 3) := by decide +kernel
theorem d4_17 : decode method_4_code 17 = .ok (.irem, 1) := by decide +kernel
theorem d4_18 : decode method_4_code 18 = .ok (.ifCond .ne 7, 3) := by decide +kernel
theorem d4_21 : decode method_4_code 21 = .ok (.iconst 1, 1) := by decide +kernel
theorem d4_22 : decode method_4_code 22 = .ok (.goto 4, 3) := by decide +kernel
theorem d4_25 : decode method_4_code 25 = .ok (.iconst 0, 1) := by decide +kernel
theorem d4_26 : decode method_4_code 26 = .ok (.istore_n 2, 1) := by decide +kernel
theorem d4_27 : decode method_4_code 27 = .ok (.iload_n 1, 1) := by decide +kernel
theorem d4_28 : decode method_4_code 28 = .ok (.iconst 2, 1) := by decide +kernel
theorem d4_29 : decode method_4_code 29 = .ok (.if_icmp .ne 15, 3) := by decide +kernel
theorem d4_32 : decode method_4_code 32 = .ok (.iload_n 2, 1) := by decide +kernel
theorem d4_33 : decode method_4_code 33 = .ok (.ifCond .eq 8, 3) := by decide +kernel
theorem d4_36 : decode method_4_code 36 = .ok (.bipush 29, 2) := by decide +kernel
theorem d4_38 : decode method_4_code 38 = .ok (.goto 5, 3) := by decide +kernel
theorem d4_41 : decode method_4_code 41 = .ok (.bipush 28, 2) := by decide +kernel
theorem d4_43 : decode method_4_code 43 = .ok (.ireturn, 1) := by decide +kernel
theorem d4_44 : decode method_4_code 44 = .ok (.iload_n 1, 1) := by decide +kernel
theorem d4_45 : decode method_4_code 45 = .ok (.iconst 4, 1) := by decide +kernel
theorem d4_46 : decode method_4_code 46 = .ok (.if_icmp .eq 21, 3) := by decide +kernel
theorem d4_49 : decode method_4_code 49 = .ok (.iload_n 1, 1) := by decide +kernel
theorem d4_50 : decode method_4_code 50 = .ok (.bipush 6, 2) := by decide +kernel
theorem d4_52 : decode method_4_code 52 = .ok (.if_icmp .eq 15, 3) := by decide +kernel
theorem d4_55 : decode method_4_code 55 = .ok (.iload_n 1, 1) := by decide +kernel
theorem d4_56 : decode method_4_code 56 = .ok (.bipush 9, 2) := by decide +kernel
theorem d4_58 : decode method_4_code 58 = .ok (.if_icmp .eq 9, 3) := by decide +kernel
theorem d4_61 : decode method_4_code 61 = .ok (.iload_n 1, 1) := by decide +kernel
theorem d4_62 : decode method_4_code 62 = .ok (.bipush 11, 2) := by decide +kernel
theorem d4_64 : decode method_4_code 64 = .ok (.if_icmp .ne 6, 3) := by decide +kernel
theorem d4_67 : decode method_4_code 67 = .ok (.bipush 30, 2) := by decide +kernel
theorem d4_69 : decode method_4_code 69 = .ok (.ireturn, 1) := by decide +kernel
theorem d4_70 : decode method_4_code 70 = .ok (.bipush 31, 2) := by decide +kernel
theorem d4_72 : decode method_4_code 72 = .ok (.ireturn, 1) := by decide +kernel
theorem pn_1 : plainName "com/example/mod7/mod7/calendar/DatesWritePinLaw" = true := by first | (simp [plainName, overriddenIn]; done) | decide +kernel
theorem ef_rm4 (m : MethodId) (x0 : Int32) (x1 : Int32) : entryFrame m #[(.int x0), (.int x1)] 3 = mkF m 0 #[.val (.int x0), .val (.int x1), .unset] [] := by first | (simp [entryFrame, mkF, argsToLocals, Value.category]; done) | rfl
def Q4 (Z : State) (vy : Int32) (vm : Int32) (h0 : Heap) (n0 : Nat) (v : Option Value) (h : Heap) (L : List Loc) : Prop := ∃ z : Int32, v = some (.int z) ∧ ((vm.toInt = 2 → (vy.toInt % 4 = 0 ∧ (¬ vy.toInt % 100 = 0 ∨ vy.toInt % 400 = 0)) → z.toInt = 29) ∧ (vm.toInt = 2 → ¬ (vy.toInt % 4 = 0 ∧ (¬ vy.toInt % 100 = 0 ∨ vy.toInt % 400 = 0)) → z.toInt = 28) ∧ (vm.toInt = 4 ∨ vm.toInt = 6 ∨ vm.toInt = 9 ∨ vm.toInt = 11 → z.toInt = 30) ∧ (¬ vm.toInt = 2 → ¬ (vm.toInt = 4 ∨ vm.toInt = 6 ∨ vm.toInt = 9 ∨ vm.toInt = 11) → z.toInt = 31)) ∧ Fr n0 L ∧ h = h0
set_option maxRecDepth 65536 in
set_option maxHeartbeats 40000000 in
theorem rm4 (l : Launch) (Z : State) (a0 : Array Value) (hw : ∀ d ∈ tables_1, d.before a0 Z = true) (ws : List Jvm.Cond) (vy : Int32) (vm : Int32) (h0 : Heap) (n0 : Nat) (Z0 : n0 ≤ h0.size) (iy1 : 1 ≤ vy.toInt) (iy2 : vy.toInt ≤ 9999) :
    MetFree l (⟨"com/example/mod7/mod7/calendar/DatesWritePinLaw", "length", "(II)I"⟩ : MethodName) (head1 (Jvm.Cond.code (⟨"com/example/mod7/mod7/calendar/DatesWritePinLaw", "length", "(II)I"⟩ : MethodName) method_4_code 3 (some .int) :: ws) ({ frames := 0, cells := 0, slots := 0, locals := 0 } : Room)) (fun a U => a = #[(.int vy), (.int vm)] ∧ Z.Warmed39 U.vm ∧ U.heap = h0) (fun _ _ _ _ _ => True) (fun _ U o U' => ∃ v L, o = .returned v ∧ Q4 Z vy vm h0 n0 v U'.heap L ∧ FrameEnd U o U' L ({ frames := 0, cells := 0, slots := 0, locals := 0 } : Room).cells ({ frames := 0, cells := 0, slots := 0, locals := 0 } : Room).slots) := by
  refine MetFree.of_bodySF (plainFor_of_name pn_1) hisR ?_
  intro p e s m args below meth c s₁ Bd hml0 hP hK
  obtain ⟨rfl, hZ, hh⟩ := hP
  have hx := Bd.exec
  have hby := Bd.bytes
  have hml : c.maxLocals = 3 := hml0
  have hown : s.vm.findClass "com/example/mod7/mod7/calendar/DatesWritePinLaw" = some m.cls := findClass_of_methodNamed Bd.named
  have hnm := (name_of_methodNamed Bd.named Bd.method).1
  have X0 : Stand p l e ({ frames := 0, cells := 0, slots := 0, locals := 0 } : Room) s m #[(.int vy), (.int vm)] below meth c s₁ [] 0 0 := Stand.of_body Bd
  have e0 : s₁.heap = h0 := by rw [← hh, Bd.state]; rfl
  have N0 := Fr.nil n0
  have pre0 : ∀ t, Steps p.tables e below (s₁.setTop (mkF m 0 #[.val (.int vy), .val (.int vm), .unset] [])) t → Steps p.tables e below (s₁.setTop (entryFrame m #[(.int vy), (.int vm)] 3)) t := fun t k => castTop (ef_rm4 m vy vm) k
  obtain ⟨lz, hlz, pre11⟩ : ∃ lz : Int32, ((lz.toInt = 1 ∧ (vy.toInt % 4 = 0 ∧ (¬ vy.toInt % 100 = 0 ∨ vy.toInt % 400 = 0))) ∨ (lz.toInt = 0 ∧ ¬ (vy.toInt % 4 = 0 ∧ (¬ vy.toInt % 100 = 0 ∨ vy.toInt % 400 = 0)))) ∧ ∀ t, Steps p.tables e below (s₁.setTop (mkF m 26 #[.val (.int vy), .val (.int vm), .unset] [(.int lz)])) t → Steps p.tables e below (s₁.setTop (entryFrame m #[(.int vy), (.int vm)] 3)) t := by
    have pre2 : ∀ t, Steps p.tables e below (s₁.setTop (mkF m 3 #[.val (.int vy), .val (.int vm), .unset] [(.int (vy % (4 : Int32)))])) t → Steps p.tables e below (s₁.setTop (entryFrame m #[(.int vy), (.int vm)] 3)) t := fun t kt => by
      refine pre0 _ ?_
      refine XS.iloadN X0.here hx rfl (hb hby d4_0) rfl ?_
      refine XS.iconst X0.here hx rfl (hb hby d4_1) ?_
      refine iremM X0 hx rfl (hb hby d4_2) rfl (by decide) ?_
      exact kt
    by_cases hc3_1 : (vy % (4 : Int32)).toInt = (0 : Int)
    · have pre4 : ∀ t, Steps p.tables e below (s₁.setTop (mkF m 10 #[.val (.int vy), .val (.int vm), .unset] [(.int (vy % (100 : Int32)))])) t → Steps p.tables e below (s₁.setTop (entryFrame m #[(.int vy), (.int vm)] 3)) t := fun t kt => by
        refine pre2 _ ?_
        show Steps p.tables e below (s₁.setTop (mkF m 3 #[.val (.int vy), .val (.int vm), .unset] [(.int (vy % (4 : Int32)))])) _
        refine XS.ifNo X0.here hx rfl (hb hby d4_3) rfl (own_if (own_teq (a := (vy % (4 : Int32))) (b := (0 : Int32)) rfl (by decide) hc3_1).2) ?_
        refine XS.iloadN X0.here hx rfl (hb hby d4_6) rfl ?_
        refine XS.bipush X0.here hx rfl (hb hby d4_7) ?_
        refine iremM X0 hx rfl (hb hby d4_9) rfl (by decide) ?_
        exact kt
      by_cases hc10_3 : (vy % (100 : Int32)).toInt = (0 : Int)
      · have pre6 : ∀ t, Steps p.tables e below (s₁.setTop (mkF m 18 #[.val (.int vy), .val (.int vm), .unset] [(.int (vy % (400 : Int32)))])) t → Steps p.tables e below (s₁.setTop (entryFrame m #[(.int vy), (.int vm)] 3)) t := fun t kt => by
          refine pre4 _ ?_
          show Steps p.tables e below (s₁.setTop (mkF m 10 #[.val (.int vy), .val (.int vm), .unset] [(.int (vy % (100 : Int32)))])) _
          refine XS.ifNo X0.here hx rfl (hb hby d4_10) rfl (own_if (own_teq (a := (vy % (100 : Int32))) (b := (0 : Int32)) rfl (by decide) hc10_3).2) ?_
          refine XS.iloadN X0.here hx rfl (hb hby d4_13) rfl ?_
          refine XS.sipush X0.here hx rfl (hb hby d4_14) ?_
          refine iremM X0 hx rfl (hb hby d4_17) rfl (by decide) ?_
          exact kt
        by_cases hc18_5 : (vy % (400 : Int32)).toInt = (0 : Int)
        · have pre7 : ∀ t, Steps p.tables e below (s₁.setTop (mkF m 26 #[.val (.int vy), .val (.int vm), .unset] [(.int (1 : Int32))])) t → Steps p.tables e below (s₁.setTop (entryFrame m #[(.int vy), (.int vm)] 3)) t := fun t kt => by
            refine pre6 _ ?_
            show Steps p.tables e below (s₁.setTop (mkF m 18 #[.val (.int vy), .val (.int vm), .unset] [(.int (vy % (400 : Int32)))])) _
            refine XS.ifNo X0.here hx rfl (hb hby d4_18) rfl (own_if (own_teq (a := (vy % (400 : Int32))) (b := (0 : Int32)) rfl (by decide) hc18_5).2) ?_
            refine XS.iconst X0.here hx rfl (hb hby d4_21) ?_
            refine XS.goto X0.here hx rfl (pc0 := 22) (pc' := 26) rfl (hb hby d4_22) (by decide) (by decide) ?_
            exact kt
          exact ⟨(1 : Int32), by have iv : ((1 : Int32)).toInt = (1 : Int) := (by decide); have := rng32 vy; have := c_irem vy (4 : Int32) 4 (by decide); have := c_irem vy (100 : Int32) 100 (by decide); have := c_irem vy (400 : Int32) 400 (by decide); omega, pre7⟩
        · have pre8 : ∀ t, Steps p.tables e below (s₁.setTop (mkF m 26 #[.val (.int vy), .val (.int vm), .unset] [(.int (0 : Int32))])) t → Steps p.tables e below (s₁.setTop (entryFrame m #[(.int vy), (.int vm)] 3)) t := fun t kt => by
            refine pre6 _ ?_
            show Steps p.tables e below (s₁.setTop (mkF m 18 #[.val (.int vy), .val (.int vm), .unset] [(.int (vy % (400 : Int32)))])) _
            refine XS.ifYes X0.here hx rfl (pc0 := 18) (pc' := 25) rfl (hb hby d4_18) rfl (own_if (own_feq (a := (vy % (400 : Int32))) (b := (0 : Int32)) rfl (by decide) hc18_5).2) (by decide) (by decide) ?_
            refine XS.iconst X0.here hx rfl (hb hby d4_25) ?_
            exact kt
          exact ⟨(0 : Int32), by have iv : ((0 : Int32)).toInt = (0 : Int) := (by decide); have := rng32 vy; have := c_irem vy (4 : Int32) 4 (by decide); have := c_irem vy (100 : Int32) 100 (by decide); have := c_irem vy (400 : Int32) 400 (by decide); omega, pre8⟩
      · have pre9 : ∀ t, Steps p.tables e below (s₁.setTop (mkF m 26 #[.val (.int vy), .val (.int vm), .unset] [(.int (1 : Int32))])) t → Steps p.tables e below (s₁.setTop (entryFrame m #[(.int vy), (.int vm)] 3)) t := fun t kt => by
          refine pre4 _ ?_
          show Steps p.tables e below (s₁.setTop (mkF m 10 #[.val (.int vy), .val (.int vm), .unset] [(.int (vy % (100 : Int32)))])) _
          refine XS.ifYes X0.here hx rfl (pc0 := 10) (pc' := 21) rfl (hb hby d4_10) rfl (own_if (own_feq (a := (vy % (100 : Int32))) (b := (0 : Int32)) rfl (by decide) hc10_3).2) (by decide) (by decide) ?_
          refine XS.iconst X0.here hx rfl (hb hby d4_21) ?_
          refine XS.goto X0.here hx rfl (pc0 := 22) (pc' := 26) rfl (hb hby d4_22) (by decide) (by decide) ?_
          exact kt
        exact ⟨(1 : Int32), by have iv : ((1 : Int32)).toInt = (1 : Int) := (by decide); have := rng32 vy; have := c_irem vy (4 : Int32) 4 (by decide); have := c_irem vy (100 : Int32) 100 (by decide); have := c_irem vy (400 : Int32) 400 (by decide); omega, pre9⟩
    · have pre10 : ∀ t, Steps p.tables e below (s₁.setTop (mkF m 26 #[.val (.int vy), .val (.int vm), .unset] [(.int (0 : Int32))])) t → Steps p.tables e below (s₁.setTop (entryFrame m #[(.int vy), (.int vm)] 3)) t := fun t kt => by
        refine pre2 _ ?_
        show Steps p.tables e below (s₁.setTop (mkF m 3 #[.val (.int vy), .val (.int vm), .unset] [(.int (vy % (4 : Int32)))])) _
        refine XS.ifYes X0.here hx rfl (pc0 := 3) (pc' := 25) rfl (hb hby d4_3) rfl (own_if (own_feq (a := (vy % (4 : Int32))) (b := (0 : Int32)) rfl (by decide) hc3_1).2) (by decide) (by decide) ?_
        refine XS.iconst X0.here hx rfl (hb hby d4_25) ?_
        exact kt
      exact ⟨(0 : Int32), by have iv : ((0 : Int32)).toInt = (0 : Int) := (by decide); have := rng32 vy; have := c_irem vy (4 : Int32) 4 (by decide); have := c_irem vy (100 : Int32) 100 (by decide); have := c_irem vy (400 : Int32) 400 (by decide); omega, pre10⟩
  have pre13 : ∀ t, Steps p.tables e below (s₁.setTop (mkF m 29 #[.val (.int vy), .val (.int vm), .val (.int lz)] [(.int (2 : Int32)), (.int vm)])) t → Steps p.tables e below (s₁.setTop (entryFrame m #[(.int vy), (.int vm)] 3)) t := fun t kt => by
    refine pre11 _ ?_
    refine XS.istoreN X0.here hx rfl (hb hby d4_26) rfl (l' := #[.val (.int vy), .val (.int vm), .val (.int lz)]) rfl ?_
    refine XS.iloadN X0.here hx rfl (hb hby d4_27) rfl ?_
    refine XS.iconst X0.here hx rfl (hb hby d4_28) ?_
    exact kt
  by_cases hc29_12 : vm.toInt = (2 : Int)
  · have pre15 : ∀ t, Steps p.tables e below (s₁.setTop (mkF m 33 #[.val (.int vy), .val (.int vm), .val (.int lz)] [(.int lz)])) t → Steps p.tables e below (s₁.setTop (entryFrame m #[(.int vy), (.int vm)] 3)) t := fun t kt => by
      refine pre13 _ ?_
      show Steps p.tables e below (s₁.setTop (mkF m 29 #[.val (.int vy), .val (.int vm), .val (.int lz)] [(.int (2 : Int32)), (.int vm)])) _
      refine XS.icmpNo X0.here hx rfl (hb hby d4_29) rfl (own_teq (a := vm) (b := (2 : Int32)) rfl (by decide) hc29_12).2 ?_
      refine XS.iloadN X0.here hx rfl (hb hby d4_32) rfl ?_
      exact kt
    by_cases hc33_14 : lz.toInt = (0 : Int)
    · obtain ⟨fs, hr, hrun, hended, hW, hsame⟩ := X0.leave (v := some (.int (28 : Int32))) (fun h => by rw [Bd.returns] at h; cases h)
      refine ⟨_, _, pre15 _ ?_, hrun, hended, _, _, rfl, ?_, ⟨_, rfl⟩, hW, hsame.mono (by decide) (by decide)⟩
      · show Steps p.tables e below (s₁.setTop (mkF m 33 #[.val (.int vy), .val (.int vm), .val (.int lz)] [(.int lz)])) _
        refine XS.ifYes X0.here hx rfl (pc0 := 33) (pc' := 41) rfl (hb hby d4_33) rfl (own_if (own_teq (a := lz) (b := (0 : Int32)) rfl (by decide) hc33_14).1) (by decide) (by decide) ?_
        refine XS.bipush X0.here hx rfl (hb hby d4_41) ?_
        show Steps p.tables e below (s₁.setTop (mkF m 43 #[.val (.int vy), .val (.int vm), .val (.int lz)] [(.int (28 : Int32))])) _
        exact retI X0 hx Bd.returns (hb hby d4_43) hr
      · show Q4 Z vy vm h0 n0 _ s₁.heap _
        rw [e0]
        exact ⟨_, rfl, by have iv : ((28 : Int32)).toInt = (28 : Int) := (by decide); omega, N0, rfl⟩
    · obtain ⟨fs, hr, hrun, hended, hW, hsame⟩ := X0.leave (v := some (.int (29 : Int32))) (fun h => by rw [Bd.returns] at h; cases h)
      refine ⟨_, _, pre15 _ ?_, hrun, hended, _, _, rfl, ?_, ⟨_, rfl⟩, hW, hsame.mono (by decide) (by decide)⟩
      · show Steps p.tables e below (s₁.setTop (mkF m 33 #[.val (.int vy), .val (.int vm), .val (.int lz)] [(.int lz)])) _
        refine XS.ifNo X0.here hx rfl (hb hby d4_33) rfl (own_if (own_feq (a := lz) (b := (0 : Int32)) rfl (by decide) hc33_14).1) ?_
        refine XS.bipush X0.here hx rfl (hb hby d4_36) ?_
        show Steps p.tables e below (s₁.setTop (mkF m 38 #[.val (.int vy), .val (.int vm), .val (.int lz)] [(.int (29 : Int32))])) _
        refine XS.goto X0.here hx rfl (pc0 := 38) (pc' := 43) rfl (hb hby d4_38) (by decide) (by decide) ?_
        exact retI X0 hx Bd.returns (hb hby d4_43) hr
      · show Q4 Z vy vm h0 n0 _ s₁.heap _
        rw [e0]
        exact ⟨_, rfl, by have iv : ((29 : Int32)).toInt = (29 : Int) := (by decide); omega, N0, rfl⟩
  · have pre17 : ∀ t, Steps p.tables e below (s₁.setTop (mkF m 46 #[.val (.int vy), .val (.int vm), .val (.int lz)] [(.int (4 : Int32)), (.int vm)])) t → Steps p.tables e below (s₁.setTop (entryFrame m #[(.int vy), (.int vm)] 3)) t := fun t kt => by
      refine pre13 _ ?_
      show Steps p.tables e below (s₁.setTop (mkF m 29 #[.val (.int vy), .val (.int vm), .val (.int lz)] [(.int (2 : Int32)), (.int vm)])) _
      refine XS.icmpYes X0.here hx rfl (pc0 := 29) (pc' := 44) rfl (hb hby d4_29) rfl (own_feq (a := vm) (b := (2 : Int32)) rfl (by decide) hc29_12).2 (by decide) (by decide) ?_
      refine XS.iloadN X0.here hx rfl (hb hby d4_44) rfl ?_
      refine XS.iconst X0.here hx rfl (hb hby d4_45) ?_
      exact kt
    by_cases hc46_16 : vm.toInt = (4 : Int)
    · obtain ⟨fs, hr, hrun, hended, hW, hsame⟩ := X0.leave (v := some (.int (30 : Int32))) (fun h => by rw [Bd.returns] at h; cases h)
      refine ⟨_, _, pre17 _ ?_, hrun, hended, _, _, rfl, ?_, ⟨_, rfl⟩, hW, hsame.mono (by decide) (by decide)⟩
      · show Steps p.tables e below (s₁.setTop (mkF m 46 #[.val (.int vy), .val (.int vm), .val (.int lz)] [(.int (4 : Int32)), (.int vm)])) _
        refine XS.icmpYes X0.here hx rfl (pc0 := 46) (pc' := 67) rfl (hb hby d4_46) rfl (own_teq (a := vm) (b := (4 : Int32)) rfl (by decide) hc46_16).1 (by decide) (by decide) ?_
        show Steps p.tables e below (s₁.setTop (mkF m 67 #[.val (.int vy), .val (.int vm), .val (.int lz)] [])) _
        refine XS.bipush X0.here hx rfl (hb hby d4_67) ?_
        exact retI X0 hx Bd.returns (hb hby d4_69) hr
      · show Q4 Z vy vm h0 n0 _ s₁.heap _
        rw [e0]
        exact ⟨_, rfl, by have iv : ((30 : Int32)).toInt = (30 : Int) := (by decide); omega, N0, rfl⟩
    · have pre19 : ∀ t, Steps p.tables e below (s₁.setTop (mkF m 52 #[.val (.int vy), .val (.int vm), .val (.int lz)] [(.int (6 : Int32)), (.int vm)])) t → Steps p.tables e below (s₁.setTop (entryFrame m #[(.int vy), (.int vm)] 3)) t := fun t kt => by
        refine pre17 _ ?_
        show Steps p.tables e below (s₁.setTop (mkF m 46 #[.val (.int vy), .val (.int vm), .val (.int lz)] [(.int (4 : Int32)), (.int vm)])) _
        refine XS.icmpNo X0.here hx rfl (hb hby d4_46) rfl (own_feq (a := vm) (b := (4 : Int32)) rfl (by decide) hc46_16).1 ?_
        show Steps p.tables e below (s₁.setTop (mkF m 49 #[.val (.int vy), .val (.int vm), .val (.int lz)] [])) _
        refine XS.iloadN X0.here hx rfl (hb hby d4_49) rfl ?_
        refine XS.bipush X0.here hx rfl (hb hby d4_50) ?_
        exact kt
      by_cases hc52_18 : vm.toInt = (6 : Int)
      · obtain ⟨fs, hr, hrun, hended, hW, hsame⟩ := X0.leave (v := some (.int (30 : Int32))) (fun h => by rw [Bd.returns] at h; cases h)
        refine ⟨_, _, pre19 _ ?_, hrun, hended, _, _, rfl, ?_, ⟨_, rfl⟩, hW, hsame.mono (by decide) (by decide)⟩
        · show Steps p.tables e below (s₁.setTop (mkF m 52 #[.val (.int vy), .val (.int vm), .val (.int lz)] [(.int (6 : Int32)), (.int vm)])) _
          refine XS.icmpYes X0.here hx rfl (pc0 := 52) (pc' := 67) rfl (hb hby d4_52) rfl (own_teq (a := vm) (b := (6 : Int32)) rfl (by decide) hc52_18).1 (by decide) (by decide) ?_
          refine XS.bipush X0.here hx rfl (hb hby d4_67) ?_
          show Steps p.tables e below (s₁.setTop (mkF m 69 #[.val (.int vy), .val (.int vm), .val (.int lz)] [(.int (30 : Int32))])) _
          exact retI X0 hx Bd.returns (hb hby d4_69) hr
        · show Q4 Z vy vm h0 n0 _ s₁.heap _
          rw [e0]
          exact ⟨_, rfl, by have iv : ((30 : Int32)).toInt = (30 : Int) := (by decide); omega, N0, rfl⟩
      · have pre21 : ∀ t, Steps p.tables e below (s₁.setTop (mkF m 58 #[.val (.int vy), .val (.int vm), .val (.int lz)] [(.int (9 : Int32)), (.int vm)])) t → Steps p.tables e below (s₁.setTop (entryFrame m #[(.int vy), (.int vm)] 3)) t := fun t kt => by
          refine pre19 _ ?_
          show Steps p.tables e below (s₁.setTop (mkF m 52 #[.val (.int vy), .val (.int vm), .val (.int lz)] [(.int (6 : Int32)), (.int vm)])) _
          refine XS.icmpNo X0.here hx rfl (hb hby d4_52) rfl (own_feq (a := vm) (b := (6 : Int32)) rfl (by decide) hc52_18).1 ?_
          refine XS.iloadN X0.here hx rfl (hb hby d4_55) rfl ?_
          show Steps p.tables e below (s₁.setTop (mkF m 56 #[.val (.int vy), .val (.int vm), .val (.int lz)] [(.int vm)])) _
          refine XS.bipush X0.here hx rfl (hb hby d4_56) ?_
          exact kt
        by_cases hc58_20 : vm.toInt = (9 : Int)
        · obtain ⟨fs, hr, hrun, hended, hW, hsame⟩ := X0.leave (v := some (.int (30 : Int32))) (fun h => by rw [Bd.returns] at h; cases h)
          refine ⟨_, _, pre21 _ ?_, hrun, hended, _, _, rfl, ?_, ⟨_, rfl⟩, hW, hsame.mono (by decide) (by decide)⟩
          · show Steps p.tables e below (s₁.setTop (mkF m 58 #[.val (.int vy), .val (.int vm), .val (.int lz)] [(.int (9 : Int32)), (.int vm)])) _
            refine XS.icmpYes X0.here hx rfl (pc0 := 58) (pc' := 67) rfl (hb hby d4_58) rfl (own_teq (a := vm) (b := (9 : Int32)) rfl (by decide) hc58_20).1 (by decide) (by decide) ?_
            refine XS.bipush X0.here hx rfl (hb hby d4_67) ?_
            exact retI X0 hx Bd.returns (hb hby d4_69) hr
          · show Q4 Z vy vm h0 n0 _ s₁.heap _
            rw [e0]
            exact ⟨_, rfl, by have iv : ((30 : Int32)).toInt = (30 : Int) := (by decide); omega, N0, rfl⟩
        · have pre23 : ∀ t, Steps p.tables e below (s₁.setTop (mkF m 64 #[.val (.int vy), .val (.int vm), .val (.int lz)] [(.int (11 : Int32)), (.int vm)])) t → Steps p.tables e below (s₁.setTop (entryFrame m #[(.int vy), (.int vm)] 3)) t := fun t kt => by
            refine pre21 _ ?_
            show Steps p.tables e below (s₁.setTop (mkF m 58 #[.val (.int vy), .val (.int vm), .val (.int lz)] [(.int (9 : Int32)), (.int vm)])) _
            refine XS.icmpNo X0.here hx rfl (hb hby d4_58) rfl (own_feq (a := vm) (b := (9 : Int32)) rfl (by decide) hc58_20).1 ?_
            refine XS.iloadN X0.here hx rfl (hb hby d4_61) rfl ?_
            refine XS.bipush X0.here hx rfl (hb hby d4_62) ?_
            exact kt
          by_cases hc64_22 : vm.toInt = (11 : Int)
          · obtain ⟨fs, hr, hrun, hended, hW, hsame⟩ := X0.leave (v := some (.int (30 : Int32))) (fun h => by rw [Bd.returns] at h; cases h)
            refine ⟨_, _, pre23 _ ?_, hrun, hended, _, _, rfl, ?_, ⟨_, rfl⟩, hW, hsame.mono (by decide) (by decide)⟩
            · show Steps p.tables e below (s₁.setTop (mkF m 64 #[.val (.int vy), .val (.int vm), .val (.int lz)] [(.int (11 : Int32)), (.int vm)])) _
              refine XS.icmpNo X0.here hx rfl (hb hby d4_64) rfl (own_teq (a := vm) (b := (11 : Int32)) rfl (by decide) hc64_22).2 ?_
              refine XS.bipush X0.here hx rfl (hb hby d4_67) ?_
              exact retI X0 hx Bd.returns (hb hby d4_69) hr
            · show Q4 Z vy vm h0 n0 _ s₁.heap _
              rw [e0]
              exact ⟨_, rfl, by have iv : ((30 : Int32)).toInt = (30 : Int) := (by decide); omega, N0, rfl⟩
          · obtain ⟨fs, hr, hrun, hended, hW, hsame⟩ := X0.leave (v := some (.int (31 : Int32))) (fun h => by rw [Bd.returns] at h; cases h)
            refine ⟨_, _, pre23 _ ?_, hrun, hended, _, _, rfl, ?_, ⟨_, rfl⟩, hW, hsame.mono (by decide) (by decide)⟩
            · show Steps p.tables e below (s₁.setTop (mkF m 64 #[.val (.int vy), .val (.int vm), .val (.int lz)] [(.int (11 : Int32)), (.int vm)])) _
              refine XS.icmpYes X0.here hx rfl (pc0 := 64) (pc' := 70) rfl (hb hby d4_64) rfl (own_feq (a := vm) (b := (11 : Int32)) rfl (by decide) hc64_22).2 (by decide) (by decide) ?_
              refine XS.bipush X0.here hx rfl (hb hby d4_70) ?_
              exact retI X0 hx Bd.returns (hb hby d4_72) hr
            · show Q4 Z vy vm h0 n0 _ s₁.heap _
              rw [e0]
              exact ⟨_, rfl, by have iv : ((31 : Int32)).toInt = (31 : Int) := (by decide); omega, N0, rfl⟩
theorem d3_0 : decode method_2_code 0 = .ok (.iload_n 0, 1) := by decide +kernel
theorem d3_1 : decode method_2_code 1 = .ok (.bipush 48, 2) := by decide +kernel
theorem d3_3 : decode method_2_code 3 = .ok (.isub, 1) := by decide +kernel
theorem d3_4 : decode method_2_code 4 = .ok (.istore_n 1, 1) := by decide +kernel
theorem d3_5 : decode method_2_code 5 = .ok (.iload_n 1, 1) := by decide +kernel
theorem d3_6 : decode method_2_code 6 = .ok (.ifCond .lt 13, 3) := by decide +kernel
theorem d3_9 : decode method_2_code 9 = .ok (.iload_n 1, 1) := by decide +kernel
theorem d3_10 : decode method_2_code 10 = .ok (.bipush 9, 2) := by decide +kernel
theorem d3_12 : decode method_2_code 12 = .ok (.if_icmp .gt 7, 3) := by decide +kernel
theorem d3_15 : decode method_2_code 15 = .ok (.iload_n 1, 1) := by decide +kernel
theorem d3_16 : decode method_2_code 16 = .ok (.goto 4, 3) := by decide +kernel
theorem d3_20 : decode method_2_code 20 = .ok (.ireturn, 1) := by decide +kernel
theorem ef_rm3 (m : MethodId) (x0 : Int32) : entryFrame m #[(.int x0)] 2 = mkF m 0 #[.val (.int x0), .unset] [] := by first | (simp [entryFrame, mkF, argsToLocals, Value.category]; done) | rfl
def Q3 (Z : State) (vb : Int32) (h0 : Heap) (n0 : Nat) (v : Option Value) (h : Heap) (L : List Loc) : Prop := ∃ z : Int32, v = some (.int z) ∧ (z.toInt = vb.toInt - 48) ∧ Fr n0 L ∧ h = h0
set_option maxRecDepth 65536 in
set_option maxHeartbeats 40000000 in
theorem rm3 (l : Launch) (Z : State) (a0 : Array Value) (hw : ∀ d ∈ tables_1, d.before a0 Z = true) (ws : List Jvm.Cond) (vb : Int32) (h0 : Heap) (n0 : Nat) (Z0 : n0 ≤ h0.size) (ib1 : 48 ≤ vb.toInt) (ib2 : vb.toInt ≤ 57) :
    MetFree l (⟨"com/example/mod7/mod7/calendar/DatesWritePinLaw", "digit", "(B)I"⟩ : MethodName) (head1 (Jvm.Cond.code (⟨"com/example/mod7/mod7/calendar/DatesWritePinLaw", "digit", "(B)I"⟩ : MethodName) method_2_code 2 (some .int) :: ws) ({ frames := 0, cells := 0, slots := 0, locals := 0 } : Room)) (fun a U => a = #[(.int vb)] ∧ Z.Warmed39 U.vm ∧ U.heap = h0) (fun _ _ _ _ _ => True) (fun _ U o U' => ∃ v L, o = .returned v ∧ Q3 Z vb h0 n0 v U'.heap L ∧ FrameEnd U o U' L ({ frames := 0, cells := 0, slots := 0, locals := 0 } : Room).cells ({ frames := 0, cells := 0, slots := 0, locals := 0 } : Room).slots) := by
  refine MetFree.of_bodySF (plainFor_of_name pn_1) hisR ?_
  intro p e s m args below meth c s₁ Bd hml0 hP hK
  obtain ⟨rfl, hZ, hh⟩ := hP
  have hx := Bd.exec
  have hby := Bd.bytes
  have hml : c.maxLocals = 2 := hml0
  have hown : s.vm.findClass "com/example/mod7/mod7/calendar/DatesWritePinLaw" = some m.cls := findClass_of_methodNamed Bd.named
  have hnm := (name_of_methodNamed Bd.named Bd.method).1
  have X0 : Stand p l e ({ frames := 0, cells := 0, slots := 0, locals := 0 } : Room) s m #[(.int vb)] below meth c s₁ [] 0 0 := Stand.of_body Bd
  have e0 : s₁.heap = h0 := by rw [← hh, Bd.state]; rfl
  have N0 := Fr.nil n0
  have pre0 : ∀ t, Steps p.tables e below (s₁.setTop (mkF m 0 #[.val (.int vb), .unset] [])) t → Steps p.tables e below (s₁.setTop (entryFrame m #[(.int vb)] 2)) t := fun t k => castTop (ef_rm3 m vb) k
  have pre1 : ∀ t, Steps p.tables e below (s₁.setTop (mkF m 4 #[.val (.int vb), .unset] [(.int (vb - (48 : Int32)))])) t → Steps p.tables e below (s₁.setTop (entryFrame m #[(.int vb)] 2)) t := fun t kt => by
    refine pre0 _ ?_
    refine XS.iloadN X0.here hx rfl (hb hby d3_0) rfl ?_
    refine XS.bipush X0.here hx rfl (hb hby d3_1) ?_
    refine XS.isub X0.here hx rfl (hb hby d3_3) rfl ?_
    exact kt
  obtain ⟨dg, hdg⟩ : ∃ z : Int32, z = (vb - (48 : Int32)) := ⟨_, rfl⟩
  have idg : dg.toInt = vb.toInt - 48 := by rw [hdg]; have := rng32 vb; (first | (have : ((vb - (48 : Int32))).toInt = vb.toInt - (48 : Int) := (by have : (((vb - (48 : Int32))).toInt - (vb.toInt - (48 : Int))) % 4294967296 = 0 := c_isub vb (48 : Int32); have := rng32 (vb - (48 : Int32)); omega)) | (have : (((vb - (48 : Int32))).toInt - (vb.toInt - (48 : Int))) % 4294967296 = 0 := c_isub vb (48 : Int32); have := rng32 (vb - (48 : Int32)))); omega
  have pre2 : ∀ t, Steps p.tables e below (s₁.setTop (mkF m 4 #[.val (.int vb), .unset] [(.int dg)])) t → Steps p.tables e below (s₁.setTop (entryFrame m #[(.int vb)] 2)) t := by rw [hdg]; exact pre1
  have hc6_3 : ¬ (dg.toInt < (0 : Int)) := by omega
  have hc12_4 : ¬ ((9 : Int) < dg.toInt) := by omega
  obtain ⟨fs, hr, hrun, hended, hW, hsame⟩ := X0.leave (v := some (.int dg)) (fun h => by rw [Bd.returns] at h; cases h)
  refine ⟨_, _, pre2 _ ?_, hrun, hended, _, _, rfl, ?_, ⟨_, rfl⟩, hW, hsame.mono (by decide) (by decide)⟩
  · refine XS.istoreN X0.here hx rfl (hb hby d3_4) rfl (l' := #[.val (.int vb), .val (.int dg)]) rfl ?_
    show Steps p.tables e below (s₁.setTop (mkF m 5 #[.val (.int vb), .val (.int dg)] [])) _
    refine XS.iloadN X0.here hx rfl (hb hby d3_5) rfl ?_
    refine XS.ifNo X0.here hx rfl (hb hby d3_6) rfl (own_if (own_flt (a := dg) (b := (0 : Int32)) rfl (by decide) hc6_3).1) ?_
    refine XS.iloadN X0.here hx rfl (hb hby d3_9) rfl ?_
    refine XS.bipush X0.here hx rfl (hb hby d3_10) ?_
    refine XS.icmpNo X0.here hx rfl (hb hby d3_12) rfl (own_flt (a := (9 : Int32)) (b := dg) (by decide) rfl hc12_4).2.2.1 ?_
    show Steps p.tables e below (s₁.setTop (mkF m 15 #[.val (.int vb), .val (.int dg)] [])) _
    refine XS.iloadN X0.here hx rfl (hb hby d3_15) rfl ?_
    refine XS.goto X0.here hx rfl (pc0 := 16) (pc' := 20) rfl (hb hby d3_16) (by decide) (by decide) ?_
    exact retI X0 hx Bd.returns (hb hby d3_20) hr
  · show Q3 Z vb h0 n0 _ s₁.heap _
    rw [e0]
    exact ⟨_, rfl, by have := rng32 dg; omega, N0, rfl⟩
theorem d2_0 : decode method_3_code 0 = .ok (.iload_n 1, 1) := by decide +kernel
theorem d2_1 : decode method_3_code 1 = .ok (.iload_n 2, 1) := by decide +kernel
theorem d2_2 : decode method_3_code 2 = .ok (.if_icmp .lt 11, 3) := by decide +kernel
theorem d2_5 : decode method_3_code 5 = .ok (.iload_n 1, 1) := by decide +kernel
theorem d2_6 : decode method_3_code 6 = .ok (.iload_n 2, 1) := by decide +kernel
theorem d2_7 : decode method_3_code 7 = .ok (.bipush 10, 2) := by decide +kernel
theorem d2_9 : decode method_3_code 9 = .ok (.iadd, 1) := by decide +kernel
theorem d2_10 : decode method_3_code 10 = .ok (.if_icmp .lt 16, 3) := by decide +kernel
theorem d2_13 : decode method_3_code 13 = .ok (.aload_n 0, 1) := by decide +kernel
theorem d2_14 : decode method_3_code 14 = .ok (.iload_n 1, 1) := by decide +kernel
theorem d2_15 : decode method_3_code 15 = .ok (.baload, 1) := by decide +kernel
theorem d2_16 : decode method_3_code 16 = .ok (.iload_n 3, 1) := by decide +kernel
theorem d2_17 : decode method_3_code 17 = .ok (.if_icmp .ne 7, 3) := by decide +kernel
theorem d2_20 : decode method_3_code 20 = .ok (.iconst 1, 1) := by decide +kernel
theorem d2_21 : decode method_3_code 21 = .ok (.goto 4, 3) := by decide +kernel
theorem d2_25 : decode method_3_code 25 = .ok (.ireturn, 1) := by decide +kernel
theorem d2_26 : decode method_3_code 26 = .ok (.iconst 1, 1) := by decide +kernel
theorem d2_27 : decode method_3_code 27 = .ok (.ireturn, 1) := by decide +kernel
theorem ef_rm2 (m : MethodId) (x0 : Addr) (x1 : Int32) (x2 : Int32) (x3 : Int32) : entryFrame m #[(.ref x0), (.int x1), (.int x2), (.int x3)] 4 = mkF m 0 #[.val (.ref x0), .val (.int x1), .val (.int x2), .val (.int x3)] [] := by first | (simp [entryFrame, mkF, argsToLocals, Value.category]; done) | rfl
def Q2 (Z : State) (ob : Addr) (vi : Int32) (vpl : Int32) (vf : Int32) (kk : ClassId) (vs : List Value) (h0 : Heap) (n0 : Nat) (v : Option Value) (h : Heap) (L : List Loc) : Prop := ∃ z : Int32, v = some (.int z) ∧ (z.toInt = 1) ∧ Fr n0 L ∧ h = h0
set_option maxRecDepth 65536 in
set_option maxHeartbeats 40000000 in
theorem rm2 (l : Launch) (Z : State) (a0 : Array Value) (hw : ∀ d ∈ tables_1, d.before a0 Z = true) (ws : List Jvm.Cond) (ob : Addr) (vi : Int32) (vpl : Int32) (vf : Int32) (kk : ClassId) (vs : List Value) (h0 : Heap) (n0 : Nat) (Z0 : n0 ≤ h0.size) (Vb : Arv Z h0 ob kk .byte (14 : Int32) vs (.int (0 : Int32))) (ii1 : 0 ≤ vi.toInt) (ii2 : vi.toInt < 14) (ip1 : 0 ≤ vpl.toInt) (ip2 : vpl.toInt ≤ 3) (hk : (vi.toInt < vpl.toInt ∨ vpl.toInt + 10 ≤ vi.toInt) → vs.getD vi.toNatClampNeg (.int (0 : Int32)) = .int vf) :
    MetFree l (⟨"com/example/mod7/mod7/calendar/DatesWritePinLaw", "kept", "([BIIB)Z"⟩ : MethodName) (head1 (Jvm.Cond.code (⟨"com/example/mod7/mod7/calendar/DatesWritePinLaw", "kept", "([BIIB)Z"⟩ : MethodName) method_3_code 4 (some .boolean) :: ws) ({ frames := 0, cells := 0, slots := 0, locals := 0 } : Room)) (fun a U => a = #[(.ref ob), (.int vi), (.int vpl), (.int vf)] ∧ Z.Warmed39 U.vm ∧ U.heap = h0) (fun _ _ _ _ _ => True) (fun _ U o U' => ∃ v L, o = .returned v ∧ Q2 Z ob vi vpl vf kk vs h0 n0 v U'.heap L ∧ FrameEnd U o U' L ({ frames := 0, cells := 0, slots := 0, locals := 0 } : Room).cells ({ frames := 0, cells := 0, slots := 0, locals := 0 } : Room).slots) := by
  refine MetFree.of_bodySF (plainFor_of_name pn_1) hisR ?_
  intro p e s m args below meth c s₁ Bd hml0 hP hK
  obtain ⟨rfl, hZ, hh⟩ := hP
  have hx := Bd.exec
  have hby := Bd.bytes
  have hml : c.maxLocals = 4 := hml0
  have hown : s.vm.findClass "com/example/mod7/mod7/calendar/DatesWritePinLaw" = some m.cls := findClass_of_methodNamed Bd.named
  have hnm := (name_of_methodNamed Bd.named Bd.method).1
  have X0 : Stand p l e ({ frames := 0, cells := 0, slots := 0, locals := 0 } : Room) s m #[(.ref ob), (.int vi), (.int vpl), (.int vf)] below meth c s₁ [] 0 0 := Stand.of_body Bd
  have e0 : s₁.heap = h0 := by rw [← hh, Bd.state]; rfl
  have N0 := Fr.nil n0
  have pre0 : ∀ t, Steps p.tables e below (s₁.setTop (mkF m 0 #[.val (.ref ob), .val (.int vi), .val (.int vpl), .val (.int vf)] [])) t → Steps p.tables e below (s₁.setTop (entryFrame m #[(.ref ob), (.int vi), (.int vpl), (.int vf)] 4)) t := fun t k => castTop (ef_rm2 m ob vi vpl vf) k
  have pre2 : ∀ t, Steps p.tables e below (s₁.setTop (mkF m 2 #[.val (.ref ob), .val (.int vi), .val (.int vpl), .val (.int vf)] [(.int vpl), (.int vi)])) t → Steps p.tables e below (s₁.setTop (entryFrame m #[(.ref ob), (.int vi), (.int vpl), (.int vf)] 4)) t := fun t kt => by
    refine pre0 _ ?_
    refine XS.iloadN X0.here hx rfl (hb hby d2_0) rfl ?_
    refine XS.iloadN X0.here hx rfl (hb hby d2_1) rfl ?_
    exact kt
  by_cases hc2_1 : vi.toInt < vpl.toInt
  · obtain ⟨cl3, Ar3, q3, S3, M3, H3, G3⟩ := id Vb
    have hin3 : ¬ (vi < 0 ∨ cl3.slots.size ≤ (vi).toNatClampNeg) := inb_of S3 ⟨by rw [Int32.lt_iff_toInt_lt]; have k0 : (0 : Int32).toInt = 0 := (by decide); omega, by rw [Int32.lt_iff_toInt_lt]; have k0 : (14 : Int32).toInt = 14 := (by decide); omega⟩
    have hat3 : cl3.slots[(vi).toNatClampNeg]? = some (.int vf) := Has.at H3 hin3 (hk (by omega))
    have hc17_4 : vf.toInt = vf.toInt := by rfl
    obtain ⟨fs, hr, hrun, hended, hW, hsame⟩ := X0.leave (v := some (.int (1 : Int32))) (fun h => by rw [Bd.returns] at h; cases h)
    refine ⟨_, _, pre2 _ ?_, hrun, hended, _, _, rfl, ?_, ⟨_, rfl⟩, hW, hsame.mono (by decide) (by decide)⟩
    · show Steps p.tables e below (s₁.setTop (mkF m 2 #[.val (.ref ob), .val (.int vi), .val (.int vpl), .val (.int vf)] [(.int vpl), (.int vi)])) _
      refine XS.icmpYes X0.here hx rfl (pc0 := 2) (pc' := 13) rfl (hb hby d2_2) rfl (own_tlt (a := vi) (b := vpl) rfl rfl hc2_1).1 (by decide) (by decide) ?_
      show Steps p.tables e below (s₁.setTop (mkF m 13 #[.val (.ref ob), .val (.int vi), .val (.int vpl), .val (.int vf)] [])) _
      refine XS.aloadN X0.here hx rfl (hb hby d2_13) rfl rfl ?_
      refine XS.iloadN X0.here hx rfl (hb hby d2_14) rfl ?_
      refine X0.baloadBytes hx (j := vi) (v := (.int vf)) (by rw [e0]; exact Ar3.1) (State.isArrayOf_alike hZ.alike Ar3.2.1) Ar3.2.2 hin3 hat3 (g := (mkF m 15 #[.val (.ref ob), .val (.int vi), .val (.int vpl), .val (.int vf)] [(.int vi), (.ref ob)])) rfl rfl (hb hby d2_15) _ ?_
      refine XS.iloadN X0.here hx rfl (hb hby d2_16) rfl ?_
      refine XS.icmpNo X0.here hx rfl (hb hby d2_17) rfl (own_teq (a := vf) (b := vf) rfl rfl hc17_4).2 ?_
      show Steps p.tables e below (s₁.setTop (mkF m 20 #[.val (.ref ob), .val (.int vi), .val (.int vpl), .val (.int vf)] [])) _
      refine XS.iconst X0.here hx rfl (hb hby d2_20) ?_
      refine XS.goto X0.here hx rfl (pc0 := 21) (pc' := 25) rfl (hb hby d2_21) (by decide) (by decide) ?_
      exact retN X0 hx (t := .boolean) Bd.returns (by simp) (hb hby d2_25) hr
    · show Q2 Z ob vi vpl vf kk vs h0 n0 _ s₁.heap _
      rw [e0]
      exact ⟨_, rfl, by have iv : ((1 : Int32)).toInt = (1 : Int) := (by decide); omega, N0, rfl⟩
  · have pre5 : ∀ t, Steps p.tables e below (s₁.setTop (mkF m 10 #[.val (.ref ob), .val (.int vi), .val (.int vpl), .val (.int vf)] [(.int (vpl + (10 : Int32))), (.int vi)])) t → Steps p.tables e below (s₁.setTop (entryFrame m #[(.ref ob), (.int vi), (.int vpl), (.int vf)] 4)) t := fun t kt => by
      refine pre2 _ ?_
      show Steps p.tables e below (s₁.setTop (mkF m 2 #[.val (.ref ob), .val (.int vi), .val (.int vpl), .val (.int vf)] [(.int vpl), (.int vi)])) _
      refine XS.icmpNo X0.here hx rfl (hb hby d2_2) rfl (own_flt (a := vi) (b := vpl) rfl rfl hc2_1).1 ?_
      show Steps p.tables e below (s₁.setTop (mkF m 5 #[.val (.ref ob), .val (.int vi), .val (.int vpl), .val (.int vf)] [])) _
      refine XS.iloadN X0.here hx rfl (hb hby d2_5) rfl ?_
      refine XS.iloadN X0.here hx rfl (hb hby d2_6) rfl ?_
      refine XS.bipush X0.here hx rfl (hb hby d2_7) ?_
      refine XS.iadd X0.here hx rfl (hb hby d2_9) rfl ?_
      exact kt
    obtain ⟨pe, hpe⟩ : ∃ z : Int32, z = (vpl + (10 : Int32)) := ⟨_, rfl⟩
    have ipe : pe.toInt = vpl.toInt + 10 := by rw [hpe]; have := rng32 vpl; (first | (have : ((vpl + (10 : Int32))).toInt = vpl.toInt + (10 : Int) := (by have : (((vpl + (10 : Int32))).toInt - (vpl.toInt + (10 : Int))) % 4294967296 = 0 := c_iadd vpl (10 : Int32); have := rng32 (vpl + (10 : Int32)); omega)) | (have : (((vpl + (10 : Int32))).toInt - (vpl.toInt + (10 : Int))) % 4294967296 = 0 := c_iadd vpl (10 : Int32); have := rng32 (vpl + (10 : Int32)))); omega
    have pre6 : ∀ t, Steps p.tables e below (s₁.setTop (mkF m 10 #[.val (.ref ob), .val (.int vi), .val (.int vpl), .val (.int vf)] [(.int pe), (.int vi)])) t → Steps p.tables e below (s₁.setTop (entryFrame m #[(.ref ob), (.int vi), (.int vpl), (.int vf)] 4)) t := by rw [hpe]; exact pre5
    by_cases hc10_7 : vi.toInt < pe.toInt
    · obtain ⟨fs, hr, hrun, hended, hW, hsame⟩ := X0.leave (v := some (.int (1 : Int32))) (fun h => by rw [Bd.returns] at h; cases h)
      refine ⟨_, _, pre6 _ ?_, hrun, hended, _, _, rfl, ?_, ⟨_, rfl⟩, hW, hsame.mono (by decide) (by decide)⟩
      · show Steps p.tables e below (s₁.setTop (mkF m 10 #[.val (.ref ob), .val (.int vi), .val (.int vpl), .val (.int vf)] [(.int pe), (.int vi)])) _
        refine XS.icmpYes X0.here hx rfl (pc0 := 10) (pc' := 26) rfl (hb hby d2_10) rfl (own_tlt (a := vi) (b := pe) rfl rfl hc10_7).1 (by decide) (by decide) ?_
        refine XS.iconst X0.here hx rfl (hb hby d2_26) ?_
        exact retN X0 hx (t := .boolean) Bd.returns (by simp) (hb hby d2_27) hr
      · show Q2 Z ob vi vpl vf kk vs h0 n0 _ s₁.heap _
        rw [e0]
        exact ⟨_, rfl, by have iv : ((1 : Int32)).toInt = (1 : Int) := (by decide); omega, N0, rfl⟩
    · obtain ⟨cl8, Ar8, q8, S8, M8, H8, G8⟩ := id Vb
      have hin8 : ¬ (vi < 0 ∨ cl8.slots.size ≤ (vi).toNatClampNeg) := inb_of S8 ⟨by rw [Int32.lt_iff_toInt_lt]; have k0 : (0 : Int32).toInt = 0 := (by decide); omega, by rw [Int32.lt_iff_toInt_lt]; have k0 : (14 : Int32).toInt = 14 := (by decide); omega⟩
      have hat8 : cl8.slots[(vi).toNatClampNeg]? = some (.int vf) := Has.at H8 hin8 (hk (by omega))
      have hc17_9 : vf.toInt = vf.toInt := by rfl
      obtain ⟨fs, hr, hrun, hended, hW, hsame⟩ := X0.leave (v := some (.int (1 : Int32))) (fun h => by rw [Bd.returns] at h; cases h)
      refine ⟨_, _, pre6 _ ?_, hrun, hended, _, _, rfl, ?_, ⟨_, rfl⟩, hW, hsame.mono (by decide) (by decide)⟩
      · show Steps p.tables e below (s₁.setTop (mkF m 10 #[.val (.ref ob), .val (.int vi), .val (.int vpl), .val (.int vf)] [(.int pe), (.int vi)])) _
        refine XS.icmpNo X0.here hx rfl (hb hby d2_10) rfl (own_flt (a := vi) (b := pe) rfl rfl hc10_7).1 ?_
        refine XS.aloadN X0.here hx rfl (hb hby d2_13) rfl rfl ?_
        refine XS.iloadN X0.here hx rfl (hb hby d2_14) rfl ?_
        refine X0.baloadBytes hx (j := vi) (v := (.int vf)) (by rw [e0]; exact Ar8.1) (State.isArrayOf_alike hZ.alike Ar8.2.1) Ar8.2.2 hin8 hat8 (g := (mkF m 15 #[.val (.ref ob), .val (.int vi), .val (.int vpl), .val (.int vf)] [(.int vi), (.ref ob)])) rfl rfl (hb hby d2_15) _ ?_
        refine XS.iloadN X0.here hx rfl (hb hby d2_16) rfl ?_
        show Steps p.tables e below (s₁.setTop (mkF m 17 #[.val (.ref ob), .val (.int vi), .val (.int vpl), .val (.int vf)] [(.int vf), (.int vf)])) _
        refine XS.icmpNo X0.here hx rfl (hb hby d2_17) rfl (own_teq (a := vf) (b := vf) rfl rfl hc17_9).2 ?_
        refine XS.iconst X0.here hx rfl (hb hby d2_20) ?_
        refine XS.goto X0.here hx rfl (pc0 := 21) (pc' := 25) rfl (hb hby d2_21) (by decide) (by decide) ?_
        exact retN X0 hx (t := .boolean) Bd.returns (by simp) (hb hby d2_25) hr
      · show Q2 Z ob vi vpl vf kk vs h0 n0 _ s₁.heap _
        rw [e0]
        exact ⟨_, rfl, by have iv : ((1 : Int32)).toInt = (1 : Int) := (by decide); omega, N0, rfl⟩
theorem d1_0 : decode prog_2_method_10_code 0 = .ok (.lload_n 0, 1) := by decide +kernel
theorem d1_1 : decode prog_2_method_10_code 1 = .ok (.ldc2_w 110, 3) := by decide +kernel
theorem d1_4 : decode prog_2_method_10_code 4 = .ok (.ladd, 1) := by decide +kernel
theorem d1_5 : decode prog_2_method_10_code 5 = .ok (.lstore 4, 2) := by decide +kernel
theorem d1_7 : decode prog_2_method_10_code 7 = .ok (.lload 4, 2) := by decide +kernel
theorem d1_9 : decode prog_2_method_10_code 9 = .ok (.ldc2_w 112, 3) := by decide +kernel
theorem d1_12 : decode prog_2_method_10_code 12 = .ok (.ldiv, 1) := by decide +kernel
theorem d1_13 : decode prog_2_method_10_code 13 = .ok (.l2i, 1) := by decide +kernel
theorem d1_14 : decode prog_2_method_10_code 14 = .ok (.istore 6, 2) := by decide +kernel
theorem d1_16 : decode prog_2_method_10_code 16 = .ok (.lload 4, 2) := by decide +kernel
theorem d1_18 : decode prog_2_method_10_code 18 = .ok (.iload 6, 2) := by decide +kernel
theorem d1_20 : decode prog_2_method_10_code 20 = .ok (.i2l, 1) := by decide +kernel
theorem d1_21 : decode prog_2_method_10_code 21 = .ok (.ldc2_w 112, 3) := by decide +kernel
theorem d1_24 : decode prog_2_method_10_code 24 = .ok (.lmul, 1) := by decide +kernel
theorem d1_25 : decode prog_2_method_10_code 25 = .ok (.lsub, 1) := by decide +kernel
theorem d1_26 : decode prog_2_method_10_code 26 = .ok (.l2i, 1) := by decide +kernel
theorem d1_27 : decode prog_2_method_10_code 27 = .ok (.istore 7, 2) := by decide +kernel
theorem d1_29 : decode prog_2_method_10_code 29 = .ok (.iload 7, 2) := by decide +kernel
theorem d1_31 : decode prog_2_method_10_code 31 = .ok (.iload 7, 2) := by decide +kernel
theorem d1_33 : decode prog_2_method_10_code 33 = .ok (.sipush 1460, 3) := by decide +kernel
theorem d1_36 : decode prog_2_method_10_code 36 = .ok (.idiv, 1) := by decide +kernel
theorem d1_37 : decode prog_2_method_10_code 37 = .ok (.isub, 1) := by decide +kernel
theorem d1_38 : decode prog_2_method_10_code 38 = .ok (.iload 7, 2) := by decide +kernel
theorem d1_40 : decode prog_2_method_10_code 40 = .ok (.ldc 114, 2) := by decide +kernel
theorem d1_42 : decode prog_2_method_10_code 42 = .ok (.idiv, 1) := by decide +kernel
theorem d1_43 : decode prog_2_method_10_code 43 = .ok (.iadd, 1) := by decide +kernel
theorem d1_44 : decode prog_2_method_10_code 44 = .ok (.iload 7, 2) := by decide +kernel
theorem d1_46 : decode prog_2_method_10_code 46 = .ok (.ldc 115, 2) := by decide +kernel
theorem d1_48 : decode prog_2_method_10_code 48 = .ok (.idiv, 1) := by decide +kernel
theorem d1_49 : decode prog_2_method_10_code 49 = .ok (.isub, 1) := by decide +kernel
theorem d1_50 : decode prog_2_method_10_code 50 = .ok (.sipush 365, 3) := by decide +kernel
theorem d1_53 : decode prog_2_method_10_code 53 = .ok (.idiv, 1) := by decide +kernel
theorem d1_54 : decode prog_2_method_10_code 54 = .ok (.istore 8, 2) := by decide +kernel
theorem d1_56 : decode prog_2_method_10_code 56 = .ok (.iload 7, 2) := by decide +kernel
theorem d1_58 : decode prog_2_method_10_code 58 = .ok (.sipush 365, 3) := by decide +kernel
theorem d1_61 : decode prog_2_method_10_code 61 = .ok (.iload 8, 2) := by decide +kernel
theorem d1_63 : decode prog_2_method_10_code 63 = .ok (.imul, 1) := by decide +kernel
theorem d1_64 : decode prog_2_method_10_code 64 = .ok (.iload 8, 2) := by decide +kernel
theorem d1_66 : decode prog_2_method_10_code 66 = .ok (.iconst 4, 1) := by decide +kernel
theorem d1_67 : decode prog_2_method_10_code 67 = .ok (.idiv, 1) := by decide +kernel
theorem d1_68 : decode prog_2_method_10_code 68 = .ok (.iadd, 1) := by decide +kernel
theorem d1_69 : decode prog_2_method_10_code 69 = .ok (.iload 8, 2) := by decide +kernel
theorem d1_71 : decode prog_2_method_10_code 71 = .ok (.bipush 100, 2) := by decide +kernel
theorem d1_73 : decode prog_2_method_10_code 73 = .ok (.idiv, 1) := by decide +kernel
theorem d1_74 : decode prog_2_method_10_code 74 = .ok (.isub, 1) := by decide +kernel
theorem d1_75 : decode prog_2_method_10_code 75 = .ok (.isub, 1) := by decide +kernel
theorem d1_76 : decode prog_2_method_10_code 76 = .ok (.istore 9, 2) := by decide +kernel
theorem d1_78 : decode prog_2_method_10_code 78 = .ok (.iconst 5, 1) := by decide +kernel
theorem d1_79 : decode prog_2_method_10_code 79 = .ok (.iload 9, 2) := by decide +kernel
theorem d1_81 : decode prog_2_method_10_code 81 = .ok (.imul, 1) := by decide +kernel
theorem d1_82 : decode prog_2_method_10_code 82 = .ok (.iconst 2, 1) := by decide +kernel
theorem d1_83 : decode prog_2_method_10_code 83 = .ok (.iadd, 1) := by decide +kernel
theorem d1_84 : decode prog_2_method_10_code 84 = .ok (.sipush 153, 3) := by decide +kernel
theorem d1_87 : decode prog_2_method_10_code 87 = .ok (.idiv, 1) := by decide +kernel
theorem d1_88 : decode prog_2_method_10_code 88 = .ok (.istore 10, 2) := by decide +kernel
theorem d1_90 : decode prog_2_method_10_code 90 = .ok (.iload 9, 2) := by decide +kernel
theorem d1_92 : decode prog_2_method_10_code 92 = .ok (.sipush 153, 3) := by decide +kernel
theorem d1_95 : decode prog_2_method_10_code 95 = .ok (.iload 10, 2) := by decide +kernel
theorem d1_97 : decode prog_2_method_10_code 97 = .ok (.imul, 1) := by decide +kernel
theorem d1_98 : decode prog_2_method_10_code 98 = .ok (.iconst 2, 1) := by decide +kernel
theorem d1_99 : decode prog_2_method_10_code 99 = .ok (.iadd, 1) := by decide +kernel
theorem d1_100 : decode prog_2_method_10_code 100 = .ok (.iconst 5, 1) := by decide +kernel
theorem d1_101 : decode prog_2_method_10_code 101 = .ok (.idiv, 1) := by decide +kernel
theorem d1_102 : decode prog_2_method_10_code 102 = .ok (.isub, 1) := by decide +kernel
theorem d1_103 : decode prog_2_method_10_code 103 = .ok (.iconst 1, 1) := by decide +kernel
theorem d1_104 : decode prog_2_method_10_code 104 = .ok (.iadd, 1) := by decide +kernel
theorem d1_105 : decode prog_2_method_10_code 105 = .ok (.istore 11, 2) := by decide +kernel
theorem d1_107 : decode prog_2_method_10_code 107 = .ok (.iload 10, 2) := by decide +kernel
theorem d1_109 : decode prog_2_method_10_code 109 = .ok (.bipush 10, 2) := by decide +kernel
theorem d1_111 : decode prog_2_method_10_code 111 = .ok (.if_icmp .ge 10, 3) := by decide +kernel
theorem d1_114 : decode prog_2_method_10_code 114 = .ok (.iload 10, 2) := by decide +kernel
theorem d1_116 : decode prog_2_method_10_code 116 = .ok (.iconst 3, 1) := by decide +kernel
theorem d1_117 : decode prog_2_method_10_code 117 = .ok (.iadd, 1) := by decide +kernel
theorem d1_118 : decode prog_2_method_10_code 118 = .ok (.goto 8, 3) := by decide +kernel
theorem d1_121 : decode prog_2_method_10_code 121 = .ok (.iload 10, 2) := by decide +kernel
theorem d1_123 : decode prog_2_method_10_code 123 = .ok (.bipush 9, 2) := by decide +kernel
theorem d1_125 : decode prog_2_method_10_code 125 = .ok (.isub, 1) := by decide +kernel
theorem d1_126 : decode prog_2_method_10_code 126 = .ok (.istore 12, 2) := by decide +kernel
theorem d1_128 : decode prog_2_method_10_code 128 = .ok (.sipush 400, 3) := by decide +kernel
theorem d1_131 : decode prog_2_method_10_code 131 = .ok (.iload 6, 2) := by decide +kernel
theorem d1_133 : decode prog_2_method_10_code 133 = .ok (.imul, 1) := by decide +kernel
theorem d1_134 : decode prog_2_method_10_code 134 = .ok (.iload 8, 2) := by decide +kernel
theorem d1_136 : decode prog_2_method_10_code 136 = .ok (.iadd, 1) := by decide +kernel
theorem d1_137 : decode prog_2_method_10_code 137 = .ok (.iload 12, 2) := by decide +kernel
theorem d1_139 : decode prog_2_method_10_code 139 = .ok (.iconst 2, 1) := by decide +kernel
theorem d1_140 : decode prog_2_method_10_code 140 = .ok (.if_icmp .gt 7, 3) := by decide +kernel
theorem d1_143 : decode prog_2_method_10_code 143 = .ok (.iconst 1, 1) := by decide +kernel
theorem d1_144 : decode prog_2_method_10_code 144 = .ok (.goto 4, 3) := by decide +kernel
theorem d1_147 : decode prog_2_method_10_code 147 = .ok (.iconst 0, 1) := by decide +kernel
theorem d1_148 : decode prog_2_method_10_code 148 = .ok (.iadd, 1) := by decide +kernel
theorem d1_149 : decode prog_2_method_10_code 149 = .ok (.istore 13, 2) := by decide +kernel
theorem d1_151 : decode prog_2_method_10_code 151 = .ok (.aload_n 2, 1) := by decide +kernel
theorem d1_152 : decode prog_2_method_10_code 152 = .ok (.iload_n 3, 1) := by decide +kernel
theorem d1_153 : decode prog_2_method_10_code 153 = .ok (.bipush 48, 2) := by decide +kernel
theorem d1_155 : decode prog_2_method_10_code 155 = .ok (.iload 13, 2) := by decide +kernel
theorem d1_157 : decode prog_2_method_10_code 157 = .ok (.sipush 1000, 3) := by decide +kernel
theorem d1_160 : decode prog_2_method_10_code 160 = .ok (.idiv, 1) := by decide +kernel
theorem d1_161 : decode prog_2_method_10_code 161 = .ok (.iadd, 1) := by decide +kernel
theorem d1_162 : decode prog_2_method_10_code 162 = .ok (.i2b, 1) := by decide +kernel
theorem d1_163 : decode prog_2_method_10_code 163 = .ok (.bastore, 1) := by decide +kernel
theorem d1_164 : decode prog_2_method_10_code 164 = .ok (.aload_n 2, 1) := by decide +kernel
theorem d1_165 : decode prog_2_method_10_code 165 = .ok (.iload_n 3, 1) := by decide +kernel
theorem d1_166 : decode prog_2_method_10_code 166 = .ok (.iconst 1, 1) := by decide +kernel
theorem d1_167 : decode prog_2_method_10_code 167 = .ok (.iadd, 1) := by decide +kernel
theorem d1_168 : decode prog_2_method_10_code 168 = .ok (.bipush 48, 2) := by decide +kernel
theorem d1_170 : decode prog_2_method_10_code 170 = .ok (.iload 13, 2) := by decide +kernel
theorem d1_172 : decode prog_2_method_10_code 172 = .ok (.bipush 100, 2) := by decide +kernel
theorem d1_174 : decode prog_2_method_10_code 174 = .ok (.idiv, 1) := by decide +kernel
theorem d1_175 : decode prog_2_method_10_code 175 = .ok (.bipush 10, 2) := by decide +kernel
theorem d1_177 : decode prog_2_method_10_code 177 = .ok (.irem, 1) := by decide +kernel
theorem d1_178 : decode prog_2_method_10_code 178 = .ok (.iadd, 1) := by decide +kernel
theorem d1_179 : decode prog_2_method_10_code 179 = .ok (.i2b, 1) := by decide +kernel
theorem d1_180 : decode prog_2_method_10_code 180 = .ok (.bastore, 1) := by decide +kernel
theorem d1_181 : decode prog_2_method_10_code 181 = .ok (.aload_n 2, 1) := by decide +kernel
theorem d1_182 : decode prog_2_method_10_code 182 = .ok (.iload_n 3, 1) := by decide +kernel
theorem d1_183 : decode prog_2_method_10_code 183 = .ok (.iconst 2, 1) := by decide +kernel
theorem d1_184 : decode prog_2_method_10_code 184 = .ok (.iadd, 1) := by decide +kernel
theorem d1_185 : decode prog_2_method_10_code 185 = .ok (.bipush 48, 2) := by decide +kernel
theorem d1_187 : decode prog_2_method_10_code 187 = .ok (.iload 13, 2) := by decide +kernel
theorem d1_189 : decode prog_2_method_10_code 189 = .ok (.bipush 10, 2) := by decide +kernel
theorem d1_191 : decode prog_2_method_10_code 191 = .ok (.idiv, 1) := by decide +kernel
theorem d1_192 : decode prog_2_method_10_code 192 = .ok (.bipush 10, 2) := by decide +kernel
theorem d1_194 : decode prog_2_method_10_code 194 = .ok (.irem, 1) := by decide +kernel
theorem d1_195 : decode prog_2_method_10_code 195 = .ok (.iadd, 1) := by decide +kernel
theorem d1_196 : decode prog_2_method_10_code 196 = .ok (.i2b, 1) := by decide +kernel
theorem d1_197 : decode prog_2_method_10_code 197 = .ok (.bastore, 1) := by decide +kernel
theorem d1_198 : decode prog_2_method_10_code 198 = .ok (.aload_n 2, 1) := by decide +kernel
theorem d1_199 : decode prog_2_method_10_code 199 = .ok (.iload_n 3, 1) := by decide +kernel
theorem d1_200 : decode prog_2_method_10_code 200 = .ok (.iconst 3, 1) := by decide +kernel
theorem d1_201 : decode prog_2_method_10_code 201 = .ok (.iadd, 1) := by decide +kernel
theorem d1_202 : decode prog_2_method_10_code 202 = .ok (.bipush 48, 2) := by decide +kernel
theorem d1_204 : decode prog_2_method_10_code 204 = .ok (.iload 13, 2) := by decide +kernel
theorem d1_206 : decode prog_2_method_10_code 206 = .ok (.bipush 10, 2) := by decide +kernel
theorem d1_208 : decode prog_2_method_10_code 208 = .ok (.irem, 1) := by decide +kernel
theorem d1_209 : decode prog_2_method_10_code 209 = .ok (.iadd, 1) := by decide +kernel
theorem d1_210 : decode prog_2_method_10_code 210 = .ok (.i2b, 1) := by decide +kernel
theorem d1_211 : decode prog_2_method_10_code 211 = .ok (.bastore, 1) := by decide +kernel
theorem d1_212 : decode prog_2_method_10_code 212 = .ok (.aload_n 2, 1) := by decide +kernel
theorem d1_213 : decode prog_2_method_10_code 213 = .ok (.iload_n 3, 1) := by decide +kernel
theorem d1_214 : decode prog_2_method_10_code 214 = .ok (.iconst 4, 1) := by decide +kernel
theorem d1_215 : decode prog_2_method_10_code 215 = .ok (.iadd, 1) := by decide +kernel
theorem d1_216 : decode prog_2_method_10_code 216 = .ok (.bipush 45, 2) := by decide +kernel
theorem d1_218 : decode prog_2_method_10_code 218 = .ok (.bastore, 1) := by decide +kernel
theorem d1_219 : decode prog_2_method_10_code 219 = .ok (.aload_n 2, 1) := by decide +kernel
theorem d1_220 : decode prog_2_method_10_code 220 = .ok (.iload_n 3, 1) := by decide +kernel
theorem d1_221 : decode prog_2_method_10_code 221 = .ok (.iconst 5, 1) := by decide +kernel
theorem d1_222 : decode prog_2_method_10_code 222 = .ok (.iadd, 1) := by decide +kernel
theorem d1_223 : decode prog_2_method_10_code 223 = .ok (.bipush 48, 2) := by decide +kernel
theorem d1_225 : decode prog_2_method_10_code 225 = .ok (.iload 12, 2) := by decide +kernel
theorem d1_227 : decode prog_2_method_10_code 227 = .ok (.bipush 10, 2) := by decide +kernel
theorem d1_229 : decode prog_2_method_10_code 229 = .ok (.idiv, 1) := by decide +kernel
theorem d1_230 : decode prog_2_method_10_code 230 = .ok (.iadd, 1) := by decide +kernel
theorem d1_231 : decode prog_2_method_10_code 231 = .ok (.i2b, 1) := by decide +kernel
theorem d1_232 : decode prog_2_method_10_code 232 = .ok (.bastore, 1) := by decide +kernel
theorem d1_233 : decode prog_2_method_10_code 233 = .ok (.aload_n 2, 1) := by decide +kernel
theorem d1_234 : decode prog_2_method_10_code 234 = .ok (.iload_n 3, 1) := by decide +kernel
theorem d1_235 : decode prog_2_method_10_code 235 = .ok (.bipush 6, 2) := by decide +kernel
theorem d1_237 : decode prog_2_method_10_code 237 = .ok (.iadd, 1) := by decide +kernel
theorem d1_238 : decode prog_2_method_10_code 238 = .ok (.bipush 48, 2) := by decide +kernel
theorem d1_240 : decode prog_2_method_10_code 240 = .ok (.iload 12, 2) := by decide +kernel
theorem d1_242 : decode prog_2_method_10_code 242 = .ok (.bipush 10, 2) := by decide +kernel
theorem d1_244 : decode prog_2_method_10_code 244 = .ok (.irem, 1) := by decide +kernel
theorem d1_245 : decode prog_2_method_10_code 245 = .ok (.iadd, 1) := by decide +kernel
theorem d1_246 : decode prog_2_method_10_code 246 = .ok (.i2b, 1) := by decide +kernel
theorem d1_247 : decode prog_2_method_10_code 247 = .ok (.bastore, 1) := by decide +kernel
theorem d1_248 : decode prog_2_method_10_code 248 = .ok (.aload_n 2, 1) := by decide +kernel
theorem d1_249 : decode prog_2_method_10_code 249 = .ok (.iload_n 3, 1) := by decide +kernel
theorem d1_250 : decode prog_2_method_10_code 250 = .ok (.bipush 7, 2) := by decide +kernel
theorem d1_252 : decode prog_2_method_10_code 252 = .ok (.iadd, 1) := by decide +kernel
theorem d1_253 : decode prog_2_method_10_code 253 = .ok (.bipush 45, 2) := by decide +kernel
theorem d1_255 : decode prog_2_method_10_code 255 = .ok (.bastore, 1) := by decide +kernel
theorem d1_256 : decode prog_2_method_10_code 256 = .ok (.aload_n 2, 1) := by decide +kernel
theorem d1_257 : decode prog_2_method_10_code 257 = .ok (.iload_n 3, 1) := by decide +kernel
theorem d1_258 : decode prog_2_method_10_code 258 = .ok (.bipush 8, 2) := by decide +kernel
theorem d1_260 : decode prog_2_method_10_code 260 = .ok (.iadd, 1) := by decide +kernel
theorem d1_261 : decode prog_2_method_10_code 261 = .ok (.bipush 48, 2) := by decide +kernel
theorem d1_263 : decode prog_2_method_10_code 263 = .ok (.iload 11, 2) := by decide +kernel
theorem d1_265 : decode prog_2_method_10_code 265 = .ok (.bipush 10, 2) := by decide +kernel
theorem d1_267 : decode prog_2_method_10_code 267 = .ok (.idiv, 1) := by decide +kernel
theorem d1_268 : decode prog_2_method_10_code 268 = .ok (.iadd, 1) := by decide +kernel
theorem d1_269 : decode prog_2_method_10_code 269 = .ok (.i2b, 1) := by decide +kernel
theorem d1_270 : decode prog_2_method_10_code 270 = .ok (.bastore, 1) := by decide +kernel
theorem d1_271 : decode prog_2_method_10_code 271 = .ok (.aload_n 2, 1) := by decide +kernel
theorem d1_272 : decode prog_2_method_10_code 272 = .ok (.iload_n 3, 1) := by decide +kernel
theorem d1_273 : decode prog_2_method_10_code 273 = .ok (.bipush 9, 2) := by decide +kernel
theorem d1_275 : decode prog_2_method_10_code 275 = .ok (.iadd, 1) := by decide +kernel
theorem d1_276 : decode prog_2_method_10_code 276 = .ok (.bipush 48, 2) := by decide +kernel
theorem d1_278 : decode prog_2_method_10_code 278 = .ok (.iload 11, 2) := by decide +kernel
theorem d1_280 : decode prog_2_method_10_code 280 = .ok (.bipush 10, 2) := by decide +kernel
theorem d1_282 : decode prog_2_method_10_code 282 = .ok (.irem, 1) := by decide +kernel
theorem d1_283 : decode prog_2_method_10_code 283 = .ok (.iadd, 1) := by decide +kernel
theorem d1_284 : decode prog_2_method_10_code 284 = .ok (.i2b, 1) := by decide +kernel
theorem d1_285 : decode prog_2_method_10_code 285 = .ok (.bastore, 1) := by decide +kernel
theorem d1_286 : decode prog_2_method_10_code 286 = .ok (.iload_n 3, 1) := by decide +kernel
theorem d1_287 : decode prog_2_method_10_code 287 = .ok (.bipush 10, 2) := by decide +kernel
theorem d1_289 : decode prog_2_method_10_code 289 = .ok (.iadd, 1) := by decide +kernel
theorem d1_290 : decode prog_2_method_10_code 290 = .ok (.ireturn, 1) := by decide +kernel
theorem ef_rm1 (m : MethodId) (x0 : Int64) (x1 : Addr) (x2 : Int32) : entryFrame m #[(.long x0), (.ref x1), (.int x2)] 14 = mkF m 0 #[.val (.long x0), .second, .val (.ref x1), .val (.int x2), .unset, .unset, .unset, .unset, .unset, .unset, .unset, .unset, .unset, .unset] [] := by first | (simp [entryFrame, mkF, argsToLocals, Value.category]; done) | rfl
def Q1 (Z : State) (qe : Int64) (ob : Addr) (vpl : Int32) (kk : ClassId) (vs : List Value) (pn : Nat) (h0 : Heap) (n0 : Nat) (v : Option Value) (h : Heap) (L : List Loc) : Prop := ∃ (z w0 w1 w2 w3 w4 w5 w6 w7 w8 w9 : Int32) (Y Mo Da : Int), v = some (.int z) ∧ z.toInt = vpl.toInt + 10 ∧ Fr n0 L ∧ Keep h0 h [ob] ∧ Arv Z h ob kk .byte (14 : Int32) (own_ten vs pn w0 w1 w2 w3 w4 w5 w6 w7 w8 w9) (.int (0 : Int32)) ∧ own_date qe.toInt Y Mo Da ∧ w0.toInt = 48 + Y / 1000 ∧ w1.toInt = 48 + Y / 100 % 10 ∧ w2.toInt = 48 + Y / 10 % 10 ∧ w3.toInt = 48 + Y % 10 ∧ w4.toInt = 45 ∧ w5.toInt = 48 + Mo / 10 ∧ w6.toInt = 48 + Mo % 10 ∧ w7.toInt = 45 ∧ w8.toInt = 48 + Da / 10 ∧ w9.toInt = 48 + Da % 10
set_option maxRecDepth 65536 in
set_option maxHeartbeats 40000000 in
theorem rm1 (l : Launch) (Z : State) (a0 : Array Value) (hw : ∀ d ∈ tables_1, d.before a0 Z = true) (ws : List Jvm.Cond) (qe : Int64) (ob : Addr) (vpl : Int32) (kk : ClassId) (vs : List Value) (pn : Nat) (h0 : Heap) (n0 : Nat) (Z0 : n0 ≤ h0.size) (Vb : Arv Z h0 ob kk .byte (14 : Int32) vs (.int (0 : Int32))) (hvl : vs.length = 14) (hpn : vpl.toInt = pn) (hp3 : pn ≤ 3) (gb : n0 ≤ ob) (ie1 : -141349 ≤ qe.toInt) (ie2 : qe.toInt ≤ 777966) :
    MetFree l (⟨"com/example/mod7/mod7/calendar/Dates", "write", "(J[BI)I"⟩ : MethodName) (head1 (Jvm.Cond.code (⟨"com/example/mod7/mod7/calendar/Dates", "write", "(J[BI)I"⟩ : MethodName) prog_2_method_10_code 14 (some .int) :: ws) ({ frames := 0, cells := 0, slots := 0, locals := 0 } : Room)) (fun a U => a = #[(.long qe), (.ref ob), (.int vpl)] ∧ Z.Warmed39 U.vm ∧ U.heap = h0) (fun _ _ _ _ _ => True) (fun _ U o U' => ∃ v L, o = .returned v ∧ Q1 Z qe ob vpl kk vs pn h0 n0 v U'.heap L ∧ FrameEnd U o U' L ({ frames := 0, cells := 0, slots := 0, locals := 0 } : Room).cells ({ frames := 0, cells := 0, slots := 0, locals := 0 } : Room).slots) := by
  refine MetFree.of_bodySF (plainFor_of_name pn_0) hisR ?_
  intro p e s m args below meth c s₁ Bd hml0 hP hK
  obtain ⟨rfl, hZ, hh⟩ := hP
  have hx := Bd.exec
  have hby := Bd.bytes
  have hml : c.maxLocals = 14 := hml0
  have hown : s.vm.findClass "com/example/mod7/mod7/calendar/Dates" = some m.cls := findClass_of_methodNamed Bd.named
  have hnm := (name_of_methodNamed Bd.named Bd.method).1
  have X0 : Stand p l e ({ frames := 0, cells := 0, slots := 0, locals := 0 } : Room) s m #[(.long qe), (.ref ob), (.int vpl)] below meth c s₁ [] 0 0 := Stand.of_body Bd
  have e0 : s₁.heap = h0 := by rw [← hh, Bd.state]; rfl
  have N0 := Fr.nil n0
  have pre0 : ∀ t, Steps p.tables e below (s₁.setTop (mkF m 0 #[.val (.long qe), .second, .val (.ref ob), .val (.int vpl), .unset, .unset, .unset, .unset, .unset, .unset, .unset, .unset, .unset, .unset] [])) t → Steps p.tables e below (s₁.setTop (entryFrame m #[(.long qe), (.ref ob), (.int vpl)] 14)) t := fun t k => castTop (ef_rm1 m qe ob vpl) k
  have pre1 : ∀ t, Steps p.tables e below (s₁.setTop (mkF m 5 #[.val (.long qe), .second, .val (.ref ob), .val (.int vpl), .unset, .unset, .unset, .unset, .unset, .unset, .unset, .unset, .unset, .unset] [(.long (qe + (719468 : Int64)))])) t → Steps p.tables e below (s₁.setTop (entryFrame m #[(.long qe), (.ref ob), (.int vpl)] 14)) t := fun t kt => by
    refine pre0 _ ?_
    refine XS.lloadN X0.here hx rfl (hb hby d1_0) rfl ?_
    refine X0.ldc2Long hx hown (mvT hZ (hw _ (List.mem_of_getElem? (i := 8) rfl))) (g := (mkF m 1 #[.val (.long qe), .second, .val (.ref ob), .val (.int vpl), .unset, .unset, .unset, .unset, .unset, .unset, .unset, .unset, .unset, .unset] [(.long qe)])) rfl (hb hby d1_1) _ ?_
    refine XS.ladd X0.here hx rfl (hb hby d1_4) rfl ?_
    exact kt
  obtain ⟨dys, hdys⟩ : ∃ z : Int64, z = (qe + (719468 : Int64)) := ⟨_, rfl⟩
  have idys : dys.toInt = qe.toInt + 719468 := by rw [hdys]; have := rng64 qe; (first | (have : ((qe + (719468 : Int64))).toInt = qe.toInt + (719468 : Int) := (by have : (((qe + (719468 : Int64))).toInt - (qe.toInt + (719468 : Int))) % 18446744073709551616 = 0 := c_ladd qe (719468 : Int64); have := rng64 (qe + (719468 : Int64)); omega)) | (have : (((qe + (719468 : Int64))).toInt - (qe.toInt + (719468 : Int))) % 18446744073709551616 = 0 := c_ladd qe (719468 : Int64); have := rng64 (qe + (719468 : Int64)))); omega
  have pre2 : ∀ t, Steps p.tables e below (s₁.setTop (mkF m 5 #[.val (.long qe), .second, .val (.ref ob), .val (.int vpl), .unset, .unset, .unset, .unset, .unset, .unset, .unset, .unset, .unset, .unset] [(.long dys)])) t → Steps p.tables e below (s₁.setTop (entryFrame m #[(.long qe), (.ref ob), (.int vpl)] 14)) t := by rw [hdys]; exact pre1
  have pre3 : ∀ t, Steps p.tables e below (s₁.setTop (mkF m 14 #[.val (.long qe), .second, .val (.ref ob), .val (.int vpl), .val (.long dys), .second, .unset, .unset, .unset, .unset, .unset, .unset, .unset, .unset] [(.int ((dys / (146097 : Int64)).toInt32))])) t → Steps p.tables e below (s₁.setTop (entryFrame m #[(.long qe), (.ref ob), (.int vpl)] 14)) t := fun t kt => by
    refine pre2 _ ?_
    refine XS.lstore X0.here hx rfl (hb hby d1_5) rfl (l' := #[.val (.long qe), .second, .val (.ref ob), .val (.int vpl), .val (.long dys), .second, .unset, .unset, .unset, .unset, .unset, .unset, .unset, .unset]) rfl ?_
    show Steps p.tables e below (s₁.setTop (mkF m 7 #[.val (.long qe), .second, .val (.ref ob), .val (.int vpl), .val (.long dys), .second, .unset, .unset, .unset, .unset, .unset, .unset, .unset, .unset] [])) _
    refine XS.lload X0.here hx rfl (hb hby d1_7) rfl ?_
    refine X0.ldc2Long hx hown (mvT hZ (hw _ (List.mem_of_getElem? (i := 9) rfl))) (g := (mkF m 9 #[.val (.long qe), .second, .val (.ref ob), .val (.int vpl), .val (.long dys), .second, .unset, .unset, .unset, .unset, .unset, .unset, .unset, .unset] [(.long dys)])) rfl (hb hby d1_9) _ ?_
    refine XS.ldiv X0.here hx rfl (hb hby d1_12) rfl (by decide) ?_
    refine XS.l2i X0.here hx rfl (hb hby d1_13) rfl ?_
    exact kt
  obtain ⟨era, hera⟩ : ∃ z : Int32, z = ((dys / (146097 : Int64)).toInt32) := ⟨_, rfl⟩
  have iera : era.toInt = dys.toInt / 146097 := by rw [hera]; have := rng64 dys; have := c_ldiv dys (146097 : Int64) 146097 (by decide) (by decide); (first | (have : (((dys / (146097 : Int64)).toInt32)).toInt = (dys / (146097 : Int64)).toInt := (by have := c_l2i (dys / (146097 : Int64)); have := rng32 ((dys / (146097 : Int64)).toInt32); omega)) | (have := c_l2i (dys / (146097 : Int64)); have := rng32 ((dys / (146097 : Int64)).toInt32))); omega
  have pre4 : ∀ t, Steps p.tables e below (s₁.setTop (mkF m 14 #[.val (.long qe), .second, .val (.ref ob), .val (.int vpl), .val (.long dys), .second, .unset, .unset, .unset, .unset, .unset, .unset, .unset, .unset] [(.int era)])) t → Steps p.tables e below (s₁.setTop (entryFrame m #[(.long qe), (.ref ob), (.int vpl)] 14)) t := by rw [hera]; exact pre3
  have jera : 3 ≤ era.toInt ∧ era.toInt ≤ 10 := by omega
  have pre5 : ∀ t, Steps p.tables e below (s₁.setTop (mkF m 27 #[.val (.long qe), .second, .val (.ref ob), .val (.int vpl), .val (.long dys), .second, .val (.int era), .unset, .unset, .unset, .unset, .unset, .unset, .unset] [(.int ((dys - ((era.toInt64) * (146097 : Int64))).toInt32))])) t → Steps p.tables e below (s₁.setTop (entryFrame m #[(.long qe), (.ref ob), (.int vpl)] 14)) t := fun t kt => by
    refine pre4 _ ?_
    refine XS.istore X0.here hx rfl (hb hby d1_14) rfl (l' := #[.val (.long qe), .second, .val (.ref ob), .val (.int vpl), .val (.long dys), .second, .val (.int era), .unset, .unset, .unset, .unset, .unset, .unset, .unset]) rfl ?_
    show Steps p.tables e below (s₁.setTop (mkF m 16 #[.val (.long qe), .second, .val (.ref ob), .val (.int vpl), .val (.long dys), .second, .val (.int era), .unset, .unset, .unset, .unset, .unset, .unset, .unset] [])) _
    refine XS.lload X0.here hx rfl (hb hby d1_16) rfl ?_
    refine XS.iload X0.here hx rfl (hb hby d1_18) rfl ?_
    refine XS.i2l X0.here hx rfl (hb hby d1_20) rfl ?_
    refine X0.ldc2Long hx hown (mvT hZ (hw _ (List.mem_of_getElem? (i := 9) rfl))) (g := (mkF m 21 #[.val (.long qe), .second, .val (.ref ob), .val (.int vpl), .val (.long dys), .second, .val (.int era), .unset, .unset, .unset, .unset, .unset, .unset, .unset] [(.long (era.toInt64)), (.long dys)])) rfl (hb hby d1_21) _ ?_
    refine XS.lmul X0.here hx rfl (hb hby d1_24) rfl ?_
    show Steps p.tables e below (s₁.setTop (mkF m 25 #[.val (.long qe), .second, .val (.ref ob), .val (.int vpl), .val (.long dys), .second, .val (.int era), .unset, .unset, .unset, .unset, .unset, .unset, .unset] [(.long ((era.toInt64) * (146097 : Int64))), (.long dys)])) _
    refine XS.lsub X0.here hx rfl (hb hby d1_25) rfl ?_
    refine XS.l2i X0.here hx rfl (hb hby d1_26) rfl ?_
    exact kt
  obtain ⟨doe, hdoe⟩ : ∃ z : Int32, z = ((dys - ((era.toInt64) * (146097 : Int64))).toInt32) := ⟨_, rfl⟩
  have idoe : doe.toInt = dys.toInt - 146097 * era.toInt := by rw [hdoe]; have := rng64 dys; have := rng32 era; have := c_i2l era; (first | (have : (((era.toInt64) * (146097 : Int64))).toInt = (era.toInt64).toInt * (146097 : Int) := (by have : ((((era.toInt64) * (146097 : Int64))).toInt - ((era.toInt64).toInt * (146097 : Int))) % 18446744073709551616 = 0 := c_lmul (era.toInt64) (146097 : Int64); have := rng64 ((era.toInt64) * (146097 : Int64)); omega)) | (have : ((((era.toInt64) * (146097 : Int64))).toInt - ((era.toInt64).toInt * (146097 : Int))) % 18446744073709551616 = 0 := c_lmul (era.toInt64) (146097 : Int64); have := rng64 ((era.toInt64) * (146097 : Int64)))); (first | (have : ((dys - ((era.toInt64) * (146097 : Int64)))).toInt = dys.toInt - ((era.toInt64) * (146097 : Int64)).toInt := (by have : (((dys - ((era.toInt64) * (146097 : Int64)))).toInt - (dys.toInt - ((era.toInt64) * (146097 : Int64)).toInt)) % 18446744073709551616 = 0 := c_lsub dys ((era.toInt64) * (146097 : Int64)); have := rng64 (dys - ((era.toInt64) * (146097 : Int64))); omega)) | (have : (((dys - ((era.toInt64) * (146097 : Int64)))).toInt - (dys.toInt - ((era.toInt64) * (146097 : Int64)).toInt)) % 18446744073709551616 = 0 := c_lsub dys ((era.toInt64) * (146097 : Int64)); have := rng64 (dys - ((era.toInt64) * (146097 : Int64))))); (first | (have : (((dys - ((era.toInt64) * (146097 : Int64))).toInt32)).toInt = (dys - ((era.toInt64) * (146097 : Int64))).toInt := (by have := c_l2i (dys - ((era.toInt64) * (146097 : Int64))); have := rng32 ((dys - ((era.toInt64) * (146097 : Int64))).toInt32); omega)) | (have := c_l2i (dys - ((era.toInt64) * (146097 : Int64))); have := rng32 ((dys - ((era.toInt64) * (146097 : Int64))).toInt32))); omega
  have pre6 : ∀ t, Steps p.tables e below (s₁.setTop (mkF m 27 #[.val (.long qe), .second, .val (.ref ob), .val (.int vpl), .val (.long dys), .second, .val (.int era), .unset, .unset, .unset, .unset, .unset, .unset, .unset] [(.int doe)])) t → Steps p.tables e below (s₁.setTop (entryFrame m #[(.long qe), (.ref ob), (.int vpl)] 14)) t := by rw [hdoe]; exact pre5
  have jdoe : 0 ≤ doe.toInt ∧ doe.toInt ≤ 146096 := by omega
  have pre7 : ∀ t, Steps p.tables e below (s₁.setTop (mkF m 54 #[.val (.long qe), .second, .val (.ref ob), .val (.int vpl), .val (.long dys), .second, .val (.int era), .val (.int doe), .unset, .unset, .unset, .unset, .unset, .unset] [(.int ((((doe - (doe / (1460 : Int32))) + (doe / (36524 : Int32))) - (doe / (146096 : Int32))) / (365 : Int32)))])) t → Steps p.tables e below (s₁.setTop (entryFrame m #[(.long qe), (.ref ob), (.int vpl)] 14)) t := fun t kt => by
    refine pre6 _ ?_
    refine XS.istore X0.here hx rfl (hb hby d1_27) rfl (l' := #[.val (.long qe), .second, .val (.ref ob), .val (.int vpl), .val (.long dys), .second, .val (.int era), .val (.int doe), .unset, .unset, .unset, .unset, .unset, .unset]) rfl ?_
    refine XS.iload X0.here hx rfl (hb hby d1_29) rfl ?_
    refine XS.iload X0.here hx rfl (hb hby d1_31) rfl ?_
    show Steps p.tables e below (s₁.setTop (mkF m 33 #[.val (.long qe), .second, .val (.ref ob), .val (.int vpl), .val (.long dys), .second, .val (.int era), .val (.int doe), .unset, .unset, .unset, .unset, .unset, .unset] [(.int doe), (.int doe)])) _
    refine XS.sipush X0.here hx rfl (hb hby d1_33) ?_
    refine XS.idiv X0.here hx rfl (hb hby d1_36) rfl (by decide) ?_
    refine XS.isub X0.here hx rfl (hb hby d1_37) rfl ?_
    refine XS.iload X0.here hx rfl (hb hby d1_38) rfl ?_
    refine X0.ldcInt hx hown (mvT hZ (hw _ (List.mem_of_getElem? (i := 10) rfl))) (g := (mkF m 40 #[.val (.long qe), .second, .val (.ref ob), .val (.int vpl), .val (.long dys), .second, .val (.int era), .val (.int doe), .unset, .unset, .unset, .unset, .unset, .unset] [(.int doe), (.int (doe - (doe / (1460 : Int32))))])) rfl (hb hby d1_40) _ ?_
    show Steps p.tables e below (s₁.setTop (mkF m 42 #[.val (.long qe), .second, .val (.ref ob), .val (.int vpl), .val (.long dys), .second, .val (.int era), .val (.int doe), .unset, .unset, .unset, .unset, .unset, .unset] [(.int (36524 : Int32)), (.int doe), (.int (doe - (doe / (1460 : Int32))))])) _
    refine XS.idiv X0.here hx rfl (hb hby d1_42) rfl (by decide) ?_
    refine XS.iadd X0.here hx rfl (hb hby d1_43) rfl ?_
    refine XS.iload X0.here hx rfl (hb hby d1_44) rfl ?_
    refine X0.ldcInt hx hown (mvT hZ (hw _ (List.mem_of_getElem? (i := 11) rfl))) (g := (mkF m 46 #[.val (.long qe), .second, .val (.ref ob), .val (.int vpl), .val (.long dys), .second, .val (.int era), .val (.int doe), .unset, .unset, .unset, .unset, .unset, .unset] [(.int doe), (.int ((doe - (doe / (1460 : Int32))) + (doe / (36524 : Int32))))])) rfl (hb hby d1_46) _ ?_
    refine XS.idiv X0.here hx rfl (hb hby d1_48) rfl (by decide) ?_
    show Steps p.tables e below (s₁.setTop (mkF m 49 #[.val (.long qe), .second, .val (.ref ob), .val (.int vpl), .val (.long dys), .second, .val (.int era), .val (.int doe), .unset, .unset, .unset, .unset, .unset, .unset] [(.int (doe / (146096 : Int32))), (.int ((doe - (doe / (1460 : Int32))) + (doe / (36524 : Int32))))])) _
    refine XS.isub X0.here hx rfl (hb hby d1_49) rfl ?_
    refine XS.sipush X0.here hx rfl (hb hby d1_50) ?_
    refine XS.idiv X0.here hx rfl (hb hby d1_53) rfl (by decide) ?_
    exact kt
  obtain ⟨yoe, hyoe⟩ : ∃ z : Int32, z = ((((doe - (doe / (1460 : Int32))) + (doe / (36524 : Int32))) - (doe / (146096 : Int32))) / (365 : Int32)) := ⟨_, rfl⟩
  have iyoe : yoe.toInt = (doe.toInt - doe.toInt / 1460 + doe.toInt / 36524 - doe.toInt / 146096) / 365 := by rw [hyoe]; have := rng32 doe; have := c_idiv doe (1460 : Int32) 1460 (by decide) (by decide); (first | (have : ((doe - (doe / (1460 : Int32)))).toInt = doe.toInt - (doe / (1460 : Int32)).toInt := (by have : (((doe - (doe / (1460 : Int32)))).toInt - (doe.toInt - (doe / (1460 : Int32)).toInt)) % 4294967296 = 0 := c_isub doe (doe / (1460 : Int32)); have := rng32 (doe - (doe / (1460 : Int32))); omega)) | (have : (((doe - (doe / (1460 : Int32)))).toInt - (doe.toInt - (doe / (1460 : Int32)).toInt)) % 4294967296 = 0 := c_isub doe (doe / (1460 : Int32)); have := rng32 (doe - (doe / (1460 : Int32))))); have := c_idiv doe (36524 : Int32) 36524 (by decide) (by decide); (first | (have : (((doe - (doe / (1460 : Int32))) + (doe / (36524 : Int32)))).toInt = (doe - (doe / (1460 : Int32))).toInt + (doe / (36524 : Int32)).toInt := (by have : ((((doe - (doe / (1460 : Int32))) + (doe / (36524 : Int32)))).toInt - ((doe - (doe / (1460 : Int32))).toInt + (doe / (36524 : Int32)).toInt)) % 4294967296 = 0 := c_iadd (doe - (doe / (1460 : Int32))) (doe / (36524 : Int32)); have := rng32 ((doe - (doe / (1460 : Int32))) + (doe / (36524 : Int32))); omega)) | (have : ((((doe - (doe / (1460 : Int32))) + (doe / (36524 : Int32)))).toInt - ((doe - (doe / (1460 : Int32))).toInt + (doe / (36524 : Int32)).toInt)) % 4294967296 = 0 := c_iadd (doe - (doe / (1460 : Int32))) (doe / (36524 : Int32)); have := rng32 ((doe - (doe / (1460 : Int32))) + (doe / (36524 : Int32))))); have := c_idiv doe (146096 : Int32) 146096 (by decide) (by decide); (first | (have : ((((doe - (doe / (1460 : Int32))) + (doe / (36524 : Int32))) - (doe / (146096 : Int32)))).toInt = ((doe - (doe / (1460 : Int32))) + (doe / (36524 : Int32))).toInt - (doe / (146096 : Int32)).toInt := (by have : (((((doe - (doe / (1460 : Int32))) + (doe / (36524 : Int32))) - (doe / (146096 : Int32)))).toInt - (((doe - (doe / (1460 : Int32))) + (doe / (36524 : Int32))).toInt - (doe / (146096 : Int32)).toInt)) % 4294967296 = 0 := c_isub ((doe - (doe / (1460 : Int32))) + (doe / (36524 : Int32))) (doe / (146096 : Int32)); have := rng32 (((doe - (doe / (1460 : Int32))) + (doe / (36524 : Int32))) - (doe / (146096 : Int32))); omega)) | (have : (((((doe - (doe / (1460 : Int32))) + (doe / (36524 : Int32))) - (doe / (146096 : Int32)))).toInt - (((doe - (doe / (1460 : Int32))) + (doe / (36524 : Int32))).toInt - (doe / (146096 : Int32)).toInt)) % 4294967296 = 0 := c_isub ((doe - (doe / (1460 : Int32))) + (doe / (36524 : Int32))) (doe / (146096 : Int32)); have := rng32 (((doe - (doe / (1460 : Int32))) + (doe / (36524 : Int32))) - (doe / (146096 : Int32))))); have := c_idiv (((doe - (doe / (1460 : Int32))) + (doe / (36524 : Int32))) - (doe / (146096 : Int32))) (365 : Int32) 365 (by decide) (by decide); omega
  have pre8 : ∀ t, Steps p.tables e below (s₁.setTop (mkF m 54 #[.val (.long qe), .second, .val (.ref ob), .val (.int vpl), .val (.long dys), .second, .val (.int era), .val (.int doe), .unset, .unset, .unset, .unset, .unset, .unset] [(.int yoe)])) t → Steps p.tables e below (s₁.setTop (entryFrame m #[(.long qe), (.ref ob), (.int vpl)] 14)) t := by rw [hyoe]; exact pre7
  have jyoe : 0 ≤ yoe.toInt ∧ yoe.toInt ≤ 400 := by omega
  have pre9 : ∀ t, Steps p.tables e below (s₁.setTop (mkF m 76 #[.val (.long qe), .second, .val (.ref ob), .val (.int vpl), .val (.long dys), .second, .val (.int era), .val (.int doe), .val (.int yoe), .unset, .unset, .unset, .unset, .unset] [(.int (doe - ((((365 : Int32) * yoe) + (yoe / (4 : Int32))) - (yoe / (100 : Int32)))))])) t → Steps p.tables e below (s₁.setTop (entryFrame m #[(.long qe), (.ref ob), (.int vpl)] 14)) t := fun t kt => by
    refine pre8 _ ?_
    refine XS.istore X0.here hx rfl (hb hby d1_54) rfl (l' := #[.val (.long qe), .second, .val (.ref ob), .val (.int vpl), .val (.long dys), .second, .val (.int era), .val (.int doe), .val (.int yoe), .unset, .unset, .unset, .unset, .unset]) rfl ?_
    refine XS.iload X0.here hx rfl (hb hby d1_56) rfl ?_
    show Steps p.tables e below (s₁.setTop (mkF m 58 #[.val (.long qe), .second, .val (.ref ob), .val (.int vpl), .val (.long dys), .second, .val (.int era), .val (.int doe), .val (.int yoe), .unset, .unset, .unset, .unset, .unset] [(.int doe)])) _
    refine XS.sipush X0.here hx rfl (hb hby d1_58) ?_
    refine XS.iload X0.here hx rfl (hb hby d1_61) rfl ?_
    refine XS.imul X0.here hx rfl (hb hby d1_63) rfl ?_
    refine XS.iload X0.here hx rfl (hb hby d1_64) rfl ?_
    refine XS.iconst X0.here hx rfl (hb hby d1_66) ?_
    show Steps p.tables e below (s₁.setTop (mkF m 67 #[.val (.long qe), .second, .val (.ref ob), .val (.int vpl), .val (.long dys), .second, .val (.int era), .val (.int doe), .val (.int yoe), .unset, .unset, .unset, .unset, .unset] [(.int (4 : Int32)), (.int yoe), (.int ((365 : Int32) * yoe)), (.int doe)])) _
    refine XS.idiv X0.here hx rfl (hb hby d1_67) rfl (by decide) ?_
    refine XS.iadd X0.here hx rfl (hb hby d1_68) rfl ?_
    refine XS.iload X0.here hx rfl (hb hby d1_69) rfl ?_
    refine XS.bipush X0.here hx rfl (hb hby d1_71) ?_
    refine XS.idiv X0.here hx rfl (hb hby d1_73) rfl (by decide) ?_
    show Steps p.tables e below (s₁.setTop (mkF m 74 #[.val (.long qe), .second, .val (.ref ob), .val (.int vpl), .val (.long dys), .second, .val (.int era), .val (.int doe), .val (.int yoe), .unset, .unset, .unset, .unset, .unset] [(.int (yoe / (100 : Int32))), (.int (((365 : Int32) * yoe) + (yoe / (4 : Int32)))), (.int doe)])) _
    refine XS.isub X0.here hx rfl (hb hby d1_74) rfl ?_
    refine XS.isub X0.here hx rfl (hb hby d1_75) rfl ?_
    exact kt
  obtain ⟨doy, hdoy⟩ : ∃ z : Int32, z = (doe - ((((365 : Int32) * yoe) + (yoe / (4 : Int32))) - (yoe / (100 : Int32)))) := ⟨_, rfl⟩
  have idoy : doy.toInt = doe.toInt - (365 * yoe.toInt + yoe.toInt / 4 - yoe.toInt / 100) := by rw [hdoy]; have := rng32 doe; have := rng32 yoe; (first | (have : (((365 : Int32) * yoe)).toInt = (365 : Int) * yoe.toInt := (by have : ((((365 : Int32) * yoe)).toInt - ((365 : Int) * yoe.toInt)) % 4294967296 = 0 := c_imul (365 : Int32) yoe; have := rng32 ((365 : Int32) * yoe); omega)) | (have : ((((365 : Int32) * yoe)).toInt - ((365 : Int) * yoe.toInt)) % 4294967296 = 0 := c_imul (365 : Int32) yoe; have := rng32 ((365 : Int32) * yoe))); have := c_idiv yoe (4 : Int32) 4 (by decide) (by decide); (first | (have : ((((365 : Int32) * yoe) + (yoe / (4 : Int32)))).toInt = ((365 : Int32) * yoe).toInt + (yoe / (4 : Int32)).toInt := (by have : (((((365 : Int32) * yoe) + (yoe / (4 : Int32)))).toInt - (((365 : Int32) * yoe).toInt + (yoe / (4 : Int32)).toInt)) % 4294967296 = 0 := c_iadd ((365 : Int32) * yoe) (yoe / (4 : Int32)); have := rng32 (((365 : Int32) * yoe) + (yoe / (4 : Int32))); omega)) | (have : (((((365 : Int32) * yoe) + (yoe / (4 : Int32)))).toInt - (((365 : Int32) * yoe).toInt + (yoe / (4 : Int32)).toInt)) % 4294967296 = 0 := c_iadd ((365 : Int32) * yoe) (yoe / (4 : Int32)); have := rng32 (((365 : Int32) * yoe) + (yoe / (4 : Int32))))); have := c_idiv yoe (100 : Int32) 100 (by decide) (by decide); (first | (have : (((((365 : Int32) * yoe) + (yoe / (4 : Int32))) - (yoe / (100 : Int32)))).toInt = (((365 : Int32) * yoe) + (yoe / (4 : Int32))).toInt - (yoe / (100 : Int32)).toInt := (by have : ((((((365 : Int32) * yoe) + (yoe / (4 : Int32))) - (yoe / (100 : Int32)))).toInt - ((((365 : Int32) * yoe) + (yoe / (4 : Int32))).toInt - (yoe / (100 : Int32)).toInt)) % 4294967296 = 0 := c_isub (((365 : Int32) * yoe) + (yoe / (4 : Int32))) (yoe / (100 : Int32)); have := rng32 ((((365 : Int32) * yoe) + (yoe / (4 : Int32))) - (yoe / (100 : Int32))); omega)) | (have : ((((((365 : Int32) * yoe) + (yoe / (4 : Int32))) - (yoe / (100 : Int32)))).toInt - ((((365 : Int32) * yoe) + (yoe / (4 : Int32))).toInt - (yoe / (100 : Int32)).toInt)) % 4294967296 = 0 := c_isub (((365 : Int32) * yoe) + (yoe / (4 : Int32))) (yoe / (100 : Int32)); have := rng32 ((((365 : Int32) * yoe) + (yoe / (4 : Int32))) - (yoe / (100 : Int32))))); (first | (have : ((doe - ((((365 : Int32) * yoe) + (yoe / (4 : Int32))) - (yoe / (100 : Int32))))).toInt = doe.toInt - ((((365 : Int32) * yoe) + (yoe / (4 : Int32))) - (yoe / (100 : Int32))).toInt := (by have : (((doe - ((((365 : Int32) * yoe) + (yoe / (4 : Int32))) - (yoe / (100 : Int32))))).toInt - (doe.toInt - ((((365 : Int32) * yoe) + (yoe / (4 : Int32))) - (yoe / (100 : Int32))).toInt)) % 4294967296 = 0 := c_isub doe ((((365 : Int32) * yoe) + (yoe / (4 : Int32))) - (yoe / (100 : Int32))); have := rng32 (doe - ((((365 : Int32) * yoe) + (yoe / (4 : Int32))) - (yoe / (100 : Int32)))); omega)) | (have : (((doe - ((((365 : Int32) * yoe) + (yoe / (4 : Int32))) - (yoe / (100 : Int32))))).toInt - (doe.toInt - ((((365 : Int32) * yoe) + (yoe / (4 : Int32))) - (yoe / (100 : Int32))).toInt)) % 4294967296 = 0 := c_isub doe ((((365 : Int32) * yoe) + (yoe / (4 : Int32))) - (yoe / (100 : Int32))); have := rng32 (doe - ((((365 : Int32) * yoe) + (yoe / (4 : Int32))) - (yoe / (100 : Int32)))))); omega
  have pre10 : ∀ t, Steps p.tables e below (s₁.setTop (mkF m 76 #[.val (.long qe), .second, .val (.ref ob), .val (.int vpl), .val (.long dys), .second, .val (.int era), .val (.int doe), .val (.int yoe), .unset, .unset, .unset, .unset, .unset] [(.int doy)])) t → Steps p.tables e below (s₁.setTop (entryFrame m #[(.long qe), (.ref ob), (.int vpl)] 14)) t := by rw [hdoy]; exact pre9
  have jdoy := own_doy doe.toInt yoe.toInt doy.toInt jdoe.1 jdoe.2 iyoe idoy
  have pre11 : ∀ t, Steps p.tables e below (s₁.setTop (mkF m 88 #[.val (.long qe), .second, .val (.ref ob), .val (.int vpl), .val (.long dys), .second, .val (.int era), .val (.int doe), .val (.int yoe), .val (.int doy), .unset, .unset, .unset, .unset] [(.int ((((5 : Int32) * doy) + (2 : Int32)) / (153 : Int32)))])) t → Steps p.tables e below (s₁.setTop (entryFrame m #[(.long qe), (.ref ob), (.int vpl)] 14)) t := fun t kt => by
    refine pre10 _ ?_
    refine XS.istore X0.here hx rfl (hb hby d1_76) rfl (l' := #[.val (.long qe), .second, .val (.ref ob), .val (.int vpl), .val (.long dys), .second, .val (.int era), .val (.int doe), .val (.int yoe), .val (.int doy), .unset, .unset, .unset, .unset]) rfl ?_
    refine XS.iconst X0.here hx rfl (hb hby d1_78) ?_
    refine XS.iload X0.here hx rfl (hb hby d1_79) rfl ?_
    show Steps p.tables e below (s₁.setTop (mkF m 81 #[.val (.long qe), .second, .val (.ref ob), .val (.int vpl), .val (.long dys), .second, .val (.int era), .val (.int doe), .val (.int yoe), .val (.int doy), .unset, .unset, .unset, .unset] [(.int doy), (.int (5 : Int32))])) _
    refine XS.imul X0.here hx rfl (hb hby d1_81) rfl ?_
    refine XS.iconst X0.here hx rfl (hb hby d1_82) ?_
    refine XS.iadd X0.here hx rfl (hb hby d1_83) rfl ?_
    refine XS.sipush X0.here hx rfl (hb hby d1_84) ?_
    refine XS.idiv X0.here hx rfl (hb hby d1_87) rfl (by decide) ?_
    exact kt
  obtain ⟨mp, hmp⟩ : ∃ z : Int32, z = ((((5 : Int32) * doy) + (2 : Int32)) / (153 : Int32)) := ⟨_, rfl⟩
  have imp : mp.toInt = (5 * doy.toInt + 2) / 153 := by rw [hmp]; have := rng32 doy; (first | (have : (((5 : Int32) * doy)).toInt = (5 : Int) * doy.toInt := (by have : ((((5 : Int32) * doy)).toInt - ((5 : Int) * doy.toInt)) % 4294967296 = 0 := c_imul (5 : Int32) doy; have := rng32 ((5 : Int32) * doy); omega)) | (have : ((((5 : Int32) * doy)).toInt - ((5 : Int) * doy.toInt)) % 4294967296 = 0 := c_imul (5 : Int32) doy; have := rng32 ((5 : Int32) * doy))); (first | (have : ((((5 : Int32) * doy) + (2 : Int32))).toInt = ((5 : Int32) * doy).toInt + (2 : Int) := (by have : (((((5 : Int32) * doy) + (2 : Int32))).toInt - (((5 : Int32) * doy).toInt + (2 : Int))) % 4294967296 = 0 := c_iadd ((5 : Int32) * doy) (2 : Int32); have := rng32 (((5 : Int32) * doy) + (2 : Int32)); omega)) | (have : (((((5 : Int32) * doy) + (2 : Int32))).toInt - (((5 : Int32) * doy).toInt + (2 : Int))) % 4294967296 = 0 := c_iadd ((5 : Int32) * doy) (2 : Int32); have := rng32 (((5 : Int32) * doy) + (2 : Int32)))); have := c_idiv (((5 : Int32) * doy) + (2 : Int32)) (153 : Int32) 153 (by decide) (by decide); omega
  have pre12 : ∀ t, Steps p.tables e below (s₁.setTop (mkF m 88 #[.val (.long qe), .second, .val (.ref ob), .val (.int vpl), .val (.long dys), .second, .val (.int era), .val (.int doe), .val (.int yoe), .val (.int doy), .unset, .unset, .unset, .unset] [(.int mp)])) t → Steps p.tables e below (s₁.setTop (entryFrame m #[(.long qe), (.ref ob), (.int vpl)] 14)) t := by rw [hmp]; exact pre11
  have jmp : 0 ≤ mp.toInt ∧ mp.toInt ≤ 11 := by omega
  have pre13 : ∀ t, Steps p.tables e below (s₁.setTop (mkF m 105 #[.val (.long qe), .second, .val (.ref ob), .val (.int vpl), .val (.long dys), .second, .val (.int era), .val (.int doe), .val (.int yoe), .val (.int doy), .val (.int mp), .unset, .unset, .unset] [(.int ((doy - ((((153 : Int32) * mp) + (2 : Int32)) / (5 : Int32))) + (1 : Int32)))])) t → Steps p.tables e below (s₁.setTop (entryFrame m #[(.long qe), (.ref ob), (.int vpl)] 14)) t := fun t kt => by
    refine pre12 _ ?_
    show Steps p.tables e below (s₁.setTop (mkF m 88 #[.val (.long qe), .second, .val (.ref ob), .val (.int vpl), .val (.long dys), .second, .val (.int era), .val (.int doe), .val (.int yoe), .val (.int doy), .unset, .unset, .unset, .unset] [(.int mp)])) _
    refine XS.istore X0.here hx rfl (hb hby d1_88) rfl (l' := #[.val (.long qe), .second, .val (.ref ob), .val (.int vpl), .val (.long dys), .second, .val (.int era), .val (.int doe), .val (.int yoe), .val (.int doy), .val (.int mp), .unset, .unset, .unset]) rfl ?_
    refine XS.iload X0.here hx rfl (hb hby d1_90) rfl ?_
    refine XS.sipush X0.here hx rfl (hb hby d1_92) ?_
    refine XS.iload X0.here hx rfl (hb hby d1_95) rfl ?_
    refine XS.imul X0.here hx rfl (hb hby d1_97) rfl ?_
    show Steps p.tables e below (s₁.setTop (mkF m 98 #[.val (.long qe), .second, .val (.ref ob), .val (.int vpl), .val (.long dys), .second, .val (.int era), .val (.int doe), .val (.int yoe), .val (.int doy), .val (.int mp), .unset, .unset, .unset] [(.int ((153 : Int32) * mp)), (.int doy)])) _
    refine XS.iconst X0.here hx rfl (hb hby d1_98) ?_
    refine XS.iadd X0.here hx rfl (hb hby d1_99) rfl ?_
    refine XS.iconst X0.here hx rfl (hb hby d1_100) ?_
    refine XS.idiv X0.here hx rfl (hb hby d1_101) rfl (by decide) ?_
    refine XS.isub X0.here hx rfl (hb hby d1_102) rfl ?_
    show Steps p.tables e below (s₁.setTop (mkF m 103 #[.val (.long qe), .second, .val (.ref ob), .val (.int vpl), .val (.long dys), .second, .val (.int era), .val (.int doe), .val (.int yoe), .val (.int doy), .val (.int mp), .unset, .unset, .unset] [(.int (doy - ((((153 : Int32) * mp) + (2 : Int32)) / (5 : Int32))))])) _
    refine XS.iconst X0.here hx rfl (hb hby d1_103) ?_
    refine XS.iadd X0.here hx rfl (hb hby d1_104) rfl ?_
    exact kt
  obtain ⟨da, hda⟩ : ∃ z : Int32, z = ((doy - ((((153 : Int32) * mp) + (2 : Int32)) / (5 : Int32))) + (1 : Int32)) := ⟨_, rfl⟩
  have ida : da.toInt = doy.toInt - (153 * mp.toInt + 2) / 5 + 1 := by rw [hda]; have := rng32 doy; have := rng32 mp; (first | (have : (((153 : Int32) * mp)).toInt = (153 : Int) * mp.toInt := (by have : ((((153 : Int32) * mp)).toInt - ((153 : Int) * mp.toInt)) % 4294967296 = 0 := c_imul (153 : Int32) mp; have := rng32 ((153 : Int32) * mp); omega)) | (have : ((((153 : Int32) * mp)).toInt - ((153 : Int) * mp.toInt)) % 4294967296 = 0 := c_imul (153 : Int32) mp; have := rng32 ((153 : Int32) * mp))); (first | (have : ((((153 : Int32) * mp) + (2 : Int32))).toInt = ((153 : Int32) * mp).toInt + (2 : Int) := (by have : (((((153 : Int32) * mp) + (2 : Int32))).toInt - (((153 : Int32) * mp).toInt + (2 : Int))) % 4294967296 = 0 := c_iadd ((153 : Int32) * mp) (2 : Int32); have := rng32 (((153 : Int32) * mp) + (2 : Int32)); omega)) | (have : (((((153 : Int32) * mp) + (2 : Int32))).toInt - (((153 : Int32) * mp).toInt + (2 : Int))) % 4294967296 = 0 := c_iadd ((153 : Int32) * mp) (2 : Int32); have := rng32 (((153 : Int32) * mp) + (2 : Int32)))); have := c_idiv (((153 : Int32) * mp) + (2 : Int32)) (5 : Int32) 5 (by decide) (by decide); (first | (have : ((doy - ((((153 : Int32) * mp) + (2 : Int32)) / (5 : Int32)))).toInt = doy.toInt - ((((153 : Int32) * mp) + (2 : Int32)) / (5 : Int32)).toInt := (by have : (((doy - ((((153 : Int32) * mp) + (2 : Int32)) / (5 : Int32)))).toInt - (doy.toInt - ((((153 : Int32) * mp) + (2 : Int32)) / (5 : Int32)).toInt)) % 4294967296 = 0 := c_isub doy ((((153 : Int32) * mp) + (2 : Int32)) / (5 : Int32)); have := rng32 (doy - ((((153 : Int32) * mp) + (2 : Int32)) / (5 : Int32))); omega)) | (have : (((doy - ((((153 : Int32) * mp) + (2 : Int32)) / (5 : Int32)))).toInt - (doy.toInt - ((((153 : Int32) * mp) + (2 : Int32)) / (5 : Int32)).toInt)) % 4294967296 = 0 := c_isub doy ((((153 : Int32) * mp) + (2 : Int32)) / (5 : Int32)); have := rng32 (doy - ((((153 : Int32) * mp) + (2 : Int32)) / (5 : Int32))))); (first | (have : (((doy - ((((153 : Int32) * mp) + (2 : Int32)) / (5 : Int32))) + (1 : Int32))).toInt = (doy - ((((153 : Int32) * mp) + (2 : Int32)) / (5 : Int32))).toInt + (1 : Int) := (by have : ((((doy - ((((153 : Int32) * mp) + (2 : Int32)) / (5 : Int32))) + (1 : Int32))).toInt - ((doy - ((((153 : Int32) * mp) + (2 : Int32)) / (5 : Int32))).toInt + (1 : Int))) % 4294967296 = 0 := c_iadd (doy - ((((153 : Int32) * mp) + (2 : Int32)) / (5 : Int32))) (1 : Int32); have := rng32 ((doy - ((((153 : Int32) * mp) + (2 : Int32)) / (5 : Int32))) + (1 : Int32)); omega)) | (have : ((((doy - ((((153 : Int32) * mp) + (2 : Int32)) / (5 : Int32))) + (1 : Int32))).toInt - ((doy - ((((153 : Int32) * mp) + (2 : Int32)) / (5 : Int32))).toInt + (1 : Int))) % 4294967296 = 0 := c_iadd (doy - ((((153 : Int32) * mp) + (2 : Int32)) / (5 : Int32))) (1 : Int32); have := rng32 ((doy - ((((153 : Int32) * mp) + (2 : Int32)) / (5 : Int32))) + (1 : Int32)))); omega
  have pre14 : ∀ t, Steps p.tables e below (s₁.setTop (mkF m 105 #[.val (.long qe), .second, .val (.ref ob), .val (.int vpl), .val (.long dys), .second, .val (.int era), .val (.int doe), .val (.int yoe), .val (.int doy), .val (.int mp), .unset, .unset, .unset] [(.int da)])) t → Steps p.tables e below (s₁.setTop (entryFrame m #[(.long qe), (.ref ob), (.int vpl)] 14)) t := by rw [hda]; exact pre13
  have pre15 : ∀ t, Steps p.tables e below (s₁.setTop (mkF m 107 #[.val (.long qe), .second, .val (.ref ob), .val (.int vpl), .val (.long dys), .second, .val (.int era), .val (.int doe), .val (.int yoe), .val (.int doy), .val (.int mp), .val (.int da), .unset, .unset] [])) t → Steps p.tables e below (s₁.setTop (entryFrame m #[(.long qe), (.ref ob), (.int vpl)] 14)) t := fun t kt => by
    refine pre14 _ ?_
    refine XS.istore X0.here hx rfl (hb hby d1_105) rfl (l' := #[.val (.long qe), .second, .val (.ref ob), .val (.int vpl), .val (.long dys), .second, .val (.int era), .val (.int doe), .val (.int yoe), .val (.int doy), .val (.int mp), .val (.int da), .unset, .unset]) rfl ?_
    exact kt
  obtain ⟨mo, hmo, pre20⟩ : ∃ mo : Int32, ((mp.toInt < 10 → mo.toInt = mp.toInt + 3) ∧ (¬ mp.toInt < 10 → mo.toInt = mp.toInt - 9)) ∧ ∀ t, Steps p.tables e below (s₁.setTop (mkF m 126 #[.val (.long qe), .second, .val (.ref ob), .val (.int vpl), .val (.long dys), .second, .val (.int era), .val (.int doe), .val (.int yoe), .val (.int doy), .val (.int mp), .val (.int da), .unset, .unset] [(.int mo)])) t → Steps p.tables e below (s₁.setTop (entryFrame m #[(.long qe), (.ref ob), (.int vpl)] 14)) t := by
    have pre17 : ∀ t, Steps p.tables e below (s₁.setTop (mkF m 111 #[.val (.long qe), .second, .val (.ref ob), .val (.int vpl), .val (.long dys), .second, .val (.int era), .val (.int doe), .val (.int yoe), .val (.int doy), .val (.int mp), .val (.int da), .unset, .unset] [(.int (10 : Int32)), (.int mp)])) t → Steps p.tables e below (s₁.setTop (entryFrame m #[(.long qe), (.ref ob), (.int vpl)] 14)) t := fun t kt => by
      refine pre15 _ ?_
      refine XS.iload X0.here hx rfl (hb hby d1_107) rfl ?_
      refine XS.bipush X0.here hx rfl (hb hby d1_109) ?_
      exact kt
    by_cases hc111_16 : mp.toInt < (10 : Int)
    · have pre18 : ∀ t, Steps p.tables e below (s₁.setTop (mkF m 126 #[.val (.long qe), .second, .val (.ref ob), .val (.int vpl), .val (.long dys), .second, .val (.int era), .val (.int doe), .val (.int yoe), .val (.int doy), .val (.int mp), .val (.int da), .unset, .unset] [(.int (mp + (3 : Int32)))])) t → Steps p.tables e below (s₁.setTop (entryFrame m #[(.long qe), (.ref ob), (.int vpl)] 14)) t := fun t kt => by
        refine pre17 _ ?_
        show Steps p.tables e below (s₁.setTop (mkF m 111 #[.val (.long qe), .second, .val (.ref ob), .val (.int vpl), .val (.long dys), .second, .val (.int era), .val (.int doe), .val (.int yoe), .val (.int doy), .val (.int mp), .val (.int da), .unset, .unset] [(.int (10 : Int32)), (.int mp)])) _
        refine XS.icmpNo X0.here hx rfl (hb hby d1_111) rfl (own_tlt (a := mp) (b := (10 : Int32)) rfl (by decide) hc111_16).2.1 ?_
        refine XS.iload X0.here hx rfl (hb hby d1_114) rfl ?_
        refine XS.iconst X0.here hx rfl (hb hby d1_116) ?_
        refine XS.iadd X0.here hx rfl (hb hby d1_117) rfl ?_
        show Steps p.tables e below (s₁.setTop (mkF m 118 #[.val (.long qe), .second, .val (.ref ob), .val (.int vpl), .val (.long dys), .second, .val (.int era), .val (.int doe), .val (.int yoe), .val (.int doy), .val (.int mp), .val (.int da), .unset, .unset] [(.int (mp + (3 : Int32)))])) _
        refine XS.goto X0.here hx rfl (pc0 := 118) (pc' := 126) rfl (hb hby d1_118) (by decide) (by decide) ?_
        exact kt
      exact ⟨(mp + (3 : Int32)), by have := rng32 mp; (first | (have : ((mp + (3 : Int32))).toInt = mp.toInt + (3 : Int) := (by have : (((mp + (3 : Int32))).toInt - (mp.toInt + (3 : Int))) % 4294967296 = 0 := c_iadd mp (3 : Int32); have := rng32 (mp + (3 : Int32)); omega)) | (have : (((mp + (3 : Int32))).toInt - (mp.toInt + (3 : Int))) % 4294967296 = 0 := c_iadd mp (3 : Int32); have := rng32 (mp + (3 : Int32)))); omega, pre18⟩
    · have pre19 : ∀ t, Steps p.tables e below (s₁.setTop (mkF m 126 #[.val (.long qe), .second, .val (.ref ob), .val (.int vpl), .val (.long dys), .second, .val (.int era), .val (.int doe), .val (.int yoe), .val (.int doy), .val (.int mp), .val (.int da), .unset, .unset] [(.int (mp - (9 : Int32)))])) t → Steps p.tables e below (s₁.setTop (entryFrame m #[(.long qe), (.ref ob), (.int vpl)] 14)) t := fun t kt => by
        refine pre17 _ ?_
        show Steps p.tables e below (s₁.setTop (mkF m 111 #[.val (.long qe), .second, .val (.ref ob), .val (.int vpl), .val (.long dys), .second, .val (.int era), .val (.int doe), .val (.int yoe), .val (.int doy), .val (.int mp), .val (.int da), .unset, .unset] [(.int (10 : Int32)), (.int mp)])) _
        refine XS.icmpYes X0.here hx rfl (pc0 := 111) (pc' := 121) rfl (hb hby d1_111) rfl (own_flt (a := mp) (b := (10 : Int32)) rfl (by decide) hc111_16).2.1 (by decide) (by decide) ?_
        refine XS.iload X0.here hx rfl (hb hby d1_121) rfl ?_
        refine XS.bipush X0.here hx rfl (hb hby d1_123) ?_
        refine XS.isub X0.here hx rfl (hb hby d1_125) rfl ?_
        exact kt
      exact ⟨(mp - (9 : Int32)), by have := rng32 mp; (first | (have : ((mp - (9 : Int32))).toInt = mp.toInt - (9 : Int) := (by have : (((mp - (9 : Int32))).toInt - (mp.toInt - (9 : Int))) % 4294967296 = 0 := c_isub mp (9 : Int32); have := rng32 (mp - (9 : Int32)); omega)) | (have : (((mp - (9 : Int32))).toInt - (mp.toInt - (9 : Int))) % 4294967296 = 0 := c_isub mp (9 : Int32); have := rng32 (mp - (9 : Int32)))); omega, pre19⟩
  have jmo : 1 ≤ mo.toInt ∧ mo.toInt ≤ 12 := by omega
  have pre21 : ∀ t, Steps p.tables e below (s₁.setTop (mkF m 137 #[.val (.long qe), .second, .val (.ref ob), .val (.int vpl), .val (.long dys), .second, .val (.int era), .val (.int doe), .val (.int yoe), .val (.int doy), .val (.int mp), .val (.int da), .val (.int mo), .unset] [(.int (((400 : Int32) * era) + yoe))])) t → Steps p.tables e below (s₁.setTop (entryFrame m #[(.long qe), (.ref ob), (.int vpl)] 14)) t := fun t kt => by
    refine pre20 _ ?_
    refine XS.istore X0.here hx rfl (hb hby d1_126) rfl (l' := #[.val (.long qe), .second, .val (.ref ob), .val (.int vpl), .val (.long dys), .second, .val (.int era), .val (.int doe), .val (.int yoe), .val (.int doy), .val (.int mp), .val (.int da), .val (.int mo), .unset]) rfl ?_
    refine XS.sipush X0.here hx rfl (hb hby d1_128) ?_
    show Steps p.tables e below (s₁.setTop (mkF m 131 #[.val (.long qe), .second, .val (.ref ob), .val (.int vpl), .val (.long dys), .second, .val (.int era), .val (.int doe), .val (.int yoe), .val (.int doy), .val (.int mp), .val (.int da), .val (.int mo), .unset] [(.int (400 : Int32))])) _
    refine XS.iload X0.here hx rfl (hb hby d1_131) rfl ?_
    refine XS.imul X0.here hx rfl (hb hby d1_133) rfl ?_
    refine XS.iload X0.here hx rfl (hb hby d1_134) rfl ?_
    refine XS.iadd X0.here hx rfl (hb hby d1_136) rfl ?_
    exact kt
  obtain ⟨bump, hbump, pre26⟩ : ∃ bump : Int32, ((mo.toInt ≤ 2 → bump.toInt = 1) ∧ (¬ mo.toInt ≤ 2 → bump.toInt = 0)) ∧ ∀ t, Steps p.tables e below (s₁.setTop (mkF m 148 #[.val (.long qe), .second, .val (.ref ob), .val (.int vpl), .val (.long dys), .second, .val (.int era), .val (.int doe), .val (.int yoe), .val (.int doy), .val (.int mp), .val (.int da), .val (.int mo), .unset] [(.int bump), (.int (((400 : Int32) * era) + yoe))])) t → Steps p.tables e below (s₁.setTop (entryFrame m #[(.long qe), (.ref ob), (.int vpl)] 14)) t := by
    have pre23 : ∀ t, Steps p.tables e below (s₁.setTop (mkF m 140 #[.val (.long qe), .second, .val (.ref ob), .val (.int vpl), .val (.long dys), .second, .val (.int era), .val (.int doe), .val (.int yoe), .val (.int doy), .val (.int mp), .val (.int da), .val (.int mo), .unset] [(.int (2 : Int32)), (.int mo), (.int (((400 : Int32) * era) + yoe))])) t → Steps p.tables e below (s₁.setTop (entryFrame m #[(.long qe), (.ref ob), (.int vpl)] 14)) t := fun t kt => by
      refine pre21 _ ?_
      refine XS.iload X0.here hx rfl (hb hby d1_137) rfl ?_
      show Steps p.tables e below (s₁.setTop (mkF m 139 #[.val (.long qe), .second, .val (.ref ob), .val (.int vpl), .val (.long dys), .second, .val (.int era), .val (.int doe), .val (.int yoe), .val (.int doy), .val (.int mp), .val (.int da), .val (.int mo), .unset] [(.int mo), (.int (((400 : Int32) * era) + yoe))])) _
      refine XS.iconst X0.here hx rfl (hb hby d1_139) ?_
      exact kt
    by_cases hc140_22 : (2 : Int) < mo.toInt
    · have pre24 : ∀ t, Steps p.tables e below (s₁.setTop (mkF m 148 #[.val (.long qe), .second, .val (.ref ob), .val (.int vpl), .val (.long dys), .second, .val (.int era), .val (.int doe), .val (.int yoe), .val (.int doy), .val (.int mp), .val (.int da), .val (.int mo), .unset] [(.int (0 : Int32)), (.int (((400 : Int32) * era) + yoe))])) t → Steps p.tables e below (s₁.setTop (entryFrame m #[(.long qe), (.ref ob), (.int vpl)] 14)) t := fun t kt => by
        refine pre23 _ ?_
        show Steps p.tables e below (s₁.setTop (mkF m 140 #[.val (.long qe), .second, .val (.ref ob), .val (.int vpl), .val (.long dys), .second, .val (.int era), .val (.int doe), .val (.int yoe), .val (.int doy), .val (.int mp), .val (.int da), .val (.int mo), .unset] [(.int (2 : Int32)), (.int mo), (.int (((400 : Int32) * era) + yoe))])) _
        refine XS.icmpYes X0.here hx rfl (pc0 := 140) (pc' := 147) rfl (hb hby d1_140) rfl (own_tlt (a := (2 : Int32)) (b := mo) (by decide) rfl hc140_22).2.2.1 (by decide) (by decide) ?_
        refine XS.iconst X0.here hx rfl (hb hby d1_147) ?_
        exact kt
      exact ⟨(0 : Int32), by have iv : ((0 : Int32)).toInt = (0 : Int) := (by decide); omega, pre24⟩
    · have pre25 : ∀ t, Steps p.tables e below (s₁.setTop (mkF m 148 #[.val (.long qe), .second, .val (.ref ob), .val (.int vpl), .val (.long dys), .second, .val (.int era), .val (.int doe), .val (.int yoe), .val (.int doy), .val (.int mp), .val (.int da), .val (.int mo), .unset] [(.int (1 : Int32)), (.int (((400 : Int32) * era) + yoe))])) t → Steps p.tables e below (s₁.setTop (entryFrame m #[(.long qe), (.ref ob), (.int vpl)] 14)) t := fun t kt => by
        refine pre23 _ ?_
        show Steps p.tables e below (s₁.setTop (mkF m 140 #[.val (.long qe), .second, .val (.ref ob), .val (.int vpl), .val (.long dys), .second, .val (.int era), .val (.int doe), .val (.int yoe), .val (.int doy), .val (.int mp), .val (.int da), .val (.int mo), .unset] [(.int (2 : Int32)), (.int mo), (.int (((400 : Int32) * era) + yoe))])) _
        refine XS.icmpNo X0.here hx rfl (hb hby d1_140) rfl (own_flt (a := (2 : Int32)) (b := mo) (by decide) rfl hc140_22).2.2.1 ?_
        refine XS.iconst X0.here hx rfl (hb hby d1_143) ?_
        refine XS.goto X0.here hx rfl (pc0 := 144) (pc' := 148) rfl (hb hby d1_144) (by decide) (by decide) ?_
        exact kt
      exact ⟨(1 : Int32), by have iv : ((1 : Int32)).toInt = (1 : Int) := (by decide); omega, pre25⟩
  have pre27 : ∀ t, Steps p.tables e below (s₁.setTop (mkF m 149 #[.val (.long qe), .second, .val (.ref ob), .val (.int vpl), .val (.long dys), .second, .val (.int era), .val (.int doe), .val (.int yoe), .val (.int doy), .val (.int mp), .val (.int da), .val (.int mo), .unset] [(.int ((((400 : Int32) * era) + yoe) + bump))])) t → Steps p.tables e below (s₁.setTop (entryFrame m #[(.long qe), (.ref ob), (.int vpl)] 14)) t := fun t kt => by
    refine pre26 _ ?_
    refine XS.iadd X0.here hx rfl (hb hby d1_148) rfl ?_
    exact kt
  obtain ⟨yy, hyy⟩ : ∃ z : Int32, z = ((((400 : Int32) * era) + yoe) + bump) := ⟨_, rfl⟩
  have iyy : yy.toInt = 400 * era.toInt + yoe.toInt + bump.toInt := by rw [hyy]; have := rng32 era; (first | (have : (((400 : Int32) * era)).toInt = (400 : Int) * era.toInt := (by have : ((((400 : Int32) * era)).toInt - ((400 : Int) * era.toInt)) % 4294967296 = 0 := c_imul (400 : Int32) era; have := rng32 ((400 : Int32) * era); omega)) | (have : ((((400 : Int32) * era)).toInt - ((400 : Int) * era.toInt)) % 4294967296 = 0 := c_imul (400 : Int32) era; have := rng32 ((400 : Int32) * era))); have := rng32 yoe; (first | (have : ((((400 : Int32) * era) + yoe)).toInt = ((400 : Int32) * era).toInt + yoe.toInt := (by have : (((((400 : Int32) * era) + yoe)).toInt - (((400 : Int32) * era).toInt + yoe.toInt)) % 4294967296 = 0 := c_iadd ((400 : Int32) * era) yoe; have := rng32 (((400 : Int32) * era) + yoe); omega)) | (have : (((((400 : Int32) * era) + yoe)).toInt - (((400 : Int32) * era).toInt + yoe.toInt)) % 4294967296 = 0 := c_iadd ((400 : Int32) * era) yoe; have := rng32 (((400 : Int32) * era) + yoe))); have := rng32 bump; (first | (have : (((((400 : Int32) * era) + yoe) + bump)).toInt = (((400 : Int32) * era) + yoe).toInt + bump.toInt := (by have : ((((((400 : Int32) * era) + yoe) + bump)).toInt - ((((400 : Int32) * era) + yoe).toInt + bump.toInt)) % 4294967296 = 0 := c_iadd (((400 : Int32) * era) + yoe) bump; have := rng32 ((((400 : Int32) * era) + yoe) + bump); omega)) | (have : ((((((400 : Int32) * era) + yoe) + bump)).toInt - ((((400 : Int32) * era) + yoe).toInt + bump.toInt)) % 4294967296 = 0 := c_iadd (((400 : Int32) * era) + yoe) bump; have := rng32 ((((400 : Int32) * era) + yoe) + bump))); omega
  have pre28 : ∀ t, Steps p.tables e below (s₁.setTop (mkF m 149 #[.val (.long qe), .second, .val (.ref ob), .val (.int vpl), .val (.long dys), .second, .val (.int era), .val (.int doe), .val (.int yoe), .val (.int doy), .val (.int mp), .val (.int da), .val (.int mo), .unset] [(.int yy)])) t → Steps p.tables e below (s₁.setTop (entryFrame m #[(.long qe), (.ref ob), (.int vpl)] 14)) t := by rw [hyy]; exact pre27
  have hciv : own_date qe.toInt yy.toInt mo.toInt da.toInt := own_civil qe.toInt dys.toInt era.toInt doe.toInt yoe.toInt doy.toInt mp.toInt da.toInt mo.toInt bump.toInt yy.toInt ie1 ie2 idys iera idoe iyoe idoy imp ida hmo.1 hmo.2 hbump.1 hbump.2 iyy
  have hcv := hciv
  obtain ⟨cv1, cv2, cv3, cv4, cv5, cv6, -⟩ := hcv
  have pre29 : ∀ t, Steps p.tables e below (s₁.setTop (mkF m 163 #[.val (.long qe), .second, .val (.ref ob), .val (.int vpl), .val (.long dys), .second, .val (.int era), .val (.int doe), .val (.int yoe), .val (.int doy), .val (.int mp), .val (.int da), .val (.int mo), .val (.int yy)] [(.int (((48 : Int32) + (yy / (1000 : Int32))).toInt8.toInt32)), (.int vpl), (.ref ob)])) t → Steps p.tables e below (s₁.setTop (entryFrame m #[(.long qe), (.ref ob), (.int vpl)] 14)) t := fun t kt => by
    refine pre28 _ ?_
    show Steps p.tables e below (s₁.setTop (mkF m 149 #[.val (.long qe), .second, .val (.ref ob), .val (.int vpl), .val (.long dys), .second, .val (.int era), .val (.int doe), .val (.int yoe), .val (.int doy), .val (.int mp), .val (.int da), .val (.int mo), .unset] [(.int yy)])) _
    refine XS.istore X0.here hx rfl (hb hby d1_149) rfl (l' := #[.val (.long qe), .second, .val (.ref ob), .val (.int vpl), .val (.long dys), .second, .val (.int era), .val (.int doe), .val (.int yoe), .val (.int doy), .val (.int mp), .val (.int da), .val (.int mo), .val (.int yy)]) rfl ?_
    refine XS.aloadN X0.here hx rfl (hb hby d1_151) rfl rfl ?_
    refine XS.iloadN X0.here hx rfl (hb hby d1_152) rfl ?_
    refine XS.bipush X0.here hx rfl (hb hby d1_153) ?_
    refine XS.iload X0.here hx rfl (hb hby d1_155) rfl ?_
    show Steps p.tables e below (s₁.setTop (mkF m 157 #[.val (.long qe), .second, .val (.ref ob), .val (.int vpl), .val (.long dys), .second, .val (.int era), .val (.int doe), .val (.int yoe), .val (.int doy), .val (.int mp), .val (.int da), .val (.int mo), .val (.int yy)] [(.int yy), (.int (48 : Int32)), (.int vpl), (.ref ob)])) _
    refine XS.sipush X0.here hx rfl (hb hby d1_157) ?_
    refine XS.idiv X0.here hx rfl (hb hby d1_160) rfl (by decide) ?_
    refine XS.iadd X0.here hx rfl (hb hby d1_161) rfl ?_
    refine XS.i2b X0.here hx rfl (hb hby d1_162) rfl ?_
    exact kt
  obtain ⟨c0, hc0⟩ : ∃ z : Int32, z = (((48 : Int32) + (yy / (1000 : Int32))).toInt8.toInt32) := ⟨_, rfl⟩
  have ic0 : c0.toInt = 48 + yy.toInt / 1000 := by rw [hc0]; have := rng32 yy; have := c_idiv yy (1000 : Int32) 1000 (by decide) (by decide); (first | (have : (((48 : Int32) + (yy / (1000 : Int32)))).toInt = (48 : Int) + (yy / (1000 : Int32)).toInt := (by have : ((((48 : Int32) + (yy / (1000 : Int32)))).toInt - ((48 : Int) + (yy / (1000 : Int32)).toInt)) % 4294967296 = 0 := c_iadd (48 : Int32) (yy / (1000 : Int32)); have := rng32 ((48 : Int32) + (yy / (1000 : Int32))); omega)) | (have : ((((48 : Int32) + (yy / (1000 : Int32)))).toInt - ((48 : Int) + (yy / (1000 : Int32)).toInt)) % 4294967296 = 0 := c_iadd (48 : Int32) (yy / (1000 : Int32)); have := rng32 ((48 : Int32) + (yy / (1000 : Int32))))); (first | (have : ((((48 : Int32) + (yy / (1000 : Int32))).toInt8.toInt32)).toInt = ((48 : Int32) + (yy / (1000 : Int32))).toInt := (by have := c_i2b ((48 : Int32) + (yy / (1000 : Int32))); omega)) | (have := c_i2b ((48 : Int32) + (yy / (1000 : Int32))))); omega
  have pre30 : ∀ t, Steps p.tables e below (s₁.setTop (mkF m 163 #[.val (.long qe), .second, .val (.ref ob), .val (.int vpl), .val (.long dys), .second, .val (.int era), .val (.int doe), .val (.int yoe), .val (.int doy), .val (.int mp), .val (.int da), .val (.int mo), .val (.int yy)] [(.int c0), (.int vpl), (.ref ob)])) t → Steps p.tables e below (s₁.setTop (entryFrame m #[(.long qe), (.ref ob), (.int vpl)] 14)) t := by rw [hc0]; exact pre29
  obtain ⟨cl31, Ar31, q31, S31, M31, H31, G31⟩ := id Vb
  have hin31 : ¬ (vpl < 0 ∨ cl31.slots.size ≤ (vpl).toNatClampNeg) := inb_of S31 ⟨by rw [Int32.lt_iff_toInt_lt]; have k0 : (0 : Int32).toInt = 0 := (by decide); have := rng32 vpl; omega, by rw [Int32.lt_iff_toInt_lt]; have k0 : (14 : Int32).toInt = 14 := (by decide); have := rng32 vpl; omega⟩
  obtain ⟨T32, h32, X32, e32, W32, st32⟩ := stB X0 hx hZ e0 Ar31 (j := vpl) hin31 (g := (mkF m 163 #[.val (.long qe), .second, .val (.ref ob), .val (.int vpl), .val (.long dys), .second, .val (.int era), .val (.int doe), .val (.int yoe), .val (.int doy), .val (.int mp), .val (.int da), .val (.int mo), .val (.int yy)] [(.int c0), (.int vpl), (.ref ob)])) rfl rfl (hb hby d1_163)
  have N32 := Fr.snoc X32 N0 gb
  have Zs33 : n0 ≤ h32.size := by rw [W32.size]; exact Z0
  have V32 : Arv Z h32 ob kk .byte (14 : Int32) (vs.set pn (.int (nar .byte c0))) (.int (0 : Int32)) := Arv.set Ar31 q31 S31 M31 H31 G31 (fits_nar_byte _) W32 pn (own_nat (by push_cast; have := rng32 vpl; omega)) (by (try simp only [List.length_set]); omega)
  have pre34 : ∀ t, Steps p.tables e below (T32.setTop (mkF m 180 #[.val (.long qe), .second, .val (.ref ob), .val (.int vpl), .val (.long dys), .second, .val (.int era), .val (.int doe), .val (.int yoe), .val (.int doy), .val (.int mp), .val (.int da), .val (.int mo), .val (.int yy)] [(.int (((48 : Int32) + ((yy / (100 : Int32)) % (10 : Int32))).toInt8.toInt32)), (.int (vpl + (1 : Int32))), (.ref ob)])) t → Steps p.tables e below (s₁.setTop (entryFrame m #[(.long qe), (.ref ob), (.int vpl)] 14)) t := fun t kt => by
    refine pre30 _ ?_
    refine st32 _ ?_
    show Steps p.tables e below (T32.setTop (mkF m 164 #[.val (.long qe), .second, .val (.ref ob), .val (.int vpl), .val (.long dys), .second, .val (.int era), .val (.int doe), .val (.int yoe), .val (.int doy), .val (.int mp), .val (.int da), .val (.int mo), .val (.int yy)] [])) _
    refine XS.aloadN X32.here hx rfl (hb hby d1_164) rfl rfl ?_
    refine XS.iloadN X32.here hx rfl (hb hby d1_165) rfl ?_
    refine XS.iconst X32.here hx rfl (hb hby d1_166) ?_
    refine XS.iadd X32.here hx rfl (hb hby d1_167) rfl ?_
    refine XS.bipush X32.here hx rfl (hb hby d1_168) ?_
    show Steps p.tables e below (T32.setTop (mkF m 170 #[.val (.long qe), .second, .val (.ref ob), .val (.int vpl), .val (.long dys), .second, .val (.int era), .val (.int doe), .val (.int yoe), .val (.int doy), .val (.int mp), .val (.int da), .val (.int mo), .val (.int yy)] [(.int (48 : Int32)), (.int (vpl + (1 : Int32))), (.ref ob)])) _
    refine XS.iload X32.here hx rfl (hb hby d1_170) rfl ?_
    refine XS.bipush X32.here hx rfl (hb hby d1_172) ?_
    refine XS.idiv X32.here hx rfl (hb hby d1_174) rfl (by decide) ?_
    refine XS.bipush X32.here hx rfl (hb hby d1_175) ?_
    refine iremM X32 hx rfl (hb hby d1_177) rfl (by decide) ?_
    show Steps p.tables e below (T32.setTop (mkF m 178 #[.val (.long qe), .second, .val (.ref ob), .val (.int vpl), .val (.long dys), .second, .val (.int era), .val (.int doe), .val (.int yoe), .val (.int doy), .val (.int mp), .val (.int da), .val (.int mo), .val (.int yy)] [(.int ((yy / (100 : Int32)) % (10 : Int32))), (.int (48 : Int32)), (.int (vpl + (1 : Int32))), (.ref ob)])) _
    refine XS.iadd X32.here hx rfl (hb hby d1_178) rfl ?_
    refine XS.i2b X32.here hx rfl (hb hby d1_179) rfl ?_
    exact kt
  obtain ⟨c1, hc1⟩ : ∃ z : Int32, z = (((48 : Int32) + ((yy / (100 : Int32)) % (10 : Int32))).toInt8.toInt32) := ⟨_, rfl⟩
  have ic1 : c1.toInt = 48 + yy.toInt / 100 % 10 := by rw [hc1]; have := rng32 yy; have := c_idiv yy (100 : Int32) 100 (by decide) (by decide); have := c_irem (yy / (100 : Int32)) (10 : Int32) 10 (by decide); (first | (have : (((48 : Int32) + ((yy / (100 : Int32)) % (10 : Int32)))).toInt = (48 : Int) + ((yy / (100 : Int32)) % (10 : Int32)).toInt := (by have : ((((48 : Int32) + ((yy / (100 : Int32)) % (10 : Int32)))).toInt - ((48 : Int) + ((yy / (100 : Int32)) % (10 : Int32)).toInt)) % 4294967296 = 0 := c_iadd (48 : Int32) ((yy / (100 : Int32)) % (10 : Int32)); have := rng32 ((48 : Int32) + ((yy / (100 : Int32)) % (10 : Int32))); omega)) | (have : ((((48 : Int32) + ((yy / (100 : Int32)) % (10 : Int32)))).toInt - ((48 : Int) + ((yy / (100 : Int32)) % (10 : Int32)).toInt)) % 4294967296 = 0 := c_iadd (48 : Int32) ((yy / (100 : Int32)) % (10 : Int32)); have := rng32 ((48 : Int32) + ((yy / (100 : Int32)) % (10 : Int32))))); (first | (have : ((((48 : Int32) + ((yy / (100 : Int32)) % (10 : Int32))).toInt8.toInt32)).toInt = ((48 : Int32) + ((yy / (100 : Int32)) % (10 : Int32))).toInt := (by have := c_i2b ((48 : Int32) + ((yy / (100 : Int32)) % (10 : Int32))); omega)) | (have := c_i2b ((48 : Int32) + ((yy / (100 : Int32)) % (10 : Int32))))); omega
  have pre35 : ∀ t, Steps p.tables e below (T32.setTop (mkF m 180 #[.val (.long qe), .second, .val (.ref ob), .val (.int vpl), .val (.long dys), .second, .val (.int era), .val (.int doe), .val (.int yoe), .val (.int doy), .val (.int mp), .val (.int da), .val (.int mo), .val (.int yy)] [(.int c1), (.int (vpl + (1 : Int32))), (.ref ob)])) t → Steps p.tables e below (s₁.setTop (entryFrame m #[(.long qe), (.ref ob), (.int vpl)] 14)) t := by rw [hc1]; exact pre34
  obtain ⟨cl36, Ar36, q36, S36, M36, H36, G36⟩ := id V32
  have hin36 : ¬ ((vpl + (1 : Int32)) < 0 ∨ cl36.slots.size ≤ ((vpl + (1 : Int32))).toNatClampNeg) := inb_of S36 ⟨by rw [Int32.lt_iff_toInt_lt]; have k0 : (0 : Int32).toInt = 0 := (by decide); have := rng32 vpl; (first | (have : ((vpl + (1 : Int32))).toInt = vpl.toInt + (1 : Int) := (by have : (((vpl + (1 : Int32))).toInt - (vpl.toInt + (1 : Int))) % 4294967296 = 0 := c_iadd vpl (1 : Int32); have := rng32 (vpl + (1 : Int32)); omega)) | (have : (((vpl + (1 : Int32))).toInt - (vpl.toInt + (1 : Int))) % 4294967296 = 0 := c_iadd vpl (1 : Int32); have := rng32 (vpl + (1 : Int32)))); omega, by rw [Int32.lt_iff_toInt_lt]; have k0 : (14 : Int32).toInt = 14 := (by decide); have := rng32 vpl; (first | (have : ((vpl + (1 : Int32))).toInt = vpl.toInt + (1 : Int) := (by have : (((vpl + (1 : Int32))).toInt - (vpl.toInt + (1 : Int))) % 4294967296 = 0 := c_iadd vpl (1 : Int32); have := rng32 (vpl + (1 : Int32)); omega)) | (have : (((vpl + (1 : Int32))).toInt - (vpl.toInt + (1 : Int))) % 4294967296 = 0 := c_iadd vpl (1 : Int32); have := rng32 (vpl + (1 : Int32)))); omega⟩
  obtain ⟨T37, h37, X37, e37, W37, st37⟩ := stB X32 hx hZ e32 Ar36 (j := (vpl + (1 : Int32))) hin36 (g := (mkF m 180 #[.val (.long qe), .second, .val (.ref ob), .val (.int vpl), .val (.long dys), .second, .val (.int era), .val (.int doe), .val (.int yoe), .val (.int doy), .val (.int mp), .val (.int da), .val (.int mo), .val (.int yy)] [(.int c1), (.int (vpl + (1 : Int32))), (.ref ob)])) rfl rfl (hb hby d1_180)
  have N37 := Fr.snoc X37 N32 gb
  have Zs38 : n0 ≤ h37.size := by rw [W37.size]; exact Zs33
  have V37 : Arv Z h37 ob kk .byte (14 : Int32) ((vs.set pn (.int (nar .byte c0))).set (pn + 1) (.int (nar .byte c1))) (.int (0 : Int32)) := Arv.set Ar36 q36 S36 M36 H36 G36 (fits_nar_byte _) W37 (pn + 1) (own_nat (by push_cast; have := rng32 vpl; (first | (have : ((vpl + (1 : Int32))).toInt = vpl.toInt + (1 : Int) := (by have : (((vpl + (1 : Int32))).toInt - (vpl.toInt + (1 : Int))) % 4294967296 = 0 := c_iadd vpl (1 : Int32); have := rng32 (vpl + (1 : Int32)); omega)) | (have : (((vpl + (1 : Int32))).toInt - (vpl.toInt + (1 : Int))) % 4294967296 = 0 := c_iadd vpl (1 : Int32); have := rng32 (vpl + (1 : Int32)))); omega)) (by (try simp only [List.length_set]); omega)
  have pre39 : ∀ t, Steps p.tables e below (T37.setTop (mkF m 197 #[.val (.long qe), .second, .val (.ref ob), .val (.int vpl), .val (.long dys), .second, .val (.int era), .val (.int doe), .val (.int yoe), .val (.int doy), .val (.int mp), .val (.int da), .val (.int mo), .val (.int yy)] [(.int (((48 : Int32) + ((yy / (10 : Int32)) % (10 : Int32))).toInt8.toInt32)), (.int (vpl + (2 : Int32))), (.ref ob)])) t → Steps p.tables e below (s₁.setTop (entryFrame m #[(.long qe), (.ref ob), (.int vpl)] 14)) t := fun t kt => by
    refine pre35 _ ?_
    refine st37 _ ?_
    refine XS.aloadN X37.here hx rfl (hb hby d1_181) rfl rfl ?_
    refine XS.iloadN X37.here hx rfl (hb hby d1_182) rfl ?_
    show Steps p.tables e below (T37.setTop (mkF m 183 #[.val (.long qe), .second, .val (.ref ob), .val (.int vpl), .val (.long dys), .second, .val (.int era), .val (.int doe), .val (.int yoe), .val (.int doy), .val (.int mp), .val (.int da), .val (.int mo), .val (.int yy)] [(.int vpl), (.ref ob)])) _
    refine XS.iconst X37.here hx rfl (hb hby d1_183) ?_
    refine XS.iadd X37.here hx rfl (hb hby d1_184) rfl ?_
    refine XS.bipush X37.here hx rfl (hb hby d1_185) ?_
    refine XS.iload X37.here hx rfl (hb hby d1_187) rfl ?_
    refine XS.bipush X37.here hx rfl (hb hby d1_189) ?_
    show Steps p.tables e below (T37.setTop (mkF m 191 #[.val (.long qe), .second, .val (.ref ob), .val (.int vpl), .val (.long dys), .second, .val (.int era), .val (.int doe), .val (.int yoe), .val (.int doy), .val (.int mp), .val (.int da), .val (.int mo), .val (.int yy)] [(.int (10 : Int32)), (.int yy), (.int (48 : Int32)), (.int (vpl + (2 : Int32))), (.ref ob)])) _
    refine XS.idiv X37.here hx rfl (hb hby d1_191) rfl (by decide) ?_
    refine XS.bipush X37.here hx rfl (hb hby d1_192) ?_
    refine iremM X37 hx rfl (hb hby d1_194) rfl (by decide) ?_
    refine XS.iadd X37.here hx rfl (hb hby d1_195) rfl ?_
    refine XS.i2b X37.here hx rfl (hb hby d1_196) rfl ?_
    exact kt
  obtain ⟨c2, hc2⟩ : ∃ z : Int32, z = (((48 : Int32) + ((yy / (10 : Int32)) % (10 : Int32))).toInt8.toInt32) := ⟨_, rfl⟩
  have ic2 : c2.toInt = 48 + yy.toInt / 10 % 10 := by rw [hc2]; have := rng32 yy; have := c_idiv yy (10 : Int32) 10 (by decide) (by decide); have := c_irem (yy / (10 : Int32)) (10 : Int32) 10 (by decide); (first | (have : (((48 : Int32) + ((yy / (10 : Int32)) % (10 : Int32)))).toInt = (48 : Int) + ((yy / (10 : Int32)) % (10 : Int32)).toInt := (by have : ((((48 : Int32) + ((yy / (10 : Int32)) % (10 : Int32)))).toInt - ((48 : Int) + ((yy / (10 : Int32)) % (10 : Int32)).toInt)) % 4294967296 = 0 := c_iadd (48 : Int32) ((yy / (10 : Int32)) % (10 : Int32)); have := rng32 ((48 : Int32) + ((yy / (10 : Int32)) % (10 : Int32))); omega)) | (have : ((((48 : Int32) + ((yy / (10 : Int32)) % (10 : Int32)))).toInt - ((48 : Int) + ((yy / (10 : Int32)) % (10 : Int32)).toInt)) % 4294967296 = 0 := c_iadd (48 : Int32) ((yy / (10 : Int32)) % (10 : Int32)); have := rng32 ((48 : Int32) + ((yy / (10 : Int32)) % (10 : Int32))))); (first | (have : ((((48 : Int32) + ((yy / (10 : Int32)) % (10 : Int32))).toInt8.toInt32)).toInt = ((48 : Int32) + ((yy / (10 : Int32)) % (10 : Int32))).toInt := (by have := c_i2b ((48 : Int32) + ((yy / (10 : Int32)) % (10 : Int32))); omega)) | (have := c_i2b ((48 : Int32) + ((yy / (10 : Int32)) % (10 : Int32))))); omega
  have pre40 : ∀ t, Steps p.tables e below (T37.setTop (mkF m 197 #[.val (.long qe), .second, .val (.ref ob), .val (.int vpl), .val (.long dys), .second, .val (.int era), .val (.int doe), .val (.int yoe), .val (.int doy), .val (.int mp), .val (.int da), .val (.int mo), .val (.int yy)] [(.int c2), (.int (vpl + (2 : Int32))), (.ref ob)])) t → Steps p.tables e below (s₁.setTop (entryFrame m #[(.long qe), (.ref ob), (.int vpl)] 14)) t := by rw [hc2]; exact pre39
  obtain ⟨cl41, Ar41, q41, S41, M41, H41, G41⟩ := id V37
  have hin41 : ¬ ((vpl + (2 : Int32)) < 0 ∨ cl41.slots.size ≤ ((vpl + (2 : Int32))).toNatClampNeg) := inb_of S41 ⟨by rw [Int32.lt_iff_toInt_lt]; have k0 : (0 : Int32).toInt = 0 := (by decide); have := rng32 vpl; (first | (have : ((vpl + (2 : Int32))).toInt = vpl.toInt + (2 : Int) := (by have : (((vpl + (2 : Int32))).toInt - (vpl.toInt + (2 : Int))) % 4294967296 = 0 := c_iadd vpl (2 : Int32); have := rng32 (vpl + (2 : Int32)); omega)) | (have : (((vpl + (2 : Int32))).toInt - (vpl.toInt + (2 : Int))) % 4294967296 = 0 := c_iadd vpl (2 : Int32); have := rng32 (vpl + (2 : Int32)))); omega, by rw [Int32.lt_iff_toInt_lt]; have k0 : (14 : Int32).toInt = 14 := (by decide); have := rng32 vpl; (first | (have : ((vpl + (2 : Int32))).toInt = vpl.toInt + (2 : Int) := (by have : (((vpl + (2 : Int32))).toInt - (vpl.toInt + (2 : Int))) % 4294967296 = 0 := c_iadd vpl (2 : Int32); have := rng32 (vpl + (2 : Int32)); omega)) | (have : (((vpl + (2 : Int32))).toInt - (vpl.toInt + (2 : Int))) % 4294967296 = 0 := c_iadd vpl (2 : Int32); have := rng32 (vpl + (2 : Int32)))); omega⟩
  obtain ⟨T42, h42, X42, e42, W42, st42⟩ := stB X37 hx hZ e37 Ar41 (j := (vpl + (2 : Int32))) hin41 (g := (mkF m 197 #[.val (.long qe), .second, .val (.ref ob), .val (.int vpl), .val (.long dys), .second, .val (.int era), .val (.int doe), .val (.int yoe), .val (.int doy), .val (.int mp), .val (.int da), .val (.int mo), .val (.int yy)] [(.int c2), (.int (vpl + (2 : Int32))), (.ref ob)])) rfl rfl (hb hby d1_197)
  have N42 := Fr.snoc X42 N37 gb
  have Zs43 : n0 ≤ h42.size := by rw [W42.size]; exact Zs38
  have V42 : Arv Z h42 ob kk .byte (14 : Int32) (((vs.set pn (.int (nar .byte c0))).set (pn + 1) (.int (nar .byte c1))).set (pn + 2) (.int (nar .byte c2))) (.int (0 : Int32)) := Arv.set Ar41 q41 S41 M41 H41 G41 (fits_nar_byte _) W42 (pn + 2) (own_nat (by push_cast; have := rng32 vpl; (first | (have : ((vpl + (2 : Int32))).toInt = vpl.toInt + (2 : Int) := (by have : (((vpl + (2 : Int32))).toInt - (vpl.toInt + (2 : Int))) % 4294967296 = 0 := c_iadd vpl (2 : Int32); have := rng32 (vpl + (2 : Int32)); omega)) | (have : (((vpl + (2 : Int32))).toInt - (vpl.toInt + (2 : Int))) % 4294967296 = 0 := c_iadd vpl (2 : Int32); have := rng32 (vpl + (2 : Int32)))); omega)) (by (try simp only [List.length_set]); omega)
  have pre44 : ∀ t, Steps p.tables e below (T42.setTop (mkF m 211 #[.val (.long qe), .second, .val (.ref ob), .val (.int vpl), .val (.long dys), .second, .val (.int era), .val (.int doe), .val (.int yoe), .val (.int doy), .val (.int mp), .val (.int da), .val (.int mo), .val (.int yy)] [(.int (((48 : Int32) + (yy % (10 : Int32))).toInt8.toInt32)), (.int (vpl + (3 : Int32))), (.ref ob)])) t → Steps p.tables e below (s₁.setTop (entryFrame m #[(.long qe), (.ref ob), (.int vpl)] 14)) t := fun t kt => by
    refine pre40 _ ?_
    show Steps p.tables e below (T37.setTop (mkF m 197 #[.val (.long qe), .second, .val (.ref ob), .val (.int vpl), .val (.long dys), .second, .val (.int era), .val (.int doe), .val (.int yoe), .val (.int doy), .val (.int mp), .val (.int da), .val (.int mo), .val (.int yy)] [(.int c2), (.int (vpl + (2 : Int32))), (.ref ob)])) _
    refine st42 _ ?_
    refine XS.aloadN X42.here hx rfl (hb hby d1_198) rfl rfl ?_
    refine XS.iloadN X42.here hx rfl (hb hby d1_199) rfl ?_
    refine XS.iconst X42.here hx rfl (hb hby d1_200) ?_
    refine XS.iadd X42.here hx rfl (hb hby d1_201) rfl ?_
    show Steps p.tables e below (T42.setTop (mkF m 202 #[.val (.long qe), .second, .val (.ref ob), .val (.int vpl), .val (.long dys), .second, .val (.int era), .val (.int doe), .val (.int yoe), .val (.int doy), .val (.int mp), .val (.int da), .val (.int mo), .val (.int yy)] [(.int (vpl + (3 : Int32))), (.ref ob)])) _
    refine XS.bipush X42.here hx rfl (hb hby d1_202) ?_
    refine XS.iload X42.here hx rfl (hb hby d1_204) rfl ?_
    refine XS.bipush X42.here hx rfl (hb hby d1_206) ?_
    refine iremM X42 hx rfl (hb hby d1_208) rfl (by decide) ?_
    refine XS.iadd X42.here hx rfl (hb hby d1_209) rfl ?_
    show Steps p.tables e below (T42.setTop (mkF m 210 #[.val (.long qe), .second, .val (.ref ob), .val (.int vpl), .val (.long dys), .second, .val (.int era), .val (.int doe), .val (.int yoe), .val (.int doy), .val (.int mp), .val (.int da), .val (.int mo), .val (.int yy)] [(.int ((48 : Int32) + (yy % (10 : Int32)))), (.int (vpl + (3 : Int32))), (.ref ob)])) _
    refine XS.i2b X42.here hx rfl (hb hby d1_210) rfl ?_
    exact kt
  obtain ⟨c3, hc3⟩ : ∃ z : Int32, z = (((48 : Int32) + (yy % (10 : Int32))).toInt8.toInt32) := ⟨_, rfl⟩
  have ic3 : c3.toInt = 48 + yy.toInt % 10 := by rw [hc3]; have := rng32 yy; have := c_irem yy (10 : Int32) 10 (by decide); (first | (have : (((48 : Int32) + (yy % (10 : Int32)))).toInt = (48 : Int) + (yy % (10 : Int32)).toInt := (by have : ((((48 : Int32) + (yy % (10 : Int32)))).toInt - ((48 : Int) + (yy % (10 : Int32)).toInt)) % 4294967296 = 0 := c_iadd (48 : Int32) (yy % (10 : Int32)); have := rng32 ((48 : Int32) + (yy % (10 : Int32))); omega)) | (have : ((((48 : Int32) + (yy % (10 : Int32)))).toInt - ((48 : Int) + (yy % (10 : Int32)).toInt)) % 4294967296 = 0 := c_iadd (48 : Int32) (yy % (10 : Int32)); have := rng32 ((48 : Int32) + (yy % (10 : Int32))))); (first | (have : ((((48 : Int32) + (yy % (10 : Int32))).toInt8.toInt32)).toInt = ((48 : Int32) + (yy % (10 : Int32))).toInt := (by have := c_i2b ((48 : Int32) + (yy % (10 : Int32))); omega)) | (have := c_i2b ((48 : Int32) + (yy % (10 : Int32))))); omega
  have pre45 : ∀ t, Steps p.tables e below (T42.setTop (mkF m 211 #[.val (.long qe), .second, .val (.ref ob), .val (.int vpl), .val (.long dys), .second, .val (.int era), .val (.int doe), .val (.int yoe), .val (.int doy), .val (.int mp), .val (.int da), .val (.int mo), .val (.int yy)] [(.int c3), (.int (vpl + (3 : Int32))), (.ref ob)])) t → Steps p.tables e below (s₁.setTop (entryFrame m #[(.long qe), (.ref ob), (.int vpl)] 14)) t := by rw [hc3]; exact pre44
  obtain ⟨cl46, Ar46, q46, S46, M46, H46, G46⟩ := id V42
  have hin46 : ¬ ((vpl + (3 : Int32)) < 0 ∨ cl46.slots.size ≤ ((vpl + (3 : Int32))).toNatClampNeg) := inb_of S46 ⟨by rw [Int32.lt_iff_toInt_lt]; have k0 : (0 : Int32).toInt = 0 := (by decide); have := rng32 vpl; (first | (have : ((vpl + (3 : Int32))).toInt = vpl.toInt + (3 : Int) := (by have : (((vpl + (3 : Int32))).toInt - (vpl.toInt + (3 : Int))) % 4294967296 = 0 := c_iadd vpl (3 : Int32); have := rng32 (vpl + (3 : Int32)); omega)) | (have : (((vpl + (3 : Int32))).toInt - (vpl.toInt + (3 : Int))) % 4294967296 = 0 := c_iadd vpl (3 : Int32); have := rng32 (vpl + (3 : Int32)))); omega, by rw [Int32.lt_iff_toInt_lt]; have k0 : (14 : Int32).toInt = 14 := (by decide); have := rng32 vpl; (first | (have : ((vpl + (3 : Int32))).toInt = vpl.toInt + (3 : Int) := (by have : (((vpl + (3 : Int32))).toInt - (vpl.toInt + (3 : Int))) % 4294967296 = 0 := c_iadd vpl (3 : Int32); have := rng32 (vpl + (3 : Int32)); omega)) | (have : (((vpl + (3 : Int32))).toInt - (vpl.toInt + (3 : Int))) % 4294967296 = 0 := c_iadd vpl (3 : Int32); have := rng32 (vpl + (3 : Int32)))); omega⟩
  obtain ⟨T47, h47, X47, e47, W47, st47⟩ := stB X42 hx hZ e42 Ar46 (j := (vpl + (3 : Int32))) hin46 (g := (mkF m 211 #[.val (.long qe), .second, .val (.ref ob), .val (.int vpl), .val (.long dys), .second, .val (.int era), .val (.int doe), .val (.int yoe), .val (.int doy), .val (.int mp), .val (.int da), .val (.int mo), .val (.int yy)] [(.int c3), (.int (vpl + (3 : Int32))), (.ref ob)])) rfl rfl (hb hby d1_211)
  have N47 := Fr.snoc X47 N42 gb
  have Zs48 : n0 ≤ h47.size := by rw [W47.size]; exact Zs43
  have V47 : Arv Z h47 ob kk .byte (14 : Int32) ((((vs.set pn (.int (nar .byte c0))).set (pn + 1) (.int (nar .byte c1))).set (pn + 2) (.int (nar .byte c2))).set (pn + 3) (.int (nar .byte c3))) (.int (0 : Int32)) := Arv.set Ar46 q46 S46 M46 H46 G46 (fits_nar_byte _) W47 (pn + 3) (own_nat (by push_cast; have := rng32 vpl; (first | (have : ((vpl + (3 : Int32))).toInt = vpl.toInt + (3 : Int) := (by have : (((vpl + (3 : Int32))).toInt - (vpl.toInt + (3 : Int))) % 4294967296 = 0 := c_iadd vpl (3 : Int32); have := rng32 (vpl + (3 : Int32)); omega)) | (have : (((vpl + (3 : Int32))).toInt - (vpl.toInt + (3 : Int))) % 4294967296 = 0 := c_iadd vpl (3 : Int32); have := rng32 (vpl + (3 : Int32)))); omega)) (by (try simp only [List.length_set]); omega)
  obtain ⟨cl49, Ar49, q49, S49, M49, H49, G49⟩ := id V47
  have hin49 : ¬ ((vpl + (4 : Int32)) < 0 ∨ cl49.slots.size ≤ ((vpl + (4 : Int32))).toNatClampNeg) := inb_of S49 ⟨by rw [Int32.lt_iff_toInt_lt]; have k0 : (0 : Int32).toInt = 0 := (by decide); have := rng32 vpl; (first | (have : ((vpl + (4 : Int32))).toInt = vpl.toInt + (4 : Int) := (by have : (((vpl + (4 : Int32))).toInt - (vpl.toInt + (4 : Int))) % 4294967296 = 0 := c_iadd vpl (4 : Int32); have := rng32 (vpl + (4 : Int32)); omega)) | (have : (((vpl + (4 : Int32))).toInt - (vpl.toInt + (4 : Int))) % 4294967296 = 0 := c_iadd vpl (4 : Int32); have := rng32 (vpl + (4 : Int32)))); omega, by rw [Int32.lt_iff_toInt_lt]; have k0 : (14 : Int32).toInt = 14 := (by decide); have := rng32 vpl; (first | (have : ((vpl + (4 : Int32))).toInt = vpl.toInt + (4 : Int) := (by have : (((vpl + (4 : Int32))).toInt - (vpl.toInt + (4 : Int))) % 4294967296 = 0 := c_iadd vpl (4 : Int32); have := rng32 (vpl + (4 : Int32)); omega)) | (have : (((vpl + (4 : Int32))).toInt - (vpl.toInt + (4 : Int))) % 4294967296 = 0 := c_iadd vpl (4 : Int32); have := rng32 (vpl + (4 : Int32)))); omega⟩
  obtain ⟨T50, h50, X50, e50, W50, st50⟩ := stB X47 hx hZ e47 Ar49 (j := (vpl + (4 : Int32))) hin49 (g := (mkF m 218 #[.val (.long qe), .second, .val (.ref ob), .val (.int vpl), .val (.long dys), .second, .val (.int era), .val (.int doe), .val (.int yoe), .val (.int doy), .val (.int mp), .val (.int da), .val (.int mo), .val (.int yy)] [(.int (45 : Int32)), (.int (vpl + (4 : Int32))), (.ref ob)])) rfl rfl (hb hby d1_218)
  have N50 := Fr.snoc X50 N47 gb
  have Zs51 : n0 ≤ h50.size := by rw [W50.size]; exact Zs48
  have V50 : Arv Z h50 ob kk .byte (14 : Int32) (((((vs.set pn (.int (nar .byte c0))).set (pn + 1) (.int (nar .byte c1))).set (pn + 2) (.int (nar .byte c2))).set (pn + 3) (.int (nar .byte c3))).set (pn + 4) (.int (nar .byte (45 : Int32)))) (.int (0 : Int32)) := Arv.set Ar49 q49 S49 M49 H49 G49 (fits_nar_byte _) W50 (pn + 4) (own_nat (by push_cast; have := rng32 vpl; (first | (have : ((vpl + (4 : Int32))).toInt = vpl.toInt + (4 : Int) := (by have : (((vpl + (4 : Int32))).toInt - (vpl.toInt + (4 : Int))) % 4294967296 = 0 := c_iadd vpl (4 : Int32); have := rng32 (vpl + (4 : Int32)); omega)) | (have : (((vpl + (4 : Int32))).toInt - (vpl.toInt + (4 : Int))) % 4294967296 = 0 := c_iadd vpl (4 : Int32); have := rng32 (vpl + (4 : Int32)))); omega)) (by (try simp only [List.length_set]); omega)
  have pre52 : ∀ t, Steps p.tables e below (T50.setTop (mkF m 232 #[.val (.long qe), .second, .val (.ref ob), .val (.int vpl), .val (.long dys), .second, .val (.int era), .val (.int doe), .val (.int yoe), .val (.int doy), .val (.int mp), .val (.int da), .val (.int mo), .val (.int yy)] [(.int (((48 : Int32) + (mo / (10 : Int32))).toInt8.toInt32)), (.int (vpl + (5 : Int32))), (.ref ob)])) t → Steps p.tables e below (s₁.setTop (entryFrame m #[(.long qe), (.ref ob), (.int vpl)] 14)) t := fun t kt => by
    refine pre45 _ ?_
    refine st47 _ ?_
    refine XS.aloadN X47.here hx rfl (hb hby d1_212) rfl rfl ?_
    refine XS.iloadN X47.here hx rfl (hb hby d1_213) rfl ?_
    refine XS.iconst X47.here hx rfl (hb hby d1_214) ?_
    show Steps p.tables e below (T47.setTop (mkF m 215 #[.val (.long qe), .second, .val (.ref ob), .val (.int vpl), .val (.long dys), .second, .val (.int era), .val (.int doe), .val (.int yoe), .val (.int doy), .val (.int mp), .val (.int da), .val (.int mo), .val (.int yy)] [(.int (4 : Int32)), (.int vpl), (.ref ob)])) _
    refine XS.iadd X47.here hx rfl (hb hby d1_215) rfl ?_
    refine XS.bipush X47.here hx rfl (hb hby d1_216) ?_
    refine st50 _ ?_
    refine XS.aloadN X50.here hx rfl (hb hby d1_219) rfl rfl ?_
    refine XS.iloadN X50.here hx rfl (hb hby d1_220) rfl ?_
    show Steps p.tables e below (T50.setTop (mkF m 221 #[.val (.long qe), .second, .val (.ref ob), .val (.int vpl), .val (.long dys), .second, .val (.int era), .val (.int doe), .val (.int yoe), .val (.int doy), .val (.int mp), .val (.int da), .val (.int mo), .val (.int yy)] [(.int vpl), (.ref ob)])) _
    refine XS.iconst X50.here hx rfl (hb hby d1_221) ?_
    refine XS.iadd X50.here hx rfl (hb hby d1_222) rfl ?_
    refine XS.bipush X50.here hx rfl (hb hby d1_223) ?_
    refine XS.iload X50.here hx rfl (hb hby d1_225) rfl ?_
    refine XS.bipush X50.here hx rfl (hb hby d1_227) ?_
    show Steps p.tables e below (T50.setTop (mkF m 229 #[.val (.long qe), .second, .val (.ref ob), .val (.int vpl), .val (.long dys), .second, .val (.int era), .val (.int doe), .val (.int yoe), .val (.int doy), .val (.int mp), .val (.int da), .val (.int mo), .val (.int yy)] [(.int (10 : Int32)), (.int mo), (.int (48 : Int32)), (.int (vpl + (5 : Int32))), (.ref ob)])) _
    refine XS.idiv X50.here hx rfl (hb hby d1_229) rfl (by decide) ?_
    refine XS.iadd X50.here hx rfl (hb hby d1_230) rfl ?_
    refine XS.i2b X50.here hx rfl (hb hby d1_231) rfl ?_
    exact kt
  obtain ⟨c5, hc5⟩ : ∃ z : Int32, z = (((48 : Int32) + (mo / (10 : Int32))).toInt8.toInt32) := ⟨_, rfl⟩
  have ic5 : c5.toInt = 48 + mo.toInt / 10 := by rw [hc5]; have := rng32 mo; have := c_idiv mo (10 : Int32) 10 (by decide) (by decide); (first | (have : (((48 : Int32) + (mo / (10 : Int32)))).toInt = (48 : Int) + (mo / (10 : Int32)).toInt := (by have : ((((48 : Int32) + (mo / (10 : Int32)))).toInt - ((48 : Int) + (mo / (10 : Int32)).toInt)) % 4294967296 = 0 := c_iadd (48 : Int32) (mo / (10 : Int32)); have := rng32 ((48 : Int32) + (mo / (10 : Int32))); omega)) | (have : ((((48 : Int32) + (mo / (10 : Int32)))).toInt - ((48 : Int) + (mo / (10 : Int32)).toInt)) % 4294967296 = 0 := c_iadd (48 : Int32) (mo / (10 : Int32)); have := rng32 ((48 : Int32) + (mo / (10 : Int32))))); (first | (have : ((((48 : Int32) + (mo / (10 : Int32))).toInt8.toInt32)).toInt = ((48 : Int32) + (mo / (10 : Int32))).toInt := (by have := c_i2b ((48 : Int32) + (mo / (10 : Int32))); omega)) | (have := c_i2b ((48 : Int32) + (mo / (10 : Int32))))); omega
  have pre53 : ∀ t, Steps p.tables e below (T50.setTop (mkF m 232 #[.val (.long qe), .second, .val (.ref ob), .val (.int vpl), .val (.long dys), .second, .val (.int era), .val (.int doe), .val (.int yoe), .val (.int doy), .val (.int mp), .val (.int da), .val (.int mo), .val (.int yy)] [(.int c5), (.int (vpl + (5 : Int32))), (.ref ob)])) t → Steps p.tables e below (s₁.setTop (entryFrame m #[(.long qe), (.ref ob), (.int vpl)] 14)) t := by rw [hc5]; exact pre52
  obtain ⟨cl54, Ar54, q54, S54, M54, H54, G54⟩ := id V50
  have hin54 : ¬ ((vpl + (5 : Int32)) < 0 ∨ cl54.slots.size ≤ ((vpl + (5 : Int32))).toNatClampNeg) := inb_of S54 ⟨by rw [Int32.lt_iff_toInt_lt]; have k0 : (0 : Int32).toInt = 0 := (by decide); have := rng32 vpl; (first | (have : ((vpl + (5 : Int32))).toInt = vpl.toInt + (5 : Int) := (by have : (((vpl + (5 : Int32))).toInt - (vpl.toInt + (5 : Int))) % 4294967296 = 0 := c_iadd vpl (5 : Int32); have := rng32 (vpl + (5 : Int32)); omega)) | (have : (((vpl + (5 : Int32))).toInt - (vpl.toInt + (5 : Int))) % 4294967296 = 0 := c_iadd vpl (5 : Int32); have := rng32 (vpl + (5 : Int32)))); omega, by rw [Int32.lt_iff_toInt_lt]; have k0 : (14 : Int32).toInt = 14 := (by decide); have := rng32 vpl; (first | (have : ((vpl + (5 : Int32))).toInt = vpl.toInt + (5 : Int) := (by have : (((vpl + (5 : Int32))).toInt - (vpl.toInt + (5 : Int))) % 4294967296 = 0 := c_iadd vpl (5 : Int32); have := rng32 (vpl + (5 : Int32)); omega)) | (have : (((vpl + (5 : Int32))).toInt - (vpl.toInt + (5 : Int))) % 4294967296 = 0 := c_iadd vpl (5 : Int32); have := rng32 (vpl + (5 : Int32)))); omega⟩
  obtain ⟨T55, h55, X55, e55, W55, st55⟩ := stB X50 hx hZ e50 Ar54 (j := (vpl + (5 : Int32))) hin54 (g := (mkF m 232 #[.val (.long qe), .second, .val (.ref ob), .val (.int vpl), .val (.long dys), .second, .val (.int era), .val (.int doe), .val (.int yoe), .val (.int doy), .val (.int mp), .val (.int da), .val (.int mo), .val (.int yy)] [(.int c5), (.int (vpl + (5 : Int32))), (.ref ob)])) rfl rfl (hb hby d1_232)
  have N55 := Fr.snoc X55 N50 gb
  have Zs56 : n0 ≤ h55.size := by rw [W55.size]; exact Zs51
  have V55 : Arv Z h55 ob kk .byte (14 : Int32) ((((((vs.set pn (.int (nar .byte c0))).set (pn + 1) (.int (nar .byte c1))).set (pn + 2) (.int (nar .byte c2))).set (pn + 3) (.int (nar .byte c3))).set (pn + 4) (.int (nar .byte (45 : Int32)))).set (pn + 5) (.int (nar .byte c5))) (.int (0 : Int32)) := Arv.set Ar54 q54 S54 M54 H54 G54 (fits_nar_byte _) W55 (pn + 5) (own_nat (by push_cast; have := rng32 vpl; (first | (have : ((vpl + (5 : Int32))).toInt = vpl.toInt + (5 : Int) := (by have : (((vpl + (5 : Int32))).toInt - (vpl.toInt + (5 : Int))) % 4294967296 = 0 := c_iadd vpl (5 : Int32); have := rng32 (vpl + (5 : Int32)); omega)) | (have : (((vpl + (5 : Int32))).toInt - (vpl.toInt + (5 : Int))) % 4294967296 = 0 := c_iadd vpl (5 : Int32); have := rng32 (vpl + (5 : Int32)))); omega)) (by (try simp only [List.length_set]); omega)
  have pre57 : ∀ t, Steps p.tables e below (T55.setTop (mkF m 247 #[.val (.long qe), .second, .val (.ref ob), .val (.int vpl), .val (.long dys), .second, .val (.int era), .val (.int doe), .val (.int yoe), .val (.int doy), .val (.int mp), .val (.int da), .val (.int mo), .val (.int yy)] [(.int (((48 : Int32) + (mo % (10 : Int32))).toInt8.toInt32)), (.int (vpl + (6 : Int32))), (.ref ob)])) t → Steps p.tables e below (s₁.setTop (entryFrame m #[(.long qe), (.ref ob), (.int vpl)] 14)) t := fun t kt => by
    refine pre53 _ ?_
    refine st55 _ ?_
    refine XS.aloadN X55.here hx rfl (hb hby d1_233) rfl rfl ?_
    show Steps p.tables e below (T55.setTop (mkF m 234 #[.val (.long qe), .second, .val (.ref ob), .val (.int vpl), .val (.long dys), .second, .val (.int era), .val (.int doe), .val (.int yoe), .val (.int doy), .val (.int mp), .val (.int da), .val (.int mo), .val (.int yy)] [(.ref ob)])) _
    refine XS.iloadN X55.here hx rfl (hb hby d1_234) rfl ?_
    refine XS.bipush X55.here hx rfl (hb hby d1_235) ?_
    refine XS.iadd X55.here hx rfl (hb hby d1_237) rfl ?_
    refine XS.bipush X55.here hx rfl (hb hby d1_238) ?_
    refine XS.iload X55.here hx rfl (hb hby d1_240) rfl ?_
    show Steps p.tables e below (T55.setTop (mkF m 242 #[.val (.long qe), .second, .val (.ref ob), .val (.int vpl), .val (.long dys), .second, .val (.int era), .val (.int doe), .val (.int yoe), .val (.int doy), .val (.int mp), .val (.int da), .val (.int mo), .val (.int yy)] [(.int mo), (.int (48 : Int32)), (.int (vpl + (6 : Int32))), (.ref ob)])) _
    refine XS.bipush X55.here hx rfl (hb hby d1_242) ?_
    refine iremM X55 hx rfl (hb hby d1_244) rfl (by decide) ?_
    refine XS.iadd X55.here hx rfl (hb hby d1_245) rfl ?_
    refine XS.i2b X55.here hx rfl (hb hby d1_246) rfl ?_
    exact kt
  obtain ⟨c6, hc6⟩ : ∃ z : Int32, z = (((48 : Int32) + (mo % (10 : Int32))).toInt8.toInt32) := ⟨_, rfl⟩
  have ic6 : c6.toInt = 48 + mo.toInt % 10 := by rw [hc6]; have := rng32 mo; have := c_irem mo (10 : Int32) 10 (by decide); (first | (have : (((48 : Int32) + (mo % (10 : Int32)))).toInt = (48 : Int) + (mo % (10 : Int32)).toInt := (by have : ((((48 : Int32) + (mo % (10 : Int32)))).toInt - ((48 : Int) + (mo % (10 : Int32)).toInt)) % 4294967296 = 0 := c_iadd (48 : Int32) (mo % (10 : Int32)); have := rng32 ((48 : Int32) + (mo % (10 : Int32))); omega)) | (have : ((((48 : Int32) + (mo % (10 : Int32)))).toInt - ((48 : Int) + (mo % (10 : Int32)).toInt)) % 4294967296 = 0 := c_iadd (48 : Int32) (mo % (10 : Int32)); have := rng32 ((48 : Int32) + (mo % (10 : Int32))))); (first | (have : ((((48 : Int32) + (mo % (10 : Int32))).toInt8.toInt32)).toInt = ((48 : Int32) + (mo % (10 : Int32))).toInt := (by have := c_i2b ((48 : Int32) + (mo % (10 : Int32))); omega)) | (have := c_i2b ((48 : Int32) + (mo % (10 : Int32))))); omega
  have pre58 : ∀ t, Steps p.tables e below (T55.setTop (mkF m 247 #[.val (.long qe), .second, .val (.ref ob), .val (.int vpl), .val (.long dys), .second, .val (.int era), .val (.int doe), .val (.int yoe), .val (.int doy), .val (.int mp), .val (.int da), .val (.int mo), .val (.int yy)] [(.int c6), (.int (vpl + (6 : Int32))), (.ref ob)])) t → Steps p.tables e below (s₁.setTop (entryFrame m #[(.long qe), (.ref ob), (.int vpl)] 14)) t := by rw [hc6]; exact pre57
  obtain ⟨cl59, Ar59, q59, S59, M59, H59, G59⟩ := id V55
  have hin59 : ¬ ((vpl + (6 : Int32)) < 0 ∨ cl59.slots.size ≤ ((vpl + (6 : Int32))).toNatClampNeg) := inb_of S59 ⟨by rw [Int32.lt_iff_toInt_lt]; have k0 : (0 : Int32).toInt = 0 := (by decide); have := rng32 vpl; (first | (have : ((vpl + (6 : Int32))).toInt = vpl.toInt + (6 : Int) := (by have : (((vpl + (6 : Int32))).toInt - (vpl.toInt + (6 : Int))) % 4294967296 = 0 := c_iadd vpl (6 : Int32); have := rng32 (vpl + (6 : Int32)); omega)) | (have : (((vpl + (6 : Int32))).toInt - (vpl.toInt + (6 : Int))) % 4294967296 = 0 := c_iadd vpl (6 : Int32); have := rng32 (vpl + (6 : Int32)))); omega, by rw [Int32.lt_iff_toInt_lt]; have k0 : (14 : Int32).toInt = 14 := (by decide); have := rng32 vpl; (first | (have : ((vpl + (6 : Int32))).toInt = vpl.toInt + (6 : Int) := (by have : (((vpl + (6 : Int32))).toInt - (vpl.toInt + (6 : Int))) % 4294967296 = 0 := c_iadd vpl (6 : Int32); have := rng32 (vpl + (6 : Int32)); omega)) | (have : (((vpl + (6 : Int32))).toInt - (vpl.toInt + (6 : Int))) % 4294967296 = 0 := c_iadd vpl (6 : Int32); have := rng32 (vpl + (6 : Int32)))); omega⟩
  obtain ⟨T60, h60, X60, e60, W60, st60⟩ := stB X55 hx hZ e55 Ar59 (j := (vpl + (6 : Int32))) hin59 (g := (mkF m 247 #[.val (.long qe), .second, .val (.ref ob), .val (.int vpl), .val (.long dys), .second, .val (.int era), .val (.int doe), .val (.int yoe), .val (.int doy), .val (.int mp), .val (.int da), .val (.int mo), .val (.int yy)] [(.int c6), (.int (vpl + (6 : Int32))), (.ref ob)])) rfl rfl (hb hby d1_247)
  have N60 := Fr.snoc X60 N55 gb
  have Zs61 : n0 ≤ h60.size := by rw [W60.size]; exact Zs56
  have V60 : Arv Z h60 ob kk .byte (14 : Int32) (((((((vs.set pn (.int (nar .byte c0))).set (pn + 1) (.int (nar .byte c1))).set (pn + 2) (.int (nar .byte c2))).set (pn + 3) (.int (nar .byte c3))).set (pn + 4) (.int (nar .byte (45 : Int32)))).set (pn + 5) (.int (nar .byte c5))).set (pn + 6) (.int (nar .byte c6))) (.int (0 : Int32)) := Arv.set Ar59 q59 S59 M59 H59 G59 (fits_nar_byte _) W60 (pn + 6) (own_nat (by push_cast; have := rng32 vpl; (first | (have : ((vpl + (6 : Int32))).toInt = vpl.toInt + (6 : Int) := (by have : (((vpl + (6 : Int32))).toInt - (vpl.toInt + (6 : Int))) % 4294967296 = 0 := c_iadd vpl (6 : Int32); have := rng32 (vpl + (6 : Int32)); omega)) | (have : (((vpl + (6 : Int32))).toInt - (vpl.toInt + (6 : Int))) % 4294967296 = 0 := c_iadd vpl (6 : Int32); have := rng32 (vpl + (6 : Int32)))); omega)) (by (try simp only [List.length_set]); omega)
  obtain ⟨cl62, Ar62, q62, S62, M62, H62, G62⟩ := id V60
  have hin62 : ¬ ((vpl + (7 : Int32)) < 0 ∨ cl62.slots.size ≤ ((vpl + (7 : Int32))).toNatClampNeg) := inb_of S62 ⟨by rw [Int32.lt_iff_toInt_lt]; have k0 : (0 : Int32).toInt = 0 := (by decide); have := rng32 vpl; (first | (have : ((vpl + (7 : Int32))).toInt = vpl.toInt + (7 : Int) := (by have : (((vpl + (7 : Int32))).toInt - (vpl.toInt + (7 : Int))) % 4294967296 = 0 := c_iadd vpl (7 : Int32); have := rng32 (vpl + (7 : Int32)); omega)) | (have : (((vpl + (7 : Int32))).toInt - (vpl.toInt + (7 : Int))) % 4294967296 = 0 := c_iadd vpl (7 : Int32); have := rng32 (vpl + (7 : Int32)))); omega, by rw [Int32.lt_iff_toInt_lt]; have k0 : (14 : Int32).toInt = 14 := (by decide); have := rng32 vpl; (first | (have : ((vpl + (7 : Int32))).toInt = vpl.toInt + (7 : Int) := (by have : (((vpl + (7 : Int32))).toInt - (vpl.toInt + (7 : Int))) % 4294967296 = 0 := c_iadd vpl (7 : Int32); have := rng32 (vpl + (7 : Int32)); omega)) | (have : (((vpl + (7 : Int32))).toInt - (vpl.toInt + (7 : Int))) % 4294967296 = 0 := c_iadd vpl (7 : Int32); have := rng32 (vpl + (7 : Int32)))); omega⟩
  obtain ⟨T63, h63, X63, e63, W63, st63⟩ := stB X60 hx hZ e60 Ar62 (j := (vpl + (7 : Int32))) hin62 (g := (mkF m 255 #[.val (.long qe), .second, .val (.ref ob), .val (.int vpl), .val (.long dys), .second, .val (.int era), .val (.int doe), .val (.int yoe), .val (.int doy), .val (.int mp), .val (.int da), .val (.int mo), .val (.int yy)] [(.int (45 : Int32)), (.int (vpl + (7 : Int32))), (.ref ob)])) rfl rfl (hb hby d1_255)
  have N63 := Fr.snoc X63 N60 gb
  have Zs64 : n0 ≤ h63.size := by rw [W63.size]; exact Zs61
  have V63 : Arv Z h63 ob kk .byte (14 : Int32) ((((((((vs.set pn (.int (nar .byte c0))).set (pn + 1) (.int (nar .byte c1))).set (pn + 2) (.int (nar .byte c2))).set (pn + 3) (.int (nar .byte c3))).set (pn + 4) (.int (nar .byte (45 : Int32)))).set (pn + 5) (.int (nar .byte c5))).set (pn + 6) (.int (nar .byte c6))).set (pn + 7) (.int (nar .byte (45 : Int32)))) (.int (0 : Int32)) := Arv.set Ar62 q62 S62 M62 H62 G62 (fits_nar_byte _) W63 (pn + 7) (own_nat (by push_cast; have := rng32 vpl; (first | (have : ((vpl + (7 : Int32))).toInt = vpl.toInt + (7 : Int) := (by have : (((vpl + (7 : Int32))).toInt - (vpl.toInt + (7 : Int))) % 4294967296 = 0 := c_iadd vpl (7 : Int32); have := rng32 (vpl + (7 : Int32)); omega)) | (have : (((vpl + (7 : Int32))).toInt - (vpl.toInt + (7 : Int))) % 4294967296 = 0 := c_iadd vpl (7 : Int32); have := rng32 (vpl + (7 : Int32)))); omega)) (by (try simp only [List.length_set]); omega)
  have pre65 : ∀ t, Steps p.tables e below (T63.setTop (mkF m 270 #[.val (.long qe), .second, .val (.ref ob), .val (.int vpl), .val (.long dys), .second, .val (.int era), .val (.int doe), .val (.int yoe), .val (.int doy), .val (.int mp), .val (.int da), .val (.int mo), .val (.int yy)] [(.int (((48 : Int32) + (da / (10 : Int32))).toInt8.toInt32)), (.int (vpl + (8 : Int32))), (.ref ob)])) t → Steps p.tables e below (s₁.setTop (entryFrame m #[(.long qe), (.ref ob), (.int vpl)] 14)) t := fun t kt => by
    refine pre58 _ ?_
    refine st60 _ ?_
    show Steps p.tables e below (T60.setTop (mkF m 248 #[.val (.long qe), .second, .val (.ref ob), .val (.int vpl), .val (.long dys), .second, .val (.int era), .val (.int doe), .val (.int yoe), .val (.int doy), .val (.int mp), .val (.int da), .val (.int mo), .val (.int yy)] [])) _
    refine XS.aloadN X60.here hx rfl (hb hby d1_248) rfl rfl ?_
    refine XS.iloadN X60.here hx rfl (hb hby d1_249) rfl ?_
    refine XS.bipush X60.here hx rfl (hb hby d1_250) ?_
    refine XS.iadd X60.here hx rfl (hb hby d1_252) rfl ?_
    refine XS.bipush X60.here hx rfl (hb hby d1_253) ?_
    show Steps p.tables e below (T60.setTop (mkF m 255 #[.val (.long qe), .second, .val (.ref ob), .val (.int vpl), .val (.long dys), .second, .val (.int era), .val (.int doe), .val (.int yoe), .val (.int doy), .val (.int mp), .val (.int da), .val (.int mo), .val (.int yy)] [(.int (45 : Int32)), (.int (vpl + (7 : Int32))), (.ref ob)])) _
    refine st63 _ ?_
    refine XS.aloadN X63.here hx rfl (hb hby d1_256) rfl rfl ?_
    refine XS.iloadN X63.here hx rfl (hb hby d1_257) rfl ?_
    refine XS.bipush X63.here hx rfl (hb hby d1_258) ?_
    refine XS.iadd X63.here hx rfl (hb hby d1_260) rfl ?_
    show Steps p.tables e below (T63.setTop (mkF m 261 #[.val (.long qe), .second, .val (.ref ob), .val (.int vpl), .val (.long dys), .second, .val (.int era), .val (.int doe), .val (.int yoe), .val (.int doy), .val (.int mp), .val (.int da), .val (.int mo), .val (.int yy)] [(.int (vpl + (8 : Int32))), (.ref ob)])) _
    refine XS.bipush X63.here hx rfl (hb hby d1_261) ?_
    refine XS.iload X63.here hx rfl (hb hby d1_263) rfl ?_
    refine XS.bipush X63.here hx rfl (hb hby d1_265) ?_
    refine XS.idiv X63.here hx rfl (hb hby d1_267) rfl (by decide) ?_
    refine XS.iadd X63.here hx rfl (hb hby d1_268) rfl ?_
    show Steps p.tables e below (T63.setTop (mkF m 269 #[.val (.long qe), .second, .val (.ref ob), .val (.int vpl), .val (.long dys), .second, .val (.int era), .val (.int doe), .val (.int yoe), .val (.int doy), .val (.int mp), .val (.int da), .val (.int mo), .val (.int yy)] [(.int ((48 : Int32) + (da / (10 : Int32)))), (.int (vpl + (8 : Int32))), (.ref ob)])) _
    refine XS.i2b X63.here hx rfl (hb hby d1_269) rfl ?_
    exact kt
  obtain ⟨c8, hc8⟩ : ∃ z : Int32, z = (((48 : Int32) + (da / (10 : Int32))).toInt8.toInt32) := ⟨_, rfl⟩
  have ic8 : c8.toInt = 48 + da.toInt / 10 := by rw [hc8]; have := rng32 da; have := c_idiv da (10 : Int32) 10 (by decide) (by decide); (first | (have : (((48 : Int32) + (da / (10 : Int32)))).toInt = (48 : Int) + (da / (10 : Int32)).toInt := (by have : ((((48 : Int32) + (da / (10 : Int32)))).toInt - ((48 : Int) + (da / (10 : Int32)).toInt)) % 4294967296 = 0 := c_iadd (48 : Int32) (da / (10 : Int32)); have := rng32 ((48 : Int32) + (da / (10 : Int32))); omega)) | (have : ((((48 : Int32) + (da / (10 : Int32)))).toInt - ((48 : Int) + (da / (10 : Int32)).toInt)) % 4294967296 = 0 := c_iadd (48 : Int32) (da / (10 : Int32)); have := rng32 ((48 : Int32) + (da / (10 : Int32))))); (first | (have : ((((48 : Int32) + (da / (10 : Int32))).toInt8.toInt32)).toInt = ((48 : Int32) + (da / (10 : Int32))).toInt := (by have := c_i2b ((48 : Int32) + (da / (10 : Int32))); omega)) | (have := c_i2b ((48 : Int32) + (da / (10 : Int32))))); omega
  have pre66 : ∀ t, Steps p.tables e below (T63.setTop (mkF m 270 #[.val (.long qe), .second, .val (.ref ob), .val (.int vpl), .val (.long dys), .second, .val (.int era), .val (.int doe), .val (.int yoe), .val (.int doy), .val (.int mp), .val (.int da), .val (.int mo), .val (.int yy)] [(.int c8), (.int (vpl + (8 : Int32))), (.ref ob)])) t → Steps p.tables e below (s₁.setTop (entryFrame m #[(.long qe), (.ref ob), (.int vpl)] 14)) t := by rw [hc8]; exact pre65
  obtain ⟨cl67, Ar67, q67, S67, M67, H67, G67⟩ := id V63
  have hin67 : ¬ ((vpl + (8 : Int32)) < 0 ∨ cl67.slots.size ≤ ((vpl + (8 : Int32))).toNatClampNeg) := inb_of S67 ⟨by rw [Int32.lt_iff_toInt_lt]; have k0 : (0 : Int32).toInt = 0 := (by decide); have := rng32 vpl; (first | (have : ((vpl + (8 : Int32))).toInt = vpl.toInt + (8 : Int) := (by have : (((vpl + (8 : Int32))).toInt - (vpl.toInt + (8 : Int))) % 4294967296 = 0 := c_iadd vpl (8 : Int32); have := rng32 (vpl + (8 : Int32)); omega)) | (have : (((vpl + (8 : Int32))).toInt - (vpl.toInt + (8 : Int))) % 4294967296 = 0 := c_iadd vpl (8 : Int32); have := rng32 (vpl + (8 : Int32)))); omega, by rw [Int32.lt_iff_toInt_lt]; have k0 : (14 : Int32).toInt = 14 := (by decide); have := rng32 vpl; (first | (have : ((vpl + (8 : Int32))).toInt = vpl.toInt + (8 : Int) := (by have : (((vpl + (8 : Int32))).toInt - (vpl.toInt + (8 : Int))) % 4294967296 = 0 := c_iadd vpl (8 : Int32); have := rng32 (vpl + (8 : Int32)); omega)) | (have : (((vpl + (8 : Int32))).toInt - (vpl.toInt + (8 : Int))) % 4294967296 = 0 := c_iadd vpl (8 : Int32); have := rng32 (vpl + (8 : Int32)))); omega⟩
  obtain ⟨T68, h68, X68, e68, W68, st68⟩ := stB X63 hx hZ e63 Ar67 (j := (vpl + (8 : Int32))) hin67 (g := (mkF m 270 #[.val (.long qe), .second, .val (.ref ob), .val (.int vpl), .val (.long dys), .second, .val (.int era), .val (.int doe), .val (.int yoe), .val (.int doy), .val (.int mp), .val (.int da), .val (.int mo), .val (.int yy)] [(.int c8), (.int (vpl + (8 : Int32))), (.ref ob)])) rfl rfl (hb hby d1_270)
  have N68 := Fr.snoc X68 N63 gb
  have Zs69 : n0 ≤ h68.size := by rw [W68.size]; exact Zs64
  have V68 : Arv Z h68 ob kk .byte (14 : Int32) (((((((((vs.set pn (.int (nar .byte c0))).set (pn + 1) (.int (nar .byte c1))).set (pn + 2) (.int (nar .byte c2))).set (pn + 3) (.int (nar .byte c3))).set (pn + 4) (.int (nar .byte (45 : Int32)))).set (pn + 5) (.int (nar .byte c5))).set (pn + 6) (.int (nar .byte c6))).set (pn + 7) (.int (nar .byte (45 : Int32)))).set (pn + 8) (.int (nar .byte c8))) (.int (0 : Int32)) := Arv.set Ar67 q67 S67 M67 H67 G67 (fits_nar_byte _) W68 (pn + 8) (own_nat (by push_cast; have := rng32 vpl; (first | (have : ((vpl + (8 : Int32))).toInt = vpl.toInt + (8 : Int) := (by have : (((vpl + (8 : Int32))).toInt - (vpl.toInt + (8 : Int))) % 4294967296 = 0 := c_iadd vpl (8 : Int32); have := rng32 (vpl + (8 : Int32)); omega)) | (have : (((vpl + (8 : Int32))).toInt - (vpl.toInt + (8 : Int))) % 4294967296 = 0 := c_iadd vpl (8 : Int32); have := rng32 (vpl + (8 : Int32)))); omega)) (by (try simp only [List.length_set]); omega)
  have pre70 : ∀ t, Steps p.tables e below (T68.setTop (mkF m 285 #[.val (.long qe), .second, .val (.ref ob), .val (.int vpl), .val (.long dys), .second, .val (.int era), .val (.int doe), .val (.int yoe), .val (.int doy), .val (.int mp), .val (.int da), .val (.int mo), .val (.int yy)] [(.int (((48 : Int32) + (da % (10 : Int32))).toInt8.toInt32)), (.int (vpl + (9 : Int32))), (.ref ob)])) t → Steps p.tables e below (s₁.setTop (entryFrame m #[(.long qe), (.ref ob), (.int vpl)] 14)) t := fun t kt => by
    refine pre66 _ ?_
    refine st68 _ ?_
    refine XS.aloadN X68.here hx rfl (hb hby d1_271) rfl rfl ?_
    refine XS.iloadN X68.here hx rfl (hb hby d1_272) rfl ?_
    refine XS.bipush X68.here hx rfl (hb hby d1_273) ?_
    show Steps p.tables e below (T68.setTop (mkF m 275 #[.val (.long qe), .second, .val (.ref ob), .val (.int vpl), .val (.long dys), .second, .val (.int era), .val (.int doe), .val (.int yoe), .val (.int doy), .val (.int mp), .val (.int da), .val (.int mo), .val (.int yy)] [(.int (9 : Int32)), (.int vpl), (.ref ob)])) _
    refine XS.iadd X68.here hx rfl (hb hby d1_275) rfl ?_
    refine XS.bipush X68.here hx rfl (hb hby d1_276) ?_
    refine XS.iload X68.here hx rfl (hb hby d1_278) rfl ?_
    refine XS.bipush X68.here hx rfl (hb hby d1_280) ?_
    refine iremM X68 hx rfl (hb hby d1_282) rfl (by decide) ?_
    show Steps p.tables e below (T68.setTop (mkF m 283 #[.val (.long qe), .second, .val (.ref ob), .val (.int vpl), .val (.long dys), .second, .val (.int era), .val (.int doe), .val (.int yoe), .val (.int doy), .val (.int mp), .val (.int da), .val (.int mo), .val (.int yy)] [(.int (da % (10 : Int32))), (.int (48 : Int32)), (.int (vpl + (9 : Int32))), (.ref ob)])) _
    refine XS.iadd X68.here hx rfl (hb hby d1_283) rfl ?_
    refine XS.i2b X68.here hx rfl (hb hby d1_284) rfl ?_
    exact kt
  obtain ⟨c9, hc9⟩ : ∃ z : Int32, z = (((48 : Int32) + (da % (10 : Int32))).toInt8.toInt32) := ⟨_, rfl⟩
  have ic9 : c9.toInt = 48 + da.toInt % 10 := by rw [hc9]; have := rng32 da; have := c_irem da (10 : Int32) 10 (by decide); (first | (have : (((48 : Int32) + (da % (10 : Int32)))).toInt = (48 : Int) + (da % (10 : Int32)).toInt := (by have : ((((48 : Int32) + (da % (10 : Int32)))).toInt - ((48 : Int) + (da % (10 : Int32)).toInt)) % 4294967296 = 0 := c_iadd (48 : Int32) (da % (10 : Int32)); have := rng32 ((48 : Int32) + (da % (10 : Int32))); omega)) | (have : ((((48 : Int32) + (da % (10 : Int32)))).toInt - ((48 : Int) + (da % (10 : Int32)).toInt)) % 4294967296 = 0 := c_iadd (48 : Int32) (da % (10 : Int32)); have := rng32 ((48 : Int32) + (da % (10 : Int32))))); (first | (have : ((((48 : Int32) + (da % (10 : Int32))).toInt8.toInt32)).toInt = ((48 : Int32) + (da % (10 : Int32))).toInt := (by have := c_i2b ((48 : Int32) + (da % (10 : Int32))); omega)) | (have := c_i2b ((48 : Int32) + (da % (10 : Int32))))); omega
  have pre71 : ∀ t, Steps p.tables e below (T68.setTop (mkF m 285 #[.val (.long qe), .second, .val (.ref ob), .val (.int vpl), .val (.long dys), .second, .val (.int era), .val (.int doe), .val (.int yoe), .val (.int doy), .val (.int mp), .val (.int da), .val (.int mo), .val (.int yy)] [(.int c9), (.int (vpl + (9 : Int32))), (.ref ob)])) t → Steps p.tables e below (s₁.setTop (entryFrame m #[(.long qe), (.ref ob), (.int vpl)] 14)) t := by rw [hc9]; exact pre70
  obtain ⟨cl72, Ar72, q72, S72, M72, H72, G72⟩ := id V68
  have hin72 : ¬ ((vpl + (9 : Int32)) < 0 ∨ cl72.slots.size ≤ ((vpl + (9 : Int32))).toNatClampNeg) := inb_of S72 ⟨by rw [Int32.lt_iff_toInt_lt]; have k0 : (0 : Int32).toInt = 0 := (by decide); have := rng32 vpl; (first | (have : ((vpl + (9 : Int32))).toInt = vpl.toInt + (9 : Int) := (by have : (((vpl + (9 : Int32))).toInt - (vpl.toInt + (9 : Int))) % 4294967296 = 0 := c_iadd vpl (9 : Int32); have := rng32 (vpl + (9 : Int32)); omega)) | (have : (((vpl + (9 : Int32))).toInt - (vpl.toInt + (9 : Int))) % 4294967296 = 0 := c_iadd vpl (9 : Int32); have := rng32 (vpl + (9 : Int32)))); omega, by rw [Int32.lt_iff_toInt_lt]; have k0 : (14 : Int32).toInt = 14 := (by decide); have := rng32 vpl; (first | (have : ((vpl + (9 : Int32))).toInt = vpl.toInt + (9 : Int) := (by have : (((vpl + (9 : Int32))).toInt - (vpl.toInt + (9 : Int))) % 4294967296 = 0 := c_iadd vpl (9 : Int32); have := rng32 (vpl + (9 : Int32)); omega)) | (have : (((vpl + (9 : Int32))).toInt - (vpl.toInt + (9 : Int))) % 4294967296 = 0 := c_iadd vpl (9 : Int32); have := rng32 (vpl + (9 : Int32)))); omega⟩
  obtain ⟨T73, h73, X73, e73, W73, st73⟩ := stB X68 hx hZ e68 Ar72 (j := (vpl + (9 : Int32))) hin72 (g := (mkF m 285 #[.val (.long qe), .second, .val (.ref ob), .val (.int vpl), .val (.long dys), .second, .val (.int era), .val (.int doe), .val (.int yoe), .val (.int doy), .val (.int mp), .val (.int da), .val (.int mo), .val (.int yy)] [(.int c9), (.int (vpl + (9 : Int32))), (.ref ob)])) rfl rfl (hb hby d1_285)
  have N73 := Fr.snoc X73 N68 gb
  have Zs74 : n0 ≤ h73.size := by rw [W73.size]; exact Zs69
  have V73 : Arv Z h73 ob kk .byte (14 : Int32) ((((((((((vs.set pn (.int (nar .byte c0))).set (pn + 1) (.int (nar .byte c1))).set (pn + 2) (.int (nar .byte c2))).set (pn + 3) (.int (nar .byte c3))).set (pn + 4) (.int (nar .byte (45 : Int32)))).set (pn + 5) (.int (nar .byte c5))).set (pn + 6) (.int (nar .byte c6))).set (pn + 7) (.int (nar .byte (45 : Int32)))).set (pn + 8) (.int (nar .byte c8))).set (pn + 9) (.int (nar .byte c9))) (.int (0 : Int32)) := Arv.set Ar72 q72 S72 M72 H72 G72 (fits_nar_byte _) W73 (pn + 9) (own_nat (by push_cast; have := rng32 vpl; (first | (have : ((vpl + (9 : Int32))).toInt = vpl.toInt + (9 : Int) := (by have : (((vpl + (9 : Int32))).toInt - (vpl.toInt + (9 : Int))) % 4294967296 = 0 := c_iadd vpl (9 : Int32); have := rng32 (vpl + (9 : Int32)); omega)) | (have : (((vpl + (9 : Int32))).toInt - (vpl.toInt + (9 : Int))) % 4294967296 = 0 := c_iadd vpl (9 : Int32); have := rng32 (vpl + (9 : Int32)))); omega)) (by (try simp only [List.length_set]); omega)
  obtain ⟨fs, hr, hrun, hended, hW, hsame⟩ := X73.leave (v := some (.int (vpl + (10 : Int32)))) (fun h => by rw [Bd.returns] at h; cases h)
  refine ⟨_, _, pre71 _ ?_, hrun, hended, _, _, rfl, ?_, ⟨_, rfl⟩, hW, hsame.mono (by decide) (by decide)⟩
  · refine st73 _ ?_
    refine XS.iloadN X73.here hx rfl (hb hby d1_286) rfl ?_
    refine XS.bipush X73.here hx rfl (hb hby d1_287) ?_
    show Steps p.tables e below (T73.setTop (mkF m 289 #[.val (.long qe), .second, .val (.ref ob), .val (.int vpl), .val (.long dys), .second, .val (.int era), .val (.int doe), .val (.int yoe), .val (.int doy), .val (.int mp), .val (.int da), .val (.int mo), .val (.int yy)] [(.int (10 : Int32)), (.int vpl)])) _
    refine XS.iadd X73.here hx rfl (hb hby d1_289) rfl ?_
    exact retI X73 hx Bd.returns (hb hby d1_290) hr
  · show Q1 Z qe ob vpl kk vs pn h0 n0 _ T73.heap _
    rw [e73]
    have f75 := (((((((((((Keep.refl h0 [ob]).wr W32 (Or.inl (List.mem_of_getElem? (i := 0) rfl))).wr W37 (Or.inl (List.mem_of_getElem? (i := 0) rfl))).wr W42 (Or.inl (List.mem_of_getElem? (i := 0) rfl))).wr W47 (Or.inl (List.mem_of_getElem? (i := 0) rfl))).wr W50 (Or.inl (List.mem_of_getElem? (i := 0) rfl))).wr W55 (Or.inl (List.mem_of_getElem? (i := 0) rfl))).wr W60 (Or.inl (List.mem_of_getElem? (i := 0) rfl))).wr W63 (Or.inl (List.mem_of_getElem? (i := 0) rfl))).wr W68 (Or.inl (List.mem_of_getElem? (i := 0) rfl))).wr W73 (Or.inl (List.mem_of_getElem? (i := 0) rfl)))
    exact ⟨_, nar .byte c0, nar .byte c1, nar .byte c2, nar .byte c3, nar .byte (45 : Int32), nar .byte c5, nar .byte c6, nar .byte (45 : Int32), nar .byte c8, nar .byte c9, yy.toInt, mo.toInt, da.toInt, rfl, by have := rng32 vpl; (first | (have : ((vpl + (10 : Int32))).toInt = vpl.toInt + (10 : Int) := (by have : (((vpl + (10 : Int32))).toInt - (vpl.toInt + (10 : Int))) % 4294967296 = 0 := c_iadd vpl (10 : Int32); have := rng32 (vpl + (10 : Int32)); omega)) | (have : (((vpl + (10 : Int32))).toInt - (vpl.toInt + (10 : Int))) % 4294967296 = 0 := c_iadd vpl (10 : Int32); have := rng32 (vpl + (10 : Int32)))); omega, N73, f75, V73, hciv, by rw [own_narb c0 (by omega) (by omega)]; exact ic0, by rw [own_narb c1 (by omega) (by omega)]; exact ic1, by rw [own_narb c2 (by omega) (by omega)]; exact ic2, by rw [own_narb c3 (by omega) (by omega)]; exact ic3, by decide, by rw [own_narb c5 (by omega) (by omega)]; exact ic5, by rw [own_narb c6 (by omega) (by omega)]; exact ic6, by decide, by rw [own_narb c8 (by omega) (by omega)]; exact ic8, by rw [own_narb c9 (by omega) (by omega)]; exact ic9⟩
theorem ef_rm0 (m : MethodId) (x0 : Int64) (x1 : Int32) (x2 : Int32) : entryFrame m #[(.long x0), (.int x1), (.int x2)] maxLocals = mkF m 0 #[.val (.long x0), .second, .val (.int x1), .val (.int x2), .unset, .unset, .unset, .unset, .unset, .unset, .unset, .unset, .unset, .unset, .unset, .unset, .unset, .unset, .unset, .unset, .unset] [] := by first | (simp [entryFrame, mkF, argsToLocals, Value.category, maxLocals]; done) | rfl
theorem pd_1 : parseMethodDescriptor "(J[BI)I" = some ⟨[.long, (.array .byte), .int], some .int⟩ := by decide +kernel
theorem pd_2 : parseMethodDescriptor "([BIIB)Z" = some ⟨[(.array .byte), .int, .int, .byte], some .boolean⟩ := by decide +kernel
theorem pd_3 : parseMethodDescriptor "(B)I" = some ⟨[.byte], some .int⟩ := by decide +kernel
theorem pd_4 : parseMethodDescriptor "(II)I" = some ⟨[.int, .int], some .int⟩ := by decide +kernel
theorem pd_5 : parseMethodDescriptor "(III)J" = some ⟨[.int, .int, .int], some .long⟩ := by decide +kernel
def Q0 (Z : State) (qx : Int64) (vp : Int32) (vs0 : Int32) (wd : Addr) (kd : ClassId) (h0 : Heap) (n0 : Nat) (v : Option Value) (h : Heap) (L : List Loc) : Prop := v = some (.int 1) ∧ Fr n0 L
set_option maxRecDepth 65536 in
set_option maxHeartbeats 40000000 in
theorem rm0 (l : Launch) (Z : State) (a0 : Array Value) (hw : ∀ d ∈ tables_1, d.before a0 Z = true) (ws : List Jvm.Cond) (qx : Int64) (vp : Int32) (vs0 : Int32) (wd : Addr) (kd : ClassId) (h0 : Heap) (n0 : Nat) (Z0 : n0 ≤ h0.size) (O0 : Old Z n0 h0) (Sd : Sta Z Z.heap "com/example/mod7/mod7/calendar/Dates" "DAYS_BEFORE_MONTH" "[I" (.ref wd)) (Vd : Arv Z Z.heap wd kd .int (12 : Int32) [(.int (0 : Int32)), (.int (31 : Int32)), (.int (59 : Int32)), (.int (90 : Int32)), (.int (120 : Int32)), (.int (151 : Int32)), (.int (181 : Int32)), (.int (212 : Int32)), (.int (243 : Int32)), (.int (273 : Int32)), (.int (304 : Int32)), (.int (334 : Int32))] (.int (0 : Int32))) :
    MetFree l x (head1 (Jvm.Cond.code x code maxLocals ret :: ws) room_1) (fun a U => a = #[(.long qx), (.int vp), (.int vs0)] ∧ Z.Warmed39 U.vm ∧ U.heap = h0) (fun _ _ _ _ _ => True) (fun _ U o U' => ∃ v L, o = .returned v ∧ Q0 Z qx vp vs0 wd kd h0 n0 v U'.heap L ∧ FrameEnd U o U' L room_1.cells room_1.slots) := by
  refine MetFree.of_bodySF (plainFor_of_name pn_1) hisR ?_
  intro p e s m args below meth c s₁ Bd hml0 hP hK
  obtain ⟨rfl, hZ, hh⟩ := hP
  have hx := Bd.exec
  have hby := Bd.bytes
  have hml : c.maxLocals = 21 := hml0
  have hown : s.vm.findClass "com/example/mod7/mod7/calendar/DatesWritePinLaw" = some m.cls := findClass_of_methodNamed Bd.named
  have hnm := (name_of_methodNamed Bd.named Bd.method).1
  have X0 : Stand p l e room_1 s m #[(.long qx), (.int vp), (.int vs0)] below meth c s₁ [] 0 0 := Stand.of_body Bd
  have e0 : s₁.heap = h0 := by rw [← hh, Bd.state]; rfl
  have N0 := Fr.nil n0
  have pre0 : ∀ t, Steps p.tables e below (s₁.setTop (mkF m 0 #[.val (.long qx), .second, .val (.int vp), .val (.int vs0), .unset, .unset, .unset, .unset, .unset, .unset, .unset, .unset, .unset, .unset, .unset, .unset, .unset, .unset, .unset, .unset, .unset] [])) t → Steps p.tables e below (s₁.setTop (entryFrame m #[(.long qx), (.int vp), (.int vs0)] maxLocals)) t := fun t k => castTop (ef_rm0 m qx vp vs0) k
  have pre1 : ∀ t, Steps p.tables e below (s₁.setTop (mkF m 13 #[.val (.long qx), .second, .val (.int vp), .val (.int vs0), .unset, .unset, .unset, .unset, .unset, .unset, .unset, .unset, .unset, .unset, .unset, .unset, .unset, .unset, .unset, .unset, .unset] [(.long ((-141349 : Int64) + ((qx &&& (9223372036854775807 : Int64)) - ((qx &&& (9223372036854775807 : Int64)) / (919316 : Int64)) * (919316 : Int64))))])) t → Steps p.tables e below (s₁.setTop (entryFrame m #[(.long qx), (.int vp), (.int vs0)] maxLocals)) t := fun t kt => by
    refine pre0 _ ?_
    refine X0.ldc2Long hx hown (mvT hZ (hw _ (List.mem_of_getElem? (i := 0) rfl))) (g := (mkF m 0 #[.val (.long qx), .second, .val (.int vp), .val (.int vs0), .unset, .unset, .unset, .unset, .unset, .unset, .unset, .unset, .unset, .unset, .unset, .unset, .unset, .unset, .unset, .unset, .unset] [])) rfl (hb hby at_0) _ ?_
    refine XS.lloadN X0.here hx rfl (hb hby at_3) rfl ?_
    refine X0.ldc2Long hx hown (mvT hZ (hw _ (List.mem_of_getElem? (i := 1) rfl))) (g := (mkF m 4 #[.val (.long qx), .second, .val (.int vp), .val (.int vs0), .unset, .unset, .unset, .unset, .unset, .unset, .unset, .unset, .unset, .unset, .unset, .unset, .unset, .unset, .unset, .unset, .unset] [(.long qx), (.long (-141349 : Int64))])) rfl (hb hby at_4) _ ?_
    refine XS.land X0.here hx rfl (hb hby at_7) rfl ?_
    show Steps p.tables e below (s₁.setTop (mkF m 8 #[.val (.long qx), .second, .val (.int vp), .val (.int vs0), .unset, .unset, .unset, .unset, .unset, .unset, .unset, .unset, .unset, .unset, .unset, .unset, .unset, .unset, .unset, .unset, .unset] [(.long (qx &&& (9223372036854775807 : Int64))), (.long (-141349 : Int64))])) _
    refine X0.ldc2Long hx hown (mvT hZ (hw _ (List.mem_of_getElem? (i := 2) rfl))) (g := (mkF m 8 #[.val (.long qx), .second, .val (.int vp), .val (.int vs0), .unset, .unset, .unset, .unset, .unset, .unset, .unset, .unset, .unset, .unset, .unset, .unset, .unset, .unset, .unset, .unset, .unset] [(.long (qx &&& (9223372036854775807 : Int64))), (.long (-141349 : Int64))])) rfl (hb hby at_8) _ ?_
    refine XS.lrem X0.here hx rfl (hb hby at_11) rfl (by decide) ?_
    refine XS.ladd X0.here hx rfl (hb hby at_12) rfl ?_
    exact kt
  obtain ⟨qe, hqe⟩ : ∃ z : Int64, z = ((-141349 : Int64) + ((qx &&& (9223372036854775807 : Int64)) - ((qx &&& (9223372036854775807 : Int64)) / (919316 : Int64)) * (919316 : Int64))) := ⟨_, rfl⟩
  have pre2 : ∀ t, Steps p.tables e below (s₁.setTop (mkF m 13 #[.val (.long qx), .second, .val (.int vp), .val (.int vs0), .unset, .unset, .unset, .unset, .unset, .unset, .unset, .unset, .unset, .unset, .unset, .unset, .unset, .unset, .unset, .unset, .unset] [(.long qe)])) t → Steps p.tables e below (s₁.setTop (entryFrame m #[(.long qx), (.int vp), (.int vs0)] maxLocals)) t := by rw [hqe]; exact pre1
  have jqe : -141349 ≤ qe.toInt ∧ qe.toInt ≤ 777966 := by rw [hqe]; have := rng64 qx; have : ((qx &&& (9223372036854775807 : Int64))).toInt = qx.toInt % 9223372036854775808 := c_maskL qx (9223372036854775807 : Int64) 63 (by decide) (by decide); have := c_lrem (qx &&& (9223372036854775807 : Int64)) (919316 : Int64) 919316 (by decide); (first | (have : (((-141349 : Int64) + ((qx &&& (9223372036854775807 : Int64)) - ((qx &&& (9223372036854775807 : Int64)) / (919316 : Int64)) * (919316 : Int64)))).toInt = (-141349 : Int) + ((qx &&& (9223372036854775807 : Int64)) - ((qx &&& (9223372036854775807 : Int64)) / (919316 : Int64)) * (919316 : Int64)).toInt := (by have : ((((-141349 : Int64) + ((qx &&& (9223372036854775807 : Int64)) - ((qx &&& (9223372036854775807 : Int64)) / (919316 : Int64)) * (919316 : Int64)))).toInt - ((-141349 : Int) + ((qx &&& (9223372036854775807 : Int64)) - ((qx &&& (9223372036854775807 : Int64)) / (919316 : Int64)) * (919316 : Int64)).toInt)) % 18446744073709551616 = 0 := c_ladd (-141349 : Int64) ((qx &&& (9223372036854775807 : Int64)) - ((qx &&& (9223372036854775807 : Int64)) / (919316 : Int64)) * (919316 : Int64)); have := rng64 ((-141349 : Int64) + ((qx &&& (9223372036854775807 : Int64)) - ((qx &&& (9223372036854775807 : Int64)) / (919316 : Int64)) * (919316 : Int64))); omega)) | (have : ((((-141349 : Int64) + ((qx &&& (9223372036854775807 : Int64)) - ((qx &&& (9223372036854775807 : Int64)) / (919316 : Int64)) * (919316 : Int64)))).toInt - ((-141349 : Int) + ((qx &&& (9223372036854775807 : Int64)) - ((qx &&& (9223372036854775807 : Int64)) / (919316 : Int64)) * (919316 : Int64)).toInt)) % 18446744073709551616 = 0 := c_ladd (-141349 : Int64) ((qx &&& (9223372036854775807 : Int64)) - ((qx &&& (9223372036854775807 : Int64)) / (919316 : Int64)) * (919316 : Int64)); have := rng64 ((-141349 : Int64) + ((qx &&& (9223372036854775807 : Int64)) - ((qx &&& (9223372036854775807 : Int64)) / (919316 : Int64)) * (919316 : Int64))))); omega
  have pre3 : ∀ t, Steps p.tables e below (s₁.setTop (mkF m 18 #[.val (.long qx), .second, .val (.int vp), .val (.int vs0), .val (.long qe), .second, .unset, .unset, .unset, .unset, .unset, .unset, .unset, .unset, .unset, .unset, .unset, .unset, .unset, .unset, .unset] [(.int (vp &&& (3 : Int32)))])) t → Steps p.tables e below (s₁.setTop (entryFrame m #[(.long qx), (.int vp), (.int vs0)] maxLocals)) t := fun t kt => by
    refine pre2 _ ?_
    refine XS.lstore X0.here hx rfl (hb hby at_13) rfl (l' := #[.val (.long qx), .second, .val (.int vp), .val (.int vs0), .val (.long qe), .second, .unset, .unset, .unset, .unset, .unset, .unset, .unset, .unset, .unset, .unset, .unset, .unset, .unset, .unset, .unset]) rfl ?_
    refine XS.iloadN X0.here hx rfl (hb hby at_15) rfl ?_
    show Steps p.tables e below (s₁.setTop (mkF m 16 #[.val (.long qx), .second, .val (.int vp), .val (.int vs0), .val (.long qe), .second, .unset, .unset, .unset, .unset, .unset, .unset, .unset, .unset, .unset, .unset, .unset, .unset, .unset, .unset, .unset] [(.int vp)])) _
    refine XS.iconst X0.here hx rfl (hb hby at_16) ?_
    refine XS.iand X0.here hx rfl (hb hby at_17) rfl ?_
    exact kt
  obtain ⟨vpl, hvpl⟩ : ∃ z : Int32, z = (vp &&& (3 : Int32)) := ⟨_, rfl⟩
  have ivpl : vpl.toInt = vp.toInt % 4 := by rw [hvpl]; have := rng32 vp; have : ((vp &&& (3 : Int32))).toInt = vp.toInt % 4 := c_mask vp (3 : Int32) 2 (by decide) (by decide); omega
  have pre4 : ∀ t, Steps p.tables e below (s₁.setTop (mkF m 18 #[.val (.long qx), .second, .val (.int vp), .val (.int vs0), .val (.long qe), .second, .unset, .unset, .unset, .unset, .unset, .unset, .unset, .unset, .unset, .unset, .unset, .unset, .unset, .unset, .unset] [(.int vpl)])) t → Steps p.tables e below (s₁.setTop (entryFrame m #[(.long qx), (.int vp), (.int vs0)] maxLocals)) t := by rw [hvpl]; exact pre3
  obtain ⟨pn, hpn⟩ : ∃ pn : Nat, vpl.toInt = pn := ⟨vpl.toInt.toNat, by omega⟩
  have hp3 : pn ≤ 3 := by omega
  have pre5 : ∀ t, Steps p.tables e below (s₁.setTop (mkF m 22 #[.val (.long qx), .second, .val (.int vp), .val (.int vs0), .val (.long qe), .second, .val (.int vpl), .unset, .unset, .unset, .unset, .unset, .unset, .unset, .unset, .unset, .unset, .unset, .unset, .unset, .unset] [(.int (vs0.toInt8.toInt32))])) t → Steps p.tables e below (s₁.setTop (entryFrame m #[(.long qx), (.int vp), (.int vs0)] maxLocals)) t := fun t kt => by
    refine pre4 _ ?_
    refine XS.istore X0.here hx rfl (hb hby at_18) rfl (l' := #[.val (.long qx), .second, .val (.int vp), .val (.int vs0), .val (.long qe), .second, .val (.int vpl), .unset, .unset, .unset, .unset, .unset, .unset, .unset, .unset, .unset, .unset, .unset, .unset, .unset, .unset]) rfl ?_
    refine XS.iloadN X0.here hx rfl (hb hby at_20) rfl ?_
    refine XS.i2b X0.here hx rfl (hb hby at_21) rfl ?_
    exact kt
  obtain ⟨vf, hvf⟩ : ∃ z : Int32, z = (vs0.toInt8.toInt32) := ⟨_, rfl⟩
  have jvf : -128 ≤ vf.toInt ∧ vf.toInt ≤ 127 := by rw [hvf]; have := rng32 vs0; (first | (have : ((vs0.toInt8.toInt32)).toInt = vs0.toInt := (by have := c_i2b vs0; omega)) | (have := c_i2b vs0)); omega
  have pre6 : ∀ t, Steps p.tables e below (s₁.setTop (mkF m 22 #[.val (.long qx), .second, .val (.int vp), .val (.int vs0), .val (.long qe), .second, .val (.int vpl), .unset, .unset, .unset, .unset, .unset, .unset, .unset, .unset, .unset, .unset, .unset, .unset, .unset, .unset] [(.int vf)])) t → Steps p.tables e below (s₁.setTop (entryFrame m #[(.long qx), (.int vp), (.int vs0)] maxLocals)) t := by rw [hvf]; exact pre5
  obtain ⟨T7, h7, k7, X7, e7, E7, A7, st7⟩ := newP X0 hx hZ (hw _ (List.mem_of_getElem? (i := 3) rfl)) e0 (g := (mkF m 26 #[.val (.long qx), .second, .val (.int vp), .val (.int vs0), .val (.long qe), .second, .val (.int vpl), .val (.int vf), .unset, .unset, .unset, .unset, .unset, .unset, .unset, .unset, .unset, .unset, .unset, .unset, .unset] [(.int (14 : Int32))])) rfl (hb hby at_26) rfl (by decide) (cap := 14) (by decide) (by decide) (by decide) (by decide)
  obtain ⟨b7, g7⟩ : ∃ z, z = h0.size := ⟨_, rfl⟩
  have g_b7 : n0 ≤ b7 := Nat.le_trans Z0 (Nat.le_of_eq g7.symm)
  have sz_b7 : h0.size ≤ b7 := Nat.le_trans (Keep.refl h0 []).1 (Nat.le_of_eq g7.symm)
  rw [← g7] at A7 st7
  have Zs8 : n0 ≤ h7.size := Nat.le_trans Z0 E7.1
  have V7 : Arv Z h7 b7 k7 .byte (14 : Int32) [(.int (0 : Int32)), (.int (0 : Int32)), (.int (0 : Int32)), (.int (0 : Int32)), (.int (0 : Int32)), (.int (0 : Int32)), (.int (0 : Int32)), (.int (0 : Int32)), (.int (0 : Int32)), (.int (0 : Int32)), (.int (0 : Int32)), (.int (0 : Int32)), (.int (0 : Int32)), (.int (0 : Int32))] (.int (0 : Int32)) := (Arv.new A7 (by decide)).pad (pad_rep [] (.int (0 : Int32)) 14)
  obtain ⟨cl9, Ar9, q9, S9, M9, H9, G9⟩ := id V7
  have hin9 : ¬ ((0 : Int32) < 0 ∨ cl9.slots.size ≤ ((0 : Int32)).toNatClampNeg) := inb_of S9 ⟨by decide, by decide⟩
  obtain ⟨T10, h10, X10, e10, W10, st10⟩ := stB X7 hx hZ e7 Ar9 (j := (0 : Int32)) hin9 (g := (mkF m 32 #[.val (.long qx), .second, .val (.int vp), .val (.int vs0), .val (.long qe), .second, .val (.int vpl), .val (.int vf), .unset, .unset, .unset, .unset, .unset, .unset, .unset, .unset, .unset, .unset, .unset, .unset, .unset] [(.int vf), (.int (0 : Int32)), (.ref b7), (.ref b7)])) rfl rfl (hb hby at_32)
  have N10 := Fr.snoc X10 N0 g_b7
  have Zs11 : n0 ≤ h10.size := by rw [W10.size]; exact Zs8
  have V10 : Arv Z h10 b7 k7 .byte (14 : Int32) [(.int (nar .byte vf)), (.int (0 : Int32)), (.int (0 : Int32)), (.int (0 : Int32)), (.int (0 : Int32)), (.int (0 : Int32)), (.int (0 : Int32)), (.int (0 : Int32)), (.int (0 : Int32)), (.int (0 : Int32)), (.int (0 : Int32)), (.int (0 : Int32)), (.int (0 : Int32)), (.int (0 : Int32))] (.int (0 : Int32)) := Arv.set Ar9 q9 S9 M9 H9 G9 (fits_nar_byte _) W10 0 rfl (Nat.le_of_ble_eq_true rfl)
  obtain ⟨cl12, Ar12, q12, S12, M12, H12, G12⟩ := id V10
  have hin12 : ¬ ((1 : Int32) < 0 ∨ cl12.slots.size ≤ ((1 : Int32)).toNatClampNeg) := inb_of S12 ⟨by decide, by decide⟩
  obtain ⟨T13, h13, X13, e13, W13, st13⟩ := stB X10 hx hZ e10 Ar12 (j := (1 : Int32)) hin12 (g := (mkF m 37 #[.val (.long qx), .second, .val (.int vp), .val (.int vs0), .val (.long qe), .second, .val (.int vpl), .val (.int vf), .unset, .unset, .unset, .unset, .unset, .unset, .unset, .unset, .unset, .unset, .unset, .unset, .unset] [(.int vf), (.int (1 : Int32)), (.ref b7), (.ref b7)])) rfl rfl (hb hby at_37)
  have N13 := Fr.snoc X13 N10 g_b7
  have Zs14 : n0 ≤ h13.size := by rw [W13.size]; exact Zs11
  have V13 : Arv Z h13 b7 k7 .byte (14 : Int32) [(.int (nar .byte vf)), (.int (nar .byte vf)), (.int (0 : Int32)), (.int (0 : Int32)), (.int (0 : Int32)), (.int (0 : Int32)), (.int (0 : Int32)), (.int (0 : Int32)), (.int (0 : Int32)), (.int (0 : Int32)), (.int (0 : Int32)), (.int (0 : Int32)), (.int (0 : Int32)), (.int (0 : Int32))] (.int (0 : Int32)) := Arv.set Ar12 q12 S12 M12 H12 G12 (fits_nar_byte _) W13 1 rfl (Nat.le_of_ble_eq_true rfl)
  obtain ⟨cl15, Ar15, q15, S15, M15, H15, G15⟩ := id V13
  have hin15 : ¬ ((2 : Int32) < 0 ∨ cl15.slots.size ≤ ((2 : Int32)).toNatClampNeg) := inb_of S15 ⟨by decide, by decide⟩
  obtain ⟨T16, h16, X16, e16, W16, st16⟩ := stB X13 hx hZ e13 Ar15 (j := (2 : Int32)) hin15 (g := (mkF m 42 #[.val (.long qx), .second, .val (.int vp), .val (.int vs0), .val (.long qe), .second, .val (.int vpl), .val (.int vf), .unset, .unset, .unset, .unset, .unset, .unset, .unset, .unset, .unset, .unset, .unset, .unset, .unset] [(.int vf), (.int (2 : Int32)), (.ref b7), (.ref b7)])) rfl rfl (hb hby at_42)
  have N16 := Fr.snoc X16 N13 g_b7
  have Zs17 : n0 ≤ h16.size := by rw [W16.size]; exact Zs14
  have V16 : Arv Z h16 b7 k7 .byte (14 : Int32) [(.int (nar .byte vf)), (.int (nar .byte vf)), (.int (nar .byte vf)), (.int (0 : Int32)), (.int (0 : Int32)), (.int (0 : Int32)), (.int (0 : Int32)), (.int (0 : Int32)), (.int (0 : Int32)), (.int (0 : Int32)), (.int (0 : Int32)), (.int (0 : Int32)), (.int (0 : Int32)), (.int (0 : Int32))] (.int (0 : Int32)) := Arv.set Ar15 q15 S15 M15 H15 G15 (fits_nar_byte _) W16 2 rfl (Nat.le_of_ble_eq_true rfl)
  obtain ⟨cl18, Ar18, q18, S18, M18, H18, G18⟩ := id V16
  have hin18 : ¬ ((3 : Int32) < 0 ∨ cl18.slots.size ≤ ((3 : Int32)).toNatClampNeg) := inb_of S18 ⟨by decide, by decide⟩
  obtain ⟨T19, h19, X19, e19, W19, st19⟩ := stB X16 hx hZ e16 Ar18 (j := (3 : Int32)) hin18 (g := (mkF m 47 #[.val (.long qx), .second, .val (.int vp), .val (.int vs0), .val (.long qe), .second, .val (.int vpl), .val (.int vf), .unset, .unset, .unset, .unset, .unset, .unset, .unset, .unset, .unset, .unset, .unset, .unset, .unset] [(.int vf), (.int (3 : Int32)), (.ref b7), (.ref b7)])) rfl rfl (hb hby at_47)
  have N19 := Fr.snoc X19 N16 g_b7
  have Zs20 : n0 ≤ h19.size := by rw [W19.size]; exact Zs17
  have V19 : Arv Z h19 b7 k7 .byte (14 : Int32) [(.int (nar .byte vf)), (.int (nar .byte vf)), (.int (nar .byte vf)), (.int (nar .byte vf)), (.int (0 : Int32)), (.int (0 : Int32)), (.int (0 : Int32)), (.int (0 : Int32)), (.int (0 : Int32)), (.int (0 : Int32)), (.int (0 : Int32)), (.int (0 : Int32)), (.int (0 : Int32)), (.int (0 : Int32))] (.int (0 : Int32)) := Arv.set Ar18 q18 S18 M18 H18 G18 (fits_nar_byte _) W19 3 rfl (Nat.le_of_ble_eq_true rfl)
  obtain ⟨cl21, Ar21, q21, S21, M21, H21, G21⟩ := id V19
  have hin21 : ¬ ((4 : Int32) < 0 ∨ cl21.slots.size ≤ ((4 : Int32)).toNatClampNeg) := inb_of S21 ⟨by decide, by decide⟩
  obtain ⟨T22, h22, X22, e22, W22, st22⟩ := stB X19 hx hZ e19 Ar21 (j := (4 : Int32)) hin21 (g := (mkF m 52 #[.val (.long qx), .second, .val (.int vp), .val (.int vs0), .val (.long qe), .second, .val (.int vpl), .val (.int vf), .unset, .unset, .unset, .unset, .unset, .unset, .unset, .unset, .unset, .unset, .unset, .unset, .unset] [(.int vf), (.int (4 : Int32)), (.ref b7), (.ref b7)])) rfl rfl (hb hby at_52)
  have N22 := Fr.snoc X22 N19 g_b7
  have Zs23 : n0 ≤ h22.size := by rw [W22.size]; exact Zs20
  have V22 : Arv Z h22 b7 k7 .byte (14 : Int32) [(.int (nar .byte vf)), (.int (nar .byte vf)), (.int (nar .byte vf)), (.int (nar .byte vf)), (.int (nar .byte vf)), (.int (0 : Int32)), (.int (0 : Int32)), (.int (0 : Int32)), (.int (0 : Int32)), (.int (0 : Int32)), (.int (0 : Int32)), (.int (0 : Int32)), (.int (0 : Int32)), (.int (0 : Int32))] (.int (0 : Int32)) := Arv.set Ar21 q21 S21 M21 H21 G21 (fits_nar_byte _) W22 4 rfl (Nat.le_of_ble_eq_true rfl)
  obtain ⟨cl24, Ar24, q24, S24, M24, H24, G24⟩ := id V22
  have hin24 : ¬ ((5 : Int32) < 0 ∨ cl24.slots.size ≤ ((5 : Int32)).toNatClampNeg) := inb_of S24 ⟨by decide, by decide⟩
  obtain ⟨T25, h25, X25, e25, W25, st25⟩ := stB X22 hx hZ e22 Ar24 (j := (5 : Int32)) hin24 (g := (mkF m 57 #[.val (.long qx), .second, .val (.int vp), .val (.int vs0), .val (.long qe), .second, .val (.int vpl), .val (.int vf), .unset, .unset, .unset, .unset, .unset, .unset, .unset, .unset, .unset, .unset, .unset, .unset, .unset] [(.int vf), (.int (5 : Int32)), (.ref b7), (.ref b7)])) rfl rfl (hb hby at_57)
  have N25 := Fr.snoc X25 N22 g_b7
  have Zs26 : n0 ≤ h25.size := by rw [W25.size]; exact Zs23
  have V25 : Arv Z h25 b7 k7 .byte (14 : Int32) [(.int (nar .byte vf)), (.int (nar .byte vf)), (.int (nar .byte vf)), (.int (nar .byte vf)), (.int (nar .byte vf)), (.int (nar .byte vf)), (.int (0 : Int32)), (.int (0 : Int32)), (.int (0 : Int32)), (.int (0 : Int32)), (.int (0 : Int32)), (.int (0 : Int32)), (.int (0 : Int32)), (.int (0 : Int32))] (.int (0 : Int32)) := Arv.set Ar24 q24 S24 M24 H24 G24 (fits_nar_byte _) W25 5 rfl (Nat.le_of_ble_eq_true rfl)
  obtain ⟨cl27, Ar27, q27, S27, M27, H27, G27⟩ := id V25
  have hin27 : ¬ ((6 : Int32) < 0 ∨ cl27.slots.size ≤ ((6 : Int32)).toNatClampNeg) := inb_of S27 ⟨by decide, by decide⟩
  obtain ⟨T28, h28, X28, e28, W28, st28⟩ := stB X25 hx hZ e25 Ar27 (j := (6 : Int32)) hin27 (g := (mkF m 63 #[.val (.long qx), .second, .val (.int vp), .val (.int vs0), .val (.long qe), .second, .val (.int vpl), .val (.int vf), .unset, .unset, .unset, .unset, .unset, .unset, .unset, .unset, .unset, .unset, .unset, .unset, .unset] [(.int vf), (.int (6 : Int32)), (.ref b7), (.ref b7)])) rfl rfl (hb hby at_63)
  have N28 := Fr.snoc X28 N25 g_b7
  have Zs29 : n0 ≤ h28.size := by rw [W28.size]; exact Zs26
  have V28 : Arv Z h28 b7 k7 .byte (14 : Int32) [(.int (nar .byte vf)), (.int (nar .byte vf)), (.int (nar .byte vf)), (.int (nar .byte vf)), (.int (nar .byte vf)), (.int (nar .byte vf)), (.int (nar .byte vf)), (.int (0 : Int32)), (.int (0 : Int32)), (.int (0 : Int32)), (.int (0 : Int32)), (.int (0 : Int32)), (.int (0 : Int32)), (.int (0 : Int32))] (.int (0 : Int32)) := Arv.set Ar27 q27 S27 M27 H27 G27 (fits_nar_byte _) W28 6 rfl (Nat.le_of_ble_eq_true rfl)
  obtain ⟨cl30, Ar30, q30, S30, M30, H30, G30⟩ := id V28
  have hin30 : ¬ ((7 : Int32) < 0 ∨ cl30.slots.size ≤ ((7 : Int32)).toNatClampNeg) := inb_of S30 ⟨by decide, by decide⟩
  obtain ⟨T31, h31, X31, e31, W31, st31⟩ := stB X28 hx hZ e28 Ar30 (j := (7 : Int32)) hin30 (g := (mkF m 69 #[.val (.long qx), .second, .val (.int vp), .val (.int vs0), .val (.long qe), .second, .val (.int vpl), .val (.int vf), .unset, .unset, .unset, .unset, .unset, .unset, .unset, .unset, .unset, .unset, .unset, .unset, .unset] [(.int vf), (.int (7 : Int32)), (.ref b7), (.ref b7)])) rfl rfl (hb hby at_69)
  have N31 := Fr.snoc X31 N28 g_b7
  have Zs32 : n0 ≤ h31.size := by rw [W31.size]; exact Zs29
  have V31 : Arv Z h31 b7 k7 .byte (14 : Int32) [(.int (nar .byte vf)), (.int (nar .byte vf)), (.int (nar .byte vf)), (.int (nar .byte vf)), (.int (nar .byte vf)), (.int (nar .byte vf)), (.int (nar .byte vf)), (.int (nar .byte vf)), (.int (0 : Int32)), (.int (0 : Int32)), (.int (0 : Int32)), (.int (0 : Int32)), (.int (0 : Int32)), (.int (0 : Int32))] (.int (0 : Int32)) := Arv.set Ar30 q30 S30 M30 H30 G30 (fits_nar_byte _) W31 7 rfl (Nat.le_of_ble_eq_true rfl)
  obtain ⟨cl33, Ar33, q33, S33, M33, H33, G33⟩ := id V31
  have hin33 : ¬ ((8 : Int32) < 0 ∨ cl33.slots.size ≤ ((8 : Int32)).toNatClampNeg) := inb_of S33 ⟨by decide, by decide⟩
  obtain ⟨T34, h34, X34, e34, W34, st34⟩ := stB X31 hx hZ e31 Ar33 (j := (8 : Int32)) hin33 (g := (mkF m 75 #[.val (.long qx), .second, .val (.int vp), .val (.int vs0), .val (.long qe), .second, .val (.int vpl), .val (.int vf), .unset, .unset, .unset, .unset, .unset, .unset, .unset, .unset, .unset, .unset, .unset, .unset, .unset] [(.int vf), (.int (8 : Int32)), (.ref b7), (.ref b7)])) rfl rfl (hb hby at_75)
  have N34 := Fr.snoc X34 N31 g_b7
  have Zs35 : n0 ≤ h34.size := by rw [W34.size]; exact Zs32
  have V34 : Arv Z h34 b7 k7 .byte (14 : Int32) [(.int (nar .byte vf)), (.int (nar .byte vf)), (.int (nar .byte vf)), (.int (nar .byte vf)), (.int (nar .byte vf)), (.int (nar .byte vf)), (.int (nar .byte vf)), (.int (nar .byte vf)), (.int (nar .byte vf)), (.int (0 : Int32)), (.int (0 : Int32)), (.int (0 : Int32)), (.int (0 : Int32)), (.int (0 : Int32))] (.int (0 : Int32)) := Arv.set Ar33 q33 S33 M33 H33 G33 (fits_nar_byte _) W34 8 rfl (Nat.le_of_ble_eq_true rfl)
  obtain ⟨cl36, Ar36, q36, S36, M36, H36, G36⟩ := id V34
  have hin36 : ¬ ((9 : Int32) < 0 ∨ cl36.slots.size ≤ ((9 : Int32)).toNatClampNeg) := inb_of S36 ⟨by decide, by decide⟩
  obtain ⟨T37, h37, X37, e37, W37, st37⟩ := stB X34 hx hZ e34 Ar36 (j := (9 : Int32)) hin36 (g := (mkF m 81 #[.val (.long qx), .second, .val (.int vp), .val (.int vs0), .val (.long qe), .second, .val (.int vpl), .val (.int vf), .unset, .unset, .unset, .unset, .unset, .unset, .unset, .unset, .unset, .unset, .unset, .unset, .unset] [(.int vf), (.int (9 : Int32)), (.ref b7), (.ref b7)])) rfl rfl (hb hby at_81)
  have N37 := Fr.snoc X37 N34 g_b7
  have Zs38 : n0 ≤ h37.size := by rw [W37.size]; exact Zs35
  have V37 : Arv Z h37 b7 k7 .byte (14 : Int32) [(.int (nar .byte vf)), (.int (nar .byte vf)), (.int (nar .byte vf)), (.int (nar .byte vf)), (.int (nar .byte vf)), (.int (nar .byte vf)), (.int (nar .byte vf)), (.int (nar .byte vf)), (.int (nar .byte vf)), (.int (nar .byte vf)), (.int (0 : Int32)), (.int (0 : Int32)), (.int (0 : Int32)), (.int (0 : Int32))] (.int (0 : Int32)) := Arv.set Ar36 q36 S36 M36 H36 G36 (fits_nar_byte _) W37 9 rfl (Nat.le_of_ble_eq_true rfl)
  obtain ⟨cl39, Ar39, q39, S39, M39, H39, G39⟩ := id V37
  have hin39 : ¬ ((10 : Int32) < 0 ∨ cl39.slots.size ≤ ((10 : Int32)).toNatClampNeg) := inb_of S39 ⟨by decide, by decide⟩
  obtain ⟨T40, h40, X40, e40, W40, st40⟩ := stB X37 hx hZ e37 Ar39 (j := (10 : Int32)) hin39 (g := (mkF m 87 #[.val (.long qx), .second, .val (.int vp), .val (.int vs0), .val (.long qe), .second, .val (.int vpl), .val (.int vf), .unset, .unset, .unset, .unset, .unset, .unset, .unset, .unset, .unset, .unset, .unset, .unset, .unset] [(.int vf), (.int (10 : Int32)), (.ref b7), (.ref b7)])) rfl rfl (hb hby at_87)
  have N40 := Fr.snoc X40 N37 g_b7
  have Zs41 : n0 ≤ h40.size := by rw [W40.size]; exact Zs38
  have V40 : Arv Z h40 b7 k7 .byte (14 : Int32) [(.int (nar .byte vf)), (.int (nar .byte vf)), (.int (nar .byte vf)), (.int (nar .byte vf)), (.int (nar .byte vf)), (.int (nar .byte vf)), (.int (nar .byte vf)), (.int (nar .byte vf)), (.int (nar .byte vf)), (.int (nar .byte vf)), (.int (nar .byte vf)), (.int (0 : Int32)), (.int (0 : Int32)), (.int (0 : Int32))] (.int (0 : Int32)) := Arv.set Ar39 q39 S39 M39 H39 G39 (fits_nar_byte _) W40 10 rfl (Nat.le_of_ble_eq_true rfl)
  obtain ⟨cl42, Ar42, q42, S42, M42, H42, G42⟩ := id V40
  have hin42 : ¬ ((11 : Int32) < 0 ∨ cl42.slots.size ≤ ((11 : Int32)).toNatClampNeg) := inb_of S42 ⟨by decide, by decide⟩
  obtain ⟨T43, h43, X43, e43, W43, st43⟩ := stB X40 hx hZ e40 Ar42 (j := (11 : Int32)) hin42 (g := (mkF m 93 #[.val (.long qx), .second, .val (.int vp), .val (.int vs0), .val (.long qe), .second, .val (.int vpl), .val (.int vf), .unset, .unset, .unset, .unset, .unset, .unset, .unset, .unset, .unset, .unset, .unset, .unset, .unset] [(.int vf), (.int (11 : Int32)), (.ref b7), (.ref b7)])) rfl rfl (hb hby at_93)
  have N43 := Fr.snoc X43 N40 g_b7
  have Zs44 : n0 ≤ h43.size := by rw [W43.size]; exact Zs41
  have V43 : Arv Z h43 b7 k7 .byte (14 : Int32) [(.int (nar .byte vf)), (.int (nar .byte vf)), (.int (nar .byte vf)), (.int (nar .byte vf)), (.int (nar .byte vf)), (.int (nar .byte vf)), (.int (nar .byte vf)), (.int (nar .byte vf)), (.int (nar .byte vf)), (.int (nar .byte vf)), (.int (nar .byte vf)), (.int (nar .byte vf)), (.int (0 : Int32)), (.int (0 : Int32))] (.int (0 : Int32)) := Arv.set Ar42 q42 S42 M42 H42 G42 (fits_nar_byte _) W43 11 rfl (Nat.le_of_ble_eq_true rfl)
  obtain ⟨cl45, Ar45, q45, S45, M45, H45, G45⟩ := id V43
  have hin45 : ¬ ((12 : Int32) < 0 ∨ cl45.slots.size ≤ ((12 : Int32)).toNatClampNeg) := inb_of S45 ⟨by decide, by decide⟩
  obtain ⟨T46, h46, X46, e46, W46, st46⟩ := stB X43 hx hZ e43 Ar45 (j := (12 : Int32)) hin45 (g := (mkF m 99 #[.val (.long qx), .second, .val (.int vp), .val (.int vs0), .val (.long qe), .second, .val (.int vpl), .val (.int vf), .unset, .unset, .unset, .unset, .unset, .unset, .unset, .unset, .unset, .unset, .unset, .unset, .unset] [(.int vf), (.int (12 : Int32)), (.ref b7), (.ref b7)])) rfl rfl (hb hby at_99)
  have N46 := Fr.snoc X46 N43 g_b7
  have Zs47 : n0 ≤ h46.size := by rw [W46.size]; exact Zs44
  have V46 : Arv Z h46 b7 k7 .byte (14 : Int32) [(.int (nar .byte vf)), (.int (nar .byte vf)), (.int (nar .byte vf)), (.int (nar .byte vf)), (.int (nar .byte vf)), (.int (nar .byte vf)), (.int (nar .byte vf)), (.int (nar .byte vf)), (.int (nar .byte vf)), (.int (nar .byte vf)), (.int (nar .byte vf)), (.int (nar .byte vf)), (.int (nar .byte vf)), (.int (0 : Int32))] (.int (0 : Int32)) := Arv.set Ar45 q45 S45 M45 H45 G45 (fits_nar_byte _) W46 12 rfl (Nat.le_of_ble_eq_true rfl)
  obtain ⟨cl48, Ar48, q48, S48, M48, H48, G48⟩ := id V46
  have hin48 : ¬ ((13 : Int32) < 0 ∨ cl48.slots.size ≤ ((13 : Int32)).toNatClampNeg) := inb_of S48 ⟨by decide, by decide⟩
  obtain ⟨T49, h49, X49, e49, W49, st49⟩ := stB X46 hx hZ e46 Ar48 (j := (13 : Int32)) hin48 (g := (mkF m 105 #[.val (.long qx), .second, .val (.int vp), .val (.int vs0), .val (.long qe), .second, .val (.int vpl), .val (.int vf), .unset, .unset, .unset, .unset, .unset, .unset, .unset, .unset, .unset, .unset, .unset, .unset, .unset] [(.int vf), (.int (13 : Int32)), (.ref b7), (.ref b7)])) rfl rfl (hb hby at_105)
  have N49 := Fr.snoc X49 N46 g_b7
  have Zs50 : n0 ≤ h49.size := by rw [W49.size]; exact Zs47
  have V49 : Arv Z h49 b7 k7 .byte (14 : Int32) [(.int (nar .byte vf)), (.int (nar .byte vf)), (.int (nar .byte vf)), (.int (nar .byte vf)), (.int (nar .byte vf)), (.int (nar .byte vf)), (.int (nar .byte vf)), (.int (nar .byte vf)), (.int (nar .byte vf)), (.int (nar .byte vf)), (.int (nar .byte vf)), (.int (nar .byte vf)), (.int (nar .byte vf)), (.int (nar .byte vf))] (.int (0 : Int32)) := Arv.set Ar48 q48 S48 M48 H48 G48 (fits_nar_byte _) W49 13 rfl (Nat.le_of_ble_eq_true rfl)
  have hnf : nar .byte vf = vf := own_narb vf jvf.1 jvf.2
  have Vr : Arv Z h49 b7 k7 .byte (14 : Int32) (List.replicate 14 (.int vf)) (.int (0 : Int32)) := by
    have q := V49
    rw [hnf] at q; exact q
  obtain ⟨_, _, ⟨T51, L51, k51, n51⟩, -, X51, ⟨Lc51, hQ51, l51, y51, z51⟩, st51⟩ := Jvm.LawKit.callS X49 hx (y := (⟨"com/example/mod7/mod7/calendar/Dates", "write", "(J[BI)I"⟩ : MethodName)) hown (mvT hZ (hw _ (List.mem_of_getElem? (i := 4) rfl))) (mvT hZ (hw _ (List.mem_of_getElem? (i := 5) rfl))) (mvT hZ (hw _ (List.mem_of_getElem? (i := 6) rfl))) (mvT hZ (hw _ (List.mem_of_getElem? (i := 7) rfl))) (by decide) (backOf (W := 0) (rm1 l Z a0 hw [] qe b7 vpl k7 (List.replicate 14 (.int vf)) pn h49 n0 Zs50 Vr rfl hpn hp3 g_b7 jqe.1 jqe.2) hZ (hw _ (List.mem_of_getElem? (i := 7) rfl)) (hw _ (List.mem_of_getElem? (i := 6) rfl)) (by decide) (by decide)) (g := (mkF m 114 #[.val (.long qx), .second, .val (.int vp), .val (.int vs0), .val (.long qe), .second, .val (.int vpl), .val (.int vf), .val (.ref b7), .unset, .unset, .unset, .unset, .unset, .unset, .unset, .unset, .unset, .unset, .unset, .unset] [(.int vpl), (.ref b7), (.long qe)])) rfl (by rw [hml]; rfl) (argsL := [(.long qe), (.ref b7), (.int vpl)]) (rest := []) (lenOf pd_1 rfl) rfl (by show 2 * 0 + _ ≤ _; exact Nat.le_of_eq rfl) (hb hby at_114) (fun _ _ => ⟨rfl, e49, (by decide : 1 + 0 ≤ _), (by decide : 14 + 0 ≤ _)⟩)
  dsimp only [Pt.U, Pt.locs, Pt.cells, Pt.slots] at X51 l51 y51 z51 st51 hQ51
  rw [l51, y51, z51] at X51
  obtain ⟨zw, w0, w1, w2, w3, w4, w5, w6, w7, w8, w9, Y, Mo, Da, rfl, hzw, N51q, K51, Vt, hdate, iw0, iw1, iw2, iw3, iw4, iw5, iw6, iw7, iw8, iw9⟩ := hQ51
  have N51 := Fr.app N49 N51q
  have Zs52 : n0 ≤ T51.heap.size := Nat.le_trans Zs50 K51.1
  obtain ⟨cv1, cv2, cv3, cv4, cv5, cv6, cv7, cv8, cv9, cv10⟩ := hdate
  have hc126_53 : zw.toInt = (vpl + (10 : Int32)).toInt := by have := rng32 zw; have := rng32 vpl; (first | (have : ((vpl + (10 : Int32))).toInt = vpl.toInt + (10 : Int) := (by have : (((vpl + (10 : Int32))).toInt - (vpl.toInt + (10 : Int))) % 4294967296 = 0 := c_iadd vpl (10 : Int32); have := rng32 (vpl + (10 : Int32)); omega)) | (have : (((vpl + (10 : Int32))).toInt - (vpl.toInt + (10 : Int))) % 4294967296 = 0 := c_iadd vpl (10 : Int32); have := rng32 (vpl + (10 : Int32)))); omega
  obtain ⟨_, _, ⟨T54, L54, k54, n54⟩, -, X54, ⟨Lc54, hQ54, l54, y54, z54⟩, st54⟩ := Jvm.LawKit.callS X51 hx (y := (⟨"com/example/mod7/mod7/calendar/DatesWritePinLaw", "kept", "([BIIB)Z"⟩ : MethodName)) hown (mvT hZ (hw _ (List.mem_of_getElem? (i := 12) rfl))) (mvT hZ (hw _ (List.mem_of_getElem? (i := 13) rfl))) (mvT hZ (hw _ (List.mem_of_getElem? (i := 14) rfl))) (mvT hZ (hw _ (List.mem_of_getElem? (i := 15) rfl))) (by decide) (backOf (W := 0) (rm2 l Z a0 hw [] b7 (0 : Int32) vpl vf k7 (own_ten (List.replicate 14 (.int vf)) pn w0 w1 w2 w3 w4 w5 w6 w7 w8 w9) T51.heap n0 Zs52 Vt (by decide) (by decide) (by omega) (by omega) (fun q => own_out pn hp3 vf w0 w1 w2 w3 w4 w5 w6 w7 w8 w9 0 (by decide) (by have k0 : (0 : Int32).toInt = 0 := (by decide); omega))) hZ (hw _ (List.mem_of_getElem? (i := 15) rfl)) (hw _ (List.mem_of_getElem? (i := 14) rfl)) (by decide) (by decide)) (g := (mkF m 138 #[.val (.long qx), .second, .val (.int vp), .val (.int vs0), .val (.long qe), .second, .val (.int vpl), .val (.int vf), .val (.ref b7), .val (.int zw), .unset, .unset, .unset, .unset, .unset, .unset, .unset, .unset, .unset, .unset, .unset] [(.int vf), (.int vpl), (.int (0 : Int32)), (.ref b7)])) rfl (by rw [hml]; rfl) (argsL := [(.ref b7), (.int (0 : Int32)), (.int vpl), (.int vf)]) (rest := []) (lenOf pd_2 rfl) rfl (by show 2 * 0 + _ ≤ _; exact Nat.le_of_eq rfl) (hb hby at_138) (fun _ _ => ⟨rfl, rfl, (by decide : 1 + 0 ≤ _), (by decide : 14 + 0 ≤ _)⟩)
  dsimp only [Pt.U, Pt.locs, Pt.cells, Pt.slots] at X54 l54 y54 z54 st54 hQ54
  rw [l54, y54, z54] at X54
  obtain ⟨kp0, rfl, hkp0, N54q, e54⟩ := hQ54
  have N54 := Fr.app N51 N54q
  have hc141_55 : ¬ (kp0.toInt = (0 : Int)) := by omega
  obtain ⟨_, _, ⟨T56, L56, k56, n56⟩, -, X56, ⟨Lc56, hQ56, l56, y56, z56⟩, st56⟩ := Jvm.LawKit.callS X54 hx (y := (⟨"com/example/mod7/mod7/calendar/DatesWritePinLaw", "kept", "([BIIB)Z"⟩ : MethodName)) hown (mvT hZ (hw _ (List.mem_of_getElem? (i := 12) rfl))) (mvT hZ (hw _ (List.mem_of_getElem? (i := 13) rfl))) (mvT hZ (hw _ (List.mem_of_getElem? (i := 14) rfl))) (mvT hZ (hw _ (List.mem_of_getElem? (i := 15) rfl))) (by decide) (backOf (W := 0) (rm2 l Z a0 hw [] b7 (1 : Int32) vpl vf k7 (own_ten (List.replicate 14 (.int vf)) pn w0 w1 w2 w3 w4 w5 w6 w7 w8 w9) T51.heap n0 Zs52 Vt (by decide) (by decide) (by omega) (by omega) (fun q => own_out pn hp3 vf w0 w1 w2 w3 w4 w5 w6 w7 w8 w9 1 (by decide) (by have k0 : (1 : Int32).toInt = 1 := (by decide); omega))) hZ (hw _ (List.mem_of_getElem? (i := 15) rfl)) (hw _ (List.mem_of_getElem? (i := 14) rfl)) (by decide) (by decide)) (g := (mkF m 151 #[.val (.long qx), .second, .val (.int vp), .val (.int vs0), .val (.long qe), .second, .val (.int vpl), .val (.int vf), .val (.ref b7), .val (.int zw), .unset, .unset, .unset, .unset, .unset, .unset, .unset, .unset, .unset, .unset, .unset] [(.int vf), (.int vpl), (.int (1 : Int32)), (.ref b7)])) rfl (by rw [hml]; rfl) (argsL := [(.ref b7), (.int (1 : Int32)), (.int vpl), (.int vf)]) (rest := []) (lenOf pd_2 rfl) rfl (by show 2 * 0 + _ ≤ _; exact Nat.le_of_eq rfl) (hb hby at_151) (fun _ _ => ⟨rfl, e54, (by decide : 1 + 0 ≤ _), (by decide : 14 + 0 ≤ _)⟩)
  dsimp only [Pt.U, Pt.locs, Pt.cells, Pt.slots] at X56 l56 y56 z56 st56 hQ56
  rw [l56, y56, z56] at X56
  obtain ⟨kp1, rfl, hkp1, N56q, e56⟩ := hQ56
  have N56 := Fr.app N54 N56q
  have hc154_57 : ¬ (kp1.toInt = (0 : Int)) := by omega
  obtain ⟨_, _, ⟨T58, L58, k58, n58⟩, -, X58, ⟨Lc58, hQ58, l58, y58, z58⟩, st58⟩ := Jvm.LawKit.callS X56 hx (y := (⟨"com/example/mod7/mod7/calendar/DatesWritePinLaw", "kept", "([BIIB)Z"⟩ : MethodName)) hown (mvT hZ (hw _ (List.mem_of_getElem? (i := 12) rfl))) (mvT hZ (hw _ (List.mem_of_getElem? (i := 13) rfl))) (mvT hZ (hw _ (List.mem_of_getElem? (i := 14) rfl))) (mvT hZ (hw _ (List.mem_of_getElem? (i := 15) rfl))) (by decide) (backOf (W := 0) (rm2 l Z a0 hw [] b7 (2 : Int32) vpl vf k7 (own_ten (List.replicate 14 (.int vf)) pn w0 w1 w2 w3 w4 w5 w6 w7 w8 w9) T51.heap n0 Zs52 Vt (by decide) (by decide) (by omega) (by omega) (fun q => own_out pn hp3 vf w0 w1 w2 w3 w4 w5 w6 w7 w8 w9 2 (by decide) (by have k0 : (2 : Int32).toInt = 2 := (by decide); omega))) hZ (hw _ (List.mem_of_getElem? (i := 15) rfl)) (hw _ (List.mem_of_getElem? (i := 14) rfl)) (by decide) (by decide)) (g := (mkF m 164 #[.val (.long qx), .second, .val (.int vp), .val (.int vs0), .val (.long qe), .second, .val (.int vpl), .val (.int vf), .val (.ref b7), .val (.int zw), .unset, .unset, .unset, .unset, .unset, .unset, .unset, .unset, .unset, .unset, .unset] [(.int vf), (.int vpl), (.int (2 : Int32)), (.ref b7)])) rfl (by rw [hml]; rfl) (argsL := [(.ref b7), (.int (2 : Int32)), (.int vpl), (.int vf)]) (rest := []) (lenOf pd_2 rfl) rfl (by show 2 * 0 + _ ≤ _; exact Nat.le_of_eq rfl) (hb hby at_164) (fun _ _ => ⟨rfl, e56, (by decide : 1 + 0 ≤ _), (by decide : 14 + 0 ≤ _)⟩)
  dsimp only [Pt.U, Pt.locs, Pt.cells, Pt.slots] at X58 l58 y58 z58 st58 hQ58
  rw [l58, y58, z58] at X58
  obtain ⟨kp2, rfl, hkp2, N58q, e58⟩ := hQ58
  have N58 := Fr.app N56 N58q
  have hc167_59 : ¬ (kp2.toInt = (0 : Int)) := by omega
  obtain ⟨_, _, ⟨T60, L60, k60, n60⟩, -, X60, ⟨Lc60, hQ60, l60, y60, z60⟩, st60⟩ := Jvm.LawKit.callS X58 hx (y := (⟨"com/example/mod7/mod7/calendar/DatesWritePinLaw", "kept", "([BIIB)Z"⟩ : MethodName)) hown (mvT hZ (hw _ (List.mem_of_getElem? (i := 12) rfl))) (mvT hZ (hw _ (List.mem_of_getElem? (i := 13) rfl))) (mvT hZ (hw _ (List.mem_of_getElem? (i := 14) rfl))) (mvT hZ (hw _ (List.mem_of_getElem? (i := 15) rfl))) (by decide) (backOf (W := 0) (rm2 l Z a0 hw [] b7 (3 : Int32) vpl vf k7 (own_ten (List.replicate 14 (.int vf)) pn w0 w1 w2 w3 w4 w5 w6 w7 w8 w9) T51.heap n0 Zs52 Vt (by decide) (by decide) (by omega) (by omega) (fun q => own_out pn hp3 vf w0 w1 w2 w3 w4 w5 w6 w7 w8 w9 3 (by decide) (by have k0 : (3 : Int32).toInt = 3 := (by decide); omega))) hZ (hw _ (List.mem_of_getElem? (i := 15) rfl)) (hw _ (List.mem_of_getElem? (i := 14) rfl)) (by decide) (by decide)) (g := (mkF m 177 #[.val (.long qx), .second, .val (.int vp), .val (.int vs0), .val (.long qe), .second, .val (.int vpl), .val (.int vf), .val (.ref b7), .val (.int zw), .unset, .unset, .unset, .unset, .unset, .unset, .unset, .unset, .unset, .unset, .unset] [(.int vf), (.int vpl), (.int (3 : Int32)), (.ref b7)])) rfl (by rw [hml]; rfl) (argsL := [(.ref b7), (.int (3 : Int32)), (.int vpl), (.int vf)]) (rest := []) (lenOf pd_2 rfl) rfl (by show 2 * 0 + _ ≤ _; exact Nat.le_of_eq rfl) (hb hby at_177) (fun _ _ => ⟨rfl, e58, (by decide : 1 + 0 ≤ _), (by decide : 14 + 0 ≤ _)⟩)
  dsimp only [Pt.U, Pt.locs, Pt.cells, Pt.slots] at X60 l60 y60 z60 st60 hQ60
  rw [l60, y60, z60] at X60
  obtain ⟨kp3, rfl, hkp3, N60q, e60⟩ := hQ60
  have N60 := Fr.app N58 N60q
  have hc180_61 : ¬ (kp3.toInt = (0 : Int)) := by omega
  obtain ⟨_, _, ⟨T62, L62, k62, n62⟩, -, X62, ⟨Lc62, hQ62, l62, y62, z62⟩, st62⟩ := Jvm.LawKit.callS X60 hx (y := (⟨"com/example/mod7/mod7/calendar/DatesWritePinLaw", "kept", "([BIIB)Z"⟩ : MethodName)) hown (mvT hZ (hw _ (List.mem_of_getElem? (i := 12) rfl))) (mvT hZ (hw _ (List.mem_of_getElem? (i := 13) rfl))) (mvT hZ (hw _ (List.mem_of_getElem? (i := 14) rfl))) (mvT hZ (hw _ (List.mem_of_getElem? (i := 15) rfl))) (by decide) (backOf (W := 0) (rm2 l Z a0 hw [] b7 (4 : Int32) vpl vf k7 (own_ten (List.replicate 14 (.int vf)) pn w0 w1 w2 w3 w4 w5 w6 w7 w8 w9) T51.heap n0 Zs52 Vt (by decide) (by decide) (by omega) (by omega) (fun q => own_out pn hp3 vf w0 w1 w2 w3 w4 w5 w6 w7 w8 w9 4 (by decide) (by have k0 : (4 : Int32).toInt = 4 := (by decide); omega))) hZ (hw _ (List.mem_of_getElem? (i := 15) rfl)) (hw _ (List.mem_of_getElem? (i := 14) rfl)) (by decide) (by decide)) (g := (mkF m 190 #[.val (.long qx), .second, .val (.int vp), .val (.int vs0), .val (.long qe), .second, .val (.int vpl), .val (.int vf), .val (.ref b7), .val (.int zw), .unset, .unset, .unset, .unset, .unset, .unset, .unset, .unset, .unset, .unset, .unset] [(.int vf), (.int vpl), (.int (4 : Int32)), (.ref b7)])) rfl (by rw [hml]; rfl) (argsL := [(.ref b7), (.int (4 : Int32)), (.int vpl), (.int vf)]) (rest := []) (lenOf pd_2 rfl) rfl (by show 2 * 0 + _ ≤ _; exact Nat.le_of_eq rfl) (hb hby at_190) (fun _ _ => ⟨rfl, e60, (by decide : 1 + 0 ≤ _), (by decide : 14 + 0 ≤ _)⟩)
  dsimp only [Pt.U, Pt.locs, Pt.cells, Pt.slots] at X62 l62 y62 z62 st62 hQ62
  rw [l62, y62, z62] at X62
  obtain ⟨kp4, rfl, hkp4, N62q, e62⟩ := hQ62
  have N62 := Fr.app N60 N62q
  have hc193_63 : ¬ (kp4.toInt = (0 : Int)) := by omega
  obtain ⟨_, _, ⟨T64, L64, k64, n64⟩, -, X64, ⟨Lc64, hQ64, l64, y64, z64⟩, st64⟩ := Jvm.LawKit.callS X62 hx (y := (⟨"com/example/mod7/mod7/calendar/DatesWritePinLaw", "kept", "([BIIB)Z"⟩ : MethodName)) hown (mvT hZ (hw _ (List.mem_of_getElem? (i := 12) rfl))) (mvT hZ (hw _ (List.mem_of_getElem? (i := 13) rfl))) (mvT hZ (hw _ (List.mem_of_getElem? (i := 14) rfl))) (mvT hZ (hw _ (List.mem_of_getElem? (i := 15) rfl))) (by decide) (backOf (W := 0) (rm2 l Z a0 hw [] b7 (5 : Int32) vpl vf k7 (own_ten (List.replicate 14 (.int vf)) pn w0 w1 w2 w3 w4 w5 w6 w7 w8 w9) T51.heap n0 Zs52 Vt (by decide) (by decide) (by omega) (by omega) (fun q => own_out pn hp3 vf w0 w1 w2 w3 w4 w5 w6 w7 w8 w9 5 (by decide) (by have k0 : (5 : Int32).toInt = 5 := (by decide); omega))) hZ (hw _ (List.mem_of_getElem? (i := 15) rfl)) (hw _ (List.mem_of_getElem? (i := 14) rfl)) (by decide) (by decide)) (g := (mkF m 203 #[.val (.long qx), .second, .val (.int vp), .val (.int vs0), .val (.long qe), .second, .val (.int vpl), .val (.int vf), .val (.ref b7), .val (.int zw), .unset, .unset, .unset, .unset, .unset, .unset, .unset, .unset, .unset, .unset, .unset] [(.int vf), (.int vpl), (.int (5 : Int32)), (.ref b7)])) rfl (by rw [hml]; rfl) (argsL := [(.ref b7), (.int (5 : Int32)), (.int vpl), (.int vf)]) (rest := []) (lenOf pd_2 rfl) rfl (by show 2 * 0 + _ ≤ _; exact Nat.le_of_eq rfl) (hb hby at_203) (fun _ _ => ⟨rfl, e62, (by decide : 1 + 0 ≤ _), (by decide : 14 + 0 ≤ _)⟩)
  dsimp only [Pt.U, Pt.locs, Pt.cells, Pt.slots] at X64 l64 y64 z64 st64 hQ64
  rw [l64, y64, z64] at X64
  obtain ⟨kp5, rfl, hkp5, N64q, e64⟩ := hQ64
  have N64 := Fr.app N62 N64q
  have hc206_65 : ¬ (kp5.toInt = (0 : Int)) := by omega
  obtain ⟨_, _, ⟨T66, L66, k66, n66⟩, -, X66, ⟨Lc66, hQ66, l66, y66, z66⟩, st66⟩ := Jvm.LawKit.callS X64 hx (y := (⟨"com/example/mod7/mod7/calendar/DatesWritePinLaw", "kept", "([BIIB)Z"⟩ : MethodName)) hown (mvT hZ (hw _ (List.mem_of_getElem? (i := 12) rfl))) (mvT hZ (hw _ (List.mem_of_getElem? (i := 13) rfl))) (mvT hZ (hw _ (List.mem_of_getElem? (i := 14) rfl))) (mvT hZ (hw _ (List.mem_of_getElem? (i := 15) rfl))) (by decide) (backOf (W := 0) (rm2 l Z a0 hw [] b7 (6 : Int32) vpl vf k7 (own_ten (List.replicate 14 (.int vf)) pn w0 w1 w2 w3 w4 w5 w6 w7 w8 w9) T51.heap n0 Zs52 Vt (by decide) (by decide) (by omega) (by omega) (fun q => own_out pn hp3 vf w0 w1 w2 w3 w4 w5 w6 w7 w8 w9 6 (by decide) (by have k0 : (6 : Int32).toInt = 6 := (by decide); omega))) hZ (hw _ (List.mem_of_getElem? (i := 15) rfl)) (hw _ (List.mem_of_getElem? (i := 14) rfl)) (by decide) (by decide)) (g := (mkF m 217 #[.val (.long qx), .second, .val (.int vp), .val (.int vs0), .val (.long qe), .second, .val (.int vpl), .val (.int vf), .val (.ref b7), .val (.int zw), .unset, .unset, .unset, .unset, .unset, .unset, .unset, .unset, .unset, .unset, .unset] [(.int vf), (.int vpl), (.int (6 : Int32)), (.ref b7)])) rfl (by rw [hml]; rfl) (argsL := [(.ref b7), (.int (6 : Int32)), (.int vpl), (.int vf)]) (rest := []) (lenOf pd_2 rfl) rfl (by show 2 * 0 + _ ≤ _; exact Nat.le_of_eq rfl) (hb hby at_217) (fun _ _ => ⟨rfl, e64, (by decide : 1 + 0 ≤ _), (by decide : 14 + 0 ≤ _)⟩)
  dsimp only [Pt.U, Pt.locs, Pt.cells, Pt.slots] at X66 l66 y66 z66 st66 hQ66
  rw [l66, y66, z66] at X66
  obtain ⟨kp6, rfl, hkp6, N66q, e66⟩ := hQ66
  have N66 := Fr.app N64 N66q
  have hc220_67 : ¬ (kp6.toInt = (0 : Int)) := by omega
  obtain ⟨_, _, ⟨T68, L68, k68, n68⟩, -, X68, ⟨Lc68, hQ68, l68, y68, z68⟩, st68⟩ := Jvm.LawKit.callS X66 hx (y := (⟨"com/example/mod7/mod7/calendar/DatesWritePinLaw", "kept", "([BIIB)Z"⟩ : MethodName)) hown (mvT hZ (hw _ (List.mem_of_getElem? (i := 12) rfl))) (mvT hZ (hw _ (List.mem_of_getElem? (i := 13) rfl))) (mvT hZ (hw _ (List.mem_of_getElem? (i := 14) rfl))) (mvT hZ (hw _ (List.mem_of_getElem? (i := 15) rfl))) (by decide) (backOf (W := 0) (rm2 l Z a0 hw [] b7 (7 : Int32) vpl vf k7 (own_ten (List.replicate 14 (.int vf)) pn w0 w1 w2 w3 w4 w5 w6 w7 w8 w9) T51.heap n0 Zs52 Vt (by decide) (by decide) (by omega) (by omega) (fun q => own_out pn hp3 vf w0 w1 w2 w3 w4 w5 w6 w7 w8 w9 7 (by decide) (by have k0 : (7 : Int32).toInt = 7 := (by decide); omega))) hZ (hw _ (List.mem_of_getElem? (i := 15) rfl)) (hw _ (List.mem_of_getElem? (i := 14) rfl)) (by decide) (by decide)) (g := (mkF m 231 #[.val (.long qx), .second, .val (.int vp), .val (.int vs0), .val (.long qe), .second, .val (.int vpl), .val (.int vf), .val (.ref b7), .val (.int zw), .unset, .unset, .unset, .unset, .unset, .unset, .unset, .unset, .unset, .unset, .unset] [(.int vf), (.int vpl), (.int (7 : Int32)), (.ref b7)])) rfl (by rw [hml]; rfl) (argsL := [(.ref b7), (.int (7 : Int32)), (.int vpl), (.int vf)]) (rest := []) (lenOf pd_2 rfl) rfl (by show 2 * 0 + _ ≤ _; exact Nat.le_of_eq rfl) (hb hby at_231) (fun _ _ => ⟨rfl, e66, (by decide : 1 + 0 ≤ _), (by decide : 14 + 0 ≤ _)⟩)
  dsimp only [Pt.U, Pt.locs, Pt.cells, Pt.slots] at X68 l68 y68 z68 st68 hQ68
  rw [l68, y68, z68] at X68
  obtain ⟨kp7, rfl, hkp7, N68q, e68⟩ := hQ68
  have N68 := Fr.app N66 N68q
  have hc234_69 : ¬ (kp7.toInt = (0 : Int)) := by omega
  obtain ⟨_, _, ⟨T70, L70, k70, n70⟩, -, X70, ⟨Lc70, hQ70, l70, y70, z70⟩, st70⟩ := Jvm.LawKit.callS X68 hx (y := (⟨"com/example/mod7/mod7/calendar/DatesWritePinLaw", "kept", "([BIIB)Z"⟩ : MethodName)) hown (mvT hZ (hw _ (List.mem_of_getElem? (i := 12) rfl))) (mvT hZ (hw _ (List.mem_of_getElem? (i := 13) rfl))) (mvT hZ (hw _ (List.mem_of_getElem? (i := 14) rfl))) (mvT hZ (hw _ (List.mem_of_getElem? (i := 15) rfl))) (by decide) (backOf (W := 0) (rm2 l Z a0 hw [] b7 (8 : Int32) vpl vf k7 (own_ten (List.replicate 14 (.int vf)) pn w0 w1 w2 w3 w4 w5 w6 w7 w8 w9) T51.heap n0 Zs52 Vt (by decide) (by decide) (by omega) (by omega) (fun q => own_out pn hp3 vf w0 w1 w2 w3 w4 w5 w6 w7 w8 w9 8 (by decide) (by have k0 : (8 : Int32).toInt = 8 := (by decide); omega))) hZ (hw _ (List.mem_of_getElem? (i := 15) rfl)) (hw _ (List.mem_of_getElem? (i := 14) rfl)) (by decide) (by decide)) (g := (mkF m 245 #[.val (.long qx), .second, .val (.int vp), .val (.int vs0), .val (.long qe), .second, .val (.int vpl), .val (.int vf), .val (.ref b7), .val (.int zw), .unset, .unset, .unset, .unset, .unset, .unset, .unset, .unset, .unset, .unset, .unset] [(.int vf), (.int vpl), (.int (8 : Int32)), (.ref b7)])) rfl (by rw [hml]; rfl) (argsL := [(.ref b7), (.int (8 : Int32)), (.int vpl), (.int vf)]) (rest := []) (lenOf pd_2 rfl) rfl (by show 2 * 0 + _ ≤ _; exact Nat.le_of_eq rfl) (hb hby at_245) (fun _ _ => ⟨rfl, e68, (by decide : 1 + 0 ≤ _), (by decide : 14 + 0 ≤ _)⟩)
  dsimp only [Pt.U, Pt.locs, Pt.cells, Pt.slots] at X70 l70 y70 z70 st70 hQ70
  rw [l70, y70, z70] at X70
  obtain ⟨kp8, rfl, hkp8, N70q, e70⟩ := hQ70
  have N70 := Fr.app N68 N70q
  have hc248_71 : ¬ (kp8.toInt = (0 : Int)) := by omega
  obtain ⟨_, _, ⟨T72, L72, k72, n72⟩, -, X72, ⟨Lc72, hQ72, l72, y72, z72⟩, st72⟩ := Jvm.LawKit.callS X70 hx (y := (⟨"com/example/mod7/mod7/calendar/DatesWritePinLaw", "kept", "([BIIB)Z"⟩ : MethodName)) hown (mvT hZ (hw _ (List.mem_of_getElem? (i := 12) rfl))) (mvT hZ (hw _ (List.mem_of_getElem? (i := 13) rfl))) (mvT hZ (hw _ (List.mem_of_getElem? (i := 14) rfl))) (mvT hZ (hw _ (List.mem_of_getElem? (i := 15) rfl))) (by decide) (backOf (W := 0) (rm2 l Z a0 hw [] b7 (9 : Int32) vpl vf k7 (own_ten (List.replicate 14 (.int vf)) pn w0 w1 w2 w3 w4 w5 w6 w7 w8 w9) T51.heap n0 Zs52 Vt (by decide) (by decide) (by omega) (by omega) (fun q => own_out pn hp3 vf w0 w1 w2 w3 w4 w5 w6 w7 w8 w9 9 (by decide) (by have k0 : (9 : Int32).toInt = 9 := (by decide); omega))) hZ (hw _ (List.mem_of_getElem? (i := 15) rfl)) (hw _ (List.mem_of_getElem? (i := 14) rfl)) (by decide) (by decide)) (g := (mkF m 259 #[.val (.long qx), .second, .val (.int vp), .val (.int vs0), .val (.long qe), .second, .val (.int vpl), .val (.int vf), .val (.ref b7), .val (.int zw), .unset, .unset, .unset, .unset, .unset, .unset, .unset, .unset, .unset, .unset, .unset] [(.int vf), (.int vpl), (.int (9 : Int32)), (.ref b7)])) rfl (by rw [hml]; rfl) (argsL := [(.ref b7), (.int (9 : Int32)), (.int vpl), (.int vf)]) (rest := []) (lenOf pd_2 rfl) rfl (by show 2 * 0 + _ ≤ _; exact Nat.le_of_eq rfl) (hb hby at_259) (fun _ _ => ⟨rfl, e70, (by decide : 1 + 0 ≤ _), (by decide : 14 + 0 ≤ _)⟩)
  dsimp only [Pt.U, Pt.locs, Pt.cells, Pt.slots] at X72 l72 y72 z72 st72 hQ72
  rw [l72, y72, z72] at X72
  obtain ⟨kp9, rfl, hkp9, N72q, e72⟩ := hQ72
  have N72 := Fr.app N70 N72q
  have hc262_73 : ¬ (kp9.toInt = (0 : Int)) := by omega
  obtain ⟨_, _, ⟨T74, L74, k74, n74⟩, -, X74, ⟨Lc74, hQ74, l74, y74, z74⟩, st74⟩ := Jvm.LawKit.callS X72 hx (y := (⟨"com/example/mod7/mod7/calendar/DatesWritePinLaw", "kept", "([BIIB)Z"⟩ : MethodName)) hown (mvT hZ (hw _ (List.mem_of_getElem? (i := 12) rfl))) (mvT hZ (hw _ (List.mem_of_getElem? (i := 13) rfl))) (mvT hZ (hw _ (List.mem_of_getElem? (i := 14) rfl))) (mvT hZ (hw _ (List.mem_of_getElem? (i := 15) rfl))) (by decide) (backOf (W := 0) (rm2 l Z a0 hw [] b7 (10 : Int32) vpl vf k7 (own_ten (List.replicate 14 (.int vf)) pn w0 w1 w2 w3 w4 w5 w6 w7 w8 w9) T51.heap n0 Zs52 Vt (by decide) (by decide) (by omega) (by omega) (fun q => own_out pn hp3 vf w0 w1 w2 w3 w4 w5 w6 w7 w8 w9 10 (by decide) (by have k0 : (10 : Int32).toInt = 10 := (by decide); omega))) hZ (hw _ (List.mem_of_getElem? (i := 15) rfl)) (hw _ (List.mem_of_getElem? (i := 14) rfl)) (by decide) (by decide)) (g := (mkF m 273 #[.val (.long qx), .second, .val (.int vp), .val (.int vs0), .val (.long qe), .second, .val (.int vpl), .val (.int vf), .val (.ref b7), .val (.int zw), .unset, .unset, .unset, .unset, .unset, .unset, .unset, .unset, .unset, .unset, .unset] [(.int vf), (.int vpl), (.int (10 : Int32)), (.ref b7)])) rfl (by rw [hml]; rfl) (argsL := [(.ref b7), (.int (10 : Int32)), (.int vpl), (.int vf)]) (rest := []) (lenOf pd_2 rfl) rfl (by show 2 * 0 + _ ≤ _; exact Nat.le_of_eq rfl) (hb hby at_273) (fun _ _ => ⟨rfl, e72, (by decide : 1 + 0 ≤ _), (by decide : 14 + 0 ≤ _)⟩)
  dsimp only [Pt.U, Pt.locs, Pt.cells, Pt.slots] at X74 l74 y74 z74 st74 hQ74
  rw [l74, y74, z74] at X74
  obtain ⟨kp10, rfl, hkp10, N74q, e74⟩ := hQ74
  have N74 := Fr.app N72 N74q
  have hc276_75 : ¬ (kp10.toInt = (0 : Int)) := by omega
  obtain ⟨_, _, ⟨T76, L76, k76, n76⟩, -, X76, ⟨Lc76, hQ76, l76, y76, z76⟩, st76⟩ := Jvm.LawKit.callS X74 hx (y := (⟨"com/example/mod7/mod7/calendar/DatesWritePinLaw", "kept", "([BIIB)Z"⟩ : MethodName)) hown (mvT hZ (hw _ (List.mem_of_getElem? (i := 12) rfl))) (mvT hZ (hw _ (List.mem_of_getElem? (i := 13) rfl))) (mvT hZ (hw _ (List.mem_of_getElem? (i := 14) rfl))) (mvT hZ (hw _ (List.mem_of_getElem? (i := 15) rfl))) (by decide) (backOf (W := 0) (rm2 l Z a0 hw [] b7 (11 : Int32) vpl vf k7 (own_ten (List.replicate 14 (.int vf)) pn w0 w1 w2 w3 w4 w5 w6 w7 w8 w9) T51.heap n0 Zs52 Vt (by decide) (by decide) (by omega) (by omega) (fun q => own_out pn hp3 vf w0 w1 w2 w3 w4 w5 w6 w7 w8 w9 11 (by decide) (by have k0 : (11 : Int32).toInt = 11 := (by decide); omega))) hZ (hw _ (List.mem_of_getElem? (i := 15) rfl)) (hw _ (List.mem_of_getElem? (i := 14) rfl)) (by decide) (by decide)) (g := (mkF m 287 #[.val (.long qx), .second, .val (.int vp), .val (.int vs0), .val (.long qe), .second, .val (.int vpl), .val (.int vf), .val (.ref b7), .val (.int zw), .unset, .unset, .unset, .unset, .unset, .unset, .unset, .unset, .unset, .unset, .unset] [(.int vf), (.int vpl), (.int (11 : Int32)), (.ref b7)])) rfl (by rw [hml]; rfl) (argsL := [(.ref b7), (.int (11 : Int32)), (.int vpl), (.int vf)]) (rest := []) (lenOf pd_2 rfl) rfl (by show 2 * 0 + _ ≤ _; exact Nat.le_of_eq rfl) (hb hby at_287) (fun _ _ => ⟨rfl, e74, (by decide : 1 + 0 ≤ _), (by decide : 14 + 0 ≤ _)⟩)
  dsimp only [Pt.U, Pt.locs, Pt.cells, Pt.slots] at X76 l76 y76 z76 st76 hQ76
  rw [l76, y76, z76] at X76
  obtain ⟨kp11, rfl, hkp11, N76q, e76⟩ := hQ76
  have N76 := Fr.app N74 N76q
  have hc290_77 : ¬ (kp11.toInt = (0 : Int)) := by omega
  obtain ⟨_, _, ⟨T78, L78, k78, n78⟩, -, X78, ⟨Lc78, hQ78, l78, y78, z78⟩, st78⟩ := Jvm.LawKit.callS X76 hx (y := (⟨"com/example/mod7/mod7/calendar/DatesWritePinLaw", "kept", "([BIIB)Z"⟩ : MethodName)) hown (mvT hZ (hw _ (List.mem_of_getElem? (i := 12) rfl))) (mvT hZ (hw _ (List.mem_of_getElem? (i := 13) rfl))) (mvT hZ (hw _ (List.mem_of_getElem? (i := 14) rfl))) (mvT hZ (hw _ (List.mem_of_getElem? (i := 15) rfl))) (by decide) (backOf (W := 0) (rm2 l Z a0 hw [] b7 (12 : Int32) vpl vf k7 (own_ten (List.replicate 14 (.int vf)) pn w0 w1 w2 w3 w4 w5 w6 w7 w8 w9) T51.heap n0 Zs52 Vt (by decide) (by decide) (by omega) (by omega) (fun q => own_out pn hp3 vf w0 w1 w2 w3 w4 w5 w6 w7 w8 w9 12 (by decide) (by have k0 : (12 : Int32).toInt = 12 := (by decide); omega))) hZ (hw _ (List.mem_of_getElem? (i := 15) rfl)) (hw _ (List.mem_of_getElem? (i := 14) rfl)) (by decide) (by decide)) (g := (mkF m 301 #[.val (.long qx), .second, .val (.int vp), .val (.int vs0), .val (.long qe), .second, .val (.int vpl), .val (.int vf), .val (.ref b7), .val (.int zw), .unset, .unset, .unset, .unset, .unset, .unset, .unset, .unset, .unset, .unset, .unset] [(.int vf), (.int vpl), (.int (12 : Int32)), (.ref b7)])) rfl (by rw [hml]; rfl) (argsL := [(.ref b7), (.int (12 : Int32)), (.int vpl), (.int vf)]) (rest := []) (lenOf pd_2 rfl) rfl (by show 2 * 0 + _ ≤ _; exact Nat.le_of_eq rfl) (hb hby at_301) (fun _ _ => ⟨rfl, e76, (by decide : 1 + 0 ≤ _), (by decide : 14 + 0 ≤ _)⟩)
  dsimp only [Pt.U, Pt.locs, Pt.cells, Pt.slots] at X78 l78 y78 z78 st78 hQ78
  rw [l78, y78, z78] at X78
  obtain ⟨kp12, rfl, hkp12, N78q, e78⟩ := hQ78
  have N78 := Fr.app N76 N78q
  have hc304_79 : ¬ (kp12.toInt = (0 : Int)) := by omega
  obtain ⟨_, _, ⟨T80, L80, k80, n80⟩, -, X80, ⟨Lc80, hQ80, l80, y80, z80⟩, st80⟩ := Jvm.LawKit.callS X78 hx (y := (⟨"com/example/mod7/mod7/calendar/DatesWritePinLaw", "kept", "([BIIB)Z"⟩ : MethodName)) hown (mvT hZ (hw _ (List.mem_of_getElem? (i := 12) rfl))) (mvT hZ (hw _ (List.mem_of_getElem? (i := 13) rfl))) (mvT hZ (hw _ (List.mem_of_getElem? (i := 14) rfl))) (mvT hZ (hw _ (List.mem_of_getElem? (i := 15) rfl))) (by decide) (backOf (W := 0) (rm2 l Z a0 hw [] b7 (13 : Int32) vpl vf k7 (own_ten (List.replicate 14 (.int vf)) pn w0 w1 w2 w3 w4 w5 w6 w7 w8 w9) T51.heap n0 Zs52 Vt (by decide) (by decide) (by omega) (by omega) (fun q => own_out pn hp3 vf w0 w1 w2 w3 w4 w5 w6 w7 w8 w9 13 (by decide) (by have k0 : (13 : Int32).toInt = 13 := (by decide); omega))) hZ (hw _ (List.mem_of_getElem? (i := 15) rfl)) (hw _ (List.mem_of_getElem? (i := 14) rfl)) (by decide) (by decide)) (g := (mkF m 315 #[.val (.long qx), .second, .val (.int vp), .val (.int vs0), .val (.long qe), .second, .val (.int vpl), .val (.int vf), .val (.ref b7), .val (.int zw), .unset, .unset, .unset, .unset, .unset, .unset, .unset, .unset, .unset, .unset, .unset] [(.int vf), (.int vpl), (.int (13 : Int32)), (.ref b7)])) rfl (by rw [hml]; rfl) (argsL := [(.ref b7), (.int (13 : Int32)), (.int vpl), (.int vf)]) (rest := []) (lenOf pd_2 rfl) rfl (by show 2 * 0 + _ ≤ _; exact Nat.le_of_eq rfl) (hb hby at_315) (fun _ _ => ⟨rfl, e78, (by decide : 1 + 0 ≤ _), (by decide : 14 + 0 ≤ _)⟩)
  dsimp only [Pt.U, Pt.locs, Pt.cells, Pt.slots] at X80 l80 y80 z80 st80 hQ80
  rw [l80, y80, z80] at X80
  obtain ⟨kp13, rfl, hkp13, N80q, e80⟩ := hQ80
  have N80 := Fr.app N78 N80q
  have hc318_81 : ¬ (kp13.toInt = (0 : Int)) := by omega
  obtain ⟨cl82, Ar82, q82, S82, M82, H82, G82⟩ := id Vt
  have hin82 : ¬ ((vpl + (4 : Int32)) < 0 ∨ cl82.slots.size ≤ ((vpl + (4 : Int32))).toNatClampNeg) := inb_of S82 ⟨by rw [Int32.lt_iff_toInt_lt]; have k0 : (0 : Int32).toInt = 0 := (by decide); have := rng32 vpl; (first | (have : ((vpl + (4 : Int32))).toInt = vpl.toInt + (4 : Int) := (by have : (((vpl + (4 : Int32))).toInt - (vpl.toInt + (4 : Int))) % 4294967296 = 0 := c_iadd vpl (4 : Int32); have := rng32 (vpl + (4 : Int32)); omega)) | (have : (((vpl + (4 : Int32))).toInt - (vpl.toInt + (4 : Int))) % 4294967296 = 0 := c_iadd vpl (4 : Int32); have := rng32 (vpl + (4 : Int32)))); omega, by rw [Int32.lt_iff_toInt_lt]; have k0 : (14 : Int32).toInt = 14 := (by decide); have := rng32 vpl; (first | (have : ((vpl + (4 : Int32))).toInt = vpl.toInt + (4 : Int) := (by have : (((vpl + (4 : Int32))).toInt - (vpl.toInt + (4 : Int))) % 4294967296 = 0 := c_iadd vpl (4 : Int32); have := rng32 (vpl + (4 : Int32)); omega)) | (have : (((vpl + (4 : Int32))).toInt - (vpl.toInt + (4 : Int))) % 4294967296 = 0 := c_iadd vpl (4 : Int32); have := rng32 (vpl + (4 : Int32)))); omega⟩
  have hat82 : cl82.slots[((vpl + (4 : Int32))).toNatClampNeg]? = some (.int w4) := Has.at H82 hin82 (by rw [own_nat (j := (vpl + (4 : Int32))) (n := pn + 4) (by push_cast; have := rng32 vpl; (first | (have : ((vpl + (4 : Int32))).toInt = vpl.toInt + (4 : Int) := (by have : (((vpl + (4 : Int32))).toInt - (vpl.toInt + (4 : Int))) % 4294967296 = 0 := c_iadd vpl (4 : Int32); have := rng32 (vpl + (4 : Int32)); omega)) | (have : (((vpl + (4 : Int32))).toInt - (vpl.toInt + (4 : Int))) % 4294967296 = 0 := c_iadd vpl (4 : Int32); have := rng32 (vpl + (4 : Int32)))); omega)]; exact own_at4 pn hp3 vf w0 w1 w2 w3 w4 w5 w6 w7 w8 w9)
  have hc332_83 : w4.toInt = (45 : Int) := by omega
  obtain ⟨cl84, Ar84, q84, S84, M84, H84, G84⟩ := id Vt
  have hin84 : ¬ ((vpl + (7 : Int32)) < 0 ∨ cl84.slots.size ≤ ((vpl + (7 : Int32))).toNatClampNeg) := inb_of S84 ⟨by rw [Int32.lt_iff_toInt_lt]; have k0 : (0 : Int32).toInt = 0 := (by decide); have := rng32 vpl; (first | (have : ((vpl + (7 : Int32))).toInt = vpl.toInt + (7 : Int) := (by have : (((vpl + (7 : Int32))).toInt - (vpl.toInt + (7 : Int))) % 4294967296 = 0 := c_iadd vpl (7 : Int32); have := rng32 (vpl + (7 : Int32)); omega)) | (have : (((vpl + (7 : Int32))).toInt - (vpl.toInt + (7 : Int))) % 4294967296 = 0 := c_iadd vpl (7 : Int32); have := rng32 (vpl + (7 : Int32)))); omega, by rw [Int32.lt_iff_toInt_lt]; have k0 : (14 : Int32).toInt = 14 := (by decide); have := rng32 vpl; (first | (have : ((vpl + (7 : Int32))).toInt = vpl.toInt + (7 : Int) := (by have : (((vpl + (7 : Int32))).toInt - (vpl.toInt + (7 : Int))) % 4294967296 = 0 := c_iadd vpl (7 : Int32); have := rng32 (vpl + (7 : Int32)); omega)) | (have : (((vpl + (7 : Int32))).toInt - (vpl.toInt + (7 : Int))) % 4294967296 = 0 := c_iadd vpl (7 : Int32); have := rng32 (vpl + (7 : Int32)))); omega⟩
  have hat84 : cl84.slots[((vpl + (7 : Int32))).toNatClampNeg]? = some (.int w7) := Has.at H84 hin84 (by rw [own_nat (j := (vpl + (7 : Int32))) (n := pn + 7) (by push_cast; have := rng32 vpl; (first | (have : ((vpl + (7 : Int32))).toInt = vpl.toInt + (7 : Int) := (by have : (((vpl + (7 : Int32))).toInt - (vpl.toInt + (7 : Int))) % 4294967296 = 0 := c_iadd vpl (7 : Int32); have := rng32 (vpl + (7 : Int32)); omega)) | (have : (((vpl + (7 : Int32))).toInt - (vpl.toInt + (7 : Int))) % 4294967296 = 0 := c_iadd vpl (7 : Int32); have := rng32 (vpl + (7 : Int32)))); omega)]; exact own_at7 pn hp3 vf w0 w1 w2 w3 w4 w5 w6 w7 w8 w9)
  have hc345_85 : w7.toInt = (45 : Int) := by omega
  obtain ⟨cl86, Ar86, q86, S86, M86, H86, G86⟩ := id Vt
  have hin86 : ¬ (vpl < 0 ∨ cl86.slots.size ≤ (vpl).toNatClampNeg) := inb_of S86 ⟨by rw [Int32.lt_iff_toInt_lt]; have k0 : (0 : Int32).toInt = 0 := (by decide); have := rng32 vpl; omega, by rw [Int32.lt_iff_toInt_lt]; have k0 : (14 : Int32).toInt = 14 := (by decide); have := rng32 vpl; omega⟩
  have hat86 : cl86.slots[(vpl).toNatClampNeg]? = some (.int w0) := Has.at H86 hin86 (by rw [own_nat (j := vpl) (n := pn + 0) (by push_cast; have := rng32 vpl; omega)]; exact own_at0 pn hp3 vf w0 w1 w2 w3 w4 w5 w6 w7 w8 w9)
  obtain ⟨_, _, ⟨T87, L87, k87, n87⟩, -, X87, ⟨Lc87, hQ87, l87, y87, z87⟩, st87⟩ := Jvm.LawKit.callS X80 hx (y := (⟨"com/example/mod7/mod7/calendar/DatesWritePinLaw", "digit", "(B)I"⟩ : MethodName)) hown (mvT hZ (hw _ (List.mem_of_getElem? (i := 16) rfl))) (mvT hZ (hw _ (List.mem_of_getElem? (i := 17) rfl))) (mvT hZ (hw _ (List.mem_of_getElem? (i := 14) rfl))) (mvT hZ (hw _ (List.mem_of_getElem? (i := 18) rfl))) (by decide) (backOf (W := 0) (rm3 l Z a0 hw [] w0 T51.heap n0 Zs52 (by omega) (by omega)) hZ (hw _ (List.mem_of_getElem? (i := 18) rfl)) (hw _ (List.mem_of_getElem? (i := 14) rfl)) (by decide) (by decide)) (g := (mkF m 355 #[.val (.long qx), .second, .val (.int vp), .val (.int vs0), .val (.long qe), .second, .val (.int vpl), .val (.int vf), .val (.ref b7), .val (.int zw), .unset, .unset, .unset, .unset, .unset, .unset, .unset, .unset, .unset, .unset, .unset] [(.int w0)])) rfl (by rw [hml]; rfl) (argsL := [(.int w0)]) (rest := []) (lenOf pd_3 rfl) rfl (by show 2 * 0 + _ ≤ _; exact Nat.le_of_eq rfl) (hb hby at_355) (fun _ _ => ⟨rfl, e80, (by decide : 1 + 0 ≤ _), (by decide : 14 + 0 ≤ _)⟩)
  dsimp only [Pt.U, Pt.locs, Pt.cells, Pt.slots] at X87 l87 y87 z87 st87 hQ87
  rw [l87, y87, z87] at X87
  obtain ⟨y0, rfl, hy0, N87q, e87⟩ := hQ87
  have N87 := Fr.app N80 N87q
  obtain ⟨cl88, Ar88, q88, S88, M88, H88, G88⟩ := id Vt
  have hin88 : ¬ ((vpl + (1 : Int32)) < 0 ∨ cl88.slots.size ≤ ((vpl + (1 : Int32))).toNatClampNeg) := inb_of S88 ⟨by rw [Int32.lt_iff_toInt_lt]; have k0 : (0 : Int32).toInt = 0 := (by decide); have := rng32 vpl; (first | (have : ((vpl + (1 : Int32))).toInt = vpl.toInt + (1 : Int) := (by have : (((vpl + (1 : Int32))).toInt - (vpl.toInt + (1 : Int))) % 4294967296 = 0 := c_iadd vpl (1 : Int32); have := rng32 (vpl + (1 : Int32)); omega)) | (have : (((vpl + (1 : Int32))).toInt - (vpl.toInt + (1 : Int))) % 4294967296 = 0 := c_iadd vpl (1 : Int32); have := rng32 (vpl + (1 : Int32)))); omega, by rw [Int32.lt_iff_toInt_lt]; have k0 : (14 : Int32).toInt = 14 := (by decide); have := rng32 vpl; (first | (have : ((vpl + (1 : Int32))).toInt = vpl.toInt + (1 : Int) := (by have : (((vpl + (1 : Int32))).toInt - (vpl.toInt + (1 : Int))) % 4294967296 = 0 := c_iadd vpl (1 : Int32); have := rng32 (vpl + (1 : Int32)); omega)) | (have : (((vpl + (1 : Int32))).toInt - (vpl.toInt + (1 : Int))) % 4294967296 = 0 := c_iadd vpl (1 : Int32); have := rng32 (vpl + (1 : Int32)))); omega⟩
  have hat88 : cl88.slots[((vpl + (1 : Int32))).toNatClampNeg]? = some (.int w1) := Has.at H88 hin88 (by rw [own_nat (j := (vpl + (1 : Int32))) (n := pn + 1) (by push_cast; have := rng32 vpl; (first | (have : ((vpl + (1 : Int32))).toInt = vpl.toInt + (1 : Int) := (by have : (((vpl + (1 : Int32))).toInt - (vpl.toInt + (1 : Int))) % 4294967296 = 0 := c_iadd vpl (1 : Int32); have := rng32 (vpl + (1 : Int32)); omega)) | (have : (((vpl + (1 : Int32))).toInt - (vpl.toInt + (1 : Int))) % 4294967296 = 0 := c_iadd vpl (1 : Int32); have := rng32 (vpl + (1 : Int32)))); omega)]; exact own_at1 pn hp3 vf w0 w1 w2 w3 w4 w5 w6 w7 w8 w9)
  obtain ⟨_, _, ⟨T89, L89, k89, n89⟩, -, X89, ⟨Lc89, hQ89, l89, y89, z89⟩, st89⟩ := Jvm.LawKit.callS X87 hx (y := (⟨"com/example/mod7/mod7/calendar/DatesWritePinLaw", "digit", "(B)I"⟩ : MethodName)) hown (mvT hZ (hw _ (List.mem_of_getElem? (i := 16) rfl))) (mvT hZ (hw _ (List.mem_of_getElem? (i := 17) rfl))) (mvT hZ (hw _ (List.mem_of_getElem? (i := 14) rfl))) (mvT hZ (hw _ (List.mem_of_getElem? (i := 18) rfl))) (by decide) (backOf (W := 0) (rm3 l Z a0 hw [] w1 T51.heap n0 Zs52 (by omega) (by omega)) hZ (hw _ (List.mem_of_getElem? (i := 18) rfl)) (hw _ (List.mem_of_getElem? (i := 14) rfl)) (by decide) (by decide)) (g := (mkF m 367 #[.val (.long qx), .second, .val (.int vp), .val (.int vs0), .val (.long qe), .second, .val (.int vpl), .val (.int vf), .val (.ref b7), .val (.int zw), .val (.int y0), .unset, .unset, .unset, .unset, .unset, .unset, .unset, .unset, .unset, .unset] [(.int w1)])) rfl (by rw [hml]; rfl) (argsL := [(.int w1)]) (rest := []) (lenOf pd_3 rfl) rfl (by show 2 * 0 + _ ≤ _; exact Nat.le_of_eq rfl) (hb hby at_367) (fun _ _ => ⟨rfl, e87, (by decide : 1 + 0 ≤ _), (by decide : 14 + 0 ≤ _)⟩)
  dsimp only [Pt.U, Pt.locs, Pt.cells, Pt.slots] at X89 l89 y89 z89 st89 hQ89
  rw [l89, y89, z89] at X89
  obtain ⟨y1, rfl, hy1, N89q, e89⟩ := hQ89
  have N89 := Fr.app N87 N89q
  obtain ⟨cl90, Ar90, q90, S90, M90, H90, G90⟩ := id Vt
  have hin90 : ¬ ((vpl + (2 : Int32)) < 0 ∨ cl90.slots.size ≤ ((vpl + (2 : Int32))).toNatClampNeg) := inb_of S90 ⟨by rw [Int32.lt_iff_toInt_lt]; have k0 : (0 : Int32).toInt = 0 := (by decide); have := rng32 vpl; (first | (have : ((vpl + (2 : Int32))).toInt = vpl.toInt + (2 : Int) := (by have : (((vpl + (2 : Int32))).toInt - (vpl.toInt + (2 : Int))) % 4294967296 = 0 := c_iadd vpl (2 : Int32); have := rng32 (vpl + (2 : Int32)); omega)) | (have : (((vpl + (2 : Int32))).toInt - (vpl.toInt + (2 : Int))) % 4294967296 = 0 := c_iadd vpl (2 : Int32); have := rng32 (vpl + (2 : Int32)))); omega, by rw [Int32.lt_iff_toInt_lt]; have k0 : (14 : Int32).toInt = 14 := (by decide); have := rng32 vpl; (first | (have : ((vpl + (2 : Int32))).toInt = vpl.toInt + (2 : Int) := (by have : (((vpl + (2 : Int32))).toInt - (vpl.toInt + (2 : Int))) % 4294967296 = 0 := c_iadd vpl (2 : Int32); have := rng32 (vpl + (2 : Int32)); omega)) | (have : (((vpl + (2 : Int32))).toInt - (vpl.toInt + (2 : Int))) % 4294967296 = 0 := c_iadd vpl (2 : Int32); have := rng32 (vpl + (2 : Int32)))); omega⟩
  have hat90 : cl90.slots[((vpl + (2 : Int32))).toNatClampNeg]? = some (.int w2) := Has.at H90 hin90 (by rw [own_nat (j := (vpl + (2 : Int32))) (n := pn + 2) (by push_cast; have := rng32 vpl; (first | (have : ((vpl + (2 : Int32))).toInt = vpl.toInt + (2 : Int) := (by have : (((vpl + (2 : Int32))).toInt - (vpl.toInt + (2 : Int))) % 4294967296 = 0 := c_iadd vpl (2 : Int32); have := rng32 (vpl + (2 : Int32)); omega)) | (have : (((vpl + (2 : Int32))).toInt - (vpl.toInt + (2 : Int))) % 4294967296 = 0 := c_iadd vpl (2 : Int32); have := rng32 (vpl + (2 : Int32)))); omega)]; exact own_at2 pn hp3 vf w0 w1 w2 w3 w4 w5 w6 w7 w8 w9)
  obtain ⟨_, _, ⟨T91, L91, k91, n91⟩, -, X91, ⟨Lc91, hQ91, l91, y91, z91⟩, st91⟩ := Jvm.LawKit.callS X89 hx (y := (⟨"com/example/mod7/mod7/calendar/DatesWritePinLaw", "digit", "(B)I"⟩ : MethodName)) hown (mvT hZ (hw _ (List.mem_of_getElem? (i := 16) rfl))) (mvT hZ (hw _ (List.mem_of_getElem? (i := 17) rfl))) (mvT hZ (hw _ (List.mem_of_getElem? (i := 14) rfl))) (mvT hZ (hw _ (List.mem_of_getElem? (i := 18) rfl))) (by decide) (backOf (W := 0) (rm3 l Z a0 hw [] w2 T51.heap n0 Zs52 (by omega) (by omega)) hZ (hw _ (List.mem_of_getElem? (i := 18) rfl)) (hw _ (List.mem_of_getElem? (i := 14) rfl)) (by decide) (by decide)) (g := (mkF m 379 #[.val (.long qx), .second, .val (.int vp), .val (.int vs0), .val (.long qe), .second, .val (.int vpl), .val (.int vf), .val (.ref b7), .val (.int zw), .val (.int y0), .val (.int y1), .unset, .unset, .unset, .unset, .unset, .unset, .unset, .unset, .unset] [(.int w2)])) rfl (by rw [hml]; rfl) (argsL := [(.int w2)]) (rest := []) (lenOf pd_3 rfl) rfl (by show 2 * 0 + _ ≤ _; exact Nat.le_of_eq rfl) (hb hby at_379) (fun _ _ => ⟨rfl, e89, (by decide : 1 + 0 ≤ _), (by decide : 14 + 0 ≤ _)⟩)
  dsimp only [Pt.U, Pt.locs, Pt.cells, Pt.slots] at X91 l91 y91 z91 st91 hQ91
  rw [l91, y91, z91] at X91
  obtain ⟨y2, rfl, hy2, N91q, e91⟩ := hQ91
  have N91 := Fr.app N89 N91q
  obtain ⟨cl92, Ar92, q92, S92, M92, H92, G92⟩ := id Vt
  have hin92 : ¬ ((vpl + (3 : Int32)) < 0 ∨ cl92.slots.size ≤ ((vpl + (3 : Int32))).toNatClampNeg) := inb_of S92 ⟨by rw [Int32.lt_iff_toInt_lt]; have k0 : (0 : Int32).toInt = 0 := (by decide); have := rng32 vpl; (first | (have : ((vpl + (3 : Int32))).toInt = vpl.toInt + (3 : Int) := (by have : (((vpl + (3 : Int32))).toInt - (vpl.toInt + (3 : Int))) % 4294967296 = 0 := c_iadd vpl (3 : Int32); have := rng32 (vpl + (3 : Int32)); omega)) | (have : (((vpl + (3 : Int32))).toInt - (vpl.toInt + (3 : Int))) % 4294967296 = 0 := c_iadd vpl (3 : Int32); have := rng32 (vpl + (3 : Int32)))); omega, by rw [Int32.lt_iff_toInt_lt]; have k0 : (14 : Int32).toInt = 14 := (by decide); have := rng32 vpl; (first | (have : ((vpl + (3 : Int32))).toInt = vpl.toInt + (3 : Int) := (by have : (((vpl + (3 : Int32))).toInt - (vpl.toInt + (3 : Int))) % 4294967296 = 0 := c_iadd vpl (3 : Int32); have := rng32 (vpl + (3 : Int32)); omega)) | (have : (((vpl + (3 : Int32))).toInt - (vpl.toInt + (3 : Int))) % 4294967296 = 0 := c_iadd vpl (3 : Int32); have := rng32 (vpl + (3 : Int32)))); omega⟩
  have hat92 : cl92.slots[((vpl + (3 : Int32))).toNatClampNeg]? = some (.int w3) := Has.at H92 hin92 (by rw [own_nat (j := (vpl + (3 : Int32))) (n := pn + 3) (by push_cast; have := rng32 vpl; (first | (have : ((vpl + (3 : Int32))).toInt = vpl.toInt + (3 : Int) := (by have : (((vpl + (3 : Int32))).toInt - (vpl.toInt + (3 : Int))) % 4294967296 = 0 := c_iadd vpl (3 : Int32); have := rng32 (vpl + (3 : Int32)); omega)) | (have : (((vpl + (3 : Int32))).toInt - (vpl.toInt + (3 : Int))) % 4294967296 = 0 := c_iadd vpl (3 : Int32); have := rng32 (vpl + (3 : Int32)))); omega)]; exact own_at3 pn hp3 vf w0 w1 w2 w3 w4 w5 w6 w7 w8 w9)
  obtain ⟨_, _, ⟨T93, L93, k93, n93⟩, -, X93, ⟨Lc93, hQ93, l93, y93, z93⟩, st93⟩ := Jvm.LawKit.callS X91 hx (y := (⟨"com/example/mod7/mod7/calendar/DatesWritePinLaw", "digit", "(B)I"⟩ : MethodName)) hown (mvT hZ (hw _ (List.mem_of_getElem? (i := 16) rfl))) (mvT hZ (hw _ (List.mem_of_getElem? (i := 17) rfl))) (mvT hZ (hw _ (List.mem_of_getElem? (i := 14) rfl))) (mvT hZ (hw _ (List.mem_of_getElem? (i := 18) rfl))) (by decide) (backOf (W := 0) (rm3 l Z a0 hw [] w3 T51.heap n0 Zs52 (by omega) (by omega)) hZ (hw _ (List.mem_of_getElem? (i := 18) rfl)) (hw _ (List.mem_of_getElem? (i := 14) rfl)) (by decide) (by decide)) (g := (mkF m 391 #[.val (.long qx), .second, .val (.int vp), .val (.int vs0), .val (.long qe), .second, .val (.int vpl), .val (.int vf), .val (.ref b7), .val (.int zw), .val (.int y0), .val (.int y1), .val (.int y2), .unset, .unset, .unset, .unset, .unset, .unset, .unset, .unset] [(.int w3)])) rfl (by rw [hml]; rfl) (argsL := [(.int w3)]) (rest := []) (lenOf pd_3 rfl) rfl (by show 2 * 0 + _ ≤ _; exact Nat.le_of_eq rfl) (hb hby at_391) (fun _ _ => ⟨rfl, e91, (by decide : 1 + 0 ≤ _), (by decide : 14 + 0 ≤ _)⟩)
  dsimp only [Pt.U, Pt.locs, Pt.cells, Pt.slots] at X93 l93 y93 z93 st93 hQ93
  rw [l93, y93, z93] at X93
  obtain ⟨y3, rfl, hy3, N93q, e93⟩ := hQ93
  have N93 := Fr.app N91 N93q
  obtain ⟨cl94, Ar94, q94, S94, M94, H94, G94⟩ := id Vt
  have hin94 : ¬ ((vpl + (5 : Int32)) < 0 ∨ cl94.slots.size ≤ ((vpl + (5 : Int32))).toNatClampNeg) := inb_of S94 ⟨by rw [Int32.lt_iff_toInt_lt]; have k0 : (0 : Int32).toInt = 0 := (by decide); have := rng32 vpl; (first | (have : ((vpl + (5 : Int32))).toInt = vpl.toInt + (5 : Int) := (by have : (((vpl + (5 : Int32))).toInt - (vpl.toInt + (5 : Int))) % 4294967296 = 0 := c_iadd vpl (5 : Int32); have := rng32 (vpl + (5 : Int32)); omega)) | (have : (((vpl + (5 : Int32))).toInt - (vpl.toInt + (5 : Int))) % 4294967296 = 0 := c_iadd vpl (5 : Int32); have := rng32 (vpl + (5 : Int32)))); omega, by rw [Int32.lt_iff_toInt_lt]; have k0 : (14 : Int32).toInt = 14 := (by decide); have := rng32 vpl; (first | (have : ((vpl + (5 : Int32))).toInt = vpl.toInt + (5 : Int) := (by have : (((vpl + (5 : Int32))).toInt - (vpl.toInt + (5 : Int))) % 4294967296 = 0 := c_iadd vpl (5 : Int32); have := rng32 (vpl + (5 : Int32)); omega)) | (have : (((vpl + (5 : Int32))).toInt - (vpl.toInt + (5 : Int))) % 4294967296 = 0 := c_iadd vpl (5 : Int32); have := rng32 (vpl + (5 : Int32)))); omega⟩
  have hat94 : cl94.slots[((vpl + (5 : Int32))).toNatClampNeg]? = some (.int w5) := Has.at H94 hin94 (by rw [own_nat (j := (vpl + (5 : Int32))) (n := pn + 5) (by push_cast; have := rng32 vpl; (first | (have : ((vpl + (5 : Int32))).toInt = vpl.toInt + (5 : Int) := (by have : (((vpl + (5 : Int32))).toInt - (vpl.toInt + (5 : Int))) % 4294967296 = 0 := c_iadd vpl (5 : Int32); have := rng32 (vpl + (5 : Int32)); omega)) | (have : (((vpl + (5 : Int32))).toInt - (vpl.toInt + (5 : Int))) % 4294967296 = 0 := c_iadd vpl (5 : Int32); have := rng32 (vpl + (5 : Int32)))); omega)]; exact own_at5 pn hp3 vf w0 w1 w2 w3 w4 w5 w6 w7 w8 w9)
  obtain ⟨_, _, ⟨T95, L95, k95, n95⟩, -, X95, ⟨Lc95, hQ95, l95, y95, z95⟩, st95⟩ := Jvm.LawKit.callS X93 hx (y := (⟨"com/example/mod7/mod7/calendar/DatesWritePinLaw", "digit", "(B)I"⟩ : MethodName)) hown (mvT hZ (hw _ (List.mem_of_getElem? (i := 16) rfl))) (mvT hZ (hw _ (List.mem_of_getElem? (i := 17) rfl))) (mvT hZ (hw _ (List.mem_of_getElem? (i := 14) rfl))) (mvT hZ (hw _ (List.mem_of_getElem? (i := 18) rfl))) (by decide) (backOf (W := 0) (rm3 l Z a0 hw [] w5 T51.heap n0 Zs52 (by omega) (by omega)) hZ (hw _ (List.mem_of_getElem? (i := 18) rfl)) (hw _ (List.mem_of_getElem? (i := 14) rfl)) (by decide) (by decide)) (g := (mkF m 403 #[.val (.long qx), .second, .val (.int vp), .val (.int vs0), .val (.long qe), .second, .val (.int vpl), .val (.int vf), .val (.ref b7), .val (.int zw), .val (.int y0), .val (.int y1), .val (.int y2), .val (.int y3), .unset, .unset, .unset, .unset, .unset, .unset, .unset] [(.int w5)])) rfl (by rw [hml]; rfl) (argsL := [(.int w5)]) (rest := []) (lenOf pd_3 rfl) rfl (by show 2 * 0 + _ ≤ _; exact Nat.le_of_eq rfl) (hb hby at_403) (fun _ _ => ⟨rfl, e93, (by decide : 1 + 0 ≤ _), (by decide : 14 + 0 ≤ _)⟩)
  dsimp only [Pt.U, Pt.locs, Pt.cells, Pt.slots] at X95 l95 y95 z95 st95 hQ95
  rw [l95, y95, z95] at X95
  obtain ⟨m0, rfl, hm0, N95q, e95⟩ := hQ95
  have N95 := Fr.app N93 N95q
  obtain ⟨cl96, Ar96, q96, S96, M96, H96, G96⟩ := id Vt
  have hin96 : ¬ ((vpl + (6 : Int32)) < 0 ∨ cl96.slots.size ≤ ((vpl + (6 : Int32))).toNatClampNeg) := inb_of S96 ⟨by rw [Int32.lt_iff_toInt_lt]; have k0 : (0 : Int32).toInt = 0 := (by decide); have := rng32 vpl; (first | (have : ((vpl + (6 : Int32))).toInt = vpl.toInt + (6 : Int) := (by have : (((vpl + (6 : Int32))).toInt - (vpl.toInt + (6 : Int))) % 4294967296 = 0 := c_iadd vpl (6 : Int32); have := rng32 (vpl + (6 : Int32)); omega)) | (have : (((vpl + (6 : Int32))).toInt - (vpl.toInt + (6 : Int))) % 4294967296 = 0 := c_iadd vpl (6 : Int32); have := rng32 (vpl + (6 : Int32)))); omega, by rw [Int32.lt_iff_toInt_lt]; have k0 : (14 : Int32).toInt = 14 := (by decide); have := rng32 vpl; (first | (have : ((vpl + (6 : Int32))).toInt = vpl.toInt + (6 : Int) := (by have : (((vpl + (6 : Int32))).toInt - (vpl.toInt + (6 : Int))) % 4294967296 = 0 := c_iadd vpl (6 : Int32); have := rng32 (vpl + (6 : Int32)); omega)) | (have : (((vpl + (6 : Int32))).toInt - (vpl.toInt + (6 : Int))) % 4294967296 = 0 := c_iadd vpl (6 : Int32); have := rng32 (vpl + (6 : Int32)))); omega⟩
  have hat96 : cl96.slots[((vpl + (6 : Int32))).toNatClampNeg]? = some (.int w6) := Has.at H96 hin96 (by rw [own_nat (j := (vpl + (6 : Int32))) (n := pn + 6) (by push_cast; have := rng32 vpl; (first | (have : ((vpl + (6 : Int32))).toInt = vpl.toInt + (6 : Int) := (by have : (((vpl + (6 : Int32))).toInt - (vpl.toInt + (6 : Int))) % 4294967296 = 0 := c_iadd vpl (6 : Int32); have := rng32 (vpl + (6 : Int32)); omega)) | (have : (((vpl + (6 : Int32))).toInt - (vpl.toInt + (6 : Int))) % 4294967296 = 0 := c_iadd vpl (6 : Int32); have := rng32 (vpl + (6 : Int32)))); omega)]; exact own_at6 pn hp3 vf w0 w1 w2 w3 w4 w5 w6 w7 w8 w9)
  obtain ⟨_, _, ⟨T97, L97, k97, n97⟩, -, X97, ⟨Lc97, hQ97, l97, y97, z97⟩, st97⟩ := Jvm.LawKit.callS X95 hx (y := (⟨"com/example/mod7/mod7/calendar/DatesWritePinLaw", "digit", "(B)I"⟩ : MethodName)) hown (mvT hZ (hw _ (List.mem_of_getElem? (i := 16) rfl))) (mvT hZ (hw _ (List.mem_of_getElem? (i := 17) rfl))) (mvT hZ (hw _ (List.mem_of_getElem? (i := 14) rfl))) (mvT hZ (hw _ (List.mem_of_getElem? (i := 18) rfl))) (by decide) (backOf (W := 0) (rm3 l Z a0 hw [] w6 T51.heap n0 Zs52 (by omega) (by omega)) hZ (hw _ (List.mem_of_getElem? (i := 18) rfl)) (hw _ (List.mem_of_getElem? (i := 14) rfl)) (by decide) (by decide)) (g := (mkF m 416 #[.val (.long qx), .second, .val (.int vp), .val (.int vs0), .val (.long qe), .second, .val (.int vpl), .val (.int vf), .val (.ref b7), .val (.int zw), .val (.int y0), .val (.int y1), .val (.int y2), .val (.int y3), .val (.int m0), .unset, .unset, .unset, .unset, .unset, .unset] [(.int w6)])) rfl (by rw [hml]; rfl) (argsL := [(.int w6)]) (rest := []) (lenOf pd_3 rfl) rfl (by show 2 * 0 + _ ≤ _; exact Nat.le_of_eq rfl) (hb hby at_416) (fun _ _ => ⟨rfl, e95, (by decide : 1 + 0 ≤ _), (by decide : 14 + 0 ≤ _)⟩)
  dsimp only [Pt.U, Pt.locs, Pt.cells, Pt.slots] at X97 l97 y97 z97 st97 hQ97
  rw [l97, y97, z97] at X97
  obtain ⟨m1, rfl, hm1, N97q, e97⟩ := hQ97
  have N97 := Fr.app N95 N97q
  obtain ⟨cl98, Ar98, q98, S98, M98, H98, G98⟩ := id Vt
  have hin98 : ¬ ((vpl + (8 : Int32)) < 0 ∨ cl98.slots.size ≤ ((vpl + (8 : Int32))).toNatClampNeg) := inb_of S98 ⟨by rw [Int32.lt_iff_toInt_lt]; have k0 : (0 : Int32).toInt = 0 := (by decide); have := rng32 vpl; (first | (have : ((vpl + (8 : Int32))).toInt = vpl.toInt + (8 : Int) := (by have : (((vpl + (8 : Int32))).toInt - (vpl.toInt + (8 : Int))) % 4294967296 = 0 := c_iadd vpl (8 : Int32); have := rng32 (vpl + (8 : Int32)); omega)) | (have : (((vpl + (8 : Int32))).toInt - (vpl.toInt + (8 : Int))) % 4294967296 = 0 := c_iadd vpl (8 : Int32); have := rng32 (vpl + (8 : Int32)))); omega, by rw [Int32.lt_iff_toInt_lt]; have k0 : (14 : Int32).toInt = 14 := (by decide); have := rng32 vpl; (first | (have : ((vpl + (8 : Int32))).toInt = vpl.toInt + (8 : Int) := (by have : (((vpl + (8 : Int32))).toInt - (vpl.toInt + (8 : Int))) % 4294967296 = 0 := c_iadd vpl (8 : Int32); have := rng32 (vpl + (8 : Int32)); omega)) | (have : (((vpl + (8 : Int32))).toInt - (vpl.toInt + (8 : Int))) % 4294967296 = 0 := c_iadd vpl (8 : Int32); have := rng32 (vpl + (8 : Int32)))); omega⟩
  have hat98 : cl98.slots[((vpl + (8 : Int32))).toNatClampNeg]? = some (.int w8) := Has.at H98 hin98 (by rw [own_nat (j := (vpl + (8 : Int32))) (n := pn + 8) (by push_cast; have := rng32 vpl; (first | (have : ((vpl + (8 : Int32))).toInt = vpl.toInt + (8 : Int) := (by have : (((vpl + (8 : Int32))).toInt - (vpl.toInt + (8 : Int))) % 4294967296 = 0 := c_iadd vpl (8 : Int32); have := rng32 (vpl + (8 : Int32)); omega)) | (have : (((vpl + (8 : Int32))).toInt - (vpl.toInt + (8 : Int))) % 4294967296 = 0 := c_iadd vpl (8 : Int32); have := rng32 (vpl + (8 : Int32)))); omega)]; exact own_at8 pn hp3 vf w0 w1 w2 w3 w4 w5 w6 w7 w8 w9)
  obtain ⟨_, _, ⟨T99, L99, k99, n99⟩, -, X99, ⟨Lc99, hQ99, l99, y99, z99⟩, st99⟩ := Jvm.LawKit.callS X97 hx (y := (⟨"com/example/mod7/mod7/calendar/DatesWritePinLaw", "digit", "(B)I"⟩ : MethodName)) hown (mvT hZ (hw _ (List.mem_of_getElem? (i := 16) rfl))) (mvT hZ (hw _ (List.mem_of_getElem? (i := 17) rfl))) (mvT hZ (hw _ (List.mem_of_getElem? (i := 14) rfl))) (mvT hZ (hw _ (List.mem_of_getElem? (i := 18) rfl))) (by decide) (backOf (W := 0) (rm3 l Z a0 hw [] w8 T51.heap n0 Zs52 (by omega) (by omega)) hZ (hw _ (List.mem_of_getElem? (i := 18) rfl)) (hw _ (List.mem_of_getElem? (i := 14) rfl)) (by decide) (by decide)) (g := (mkF m 429 #[.val (.long qx), .second, .val (.int vp), .val (.int vs0), .val (.long qe), .second, .val (.int vpl), .val (.int vf), .val (.ref b7), .val (.int zw), .val (.int y0), .val (.int y1), .val (.int y2), .val (.int y3), .val (.int m0), .val (.int m1), .unset, .unset, .unset, .unset, .unset] [(.int w8)])) rfl (by rw [hml]; rfl) (argsL := [(.int w8)]) (rest := []) (lenOf pd_3 rfl) rfl (by show 2 * 0 + _ ≤ _; exact Nat.le_of_eq rfl) (hb hby at_429) (fun _ _ => ⟨rfl, e97, (by decide : 1 + 0 ≤ _), (by decide : 14 + 0 ≤ _)⟩)
  dsimp only [Pt.U, Pt.locs, Pt.cells, Pt.slots] at X99 l99 y99 z99 st99 hQ99
  rw [l99, y99, z99] at X99
  obtain ⟨d0, rfl, hd0, N99q, e99⟩ := hQ99
  have N99 := Fr.app N97 N99q
  obtain ⟨cl100, Ar100, q100, S100, M100, H100, G100⟩ := id Vt
  have hin100 : ¬ ((vpl + (9 : Int32)) < 0 ∨ cl100.slots.size ≤ ((vpl + (9 : Int32))).toNatClampNeg) := inb_of S100 ⟨by rw [Int32.lt_iff_toInt_lt]; have k0 : (0 : Int32).toInt = 0 := (by decide); have := rng32 vpl; (first | (have : ((vpl + (9 : Int32))).toInt = vpl.toInt + (9 : Int) := (by have : (((vpl + (9 : Int32))).toInt - (vpl.toInt + (9 : Int))) % 4294967296 = 0 := c_iadd vpl (9 : Int32); have := rng32 (vpl + (9 : Int32)); omega)) | (have : (((vpl + (9 : Int32))).toInt - (vpl.toInt + (9 : Int))) % 4294967296 = 0 := c_iadd vpl (9 : Int32); have := rng32 (vpl + (9 : Int32)))); omega, by rw [Int32.lt_iff_toInt_lt]; have k0 : (14 : Int32).toInt = 14 := (by decide); have := rng32 vpl; (first | (have : ((vpl + (9 : Int32))).toInt = vpl.toInt + (9 : Int) := (by have : (((vpl + (9 : Int32))).toInt - (vpl.toInt + (9 : Int))) % 4294967296 = 0 := c_iadd vpl (9 : Int32); have := rng32 (vpl + (9 : Int32)); omega)) | (have : (((vpl + (9 : Int32))).toInt - (vpl.toInt + (9 : Int))) % 4294967296 = 0 := c_iadd vpl (9 : Int32); have := rng32 (vpl + (9 : Int32)))); omega⟩
  have hat100 : cl100.slots[((vpl + (9 : Int32))).toNatClampNeg]? = some (.int w9) := Has.at H100 hin100 (by rw [own_nat (j := (vpl + (9 : Int32))) (n := pn + 9) (by push_cast; have := rng32 vpl; (first | (have : ((vpl + (9 : Int32))).toInt = vpl.toInt + (9 : Int) := (by have : (((vpl + (9 : Int32))).toInt - (vpl.toInt + (9 : Int))) % 4294967296 = 0 := c_iadd vpl (9 : Int32); have := rng32 (vpl + (9 : Int32)); omega)) | (have : (((vpl + (9 : Int32))).toInt - (vpl.toInt + (9 : Int))) % 4294967296 = 0 := c_iadd vpl (9 : Int32); have := rng32 (vpl + (9 : Int32)))); omega)]; exact own_at9 pn hp3 vf w0 w1 w2 w3 w4 w5 w6 w7 w8 w9)
  obtain ⟨_, _, ⟨T101, L101, k101, n101⟩, -, X101, ⟨Lc101, hQ101, l101, y101, z101⟩, st101⟩ := Jvm.LawKit.callS X99 hx (y := (⟨"com/example/mod7/mod7/calendar/DatesWritePinLaw", "digit", "(B)I"⟩ : MethodName)) hown (mvT hZ (hw _ (List.mem_of_getElem? (i := 16) rfl))) (mvT hZ (hw _ (List.mem_of_getElem? (i := 17) rfl))) (mvT hZ (hw _ (List.mem_of_getElem? (i := 14) rfl))) (mvT hZ (hw _ (List.mem_of_getElem? (i := 18) rfl))) (by decide) (backOf (W := 0) (rm3 l Z a0 hw [] w9 T51.heap n0 Zs52 (by omega) (by omega)) hZ (hw _ (List.mem_of_getElem? (i := 18) rfl)) (hw _ (List.mem_of_getElem? (i := 14) rfl)) (by decide) (by decide)) (g := (mkF m 442 #[.val (.long qx), .second, .val (.int vp), .val (.int vs0), .val (.long qe), .second, .val (.int vpl), .val (.int vf), .val (.ref b7), .val (.int zw), .val (.int y0), .val (.int y1), .val (.int y2), .val (.int y3), .val (.int m0), .val (.int m1), .val (.int d0), .unset, .unset, .unset, .unset] [(.int w9)])) rfl (by rw [hml]; rfl) (argsL := [(.int w9)]) (rest := []) (lenOf pd_3 rfl) rfl (by show 2 * 0 + _ ≤ _; exact Nat.le_of_eq rfl) (hb hby at_442) (fun _ _ => ⟨rfl, e99, (by decide : 1 + 0 ≤ _), (by decide : 14 + 0 ≤ _)⟩)
  dsimp only [Pt.U, Pt.locs, Pt.cells, Pt.slots] at X101 l101 y101 z101 st101 hQ101
  rw [l101, y101, z101] at X101
  obtain ⟨d1, rfl, hd1, N101q, e101⟩ := hQ101
  have N101 := Fr.app N99 N101q
  have hc449_102 : ¬ (y0.toInt < (0 : Int)) := by omega
  have hc454_103 : ¬ (y1.toInt < (0 : Int)) := by omega
  have hc459_104 : ¬ (y2.toInt < (0 : Int)) := by omega
  have hc464_105 : ¬ (y3.toInt < (0 : Int)) := by omega
  have hc469_106 : ¬ (m0.toInt < (0 : Int)) := by omega
  have hc474_107 : ¬ (m1.toInt < (0 : Int)) := by omega
  have hc479_108 : ¬ (d0.toInt < (0 : Int)) := by omega
  have hc484_109 : ¬ (d1.toInt < (0 : Int)) := by omega
  have pre110 : ∀ t, Steps p.tables e below (T101.setTop (mkF m 510 #[.val (.long qx), .second, .val (.int vp), .val (.int vs0), .val (.long qe), .second, .val (.int vpl), .val (.int vf), .val (.ref b7), .val (.int zw), .val (.int y0), .val (.int y1), .val (.int y2), .val (.int y3), .val (.int m0), .val (.int m1), .val (.int d0), .val (.int d1), .unset, .unset, .unset] [(.int ((((y0 * (1000 : Int32)) + (y1 * (100 : Int32))) + (y2 * (10 : Int32))) + y3))])) t → Steps p.tables e below (s₁.setTop (entryFrame m #[(.long qx), (.int vp), (.int vs0)] maxLocals)) t := fun t kt => by
    refine pre6 _ ?_
    show Steps p.tables e below (s₁.setTop (mkF m 22 #[.val (.long qx), .second, .val (.int vp), .val (.int vs0), .val (.long qe), .second, .val (.int vpl), .unset, .unset, .unset, .unset, .unset, .unset, .unset, .unset, .unset, .unset, .unset, .unset, .unset, .unset] [(.int vf)])) _
    refine XS.istore X0.here hx rfl (hb hby at_22) rfl (l' := #[.val (.long qx), .second, .val (.int vp), .val (.int vs0), .val (.long qe), .second, .val (.int vpl), .val (.int vf), .unset, .unset, .unset, .unset, .unset, .unset, .unset, .unset, .unset, .unset, .unset, .unset, .unset]) rfl ?_
    refine XS.bipush X0.here hx rfl (hb hby at_24) ?_
    refine st7 _ ?_
    refine XS.dup X7.here hx rfl (hb hby at_28) rfl rfl ?_
    refine XS.iconst X7.here hx rfl (hb hby at_29) ?_
    show Steps p.tables e below (T7.setTop (mkF m 30 #[.val (.long qx), .second, .val (.int vp), .val (.int vs0), .val (.long qe), .second, .val (.int vpl), .val (.int vf), .unset, .unset, .unset, .unset, .unset, .unset, .unset, .unset, .unset, .unset, .unset, .unset, .unset] [(.int (0 : Int32)), (.ref b7), (.ref b7)])) _
    refine XS.iload X7.here hx rfl (hb hby at_30) rfl ?_
    refine st10 _ ?_
    refine XS.dup X10.here hx rfl (hb hby at_33) rfl rfl ?_
    refine XS.iconst X10.here hx rfl (hb hby at_34) ?_
    refine XS.iload X10.here hx rfl (hb hby at_35) rfl ?_
    show Steps p.tables e below (T10.setTop (mkF m 37 #[.val (.long qx), .second, .val (.int vp), .val (.int vs0), .val (.long qe), .second, .val (.int vpl), .val (.int vf), .unset, .unset, .unset, .unset, .unset, .unset, .unset, .unset, .unset, .unset, .unset, .unset, .unset] [(.int vf), (.int (1 : Int32)), (.ref b7), (.ref b7)])) _
    refine st13 _ ?_
    refine XS.dup X13.here hx rfl (hb hby at_38) rfl rfl ?_
    refine XS.iconst X13.here hx rfl (hb hby at_39) ?_
    refine XS.iload X13.here hx rfl (hb hby at_40) rfl ?_
    refine st16 _ ?_
    show Steps p.tables e below (T16.setTop (mkF m 43 #[.val (.long qx), .second, .val (.int vp), .val (.int vs0), .val (.long qe), .second, .val (.int vpl), .val (.int vf), .unset, .unset, .unset, .unset, .unset, .unset, .unset, .unset, .unset, .unset, .unset, .unset, .unset] [(.ref b7)])) _
    refine XS.dup X16.here hx rfl (hb hby at_43) rfl rfl ?_
    refine XS.iconst X16.here hx rfl (hb hby at_44) ?_
    refine XS.iload X16.here hx rfl (hb hby at_45) rfl ?_
    refine st19 _ ?_
    refine XS.dup X19.here hx rfl (hb hby at_48) rfl rfl ?_
    show Steps p.tables e below (T19.setTop (mkF m 49 #[.val (.long qx), .second, .val (.int vp), .val (.int vs0), .val (.long qe), .second, .val (.int vpl), .val (.int vf), .unset, .unset, .unset, .unset, .unset, .unset, .unset, .unset, .unset, .unset, .unset, .unset, .unset] [(.ref b7), (.ref b7)])) _
    refine XS.iconst X19.here hx rfl (hb hby at_49) ?_
    refine XS.iload X19.here hx rfl (hb hby at_50) rfl ?_
    refine st22 _ ?_
    refine XS.dup X22.here hx rfl (hb hby at_53) rfl rfl ?_
    refine XS.iconst X22.here hx rfl (hb hby at_54) ?_
    show Steps p.tables e below (T22.setTop (mkF m 55 #[.val (.long qx), .second, .val (.int vp), .val (.int vs0), .val (.long qe), .second, .val (.int vpl), .val (.int vf), .unset, .unset, .unset, .unset, .unset, .unset, .unset, .unset, .unset, .unset, .unset, .unset, .unset] [(.int (5 : Int32)), (.ref b7), (.ref b7)])) _
    refine XS.iload X22.here hx rfl (hb hby at_55) rfl ?_
    refine st25 _ ?_
    refine XS.dup X25.here hx rfl (hb hby at_58) rfl rfl ?_
    refine XS.bipush X25.here hx rfl (hb hby at_59) ?_
    refine XS.iload X25.here hx rfl (hb hby at_61) rfl ?_
    show Steps p.tables e below (T25.setTop (mkF m 63 #[.val (.long qx), .second, .val (.int vp), .val (.int vs0), .val (.long qe), .second, .val (.int vpl), .val (.int vf), .unset, .unset, .unset, .unset, .unset, .unset, .unset, .unset, .unset, .unset, .unset, .unset, .unset] [(.int vf), (.int (6 : Int32)), (.ref b7), (.ref b7)])) _
    refine st28 _ ?_
    refine XS.dup X28.here hx rfl (hb hby at_64) rfl rfl ?_
    refine XS.bipush X28.here hx rfl (hb hby at_65) ?_
    refine XS.iload X28.here hx rfl (hb hby at_67) rfl ?_
    refine st31 _ ?_
    show Steps p.tables e below (T31.setTop (mkF m 70 #[.val (.long qx), .second, .val (.int vp), .val (.int vs0), .val (.long qe), .second, .val (.int vpl), .val (.int vf), .unset, .unset, .unset, .unset, .unset, .unset, .unset, .unset, .unset, .unset, .unset, .unset, .unset] [(.ref b7)])) _
    refine XS.dup X31.here hx rfl (hb hby at_70) rfl rfl ?_
    refine XS.bipush X31.here hx rfl (hb hby at_71) ?_
    refine XS.iload X31.here hx rfl (hb hby at_73) rfl ?_
    refine st34 _ ?_
    refine XS.dup X34.here hx rfl (hb hby at_76) rfl rfl ?_
    show Steps p.tables e below (T34.setTop (mkF m 77 #[.val (.long qx), .second, .val (.int vp), .val (.int vs0), .val (.long qe), .second, .val (.int vpl), .val (.int vf), .unset, .unset, .unset, .unset, .unset, .unset, .unset, .unset, .unset, .unset, .unset, .unset, .unset] [(.ref b7), (.ref b7)])) _
    refine XS.bipush X34.here hx rfl (hb hby at_77) ?_
    refine XS.iload X34.here hx rfl (hb hby at_79) rfl ?_
    refine st37 _ ?_
    refine XS.dup X37.here hx rfl (hb hby at_82) rfl rfl ?_
    refine XS.bipush X37.here hx rfl (hb hby at_83) ?_
    show Steps p.tables e below (T37.setTop (mkF m 85 #[.val (.long qx), .second, .val (.int vp), .val (.int vs0), .val (.long qe), .second, .val (.int vpl), .val (.int vf), .unset, .unset, .unset, .unset, .unset, .unset, .unset, .unset, .unset, .unset, .unset, .unset, .unset] [(.int (10 : Int32)), (.ref b7), (.ref b7)])) _
    refine XS.iload X37.here hx rfl (hb hby at_85) rfl ?_
    refine st40 _ ?_
    refine XS.dup X40.here hx rfl (hb hby at_88) rfl rfl ?_
    refine XS.bipush X40.here hx rfl (hb hby at_89) ?_
    refine XS.iload X40.here hx rfl (hb hby at_91) rfl ?_
    show Steps p.tables e below (T40.setTop (mkF m 93 #[.val (.long qx), .second, .val (.int vp), .val (.int vs0), .val (.long qe), .second, .val (.int vpl), .val (.int vf), .unset, .unset, .unset, .unset, .unset, .unset, .unset, .unset, .unset, .unset, .unset, .unset, .unset] [(.int vf), (.int (11 : Int32)), (.ref b7), (.ref b7)])) _
    refine st43 _ ?_
    refine XS.dup X43.here hx rfl (hb hby at_94) rfl rfl ?_
    refine XS.bipush X43.here hx rfl (hb hby at_95) ?_
    refine XS.iload X43.here hx rfl (hb hby at_97) rfl ?_
    refine st46 _ ?_
    show Steps p.tables e below (T46.setTop (mkF m 100 #[.val (.long qx), .second, .val (.int vp), .val (.int vs0), .val (.long qe), .second, .val (.int vpl), .val (.int vf), .unset, .unset, .unset, .unset, .unset, .unset, .unset, .unset, .unset, .unset, .unset, .unset, .unset] [(.ref b7)])) _
    refine XS.dup X46.here hx rfl (hb hby at_100) rfl rfl ?_
    refine XS.bipush X46.here hx rfl (hb hby at_101) ?_
    refine XS.iload X46.here hx rfl (hb hby at_103) rfl ?_
    refine st49 _ ?_
    refine XS.astore X49.here hx rfl (hb hby at_106) rfl rfl (l' := #[.val (.long qx), .second, .val (.int vp), .val (.int vs0), .val (.long qe), .second, .val (.int vpl), .val (.int vf), .val (.ref b7), .unset, .unset, .unset, .unset, .unset, .unset, .unset, .unset, .unset, .unset, .unset, .unset]) rfl ?_
    show Steps p.tables e below (T49.setTop (mkF m 108 #[.val (.long qx), .second, .val (.int vp), .val (.int vs0), .val (.long qe), .second, .val (.int vpl), .val (.int vf), .val (.ref b7), .unset, .unset, .unset, .unset, .unset, .unset, .unset, .unset, .unset, .unset, .unset, .unset] [])) _
    refine XS.lload X49.here hx rfl (hb hby at_108) rfl ?_
    refine XS.aload X49.here hx rfl (hb hby at_110) rfl rfl ?_
    refine XS.iload X49.here hx rfl (hb hby at_112) rfl ?_
    refine st51 _ ?_
    refine XS.istore X51.here hx rfl (hb hby at_117) rfl (l' := #[.val (.long qx), .second, .val (.int vp), .val (.int vs0), .val (.long qe), .second, .val (.int vpl), .val (.int vf), .val (.ref b7), .val (.int zw), .unset, .unset, .unset, .unset, .unset, .unset, .unset, .unset, .unset, .unset, .unset]) rfl ?_
    show Steps p.tables e below (T51.setTop (mkF m 119 #[.val (.long qx), .second, .val (.int vp), .val (.int vs0), .val (.long qe), .second, .val (.int vpl), .val (.int vf), .val (.ref b7), .val (.int zw), .unset, .unset, .unset, .unset, .unset, .unset, .unset, .unset, .unset, .unset, .unset] [])) _
    refine XS.iload X51.here hx rfl (hb hby at_119) rfl ?_
    refine XS.iload X51.here hx rfl (hb hby at_121) rfl ?_
    refine XS.bipush X51.here hx rfl (hb hby at_123) ?_
    refine XS.iadd X51.here hx rfl (hb hby at_125) rfl ?_
    refine XS.icmpYes X51.here hx rfl (pc0 := 126) (pc' := 131) rfl (hb hby at_126) rfl (own_teq (a := zw) (b := (vpl + (10 : Int32))) rfl rfl hc126_53).1 (by decide) (by decide) ?_
    show Steps p.tables e below (T51.setTop (mkF m 131 #[.val (.long qx), .second, .val (.int vp), .val (.int vs0), .val (.long qe), .second, .val (.int vpl), .val (.int vf), .val (.ref b7), .val (.int zw), .unset, .unset, .unset, .unset, .unset, .unset, .unset, .unset, .unset, .unset, .unset] [])) _
    refine XS.aload X51.here hx rfl (hb hby at_131) rfl rfl ?_
    refine XS.iconst X51.here hx rfl (hb hby at_133) ?_
    refine XS.iload X51.here hx rfl (hb hby at_134) rfl ?_
    refine XS.iload X51.here hx rfl (hb hby at_136) rfl ?_
    refine st54 _ ?_
    show Steps p.tables e below (T54.setTop (mkF m 141 #[.val (.long qx), .second, .val (.int vp), .val (.int vs0), .val (.long qe), .second, .val (.int vpl), .val (.int vf), .val (.ref b7), .val (.int zw), .unset, .unset, .unset, .unset, .unset, .unset, .unset, .unset, .unset, .unset, .unset] [(.int kp0)])) _
    refine XS.ifNo X54.here hx rfl (hb hby at_141) rfl (own_if (own_feq (a := kp0) (b := (0 : Int32)) rfl (by decide) hc141_55).1) ?_
    refine XS.aload X54.here hx rfl (hb hby at_144) rfl rfl ?_
    refine XS.iconst X54.here hx rfl (hb hby at_146) ?_
    refine XS.iload X54.here hx rfl (hb hby at_147) rfl ?_
    refine XS.iload X54.here hx rfl (hb hby at_149) rfl ?_
    show Steps p.tables e below (T54.setTop (mkF m 151 #[.val (.long qx), .second, .val (.int vp), .val (.int vs0), .val (.long qe), .second, .val (.int vpl), .val (.int vf), .val (.ref b7), .val (.int zw), .unset, .unset, .unset, .unset, .unset, .unset, .unset, .unset, .unset, .unset, .unset] [(.int vf), (.int vpl), (.int (1 : Int32)), (.ref b7)])) _
    refine st56 _ ?_
    refine XS.ifNo X56.here hx rfl (hb hby at_154) rfl (own_if (own_feq (a := kp1) (b := (0 : Int32)) rfl (by decide) hc154_57).1) ?_
    refine XS.aload X56.here hx rfl (hb hby at_157) rfl rfl ?_
    refine XS.iconst X56.here hx rfl (hb hby at_159) ?_
    refine XS.iload X56.here hx rfl (hb hby at_160) rfl ?_
    show Steps p.tables e below (T56.setTop (mkF m 162 #[.val (.long qx), .second, .val (.int vp), .val (.int vs0), .val (.long qe), .second, .val (.int vpl), .val (.int vf), .val (.ref b7), .val (.int zw), .unset, .unset, .unset, .unset, .unset, .unset, .unset, .unset, .unset, .unset, .unset] [(.int vpl), (.int (2 : Int32)), (.ref b7)])) _
    refine XS.iload X56.here hx rfl (hb hby at_162) rfl ?_
    refine st58 _ ?_
    refine XS.ifNo X58.here hx rfl (hb hby at_167) rfl (own_if (own_feq (a := kp2) (b := (0 : Int32)) rfl (by decide) hc167_59).1) ?_
    refine XS.aload X58.here hx rfl (hb hby at_170) rfl rfl ?_
    refine XS.iconst X58.here hx rfl (hb hby at_172) ?_
    show Steps p.tables e below (T58.setTop (mkF m 173 #[.val (.long qx), .second, .val (.int vp), .val (.int vs0), .val (.long qe), .second, .val (.int vpl), .val (.int vf), .val (.ref b7), .val (.int zw), .unset, .unset, .unset, .unset, .unset, .unset, .unset, .unset, .unset, .unset, .unset] [(.int (3 : Int32)), (.ref b7)])) _
    refine XS.iload X58.here hx rfl (hb hby at_173) rfl ?_
    refine XS.iload X58.here hx rfl (hb hby at_175) rfl ?_
    refine st60 _ ?_
    refine XS.ifNo X60.here hx rfl (hb hby at_180) rfl (own_if (own_feq (a := kp3) (b := (0 : Int32)) rfl (by decide) hc180_61).1) ?_
    refine XS.aload X60.here hx rfl (hb hby at_183) rfl rfl ?_
    show Steps p.tables e below (T60.setTop (mkF m 185 #[.val (.long qx), .second, .val (.int vp), .val (.int vs0), .val (.long qe), .second, .val (.int vpl), .val (.int vf), .val (.ref b7), .val (.int zw), .unset, .unset, .unset, .unset, .unset, .unset, .unset, .unset, .unset, .unset, .unset] [(.ref b7)])) _
    refine XS.iconst X60.here hx rfl (hb hby at_185) ?_
    refine XS.iload X60.here hx rfl (hb hby at_186) rfl ?_
    refine XS.iload X60.here hx rfl (hb hby at_188) rfl ?_
    refine st62 _ ?_
    refine XS.ifNo X62.here hx rfl (hb hby at_193) rfl (own_if (own_feq (a := kp4) (b := (0 : Int32)) rfl (by decide) hc193_63).1) ?_
    show Steps p.tables e below (T62.setTop (mkF m 196 #[.val (.long qx), .second, .val (.int vp), .val (.int vs0), .val (.long qe), .second, .val (.int vpl), .val (.int vf), .val (.ref b7), .val (.int zw), .unset, .unset, .unset, .unset, .unset, .unset, .unset, .unset, .unset, .unset, .unset] [])) _
    refine XS.aload X62.here hx rfl (hb hby at_196) rfl rfl ?_
    refine XS.iconst X62.here hx rfl (hb hby at_198) ?_
    refine XS.iload X62.here hx rfl (hb hby at_199) rfl ?_
    refine XS.iload X62.here hx rfl (hb hby at_201) rfl ?_
    refine st64 _ ?_
    show Steps p.tables e below (T64.setTop (mkF m 206 #[.val (.long qx), .second, .val (.int vp), .val (.int vs0), .val (.long qe), .second, .val (.int vpl), .val (.int vf), .val (.ref b7), .val (.int zw), .unset, .unset, .unset, .unset, .unset, .unset, .unset, .unset, .unset, .unset, .unset] [(.int kp5)])) _
    refine XS.ifNo X64.here hx rfl (hb hby at_206) rfl (own_if (own_feq (a := kp5) (b := (0 : Int32)) rfl (by decide) hc206_65).1) ?_
    refine XS.aload X64.here hx rfl (hb hby at_209) rfl rfl ?_
    refine XS.bipush X64.here hx rfl (hb hby at_211) ?_
    refine XS.iload X64.here hx rfl (hb hby at_213) rfl ?_
    refine XS.iload X64.here hx rfl (hb hby at_215) rfl ?_
    show Steps p.tables e below (T64.setTop (mkF m 217 #[.val (.long qx), .second, .val (.int vp), .val (.int vs0), .val (.long qe), .second, .val (.int vpl), .val (.int vf), .val (.ref b7), .val (.int zw), .unset, .unset, .unset, .unset, .unset, .unset, .unset, .unset, .unset, .unset, .unset] [(.int vf), (.int vpl), (.int (6 : Int32)), (.ref b7)])) _
    refine st66 _ ?_
    refine XS.ifNo X66.here hx rfl (hb hby at_220) rfl (own_if (own_feq (a := kp6) (b := (0 : Int32)) rfl (by decide) hc220_67).1) ?_
    refine XS.aload X66.here hx rfl (hb hby at_223) rfl rfl ?_
    refine XS.bipush X66.here hx rfl (hb hby at_225) ?_
    refine XS.iload X66.here hx rfl (hb hby at_227) rfl ?_
    show Steps p.tables e below (T66.setTop (mkF m 229 #[.val (.long qx), .second, .val (.int vp), .val (.int vs0), .val (.long qe), .second, .val (.int vpl), .val (.int vf), .val (.ref b7), .val (.int zw), .unset, .unset, .unset, .unset, .unset, .unset, .unset, .unset, .unset, .unset, .unset] [(.int vpl), (.int (7 : Int32)), (.ref b7)])) _
    refine XS.iload X66.here hx rfl (hb hby at_229) rfl ?_
    refine st68 _ ?_
    refine XS.ifNo X68.here hx rfl (hb hby at_234) rfl (own_if (own_feq (a := kp7) (b := (0 : Int32)) rfl (by decide) hc234_69).1) ?_
    refine XS.aload X68.here hx rfl (hb hby at_237) rfl rfl ?_
    refine XS.bipush X68.here hx rfl (hb hby at_239) ?_
    show Steps p.tables e below (T68.setTop (mkF m 241 #[.val (.long qx), .second, .val (.int vp), .val (.int vs0), .val (.long qe), .second, .val (.int vpl), .val (.int vf), .val (.ref b7), .val (.int zw), .unset, .unset, .unset, .unset, .unset, .unset, .unset, .unset, .unset, .unset, .unset] [(.int (8 : Int32)), (.ref b7)])) _
    refine XS.iload X68.here hx rfl (hb hby at_241) rfl ?_
    refine XS.iload X68.here hx rfl (hb hby at_243) rfl ?_
    refine st70 _ ?_
    refine XS.ifNo X70.here hx rfl (hb hby at_248) rfl (own_if (own_feq (a := kp8) (b := (0 : Int32)) rfl (by decide) hc248_71).1) ?_
    refine XS.aload X70.here hx rfl (hb hby at_251) rfl rfl ?_
    show Steps p.tables e below (T70.setTop (mkF m 253 #[.val (.long qx), .second, .val (.int vp), .val (.int vs0), .val (.long qe), .second, .val (.int vpl), .val (.int vf), .val (.ref b7), .val (.int zw), .unset, .unset, .unset, .unset, .unset, .unset, .unset, .unset, .unset, .unset, .unset] [(.ref b7)])) _
    refine XS.bipush X70.here hx rfl (hb hby at_253) ?_
    refine XS.iload X70.here hx rfl (hb hby at_255) rfl ?_
    refine XS.iload X70.here hx rfl (hb hby at_257) rfl ?_
    refine st72 _ ?_
    refine XS.ifNo X72.here hx rfl (hb hby at_262) rfl (own_if (own_feq (a := kp9) (b := (0 : Int32)) rfl (by decide) hc262_73).1) ?_
    show Steps p.tables e below (T72.setTop (mkF m 265 #[.val (.long qx), .second, .val (.int vp), .val (.int vs0), .val (.long qe), .second, .val (.int vpl), .val (.int vf), .val (.ref b7), .val (.int zw), .unset, .unset, .unset, .unset, .unset, .unset, .unset, .unset, .unset, .unset, .unset] [])) _
    refine XS.aload X72.here hx rfl (hb hby at_265) rfl rfl ?_
    refine XS.bipush X72.here hx rfl (hb hby at_267) ?_
    refine XS.iload X72.here hx rfl (hb hby at_269) rfl ?_
    refine XS.iload X72.here hx rfl (hb hby at_271) rfl ?_
    refine st74 _ ?_
    show Steps p.tables e below (T74.setTop (mkF m 276 #[.val (.long qx), .second, .val (.int vp), .val (.int vs0), .val (.long qe), .second, .val (.int vpl), .val (.int vf), .val (.ref b7), .val (.int zw), .unset, .unset, .unset, .unset, .unset, .unset, .unset, .unset, .unset, .unset, .unset] [(.int kp10)])) _
    refine XS.ifNo X74.here hx rfl (hb hby at_276) rfl (own_if (own_feq (a := kp10) (b := (0 : Int32)) rfl (by decide) hc276_75).1) ?_
    refine XS.aload X74.here hx rfl (hb hby at_279) rfl rfl ?_
    refine XS.bipush X74.here hx rfl (hb hby at_281) ?_
    refine XS.iload X74.here hx rfl (hb hby at_283) rfl ?_
    refine XS.iload X74.here hx rfl (hb hby at_285) rfl ?_
    show Steps p.tables e below (T74.setTop (mkF m 287 #[.val (.long qx), .second, .val (.int vp), .val (.int vs0), .val (.long qe), .second, .val (.int vpl), .val (.int vf), .val (.ref b7), .val (.int zw), .unset, .unset, .unset, .unset, .unset, .unset, .unset, .unset, .unset, .unset, .unset] [(.int vf), (.int vpl), (.int (11 : Int32)), (.ref b7)])) _
    refine st76 _ ?_
    refine XS.ifNo X76.here hx rfl (hb hby at_290) rfl (own_if (own_feq (a := kp11) (b := (0 : Int32)) rfl (by decide) hc290_77).1) ?_
    refine XS.aload X76.here hx rfl (hb hby at_293) rfl rfl ?_
    refine XS.bipush X76.here hx rfl (hb hby at_295) ?_
    refine XS.iload X76.here hx rfl (hb hby at_297) rfl ?_
    show Steps p.tables e below (T76.setTop (mkF m 299 #[.val (.long qx), .second, .val (.int vp), .val (.int vs0), .val (.long qe), .second, .val (.int vpl), .val (.int vf), .val (.ref b7), .val (.int zw), .unset, .unset, .unset, .unset, .unset, .unset, .unset, .unset, .unset, .unset, .unset] [(.int vpl), (.int (12 : Int32)), (.ref b7)])) _
    refine XS.iload X76.here hx rfl (hb hby at_299) rfl ?_
    refine st78 _ ?_
    refine XS.ifNo X78.here hx rfl (hb hby at_304) rfl (own_if (own_feq (a := kp12) (b := (0 : Int32)) rfl (by decide) hc304_79).1) ?_
    refine XS.aload X78.here hx rfl (hb hby at_307) rfl rfl ?_
    refine XS.bipush X78.here hx rfl (hb hby at_309) ?_
    show Steps p.tables e below (T78.setTop (mkF m 311 #[.val (.long qx), .second, .val (.int vp), .val (.int vs0), .val (.long qe), .second, .val (.int vpl), .val (.int vf), .val (.ref b7), .val (.int zw), .unset, .unset, .unset, .unset, .unset, .unset, .unset, .unset, .unset, .unset, .unset] [(.int (13 : Int32)), (.ref b7)])) _
    refine XS.iload X78.here hx rfl (hb hby at_311) rfl ?_
    refine XS.iload X78.here hx rfl (hb hby at_313) rfl ?_
    refine st80 _ ?_
    refine XS.ifYes X80.here hx rfl (pc0 := 318) (pc' := 323) rfl (hb hby at_318) rfl (own_if (own_feq (a := kp13) (b := (0 : Int32)) rfl (by decide) hc318_81).2) (by decide) (by decide) ?_
    refine XS.aload X80.here hx rfl (hb hby at_323) rfl rfl ?_
    show Steps p.tables e below (T80.setTop (mkF m 325 #[.val (.long qx), .second, .val (.int vp), .val (.int vs0), .val (.long qe), .second, .val (.int vpl), .val (.int vf), .val (.ref b7), .val (.int zw), .unset, .unset, .unset, .unset, .unset, .unset, .unset, .unset, .unset, .unset, .unset] [(.ref b7)])) _
    refine XS.iload X80.here hx rfl (hb hby at_325) rfl ?_
    refine XS.iconst X80.here hx rfl (hb hby at_327) ?_
    refine XS.iadd X80.here hx rfl (hb hby at_328) rfl ?_
    refine X80.baloadBytes hx (j := (vpl + (4 : Int32))) (v := (.int w4)) (by rw [e80]; exact Ar82.1) (State.isArrayOf_alike hZ.alike Ar82.2.1) Ar82.2.2 hin82 hat82 (g := (mkF m 329 #[.val (.long qx), .second, .val (.int vp), .val (.int vs0), .val (.long qe), .second, .val (.int vpl), .val (.int vf), .val (.ref b7), .val (.int zw), .unset, .unset, .unset, .unset, .unset, .unset, .unset, .unset, .unset, .unset, .unset] [(.int (vpl + (4 : Int32))), (.ref b7)])) rfl rfl (hb hby at_329) _ ?_
    refine XS.bipush X80.here hx rfl (hb hby at_330) ?_
    show Steps p.tables e below (T80.setTop (mkF m 332 #[.val (.long qx), .second, .val (.int vp), .val (.int vs0), .val (.long qe), .second, .val (.int vpl), .val (.int vf), .val (.ref b7), .val (.int zw), .unset, .unset, .unset, .unset, .unset, .unset, .unset, .unset, .unset, .unset, .unset] [(.int (45 : Int32)), (.int w4)])) _
    refine XS.icmpNo X80.here hx rfl (hb hby at_332) rfl (own_teq (a := w4) (b := (45 : Int32)) rfl (by decide) hc332_83).2 ?_
    refine XS.aload X80.here hx rfl (hb hby at_335) rfl rfl ?_
    refine XS.iload X80.here hx rfl (hb hby at_337) rfl ?_
    refine XS.bipush X80.here hx rfl (hb hby at_339) ?_
    refine XS.iadd X80.here hx rfl (hb hby at_341) rfl ?_
    show Steps p.tables e below (T80.setTop (mkF m 342 #[.val (.long qx), .second, .val (.int vp), .val (.int vs0), .val (.long qe), .second, .val (.int vpl), .val (.int vf), .val (.ref b7), .val (.int zw), .unset, .unset, .unset, .unset, .unset, .unset, .unset, .unset, .unset, .unset, .unset] [(.int (vpl + (7 : Int32))), (.ref b7)])) _
    refine X80.baloadBytes hx (j := (vpl + (7 : Int32))) (v := (.int w7)) (by rw [e80]; exact Ar84.1) (State.isArrayOf_alike hZ.alike Ar84.2.1) Ar84.2.2 hin84 hat84 (g := (mkF m 342 #[.val (.long qx), .second, .val (.int vp), .val (.int vs0), .val (.long qe), .second, .val (.int vpl), .val (.int vf), .val (.ref b7), .val (.int zw), .unset, .unset, .unset, .unset, .unset, .unset, .unset, .unset, .unset, .unset, .unset] [(.int (vpl + (7 : Int32))), (.ref b7)])) rfl rfl (hb hby at_342) _ ?_
    refine XS.bipush X80.here hx rfl (hb hby at_343) ?_
    refine XS.icmpYes X80.here hx rfl (pc0 := 345) (pc' := 350) rfl (hb hby at_345) rfl (own_teq (a := w7) (b := (45 : Int32)) rfl (by decide) hc345_85).1 (by decide) (by decide) ?_
    refine XS.aload X80.here hx rfl (hb hby at_350) rfl rfl ?_
    refine XS.iload X80.here hx rfl (hb hby at_352) rfl ?_
    show Steps p.tables e below (T80.setTop (mkF m 354 #[.val (.long qx), .second, .val (.int vp), .val (.int vs0), .val (.long qe), .second, .val (.int vpl), .val (.int vf), .val (.ref b7), .val (.int zw), .unset, .unset, .unset, .unset, .unset, .unset, .unset, .unset, .unset, .unset, .unset] [(.int vpl), (.ref b7)])) _
    refine X80.baloadBytes hx (j := vpl) (v := (.int w0)) (by rw [e80]; exact Ar86.1) (State.isArrayOf_alike hZ.alike Ar86.2.1) Ar86.2.2 hin86 hat86 (g := (mkF m 354 #[.val (.long qx), .second, .val (.int vp), .val (.int vs0), .val (.long qe), .second, .val (.int vpl), .val (.int vf), .val (.ref b7), .val (.int zw), .unset, .unset, .unset, .unset, .unset, .unset, .unset, .unset, .unset, .unset, .unset] [(.int vpl), (.ref b7)])) rfl rfl (hb hby at_354) _ ?_
    refine st87 _ ?_
    refine XS.istore X87.here hx rfl (hb hby at_358) rfl (l' := #[.val (.long qx), .second, .val (.int vp), .val (.int vs0), .val (.long qe), .second, .val (.int vpl), .val (.int vf), .val (.ref b7), .val (.int zw), .val (.int y0), .unset, .unset, .unset, .unset, .unset, .unset, .unset, .unset, .unset, .unset]) rfl ?_
    refine XS.aload X87.here hx rfl (hb hby at_360) rfl rfl ?_
    refine XS.iload X87.here hx rfl (hb hby at_362) rfl ?_
    show Steps p.tables e below (T87.setTop (mkF m 364 #[.val (.long qx), .second, .val (.int vp), .val (.int vs0), .val (.long qe), .second, .val (.int vpl), .val (.int vf), .val (.ref b7), .val (.int zw), .val (.int y0), .unset, .unset, .unset, .unset, .unset, .unset, .unset, .unset, .unset, .unset] [(.int vpl), (.ref b7)])) _
    refine XS.iconst X87.here hx rfl (hb hby at_364) ?_
    refine XS.iadd X87.here hx rfl (hb hby at_365) rfl ?_
    refine X87.baloadBytes hx (j := (vpl + (1 : Int32))) (v := (.int w1)) (by rw [e87]; exact Ar88.1) (State.isArrayOf_alike hZ.alike Ar88.2.1) Ar88.2.2 hin88 hat88 (g := (mkF m 366 #[.val (.long qx), .second, .val (.int vp), .val (.int vs0), .val (.long qe), .second, .val (.int vpl), .val (.int vf), .val (.ref b7), .val (.int zw), .val (.int y0), .unset, .unset, .unset, .unset, .unset, .unset, .unset, .unset, .unset, .unset] [(.int (vpl + (1 : Int32))), (.ref b7)])) rfl rfl (hb hby at_366) _ ?_
    refine st89 _ ?_
    refine XS.istore X89.here hx rfl (hb hby at_370) rfl (l' := #[.val (.long qx), .second, .val (.int vp), .val (.int vs0), .val (.long qe), .second, .val (.int vpl), .val (.int vf), .val (.ref b7), .val (.int zw), .val (.int y0), .val (.int y1), .unset, .unset, .unset, .unset, .unset, .unset, .unset, .unset, .unset]) rfl ?_
    show Steps p.tables e below (T89.setTop (mkF m 372 #[.val (.long qx), .second, .val (.int vp), .val (.int vs0), .val (.long qe), .second, .val (.int vpl), .val (.int vf), .val (.ref b7), .val (.int zw), .val (.int y0), .val (.int y1), .unset, .unset, .unset, .unset, .unset, .unset, .unset, .unset, .unset] [])) _
    refine XS.aload X89.here hx rfl (hb hby at_372) rfl rfl ?_
    refine XS.iload X89.here hx rfl (hb hby at_374) rfl ?_
    refine XS.iconst X89.here hx rfl (hb hby at_376) ?_
    refine XS.iadd X89.here hx rfl (hb hby at_377) rfl ?_
    refine X89.baloadBytes hx (j := (vpl + (2 : Int32))) (v := (.int w2)) (by rw [e89]; exact Ar90.1) (State.isArrayOf_alike hZ.alike Ar90.2.1) Ar90.2.2 hin90 hat90 (g := (mkF m 378 #[.val (.long qx), .second, .val (.int vp), .val (.int vs0), .val (.long qe), .second, .val (.int vpl), .val (.int vf), .val (.ref b7), .val (.int zw), .val (.int y0), .val (.int y1), .unset, .unset, .unset, .unset, .unset, .unset, .unset, .unset, .unset] [(.int (vpl + (2 : Int32))), (.ref b7)])) rfl rfl (hb hby at_378) _ ?_
    show Steps p.tables e below (T89.setTop (mkF m 379 #[.val (.long qx), .second, .val (.int vp), .val (.int vs0), .val (.long qe), .second, .val (.int vpl), .val (.int vf), .val (.ref b7), .val (.int zw), .val (.int y0), .val (.int y1), .unset, .unset, .unset, .unset, .unset, .unset, .unset, .unset, .unset] [(.int w2)])) _
    refine st91 _ ?_
    refine XS.istore X91.here hx rfl (hb hby at_382) rfl (l' := #[.val (.long qx), .second, .val (.int vp), .val (.int vs0), .val (.long qe), .second, .val (.int vpl), .val (.int vf), .val (.ref b7), .val (.int zw), .val (.int y0), .val (.int y1), .val (.int y2), .unset, .unset, .unset, .unset, .unset, .unset, .unset, .unset]) rfl ?_
    refine XS.aload X91.here hx rfl (hb hby at_384) rfl rfl ?_
    refine XS.iload X91.here hx rfl (hb hby at_386) rfl ?_
    refine XS.iconst X91.here hx rfl (hb hby at_388) ?_
    show Steps p.tables e below (T91.setTop (mkF m 389 #[.val (.long qx), .second, .val (.int vp), .val (.int vs0), .val (.long qe), .second, .val (.int vpl), .val (.int vf), .val (.ref b7), .val (.int zw), .val (.int y0), .val (.int y1), .val (.int y2), .unset, .unset, .unset, .unset, .unset, .unset, .unset, .unset] [(.int (3 : Int32)), (.int vpl), (.ref b7)])) _
    refine XS.iadd X91.here hx rfl (hb hby at_389) rfl ?_
    refine X91.baloadBytes hx (j := (vpl + (3 : Int32))) (v := (.int w3)) (by rw [e91]; exact Ar92.1) (State.isArrayOf_alike hZ.alike Ar92.2.1) Ar92.2.2 hin92 hat92 (g := (mkF m 390 #[.val (.long qx), .second, .val (.int vp), .val (.int vs0), .val (.long qe), .second, .val (.int vpl), .val (.int vf), .val (.ref b7), .val (.int zw), .val (.int y0), .val (.int y1), .val (.int y2), .unset, .unset, .unset, .unset, .unset, .unset, .unset, .unset] [(.int (vpl + (3 : Int32))), (.ref b7)])) rfl rfl (hb hby at_390) _ ?_
    refine st93 _ ?_
    refine XS.istore X93.here hx rfl (hb hby at_394) rfl (l' := #[.val (.long qx), .second, .val (.int vp), .val (.int vs0), .val (.long qe), .second, .val (.int vpl), .val (.int vf), .val (.ref b7), .val (.int zw), .val (.int y0), .val (.int y1), .val (.int y2), .val (.int y3), .unset, .unset, .unset, .unset, .unset, .unset, .unset]) rfl ?_
    refine XS.aload X93.here hx rfl (hb hby at_396) rfl rfl ?_
    show Steps p.tables e below (T93.setTop (mkF m 398 #[.val (.long qx), .second, .val (.int vp), .val (.int vs0), .val (.long qe), .second, .val (.int vpl), .val (.int vf), .val (.ref b7), .val (.int zw), .val (.int y0), .val (.int y1), .val (.int y2), .val (.int y3), .unset, .unset, .unset, .unset, .unset, .unset, .unset] [(.ref b7)])) _
    refine XS.iload X93.here hx rfl (hb hby at_398) rfl ?_
    refine XS.iconst X93.here hx rfl (hb hby at_400) ?_
    refine XS.iadd X93.here hx rfl (hb hby at_401) rfl ?_
    refine X93.baloadBytes hx (j := (vpl + (5 : Int32))) (v := (.int w5)) (by rw [e93]; exact Ar94.1) (State.isArrayOf_alike hZ.alike Ar94.2.1) Ar94.2.2 hin94 hat94 (g := (mkF m 402 #[.val (.long qx), .second, .val (.int vp), .val (.int vs0), .val (.long qe), .second, .val (.int vpl), .val (.int vf), .val (.ref b7), .val (.int zw), .val (.int y0), .val (.int y1), .val (.int y2), .val (.int y3), .unset, .unset, .unset, .unset, .unset, .unset, .unset] [(.int (vpl + (5 : Int32))), (.ref b7)])) rfl rfl (hb hby at_402) _ ?_
    refine st95 _ ?_
    show Steps p.tables e below (T95.setTop (mkF m 406 #[.val (.long qx), .second, .val (.int vp), .val (.int vs0), .val (.long qe), .second, .val (.int vpl), .val (.int vf), .val (.ref b7), .val (.int zw), .val (.int y0), .val (.int y1), .val (.int y2), .val (.int y3), .unset, .unset, .unset, .unset, .unset, .unset, .unset] [(.int m0)])) _
    refine XS.istore X95.here hx rfl (hb hby at_406) rfl (l' := #[.val (.long qx), .second, .val (.int vp), .val (.int vs0), .val (.long qe), .second, .val (.int vpl), .val (.int vf), .val (.ref b7), .val (.int zw), .val (.int y0), .val (.int y1), .val (.int y2), .val (.int y3), .val (.int m0), .unset, .unset, .unset, .unset, .unset, .unset]) rfl ?_
    refine XS.aload X95.here hx rfl (hb hby at_408) rfl rfl ?_
    refine XS.iload X95.here hx rfl (hb hby at_410) rfl ?_
    refine XS.bipush X95.here hx rfl (hb hby at_412) ?_
    refine XS.iadd X95.here hx rfl (hb hby at_414) rfl ?_
    show Steps p.tables e below (T95.setTop (mkF m 415 #[.val (.long qx), .second, .val (.int vp), .val (.int vs0), .val (.long qe), .second, .val (.int vpl), .val (.int vf), .val (.ref b7), .val (.int zw), .val (.int y0), .val (.int y1), .val (.int y2), .val (.int y3), .val (.int m0), .unset, .unset, .unset, .unset, .unset, .unset] [(.int (vpl + (6 : Int32))), (.ref b7)])) _
    refine X95.baloadBytes hx (j := (vpl + (6 : Int32))) (v := (.int w6)) (by rw [e95]; exact Ar96.1) (State.isArrayOf_alike hZ.alike Ar96.2.1) Ar96.2.2 hin96 hat96 (g := (mkF m 415 #[.val (.long qx), .second, .val (.int vp), .val (.int vs0), .val (.long qe), .second, .val (.int vpl), .val (.int vf), .val (.ref b7), .val (.int zw), .val (.int y0), .val (.int y1), .val (.int y2), .val (.int y3), .val (.int m0), .unset, .unset, .unset, .unset, .unset, .unset] [(.int (vpl + (6 : Int32))), (.ref b7)])) rfl rfl (hb hby at_415) _ ?_
    refine st97 _ ?_
    refine XS.istore X97.here hx rfl (hb hby at_419) rfl (l' := #[.val (.long qx), .second, .val (.int vp), .val (.int vs0), .val (.long qe), .second, .val (.int vpl), .val (.int vf), .val (.ref b7), .val (.int zw), .val (.int y0), .val (.int y1), .val (.int y2), .val (.int y3), .val (.int m0), .val (.int m1), .unset, .unset, .unset, .unset, .unset]) rfl ?_
    refine XS.aload X97.here hx rfl (hb hby at_421) rfl rfl ?_
    refine XS.iload X97.here hx rfl (hb hby at_423) rfl ?_
    show Steps p.tables e below (T97.setTop (mkF m 425 #[.val (.long qx), .second, .val (.int vp), .val (.int vs0), .val (.long qe), .second, .val (.int vpl), .val (.int vf), .val (.ref b7), .val (.int zw), .val (.int y0), .val (.int y1), .val (.int y2), .val (.int y3), .val (.int m0), .val (.int m1), .unset, .unset, .unset, .unset, .unset] [(.int vpl), (.ref b7)])) _
    refine XS.bipush X97.here hx rfl (hb hby at_425) ?_
    refine XS.iadd X97.here hx rfl (hb hby at_427) rfl ?_
    refine X97.baloadBytes hx (j := (vpl + (8 : Int32))) (v := (.int w8)) (by rw [e97]; exact Ar98.1) (State.isArrayOf_alike hZ.alike Ar98.2.1) Ar98.2.2 hin98 hat98 (g := (mkF m 428 #[.val (.long qx), .second, .val (.int vp), .val (.int vs0), .val (.long qe), .second, .val (.int vpl), .val (.int vf), .val (.ref b7), .val (.int zw), .val (.int y0), .val (.int y1), .val (.int y2), .val (.int y3), .val (.int m0), .val (.int m1), .unset, .unset, .unset, .unset, .unset] [(.int (vpl + (8 : Int32))), (.ref b7)])) rfl rfl (hb hby at_428) _ ?_
    refine st99 _ ?_
    refine XS.istore X99.here hx rfl (hb hby at_432) rfl (l' := #[.val (.long qx), .second, .val (.int vp), .val (.int vs0), .val (.long qe), .second, .val (.int vpl), .val (.int vf), .val (.ref b7), .val (.int zw), .val (.int y0), .val (.int y1), .val (.int y2), .val (.int y3), .val (.int m0), .val (.int m1), .val (.int d0), .unset, .unset, .unset, .unset]) rfl ?_
    show Steps p.tables e below (T99.setTop (mkF m 434 #[.val (.long qx), .second, .val (.int vp), .val (.int vs0), .val (.long qe), .second, .val (.int vpl), .val (.int vf), .val (.ref b7), .val (.int zw), .val (.int y0), .val (.int y1), .val (.int y2), .val (.int y3), .val (.int m0), .val (.int m1), .val (.int d0), .unset, .unset, .unset, .unset] [])) _
    refine XS.aload X99.here hx rfl (hb hby at_434) rfl rfl ?_
    refine XS.iload X99.here hx rfl (hb hby at_436) rfl ?_
    refine XS.bipush X99.here hx rfl (hb hby at_438) ?_
    refine XS.iadd X99.here hx rfl (hb hby at_440) rfl ?_
    refine X99.baloadBytes hx (j := (vpl + (9 : Int32))) (v := (.int w9)) (by rw [e99]; exact Ar100.1) (State.isArrayOf_alike hZ.alike Ar100.2.1) Ar100.2.2 hin100 hat100 (g := (mkF m 441 #[.val (.long qx), .second, .val (.int vp), .val (.int vs0), .val (.long qe), .second, .val (.int vpl), .val (.int vf), .val (.ref b7), .val (.int zw), .val (.int y0), .val (.int y1), .val (.int y2), .val (.int y3), .val (.int m0), .val (.int m1), .val (.int d0), .unset, .unset, .unset, .unset] [(.int (vpl + (9 : Int32))), (.ref b7)])) rfl rfl (hb hby at_441) _ ?_
    show Steps p.tables e below (T99.setTop (mkF m 442 #[.val (.long qx), .second, .val (.int vp), .val (.int vs0), .val (.long qe), .second, .val (.int vpl), .val (.int vf), .val (.ref b7), .val (.int zw), .val (.int y0), .val (.int y1), .val (.int y2), .val (.int y3), .val (.int m0), .val (.int m1), .val (.int d0), .unset, .unset, .unset, .unset] [(.int w9)])) _
    refine st101 _ ?_
    refine XS.istore X101.here hx rfl (hb hby at_445) rfl (l' := #[.val (.long qx), .second, .val (.int vp), .val (.int vs0), .val (.long qe), .second, .val (.int vpl), .val (.int vf), .val (.ref b7), .val (.int zw), .val (.int y0), .val (.int y1), .val (.int y2), .val (.int y3), .val (.int m0), .val (.int m1), .val (.int d0), .val (.int d1), .unset, .unset, .unset]) rfl ?_
    refine XS.iload X101.here hx rfl (hb hby at_447) rfl ?_
    refine XS.ifNo X101.here hx rfl (hb hby at_449) rfl (own_if (own_flt (a := y0) (b := (0 : Int32)) rfl (by decide) hc449_102).1) ?_
    refine XS.iload X101.here hx rfl (hb hby at_452) rfl ?_
    show Steps p.tables e below (T101.setTop (mkF m 454 #[.val (.long qx), .second, .val (.int vp), .val (.int vs0), .val (.long qe), .second, .val (.int vpl), .val (.int vf), .val (.ref b7), .val (.int zw), .val (.int y0), .val (.int y1), .val (.int y2), .val (.int y3), .val (.int m0), .val (.int m1), .val (.int d0), .val (.int d1), .unset, .unset, .unset] [(.int y1)])) _
    refine XS.ifNo X101.here hx rfl (hb hby at_454) rfl (own_if (own_flt (a := y1) (b := (0 : Int32)) rfl (by decide) hc454_103).1) ?_
    refine XS.iload X101.here hx rfl (hb hby at_457) rfl ?_
    refine XS.ifNo X101.here hx rfl (hb hby at_459) rfl (own_if (own_flt (a := y2) (b := (0 : Int32)) rfl (by decide) hc459_104).1) ?_
    refine XS.iload X101.here hx rfl (hb hby at_462) rfl ?_
    refine XS.ifNo X101.here hx rfl (hb hby at_464) rfl (own_if (own_flt (a := y3) (b := (0 : Int32)) rfl (by decide) hc464_105).1) ?_
    show Steps p.tables e below (T101.setTop (mkF m 467 #[.val (.long qx), .second, .val (.int vp), .val (.int vs0), .val (.long qe), .second, .val (.int vpl), .val (.int vf), .val (.ref b7), .val (.int zw), .val (.int y0), .val (.int y1), .val (.int y2), .val (.int y3), .val (.int m0), .val (.int m1), .val (.int d0), .val (.int d1), .unset, .unset, .unset] [])) _
    refine XS.iload X101.here hx rfl (hb hby at_467) rfl ?_
    refine XS.ifNo X101.here hx rfl (hb hby at_469) rfl (own_if (own_flt (a := m0) (b := (0 : Int32)) rfl (by decide) hc469_106).1) ?_
    refine XS.iload X101.here hx rfl (hb hby at_472) rfl ?_
    refine XS.ifNo X101.here hx rfl (hb hby at_474) rfl (own_if (own_flt (a := m1) (b := (0 : Int32)) rfl (by decide) hc474_107).1) ?_
    refine XS.iload X101.here hx rfl (hb hby at_477) rfl ?_
    show Steps p.tables e below (T101.setTop (mkF m 479 #[.val (.long qx), .second, .val (.int vp), .val (.int vs0), .val (.long qe), .second, .val (.int vpl), .val (.int vf), .val (.ref b7), .val (.int zw), .val (.int y0), .val (.int y1), .val (.int y2), .val (.int y3), .val (.int m0), .val (.int m1), .val (.int d0), .val (.int d1), .unset, .unset, .unset] [(.int d0)])) _
    refine XS.ifNo X101.here hx rfl (hb hby at_479) rfl (own_if (own_flt (a := d0) (b := (0 : Int32)) rfl (by decide) hc479_108).1) ?_
    refine XS.iload X101.here hx rfl (hb hby at_482) rfl ?_
    refine XS.ifYes X101.here hx rfl (pc0 := 484) (pc' := 489) rfl (hb hby at_484) rfl (own_if (own_flt (a := d1) (b := (0 : Int32)) rfl (by decide) hc484_109).2.1) (by decide) (by decide) ?_
    refine XS.iload X101.here hx rfl (hb hby at_489) rfl ?_
    refine XS.sipush X101.here hx rfl (hb hby at_491) ?_
    show Steps p.tables e below (T101.setTop (mkF m 494 #[.val (.long qx), .second, .val (.int vp), .val (.int vs0), .val (.long qe), .second, .val (.int vpl), .val (.int vf), .val (.ref b7), .val (.int zw), .val (.int y0), .val (.int y1), .val (.int y2), .val (.int y3), .val (.int m0), .val (.int m1), .val (.int d0), .val (.int d1), .unset, .unset, .unset] [(.int (1000 : Int32)), (.int y0)])) _
    refine XS.imul X101.here hx rfl (hb hby at_494) rfl ?_
    refine XS.iload X101.here hx rfl (hb hby at_495) rfl ?_
    refine XS.bipush X101.here hx rfl (hb hby at_497) ?_
    refine XS.imul X101.here hx rfl (hb hby at_499) rfl ?_
    refine XS.iadd X101.here hx rfl (hb hby at_500) rfl ?_
    show Steps p.tables e below (T101.setTop (mkF m 501 #[.val (.long qx), .second, .val (.int vp), .val (.int vs0), .val (.long qe), .second, .val (.int vpl), .val (.int vf), .val (.ref b7), .val (.int zw), .val (.int y0), .val (.int y1), .val (.int y2), .val (.int y3), .val (.int m0), .val (.int m1), .val (.int d0), .val (.int d1), .unset, .unset, .unset] [(.int ((y0 * (1000 : Int32)) + (y1 * (100 : Int32))))])) _
    refine XS.iload X101.here hx rfl (hb hby at_501) rfl ?_
    refine XS.bipush X101.here hx rfl (hb hby at_503) ?_
    refine XS.imul X101.here hx rfl (hb hby at_505) rfl ?_
    refine XS.iadd X101.here hx rfl (hb hby at_506) rfl ?_
    refine XS.iload X101.here hx rfl (hb hby at_507) rfl ?_
    show Steps p.tables e below (T101.setTop (mkF m 509 #[.val (.long qx), .second, .val (.int vp), .val (.int vs0), .val (.long qe), .second, .val (.int vpl), .val (.int vf), .val (.ref b7), .val (.int zw), .val (.int y0), .val (.int y1), .val (.int y2), .val (.int y3), .val (.int m0), .val (.int m1), .val (.int d0), .val (.int d1), .unset, .unset, .unset] [(.int y3), (.int (((y0 * (1000 : Int32)) + (y1 * (100 : Int32))) + (y2 * (10 : Int32))))])) _
    refine XS.iadd X101.here hx rfl (hb hby at_509) rfl ?_
    exact kt
  obtain ⟨vy, hvy⟩ : ∃ z : Int32, z = ((((y0 * (1000 : Int32)) + (y1 * (100 : Int32))) + (y2 * (10 : Int32))) + y3) := ⟨_, rfl⟩
  have ivy : vy.toInt = Y := by rw [hvy]; have := rng32 y0; (first | (have : ((y0 * (1000 : Int32))).toInt = y0.toInt * (1000 : Int) := (by have : (((y0 * (1000 : Int32))).toInt - (y0.toInt * (1000 : Int))) % 4294967296 = 0 := c_imul y0 (1000 : Int32); have := rng32 (y0 * (1000 : Int32)); omega)) | (have : (((y0 * (1000 : Int32))).toInt - (y0.toInt * (1000 : Int))) % 4294967296 = 0 := c_imul y0 (1000 : Int32); have := rng32 (y0 * (1000 : Int32)))); have := rng32 y1; (first | (have : ((y1 * (100 : Int32))).toInt = y1.toInt * (100 : Int) := (by have : (((y1 * (100 : Int32))).toInt - (y1.toInt * (100 : Int))) % 4294967296 = 0 := c_imul y1 (100 : Int32); have := rng32 (y1 * (100 : Int32)); omega)) | (have : (((y1 * (100 : Int32))).toInt - (y1.toInt * (100 : Int))) % 4294967296 = 0 := c_imul y1 (100 : Int32); have := rng32 (y1 * (100 : Int32)))); (first | (have : (((y0 * (1000 : Int32)) + (y1 * (100 : Int32)))).toInt = (y0 * (1000 : Int32)).toInt + (y1 * (100 : Int32)).toInt := (by have : ((((y0 * (1000 : Int32)) + (y1 * (100 : Int32)))).toInt - ((y0 * (1000 : Int32)).toInt + (y1 * (100 : Int32)).toInt)) % 4294967296 = 0 := c_iadd (y0 * (1000 : Int32)) (y1 * (100 : Int32)); have := rng32 ((y0 * (1000 : Int32)) + (y1 * (100 : Int32))); omega)) | (have : ((((y0 * (1000 : Int32)) + (y1 * (100 : Int32)))).toInt - ((y0 * (1000 : Int32)).toInt + (y1 * (100 : Int32)).toInt)) % 4294967296 = 0 := c_iadd (y0 * (1000 : Int32)) (y1 * (100 : Int32)); have := rng32 ((y0 * (1000 : Int32)) + (y1 * (100 : Int32))))); have := rng32 y2; (first | (have : ((y2 * (10 : Int32))).toInt = y2.toInt * (10 : Int) := (by have : (((y2 * (10 : Int32))).toInt - (y2.toInt * (10 : Int))) % 4294967296 = 0 := c_imul y2 (10 : Int32); have := rng32 (y2 * (10 : Int32)); omega)) | (have : (((y2 * (10 : Int32))).toInt - (y2.toInt * (10 : Int))) % 4294967296 = 0 := c_imul y2 (10 : Int32); have := rng32 (y2 * (10 : Int32)))); (first | (have : ((((y0 * (1000 : Int32)) + (y1 * (100 : Int32))) + (y2 * (10 : Int32)))).toInt = ((y0 * (1000 : Int32)) + (y1 * (100 : Int32))).toInt + (y2 * (10 : Int32)).toInt := (by have : (((((y0 * (1000 : Int32)) + (y1 * (100 : Int32))) + (y2 * (10 : Int32)))).toInt - (((y0 * (1000 : Int32)) + (y1 * (100 : Int32))).toInt + (y2 * (10 : Int32)).toInt)) % 4294967296 = 0 := c_iadd ((y0 * (1000 : Int32)) + (y1 * (100 : Int32))) (y2 * (10 : Int32)); have := rng32 (((y0 * (1000 : Int32)) + (y1 * (100 : Int32))) + (y2 * (10 : Int32))); omega)) | (have : (((((y0 * (1000 : Int32)) + (y1 * (100 : Int32))) + (y2 * (10 : Int32)))).toInt - (((y0 * (1000 : Int32)) + (y1 * (100 : Int32))).toInt + (y2 * (10 : Int32)).toInt)) % 4294967296 = 0 := c_iadd ((y0 * (1000 : Int32)) + (y1 * (100 : Int32))) (y2 * (10 : Int32)); have := rng32 (((y0 * (1000 : Int32)) + (y1 * (100 : Int32))) + (y2 * (10 : Int32))))); have := rng32 y3; (first | (have : (((((y0 * (1000 : Int32)) + (y1 * (100 : Int32))) + (y2 * (10 : Int32))) + y3)).toInt = (((y0 * (1000 : Int32)) + (y1 * (100 : Int32))) + (y2 * (10 : Int32))).toInt + y3.toInt := (by have : ((((((y0 * (1000 : Int32)) + (y1 * (100 : Int32))) + (y2 * (10 : Int32))) + y3)).toInt - ((((y0 * (1000 : Int32)) + (y1 * (100 : Int32))) + (y2 * (10 : Int32))).toInt + y3.toInt)) % 4294967296 = 0 := c_iadd (((y0 * (1000 : Int32)) + (y1 * (100 : Int32))) + (y2 * (10 : Int32))) y3; have := rng32 ((((y0 * (1000 : Int32)) + (y1 * (100 : Int32))) + (y2 * (10 : Int32))) + y3); omega)) | (have : ((((((y0 * (1000 : Int32)) + (y1 * (100 : Int32))) + (y2 * (10 : Int32))) + y3)).toInt - ((((y0 * (1000 : Int32)) + (y1 * (100 : Int32))) + (y2 * (10 : Int32))).toInt + y3.toInt)) % 4294967296 = 0 := c_iadd (((y0 * (1000 : Int32)) + (y1 * (100 : Int32))) + (y2 * (10 : Int32))) y3; have := rng32 ((((y0 * (1000 : Int32)) + (y1 * (100 : Int32))) + (y2 * (10 : Int32))) + y3))); omega
  have pre111 : ∀ t, Steps p.tables e below (T101.setTop (mkF m 510 #[.val (.long qx), .second, .val (.int vp), .val (.int vs0), .val (.long qe), .second, .val (.int vpl), .val (.int vf), .val (.ref b7), .val (.int zw), .val (.int y0), .val (.int y1), .val (.int y2), .val (.int y3), .val (.int m0), .val (.int m1), .val (.int d0), .val (.int d1), .unset, .unset, .unset] [(.int vy)])) t → Steps p.tables e below (s₁.setTop (entryFrame m #[(.long qx), (.int vp), (.int vs0)] maxLocals)) t := by rw [hvy]; exact pre110
  have pre112 : ∀ t, Steps p.tables e below (T101.setTop (mkF m 520 #[.val (.long qx), .second, .val (.int vp), .val (.int vs0), .val (.long qe), .second, .val (.int vpl), .val (.int vf), .val (.ref b7), .val (.int zw), .val (.int y0), .val (.int y1), .val (.int y2), .val (.int y3), .val (.int m0), .val (.int m1), .val (.int d0), .val (.int d1), .val (.int vy), .unset, .unset] [(.int ((m0 * (10 : Int32)) + m1))])) t → Steps p.tables e below (s₁.setTop (entryFrame m #[(.long qx), (.int vp), (.int vs0)] maxLocals)) t := fun t kt => by
    refine pre111 _ ?_
    refine XS.istore X101.here hx rfl (hb hby at_510) rfl (l' := #[.val (.long qx), .second, .val (.int vp), .val (.int vs0), .val (.long qe), .second, .val (.int vpl), .val (.int vf), .val (.ref b7), .val (.int zw), .val (.int y0), .val (.int y1), .val (.int y2), .val (.int y3), .val (.int m0), .val (.int m1), .val (.int d0), .val (.int d1), .val (.int vy), .unset, .unset]) rfl ?_
    refine XS.iload X101.here hx rfl (hb hby at_512) rfl ?_
    refine XS.bipush X101.here hx rfl (hb hby at_514) ?_
    refine XS.imul X101.here hx rfl (hb hby at_516) rfl ?_
    show Steps p.tables e below (T101.setTop (mkF m 517 #[.val (.long qx), .second, .val (.int vp), .val (.int vs0), .val (.long qe), .second, .val (.int vpl), .val (.int vf), .val (.ref b7), .val (.int zw), .val (.int y0), .val (.int y1), .val (.int y2), .val (.int y3), .val (.int m0), .val (.int m1), .val (.int d0), .val (.int d1), .val (.int vy), .unset, .unset] [(.int (m0 * (10 : Int32)))])) _
    refine XS.iload X101.here hx rfl (hb hby at_517) rfl ?_
    refine XS.iadd X101.here hx rfl (hb hby at_519) rfl ?_
    exact kt
  obtain ⟨vmo, hvmo⟩ : ∃ z : Int32, z = ((m0 * (10 : Int32)) + m1) := ⟨_, rfl⟩
  have ivmo : vmo.toInt = Mo := by rw [hvmo]; have := rng32 m0; (first | (have : ((m0 * (10 : Int32))).toInt = m0.toInt * (10 : Int) := (by have : (((m0 * (10 : Int32))).toInt - (m0.toInt * (10 : Int))) % 4294967296 = 0 := c_imul m0 (10 : Int32); have := rng32 (m0 * (10 : Int32)); omega)) | (have : (((m0 * (10 : Int32))).toInt - (m0.toInt * (10 : Int))) % 4294967296 = 0 := c_imul m0 (10 : Int32); have := rng32 (m0 * (10 : Int32)))); have := rng32 m1; (first | (have : (((m0 * (10 : Int32)) + m1)).toInt = (m0 * (10 : Int32)).toInt + m1.toInt := (by have : ((((m0 * (10 : Int32)) + m1)).toInt - ((m0 * (10 : Int32)).toInt + m1.toInt)) % 4294967296 = 0 := c_iadd (m0 * (10 : Int32)) m1; have := rng32 ((m0 * (10 : Int32)) + m1); omega)) | (have : ((((m0 * (10 : Int32)) + m1)).toInt - ((m0 * (10 : Int32)).toInt + m1.toInt)) % 4294967296 = 0 := c_iadd (m0 * (10 : Int32)) m1; have := rng32 ((m0 * (10 : Int32)) + m1))); omega
  have pre113 : ∀ t, Steps p.tables e below (T101.setTop (mkF m 520 #[.val (.long qx), .second, .val (.int vp), .val (.int vs0), .val (.long qe), .second, .val (.int vpl), .val (.int vf), .val (.ref b7), .val (.int zw), .val (.int y0), .val (.int y1), .val (.int y2), .val (.int y3), .val (.int m0), .val (.int m1), .val (.int d0), .val (.int d1), .val (.int vy), .unset, .unset] [(.int vmo)])) t → Steps p.tables e below (s₁.setTop (entryFrame m #[(.long qx), (.int vp), (.int vs0)] maxLocals)) t := by rw [hvmo]; exact pre112
  have pre114 : ∀ t, Steps p.tables e below (T101.setTop (mkF m 530 #[.val (.long qx), .second, .val (.int vp), .val (.int vs0), .val (.long qe), .second, .val (.int vpl), .val (.int vf), .val (.ref b7), .val (.int zw), .val (.int y0), .val (.int y1), .val (.int y2), .val (.int y3), .val (.int m0), .val (.int m1), .val (.int d0), .val (.int d1), .val (.int vy), .val (.int vmo), .unset] [(.int ((d0 * (10 : Int32)) + d1))])) t → Steps p.tables e below (s₁.setTop (entryFrame m #[(.long qx), (.int vp), (.int vs0)] maxLocals)) t := fun t kt => by
    refine pre113 _ ?_
    refine XS.istore X101.here hx rfl (hb hby at_520) rfl (l' := #[.val (.long qx), .second, .val (.int vp), .val (.int vs0), .val (.long qe), .second, .val (.int vpl), .val (.int vf), .val (.ref b7), .val (.int zw), .val (.int y0), .val (.int y1), .val (.int y2), .val (.int y3), .val (.int m0), .val (.int m1), .val (.int d0), .val (.int d1), .val (.int vy), .val (.int vmo), .unset]) rfl ?_
    refine XS.iload X101.here hx rfl (hb hby at_522) rfl ?_
    refine XS.bipush X101.here hx rfl (hb hby at_524) ?_
    show Steps p.tables e below (T101.setTop (mkF m 526 #[.val (.long qx), .second, .val (.int vp), .val (.int vs0), .val (.long qe), .second, .val (.int vpl), .val (.int vf), .val (.ref b7), .val (.int zw), .val (.int y0), .val (.int y1), .val (.int y2), .val (.int y3), .val (.int m0), .val (.int m1), .val (.int d0), .val (.int d1), .val (.int vy), .val (.int vmo), .unset] [(.int (10 : Int32)), (.int d0)])) _
    refine XS.imul X101.here hx rfl (hb hby at_526) rfl ?_
    refine XS.iload X101.here hx rfl (hb hby at_527) rfl ?_
    refine XS.iadd X101.here hx rfl (hb hby at_529) rfl ?_
    exact kt
  obtain ⟨vda, hvda⟩ : ∃ z : Int32, z = ((d0 * (10 : Int32)) + d1) := ⟨_, rfl⟩
  have ivda : vda.toInt = Da := by rw [hvda]; have := rng32 d0; (first | (have : ((d0 * (10 : Int32))).toInt = d0.toInt * (10 : Int) := (by have : (((d0 * (10 : Int32))).toInt - (d0.toInt * (10 : Int))) % 4294967296 = 0 := c_imul d0 (10 : Int32); have := rng32 (d0 * (10 : Int32)); omega)) | (have : (((d0 * (10 : Int32))).toInt - (d0.toInt * (10 : Int))) % 4294967296 = 0 := c_imul d0 (10 : Int32); have := rng32 (d0 * (10 : Int32)))); have := rng32 d1; (first | (have : (((d0 * (10 : Int32)) + d1)).toInt = (d0 * (10 : Int32)).toInt + d1.toInt := (by have : ((((d0 * (10 : Int32)) + d1)).toInt - ((d0 * (10 : Int32)).toInt + d1.toInt)) % 4294967296 = 0 := c_iadd (d0 * (10 : Int32)) d1; have := rng32 ((d0 * (10 : Int32)) + d1); omega)) | (have : ((((d0 * (10 : Int32)) + d1)).toInt - ((d0 * (10 : Int32)).toInt + d1.toInt)) % 4294967296 = 0 := c_iadd (d0 * (10 : Int32)) d1; have := rng32 ((d0 * (10 : Int32)) + d1))); omega
  have pre115 : ∀ t, Steps p.tables e below (T101.setTop (mkF m 530 #[.val (.long qx), .second, .val (.int vp), .val (.int vs0), .val (.long qe), .second, .val (.int vpl), .val (.int vf), .val (.ref b7), .val (.int zw), .val (.int y0), .val (.int y1), .val (.int y2), .val (.int y3), .val (.int m0), .val (.int m1), .val (.int d0), .val (.int d1), .val (.int vy), .val (.int vmo), .unset] [(.int vda)])) t → Steps p.tables e below (s₁.setTop (entryFrame m #[(.long qx), (.int vp), (.int vs0)] maxLocals)) t := by rw [hvda]; exact pre114
  have hc535_116 : ¬ (vmo.toInt < (1 : Int)) := by omega
  have hc542_117 : ¬ ((12 : Int) < vmo.toInt) := by omega
  have hc550_118 : ¬ (vda.toInt < (1 : Int)) := by omega
  obtain ⟨_, _, ⟨T119, L119, k119, n119⟩, -, X119, ⟨Lc119, hQ119, l119, y119, z119⟩, st119⟩ := Jvm.LawKit.callS X101 hx (y := (⟨"com/example/mod7/mod7/calendar/DatesWritePinLaw", "length", "(II)I"⟩ : MethodName)) hown (mvT hZ (hw _ (List.mem_of_getElem? (i := 19) rfl))) (mvT hZ (hw _ (List.mem_of_getElem? (i := 20) rfl))) (mvT hZ (hw _ (List.mem_of_getElem? (i := 14) rfl))) (mvT hZ (hw _ (List.mem_of_getElem? (i := 21) rfl))) (by decide) (backOf (W := 1) (rm4 l Z a0 hw [] vy vmo T51.heap n0 Zs52 (by omega) (by omega)) hZ (hw _ (List.mem_of_getElem? (i := 21) rfl)) (hw _ (List.mem_of_getElem? (i := 14) rfl)) (by decide) (by decide)) (g := (mkF m 559 #[.val (.long qx), .second, .val (.int vp), .val (.int vs0), .val (.long qe), .second, .val (.int vpl), .val (.int vf), .val (.ref b7), .val (.int zw), .val (.int y0), .val (.int y1), .val (.int y2), .val (.int y3), .val (.int m0), .val (.int m1), .val (.int d0), .val (.int d1), .val (.int vy), .val (.int vmo), .val (.int vda)] [(.int vmo), (.int vy), (.int vda)])) rfl (by rw [hml]; rfl) (argsL := [(.int vy), (.int vmo)]) (rest := [(.int vda)]) (lenOf pd_4 rfl) rfl (by show 2 * 0 + _ ≤ _; exact Nat.le_of_eq rfl) (hb hby at_559) (fun _ _ => ⟨rfl, e101, (by decide : 1 + 0 ≤ _), (by decide : 14 + 0 ≤ _)⟩)
  dsimp only [Pt.U, Pt.locs, Pt.cells, Pt.slots] at X119 l119 y119 z119 st119 hQ119
  rw [l119, y119, z119] at X119
  obtain ⟨ln, rfl, hln, N119q, e119⟩ := hQ119
  have N119 := Fr.app N101 N119q
  have hc562_120 : ¬ (ln.toInt < vda.toInt) := by omega
  have f122 := ((((((((((((((((O0.ext E7).wr W10 g_b7).wr W13 g_b7).wr W16 g_b7).wr W19 g_b7).wr W22 g_b7).wr W25 g_b7).wr W28 g_b7).wr W31 g_b7).wr W34 g_b7).wr W37 g_b7).wr W40 g_b7).wr W43 g_b7).wr W46 g_b7).wr W49 g_b7).keep K51 (allS g_b7 all0))
  have Exsd123 : Ext Z.heap T51.heap := ⟨by have q1 := f122.1; have q2 := f122.2.1; omega, f122.2.2⟩
  obtain ⟨_, _, ⟨T121, L121, k121, n121⟩, -, X121, ⟨Lc121, hQ121, l121, y121, z121⟩, st121⟩ := Jvm.LawKit.callS X119 hx (y := (⟨"com/example/mod7/mod7/calendar/Dates", "epochDay", "(III)J"⟩ : MethodName)) hown (mvT hZ (hw _ (List.mem_of_getElem? (i := 22) rfl))) (mvT hZ (hw _ (List.mem_of_getElem? (i := 23) rfl))) (mvT hZ (hw _ (List.mem_of_getElem? (i := 6) rfl))) (mvT hZ (hw _ (List.mem_of_getElem? (i := 24) rfl))) (by decide) (backOf (W := 0) (rm5 l Z a0 hw [] vy vmo vda wd kd T51.heap n0 Zs52 (by omega) (by omega) (by omega) (by omega) (by omega) (by omega) (Sd.ext Exsd123) (Vd.ext Exsd123)) hZ (hw _ (List.mem_of_getElem? (i := 24) rfl)) (hw _ (List.mem_of_getElem? (i := 6) rfl)) (by decide) (by decide)) (g := (mkF m 573 #[.val (.long qx), .second, .val (.int vp), .val (.int vs0), .val (.long qe), .second, .val (.int vpl), .val (.int vf), .val (.ref b7), .val (.int zw), .val (.int y0), .val (.int y1), .val (.int y2), .val (.int y3), .val (.int m0), .val (.int m1), .val (.int d0), .val (.int d1), .val (.int vy), .val (.int vmo), .val (.int vda)] [(.int vda), (.int vmo), (.int vy)])) rfl (by rw [hml]; rfl) (argsL := [(.int vy), (.int vmo), (.int vda)]) (rest := []) (lenOf pd_5 rfl) rfl (by show 2 * 0 + _ ≤ _; exact Nat.le_of_eq rfl) (hb hby at_573) (fun _ _ => ⟨rfl, e119, (by decide : 1 + 0 ≤ _), (by decide : 14 + 0 ≤ _)⟩)
  dsimp only [Pt.U, Pt.locs, Pt.cells, Pt.slots] at X121 l121 y121 z121 st121 hQ121
  rw [l121, y121, z121] at X121
  obtain ⟨ed, rfl, hed, N121q, e121⟩ := hQ121
  have N121 := Fr.app N119 N121q
  have ied : ed.toInt = qe.toInt := by rw [hed, ivy, ivmo, ivda]; exact cv10
  have hc579_124 : ed.toInt = qe.toInt := by omega
  obtain ⟨fs, hr, hrun, hended, hW, hsame⟩ := X121.leave (v := some (.int (1 : Int32))) (fun h => by rw [Bd.returns] at h; cases h)
  refine ⟨_, _, pre115 _ ?_, hrun, hended, _, _, rfl, ?_, ⟨_, rfl⟩, hW, hsame.mono (by decide) (by decide)⟩
  · refine XS.istore X101.here hx rfl (hb hby at_530) rfl (l' := #[.val (.long qx), .second, .val (.int vp), .val (.int vs0), .val (.long qe), .second, .val (.int vpl), .val (.int vf), .val (.ref b7), .val (.int zw), .val (.int y0), .val (.int y1), .val (.int y2), .val (.int y3), .val (.int m0), .val (.int m1), .val (.int d0), .val (.int d1), .val (.int vy), .val (.int vmo), .val (.int vda)]) rfl ?_
    refine XS.iload X101.here hx rfl (hb hby at_532) rfl ?_
    show Steps p.tables e below (T101.setTop (mkF m 534 #[.val (.long qx), .second, .val (.int vp), .val (.int vs0), .val (.long qe), .second, .val (.int vpl), .val (.int vf), .val (.ref b7), .val (.int zw), .val (.int y0), .val (.int y1), .val (.int y2), .val (.int y3), .val (.int m0), .val (.int m1), .val (.int d0), .val (.int d1), .val (.int vy), .val (.int vmo), .val (.int vda)] [(.int vmo)])) _
    refine XS.iconst X101.here hx rfl (hb hby at_534) ?_
    refine XS.icmpNo X101.here hx rfl (hb hby at_535) rfl (own_flt (a := vmo) (b := (1 : Int32)) rfl (by decide) hc535_116).1 ?_
    refine XS.iload X101.here hx rfl (hb hby at_538) rfl ?_
    refine XS.bipush X101.here hx rfl (hb hby at_540) ?_
    refine XS.icmpYes X101.here hx rfl (pc0 := 542) (pc' := 547) rfl (hb hby at_542) rfl (own_flt (a := (12 : Int32)) (b := vmo) (by decide) rfl hc542_117).2.2.2 (by decide) (by decide) ?_
    show Steps p.tables e below (T101.setTop (mkF m 547 #[.val (.long qx), .second, .val (.int vp), .val (.int vs0), .val (.long qe), .second, .val (.int vpl), .val (.int vf), .val (.ref b7), .val (.int zw), .val (.int y0), .val (.int y1), .val (.int y2), .val (.int y3), .val (.int m0), .val (.int m1), .val (.int d0), .val (.int d1), .val (.int vy), .val (.int vmo), .val (.int vda)] [])) _
    refine XS.iload X101.here hx rfl (hb hby at_547) rfl ?_
    refine XS.iconst X101.here hx rfl (hb hby at_549) ?_
    refine XS.icmpNo X101.here hx rfl (hb hby at_550) rfl (own_flt (a := vda) (b := (1 : Int32)) rfl (by decide) hc550_118).1 ?_
    refine XS.iload X101.here hx rfl (hb hby at_553) rfl ?_
    refine XS.iload X101.here hx rfl (hb hby at_555) rfl ?_
    show Steps p.tables e below (T101.setTop (mkF m 557 #[.val (.long qx), .second, .val (.int vp), .val (.int vs0), .val (.long qe), .second, .val (.int vpl), .val (.int vf), .val (.ref b7), .val (.int zw), .val (.int y0), .val (.int y1), .val (.int y2), .val (.int y3), .val (.int m0), .val (.int m1), .val (.int d0), .val (.int d1), .val (.int vy), .val (.int vmo), .val (.int vda)] [(.int vy), (.int vda)])) _
    refine XS.iload X101.here hx rfl (hb hby at_557) rfl ?_
    refine st119 _ ?_
    refine XS.icmpYes X119.here hx rfl (pc0 := 562) (pc' := 567) rfl (hb hby at_562) rfl (own_flt (a := ln) (b := vda) rfl rfl hc562_120).2.2.2 (by decide) (by decide) ?_
    refine XS.iload X119.here hx rfl (hb hby at_567) rfl ?_
    refine XS.iload X119.here hx rfl (hb hby at_569) rfl ?_
    show Steps p.tables e below (T119.setTop (mkF m 571 #[.val (.long qx), .second, .val (.int vp), .val (.int vs0), .val (.long qe), .second, .val (.int vpl), .val (.int vf), .val (.ref b7), .val (.int zw), .val (.int y0), .val (.int y1), .val (.int y2), .val (.int y3), .val (.int m0), .val (.int m1), .val (.int d0), .val (.int d1), .val (.int vy), .val (.int vmo), .val (.int vda)] [(.int vmo), (.int vy)])) _
    refine XS.iload X119.here hx rfl (hb hby at_571) rfl ?_
    refine st121 _ ?_
    refine XS.lload X121.here hx rfl (hb hby at_576) rfl ?_
    refine XS.lcmp X121.here hx rfl (hb hby at_578) rfl ?_
    refine XS.ifNo X121.here hx rfl (hb hby at_579) rfl (own_if (own_teqL (x := ed) (y := qe) rfl rfl hc579_124).2) ?_
    show Steps p.tables e below (T121.setTop (mkF m 582 #[.val (.long qx), .second, .val (.int vp), .val (.int vs0), .val (.long qe), .second, .val (.int vpl), .val (.int vf), .val (.ref b7), .val (.int zw), .val (.int y0), .val (.int y1), .val (.int y2), .val (.int y3), .val (.int m0), .val (.int m1), .val (.int d0), .val (.int d1), .val (.int vy), .val (.int vmo), .val (.int vda)] [])) _
    refine XS.iconst X121.here hx rfl (hb hby at_582) ?_
    refine XS.goto X121.here hx rfl (pc0 := 583) (pc' := 587) rfl (hb hby at_583) (by decide) (by decide) ?_
    exact retN X121 hx (t := .boolean) Bd.returns (by simp) (hb hby at_587) hr
  · show Q0 Z qx vp vs0 wd kd h0 n0 _ T121.heap _
    rw [e121]
    exact ⟨rfl, N121⟩
theorem own_tabstart {s : State} {args : Array Value} (hfit : Fit s) (hn : narrow_1.value args s none s [] = some true) (hi : (Cond.initialized "com/example/mod7/mod7/calendar/Dates").before args s = true) (hl : (Cond.laysStatic "com/example/mod7/mod7/calendar/Dates" "DAYS_BEFORE_MONTH" "[I").before args s = true) :
    ∃ (wd : Addr) (kd : ClassId), Sta s s.heap "com/example/mod7/mod7/calendar/Dates" "DAYS_BEFORE_MONTH" "[I" (.ref wd) ∧ Arv s s.heap wd kd .int (12 : Int32) [(.int (0 : Int32)), (.int (31 : Int32)), (.int (59 : Int32)), (.int (90 : Int32)), (.int (120 : Int32)), (.int (151 : Int32)), (.int (181 : Int32)), (.int (212 : Int32)), (.int (243 : Int32)), (.int (273 : Int32)), (.int (304 : Int32)), (.int (334 : Int32))] (.int (0 : Int32)) := by
  obtain ⟨n1, r1⟩ := and_e hn
  obtain ⟨wd, ed⟩ := arr_v n1
  obtain ⟨cl, Ar⟩ := Arr.start ed n1
  obtain ⟨nl, r2⟩ := and_e r1
  obtain ⟨k0, q0⟩ := and_e r2
  obtain ⟨k1, q1⟩ := and_e q0
  obtain ⟨k2, q2⟩ := and_e q1
  obtain ⟨k3, q3⟩ := and_e q2
  obtain ⟨k4, q4⟩ := and_e q3
  obtain ⟨k5, q5⟩ := and_e q4
  obtain ⟨k6, q6⟩ := and_e q5
  obtain ⟨k7, q7⟩ := and_e q6
  obtain ⟨k8, q8⟩ := and_e q7
  obtain ⟨k9, q9⟩ := and_e q8
  obtain ⟨k10, q10⟩ := and_e q9
  have hlen := Cond.eq_int (Cond.before_iff.mpr nl) rfl
  have ha : s.arrayAt? wd = some cl := Arr.fin (Vm.Alike.refl _) Ar
  have h31 : cl.slots.size < 2 ^ 31 := Jvm.Free.SBG.length_lt ed ha hlen
  have hz : cl.slots.size.toInt32 = (12 : Int32) := by
    have q := (len_f ed ha h31).symm.trans hlen
    simpa using q
  refine ⟨wd, cl.cls, Sta.start ed (Or.inr ⟨hi, hl⟩), Arv.start hfit Ar h31 hz (by decide) rfl ?_⟩
  have z0 : cl.slots[0]? = some (.int (0 : Int32)) := (elem_in (Cond.eq_int (Cond.before_iff.mpr k0) rfl) ed rfl Ar.1).2
  have z1 : cl.slots[1]? = some (.int (31 : Int32)) := (elem_in (Cond.eq_int (Cond.before_iff.mpr k1) rfl) ed rfl Ar.1).2
  have z2 : cl.slots[2]? = some (.int (59 : Int32)) := (elem_in (Cond.eq_int (Cond.before_iff.mpr k2) rfl) ed rfl Ar.1).2
  have z3 : cl.slots[3]? = some (.int (90 : Int32)) := (elem_in (Cond.eq_int (Cond.before_iff.mpr k3) rfl) ed rfl Ar.1).2
  have z4 : cl.slots[4]? = some (.int (120 : Int32)) := (elem_in (Cond.eq_int (Cond.before_iff.mpr k4) rfl) ed rfl Ar.1).2
  have z5 : cl.slots[5]? = some (.int (151 : Int32)) := (elem_in (Cond.eq_int (Cond.before_iff.mpr k5) rfl) ed rfl Ar.1).2
  have z6 : cl.slots[6]? = some (.int (181 : Int32)) := (elem_in (Cond.eq_int (Cond.before_iff.mpr k6) rfl) ed rfl Ar.1).2
  have z7 : cl.slots[7]? = some (.int (212 : Int32)) := (elem_in (Cond.eq_int (Cond.before_iff.mpr k7) rfl) ed rfl Ar.1).2
  have z8 : cl.slots[8]? = some (.int (243 : Int32)) := (elem_in (Cond.eq_int (Cond.before_iff.mpr k8) rfl) ed rfl Ar.1).2
  have z9 : cl.slots[9]? = some (.int (273 : Int32)) := (elem_in (Cond.eq_int (Cond.before_iff.mpr k9) rfl) ed rfl Ar.1).2
  have z10 : cl.slots[10]? = some (.int (304 : Int32)) := (elem_in (Cond.eq_int (Cond.before_iff.mpr k10) rfl) ed rfl Ar.1).2
  have z11 : cl.slots[11]? = some (.int (334 : Int32)) := (elem_in (Cond.eq_int (Cond.before_iff.mpr q10) rfl) ed rfl Ar.1).2
  exact ⟨z0, z1, z2, z3, z4, z5, z6, z7, z8, z9, z10, z11, trivial⟩
set_option maxRecDepth 65536 in
set_option maxHeartbeats 40000000 in
theorem comes_1 {Post : Tables → Env → Array Value → State → Outcome → State → Prop} (hpost : ∀ tb e args s v u, (limb_1_1.after args s (.returned v) u = true ∧ limb_1_2.after args s (.returned v) u = true ∧ True) → FrameEnd s (.returned v) u (Jvm.fieldLocs frame_1_writes args s ++ Jvm.arrayLocs frame_1_arrays args s ++ Jvm.staticLocs frame_1_statics s) 16 128 → Post tb e args s (.returned v) u) :
    ArmFor flags0 classFile x code maxLocals ret World_1 tables_1 room_1 Calls_1 rest_1 Pre_1 Post := by
  intro l hfl _ _ p e ha hc hk s m args below hf hA hF happ hP
  obtain ⟨hcalls, hrest, hpre⟩ := hP
  obtain ⟨-, -, -, hnamed, -, -, -, hat⟩ := (Spec.applies_iff hf).mp happ
  obtain ⟨hg, hn⟩ := and_e (Cond.before_iff.mp (show (Jvm.Cond.and given_1 narrow_1).before args s = true from hpre))
  obtain ⟨g0, gr0⟩ := and_e hg
  obtain ⟨ga0, gr1⟩ := and_e gr0
  obtain ⟨ga1, gr2⟩ := and_e gr1
  obtain ⟨w0, w1, w2, rfl⟩ : ∃ w0 w1 w2 : Value, args = #[w0, w1, w2] := by
    have hs : args.size = 3 := by simpa [Cond.value, given_1] using g0
    obtain ⟨L⟩ := args
    match L, hs with
    | [w0, w1, w2], _ => exact ⟨w0, w1, w2, rfl⟩
  have hw := fun d (hd : d ∈ tables_1) => atoms_spec (ws := Jvm.Cond.code x code maxLocals ret :: tables_1) hat d (List.mem_cons_of_mem _ hd)
  have hfit : Fit s := fun {y c} hc i hi => by
    obtain ⟨ha, rfl⟩ := Array.getElem?_eq_some_iff.mp hc
    have q := List.all_eq_true.mp ((Array.all_eq_true_iff_forall_mem.mp hF) _ (Array.getElem_mem ha)) i (List.mem_range.mpr hi)
    simpa [Array.getElem?_eq_getElem hi] using q
  obtain ⟨i0, ei0⟩ := isL_v ga0
  obtain rfl : w0 = (.long i0) := Option.some.inj ei0
  obtain ⟨i1, ei1⟩ := is_v ga1
  obtain rfl : w1 = (.int i1) := Option.some.inj ei1
  obtain ⟨i2, ei2⟩ := is_v gr2
  obtain rfl : w2 = (.int i2) := Option.some.inj ei2
  obtain ⟨wd, kd, Sd, Vd⟩ := own_tabstart hfit hn (hw _ (List.mem_of_getElem? (i := 6) rfl)) (hw _ (List.mem_of_getElem? (i := 30) rfl))
  obtain ⟨n, o, h1, h2, h3, v0, L, rfl, hQ, hq⟩ := rm0 l s _ hw tables_1 i0 i1 i2 wd kd s.heap s.heap.size (Nat.le_refl _) (Old.start s) Sd Vd p e ha hc hk s m _ below hf ((Spec.applies_iff_loose hf).mp happ).1 ⟨rfl, State.Warmed39.refl s, rfl⟩ trivial
  obtain ⟨rfl, N⟩ : v0 = some (.int (1 : Int32)) ∧ Fr s.heap.size L := hQ
  refine ⟨n, _, h1, h2, h3, hpost _ _ _ _ _ _ ⟨Cond.after_iff.mpr rfl, Cond.after_iff.mpr (eq_i res_at (Term.int_eval (1)) rfl), trivial⟩ ⟨hq.1, hq.2.1, (hq.2.2.sift fun y hy => Or.inr (N y hy)).mono (by decide) (by decide)⟩⟩
theorem main_1_1 : Claimed_1_1 := comes_1 fun _ _ _ _ _ _ h hF => ⟨h.1, hF⟩
theorem main_1_2 : Claimed_1_2 := comes_1 fun _ _ _ _ _ _ h hF => ⟨h.2.1, hF⟩
end Jvm.Pilot.@@N@@
namespace Jvm.Pilot.@@N@@
open Jvm Jvm.ClassFile Sem Op Lib Jvm.Free Jvm.Stand Jvm.Pilot.@@N@@.Jvm.D
/-! MADE BY PROGRAM (witnessworld.py) out of the Statement's table words and the real class files: 9 classes; the members and pool entries that the words name. The judged class is class 1, her method 4. -/
namespace start1
open Jvm.ClassFile
def u (s : String) : CpInfo := .utf8 (stringToUtf16 s)
/-- a pool by its gaps: so many unusable entries, then the entry; so many at the end -/
def gap : Nat → List CpInfo → List CpInfo
  | 0, r => r
  | n + 1, r => .unusable :: gap n r
def poolList (es : List (Nat × CpInfo)) (last : Nat) : List CpInfo := es.foldr (fun e r => gap e.1 (e.2 :: r)) (gap last [])
def pool (es : List (Nat × CpInfo)) (last : Nat) : Array CpInfo := ⟨poolList es last⟩
def fileOf (pool : Array CpInfo) (this : Nat) (attrs : Array Attribute := #[]) (ms : Array MethodInfo := #[]) (fl : Nat := 33) (sup : Nat := 0) (ifs : Array Nat := #[]) (fds : Array FieldInfo := #[]) : ClassFile where
  minorVersion := 0
  majorVersion := 65
  constantPool := pool
  accessFlags := fl
  thisClass := this
  superClass := sup
  interfaces := ifs
  fields := fds
  methods := ms
  attributes := attrs
def plain (name : String) (sup : Option ClassId) : Class where
  name := name
  kind := .ordinary
  loader := none
  accessFlags := 33
  super := sup
  interfaces := #[]
  cf := none
  fields := #[]
  methods := #[]
  instanceTypes := #[]
  staticTypes := #[]
  resolved := #[]
  callSites := []
  init := .initialized
  statics := none
  mirror := none

def pool0 : Array CpInfo := pool [(5, u "<init>"), (0, u "()V"), (1, .class_ 10), (1, u "java/lang/Object")] 113

def k0m0 : Method := { name := "<init>", desc := "()V", sig := { parameters := [], returnType := none }, accessFlags := 1, code := none }
/-- java/lang/Object -/
def k0 : Class := { plain "java/lang/Object" none with
  accessFlags := 33
  interfaces := #[]
  cf := some (fileOf pool0 8 #[] #[{ accessFlags := 1, nameIndex := 5, descriptorIndex := 6, attributes := #[] }] 33 0 #[] #[])
  fields := #[]
  methods := #[k0m0]
  instanceTypes := #[]
  staticTypes := #[]
  resolved := Array.replicate 124 none
  statics := none }

def pool1 : Array CpInfo := pool [(2, .class_ 4), (1, u "java/lang/Object"), (0, u "<init>"), (0, u "()V"), (0, .long 18446744073709410267), (3, .long 9223372036854775807), (1, .long 919316), (1, .methodref 16 17), (0, .class_ 18), (0, .nameAndType 19 20), (0, u "com/example/mod7/mod7/calendar/Dates"), (0, u "write"), (0, u "(J[BI)I"), (0, .methodref 22 23), (0, .class_ 24), (0, .nameAndType 25 26), (0, u "com/example/mod7/mod7/calendar/DatesWritePinLaw"), (0, u "kept"), (0, u "([BIIB)Z"), (0, .methodref 22 28), (0, .nameAndType 29 30), (0, u "digit"), (0, u "(B)I"), (0, .methodref 22 32), (0, .nameAndType 33 34), (0, u "length"), (0, u "(II)I"), (0, .methodref 16 36), (0, .nameAndType 37 38), (0, u "epochDay"), (0, u "(III)J"), (3, u "law"), (0, u "(JII)Z")] 4

def k1m0 : Method := { name := "<init>", desc := "()V", sig := { parameters := [], returnType := none }, accessFlags := 1, code := none }
def k1c1 : Code := { maxStack := 2, maxLocals := 2, code := method_2_code, exceptionTable := #[], attributes := #[] }
def k1m1 : Method := { name := "digit", desc := "(B)I", sig := { parameters := [.byte], returnType := some .int }, accessFlags := 10, code := some k1c1 }
def k1c2 : Code := { maxStack := 3, maxLocals := 4, code := method_3_code, exceptionTable := #[], attributes := #[] }
def k1m2 : Method := { name := "kept", desc := "([BIIB)Z", sig := { parameters := [(.array .byte), .int, .int, .byte], returnType := some .boolean }, accessFlags := 10, code := some k1c2 }
def k1c3 : Code := { maxStack := 2, maxLocals := 3, code := method_4_code, exceptionTable := #[], attributes := #[] }
def k1m3 : Method := { name := "length", desc := "(II)I", sig := { parameters := [.int, .int], returnType := some .int }, accessFlags := 10, code := some k1c3 }
def k1c4 : Code := { maxStack := 6, maxLocals := 21, code := code, exceptionTable := #[], attributes := #[] }
def k1m4 : Method := { name := "law", desc := "(JII)Z", sig := { parameters := [.long, .int, .int], returnType := some .boolean }, accessFlags := 9, code := some k1c4 }
/-- com/example/mod7/mod7/calendar/DatesWritePinLaw -/
def k1 : Class := { plain "com/example/mod7/mod7/calendar/DatesWritePinLaw" (some 0) with
  accessFlags := 49
  interfaces := #[]
  cf := some (fileOf pool1 22 #[] #[{ accessFlags := 1, nameIndex := 5, descriptorIndex := 6, attributes := #[] }, { accessFlags := 10, nameIndex := 29, descriptorIndex := 30, attributes := #[] }, { accessFlags := 10, nameIndex := 25, descriptorIndex := 26, attributes := #[] }, { accessFlags := 10, nameIndex := 33, descriptorIndex := 34, attributes := #[] }, { accessFlags := 9, nameIndex := 42, descriptorIndex := 43, attributes := #[] }] 49 2 #[] #[])
  fields := #[]
  methods := #[k1m0, k1m1, k1m2, k1m3, k1m4]
  instanceTypes := #[]
  staticTypes := #[]
  resolved := Array.replicate 48 none
  statics := none }

def pool2 : Array CpInfo := pool [(1, .class_ 2), (0, u "com/example/mod7/mod7/calendar/Dates"), (1, .class_ 6), (1, u "java/lang/Object"), (0, u "<init>"), (0, u "()V"), (10, u "FIRST"), (0, u "Ljava/time/LocalDate;"), (8, u "LAST"), (41, .long 4), (1, .long 100), (1, .long 400), (7, .long 365), (1, .fieldref 1 86), (0, .nameAndType 87 88), (0, u "DAYS_BEFORE_MONTH"), (0, u "[I"), (0, .methodref 1 90), (0, .nameAndType 91 92), (0, u "isLeap"), (0, u "(I)Z"), (0, .long 719162), (13, u "epochDay"), (0, u "(III)J"), (1, .long 719468), (1, .long 146097), (1, .integer 36524), (0, .integer 146096), (45, u "WRITTEN_LENGTH"), (0, u "I"), (2, u "YEAR_ONE_TO_1970"), (0, u "J"), (0, u "MARCH_OF_YEAR_ZERO_TO_1970"), (0, u "DAYS_IN_ERA"), (0, u "YEARS_IN_ERA"), (10, u "write"), (0, u "(J[BI)I")] 27

def k2m0 : Method := { name := "<init>", desc := "()V", sig := { parameters := [], returnType := none }, accessFlags := 2, code := none }
def k2c1 : Code := { maxStack := 6, maxLocals := 9, code := prog_2_method_7_code, exceptionTable := #[], attributes := #[] }
def k2m1 : Method := { name := "epochDay", desc := "(III)J", sig := { parameters := [.int, .int, .int], returnType := some .long }, accessFlags := 9, code := some k2c1 }
def k2c2 : Code := { maxStack := 6, maxLocals := 14, code := prog_2_method_10_code, exceptionTable := #[], attributes := #[] }
def k2m2 : Method := { name := "write", desc := "(J[BI)I", sig := { parameters := [.long, (.array .byte), .int], returnType := some .int }, accessFlags := 9, code := some k2c2 }
def k2c3 : Code := { maxStack := 2, maxLocals := 1, code := prog_2_method_11_code, exceptionTable := #[], attributes := #[] }
def k2m3 : Method := { name := "isLeap", desc := "(I)Z", sig := { parameters := [.int], returnType := some .boolean }, accessFlags := 9, code := some k2c3 }
/-- com/example/mod7/mod7/calendar/Dates -/
def k2 : Class := { plain "com/example/mod7/mod7/calendar/Dates" (some 0) with
  accessFlags := 33
  interfaces := #[]
  cf := some (fileOf pool2 1 #[] #[{ accessFlags := 2, nameIndex := 7, descriptorIndex := 8, attributes := #[] }, { accessFlags := 9, nameIndex := 107, descriptorIndex := 108, attributes := #[] }, { accessFlags := 9, nameIndex := 180, descriptorIndex := 181, attributes := #[] }, { accessFlags := 9, nameIndex := 91, descriptorIndex := 92, attributes := #[] }] 33 4 #[] #[{ accessFlags := 25, nameIndex := 19, descriptorIndex := 20, attributes := #[] }, { accessFlags := 25, nameIndex := 29, descriptorIndex := 20, attributes := #[] }, { accessFlags := 25, nameIndex := 161, descriptorIndex := 162, attributes := #[] }, { accessFlags := 26, nameIndex := 87, descriptorIndex := 88, attributes := #[] }, { accessFlags := 26, nameIndex := 165, descriptorIndex := 166, attributes := #[] }, { accessFlags := 26, nameIndex := 167, descriptorIndex := 166, attributes := #[] }, { accessFlags := 26, nameIndex := 168, descriptorIndex := 162, attributes := #[] }, { accessFlags := 26, nameIndex := 169, descriptorIndex := 162, attributes := #[] }])
  fields := #[{ name := "FIRST", type := (.object "java/time/LocalDate"), accessFlags := 25, slot := 0, constantValue := 0 }, { name := "LAST", type := (.object "java/time/LocalDate"), accessFlags := 25, slot := 1, constantValue := 0 }, { name := "WRITTEN_LENGTH", type := .int, accessFlags := 25, slot := 2, constantValue := 0 }, { name := "DAYS_BEFORE_MONTH", type := (.array .int), accessFlags := 26, slot := 3, constantValue := 0 }, { name := "YEAR_ONE_TO_1970", type := .long, accessFlags := 26, slot := 4, constantValue := 0 }, { name := "MARCH_OF_YEAR_ZERO_TO_1970", type := .long, accessFlags := 26, slot := 5, constantValue := 0 }, { name := "DAYS_IN_ERA", type := .int, accessFlags := 26, slot := 6, constantValue := 0 }, { name := "YEARS_IN_ERA", type := .int, accessFlags := 26, slot := 7, constantValue := 0 }]
  methods := #[k2m0, k2m1, k2m2, k2m3]
  instanceTypes := #[]
  staticTypes := #[(.object "java/time/LocalDate"), (.object "java/time/LocalDate"), .int, (.array .int), .long, .long, .int, .int]
  resolved := Array.replicate 209 none
  statics := some 0 }

def pool3 : Array CpInfo := pool [(1, u "java/lang/Cloneable"), (0, .class_ 1), (0, u "java/lang/Object"), (0, .class_ 3)] 3

/-- java/lang/Cloneable -/
def k3 : Class := { plain "java/lang/Cloneable" (some 0) with
  accessFlags := 1537
  interfaces := #[]
  cf := some (fileOf pool3 2 #[] #[] 1537 4 #[] #[])
  fields := #[]
  methods := #[]
  instanceTypes := #[]
  staticTypes := #[]
  resolved := Array.replicate 8 none
  statics := none }

def pool4 : Array CpInfo := pool [(1, u "java/io/Serializable"), (0, .class_ 1), (0, u "java/lang/Object"), (0, .class_ 3)] 3

/-- java/io/Serializable -/
def k4 : Class := { plain "java/io/Serializable" (some 0) with
  accessFlags := 1537
  interfaces := #[]
  cf := some (fileOf pool4 2 #[] #[] 1537 4 #[] #[])
  fields := #[]
  methods := #[]
  instanceTypes := #[]
  staticTypes := #[]
  resolved := Array.replicate 8 none
  statics := none }

/-- the primitive byte -/
def k5 : Class := { plain "byte" none with kind := .primitive 'B', accessFlags := 0x411 }
/-- [B -/
def k6 : Class := { plain "[B" (some 0) with kind := .array 5 .byte, interfaces := #[3, 4], accessFlags := 1041 }

/-- the primitive int -/
def k7 : Class := { plain "int" none with kind := .primitive 'I', accessFlags := 0x411 }
/-- [I -/
def k8 : Class := { plain "[I" (some 0) with kind := .array 7 .int, interfaces := #[3, 4], accessFlags := 1041 }

def heap : Heap := #[{ cls := 2, slots := #[.null, .null, .int 0, .ref 1, .long 0, .long 0, .int 0, .int 0], vm := .statics 2 },
  { cls := 8, slots := #[.int 0, .int 31, .int 59, .int 90, .int 120, .int 151, .int 181, .int 212, .int 243, .int 273, .int 304, .int 334], vm := .none }]
def classes : Array Class := #[k0, k1, k2, k3, k4, k5, k6, k7, k8]
def interned : List (Array UInt16 × Addr) := []
def slotsUsed : Nat := 20
def theMethod : MethodId := ⟨1, 4⟩
def args0 : Array Value := #[.long 5, .int 6, .int 7]
def aboutOver (below : List Frame) : State where
  vm := { classes := classes, interned := interned.toArray }
  heap := heap
  slotsUsed := slotsUsed
  threads := #[{ frames := .invoking theMethod args0 :: below }]
def below0 : List Frame := [.native { method := ⟨0, 0⟩, args := #[] }]
def about1 : State := aboutOver below0
def p0 : Program := .bare "" "" ""
def e0 : Env := launch0.env 0 0 0
theorem w_frames : about1.frames = Frame.invoking theMethod args0 :: below0 := rfl
set_option maxRecDepth 65536 in
theorem w_args : argsFit about1.vm theMethod args0 = true := by decide +kernel
set_option maxRecDepth 65536 in
theorem w_heap : heapFits about1 = true := by decide +kernel
set_option maxRecDepth 65536 in
theorem w_runnable : about1.curStatus? = some .runnable := by decide +kernel
set_option maxRecDepth 65536 in
theorem w_alone : about1.alone = true := by decide +kernel
set_option maxRecDepth 65536 in
theorem w_named : about1.methodNamed? x = some theMethod := by decide +kernel
set_option maxRecDepth 65536 in
theorem w_hears : about1.hears theMethod below0 = true := by decide +kernel
set_option maxRecDepth 65536 in
theorem w_ripe : about1.ripe theMethod args0 below0 = true := by decide +kernel
theorem w_running : about1.status = .running := rfl
set_option maxRecDepth 65536 in
theorem w_room : about1.hasRoom e0.platform room_1 = true :=
  launch0.hasRoom_least _ room_1 (by decide +kernel) (by decide +kernel) (by decide +kernel) (by decide +kernel) (by decide +kernel) (by decide +kernel)
theorem allAtoms_all (ts : List Jvm.Cond) (a : Array Jvm.Value) (st : Jvm.State) : (allAtoms ts).before a st = ts.all (fun c => c.before a st) := by
  induction ts with
  | nil => rfl
  | cons c t ih =>
    show (Jvm.Cond.and c (allAtoms t)).before a st = _
    rw [Jvm.Cond.before_and, ih, List.all_cons]
def words1 : List Jvm.Cond := Jvm.Cond.code x code maxLocals ret :: tables_1
/-- a 'code' word, met by the world's own term for the bytes: nothing is compared byte by byte -/
theorem code_word {y : MethodName} {bytes : ByteArray} {mx : Nat} {rt : Option FieldType} {a : Array Value} {s : State} {m : MethodId} {meth : Method} {c : Code} (h1 : s.methodNamed? y = some m) (h2 : s.vm.method? m = some meth) (h3 : meth.code = some c) (h4 : c.code = bytes)
    (h5 : (c.maxLocals == mx && c.exceptionTable.isEmpty && decide (c.maxStack ≤ mostOperands) && decide (meth.sig.returnType = rt) && !meth.locks && decide (parseMethodDescriptor y.desc = some meth.sig)) = true) : (Jvm.Cond.code y bytes mx rt).before a s = true := by
  simp only [Bool.and_eq_true, beq_iff_eq, Bool.not_eq_true', decide_eq_true_eq] at h5
  obtain ⟨⟨⟨⟨⟨g1, g2⟩, g3⟩, g4⟩, g5⟩, g6⟩ := h5
  simp [Cond.before, Cond.holds, Cond.value, h1, h2, h3, h4, g1, g2, g3, g4, g5, g6]
def isCode : Jvm.Cond → Bool
  | .code _ _ _ _ => true
  | _ => false
theorem all_split {L : List Jvm.Cond} {P : Jvm.Cond → Bool} (h1 : L.all (fun c => isCode c || P c) = true) (h2 : ∀ c ∈ L.filter isCode, P c = true) : L.all P = true := by
  refine List.all_eq_true.mpr fun c hc => ?_
  have h := List.all_eq_true.mp h1 c hc
  rcases Bool.eq_false_or_eq_true (isCode c) with hi | hi
  · exact h2 c (List.mem_filter.mpr ⟨hc, hi⟩)
  · simpa [hi] using h
set_option maxRecDepth 65536 in
theorem w_c0 : (Jvm.Cond.code x code maxLocals ret).before args0 about1 = true := code_word (m := ⟨1, 4⟩) (meth := k1m4) (c := k1c4) (by decide +kernel) rfl rfl rfl (by decide +kernel)
set_option maxRecDepth 65536 in
theorem w_c1 : (Jvm.Cond.code ({ cls := "com/example/mod7/mod7/calendar/Dates", name := "write", desc := "(J[BI)I" } : Jvm.MethodName) prog_2_method_10_code (14 : Nat) (Option.some Jvm.ClassFile.FieldType.int)).before args0 about1 = true := code_word (m := ⟨2, 2⟩) (meth := k2m2) (c := k2c2) (by decide +kernel) rfl rfl rfl (by decide +kernel)
set_option maxRecDepth 65536 in
theorem w_c2 : (Jvm.Cond.code ({ cls := "com/example/mod7/mod7/calendar/DatesWritePinLaw", name := "kept", desc := "([BIIB)Z" } : Jvm.MethodName) method_3_code (4 : Nat) (Option.some Jvm.ClassFile.FieldType.boolean)).before args0 about1 = true := code_word (m := ⟨1, 2⟩) (meth := k1m2) (c := k1c2) (by decide +kernel) rfl rfl rfl (by decide +kernel)
set_option maxRecDepth 65536 in
theorem w_c3 : (Jvm.Cond.code ({ cls := "com/example/mod7/mod7/calendar/DatesWritePinLaw", name := "digit", desc := "(B)I" } : Jvm.MethodName) method_2_code (2 : Nat) (Option.some Jvm.ClassFile.FieldType.int)).before args0 about1 = true := code_word (m := ⟨1, 1⟩) (meth := k1m1) (c := k1c1) (by decide +kernel) rfl rfl rfl (by decide +kernel)
set_option maxRecDepth 65536 in
theorem w_c4 : (Jvm.Cond.code ({ cls := "com/example/mod7/mod7/calendar/DatesWritePinLaw", name := "length", desc := "(II)I" } : Jvm.MethodName) method_4_code (3 : Nat) (Option.some Jvm.ClassFile.FieldType.int)).before args0 about1 = true := code_word (m := ⟨1, 3⟩) (meth := k1m3) (c := k1c3) (by decide +kernel) rfl rfl rfl (by decide +kernel)
set_option maxRecDepth 65536 in
theorem w_c5 : (Jvm.Cond.code ({ cls := "com/example/mod7/mod7/calendar/Dates", name := "epochDay", desc := "(III)J" } : Jvm.MethodName) prog_2_method_7_code (9 : Nat) (Option.some Jvm.ClassFile.FieldType.long)).before args0 about1 = true := code_word (m := ⟨2, 1⟩) (meth := k2m1) (c := k2c1) (by decide +kernel) rfl rfl rfl (by decide +kernel)
set_option maxRecDepth 65536 in
theorem w_c6 : (Jvm.Cond.code ({ cls := "com/example/mod7/mod7/calendar/Dates", name := "isLeap", desc := "(I)Z" } : Jvm.MethodName) prog_2_method_11_code (1 : Nat) (Option.some Jvm.ClassFile.FieldType.boolean)).before args0 about1 = true := code_word (m := ⟨2, 3⟩) (meth := k2m3) (c := k2c3) (by decide +kernel) rfl rfl rfl (by decide +kernel)
def codes1 : List Jvm.Cond := [Jvm.Cond.code x code maxLocals ret, Jvm.Cond.code ({ cls := "com/example/mod7/mod7/calendar/Dates", name := "write", desc := "(J[BI)I" } : Jvm.MethodName) prog_2_method_10_code (14 : Nat) (Option.some Jvm.ClassFile.FieldType.int), Jvm.Cond.code ({ cls := "com/example/mod7/mod7/calendar/DatesWritePinLaw", name := "kept", desc := "([BIIB)Z" } : Jvm.MethodName) method_3_code (4 : Nat) (Option.some Jvm.ClassFile.FieldType.boolean), Jvm.Cond.code ({ cls := "com/example/mod7/mod7/calendar/DatesWritePinLaw", name := "digit", desc := "(B)I" } : Jvm.MethodName) method_2_code (2 : Nat) (Option.some Jvm.ClassFile.FieldType.int), Jvm.Cond.code ({ cls := "com/example/mod7/mod7/calendar/DatesWritePinLaw", name := "length", desc := "(II)I" } : Jvm.MethodName) method_4_code (3 : Nat) (Option.some Jvm.ClassFile.FieldType.int), Jvm.Cond.code ({ cls := "com/example/mod7/mod7/calendar/Dates", name := "epochDay", desc := "(III)J" } : Jvm.MethodName) prog_2_method_7_code (9 : Nat) (Option.some Jvm.ClassFile.FieldType.long), Jvm.Cond.code ({ cls := "com/example/mod7/mod7/calendar/Dates", name := "isLeap", desc := "(I)Z" } : Jvm.MethodName) prog_2_method_11_code (1 : Nat) (Option.some Jvm.ClassFile.FieldType.boolean)]
set_option maxRecDepth 65536 in
theorem codes_eq : words1.filter isCode = codes1 := rfl
theorem w_codes : ∀ c ∈ words1.filter isCode, c.before args0 about1 = true := by
  rw [codes_eq]
  intro c hc
  simp only [codes1, List.mem_cons, List.not_mem_nil, or_false] at hc
  rcases hc with rfl | rfl | rfl | rfl | rfl | rfl | rfl
  · exact w_c0
  · exact w_c1
  · exact w_c2
  · exact w_c3
  · exact w_c4
  · exact w_c5
  · exact w_c6
set_option maxRecDepth 65536 in
theorem w_t1 : (words1.take 24).all (fun c => isCode c || c.before args0 about1) = true := by decide +kernel
set_option maxRecDepth 65536 in
theorem w_t2 : (words1.drop 24).all (fun c => isCode c || c.before args0 about1) = true := by decide +kernel
theorem w_tables : (allAtoms (Jvm.Cond.code x code maxLocals ret :: tables_1)).before args0 about1 = true := by
  rw [allAtoms_all]
  show words1.all (fun c => c.before args0 about1) = true
  refine all_split ?_ w_codes
  rw [← List.take_append_drop 24 words1, List.all_append, w_t1, w_t2]
  rfl
set_option maxRecDepth 65536 in
theorem w_case : (Jvm.Cond.and given_1 narrow_1).before args0 about1 = true := by decide +kernel
theorem w_applies : (headSpec (Jvm.Cond.code x code maxLocals ret :: tables_1) room_1).applies x e0.platform about1 = true :=
  (Spec.applies_iff w_frames).mpr ⟨w_running, w_runnable, w_alone, w_named, w_hears, w_ripe, w_room, w_tables⟩
theorem atStart : AtStart classFile x code maxLocals ret World_1 tables_1 room_1 Calls_1 rest_1 Pre_1 launch0 p0 e0 about1 theMethod args0 below0 :=
  ⟨lists_1, trivial, launch0.admits_env _ _ _, launch0.least_env, fairChoices_fair.cas, fairChoices_fair.clock, w_frames, w_args, w_heap, w_applies, trivial, trivial, w_case⟩
end start1
theorem witness_1 : WitnessClaimed_1 := ⟨start1.p0, start1.e0, start1.about1, start1.theMethod, start1.args0, start1.below0, start1.atStart⟩
end Jvm.Pilot.@@N@@
