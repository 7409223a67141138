import JvmDerived
import JvmDerived.Pilot.@@N@@Statement
import JvmDerived.Pilot.@@N@@Code
set_option linter.unusedVariables false
set_option linter.unusedSimpArgs false
@@BLOCK:NumsL.lean.txt@@
namespace Jvm.RoadKit
open Sem ClassFile Op Lib Jvm.Stand Jvm.Free Jvm.LawKit
section New
variable {p : Program} {l : Launch} {e : Env} {R : Room} {s : State} {m : MethodId} {args : Array Value} {below : List Frame} {meth : Method} {c : Code} {T : State} {locs : List Loc} {cells slots : Nat}
theorem retI (X : Stand p l e R s m args below meth c T locs cells slots) (hx : p.tables.exec = Jvm.exec) {pc : Nat} {Ls : Array Slot} {z : Int32} {rest : List Value} (hret : meth.sig.returnType = some .int) (hd : decode c.code pc = .ok (.ireturn, 1)) {fs : List Frame}
    (hl : ∀ (f : JFrame) (acts : List Action), f.method = m → f.locked = none → f.entered = [] → (doReturn e (T.setTop f) acts (some (.int z))).1 = T.setFrames fs) : Steps p.tables e below (T.setTop (mkF m pc Ls (.int z :: rest))) (T.setFrames fs) := by
  have hm' : T.vm.method? m = some meth := X.method'
  have hn : narrow .int (.int z) = .int z := rfl
  show Steps p.tables e below (T.setTop { method := m, pc := pc, locals := Ls, stack := _ :: rest, locked := none }) _
  jvm_step X.here [X.here.top, hx, hd, hm', hret, hn]
  first | (intro acts; rw [hl _ acts rfl rfl rfl]) | rw [hl _ _ rfl rfl rfl]
  exact Steps.refl _
end New
end Jvm.RoadKit
namespace Jvm.Pilot.@@N@@
open Jvm Jvm.ClassFile Sem Op Lib Jvm.Free Jvm.Stand Jvm.LawKit Jvm.RoadKit Bundle Jvm.Pilot.@@N@@.Jvm.D
def own_lv (p : Int32) (w_TRANSFORM w_CHECK w_WHOIS : Addr) : Addr := if (p &&& (2147483647 : Int32)) - ((p &&& (2147483647 : Int32)) / (3 : Int32)) * (3 : Int32) = 0 then w_TRANSFORM else if (p &&& (2147483647 : Int32)) - ((p &&& (2147483647 : Int32)) / (3 : Int32)) * (3 : Int32) = 1 then w_CHECK else w_WHOIS
def own_lmin (p q : Int64) : Int64 := if (0 : Int32) < (lcmpW p q) then q else p
def own_lmax (p q : Int64) : Int64 := if (lcmpW p q) < (0 : Int32) then q else p
def own_met (c w : Int64) : Int32 := if (lcmpW c (1000 : Int64)) < (0 : Int32) then 0 else if (lcmpW (w * (100 : Int64)) ((95 : Int64) * c)) < (0 : Int32) then 0 else 1
theorem own_clamp (c x : Int64) (h : 0 ≤ c.toInt) : 0 ≤ (own_lmax (0 : Int64) (own_lmin c x)).toInt ∧ (own_lmax (0 : Int64) (own_lmin c x)).toInt ≤ c.toInt := by
  have c0 : (0 : Int64).toInt = 0 := by decide
  unfold own_lmax own_lmin
  simp only [lw_lt, lw_gt, Int64.lt_iff_toInt_lt, c0]
  split <;> split at * <;> omega
theorem own_within (c x : Int64) (h : 0 ≤ c.toInt) : 0 ≤ (c - own_lmax (0 : Int64) (own_lmin c x)).toInt ∧ (c - own_lmax (0 : Int64) (own_lmin c x)).toInt ≤ c.toInt := by
  have g := own_clamp c x h
  have u := c.toInt_lt
  rw [Jvm.Kit.i64_sub (by omega) (by omega)]
  omega
theorem own_cnt1 (x : Int64) : 0 ≤ ((990 : Int64) + (x &&& (31 : Int64))).toInt ∧ ((990 : Int64) + (x &&& (31 : Int64))).toInt < 1099511627776 := by
  have e : (x &&& (31 : Int64)).toInt = x.toInt % 2 ^ 5 := Jvm.Kit.i64_mask x 31 (k := 5) (by decide) (by decide)
  have c0 : (990 : Int64).toInt = 990 := by decide
  rw [Jvm.Kit.i64_add (by omega) (by omega)]
  omega
theorem own_cnt2 (x : Int64) : 0 ≤ (x &&& (1099511627775 : Int64)).toInt ∧ (x &&& (1099511627775 : Int64)).toInt < 1099511627776 := by
  have e : (x &&& (1099511627775 : Int64)).toInt = x.toInt % 2 ^ 40 := Jvm.Kit.i64_mask x 1099511627775 (k := 40) (by decide) (by decide)
  omega
theorem own_suc (c : Int64) (h : 0 ≤ c.toInt ∧ c.toInt < 1099511627776) : (c + (1 : Int64)).toInt = c.toInt + 1 := by
  have c1 : (1 : Int64).toInt = 1 := by decide
  rw [Jvm.Kit.i64_add (by omega) (by omega), c1]
theorem own_nz (c : Int64) (h : 0 ≤ c.toInt ∧ c.toInt < 1099511627776) : (c + (1 : Int64)) ≠ 0 := fun e => by
  have g := own_suc c h
  rw [e] at g
  have c0 : (0 : Int64).toInt = 0 := by decide
  omega
theorem own_rem (c x : Int64) (h : 0 ≤ c.toInt ∧ c.toInt < 1099511627776) : 0 ≤ ((x &&& (9223372036854775807 : Int64)) - ((x &&& (9223372036854775807 : Int64)) / (c + (1 : Int64))) * (c + (1 : Int64))).toInt ∧ ((x &&& (9223372036854775807 : Int64)) - ((x &&& (9223372036854775807 : Int64)) / (c + (1 : Int64))) * (c + (1 : Int64))).toInt ≤ c.toInt := by
  have e : (x &&& (9223372036854775807 : Int64)).toInt = x.toInt % 2 ^ 63 := Jvm.Kit.i64_mask x 9223372036854775807 (k := 63) (by decide) (by decide)
  rw [Jvm.Kit.i64_rem_nonneg (by omega), own_suc c h]
  have g1 := Int.emod_nonneg (x &&& (9223372036854775807 : Int64)).toInt (b := c.toInt + 1) (by omega)
  have g2 := Int.emod_lt_of_pos (x &&& (9223372036854775807 : Int64)).toInt (b := c.toInt + 1) (by omega)
  omega
theorem own_fin (c w : Int64) (h : 0 ≤ c.toInt ∧ c.toInt < 1099511627776) (g : 0 ≤ w.toInt ∧ w.toInt ≤ c.toInt) : own_met c w = if (lcmpW c (1000 : Int64)) < (0 : Int32) then 0 else if (0 : Int32) < (lcmpW (c - w) (c / (20 : Int64))) then 0 else 1 := by
  have k100 : (100 : Int64).toInt = 100 := by decide
  have k95 : (95 : Int64).toInt = 95 := by decide
  have k20 : (20 : Int64).toInt = 20 := by decide
  have e1 : (w * (100 : Int64)).toInt = w.toInt * 100 := by rw [Jvm.Kit.i64_mul (by rw [k100]; omega) (by rw [k100]; omega), k100]
  have e2 : ((95 : Int64) * c).toInt = 95 * c.toInt := by rw [Jvm.Kit.i64_mul (by rw [k95]; omega) (by rw [k95]; omega), k95]
  have e3 : (c - w).toInt = c.toInt - w.toInt := Jvm.Kit.i64_sub (by omega) (by omega)
  have e4 : (c / (20 : Int64)).toInt = c.toInt / 20 := by rw [Jvm.Kit.i64_div (by omega), k20, Int.tdiv_eq_ediv_of_nonneg h.1]
  have e5 : ((lcmpW (w * (100 : Int64)) ((95 : Int64) * c)) < (0 : Int32)) ↔ ((0 : Int32) < (lcmpW (c - w) (c / (20 : Int64)))) := by
    rw [lw_lt, lw_gt, Int64.lt_iff_toInt_lt, Int64.lt_iff_toInt_lt, e1, e2, e3, e4]; omega
  unfold own_met
  by_cases q : (lcmpW c (1000 : Int64)) < (0 : Int32)
  · rw [if_pos q, if_pos q]
  · rw [if_neg q, if_neg q]
    by_cases r : (0 : Int32) < (lcmpW (c - w) (c / (20 : Int64)))
    · rw [if_pos r, if_pos (e5.mpr r)]
    · rw [if_neg r, if_neg fun z => r (e5.mp z)]
theorem d_jdk_29_method_70_code_0 : decode jdk_29_method_70_code 0 = .ok (.lload_n 0, 1) := by decide +kernel
theorem d_jdk_29_method_70_code_1 : decode jdk_29_method_70_code 1 = .ok (.lload_n 2, 1) := by decide +kernel
theorem d_jdk_29_method_70_code_2 : decode jdk_29_method_70_code 2 = .ok (.lcmp, 1) := by decide +kernel
theorem d_jdk_29_method_70_code_3 : decode jdk_29_method_70_code 3 = .ok (.ifCond .gt 7, 3) := by decide +kernel
theorem d_jdk_29_method_70_code_10 : decode jdk_29_method_70_code 10 = .ok (.lload_n 2, 1) := by decide +kernel
theorem d_jdk_29_method_70_code_11 : decode jdk_29_method_70_code 11 = .ok (.lreturn, 1) := by decide +kernel
theorem d_jdk_29_method_70_code_6 : decode jdk_29_method_70_code 6 = .ok (.lload_n 0, 1) := by decide +kernel
theorem d_jdk_29_method_70_code_7 : decode jdk_29_method_70_code 7 = .ok (.goto 4, 3) := by decide +kernel
theorem ef_rm1 (m : MethodId) (x0 : Int64) (x1 : Int64) : entryFrame m #[(.long x0), (.long x1)] 4 = mkF m 0 #[.val (.long x0), .second, .val (.long x1), .second] [] := by first | (simp [entryFrame, mkF, argsToLocals, Value.category]; done) | rfl
def Q_rm1 (Z : State) (q0 : Int64) (q1 : Int64) (h0 : Heap) (n0 : Nat) (v : Option Value) (h : Heap) (L : List Loc) : Prop := v = some (.long (own_lmin q0 q1)) ∧ Fr n0 L ∧ h = h0
set_option maxRecDepth 65536 in
set_option maxHeartbeats 40000000 in
theorem rm1 (l : Launch) (Z : State) (a0 : Array Value) (hw : ∀ d ∈ tables_1, d.before a0 Z = true) (ws : List Jvm.Cond) (q0 : Int64) (q1 : Int64) (h0 : Heap) (n0 : Nat) (Z0 : n0 ≤ h0.size) :
    MetFree l (⟨"java/lang/Math", "min", "(JJ)J"⟩ : MethodName) (head1 (Jvm.Cond.code (⟨"java/lang/Math", "min", "(JJ)J"⟩ : MethodName) jdk_29_method_70_code 4 (some .long) :: ws) ({ frames := 0, cells := 0, slots := 0, locals := 0 } : Room)) (fun a U => a = #[(.long q0), (.long q1)] ∧ Z.Warmed39 U.vm ∧ U.heap = h0) (fun _ _ _ _ _ => True) (fun _ U o U' => ∃ v L, o = .returned v ∧ Q_rm1 Z q0 q1 h0 n0 v U'.heap L ∧ FrameEnd U o U' L ({ frames := 0, cells := 0, slots := 0, locals := 0 } : Room).cells ({ frames := 0, cells := 0, slots := 0, locals := 0 } : Room).slots) := by
  refine MetFree.of_bodySF (Jvm.Free.JP.mathPlain rfl (by decide +kernel)) hisR ?_
  intro p e s m args below meth c s₁ Bd hml0 hP hK
  obtain ⟨rfl, hZ, hh⟩ := hP
  have hx := Bd.exec
  have hby := Bd.bytes
  have hml : c.maxLocals = 4 := hml0
  have hown : s.vm.findClass "java/lang/Math" = some m.cls := findClass_of_methodNamed Bd.named
  have hnm := (name_of_methodNamed Bd.named Bd.method).1
  have hlk : meth.locks = false := by first | exact BodyLoose.notSynchronized (by assumption) | exact Body.notSynchronized (by assumption) | assumption
  have X0 : Stand p l e ({ frames := 0, cells := 0, slots := 0, locals := 0 } : Room) s m #[(.long q0), (.long q1)] below meth c s₁ [] 0 0 := Stand.of_body Bd
  have e0 : s₁.heap = h0 := by rw [← hh, Bd.state]; rfl
  have N0 := Fr.nil n0
  have Zn := Z0
  have K0 : ∀ t, Steps p.tables e below (s₁.setTop (mkF m 0 #[.val (.long q0), .second, .val (.long q1), .second] [])) t → Steps p.tables e below (s₁.setTop (entryFrame m #[(.long q0), (.long q1)] 4)) t := fun t k => castTop (ef_rm1 m q0 q1) k
  have K1 : ∀ t, Steps p.tables e below (s₁.setTop (mkF m 3 #[.val (.long q0), .second, .val (.long q1), .second] [(.int (lcmpW q0 q1))])) t → Steps p.tables e below (s₁.setTop (entryFrame m #[(.long q0), (.long q1)] 4)) t := by
    intro t kt
    refine K0 t ?_
    show Steps p.tables e below (s₁.setTop (mkF m 0 #[.val (.long q0), .second, .val (.long q1), .second] [])) _
    refine XS.lloadN X0.here hx rfl (hb hby d_jdk_29_method_70_code_0) rfl ?_
    show Steps p.tables e below (s₁.setTop (mkF m 1 #[.val (.long q0), .second, .val (.long q1), .second] [(.long q0)])) _
    refine XS.lloadN X0.here hx rfl (hb hby d_jdk_29_method_70_code_1) rfl ?_
    show Steps p.tables e below (s₁.setTop (mkF m 2 #[.val (.long q0), .second, .val (.long q1), .second] [(.long q1), (.long q0)])) _
    refine XS.lcmp X0.here hx rfl (hb hby d_jdk_29_method_70_code_2) rfl ?_
    exact kt
  by_cases hc3 : (0 : Int32) < (lcmpW q0 q1)
  ·
    obtain ⟨fs, hr, hrun, hended, hW, hsame⟩ := X0.leave (v := some (.long q1)) (fun h => by rw [Bd.returns] at h; cases h) hlk
    refine ⟨_, _, K1 _ ?_, hrun, hended, _, _, rfl, ?_, ⟨_, rfl⟩, hW, hsame.mono (by decide) (by decide)⟩
    ·
      show Steps p.tables e below (s₁.setTop (mkF m 3 #[.val (.long q0), .second, .val (.long q1), .second] [(.int (lcmpW q0 q1))])) _
      refine XS.ifYes X0.here hx rfl (pc0 := 3) (pc' := 10) rfl (hb hby d_jdk_29_method_70_code_3) rfl ((if0 _ _).trans (tlt hc3).2.2.1) (by decide) (by decide) ?_
      show Steps p.tables e below (s₁.setTop (mkF m 10 #[.val (.long q0), .second, .val (.long q1), .second] [])) _
      refine XS.lloadN X0.here hx rfl (hb hby d_jdk_29_method_70_code_10) rfl ?_
      show Steps p.tables e below (s₁.setTop (mkF m 11 #[.val (.long q0), .second, .val (.long q1), .second] [(.long q1)])) _
      exact X0.lreturnOut hx Bd.returns (hb hby d_jdk_29_method_70_code_11) hr
    ·
      show Q_rm1 Z q0 q1 h0 n0 _ s₁.heap _
      rw [e0]
      refine ⟨?_, N0, rfl⟩
      simp only [own_lmin, hc3, if_true, if_false]
  ·
    obtain ⟨fs, hr, hrun, hended, hW, hsame⟩ := X0.leave (v := some (.long q0)) (fun h => by rw [Bd.returns] at h; cases h) hlk
    refine ⟨_, _, K1 _ ?_, hrun, hended, _, _, rfl, ?_, ⟨_, rfl⟩, hW, hsame.mono (by decide) (by decide)⟩
    ·
      show Steps p.tables e below (s₁.setTop (mkF m 3 #[.val (.long q0), .second, .val (.long q1), .second] [(.int (lcmpW q0 q1))])) _
      refine XS.ifNo X0.here hx rfl (hb hby d_jdk_29_method_70_code_3) rfl ((if0 _ _).trans (flt hc3).2.2.1) ?_
      show Steps p.tables e below (s₁.setTop (mkF m 6 #[.val (.long q0), .second, .val (.long q1), .second] [])) _
      refine XS.lloadN X0.here hx rfl (hb hby d_jdk_29_method_70_code_6) rfl ?_
      show Steps p.tables e below (s₁.setTop (mkF m 7 #[.val (.long q0), .second, .val (.long q1), .second] [(.long q0)])) _
      refine XS.goto X0.here hx rfl (pc0 := 7) (pc' := 11) rfl (hb hby d_jdk_29_method_70_code_7) (by decide) (by decide) ?_
      show Steps p.tables e below (s₁.setTop (mkF m 11 #[.val (.long q0), .second, .val (.long q1), .second] [(.long q0)])) _
      exact X0.lreturnOut hx Bd.returns (hb hby d_jdk_29_method_70_code_11) hr
    ·
      show Q_rm1 Z q0 q1 h0 n0 _ s₁.heap _
      rw [e0]
      refine ⟨?_, N0, rfl⟩
      simp only [own_lmin, hc3, if_true, if_false]
theorem d_jdk_29_method_66_code_0 : decode jdk_29_method_66_code 0 = .ok (.lload_n 0, 1) := by decide +kernel
theorem d_jdk_29_method_66_code_1 : decode jdk_29_method_66_code 1 = .ok (.lload_n 2, 1) := by decide +kernel
theorem d_jdk_29_method_66_code_2 : decode jdk_29_method_66_code 2 = .ok (.lcmp, 1) := by decide +kernel
theorem d_jdk_29_method_66_code_3 : decode jdk_29_method_66_code 3 = .ok (.ifCond .lt 7, 3) := by decide +kernel
theorem d_jdk_29_method_66_code_10 : decode jdk_29_method_66_code 10 = .ok (.lload_n 2, 1) := by decide +kernel
theorem d_jdk_29_method_66_code_11 : decode jdk_29_method_66_code 11 = .ok (.lreturn, 1) := by decide +kernel
theorem d_jdk_29_method_66_code_6 : decode jdk_29_method_66_code 6 = .ok (.lload_n 0, 1) := by decide +kernel
theorem d_jdk_29_method_66_code_7 : decode jdk_29_method_66_code 7 = .ok (.goto 4, 3) := by decide +kernel
theorem ef_rm2 (m : MethodId) (x0 : Int64) (x1 : Int64) : entryFrame m #[(.long x0), (.long x1)] 4 = mkF m 0 #[.val (.long x0), .second, .val (.long x1), .second] [] := by first | (simp [entryFrame, mkF, argsToLocals, Value.category]; done) | rfl
def Q_rm2 (Z : State) (q0 : Int64) (q1 : Int64) (h0 : Heap) (n0 : Nat) (v : Option Value) (h : Heap) (L : List Loc) : Prop := v = some (.long (own_lmax q0 q1)) ∧ Fr n0 L ∧ h = h0
set_option maxRecDepth 65536 in
set_option maxHeartbeats 40000000 in
theorem rm2 (l : Launch) (Z : State) (a0 : Array Value) (hw : ∀ d ∈ tables_1, d.before a0 Z = true) (ws : List Jvm.Cond) (q0 : Int64) (q1 : Int64) (h0 : Heap) (n0 : Nat) (Z0 : n0 ≤ h0.size) :
    MetFree l (⟨"java/lang/Math", "max", "(JJ)J"⟩ : MethodName) (head1 (Jvm.Cond.code (⟨"java/lang/Math", "max", "(JJ)J"⟩ : MethodName) jdk_29_method_66_code 4 (some .long) :: ws) ({ frames := 0, cells := 0, slots := 0, locals := 0 } : Room)) (fun a U => a = #[(.long q0), (.long q1)] ∧ Z.Warmed39 U.vm ∧ U.heap = h0) (fun _ _ _ _ _ => True) (fun _ U o U' => ∃ v L, o = .returned v ∧ Q_rm2 Z q0 q1 h0 n0 v U'.heap L ∧ FrameEnd U o U' L ({ frames := 0, cells := 0, slots := 0, locals := 0 } : Room).cells ({ frames := 0, cells := 0, slots := 0, locals := 0 } : Room).slots) := by
  refine MetFree.of_bodySF (Jvm.Free.JP.mathPlain rfl (by decide +kernel)) hisR ?_
  intro p e s m args below meth c s₁ Bd hml0 hP hK
  obtain ⟨rfl, hZ, hh⟩ := hP
  have hx := Bd.exec
  have hby := Bd.bytes
  have hml : c.maxLocals = 4 := hml0
  have hown : s.vm.findClass "java/lang/Math" = some m.cls := findClass_of_methodNamed Bd.named
  have hnm := (name_of_methodNamed Bd.named Bd.method).1
  have hlk : meth.locks = false := by first | exact BodyLoose.notSynchronized (by assumption) | exact Body.notSynchronized (by assumption) | assumption
  have X0 : Stand p l e ({ frames := 0, cells := 0, slots := 0, locals := 0 } : Room) s m #[(.long q0), (.long q1)] below meth c s₁ [] 0 0 := Stand.of_body Bd
  have e0 : s₁.heap = h0 := by rw [← hh, Bd.state]; rfl
  have N0 := Fr.nil n0
  have Zn := Z0
  have K0 : ∀ t, Steps p.tables e below (s₁.setTop (mkF m 0 #[.val (.long q0), .second, .val (.long q1), .second] [])) t → Steps p.tables e below (s₁.setTop (entryFrame m #[(.long q0), (.long q1)] 4)) t := fun t k => castTop (ef_rm2 m q0 q1) k
  have K1 : ∀ t, Steps p.tables e below (s₁.setTop (mkF m 3 #[.val (.long q0), .second, .val (.long q1), .second] [(.int (lcmpW q0 q1))])) t → Steps p.tables e below (s₁.setTop (entryFrame m #[(.long q0), (.long q1)] 4)) t := by
    intro t kt
    refine K0 t ?_
    show Steps p.tables e below (s₁.setTop (mkF m 0 #[.val (.long q0), .second, .val (.long q1), .second] [])) _
    refine XS.lloadN X0.here hx rfl (hb hby d_jdk_29_method_66_code_0) rfl ?_
    show Steps p.tables e below (s₁.setTop (mkF m 1 #[.val (.long q0), .second, .val (.long q1), .second] [(.long q0)])) _
    refine XS.lloadN X0.here hx rfl (hb hby d_jdk_29_method_66_code_1) rfl ?_
    show Steps p.tables e below (s₁.setTop (mkF m 2 #[.val (.long q0), .second, .val (.long q1), .second] [(.long q1), (.long q0)])) _
    refine XS.lcmp X0.here hx rfl (hb hby d_jdk_29_method_66_code_2) rfl ?_
    exact kt
  by_cases hc3 : (lcmpW q0 q1) < (0 : Int32)
  ·
    obtain ⟨fs, hr, hrun, hended, hW, hsame⟩ := X0.leave (v := some (.long q1)) (fun h => by rw [Bd.returns] at h; cases h) hlk
    refine ⟨_, _, K1 _ ?_, hrun, hended, _, _, rfl, ?_, ⟨_, rfl⟩, hW, hsame.mono (by decide) (by decide)⟩
    ·
      show Steps p.tables e below (s₁.setTop (mkF m 3 #[.val (.long q0), .second, .val (.long q1), .second] [(.int (lcmpW q0 q1))])) _
      refine XS.ifYes X0.here hx rfl (pc0 := 3) (pc' := 10) rfl (hb hby d_jdk_29_method_66_code_3) rfl ((if0 _ _).trans (tlt hc3).1) (by decide) (by decide) ?_
      show Steps p.tables e below (s₁.setTop (mkF m 10 #[.val (.long q0), .second, .val (.long q1), .second] [])) _
      refine XS.lloadN X0.here hx rfl (hb hby d_jdk_29_method_66_code_10) rfl ?_
      show Steps p.tables e below (s₁.setTop (mkF m 11 #[.val (.long q0), .second, .val (.long q1), .second] [(.long q1)])) _
      exact X0.lreturnOut hx Bd.returns (hb hby d_jdk_29_method_66_code_11) hr
    ·
      show Q_rm2 Z q0 q1 h0 n0 _ s₁.heap _
      rw [e0]
      refine ⟨?_, N0, rfl⟩
      simp only [own_lmax, hc3, if_true, if_false]
  ·
    obtain ⟨fs, hr, hrun, hended, hW, hsame⟩ := X0.leave (v := some (.long q0)) (fun h => by rw [Bd.returns] at h; cases h) hlk
    refine ⟨_, _, K1 _ ?_, hrun, hended, _, _, rfl, ?_, ⟨_, rfl⟩, hW, hsame.mono (by decide) (by decide)⟩
    ·
      show Steps p.tables e below (s₁.setTop (mkF m 3 #[.val (.long q0), .second, .val (.long q1), .second] [(.int (lcmpW q0 q1))])) _
      refine XS.ifNo X0.here hx rfl (hb hby d_jdk_29_method_66_code_3) rfl ((if0 _ _).trans (flt hc3).1) ?_
      show Steps p.tables e below (s₁.setTop (mkF m 6 #[.val (.long q0), .second, .val (.long q1), .second] [])) _
      refine XS.lloadN X0.here hx rfl (hb hby d_jdk_29_method_66_code_6) rfl ?_
      show Steps p.tables e below (s₁.setTop (mkF m 7 #[.val (.long q0), .second, .val (.long q1), .second] [(.long q0)])) _
      refine XS.goto X0.here hx rfl (pc0 := 7) (pc' := 11) rfl (hb hby d_jdk_29_method_66_code_7) (by decide) (by decide) ?_
      show Steps p.tables e below (s₁.setTop (mkF m 11 #[.val (.long q0), .second, .val (.long q1), .second] [(.long q0)])) _
      exact X0.lreturnOut hx Bd.returns (hb hby d_jdk_29_method_66_code_11) hr
    ·
      show Q_rm2 Z q0 q1 h0 n0 _ s₁.heap _
      rw [e0]
      refine ⟨?_, N0, rfl⟩
      simp only [own_lmax, hc3, if_true, if_false]
theorem d_method_2_code_0 : decode method_2_code 0 = .ok (.iload_n 0, 1) := by decide +kernel
theorem d_method_2_code_1 : decode method_2_code 1 = .ok (.ldc 7, 2) := by decide +kernel
theorem d_method_2_code_3 : decode method_2_code 3 = .ok (.iand, 1) := by decide +kernel
theorem d_method_2_code_4 : decode method_2_code 4 = .ok (.iconst 3, 1) := by decide +kernel
theorem d_method_2_code_5 : decode method_2_code 5 = .ok (.irem, 1) := by decide +kernel
theorem d_method_2_code_6 : decode method_2_code 6 = .ok (.istore_n 1, 1) := by decide +kernel
theorem d_method_2_code_7 : decode method_2_code 7 = .ok (.iload_n 1, 1) := by decide +kernel
theorem d_method_2_code_8 : decode method_2_code 8 = .ok (.ifCond .ne 7, 3) := by decide +kernel
theorem d_method_2_code_11 : decode method_2_code 11 = .ok (.getstatic 8, 3) := by decide +kernel
theorem d_method_2_code_14 : decode method_2_code 14 = .ok (.areturn, 1) := by decide +kernel
theorem d_method_2_code_15 : decode method_2_code 15 = .ok (.iload_n 1, 1) := by decide +kernel
theorem d_method_2_code_16 : decode method_2_code 16 = .ok (.iconst 1, 1) := by decide +kernel
theorem d_method_2_code_17 : decode method_2_code 17 = .ok (.if_icmp .ne 7, 3) := by decide +kernel
theorem d_method_2_code_20 : decode method_2_code 20 = .ok (.getstatic 14, 3) := by decide +kernel
theorem d_method_2_code_23 : decode method_2_code 23 = .ok (.areturn, 1) := by decide +kernel
theorem d_method_2_code_24 : decode method_2_code 24 = .ok (.getstatic 17, 3) := by decide +kernel
theorem d_method_2_code_27 : decode method_2_code 27 = .ok (.areturn, 1) := by decide +kernel
theorem pn_0 : plainName "com/example/nameward/nameward/cli/ResultMetPinLaw" = true := by first | (simp [plainName, overriddenIn]; done) | decide +kernel
theorem ef_rm3 (m : MethodId) (x0 : Int32) : entryFrame m #[(.int x0)] 2 = mkF m 0 #[.val (.int x0), .unset] [] := by first | (simp [entryFrame, mkF, argsToLocals, Value.category]; done) | rfl
def Q_rm3 (Z : State) (p0 : Int32) (w_TRANSFORM : Addr) (w_CHECK : Addr) (w_WHOIS : Addr) (h0 : Heap) (n0 : Nat) (v : Option Value) (h : Heap) (L : List Loc) : Prop := v = some (.ref (own_lv p0 w_TRANSFORM w_CHECK w_WHOIS)) ∧ Fr n0 L ∧ h = h0
set_option maxRecDepth 65536 in
set_option maxHeartbeats 40000000 in
theorem rm3 (l : Launch) (Z : State) (a0 : Array Value) (hw : ∀ d ∈ tables_1, d.before a0 Z = true) (ws : List Jvm.Cond) (p0 : Int32) (w_TRANSFORM : Addr) (w_CHECK : Addr) (w_WHOIS : Addr) (h0 : Heap) (n0 : Nat) (Z0 : n0 ≤ h0.size) (S_TRANSFORM : Sta Z h0 "com/example/nameward/nameward/cli/ServiceLevel" "TRANSFORM" "Lcom/example/nameward/nameward/cli/ServiceLevel;" (.ref w_TRANSFORM)) (S_CHECK : Sta Z h0 "com/example/nameward/nameward/cli/ServiceLevel" "CHECK" "Lcom/example/nameward/nameward/cli/ServiceLevel;" (.ref w_CHECK)) (S_WHOIS : Sta Z h0 "com/example/nameward/nameward/cli/ServiceLevel" "WHOIS" "Lcom/example/nameward/nameward/cli/ServiceLevel;" (.ref w_WHOIS)) :
    MetFree l (⟨"com/example/nameward/nameward/cli/ResultMetPinLaw", "level", "(I)Lcom/example/nameward/nameward/cli/ServiceLevel;"⟩ : MethodName) (head1 (Jvm.Cond.code (⟨"com/example/nameward/nameward/cli/ResultMetPinLaw", "level", "(I)Lcom/example/nameward/nameward/cli/ServiceLevel;"⟩ : MethodName) method_2_code 2 (some (.object "com/example/nameward/nameward/cli/ServiceLevel")) :: ws) ({ frames := 0, cells := 0, slots := 0, locals := 0 } : Room)) (fun a U => a = #[(.int p0)] ∧ Z.Warmed39 U.vm ∧ U.heap = h0) (fun _ _ _ _ _ => True) (fun _ U o U' => ∃ v L, o = .returned v ∧ Q_rm3 Z p0 w_TRANSFORM w_CHECK w_WHOIS h0 n0 v U'.heap L ∧ FrameEnd U o U' L ({ frames := 0, cells := 0, slots := 0, locals := 0 } : Room).cells ({ frames := 0, cells := 0, slots := 0, locals := 0 } : Room).slots) := by
  refine MetFree.of_bodySF (plainFor_of_name pn_0) hisR ?_
  intro p e s m args below meth c s₁ Bd hml0 hP hK
  obtain ⟨rfl, hZ, hh⟩ := hP
  have hx := Bd.exec
  have hby := Bd.bytes
  have hml : c.maxLocals = 2 := hml0
  have hown : s.vm.findClass "com/example/nameward/nameward/cli/ResultMetPinLaw" = some m.cls := findClass_of_methodNamed Bd.named
  have hnm := (name_of_methodNamed Bd.named Bd.method).1
  have hlk : meth.locks = false := by first | exact BodyLoose.notSynchronized (by assumption) | exact Body.notSynchronized (by assumption) | assumption
  have X0 : Stand p l e ({ frames := 0, cells := 0, slots := 0, locals := 0 } : Room) s m #[(.int p0)] below meth c s₁ [] 0 0 := Stand.of_body Bd
  have e0 : s₁.heap = h0 := by rw [← hh, Bd.state]; rfl
  have N0 := Fr.nil n0
  have Zn := Z0
  have K0 : ∀ t, Steps p.tables e below (s₁.setTop (mkF m 0 #[.val (.int p0), .unset] [])) t → Steps p.tables e below (s₁.setTop (entryFrame m #[(.int p0)] 2)) t := fun t k => castTop (ef_rm3 m p0) k
  have K1 : ∀ t, Steps p.tables e below (s₁.setTop (mkF m 8 #[.val (.int p0), .val (.int ((p0 &&& (2147483647 : Int32)) - ((p0 &&& (2147483647 : Int32)) / (3 : Int32)) * (3 : Int32)))] [(.int ((p0 &&& (2147483647 : Int32)) - ((p0 &&& (2147483647 : Int32)) / (3 : Int32)) * (3 : Int32)))])) t → Steps p.tables e below (s₁.setTop (entryFrame m #[(.int p0)] 2)) t := by
    intro t kt
    refine K0 t ?_
    show Steps p.tables e below (s₁.setTop (mkF m 0 #[.val (.int p0), .unset] [])) _
    refine XS.iloadN X0.here hx rfl (hb hby d_method_2_code_0) rfl ?_
    show Steps p.tables e below (s₁.setTop (mkF m 1 #[.val (.int p0), .unset] [(.int p0)])) _
    refine X0.ldcInt hx hown (mvT hZ (hw _ (List.mem_of_getElem? (i := 17) rfl))) (g := (mkF m 1 #[.val (.int p0), .unset] [(.int p0)])) rfl (hb hby d_method_2_code_1) _ ?_
    show Steps p.tables e below (s₁.setTop (mkF m 3 #[.val (.int p0), .unset] [(.int (2147483647 : Int32)), (.int p0)])) _
    refine XS.iand X0.here hx rfl (hb hby d_method_2_code_3) rfl ?_
    show Steps p.tables e below (s₁.setTop (mkF m 4 #[.val (.int p0), .unset] [(.int (p0 &&& (2147483647 : Int32)))])) _
    refine XS.iconst X0.here hx rfl (hb hby d_method_2_code_4) ?_
    show Steps p.tables e below (s₁.setTop (mkF m 5 #[.val (.int p0), .unset] [(.int (3 : Int32)), (.int (p0 &&& (2147483647 : Int32)))])) _
    refine XS.irem X0.here hx rfl (hb hby d_method_2_code_5) rfl (by decide) ?_
    show Steps p.tables e below (s₁.setTop (mkF m 6 #[.val (.int p0), .unset] [(.int ((p0 &&& (2147483647 : Int32)) - ((p0 &&& (2147483647 : Int32)) / (3 : Int32)) * (3 : Int32)))])) _
    refine XS.istoreN X0.here hx rfl (hb hby d_method_2_code_6) rfl (l' := #[.val (.int p0), .val (.int ((p0 &&& (2147483647 : Int32)) - ((p0 &&& (2147483647 : Int32)) / (3 : Int32)) * (3 : Int32)))]) rfl ?_
    show Steps p.tables e below (s₁.setTop (mkF m 7 #[.val (.int p0), .val (.int ((p0 &&& (2147483647 : Int32)) - ((p0 &&& (2147483647 : Int32)) / (3 : Int32)) * (3 : Int32)))] [])) _
    refine XS.iloadN X0.here hx rfl (hb hby d_method_2_code_7) rfl ?_
    exact kt
  by_cases hc8 : ((p0 &&& (2147483647 : Int32)) - ((p0 &&& (2147483647 : Int32)) / (3 : Int32)) * (3 : Int32)) = (0 : Int32)
  ·
    obtain ⟨T2, X2, e2, st2⟩ := getS2 X0 hx hZ hown (host := "") (Or.inl (hw _ (List.mem_of_getElem? (i := 18) rfl))) Via.refl e0 S_TRANSFORM (g := (mkF m 11 #[.val (.int p0), .val (.int ((p0 &&& (2147483647 : Int32)) - ((p0 &&& (2147483647 : Int32)) / (3 : Int32)) * (3 : Int32)))] [])) rfl (hb hby d_method_2_code_11)
    obtain ⟨fs, hr, hrun, hended, hW, hsame⟩ := X2.leave (v := some (.ref w_TRANSFORM)) (fun h => by rw [Bd.returns] at h; cases h) hlk
    refine ⟨_, _, K1 _ ?_, hrun, hended, _, _, rfl, ?_, ⟨_, rfl⟩, hW, hsame.mono (by decide) (by decide)⟩
    ·
      show Steps p.tables e below (s₁.setTop (mkF m 8 #[.val (.int p0), .val (.int ((p0 &&& (2147483647 : Int32)) - ((p0 &&& (2147483647 : Int32)) / (3 : Int32)) * (3 : Int32)))] [(.int ((p0 &&& (2147483647 : Int32)) - ((p0 &&& (2147483647 : Int32)) / (3 : Int32)) * (3 : Int32)))])) _
      refine XS.ifNo X0.here hx rfl (hb hby d_method_2_code_8) rfl ((if0 _ _).trans (teq hc8).2) ?_
      show Steps p.tables e below (s₁.setTop (mkF m 11 #[.val (.int p0), .val (.int ((p0 &&& (2147483647 : Int32)) - ((p0 &&& (2147483647 : Int32)) / (3 : Int32)) * (3 : Int32)))] [])) _
      refine st2 _ ?_
      show Steps p.tables e below (T2.setTop (mkF m 14 #[.val (.int p0), .val (.int ((p0 &&& (2147483647 : Int32)) - ((p0 &&& (2147483647 : Int32)) / (3 : Int32)) * (3 : Int32)))] [(.ref w_TRANSFORM)])) _
      exact retOut X2 hx Bd.returns rfl (Or.inr (Or.inr (Or.inr (Or.inr ⟨rfl, rfl, rfl⟩)))) (hb hby d_method_2_code_14) hr
    ·
      show Q_rm3 Z p0 w_TRANSFORM w_CHECK w_WHOIS h0 n0 _ T2.heap _
      rw [e2]
      refine ⟨?_, N0, rfl⟩
      unfold own_lv
      rw [if_pos hc8]
  ·
    have K3 : ∀ t, Steps p.tables e below (s₁.setTop (mkF m 17 #[.val (.int p0), .val (.int ((p0 &&& (2147483647 : Int32)) - ((p0 &&& (2147483647 : Int32)) / (3 : Int32)) * (3 : Int32)))] [(.int (1 : Int32)), (.int ((p0 &&& (2147483647 : Int32)) - ((p0 &&& (2147483647 : Int32)) / (3 : Int32)) * (3 : Int32)))])) t → Steps p.tables e below (s₁.setTop (entryFrame m #[(.int p0)] 2)) t := by
      intro t kt
      refine K1 t ?_
      show Steps p.tables e below (s₁.setTop (mkF m 8 #[.val (.int p0), .val (.int ((p0 &&& (2147483647 : Int32)) - ((p0 &&& (2147483647 : Int32)) / (3 : Int32)) * (3 : Int32)))] [(.int ((p0 &&& (2147483647 : Int32)) - ((p0 &&& (2147483647 : Int32)) / (3 : Int32)) * (3 : Int32)))])) _
      refine XS.ifYes X0.here hx rfl (pc0 := 8) (pc' := 15) rfl (hb hby d_method_2_code_8) rfl ((if0 _ _).trans (feq hc8).2) (by decide) (by decide) ?_
      show Steps p.tables e below (s₁.setTop (mkF m 15 #[.val (.int p0), .val (.int ((p0 &&& (2147483647 : Int32)) - ((p0 &&& (2147483647 : Int32)) / (3 : Int32)) * (3 : Int32)))] [])) _
      refine XS.iloadN X0.here hx rfl (hb hby d_method_2_code_15) rfl ?_
      show Steps p.tables e below (s₁.setTop (mkF m 16 #[.val (.int p0), .val (.int ((p0 &&& (2147483647 : Int32)) - ((p0 &&& (2147483647 : Int32)) / (3 : Int32)) * (3 : Int32)))] [(.int ((p0 &&& (2147483647 : Int32)) - ((p0 &&& (2147483647 : Int32)) / (3 : Int32)) * (3 : Int32)))])) _
      refine XS.iconst X0.here hx rfl (hb hby d_method_2_code_16) ?_
      exact kt
    by_cases hc17 : ((p0 &&& (2147483647 : Int32)) - ((p0 &&& (2147483647 : Int32)) / (3 : Int32)) * (3 : Int32)) = (1 : Int32)
    ·
      obtain ⟨T4, X4, e4, st4⟩ := getS2 X0 hx hZ hown (host := "") (Or.inl (hw _ (List.mem_of_getElem? (i := 48) rfl))) Via.refl e0 S_CHECK (g := (mkF m 20 #[.val (.int p0), .val (.int ((p0 &&& (2147483647 : Int32)) - ((p0 &&& (2147483647 : Int32)) / (3 : Int32)) * (3 : Int32)))] [])) rfl (hb hby d_method_2_code_20)
      obtain ⟨fs, hr, hrun, hended, hW, hsame⟩ := X4.leave (v := some (.ref w_CHECK)) (fun h => by rw [Bd.returns] at h; cases h) hlk
      refine ⟨_, _, K3 _ ?_, hrun, hended, _, _, rfl, ?_, ⟨_, rfl⟩, hW, hsame.mono (by decide) (by decide)⟩
      ·
        show Steps p.tables e below (s₁.setTop (mkF m 17 #[.val (.int p0), .val (.int ((p0 &&& (2147483647 : Int32)) - ((p0 &&& (2147483647 : Int32)) / (3 : Int32)) * (3 : Int32)))] [(.int (1 : Int32)), (.int ((p0 &&& (2147483647 : Int32)) - ((p0 &&& (2147483647 : Int32)) / (3 : Int32)) * (3 : Int32)))])) _
        refine XS.icmpNo X0.here hx rfl (hb hby d_method_2_code_17) rfl (teq hc17).2 ?_
        show Steps p.tables e below (s₁.setTop (mkF m 20 #[.val (.int p0), .val (.int ((p0 &&& (2147483647 : Int32)) - ((p0 &&& (2147483647 : Int32)) / (3 : Int32)) * (3 : Int32)))] [])) _
        refine st4 _ ?_
        show Steps p.tables e below (T4.setTop (mkF m 23 #[.val (.int p0), .val (.int ((p0 &&& (2147483647 : Int32)) - ((p0 &&& (2147483647 : Int32)) / (3 : Int32)) * (3 : Int32)))] [(.ref w_CHECK)])) _
        exact retOut X4 hx Bd.returns rfl (Or.inr (Or.inr (Or.inr (Or.inr ⟨rfl, rfl, rfl⟩)))) (hb hby d_method_2_code_23) hr
      ·
        show Q_rm3 Z p0 w_TRANSFORM w_CHECK w_WHOIS h0 n0 _ T4.heap _
        rw [e4]
        refine ⟨?_, N0, rfl⟩
        unfold own_lv
        rw [if_neg hc8, if_pos hc17]
    ·
      obtain ⟨T5, X5, e5, st5⟩ := getS2 X0 hx hZ hown (host := "") (Or.inl (hw _ (List.mem_of_getElem? (i := 53) rfl))) Via.refl e0 S_WHOIS (g := (mkF m 24 #[.val (.int p0), .val (.int ((p0 &&& (2147483647 : Int32)) - ((p0 &&& (2147483647 : Int32)) / (3 : Int32)) * (3 : Int32)))] [])) rfl (hb hby d_method_2_code_24)
      obtain ⟨fs, hr, hrun, hended, hW, hsame⟩ := X5.leave (v := some (.ref w_WHOIS)) (fun h => by rw [Bd.returns] at h; cases h) hlk
      refine ⟨_, _, K3 _ ?_, hrun, hended, _, _, rfl, ?_, ⟨_, rfl⟩, hW, hsame.mono (by decide) (by decide)⟩
      ·
        show Steps p.tables e below (s₁.setTop (mkF m 17 #[.val (.int p0), .val (.int ((p0 &&& (2147483647 : Int32)) - ((p0 &&& (2147483647 : Int32)) / (3 : Int32)) * (3 : Int32)))] [(.int (1 : Int32)), (.int ((p0 &&& (2147483647 : Int32)) - ((p0 &&& (2147483647 : Int32)) / (3 : Int32)) * (3 : Int32)))])) _
        refine XS.icmpYes X0.here hx rfl (pc0 := 17) (pc' := 24) rfl (hb hby d_method_2_code_17) rfl (feq hc17).2 (by decide) (by decide) ?_
        show Steps p.tables e below (s₁.setTop (mkF m 24 #[.val (.int p0), .val (.int ((p0 &&& (2147483647 : Int32)) - ((p0 &&& (2147483647 : Int32)) / (3 : Int32)) * (3 : Int32)))] [])) _
        refine st5 _ ?_
        show Steps p.tables e below (T5.setTop (mkF m 27 #[.val (.int p0), .val (.int ((p0 &&& (2147483647 : Int32)) - ((p0 &&& (2147483647 : Int32)) / (3 : Int32)) * (3 : Int32)))] [(.ref w_WHOIS)])) _
        exact retOut X5 hx Bd.returns rfl (Or.inr (Or.inr (Or.inr (Or.inr ⟨rfl, rfl, rfl⟩)))) (hb hby d_method_2_code_27) hr
      ·
        show Q_rm3 Z p0 w_TRANSFORM w_CHECK w_WHOIS h0 n0 _ T5.heap _
        rw [e5]
        refine ⟨?_, N0, rfl⟩
        unfold own_lv
        rw [if_neg hc8, if_neg hc17]
theorem d_jdk_30_method_1_code_0 : decode jdk_30_method_1_code 0 = .ok (.aload_n 0, 1) := by decide +kernel
theorem d_jdk_30_method_1_code_1 : decode jdk_30_method_1_code 1 = .ok (.invokespecial 1, 3) := by decide +kernel
theorem d_jdk_30_method_1_code_4 : decode jdk_30_method_1_code 4 = .ok (.return_, 1) := by decide +kernel
theorem pn_1 : plainName "java/lang/Record" = true := by first | (simp [plainName, overriddenIn]; done) | decide +kernel
theorem ef_rm4 (m : MethodId) (x0 : Addr) : entryFrame m #[(.ref x0)] 1 = mkF m 0 #[.val (.ref x0)] [] := by first | (simp [entryFrame, mkF, argsToLocals, Value.category]; done) | rfl
def Q_rm4 (Z : State) (r0 : Addr) (h0 : Heap) (n0 : Nat) (v : Option Value) (h : Heap) (L : List Loc) : Prop := v = none ∧ Fr n0 L ∧ h = h0
set_option maxRecDepth 65536 in
set_option maxHeartbeats 40000000 in
theorem rm4 (l : Launch) (Z : State) (a0 : Array Value) (hw : ∀ d ∈ tables_1, d.before a0 Z = true) (ws : List Jvm.Cond) (r0 : Addr) (h0 : Heap) (n0 : Nat) (Z0 : n0 ≤ h0.size) :
    MetFree l (⟨"java/lang/Record", "<init>", "()V"⟩ : MethodName) (head1 (Jvm.Cond.code (⟨"java/lang/Record", "<init>", "()V"⟩ : MethodName) jdk_30_method_1_code 1 none :: ws) ({ frames := 1, cells := 0, slots := 0, locals := 12 } : Room)) (fun a U => a = #[(.ref r0)] ∧ Z.Warmed39 U.vm ∧ U.heap = h0) (fun _ _ _ _ _ => True) (fun _ U o U' => ∃ v L, o = .returned v ∧ Q_rm4 Z r0 h0 n0 v U'.heap L ∧ FrameEnd U o U' L ({ frames := 1, cells := 0, slots := 0, locals := 12 } : Room).cells ({ frames := 1, cells := 0, slots := 0, locals := 12 } : Room).slots) := by
  refine MetFree.of_bodySF (plainFor_of_name pn_1) hisR ?_
  intro p e s m args below meth c s₁ Bd hml0 hP hK
  obtain ⟨rfl, hZ, hh⟩ := hP
  have hx := Bd.exec
  have hby := Bd.bytes
  have hml : c.maxLocals = 1 := hml0
  have hown : s.vm.findClass "java/lang/Record" = some m.cls := findClass_of_methodNamed Bd.named
  have hnm := (name_of_methodNamed Bd.named Bd.method).1
  have hlk : meth.locks = false := by first | exact BodyLoose.notSynchronized (by assumption) | exact Body.notSynchronized (by assumption) | assumption
  have X0 : Stand p l e ({ frames := 1, cells := 0, slots := 0, locals := 12 } : Room) s m #[(.ref r0)] below meth c s₁ [] 0 0 := Stand.of_body Bd
  have e0 : s₁.heap = h0 := by rw [← hh, Bd.state]; rfl
  have N0 := Fr.nil n0
  have Zn := Z0
  have K0 : ∀ t, Steps p.tables e below (s₁.setTop (mkF m 0 #[.val (.ref r0)] [])) t → Steps p.tables e below (s₁.setTop (entryFrame m #[(.ref r0)] 1)) t := fun t k => castTop (ef_rm4 m r0) k
  obtain ⟨T1, X1, e1, st1⟩ := initO X0 hx hZ hown (hw _ (List.mem_of_getElem? (i := 29) rfl)) (hw _ (List.mem_of_getElem? (i := 30) rfl)) (hw _ (List.mem_of_getElem? (i := 31) rfl)) e0 (g := (mkF m 1 #[.val (.ref r0)] [(.ref r0)])) rfl (by rw [hml]; rfl) rfl (hb hby d_jdk_30_method_1_code_1) (by decide) (W := 0) (by show 2 * 0 + _ ≤ _; exact Nat.le_of_eq rfl) (by decide)
  obtain ⟨fs, hr, hrun, hended, hW, hsame⟩ := X1.leave (v := none) (fun _ => rfl) hlk
  refine ⟨_, _, K0 _ ?_, hrun, hended, _, _, rfl, ?_, ⟨_, rfl⟩, hW, hsame.mono (by decide) (by decide)⟩
  ·
    show Steps p.tables e below (s₁.setTop (mkF m 0 #[.val (.ref r0)] [])) _
    refine XS.aloadN X0.here hx rfl (hb hby d_jdk_30_method_1_code_0) rfl rfl ?_
    show Steps p.tables e below (s₁.setTop (mkF m 1 #[.val (.ref r0)] [(.ref r0)])) _
    refine st1 _ ?_
    show Steps p.tables e below (T1.setTop (mkF m 4 #[.val (.ref r0)] [])) _
    exact X1.returnOut hx Bd.returns (hb hby d_jdk_30_method_1_code_4) hr
  ·
    show Q_rm4 Z r0 h0 n0 _ T1.heap _
    rw [e1]
    exact ⟨rfl, N0, rfl⟩
theorem d_prog_22_method_1_code_0 : decode prog_22_method_1_code 0 = .ok (.aload_n 0, 1) := by decide +kernel
theorem d_prog_22_method_1_code_1 : decode prog_22_method_1_code 1 = .ok (.invokespecial 3, 3) := by decide +kernel
theorem pd_2 : parseMethodDescriptor "()V" = some ⟨[], none⟩ := by decide +kernel
theorem d_prog_22_method_1_code_4 : decode prog_22_method_1_code 4 = .ok (.aload_n 0, 1) := by decide +kernel
theorem d_prog_22_method_1_code_5 : decode prog_22_method_1_code 5 = .ok (.aload_n 1, 1) := by decide +kernel
theorem d_prog_22_method_1_code_6 : decode prog_22_method_1_code 6 = .ok (.putfield 9, 3) := by decide +kernel
theorem d_prog_22_method_1_code_9 : decode prog_22_method_1_code 9 = .ok (.aload_n 0, 1) := by decide +kernel
theorem d_prog_22_method_1_code_10 : decode prog_22_method_1_code 10 = .ok (.lload_n 2, 1) := by decide +kernel
theorem d_prog_22_method_1_code_11 : decode prog_22_method_1_code 11 = .ok (.putfield 15, 3) := by decide +kernel
theorem d_prog_22_method_1_code_14 : decode prog_22_method_1_code 14 = .ok (.aload_n 0, 1) := by decide +kernel
theorem d_prog_22_method_1_code_15 : decode prog_22_method_1_code 15 = .ok (.lload 4, 2) := by decide +kernel
theorem d_prog_22_method_1_code_17 : decode prog_22_method_1_code 17 = .ok (.putfield 19, 3) := by decide +kernel
theorem d_prog_22_method_1_code_20 : decode prog_22_method_1_code 20 = .ok (.aload_n 0, 1) := by decide +kernel
theorem d_prog_22_method_1_code_21 : decode prog_22_method_1_code 21 = .ok (.lload 6, 2) := by decide +kernel
theorem d_prog_22_method_1_code_23 : decode prog_22_method_1_code 23 = .ok (.putfield 22, 3) := by decide +kernel
theorem d_prog_22_method_1_code_26 : decode prog_22_method_1_code 26 = .ok (.return_, 1) := by decide +kernel
theorem pn_3 : plainName "com/example/nameward/nameward/cli/ServiceLevel$Result" = true := by first | (simp [plainName, overriddenIn]; done) | decide +kernel
theorem ef_rm5 (m : MethodId) (x0 : Addr) (x1 : Addr) (x2 : Int64) (x3 : Int64) (x4 : Int64) : entryFrame m #[(.ref x0), (.ref x1), (.long x2), (.long x3), (.long x4)] 8 = mkF m 0 #[.val (.ref x0), .val (.ref x1), .val (.long x2), .second, .val (.long x3), .second, .val (.long x4), .second] [] := by first | (simp [entryFrame, mkF, argsToLocals, Value.category]; done) | rfl
def Q_rm5 (Z : State) (r0 : Addr) (r1 : Addr) (q2 : Int64) (q3 : Int64) (q4 : Int64) (h0 : Heap) (n0 : Nat) (v : Option Value) (h : Heap) (L : List Loc) : Prop := v = none ∧ Fr n0 L ∧ Keep h0 h [r0] ∧ Exa Z h r0 "com/example/nameward/nameward/cli/ServiceLevel$Result" ∧ Fld Z h r0 "com/example/nameward/nameward/cli/ServiceLevel$Result" "count" "J" (.long q2) ∧ Fld Z h r0 "com/example/nameward/nameward/cli/ServiceLevel$Result" "within" "J" (.long q3)
set_option maxRecDepth 65536 in
set_option maxHeartbeats 40000000 in
theorem rm5 (l : Launch) (Z : State) (a0 : Array Value) (hw : ∀ d ∈ tables_1, d.before a0 Z = true) (ws : List Jvm.Cond) (r0 : Addr) (r1 : Addr) (q2 : Int64) (q3 : Int64) (q4 : Int64) (h0 : Heap) (n0 : Nat) (Z0 : n0 ≤ h0.size) (E_r0 : Exa Z h0 r0 "com/example/nameward/nameward/cli/ServiceLevel$Result") (g_r0 : n0 ≤ r0) (F_level_r0 : Fld Z h0 r0 "com/example/nameward/nameward/cli/ServiceLevel$Result" "level" "Lcom/example/nameward/nameward/cli/ServiceLevel;" .null) (F_count_r0 : Fld Z h0 r0 "com/example/nameward/nameward/cli/ServiceLevel$Result" "count" "J" (.long (0 : Int64))) (F_within_r0 : Fld Z h0 r0 "com/example/nameward/nameward/cli/ServiceLevel$Result" "within" "J" (.long (0 : Int64))) (F_p95Millis_r0 : Fld Z h0 r0 "com/example/nameward/nameward/cli/ServiceLevel$Result" "p95Millis" "J" (.long (0 : Int64))) :
    MetFree l (⟨"com/example/nameward/nameward/cli/ServiceLevel$Result", "<init>", "(Lcom/example/nameward/nameward/cli/ServiceLevel;JJJ)V"⟩ : MethodName) (head1 (Jvm.Cond.code (⟨"com/example/nameward/nameward/cli/ServiceLevel$Result", "<init>", "(Lcom/example/nameward/nameward/cli/ServiceLevel;JJJ)V"⟩ : MethodName) prog_22_method_1_code 8 none :: ws) ({ frames := 2, cells := 0, slots := 0, locals := 24 } : Room)) (fun a U => a = #[(.ref r0), (.ref r1), (.long q2), (.long q3), (.long q4)] ∧ Z.Warmed39 U.vm ∧ U.heap = h0) (fun _ _ _ _ _ => True) (fun _ U o U' => ∃ v L, o = .returned v ∧ Q_rm5 Z r0 r1 q2 q3 q4 h0 n0 v U'.heap L ∧ FrameEnd U o U' L ({ frames := 2, cells := 0, slots := 0, locals := 24 } : Room).cells ({ frames := 2, cells := 0, slots := 0, locals := 24 } : Room).slots) := by
  refine MetFree.of_bodySF (plainFor_of_name pn_3) hisR ?_
  intro p e s m args below meth c s₁ Bd hml0 hP hK
  obtain ⟨rfl, hZ, hh⟩ := hP
  have hx := Bd.exec
  have hby := Bd.bytes
  have hml : c.maxLocals = 8 := hml0
  have hown : s.vm.findClass "com/example/nameward/nameward/cli/ServiceLevel$Result" = some m.cls := findClass_of_methodNamed Bd.named
  have hnm := (name_of_methodNamed Bd.named Bd.method).1
  have hlk : meth.locks = false := by first | exact BodyLoose.notSynchronized (by assumption) | exact Body.notSynchronized (by assumption) | assumption
  have X0 : Stand p l e ({ frames := 2, cells := 0, slots := 0, locals := 24 } : Room) s m #[(.ref r0), (.ref r1), (.long q2), (.long q3), (.long q4)] below meth c s₁ [] 0 0 := Stand.of_body Bd
  have e0 : s₁.heap = h0 := by rw [← hh, Bd.state]; rfl
  have N0 := Fr.nil n0
  have Zn := Z0
  have K0 : ∀ t, Steps p.tables e below (s₁.setTop (mkF m 0 #[.val (.ref r0), .val (.ref r1), .val (.long q2), .second, .val (.long q3), .second, .val (.long q4), .second] [])) t → Steps p.tables e below (s₁.setTop (entryFrame m #[(.ref r0), (.ref r1), (.long q2), (.long q3), (.long q4)] 8)) t := fun t k => castTop (ef_rm5 m r0 r1 q2 q3 q4) k
  have Kp : Keep h0 h0 [r0] := Keep.refl h0 [r0]
  obtain ⟨_, _, ⟨T1, L1, k1, n1⟩, -, X1, ⟨Lc1, hQ1, l1, y1, z1⟩, st1⟩ := X0.specialBack hx (y := (⟨"java/lang/Record", "<init>", "()V"⟩ : MethodName)) rfl hown (mvT hZ (hw _ (List.mem_of_getElem? (i := 24) rfl))) (mvT hZ (hw _ (List.mem_of_getElem? (i := 25) rfl))) (mvT hZ (hw _ (List.mem_of_getElem? (i := 28) rfl))) (by decide) (backOf (W := 0) (rm4 l Z a0 hw [] r0  h0 n0 Zn ) hZ (hw _ (List.mem_of_getElem? (i := 28) rfl)) (hw _ (List.mem_of_getElem? (i := 27) rfl)) (by decide) (by decide)) (g := (mkF m 1 #[.val (.ref r0), .val (.ref r1), .val (.long q2), .second, .val (.long q3), .second, .val (.long q4), .second] [(.ref r0)])) rfl (by rw [hml]; rfl) (Steps.refl _) (a := r0) (argsL := []) (rest := []) (lenOf pd_2 rfl) rfl (by show 2 * 0 + _ ≤ _; exact Nat.le_of_eq rfl) (hb hby d_prog_22_method_1_code_1) (fun _ _ => ⟨rfl, e0, (by decide : 0 + 0 ≤ _), (by decide : 0 + 0 ≤ _)⟩)
  dsimp only [Pt.U, Pt.locs, Pt.cells, Pt.slots] at X1 l1 y1 z1 st1 hQ1
  subst l1 y1 z1
  obtain ⟨rfl, N1q, e1q⟩ := hQ1
  have N1 := Fr.app N0 N1q
  have e1 : T1.heap = h0 := e1q
  obtain ⟨T2, h2, X2, e2, W2, st2⟩ := putF X1 hx hZ hown (host := "") (Or.inl (hw _ (List.mem_of_getElem? (i := 32) rfl))) Via.refl e1 F_level_r0 E_r0 (Or.inr ⟨(hw _ (List.mem_of_getElem? (i := 33) rfl)), rfl, hnm⟩) (hw _ (List.mem_of_getElem? (i := 11) rfl)) (ty := (.object "com/example/nameward/nameward/cli/ServiceLevel")) (by decide) rfl rfl (g := (mkF m 6 #[.val (.ref r0), .val (.ref r1), .val (.long q2), .second, .val (.long q3), .second, .val (.long q4), .second] [(.ref r1), (.ref r0)])) rfl rfl (hb hby d_prog_22_method_1_code_6)
  replace E_r0 := E_r0.wr W2
  replace F_count_r0 := F_count_r0.other W2 (Or.inr (slot_ne (Or.inr (hw _ (List.mem_of_getElem? (i := 35) rfl))) (Or.inr (hw _ (List.mem_of_getElem? (i := 33) rfl))) (by decide) (t := .long) (t' := (.object "com/example/nameward/nameward/cli/ServiceLevel")) (by decide) (by decide)))
  replace F_within_r0 := F_within_r0.other W2 (Or.inr (slot_ne (Or.inr (hw _ (List.mem_of_getElem? (i := 37) rfl))) (Or.inr (hw _ (List.mem_of_getElem? (i := 33) rfl))) (by decide) (t := .long) (t' := (.object "com/example/nameward/nameward/cli/ServiceLevel")) (by decide) (by decide)))
  replace F_p95Millis_r0 := F_p95Millis_r0.other W2 (Or.inr (slot_ne (Or.inr (hw _ (List.mem_of_getElem? (i := 39) rfl))) (Or.inr (hw _ (List.mem_of_getElem? (i := 33) rfl))) (by decide) (t := .long) (t' := (.object "com/example/nameward/nameward/cli/ServiceLevel")) (by decide) (by decide)))
  have F_level_r0 := F_level_r0.same W2
  have N2 := Fr.snoc X2 N1 g_r0
  have Kp := Kp.wr W2 (Or.inl (List.mem_of_getElem? (i := 0) rfl))
  replace Zn := Nat.le_trans Zn (Keep.of_wr W2).1
  obtain ⟨T3, h3, X3, e3, W3, st3⟩ := putF X2 hx hZ hown (host := "") (Or.inl (hw _ (List.mem_of_getElem? (i := 34) rfl))) Via.refl e2 F_count_r0 E_r0 (Or.inr ⟨(hw _ (List.mem_of_getElem? (i := 35) rfl)), rfl, hnm⟩) (hw _ (List.mem_of_getElem? (i := 11) rfl)) (ty := .long) (by decide) rfl rfl (g := (mkF m 11 #[.val (.ref r0), .val (.ref r1), .val (.long q2), .second, .val (.long q3), .second, .val (.long q4), .second] [(.long q2), (.ref r0)])) rfl rfl (hb hby d_prog_22_method_1_code_11)
  replace E_r0 := E_r0.wr W3
  replace F_level_r0 := F_level_r0.other W3 (Or.inr (slot_ne (Or.inr (hw _ (List.mem_of_getElem? (i := 33) rfl))) (Or.inr (hw _ (List.mem_of_getElem? (i := 35) rfl))) (by decide) (t := (.object "com/example/nameward/nameward/cli/ServiceLevel")) (t' := .long) (by decide) (by decide)))
  replace F_within_r0 := F_within_r0.other W3 (Or.inr (slot_ne (Or.inr (hw _ (List.mem_of_getElem? (i := 37) rfl))) (Or.inr (hw _ (List.mem_of_getElem? (i := 35) rfl))) (by decide) (t := .long) (t' := .long) (by decide) (by decide)))
  replace F_p95Millis_r0 := F_p95Millis_r0.other W3 (Or.inr (slot_ne (Or.inr (hw _ (List.mem_of_getElem? (i := 39) rfl))) (Or.inr (hw _ (List.mem_of_getElem? (i := 35) rfl))) (by decide) (t := .long) (t' := .long) (by decide) (by decide)))
  have F_count_r0 := F_count_r0.same W3
  have N3 := Fr.snoc X3 N2 g_r0
  have Kp := Kp.wr W3 (Or.inl (List.mem_of_getElem? (i := 0) rfl))
  replace Zn := Nat.le_trans Zn (Keep.of_wr W3).1
  obtain ⟨T4, h4, X4, e4, W4, st4⟩ := putF X3 hx hZ hown (host := "") (Or.inl (hw _ (List.mem_of_getElem? (i := 36) rfl))) Via.refl e3 F_within_r0 E_r0 (Or.inr ⟨(hw _ (List.mem_of_getElem? (i := 37) rfl)), rfl, hnm⟩) (hw _ (List.mem_of_getElem? (i := 11) rfl)) (ty := .long) (by decide) rfl rfl (g := (mkF m 17 #[.val (.ref r0), .val (.ref r1), .val (.long q2), .second, .val (.long q3), .second, .val (.long q4), .second] [(.long q3), (.ref r0)])) rfl rfl (hb hby d_prog_22_method_1_code_17)
  replace E_r0 := E_r0.wr W4
  replace F_level_r0 := F_level_r0.other W4 (Or.inr (slot_ne (Or.inr (hw _ (List.mem_of_getElem? (i := 33) rfl))) (Or.inr (hw _ (List.mem_of_getElem? (i := 37) rfl))) (by decide) (t := (.object "com/example/nameward/nameward/cli/ServiceLevel")) (t' := .long) (by decide) (by decide)))
  replace F_count_r0 := F_count_r0.other W4 (Or.inr (slot_ne (Or.inr (hw _ (List.mem_of_getElem? (i := 35) rfl))) (Or.inr (hw _ (List.mem_of_getElem? (i := 37) rfl))) (by decide) (t := .long) (t' := .long) (by decide) (by decide)))
  replace F_p95Millis_r0 := F_p95Millis_r0.other W4 (Or.inr (slot_ne (Or.inr (hw _ (List.mem_of_getElem? (i := 39) rfl))) (Or.inr (hw _ (List.mem_of_getElem? (i := 37) rfl))) (by decide) (t := .long) (t' := .long) (by decide) (by decide)))
  have F_within_r0 := F_within_r0.same W4
  have N4 := Fr.snoc X4 N3 g_r0
  have Kp := Kp.wr W4 (Or.inl (List.mem_of_getElem? (i := 0) rfl))
  replace Zn := Nat.le_trans Zn (Keep.of_wr W4).1
  obtain ⟨T5, h5, X5, e5, W5, st5⟩ := putF X4 hx hZ hown (host := "") (Or.inl (hw _ (List.mem_of_getElem? (i := 38) rfl))) Via.refl e4 F_p95Millis_r0 E_r0 (Or.inr ⟨(hw _ (List.mem_of_getElem? (i := 39) rfl)), rfl, hnm⟩) (hw _ (List.mem_of_getElem? (i := 11) rfl)) (ty := .long) (by decide) rfl rfl (g := (mkF m 23 #[.val (.ref r0), .val (.ref r1), .val (.long q2), .second, .val (.long q3), .second, .val (.long q4), .second] [(.long q4), (.ref r0)])) rfl rfl (hb hby d_prog_22_method_1_code_23)
  replace E_r0 := E_r0.wr W5
  replace F_level_r0 := F_level_r0.other W5 (Or.inr (slot_ne (Or.inr (hw _ (List.mem_of_getElem? (i := 33) rfl))) (Or.inr (hw _ (List.mem_of_getElem? (i := 39) rfl))) (by decide) (t := (.object "com/example/nameward/nameward/cli/ServiceLevel")) (t' := .long) (by decide) (by decide)))
  replace F_count_r0 := F_count_r0.other W5 (Or.inr (slot_ne (Or.inr (hw _ (List.mem_of_getElem? (i := 35) rfl))) (Or.inr (hw _ (List.mem_of_getElem? (i := 39) rfl))) (by decide) (t := .long) (t' := .long) (by decide) (by decide)))
  replace F_within_r0 := F_within_r0.other W5 (Or.inr (slot_ne (Or.inr (hw _ (List.mem_of_getElem? (i := 37) rfl))) (Or.inr (hw _ (List.mem_of_getElem? (i := 39) rfl))) (by decide) (t := .long) (t' := .long) (by decide) (by decide)))
  have F_p95Millis_r0 := F_p95Millis_r0.same W5
  have N5 := Fr.snoc X5 N4 g_r0
  have Kp := Kp.wr W5 (Or.inl (List.mem_of_getElem? (i := 0) rfl))
  replace Zn := Nat.le_trans Zn (Keep.of_wr W5).1
  obtain ⟨fs, hr, hrun, hended, hW, hsame⟩ := X5.leave (v := none) (fun _ => rfl) hlk
  refine ⟨_, _, K0 _ ?_, hrun, hended, _, _, rfl, ?_, ⟨_, rfl⟩, hW, hsame.mono (by decide) (by decide)⟩
  ·
    show Steps p.tables e below (s₁.setTop (mkF m 0 #[.val (.ref r0), .val (.ref r1), .val (.long q2), .second, .val (.long q3), .second, .val (.long q4), .second] [])) _
    refine XS.aloadN X0.here hx rfl (hb hby d_prog_22_method_1_code_0) rfl rfl ?_
    show Steps p.tables e below (s₁.setTop (mkF m 1 #[.val (.ref r0), .val (.ref r1), .val (.long q2), .second, .val (.long q3), .second, .val (.long q4), .second] [(.ref r0)])) _
    refine st1.trans ?_
    show Steps p.tables e below (T1.setTop (mkF m 4 #[.val (.ref r0), .val (.ref r1), .val (.long q2), .second, .val (.long q3), .second, .val (.long q4), .second] [])) _
    refine XS.aloadN X1.here hx rfl (hb hby d_prog_22_method_1_code_4) rfl rfl ?_
    show Steps p.tables e below (T1.setTop (mkF m 5 #[.val (.ref r0), .val (.ref r1), .val (.long q2), .second, .val (.long q3), .second, .val (.long q4), .second] [(.ref r0)])) _
    refine XS.aloadN X1.here hx rfl (hb hby d_prog_22_method_1_code_5) rfl rfl ?_
    show Steps p.tables e below (T1.setTop (mkF m 6 #[.val (.ref r0), .val (.ref r1), .val (.long q2), .second, .val (.long q3), .second, .val (.long q4), .second] [(.ref r1), (.ref r0)])) _
    refine st2 _ ?_
    show Steps p.tables e below (T2.setTop (mkF m 9 #[.val (.ref r0), .val (.ref r1), .val (.long q2), .second, .val (.long q3), .second, .val (.long q4), .second] [])) _
    refine XS.aloadN X2.here hx rfl (hb hby d_prog_22_method_1_code_9) rfl rfl ?_
    show Steps p.tables e below (T2.setTop (mkF m 10 #[.val (.ref r0), .val (.ref r1), .val (.long q2), .second, .val (.long q3), .second, .val (.long q4), .second] [(.ref r0)])) _
    refine XS.lloadN X2.here hx rfl (hb hby d_prog_22_method_1_code_10) rfl ?_
    show Steps p.tables e below (T2.setTop (mkF m 11 #[.val (.ref r0), .val (.ref r1), .val (.long q2), .second, .val (.long q3), .second, .val (.long q4), .second] [(.long q2), (.ref r0)])) _
    refine st3 _ ?_
    show Steps p.tables e below (T3.setTop (mkF m 14 #[.val (.ref r0), .val (.ref r1), .val (.long q2), .second, .val (.long q3), .second, .val (.long q4), .second] [])) _
    refine XS.aloadN X3.here hx rfl (hb hby d_prog_22_method_1_code_14) rfl rfl ?_
    show Steps p.tables e below (T3.setTop (mkF m 15 #[.val (.ref r0), .val (.ref r1), .val (.long q2), .second, .val (.long q3), .second, .val (.long q4), .second] [(.ref r0)])) _
    refine XS.lload X3.here hx rfl (hb hby d_prog_22_method_1_code_15) rfl ?_
    show Steps p.tables e below (T3.setTop (mkF m 17 #[.val (.ref r0), .val (.ref r1), .val (.long q2), .second, .val (.long q3), .second, .val (.long q4), .second] [(.long q3), (.ref r0)])) _
    refine st4 _ ?_
    show Steps p.tables e below (T4.setTop (mkF m 20 #[.val (.ref r0), .val (.ref r1), .val (.long q2), .second, .val (.long q3), .second, .val (.long q4), .second] [])) _
    refine XS.aloadN X4.here hx rfl (hb hby d_prog_22_method_1_code_20) rfl rfl ?_
    show Steps p.tables e below (T4.setTop (mkF m 21 #[.val (.ref r0), .val (.ref r1), .val (.long q2), .second, .val (.long q3), .second, .val (.long q4), .second] [(.ref r0)])) _
    refine XS.lload X4.here hx rfl (hb hby d_prog_22_method_1_code_21) rfl ?_
    show Steps p.tables e below (T4.setTop (mkF m 23 #[.val (.ref r0), .val (.ref r1), .val (.long q2), .second, .val (.long q3), .second, .val (.long q4), .second] [(.long q4), (.ref r0)])) _
    refine st5 _ ?_
    show Steps p.tables e below (T5.setTop (mkF m 26 #[.val (.ref r0), .val (.ref r1), .val (.long q2), .second, .val (.long q3), .second, .val (.long q4), .second] [])) _
    exact X5.returnOut hx Bd.returns (hb hby d_prog_22_method_1_code_26) hr
  ·
    show Q_rm5 Z r0 r1 q2 q3 q4 h0 n0 _ T5.heap _
    rw [e5]
    exact ⟨rfl, N5, Kp, E_r0, F_count_r0, F_within_r0⟩
theorem d_prog_22_method_2_code_0 : decode prog_22_method_2_code 0 = .ok (.aload_n 0, 1) := by decide +kernel
theorem d_prog_22_method_2_code_1 : decode prog_22_method_2_code 1 = .ok (.getfield 15, 3) := by decide +kernel
theorem d_prog_22_method_2_code_4 : decode prog_22_method_2_code 4 = .ok (.ldc2_w 25, 3) := by decide +kernel
theorem d_prog_22_method_2_code_7 : decode prog_22_method_2_code 7 = .ok (.lcmp, 1) := by decide +kernel
theorem d_prog_22_method_2_code_8 : decode prog_22_method_2_code 8 = .ok (.ifCond .lt 27, 3) := by decide +kernel
theorem d_prog_22_method_2_code_35 : decode prog_22_method_2_code 35 = .ok (.iconst 0, 1) := by decide +kernel
theorem d_prog_22_method_2_code_36 : decode prog_22_method_2_code 36 = .ok (.ireturn, 1) := by decide +kernel
theorem d_prog_22_method_2_code_11 : decode prog_22_method_2_code 11 = .ok (.aload_n 0, 1) := by decide +kernel
theorem d_prog_22_method_2_code_12 : decode prog_22_method_2_code 12 = .ok (.getfield 19, 3) := by decide +kernel
theorem d_prog_22_method_2_code_15 : decode prog_22_method_2_code 15 = .ok (.ldc2_w 27, 3) := by decide +kernel
theorem d_prog_22_method_2_code_18 : decode prog_22_method_2_code 18 = .ok (.lmul, 1) := by decide +kernel
theorem d_prog_22_method_2_code_19 : decode prog_22_method_2_code 19 = .ok (.ldc2_w 29, 3) := by decide +kernel
theorem d_prog_22_method_2_code_22 : decode prog_22_method_2_code 22 = .ok (.aload_n 0, 1) := by decide +kernel
theorem d_prog_22_method_2_code_23 : decode prog_22_method_2_code 23 = .ok (.getfield 15, 3) := by decide +kernel
theorem d_prog_22_method_2_code_26 : decode prog_22_method_2_code 26 = .ok (.lmul, 1) := by decide +kernel
theorem d_prog_22_method_2_code_27 : decode prog_22_method_2_code 27 = .ok (.lcmp, 1) := by decide +kernel
theorem d_prog_22_method_2_code_28 : decode prog_22_method_2_code 28 = .ok (.ifCond .lt 7, 3) := by decide +kernel
theorem d_prog_22_method_2_code_31 : decode prog_22_method_2_code 31 = .ok (.iconst 1, 1) := by decide +kernel
theorem d_prog_22_method_2_code_32 : decode prog_22_method_2_code 32 = .ok (.goto 4, 3) := by decide +kernel
theorem ef_rm6 (m : MethodId) (x0 : Addr) : entryFrame m #[(.ref x0)] 1 = mkF m 0 #[.val (.ref x0)] [] := by first | (simp [entryFrame, mkF, argsToLocals, Value.category]; done) | rfl
def Q_rm6 (Z : State) (r0 : Addr) (cn : Int64) (wi : Int64) (h0 : Heap) (n0 : Nat) (v : Option Value) (h : Heap) (L : List Loc) : Prop := v = some (.int (own_met cn wi)) ∧ Fr n0 L ∧ h = h0
set_option maxRecDepth 65536 in
set_option maxHeartbeats 40000000 in
theorem rm6 (l : Launch) (Z : State) (a0 : Array Value) (hw : ∀ d ∈ tables_1, d.before a0 Z = true) (ws : List Jvm.Cond) (r0 : Addr) (cn : Int64) (wi : Int64) (h0 : Heap) (n0 : Nat) (Z0 : n0 ≤ h0.size) (F_count_r0 : Fld Z h0 r0 "com/example/nameward/nameward/cli/ServiceLevel$Result" "count" "J" (.long cn)) (F_within_r0 : Fld Z h0 r0 "com/example/nameward/nameward/cli/ServiceLevel$Result" "within" "J" (.long wi)) :
    MetFree l (⟨"com/example/nameward/nameward/cli/ServiceLevel$Result", "met", "()Z"⟩ : MethodName) (head1 (Jvm.Cond.code (⟨"com/example/nameward/nameward/cli/ServiceLevel$Result", "met", "()Z"⟩ : MethodName) prog_22_method_2_code 1 (some .boolean) :: ws) ({ frames := 0, cells := 0, slots := 0, locals := 0 } : Room)) (fun a U => a = #[(.ref r0)] ∧ Z.Warmed39 U.vm ∧ U.heap = h0) (fun _ _ _ _ _ => True) (fun _ U o U' => ∃ v L, o = .returned v ∧ Q_rm6 Z r0 cn wi h0 n0 v U'.heap L ∧ FrameEnd U o U' L ({ frames := 0, cells := 0, slots := 0, locals := 0 } : Room).cells ({ frames := 0, cells := 0, slots := 0, locals := 0 } : Room).slots) := by
  refine MetFree.of_bodySF (plainFor_of_name pn_3) hisR ?_
  intro p e s m args below meth c s₁ Bd hml0 hP hK
  obtain ⟨rfl, hZ, hh⟩ := hP
  have hx := Bd.exec
  have hby := Bd.bytes
  have hml : c.maxLocals = 1 := hml0
  have hown : s.vm.findClass "com/example/nameward/nameward/cli/ServiceLevel$Result" = some m.cls := findClass_of_methodNamed Bd.named
  have hnm := (name_of_methodNamed Bd.named Bd.method).1
  have hlk : meth.locks = false := by first | exact BodyLoose.notSynchronized (by assumption) | exact Body.notSynchronized (by assumption) | assumption
  have X0 : Stand p l e ({ frames := 0, cells := 0, slots := 0, locals := 0 } : Room) s m #[(.ref r0)] below meth c s₁ [] 0 0 := Stand.of_body Bd
  have e0 : s₁.heap = h0 := by rw [← hh, Bd.state]; rfl
  have N0 := Fr.nil n0
  have Zn := Z0
  have K0 : ∀ t, Steps p.tables e below (s₁.setTop (mkF m 0 #[.val (.ref r0)] [])) t → Steps p.tables e below (s₁.setTop (entryFrame m #[(.ref r0)] 1)) t := fun t k => castTop (ef_rm6 m r0) k
  obtain ⟨T1, X1, e1, st1⟩ := getF X0 hx hZ hown (host := "") (Or.inl (hw _ (List.mem_of_getElem? (i := 34) rfl))) Via.refl e0 F_count_r0 (g := (mkF m 1 #[.val (.ref r0)] [(.ref r0)])) rfl rfl (hb hby d_prog_22_method_2_code_1)
  have K2 : ∀ t, Steps p.tables e below (T1.setTop (mkF m 8 #[.val (.ref r0)] [(.int (lcmpW cn (1000 : Int64)))])) t → Steps p.tables e below (s₁.setTop (entryFrame m #[(.ref r0)] 1)) t := by
    intro t kt
    refine K0 t ?_
    show Steps p.tables e below (s₁.setTop (mkF m 0 #[.val (.ref r0)] [])) _
    refine XS.aloadN X0.here hx rfl (hb hby d_prog_22_method_2_code_0) rfl rfl ?_
    show Steps p.tables e below (s₁.setTop (mkF m 1 #[.val (.ref r0)] [(.ref r0)])) _
    refine st1 _ ?_
    show Steps p.tables e below (T1.setTop (mkF m 4 #[.val (.ref r0)] [(.long cn)])) _
    refine X1.ldc2Long hx hown (mvT hZ (hw _ (List.mem_of_getElem? (i := 46) rfl))) (g := (mkF m 4 #[.val (.ref r0)] [(.long cn)])) rfl (hb hby d_prog_22_method_2_code_4) _ ?_
    show Steps p.tables e below (T1.setTop (mkF m 7 #[.val (.ref r0)] [(.long (1000 : Int64)), (.long cn)])) _
    refine XS.lcmp X1.here hx rfl (hb hby d_prog_22_method_2_code_7) rfl ?_
    exact kt
  by_cases hc8 : (lcmpW cn (1000 : Int64)) < (0 : Int32)
  ·
    obtain ⟨fs, hr, hrun, hended, hW, hsame⟩ := X1.leave (v := some (.int (0 : Int32))) (fun h => by rw [Bd.returns] at h; cases h) hlk
    refine ⟨_, _, K2 _ ?_, hrun, hended, _, _, rfl, ?_, ⟨_, rfl⟩, hW, hsame.mono (by decide) (by decide)⟩
    ·
      show Steps p.tables e below (T1.setTop (mkF m 8 #[.val (.ref r0)] [(.int (lcmpW cn (1000 : Int64)))])) _
      refine XS.ifYes X1.here hx rfl (pc0 := 8) (pc' := 35) rfl (hb hby d_prog_22_method_2_code_8) rfl ((if0 _ _).trans (tlt hc8).1) (by decide) (by decide) ?_
      show Steps p.tables e below (T1.setTop (mkF m 35 #[.val (.ref r0)] [])) _
      refine XS.iconst X1.here hx rfl (hb hby d_prog_22_method_2_code_35) ?_
      show Steps p.tables e below (T1.setTop (mkF m 36 #[.val (.ref r0)] [(.int (0 : Int32))])) _
      exact retN X1 hx (t := .boolean) Bd.returns (by simp) (hb hby d_prog_22_method_2_code_36) hr
    ·
      show Q_rm6 Z r0 cn wi h0 n0 _ T1.heap _
      rw [e1]
      refine ⟨?_, N0, rfl⟩
      simp only [own_met, hc8, if_true, if_false]
  ·
    obtain ⟨T3, X3, e3, st3⟩ := getF X1 hx hZ hown (host := "") (Or.inl (hw _ (List.mem_of_getElem? (i := 36) rfl))) Via.refl e1 F_within_r0 (g := (mkF m 12 #[.val (.ref r0)] [(.ref r0)])) rfl rfl (hb hby d_prog_22_method_2_code_12)
    obtain ⟨T4, X4, e4, st4⟩ := getF X3 hx hZ hown (host := "") (Or.inl (hw _ (List.mem_of_getElem? (i := 34) rfl))) Via.refl e3 F_count_r0 (g := (mkF m 23 #[.val (.ref r0)] [(.ref r0), (.long (95 : Int64)), (.long (wi * (100 : Int64)))])) rfl rfl (hb hby d_prog_22_method_2_code_23)
    have K5 : ∀ t, Steps p.tables e below (T4.setTop (mkF m 28 #[.val (.ref r0)] [(.int (lcmpW (wi * (100 : Int64)) ((95 : Int64) * cn)))])) t → Steps p.tables e below (s₁.setTop (entryFrame m #[(.ref r0)] 1)) t := by
      intro t kt
      refine K2 t ?_
      show Steps p.tables e below (T1.setTop (mkF m 8 #[.val (.ref r0)] [(.int (lcmpW cn (1000 : Int64)))])) _
      refine XS.ifNo X1.here hx rfl (hb hby d_prog_22_method_2_code_8) rfl ((if0 _ _).trans (flt hc8).1) ?_
      show Steps p.tables e below (T1.setTop (mkF m 11 #[.val (.ref r0)] [])) _
      refine XS.aloadN X1.here hx rfl (hb hby d_prog_22_method_2_code_11) rfl rfl ?_
      show Steps p.tables e below (T1.setTop (mkF m 12 #[.val (.ref r0)] [(.ref r0)])) _
      refine st3 _ ?_
      show Steps p.tables e below (T3.setTop (mkF m 15 #[.val (.ref r0)] [(.long wi)])) _
      refine X3.ldc2Long hx hown (mvT hZ (hw _ (List.mem_of_getElem? (i := 50) rfl))) (g := (mkF m 15 #[.val (.ref r0)] [(.long wi)])) rfl (hb hby d_prog_22_method_2_code_15) _ ?_
      show Steps p.tables e below (T3.setTop (mkF m 18 #[.val (.ref r0)] [(.long (100 : Int64)), (.long wi)])) _
      refine XS.lmul X3.here hx rfl (hb hby d_prog_22_method_2_code_18) rfl ?_
      show Steps p.tables e below (T3.setTop (mkF m 19 #[.val (.ref r0)] [(.long (wi * (100 : Int64)))])) _
      refine X3.ldc2Long hx hown (mvT hZ (hw _ (List.mem_of_getElem? (i := 51) rfl))) (g := (mkF m 19 #[.val (.ref r0)] [(.long (wi * (100 : Int64)))])) rfl (hb hby d_prog_22_method_2_code_19) _ ?_
      show Steps p.tables e below (T3.setTop (mkF m 22 #[.val (.ref r0)] [(.long (95 : Int64)), (.long (wi * (100 : Int64)))])) _
      refine XS.aloadN X3.here hx rfl (hb hby d_prog_22_method_2_code_22) rfl rfl ?_
      show Steps p.tables e below (T3.setTop (mkF m 23 #[.val (.ref r0)] [(.ref r0), (.long (95 : Int64)), (.long (wi * (100 : Int64)))])) _
      refine st4 _ ?_
      show Steps p.tables e below (T4.setTop (mkF m 26 #[.val (.ref r0)] [(.long cn), (.long (95 : Int64)), (.long (wi * (100 : Int64)))])) _
      refine XS.lmul X4.here hx rfl (hb hby d_prog_22_method_2_code_26) rfl ?_
      show Steps p.tables e below (T4.setTop (mkF m 27 #[.val (.ref r0)] [(.long ((95 : Int64) * cn)), (.long (wi * (100 : Int64)))])) _
      refine XS.lcmp X4.here hx rfl (hb hby d_prog_22_method_2_code_27) rfl ?_
      exact kt
    by_cases hc28 : (lcmpW (wi * (100 : Int64)) ((95 : Int64) * cn)) < (0 : Int32)
    ·
      obtain ⟨fs, hr, hrun, hended, hW, hsame⟩ := X4.leave (v := some (.int (0 : Int32))) (fun h => by rw [Bd.returns] at h; cases h) hlk
      refine ⟨_, _, K5 _ ?_, hrun, hended, _, _, rfl, ?_, ⟨_, rfl⟩, hW, hsame.mono (by decide) (by decide)⟩
      ·
        show Steps p.tables e below (T4.setTop (mkF m 28 #[.val (.ref r0)] [(.int (lcmpW (wi * (100 : Int64)) ((95 : Int64) * cn)))])) _
        refine XS.ifYes X4.here hx rfl (pc0 := 28) (pc' := 35) rfl (hb hby d_prog_22_method_2_code_28) rfl ((if0 _ _).trans (tlt hc28).1) (by decide) (by decide) ?_
        show Steps p.tables e below (T4.setTop (mkF m 35 #[.val (.ref r0)] [])) _
        refine XS.iconst X4.here hx rfl (hb hby d_prog_22_method_2_code_35) ?_
        show Steps p.tables e below (T4.setTop (mkF m 36 #[.val (.ref r0)] [(.int (0 : Int32))])) _
        exact retN X4 hx (t := .boolean) Bd.returns (by simp) (hb hby d_prog_22_method_2_code_36) hr
      ·
        show Q_rm6 Z r0 cn wi h0 n0 _ T4.heap _
        rw [e4]
        refine ⟨?_, N0, rfl⟩
        simp only [own_met, hc8, hc28, if_true, if_false]
    ·
      obtain ⟨fs, hr, hrun, hended, hW, hsame⟩ := X4.leave (v := some (.int (1 : Int32))) (fun h => by rw [Bd.returns] at h; cases h) hlk
      refine ⟨_, _, K5 _ ?_, hrun, hended, _, _, rfl, ?_, ⟨_, rfl⟩, hW, hsame.mono (by decide) (by decide)⟩
      ·
        show Steps p.tables e below (T4.setTop (mkF m 28 #[.val (.ref r0)] [(.int (lcmpW (wi * (100 : Int64)) ((95 : Int64) * cn)))])) _
        refine XS.ifNo X4.here hx rfl (hb hby d_prog_22_method_2_code_28) rfl ((if0 _ _).trans (flt hc28).1) ?_
        show Steps p.tables e below (T4.setTop (mkF m 31 #[.val (.ref r0)] [])) _
        refine XS.iconst X4.here hx rfl (hb hby d_prog_22_method_2_code_31) ?_
        show Steps p.tables e below (T4.setTop (mkF m 32 #[.val (.ref r0)] [(.int (1 : Int32))])) _
        refine XS.goto X4.here hx rfl (pc0 := 32) (pc' := 36) rfl (hb hby d_prog_22_method_2_code_32) (by decide) (by decide) ?_
        show Steps p.tables e below (T4.setTop (mkF m 36 #[.val (.ref r0)] [(.int (1 : Int32))])) _
        exact retN X4 hx (t := .boolean) Bd.returns (by simp) (hb hby d_prog_22_method_2_code_36) hr
      ·
        show Q_rm6 Z r0 cn wi h0 n0 _ T4.heap _
        rw [e4]
        refine ⟨?_, N0, rfl⟩
        simp only [own_met, hc8, hc28, if_true, if_false]
theorem pd_4 : parseMethodDescriptor "(JJ)J" = some ⟨[.long, .long], some .long⟩ := by decide +kernel
theorem pd_5 : parseMethodDescriptor "(I)Lcom/example/nameward/nameward/cli/ServiceLevel;" = some ⟨[.int], some (.object "com/example/nameward/nameward/cli/ServiceLevel")⟩ := by decide +kernel
theorem pd_6 : parseMethodDescriptor "(Lcom/example/nameward/nameward/cli/ServiceLevel;JJJ)V" = some ⟨[(.object "com/example/nameward/nameward/cli/ServiceLevel"), .long, .long, .long], none⟩ := by decide +kernel
theorem pd_7 : parseMethodDescriptor "()Z" = some ⟨[], some .boolean⟩ := by decide +kernel
theorem ef_rm0 (m : MethodId) (x0 : Int64) (x1 : Int64) (x2 : Int32) (x3 : Int32) : entryFrame m #[(.long x0), (.long x1), (.int x2), (.int x3)] maxLocals = mkF m 0 #[.val (.long x0), .second, .val (.long x1), .second, .val (.int x2), .val (.int x3), .unset, .unset, .unset, .unset, .unset, .unset] [] := by first | (simp [entryFrame, mkF, argsToLocals, Value.category, maxLocals]; done) | rfl
def Q_rm0 (Z : State) (q0 : Int64) (q1 : Int64) (p2 : Int32) (p3 : Int32) (w_TRANSFORM : Addr) (w_CHECK : Addr) (w_WHOIS : Addr) (h0 : Heap) (n0 : Nat) (v : Option Value) (h : Heap) (L : List Loc) : Prop := v = some (.int 1) ∧ Fr n0 L
set_option maxRecDepth 65536 in
set_option maxHeartbeats 40000000 in
theorem rm0 (l : Launch) (Z : State) (a0 : Array Value) (hw : ∀ d ∈ tables_1, d.before a0 Z = true) (ws : List Jvm.Cond) (q0 : Int64) (q1 : Int64) (p2 : Int32) (p3 : Int32) (w_TRANSFORM : Addr) (w_CHECK : Addr) (w_WHOIS : Addr) (h0 : Heap) (n0 : Nat) (Z0 : n0 ≤ h0.size) (S_TRANSFORM : Sta Z Z.heap "com/example/nameward/nameward/cli/ServiceLevel" "TRANSFORM" "Lcom/example/nameward/nameward/cli/ServiceLevel;" (.ref w_TRANSFORM)) (S_CHECK : Sta Z Z.heap "com/example/nameward/nameward/cli/ServiceLevel" "CHECK" "Lcom/example/nameward/nameward/cli/ServiceLevel;" (.ref w_CHECK)) (S_WHOIS : Sta Z Z.heap "com/example/nameward/nameward/cli/ServiceLevel" "WHOIS" "Lcom/example/nameward/nameward/cli/ServiceLevel;" (.ref w_WHOIS)) (OLD : Old Z n0 h0) :
    MetFree l x (head1 (Jvm.Cond.code x code maxLocals ret :: ws) room_1) (fun a U => a = #[(.long q0), (.long q1), (.int p2), (.int p3)] ∧ Z.Warmed39 U.vm ∧ U.heap = h0) (fun _ _ _ _ _ => True) (fun _ U o U' => ∃ v L, o = .returned v ∧ Q_rm0 Z q0 q1 p2 p3 w_TRANSFORM w_CHECK w_WHOIS h0 n0 v U'.heap L ∧ FrameEnd U o U' L room_1.cells room_1.slots) := by
  refine MetFree.of_bodySF (plainFor_of_name pn_0) hisR ?_
  intro p e s m args below meth c s₁ Bd hml0 hP hK
  obtain ⟨rfl, hZ, hh⟩ := hP
  have hx := Bd.exec
  have hby := Bd.bytes
  have hml : c.maxLocals = 12 := hml0
  have hown : s.vm.findClass "com/example/nameward/nameward/cli/ResultMetPinLaw" = some m.cls := findClass_of_methodNamed Bd.named
  have hnm := (name_of_methodNamed Bd.named Bd.method).1
  have hlk : meth.locks = false := by first | exact BodyLoose.notSynchronized (by assumption) | exact Body.notSynchronized (by assumption) | assumption
  have X0 : Stand p l e room_1 s m #[(.long q0), (.long q1), (.int p2), (.int p3)] below meth c s₁ [] 0 0 := Stand.of_body Bd
  have e0 : s₁.heap = h0 := by rw [← hh, Bd.state]; rfl
  have N0 := Fr.nil n0
  have Zn := Z0
  have K0 : ∀ t, Steps p.tables e below (s₁.setTop (mkF m 0 #[.val (.long q0), .second, .val (.long q1), .second, .val (.int p2), .val (.int p3), .unset, .unset, .unset, .unset, .unset, .unset] [])) t → Steps p.tables e below (s₁.setTop (entryFrame m #[(.long q0), (.long q1), (.int p2), (.int p3)] maxLocals)) t := fun t k => castTop (ef_rm0 m q0 q1 p2 p3) k
  obtain ⟨T1, lc1, cn, X1, N1, e1, P1, K1j⟩ : ∃ (T' : State) (lc' : List Loc) (cn : Int64), Stand p l e room_1 s m #[(.long q0), (.long q1), (.int p2), (.int p3)] below meth c T' lc' 0 0 ∧ Fr n0 lc' ∧ T'.heap = h0 ∧ (0 ≤ cn.toInt ∧ cn.toInt < 1099511627776) ∧ ∀ t, Steps p.tables e below (T'.setTop (mkF m 28 #[.val (.long q0), .second, .val (.long q1), .second, .val (.int p2), .val (.int p3), .val (.long cn), .second, .unset, .unset, .unset, .unset] [])) t → Steps p.tables e below (s₁.setTop (entryFrame m #[(.long q0), (.long q1), (.int p2), (.int p3)] maxLocals)) t := by
    have K2 : ∀ t, Steps p.tables e below (s₁.setTop (mkF m 4 #[.val (.long q0), .second, .val (.long q1), .second, .val (.int p2), .val (.int p3), .unset, .unset, .unset, .unset, .unset, .unset] [(.int (p3 &&& (1 : Int32)))])) t → Steps p.tables e below (s₁.setTop (entryFrame m #[(.long q0), (.long q1), (.int p2), (.int p3)] maxLocals)) t := by
      intro t kt
      refine K0 t ?_
      show Steps p.tables e below (s₁.setTop (mkF m 0 #[.val (.long q0), .second, .val (.long q1), .second, .val (.int p2), .val (.int p3), .unset, .unset, .unset, .unset, .unset, .unset] [])) _
      refine XS.iload X0.here hx rfl (hb hby at_0) rfl ?_
      show Steps p.tables e below (s₁.setTop (mkF m 2 #[.val (.long q0), .second, .val (.long q1), .second, .val (.int p2), .val (.int p3), .unset, .unset, .unset, .unset, .unset, .unset] [(.int p3)])) _
      refine XS.iconst X0.here hx rfl (hb hby at_2) ?_
      show Steps p.tables e below (s₁.setTop (mkF m 3 #[.val (.long q0), .second, .val (.long q1), .second, .val (.int p2), .val (.int p3), .unset, .unset, .unset, .unset, .unset, .unset] [(.int (1 : Int32)), (.int p3)])) _
      refine XS.iand X0.here hx rfl (hb hby at_3) rfl ?_
      exact kt
    by_cases hc4 : (p3 &&& (1 : Int32)) = (0 : Int32)
    ·
      have K3 : ∀ t, Steps p.tables e below (s₁.setTop (mkF m 28 #[.val (.long q0), .second, .val (.long q1), .second, .val (.int p2), .val (.int p3), .val (.long (q0 &&& (1099511627775 : Int64))), .second, .unset, .unset, .unset, .unset] [])) t → Steps p.tables e below (s₁.setTop (entryFrame m #[(.long q0), (.long q1), (.int p2), (.int p3)] maxLocals)) t := by
        intro t kt
        refine K2 t ?_
        show Steps p.tables e below (s₁.setTop (mkF m 4 #[.val (.long q0), .second, .val (.long q1), .second, .val (.int p2), .val (.int p3), .unset, .unset, .unset, .unset, .unset, .unset] [(.int (p3 &&& (1 : Int32)))])) _
        refine XS.ifYes X0.here hx rfl (pc0 := 4) (pc' := 21) rfl (hb hby at_4) rfl ((if0 _ _).trans (teq hc4).1) (by decide) (by decide) ?_
        show Steps p.tables e below (s₁.setTop (mkF m 21 #[.val (.long q0), .second, .val (.long q1), .second, .val (.int p2), .val (.int p3), .unset, .unset, .unset, .unset, .unset, .unset] [])) _
        refine XS.lloadN X0.here hx rfl (hb hby at_21) rfl ?_
        show Steps p.tables e below (s₁.setTop (mkF m 22 #[.val (.long q0), .second, .val (.long q1), .second, .val (.int p2), .val (.int p3), .unset, .unset, .unset, .unset, .unset, .unset] [(.long q0)])) _
        refine X0.ldc2Long hx hown (mvT hZ (hw _ (List.mem_of_getElem? (i := 47) rfl))) (g := (mkF m 22 #[.val (.long q0), .second, .val (.long q1), .second, .val (.int p2), .val (.int p3), .unset, .unset, .unset, .unset, .unset, .unset] [(.long q0)])) rfl (hb hby at_22) _ ?_
        show Steps p.tables e below (s₁.setTop (mkF m 25 #[.val (.long q0), .second, .val (.long q1), .second, .val (.int p2), .val (.int p3), .unset, .unset, .unset, .unset, .unset, .unset] [(.long (1099511627775 : Int64)), (.long q0)])) _
        refine XS.land X0.here hx rfl (hb hby at_25) rfl ?_
        show Steps p.tables e below (s₁.setTop (mkF m 26 #[.val (.long q0), .second, .val (.long q1), .second, .val (.int p2), .val (.int p3), .unset, .unset, .unset, .unset, .unset, .unset] [(.long (q0 &&& (1099511627775 : Int64)))])) _
        refine XS.lstore X0.here hx rfl (hb hby at_26) rfl (l' := #[.val (.long q0), .second, .val (.long q1), .second, .val (.int p2), .val (.int p3), .val (.long (q0 &&& (1099511627775 : Int64))), .second, .unset, .unset, .unset, .unset]) rfl ?_
        exact kt
      exact ⟨s₁, _, (q0 &&& (1099511627775 : Int64)), X0, N0, e0, own_cnt2 q0, K3⟩
    ·
      have K4 : ∀ t, Steps p.tables e below (s₁.setTop (mkF m 28 #[.val (.long q0), .second, .val (.long q1), .second, .val (.int p2), .val (.int p3), .val (.long ((990 : Int64) + (q0 &&& (31 : Int64)))), .second, .unset, .unset, .unset, .unset] [])) t → Steps p.tables e below (s₁.setTop (entryFrame m #[(.long q0), (.long q1), (.int p2), (.int p3)] maxLocals)) t := by
        intro t kt
        refine K2 t ?_
        show Steps p.tables e below (s₁.setTop (mkF m 4 #[.val (.long q0), .second, .val (.long q1), .second, .val (.int p2), .val (.int p3), .unset, .unset, .unset, .unset, .unset, .unset] [(.int (p3 &&& (1 : Int32)))])) _
        refine XS.ifNo X0.here hx rfl (hb hby at_4) rfl ((if0 _ _).trans (feq hc4).1) ?_
        show Steps p.tables e below (s₁.setTop (mkF m 7 #[.val (.long q0), .second, .val (.long q1), .second, .val (.int p2), .val (.int p3), .unset, .unset, .unset, .unset, .unset, .unset] [])) _
        refine X0.ldc2Long hx hown (mvT hZ (hw _ (List.mem_of_getElem? (i := 0) rfl))) (g := (mkF m 7 #[.val (.long q0), .second, .val (.long q1), .second, .val (.int p2), .val (.int p3), .unset, .unset, .unset, .unset, .unset, .unset] [])) rfl (hb hby at_7) _ ?_
        show Steps p.tables e below (s₁.setTop (mkF m 10 #[.val (.long q0), .second, .val (.long q1), .second, .val (.int p2), .val (.int p3), .unset, .unset, .unset, .unset, .unset, .unset] [(.long (990 : Int64))])) _
        refine XS.lloadN X0.here hx rfl (hb hby at_10) rfl ?_
        show Steps p.tables e below (s₁.setTop (mkF m 11 #[.val (.long q0), .second, .val (.long q1), .second, .val (.int p2), .val (.int p3), .unset, .unset, .unset, .unset, .unset, .unset] [(.long q0), (.long (990 : Int64))])) _
        refine X0.ldc2Long hx hown (mvT hZ (hw _ (List.mem_of_getElem? (i := 1) rfl))) (g := (mkF m 11 #[.val (.long q0), .second, .val (.long q1), .second, .val (.int p2), .val (.int p3), .unset, .unset, .unset, .unset, .unset, .unset] [(.long q0), (.long (990 : Int64))])) rfl (hb hby at_11) _ ?_
        show Steps p.tables e below (s₁.setTop (mkF m 14 #[.val (.long q0), .second, .val (.long q1), .second, .val (.int p2), .val (.int p3), .unset, .unset, .unset, .unset, .unset, .unset] [(.long (31 : Int64)), (.long q0), (.long (990 : Int64))])) _
        refine XS.land X0.here hx rfl (hb hby at_14) rfl ?_
        show Steps p.tables e below (s₁.setTop (mkF m 15 #[.val (.long q0), .second, .val (.long q1), .second, .val (.int p2), .val (.int p3), .unset, .unset, .unset, .unset, .unset, .unset] [(.long (q0 &&& (31 : Int64))), (.long (990 : Int64))])) _
        refine XS.ladd X0.here hx rfl (hb hby at_15) rfl ?_
        show Steps p.tables e below (s₁.setTop (mkF m 16 #[.val (.long q0), .second, .val (.long q1), .second, .val (.int p2), .val (.int p3), .unset, .unset, .unset, .unset, .unset, .unset] [(.long ((990 : Int64) + (q0 &&& (31 : Int64))))])) _
        refine XS.lstore X0.here hx rfl (hb hby at_16) rfl (l' := #[.val (.long q0), .second, .val (.long q1), .second, .val (.int p2), .val (.int p3), .val (.long ((990 : Int64) + (q0 &&& (31 : Int64)))), .second, .unset, .unset, .unset, .unset]) rfl ?_
        show Steps p.tables e below (s₁.setTop (mkF m 18 #[.val (.long q0), .second, .val (.long q1), .second, .val (.int p2), .val (.int p3), .val (.long ((990 : Int64) + (q0 &&& (31 : Int64)))), .second, .unset, .unset, .unset, .unset] [])) _
        refine XS.goto X0.here hx rfl (pc0 := 18) (pc' := 28) rfl (hb hby at_18) (by decide) (by decide) ?_
        exact kt
      exact ⟨s₁, _, ((990 : Int64) + (q0 &&& (31 : Int64))), X0, N0, e0, own_cnt1 q0, K4⟩
  have hcn := P1
  obtain ⟨T5, lc5, wi, s10, s11, X5, N5, e5, P5, K5j⟩ : ∃ (T' : State) (lc' : List Loc) (wi : Int64) (s10 : Slot) (s11 : Slot), Stand p l e room_1 s m #[(.long q0), (.long q1), (.int p2), (.int p3)] below meth c T' lc' 0 0 ∧ Fr n0 lc' ∧ T'.heap = h0 ∧ ((0 ≤ wi.toInt ∧ wi.toInt ≤ cn.toInt) ∧ ((s10 = .unset ∧ s11 = .unset) ∨ ∃ f, s10 = .val (.long f) ∧ s11 = .second)) ∧ ∀ t, Steps p.tables e below (T'.setTop (mkF m 84 #[.val (.long q0), .second, .val (.long q1), .second, .val (.int p2), .val (.int p3), .val (.long cn), .second, .val (.long wi), .second, s10, s11] [])) t → Steps p.tables e below (s₁.setTop (entryFrame m #[(.long q0), (.long q1), (.int p2), (.int p3)] maxLocals)) t := by
    have K6 : ∀ t, Steps p.tables e below (T1.setTop (mkF m 32 #[.val (.long q0), .second, .val (.long q1), .second, .val (.int p2), .val (.int p3), .val (.long cn), .second, .unset, .unset, .unset, .unset] [(.int (p3 &&& (2 : Int32)))])) t → Steps p.tables e below (s₁.setTop (entryFrame m #[(.long q0), (.long q1), (.int p2), (.int p3)] maxLocals)) t := by
      intro t kt
      refine K1j t ?_
      show Steps p.tables e below (T1.setTop (mkF m 28 #[.val (.long q0), .second, .val (.long q1), .second, .val (.int p2), .val (.int p3), .val (.long cn), .second, .unset, .unset, .unset, .unset] [])) _
      refine XS.iload X1.here hx rfl (hb hby at_28) rfl ?_
      show Steps p.tables e below (T1.setTop (mkF m 30 #[.val (.long q0), .second, .val (.long q1), .second, .val (.int p2), .val (.int p3), .val (.long cn), .second, .unset, .unset, .unset, .unset] [(.int p3)])) _
      refine XS.iconst X1.here hx rfl (hb hby at_30) ?_
      show Steps p.tables e below (T1.setTop (mkF m 31 #[.val (.long q0), .second, .val (.long q1), .second, .val (.int p2), .val (.int p3), .val (.long cn), .second, .unset, .unset, .unset, .unset] [(.int (2 : Int32)), (.int p3)])) _
      refine XS.iand X1.here hx rfl (hb hby at_31) rfl ?_
      exact kt
    by_cases hc32 : (p3 &&& (2 : Int32)) = (0 : Int32)
    ·
      have K7 : ∀ t, Steps p.tables e below (T1.setTop (mkF m 84 #[.val (.long q0), .second, .val (.long q1), .second, .val (.int p2), .val (.int p3), .val (.long cn), .second, .val (.long ((q1 &&& (9223372036854775807 : Int64)) - ((q1 &&& (9223372036854775807 : Int64)) / (cn + (1 : Int64))) * (cn + (1 : Int64)))), .second, .unset, .unset] [])) t → Steps p.tables e below (s₁.setTop (entryFrame m #[(.long q0), (.long q1), (.int p2), (.int p3)] maxLocals)) t := by
        intro t kt
        refine K6 t ?_
        show Steps p.tables e below (T1.setTop (mkF m 32 #[.val (.long q0), .second, .val (.long q1), .second, .val (.int p2), .val (.int p3), .val (.long cn), .second, .unset, .unset, .unset, .unset] [(.int (p3 &&& (2 : Int32)))])) _
        refine XS.ifYes X1.here hx rfl (pc0 := 32) (pc' := 72) rfl (hb hby at_32) rfl ((if0 _ _).trans (teq hc32).1) (by decide) (by decide) ?_
        show Steps p.tables e below (T1.setTop (mkF m 72 #[.val (.long q0), .second, .val (.long q1), .second, .val (.int p2), .val (.int p3), .val (.long cn), .second, .unset, .unset, .unset, .unset] [])) _
        refine XS.lloadN X1.here hx rfl (hb hby at_72) rfl ?_
        show Steps p.tables e below (T1.setTop (mkF m 73 #[.val (.long q0), .second, .val (.long q1), .second, .val (.int p2), .val (.int p3), .val (.long cn), .second, .unset, .unset, .unset, .unset] [(.long q1)])) _
        refine X1.ldc2Long hx hown (mvT hZ (hw _ (List.mem_of_getElem? (i := 52) rfl))) (g := (mkF m 73 #[.val (.long q0), .second, .val (.long q1), .second, .val (.int p2), .val (.int p3), .val (.long cn), .second, .unset, .unset, .unset, .unset] [(.long q1)])) rfl (hb hby at_73) _ ?_
        show Steps p.tables e below (T1.setTop (mkF m 76 #[.val (.long q0), .second, .val (.long q1), .second, .val (.int p2), .val (.int p3), .val (.long cn), .second, .unset, .unset, .unset, .unset] [(.long (9223372036854775807 : Int64)), (.long q1)])) _
        refine XS.land X1.here hx rfl (hb hby at_76) rfl ?_
        show Steps p.tables e below (T1.setTop (mkF m 77 #[.val (.long q0), .second, .val (.long q1), .second, .val (.int p2), .val (.int p3), .val (.long cn), .second, .unset, .unset, .unset, .unset] [(.long (q1 &&& (9223372036854775807 : Int64)))])) _
        refine XS.lload X1.here hx rfl (hb hby at_77) rfl ?_
        show Steps p.tables e below (T1.setTop (mkF m 79 #[.val (.long q0), .second, .val (.long q1), .second, .val (.int p2), .val (.int p3), .val (.long cn), .second, .unset, .unset, .unset, .unset] [(.long cn), (.long (q1 &&& (9223372036854775807 : Int64)))])) _
        refine XS.lconst X1.here hx rfl (hb hby at_79) ?_
        show Steps p.tables e below (T1.setTop (mkF m 80 #[.val (.long q0), .second, .val (.long q1), .second, .val (.int p2), .val (.int p3), .val (.long cn), .second, .unset, .unset, .unset, .unset] [(.long (1 : Int64)), (.long cn), (.long (q1 &&& (9223372036854775807 : Int64)))])) _
        refine XS.ladd X1.here hx rfl (hb hby at_80) rfl ?_
        show Steps p.tables e below (T1.setTop (mkF m 81 #[.val (.long q0), .second, .val (.long q1), .second, .val (.int p2), .val (.int p3), .val (.long cn), .second, .unset, .unset, .unset, .unset] [(.long (cn + (1 : Int64))), (.long (q1 &&& (9223372036854775807 : Int64)))])) _
        refine XS.lrem X1.here hx rfl (hb hby at_81) rfl (own_nz cn hcn) ?_
        show Steps p.tables e below (T1.setTop (mkF m 82 #[.val (.long q0), .second, .val (.long q1), .second, .val (.int p2), .val (.int p3), .val (.long cn), .second, .unset, .unset, .unset, .unset] [(.long ((q1 &&& (9223372036854775807 : Int64)) - ((q1 &&& (9223372036854775807 : Int64)) / (cn + (1 : Int64))) * (cn + (1 : Int64))))])) _
        refine XS.lstore X1.here hx rfl (hb hby at_82) rfl (l' := #[.val (.long q0), .second, .val (.long q1), .second, .val (.int p2), .val (.int p3), .val (.long cn), .second, .val (.long ((q1 &&& (9223372036854775807 : Int64)) - ((q1 &&& (9223372036854775807 : Int64)) / (cn + (1 : Int64))) * (cn + (1 : Int64)))), .second, .unset, .unset]) rfl ?_
        exact kt
      exact ⟨T1, _, ((q1 &&& (9223372036854775807 : Int64)) - ((q1 &&& (9223372036854775807 : Int64)) / (cn + (1 : Int64))) * (cn + (1 : Int64))), .unset, .unset, X1, N1, e1, ⟨own_rem cn q1 hcn, Or.inl ⟨rfl, rfl⟩⟩, K7⟩
    ·
      obtain ⟨_, _, ⟨T8, L8, k8, n8⟩, -, X8, ⟨Lc8, hQ8, l8, y8, z8⟩, st8⟩ := Jvm.LawKit.callS X1 hx (y := (⟨"java/lang/Math", "min", "(JJ)J"⟩ : MethodName)) hown (mvT hZ (hw _ (List.mem_of_getElem? (i := 3) rfl))) (mvT hZ (hw _ (List.mem_of_getElem? (i := 4) rfl))) (mvT hZ (hw _ (List.mem_of_getElem? (i := 5) rfl))) (mvT hZ (hw _ (List.mem_of_getElem? (i := 6) rfl))) (by decide) (backOf (W := 2) (rm1 l Z a0 hw [] cn ((cn / (20 : Int64)) + ((p2 - (p2 / (3 : Int32)) * (3 : Int32)).toInt64))  h0 n0 Zn ) hZ (hw _ (List.mem_of_getElem? (i := 6) rfl)) (hw _ (List.mem_of_getElem? (i := 5) rfl)) (by decide) (by decide)) (g := (mkF m 54 #[.val (.long q0), .second, .val (.long q1), .second, .val (.int p2), .val (.int p3), .val (.long cn), .second, .unset, .unset, .val (.long ((cn / (20 : Int64)) + ((p2 - (p2 / (3 : Int32)) * (3 : Int32)).toInt64))), .second] [(.long ((cn / (20 : Int64)) + ((p2 - (p2 / (3 : Int32)) * (3 : Int32)).toInt64))), (.long cn), (.long (0 : Int64))])) rfl (by rw [hml]; rfl) (argsL := [(.long cn), (.long ((cn / (20 : Int64)) + ((p2 - (p2 / (3 : Int32)) * (3 : Int32)).toInt64)))]) (rest := [(.long (0 : Int64))]) (lenOf pd_4 rfl) rfl (by show 2 * 0 + _ ≤ _; exact Nat.le_of_eq rfl) (hb hby at_54) (fun _ _ => ⟨rfl, e1, (by decide : 0 + 0 ≤ _), (by decide : 0 + 0 ≤ _)⟩)
      dsimp only [Pt.U, Pt.locs, Pt.cells, Pt.slots] at X8 l8 y8 z8 st8 hQ8
      subst l8 y8 z8
      obtain ⟨rfl, N8q, e8q⟩ := hQ8
      have N8 := Fr.app N1 N8q
      have e8 : T8.heap = h0 := e8q
      obtain ⟨_, _, ⟨T9, L9, k9, n9⟩, -, X9, ⟨Lc9, hQ9, l9, y9, z9⟩, st9⟩ := Jvm.LawKit.callS X8 hx (y := (⟨"java/lang/Math", "max", "(JJ)J"⟩ : MethodName)) hown (mvT hZ (hw _ (List.mem_of_getElem? (i := 7) rfl))) (mvT hZ (hw _ (List.mem_of_getElem? (i := 8) rfl))) (mvT hZ (hw _ (List.mem_of_getElem? (i := 5) rfl))) (mvT hZ (hw _ (List.mem_of_getElem? (i := 9) rfl))) (by decide) (backOf (W := 0) (rm2 l Z a0 hw [] (0 : Int64) (own_lmin cn ((cn / (20 : Int64)) + ((p2 - (p2 / (3 : Int32)) * (3 : Int32)).toInt64)))  h0 n0 Zn ) hZ (hw _ (List.mem_of_getElem? (i := 9) rfl)) (hw _ (List.mem_of_getElem? (i := 5) rfl)) (by decide) (by decide)) (g := (mkF m 57 #[.val (.long q0), .second, .val (.long q1), .second, .val (.int p2), .val (.int p3), .val (.long cn), .second, .unset, .unset, .val (.long ((cn / (20 : Int64)) + ((p2 - (p2 / (3 : Int32)) * (3 : Int32)).toInt64))), .second] [(.long (own_lmin cn ((cn / (20 : Int64)) + ((p2 - (p2 / (3 : Int32)) * (3 : Int32)).toInt64)))), (.long (0 : Int64))])) rfl (by rw [hml]; rfl) (argsL := [(.long (0 : Int64)), (.long (own_lmin cn ((cn / (20 : Int64)) + ((p2 - (p2 / (3 : Int32)) * (3 : Int32)).toInt64))))]) (rest := []) (lenOf pd_4 rfl) rfl (by show 2 * 0 + _ ≤ _; exact Nat.le_of_eq rfl) (hb hby at_57) (fun _ _ => ⟨rfl, e8, (by decide : 0 + 0 ≤ _), (by decide : 0 + 0 ≤ _)⟩)
      dsimp only [Pt.U, Pt.locs, Pt.cells, Pt.slots] at X9 l9 y9 z9 st9 hQ9
      subst l9 y9 z9
      obtain ⟨rfl, N9q, e9q⟩ := hQ9
      have N9 := Fr.app N8 N9q
      have e9 : T9.heap = h0 := e9q
      have K10 : ∀ t, Steps p.tables e below (T9.setTop (mkF m 84 #[.val (.long q0), .second, .val (.long q1), .second, .val (.int p2), .val (.int p3), .val (.long cn), .second, .val (.long (cn - (own_lmax (0 : Int64) (own_lmin cn ((cn / (20 : Int64)) + ((p2 - (p2 / (3 : Int32)) * (3 : Int32)).toInt64)))))), .second, .val (.long (own_lmax (0 : Int64) (own_lmin cn ((cn / (20 : Int64)) + ((p2 - (p2 / (3 : Int32)) * (3 : Int32)).toInt64))))), .second] [])) t → Steps p.tables e below (s₁.setTop (entryFrame m #[(.long q0), (.long q1), (.int p2), (.int p3)] maxLocals)) t := by
        intro t kt
        refine K6 t ?_
        show Steps p.tables e below (T1.setTop (mkF m 32 #[.val (.long q0), .second, .val (.long q1), .second, .val (.int p2), .val (.int p3), .val (.long cn), .second, .unset, .unset, .unset, .unset] [(.int (p3 &&& (2 : Int32)))])) _
        refine XS.ifNo X1.here hx rfl (hb hby at_32) rfl ((if0 _ _).trans (feq hc32).1) ?_
        show Steps p.tables e below (T1.setTop (mkF m 35 #[.val (.long q0), .second, .val (.long q1), .second, .val (.int p2), .val (.int p3), .val (.long cn), .second, .unset, .unset, .unset, .unset] [])) _
        refine XS.lload X1.here hx rfl (hb hby at_35) rfl ?_
        show Steps p.tables e below (T1.setTop (mkF m 37 #[.val (.long q0), .second, .val (.long q1), .second, .val (.int p2), .val (.int p3), .val (.long cn), .second, .unset, .unset, .unset, .unset] [(.long cn)])) _
        refine X1.ldc2Long hx hown (mvT hZ (hw _ (List.mem_of_getElem? (i := 2) rfl))) (g := (mkF m 37 #[.val (.long q0), .second, .val (.long q1), .second, .val (.int p2), .val (.int p3), .val (.long cn), .second, .unset, .unset, .unset, .unset] [(.long cn)])) rfl (hb hby at_37) _ ?_
        show Steps p.tables e below (T1.setTop (mkF m 40 #[.val (.long q0), .second, .val (.long q1), .second, .val (.int p2), .val (.int p3), .val (.long cn), .second, .unset, .unset, .unset, .unset] [(.long (20 : Int64)), (.long cn)])) _
        refine XS.ldiv X1.here hx rfl (hb hby at_40) rfl (by decide) ?_
        show Steps p.tables e below (T1.setTop (mkF m 41 #[.val (.long q0), .second, .val (.long q1), .second, .val (.int p2), .val (.int p3), .val (.long cn), .second, .unset, .unset, .unset, .unset] [(.long (cn / (20 : Int64)))])) _
        refine XS.iload X1.here hx rfl (hb hby at_41) rfl ?_
        show Steps p.tables e below (T1.setTop (mkF m 43 #[.val (.long q0), .second, .val (.long q1), .second, .val (.int p2), .val (.int p3), .val (.long cn), .second, .unset, .unset, .unset, .unset] [(.int p2), (.long (cn / (20 : Int64)))])) _
        refine XS.iconst X1.here hx rfl (hb hby at_43) ?_
        show Steps p.tables e below (T1.setTop (mkF m 44 #[.val (.long q0), .second, .val (.long q1), .second, .val (.int p2), .val (.int p3), .val (.long cn), .second, .unset, .unset, .unset, .unset] [(.int (3 : Int32)), (.int p2), (.long (cn / (20 : Int64)))])) _
        refine XS.irem X1.here hx rfl (hb hby at_44) rfl (by decide) ?_
        show Steps p.tables e below (T1.setTop (mkF m 45 #[.val (.long q0), .second, .val (.long q1), .second, .val (.int p2), .val (.int p3), .val (.long cn), .second, .unset, .unset, .unset, .unset] [(.int (p2 - (p2 / (3 : Int32)) * (3 : Int32))), (.long (cn / (20 : Int64)))])) _
        refine XS.i2l X1.here hx rfl (hb hby at_45) rfl ?_
        show Steps p.tables e below (T1.setTop (mkF m 46 #[.val (.long q0), .second, .val (.long q1), .second, .val (.int p2), .val (.int p3), .val (.long cn), .second, .unset, .unset, .unset, .unset] [(.long ((p2 - (p2 / (3 : Int32)) * (3 : Int32)).toInt64)), (.long (cn / (20 : Int64)))])) _
        refine XS.ladd X1.here hx rfl (hb hby at_46) rfl ?_
        show Steps p.tables e below (T1.setTop (mkF m 47 #[.val (.long q0), .second, .val (.long q1), .second, .val (.int p2), .val (.int p3), .val (.long cn), .second, .unset, .unset, .unset, .unset] [(.long ((cn / (20 : Int64)) + ((p2 - (p2 / (3 : Int32)) * (3 : Int32)).toInt64)))])) _
        refine XS.lstore X1.here hx rfl (hb hby at_47) rfl (l' := #[.val (.long q0), .second, .val (.long q1), .second, .val (.int p2), .val (.int p3), .val (.long cn), .second, .unset, .unset, .val (.long ((cn / (20 : Int64)) + ((p2 - (p2 / (3 : Int32)) * (3 : Int32)).toInt64))), .second]) rfl ?_
        show Steps p.tables e below (T1.setTop (mkF m 49 #[.val (.long q0), .second, .val (.long q1), .second, .val (.int p2), .val (.int p3), .val (.long cn), .second, .unset, .unset, .val (.long ((cn / (20 : Int64)) + ((p2 - (p2 / (3 : Int32)) * (3 : Int32)).toInt64))), .second] [])) _
        refine XS.lconst X1.here hx rfl (hb hby at_49) ?_
        show Steps p.tables e below (T1.setTop (mkF m 50 #[.val (.long q0), .second, .val (.long q1), .second, .val (.int p2), .val (.int p3), .val (.long cn), .second, .unset, .unset, .val (.long ((cn / (20 : Int64)) + ((p2 - (p2 / (3 : Int32)) * (3 : Int32)).toInt64))), .second] [(.long (0 : Int64))])) _
        refine XS.lload X1.here hx rfl (hb hby at_50) rfl ?_
        show Steps p.tables e below (T1.setTop (mkF m 52 #[.val (.long q0), .second, .val (.long q1), .second, .val (.int p2), .val (.int p3), .val (.long cn), .second, .unset, .unset, .val (.long ((cn / (20 : Int64)) + ((p2 - (p2 / (3 : Int32)) * (3 : Int32)).toInt64))), .second] [(.long cn), (.long (0 : Int64))])) _
        refine XS.lload X1.here hx rfl (hb hby at_52) rfl ?_
        show Steps p.tables e below (T1.setTop (mkF m 54 #[.val (.long q0), .second, .val (.long q1), .second, .val (.int p2), .val (.int p3), .val (.long cn), .second, .unset, .unset, .val (.long ((cn / (20 : Int64)) + ((p2 - (p2 / (3 : Int32)) * (3 : Int32)).toInt64))), .second] [(.long ((cn / (20 : Int64)) + ((p2 - (p2 / (3 : Int32)) * (3 : Int32)).toInt64))), (.long cn), (.long (0 : Int64))])) _
        refine st8 _ ?_
        show Steps p.tables e below (T8.setTop (mkF m 57 #[.val (.long q0), .second, .val (.long q1), .second, .val (.int p2), .val (.int p3), .val (.long cn), .second, .unset, .unset, .val (.long ((cn / (20 : Int64)) + ((p2 - (p2 / (3 : Int32)) * (3 : Int32)).toInt64))), .second] [(.long (own_lmin cn ((cn / (20 : Int64)) + ((p2 - (p2 / (3 : Int32)) * (3 : Int32)).toInt64)))), (.long (0 : Int64))])) _
        refine st9 _ ?_
        show Steps p.tables e below (T9.setTop (mkF m 60 #[.val (.long q0), .second, .val (.long q1), .second, .val (.int p2), .val (.int p3), .val (.long cn), .second, .unset, .unset, .val (.long ((cn / (20 : Int64)) + ((p2 - (p2 / (3 : Int32)) * (3 : Int32)).toInt64))), .second] [(.long (own_lmax (0 : Int64) (own_lmin cn ((cn / (20 : Int64)) + ((p2 - (p2 / (3 : Int32)) * (3 : Int32)).toInt64)))))])) _
        refine XS.lstore X9.here hx rfl (hb hby at_60) rfl (l' := #[.val (.long q0), .second, .val (.long q1), .second, .val (.int p2), .val (.int p3), .val (.long cn), .second, .unset, .unset, .val (.long (own_lmax (0 : Int64) (own_lmin cn ((cn / (20 : Int64)) + ((p2 - (p2 / (3 : Int32)) * (3 : Int32)).toInt64))))), .second]) rfl ?_
        show Steps p.tables e below (T9.setTop (mkF m 62 #[.val (.long q0), .second, .val (.long q1), .second, .val (.int p2), .val (.int p3), .val (.long cn), .second, .unset, .unset, .val (.long (own_lmax (0 : Int64) (own_lmin cn ((cn / (20 : Int64)) + ((p2 - (p2 / (3 : Int32)) * (3 : Int32)).toInt64))))), .second] [])) _
        refine XS.lload X9.here hx rfl (hb hby at_62) rfl ?_
        show Steps p.tables e below (T9.setTop (mkF m 64 #[.val (.long q0), .second, .val (.long q1), .second, .val (.int p2), .val (.int p3), .val (.long cn), .second, .unset, .unset, .val (.long (own_lmax (0 : Int64) (own_lmin cn ((cn / (20 : Int64)) + ((p2 - (p2 / (3 : Int32)) * (3 : Int32)).toInt64))))), .second] [(.long cn)])) _
        refine XS.lload X9.here hx rfl (hb hby at_64) rfl ?_
        show Steps p.tables e below (T9.setTop (mkF m 66 #[.val (.long q0), .second, .val (.long q1), .second, .val (.int p2), .val (.int p3), .val (.long cn), .second, .unset, .unset, .val (.long (own_lmax (0 : Int64) (own_lmin cn ((cn / (20 : Int64)) + ((p2 - (p2 / (3 : Int32)) * (3 : Int32)).toInt64))))), .second] [(.long (own_lmax (0 : Int64) (own_lmin cn ((cn / (20 : Int64)) + ((p2 - (p2 / (3 : Int32)) * (3 : Int32)).toInt64))))), (.long cn)])) _
        refine XS.lsub X9.here hx rfl (hb hby at_66) rfl ?_
        show Steps p.tables e below (T9.setTop (mkF m 67 #[.val (.long q0), .second, .val (.long q1), .second, .val (.int p2), .val (.int p3), .val (.long cn), .second, .unset, .unset, .val (.long (own_lmax (0 : Int64) (own_lmin cn ((cn / (20 : Int64)) + ((p2 - (p2 / (3 : Int32)) * (3 : Int32)).toInt64))))), .second] [(.long (cn - (own_lmax (0 : Int64) (own_lmin cn ((cn / (20 : Int64)) + ((p2 - (p2 / (3 : Int32)) * (3 : Int32)).toInt64))))))])) _
        refine XS.lstore X9.here hx rfl (hb hby at_67) rfl (l' := #[.val (.long q0), .second, .val (.long q1), .second, .val (.int p2), .val (.int p3), .val (.long cn), .second, .val (.long (cn - (own_lmax (0 : Int64) (own_lmin cn ((cn / (20 : Int64)) + ((p2 - (p2 / (3 : Int32)) * (3 : Int32)).toInt64)))))), .second, .val (.long (own_lmax (0 : Int64) (own_lmin cn ((cn / (20 : Int64)) + ((p2 - (p2 / (3 : Int32)) * (3 : Int32)).toInt64))))), .second]) rfl ?_
        show Steps p.tables e below (T9.setTop (mkF m 69 #[.val (.long q0), .second, .val (.long q1), .second, .val (.int p2), .val (.int p3), .val (.long cn), .second, .val (.long (cn - (own_lmax (0 : Int64) (own_lmin cn ((cn / (20 : Int64)) + ((p2 - (p2 / (3 : Int32)) * (3 : Int32)).toInt64)))))), .second, .val (.long (own_lmax (0 : Int64) (own_lmin cn ((cn / (20 : Int64)) + ((p2 - (p2 / (3 : Int32)) * (3 : Int32)).toInt64))))), .second] [])) _
        refine XS.goto X9.here hx rfl (pc0 := 69) (pc' := 84) rfl (hb hby at_69) (by decide) (by decide) ?_
        exact kt
      exact ⟨T9, _, (cn - (own_lmax (0 : Int64) (own_lmin cn ((cn / (20 : Int64)) + ((p2 - (p2 / (3 : Int32)) * (3 : Int32)).toInt64))))), .val (.long (own_lmax (0 : Int64) (own_lmin cn ((cn / (20 : Int64)) + ((p2 - (p2 / (3 : Int32)) * (3 : Int32)).toInt64))))), .second, X9, N9, e9, ⟨own_within cn _ hcn.1, Or.inr ⟨_, rfl, rfl⟩⟩, K10⟩
  obtain ⟨hwi, hsl⟩ := P5
  obtain ⟨T11, h11, X11, e11, E11, A11, D11, -, st11⟩ := newO X5 hx hZ hown (hw _ (List.mem_of_getElem? (i := 10) rfl)) (hw _ (List.mem_of_getElem? (i := 11) rfl)) (hw _ (List.mem_of_getElem? (i := 12) rfl)) e5 (g := (mkF m 84 #[.val (.long q0), .second, .val (.long q1), .second, .val (.int p2), .val (.int p3), .val (.long cn), .second, .val (.long wi), .second, s10, s11] [])) rfl (hb hby at_84) (by decide) (by decide)
  obtain ⟨b11, g11⟩ : ∃ z, z = h0.size := ⟨_, rfl⟩
  rw [← g11] at A11 D11 st11
  have g_b11 : n0 ≤ b11 := Nat.le_trans Zn (Nat.le_of_eq g11.symm)
  replace OLD := OLD.ext E11
  replace Zn := Nat.le_trans Zn E11.1
  have E_b11 := A11
  have F_level_b11 : Fld Z h11 b11 "com/example/nameward/nameward/cli/ServiceLevel$Result" "level" "Lcom/example/nameward/nameward/cli/ServiceLevel;" .null := D11 (Or.inr (hw _ (List.mem_of_getElem? (i := 33) rfl))) (ty := (.object "com/example/nameward/nameward/cli/ServiceLevel")) (by decide)
  have F_count_b11 : Fld Z h11 b11 "com/example/nameward/nameward/cli/ServiceLevel$Result" "count" "J" (.long (0 : Int64)) := D11 (Or.inr (hw _ (List.mem_of_getElem? (i := 35) rfl))) (ty := .long) (by decide)
  have F_within_b11 : Fld Z h11 b11 "com/example/nameward/nameward/cli/ServiceLevel$Result" "within" "J" (.long (0 : Int64)) := D11 (Or.inr (hw _ (List.mem_of_getElem? (i := 37) rfl))) (ty := .long) (by decide)
  have F_p95Millis_b11 : Fld Z h11 b11 "com/example/nameward/nameward/cli/ServiceLevel$Result" "p95Millis" "J" (.long (0 : Int64)) := D11 (Or.inr (hw _ (List.mem_of_getElem? (i := 39) rfl))) (ty := .long) (by decide)
  obtain ⟨_, _, ⟨T12, L12, k12, n12⟩, -, X12, ⟨Lc12, hQ12, l12, y12, z12⟩, st12⟩ := Jvm.LawKit.callS X11 hx (y := (⟨"com/example/nameward/nameward/cli/ResultMetPinLaw", "level", "(I)Lcom/example/nameward/nameward/cli/ServiceLevel;"⟩ : MethodName)) hown (mvT hZ (hw _ (List.mem_of_getElem? (i := 13) rfl))) (mvT hZ (hw _ (List.mem_of_getElem? (i := 14) rfl))) (mvT hZ (hw _ (List.mem_of_getElem? (i := 15) rfl))) (mvT hZ (hw _ (List.mem_of_getElem? (i := 16) rfl))) (by decide) (backOf (W := 2) (rm3 l Z a0 hw [] (p3 >>> ((2 : Int32) &&& 31)) w_TRANSFORM w_CHECK w_WHOIS h11 n0 Zn (S_TRANSFORM.ext OLD.2) (S_CHECK.ext OLD.2) (S_WHOIS.ext OLD.2)) hZ (hw _ (List.mem_of_getElem? (i := 16) rfl)) (hw _ (List.mem_of_getElem? (i := 15) rfl)) (by decide) (by decide)) (g := (mkF m 92 #[.val (.long q0), .second, .val (.long q1), .second, .val (.int p2), .val (.int p3), .val (.long cn), .second, .val (.long wi), .second, s10, s11] [(.int (p3 >>> ((2 : Int32) &&& 31))), (.ref b11), (.ref b11)])) rfl (by rw [hml]; rfl) (argsL := [(.int (p3 >>> ((2 : Int32) &&& 31)))]) (rest := [(.ref b11), (.ref b11)]) (lenOf pd_5 rfl) rfl (by show 2 * 0 + _ ≤ _; exact Nat.le_of_eq rfl) (hb hby at_92) (fun _ _ => ⟨rfl, e11, (by decide : 1 + 0 ≤ _), (by decide : 4 + 0 ≤ _)⟩)
  dsimp only [Pt.U, Pt.locs, Pt.cells, Pt.slots] at X12 l12 y12 z12 st12 hQ12
  subst l12 y12 z12
  obtain ⟨rfl, N12q, e12q⟩ := hQ12
  have N12 := Fr.app N5 N12q
  have e12 : T12.heap = h11 := e12q
  obtain ⟨_, _, ⟨T13, L13, k13, n13⟩, -, X13, ⟨Lc13, hQ13, l13, y13, z13⟩, st13⟩ := X12.specialBack hx (y := (⟨"com/example/nameward/nameward/cli/ServiceLevel$Result", "<init>", "(Lcom/example/nameward/nameward/cli/ServiceLevel;JJJ)V"⟩ : MethodName)) rfl hown (mvT hZ (hw _ (List.mem_of_getElem? (i := 21) rfl))) (mvT hZ (hw _ (List.mem_of_getElem? (i := 22) rfl))) (mvT hZ (hw _ (List.mem_of_getElem? (i := 23) rfl))) (by decide) (backOf (W := 1) (rm5 l Z a0 hw [] b11 (own_lv (p3 >>> ((2 : Int32) &&& 31)) w_TRANSFORM w_CHECK w_WHOIS) cn wi q1  h11 n0 Zn E_b11 g_b11 F_level_b11 F_count_b11 F_within_b11 F_p95Millis_b11) hZ (hw _ (List.mem_of_getElem? (i := 23) rfl)) (hw _ (List.mem_of_getElem? (i := 12) rfl)) (by decide) (by decide)) (g := (mkF m 100 #[.val (.long q0), .second, .val (.long q1), .second, .val (.int p2), .val (.int p3), .val (.long cn), .second, .val (.long wi), .second, s10, s11] [(.long q1), (.long wi), (.long cn), (.ref (own_lv (p3 >>> ((2 : Int32) &&& 31)) w_TRANSFORM w_CHECK w_WHOIS)), (.ref b11), (.ref b11)])) rfl (by rw [hml]; rfl) (Steps.refl _) (a := b11) (argsL := [(.ref (own_lv (p3 >>> ((2 : Int32) &&& 31)) w_TRANSFORM w_CHECK w_WHOIS)), (.long cn), (.long wi), (.long q1)]) (rest := [(.ref b11)]) (lenOf pd_6 rfl) rfl (by show 2 * 0 + _ ≤ _; exact Nat.le_of_eq rfl) (hb hby at_100) (fun _ _ => ⟨rfl, e12, (by decide : 1 + 0 ≤ _), (by decide : 4 + 0 ≤ _)⟩)
  dsimp only [Pt.U, Pt.locs, Pt.cells, Pt.slots] at X13 l13 y13 z13 st13 hQ13
  subst l13 y13 z13
  obtain ⟨rfl, N13q, K13k, pf13_0, pf13_1, pf13_2⟩ := hQ13
  have N13 := Fr.app N12 N13q
  have OLD := OLD.keep K13k (allS g_b11 all0)
  have E_b11 := E_b11.keep K13k
  replace Zn := Nat.le_trans Zn K13k.1
  have E_b11 := pf13_0
  have F_count_b11 := pf13_1
  have F_within_b11 := pf13_2
  have K14 : ∀ t, Steps p.tables e below (T13.setTop (mkF m 111 #[.val (.long q0), .second, .val (.long q1), .second, .val (.int p2), .val (.int p3), .val (.long cn), .second, .val (.long wi), .second, .val (.ref b11), .unset] [(.int (lcmpW cn (1000 : Int64)))])) t → Steps p.tables e below (s₁.setTop (entryFrame m #[(.long q0), (.long q1), (.int p2), (.int p3)] maxLocals)) t := by
    intro t kt
    refine K5j t ?_
    show Steps p.tables e below (T5.setTop (mkF m 84 #[.val (.long q0), .second, .val (.long q1), .second, .val (.int p2), .val (.int p3), .val (.long cn), .second, .val (.long wi), .second, s10, s11] [])) _
    refine st11 _ ?_
    show Steps p.tables e below (T11.setTop (mkF m 87 #[.val (.long q0), .second, .val (.long q1), .second, .val (.int p2), .val (.int p3), .val (.long cn), .second, .val (.long wi), .second, s10, s11] [(.ref b11)])) _
    refine XS.dup X11.here hx rfl (hb hby at_87) rfl rfl ?_
    show Steps p.tables e below (T11.setTop (mkF m 88 #[.val (.long q0), .second, .val (.long q1), .second, .val (.int p2), .val (.int p3), .val (.long cn), .second, .val (.long wi), .second, s10, s11] [(.ref b11), (.ref b11)])) _
    refine XS.iload X11.here hx rfl (hb hby at_88) rfl ?_
    show Steps p.tables e below (T11.setTop (mkF m 90 #[.val (.long q0), .second, .val (.long q1), .second, .val (.int p2), .val (.int p3), .val (.long cn), .second, .val (.long wi), .second, s10, s11] [(.int p3), (.ref b11), (.ref b11)])) _
    refine XS.iconst X11.here hx rfl (hb hby at_90) ?_
    show Steps p.tables e below (T11.setTop (mkF m 91 #[.val (.long q0), .second, .val (.long q1), .second, .val (.int p2), .val (.int p3), .val (.long cn), .second, .val (.long wi), .second, s10, s11] [(.int (2 : Int32)), (.int p3), (.ref b11), (.ref b11)])) _
    refine XS.ishr X11.here hx rfl (hb hby at_91) rfl ?_
    show Steps p.tables e below (T11.setTop (mkF m 92 #[.val (.long q0), .second, .val (.long q1), .second, .val (.int p2), .val (.int p3), .val (.long cn), .second, .val (.long wi), .second, s10, s11] [(.int (p3 >>> ((2 : Int32) &&& 31))), (.ref b11), (.ref b11)])) _
    refine st12 _ ?_
    show Steps p.tables e below (T12.setTop (mkF m 95 #[.val (.long q0), .second, .val (.long q1), .second, .val (.int p2), .val (.int p3), .val (.long cn), .second, .val (.long wi), .second, s10, s11] [(.ref (own_lv (p3 >>> ((2 : Int32) &&& 31)) w_TRANSFORM w_CHECK w_WHOIS)), (.ref b11), (.ref b11)])) _
    refine XS.lload X12.here hx rfl (hb hby at_95) rfl ?_
    show Steps p.tables e below (T12.setTop (mkF m 97 #[.val (.long q0), .second, .val (.long q1), .second, .val (.int p2), .val (.int p3), .val (.long cn), .second, .val (.long wi), .second, s10, s11] [(.long cn), (.ref (own_lv (p3 >>> ((2 : Int32) &&& 31)) w_TRANSFORM w_CHECK w_WHOIS)), (.ref b11), (.ref b11)])) _
    refine XS.lload X12.here hx rfl (hb hby at_97) rfl ?_
    show Steps p.tables e below (T12.setTop (mkF m 99 #[.val (.long q0), .second, .val (.long q1), .second, .val (.int p2), .val (.int p3), .val (.long cn), .second, .val (.long wi), .second, s10, s11] [(.long wi), (.long cn), (.ref (own_lv (p3 >>> ((2 : Int32) &&& 31)) w_TRANSFORM w_CHECK w_WHOIS)), (.ref b11), (.ref b11)])) _
    refine XS.lloadN X12.here hx rfl (hb hby at_99) rfl ?_
    show Steps p.tables e below (T12.setTop (mkF m 100 #[.val (.long q0), .second, .val (.long q1), .second, .val (.int p2), .val (.int p3), .val (.long cn), .second, .val (.long wi), .second, s10, s11] [(.long q1), (.long wi), (.long cn), (.ref (own_lv (p3 >>> ((2 : Int32) &&& 31)) w_TRANSFORM w_CHECK w_WHOIS)), (.ref b11), (.ref b11)])) _
    refine st13.trans ?_
    show Steps p.tables e below (T13.setTop (mkF m 103 #[.val (.long q0), .second, .val (.long q1), .second, .val (.int p2), .val (.int p3), .val (.long cn), .second, .val (.long wi), .second, s10, s11] [(.ref b11)])) _
    refine XS.astore X13.here hx rfl (hb hby at_103) rfl rfl (l' := #[.val (.long q0), .second, .val (.long q1), .second, .val (.int p2), .val (.int p3), .val (.long cn), .second, .val (.long wi), .second, .val (.ref b11), .unset]) (by rcases hsl with ⟨rfl, rfl⟩ | ⟨f, rfl, rfl⟩ <;> rfl) ?_
    show Steps p.tables e below (T13.setTop (mkF m 105 #[.val (.long q0), .second, .val (.long q1), .second, .val (.int p2), .val (.int p3), .val (.long cn), .second, .val (.long wi), .second, .val (.ref b11), .unset] [])) _
    refine XS.lload X13.here hx rfl (hb hby at_105) rfl ?_
    show Steps p.tables e below (T13.setTop (mkF m 107 #[.val (.long q0), .second, .val (.long q1), .second, .val (.int p2), .val (.int p3), .val (.long cn), .second, .val (.long wi), .second, .val (.ref b11), .unset] [(.long cn)])) _
    refine X13.ldc2Long hx hown (mvT hZ (hw _ (List.mem_of_getElem? (i := 40) rfl))) (g := (mkF m 107 #[.val (.long q0), .second, .val (.long q1), .second, .val (.int p2), .val (.int p3), .val (.long cn), .second, .val (.long wi), .second, .val (.ref b11), .unset] [(.long cn)])) rfl (hb hby at_107) _ ?_
    show Steps p.tables e below (T13.setTop (mkF m 110 #[.val (.long q0), .second, .val (.long q1), .second, .val (.int p2), .val (.int p3), .val (.long cn), .second, .val (.long wi), .second, .val (.ref b11), .unset] [(.long (1000 : Int64)), (.long cn)])) _
    refine XS.lcmp X13.here hx rfl (hb hby at_110) rfl ?_
    exact kt
  by_cases hc111 : (lcmpW cn (1000 : Int64)) < (0 : Int32)
  ·
    obtain ⟨cq15, kq15, q15a, q15b, q15c⟩ := isOf hZ rfl E_b11
    obtain ⟨_, _, ⟨T15, L15, k15, n15⟩, -, X15, ⟨Lc15, hQ15, l15, y15, z15⟩, st15⟩ := X13.virtualBack hx (y := (⟨"com/example/nameward/nameward/cli/ServiceLevel$Result", "met", "()Z"⟩ : MethodName)) (z := (⟨"com/example/nameward/nameward/cli/ServiceLevel$Result", "met", "()Z"⟩ : MethodName)) hown (mvT hZ (hw _ (List.mem_of_getElem? (i := 41) rfl))) (mvT hZ (hw _ (List.mem_of_getElem? (i := 42) rfl))) (notFace_of_selects (args := #[]) (mvT hZ (hw _ (List.mem_of_getElem? (i := 44) rfl)))) (mvT hZ (hw _ (List.mem_of_getElem? (i := 44) rfl))) (mvT hZ (hw _ (List.mem_of_getElem? (i := 43) rfl))) (by decide) (backOf (W := 0) (rm6 l Z a0 hw [] b11 cn wi T13.heap n0 Zn F_count_b11 F_within_b11) hZ (hw _ (List.mem_of_getElem? (i := 45) rfl)) (hw _ (List.mem_of_getElem? (i := 12) rfl)) (by decide) (by decide)) q15a q15c (g := (mkF m 138 #[.val (.long q0), .second, .val (.long q1), .second, .val (.int p2), .val (.int p3), .val (.long cn), .second, .val (.long wi), .second, .val (.ref b11), .val (.int (0 : Int32))] [(.ref b11)])) rfl (by rw [hml]; rfl) (Steps.refl _) (argsL := []) (rest := []) (lenOf pd_7 rfl) rfl (by show 2 * 0 + _ ≤ _; exact Nat.le_of_eq rfl) (hb hby at_138) (fun _ _ => ⟨rfl, rfl, (by decide : 1 + 0 ≤ _), (by decide : 4 + 0 ≤ _)⟩)
    dsimp only [Pt.U, Pt.locs, Pt.cells, Pt.slots] at X15 l15 y15 z15 st15 hQ15
    subst l15 y15 z15
    obtain ⟨rfl, N15q, e15q⟩ := hQ15
    have N15 := Fr.app N13 N15q
    have e15 : T15.heap = T13.heap := e15q
    have hc143 : (own_met cn wi) = (0 : Int32) := ((own_fin cn wi hcn hwi).trans (by rw [if_pos hc111]))
    obtain ⟨fs, hr, hrun, hended, hW, hsame⟩ := X15.leave (v := some (.int (1 : Int32))) (fun h => by rw [Bd.returns] at h; cases h) hlk
    refine ⟨_, _, K14 _ ?_, hrun, hended, _, _, rfl, ?_, ⟨_, rfl⟩, hW, hsame.mono (by decide) (by decide)⟩
    ·
      show Steps p.tables e below (T13.setTop (mkF m 111 #[.val (.long q0), .second, .val (.long q1), .second, .val (.int p2), .val (.int p3), .val (.long cn), .second, .val (.long wi), .second, .val (.ref b11), .unset] [(.int (lcmpW cn (1000 : Int64)))])) _
      refine XS.ifYes X13.here hx rfl (pc0 := 111) (pc' := 133) rfl (hb hby at_111) rfl ((if0 _ _).trans (tlt hc111).1) (by decide) (by decide) ?_
      show Steps p.tables e below (T13.setTop (mkF m 133 #[.val (.long q0), .second, .val (.long q1), .second, .val (.int p2), .val (.int p3), .val (.long cn), .second, .val (.long wi), .second, .val (.ref b11), .unset] [])) _
      refine XS.iconst X13.here hx rfl (hb hby at_133) ?_
      show Steps p.tables e below (T13.setTop (mkF m 134 #[.val (.long q0), .second, .val (.long q1), .second, .val (.int p2), .val (.int p3), .val (.long cn), .second, .val (.long wi), .second, .val (.ref b11), .unset] [(.int (0 : Int32))])) _
      refine XS.istore X13.here hx rfl (hb hby at_134) rfl (l' := #[.val (.long q0), .second, .val (.long q1), .second, .val (.int p2), .val (.int p3), .val (.long cn), .second, .val (.long wi), .second, .val (.ref b11), .val (.int (0 : Int32))]) rfl ?_
      show Steps p.tables e below (T13.setTop (mkF m 136 #[.val (.long q0), .second, .val (.long q1), .second, .val (.int p2), .val (.int p3), .val (.long cn), .second, .val (.long wi), .second, .val (.ref b11), .val (.int (0 : Int32))] [])) _
      refine XS.aload X13.here hx rfl (hb hby at_136) rfl rfl ?_
      show Steps p.tables e below (T13.setTop (mkF m 138 #[.val (.long q0), .second, .val (.long q1), .second, .val (.int p2), .val (.int p3), .val (.long cn), .second, .val (.long wi), .second, .val (.ref b11), .val (.int (0 : Int32))] [(.ref b11)])) _
      refine st15.trans ?_
      show Steps p.tables e below (T15.setTop (mkF m 141 #[.val (.long q0), .second, .val (.long q1), .second, .val (.int p2), .val (.int p3), .val (.long cn), .second, .val (.long wi), .second, .val (.ref b11), .val (.int (0 : Int32))] [(.int (own_met cn wi))])) _
      refine XS.iload X15.here hx rfl (hb hby at_141) rfl ?_
      show Steps p.tables e below (T15.setTop (mkF m 143 #[.val (.long q0), .second, .val (.long q1), .second, .val (.int p2), .val (.int p3), .val (.long cn), .second, .val (.long wi), .second, .val (.ref b11), .val (.int (0 : Int32))] [(.int (0 : Int32)), (.int (own_met cn wi))])) _
      refine XS.icmpNo X15.here hx rfl (hb hby at_143) rfl (teq hc143).2 ?_
      show Steps p.tables e below (T15.setTop (mkF m 146 #[.val (.long q0), .second, .val (.long q1), .second, .val (.int p2), .val (.int p3), .val (.long cn), .second, .val (.long wi), .second, .val (.ref b11), .val (.int (0 : Int32))] [])) _
      refine XS.iconst X15.here hx rfl (hb hby at_146) ?_
      show Steps p.tables e below (T15.setTop (mkF m 147 #[.val (.long q0), .second, .val (.long q1), .second, .val (.int p2), .val (.int p3), .val (.long cn), .second, .val (.long wi), .second, .val (.ref b11), .val (.int (0 : Int32))] [(.int (1 : Int32))])) _
      refine XS.goto X15.here hx rfl (pc0 := 147) (pc' := 151) rfl (hb hby at_147) (by decide) (by decide) ?_
      show Steps p.tables e below (T15.setTop (mkF m 151 #[.val (.long q0), .second, .val (.long q1), .second, .val (.int p2), .val (.int p3), .val (.long cn), .second, .val (.long wi), .second, .val (.ref b11), .val (.int (0 : Int32))] [(.int (1 : Int32))])) _
      exact retN X15 hx (t := .boolean) Bd.returns (by simp) (hb hby at_151) hr
    ·
      show Q_rm0 Z q0 q1 p2 p3 w_TRANSFORM w_CHECK w_WHOIS h0 n0 _ T15.heap _
      rw [e15]
      exact ⟨rfl, N15⟩
  ·
    have K16 : ∀ t, Steps p.tables e below (T13.setTop (mkF m 126 #[.val (.long q0), .second, .val (.long q1), .second, .val (.int p2), .val (.int p3), .val (.long cn), .second, .val (.long wi), .second, .val (.ref b11), .unset] [(.int (lcmpW (cn - wi) (cn / (20 : Int64))))])) t → Steps p.tables e below (s₁.setTop (entryFrame m #[(.long q0), (.long q1), (.int p2), (.int p3)] maxLocals)) t := by
      intro t kt
      refine K14 t ?_
      show Steps p.tables e below (T13.setTop (mkF m 111 #[.val (.long q0), .second, .val (.long q1), .second, .val (.int p2), .val (.int p3), .val (.long cn), .second, .val (.long wi), .second, .val (.ref b11), .unset] [(.int (lcmpW cn (1000 : Int64)))])) _
      refine XS.ifNo X13.here hx rfl (hb hby at_111) rfl ((if0 _ _).trans (flt hc111).1) ?_
      show Steps p.tables e below (T13.setTop (mkF m 114 #[.val (.long q0), .second, .val (.long q1), .second, .val (.int p2), .val (.int p3), .val (.long cn), .second, .val (.long wi), .second, .val (.ref b11), .unset] [])) _
      refine XS.lload X13.here hx rfl (hb hby at_114) rfl ?_
      show Steps p.tables e below (T13.setTop (mkF m 116 #[.val (.long q0), .second, .val (.long q1), .second, .val (.int p2), .val (.int p3), .val (.long cn), .second, .val (.long wi), .second, .val (.ref b11), .unset] [(.long cn)])) _
      refine XS.lload X13.here hx rfl (hb hby at_116) rfl ?_
      show Steps p.tables e below (T13.setTop (mkF m 118 #[.val (.long q0), .second, .val (.long q1), .second, .val (.int p2), .val (.int p3), .val (.long cn), .second, .val (.long wi), .second, .val (.ref b11), .unset] [(.long wi), (.long cn)])) _
      refine XS.lsub X13.here hx rfl (hb hby at_118) rfl ?_
      show Steps p.tables e below (T13.setTop (mkF m 119 #[.val (.long q0), .second, .val (.long q1), .second, .val (.int p2), .val (.int p3), .val (.long cn), .second, .val (.long wi), .second, .val (.ref b11), .unset] [(.long (cn - wi))])) _
      refine XS.lload X13.here hx rfl (hb hby at_119) rfl ?_
      show Steps p.tables e below (T13.setTop (mkF m 121 #[.val (.long q0), .second, .val (.long q1), .second, .val (.int p2), .val (.int p3), .val (.long cn), .second, .val (.long wi), .second, .val (.ref b11), .unset] [(.long cn), (.long (cn - wi))])) _
      refine X13.ldc2Long hx hown (mvT hZ (hw _ (List.mem_of_getElem? (i := 2) rfl))) (g := (mkF m 121 #[.val (.long q0), .second, .val (.long q1), .second, .val (.int p2), .val (.int p3), .val (.long cn), .second, .val (.long wi), .second, .val (.ref b11), .unset] [(.long cn), (.long (cn - wi))])) rfl (hb hby at_121) _ ?_
      show Steps p.tables e below (T13.setTop (mkF m 124 #[.val (.long q0), .second, .val (.long q1), .second, .val (.int p2), .val (.int p3), .val (.long cn), .second, .val (.long wi), .second, .val (.ref b11), .unset] [(.long (20 : Int64)), (.long cn), (.long (cn - wi))])) _
      refine XS.ldiv X13.here hx rfl (hb hby at_124) rfl (by decide) ?_
      show Steps p.tables e below (T13.setTop (mkF m 125 #[.val (.long q0), .second, .val (.long q1), .second, .val (.int p2), .val (.int p3), .val (.long cn), .second, .val (.long wi), .second, .val (.ref b11), .unset] [(.long (cn / (20 : Int64))), (.long (cn - wi))])) _
      refine XS.lcmp X13.here hx rfl (hb hby at_125) rfl ?_
      exact kt
    by_cases hc126 : (0 : Int32) < (lcmpW (cn - wi) (cn / (20 : Int64)))
    ·
      obtain ⟨cq17, kq17, q17a, q17b, q17c⟩ := isOf hZ rfl E_b11
      obtain ⟨_, _, ⟨T17, L17, k17, n17⟩, -, X17, ⟨Lc17, hQ17, l17, y17, z17⟩, st17⟩ := X13.virtualBack hx (y := (⟨"com/example/nameward/nameward/cli/ServiceLevel$Result", "met", "()Z"⟩ : MethodName)) (z := (⟨"com/example/nameward/nameward/cli/ServiceLevel$Result", "met", "()Z"⟩ : MethodName)) hown (mvT hZ (hw _ (List.mem_of_getElem? (i := 41) rfl))) (mvT hZ (hw _ (List.mem_of_getElem? (i := 42) rfl))) (notFace_of_selects (args := #[]) (mvT hZ (hw _ (List.mem_of_getElem? (i := 44) rfl)))) (mvT hZ (hw _ (List.mem_of_getElem? (i := 44) rfl))) (mvT hZ (hw _ (List.mem_of_getElem? (i := 43) rfl))) (by decide) (backOf (W := 0) (rm6 l Z a0 hw [] b11 cn wi T13.heap n0 Zn F_count_b11 F_within_b11) hZ (hw _ (List.mem_of_getElem? (i := 45) rfl)) (hw _ (List.mem_of_getElem? (i := 12) rfl)) (by decide) (by decide)) q17a q17c (g := (mkF m 138 #[.val (.long q0), .second, .val (.long q1), .second, .val (.int p2), .val (.int p3), .val (.long cn), .second, .val (.long wi), .second, .val (.ref b11), .val (.int (0 : Int32))] [(.ref b11)])) rfl (by rw [hml]; rfl) (Steps.refl _) (argsL := []) (rest := []) (lenOf pd_7 rfl) rfl (by show 2 * 0 + _ ≤ _; exact Nat.le_of_eq rfl) (hb hby at_138) (fun _ _ => ⟨rfl, rfl, (by decide : 1 + 0 ≤ _), (by decide : 4 + 0 ≤ _)⟩)
      dsimp only [Pt.U, Pt.locs, Pt.cells, Pt.slots] at X17 l17 y17 z17 st17 hQ17
      subst l17 y17 z17
      obtain ⟨rfl, N17q, e17q⟩ := hQ17
      have N17 := Fr.app N13 N17q
      have e17 : T17.heap = T13.heap := e17q
      have hc143 : (own_met cn wi) = (0 : Int32) := ((own_fin cn wi hcn hwi).trans (by rw [if_neg hc111, if_pos hc126]))
      obtain ⟨fs, hr, hrun, hended, hW, hsame⟩ := X17.leave (v := some (.int (1 : Int32))) (fun h => by rw [Bd.returns] at h; cases h) hlk
      refine ⟨_, _, K16 _ ?_, hrun, hended, _, _, rfl, ?_, ⟨_, rfl⟩, hW, hsame.mono (by decide) (by decide)⟩
      ·
        show Steps p.tables e below (T13.setTop (mkF m 126 #[.val (.long q0), .second, .val (.long q1), .second, .val (.int p2), .val (.int p3), .val (.long cn), .second, .val (.long wi), .second, .val (.ref b11), .unset] [(.int (lcmpW (cn - wi) (cn / (20 : Int64))))])) _
        refine XS.ifYes X13.here hx rfl (pc0 := 126) (pc' := 133) rfl (hb hby at_126) rfl ((if0 _ _).trans (tlt hc126).2.2.1) (by decide) (by decide) ?_
        show Steps p.tables e below (T13.setTop (mkF m 133 #[.val (.long q0), .second, .val (.long q1), .second, .val (.int p2), .val (.int p3), .val (.long cn), .second, .val (.long wi), .second, .val (.ref b11), .unset] [])) _
        refine XS.iconst X13.here hx rfl (hb hby at_133) ?_
        show Steps p.tables e below (T13.setTop (mkF m 134 #[.val (.long q0), .second, .val (.long q1), .second, .val (.int p2), .val (.int p3), .val (.long cn), .second, .val (.long wi), .second, .val (.ref b11), .unset] [(.int (0 : Int32))])) _
        refine XS.istore X13.here hx rfl (hb hby at_134) rfl (l' := #[.val (.long q0), .second, .val (.long q1), .second, .val (.int p2), .val (.int p3), .val (.long cn), .second, .val (.long wi), .second, .val (.ref b11), .val (.int (0 : Int32))]) rfl ?_
        show Steps p.tables e below (T13.setTop (mkF m 136 #[.val (.long q0), .second, .val (.long q1), .second, .val (.int p2), .val (.int p3), .val (.long cn), .second, .val (.long wi), .second, .val (.ref b11), .val (.int (0 : Int32))] [])) _
        refine XS.aload X13.here hx rfl (hb hby at_136) rfl rfl ?_
        show Steps p.tables e below (T13.setTop (mkF m 138 #[.val (.long q0), .second, .val (.long q1), .second, .val (.int p2), .val (.int p3), .val (.long cn), .second, .val (.long wi), .second, .val (.ref b11), .val (.int (0 : Int32))] [(.ref b11)])) _
        refine st17.trans ?_
        show Steps p.tables e below (T17.setTop (mkF m 141 #[.val (.long q0), .second, .val (.long q1), .second, .val (.int p2), .val (.int p3), .val (.long cn), .second, .val (.long wi), .second, .val (.ref b11), .val (.int (0 : Int32))] [(.int (own_met cn wi))])) _
        refine XS.iload X17.here hx rfl (hb hby at_141) rfl ?_
        show Steps p.tables e below (T17.setTop (mkF m 143 #[.val (.long q0), .second, .val (.long q1), .second, .val (.int p2), .val (.int p3), .val (.long cn), .second, .val (.long wi), .second, .val (.ref b11), .val (.int (0 : Int32))] [(.int (0 : Int32)), (.int (own_met cn wi))])) _
        refine XS.icmpNo X17.here hx rfl (hb hby at_143) rfl (teq hc143).2 ?_
        show Steps p.tables e below (T17.setTop (mkF m 146 #[.val (.long q0), .second, .val (.long q1), .second, .val (.int p2), .val (.int p3), .val (.long cn), .second, .val (.long wi), .second, .val (.ref b11), .val (.int (0 : Int32))] [])) _
        refine XS.iconst X17.here hx rfl (hb hby at_146) ?_
        show Steps p.tables e below (T17.setTop (mkF m 147 #[.val (.long q0), .second, .val (.long q1), .second, .val (.int p2), .val (.int p3), .val (.long cn), .second, .val (.long wi), .second, .val (.ref b11), .val (.int (0 : Int32))] [(.int (1 : Int32))])) _
        refine XS.goto X17.here hx rfl (pc0 := 147) (pc' := 151) rfl (hb hby at_147) (by decide) (by decide) ?_
        show Steps p.tables e below (T17.setTop (mkF m 151 #[.val (.long q0), .second, .val (.long q1), .second, .val (.int p2), .val (.int p3), .val (.long cn), .second, .val (.long wi), .second, .val (.ref b11), .val (.int (0 : Int32))] [(.int (1 : Int32))])) _
        exact retN X17 hx (t := .boolean) Bd.returns (by simp) (hb hby at_151) hr
      ·
        show Q_rm0 Z q0 q1 p2 p3 w_TRANSFORM w_CHECK w_WHOIS h0 n0 _ T17.heap _
        rw [e17]
        exact ⟨rfl, N17⟩
    ·
      obtain ⟨cq18, kq18, q18a, q18b, q18c⟩ := isOf hZ rfl E_b11
      obtain ⟨_, _, ⟨T18, L18, k18, n18⟩, -, X18, ⟨Lc18, hQ18, l18, y18, z18⟩, st18⟩ := X13.virtualBack hx (y := (⟨"com/example/nameward/nameward/cli/ServiceLevel$Result", "met", "()Z"⟩ : MethodName)) (z := (⟨"com/example/nameward/nameward/cli/ServiceLevel$Result", "met", "()Z"⟩ : MethodName)) hown (mvT hZ (hw _ (List.mem_of_getElem? (i := 41) rfl))) (mvT hZ (hw _ (List.mem_of_getElem? (i := 42) rfl))) (notFace_of_selects (args := #[]) (mvT hZ (hw _ (List.mem_of_getElem? (i := 44) rfl)))) (mvT hZ (hw _ (List.mem_of_getElem? (i := 44) rfl))) (mvT hZ (hw _ (List.mem_of_getElem? (i := 43) rfl))) (by decide) (backOf (W := 0) (rm6 l Z a0 hw [] b11 cn wi T13.heap n0 Zn F_count_b11 F_within_b11) hZ (hw _ (List.mem_of_getElem? (i := 45) rfl)) (hw _ (List.mem_of_getElem? (i := 12) rfl)) (by decide) (by decide)) q18a q18c (g := (mkF m 138 #[.val (.long q0), .second, .val (.long q1), .second, .val (.int p2), .val (.int p3), .val (.long cn), .second, .val (.long wi), .second, .val (.ref b11), .val (.int (1 : Int32))] [(.ref b11)])) rfl (by rw [hml]; rfl) (Steps.refl _) (argsL := []) (rest := []) (lenOf pd_7 rfl) rfl (by show 2 * 0 + _ ≤ _; exact Nat.le_of_eq rfl) (hb hby at_138) (fun _ _ => ⟨rfl, rfl, (by decide : 1 + 0 ≤ _), (by decide : 4 + 0 ≤ _)⟩)
      dsimp only [Pt.U, Pt.locs, Pt.cells, Pt.slots] at X18 l18 y18 z18 st18 hQ18
      subst l18 y18 z18
      obtain ⟨rfl, N18q, e18q⟩ := hQ18
      have N18 := Fr.app N13 N18q
      have e18 : T18.heap = T13.heap := e18q
      have hc143 : (own_met cn wi) = (1 : Int32) := ((own_fin cn wi hcn hwi).trans (by rw [if_neg hc111, if_neg hc126]))
      obtain ⟨fs, hr, hrun, hended, hW, hsame⟩ := X18.leave (v := some (.int (1 : Int32))) (fun h => by rw [Bd.returns] at h; cases h) hlk
      refine ⟨_, _, K16 _ ?_, hrun, hended, _, _, rfl, ?_, ⟨_, rfl⟩, hW, hsame.mono (by decide) (by decide)⟩
      ·
        show Steps p.tables e below (T13.setTop (mkF m 126 #[.val (.long q0), .second, .val (.long q1), .second, .val (.int p2), .val (.int p3), .val (.long cn), .second, .val (.long wi), .second, .val (.ref b11), .unset] [(.int (lcmpW (cn - wi) (cn / (20 : Int64))))])) _
        refine XS.ifNo X13.here hx rfl (hb hby at_126) rfl ((if0 _ _).trans (flt hc126).2.2.1) ?_
        show Steps p.tables e below (T13.setTop (mkF m 129 #[.val (.long q0), .second, .val (.long q1), .second, .val (.int p2), .val (.int p3), .val (.long cn), .second, .val (.long wi), .second, .val (.ref b11), .unset] [])) _
        refine XS.iconst X13.here hx rfl (hb hby at_129) ?_
        show Steps p.tables e below (T13.setTop (mkF m 130 #[.val (.long q0), .second, .val (.long q1), .second, .val (.int p2), .val (.int p3), .val (.long cn), .second, .val (.long wi), .second, .val (.ref b11), .unset] [(.int (1 : Int32))])) _
        refine XS.goto X13.here hx rfl (pc0 := 130) (pc' := 134) rfl (hb hby at_130) (by decide) (by decide) ?_
        show Steps p.tables e below (T13.setTop (mkF m 134 #[.val (.long q0), .second, .val (.long q1), .second, .val (.int p2), .val (.int p3), .val (.long cn), .second, .val (.long wi), .second, .val (.ref b11), .unset] [(.int (1 : Int32))])) _
        refine XS.istore X13.here hx rfl (hb hby at_134) rfl (l' := #[.val (.long q0), .second, .val (.long q1), .second, .val (.int p2), .val (.int p3), .val (.long cn), .second, .val (.long wi), .second, .val (.ref b11), .val (.int (1 : Int32))]) rfl ?_
        show Steps p.tables e below (T13.setTop (mkF m 136 #[.val (.long q0), .second, .val (.long q1), .second, .val (.int p2), .val (.int p3), .val (.long cn), .second, .val (.long wi), .second, .val (.ref b11), .val (.int (1 : Int32))] [])) _
        refine XS.aload X13.here hx rfl (hb hby at_136) rfl rfl ?_
        show Steps p.tables e below (T13.setTop (mkF m 138 #[.val (.long q0), .second, .val (.long q1), .second, .val (.int p2), .val (.int p3), .val (.long cn), .second, .val (.long wi), .second, .val (.ref b11), .val (.int (1 : Int32))] [(.ref b11)])) _
        refine st18.trans ?_
        show Steps p.tables e below (T18.setTop (mkF m 141 #[.val (.long q0), .second, .val (.long q1), .second, .val (.int p2), .val (.int p3), .val (.long cn), .second, .val (.long wi), .second, .val (.ref b11), .val (.int (1 : Int32))] [(.int (own_met cn wi))])) _
        refine XS.iload X18.here hx rfl (hb hby at_141) rfl ?_
        show Steps p.tables e below (T18.setTop (mkF m 143 #[.val (.long q0), .second, .val (.long q1), .second, .val (.int p2), .val (.int p3), .val (.long cn), .second, .val (.long wi), .second, .val (.ref b11), .val (.int (1 : Int32))] [(.int (1 : Int32)), (.int (own_met cn wi))])) _
        refine XS.icmpNo X18.here hx rfl (hb hby at_143) rfl (teq hc143).2 ?_
        show Steps p.tables e below (T18.setTop (mkF m 146 #[.val (.long q0), .second, .val (.long q1), .second, .val (.int p2), .val (.int p3), .val (.long cn), .second, .val (.long wi), .second, .val (.ref b11), .val (.int (1 : Int32))] [])) _
        refine XS.iconst X18.here hx rfl (hb hby at_146) ?_
        show Steps p.tables e below (T18.setTop (mkF m 147 #[.val (.long q0), .second, .val (.long q1), .second, .val (.int p2), .val (.int p3), .val (.long cn), .second, .val (.long wi), .second, .val (.ref b11), .val (.int (1 : Int32))] [(.int (1 : Int32))])) _
        refine XS.goto X18.here hx rfl (pc0 := 147) (pc' := 151) rfl (hb hby at_147) (by decide) (by decide) ?_
        show Steps p.tables e below (T18.setTop (mkF m 151 #[.val (.long q0), .second, .val (.long q1), .second, .val (.int p2), .val (.int p3), .val (.long cn), .second, .val (.long wi), .second, .val (.ref b11), .val (.int (1 : Int32))] [(.int (1 : Int32))])) _
        exact retN X18 hx (t := .boolean) Bd.returns (by simp) (hb hby at_151) hr
      ·
        show Q_rm0 Z q0 q1 p2 p3 w_TRANSFORM w_CHECK w_WHOIS h0 n0 _ T18.heap _
        rw [e18]
        exact ⟨rfl, N18⟩
set_option maxRecDepth 65536 in
set_option maxHeartbeats 40000000 in
theorem comes_1 {Post : Tables → Env → Array Value → State → Outcome → State → Prop} (hpost : ∀ tb e args s v u, (limb_1_1.after args s (.returned v) u = true ∧ limb_1_2.after args s (.returned v) u = true ∧ True) → FrameEnd s (.returned v) u (Jvm.fieldLocs frame_1_writes args s ++ Jvm.arrayLocs frame_1_arrays args s ++ Jvm.staticLocs frame_1_statics s) 16 128 → Post tb e args s (.returned v) u) :
    ArmFor flags0 classFile x code maxLocals ret World_1 tables_1 room_1 Calls_1 rest_1 Pre_1 Post := by
  intro l hfl _ _ p e ha hc hk s m args below hf hA hF happ hP
  obtain ⟨hcalls, hrest, hpre⟩ := hP
  obtain ⟨-, -, -, hnamed, -, -, -, hat⟩ := (Spec.applies_iff hf).mp happ
  obtain ⟨hg, hn⟩ := and_e (Cond.before_iff.mp (show (Jvm.Cond.and given_1 narrow_1).before args s = true from hpre))
  obtain ⟨hg0, hg⟩ := and_e hg
  obtain ⟨ga0, hg⟩ := and_e hg
  obtain ⟨ga1, hg⟩ := and_e hg
  obtain ⟨ga2, hg⟩ := and_e hg
  have ga3 := hg
  obtain ⟨w0, w1, w2, w3, rfl⟩ : ∃ w0 w1 w2 w3 : Value, args = #[w0, w1, w2, w3] := by
    have hs : args.size = 4 := by simpa [Cond.value, given_1] using hg0
    obtain ⟨L⟩ := args
    match L, hs with
    | [w0, w1, w2, w3], _ => exact ⟨w0, w1, w2, w3, rfl⟩
  have hw := fun d (hd : d ∈ tables_1) => atoms_spec (ws := Jvm.Cond.code x code maxLocals ret :: tables_1) hat d (List.mem_cons_of_mem _ hd)
  have hfit : Fit s := fun {y c} hc i hi => by
    obtain ⟨ha, rfl⟩ := Array.getElem?_eq_some_iff.mp hc
    have q := List.all_eq_true.mp ((Array.all_eq_true_iff_forall_mem.mp hF) _ (Array.getElem_mem ha)) i (List.mem_range.mpr hi)
    simpa [Array.getElem?_eq_getElem hi] using q
  obtain ⟨i0, ei0⟩ := isL_v ga0
  obtain rfl : w0 = (.long i0) := Option.some.inj ei0
  obtain ⟨i1, ei1⟩ := isL_v ga1
  obtain rfl : w1 = (.long i1) := Option.some.inj ei1
  obtain ⟨i2, ei2⟩ := is_v ga2
  obtain rfl : w2 = (.int i2) := Option.some.inj ei2
  obtain ⟨i3, ei3⟩ := is_v ga3
  obtain rfl : w3 = (.int i3) := Option.some.inj ei3
  obtain ⟨cn0, hn⟩ := and_e hn
  obtain ⟨cn1, hn⟩ := and_e hn
  have cn2 := hn
  obtain ⟨w_TRANSFORM, ev_TRANSFORM⟩ := exa_v cn0
  have S_TRANSFORM : Sta s s.heap "com/example/nameward/nameward/cli/ServiceLevel" "TRANSFORM" "Lcom/example/nameward/nameward/cli/ServiceLevel;" (.ref w_TRANSFORM) := Sta.start ev_TRANSFORM (Or.inr ⟨(hw _ (List.mem_of_getElem? (i := 19) rfl)), (hw _ (List.mem_of_getElem? (i := 20) rfl))⟩)
  have E_w_TRANSFORM : Exa s s.heap w_TRANSFORM "com/example/nameward/nameward/cli/ServiceLevel" := Exa.start ev_TRANSFORM cn0
  obtain ⟨w_CHECK, ev_CHECK⟩ := exa_v cn1
  have S_CHECK : Sta s s.heap "com/example/nameward/nameward/cli/ServiceLevel" "CHECK" "Lcom/example/nameward/nameward/cli/ServiceLevel;" (.ref w_CHECK) := Sta.start ev_CHECK (Or.inr ⟨(hw _ (List.mem_of_getElem? (i := 19) rfl)), (hw _ (List.mem_of_getElem? (i := 49) rfl))⟩)
  have E_w_CHECK : Exa s s.heap w_CHECK "com/example/nameward/nameward/cli/ServiceLevel" := Exa.start ev_CHECK cn1
  obtain ⟨w_WHOIS, ev_WHOIS⟩ := exa_v cn2
  have S_WHOIS : Sta s s.heap "com/example/nameward/nameward/cli/ServiceLevel" "WHOIS" "Lcom/example/nameward/nameward/cli/ServiceLevel;" (.ref w_WHOIS) := Sta.start ev_WHOIS (Or.inr ⟨(hw _ (List.mem_of_getElem? (i := 19) rfl)), (hw _ (List.mem_of_getElem? (i := 54) rfl))⟩)
  have E_w_WHOIS : Exa s s.heap w_WHOIS "com/example/nameward/nameward/cli/ServiceLevel" := Exa.start ev_WHOIS cn2
  obtain ⟨n, o, h1, h2, h3, _, L, rfl, ⟨rfl, N⟩, hq⟩ := rm0 l s _ hw tables_1 i0 i1 i2 i3 w_TRANSFORM w_CHECK w_WHOIS s.heap s.heap.size (Nat.le_refl _) S_TRANSFORM S_CHECK S_WHOIS (Old.start s) p e ha hc hk s m _ below hf ((Spec.applies_iff_loose hf).mp happ).1 ⟨rfl, State.Warmed39.refl s, rfl⟩ trivial
  refine ⟨n, _, h1, h2, h3, hpost _ _ _ _ _ _ ⟨Cond.after_iff.mpr rfl, Cond.after_iff.mpr (eq_i res_at (Term.int_eval (1)) rfl), trivial⟩ ⟨hq.1, hq.2.1, (hq.2.2.sift fun y hy => Or.inr (N y hy)).mono (by decide) (by decide)⟩⟩
theorem main_1_1 : Claimed_1_1 := comes_1 fun _ _ _ _ _ _ h hF => ⟨h.1, hF⟩
theorem main_1_2 : Claimed_1_2 := comes_1 fun _ _ _ _ _ _ h hF => ⟨h.2.1, hF⟩
end Jvm.Pilot.@@N@@
namespace Jvm.Pilot.@@N@@
open Jvm Jvm.ClassFile Sem Op Lib Jvm.Free Jvm.Stand Jvm.Pilot.@@N@@.Jvm.D
/-! MADE BY PROGRAM (witnessworld.py) out of the Statement's table words and the real class files: 15 classes; the members and pool entries that the words name. The judged class is class 1, her method 2. -/
namespace start1
open Jvm.ClassFile
def u (s : String) : CpInfo := .utf8 (stringToUtf16 s)
/-- a pool by its gaps: so many unusable entries, then the entry; so many at the end -/
def gap : Nat → List CpInfo → List CpInfo
  | 0, r => r
  | n + 1, r => .unusable :: gap n r
def poolList (es : List (Nat × CpInfo)) (last : Nat) : List CpInfo := es.foldr (fun e r => gap e.1 (e.2 :: r)) (gap last [])
def pool (es : List (Nat × CpInfo)) (last : Nat) : Array CpInfo := ⟨poolList es last⟩
def fileOf (pool : Array CpInfo) (this : Nat) (attrs : Array Attribute := #[]) (ms : Array MethodInfo := #[]) (fl : Nat := 33) (sup : Nat := 0) (ifs : Array Nat := #[]) (fds : Array FieldInfo := #[]) : ClassFile where
  minorVersion := 0
  majorVersion := 65
  constantPool := pool
  accessFlags := fl
  thisClass := this
  superClass := sup
  interfaces := ifs
  fields := fds
  methods := ms
  attributes := attrs
def plain (name : String) (sup : Option ClassId) : Class where
  name := name
  kind := .ordinary
  loader := none
  accessFlags := 33
  super := sup
  interfaces := #[]
  cf := none
  fields := #[]
  methods := #[]
  instanceTypes := #[]
  staticTypes := #[]
  resolved := #[]
  callSites := []
  init := .initialized
  statics := none
  mirror := none

def pool0 : Array CpInfo := pool [(5, u "<init>"), (0, u "()V"), (1, .class_ 10), (1, u "java/lang/Object")] 113

def k0c0 : Code := { maxStack := 0, maxLocals := 1, code := object_method_1_code, exceptionTable := #[], attributes := #[] }
def k0m0 : Method := { name := "<init>", desc := "()V", sig := { parameters := [], returnType := none }, accessFlags := 1, code := some k0c0 }
/-- java/lang/Object -/
def k0 : Class := { plain "java/lang/Object" none with
  accessFlags := 33
  interfaces := #[]
  cf := some (fileOf pool0 8 #[] #[{ accessFlags := 1, nameIndex := 5, descriptorIndex := 6, attributes := #[] }] 33 0 #[] #[])
  fields := #[]
  methods := #[k0m0]
  instanceTypes := #[]
  staticTypes := #[]
  resolved := Array.replicate 124 none
  statics := none }

def pool1 : Array CpInfo := pool [(2, .class_ 4), (1, u "java/lang/Object"), (0, u "<init>"), (0, u "()V"), (0, .integer 2147483647), (0, .fieldref 9 10), (0, .class_ 11), (0, .nameAndType 12 13), (0, u "com/example/nameward/nameward/cli/ServiceLevel"), (0, u "TRANSFORM"), (0, u "Lcom/example/nameward/nameward/cli/ServiceLevel;"), (0, .fieldref 9 15), (0, .nameAndType 16 13), (0, u "CHECK"), (0, .fieldref 9 18), (0, .nameAndType 19 13), (0, u "WHOIS"), (0, .long 990), (1, .long 31), (1, .long 1099511627775), (1, .long 20), (1, .methodref 29 30), (0, .class_ 31), (0, .nameAndType 32 33), (0, u "java/lang/Math"), (0, u "min"), (0, u "(JJ)J"), (0, .methodref 29 35), (0, .nameAndType 36 33), (0, u "max"), (2, .long 9223372036854775807), (1, .class_ 42), (0, u "com/example/nameward/nameward/cli/ServiceLevel$Result"), (0, .methodref 44 45), (0, .class_ 46), (0, .nameAndType 47 48), (0, u "com/example/nameward/nameward/cli/ResultMetPinLaw"), (0, u "level"), (0, u "(I)Lcom/example/nameward/nameward/cli/ServiceLevel;"), (0, .methodref 41 50), (0, .nameAndType 5 51), (0, u "(Lcom/example/nameward/nameward/cli/ServiceLevel;JJJ)V"), (0, .long 1000), (1, .methodref 41 55), (0, .nameAndType 56 57), (0, u "met"), (0, u "()Z"), (3, u "law"), (0, u "(JJII)Z")] 4

def k1m0 : Method := { name := "<init>", desc := "()V", sig := { parameters := [], returnType := none }, accessFlags := 2, code := none }
def k1c1 : Code := { maxStack := 2, maxLocals := 2, code := method_2_code, exceptionTable := #[], attributes := #[] }
def k1m1 : Method := { name := "level", desc := "(I)Lcom/example/nameward/nameward/cli/ServiceLevel;", sig := { parameters := [.int], returnType := some (.object "com/example/nameward/nameward/cli/ServiceLevel") }, accessFlags := 10, code := some k1c1 }
def k1c2 : Code := { maxStack := 9, maxLocals := 12, code := code, exceptionTable := #[], attributes := #[] }
def k1m2 : Method := { name := "law", desc := "(JJII)Z", sig := { parameters := [.long, .long, .int, .int], returnType := some .boolean }, accessFlags := 9, code := some k1c2 }
/-- com/example/nameward/nameward/cli/ResultMetPinLaw -/
def k1 : Class := { plain "com/example/nameward/nameward/cli/ResultMetPinLaw" (some 0) with
  accessFlags := 49
  interfaces := #[]
  cf := some (fileOf pool1 44 #[] #[{ accessFlags := 2, nameIndex := 5, descriptorIndex := 6, attributes := #[] }, { accessFlags := 10, nameIndex := 47, descriptorIndex := 48, attributes := #[] }, { accessFlags := 9, nameIndex := 61, descriptorIndex := 62, attributes := #[] }] 49 2 #[] #[])
  fields := #[]
  methods := #[k1m0, k1m1, k1m2]
  instanceTypes := #[]
  staticTypes := #[]
  resolved := Array.replicate 67 none
  statics := none }

def pool2 : Array CpInfo := pool [(1, .class_ 2), (0, u "java/lang/Math"), (1, .class_ 6), (1, u "java/lang/Object"), (0, u "<init>"), (0, u "()V"), (89, .class_ 100), (1, u "java/lang/Math$RandomNumberGeneratorHolder"), (20, u "(JJ)J"), (50, u "negativeZeroFloatBits"), (0, u "J"), (2, u "negativeZeroDoubleBits"), (21, u "max"), (2, u "min"), (43, u "$assertionsDisabled"), (0, u "Z"), (91, u "twoToTheDoubleScaleDown"), (0, u "D"), (4, u "twoToTheDoubleScaleUp"), (9, u "E"), (3, u "PI"), (2, u "TAU"), (2, u "DEGREES_TO_RADIANS"), (0, u "RADIANS_TO_DEGREES")] 94

def k2m0 : Method := { name := "<init>", desc := "()V", sig := { parameters := [], returnType := none }, accessFlags := 2, code := none }
def k2c1 : Code := { maxStack := 4, maxLocals := 4, code := jdk_29_method_66_code, exceptionTable := #[], attributes := #[] }
def k2m1 : Method := { name := "max", desc := "(JJ)J", sig := { parameters := [.long, .long], returnType := some .long }, accessFlags := 9, code := some k2c1 }
def k2c2 : Code := { maxStack := 4, maxLocals := 4, code := jdk_29_method_70_code, exceptionTable := #[], attributes := #[] }
def k2m2 : Method := { name := "min", desc := "(JJ)J", sig := { parameters := [.long, .long], returnType := some .long }, accessFlags := 9, code := some k2c2 }
/-- java/lang/Math -/
def k2 : Class := { plain "java/lang/Math" (some 0) with
  accessFlags := 49
  interfaces := #[]
  cf := some (fileOf pool2 1 #[.nestMembers #[98]] #[{ accessFlags := 2, nameIndex := 7, descriptorIndex := 8, attributes := #[] }, { accessFlags := 9, nameIndex := 198, descriptorIndex := 121, attributes := #[] }, { accessFlags := 9, nameIndex := 201, descriptorIndex := 121, attributes := #[] }] 49 4 #[] #[{ accessFlags := 25, nameIndex := 354, descriptorIndex := 339, attributes := #[] }, { accessFlags := 25, nameIndex := 358, descriptorIndex := 339, attributes := #[] }, { accessFlags := 25, nameIndex := 361, descriptorIndex := 339, attributes := #[] }, { accessFlags := 26, nameIndex := 364, descriptorIndex := 339, attributes := #[] }, { accessFlags := 26, nameIndex := 365, descriptorIndex := 339, attributes := #[] }, { accessFlags := 26, nameIndex := 172, descriptorIndex := 173, attributes := #[] }, { accessFlags := 26, nameIndex := 176, descriptorIndex := 173, attributes := #[] }, { accessFlags := 8, nameIndex := 344, descriptorIndex := 339, attributes := #[] }, { accessFlags := 8, nameIndex := 338, descriptorIndex := 339, attributes := #[] }, { accessFlags := 4120, nameIndex := 245, descriptorIndex := 246, attributes := #[] }])
  fields := #[{ name := "E", type := .double, accessFlags := 25, slot := 0, constantValue := 0 }, { name := "PI", type := .double, accessFlags := 25, slot := 1, constantValue := 0 }, { name := "TAU", type := .double, accessFlags := 25, slot := 2, constantValue := 0 }, { name := "DEGREES_TO_RADIANS", type := .double, accessFlags := 26, slot := 3, constantValue := 0 }, { name := "RADIANS_TO_DEGREES", type := .double, accessFlags := 26, slot := 4, constantValue := 0 }, { name := "negativeZeroFloatBits", type := .long, accessFlags := 26, slot := 5, constantValue := 0 }, { name := "negativeZeroDoubleBits", type := .long, accessFlags := 26, slot := 6, constantValue := 0 }, { name := "twoToTheDoubleScaleUp", type := .double, accessFlags := 8, slot := 7, constantValue := 0 }, { name := "twoToTheDoubleScaleDown", type := .double, accessFlags := 8, slot := 8, constantValue := 0 }, { name := "$assertionsDisabled", type := .boolean, accessFlags := 4120, slot := 9, constantValue := 0 }]
  methods := #[k2m0, k2m1, k2m2]
  instanceTypes := #[]
  staticTypes := #[.double, .double, .double, .double, .double, .long, .long, .double, .double, .boolean]
  resolved := Array.replicate 460 none
  statics := none }

def pool3 : Array CpInfo := pool [(1, .methodref 2 3), (0, .class_ 4), (0, .nameAndType 5 6), (0, u "java/lang/Object"), (0, u "<init>"), (0, u "()V"), (0, .class_ 8), (0, u "java/lang/Record")] 13

def k3c0 : Code := { maxStack := 1, maxLocals := 1, code := jdk_30_method_1_code, exceptionTable := #[], attributes := #[] }
def k3m0 : Method := { name := "<init>", desc := "()V", sig := { parameters := [], returnType := none }, accessFlags := 4, code := some k3c0 }
/-- java/lang/Record -/
def k3 : Class := { plain "java/lang/Record" (some 0) with
  accessFlags := 1057
  interfaces := #[]
  cf := some (fileOf pool3 7 #[] #[{ accessFlags := 4, nameIndex := 5, descriptorIndex := 6, attributes := #[] }] 1057 2 #[] #[])
  fields := #[]
  methods := #[k3m0]
  instanceTypes := #[]
  staticTypes := #[]
  resolved := Array.replicate 22 none
  statics := none }

def pool4 : Array CpInfo := pool [(1, .class_ 2), (0, u "com/example/nameward/nameward/cli/ServiceLevel"), (0, .methodref 4 5), (0, .class_ 6), (0, .nameAndType 7 8), (0, u "java/lang/Record"), (0, u "<init>"), (0, u "()V"), (0, .fieldref 10 11), (0, .class_ 12), (0, .nameAndType 13 14), (0, u "com/example/nameward/nameward/cli/ServiceLevel$Result"), (0, u "level"), (0, u "Lcom/example/nameward/nameward/cli/ServiceLevel;"), (0, .fieldref 10 16), (0, .nameAndType 17 18), (0, u "count"), (0, u "J"), (0, .fieldref 10 20), (0, .nameAndType 21 18), (0, u "within"), (0, .fieldref 10 23), (0, .nameAndType 24 18), (0, u "p95Millis"), (0, .long 1000), (1, .long 100), (1, .long 95), (41, u "(Lcom/example/nameward/nameward/cli/ServiceLevel;JJJ)V"), (3, u "met"), (0, u "()Z")] 32

def k4c0 : Code := { maxStack := 3, maxLocals := 8, code := prog_22_method_1_code, exceptionTable := #[], attributes := #[] }
def k4m0 : Method := { name := "<init>", desc := "(Lcom/example/nameward/nameward/cli/ServiceLevel;JJJ)V", sig := { parameters := [(.object "com/example/nameward/nameward/cli/ServiceLevel"), .long, .long, .long], returnType := none }, accessFlags := 0, code := some k4c0 }
def k4c1 : Code := { maxStack := 6, maxLocals := 1, code := prog_22_method_2_code, exceptionTable := #[], attributes := #[] }
def k4m1 : Method := { name := "met", desc := "()Z", sig := { parameters := [], returnType := some .boolean }, accessFlags := 0, code := some k4c1 }
/-- com/example/nameward/nameward/cli/ServiceLevel$Result -/
def k4 : Class := { plain "com/example/nameward/nameward/cli/ServiceLevel$Result" (some 3) with
  accessFlags := 48
  interfaces := #[]
  cf := some (fileOf pool4 10 #[.nestHost 1] #[{ accessFlags := 0, nameIndex := 7, descriptorIndex := 71, attributes := #[] }, { accessFlags := 0, nameIndex := 75, descriptorIndex := 76, attributes := #[] }] 48 4 #[] #[{ accessFlags := 18, nameIndex := 13, descriptorIndex := 14, attributes := #[] }, { accessFlags := 18, nameIndex := 17, descriptorIndex := 18, attributes := #[] }, { accessFlags := 18, nameIndex := 21, descriptorIndex := 18, attributes := #[] }, { accessFlags := 18, nameIndex := 24, descriptorIndex := 18, attributes := #[] }])
  fields := #[{ name := "level", type := (.object "com/example/nameward/nameward/cli/ServiceLevel"), accessFlags := 18, slot := 0, constantValue := 0 }, { name := "count", type := .long, accessFlags := 18, slot := 1, constantValue := 0 }, { name := "within", type := .long, accessFlags := 18, slot := 2, constantValue := 0 }, { name := "p95Millis", type := .long, accessFlags := 18, slot := 3, constantValue := 0 }]
  methods := #[k4m0, k4m1]
  instanceTypes := #[(.object "com/example/nameward/nameward/cli/ServiceLevel"), .long, .long, .long]
  staticTypes := #[]
  resolved := Array.replicate 109 none
  statics := none }

def pool5 : Array CpInfo := pool [(1, .class_ 2), (0, u "java/lang/constant/Constable"), (0, .class_ 4), (0, u "java/lang/Object")] 6

/-- java/lang/constant/Constable -/
def k5 : Class := { plain "java/lang/constant/Constable" (some 0) with
  accessFlags := 1537
  interfaces := #[]
  cf := some (fileOf pool5 1 #[] #[] 1537 3 #[] #[])
  fields := #[]
  methods := #[]
  instanceTypes := #[]
  staticTypes := #[]
  resolved := Array.replicate 11 none
  statics := none }

def pool6 : Array CpInfo := pool [(1, .class_ 2), (0, u "java/lang/Comparable"), (0, .class_ 4), (0, u "java/lang/Object")] 7

/-- java/lang/Comparable -/
def k6 : Class := { plain "java/lang/Comparable" (some 0) with
  accessFlags := 1537
  interfaces := #[]
  cf := some (fileOf pool6 1 #[] #[] 1537 3 #[] #[])
  fields := #[]
  methods := #[]
  instanceTypes := #[]
  staticTypes := #[]
  resolved := Array.replicate 12 none
  statics := none }

def pool7 : Array CpInfo := pool [(1, .class_ 2), (0, u "java/io/Serializable"), (0, .class_ 4), (0, u "java/lang/Object")] 2

/-- java/io/Serializable -/
def k7 : Class := { plain "java/io/Serializable" (some 0) with
  accessFlags := 1537
  interfaces := #[]
  cf := some (fileOf pool7 1 #[] #[] 1537 3 #[] #[])
  fields := #[]
  methods := #[]
  instanceTypes := #[]
  staticTypes := #[]
  resolved := Array.replicate 7 none
  statics := none }

def pool8 : Array CpInfo := pool [(2, .class_ 4), (1, u "java/lang/Enum"), (0, u "name"), (0, u "Ljava/lang/String;"), (2, u "ordinal"), (0, u "I"), (1, .class_ 14), (1, u "java/lang/Object"), (4, u "hash"), (86, .class_ 108), (1, u "java/lang/Enum$EnumDesc"), (2, .class_ 112), (0, u "java/lang/constant/Constable"), (0, .class_ 114), (0, u "java/lang/Comparable"), (0, .class_ 116), (0, u "java/io/Serializable")] 87

/-- java/lang/Enum -/
def k8 : Class := { plain "java/lang/Enum" (some 0) with
  accessFlags := 1057
  interfaces := #[5, 6, 7]
  cf := some (fileOf pool8 2 #[.nestMembers #[106]] #[] 1057 12 #[111, 113, 115] #[{ accessFlags := 18, nameIndex := 5, descriptorIndex := 6, attributes := #[] }, { accessFlags := 18, nameIndex := 9, descriptorIndex := 10, attributes := #[] }, { accessFlags := 2, nameIndex := 19, descriptorIndex := 10, attributes := #[] }])
  fields := #[{ name := "name", type := (.object "java/lang/String"), accessFlags := 18, slot := 0, constantValue := 0 }, { name := "ordinal", type := .int, accessFlags := 18, slot := 1, constantValue := 0 }, { name := "hash", type := .int, accessFlags := 2, slot := 2, constantValue := 0 }]
  methods := #[]
  instanceTypes := #[(.object "java/lang/String"), .int, .int]
  staticTypes := #[]
  resolved := Array.replicate 204 none
  statics := none }

def pool9 : Array CpInfo := pool [(1, .class_ 2), (0, u "com/example/nameward/nameward/cli/ServiceLevel"), (2, u "TRANSFORM"), (0, u "Lcom/example/nameward/nameward/cli/ServiceLevel;"), (2, u "CHECK"), (2, u "WHOIS"), (2, u "$VALUES"), (0, u "[Lcom/example/nameward/nameward/cli/ServiceLevel;"), (6, .class_ 25), (1, u "java/lang/Enum"), (8, u "label"), (0, u "Ljava/lang/String;"), (2, u "noun"), (2, u "limitMillis"), (0, u "J"), (24, u "SHARE_PERCENT"), (0, u "I"), (2, u "MIN_COMMANDS"), (14, .class_ 87), (0, u "com/example/nameward/nameward/cli/ServiceLevel$Result")] 2

/-- com/example/nameward/nameward/cli/ServiceLevel -/
def k9 : Class := { plain "com/example/nameward/nameward/cli/ServiceLevel" (some 8) with
  accessFlags := 16432
  interfaces := #[]
  cf := some (fileOf pool9 1 #[.nestMembers #[86]] #[] 16432 23 #[] #[{ accessFlags := 16409, nameIndex := 5, descriptorIndex := 6, attributes := #[] }, { accessFlags := 16409, nameIndex := 9, descriptorIndex := 6, attributes := #[] }, { accessFlags := 16409, nameIndex := 12, descriptorIndex := 6, attributes := #[] }, { accessFlags := 24, nameIndex := 67, descriptorIndex := 68, attributes := #[] }, { accessFlags := 24, nameIndex := 71, descriptorIndex := 68, attributes := #[] }, { accessFlags := 16, nameIndex := 34, descriptorIndex := 35, attributes := #[] }, { accessFlags := 18, nameIndex := 38, descriptorIndex := 35, attributes := #[] }, { accessFlags := 16, nameIndex := 41, descriptorIndex := 42, attributes := #[] }, { accessFlags := 4122, nameIndex := 15, descriptorIndex := 16, attributes := #[] }])
  fields := #[{ name := "TRANSFORM", type := (.object "com/example/nameward/nameward/cli/ServiceLevel"), accessFlags := 16409, slot := 0, constantValue := 0 }, { name := "CHECK", type := (.object "com/example/nameward/nameward/cli/ServiceLevel"), accessFlags := 16409, slot := 1, constantValue := 0 }, { name := "WHOIS", type := (.object "com/example/nameward/nameward/cli/ServiceLevel"), accessFlags := 16409, slot := 2, constantValue := 0 }, { name := "SHARE_PERCENT", type := .int, accessFlags := 24, slot := 3, constantValue := 0 }, { name := "MIN_COMMANDS", type := .int, accessFlags := 24, slot := 4, constantValue := 0 }, { name := "label", type := (.object "java/lang/String"), accessFlags := 16, slot := 3, constantValue := 0 }, { name := "noun", type := (.object "java/lang/String"), accessFlags := 18, slot := 4, constantValue := 0 }, { name := "limitMillis", type := .long, accessFlags := 16, slot := 5, constantValue := 0 }, { name := "$VALUES", type := (.array (.object "com/example/nameward/nameward/cli/ServiceLevel")), accessFlags := 4122, slot := 5, constantValue := 0 }]
  methods := #[]
  instanceTypes := #[(.object "java/lang/String"), .int, .int, (.object "java/lang/String"), (.object "java/lang/String"), .long]
  staticTypes := #[(.object "com/example/nameward/nameward/cli/ServiceLevel"), (.object "com/example/nameward/nameward/cli/ServiceLevel"), (.object "com/example/nameward/nameward/cli/ServiceLevel"), .int, .int, (.array (.object "com/example/nameward/nameward/cli/ServiceLevel"))]
  resolved := Array.replicate 90 none
  statics := some 0 }

def pool10 : Array CpInfo := pool [(1, u "java/lang/Cloneable"), (0, .class_ 1), (0, u "java/lang/Object"), (0, .class_ 3)] 3

/-- java/lang/Cloneable -/
def k10 : Class := { plain "java/lang/Cloneable" (some 0) with
  accessFlags := 1537
  interfaces := #[]
  cf := some (fileOf pool10 2 #[] #[] 1537 4 #[] #[])
  fields := #[]
  methods := #[]
  instanceTypes := #[]
  staticTypes := #[]
  resolved := Array.replicate 8 none
  statics := none }

/-- the primitive byte -/
def k11 : Class := { plain "byte" none with kind := .primitive 'B', accessFlags := 0x411 }
/-- [B -/
def k12 : Class := { plain "[B" (some 0) with kind := .array 11 .byte, interfaces := #[10, 7], accessFlags := 1041 }

/-- the primitive int -/
def k13 : Class := { plain "int" none with kind := .primitive 'I', accessFlags := 0x411 }
/-- [I -/
def k14 : Class := { plain "[I" (some 0) with kind := .array 13 .int, interfaces := #[10, 7], accessFlags := 1041 }

def heap : Heap := #[{ cls := 9, slots := #[.ref 1, .ref 2, .ref 3, .int 0, .int 0, .null], vm := .statics 9 },
  { cls := 9, slots := #[.null, .int 0, .int 0, .null, .null, .long 0], vm := .none },
  { cls := 9, slots := #[.null, .int 0, .int 0, .null, .null, .long 0], vm := .none },
  { cls := 9, slots := #[.null, .int 0, .int 0, .null, .null, .long 0], vm := .none }]
def classes : Array Class := #[k0, k1, k2, k3, k4, k5, k6, k7, k8, k9, k10, k11, k12, k13, k14]
def interned : List (Array UInt16 × Addr) := []
def slotsUsed : Nat := 24
def theMethod : MethodId := ⟨1, 2⟩
def args0 : Array Value := #[.long 5, .long 7, .int 1, .int 2]
def aboutOver (below : List Frame) : State where
  vm := { classes := classes, interned := interned.toArray }
  heap := heap
  slotsUsed := slotsUsed
  threads := #[{ frames := .invoking theMethod args0 :: below }]
def below0 : List Frame := [.native { method := ⟨0, 0⟩, args := #[] }]
def about1 : State := aboutOver below0
def p0 : Program := .bare "" "" ""
def e0 : Env := launch0.env 0 0 0
theorem w_frames : about1.frames = Frame.invoking theMethod args0 :: below0 := rfl
set_option maxRecDepth 65536 in
theorem w_args : argsFit about1.vm theMethod args0 = true := by decide +kernel
set_option maxRecDepth 65536 in
theorem w_heap : heapFits about1 = true := by decide +kernel
set_option maxRecDepth 65536 in
theorem w_runnable : about1.curStatus? = some .runnable := by decide +kernel
set_option maxRecDepth 65536 in
theorem w_alone : about1.alone = true := by decide +kernel
set_option maxRecDepth 65536 in
theorem w_named : about1.methodNamed? x = some theMethod := by decide +kernel
set_option maxRecDepth 65536 in
theorem w_hears : about1.hears theMethod below0 = true := by decide +kernel
set_option maxRecDepth 65536 in
theorem w_ripe : about1.ripe theMethod args0 below0 = true := by decide +kernel
theorem w_running : about1.status = .running := rfl
set_option maxRecDepth 65536 in
theorem w_room : about1.hasRoom e0.platform room_1 = true :=
  launch0.hasRoom_least _ room_1 (by decide +kernel) (by decide +kernel) (by decide +kernel) (by decide +kernel) (by decide +kernel) (by decide +kernel)
theorem allAtoms_all (ts : List Jvm.Cond) (a : Array Jvm.Value) (st : Jvm.State) : (allAtoms ts).before a st = ts.all (fun c => c.before a st) := by
  induction ts with
  | nil => rfl
  | cons c t ih =>
    show (Jvm.Cond.and c (allAtoms t)).before a st = _
    rw [Jvm.Cond.before_and, ih, List.all_cons]
def words1 : List Jvm.Cond := Jvm.Cond.code x code maxLocals ret :: tables_1
/-- a 'code' word, met by the world's own term for the bytes: nothing is compared byte by byte -/
theorem code_word {y : MethodName} {bytes : ByteArray} {mx : Nat} {rt : Option FieldType} {a : Array Value} {s : State} {m : MethodId} {meth : Method} {c : Code} (h1 : s.methodNamed? y = some m) (h2 : s.vm.method? m = some meth) (h3 : meth.code = some c) (h4 : c.code = bytes)
    (h5 : (c.maxLocals == mx && c.exceptionTable.isEmpty && decide (c.maxStack ≤ mostOperands) && decide (meth.sig.returnType = rt) && !meth.locks && decide (parseMethodDescriptor y.desc = some meth.sig)) = true) : (Jvm.Cond.code y bytes mx rt).before a s = true := by
  simp only [Bool.and_eq_true, beq_iff_eq, Bool.not_eq_true', decide_eq_true_eq] at h5
  obtain ⟨⟨⟨⟨⟨g1, g2⟩, g3⟩, g4⟩, g5⟩, g6⟩ := h5
  simp [Cond.before, Cond.holds, Cond.value, h1, h2, h3, h4, g1, g2, g3, g4, g5, g6]
def isCode : Jvm.Cond → Bool
  | .code _ _ _ _ => true
  | _ => false
theorem all_split {L : List Jvm.Cond} {P : Jvm.Cond → Bool} (h1 : L.all (fun c => isCode c || P c) = true) (h2 : ∀ c ∈ L.filter isCode, P c = true) : L.all P = true := by
  refine List.all_eq_true.mpr fun c hc => ?_
  have h := List.all_eq_true.mp h1 c hc
  rcases Bool.eq_false_or_eq_true (isCode c) with hi | hi
  · exact h2 c (List.mem_filter.mpr ⟨hc, hi⟩)
  · simpa [hi] using h
set_option maxRecDepth 65536 in
theorem w_c0 : (Jvm.Cond.code x code maxLocals ret).before args0 about1 = true := code_word (m := ⟨1, 2⟩) (meth := k1m2) (c := k1c2) (by decide +kernel) rfl rfl rfl (by decide +kernel)
set_option maxRecDepth 65536 in
theorem w_c1 : (Jvm.Cond.code ({ cls := "java/lang/Math", name := "min", desc := "(JJ)J" } : Jvm.MethodName) jdk_29_method_70_code (4 : Nat) (Option.some Jvm.ClassFile.FieldType.long)).before args0 about1 = true := code_word (m := ⟨2, 2⟩) (meth := k2m2) (c := k2c2) (by decide +kernel) rfl rfl rfl (by decide +kernel)
set_option maxRecDepth 65536 in
theorem w_c2 : (Jvm.Cond.code ({ cls := "java/lang/Math", name := "max", desc := "(JJ)J" } : Jvm.MethodName) jdk_29_method_66_code (4 : Nat) (Option.some Jvm.ClassFile.FieldType.long)).before args0 about1 = true := code_word (m := ⟨2, 1⟩) (meth := k2m1) (c := k2c1) (by decide +kernel) rfl rfl rfl (by decide +kernel)
set_option maxRecDepth 65536 in
theorem w_c3 : (Jvm.Cond.code ({ cls := "com/example/nameward/nameward/cli/ResultMetPinLaw", name := "level", desc := "(I)Lcom/example/nameward/nameward/cli/ServiceLevel;" } : Jvm.MethodName) method_2_code (2 : Nat) (Option.some (Jvm.ClassFile.FieldType.object "com/example/nameward/nameward/cli/ServiceLevel"))).before args0 about1 = true := code_word (m := ⟨1, 1⟩) (meth := k1m1) (c := k1c1) (by decide +kernel) rfl rfl rfl (by decide +kernel)
set_option maxRecDepth 65536 in
theorem w_c4 : (Jvm.Cond.code ({ cls := "com/example/nameward/nameward/cli/ServiceLevel$Result", name := "<init>", desc := "(Lcom/example/nameward/nameward/cli/ServiceLevel;JJJ)V" } : Jvm.MethodName) prog_22_method_1_code (8 : Nat) (Option.none : Option Jvm.ClassFile.FieldType)).before args0 about1 = true := code_word (m := ⟨4, 0⟩) (meth := k4m0) (c := k4c0) (by decide +kernel) rfl rfl rfl (by decide +kernel)
set_option maxRecDepth 65536 in
theorem w_c5 : (Jvm.Cond.code ({ cls := "java/lang/Record", name := "<init>", desc := "()V" } : Jvm.MethodName) jdk_30_method_1_code (1 : Nat) (Option.none : Option Jvm.ClassFile.FieldType)).before args0 about1 = true := code_word (m := ⟨3, 0⟩) (meth := k3m0) (c := k3c0) (by decide +kernel) rfl rfl rfl (by decide +kernel)
set_option maxRecDepth 65536 in
theorem w_c6 : (Jvm.Cond.code ({ cls := "java/lang/Object", name := "<init>", desc := "()V" } : Jvm.MethodName) object_method_1_code (1 : Nat) (Option.none : Option Jvm.ClassFile.FieldType)).before args0 about1 = true := code_word (m := ⟨0, 0⟩) (meth := k0m0) (c := k0c0) (by decide +kernel) rfl rfl rfl (by decide +kernel)
set_option maxRecDepth 65536 in
theorem w_c7 : (Jvm.Cond.code ({ cls := "com/example/nameward/nameward/cli/ServiceLevel$Result", name := "met", desc := "()Z" } : Jvm.MethodName) prog_22_method_2_code (1 : Nat) (Option.some Jvm.ClassFile.FieldType.boolean)).before args0 about1 = true := code_word (m := ⟨4, 1⟩) (meth := k4m1) (c := k4c1) (by decide +kernel) rfl rfl rfl (by decide +kernel)
def codes1 : List Jvm.Cond := [Jvm.Cond.code x code maxLocals ret, Jvm.Cond.code ({ cls := "java/lang/Math", name := "min", desc := "(JJ)J" } : Jvm.MethodName) jdk_29_method_70_code (4 : Nat) (Option.some Jvm.ClassFile.FieldType.long), Jvm.Cond.code ({ cls := "java/lang/Math", name := "max", desc := "(JJ)J" } : Jvm.MethodName) jdk_29_method_66_code (4 : Nat) (Option.some Jvm.ClassFile.FieldType.long), Jvm.Cond.code ({ cls := "com/example/nameward/nameward/cli/ResultMetPinLaw", name := "level", desc := "(I)Lcom/example/nameward/nameward/cli/ServiceLevel;" } : Jvm.MethodName) method_2_code (2 : Nat) (Option.some (Jvm.ClassFile.FieldType.object "com/example/nameward/nameward/cli/ServiceLevel")), Jvm.Cond.code ({ cls := "com/example/nameward/nameward/cli/ServiceLevel$Result", name := "<init>", desc := "(Lcom/example/nameward/nameward/cli/ServiceLevel;JJJ)V" } : Jvm.MethodName) prog_22_method_1_code (8 : Nat) (Option.none : Option Jvm.ClassFile.FieldType), Jvm.Cond.code ({ cls := "java/lang/Record", name := "<init>", desc := "()V" } : Jvm.MethodName) jdk_30_method_1_code (1 : Nat) (Option.none : Option Jvm.ClassFile.FieldType), Jvm.Cond.code ({ cls := "java/lang/Object", name := "<init>", desc := "()V" } : Jvm.MethodName) object_method_1_code (1 : Nat) (Option.none : Option Jvm.ClassFile.FieldType), Jvm.Cond.code ({ cls := "com/example/nameward/nameward/cli/ServiceLevel$Result", name := "met", desc := "()Z" } : Jvm.MethodName) prog_22_method_2_code (1 : Nat) (Option.some Jvm.ClassFile.FieldType.boolean)]
set_option maxRecDepth 65536 in
theorem codes_eq : words1.filter isCode = codes1 := rfl
theorem w_codes : ∀ c ∈ words1.filter isCode, c.before args0 about1 = true := by
  rw [codes_eq]
  intro c hc
  simp only [codes1, List.mem_cons, List.not_mem_nil, or_false] at hc
  rcases hc with rfl | rfl | rfl | rfl | rfl | rfl | rfl | rfl
  · exact w_c0
  · exact w_c1
  · exact w_c2
  · exact w_c3
  · exact w_c4
  · exact w_c5
  · exact w_c6
  · exact w_c7
set_option maxRecDepth 65536 in
theorem w_t1 : (words1.take 24).all (fun c => isCode c || c.before args0 about1) = true := by decide +kernel
set_option maxRecDepth 65536 in
theorem w_t2 : ((words1.drop 24).take 24).all (fun c => isCode c || c.before args0 about1) = true := by decide +kernel
set_option maxRecDepth 65536 in
theorem w_t3 : ((words1.drop 24).drop 24).all (fun c => isCode c || c.before args0 about1) = true := by decide +kernel
theorem w_tables : (allAtoms (Jvm.Cond.code x code maxLocals ret :: tables_1)).before args0 about1 = true := by
  rw [allAtoms_all]
  show words1.all (fun c => c.before args0 about1) = true
  refine all_split ?_ w_codes
  rw [← List.take_append_drop 24 words1, List.all_append, w_t1, ← List.take_append_drop 24 (words1.drop 24), List.all_append, w_t2, w_t3]
  rfl
set_option maxRecDepth 65536 in
theorem w_case : (Jvm.Cond.and given_1 narrow_1).before args0 about1 = true := by decide +kernel
theorem w_applies : (headSpec (Jvm.Cond.code x code maxLocals ret :: tables_1) room_1).applies x e0.platform about1 = true :=
  (Spec.applies_iff w_frames).mpr ⟨w_running, w_runnable, w_alone, w_named, w_hears, w_ripe, w_room, w_tables⟩
theorem atStart : AtStart classFile x code maxLocals ret World_1 tables_1 room_1 Calls_1 rest_1 Pre_1 launch0 p0 e0 about1 theMethod args0 below0 :=
  ⟨lists_1, trivial, launch0.admits_env _ _ _, launch0.least_env, fairChoices_fair.cas, fairChoices_fair.clock, w_frames, w_args, w_heap, w_applies, trivial, trivial, w_case⟩
end start1
theorem witness_1 : WitnessClaimed_1 := ⟨start1.p0, start1.e0, start1.about1, start1.theMethod, start1.args0, start1.below0, start1.atStart⟩
end Jvm.Pilot.@@N@@
