import JvmDerived
import JvmDerived.Pilot.@@N@@Statement
import JvmDerived.Pilot.@@N@@Code
set_option linter.unusedVariables false
set_option linter.unusedSimpArgs false
@@BLOCK:NumsL.lean.txt@@
namespace Jvm.RoadKit
open Sem ClassFile Op Lib Jvm.Stand Jvm.Free Jvm.LawKit
section New
variable {p : Program} {l : Launch} {e : Env} {R : Room} {s : State} {m : MethodId} {args : Array Value} {below : List Frame} {meth : Method} {c : Code} {T : State} {locs : List Loc} {cells slots : Nat}
theorem retI (X : Stand p l e R s m args below meth c T locs cells slots) (hx : p.tables.exec = Jvm.exec) {pc : Nat} {Ls : Array Slot} {z : Int32} {rest : List Value} (hret : meth.sig.returnType = some .int) (hd : decode c.code pc = .ok (.ireturn, 1)) {fs : List Frame}
    (hl : ∀ (f : JFrame) (acts : List Action), f.method = m → f.locked = none → f.entered = [] → (doReturn e (T.setTop f) acts (some (.int z))).1 = T.setFrames fs) : Steps p.tables e below (T.setTop (mkF m pc Ls (.int z :: rest))) (T.setFrames fs) := by
  have hm' : T.vm.method? m = some meth := X.method'
  have hn : narrow .int (.int z) = .int z := rfl
  show Steps p.tables e below (T.setTop { method := m, pc := pc, locals := Ls, stack := _ :: rest, locked := none }) _
  jvm_step X.here [X.here.top, hx, hd, hm', hret, hn]
  first | (intro acts; rw [hl _ acts rfl rfl rfl]) | rw [hl _ _ rfl rfl rfl]
  exact Steps.refl _
end New
end Jvm.RoadKit
namespace Jvm.Pilot.@@N@@
open Jvm Jvm.ClassFile Sem Op Lib Jvm.Free Jvm.Stand Jvm.LawKit Jvm.RoadKit Bundle Jvm.Pilot.@@N@@.Jvm.D
def own_lmax (p q : Int64) : Int64 := if (lcmpW p q) < (0 : Int32) then q else p
def own_sec (r : Int64) : Int64 := r / (1000 : Int64)
def own_nan (r : Int64) : Int32 := ((r - (r / (1000 : Int64)) * (1000 : Int64)).toInt32) * (1000000 : Int32)
def own_ok (r : Int64) : Prop := 1 ≤ r.toInt ∧ r.toInt < 4611686018427387904
theorem own_k1000 : (1000 : Int64).toInt = 1000 := by decide
theorem own_secI {r : Int64} (h : own_ok r) : (own_sec r).toInt = r.toInt / 1000 := by
  have u := h.1; have v := h.2
  unfold own_sec
  rw [Jvm.Kit.i64_div (by rw [own_k1000]; omega), own_k1000, Int.tdiv_eq_ediv_of_nonneg (by omega)]
theorem own_remI {r : Int64} (h : own_ok r) : ((r - (r / (1000 : Int64)) * (1000 : Int64)).toInt32).toInt = r.toInt % 1000 := by
  have u := h.1; have v := h.2
  have e : (r - (r / (1000 : Int64)) * (1000 : Int64)).toInt = r.toInt % 1000 := by rw [Jvm.Kit.i64_rem_nonneg (by omega), own_k1000]
  rw [Jvm.Kit.i32_of_i64 (by rw [e]; omega) (by rw [e]; omega), e]
theorem own_nanI {r : Int64} (h : own_ok r) : (own_nan r).toInt = r.toInt % 1000 * 1000000 := by
  have e := own_remI h
  have k : (1000000 : Int32).toInt = 1000000 := by decide
  unfold own_nan
  rw [Jvm.Kit.i32_mul (by rw [e, k]; omega) (by rw [e, k]; omega), e, k]
theorem own_remge {r : Int64} (h : own_ok r) : ¬ (((r - (r / (1000 : Int64)) * (1000 : Int64)).toInt32) < (0 : Int32)) := by
  rw [Int32.lt_iff_toInt_lt, own_remI h]
  have k : (0 : Int32).toInt = 0 := by decide
  omega
theorem own_or0 {a b : Int64} (h : a ||| b = 0) : a = 0 ∧ b = 0 := by
  have e : a.toBitVec ||| b.toBitVec = 0#64 := by
    have := congrArg Int64.toBitVec h
    simpa using this
  have e2 := BitVec.or_eq_zero_iff.mp e
  exact ⟨Int64.toBitVec_inj.mp (by simpa using e2.1), Int64.toBitVec_inj.mp (by simpa using e2.2)⟩
theorem own_some {r : Int64} (h : own_ok r) : ¬ ((lcmpW (own_sec r ||| (own_nan r).toInt64) (0 : Int64)) = (0 : Int32)) := fun e => by
  rw [lw_eq] at e
  obtain ⟨e1, e2⟩ := own_or0 e
  have s := own_secI h
  have n := own_nanI h
  have k0 : (0 : Int64).toInt = 0 := by decide
  have n2 : ((own_nan r).toInt64).toInt = (own_nan r).toInt := Jvm.Kit.i64_of_i32 _
  rw [e1] at s
  rw [e2] at n2
  have u := h.1
  omega
theorem own_nonneg64 {a : Int64} (h : 0 ≤ a.toInt) : ¬ ((lcmpW a (0 : Int64)) < (0 : Int32)) := by
  rw [lw_lt, Int64.lt_iff_toInt_lt]
  have k0 : (0 : Int64).toInt = 0 := by decide
  omega
theorem own_msb {a : Int64} (h : 0 ≤ a.toInt) : a.toBitVec.msb = false := by
  have e : a.toInt = a.toBitVec.toInt := rfl
  rw [BitVec.toInt_eq_msb_cond] at e
  by_cases g : a.toBitVec.msb = true
  · rw [if_pos g] at e
    have := a.toBitVec.isLt
    omega
  · simpa using g
theorem own_of_msb {a : Int64} (h : a.toBitVec.msb = false) : 0 ≤ a.toInt := by
  have e : a.toInt = a.toBitVec.toInt := rfl
  rw [BitVec.toInt_eq_msb_cond, h] at e
  simp at e
  omega
theorem own_add {a b : Int64} (ha : 0 ≤ a.toInt) (hb : 0 ≤ b.toInt) (hc : 0 ≤ (a + b).toInt) : ¬ ((lcmpW ((a ^^^ (a + b)) &&& (b ^^^ (a + b))) (0 : Int64)) < (0 : Int32)) := by
  refine own_nonneg64 (own_of_msb ?_)
  have h1 := own_msb ha
  have h2 := own_msb hb
  have h3 := own_msb hc
  rw [Int64.toBitVec_and, Int64.toBitVec_xor, Int64.toBitVec_xor, BitVec.msb_and, BitVec.msb_xor, BitVec.msb_xor, h1, h2, h3]
  rfl
theorem own_k1000' : ((1000 : Int32).toInt64).toInt = 1000 := by decide
theorem own_mul {r : Int64} (h : own_ok r) : (own_sec r * (1000 : Int32).toInt64).toInt = r.toInt / 1000 * 1000 := by
  have s := own_secI h
  have u := h.1; have v := h.2
  rw [Jvm.Kit.i64_mul (by rw [s, own_k1000']; omega) (by rw [s, own_k1000']; omega), s, own_k1000']
theorem own_mdiv {r : Int64} (h : own_ok r) : (lcmpW ((own_sec r * (1000 : Int32).toInt64) / (1000 : Int32).toInt64) (own_sec r)) = (0 : Int32) := by
  rw [lw_eq]
  apply Int64.toInt_inj.mp
  have m := own_mul h
  have s := own_secI h
  have u := h.1; have v := h.2
  rw [Jvm.Kit.i64_div (by rw [m, own_k1000']; omega), m, own_k1000', s, Int.tdiv_eq_ediv_of_nonneg (by omega)]
  omega
theorem own_notmin {r : Int64} (h : own_ok r) : ¬ ((lcmpW (own_sec r) (-9223372036854775808 : Int64)) = (0 : Int32)) := fun e => by
  rw [lw_eq] at e
  have s := own_secI h
  rw [e] at s
  have k : (-9223372036854775808 : Int64).toInt = -9223372036854775808 := by decide
  have u := h.1
  omega
theorem own_q {r : Int64} (h : own_ok r) : (((own_nan r).toInt64) / (1000000 : Int64)).toInt = r.toInt % 1000 := by
  have n := own_nanI h
  have n2 : ((own_nan r).toInt64).toInt = (own_nan r).toInt := Jvm.Kit.i64_of_i32 _
  have k : (1000000 : Int64).toInt = 1000000 := by decide
  rw [Jvm.Kit.i64_div (by rw [n2, n, k]; omega), n2, n, k, Int.tdiv_eq_ediv_of_nonneg (by omega)]
  omega
theorem own_ms {r : Int64} (h : own_ok r) : (own_sec r * (1000 : Int32).toInt64) + ((own_nan r).toInt64) / (1000000 : Int64) = r := by
  apply Int64.toInt_inj.mp
  have m := own_mul h
  have q := own_q h
  have u := h.1; have v := h.2
  rw [Jvm.Kit.i64_add (by rw [m, q]; omega) (by rw [m, q]; omega), m, q]
  omega
theorem own_addge {r : Int64} (h : own_ok r) : ¬ ((lcmpW (((own_sec r * (1000 : Int32).toInt64) ^^^ ((own_sec r * (1000 : Int32).toInt64) + (((own_nan r).toInt64) / (1000000 : Int64)))) &&& ((((own_nan r).toInt64) / (1000000 : Int64)) ^^^ ((own_sec r * (1000 : Int32).toInt64) + (((own_nan r).toInt64) / (1000000 : Int64))))) (0 : Int64)) < (0 : Int32)) := by
  have m := own_mul h
  have q := own_q h
  have u := h.1; have v := h.2
  refine own_add (by rw [m]; omega) (by rw [q]; omega) ?_
  rw [own_ms h]; omega
theorem d_jdk_29_method_66_code_0 : decode jdk_29_method_66_code 0 = .ok (.lload_n 0, 1) := by decide +kernel
theorem d_jdk_29_method_66_code_1 : decode jdk_29_method_66_code 1 = .ok (.lload_n 2, 1) := by decide +kernel
theorem d_jdk_29_method_66_code_2 : decode jdk_29_method_66_code 2 = .ok (.lcmp, 1) := by decide +kernel
theorem d_jdk_29_method_66_code_3 : decode jdk_29_method_66_code 3 = .ok (.ifCond .lt 7, 3) := by decide +kernel
theorem d_jdk_29_method_66_code_10 : decode jdk_29_method_66_code 10 = .ok (.lload_n 2, 1) := by decide +kernel
theorem d_jdk_29_method_66_code_11 : decode jdk_29_method_66_code 11 = .ok (.lreturn, 1) := by decide +kernel
theorem d_jdk_29_method_66_code_6 : decode jdk_29_method_66_code 6 = .ok (.lload_n 0, 1) := by decide +kernel
theorem d_jdk_29_method_66_code_7 : decode jdk_29_method_66_code 7 = .ok (.goto 4, 3) := by decide +kernel
theorem ef_rm1 (m : MethodId) (x0 : Int64) (x1 : Int64) : entryFrame m #[(.long x0), (.long x1)] 4 = mkF m 0 #[.val (.long x0), .second, .val (.long x1), .second] [] := by first | (simp [entryFrame, mkF, argsToLocals, Value.category]; done) | rfl
def Q_rm1 (Z : State) (q0 : Int64) (q1 : Int64) (h0 : Heap) (n0 : Nat) (v : Option Value) (h : Heap) (L : List Loc) : Prop := v = some (.long (own_lmax q0 q1)) ∧ Fr n0 L ∧ h = h0
set_option maxRecDepth 65536 in
set_option maxHeartbeats 40000000 in
theorem rm1 (l : Launch) (Z : State) (a0 : Array Value) (hw : ∀ d ∈ tables_1, d.before a0 Z = true) (ws : List Jvm.Cond) (q0 : Int64) (q1 : Int64) (h0 : Heap) (n0 : Nat) (Z0 : n0 ≤ h0.size) :
    MetFree l (⟨"java/lang/Math", "max", "(JJ)J"⟩ : MethodName) (head1 (Jvm.Cond.code (⟨"java/lang/Math", "max", "(JJ)J"⟩ : MethodName) jdk_29_method_66_code 4 (some .long) :: ws) ({ frames := 0, cells := 0, slots := 0, locals := 0 } : Room)) (fun a U => a = #[(.long q0), (.long q1)] ∧ Z.Warmed39 U.vm ∧ U.heap = h0) (fun _ _ _ _ _ => True) (fun _ U o U' => ∃ v L, o = .returned v ∧ Q_rm1 Z q0 q1 h0 n0 v U'.heap L ∧ FrameEnd U o U' L ({ frames := 0, cells := 0, slots := 0, locals := 0 } : Room).cells ({ frames := 0, cells := 0, slots := 0, locals := 0 } : Room).slots) := by
  refine MetFree.of_bodySF (Jvm.Free.JP.mathPlain rfl (by decide +kernel)) hisR ?_
  intro p e s m args below meth c s₁ Bd hml0 hP hK
  obtain ⟨rfl, hZ, hh⟩ := hP
  have hx := Bd.exec
  have hby := Bd.bytes
  have hml : c.maxLocals = 4 := hml0
  have hown : s.vm.findClass "java/lang/Math" = some m.cls := findClass_of_methodNamed Bd.named
  have hnm := (name_of_methodNamed Bd.named Bd.method).1
  have hlk : meth.locks = false := by first | exact BodyLoose.notSynchronized (by assumption) | exact Body.notSynchronized (by assumption) | assumption
  have X0 : Stand p l e ({ frames := 0, cells := 0, slots := 0, locals := 0 } : Room) s m #[(.long q0), (.long q1)] below meth c s₁ [] 0 0 := Stand.of_body Bd
  have e0 : s₁.heap = h0 := by rw [← hh, Bd.state]; rfl
  have N0 := Fr.nil n0
  have Zn := Z0
  have K0 : ∀ t, Steps p.tables e below (s₁.setTop (mkF m 0 #[.val (.long q0), .second, .val (.long q1), .second] [])) t → Steps p.tables e below (s₁.setTop (entryFrame m #[(.long q0), (.long q1)] 4)) t := fun t k => castTop (ef_rm1 m q0 q1) k
  have K1 : ∀ t, Steps p.tables e below (s₁.setTop (mkF m 3 #[.val (.long q0), .second, .val (.long q1), .second] [(.int (lcmpW q0 q1))])) t → Steps p.tables e below (s₁.setTop (entryFrame m #[(.long q0), (.long q1)] 4)) t := by
    intro t kt
    refine K0 t ?_
    show Steps p.tables e below (s₁.setTop (mkF m 0 #[.val (.long q0), .second, .val (.long q1), .second] [])) _
    refine XS.lloadN X0.here hx rfl (hb hby d_jdk_29_method_66_code_0) rfl ?_
    show Steps p.tables e below (s₁.setTop (mkF m 1 #[.val (.long q0), .second, .val (.long q1), .second] [(.long q0)])) _
    refine XS.lloadN X0.here hx rfl (hb hby d_jdk_29_method_66_code_1) rfl ?_
    show Steps p.tables e below (s₁.setTop (mkF m 2 #[.val (.long q0), .second, .val (.long q1), .second] [(.long q1), (.long q0)])) _
    refine XS.lcmp X0.here hx rfl (hb hby d_jdk_29_method_66_code_2) rfl ?_
    exact kt
  by_cases hc3 : (lcmpW q0 q1) < (0 : Int32)
  ·
    obtain ⟨fs, hr, hrun, hended, hW, hsame⟩ := X0.leave (v := some (.long q1)) (fun h => by rw [Bd.returns] at h; cases h) hlk
    refine ⟨_, _, K1 _ ?_, hrun, hended, _, _, rfl, ?_, ⟨_, rfl⟩, hW, hsame.mono (by decide) (by decide)⟩
    ·
      show Steps p.tables e below (s₁.setTop (mkF m 3 #[.val (.long q0), .second, .val (.long q1), .second] [(.int (lcmpW q0 q1))])) _
      refine XS.ifYes X0.here hx rfl (pc0 := 3) (pc' := 10) rfl (hb hby d_jdk_29_method_66_code_3) rfl ((if0 _ _).trans (tlt hc3).1) (by decide) (by decide) ?_
      show Steps p.tables e below (s₁.setTop (mkF m 10 #[.val (.long q0), .second, .val (.long q1), .second] [])) _
      refine XS.lloadN X0.here hx rfl (hb hby d_jdk_29_method_66_code_10) rfl ?_
      show Steps p.tables e below (s₁.setTop (mkF m 11 #[.val (.long q0), .second, .val (.long q1), .second] [(.long q1)])) _
      exact X0.lreturnOut hx Bd.returns (hb hby d_jdk_29_method_66_code_11) hr
    ·
      show Q_rm1 Z q0 q1 h0 n0 _ s₁.heap _
      rw [e0]
      refine ⟨?_, N0, rfl⟩
      simp only [own_lmax, hc3, if_true, if_false]
  ·
    obtain ⟨fs, hr, hrun, hended, hW, hsame⟩ := X0.leave (v := some (.long q0)) (fun h => by rw [Bd.returns] at h; cases h) hlk
    refine ⟨_, _, K1 _ ?_, hrun, hended, _, _, rfl, ?_, ⟨_, rfl⟩, hW, hsame.mono (by decide) (by decide)⟩
    ·
      show Steps p.tables e below (s₁.setTop (mkF m 3 #[.val (.long q0), .second, .val (.long q1), .second] [(.int (lcmpW q0 q1))])) _
      refine XS.ifNo X0.here hx rfl (hb hby d_jdk_29_method_66_code_3) rfl ((if0 _ _).trans (flt hc3).1) ?_
      show Steps p.tables e below (s₁.setTop (mkF m 6 #[.val (.long q0), .second, .val (.long q1), .second] [])) _
      refine XS.lloadN X0.here hx rfl (hb hby d_jdk_29_method_66_code_6) rfl ?_
      show Steps p.tables e below (s₁.setTop (mkF m 7 #[.val (.long q0), .second, .val (.long q1), .second] [(.long q0)])) _
      refine XS.goto X0.here hx rfl (pc0 := 7) (pc' := 11) rfl (hb hby d_jdk_29_method_66_code_7) (by decide) (by decide) ?_
      show Steps p.tables e below (s₁.setTop (mkF m 11 #[.val (.long q0), .second, .val (.long q1), .second] [(.long q0)])) _
      exact X0.lreturnOut hx Bd.returns (hb hby d_jdk_29_method_66_code_11) hr
    ·
      show Q_rm1 Z q0 q1 h0 n0 _ s₁.heap _
      rw [e0]
      refine ⟨?_, N0, rfl⟩
      simp only [own_lmax, hc3, if_true, if_false]
theorem d_jdk_29_method_61_code_0 : decode jdk_29_method_61_code 0 = .ok (.lload_n 0, 1) := by decide +kernel
theorem d_jdk_29_method_61_code_1 : decode jdk_29_method_61_code 1 = .ok (.lconst 0, 1) := by decide +kernel
theorem d_jdk_29_method_61_code_2 : decode jdk_29_method_61_code 2 = .ok (.lcmp, 1) := by decide +kernel
theorem d_jdk_29_method_61_code_3 : decode jdk_29_method_61_code 3 = .ok (.ifCond .ge 8, 3) := by decide +kernel
theorem d_jdk_29_method_61_code_11 : decode jdk_29_method_61_code 11 = .ok (.lload_n 0, 1) := by decide +kernel
theorem d_jdk_29_method_61_code_12 : decode jdk_29_method_61_code 12 = .ok (.lreturn, 1) := by decide +kernel
theorem ef_rm2 (m : MethodId) (x0 : Int64) : entryFrame m #[(.long x0)] 2 = mkF m 0 #[.val (.long x0), .second] [] := by first | (simp [entryFrame, mkF, argsToLocals, Value.category]; done) | rfl
def Q_rm2 (Z : State) (q0 : Int64) (h0 : Heap) (n0 : Nat) (v : Option Value) (h : Heap) (L : List Loc) : Prop := v = some (.long q0) ∧ Fr n0 L ∧ h = h0
set_option maxRecDepth 65536 in
set_option maxHeartbeats 40000000 in
theorem rm2 (l : Launch) (Z : State) (a0 : Array Value) (hw : ∀ d ∈ tables_1, d.before a0 Z = true) (ws : List Jvm.Cond) (q0 : Int64) (h0 : Heap) (n0 : Nat) (Z0 : n0 ≤ h0.size) (hq : ¬ ((lcmpW q0 (0 : Int64)) < (0 : Int32))) :
    MetFree l (⟨"java/lang/Math", "abs", "(J)J"⟩ : MethodName) (head1 (Jvm.Cond.code (⟨"java/lang/Math", "abs", "(J)J"⟩ : MethodName) jdk_29_method_61_code 2 (some .long) :: ws) ({ frames := 0, cells := 0, slots := 0, locals := 0 } : Room)) (fun a U => a = #[(.long q0)] ∧ Z.Warmed39 U.vm ∧ U.heap = h0) (fun _ _ _ _ _ => True) (fun _ U o U' => ∃ v L, o = .returned v ∧ Q_rm2 Z q0 h0 n0 v U'.heap L ∧ FrameEnd U o U' L ({ frames := 0, cells := 0, slots := 0, locals := 0 } : Room).cells ({ frames := 0, cells := 0, slots := 0, locals := 0 } : Room).slots) := by
  refine MetFree.of_bodySF (Jvm.Free.JP.mathPlain rfl (by decide +kernel)) hisR ?_
  intro p e s m args below meth c s₁ Bd hml0 hP hK
  obtain ⟨rfl, hZ, hh⟩ := hP
  have hx := Bd.exec
  have hby := Bd.bytes
  have hml : c.maxLocals = 2 := hml0
  have hown : s.vm.findClass "java/lang/Math" = some m.cls := findClass_of_methodNamed Bd.named
  have hnm := (name_of_methodNamed Bd.named Bd.method).1
  have hlk : meth.locks = false := by first | exact BodyLoose.notSynchronized (by assumption) | exact Body.notSynchronized (by assumption) | assumption
  have X0 : Stand p l e ({ frames := 0, cells := 0, slots := 0, locals := 0 } : Room) s m #[(.long q0)] below meth c s₁ [] 0 0 := Stand.of_body Bd
  have e0 : s₁.heap = h0 := by rw [← hh, Bd.state]; rfl
  have N0 := Fr.nil n0
  have Zn := Z0
  have K0 : ∀ t, Steps p.tables e below (s₁.setTop (mkF m 0 #[.val (.long q0), .second] [])) t → Steps p.tables e below (s₁.setTop (entryFrame m #[(.long q0)] 2)) t := fun t k => castTop (ef_rm2 m q0) k
  have hc3 : ¬ ((lcmpW q0 (0 : Int64)) < (0 : Int32)) := hq
  obtain ⟨fs, hr, hrun, hended, hW, hsame⟩ := X0.leave (v := some (.long q0)) (fun h => by rw [Bd.returns] at h; cases h) hlk
  refine ⟨_, _, K0 _ ?_, hrun, hended, _, _, rfl, ?_, ⟨_, rfl⟩, hW, hsame.mono (by decide) (by decide)⟩
  ·
    show Steps p.tables e below (s₁.setTop (mkF m 0 #[.val (.long q0), .second] [])) _
    refine XS.lloadN X0.here hx rfl (hb hby d_jdk_29_method_61_code_0) rfl ?_
    show Steps p.tables e below (s₁.setTop (mkF m 1 #[.val (.long q0), .second] [(.long q0)])) _
    refine XS.lconst X0.here hx rfl (hb hby d_jdk_29_method_61_code_1) ?_
    show Steps p.tables e below (s₁.setTop (mkF m 2 #[.val (.long q0), .second] [(.long (0 : Int64)), (.long q0)])) _
    refine XS.lcmp X0.here hx rfl (hb hby d_jdk_29_method_61_code_2) rfl ?_
    show Steps p.tables e below (s₁.setTop (mkF m 3 #[.val (.long q0), .second] [(.int (lcmpW q0 (0 : Int64)))])) _
    refine XS.ifYes X0.here hx rfl (pc0 := 3) (pc' := 11) rfl (hb hby d_jdk_29_method_61_code_3) rfl ((if0 _ _).trans (flt hc3).2.1) (by decide) (by decide) ?_
    show Steps p.tables e below (s₁.setTop (mkF m 11 #[.val (.long q0), .second] [])) _
    refine XS.lloadN X0.here hx rfl (hb hby d_jdk_29_method_61_code_11) rfl ?_
    show Steps p.tables e below (s₁.setTop (mkF m 12 #[.val (.long q0), .second] [(.long q0)])) _
    exact X0.lreturnOut hx Bd.returns (hb hby d_jdk_29_method_61_code_12) hr
  ·
    show Q_rm2 Z q0 h0 n0 _ s₁.heap _
    rw [e0]
    exact ⟨rfl, N0, rfl⟩
theorem d_jdk_29_method_30_code_0 : decode jdk_29_method_30_code 0 = .ok (.lload_n 0, 1) := by decide +kernel
theorem d_jdk_29_method_30_code_1 : decode jdk_29_method_30_code 1 = .ok (.lload_n 2, 1) := by decide +kernel
theorem d_jdk_29_method_30_code_2 : decode jdk_29_method_30_code 2 = .ok (.lmul, 1) := by decide +kernel
theorem d_jdk_29_method_30_code_3 : decode jdk_29_method_30_code 3 = .ok (.lstore 4, 2) := by decide +kernel
theorem d_jdk_29_method_30_code_5 : decode jdk_29_method_30_code 5 = .ok (.lload_n 0, 1) := by decide +kernel
theorem d_jdk_29_method_30_code_6 : decode jdk_29_method_30_code 6 = .ok (.invokestatic 122, 3) := by decide +kernel
theorem pd_0 : parseMethodDescriptor "(J)J" = some ⟨[.long], some .long⟩ := by decide +kernel
theorem d_jdk_29_method_30_code_9 : decode jdk_29_method_30_code 9 = .ok (.lstore 6, 2) := by decide +kernel
theorem d_jdk_29_method_30_code_11 : decode jdk_29_method_30_code 11 = .ok (.lload_n 2, 1) := by decide +kernel
theorem d_jdk_29_method_30_code_12 : decode jdk_29_method_30_code 12 = .ok (.invokestatic 122, 3) := by decide +kernel
theorem d_jdk_29_method_30_code_15 : decode jdk_29_method_30_code 15 = .ok (.lstore 8, 2) := by decide +kernel
theorem d_jdk_29_method_30_code_17 : decode jdk_29_method_30_code 17 = .ok (.lload 6, 2) := by decide +kernel
theorem d_jdk_29_method_30_code_19 : decode jdk_29_method_30_code 19 = .ok (.lload 8, 2) := by decide +kernel
theorem d_jdk_29_method_30_code_21 : decode jdk_29_method_30_code 21 = .ok (.lor, 1) := by decide +kernel
theorem d_jdk_29_method_30_code_22 : decode jdk_29_method_30_code 22 = .ok (.bipush 31, 2) := by decide +kernel
theorem d_jdk_29_method_30_code_24 : decode jdk_29_method_30_code 24 = .ok (.lushr, 1) := by decide +kernel
theorem d_jdk_29_method_30_code_25 : decode jdk_29_method_30_code 25 = .ok (.lconst 0, 1) := by decide +kernel
theorem d_jdk_29_method_30_code_26 : decode jdk_29_method_30_code 26 = .ok (.lcmp, 1) := by decide +kernel
theorem d_jdk_29_method_30_code_27 : decode jdk_29_method_30_code 27 = .ok (.ifCond .eq 44, 3) := by decide +kernel
theorem d_jdk_29_method_30_code_71 : decode jdk_29_method_30_code 71 = .ok (.lload 4, 2) := by decide +kernel
theorem d_jdk_29_method_30_code_73 : decode jdk_29_method_30_code 73 = .ok (.lreturn, 1) := by decide +kernel
theorem d_jdk_29_method_30_code_30 : decode jdk_29_method_30_code 30 = .ok (.lload_n 2, 1) := by decide +kernel
theorem d_jdk_29_method_30_code_31 : decode jdk_29_method_30_code 31 = .ok (.lconst 0, 1) := by decide +kernel
theorem d_jdk_29_method_30_code_32 : decode jdk_29_method_30_code 32 = .ok (.lcmp, 1) := by decide +kernel
theorem d_jdk_29_method_30_code_33 : decode jdk_29_method_30_code 33 = .ok (.ifCond .eq 12, 3) := by decide +kernel
theorem d_jdk_29_method_30_code_36 : decode jdk_29_method_30_code 36 = .ok (.lload 4, 2) := by decide +kernel
theorem d_jdk_29_method_30_code_38 : decode jdk_29_method_30_code 38 = .ok (.lload_n 2, 1) := by decide +kernel
theorem d_jdk_29_method_30_code_39 : decode jdk_29_method_30_code 39 = .ok (.ldiv, 1) := by decide +kernel
theorem d_jdk_29_method_30_code_40 : decode jdk_29_method_30_code 40 = .ok (.lload_n 0, 1) := by decide +kernel
theorem d_jdk_29_method_30_code_41 : decode jdk_29_method_30_code 41 = .ok (.lcmp, 1) := by decide +kernel
theorem d_jdk_29_method_30_code_42 : decode jdk_29_method_30_code 42 = .ok (.ifCond .ne 19, 3) := by decide +kernel
theorem d_jdk_29_method_30_code_45 : decode jdk_29_method_30_code 45 = .ok (.lload_n 0, 1) := by decide +kernel
theorem d_jdk_29_method_30_code_46 : decode jdk_29_method_30_code 46 = .ok (.ldc2_w 128, 3) := by decide +kernel
theorem d_jdk_29_method_30_code_49 : decode jdk_29_method_30_code 49 = .ok (.lcmp, 1) := by decide +kernel
theorem d_jdk_29_method_30_code_50 : decode jdk_29_method_30_code 50 = .ok (.ifCond .ne 21, 3) := by decide +kernel
theorem ef_rm3 (m : MethodId) (x0 : Int64) (x1 : Int64) : entryFrame m #[(.long x0), (.long x1)] 10 = mkF m 0 #[.val (.long x0), .second, .val (.long x1), .second, .unset, .unset, .unset, .unset, .unset, .unset] [] := by first | (simp [entryFrame, mkF, argsToLocals, Value.category]; done) | rfl
def Q_rm3 (Z : State) (q0 : Int64) (q1 : Int64) (h0 : Heap) (n0 : Nat) (v : Option Value) (h : Heap) (L : List Loc) : Prop := v = some (.long (q0 * q1)) ∧ Fr n0 L ∧ h = h0
set_option maxRecDepth 65536 in
set_option maxHeartbeats 40000000 in
theorem rm3 (l : Launch) (Z : State) (a0 : Array Value) (hw : ∀ d ∈ tables_1, d.before a0 Z = true) (ws : List Jvm.Cond) (q0 : Int64) (q1 : Int64) (h0 : Heap) (n0 : Nat) (Z0 : n0 ≤ h0.size) (hq0 : ¬ ((lcmpW q0 (0 : Int64)) < (0 : Int32))) (hq1 : ¬ ((lcmpW q1 (0 : Int64)) < (0 : Int32))) (hz : ¬ ((lcmpW q1 (0 : Int64)) = (0 : Int32))) (hd : (lcmpW ((q0 * q1) / q1) q0) = (0 : Int32)) (hm : ¬ ((lcmpW q0 (-9223372036854775808 : Int64)) = (0 : Int32))) :
    MetFree l (⟨"java/lang/Math", "multiplyExact", "(JJ)J"⟩ : MethodName) (head1 (Jvm.Cond.code (⟨"java/lang/Math", "multiplyExact", "(JJ)J"⟩ : MethodName) jdk_29_method_30_code 10 (some .long) :: ws) ({ frames := 1, cells := 0, slots := 0, locals := 13 } : Room)) (fun a U => a = #[(.long q0), (.long q1)] ∧ Z.Warmed39 U.vm ∧ U.heap = h0) (fun _ _ _ _ _ => True) (fun _ U o U' => ∃ v L, o = .returned v ∧ Q_rm3 Z q0 q1 h0 n0 v U'.heap L ∧ FrameEnd U o U' L ({ frames := 1, cells := 0, slots := 0, locals := 13 } : Room).cells ({ frames := 1, cells := 0, slots := 0, locals := 13 } : Room).slots) := by
  refine MetFree.of_bodySF (Jvm.Free.JP.mathPlain rfl (by decide +kernel)) hisR ?_
  intro p e s m args below meth c s₁ Bd hml0 hP hK
  obtain ⟨rfl, hZ, hh⟩ := hP
  have hx := Bd.exec
  have hby := Bd.bytes
  have hml : c.maxLocals = 10 := hml0
  have hown : s.vm.findClass "java/lang/Math" = some m.cls := findClass_of_methodNamed Bd.named
  have hnm := (name_of_methodNamed Bd.named Bd.method).1
  have hlk : meth.locks = false := by first | exact BodyLoose.notSynchronized (by assumption) | exact Body.notSynchronized (by assumption) | assumption
  have X0 : Stand p l e ({ frames := 1, cells := 0, slots := 0, locals := 13 } : Room) s m #[(.long q0), (.long q1)] below meth c s₁ [] 0 0 := Stand.of_body Bd
  have e0 : s₁.heap = h0 := by rw [← hh, Bd.state]; rfl
  have N0 := Fr.nil n0
  have Zn := Z0
  have K0 : ∀ t, Steps p.tables e below (s₁.setTop (mkF m 0 #[.val (.long q0), .second, .val (.long q1), .second, .unset, .unset, .unset, .unset, .unset, .unset] [])) t → Steps p.tables e below (s₁.setTop (entryFrame m #[(.long q0), (.long q1)] 10)) t := fun t k => castTop (ef_rm3 m q0 q1) k
  obtain ⟨_, _, ⟨T1, L1, k1, n1⟩, -, X1, ⟨Lc1, hQ1, l1, y1, z1⟩, st1⟩ := Jvm.LawKit.callS X0 hx (y := (⟨"java/lang/Math", "abs", "(J)J"⟩ : MethodName)) hown (mvT hZ (hw _ (List.mem_of_getElem? (i := 63) rfl))) (mvT hZ (hw _ (List.mem_of_getElem? (i := 64) rfl))) (mvT hZ (hw _ (List.mem_of_getElem? (i := 3) rfl))) (mvT hZ (hw _ (List.mem_of_getElem? (i := 65) rfl))) (by decide) (backOf (W := 0) (rm2 l Z a0 hw [] q0  h0 n0 Zn hq0) hZ (hw _ (List.mem_of_getElem? (i := 65) rfl)) (hw _ (List.mem_of_getElem? (i := 3) rfl)) (by decide) (by decide)) (g := (mkF m 6 #[.val (.long q0), .second, .val (.long q1), .second, .val (.long (q0 * q1)), .second, .unset, .unset, .unset, .unset] [(.long q0)])) rfl (by rw [hml]; rfl) (argsL := [(.long q0)]) (rest := []) (lenOf pd_0 rfl) rfl (by show 2 * 0 + _ ≤ _; exact Nat.le_of_eq rfl) (hb hby d_jdk_29_method_30_code_6) (fun _ _ => ⟨rfl, e0, (by decide : 0 + 0 ≤ _), (by decide : 0 + 0 ≤ _)⟩)
  dsimp only [Pt.U, Pt.locs, Pt.cells, Pt.slots] at X1 l1 y1 z1 st1 hQ1
  subst l1 y1 z1
  obtain ⟨rfl, N1q, e1q⟩ := hQ1
  have N1 := Fr.app N0 N1q
  have e1 : T1.heap = h0 := e1q
  obtain ⟨_, _, ⟨T2, L2, k2, n2⟩, -, X2, ⟨Lc2, hQ2, l2, y2, z2⟩, st2⟩ := Jvm.LawKit.callS X1 hx (y := (⟨"java/lang/Math", "abs", "(J)J"⟩ : MethodName)) hown (mvT hZ (hw _ (List.mem_of_getElem? (i := 63) rfl))) (mvT hZ (hw _ (List.mem_of_getElem? (i := 64) rfl))) (mvT hZ (hw _ (List.mem_of_getElem? (i := 3) rfl))) (mvT hZ (hw _ (List.mem_of_getElem? (i := 65) rfl))) (by decide) (backOf (W := 0) (rm2 l Z a0 hw [] q1  h0 n0 Zn hq1) hZ (hw _ (List.mem_of_getElem? (i := 65) rfl)) (hw _ (List.mem_of_getElem? (i := 3) rfl)) (by decide) (by decide)) (g := (mkF m 12 #[.val (.long q0), .second, .val (.long q1), .second, .val (.long (q0 * q1)), .second, .val (.long q0), .second, .unset, .unset] [(.long q1)])) rfl (by rw [hml]; rfl) (argsL := [(.long q1)]) (rest := []) (lenOf pd_0 rfl) rfl (by show 2 * 0 + _ ≤ _; exact Nat.le_of_eq rfl) (hb hby d_jdk_29_method_30_code_12) (fun _ _ => ⟨rfl, e1, (by decide : 0 + 0 ≤ _), (by decide : 0 + 0 ≤ _)⟩)
  dsimp only [Pt.U, Pt.locs, Pt.cells, Pt.slots] at X2 l2 y2 z2 st2 hQ2
  subst l2 y2 z2
  obtain ⟨rfl, N2q, e2q⟩ := hQ2
  have N2 := Fr.app N1 N2q
  have e2 : T2.heap = h0 := e2q
  have K3 : ∀ t, Steps p.tables e below (T2.setTop (mkF m 27 #[.val (.long q0), .second, .val (.long q1), .second, .val (.long (q0 * q1)), .second, .val (.long q0), .second, .val (.long q1), .second] [(.int (lcmpW (((q0 ||| q1).toUInt64 >>> ((31 : Int32) &&& 0x3f).toInt64.toUInt64).toInt64) (0 : Int64)))])) t → Steps p.tables e below (s₁.setTop (entryFrame m #[(.long q0), (.long q1)] 10)) t := by
    intro t kt
    refine K0 t ?_
    show Steps p.tables e below (s₁.setTop (mkF m 0 #[.val (.long q0), .second, .val (.long q1), .second, .unset, .unset, .unset, .unset, .unset, .unset] [])) _
    refine XS.lloadN X0.here hx rfl (hb hby d_jdk_29_method_30_code_0) rfl ?_
    show Steps p.tables e below (s₁.setTop (mkF m 1 #[.val (.long q0), .second, .val (.long q1), .second, .unset, .unset, .unset, .unset, .unset, .unset] [(.long q0)])) _
    refine XS.lloadN X0.here hx rfl (hb hby d_jdk_29_method_30_code_1) rfl ?_
    show Steps p.tables e below (s₁.setTop (mkF m 2 #[.val (.long q0), .second, .val (.long q1), .second, .unset, .unset, .unset, .unset, .unset, .unset] [(.long q1), (.long q0)])) _
    refine XS.lmul X0.here hx rfl (hb hby d_jdk_29_method_30_code_2) rfl ?_
    show Steps p.tables e below (s₁.setTop (mkF m 3 #[.val (.long q0), .second, .val (.long q1), .second, .unset, .unset, .unset, .unset, .unset, .unset] [(.long (q0 * q1))])) _
    refine XS.lstore X0.here hx rfl (hb hby d_jdk_29_method_30_code_3) rfl (l' := #[.val (.long q0), .second, .val (.long q1), .second, .val (.long (q0 * q1)), .second, .unset, .unset, .unset, .unset]) rfl ?_
    show Steps p.tables e below (s₁.setTop (mkF m 5 #[.val (.long q0), .second, .val (.long q1), .second, .val (.long (q0 * q1)), .second, .unset, .unset, .unset, .unset] [])) _
    refine XS.lloadN X0.here hx rfl (hb hby d_jdk_29_method_30_code_5) rfl ?_
    show Steps p.tables e below (s₁.setTop (mkF m 6 #[.val (.long q0), .second, .val (.long q1), .second, .val (.long (q0 * q1)), .second, .unset, .unset, .unset, .unset] [(.long q0)])) _
    refine st1 _ ?_
    show Steps p.tables e below (T1.setTop (mkF m 9 #[.val (.long q0), .second, .val (.long q1), .second, .val (.long (q0 * q1)), .second, .unset, .unset, .unset, .unset] [(.long q0)])) _
    refine XS.lstore X1.here hx rfl (hb hby d_jdk_29_method_30_code_9) rfl (l' := #[.val (.long q0), .second, .val (.long q1), .second, .val (.long (q0 * q1)), .second, .val (.long q0), .second, .unset, .unset]) rfl ?_
    show Steps p.tables e below (T1.setTop (mkF m 11 #[.val (.long q0), .second, .val (.long q1), .second, .val (.long (q0 * q1)), .second, .val (.long q0), .second, .unset, .unset] [])) _
    refine XS.lloadN X1.here hx rfl (hb hby d_jdk_29_method_30_code_11) rfl ?_
    show Steps p.tables e below (T1.setTop (mkF m 12 #[.val (.long q0), .second, .val (.long q1), .second, .val (.long (q0 * q1)), .second, .val (.long q0), .second, .unset, .unset] [(.long q1)])) _
    refine st2 _ ?_
    show Steps p.tables e below (T2.setTop (mkF m 15 #[.val (.long q0), .second, .val (.long q1), .second, .val (.long (q0 * q1)), .second, .val (.long q0), .second, .unset, .unset] [(.long q1)])) _
    refine XS.lstore X2.here hx rfl (hb hby d_jdk_29_method_30_code_15) rfl (l' := #[.val (.long q0), .second, .val (.long q1), .second, .val (.long (q0 * q1)), .second, .val (.long q0), .second, .val (.long q1), .second]) rfl ?_
    show Steps p.tables e below (T2.setTop (mkF m 17 #[.val (.long q0), .second, .val (.long q1), .second, .val (.long (q0 * q1)), .second, .val (.long q0), .second, .val (.long q1), .second] [])) _
    refine XS.lload X2.here hx rfl (hb hby d_jdk_29_method_30_code_17) rfl ?_
    show Steps p.tables e below (T2.setTop (mkF m 19 #[.val (.long q0), .second, .val (.long q1), .second, .val (.long (q0 * q1)), .second, .val (.long q0), .second, .val (.long q1), .second] [(.long q0)])) _
    refine XS.lload X2.here hx rfl (hb hby d_jdk_29_method_30_code_19) rfl ?_
    show Steps p.tables e below (T2.setTop (mkF m 21 #[.val (.long q0), .second, .val (.long q1), .second, .val (.long (q0 * q1)), .second, .val (.long q0), .second, .val (.long q1), .second] [(.long q1), (.long q0)])) _
    refine XS.lor X2.here hx rfl (hb hby d_jdk_29_method_30_code_21) rfl ?_
    show Steps p.tables e below (T2.setTop (mkF m 22 #[.val (.long q0), .second, .val (.long q1), .second, .val (.long (q0 * q1)), .second, .val (.long q0), .second, .val (.long q1), .second] [(.long (q0 ||| q1))])) _
    refine XS.bipush X2.here hx rfl (hb hby d_jdk_29_method_30_code_22) ?_
    show Steps p.tables e below (T2.setTop (mkF m 24 #[.val (.long q0), .second, .val (.long q1), .second, .val (.long (q0 * q1)), .second, .val (.long q0), .second, .val (.long q1), .second] [(.int (31 : Int32)), (.long (q0 ||| q1))])) _
    refine XS.lushr X2.here hx rfl (hb hby d_jdk_29_method_30_code_24) rfl ?_
    show Steps p.tables e below (T2.setTop (mkF m 25 #[.val (.long q0), .second, .val (.long q1), .second, .val (.long (q0 * q1)), .second, .val (.long q0), .second, .val (.long q1), .second] [(.long (((q0 ||| q1).toUInt64 >>> ((31 : Int32) &&& 0x3f).toInt64.toUInt64).toInt64))])) _
    refine XS.lconst X2.here hx rfl (hb hby d_jdk_29_method_30_code_25) ?_
    show Steps p.tables e below (T2.setTop (mkF m 26 #[.val (.long q0), .second, .val (.long q1), .second, .val (.long (q0 * q1)), .second, .val (.long q0), .second, .val (.long q1), .second] [(.long (0 : Int64)), (.long (((q0 ||| q1).toUInt64 >>> ((31 : Int32) &&& 0x3f).toInt64.toUInt64).toInt64))])) _
    refine XS.lcmp X2.here hx rfl (hb hby d_jdk_29_method_30_code_26) rfl ?_
    exact kt
  by_cases hc27 : (lcmpW (((q0 ||| q1).toUInt64 >>> ((31 : Int32) &&& 0x3f).toInt64.toUInt64).toInt64) (0 : Int64)) = (0 : Int32)
  ·
    obtain ⟨fs, hr, hrun, hended, hW, hsame⟩ := X2.leave (v := some (.long (q0 * q1))) (fun h => by rw [Bd.returns] at h; cases h) hlk
    refine ⟨_, _, K3 _ ?_, hrun, hended, _, _, rfl, ?_, ⟨_, rfl⟩, hW, hsame.mono (by decide) (by decide)⟩
    ·
      show Steps p.tables e below (T2.setTop (mkF m 27 #[.val (.long q0), .second, .val (.long q1), .second, .val (.long (q0 * q1)), .second, .val (.long q0), .second, .val (.long q1), .second] [(.int (lcmpW (((q0 ||| q1).toUInt64 >>> ((31 : Int32) &&& 0x3f).toInt64.toUInt64).toInt64) (0 : Int64)))])) _
      refine XS.ifYes X2.here hx rfl (pc0 := 27) (pc' := 71) rfl (hb hby d_jdk_29_method_30_code_27) rfl ((if0 _ _).trans (teq hc27).1) (by decide) (by decide) ?_
      show Steps p.tables e below (T2.setTop (mkF m 71 #[.val (.long q0), .second, .val (.long q1), .second, .val (.long (q0 * q1)), .second, .val (.long q0), .second, .val (.long q1), .second] [])) _
      refine XS.lload X2.here hx rfl (hb hby d_jdk_29_method_30_code_71) rfl ?_
      show Steps p.tables e below (T2.setTop (mkF m 73 #[.val (.long q0), .second, .val (.long q1), .second, .val (.long (q0 * q1)), .second, .val (.long q0), .second, .val (.long q1), .second] [(.long (q0 * q1))])) _
      exact X2.lreturnOut hx Bd.returns (hb hby d_jdk_29_method_30_code_73) hr
    ·
      show Q_rm3 Z q0 q1 h0 n0 _ T2.heap _
      rw [e2]
      exact ⟨rfl, N2, rfl⟩
  ·
    have hc33 : ¬ ((lcmpW q1 (0 : Int64)) = (0 : Int32)) := hz
    have hc42 : (lcmpW ((q0 * q1) / q1) q0) = (0 : Int32) := hd
    have hc50 : ¬ ((lcmpW q0 (-9223372036854775808 : Int64)) = (0 : Int32)) := hm
    obtain ⟨fs, hr, hrun, hended, hW, hsame⟩ := X2.leave (v := some (.long (q0 * q1))) (fun h => by rw [Bd.returns] at h; cases h) hlk
    refine ⟨_, _, K3 _ ?_, hrun, hended, _, _, rfl, ?_, ⟨_, rfl⟩, hW, hsame.mono (by decide) (by decide)⟩
    ·
      show Steps p.tables e below (T2.setTop (mkF m 27 #[.val (.long q0), .second, .val (.long q1), .second, .val (.long (q0 * q1)), .second, .val (.long q0), .second, .val (.long q1), .second] [(.int (lcmpW (((q0 ||| q1).toUInt64 >>> ((31 : Int32) &&& 0x3f).toInt64.toUInt64).toInt64) (0 : Int64)))])) _
      refine XS.ifNo X2.here hx rfl (hb hby d_jdk_29_method_30_code_27) rfl ((if0 _ _).trans (feq hc27).1) ?_
      show Steps p.tables e below (T2.setTop (mkF m 30 #[.val (.long q0), .second, .val (.long q1), .second, .val (.long (q0 * q1)), .second, .val (.long q0), .second, .val (.long q1), .second] [])) _
      refine XS.lloadN X2.here hx rfl (hb hby d_jdk_29_method_30_code_30) rfl ?_
      show Steps p.tables e below (T2.setTop (mkF m 31 #[.val (.long q0), .second, .val (.long q1), .second, .val (.long (q0 * q1)), .second, .val (.long q0), .second, .val (.long q1), .second] [(.long q1)])) _
      refine XS.lconst X2.here hx rfl (hb hby d_jdk_29_method_30_code_31) ?_
      show Steps p.tables e below (T2.setTop (mkF m 32 #[.val (.long q0), .second, .val (.long q1), .second, .val (.long (q0 * q1)), .second, .val (.long q0), .second, .val (.long q1), .second] [(.long (0 : Int64)), (.long q1)])) _
      refine XS.lcmp X2.here hx rfl (hb hby d_jdk_29_method_30_code_32) rfl ?_
      show Steps p.tables e below (T2.setTop (mkF m 33 #[.val (.long q0), .second, .val (.long q1), .second, .val (.long (q0 * q1)), .second, .val (.long q0), .second, .val (.long q1), .second] [(.int (lcmpW q1 (0 : Int64)))])) _
      refine XS.ifNo X2.here hx rfl (hb hby d_jdk_29_method_30_code_33) rfl ((if0 _ _).trans (feq hc33).1) ?_
      show Steps p.tables e below (T2.setTop (mkF m 36 #[.val (.long q0), .second, .val (.long q1), .second, .val (.long (q0 * q1)), .second, .val (.long q0), .second, .val (.long q1), .second] [])) _
      refine XS.lload X2.here hx rfl (hb hby d_jdk_29_method_30_code_36) rfl ?_
      show Steps p.tables e below (T2.setTop (mkF m 38 #[.val (.long q0), .second, .val (.long q1), .second, .val (.long (q0 * q1)), .second, .val (.long q0), .second, .val (.long q1), .second] [(.long (q0 * q1))])) _
      refine XS.lloadN X2.here hx rfl (hb hby d_jdk_29_method_30_code_38) rfl ?_
      show Steps p.tables e below (T2.setTop (mkF m 39 #[.val (.long q0), .second, .val (.long q1), .second, .val (.long (q0 * q1)), .second, .val (.long q0), .second, .val (.long q1), .second] [(.long q1), (.long (q0 * q1))])) _
      refine XS.ldiv X2.here hx rfl (hb hby d_jdk_29_method_30_code_39) rfl (fun e => hz ((lw_eq _ _).mpr e)) ?_
      show Steps p.tables e below (T2.setTop (mkF m 40 #[.val (.long q0), .second, .val (.long q1), .second, .val (.long (q0 * q1)), .second, .val (.long q0), .second, .val (.long q1), .second] [(.long ((q0 * q1) / q1))])) _
      refine XS.lloadN X2.here hx rfl (hb hby d_jdk_29_method_30_code_40) rfl ?_
      show Steps p.tables e below (T2.setTop (mkF m 41 #[.val (.long q0), .second, .val (.long q1), .second, .val (.long (q0 * q1)), .second, .val (.long q0), .second, .val (.long q1), .second] [(.long q0), (.long ((q0 * q1) / q1))])) _
      refine XS.lcmp X2.here hx rfl (hb hby d_jdk_29_method_30_code_41) rfl ?_
      show Steps p.tables e below (T2.setTop (mkF m 42 #[.val (.long q0), .second, .val (.long q1), .second, .val (.long (q0 * q1)), .second, .val (.long q0), .second, .val (.long q1), .second] [(.int (lcmpW ((q0 * q1) / q1) q0))])) _
      refine XS.ifNo X2.here hx rfl (hb hby d_jdk_29_method_30_code_42) rfl ((if0 _ _).trans (teq hc42).2) ?_
      show Steps p.tables e below (T2.setTop (mkF m 45 #[.val (.long q0), .second, .val (.long q1), .second, .val (.long (q0 * q1)), .second, .val (.long q0), .second, .val (.long q1), .second] [])) _
      refine XS.lloadN X2.here hx rfl (hb hby d_jdk_29_method_30_code_45) rfl ?_
      show Steps p.tables e below (T2.setTop (mkF m 46 #[.val (.long q0), .second, .val (.long q1), .second, .val (.long (q0 * q1)), .second, .val (.long q0), .second, .val (.long q1), .second] [(.long q0)])) _
      refine X2.ldc2Long hx hown (mvT hZ (hw _ (List.mem_of_getElem? (i := 80) rfl))) (g := (mkF m 46 #[.val (.long q0), .second, .val (.long q1), .second, .val (.long (q0 * q1)), .second, .val (.long q0), .second, .val (.long q1), .second] [(.long q0)])) rfl (hb hby d_jdk_29_method_30_code_46) _ ?_
      show Steps p.tables e below (T2.setTop (mkF m 49 #[.val (.long q0), .second, .val (.long q1), .second, .val (.long (q0 * q1)), .second, .val (.long q0), .second, .val (.long q1), .second] [(.long (-9223372036854775808 : Int64)), (.long q0)])) _
      refine XS.lcmp X2.here hx rfl (hb hby d_jdk_29_method_30_code_49) rfl ?_
      show Steps p.tables e below (T2.setTop (mkF m 50 #[.val (.long q0), .second, .val (.long q1), .second, .val (.long (q0 * q1)), .second, .val (.long q0), .second, .val (.long q1), .second] [(.int (lcmpW q0 (-9223372036854775808 : Int64)))])) _
      refine XS.ifYes X2.here hx rfl (pc0 := 50) (pc' := 71) rfl (hb hby d_jdk_29_method_30_code_50) rfl ((if0 _ _).trans (feq hc50).2) (by decide) (by decide) ?_
      show Steps p.tables e below (T2.setTop (mkF m 71 #[.val (.long q0), .second, .val (.long q1), .second, .val (.long (q0 * q1)), .second, .val (.long q0), .second, .val (.long q1), .second] [])) _
      refine XS.lload X2.here hx rfl (hb hby d_jdk_29_method_30_code_71) rfl ?_
      show Steps p.tables e below (T2.setTop (mkF m 73 #[.val (.long q0), .second, .val (.long q1), .second, .val (.long (q0 * q1)), .second, .val (.long q0), .second, .val (.long q1), .second] [(.long (q0 * q1))])) _
      exact X2.lreturnOut hx Bd.returns (hb hby d_jdk_29_method_30_code_73) hr
    ·
      show Q_rm3 Z q0 q1 h0 n0 _ T2.heap _
      rw [e2]
      exact ⟨rfl, N2, rfl⟩
theorem d_jdk_29_method_29_code_0 : decode jdk_29_method_29_code 0 = .ok (.lload_n 0, 1) := by decide +kernel
theorem d_jdk_29_method_29_code_1 : decode jdk_29_method_29_code 1 = .ok (.iload_n 2, 1) := by decide +kernel
theorem d_jdk_29_method_29_code_2 : decode jdk_29_method_29_code 2 = .ok (.i2l, 1) := by decide +kernel
theorem d_jdk_29_method_29_code_3 : decode jdk_29_method_29_code 3 = .ok (.invokestatic 118, 3) := by decide +kernel
theorem pd_1 : parseMethodDescriptor "(JJ)J" = some ⟨[.long, .long], some .long⟩ := by decide +kernel
theorem d_jdk_29_method_29_code_6 : decode jdk_29_method_29_code 6 = .ok (.lreturn, 1) := by decide +kernel
theorem ef_rm4 (m : MethodId) (x0 : Int64) (x1 : Int32) : entryFrame m #[(.long x0), (.int x1)] 3 = mkF m 0 #[.val (.long x0), .second, .val (.int x1)] [] := by first | (simp [entryFrame, mkF, argsToLocals, Value.category]; done) | rfl
def Q_rm4 (Z : State) (q0 : Int64) (p1 : Int32) (h0 : Heap) (n0 : Nat) (v : Option Value) (h : Heap) (L : List Loc) : Prop := v = some (.long (q0 * (p1.toInt64))) ∧ Fr n0 L ∧ h = h0
set_option maxRecDepth 65536 in
set_option maxHeartbeats 40000000 in
theorem rm4 (l : Launch) (Z : State) (a0 : Array Value) (hw : ∀ d ∈ tables_1, d.before a0 Z = true) (ws : List Jvm.Cond) (q0 : Int64) (p1 : Int32) (h0 : Heap) (n0 : Nat) (Z0 : n0 ≤ h0.size) (hq0 : ¬ ((lcmpW q0 (0 : Int64)) < (0 : Int32))) (hq1 : ¬ ((lcmpW (p1.toInt64) (0 : Int64)) < (0 : Int32))) (hz : ¬ ((lcmpW (p1.toInt64) (0 : Int64)) = (0 : Int32))) (hd : (lcmpW ((q0 * (p1.toInt64)) / (p1.toInt64)) q0) = (0 : Int32)) (hm : ¬ ((lcmpW q0 (-9223372036854775808 : Int64)) = (0 : Int32))) :
    MetFree l (⟨"java/lang/Math", "multiplyExact", "(JI)J"⟩ : MethodName) (head1 (Jvm.Cond.code (⟨"java/lang/Math", "multiplyExact", "(JI)J"⟩ : MethodName) jdk_29_method_29_code 3 (some .long) :: ws) ({ frames := 2, cells := 0, slots := 0, locals := 34 } : Room)) (fun a U => a = #[(.long q0), (.int p1)] ∧ Z.Warmed39 U.vm ∧ U.heap = h0) (fun _ _ _ _ _ => True) (fun _ U o U' => ∃ v L, o = .returned v ∧ Q_rm4 Z q0 p1 h0 n0 v U'.heap L ∧ FrameEnd U o U' L ({ frames := 2, cells := 0, slots := 0, locals := 34 } : Room).cells ({ frames := 2, cells := 0, slots := 0, locals := 34 } : Room).slots) := by
  refine MetFree.of_bodySF (Jvm.Free.JP.mathPlain rfl (by decide +kernel)) hisR ?_
  intro p e s m args below meth c s₁ Bd hml0 hP hK
  obtain ⟨rfl, hZ, hh⟩ := hP
  have hx := Bd.exec
  have hby := Bd.bytes
  have hml : c.maxLocals = 3 := hml0
  have hown : s.vm.findClass "java/lang/Math" = some m.cls := findClass_of_methodNamed Bd.named
  have hnm := (name_of_methodNamed Bd.named Bd.method).1
  have hlk : meth.locks = false := by first | exact BodyLoose.notSynchronized (by assumption) | exact Body.notSynchronized (by assumption) | assumption
  have X0 : Stand p l e ({ frames := 2, cells := 0, slots := 0, locals := 34 } : Room) s m #[(.long q0), (.int p1)] below meth c s₁ [] 0 0 := Stand.of_body Bd
  have e0 : s₁.heap = h0 := by rw [← hh, Bd.state]; rfl
  have N0 := Fr.nil n0
  have Zn := Z0
  have K0 : ∀ t, Steps p.tables e below (s₁.setTop (mkF m 0 #[.val (.long q0), .second, .val (.int p1)] [])) t → Steps p.tables e below (s₁.setTop (entryFrame m #[(.long q0), (.int p1)] 3)) t := fun t k => castTop (ef_rm4 m q0 p1) k
  obtain ⟨_, _, ⟨T1, L1, k1, n1⟩, -, X1, ⟨Lc1, hQ1, l1, y1, z1⟩, st1⟩ := Jvm.LawKit.callS X0 hx (y := (⟨"java/lang/Math", "multiplyExact", "(JJ)J"⟩ : MethodName)) hown (mvT hZ (hw _ (List.mem_of_getElem? (i := 60) rfl))) (mvT hZ (hw _ (List.mem_of_getElem? (i := 61) rfl))) (mvT hZ (hw _ (List.mem_of_getElem? (i := 3) rfl))) (mvT hZ (hw _ (List.mem_of_getElem? (i := 62) rfl))) (by decide) (backOf (W := 0) (rm3 l Z a0 hw [] q0 (p1.toInt64)  h0 n0 Zn hq0 hq1 hz hd hm) hZ (hw _ (List.mem_of_getElem? (i := 62) rfl)) (hw _ (List.mem_of_getElem? (i := 3) rfl)) (by decide) (by decide)) (g := (mkF m 3 #[.val (.long q0), .second, .val (.int p1)] [(.long (p1.toInt64)), (.long q0)])) rfl (by rw [hml]; rfl) (argsL := [(.long q0), (.long (p1.toInt64))]) (rest := []) (lenOf pd_1 rfl) rfl (by show 2 * 0 + _ ≤ _; exact Nat.le_of_eq rfl) (hb hby d_jdk_29_method_29_code_3) (fun _ _ => ⟨rfl, e0, (by decide : 0 + 0 ≤ _), (by decide : 0 + 0 ≤ _)⟩)
  dsimp only [Pt.U, Pt.locs, Pt.cells, Pt.slots] at X1 l1 y1 z1 st1 hQ1
  subst l1 y1 z1
  obtain ⟨rfl, N1q, e1q⟩ := hQ1
  have N1 := Fr.app N0 N1q
  have e1 : T1.heap = h0 := e1q
  obtain ⟨fs, hr, hrun, hended, hW, hsame⟩ := X1.leave (v := some (.long (q0 * (p1.toInt64)))) (fun h => by rw [Bd.returns] at h; cases h) hlk
  refine ⟨_, _, K0 _ ?_, hrun, hended, _, _, rfl, ?_, ⟨_, rfl⟩, hW, hsame.mono (by decide) (by decide)⟩
  ·
    show Steps p.tables e below (s₁.setTop (mkF m 0 #[.val (.long q0), .second, .val (.int p1)] [])) _
    refine XS.lloadN X0.here hx rfl (hb hby d_jdk_29_method_29_code_0) rfl ?_
    show Steps p.tables e below (s₁.setTop (mkF m 1 #[.val (.long q0), .second, .val (.int p1)] [(.long q0)])) _
    refine XS.iloadN X0.here hx rfl (hb hby d_jdk_29_method_29_code_1) rfl ?_
    show Steps p.tables e below (s₁.setTop (mkF m 2 #[.val (.long q0), .second, .val (.int p1)] [(.int p1), (.long q0)])) _
    refine XS.i2l X0.here hx rfl (hb hby d_jdk_29_method_29_code_2) rfl ?_
    show Steps p.tables e below (s₁.setTop (mkF m 3 #[.val (.long q0), .second, .val (.int p1)] [(.long (p1.toInt64)), (.long q0)])) _
    refine st1 _ ?_
    show Steps p.tables e below (T1.setTop (mkF m 6 #[.val (.long q0), .second, .val (.int p1)] [(.long (q0 * (p1.toInt64)))])) _
    exact X1.lreturnOut hx Bd.returns (hb hby d_jdk_29_method_29_code_6) hr
  ·
    show Q_rm4 Z q0 p1 h0 n0 _ T1.heap _
    rw [e1]
    exact ⟨rfl, N1, rfl⟩
theorem d_jdk_29_method_25_code_0 : decode jdk_29_method_25_code 0 = .ok (.lload_n 0, 1) := by decide +kernel
theorem d_jdk_29_method_25_code_1 : decode jdk_29_method_25_code 1 = .ok (.lload_n 2, 1) := by decide +kernel
theorem d_jdk_29_method_25_code_2 : decode jdk_29_method_25_code 2 = .ok (.ladd, 1) := by decide +kernel
theorem d_jdk_29_method_25_code_3 : decode jdk_29_method_25_code 3 = .ok (.lstore 4, 2) := by decide +kernel
theorem d_jdk_29_method_25_code_5 : decode jdk_29_method_25_code 5 = .ok (.lload_n 0, 1) := by decide +kernel
theorem d_jdk_29_method_25_code_6 : decode jdk_29_method_25_code 6 = .ok (.lload 4, 2) := by decide +kernel
theorem d_jdk_29_method_25_code_8 : decode jdk_29_method_25_code 8 = .ok (.lxor, 1) := by decide +kernel
theorem d_jdk_29_method_25_code_9 : decode jdk_29_method_25_code 9 = .ok (.lload_n 2, 1) := by decide +kernel
theorem d_jdk_29_method_25_code_10 : decode jdk_29_method_25_code 10 = .ok (.lload 4, 2) := by decide +kernel
theorem d_jdk_29_method_25_code_12 : decode jdk_29_method_25_code 12 = .ok (.lxor, 1) := by decide +kernel
theorem d_jdk_29_method_25_code_13 : decode jdk_29_method_25_code 13 = .ok (.land, 1) := by decide +kernel
theorem d_jdk_29_method_25_code_14 : decode jdk_29_method_25_code 14 = .ok (.lconst 0, 1) := by decide +kernel
theorem d_jdk_29_method_25_code_15 : decode jdk_29_method_25_code 15 = .ok (.lcmp, 1) := by decide +kernel
theorem d_jdk_29_method_25_code_16 : decode jdk_29_method_25_code 16 = .ok (.ifCond .ge 13, 3) := by decide +kernel
theorem d_jdk_29_method_25_code_29 : decode jdk_29_method_25_code 29 = .ok (.lload 4, 2) := by decide +kernel
theorem d_jdk_29_method_25_code_31 : decode jdk_29_method_25_code 31 = .ok (.lreturn, 1) := by decide +kernel
theorem ef_rm5 (m : MethodId) (x0 : Int64) (x1 : Int64) : entryFrame m #[(.long x0), (.long x1)] 6 = mkF m 0 #[.val (.long x0), .second, .val (.long x1), .second, .unset, .unset] [] := by first | (simp [entryFrame, mkF, argsToLocals, Value.category]; done) | rfl
def Q_rm5 (Z : State) (q0 : Int64) (q1 : Int64) (h0 : Heap) (n0 : Nat) (v : Option Value) (h : Heap) (L : List Loc) : Prop := v = some (.long (q0 + q1)) ∧ Fr n0 L ∧ h = h0
set_option maxRecDepth 65536 in
set_option maxHeartbeats 40000000 in
theorem rm5 (l : Launch) (Z : State) (a0 : Array Value) (hw : ∀ d ∈ tables_1, d.before a0 Z = true) (ws : List Jvm.Cond) (q0 : Int64) (q1 : Int64) (h0 : Heap) (n0 : Nat) (Z0 : n0 ≤ h0.size) (hov : ¬ ((lcmpW ((q0 ^^^ (q0 + q1)) &&& (q1 ^^^ (q0 + q1))) (0 : Int64)) < (0 : Int32))) :
    MetFree l (⟨"java/lang/Math", "addExact", "(JJ)J"⟩ : MethodName) (head1 (Jvm.Cond.code (⟨"java/lang/Math", "addExact", "(JJ)J"⟩ : MethodName) jdk_29_method_25_code 6 (some .long) :: ws) ({ frames := 0, cells := 0, slots := 0, locals := 0 } : Room)) (fun a U => a = #[(.long q0), (.long q1)] ∧ Z.Warmed39 U.vm ∧ U.heap = h0) (fun _ _ _ _ _ => True) (fun _ U o U' => ∃ v L, o = .returned v ∧ Q_rm5 Z q0 q1 h0 n0 v U'.heap L ∧ FrameEnd U o U' L ({ frames := 0, cells := 0, slots := 0, locals := 0 } : Room).cells ({ frames := 0, cells := 0, slots := 0, locals := 0 } : Room).slots) := by
  refine MetFree.of_bodySF (Jvm.Free.JP.mathPlain rfl (by decide +kernel)) hisR ?_
  intro p e s m args below meth c s₁ Bd hml0 hP hK
  obtain ⟨rfl, hZ, hh⟩ := hP
  have hx := Bd.exec
  have hby := Bd.bytes
  have hml : c.maxLocals = 6 := hml0
  have hown : s.vm.findClass "java/lang/Math" = some m.cls := findClass_of_methodNamed Bd.named
  have hnm := (name_of_methodNamed Bd.named Bd.method).1
  have hlk : meth.locks = false := by first | exact BodyLoose.notSynchronized (by assumption) | exact Body.notSynchronized (by assumption) | assumption
  have X0 : Stand p l e ({ frames := 0, cells := 0, slots := 0, locals := 0 } : Room) s m #[(.long q0), (.long q1)] below meth c s₁ [] 0 0 := Stand.of_body Bd
  have e0 : s₁.heap = h0 := by rw [← hh, Bd.state]; rfl
  have N0 := Fr.nil n0
  have Zn := Z0
  have K0 : ∀ t, Steps p.tables e below (s₁.setTop (mkF m 0 #[.val (.long q0), .second, .val (.long q1), .second, .unset, .unset] [])) t → Steps p.tables e below (s₁.setTop (entryFrame m #[(.long q0), (.long q1)] 6)) t := fun t k => castTop (ef_rm5 m q0 q1) k
  have hc16 : ¬ ((lcmpW ((q0 ^^^ (q0 + q1)) &&& (q1 ^^^ (q0 + q1))) (0 : Int64)) < (0 : Int32)) := hov
  obtain ⟨fs, hr, hrun, hended, hW, hsame⟩ := X0.leave (v := some (.long (q0 + q1))) (fun h => by rw [Bd.returns] at h; cases h) hlk
  refine ⟨_, _, K0 _ ?_, hrun, hended, _, _, rfl, ?_, ⟨_, rfl⟩, hW, hsame.mono (by decide) (by decide)⟩
  ·
    show Steps p.tables e below (s₁.setTop (mkF m 0 #[.val (.long q0), .second, .val (.long q1), .second, .unset, .unset] [])) _
    refine XS.lloadN X0.here hx rfl (hb hby d_jdk_29_method_25_code_0) rfl ?_
    show Steps p.tables e below (s₁.setTop (mkF m 1 #[.val (.long q0), .second, .val (.long q1), .second, .unset, .unset] [(.long q0)])) _
    refine XS.lloadN X0.here hx rfl (hb hby d_jdk_29_method_25_code_1) rfl ?_
    show Steps p.tables e below (s₁.setTop (mkF m 2 #[.val (.long q0), .second, .val (.long q1), .second, .unset, .unset] [(.long q1), (.long q0)])) _
    refine XS.ladd X0.here hx rfl (hb hby d_jdk_29_method_25_code_2) rfl ?_
    show Steps p.tables e below (s₁.setTop (mkF m 3 #[.val (.long q0), .second, .val (.long q1), .second, .unset, .unset] [(.long (q0 + q1))])) _
    refine XS.lstore X0.here hx rfl (hb hby d_jdk_29_method_25_code_3) rfl (l' := #[.val (.long q0), .second, .val (.long q1), .second, .val (.long (q0 + q1)), .second]) rfl ?_
    show Steps p.tables e below (s₁.setTop (mkF m 5 #[.val (.long q0), .second, .val (.long q1), .second, .val (.long (q0 + q1)), .second] [])) _
    refine XS.lloadN X0.here hx rfl (hb hby d_jdk_29_method_25_code_5) rfl ?_
    show Steps p.tables e below (s₁.setTop (mkF m 6 #[.val (.long q0), .second, .val (.long q1), .second, .val (.long (q0 + q1)), .second] [(.long q0)])) _
    refine XS.lload X0.here hx rfl (hb hby d_jdk_29_method_25_code_6) rfl ?_
    show Steps p.tables e below (s₁.setTop (mkF m 8 #[.val (.long q0), .second, .val (.long q1), .second, .val (.long (q0 + q1)), .second] [(.long (q0 + q1)), (.long q0)])) _
    refine XS.lxor X0.here hx rfl (hb hby d_jdk_29_method_25_code_8) rfl ?_
    show Steps p.tables e below (s₁.setTop (mkF m 9 #[.val (.long q0), .second, .val (.long q1), .second, .val (.long (q0 + q1)), .second] [(.long (q0 ^^^ (q0 + q1)))])) _
    refine XS.lloadN X0.here hx rfl (hb hby d_jdk_29_method_25_code_9) rfl ?_
    show Steps p.tables e below (s₁.setTop (mkF m 10 #[.val (.long q0), .second, .val (.long q1), .second, .val (.long (q0 + q1)), .second] [(.long q1), (.long (q0 ^^^ (q0 + q1)))])) _
    refine XS.lload X0.here hx rfl (hb hby d_jdk_29_method_25_code_10) rfl ?_
    show Steps p.tables e below (s₁.setTop (mkF m 12 #[.val (.long q0), .second, .val (.long q1), .second, .val (.long (q0 + q1)), .second] [(.long (q0 + q1)), (.long q1), (.long (q0 ^^^ (q0 + q1)))])) _
    refine XS.lxor X0.here hx rfl (hb hby d_jdk_29_method_25_code_12) rfl ?_
    show Steps p.tables e below (s₁.setTop (mkF m 13 #[.val (.long q0), .second, .val (.long q1), .second, .val (.long (q0 + q1)), .second] [(.long (q1 ^^^ (q0 + q1))), (.long (q0 ^^^ (q0 + q1)))])) _
    refine XS.land X0.here hx rfl (hb hby d_jdk_29_method_25_code_13) rfl ?_
    show Steps p.tables e below (s₁.setTop (mkF m 14 #[.val (.long q0), .second, .val (.long q1), .second, .val (.long (q0 + q1)), .second] [(.long ((q0 ^^^ (q0 + q1)) &&& (q1 ^^^ (q0 + q1))))])) _
    refine XS.lconst X0.here hx rfl (hb hby d_jdk_29_method_25_code_14) ?_
    show Steps p.tables e below (s₁.setTop (mkF m 15 #[.val (.long q0), .second, .val (.long q1), .second, .val (.long (q0 + q1)), .second] [(.long (0 : Int64)), (.long ((q0 ^^^ (q0 + q1)) &&& (q1 ^^^ (q0 + q1))))])) _
    refine XS.lcmp X0.here hx rfl (hb hby d_jdk_29_method_25_code_15) rfl ?_
    show Steps p.tables e below (s₁.setTop (mkF m 16 #[.val (.long q0), .second, .val (.long q1), .second, .val (.long (q0 + q1)), .second] [(.int (lcmpW ((q0 ^^^ (q0 + q1)) &&& (q1 ^^^ (q0 + q1))) (0 : Int64)))])) _
    refine XS.ifYes X0.here hx rfl (pc0 := 16) (pc' := 29) rfl (hb hby d_jdk_29_method_25_code_16) rfl ((if0 _ _).trans (flt hc16).2.1) (by decide) (by decide) ?_
    show Steps p.tables e below (s₁.setTop (mkF m 29 #[.val (.long q0), .second, .val (.long q1), .second, .val (.long (q0 + q1)), .second] [])) _
    refine XS.lload X0.here hx rfl (hb hby d_jdk_29_method_25_code_29) rfl ?_
    show Steps p.tables e below (s₁.setTop (mkF m 31 #[.val (.long q0), .second, .val (.long q1), .second, .val (.long (q0 + q1)), .second] [(.long (q0 + q1))])) _
    exact X0.lreturnOut hx Bd.returns (hb hby d_jdk_29_method_25_code_31) hr
  ·
    show Q_rm5 Z q0 q1 h0 n0 _ s₁.heap _
    rw [e0]
    exact ⟨rfl, N0, rfl⟩
theorem d_jdk_35_method_42_code_0 : decode jdk_35_method_42_code 0 = .ok (.lload_n 0, 1) := by decide +kernel
theorem d_jdk_35_method_42_code_1 : decode jdk_35_method_42_code 1 = .ok (.lload_n 2, 1) := by decide +kernel
theorem d_jdk_35_method_42_code_2 : decode jdk_35_method_42_code 2 = .ok (.lcmp, 1) := by decide +kernel
theorem d_jdk_35_method_42_code_3 : decode jdk_35_method_42_code 3 = .ok (.ifCond .ge 7, 3) := by decide +kernel
theorem d_jdk_35_method_42_code_10 : decode jdk_35_method_42_code 10 = .ok (.lload_n 0, 1) := by decide +kernel
theorem d_jdk_35_method_42_code_11 : decode jdk_35_method_42_code 11 = .ok (.lload_n 2, 1) := by decide +kernel
theorem d_jdk_35_method_42_code_12 : decode jdk_35_method_42_code 12 = .ok (.lcmp, 1) := by decide +kernel
theorem d_jdk_35_method_42_code_13 : decode jdk_35_method_42_code 13 = .ok (.ifCond .ne 7, 3) := by decide +kernel
theorem d_jdk_35_method_42_code_16 : decode jdk_35_method_42_code 16 = .ok (.iconst 0, 1) := by decide +kernel
theorem d_jdk_35_method_42_code_17 : decode jdk_35_method_42_code 17 = .ok (.goto 4, 3) := by decide +kernel
theorem d_jdk_35_method_42_code_21 : decode jdk_35_method_42_code 21 = .ok (.ireturn, 1) := by decide +kernel
theorem pn_2 : plainName "java/lang/Long" = true := by first | (simp [plainName, overriddenIn]; done) | decide +kernel
theorem ef_rm6 (m : MethodId) (x0 : Int64) (x1 : Int64) : entryFrame m #[(.long x0), (.long x1)] 4 = mkF m 0 #[.val (.long x0), .second, .val (.long x1), .second] [] := by first | (simp [entryFrame, mkF, argsToLocals, Value.category]; done) | rfl
def Q_rm6 (Z : State) (q0 : Int64) (q1 : Int64) (h0 : Heap) (n0 : Nat) (v : Option Value) (h : Heap) (L : List Loc) : Prop := v = some (.int 0) ∧ Fr n0 L ∧ h = h0
set_option maxRecDepth 65536 in
set_option maxHeartbeats 40000000 in
theorem rm6 (l : Launch) (Z : State) (a0 : Array Value) (hw : ∀ d ∈ tables_1, d.before a0 Z = true) (ws : List Jvm.Cond) (q0 : Int64) (q1 : Int64) (h0 : Heap) (n0 : Nat) (Z0 : n0 ≤ h0.size) (he : q0 = q1) :
    MetFree l (⟨"java/lang/Long", "compare", "(JJ)I"⟩ : MethodName) (head1 (Jvm.Cond.code (⟨"java/lang/Long", "compare", "(JJ)I"⟩ : MethodName) jdk_35_method_42_code 4 (some .int) :: ws) ({ frames := 0, cells := 0, slots := 0, locals := 0 } : Room)) (fun a U => a = #[(.long q0), (.long q1)] ∧ Z.Warmed39 U.vm ∧ U.heap = h0) (fun _ _ _ _ _ => True) (fun _ U o U' => ∃ v L, o = .returned v ∧ Q_rm6 Z q0 q1 h0 n0 v U'.heap L ∧ FrameEnd U o U' L ({ frames := 0, cells := 0, slots := 0, locals := 0 } : Room).cells ({ frames := 0, cells := 0, slots := 0, locals := 0 } : Room).slots) := by
  refine MetFree.of_bodySF (plainFor_of_name pn_2) hisR ?_
  intro p e s m args below meth c s₁ Bd hml0 hP hK
  obtain ⟨rfl, hZ, hh⟩ := hP
  have hx := Bd.exec
  have hby := Bd.bytes
  have hml : c.maxLocals = 4 := hml0
  have hown : s.vm.findClass "java/lang/Long" = some m.cls := findClass_of_methodNamed Bd.named
  have hnm := (name_of_methodNamed Bd.named Bd.method).1
  have hlk : meth.locks = false := by first | exact BodyLoose.notSynchronized (by assumption) | exact Body.notSynchronized (by assumption) | assumption
  have X0 : Stand p l e ({ frames := 0, cells := 0, slots := 0, locals := 0 } : Room) s m #[(.long q0), (.long q1)] below meth c s₁ [] 0 0 := Stand.of_body Bd
  have e0 : s₁.heap = h0 := by rw [← hh, Bd.state]; rfl
  have N0 := Fr.nil n0
  have Zn := Z0
  have K0 : ∀ t, Steps p.tables e below (s₁.setTop (mkF m 0 #[.val (.long q0), .second, .val (.long q1), .second] [])) t → Steps p.tables e below (s₁.setTop (entryFrame m #[(.long q0), (.long q1)] 4)) t := fun t k => castTop (ef_rm6 m q0 q1) k
  have hc3 : ¬ ((lcmpW q0 q1) < (0 : Int32)) := (by rw [lw_lt, he, Int64.lt_iff_toInt_lt]; omega)
  have hc13 : (lcmpW q0 q1) = (0 : Int32) := ((lw_eq _ _).mpr he)
  obtain ⟨fs, hr, hrun, hended, hW, hsame⟩ := X0.leave (v := some (.int (0 : Int32))) (fun h => by rw [Bd.returns] at h; cases h) hlk
  refine ⟨_, _, K0 _ ?_, hrun, hended, _, _, rfl, ?_, ⟨_, rfl⟩, hW, hsame.mono (by decide) (by decide)⟩
  ·
    show Steps p.tables e below (s₁.setTop (mkF m 0 #[.val (.long q0), .second, .val (.long q1), .second] [])) _
    refine XS.lloadN X0.here hx rfl (hb hby d_jdk_35_method_42_code_0) rfl ?_
    show Steps p.tables e below (s₁.setTop (mkF m 1 #[.val (.long q0), .second, .val (.long q1), .second] [(.long q0)])) _
    refine XS.lloadN X0.here hx rfl (hb hby d_jdk_35_method_42_code_1) rfl ?_
    show Steps p.tables e below (s₁.setTop (mkF m 2 #[.val (.long q0), .second, .val (.long q1), .second] [(.long q1), (.long q0)])) _
    refine XS.lcmp X0.here hx rfl (hb hby d_jdk_35_method_42_code_2) rfl ?_
    show Steps p.tables e below (s₁.setTop (mkF m 3 #[.val (.long q0), .second, .val (.long q1), .second] [(.int (lcmpW q0 q1))])) _
    refine XS.ifYes X0.here hx rfl (pc0 := 3) (pc' := 10) rfl (hb hby d_jdk_35_method_42_code_3) rfl ((if0 _ _).trans (flt hc3).2.1) (by decide) (by decide) ?_
    show Steps p.tables e below (s₁.setTop (mkF m 10 #[.val (.long q0), .second, .val (.long q1), .second] [])) _
    refine XS.lloadN X0.here hx rfl (hb hby d_jdk_35_method_42_code_10) rfl ?_
    show Steps p.tables e below (s₁.setTop (mkF m 11 #[.val (.long q0), .second, .val (.long q1), .second] [(.long q0)])) _
    refine XS.lloadN X0.here hx rfl (hb hby d_jdk_35_method_42_code_11) rfl ?_
    show Steps p.tables e below (s₁.setTop (mkF m 12 #[.val (.long q0), .second, .val (.long q1), .second] [(.long q1), (.long q0)])) _
    refine XS.lcmp X0.here hx rfl (hb hby d_jdk_35_method_42_code_12) rfl ?_
    show Steps p.tables e below (s₁.setTop (mkF m 13 #[.val (.long q0), .second, .val (.long q1), .second] [(.int (lcmpW q0 q1))])) _
    refine XS.ifNo X0.here hx rfl (hb hby d_jdk_35_method_42_code_13) rfl ((if0 _ _).trans (teq hc13).2) ?_
    show Steps p.tables e below (s₁.setTop (mkF m 16 #[.val (.long q0), .second, .val (.long q1), .second] [])) _
    refine XS.iconst X0.here hx rfl (hb hby d_jdk_35_method_42_code_16) ?_
    show Steps p.tables e below (s₁.setTop (mkF m 17 #[.val (.long q0), .second, .val (.long q1), .second] [(.int (0 : Int32))])) _
    refine XS.goto X0.here hx rfl (pc0 := 17) (pc' := 21) rfl (hb hby d_jdk_35_method_42_code_17) (by decide) (by decide) ?_
    show Steps p.tables e below (s₁.setTop (mkF m 21 #[.val (.long q0), .second, .val (.long q1), .second] [(.int (0 : Int32))])) _
    exact retI X0 hx Bd.returns (hb hby d_jdk_35_method_42_code_21) hr
  ·
    show Q_rm6 Z q0 q1 h0 n0 _ s₁.heap _
    rw [e0]
    exact ⟨rfl, N0, rfl⟩
theorem d_jdk_30_method_1_code_0 : decode jdk_30_method_1_code 0 = .ok (.aload_n 0, 1) := by decide +kernel
theorem d_jdk_30_method_1_code_1 : decode jdk_30_method_1_code 1 = .ok (.invokespecial 1, 3) := by decide +kernel
theorem d_jdk_30_method_1_code_4 : decode jdk_30_method_1_code 4 = .ok (.return_, 1) := by decide +kernel
theorem pn_3 : plainName "java/lang/Record" = true := by first | (simp [plainName, overriddenIn]; done) | decide +kernel
theorem ef_rm7 (m : MethodId) (x0 : Addr) : entryFrame m #[(.ref x0)] 1 = mkF m 0 #[.val (.ref x0)] [] := by first | (simp [entryFrame, mkF, argsToLocals, Value.category]; done) | rfl
def Q_rm7 (Z : State) (r0 : Addr) (h0 : Heap) (n0 : Nat) (v : Option Value) (h : Heap) (L : List Loc) : Prop := v = none ∧ Fr n0 L ∧ h = h0
set_option maxRecDepth 65536 in
set_option maxHeartbeats 40000000 in
theorem rm7 (l : Launch) (Z : State) (a0 : Array Value) (hw : ∀ d ∈ tables_1, d.before a0 Z = true) (ws : List Jvm.Cond) (r0 : Addr) (h0 : Heap) (n0 : Nat) (Z0 : n0 ≤ h0.size) :
    MetFree l (⟨"java/lang/Record", "<init>", "()V"⟩ : MethodName) (head1 (Jvm.Cond.code (⟨"java/lang/Record", "<init>", "()V"⟩ : MethodName) jdk_30_method_1_code 1 none :: ws) ({ frames := 1, cells := 0, slots := 0, locals := 12 } : Room)) (fun a U => a = #[(.ref r0)] ∧ Z.Warmed39 U.vm ∧ U.heap = h0) (fun _ _ _ _ _ => True) (fun _ U o U' => ∃ v L, o = .returned v ∧ Q_rm7 Z r0 h0 n0 v U'.heap L ∧ FrameEnd U o U' L ({ frames := 1, cells := 0, slots := 0, locals := 12 } : Room).cells ({ frames := 1, cells := 0, slots := 0, locals := 12 } : Room).slots) := by
  refine MetFree.of_bodySF (plainFor_of_name pn_3) hisR ?_
  intro p e s m args below meth c s₁ Bd hml0 hP hK
  obtain ⟨rfl, hZ, hh⟩ := hP
  have hx := Bd.exec
  have hby := Bd.bytes
  have hml : c.maxLocals = 1 := hml0
  have hown : s.vm.findClass "java/lang/Record" = some m.cls := findClass_of_methodNamed Bd.named
  have hnm := (name_of_methodNamed Bd.named Bd.method).1
  have hlk : meth.locks = false := by first | exact BodyLoose.notSynchronized (by assumption) | exact Body.notSynchronized (by assumption) | assumption
  have X0 : Stand p l e ({ frames := 1, cells := 0, slots := 0, locals := 12 } : Room) s m #[(.ref r0)] below meth c s₁ [] 0 0 := Stand.of_body Bd
  have e0 : s₁.heap = h0 := by rw [← hh, Bd.state]; rfl
  have N0 := Fr.nil n0
  have Zn := Z0
  have K0 : ∀ t, Steps p.tables e below (s₁.setTop (mkF m 0 #[.val (.ref r0)] [])) t → Steps p.tables e below (s₁.setTop (entryFrame m #[(.ref r0)] 1)) t := fun t k => castTop (ef_rm7 m r0) k
  obtain ⟨T1, X1, e1, st1⟩ := initO X0 hx hZ hown (hw _ (List.mem_of_getElem? (i := 16) rfl)) (hw _ (List.mem_of_getElem? (i := 17) rfl)) (hw _ (List.mem_of_getElem? (i := 18) rfl)) e0 (g := (mkF m 1 #[.val (.ref r0)] [(.ref r0)])) rfl (by rw [hml]; rfl) rfl (hb hby d_jdk_30_method_1_code_1) (by decide) (W := 0) (by show 2 * 0 + _ ≤ _; exact Nat.le_of_eq rfl) (by decide)
  obtain ⟨fs, hr, hrun, hended, hW, hsame⟩ := X1.leave (v := none) (fun _ => rfl) hlk
  refine ⟨_, _, K0 _ ?_, hrun, hended, _, _, rfl, ?_, ⟨_, rfl⟩, hW, hsame.mono (by decide) (by decide)⟩
  ·
    show Steps p.tables e below (s₁.setTop (mkF m 0 #[.val (.ref r0)] [])) _
    refine XS.aloadN X0.here hx rfl (hb hby d_jdk_30_method_1_code_0) rfl rfl ?_
    show Steps p.tables e below (s₁.setTop (mkF m 1 #[.val (.ref r0)] [(.ref r0)])) _
    refine st1 _ ?_
    show Steps p.tables e below (T1.setTop (mkF m 4 #[.val (.ref r0)] [])) _
    exact X1.returnOut hx Bd.returns (hb hby d_jdk_30_method_1_code_4) hr
  ·
    show Q_rm7 Z r0 h0 n0 _ T1.heap _
    rw [e1]
    exact ⟨rfl, N0, rfl⟩
theorem d_prog_10_method_1_code_0 : decode prog_10_method_1_code 0 = .ok (.aload_n 0, 1) := by decide +kernel
theorem d_prog_10_method_1_code_1 : decode prog_10_method_1_code 1 = .ok (.invokespecial 3, 3) := by decide +kernel
theorem pd_4 : parseMethodDescriptor "()V" = some ⟨[], none⟩ := by decide +kernel
theorem d_prog_10_method_1_code_4 : decode prog_10_method_1_code 4 = .ok (.lload_n 1, 1) := by decide +kernel
theorem d_prog_10_method_1_code_5 : decode prog_10_method_1_code 5 = .ok (.lconst 1, 1) := by decide +kernel
theorem d_prog_10_method_1_code_6 : decode prog_10_method_1_code 6 = .ok (.lcmp, 1) := by decide +kernel
theorem d_prog_10_method_1_code_7 : decode prog_10_method_1_code 7 = .ok (.ifCond .lt 11, 3) := by decide +kernel
theorem d_prog_10_method_1_code_10 : decode prog_10_method_1_code 10 = .ok (.lload_n 1, 1) := by decide +kernel
theorem d_prog_10_method_1_code_11 : decode prog_10_method_1_code 11 = .ok (.ldc2_w 11, 3) := by decide +kernel
theorem d_prog_10_method_1_code_14 : decode prog_10_method_1_code 14 = .ok (.lcmp, 1) := by decide +kernel
theorem d_prog_10_method_1_code_15 : decode prog_10_method_1_code 15 = .ok (.ifCond .le 13, 3) := by decide +kernel
theorem d_prog_10_method_1_code_28 : decode prog_10_method_1_code 28 = .ok (.aload_n 0, 1) := by decide +kernel
theorem d_prog_10_method_1_code_29 : decode prog_10_method_1_code 29 = .ok (.lload_n 1, 1) := by decide +kernel
theorem d_prog_10_method_1_code_30 : decode prog_10_method_1_code 30 = .ok (.putfield 21, 3) := by decide +kernel
theorem d_prog_10_method_1_code_33 : decode prog_10_method_1_code 33 = .ok (.return_, 1) := by decide +kernel
theorem pn_5 : plainName "com/example/keylatch/keylatch/Lease" = true := by first | (simp [plainName, overriddenIn]; done) | decide +kernel
theorem ef_rm8 (m : MethodId) (x0 : Addr) (x1 : Int64) : entryFrame m #[(.ref x0), (.long x1)] 3 = mkF m 0 #[.val (.ref x0), .val (.long x1), .second] [] := by first | (simp [entryFrame, mkF, argsToLocals, Value.category]; done) | rfl
def Q_rm8 (Z : State) (r0 : Addr) (q1 : Int64) (h0 : Heap) (n0 : Nat) (v : Option Value) (h : Heap) (L : List Loc) : Prop := v = none ∧ Fr n0 L ∧ Keep h0 h [r0] ∧ Exa Z h r0 "com/example/keylatch/keylatch/Lease" ∧ Fld Z h r0 "com/example/keylatch/keylatch/Lease" "millis" "J" (.long q1)
set_option maxRecDepth 65536 in
set_option maxHeartbeats 40000000 in
theorem rm8 (l : Launch) (Z : State) (a0 : Array Value) (hw : ∀ d ∈ tables_1, d.before a0 Z = true) (ws : List Jvm.Cond) (r0 : Addr) (q1 : Int64) (h0 : Heap) (n0 : Nat) (Z0 : n0 ≤ h0.size) (E_r0 : Exa Z h0 r0 "com/example/keylatch/keylatch/Lease") (g_r0 : n0 ≤ r0) (F_millis_r0 : Fld Z h0 r0 "com/example/keylatch/keylatch/Lease" "millis" "J" (.long (0 : Int64))) (h1 : ¬ ((lcmpW q1 (1 : Int64)) < (0 : Int32))) (h2 : ¬ ((0 : Int32) < (lcmpW q1 (4611686018427387903 : Int64)))) :
    MetFree l (⟨"com/example/keylatch/keylatch/Lease", "<init>", "(J)V"⟩ : MethodName) (head1 (Jvm.Cond.code (⟨"com/example/keylatch/keylatch/Lease", "<init>", "(J)V"⟩ : MethodName) prog_10_method_1_code 3 none :: ws) ({ frames := 2, cells := 0, slots := 0, locals := 24 } : Room)) (fun a U => a = #[(.ref r0), (.long q1)] ∧ Z.Warmed39 U.vm ∧ U.heap = h0) (fun _ _ _ _ _ => True) (fun _ U o U' => ∃ v L, o = .returned v ∧ Q_rm8 Z r0 q1 h0 n0 v U'.heap L ∧ FrameEnd U o U' L ({ frames := 2, cells := 0, slots := 0, locals := 24 } : Room).cells ({ frames := 2, cells := 0, slots := 0, locals := 24 } : Room).slots) := by
  refine MetFree.of_bodySF (plainFor_of_name pn_5) hisR ?_
  intro p e s m args below meth c s₁ Bd hml0 hP hK
  obtain ⟨rfl, hZ, hh⟩ := hP
  have hx := Bd.exec
  have hby := Bd.bytes
  have hml : c.maxLocals = 3 := hml0
  have hown : s.vm.findClass "com/example/keylatch/keylatch/Lease" = some m.cls := findClass_of_methodNamed Bd.named
  have hnm := (name_of_methodNamed Bd.named Bd.method).1
  have hlk : meth.locks = false := by first | exact BodyLoose.notSynchronized (by assumption) | exact Body.notSynchronized (by assumption) | assumption
  have X0 : Stand p l e ({ frames := 2, cells := 0, slots := 0, locals := 24 } : Room) s m #[(.ref r0), (.long q1)] below meth c s₁ [] 0 0 := Stand.of_body Bd
  have e0 : s₁.heap = h0 := by rw [← hh, Bd.state]; rfl
  have N0 := Fr.nil n0
  have Zn := Z0
  have K0 : ∀ t, Steps p.tables e below (s₁.setTop (mkF m 0 #[.val (.ref r0), .val (.long q1), .second] [])) t → Steps p.tables e below (s₁.setTop (entryFrame m #[(.ref r0), (.long q1)] 3)) t := fun t k => castTop (ef_rm8 m r0 q1) k
  have Kp : Keep h0 h0 [r0] := Keep.refl h0 [r0]
  obtain ⟨_, _, ⟨T1, L1, k1, n1⟩, -, X1, ⟨Lc1, hQ1, l1, y1, z1⟩, st1⟩ := X0.specialBack hx (y := (⟨"java/lang/Record", "<init>", "()V"⟩ : MethodName)) rfl hown (mvT hZ (hw _ (List.mem_of_getElem? (i := 11) rfl))) (mvT hZ (hw _ (List.mem_of_getElem? (i := 12) rfl))) (mvT hZ (hw _ (List.mem_of_getElem? (i := 15) rfl))) (by decide) (backOf (W := 0) (rm7 l Z a0 hw [] r0  h0 n0 Zn ) hZ (hw _ (List.mem_of_getElem? (i := 15) rfl)) (hw _ (List.mem_of_getElem? (i := 14) rfl)) (by decide) (by decide)) (g := (mkF m 1 #[.val (.ref r0), .val (.long q1), .second] [(.ref r0)])) rfl (by rw [hml]; rfl) (Steps.refl _) (a := r0) (argsL := []) (rest := []) (lenOf pd_4 rfl) rfl (by show 2 * 0 + _ ≤ _; exact Nat.le_of_eq rfl) (hb hby d_prog_10_method_1_code_1) (fun _ _ => ⟨rfl, e0, (by decide : 0 + 0 ≤ _), (by decide : 0 + 0 ≤ _)⟩)
  dsimp only [Pt.U, Pt.locs, Pt.cells, Pt.slots] at X1 l1 y1 z1 st1 hQ1
  subst l1 y1 z1
  obtain ⟨rfl, N1q, e1q⟩ := hQ1
  have N1 := Fr.app N0 N1q
  have e1 : T1.heap = h0 := e1q
  have hc7 : ¬ ((lcmpW q1 (1 : Int64)) < (0 : Int32)) := h1
  have hc15 : ¬ ((0 : Int32) < (lcmpW q1 (4611686018427387903 : Int64))) := h2
  obtain ⟨T2, h2, X2, e2, W2, st2⟩ := putF X1 hx hZ hown (host := "") (Or.inl (hw _ (List.mem_of_getElem? (i := 20) rfl))) Via.refl e1 F_millis_r0 E_r0 (Or.inr ⟨(hw _ (List.mem_of_getElem? (i := 21) rfl)), rfl, hnm⟩) (hw _ (List.mem_of_getElem? (i := 6) rfl)) (ty := .long) (by decide) rfl rfl (g := (mkF m 30 #[.val (.ref r0), .val (.long q1), .second] [(.long q1), (.ref r0)])) rfl rfl (hb hby d_prog_10_method_1_code_30)
  replace E_r0 := E_r0.wr W2
  have F_millis_r0 := F_millis_r0.same W2
  have N2 := Fr.snoc X2 N1 g_r0
  have Kp := Kp.wr W2 (Or.inl (List.mem_of_getElem? (i := 0) rfl))
  replace Zn := Nat.le_trans Zn (Keep.of_wr W2).1
  obtain ⟨fs, hr, hrun, hended, hW, hsame⟩ := X2.leave (v := none) (fun _ => rfl) hlk
  refine ⟨_, _, K0 _ ?_, hrun, hended, _, _, rfl, ?_, ⟨_, rfl⟩, hW, hsame.mono (by decide) (by decide)⟩
  ·
    show Steps p.tables e below (s₁.setTop (mkF m 0 #[.val (.ref r0), .val (.long q1), .second] [])) _
    refine XS.aloadN X0.here hx rfl (hb hby d_prog_10_method_1_code_0) rfl rfl ?_
    show Steps p.tables e below (s₁.setTop (mkF m 1 #[.val (.ref r0), .val (.long q1), .second] [(.ref r0)])) _
    refine st1.trans ?_
    show Steps p.tables e below (T1.setTop (mkF m 4 #[.val (.ref r0), .val (.long q1), .second] [])) _
    refine XS.lloadN X1.here hx rfl (hb hby d_prog_10_method_1_code_4) rfl ?_
    show Steps p.tables e below (T1.setTop (mkF m 5 #[.val (.ref r0), .val (.long q1), .second] [(.long q1)])) _
    refine XS.lconst X1.here hx rfl (hb hby d_prog_10_method_1_code_5) ?_
    show Steps p.tables e below (T1.setTop (mkF m 6 #[.val (.ref r0), .val (.long q1), .second] [(.long (1 : Int64)), (.long q1)])) _
    refine XS.lcmp X1.here hx rfl (hb hby d_prog_10_method_1_code_6) rfl ?_
    show Steps p.tables e below (T1.setTop (mkF m 7 #[.val (.ref r0), .val (.long q1), .second] [(.int (lcmpW q1 (1 : Int64)))])) _
    refine XS.ifNo X1.here hx rfl (hb hby d_prog_10_method_1_code_7) rfl ((if0 _ _).trans (flt hc7).1) ?_
    show Steps p.tables e below (T1.setTop (mkF m 10 #[.val (.ref r0), .val (.long q1), .second] [])) _
    refine XS.lloadN X1.here hx rfl (hb hby d_prog_10_method_1_code_10) rfl ?_
    show Steps p.tables e below (T1.setTop (mkF m 11 #[.val (.ref r0), .val (.long q1), .second] [(.long q1)])) _
    refine X1.ldc2Long hx hown (mvT hZ (hw _ (List.mem_of_getElem? (i := 19) rfl))) (g := (mkF m 11 #[.val (.ref r0), .val (.long q1), .second] [(.long q1)])) rfl (hb hby d_prog_10_method_1_code_11) _ ?_
    show Steps p.tables e below (T1.setTop (mkF m 14 #[.val (.ref r0), .val (.long q1), .second] [(.long (4611686018427387903 : Int64)), (.long q1)])) _
    refine XS.lcmp X1.here hx rfl (hb hby d_prog_10_method_1_code_14) rfl ?_
    show Steps p.tables e below (T1.setTop (mkF m 15 #[.val (.ref r0), .val (.long q1), .second] [(.int (lcmpW q1 (4611686018427387903 : Int64)))])) _
    refine XS.ifYes X1.here hx rfl (pc0 := 15) (pc' := 28) rfl (hb hby d_prog_10_method_1_code_15) rfl ((if0 _ _).trans (flt hc15).2.2.2) (by decide) (by decide) ?_
    show Steps p.tables e below (T1.setTop (mkF m 28 #[.val (.ref r0), .val (.long q1), .second] [])) _
    refine XS.aloadN X1.here hx rfl (hb hby d_prog_10_method_1_code_28) rfl rfl ?_
    show Steps p.tables e below (T1.setTop (mkF m 29 #[.val (.ref r0), .val (.long q1), .second] [(.ref r0)])) _
    refine XS.lloadN X1.here hx rfl (hb hby d_prog_10_method_1_code_29) rfl ?_
    show Steps p.tables e below (T1.setTop (mkF m 30 #[.val (.ref r0), .val (.long q1), .second] [(.long q1), (.ref r0)])) _
    refine st2 _ ?_
    show Steps p.tables e below (T2.setTop (mkF m 33 #[.val (.ref r0), .val (.long q1), .second] [])) _
    exact X2.returnOut hx Bd.returns (hb hby d_prog_10_method_1_code_33) hr
  ·
    show Q_rm8 Z r0 q1 h0 n0 _ T2.heap _
    rw [e2]
    exact ⟨rfl, N2, Kp, E_r0, F_millis_r0⟩
theorem d_jdk_2316_method_17_code_0 : decode jdk_2316_method_17_code 0 = .ok (.aload_n 0, 1) := by decide +kernel
theorem d_jdk_2316_method_17_code_1 : decode jdk_2316_method_17_code 1 = .ok (.invokespecial 218, 3) := by decide +kernel
theorem d_jdk_2316_method_17_code_4 : decode jdk_2316_method_17_code 4 = .ok (.aload_n 0, 1) := by decide +kernel
theorem d_jdk_2316_method_17_code_5 : decode jdk_2316_method_17_code 5 = .ok (.lload_n 1, 1) := by decide +kernel
theorem d_jdk_2316_method_17_code_6 : decode jdk_2316_method_17_code 6 = .ok (.putfield 221, 3) := by decide +kernel
theorem d_jdk_2316_method_17_code_9 : decode jdk_2316_method_17_code 9 = .ok (.aload_n 0, 1) := by decide +kernel
theorem d_jdk_2316_method_17_code_10 : decode jdk_2316_method_17_code 10 = .ok (.iload_n 3, 1) := by decide +kernel
theorem d_jdk_2316_method_17_code_11 : decode jdk_2316_method_17_code 11 = .ok (.putfield 224, 3) := by decide +kernel
theorem d_jdk_2316_method_17_code_14 : decode jdk_2316_method_17_code 14 = .ok (.return_, 1) := by decide +kernel
theorem pn_6 : plainName "java/time/Duration" = true := by first | (simp [plainName, overriddenIn]; done) | decide +kernel
theorem ef_rm9 (m : MethodId) (x0 : Addr) (x1 : Int64) (x2 : Int32) : entryFrame m #[(.ref x0), (.long x1), (.int x2)] 4 = mkF m 0 #[.val (.ref x0), .val (.long x1), .second, .val (.int x2)] [] := by first | (simp [entryFrame, mkF, argsToLocals, Value.category]; done) | rfl
def Q_rm9 (Z : State) (r0 : Addr) (q1 : Int64) (p2 : Int32) (h0 : Heap) (n0 : Nat) (v : Option Value) (h : Heap) (L : List Loc) : Prop := v = none ∧ Fr n0 L ∧ Keep h0 h [r0] ∧ Exa Z h r0 "java/time/Duration" ∧ Fld Z h r0 "java/time/Duration" "seconds" "J" (.long q1) ∧ Fld Z h r0 "java/time/Duration" "nanos" "I" (.int p2)
set_option maxRecDepth 65536 in
set_option maxHeartbeats 40000000 in
theorem rm9 (l : Launch) (Z : State) (a0 : Array Value) (hw : ∀ d ∈ tables_1, d.before a0 Z = true) (ws : List Jvm.Cond) (r0 : Addr) (q1 : Int64) (p2 : Int32) (h0 : Heap) (n0 : Nat) (Z0 : n0 ≤ h0.size) (E_r0 : Exa Z h0 r0 "java/time/Duration") (g_r0 : n0 ≤ r0) (F_seconds_r0 : Fld Z h0 r0 "java/time/Duration" "seconds" "J" (.long (0 : Int64))) (F_nanos_r0 : Fld Z h0 r0 "java/time/Duration" "nanos" "I" (.int (0 : Int32))) :
    MetFree l (⟨"java/time/Duration", "<init>", "(JI)V"⟩ : MethodName) (head1 (Jvm.Cond.code (⟨"java/time/Duration", "<init>", "(JI)V"⟩ : MethodName) jdk_2316_method_17_code 4 none :: ws) ({ frames := 1, cells := 0, slots := 0, locals := 12 } : Room)) (fun a U => a = #[(.ref r0), (.long q1), (.int p2)] ∧ Z.Warmed39 U.vm ∧ U.heap = h0) (fun _ _ _ _ _ => True) (fun _ U o U' => ∃ v L, o = .returned v ∧ Q_rm9 Z r0 q1 p2 h0 n0 v U'.heap L ∧ FrameEnd U o U' L ({ frames := 1, cells := 0, slots := 0, locals := 12 } : Room).cells ({ frames := 1, cells := 0, slots := 0, locals := 12 } : Room).slots) := by
  refine MetFree.of_bodySF (plainFor_of_name pn_6) hisR ?_
  intro p e s m args below meth c s₁ Bd hml0 hP hK
  obtain ⟨rfl, hZ, hh⟩ := hP
  have hx := Bd.exec
  have hby := Bd.bytes
  have hml : c.maxLocals = 4 := hml0
  have hown : s.vm.findClass "java/time/Duration" = some m.cls := findClass_of_methodNamed Bd.named
  have hnm := (name_of_methodNamed Bd.named Bd.method).1
  have hlk : meth.locks = false := by first | exact BodyLoose.notSynchronized (by assumption) | exact Body.notSynchronized (by assumption) | assumption
  have X0 : Stand p l e ({ frames := 1, cells := 0, slots := 0, locals := 12 } : Room) s m #[(.ref r0), (.long q1), (.int p2)] below meth c s₁ [] 0 0 := Stand.of_body Bd
  have e0 : s₁.heap = h0 := by rw [← hh, Bd.state]; rfl
  have N0 := Fr.nil n0
  have Zn := Z0
  have K0 : ∀ t, Steps p.tables e below (s₁.setTop (mkF m 0 #[.val (.ref r0), .val (.long q1), .second, .val (.int p2)] [])) t → Steps p.tables e below (s₁.setTop (entryFrame m #[(.ref r0), (.long q1), (.int p2)] 4)) t := fun t k => castTop (ef_rm9 m r0 q1 p2) k
  have Kp : Keep h0 h0 [r0] := Keep.refl h0 [r0]
  obtain ⟨T1, X1, e1, st1⟩ := initO X0 hx hZ hown (hw _ (List.mem_of_getElem? (i := 44) rfl)) (hw _ (List.mem_of_getElem? (i := 17) rfl)) (hw _ (List.mem_of_getElem? (i := 18) rfl)) e0 (g := (mkF m 1 #[.val (.ref r0), .val (.long q1), .second, .val (.int p2)] [(.ref r0)])) rfl (by rw [hml]; rfl) rfl (hb hby d_jdk_2316_method_17_code_1) (by decide) (W := 0) (by show 2 * 0 + _ ≤ _; exact Nat.le_of_eq rfl) (by decide)
  obtain ⟨T2, h2, X2, e2, W2, st2⟩ := putF X1 hx hZ hown (host := "") (Or.inl (hw _ (List.mem_of_getElem? (i := 45) rfl))) Via.refl e1 F_seconds_r0 E_r0 (Or.inr ⟨(hw _ (List.mem_of_getElem? (i := 46) rfl)), rfl, hnm⟩) (hw _ (List.mem_of_getElem? (i := 39) rfl)) (ty := .long) (by decide) rfl rfl (g := (mkF m 6 #[.val (.ref r0), .val (.long q1), .second, .val (.int p2)] [(.long q1), (.ref r0)])) rfl rfl (hb hby d_jdk_2316_method_17_code_6)
  replace E_r0 := E_r0.wr W2
  replace F_nanos_r0 := F_nanos_r0.other W2 (Or.inr (slot_ne (Or.inr (hw _ (List.mem_of_getElem? (i := 48) rfl))) (Or.inr (hw _ (List.mem_of_getElem? (i := 46) rfl))) (by decide) (t := .int) (t' := .long) (by decide) (by decide)))
  have F_seconds_r0 := F_seconds_r0.same W2
  have N2 := Fr.snoc X2 N0 g_r0
  have Kp := Kp.wr W2 (Or.inl (List.mem_of_getElem? (i := 0) rfl))
  replace Zn := Nat.le_trans Zn (Keep.of_wr W2).1
  obtain ⟨T3, h3, X3, e3, W3, st3⟩ := putF X2 hx hZ hown (host := "") (Or.inl (hw _ (List.mem_of_getElem? (i := 47) rfl))) Via.refl e2 F_nanos_r0 E_r0 (Or.inr ⟨(hw _ (List.mem_of_getElem? (i := 48) rfl)), rfl, hnm⟩) (hw _ (List.mem_of_getElem? (i := 39) rfl)) (ty := .int) (by decide) rfl rfl (g := (mkF m 11 #[.val (.ref r0), .val (.long q1), .second, .val (.int p2)] [(.int p2), (.ref r0)])) rfl rfl (hb hby d_jdk_2316_method_17_code_11)
  replace E_r0 := E_r0.wr W3
  replace F_seconds_r0 := F_seconds_r0.other W3 (Or.inr (slot_ne (Or.inr (hw _ (List.mem_of_getElem? (i := 46) rfl))) (Or.inr (hw _ (List.mem_of_getElem? (i := 48) rfl))) (by decide) (t := .long) (t' := .int) (by decide) (by decide)))
  have F_nanos_r0 := F_nanos_r0.same W3
  have N3 := Fr.snoc X3 N2 g_r0
  have Kp := Kp.wr W3 (Or.inl (List.mem_of_getElem? (i := 0) rfl))
  replace Zn := Nat.le_trans Zn (Keep.of_wr W3).1
  obtain ⟨fs, hr, hrun, hended, hW, hsame⟩ := X3.leave (v := none) (fun _ => rfl) hlk
  refine ⟨_, _, K0 _ ?_, hrun, hended, _, _, rfl, ?_, ⟨_, rfl⟩, hW, hsame.mono (by decide) (by decide)⟩
  ·
    show Steps p.tables e below (s₁.setTop (mkF m 0 #[.val (.ref r0), .val (.long q1), .second, .val (.int p2)] [])) _
    refine XS.aloadN X0.here hx rfl (hb hby d_jdk_2316_method_17_code_0) rfl rfl ?_
    show Steps p.tables e below (s₁.setTop (mkF m 1 #[.val (.ref r0), .val (.long q1), .second, .val (.int p2)] [(.ref r0)])) _
    refine st1 _ ?_
    show Steps p.tables e below (T1.setTop (mkF m 4 #[.val (.ref r0), .val (.long q1), .second, .val (.int p2)] [])) _
    refine XS.aloadN X1.here hx rfl (hb hby d_jdk_2316_method_17_code_4) rfl rfl ?_
    show Steps p.tables e below (T1.setTop (mkF m 5 #[.val (.ref r0), .val (.long q1), .second, .val (.int p2)] [(.ref r0)])) _
    refine XS.lloadN X1.here hx rfl (hb hby d_jdk_2316_method_17_code_5) rfl ?_
    show Steps p.tables e below (T1.setTop (mkF m 6 #[.val (.ref r0), .val (.long q1), .second, .val (.int p2)] [(.long q1), (.ref r0)])) _
    refine st2 _ ?_
    show Steps p.tables e below (T2.setTop (mkF m 9 #[.val (.ref r0), .val (.long q1), .second, .val (.int p2)] [])) _
    refine XS.aloadN X2.here hx rfl (hb hby d_jdk_2316_method_17_code_9) rfl rfl ?_
    show Steps p.tables e below (T2.setTop (mkF m 10 #[.val (.ref r0), .val (.long q1), .second, .val (.int p2)] [(.ref r0)])) _
    refine XS.iloadN X2.here hx rfl (hb hby d_jdk_2316_method_17_code_10) rfl ?_
    show Steps p.tables e below (T2.setTop (mkF m 11 #[.val (.ref r0), .val (.long q1), .second, .val (.int p2)] [(.int p2), (.ref r0)])) _
    refine st3 _ ?_
    show Steps p.tables e below (T3.setTop (mkF m 14 #[.val (.ref r0), .val (.long q1), .second, .val (.int p2)] [])) _
    exact X3.returnOut hx Bd.returns (hb hby d_jdk_2316_method_17_code_14) hr
  ·
    show Q_rm9 Z r0 q1 p2 h0 n0 _ T3.heap _
    rw [e3]
    exact ⟨rfl, N3, Kp, E_r0, F_seconds_r0, F_nanos_r0⟩
theorem d_jdk_2316_method_16_code_0 : decode jdk_2316_method_16_code 0 = .ok (.lload_n 0, 1) := by decide +kernel
theorem d_jdk_2316_method_16_code_1 : decode jdk_2316_method_16_code 1 = .ok (.iload_n 2, 1) := by decide +kernel
theorem d_jdk_2316_method_16_code_2 : decode jdk_2316_method_16_code 2 = .ok (.i2l, 1) := by decide +kernel
theorem d_jdk_2316_method_16_code_3 : decode jdk_2316_method_16_code 3 = .ok (.lor, 1) := by decide +kernel
theorem d_jdk_2316_method_16_code_4 : decode jdk_2316_method_16_code 4 = .ok (.lconst 0, 1) := by decide +kernel
theorem d_jdk_2316_method_16_code_5 : decode jdk_2316_method_16_code 5 = .ok (.lcmp, 1) := by decide +kernel
theorem d_jdk_2316_method_16_code_6 : decode jdk_2316_method_16_code 6 = .ok (.ifCond .ne 7, 3) := by decide +kernel
theorem d_jdk_2316_method_16_code_13 : decode jdk_2316_method_16_code 13 = .ok (.new 11, 3) := by decide +kernel
theorem d_jdk_2316_method_16_code_16 : decode jdk_2316_method_16_code 16 = .ok (.dup, 1) := by decide +kernel
theorem d_jdk_2316_method_16_code_17 : decode jdk_2316_method_16_code 17 = .ok (.lload_n 0, 1) := by decide +kernel
theorem d_jdk_2316_method_16_code_18 : decode jdk_2316_method_16_code 18 = .ok (.iload_n 2, 1) := by decide +kernel
theorem d_jdk_2316_method_16_code_19 : decode jdk_2316_method_16_code 19 = .ok (.invokespecial 215, 3) := by decide +kernel
theorem pd_7 : parseMethodDescriptor "(JI)V" = some ⟨[.long, .int], none⟩ := by decide +kernel
theorem d_jdk_2316_method_16_code_22 : decode jdk_2316_method_16_code 22 = .ok (.areturn, 1) := by decide +kernel
theorem ef_rm10 (m : MethodId) (x0 : Int64) (x1 : Int32) : entryFrame m #[(.long x0), (.int x1)] 3 = mkF m 0 #[.val (.long x0), .second, .val (.int x1)] [] := by first | (simp [entryFrame, mkF, argsToLocals, Value.category]; done) | rfl
def Q_rm10 (Z : State) (q0 : Int64) (p1 : Int32) (h0 : Heap) (n0 : Nat) (v : Option Value) (h : Heap) (L : List Loc) : Prop := ∃ b, v = some (.ref b) ∧ Fr n0 L ∧ Keep h0 h [] ∧ n0 ≤ b ∧ Exa Z h b "java/time/Duration" ∧ Fld Z h b "java/time/Duration" "seconds" "J" (.long q0) ∧ Fld Z h b "java/time/Duration" "nanos" "I" (.int p1)
set_option maxRecDepth 65536 in
set_option maxHeartbeats 40000000 in
theorem rm10 (l : Launch) (Z : State) (a0 : Array Value) (hw : ∀ d ∈ tables_1, d.before a0 Z = true) (ws : List Jvm.Cond) (q0 : Int64) (p1 : Int32) (h0 : Heap) (n0 : Nat) (Z0 : n0 ≤ h0.size) (hne : ¬ ((lcmpW (q0 ||| (p1.toInt64)) (0 : Int64)) = (0 : Int32))) :
    MetFree l (⟨"java/time/Duration", "create", "(JI)Ljava/time/Duration;"⟩ : MethodName) (head1 (Jvm.Cond.code (⟨"java/time/Duration", "create", "(JI)Ljava/time/Duration;"⟩ : MethodName) jdk_2316_method_16_code 3 (some (.object "java/time/Duration")) :: ws) ({ frames := 2, cells := 1, slots := 2, locals := 28 } : Room)) (fun a U => a = #[(.long q0), (.int p1)] ∧ Z.Warmed39 U.vm ∧ U.heap = h0) (fun _ _ _ _ _ => True) (fun _ U o U' => ∃ v L, o = .returned v ∧ Q_rm10 Z q0 p1 h0 n0 v U'.heap L ∧ FrameEnd U o U' L ({ frames := 2, cells := 1, slots := 2, locals := 28 } : Room).cells ({ frames := 2, cells := 1, slots := 2, locals := 28 } : Room).slots) := by
  refine MetFree.of_bodySF (plainFor_of_name pn_6) hisR ?_
  intro p e s m args below meth c s₁ Bd hml0 hP hK
  obtain ⟨rfl, hZ, hh⟩ := hP
  have hx := Bd.exec
  have hby := Bd.bytes
  have hml : c.maxLocals = 3 := hml0
  have hown : s.vm.findClass "java/time/Duration" = some m.cls := findClass_of_methodNamed Bd.named
  have hnm := (name_of_methodNamed Bd.named Bd.method).1
  have hlk : meth.locks = false := by first | exact BodyLoose.notSynchronized (by assumption) | exact Body.notSynchronized (by assumption) | assumption
  have X0 : Stand p l e ({ frames := 2, cells := 1, slots := 2, locals := 28 } : Room) s m #[(.long q0), (.int p1)] below meth c s₁ [] 0 0 := Stand.of_body Bd
  have e0 : s₁.heap = h0 := by rw [← hh, Bd.state]; rfl
  have N0 := Fr.nil n0
  have Zn := Z0
  have K0 : ∀ t, Steps p.tables e below (s₁.setTop (mkF m 0 #[.val (.long q0), .second, .val (.int p1)] [])) t → Steps p.tables e below (s₁.setTop (entryFrame m #[(.long q0), (.int p1)] 3)) t := fun t k => castTop (ef_rm10 m q0 p1) k
  have Kp : Keep h0 h0 [] := Keep.refl h0 []
  have hc6 : ¬ ((lcmpW (q0 ||| (p1.toInt64)) (0 : Int64)) = (0 : Int32)) := hne
  obtain ⟨T1, h1, X1, e1, E1, A1, D1, -, st1⟩ := newO X0 hx hZ hown (hw _ (List.mem_of_getElem? (i := 38) rfl)) (hw _ (List.mem_of_getElem? (i := 39) rfl)) (hw _ (List.mem_of_getElem? (i := 31) rfl)) e0 (g := (mkF m 13 #[.val (.long q0), .second, .val (.int p1)] [])) rfl (hb hby d_jdk_2316_method_16_code_13) (by decide) (by decide)
  obtain ⟨b1, g1⟩ : ∃ z, z = h0.size := ⟨_, rfl⟩
  rw [← g1] at A1 D1 st1
  have g_b1 : n0 ≤ b1 := Nat.le_trans Zn (Nat.le_of_eq g1.symm)
  have sz_b1 : h0.size ≤ b1 := Nat.le_trans Kp.1 (Nat.le_of_eq g1.symm)
  replace Zn := Nat.le_trans Zn E1.1
  have Kp := Kp.ext E1
  have E_b1 := A1
  have F_seconds_b1 : Fld Z h1 b1 "java/time/Duration" "seconds" "J" (.long (0 : Int64)) := D1 (Or.inr (hw _ (List.mem_of_getElem? (i := 46) rfl))) (ty := .long) (by decide)
  have F_nanos_b1 : Fld Z h1 b1 "java/time/Duration" "nanos" "I" (.int (0 : Int32)) := D1 (Or.inr (hw _ (List.mem_of_getElem? (i := 48) rfl))) (ty := .int) (by decide)
  obtain ⟨_, _, ⟨T2, L2, k2, n2⟩, -, X2, ⟨Lc2, hQ2, l2, y2, z2⟩, st2⟩ := X1.specialBack hx (y := (⟨"java/time/Duration", "<init>", "(JI)V"⟩ : MethodName)) rfl hown (mvT hZ (hw _ (List.mem_of_getElem? (i := 40) rfl))) (mvT hZ (hw _ (List.mem_of_getElem? (i := 41) rfl))) (mvT hZ (hw _ (List.mem_of_getElem? (i := 43) rfl))) (by decide) (backOf (W := 1) (rm9 l Z a0 hw [] b1 q0 p1  h1 n0 Zn E_b1 g_b1 F_seconds_b1 F_nanos_b1) hZ (hw _ (List.mem_of_getElem? (i := 43) rfl)) (hw _ (List.mem_of_getElem? (i := 31) rfl)) (by decide) (by decide)) (g := (mkF m 19 #[.val (.long q0), .second, .val (.int p1)] [(.int p1), (.long q0), (.ref b1), (.ref b1)])) rfl (by rw [hml]; rfl) (Steps.refl _) (a := b1) (argsL := [(.long q0), (.int p1)]) (rest := [(.ref b1)]) (lenOf pd_7 rfl) rfl (by show 2 * 0 + _ ≤ _; exact Nat.le_of_eq rfl) (hb hby d_jdk_2316_method_16_code_19) (fun _ _ => ⟨rfl, e1, (by decide : 1 + 0 ≤ _), (by decide : 2 + 0 ≤ _)⟩)
  dsimp only [Pt.U, Pt.locs, Pt.cells, Pt.slots] at X2 l2 y2 z2 st2 hQ2
  subst l2 y2 z2
  obtain ⟨rfl, N2q, K2k, pf2_0, pf2_1, pf2_2⟩ := hQ2
  have N2 := Fr.app N0 N2q
  have E_b1 := E_b1.keep K2k
  have Kp := Kp.trans K2k (allS (Or.inr sz_b1) all0)
  replace Zn := Nat.le_trans Zn K2k.1
  have E_b1 := pf2_0
  have F_seconds_b1 := pf2_1
  have F_nanos_b1 := pf2_2
  obtain ⟨fs, hr, hrun, hended, hW, hsame⟩ := X2.leave (v := some (.ref b1)) (fun h => by rw [Bd.returns] at h; cases h) hlk
  refine ⟨_, _, K0 _ ?_, hrun, hended, _, _, rfl, ?_, ⟨_, rfl⟩, hW, hsame.mono (by decide) (by decide)⟩
  ·
    show Steps p.tables e below (s₁.setTop (mkF m 0 #[.val (.long q0), .second, .val (.int p1)] [])) _
    refine XS.lloadN X0.here hx rfl (hb hby d_jdk_2316_method_16_code_0) rfl ?_
    show Steps p.tables e below (s₁.setTop (mkF m 1 #[.val (.long q0), .second, .val (.int p1)] [(.long q0)])) _
    refine XS.iloadN X0.here hx rfl (hb hby d_jdk_2316_method_16_code_1) rfl ?_
    show Steps p.tables e below (s₁.setTop (mkF m 2 #[.val (.long q0), .second, .val (.int p1)] [(.int p1), (.long q0)])) _
    refine XS.i2l X0.here hx rfl (hb hby d_jdk_2316_method_16_code_2) rfl ?_
    show Steps p.tables e below (s₁.setTop (mkF m 3 #[.val (.long q0), .second, .val (.int p1)] [(.long (p1.toInt64)), (.long q0)])) _
    refine XS.lor X0.here hx rfl (hb hby d_jdk_2316_method_16_code_3) rfl ?_
    show Steps p.tables e below (s₁.setTop (mkF m 4 #[.val (.long q0), .second, .val (.int p1)] [(.long (q0 ||| (p1.toInt64)))])) _
    refine XS.lconst X0.here hx rfl (hb hby d_jdk_2316_method_16_code_4) ?_
    show Steps p.tables e below (s₁.setTop (mkF m 5 #[.val (.long q0), .second, .val (.int p1)] [(.long (0 : Int64)), (.long (q0 ||| (p1.toInt64)))])) _
    refine XS.lcmp X0.here hx rfl (hb hby d_jdk_2316_method_16_code_5) rfl ?_
    show Steps p.tables e below (s₁.setTop (mkF m 6 #[.val (.long q0), .second, .val (.int p1)] [(.int (lcmpW (q0 ||| (p1.toInt64)) (0 : Int64)))])) _
    refine XS.ifYes X0.here hx rfl (pc0 := 6) (pc' := 13) rfl (hb hby d_jdk_2316_method_16_code_6) rfl ((if0 _ _).trans (feq hc6).2) (by decide) (by decide) ?_
    show Steps p.tables e below (s₁.setTop (mkF m 13 #[.val (.long q0), .second, .val (.int p1)] [])) _
    refine st1 _ ?_
    show Steps p.tables e below (T1.setTop (mkF m 16 #[.val (.long q0), .second, .val (.int p1)] [(.ref b1)])) _
    refine XS.dup X1.here hx rfl (hb hby d_jdk_2316_method_16_code_16) rfl rfl ?_
    show Steps p.tables e below (T1.setTop (mkF m 17 #[.val (.long q0), .second, .val (.int p1)] [(.ref b1), (.ref b1)])) _
    refine XS.lloadN X1.here hx rfl (hb hby d_jdk_2316_method_16_code_17) rfl ?_
    show Steps p.tables e below (T1.setTop (mkF m 18 #[.val (.long q0), .second, .val (.int p1)] [(.long q0), (.ref b1), (.ref b1)])) _
    refine XS.iloadN X1.here hx rfl (hb hby d_jdk_2316_method_16_code_18) rfl ?_
    show Steps p.tables e below (T1.setTop (mkF m 19 #[.val (.long q0), .second, .val (.int p1)] [(.int p1), (.long q0), (.ref b1), (.ref b1)])) _
    refine st2.trans ?_
    show Steps p.tables e below (T2.setTop (mkF m 22 #[.val (.long q0), .second, .val (.int p1)] [(.ref b1)])) _
    exact retOut X2 hx Bd.returns rfl (Or.inr (Or.inr (Or.inr (Or.inr ⟨rfl, rfl, rfl⟩)))) (hb hby d_jdk_2316_method_16_code_22) hr
  ·
    show Q_rm10 Z q0 p1 h0 n0 _ T2.heap _
    exact ⟨b1, rfl, N2, Kp, g_b1, E_b1, F_seconds_b1, F_nanos_b1⟩
theorem d_jdk_2316_method_6_code_0 : decode jdk_2316_method_6_code 0 = .ok (.lload_n 0, 1) := by decide +kernel
theorem d_jdk_2316_method_6_code_1 : decode jdk_2316_method_6_code 1 = .ok (.ldc2_w 28, 3) := by decide +kernel
theorem d_jdk_2316_method_6_code_4 : decode jdk_2316_method_6_code 4 = .ok (.ldiv, 1) := by decide +kernel
theorem d_jdk_2316_method_6_code_5 : decode jdk_2316_method_6_code 5 = .ok (.lstore_n 2, 1) := by decide +kernel
theorem d_jdk_2316_method_6_code_6 : decode jdk_2316_method_6_code 6 = .ok (.lload_n 0, 1) := by decide +kernel
theorem d_jdk_2316_method_6_code_7 : decode jdk_2316_method_6_code 7 = .ok (.ldc2_w 28, 3) := by decide +kernel
theorem d_jdk_2316_method_6_code_10 : decode jdk_2316_method_6_code 10 = .ok (.lrem, 1) := by decide +kernel
theorem d_jdk_2316_method_6_code_11 : decode jdk_2316_method_6_code 11 = .ok (.l2i, 1) := by decide +kernel
theorem d_jdk_2316_method_6_code_12 : decode jdk_2316_method_6_code 12 = .ok (.istore 4, 2) := by decide +kernel
theorem d_jdk_2316_method_6_code_14 : decode jdk_2316_method_6_code 14 = .ok (.iload 4, 2) := by decide +kernel
theorem d_jdk_2316_method_6_code_16 : decode jdk_2316_method_6_code 16 = .ok (.ifCond .ge 13, 3) := by decide +kernel
theorem d_jdk_2316_method_6_code_29 : decode jdk_2316_method_6_code 29 = .ok (.lload_n 2, 1) := by decide +kernel
theorem d_jdk_2316_method_6_code_30 : decode jdk_2316_method_6_code 30 = .ok (.iload 4, 2) := by decide +kernel
theorem d_jdk_2316_method_6_code_32 : decode jdk_2316_method_6_code 32 = .ok (.ldc 30, 2) := by decide +kernel
theorem d_jdk_2316_method_6_code_34 : decode jdk_2316_method_6_code 34 = .ok (.imul, 1) := by decide +kernel
theorem d_jdk_2316_method_6_code_35 : decode jdk_2316_method_6_code 35 = .ok (.invokestatic 10, 3) := by decide +kernel
theorem pd_8 : parseMethodDescriptor "(JI)Ljava/time/Duration;" = some ⟨[.long, .int], some (.object "java/time/Duration")⟩ := by decide +kernel
theorem d_jdk_2316_method_6_code_38 : decode jdk_2316_method_6_code 38 = .ok (.areturn, 1) := by decide +kernel
theorem ef_rm11 (m : MethodId) (x0 : Int64) : entryFrame m #[(.long x0)] 5 = mkF m 0 #[.val (.long x0), .second, .unset, .unset, .unset] [] := by first | (simp [entryFrame, mkF, argsToLocals, Value.category]; done) | rfl
def Q_rm11 (Z : State) (q0 : Int64) (h0 : Heap) (n0 : Nat) (v : Option Value) (h : Heap) (L : List Loc) : Prop := ∃ b, v = some (.ref b) ∧ Fr n0 L ∧ Keep h0 h [] ∧ n0 ≤ b ∧ Exa Z h b "java/time/Duration" ∧ Fld Z h b "java/time/Duration" "seconds" "J" (.long (own_sec q0)) ∧ Fld Z h b "java/time/Duration" "nanos" "I" (.int (own_nan q0))
set_option maxRecDepth 65536 in
set_option maxHeartbeats 40000000 in
theorem rm11 (l : Launch) (Z : State) (a0 : Array Value) (hw : ∀ d ∈ tables_1, d.before a0 Z = true) (ws : List Jvm.Cond) (q0 : Int64) (h0 : Heap) (n0 : Nat) (Z0 : n0 ≤ h0.size) (hok : own_ok q0) :
    MetFree l (⟨"java/time/Duration", "ofMillis", "(J)Ljava/time/Duration;"⟩ : MethodName) (head1 (Jvm.Cond.code (⟨"java/time/Duration", "ofMillis", "(J)Ljava/time/Duration;"⟩ : MethodName) jdk_2316_method_6_code 5 (some (.object "java/time/Duration")) :: ws) ({ frames := 3, cells := 1, slots := 2, locals := 42 } : Room)) (fun a U => a = #[(.long q0)] ∧ Z.Warmed39 U.vm ∧ U.heap = h0) (fun _ _ _ _ _ => True) (fun _ U o U' => ∃ v L, o = .returned v ∧ Q_rm11 Z q0 h0 n0 v U'.heap L ∧ FrameEnd U o U' L ({ frames := 3, cells := 1, slots := 2, locals := 42 } : Room).cells ({ frames := 3, cells := 1, slots := 2, locals := 42 } : Room).slots) := by
  refine MetFree.of_bodySF (plainFor_of_name pn_6) hisR ?_
  intro p e s m args below meth c s₁ Bd hml0 hP hK
  obtain ⟨rfl, hZ, hh⟩ := hP
  have hx := Bd.exec
  have hby := Bd.bytes
  have hml : c.maxLocals = 5 := hml0
  have hown : s.vm.findClass "java/time/Duration" = some m.cls := findClass_of_methodNamed Bd.named
  have hnm := (name_of_methodNamed Bd.named Bd.method).1
  have hlk : meth.locks = false := by first | exact BodyLoose.notSynchronized (by assumption) | exact Body.notSynchronized (by assumption) | assumption
  have X0 : Stand p l e ({ frames := 3, cells := 1, slots := 2, locals := 42 } : Room) s m #[(.long q0)] below meth c s₁ [] 0 0 := Stand.of_body Bd
  have e0 : s₁.heap = h0 := by rw [← hh, Bd.state]; rfl
  have N0 := Fr.nil n0
  have Zn := Z0
  have K0 : ∀ t, Steps p.tables e below (s₁.setTop (mkF m 0 #[.val (.long q0), .second, .unset, .unset, .unset] [])) t → Steps p.tables e below (s₁.setTop (entryFrame m #[(.long q0)] 5)) t := fun t k => castTop (ef_rm11 m q0) k
  have Kp : Keep h0 h0 [] := Keep.refl h0 []
  have hc16 : ¬ (((q0 - (q0 / (1000 : Int64)) * (1000 : Int64)).toInt32) < (0 : Int32)) := (own_remge hok)
  obtain ⟨_, _, ⟨T1, L1, k1, n1⟩, -, X1, ⟨Lc1, hQ1, l1, y1, z1⟩, st1⟩ := Jvm.LawKit.callS X0 hx (y := (⟨"java/time/Duration", "create", "(JI)Ljava/time/Duration;"⟩ : MethodName)) hown (mvT hZ (hw _ (List.mem_of_getElem? (i := 35) rfl))) (mvT hZ (hw _ (List.mem_of_getElem? (i := 36) rfl))) (mvT hZ (hw _ (List.mem_of_getElem? (i := 31) rfl))) (mvT hZ (hw _ (List.mem_of_getElem? (i := 37) rfl))) (by decide) (backOf (W := 0) (rm10 l Z a0 hw [] (q0 / (1000 : Int64)) (((q0 - (q0 / (1000 : Int64)) * (1000 : Int64)).toInt32) * (1000000 : Int32))  h0 n0 Zn (own_some hok)) hZ (hw _ (List.mem_of_getElem? (i := 37) rfl)) (hw _ (List.mem_of_getElem? (i := 31) rfl)) (by decide) (by decide)) (g := (mkF m 35 #[.val (.long q0), .second, .val (.long (q0 / (1000 : Int64))), .second, .val (.int ((q0 - (q0 / (1000 : Int64)) * (1000 : Int64)).toInt32))] [(.int (((q0 - (q0 / (1000 : Int64)) * (1000 : Int64)).toInt32) * (1000000 : Int32))), (.long (q0 / (1000 : Int64)))])) rfl (by rw [hml]; rfl) (argsL := [(.long (q0 / (1000 : Int64))), (.int (((q0 - (q0 / (1000 : Int64)) * (1000 : Int64)).toInt32) * (1000000 : Int32)))]) (rest := []) (lenOf pd_8 rfl) rfl (by show 2 * 0 + _ ≤ _; exact Nat.le_of_eq rfl) (hb hby d_jdk_2316_method_6_code_35) (fun _ _ => ⟨rfl, e0, (by decide : 0 + 1 ≤ _), (by decide : 0 + 2 ≤ _)⟩)
  dsimp only [Pt.U, Pt.locs, Pt.cells, Pt.slots] at X1 l1 y1 z1 st1 hQ1
  subst l1 y1 z1
  obtain ⟨b1, rfl, N1q, K1k, pf1_0, pf1_1, pf1_2, pf1_3⟩ := hQ1
  have N1 := Fr.app N0 N1q
  have Kp := Kp.trans K1k all0
  replace Zn := Nat.le_trans Zn K1k.1
  have g_b1 := pf1_0
  have E_b1 := pf1_1
  have F_seconds_b1 := pf1_2
  have F_nanos_b1 := pf1_3
  obtain ⟨fs, hr, hrun, hended, hW, hsame⟩ := X1.leave (v := some (.ref b1)) (fun h => by rw [Bd.returns] at h; cases h) hlk
  refine ⟨_, _, K0 _ ?_, hrun, hended, _, _, rfl, ?_, ⟨_, rfl⟩, hW, hsame.mono (by decide) (by decide)⟩
  ·
    show Steps p.tables e below (s₁.setTop (mkF m 0 #[.val (.long q0), .second, .unset, .unset, .unset] [])) _
    refine XS.lloadN X0.here hx rfl (hb hby d_jdk_2316_method_6_code_0) rfl ?_
    show Steps p.tables e below (s₁.setTop (mkF m 1 #[.val (.long q0), .second, .unset, .unset, .unset] [(.long q0)])) _
    refine X0.ldc2Long hx hown (mvT hZ (hw _ (List.mem_of_getElem? (i := 33) rfl))) (g := (mkF m 1 #[.val (.long q0), .second, .unset, .unset, .unset] [(.long q0)])) rfl (hb hby d_jdk_2316_method_6_code_1) _ ?_
    show Steps p.tables e below (s₁.setTop (mkF m 4 #[.val (.long q0), .second, .unset, .unset, .unset] [(.long (1000 : Int64)), (.long q0)])) _
    refine XS.ldiv X0.here hx rfl (hb hby d_jdk_2316_method_6_code_4) rfl (by decide) ?_
    show Steps p.tables e below (s₁.setTop (mkF m 5 #[.val (.long q0), .second, .unset, .unset, .unset] [(.long (q0 / (1000 : Int64)))])) _
    refine XS.lstoreN X0.here hx rfl (hb hby d_jdk_2316_method_6_code_5) rfl (l' := #[.val (.long q0), .second, .val (.long (q0 / (1000 : Int64))), .second, .unset]) rfl ?_
    show Steps p.tables e below (s₁.setTop (mkF m 6 #[.val (.long q0), .second, .val (.long (q0 / (1000 : Int64))), .second, .unset] [])) _
    refine XS.lloadN X0.here hx rfl (hb hby d_jdk_2316_method_6_code_6) rfl ?_
    show Steps p.tables e below (s₁.setTop (mkF m 7 #[.val (.long q0), .second, .val (.long (q0 / (1000 : Int64))), .second, .unset] [(.long q0)])) _
    refine X0.ldc2Long hx hown (mvT hZ (hw _ (List.mem_of_getElem? (i := 33) rfl))) (g := (mkF m 7 #[.val (.long q0), .second, .val (.long (q0 / (1000 : Int64))), .second, .unset] [(.long q0)])) rfl (hb hby d_jdk_2316_method_6_code_7) _ ?_
    show Steps p.tables e below (s₁.setTop (mkF m 10 #[.val (.long q0), .second, .val (.long (q0 / (1000 : Int64))), .second, .unset] [(.long (1000 : Int64)), (.long q0)])) _
    refine XS.lrem X0.here hx rfl (hb hby d_jdk_2316_method_6_code_10) rfl (by decide) ?_
    show Steps p.tables e below (s₁.setTop (mkF m 11 #[.val (.long q0), .second, .val (.long (q0 / (1000 : Int64))), .second, .unset] [(.long (q0 - (q0 / (1000 : Int64)) * (1000 : Int64)))])) _
    refine XS.l2i X0.here hx rfl (hb hby d_jdk_2316_method_6_code_11) rfl ?_
    show Steps p.tables e below (s₁.setTop (mkF m 12 #[.val (.long q0), .second, .val (.long (q0 / (1000 : Int64))), .second, .unset] [(.int ((q0 - (q0 / (1000 : Int64)) * (1000 : Int64)).toInt32))])) _
    refine XS.istore X0.here hx rfl (hb hby d_jdk_2316_method_6_code_12) rfl (l' := #[.val (.long q0), .second, .val (.long (q0 / (1000 : Int64))), .second, .val (.int ((q0 - (q0 / (1000 : Int64)) * (1000 : Int64)).toInt32))]) rfl ?_
    show Steps p.tables e below (s₁.setTop (mkF m 14 #[.val (.long q0), .second, .val (.long (q0 / (1000 : Int64))), .second, .val (.int ((q0 - (q0 / (1000 : Int64)) * (1000 : Int64)).toInt32))] [])) _
    refine XS.iload X0.here hx rfl (hb hby d_jdk_2316_method_6_code_14) rfl ?_
    show Steps p.tables e below (s₁.setTop (mkF m 16 #[.val (.long q0), .second, .val (.long (q0 / (1000 : Int64))), .second, .val (.int ((q0 - (q0 / (1000 : Int64)) * (1000 : Int64)).toInt32))] [(.int ((q0 - (q0 / (1000 : Int64)) * (1000 : Int64)).toInt32))])) _
    refine XS.ifYes X0.here hx rfl (pc0 := 16) (pc' := 29) rfl (hb hby d_jdk_2316_method_6_code_16) rfl ((if0 _ _).trans (flt hc16).2.1) (by decide) (by decide) ?_
    show Steps p.tables e below (s₁.setTop (mkF m 29 #[.val (.long q0), .second, .val (.long (q0 / (1000 : Int64))), .second, .val (.int ((q0 - (q0 / (1000 : Int64)) * (1000 : Int64)).toInt32))] [])) _
    refine XS.lloadN X0.here hx rfl (hb hby d_jdk_2316_method_6_code_29) rfl ?_
    show Steps p.tables e below (s₁.setTop (mkF m 30 #[.val (.long q0), .second, .val (.long (q0 / (1000 : Int64))), .second, .val (.int ((q0 - (q0 / (1000 : Int64)) * (1000 : Int64)).toInt32))] [(.long (q0 / (1000 : Int64)))])) _
    refine XS.iload X0.here hx rfl (hb hby d_jdk_2316_method_6_code_30) rfl ?_
    show Steps p.tables e below (s₁.setTop (mkF m 32 #[.val (.long q0), .second, .val (.long (q0 / (1000 : Int64))), .second, .val (.int ((q0 - (q0 / (1000 : Int64)) * (1000 : Int64)).toInt32))] [(.int ((q0 - (q0 / (1000 : Int64)) * (1000 : Int64)).toInt32)), (.long (q0 / (1000 : Int64)))])) _
    refine X0.ldcInt hx hown (mvT hZ (hw _ (List.mem_of_getElem? (i := 34) rfl))) (g := (mkF m 32 #[.val (.long q0), .second, .val (.long (q0 / (1000 : Int64))), .second, .val (.int ((q0 - (q0 / (1000 : Int64)) * (1000 : Int64)).toInt32))] [(.int ((q0 - (q0 / (1000 : Int64)) * (1000 : Int64)).toInt32)), (.long (q0 / (1000 : Int64)))])) rfl (hb hby d_jdk_2316_method_6_code_32) _ ?_
    show Steps p.tables e below (s₁.setTop (mkF m 34 #[.val (.long q0), .second, .val (.long (q0 / (1000 : Int64))), .second, .val (.int ((q0 - (q0 / (1000 : Int64)) * (1000 : Int64)).toInt32))] [(.int (1000000 : Int32)), (.int ((q0 - (q0 / (1000 : Int64)) * (1000 : Int64)).toInt32)), (.long (q0 / (1000 : Int64)))])) _
    refine XS.imul X0.here hx rfl (hb hby d_jdk_2316_method_6_code_34) rfl ?_
    show Steps p.tables e below (s₁.setTop (mkF m 35 #[.val (.long q0), .second, .val (.long (q0 / (1000 : Int64))), .second, .val (.int ((q0 - (q0 / (1000 : Int64)) * (1000 : Int64)).toInt32))] [(.int (((q0 - (q0 / (1000 : Int64)) * (1000 : Int64)).toInt32) * (1000000 : Int32))), (.long (q0 / (1000 : Int64)))])) _
    refine st1 _ ?_
    show Steps p.tables e below (T1.setTop (mkF m 38 #[.val (.long q0), .second, .val (.long (q0 / (1000 : Int64))), .second, .val (.int ((q0 - (q0 / (1000 : Int64)) * (1000 : Int64)).toInt32))] [(.ref b1)])) _
    exact retOut X1 hx Bd.returns rfl (Or.inr (Or.inr (Or.inr (Or.inr ⟨rfl, rfl, rfl⟩)))) (hb hby d_jdk_2316_method_6_code_38) hr
  ·
    show Q_rm11 Z q0 h0 n0 _ T1.heap _
    exact ⟨b1, rfl, N1, Kp, g_b1, E_b1, F_seconds_b1, F_nanos_b1⟩
theorem d_prog_10_method_5_code_0 : decode prog_10_method_5_code 0 = .ok (.lconst 1, 1) := by decide +kernel
theorem d_prog_10_method_5_code_1 : decode prog_10_method_5_code 1 = .ok (.aload_n 0, 1) := by decide +kernel
theorem d_prog_10_method_5_code_2 : decode prog_10_method_5_code 2 = .ok (.getfield 21, 3) := by decide +kernel
theorem d_prog_10_method_5_code_5 : decode prog_10_method_5_code 5 = .ok (.ldc2_w 75, 3) := by decide +kernel
theorem d_prog_10_method_5_code_8 : decode prog_10_method_5_code 8 = .ok (.ldiv, 1) := by decide +kernel
theorem d_prog_10_method_5_code_9 : decode prog_10_method_5_code 9 = .ok (.invokestatic 77, 3) := by decide +kernel
theorem d_prog_10_method_5_code_12 : decode prog_10_method_5_code 12 = .ok (.invokestatic 35, 3) := by decide +kernel
theorem pd_9 : parseMethodDescriptor "(J)Ljava/time/Duration;" = some ⟨[.long], some (.object "java/time/Duration")⟩ := by decide +kernel
theorem d_prog_10_method_5_code_15 : decode prog_10_method_5_code 15 = .ok (.areturn, 1) := by decide +kernel
theorem ef_rm12 (m : MethodId) (x0 : Addr) : entryFrame m #[(.ref x0)] 1 = mkF m 0 #[.val (.ref x0)] [] := by first | (simp [entryFrame, mkF, argsToLocals, Value.category]; done) | rfl
def Q_rm12 (Z : State) (r0 : Addr) (mi : Int64) (h0 : Heap) (n0 : Nat) (v : Option Value) (h : Heap) (L : List Loc) : Prop := ∃ b, v = some (.ref b) ∧ Fr n0 L ∧ Keep h0 h [] ∧ n0 ≤ b ∧ Exa Z h b "java/time/Duration" ∧ Fld Z h b "java/time/Duration" "seconds" "J" (.long (own_sec (own_lmax (1 : Int64) (mi / (3 : Int64))))) ∧ Fld Z h b "java/time/Duration" "nanos" "I" (.int (own_nan (own_lmax (1 : Int64) (mi / (3 : Int64)))))
set_option maxRecDepth 65536 in
set_option maxHeartbeats 40000000 in
theorem rm12 (l : Launch) (Z : State) (a0 : Array Value) (hw : ∀ d ∈ tables_1, d.before a0 Z = true) (ws : List Jvm.Cond) (r0 : Addr) (mi : Int64) (h0 : Heap) (n0 : Nat) (Z0 : n0 ≤ h0.size) (F_millis_r0 : Fld Z h0 r0 "com/example/keylatch/keylatch/Lease" "millis" "J" (.long mi)) (hok : own_ok (own_lmax (1 : Int64) (mi / (3 : Int64)))) :
    MetFree l (⟨"com/example/keylatch/keylatch/Lease", "renewalInterval", "()Ljava/time/Duration;"⟩ : MethodName) (head1 (Jvm.Cond.code (⟨"com/example/keylatch/keylatch/Lease", "renewalInterval", "()Ljava/time/Duration;"⟩ : MethodName) prog_10_method_5_code 1 (some (.object "java/time/Duration")) :: ws) ({ frames := 4, cells := 1, slots := 2, locals := 58 } : Room)) (fun a U => a = #[(.ref r0)] ∧ Z.Warmed39 U.vm ∧ U.heap = h0) (fun _ _ _ _ _ => True) (fun _ U o U' => ∃ v L, o = .returned v ∧ Q_rm12 Z r0 mi h0 n0 v U'.heap L ∧ FrameEnd U o U' L ({ frames := 4, cells := 1, slots := 2, locals := 58 } : Room).cells ({ frames := 4, cells := 1, slots := 2, locals := 58 } : Room).slots) := by
  refine MetFree.of_bodySF (plainFor_of_name pn_5) hisR ?_
  intro p e s m args below meth c s₁ Bd hml0 hP hK
  obtain ⟨rfl, hZ, hh⟩ := hP
  have hx := Bd.exec
  have hby := Bd.bytes
  have hml : c.maxLocals = 1 := hml0
  have hown : s.vm.findClass "com/example/keylatch/keylatch/Lease" = some m.cls := findClass_of_methodNamed Bd.named
  have hnm := (name_of_methodNamed Bd.named Bd.method).1
  have hlk : meth.locks = false := by first | exact BodyLoose.notSynchronized (by assumption) | exact Body.notSynchronized (by assumption) | assumption
  have X0 : Stand p l e ({ frames := 4, cells := 1, slots := 2, locals := 58 } : Room) s m #[(.ref r0)] below meth c s₁ [] 0 0 := Stand.of_body Bd
  have e0 : s₁.heap = h0 := by rw [← hh, Bd.state]; rfl
  have N0 := Fr.nil n0
  have Zn := Z0
  have K0 : ∀ t, Steps p.tables e below (s₁.setTop (mkF m 0 #[.val (.ref r0)] [])) t → Steps p.tables e below (s₁.setTop (entryFrame m #[(.ref r0)] 1)) t := fun t k => castTop (ef_rm12 m r0) k
  have Kp : Keep h0 h0 [] := Keep.refl h0 []
  obtain ⟨T1, X1, e1, st1⟩ := getF X0 hx hZ hown (host := "") (Or.inl (hw _ (List.mem_of_getElem? (i := 20) rfl))) Via.refl e0 F_millis_r0 (g := (mkF m 2 #[.val (.ref r0)] [(.ref r0), (.long (1 : Int64))])) rfl rfl (hb hby d_prog_10_method_5_code_2)
  obtain ⟨_, _, ⟨T2, L2, k2, n2⟩, -, X2, ⟨Lc2, hQ2, l2, y2, z2⟩, st2⟩ := Jvm.LawKit.callS X1 hx (y := (⟨"java/lang/Math", "max", "(JJ)J"⟩ : MethodName)) hown (mvT hZ (hw _ (List.mem_of_getElem? (i := 28) rfl))) (mvT hZ (hw _ (List.mem_of_getElem? (i := 2) rfl))) (mvT hZ (hw _ (List.mem_of_getElem? (i := 3) rfl))) (mvT hZ (hw _ (List.mem_of_getElem? (i := 4) rfl))) (by decide) (backOf (W := 0) (rm1 l Z a0 hw [] (1 : Int64) (mi / (3 : Int64))  h0 n0 Zn ) hZ (hw _ (List.mem_of_getElem? (i := 4) rfl)) (hw _ (List.mem_of_getElem? (i := 3) rfl)) (by decide) (by decide)) (g := (mkF m 9 #[.val (.ref r0)] [(.long (mi / (3 : Int64))), (.long (1 : Int64))])) rfl (by rw [hml]; rfl) (argsL := [(.long (1 : Int64)), (.long (mi / (3 : Int64)))]) (rest := []) (lenOf pd_1 rfl) rfl (by show 2 * 0 + _ ≤ _; exact Nat.le_of_eq rfl) (hb hby d_prog_10_method_5_code_9) (fun _ _ => ⟨rfl, e1, (by decide : 0 + 0 ≤ _), (by decide : 0 + 0 ≤ _)⟩)
  dsimp only [Pt.U, Pt.locs, Pt.cells, Pt.slots] at X2 l2 y2 z2 st2 hQ2
  subst l2 y2 z2
  obtain ⟨rfl, N2q, e2q⟩ := hQ2
  have N2 := Fr.app N0 N2q
  have e2 : T2.heap = h0 := e2q
  obtain ⟨_, _, ⟨T3, L3, k3, n3⟩, -, X3, ⟨Lc3, hQ3, l3, y3, z3⟩, st3⟩ := Jvm.LawKit.callS X2 hx (y := (⟨"java/time/Duration", "ofMillis", "(J)Ljava/time/Duration;"⟩ : MethodName)) hown (mvT hZ (hw _ (List.mem_of_getElem? (i := 29) rfl))) (mvT hZ (hw _ (List.mem_of_getElem? (i := 30) rfl))) (mvT hZ (hw _ (List.mem_of_getElem? (i := 31) rfl))) (mvT hZ (hw _ (List.mem_of_getElem? (i := 32) rfl))) (by decide) (backOf (W := 0) (rm11 l Z a0 hw [] (own_lmax (1 : Int64) (mi / (3 : Int64)))  h0 n0 Zn hok) hZ (hw _ (List.mem_of_getElem? (i := 32) rfl)) (hw _ (List.mem_of_getElem? (i := 31) rfl)) (by decide) (by decide)) (g := (mkF m 12 #[.val (.ref r0)] [(.long (own_lmax (1 : Int64) (mi / (3 : Int64))))])) rfl (by rw [hml]; rfl) (argsL := [(.long (own_lmax (1 : Int64) (mi / (3 : Int64))))]) (rest := []) (lenOf pd_9 rfl) rfl (by show 2 * 0 + _ ≤ _; exact Nat.le_of_eq rfl) (hb hby d_prog_10_method_5_code_12) (fun _ _ => ⟨rfl, e2, (by decide : 0 + 1 ≤ _), (by decide : 0 + 2 ≤ _)⟩)
  dsimp only [Pt.U, Pt.locs, Pt.cells, Pt.slots] at X3 l3 y3 z3 st3 hQ3
  subst l3 y3 z3
  obtain ⟨b3, rfl, N3q, K3k, pf3_0, pf3_1, pf3_2, pf3_3⟩ := hQ3
  have N3 := Fr.app N2 N3q
  have F_millis_r0 := F_millis_r0.keep K3k nin0
  have Kp := Kp.trans K3k all0
  replace Zn := Nat.le_trans Zn K3k.1
  have g_b3 := pf3_0
  have E_b3 := pf3_1
  have F_seconds_b3 := pf3_2
  have F_nanos_b3 := pf3_3
  obtain ⟨fs, hr, hrun, hended, hW, hsame⟩ := X3.leave (v := some (.ref b3)) (fun h => by rw [Bd.returns] at h; cases h) hlk
  refine ⟨_, _, K0 _ ?_, hrun, hended, _, _, rfl, ?_, ⟨_, rfl⟩, hW, hsame.mono (by decide) (by decide)⟩
  ·
    show Steps p.tables e below (s₁.setTop (mkF m 0 #[.val (.ref r0)] [])) _
    refine XS.lconst X0.here hx rfl (hb hby d_prog_10_method_5_code_0) ?_
    show Steps p.tables e below (s₁.setTop (mkF m 1 #[.val (.ref r0)] [(.long (1 : Int64))])) _
    refine XS.aloadN X0.here hx rfl (hb hby d_prog_10_method_5_code_1) rfl rfl ?_
    show Steps p.tables e below (s₁.setTop (mkF m 2 #[.val (.ref r0)] [(.ref r0), (.long (1 : Int64))])) _
    refine st1 _ ?_
    show Steps p.tables e below (T1.setTop (mkF m 5 #[.val (.ref r0)] [(.long mi), (.long (1 : Int64))])) _
    refine X1.ldc2Long hx hown (mvT hZ (hw _ (List.mem_of_getElem? (i := 27) rfl))) (g := (mkF m 5 #[.val (.ref r0)] [(.long mi), (.long (1 : Int64))])) rfl (hb hby d_prog_10_method_5_code_5) _ ?_
    show Steps p.tables e below (T1.setTop (mkF m 8 #[.val (.ref r0)] [(.long (3 : Int64)), (.long mi), (.long (1 : Int64))])) _
    refine XS.ldiv X1.here hx rfl (hb hby d_prog_10_method_5_code_8) rfl (by decide) ?_
    show Steps p.tables e below (T1.setTop (mkF m 9 #[.val (.ref r0)] [(.long (mi / (3 : Int64))), (.long (1 : Int64))])) _
    refine st2 _ ?_
    show Steps p.tables e below (T2.setTop (mkF m 12 #[.val (.ref r0)] [(.long (own_lmax (1 : Int64) (mi / (3 : Int64))))])) _
    refine st3 _ ?_
    show Steps p.tables e below (T3.setTop (mkF m 15 #[.val (.ref r0)] [(.ref b3)])) _
    exact retOut X3 hx Bd.returns rfl (Or.inr (Or.inr (Or.inr (Or.inr ⟨rfl, rfl, rfl⟩)))) (hb hby d_prog_10_method_5_code_15) hr
  ·
    show Q_rm12 Z r0 mi h0 n0 _ T3.heap _
    exact ⟨b3, rfl, N3, Kp, g_b3, E_b3, F_seconds_b3, F_nanos_b3⟩
theorem d_jdk_2316_method_57_code_0 : decode jdk_2316_method_57_code 0 = .ok (.aload_n 0, 1) := by decide +kernel
theorem d_jdk_2316_method_57_code_1 : decode jdk_2316_method_57_code 1 = .ok (.getfield 221, 3) := by decide +kernel
theorem d_jdk_2316_method_57_code_4 : decode jdk_2316_method_57_code 4 = .ok (.lstore_n 1, 1) := by decide +kernel
theorem d_jdk_2316_method_57_code_5 : decode jdk_2316_method_57_code 5 = .ok (.aload_n 0, 1) := by decide +kernel
theorem d_jdk_2316_method_57_code_6 : decode jdk_2316_method_57_code 6 = .ok (.getfield 224, 3) := by decide +kernel
theorem d_jdk_2316_method_57_code_9 : decode jdk_2316_method_57_code 9 = .ok (.i2l, 1) := by decide +kernel
theorem d_jdk_2316_method_57_code_10 : decode jdk_2316_method_57_code 10 = .ok (.lstore_n 3, 1) := by decide +kernel
theorem d_jdk_2316_method_57_code_11 : decode jdk_2316_method_57_code 11 = .ok (.lload_n 1, 1) := by decide +kernel
theorem d_jdk_2316_method_57_code_12 : decode jdk_2316_method_57_code 12 = .ok (.lconst 0, 1) := by decide +kernel
theorem d_jdk_2316_method_57_code_13 : decode jdk_2316_method_57_code 13 = .ok (.lcmp, 1) := by decide +kernel
theorem d_jdk_2316_method_57_code_14 : decode jdk_2316_method_57_code 14 = .ok (.ifCond .ge 13, 3) := by decide +kernel
theorem d_jdk_2316_method_57_code_27 : decode jdk_2316_method_57_code 27 = .ok (.lload_n 1, 1) := by decide +kernel
theorem d_jdk_2316_method_57_code_28 : decode jdk_2316_method_57_code 28 = .ok (.sipush 1000, 3) := by decide +kernel
theorem d_jdk_2316_method_57_code_31 : decode jdk_2316_method_57_code 31 = .ok (.invokestatic 4, 3) := by decide +kernel
theorem pd_10 : parseMethodDescriptor "(JI)J" = some ⟨[.long, .int], some .long⟩ := by decide +kernel
theorem d_jdk_2316_method_57_code_34 : decode jdk_2316_method_57_code 34 = .ok (.lstore 5, 2) := by decide +kernel
theorem d_jdk_2316_method_57_code_36 : decode jdk_2316_method_57_code 36 = .ok (.lload 5, 2) := by decide +kernel
theorem d_jdk_2316_method_57_code_38 : decode jdk_2316_method_57_code 38 = .ok (.lload_n 3, 1) := by decide +kernel
theorem d_jdk_2316_method_57_code_39 : decode jdk_2316_method_57_code 39 = .ok (.ldc2_w 294, 3) := by decide +kernel
theorem d_jdk_2316_method_57_code_42 : decode jdk_2316_method_57_code 42 = .ok (.ldiv, 1) := by decide +kernel
theorem d_jdk_2316_method_57_code_43 : decode jdk_2316_method_57_code 43 = .ok (.invokestatic 22, 3) := by decide +kernel
theorem d_jdk_2316_method_57_code_46 : decode jdk_2316_method_57_code 46 = .ok (.lstore 5, 2) := by decide +kernel
theorem d_jdk_2316_method_57_code_48 : decode jdk_2316_method_57_code 48 = .ok (.lload 5, 2) := by decide +kernel
theorem d_jdk_2316_method_57_code_50 : decode jdk_2316_method_57_code 50 = .ok (.lreturn, 1) := by decide +kernel
theorem ef_rm13 (m : MethodId) (x0 : Addr) : entryFrame m #[(.ref x0)] 7 = mkF m 0 #[.val (.ref x0), .unset, .unset, .unset, .unset, .unset, .unset] [] := by first | (simp [entryFrame, mkF, argsToLocals, Value.category]; done) | rfl
def Q_rm13 (Z : State) (r0 : Addr) (re : Int64) (h0 : Heap) (n0 : Nat) (v : Option Value) (h : Heap) (L : List Loc) : Prop := v = some (.long re) ∧ Fr n0 L ∧ h = h0
set_option maxRecDepth 65536 in
set_option maxHeartbeats 40000000 in
theorem rm13 (l : Launch) (Z : State) (a0 : Array Value) (hw : ∀ d ∈ tables_1, d.before a0 Z = true) (ws : List Jvm.Cond) (r0 : Addr) (re : Int64) (h0 : Heap) (n0 : Nat) (Z0 : n0 ≤ h0.size) (F_seconds_r0 : Fld Z h0 r0 "java/time/Duration" "seconds" "J" (.long (own_sec re))) (F_nanos_r0 : Fld Z h0 r0 "java/time/Duration" "nanos" "I" (.int (own_nan re))) (hok : own_ok re) :
    MetFree l (⟨"java/time/Duration", "toMillis", "()J"⟩ : MethodName) (head1 (Jvm.Cond.code (⟨"java/time/Duration", "toMillis", "()J"⟩ : MethodName) jdk_2316_method_57_code 7 (some .long) :: ws) ({ frames := 3, cells := 0, slots := 0, locals := 48 } : Room)) (fun a U => a = #[(.ref r0)] ∧ Z.Warmed39 U.vm ∧ U.heap = h0) (fun _ _ _ _ _ => True) (fun _ U o U' => ∃ v L, o = .returned v ∧ Q_rm13 Z r0 re h0 n0 v U'.heap L ∧ FrameEnd U o U' L ({ frames := 3, cells := 0, slots := 0, locals := 48 } : Room).cells ({ frames := 3, cells := 0, slots := 0, locals := 48 } : Room).slots) := by
  refine MetFree.of_bodySF (plainFor_of_name pn_6) hisR ?_
  intro p e s m args below meth c s₁ Bd hml0 hP hK
  obtain ⟨rfl, hZ, hh⟩ := hP
  have hx := Bd.exec
  have hby := Bd.bytes
  have hml : c.maxLocals = 7 := hml0
  have hown : s.vm.findClass "java/time/Duration" = some m.cls := findClass_of_methodNamed Bd.named
  have hnm := (name_of_methodNamed Bd.named Bd.method).1
  have hlk : meth.locks = false := by first | exact BodyLoose.notSynchronized (by assumption) | exact Body.notSynchronized (by assumption) | assumption
  have X0 : Stand p l e ({ frames := 3, cells := 0, slots := 0, locals := 48 } : Room) s m #[(.ref r0)] below meth c s₁ [] 0 0 := Stand.of_body Bd
  have e0 : s₁.heap = h0 := by rw [← hh, Bd.state]; rfl
  have N0 := Fr.nil n0
  have Zn := Z0
  have K0 : ∀ t, Steps p.tables e below (s₁.setTop (mkF m 0 #[.val (.ref r0), .unset, .unset, .unset, .unset, .unset, .unset] [])) t → Steps p.tables e below (s₁.setTop (entryFrame m #[(.ref r0)] 7)) t := fun t k => castTop (ef_rm13 m r0) k
  obtain ⟨T1, X1, e1, st1⟩ := getF X0 hx hZ hown (host := "") (Or.inl (hw _ (List.mem_of_getElem? (i := 45) rfl))) Via.refl e0 F_seconds_r0 (g := (mkF m 1 #[.val (.ref r0), .unset, .unset, .unset, .unset, .unset, .unset] [(.ref r0)])) rfl rfl (hb hby d_jdk_2316_method_57_code_1)
  obtain ⟨T2, X2, e2, st2⟩ := getF X1 hx hZ hown (host := "") (Or.inl (hw _ (List.mem_of_getElem? (i := 47) rfl))) Via.refl e1 F_nanos_r0 (g := (mkF m 6 #[.val (.ref r0), .val (.long (own_sec re)), .second, .unset, .unset, .unset, .unset] [(.ref r0)])) rfl rfl (hb hby d_jdk_2316_method_57_code_6)
  have hc14 : ¬ ((lcmpW (own_sec re) (0 : Int64)) < (0 : Int32)) := (own_nonneg64 (by rw [own_secI hok]; have u := hok.1; omega))
  obtain ⟨_, _, ⟨T3, L3, k3, n3⟩, -, X3, ⟨Lc3, hQ3, l3, y3, z3⟩, st3⟩ := Jvm.LawKit.callS X2 hx (y := (⟨"java/lang/Math", "multiplyExact", "(JI)J"⟩ : MethodName)) hown (mvT hZ (hw _ (List.mem_of_getElem? (i := 57) rfl))) (mvT hZ (hw _ (List.mem_of_getElem? (i := 58) rfl))) (mvT hZ (hw _ (List.mem_of_getElem? (i := 3) rfl))) (mvT hZ (hw _ (List.mem_of_getElem? (i := 59) rfl))) (by decide) (backOf (W := 0) (rm4 l Z a0 hw [] (own_sec re) (1000 : Int32)  h0 n0 Zn (own_nonneg64 (by rw [own_secI hok]; have u := hok.1; omega)) (by decide) (by decide) (own_mdiv hok) (own_notmin hok)) hZ (hw _ (List.mem_of_getElem? (i := 59) rfl)) (hw _ (List.mem_of_getElem? (i := 3) rfl)) (by decide) (by decide)) (g := (mkF m 31 #[.val (.ref r0), .val (.long (own_sec re)), .second, .val (.long ((own_nan re).toInt64)), .second, .unset, .unset] [(.int (1000 : Int32)), (.long (own_sec re))])) rfl (by rw [hml]; rfl) (argsL := [(.long (own_sec re)), (.int (1000 : Int32))]) (rest := []) (lenOf pd_10 rfl) rfl (by show 2 * 0 + _ ≤ _; exact Nat.le_of_eq rfl) (hb hby d_jdk_2316_method_57_code_31) (fun _ _ => ⟨rfl, e2, (by decide : 0 + 0 ≤ _), (by decide : 0 + 0 ≤ _)⟩)
  dsimp only [Pt.U, Pt.locs, Pt.cells, Pt.slots] at X3 l3 y3 z3 st3 hQ3
  subst l3 y3 z3
  obtain ⟨rfl, N3q, e3q⟩ := hQ3
  have N3 := Fr.app N0 N3q
  have e3 : T3.heap = h0 := e3q
  obtain ⟨_, _, ⟨T4, L4, k4, n4⟩, -, X4, ⟨Lc4, hQ4, l4, y4, z4⟩, st4⟩ := Jvm.LawKit.callS X3 hx (y := (⟨"java/lang/Math", "addExact", "(JJ)J"⟩ : MethodName)) hown (mvT hZ (hw _ (List.mem_of_getElem? (i := 67) rfl))) (mvT hZ (hw _ (List.mem_of_getElem? (i := 68) rfl))) (mvT hZ (hw _ (List.mem_of_getElem? (i := 3) rfl))) (mvT hZ (hw _ (List.mem_of_getElem? (i := 69) rfl))) (by decide) (backOf (W := 0) (rm5 l Z a0 hw [] ((own_sec re) * ((1000 : Int32).toInt64)) (((own_nan re).toInt64) / (1000000 : Int64))  h0 n0 Zn (own_addge hok)) hZ (hw _ (List.mem_of_getElem? (i := 69) rfl)) (hw _ (List.mem_of_getElem? (i := 3) rfl)) (by decide) (by decide)) (g := (mkF m 43 #[.val (.ref r0), .val (.long (own_sec re)), .second, .val (.long ((own_nan re).toInt64)), .second, .val (.long ((own_sec re) * ((1000 : Int32).toInt64))), .second] [(.long (((own_nan re).toInt64) / (1000000 : Int64))), (.long ((own_sec re) * ((1000 : Int32).toInt64)))])) rfl (by rw [hml]; rfl) (argsL := [(.long ((own_sec re) * ((1000 : Int32).toInt64))), (.long (((own_nan re).toInt64) / (1000000 : Int64)))]) (rest := []) (lenOf pd_1 rfl) rfl (by show 2 * 0 + _ ≤ _; exact Nat.le_of_eq rfl) (hb hby d_jdk_2316_method_57_code_43) (fun _ _ => ⟨rfl, e3, (by decide : 0 + 0 ≤ _), (by decide : 0 + 0 ≤ _)⟩)
  dsimp only [Pt.U, Pt.locs, Pt.cells, Pt.slots] at X4 l4 y4 z4 st4 hQ4
  subst l4 y4 z4
  obtain ⟨rfl, N4q, e4q⟩ := hQ4
  have N4 := Fr.app N3 N4q
  have e4 : T4.heap = h0 := e4q
  obtain ⟨fs, hr, hrun, hended, hW, hsame⟩ := X4.leave (v := some (.long (((own_sec re) * ((1000 : Int32).toInt64)) + (((own_nan re).toInt64) / (1000000 : Int64))))) (fun h => by rw [Bd.returns] at h; cases h) hlk
  refine ⟨_, _, K0 _ ?_, hrun, hended, _, _, rfl, ?_, ⟨_, rfl⟩, hW, hsame.mono (by decide) (by decide)⟩
  ·
    show Steps p.tables e below (s₁.setTop (mkF m 0 #[.val (.ref r0), .unset, .unset, .unset, .unset, .unset, .unset] [])) _
    refine XS.aloadN X0.here hx rfl (hb hby d_jdk_2316_method_57_code_0) rfl rfl ?_
    show Steps p.tables e below (s₁.setTop (mkF m 1 #[.val (.ref r0), .unset, .unset, .unset, .unset, .unset, .unset] [(.ref r0)])) _
    refine st1 _ ?_
    show Steps p.tables e below (T1.setTop (mkF m 4 #[.val (.ref r0), .unset, .unset, .unset, .unset, .unset, .unset] [(.long (own_sec re))])) _
    refine XS.lstoreN X1.here hx rfl (hb hby d_jdk_2316_method_57_code_4) rfl (l' := #[.val (.ref r0), .val (.long (own_sec re)), .second, .unset, .unset, .unset, .unset]) rfl ?_
    show Steps p.tables e below (T1.setTop (mkF m 5 #[.val (.ref r0), .val (.long (own_sec re)), .second, .unset, .unset, .unset, .unset] [])) _
    refine XS.aloadN X1.here hx rfl (hb hby d_jdk_2316_method_57_code_5) rfl rfl ?_
    show Steps p.tables e below (T1.setTop (mkF m 6 #[.val (.ref r0), .val (.long (own_sec re)), .second, .unset, .unset, .unset, .unset] [(.ref r0)])) _
    refine st2 _ ?_
    show Steps p.tables e below (T2.setTop (mkF m 9 #[.val (.ref r0), .val (.long (own_sec re)), .second, .unset, .unset, .unset, .unset] [(.int (own_nan re))])) _
    refine XS.i2l X2.here hx rfl (hb hby d_jdk_2316_method_57_code_9) rfl ?_
    show Steps p.tables e below (T2.setTop (mkF m 10 #[.val (.ref r0), .val (.long (own_sec re)), .second, .unset, .unset, .unset, .unset] [(.long ((own_nan re).toInt64))])) _
    refine XS.lstoreN X2.here hx rfl (hb hby d_jdk_2316_method_57_code_10) rfl (l' := #[.val (.ref r0), .val (.long (own_sec re)), .second, .val (.long ((own_nan re).toInt64)), .second, .unset, .unset]) rfl ?_
    show Steps p.tables e below (T2.setTop (mkF m 11 #[.val (.ref r0), .val (.long (own_sec re)), .second, .val (.long ((own_nan re).toInt64)), .second, .unset, .unset] [])) _
    refine XS.lloadN X2.here hx rfl (hb hby d_jdk_2316_method_57_code_11) rfl ?_
    show Steps p.tables e below (T2.setTop (mkF m 12 #[.val (.ref r0), .val (.long (own_sec re)), .second, .val (.long ((own_nan re).toInt64)), .second, .unset, .unset] [(.long (own_sec re))])) _
    refine XS.lconst X2.here hx rfl (hb hby d_jdk_2316_method_57_code_12) ?_
    show Steps p.tables e below (T2.setTop (mkF m 13 #[.val (.ref r0), .val (.long (own_sec re)), .second, .val (.long ((own_nan re).toInt64)), .second, .unset, .unset] [(.long (0 : Int64)), (.long (own_sec re))])) _
    refine XS.lcmp X2.here hx rfl (hb hby d_jdk_2316_method_57_code_13) rfl ?_
    show Steps p.tables e below (T2.setTop (mkF m 14 #[.val (.ref r0), .val (.long (own_sec re)), .second, .val (.long ((own_nan re).toInt64)), .second, .unset, .unset] [(.int (lcmpW (own_sec re) (0 : Int64)))])) _
    refine XS.ifYes X2.here hx rfl (pc0 := 14) (pc' := 27) rfl (hb hby d_jdk_2316_method_57_code_14) rfl ((if0 _ _).trans (flt hc14).2.1) (by decide) (by decide) ?_
    show Steps p.tables e below (T2.setTop (mkF m 27 #[.val (.ref r0), .val (.long (own_sec re)), .second, .val (.long ((own_nan re).toInt64)), .second, .unset, .unset] [])) _
    refine XS.lloadN X2.here hx rfl (hb hby d_jdk_2316_method_57_code_27) rfl ?_
    show Steps p.tables e below (T2.setTop (mkF m 28 #[.val (.ref r0), .val (.long (own_sec re)), .second, .val (.long ((own_nan re).toInt64)), .second, .unset, .unset] [(.long (own_sec re))])) _
    refine XS.sipush X2.here hx rfl (hb hby d_jdk_2316_method_57_code_28) ?_
    show Steps p.tables e below (T2.setTop (mkF m 31 #[.val (.ref r0), .val (.long (own_sec re)), .second, .val (.long ((own_nan re).toInt64)), .second, .unset, .unset] [(.int (1000 : Int32)), (.long (own_sec re))])) _
    refine st3 _ ?_
    show Steps p.tables e below (T3.setTop (mkF m 34 #[.val (.ref r0), .val (.long (own_sec re)), .second, .val (.long ((own_nan re).toInt64)), .second, .unset, .unset] [(.long ((own_sec re) * ((1000 : Int32).toInt64)))])) _
    refine XS.lstore X3.here hx rfl (hb hby d_jdk_2316_method_57_code_34) rfl (l' := #[.val (.ref r0), .val (.long (own_sec re)), .second, .val (.long ((own_nan re).toInt64)), .second, .val (.long ((own_sec re) * ((1000 : Int32).toInt64))), .second]) rfl ?_
    show Steps p.tables e below (T3.setTop (mkF m 36 #[.val (.ref r0), .val (.long (own_sec re)), .second, .val (.long ((own_nan re).toInt64)), .second, .val (.long ((own_sec re) * ((1000 : Int32).toInt64))), .second] [])) _
    refine XS.lload X3.here hx rfl (hb hby d_jdk_2316_method_57_code_36) rfl ?_
    show Steps p.tables e below (T3.setTop (mkF m 38 #[.val (.ref r0), .val (.long (own_sec re)), .second, .val (.long ((own_nan re).toInt64)), .second, .val (.long ((own_sec re) * ((1000 : Int32).toInt64))), .second] [(.long ((own_sec re) * ((1000 : Int32).toInt64)))])) _
    refine XS.lloadN X3.here hx rfl (hb hby d_jdk_2316_method_57_code_38) rfl ?_
    show Steps p.tables e below (T3.setTop (mkF m 39 #[.val (.ref r0), .val (.long (own_sec re)), .second, .val (.long ((own_nan re).toInt64)), .second, .val (.long ((own_sec re) * ((1000 : Int32).toInt64))), .second] [(.long ((own_nan re).toInt64)), (.long ((own_sec re) * ((1000 : Int32).toInt64)))])) _
    refine X3.ldc2Long hx hown (mvT hZ (hw _ (List.mem_of_getElem? (i := 66) rfl))) (g := (mkF m 39 #[.val (.ref r0), .val (.long (own_sec re)), .second, .val (.long ((own_nan re).toInt64)), .second, .val (.long ((own_sec re) * ((1000 : Int32).toInt64))), .second] [(.long ((own_nan re).toInt64)), (.long ((own_sec re) * ((1000 : Int32).toInt64)))])) rfl (hb hby d_jdk_2316_method_57_code_39) _ ?_
    show Steps p.tables e below (T3.setTop (mkF m 42 #[.val (.ref r0), .val (.long (own_sec re)), .second, .val (.long ((own_nan re).toInt64)), .second, .val (.long ((own_sec re) * ((1000 : Int32).toInt64))), .second] [(.long (1000000 : Int64)), (.long ((own_nan re).toInt64)), (.long ((own_sec re) * ((1000 : Int32).toInt64)))])) _
    refine XS.ldiv X3.here hx rfl (hb hby d_jdk_2316_method_57_code_42) rfl (by decide) ?_
    show Steps p.tables e below (T3.setTop (mkF m 43 #[.val (.ref r0), .val (.long (own_sec re)), .second, .val (.long ((own_nan re).toInt64)), .second, .val (.long ((own_sec re) * ((1000 : Int32).toInt64))), .second] [(.long (((own_nan re).toInt64) / (1000000 : Int64))), (.long ((own_sec re) * ((1000 : Int32).toInt64)))])) _
    refine st4 _ ?_
    show Steps p.tables e below (T4.setTop (mkF m 46 #[.val (.ref r0), .val (.long (own_sec re)), .second, .val (.long ((own_nan re).toInt64)), .second, .val (.long ((own_sec re) * ((1000 : Int32).toInt64))), .second] [(.long (((own_sec re) * ((1000 : Int32).toInt64)) + (((own_nan re).toInt64) / (1000000 : Int64))))])) _
    refine XS.lstore X4.here hx rfl (hb hby d_jdk_2316_method_57_code_46) rfl (l' := #[.val (.ref r0), .val (.long (own_sec re)), .second, .val (.long ((own_nan re).toInt64)), .second, .val (.long (((own_sec re) * ((1000 : Int32).toInt64)) + (((own_nan re).toInt64) / (1000000 : Int64)))), .second]) rfl ?_
    show Steps p.tables e below (T4.setTop (mkF m 48 #[.val (.ref r0), .val (.long (own_sec re)), .second, .val (.long ((own_nan re).toInt64)), .second, .val (.long (((own_sec re) * ((1000 : Int32).toInt64)) + (((own_nan re).toInt64) / (1000000 : Int64)))), .second] [])) _
    refine XS.lload X4.here hx rfl (hb hby d_jdk_2316_method_57_code_48) rfl ?_
    show Steps p.tables e below (T4.setTop (mkF m 50 #[.val (.ref r0), .val (.long (own_sec re)), .second, .val (.long ((own_nan re).toInt64)), .second, .val (.long (((own_sec re) * ((1000 : Int32).toInt64)) + (((own_nan re).toInt64) / (1000000 : Int64)))), .second] [(.long (((own_sec re) * ((1000 : Int32).toInt64)) + (((own_nan re).toInt64) / (1000000 : Int64))))])) _
    exact X4.lreturnOut hx Bd.returns (hb hby d_jdk_2316_method_57_code_50) hr
  ·
    show Q_rm13 Z r0 re h0 n0 _ T4.heap _
    rw [e4]
    exact ⟨congrArg (fun z => some (Value.long z)) (own_ms hok), N4, rfl⟩
theorem d_jdk_2316_method_66_code_0 : decode jdk_2316_method_66_code 0 = .ok (.aload_n 0, 1) := by decide +kernel
theorem d_jdk_2316_method_66_code_1 : decode jdk_2316_method_66_code 1 = .ok (.getfield 221, 3) := by decide +kernel
theorem d_jdk_2316_method_66_code_4 : decode jdk_2316_method_66_code 4 = .ok (.aload_n 1, 1) := by decide +kernel
theorem d_jdk_2316_method_66_code_5 : decode jdk_2316_method_66_code 5 = .ok (.getfield 221, 3) := by decide +kernel
theorem d_jdk_2316_method_66_code_8 : decode jdk_2316_method_66_code 8 = .ok (.invokestatic 416, 3) := by decide +kernel
theorem pd_11 : parseMethodDescriptor "(JJ)I" = some ⟨[.long, .long], some .int⟩ := by decide +kernel
theorem d_jdk_2316_method_66_code_11 : decode jdk_2316_method_66_code 11 = .ok (.istore_n 2, 1) := by decide +kernel
theorem d_jdk_2316_method_66_code_12 : decode jdk_2316_method_66_code 12 = .ok (.iload_n 2, 1) := by decide +kernel
theorem d_jdk_2316_method_66_code_13 : decode jdk_2316_method_66_code 13 = .ok (.ifCond .eq 5, 3) := by decide +kernel
theorem d_jdk_2316_method_66_code_18 : decode jdk_2316_method_66_code 18 = .ok (.aload_n 0, 1) := by decide +kernel
theorem d_jdk_2316_method_66_code_19 : decode jdk_2316_method_66_code 19 = .ok (.getfield 224, 3) := by decide +kernel
theorem d_jdk_2316_method_66_code_22 : decode jdk_2316_method_66_code 22 = .ok (.aload_n 1, 1) := by decide +kernel
theorem d_jdk_2316_method_66_code_23 : decode jdk_2316_method_66_code 23 = .ok (.getfield 224, 3) := by decide +kernel
theorem d_jdk_2316_method_66_code_26 : decode jdk_2316_method_66_code 26 = .ok (.isub, 1) := by decide +kernel
theorem d_jdk_2316_method_66_code_27 : decode jdk_2316_method_66_code 27 = .ok (.ireturn, 1) := by decide +kernel
theorem ef_rm14 (m : MethodId) (x0 : Addr) (x1 : Addr) : entryFrame m #[(.ref x0), (.ref x1)] 3 = mkF m 0 #[.val (.ref x0), .val (.ref x1), .unset] [] := by first | (simp [entryFrame, mkF, argsToLocals, Value.category]; done) | rfl
def Q_rm14 (Z : State) (r0 : Addr) (r1 : Addr) (re : Int64) (h0 : Heap) (n0 : Nat) (v : Option Value) (h : Heap) (L : List Loc) : Prop := v = some (.int ((own_nan re) - (own_nan re))) ∧ Fr n0 L ∧ h = h0
set_option maxRecDepth 65536 in
set_option maxHeartbeats 40000000 in
theorem rm14 (l : Launch) (Z : State) (a0 : Array Value) (hw : ∀ d ∈ tables_1, d.before a0 Z = true) (ws : List Jvm.Cond) (r0 : Addr) (r1 : Addr) (re : Int64) (h0 : Heap) (n0 : Nat) (Z0 : n0 ≤ h0.size) (F_seconds_r0 : Fld Z h0 r0 "java/time/Duration" "seconds" "J" (.long (own_sec re))) (F_nanos_r0 : Fld Z h0 r0 "java/time/Duration" "nanos" "I" (.int (own_nan re))) (F_seconds_r1 : Fld Z h0 r1 "java/time/Duration" "seconds" "J" (.long (own_sec re))) (F_nanos_r1 : Fld Z h0 r1 "java/time/Duration" "nanos" "I" (.int (own_nan re))) :
    MetFree l (⟨"java/time/Duration", "compareTo", "(Ljava/time/Duration;)I"⟩ : MethodName) (head1 (Jvm.Cond.code (⟨"java/time/Duration", "compareTo", "(Ljava/time/Duration;)I"⟩ : MethodName) jdk_2316_method_66_code 3 (some .int) :: ws) ({ frames := 1, cells := 0, slots := 0, locals := 15 } : Room)) (fun a U => a = #[(.ref r0), (.ref r1)] ∧ Z.Warmed39 U.vm ∧ U.heap = h0) (fun _ _ _ _ _ => True) (fun _ U o U' => ∃ v L, o = .returned v ∧ Q_rm14 Z r0 r1 re h0 n0 v U'.heap L ∧ FrameEnd U o U' L ({ frames := 1, cells := 0, slots := 0, locals := 15 } : Room).cells ({ frames := 1, cells := 0, slots := 0, locals := 15 } : Room).slots) := by
  refine MetFree.of_bodySF (plainFor_of_name pn_6) hisR ?_
  intro p e s m args below meth c s₁ Bd hml0 hP hK
  obtain ⟨rfl, hZ, hh⟩ := hP
  have hx := Bd.exec
  have hby := Bd.bytes
  have hml : c.maxLocals = 3 := hml0
  have hown : s.vm.findClass "java/time/Duration" = some m.cls := findClass_of_methodNamed Bd.named
  have hnm := (name_of_methodNamed Bd.named Bd.method).1
  have hlk : meth.locks = false := by first | exact BodyLoose.notSynchronized (by assumption) | exact Body.notSynchronized (by assumption) | assumption
  have X0 : Stand p l e ({ frames := 1, cells := 0, slots := 0, locals := 15 } : Room) s m #[(.ref r0), (.ref r1)] below meth c s₁ [] 0 0 := Stand.of_body Bd
  have e0 : s₁.heap = h0 := by rw [← hh, Bd.state]; rfl
  have N0 := Fr.nil n0
  have Zn := Z0
  have K0 : ∀ t, Steps p.tables e below (s₁.setTop (mkF m 0 #[.val (.ref r0), .val (.ref r1), .unset] [])) t → Steps p.tables e below (s₁.setTop (entryFrame m #[(.ref r0), (.ref r1)] 3)) t := fun t k => castTop (ef_rm14 m r0 r1) k
  obtain ⟨T1, X1, e1, st1⟩ := getF X0 hx hZ hown (host := "") (Or.inl (hw _ (List.mem_of_getElem? (i := 45) rfl))) Via.refl e0 F_seconds_r0 (g := (mkF m 1 #[.val (.ref r0), .val (.ref r1), .unset] [(.ref r0)])) rfl rfl (hb hby d_jdk_2316_method_66_code_1)
  obtain ⟨T2, X2, e2, st2⟩ := getF X1 hx hZ hown (host := "") (Or.inl (hw _ (List.mem_of_getElem? (i := 45) rfl))) Via.refl e1 F_seconds_r1 (g := (mkF m 5 #[.val (.ref r0), .val (.ref r1), .unset] [(.ref r1), (.long (own_sec re))])) rfl rfl (hb hby d_jdk_2316_method_66_code_5)
  obtain ⟨_, _, ⟨T3, L3, k3, n3⟩, -, X3, ⟨Lc3, hQ3, l3, y3, z3⟩, st3⟩ := Jvm.LawKit.callS X2 hx (y := (⟨"java/lang/Long", "compare", "(JJ)I"⟩ : MethodName)) hown (mvT hZ (hw _ (List.mem_of_getElem? (i := 75) rfl))) (mvT hZ (hw _ (List.mem_of_getElem? (i := 76) rfl))) (mvT hZ (hw _ (List.mem_of_getElem? (i := 77) rfl))) (mvT hZ (hw _ (List.mem_of_getElem? (i := 78) rfl))) (by decide) (backOf (W := 0) (rm6 l Z a0 hw [] (own_sec re) (own_sec re)  h0 n0 Zn rfl) hZ (hw _ (List.mem_of_getElem? (i := 78) rfl)) (hw _ (List.mem_of_getElem? (i := 77) rfl)) (by decide) (by decide)) (g := (mkF m 8 #[.val (.ref r0), .val (.ref r1), .unset] [(.long (own_sec re)), (.long (own_sec re))])) rfl (by rw [hml]; rfl) (argsL := [(.long (own_sec re)), (.long (own_sec re))]) (rest := []) (lenOf pd_11 rfl) rfl (by show 2 * 0 + _ ≤ _; exact Nat.le_of_eq rfl) (hb hby d_jdk_2316_method_66_code_8) (fun _ _ => ⟨rfl, e2, (by decide : 0 + 0 ≤ _), (by decide : 0 + 0 ≤ _)⟩)
  dsimp only [Pt.U, Pt.locs, Pt.cells, Pt.slots] at X3 l3 y3 z3 st3 hQ3
  subst l3 y3 z3
  obtain ⟨rfl, N3q, e3q⟩ := hQ3
  have N3 := Fr.app N0 N3q
  have e3 : T3.heap = h0 := e3q
  have hc13 : (0 : Int32) = (0 : Int32) := (by decide)
  obtain ⟨T4, X4, e4, st4⟩ := getF X3 hx hZ hown (host := "") (Or.inl (hw _ (List.mem_of_getElem? (i := 47) rfl))) Via.refl e3 F_nanos_r0 (g := (mkF m 19 #[.val (.ref r0), .val (.ref r1), .val (.int (0 : Int32))] [(.ref r0)])) rfl rfl (hb hby d_jdk_2316_method_66_code_19)
  obtain ⟨T5, X5, e5, st5⟩ := getF X4 hx hZ hown (host := "") (Or.inl (hw _ (List.mem_of_getElem? (i := 47) rfl))) Via.refl e4 F_nanos_r1 (g := (mkF m 23 #[.val (.ref r0), .val (.ref r1), .val (.int (0 : Int32))] [(.ref r1), (.int (own_nan re))])) rfl rfl (hb hby d_jdk_2316_method_66_code_23)
  obtain ⟨fs, hr, hrun, hended, hW, hsame⟩ := X5.leave (v := some (.int ((own_nan re) - (own_nan re)))) (fun h => by rw [Bd.returns] at h; cases h) hlk
  refine ⟨_, _, K0 _ ?_, hrun, hended, _, _, rfl, ?_, ⟨_, rfl⟩, hW, hsame.mono (by decide) (by decide)⟩
  ·
    show Steps p.tables e below (s₁.setTop (mkF m 0 #[.val (.ref r0), .val (.ref r1), .unset] [])) _
    refine XS.aloadN X0.here hx rfl (hb hby d_jdk_2316_method_66_code_0) rfl rfl ?_
    show Steps p.tables e below (s₁.setTop (mkF m 1 #[.val (.ref r0), .val (.ref r1), .unset] [(.ref r0)])) _
    refine st1 _ ?_
    show Steps p.tables e below (T1.setTop (mkF m 4 #[.val (.ref r0), .val (.ref r1), .unset] [(.long (own_sec re))])) _
    refine XS.aloadN X1.here hx rfl (hb hby d_jdk_2316_method_66_code_4) rfl rfl ?_
    show Steps p.tables e below (T1.setTop (mkF m 5 #[.val (.ref r0), .val (.ref r1), .unset] [(.ref r1), (.long (own_sec re))])) _
    refine st2 _ ?_
    show Steps p.tables e below (T2.setTop (mkF m 8 #[.val (.ref r0), .val (.ref r1), .unset] [(.long (own_sec re)), (.long (own_sec re))])) _
    refine st3 _ ?_
    show Steps p.tables e below (T3.setTop (mkF m 11 #[.val (.ref r0), .val (.ref r1), .unset] [(.int (0 : Int32))])) _
    refine XS.istoreN X3.here hx rfl (hb hby d_jdk_2316_method_66_code_11) rfl (l' := #[.val (.ref r0), .val (.ref r1), .val (.int (0 : Int32))]) rfl ?_
    show Steps p.tables e below (T3.setTop (mkF m 12 #[.val (.ref r0), .val (.ref r1), .val (.int (0 : Int32))] [])) _
    refine XS.iloadN X3.here hx rfl (hb hby d_jdk_2316_method_66_code_12) rfl ?_
    show Steps p.tables e below (T3.setTop (mkF m 13 #[.val (.ref r0), .val (.ref r1), .val (.int (0 : Int32))] [(.int (0 : Int32))])) _
    refine XS.ifYes X3.here hx rfl (pc0 := 13) (pc' := 18) rfl (hb hby d_jdk_2316_method_66_code_13) rfl ((if0 _ _).trans (teq hc13).1) (by decide) (by decide) ?_
    show Steps p.tables e below (T3.setTop (mkF m 18 #[.val (.ref r0), .val (.ref r1), .val (.int (0 : Int32))] [])) _
    refine XS.aloadN X3.here hx rfl (hb hby d_jdk_2316_method_66_code_18) rfl rfl ?_
    show Steps p.tables e below (T3.setTop (mkF m 19 #[.val (.ref r0), .val (.ref r1), .val (.int (0 : Int32))] [(.ref r0)])) _
    refine st4 _ ?_
    show Steps p.tables e below (T4.setTop (mkF m 22 #[.val (.ref r0), .val (.ref r1), .val (.int (0 : Int32))] [(.int (own_nan re))])) _
    refine XS.aloadN X4.here hx rfl (hb hby d_jdk_2316_method_66_code_22) rfl rfl ?_
    show Steps p.tables e below (T4.setTop (mkF m 23 #[.val (.ref r0), .val (.ref r1), .val (.int (0 : Int32))] [(.ref r1), (.int (own_nan re))])) _
    refine st5 _ ?_
    show Steps p.tables e below (T5.setTop (mkF m 26 #[.val (.ref r0), .val (.ref r1), .val (.int (0 : Int32))] [(.int (own_nan re)), (.int (own_nan re))])) _
    refine XS.isub X5.here hx rfl (hb hby d_jdk_2316_method_66_code_26) rfl ?_
    show Steps p.tables e below (T5.setTop (mkF m 27 #[.val (.ref r0), .val (.ref r1), .val (.int (0 : Int32))] [(.int ((own_nan re) - (own_nan re)))])) _
    exact retI X5 hx Bd.returns (hb hby d_jdk_2316_method_66_code_27) hr
  ·
    show Q_rm14 Z r0 r1 re h0 n0 _ T5.heap _
    rw [e5]
    exact ⟨rfl, N3, rfl⟩
theorem d_prog_10_method_3_code_0 : decode prog_10_method_3_code 0 = .ok (.aload_n 0, 1) := by decide +kernel
theorem d_prog_10_method_3_code_1 : decode prog_10_method_3_code 1 = .ok (.invokevirtual 46, 3) := by decide +kernel
theorem pd_12 : parseMethodDescriptor "()J" = some ⟨[], some .long⟩ := by decide +kernel
theorem d_prog_10_method_3_code_4 : decode prog_10_method_3_code 4 = .ok (.lstore_n 1, 1) := by decide +kernel
theorem d_prog_10_method_3_code_5 : decode prog_10_method_3_code 5 = .ok (.lload_n 1, 1) := by decide +kernel
theorem d_prog_10_method_3_code_6 : decode prog_10_method_3_code 6 = .ok (.invokestatic 35, 3) := by decide +kernel
theorem d_prog_10_method_3_code_9 : decode prog_10_method_3_code 9 = .ok (.aload_n 0, 1) := by decide +kernel
theorem d_prog_10_method_3_code_10 : decode prog_10_method_3_code 10 = .ok (.invokevirtual 31, 3) := by decide +kernel
theorem pd_13 : parseMethodDescriptor "(Ljava/time/Duration;)I" = some ⟨[(.object "java/time/Duration")], some .int⟩ := by decide +kernel
theorem d_prog_10_method_3_code_13 : decode prog_10_method_3_code 13 = .ok (.ifCond .ge 7, 3) := by decide +kernel
theorem d_prog_10_method_3_code_20 : decode prog_10_method_3_code 20 = .ok (.lload_n 1, 1) := by decide +kernel
theorem d_prog_10_method_3_code_21 : decode prog_10_method_3_code 21 = .ok (.lreturn, 1) := by decide +kernel
theorem ef_rm15 (m : MethodId) (x0 : Addr) : entryFrame m #[(.ref x0)] 3 = mkF m 0 #[.val (.ref x0), .unset, .unset] [] := by first | (simp [entryFrame, mkF, argsToLocals, Value.category]; done) | rfl
def Q_rm15 (Z : State) (r0 : Addr) (re : Int64) (h0 : Heap) (n0 : Nat) (v : Option Value) (h : Heap) (L : List Loc) : Prop := v = some (.long re) ∧ Fr n0 L ∧ Keep h0 h []
set_option maxRecDepth 65536 in
set_option maxHeartbeats 40000000 in
theorem rm15 (l : Launch) (Z : State) (a0 : Array Value) (hw : ∀ d ∈ tables_1, d.before a0 Z = true) (ws : List Jvm.Cond) (r0 : Addr) (re : Int64) (h0 : Heap) (n0 : Nat) (Z0 : n0 ≤ h0.size) (E_r0 : Exa Z h0 r0 "java/time/Duration") (F_seconds_r0 : Fld Z h0 r0 "java/time/Duration" "seconds" "J" (.long (own_sec re))) (F_nanos_r0 : Fld Z h0 r0 "java/time/Duration" "nanos" "I" (.int (own_nan re))) (hok : own_ok re) :
    MetFree l (⟨"com/example/keylatch/keylatch/Lease", "ceilMillis", "(Ljava/time/Duration;)J"⟩ : MethodName) (head1 (Jvm.Cond.code (⟨"com/example/keylatch/keylatch/Lease", "ceilMillis", "(Ljava/time/Duration;)J"⟩ : MethodName) prog_10_method_3_code 3 (some .long) :: ws) ({ frames := 4, cells := 1, slots := 2, locals := 66 } : Room)) (fun a U => a = #[(.ref r0)] ∧ Z.Warmed39 U.vm ∧ U.heap = h0) (fun _ _ _ _ _ => True) (fun _ U o U' => ∃ v L, o = .returned v ∧ Q_rm15 Z r0 re h0 n0 v U'.heap L ∧ FrameEnd U o U' L ({ frames := 4, cells := 1, slots := 2, locals := 66 } : Room).cells ({ frames := 4, cells := 1, slots := 2, locals := 66 } : Room).slots) := by
  refine MetFree.of_bodySF (plainFor_of_name pn_5) hisR ?_
  intro p e s m args below meth c s₁ Bd hml0 hP hK
  obtain ⟨rfl, hZ, hh⟩ := hP
  have hx := Bd.exec
  have hby := Bd.bytes
  have hml : c.maxLocals = 3 := hml0
  have hown : s.vm.findClass "com/example/keylatch/keylatch/Lease" = some m.cls := findClass_of_methodNamed Bd.named
  have hnm := (name_of_methodNamed Bd.named Bd.method).1
  have hlk : meth.locks = false := by first | exact BodyLoose.notSynchronized (by assumption) | exact Body.notSynchronized (by assumption) | assumption
  have X0 : Stand p l e ({ frames := 4, cells := 1, slots := 2, locals := 66 } : Room) s m #[(.ref r0)] below meth c s₁ [] 0 0 := Stand.of_body Bd
  have e0 : s₁.heap = h0 := by rw [← hh, Bd.state]; rfl
  have N0 := Fr.nil n0
  have Zn := Z0
  have K0 : ∀ t, Steps p.tables e below (s₁.setTop (mkF m 0 #[.val (.ref r0), .unset, .unset] [])) t → Steps p.tables e below (s₁.setTop (entryFrame m #[(.ref r0)] 3)) t := fun t k => castTop (ef_rm15 m r0) k
  have Kp : Keep h0 h0 [] := Keep.refl h0 []
  obtain ⟨cq1, kq1, q1a, q1b, q1c⟩ := isOf hZ e0 E_r0
  obtain ⟨_, _, ⟨T1, L1, k1, n1⟩, -, X1, ⟨Lc1, hQ1, l1, y1, z1⟩, st1⟩ := X0.virtualBack hx (y := (⟨"java/time/Duration", "toMillis", "()J"⟩ : MethodName)) (z := (⟨"java/time/Duration", "toMillis", "()J"⟩ : MethodName)) hown (mvT hZ (hw _ (List.mem_of_getElem? (i := 52) rfl))) (mvT hZ (hw _ (List.mem_of_getElem? (i := 53) rfl))) (notFace_of_selects (args := #[]) (mvT hZ (hw _ (List.mem_of_getElem? (i := 55) rfl)))) (mvT hZ (hw _ (List.mem_of_getElem? (i := 55) rfl))) (mvT hZ (hw _ (List.mem_of_getElem? (i := 54) rfl))) (by decide) (backOf (W := 0) (rm13 l Z a0 hw [] r0 re h0 n0 Zn F_seconds_r0 F_nanos_r0 hok) hZ (hw _ (List.mem_of_getElem? (i := 56) rfl)) (hw _ (List.mem_of_getElem? (i := 31) rfl)) (by decide) (by decide)) q1a q1c (g := (mkF m 1 #[.val (.ref r0), .unset, .unset] [(.ref r0)])) rfl (by rw [hml]; rfl) (Steps.refl _) (argsL := []) (rest := []) (lenOf pd_12 rfl) rfl (by show 2 * 0 + _ ≤ _; exact Nat.le_of_eq rfl) (hb hby d_prog_10_method_3_code_1) (fun _ _ => ⟨rfl, e0, (by decide : 0 + 0 ≤ _), (by decide : 0 + 0 ≤ _)⟩)
  dsimp only [Pt.U, Pt.locs, Pt.cells, Pt.slots] at X1 l1 y1 z1 st1 hQ1
  subst l1 y1 z1
  obtain ⟨rfl, N1q, e1q⟩ := hQ1
  have N1 := Fr.app N0 N1q
  have e1 : T1.heap = h0 := e1q
  obtain ⟨_, _, ⟨T2, L2, k2, n2⟩, -, X2, ⟨Lc2, hQ2, l2, y2, z2⟩, st2⟩ := Jvm.LawKit.callS X1 hx (y := (⟨"java/time/Duration", "ofMillis", "(J)Ljava/time/Duration;"⟩ : MethodName)) hown (mvT hZ (hw _ (List.mem_of_getElem? (i := 29) rfl))) (mvT hZ (hw _ (List.mem_of_getElem? (i := 30) rfl))) (mvT hZ (hw _ (List.mem_of_getElem? (i := 31) rfl))) (mvT hZ (hw _ (List.mem_of_getElem? (i := 32) rfl))) (by decide) (backOf (W := 0) (rm11 l Z a0 hw [] re  h0 n0 Zn hok) hZ (hw _ (List.mem_of_getElem? (i := 32) rfl)) (hw _ (List.mem_of_getElem? (i := 31) rfl)) (by decide) (by decide)) (g := (mkF m 6 #[.val (.ref r0), .val (.long re), .second] [(.long re)])) rfl (by rw [hml]; rfl) (argsL := [(.long re)]) (rest := []) (lenOf pd_9 rfl) rfl (by show 2 * 0 + _ ≤ _; exact Nat.le_of_eq rfl) (hb hby d_prog_10_method_3_code_6) (fun _ _ => ⟨rfl, e1, (by decide : 0 + 1 ≤ _), (by decide : 0 + 2 ≤ _)⟩)
  dsimp only [Pt.U, Pt.locs, Pt.cells, Pt.slots] at X2 l2 y2 z2 st2 hQ2
  subst l2 y2 z2
  obtain ⟨b2, rfl, N2q, K2k, pf2_0, pf2_1, pf2_2, pf2_3⟩ := hQ2
  have N2 := Fr.app N1 N2q
  have E_r0 := E_r0.keep K2k
  have F_seconds_r0 := F_seconds_r0.keep K2k nin0
  have F_nanos_r0 := F_nanos_r0.keep K2k nin0
  have Kp := Kp.trans K2k all0
  replace Zn := Nat.le_trans Zn K2k.1
  have g_b2 := pf2_0
  have E_b2 := pf2_1
  have F_seconds_b2 := pf2_2
  have F_nanos_b2 := pf2_3
  obtain ⟨cq3, kq3, q3a, q3b, q3c⟩ := isOf hZ rfl E_b2
  obtain ⟨_, _, ⟨T3, L3, k3, n3⟩, -, X3, ⟨Lc3, hQ3, l3, y3, z3⟩, st3⟩ := X2.virtualBack hx (y := (⟨"java/time/Duration", "compareTo", "(Ljava/time/Duration;)I"⟩ : MethodName)) (z := (⟨"java/time/Duration", "compareTo", "(Ljava/time/Duration;)I"⟩ : MethodName)) hown (mvT hZ (hw _ (List.mem_of_getElem? (i := 70) rfl))) (mvT hZ (hw _ (List.mem_of_getElem? (i := 71) rfl))) (notFace_of_selects (args := #[]) (mvT hZ (hw _ (List.mem_of_getElem? (i := 73) rfl)))) (mvT hZ (hw _ (List.mem_of_getElem? (i := 73) rfl))) (mvT hZ (hw _ (List.mem_of_getElem? (i := 72) rfl))) (by decide) (backOf (W := 0) (rm14 l Z a0 hw [] b2 r0 re T2.heap n0 Zn F_seconds_b2 F_nanos_b2 F_seconds_r0 F_nanos_r0) hZ (hw _ (List.mem_of_getElem? (i := 74) rfl)) (hw _ (List.mem_of_getElem? (i := 31) rfl)) (by decide) (by decide)) q3a q3c (g := (mkF m 10 #[.val (.ref r0), .val (.long re), .second] [(.ref r0), (.ref b2)])) rfl (by rw [hml]; rfl) (Steps.refl _) (argsL := [(.ref r0)]) (rest := []) (lenOf pd_13 rfl) rfl (by show 2 * 0 + _ ≤ _; exact Nat.le_of_eq rfl) (hb hby d_prog_10_method_3_code_10) (fun _ _ => ⟨rfl, rfl, (by decide : 1 + 0 ≤ _), (by decide : 2 + 0 ≤ _)⟩)
  dsimp only [Pt.U, Pt.locs, Pt.cells, Pt.slots] at X3 l3 y3 z3 st3 hQ3
  subst l3 y3 z3
  obtain ⟨rfl, N3q, e3q⟩ := hQ3
  have N3 := Fr.app N2 N3q
  have e3 : T3.heap = T2.heap := e3q
  have hc13 : ¬ (((own_nan re) - (own_nan re)) < (0 : Int32)) := (by rw [Int32.sub_self]; decide)
  obtain ⟨fs, hr, hrun, hended, hW, hsame⟩ := X3.leave (v := some (.long re)) (fun h => by rw [Bd.returns] at h; cases h) hlk
  refine ⟨_, _, K0 _ ?_, hrun, hended, _, _, rfl, ?_, ⟨_, rfl⟩, hW, hsame.mono (by decide) (by decide)⟩
  ·
    show Steps p.tables e below (s₁.setTop (mkF m 0 #[.val (.ref r0), .unset, .unset] [])) _
    refine XS.aloadN X0.here hx rfl (hb hby d_prog_10_method_3_code_0) rfl rfl ?_
    show Steps p.tables e below (s₁.setTop (mkF m 1 #[.val (.ref r0), .unset, .unset] [(.ref r0)])) _
    refine st1.trans ?_
    show Steps p.tables e below (T1.setTop (mkF m 4 #[.val (.ref r0), .unset, .unset] [(.long re)])) _
    refine XS.lstoreN X1.here hx rfl (hb hby d_prog_10_method_3_code_4) rfl (l' := #[.val (.ref r0), .val (.long re), .second]) rfl ?_
    show Steps p.tables e below (T1.setTop (mkF m 5 #[.val (.ref r0), .val (.long re), .second] [])) _
    refine XS.lloadN X1.here hx rfl (hb hby d_prog_10_method_3_code_5) rfl ?_
    show Steps p.tables e below (T1.setTop (mkF m 6 #[.val (.ref r0), .val (.long re), .second] [(.long re)])) _
    refine st2 _ ?_
    show Steps p.tables e below (T2.setTop (mkF m 9 #[.val (.ref r0), .val (.long re), .second] [(.ref b2)])) _
    refine XS.aloadN X2.here hx rfl (hb hby d_prog_10_method_3_code_9) rfl rfl ?_
    show Steps p.tables e below (T2.setTop (mkF m 10 #[.val (.ref r0), .val (.long re), .second] [(.ref r0), (.ref b2)])) _
    refine st3.trans ?_
    show Steps p.tables e below (T3.setTop (mkF m 13 #[.val (.ref r0), .val (.long re), .second] [(.int ((own_nan re) - (own_nan re)))])) _
    refine XS.ifYes X3.here hx rfl (pc0 := 13) (pc' := 20) rfl (hb hby d_prog_10_method_3_code_13) rfl ((if0 _ _).trans (flt hc13).2.1) (by decide) (by decide) ?_
    show Steps p.tables e below (T3.setTop (mkF m 20 #[.val (.ref r0), .val (.long re), .second] [])) _
    refine XS.lloadN X3.here hx rfl (hb hby d_prog_10_method_3_code_20) rfl ?_
    show Steps p.tables e below (T3.setTop (mkF m 21 #[.val (.ref r0), .val (.long re), .second] [(.long re)])) _
    exact X3.lreturnOut hx Bd.returns (hb hby d_prog_10_method_3_code_21) hr
  ·
    show Q_rm15 Z r0 re h0 n0 _ T3.heap _
    rw [e3]
    exact ⟨rfl, N3, Kp⟩
def own_mok (m : Int64) : Prop := 1 ≤ m.toInt ∧ m.toInt < 4611686018427387904
theorem own_m1 (x : Int64) : own_mok ((x &&& (7 : Int64)) + (1 : Int64)) := by
  have e : (x &&& (7 : Int64)).toInt = x.toInt % 2 ^ 3 := Jvm.Kit.i64_mask x 7 (k := 3) (by decide) (by decide)
  have k1 : (1 : Int64).toInt = 1 := by decide
  unfold own_mok
  rw [Jvm.Kit.i64_add (by omega) (by omega)]
  omega
theorem own_m2 (x : Int64) : own_mok (own_lmax (1 : Int64) (x &&& (4611686018427387903 : Int64))) := by
  have e : (x &&& (4611686018427387903 : Int64)).toInt = x.toInt % 2 ^ 62 := Jvm.Kit.i64_mask x 4611686018427387903 (k := 62) (by decide) (by decide)
  have k1 : (1 : Int64).toInt = 1 := by decide
  unfold own_mok own_lmax
  simp only [lw_lt, Int64.lt_iff_toInt_lt, k1]
  split <;> omega
theorem own_r {m : Int64} (h : own_mok m) : (own_lmax (1 : Int64) (m / (3 : Int64))).toInt = if m.toInt < 3 then 1 else m.toInt / 3 := by
  have u := h.1; have v := h.2
  have k1 : (1 : Int64).toInt = 1 := by decide
  have k3 : (3 : Int64).toInt = 3 := by decide
  have e : (m / (3 : Int64)).toInt = m.toInt / 3 := by rw [Jvm.Kit.i64_div (by omega), k3, Int.tdiv_eq_ediv_of_nonneg (by omega)]
  unfold own_lmax
  simp only [lw_lt, Int64.lt_iff_toInt_lt, k1, e]
  split <;> split <;> omega
theorem own_rok {m : Int64} (h : own_mok m) : own_ok (own_lmax (1 : Int64) (m / (3 : Int64))) := by
  have e := own_r h
  have u := h.1; have v := h.2
  unfold own_ok
  rw [e]; split <;> omega
theorem own_c1 {m : Int64} (h : own_mok m) : ¬ ((lcmpW m (1 : Int64)) < (0 : Int32)) := by
  rw [lw_lt, Int64.lt_iff_toInt_lt]
  have k1 : (1 : Int64).toInt = 1 := by decide
  have u := h.1
  omega
theorem own_c2 {m : Int64} (h : own_mok m) : ¬ ((0 : Int32) < (lcmpW m (4611686018427387903 : Int64))) := by
  rw [lw_gt, Int64.lt_iff_toInt_lt]
  have k1 : (4611686018427387903 : Int64).toInt = 4611686018427387903 := by decide
  have u := h.2
  omega
theorem own_a {m r : Int64} (h : own_mok m) (hr : r = own_lmax (1 : Int64) (m / (3 : Int64))) (hl : (lcmpW m (3 : Int64)) < (0 : Int32)) : (lcmpW r (1 : Int64)) = (0 : Int32) := by
  rw [lw_lt, Int64.lt_iff_toInt_lt] at hl
  have k1 : (1 : Int64).toInt = 1 := by decide
  have k3 : (3 : Int64).toInt = 3 := by decide
  have e := own_r h
  rw [if_pos (by omega), ← hr] at e
  rw [lw_eq]
  exact Int64.toInt_inj.mp (by omega)
theorem own_b {m r : Int64} (h : own_mok m) (hr : r = own_lmax (1 : Int64) (m / (3 : Int64))) (hl : ¬ ((lcmpW m (3 : Int64)) < (0 : Int32))) : ¬ ((lcmpW r (1 : Int64)) < (0 : Int32)) ∧ ¬ ((0 : Int32) < (lcmpW ((3 : Int64) * r) m)) ∧ (lcmpW m (((3 : Int64) * r) + (3 : Int64))) < (0 : Int32) := by
  rw [lw_lt, Int64.lt_iff_toInt_lt] at hl
  have k1 : (1 : Int64).toInt = 1 := by decide
  have k3 : (3 : Int64).toInt = 3 := by decide
  have e := own_r h
  have u := h.1; have v := h.2
  rw [if_neg (by omega), ← hr] at e
  have e1 : ((3 : Int64) * r).toInt = 3 * r.toInt := by rw [Jvm.Kit.i64_mul (by rw [k3]; omega) (by rw [k3]; omega), k3]
  have e2 : (((3 : Int64) * r) + (3 : Int64)).toInt = 3 * r.toInt + 3 := by rw [Jvm.Kit.i64_add (by omega) (by omega), e1, k3]
  rw [lw_lt, lw_gt, lw_lt, Int64.lt_iff_toInt_lt, Int64.lt_iff_toInt_lt, Int64.lt_iff_toInt_lt, e1, e2]
  omega
theorem pd_14 : parseMethodDescriptor "(J)V" = some ⟨[.long], none⟩ := by decide +kernel
theorem pd_15 : parseMethodDescriptor "()Ljava/time/Duration;" = some ⟨[], some (.object "java/time/Duration")⟩ := by decide +kernel
theorem pd_16 : parseMethodDescriptor "(Ljava/time/Duration;)J" = some ⟨[(.object "java/time/Duration")], some .long⟩ := by decide +kernel
theorem pn_17 : plainName "com/example/keylatch/keylatch/LeaseRenewalIntervalPinLaw" = true := by first | (simp [plainName, overriddenIn]; done) | decide +kernel
theorem ef_rm0 (m : MethodId) (x0 : Int64) (x1 : Int32) : entryFrame m #[(.long x0), (.int x1)] maxLocals = mkF m 0 #[.val (.long x0), .second, .val (.int x1), .unset, .unset, .unset, .unset, .unset, .unset] [] := by first | (simp [entryFrame, mkF, argsToLocals, Value.category, maxLocals]; done) | rfl
def Q_rm0 (Z : State) (q0 : Int64) (p1 : Int32) (h0 : Heap) (n0 : Nat) (v : Option Value) (h : Heap) (L : List Loc) : Prop := v = some (.int 1) ∧ Fr n0 L
set_option maxRecDepth 65536 in
set_option maxHeartbeats 40000000 in
theorem rm0 (l : Launch) (Z : State) (a0 : Array Value) (hw : ∀ d ∈ tables_1, d.before a0 Z = true) (ws : List Jvm.Cond) (q0 : Int64) (p1 : Int32) (h0 : Heap) (n0 : Nat) (Z0 : n0 ≤ h0.size) :
    MetFree l x (head1 (Jvm.Cond.code x code maxLocals ret :: ws) room_1) (fun a U => a = #[(.long q0), (.int p1)] ∧ Z.Warmed39 U.vm ∧ U.heap = h0) (fun _ _ _ _ _ => True) (fun _ U o U' => ∃ v L, o = .returned v ∧ Q_rm0 Z q0 p1 h0 n0 v U'.heap L ∧ FrameEnd U o U' L room_1.cells room_1.slots) := by
  refine MetFree.of_bodySF (plainFor_of_name pn_17) hisR ?_
  intro p e s m args below meth c s₁ Bd hml0 hP hK
  obtain ⟨rfl, hZ, hh⟩ := hP
  have hx := Bd.exec
  have hby := Bd.bytes
  have hml : c.maxLocals = 9 := hml0
  have hown : s.vm.findClass "com/example/keylatch/keylatch/LeaseRenewalIntervalPinLaw" = some m.cls := findClass_of_methodNamed Bd.named
  have hnm := (name_of_methodNamed Bd.named Bd.method).1
  have hlk : meth.locks = false := by first | exact BodyLoose.notSynchronized (by assumption) | exact Body.notSynchronized (by assumption) | assumption
  have X0 : Stand p l e room_1 s m #[(.long q0), (.int p1)] below meth c s₁ [] 0 0 := Stand.of_body Bd
  have e0 : s₁.heap = h0 := by rw [← hh, Bd.state]; rfl
  have N0 := Fr.nil n0
  have Zn := Z0
  have K0 : ∀ t, Steps p.tables e below (s₁.setTop (mkF m 0 #[.val (.long q0), .second, .val (.int p1), .unset, .unset, .unset, .unset, .unset, .unset] [])) t → Steps p.tables e below (s₁.setTop (entryFrame m #[(.long q0), (.int p1)] maxLocals)) t := fun t k => castTop (ef_rm0 m q0 p1) k
  obtain ⟨T1, lc1, mi, X1, N1, e1, P1, K1j⟩ : ∃ (T' : State) (lc' : List Loc) (mi : Int64), Stand p l e room_1 s m #[(.long q0), (.int p1)] below meth c T' lc' 0 0 ∧ Fr n0 lc' ∧ T'.heap = h0 ∧ (own_mok mi) ∧ ∀ t, Steps p.tables e below (T'.setTop (mkF m 27 #[.val (.long q0), .second, .val (.int p1), .val (.long mi), .second, .unset, .unset, .unset, .unset] [])) t → Steps p.tables e below (s₁.setTop (entryFrame m #[(.long q0), (.int p1)] maxLocals)) t := by
    have K2 : ∀ t, Steps p.tables e below (s₁.setTop (mkF m 3 #[.val (.long q0), .second, .val (.int p1), .unset, .unset, .unset, .unset, .unset, .unset] [(.int (p1 &&& (1 : Int32)))])) t → Steps p.tables e below (s₁.setTop (entryFrame m #[(.long q0), (.int p1)] maxLocals)) t := by
      intro t kt
      refine K0 t ?_
      show Steps p.tables e below (s₁.setTop (mkF m 0 #[.val (.long q0), .second, .val (.int p1), .unset, .unset, .unset, .unset, .unset, .unset] [])) _
      refine XS.iloadN X0.here hx rfl (hb hby at_0) rfl ?_
      show Steps p.tables e below (s₁.setTop (mkF m 1 #[.val (.long q0), .second, .val (.int p1), .unset, .unset, .unset, .unset, .unset, .unset] [(.int p1)])) _
      refine XS.iconst X0.here hx rfl (hb hby at_1) ?_
      show Steps p.tables e below (s₁.setTop (mkF m 2 #[.val (.long q0), .second, .val (.int p1), .unset, .unset, .unset, .unset, .unset, .unset] [(.int (1 : Int32)), (.int p1)])) _
      refine XS.iand X0.here hx rfl (hb hby at_2) rfl ?_
      exact kt
    by_cases hc3 : (p1 &&& (1 : Int32)) = (0 : Int32)
    ·
      obtain ⟨_, _, ⟨T3, L3, k3, n3⟩, -, X3, ⟨Lc3, hQ3, l3, y3, z3⟩, st3⟩ := Jvm.LawKit.callS X0 hx (y := (⟨"java/lang/Math", "max", "(JJ)J"⟩ : MethodName)) hown (mvT hZ (hw _ (List.mem_of_getElem? (i := 1) rfl))) (mvT hZ (hw _ (List.mem_of_getElem? (i := 2) rfl))) (mvT hZ (hw _ (List.mem_of_getElem? (i := 3) rfl))) (mvT hZ (hw _ (List.mem_of_getElem? (i := 4) rfl))) (by decide) (backOf (W := 0) (rm1 l Z a0 hw [] (1 : Int64) (q0 &&& (4611686018427387903 : Int64))  h0 n0 Zn ) hZ (hw _ (List.mem_of_getElem? (i := 4) rfl)) (hw _ (List.mem_of_getElem? (i := 3) rfl)) (by decide) (by decide)) (g := (mkF m 23 #[.val (.long q0), .second, .val (.int p1), .unset, .unset, .unset, .unset, .unset, .unset] [(.long (q0 &&& (4611686018427387903 : Int64))), (.long (1 : Int64))])) rfl (by rw [hml]; rfl) (argsL := [(.long (1 : Int64)), (.long (q0 &&& (4611686018427387903 : Int64)))]) (rest := []) (lenOf pd_1 rfl) rfl (by show 2 * 0 + _ ≤ _; exact Nat.le_of_eq rfl) (hb hby at_23) (fun _ _ => ⟨rfl, e0, (by decide : 0 + 0 ≤ _), (by decide : 0 + 0 ≤ _)⟩)
      dsimp only [Pt.U, Pt.locs, Pt.cells, Pt.slots] at X3 l3 y3 z3 st3 hQ3
      subst l3 y3 z3
      obtain ⟨rfl, N3q, e3q⟩ := hQ3
      have N3 := Fr.app N0 N3q
      have e3 : T3.heap = h0 := e3q
      have K4 : ∀ t, Steps p.tables e below (T3.setTop (mkF m 27 #[.val (.long q0), .second, .val (.int p1), .val (.long (own_lmax (1 : Int64) (q0 &&& (4611686018427387903 : Int64)))), .second, .unset, .unset, .unset, .unset] [])) t → Steps p.tables e below (s₁.setTop (entryFrame m #[(.long q0), (.int p1)] maxLocals)) t := by
        intro t kt
        refine K2 t ?_
        show Steps p.tables e below (s₁.setTop (mkF m 3 #[.val (.long q0), .second, .val (.int p1), .unset, .unset, .unset, .unset, .unset, .unset] [(.int (p1 &&& (1 : Int32)))])) _
        refine XS.ifYes X0.here hx rfl (pc0 := 3) (pc' := 17) rfl (hb hby at_3) rfl ((if0 _ _).trans (teq hc3).1) (by decide) (by decide) ?_
        show Steps p.tables e below (s₁.setTop (mkF m 17 #[.val (.long q0), .second, .val (.int p1), .unset, .unset, .unset, .unset, .unset, .unset] [])) _
        refine XS.lconst X0.here hx rfl (hb hby at_17) ?_
        show Steps p.tables e below (s₁.setTop (mkF m 18 #[.val (.long q0), .second, .val (.int p1), .unset, .unset, .unset, .unset, .unset, .unset] [(.long (1 : Int64))])) _
        refine XS.lloadN X0.here hx rfl (hb hby at_18) rfl ?_
        show Steps p.tables e below (s₁.setTop (mkF m 19 #[.val (.long q0), .second, .val (.int p1), .unset, .unset, .unset, .unset, .unset, .unset] [(.long q0), (.long (1 : Int64))])) _
        refine X0.ldc2Long hx hown (mvT hZ (hw _ (List.mem_of_getElem? (i := 0) rfl))) (g := (mkF m 19 #[.val (.long q0), .second, .val (.int p1), .unset, .unset, .unset, .unset, .unset, .unset] [(.long q0), (.long (1 : Int64))])) rfl (hb hby at_19) _ ?_
        show Steps p.tables e below (s₁.setTop (mkF m 22 #[.val (.long q0), .second, .val (.int p1), .unset, .unset, .unset, .unset, .unset, .unset] [(.long (4611686018427387903 : Int64)), (.long q0), (.long (1 : Int64))])) _
        refine XS.land X0.here hx rfl (hb hby at_22) rfl ?_
        show Steps p.tables e below (s₁.setTop (mkF m 23 #[.val (.long q0), .second, .val (.int p1), .unset, .unset, .unset, .unset, .unset, .unset] [(.long (q0 &&& (4611686018427387903 : Int64))), (.long (1 : Int64))])) _
        refine st3 _ ?_
        show Steps p.tables e below (T3.setTop (mkF m 26 #[.val (.long q0), .second, .val (.int p1), .unset, .unset, .unset, .unset, .unset, .unset] [(.long (own_lmax (1 : Int64) (q0 &&& (4611686018427387903 : Int64))))])) _
        refine XS.lstoreN X3.here hx rfl (hb hby at_26) rfl (l' := #[.val (.long q0), .second, .val (.int p1), .val (.long (own_lmax (1 : Int64) (q0 &&& (4611686018427387903 : Int64)))), .second, .unset, .unset, .unset, .unset]) rfl ?_
        exact kt
      exact ⟨T3, _, (own_lmax (1 : Int64) (q0 &&& (4611686018427387903 : Int64))), X3, N3, e3, own_m2 q0, K4⟩
    ·
      have K5 : ∀ t, Steps p.tables e below (s₁.setTop (mkF m 27 #[.val (.long q0), .second, .val (.int p1), .val (.long ((q0 &&& (7 : Int64)) + (1 : Int64))), .second, .unset, .unset, .unset, .unset] [])) t → Steps p.tables e below (s₁.setTop (entryFrame m #[(.long q0), (.int p1)] maxLocals)) t := by
        intro t kt
        refine K2 t ?_
        show Steps p.tables e below (s₁.setTop (mkF m 3 #[.val (.long q0), .second, .val (.int p1), .unset, .unset, .unset, .unset, .unset, .unset] [(.int (p1 &&& (1 : Int32)))])) _
        refine XS.ifNo X0.here hx rfl (hb hby at_3) rfl ((if0 _ _).trans (feq hc3).1) ?_
        show Steps p.tables e below (s₁.setTop (mkF m 6 #[.val (.long q0), .second, .val (.int p1), .unset, .unset, .unset, .unset, .unset, .unset] [])) _
        refine XS.lloadN X0.here hx rfl (hb hby at_6) rfl ?_
        show Steps p.tables e below (s₁.setTop (mkF m 7 #[.val (.long q0), .second, .val (.int p1), .unset, .unset, .unset, .unset, .unset, .unset] [(.long q0)])) _
        refine X0.ldc2Long hx hown (mvT hZ (hw _ (List.mem_of_getElem? (i := 81) rfl))) (g := (mkF m 7 #[.val (.long q0), .second, .val (.int p1), .unset, .unset, .unset, .unset, .unset, .unset] [(.long q0)])) rfl (hb hby at_7) _ ?_
        show Steps p.tables e below (s₁.setTop (mkF m 10 #[.val (.long q0), .second, .val (.int p1), .unset, .unset, .unset, .unset, .unset, .unset] [(.long (7 : Int64)), (.long q0)])) _
        refine XS.land X0.here hx rfl (hb hby at_10) rfl ?_
        show Steps p.tables e below (s₁.setTop (mkF m 11 #[.val (.long q0), .second, .val (.int p1), .unset, .unset, .unset, .unset, .unset, .unset] [(.long (q0 &&& (7 : Int64)))])) _
        refine XS.lconst X0.here hx rfl (hb hby at_11) ?_
        show Steps p.tables e below (s₁.setTop (mkF m 12 #[.val (.long q0), .second, .val (.int p1), .unset, .unset, .unset, .unset, .unset, .unset] [(.long (1 : Int64)), (.long (q0 &&& (7 : Int64)))])) _
        refine XS.ladd X0.here hx rfl (hb hby at_12) rfl ?_
        show Steps p.tables e below (s₁.setTop (mkF m 13 #[.val (.long q0), .second, .val (.int p1), .unset, .unset, .unset, .unset, .unset, .unset] [(.long ((q0 &&& (7 : Int64)) + (1 : Int64)))])) _
        refine XS.lstoreN X0.here hx rfl (hb hby at_13) rfl (l' := #[.val (.long q0), .second, .val (.int p1), .val (.long ((q0 &&& (7 : Int64)) + (1 : Int64))), .second, .unset, .unset, .unset, .unset]) rfl ?_
        show Steps p.tables e below (s₁.setTop (mkF m 14 #[.val (.long q0), .second, .val (.int p1), .val (.long ((q0 &&& (7 : Int64)) + (1 : Int64))), .second, .unset, .unset, .unset, .unset] [])) _
        refine XS.goto X0.here hx rfl (pc0 := 14) (pc' := 27) rfl (hb hby at_14) (by decide) (by decide) ?_
        exact kt
      exact ⟨s₁, _, ((q0 &&& (7 : Int64)) + (1 : Int64)), X0, N0, e0, own_m1 q0, K5⟩
  have hmi := P1
  obtain ⟨re, hre⟩ : ∃ z, z = (own_lmax (1 : Int64) (mi / (3 : Int64))) := ⟨_, rfl⟩
  have hok : own_ok re := hre ▸ own_rok hmi
  obtain ⟨T6, h6, X6, e6, E6, A6, D6, -, st6⟩ := newO X1 hx hZ hown (hw _ (List.mem_of_getElem? (i := 5) rfl)) (hw _ (List.mem_of_getElem? (i := 6) rfl)) (hw _ (List.mem_of_getElem? (i := 7) rfl)) e1 (g := (mkF m 27 #[.val (.long q0), .second, .val (.int p1), .val (.long mi), .second, .unset, .unset, .unset, .unset] [])) rfl (hb hby at_27) (by decide) (by decide)
  obtain ⟨b6, g6⟩ : ∃ z, z = h0.size := ⟨_, rfl⟩
  rw [← g6] at A6 D6 st6
  have g_b6 : n0 ≤ b6 := Nat.le_trans Zn (Nat.le_of_eq g6.symm)
  replace Zn := Nat.le_trans Zn E6.1
  have E_b6 := A6
  have F_millis_b6 : Fld Z h6 b6 "com/example/keylatch/keylatch/Lease" "millis" "J" (.long (0 : Int64)) := D6 (Or.inr (hw _ (List.mem_of_getElem? (i := 21) rfl))) (ty := .long) (by decide)
  obtain ⟨_, _, ⟨T7, L7, k7, n7⟩, -, X7, ⟨Lc7, hQ7, l7, y7, z7⟩, st7⟩ := X6.specialBack hx (y := (⟨"com/example/keylatch/keylatch/Lease", "<init>", "(J)V"⟩ : MethodName)) rfl hown (mvT hZ (hw _ (List.mem_of_getElem? (i := 8) rfl))) (mvT hZ (hw _ (List.mem_of_getElem? (i := 9) rfl))) (mvT hZ (hw _ (List.mem_of_getElem? (i := 10) rfl))) (by decide) (backOf (W := 1) (rm8 l Z a0 hw [] b6 mi  h6 n0 Zn E_b6 g_b6 F_millis_b6 (own_c1 hmi) (own_c2 hmi)) hZ (hw _ (List.mem_of_getElem? (i := 10) rfl)) (hw _ (List.mem_of_getElem? (i := 7) rfl)) (by decide) (by decide)) (g := (mkF m 32 #[.val (.long q0), .second, .val (.int p1), .val (.long mi), .second, .unset, .unset, .unset, .unset] [(.long mi), (.ref b6), (.ref b6)])) rfl (by rw [hml]; rfl) (Steps.refl _) (a := b6) (argsL := [(.long mi)]) (rest := [(.ref b6)]) (lenOf pd_14 rfl) rfl (by show 2 * 0 + _ ≤ _; exact Nat.le_of_eq rfl) (hb hby at_32) (fun _ _ => ⟨rfl, e6, (by decide : 1 + 0 ≤ _), (by decide : 1 + 0 ≤ _)⟩)
  dsimp only [Pt.U, Pt.locs, Pt.cells, Pt.slots] at X7 l7 y7 z7 st7 hQ7
  subst l7 y7 z7
  obtain ⟨rfl, N7q, K7k, pf7_0, pf7_1⟩ := hQ7
  have N7 := Fr.app N1 N7q
  have E_b6 := E_b6.keep K7k
  replace Zn := Nat.le_trans Zn K7k.1
  have E_b6 := pf7_0
  have F_millis_b6 := pf7_1
  obtain ⟨cq8, kq8, q8a, q8b, q8c⟩ := isOf hZ rfl E_b6
  obtain ⟨_, _, ⟨T8, L8, k8, n8⟩, -, X8, ⟨Lc8, hQ8, l8, y8, z8⟩, st8⟩ := X7.virtualBack hx (y := (⟨"com/example/keylatch/keylatch/Lease", "renewalInterval", "()Ljava/time/Duration;"⟩ : MethodName)) (z := (⟨"com/example/keylatch/keylatch/Lease", "renewalInterval", "()Ljava/time/Duration;"⟩ : MethodName)) hown (mvT hZ (hw _ (List.mem_of_getElem? (i := 22) rfl))) (mvT hZ (hw _ (List.mem_of_getElem? (i := 23) rfl))) (notFace_of_selects (args := #[]) (mvT hZ (hw _ (List.mem_of_getElem? (i := 25) rfl)))) (mvT hZ (hw _ (List.mem_of_getElem? (i := 25) rfl))) (mvT hZ (hw _ (List.mem_of_getElem? (i := 24) rfl))) (by decide) (backOf (W := 0) (rm12 l Z a0 hw [] b6 mi T7.heap n0 Zn F_millis_b6 (own_rok hmi)) hZ (hw _ (List.mem_of_getElem? (i := 26) rfl)) (hw _ (List.mem_of_getElem? (i := 7) rfl)) (by decide) (by decide)) q8a q8c (g := (mkF m 39 #[.val (.long q0), .second, .val (.int p1), .val (.long mi), .second, .val (.ref b6), .unset, .unset, .unset] [(.ref b6)])) rfl (by rw [hml]; rfl) (Steps.refl _) (argsL := []) (rest := []) (lenOf pd_15 rfl) rfl (by show 2 * 0 + _ ≤ _; exact Nat.le_of_eq rfl) (hb hby at_39) (fun _ _ => ⟨rfl, rfl, (by decide : 1 + 1 ≤ _), (by decide : 1 + 2 ≤ _)⟩)
  dsimp only [Pt.U, Pt.locs, Pt.cells, Pt.slots] at X8 l8 y8 z8 st8 hQ8
  subst l8 y8 z8
  obtain ⟨b8, rfl, N8q, K8k, pf8_0, pf8_1, pf8_2, pf8_3⟩ := hQ8
  have N8 := Fr.app N7 N8q
  have E_b6 := E_b6.keep K8k
  have F_millis_b6 := F_millis_b6.keep K8k nin0
  replace Zn := Nat.le_trans Zn K8k.1
  have g_b8 := pf8_0
  have E_b8 := pf8_1
  have F_seconds_b8 := pf8_2
  have F_nanos_b8 := pf8_3
  rw [← hre] at F_seconds_b8 F_nanos_b8
  obtain ⟨_, _, ⟨T9, L9, k9, n9⟩, -, X9, ⟨Lc9, hQ9, l9, y9, z9⟩, st9⟩ := Jvm.LawKit.callS X8 hx (y := (⟨"com/example/keylatch/keylatch/Lease", "ceilMillis", "(Ljava/time/Duration;)J"⟩ : MethodName)) hown (mvT hZ (hw _ (List.mem_of_getElem? (i := 49) rfl))) (mvT hZ (hw _ (List.mem_of_getElem? (i := 50) rfl))) (mvT hZ (hw _ (List.mem_of_getElem? (i := 7) rfl))) (mvT hZ (hw _ (List.mem_of_getElem? (i := 51) rfl))) (by decide) (backOf (W := 0) (rm15 l Z a0 hw [] b8 re T8.heap n0 Zn E_b8 F_seconds_b8 F_nanos_b8 hok) hZ (hw _ (List.mem_of_getElem? (i := 51) rfl)) (hw _ (List.mem_of_getElem? (i := 7) rfl)) (by decide) (by decide)) (g := (mkF m 46 #[.val (.long q0), .second, .val (.int p1), .val (.long mi), .second, .val (.ref b6), .val (.ref b8), .unset, .unset] [(.ref b8)])) rfl (by rw [hml]; rfl) (argsL := [(.ref b8)]) (rest := []) (lenOf pd_16 rfl) rfl (by show 2 * 0 + _ ≤ _; exact Nat.le_of_eq rfl) (hb hby at_46) (fun _ _ => ⟨rfl, rfl, (by decide : 2 + 1 ≤ _), (by decide : 3 + 2 ≤ _)⟩)
  dsimp only [Pt.U, Pt.locs, Pt.cells, Pt.slots] at X9 l9 y9 z9 st9 hQ9
  subst l9 y9 z9
  obtain ⟨rfl, N9q, K9k⟩ := hQ9
  have N9 := Fr.app N8 N9q
  have E_b6 := E_b6.keep K9k
  have F_millis_b6 := F_millis_b6.keep K9k nin0
  have E_b8 := E_b8.keep K9k
  have F_seconds_b8 := F_seconds_b8.keep K9k nin0
  have F_nanos_b8 := F_nanos_b8.keep K9k nin0
  replace Zn := Nat.le_trans Zn K9k.1
  have K10 : ∀ t, Steps p.tables e below (T9.setTop (mkF m 56 #[.val (.long q0), .second, .val (.int p1), .val (.long mi), .second, .val (.ref b6), .val (.ref b8), .val (.long re), .second] [(.int (lcmpW mi (3 : Int64)))])) t → Steps p.tables e below (s₁.setTop (entryFrame m #[(.long q0), (.int p1)] maxLocals)) t := by
    intro t kt
    refine K1j t ?_
    show Steps p.tables e below (T1.setTop (mkF m 27 #[.val (.long q0), .second, .val (.int p1), .val (.long mi), .second, .unset, .unset, .unset, .unset] [])) _
    refine st6 _ ?_
    show Steps p.tables e below (T6.setTop (mkF m 30 #[.val (.long q0), .second, .val (.int p1), .val (.long mi), .second, .unset, .unset, .unset, .unset] [(.ref b6)])) _
    refine XS.dup X6.here hx rfl (hb hby at_30) rfl rfl ?_
    show Steps p.tables e below (T6.setTop (mkF m 31 #[.val (.long q0), .second, .val (.int p1), .val (.long mi), .second, .unset, .unset, .unset, .unset] [(.ref b6), (.ref b6)])) _
    refine XS.lloadN X6.here hx rfl (hb hby at_31) rfl ?_
    show Steps p.tables e below (T6.setTop (mkF m 32 #[.val (.long q0), .second, .val (.int p1), .val (.long mi), .second, .unset, .unset, .unset, .unset] [(.long mi), (.ref b6), (.ref b6)])) _
    refine st7.trans ?_
    show Steps p.tables e below (T7.setTop (mkF m 35 #[.val (.long q0), .second, .val (.int p1), .val (.long mi), .second, .unset, .unset, .unset, .unset] [(.ref b6)])) _
    refine XS.astore X7.here hx rfl (hb hby at_35) rfl rfl (l' := #[.val (.long q0), .second, .val (.int p1), .val (.long mi), .second, .val (.ref b6), .unset, .unset, .unset]) rfl ?_
    show Steps p.tables e below (T7.setTop (mkF m 37 #[.val (.long q0), .second, .val (.int p1), .val (.long mi), .second, .val (.ref b6), .unset, .unset, .unset] [])) _
    refine XS.aload X7.here hx rfl (hb hby at_37) rfl rfl ?_
    show Steps p.tables e below (T7.setTop (mkF m 39 #[.val (.long q0), .second, .val (.int p1), .val (.long mi), .second, .val (.ref b6), .unset, .unset, .unset] [(.ref b6)])) _
    refine st8.trans ?_
    show Steps p.tables e below (T8.setTop (mkF m 42 #[.val (.long q0), .second, .val (.int p1), .val (.long mi), .second, .val (.ref b6), .unset, .unset, .unset] [(.ref b8)])) _
    refine XS.astore X8.here hx rfl (hb hby at_42) rfl rfl (l' := #[.val (.long q0), .second, .val (.int p1), .val (.long mi), .second, .val (.ref b6), .val (.ref b8), .unset, .unset]) rfl ?_
    show Steps p.tables e below (T8.setTop (mkF m 44 #[.val (.long q0), .second, .val (.int p1), .val (.long mi), .second, .val (.ref b6), .val (.ref b8), .unset, .unset] [])) _
    refine XS.aload X8.here hx rfl (hb hby at_44) rfl rfl ?_
    show Steps p.tables e below (T8.setTop (mkF m 46 #[.val (.long q0), .second, .val (.int p1), .val (.long mi), .second, .val (.ref b6), .val (.ref b8), .unset, .unset] [(.ref b8)])) _
    refine st9 _ ?_
    show Steps p.tables e below (T9.setTop (mkF m 49 #[.val (.long q0), .second, .val (.int p1), .val (.long mi), .second, .val (.ref b6), .val (.ref b8), .unset, .unset] [(.long re)])) _
    refine XS.lstore X9.here hx rfl (hb hby at_49) rfl (l' := #[.val (.long q0), .second, .val (.int p1), .val (.long mi), .second, .val (.ref b6), .val (.ref b8), .val (.long re), .second]) rfl ?_
    show Steps p.tables e below (T9.setTop (mkF m 51 #[.val (.long q0), .second, .val (.int p1), .val (.long mi), .second, .val (.ref b6), .val (.ref b8), .val (.long re), .second] [])) _
    refine XS.lloadN X9.here hx rfl (hb hby at_51) rfl ?_
    show Steps p.tables e below (T9.setTop (mkF m 52 #[.val (.long q0), .second, .val (.int p1), .val (.long mi), .second, .val (.ref b6), .val (.ref b8), .val (.long re), .second] [(.long mi)])) _
    refine X9.ldc2Long hx hown (mvT hZ (hw _ (List.mem_of_getElem? (i := 79) rfl))) (g := (mkF m 52 #[.val (.long q0), .second, .val (.int p1), .val (.long mi), .second, .val (.ref b6), .val (.ref b8), .val (.long re), .second] [(.long mi)])) rfl (hb hby at_52) _ ?_
    show Steps p.tables e below (T9.setTop (mkF m 55 #[.val (.long q0), .second, .val (.int p1), .val (.long mi), .second, .val (.ref b6), .val (.ref b8), .val (.long re), .second] [(.long (3 : Int64)), (.long mi)])) _
    refine XS.lcmp X9.here hx rfl (hb hby at_55) rfl ?_
    exact kt
  by_cases hc56 : (lcmpW mi (3 : Int64)) < (0 : Int32)
  ·
    have hc63 : (lcmpW re (1 : Int64)) = (0 : Int32) := (own_a hmi hre hc56)
    obtain ⟨fs, hr, hrun, hended, hW, hsame⟩ := X9.leave (v := some (.int (1 : Int32))) (fun h => by rw [Bd.returns] at h; cases h) hlk
    refine ⟨_, _, K10 _ ?_, hrun, hended, _, _, rfl, ?_, ⟨_, rfl⟩, hW, hsame.mono (by decide) (by decide)⟩
    ·
      show Steps p.tables e below (T9.setTop (mkF m 56 #[.val (.long q0), .second, .val (.int p1), .val (.long mi), .second, .val (.ref b6), .val (.ref b8), .val (.long re), .second] [(.int (lcmpW mi (3 : Int64)))])) _
      refine XS.ifNo X9.here hx rfl (hb hby at_56) rfl ((if0 _ _).trans (tlt hc56).2.1) ?_
      show Steps p.tables e below (T9.setTop (mkF m 59 #[.val (.long q0), .second, .val (.int p1), .val (.long mi), .second, .val (.ref b6), .val (.ref b8), .val (.long re), .second] [])) _
      refine XS.lload X9.here hx rfl (hb hby at_59) rfl ?_
      show Steps p.tables e below (T9.setTop (mkF m 61 #[.val (.long q0), .second, .val (.int p1), .val (.long mi), .second, .val (.ref b6), .val (.ref b8), .val (.long re), .second] [(.long re)])) _
      refine XS.lconst X9.here hx rfl (hb hby at_61) ?_
      show Steps p.tables e below (T9.setTop (mkF m 62 #[.val (.long q0), .second, .val (.int p1), .val (.long mi), .second, .val (.ref b6), .val (.ref b8), .val (.long re), .second] [(.long (1 : Int64)), (.long re)])) _
      refine XS.lcmp X9.here hx rfl (hb hby at_62) rfl ?_
      show Steps p.tables e below (T9.setTop (mkF m 63 #[.val (.long q0), .second, .val (.int p1), .val (.long mi), .second, .val (.ref b6), .val (.ref b8), .val (.long re), .second] [(.int (lcmpW re (1 : Int64)))])) _
      refine XS.ifNo X9.here hx rfl (hb hby at_63) rfl ((if0 _ _).trans (teq hc63).2) ?_
      show Steps p.tables e below (T9.setTop (mkF m 66 #[.val (.long q0), .second, .val (.int p1), .val (.long mi), .second, .val (.ref b6), .val (.ref b8), .val (.long re), .second] [])) _
      refine XS.iconst X9.here hx rfl (hb hby at_66) ?_
      show Steps p.tables e below (T9.setTop (mkF m 67 #[.val (.long q0), .second, .val (.int p1), .val (.long mi), .second, .val (.ref b6), .val (.ref b8), .val (.long re), .second] [(.int (1 : Int32))])) _
      refine XS.goto X9.here hx rfl (pc0 := 67) (pc' := 71) rfl (hb hby at_67) (by decide) (by decide) ?_
      show Steps p.tables e below (T9.setTop (mkF m 71 #[.val (.long q0), .second, .val (.int p1), .val (.long mi), .second, .val (.ref b6), .val (.ref b8), .val (.long re), .second] [(.int (1 : Int32))])) _
      exact retN X9 hx (t := .boolean) Bd.returns (by simp) (hb hby at_71) hr
    ·
      show Q_rm0 Z q0 p1 h0 n0 _ T9.heap _
      exact ⟨rfl, N9⟩
  ·
    have hc76 : ¬ ((lcmpW re (1 : Int64)) < (0 : Int32)) := (own_b hmi hre hc56).1
    have hc87 : ¬ ((0 : Int32) < (lcmpW ((3 : Int64) * re) mi)) := (own_b hmi hre hc56).2.1
    have hc102 : (lcmpW mi (((3 : Int64) * re) + (3 : Int64))) < (0 : Int32) := (own_b hmi hre hc56).2.2
    obtain ⟨fs, hr, hrun, hended, hW, hsame⟩ := X9.leave (v := some (.int (1 : Int32))) (fun h => by rw [Bd.returns] at h; cases h) hlk
    refine ⟨_, _, K10 _ ?_, hrun, hended, _, _, rfl, ?_, ⟨_, rfl⟩, hW, hsame.mono (by decide) (by decide)⟩
    ·
      show Steps p.tables e below (T9.setTop (mkF m 56 #[.val (.long q0), .second, .val (.int p1), .val (.long mi), .second, .val (.ref b6), .val (.ref b8), .val (.long re), .second] [(.int (lcmpW mi (3 : Int64)))])) _
      refine XS.ifYes X9.here hx rfl (pc0 := 56) (pc' := 72) rfl (hb hby at_56) rfl ((if0 _ _).trans (flt hc56).2.1) (by decide) (by decide) ?_
      show Steps p.tables e below (T9.setTop (mkF m 72 #[.val (.long q0), .second, .val (.int p1), .val (.long mi), .second, .val (.ref b6), .val (.ref b8), .val (.long re), .second] [])) _
      refine XS.lload X9.here hx rfl (hb hby at_72) rfl ?_
      show Steps p.tables e below (T9.setTop (mkF m 74 #[.val (.long q0), .second, .val (.int p1), .val (.long mi), .second, .val (.ref b6), .val (.ref b8), .val (.long re), .second] [(.long re)])) _
      refine XS.lconst X9.here hx rfl (hb hby at_74) ?_
      show Steps p.tables e below (T9.setTop (mkF m 75 #[.val (.long q0), .second, .val (.int p1), .val (.long mi), .second, .val (.ref b6), .val (.ref b8), .val (.long re), .second] [(.long (1 : Int64)), (.long re)])) _
      refine XS.lcmp X9.here hx rfl (hb hby at_75) rfl ?_
      show Steps p.tables e below (T9.setTop (mkF m 76 #[.val (.long q0), .second, .val (.int p1), .val (.long mi), .second, .val (.ref b6), .val (.ref b8), .val (.long re), .second] [(.int (lcmpW re (1 : Int64)))])) _
      refine XS.ifNo X9.here hx rfl (hb hby at_76) rfl ((if0 _ _).trans (flt hc76).1) ?_
      show Steps p.tables e below (T9.setTop (mkF m 79 #[.val (.long q0), .second, .val (.int p1), .val (.long mi), .second, .val (.ref b6), .val (.ref b8), .val (.long re), .second] [])) _
      refine X9.ldc2Long hx hown (mvT hZ (hw _ (List.mem_of_getElem? (i := 79) rfl))) (g := (mkF m 79 #[.val (.long q0), .second, .val (.int p1), .val (.long mi), .second, .val (.ref b6), .val (.ref b8), .val (.long re), .second] [])) rfl (hb hby at_79) _ ?_
      show Steps p.tables e below (T9.setTop (mkF m 82 #[.val (.long q0), .second, .val (.int p1), .val (.long mi), .second, .val (.ref b6), .val (.ref b8), .val (.long re), .second] [(.long (3 : Int64))])) _
      refine XS.lload X9.here hx rfl (hb hby at_82) rfl ?_
      show Steps p.tables e below (T9.setTop (mkF m 84 #[.val (.long q0), .second, .val (.int p1), .val (.long mi), .second, .val (.ref b6), .val (.ref b8), .val (.long re), .second] [(.long re), (.long (3 : Int64))])) _
      refine XS.lmul X9.here hx rfl (hb hby at_84) rfl ?_
      show Steps p.tables e below (T9.setTop (mkF m 85 #[.val (.long q0), .second, .val (.int p1), .val (.long mi), .second, .val (.ref b6), .val (.ref b8), .val (.long re), .second] [(.long ((3 : Int64) * re))])) _
      refine XS.lloadN X9.here hx rfl (hb hby at_85) rfl ?_
      show Steps p.tables e below (T9.setTop (mkF m 86 #[.val (.long q0), .second, .val (.int p1), .val (.long mi), .second, .val (.ref b6), .val (.ref b8), .val (.long re), .second] [(.long mi), (.long ((3 : Int64) * re))])) _
      refine XS.lcmp X9.here hx rfl (hb hby at_86) rfl ?_
      show Steps p.tables e below (T9.setTop (mkF m 87 #[.val (.long q0), .second, .val (.int p1), .val (.long mi), .second, .val (.ref b6), .val (.ref b8), .val (.long re), .second] [(.int (lcmpW ((3 : Int64) * re) mi))])) _
      refine XS.ifNo X9.here hx rfl (hb hby at_87) rfl ((if0 _ _).trans (flt hc87).2.2.1) ?_
      show Steps p.tables e below (T9.setTop (mkF m 90 #[.val (.long q0), .second, .val (.int p1), .val (.long mi), .second, .val (.ref b6), .val (.ref b8), .val (.long re), .second] [])) _
      refine XS.lloadN X9.here hx rfl (hb hby at_90) rfl ?_
      show Steps p.tables e below (T9.setTop (mkF m 91 #[.val (.long q0), .second, .val (.int p1), .val (.long mi), .second, .val (.ref b6), .val (.ref b8), .val (.long re), .second] [(.long mi)])) _
      refine X9.ldc2Long hx hown (mvT hZ (hw _ (List.mem_of_getElem? (i := 79) rfl))) (g := (mkF m 91 #[.val (.long q0), .second, .val (.int p1), .val (.long mi), .second, .val (.ref b6), .val (.ref b8), .val (.long re), .second] [(.long mi)])) rfl (hb hby at_91) _ ?_
      show Steps p.tables e below (T9.setTop (mkF m 94 #[.val (.long q0), .second, .val (.int p1), .val (.long mi), .second, .val (.ref b6), .val (.ref b8), .val (.long re), .second] [(.long (3 : Int64)), (.long mi)])) _
      refine XS.lload X9.here hx rfl (hb hby at_94) rfl ?_
      show Steps p.tables e below (T9.setTop (mkF m 96 #[.val (.long q0), .second, .val (.int p1), .val (.long mi), .second, .val (.ref b6), .val (.ref b8), .val (.long re), .second] [(.long re), (.long (3 : Int64)), (.long mi)])) _
      refine XS.lmul X9.here hx rfl (hb hby at_96) rfl ?_
      show Steps p.tables e below (T9.setTop (mkF m 97 #[.val (.long q0), .second, .val (.int p1), .val (.long mi), .second, .val (.ref b6), .val (.ref b8), .val (.long re), .second] [(.long ((3 : Int64) * re)), (.long mi)])) _
      refine X9.ldc2Long hx hown (mvT hZ (hw _ (List.mem_of_getElem? (i := 79) rfl))) (g := (mkF m 97 #[.val (.long q0), .second, .val (.int p1), .val (.long mi), .second, .val (.ref b6), .val (.ref b8), .val (.long re), .second] [(.long ((3 : Int64) * re)), (.long mi)])) rfl (hb hby at_97) _ ?_
      show Steps p.tables e below (T9.setTop (mkF m 100 #[.val (.long q0), .second, .val (.int p1), .val (.long mi), .second, .val (.ref b6), .val (.ref b8), .val (.long re), .second] [(.long (3 : Int64)), (.long ((3 : Int64) * re)), (.long mi)])) _
      refine XS.ladd X9.here hx rfl (hb hby at_100) rfl ?_
      show Steps p.tables e below (T9.setTop (mkF m 101 #[.val (.long q0), .second, .val (.int p1), .val (.long mi), .second, .val (.ref b6), .val (.ref b8), .val (.long re), .second] [(.long (((3 : Int64) * re) + (3 : Int64))), (.long mi)])) _
      refine XS.lcmp X9.here hx rfl (hb hby at_101) rfl ?_
      show Steps p.tables e below (T9.setTop (mkF m 102 #[.val (.long q0), .second, .val (.int p1), .val (.long mi), .second, .val (.ref b6), .val (.ref b8), .val (.long re), .second] [(.int (lcmpW mi (((3 : Int64) * re) + (3 : Int64))))])) _
      refine XS.ifNo X9.here hx rfl (hb hby at_102) rfl ((if0 _ _).trans (tlt hc102).2.1) ?_
      show Steps p.tables e below (T9.setTop (mkF m 105 #[.val (.long q0), .second, .val (.int p1), .val (.long mi), .second, .val (.ref b6), .val (.ref b8), .val (.long re), .second] [])) _
      refine XS.iconst X9.here hx rfl (hb hby at_105) ?_
      show Steps p.tables e below (T9.setTop (mkF m 106 #[.val (.long q0), .second, .val (.int p1), .val (.long mi), .second, .val (.ref b6), .val (.ref b8), .val (.long re), .second] [(.int (1 : Int32))])) _
      refine XS.goto X9.here hx rfl (pc0 := 106) (pc' := 110) rfl (hb hby at_106) (by decide) (by decide) ?_
      show Steps p.tables e below (T9.setTop (mkF m 110 #[.val (.long q0), .second, .val (.int p1), .val (.long mi), .second, .val (.ref b6), .val (.ref b8), .val (.long re), .second] [(.int (1 : Int32))])) _
      exact retN X9 hx (t := .boolean) Bd.returns (by simp) (hb hby at_110) hr
    ·
      show Q_rm0 Z q0 p1 h0 n0 _ T9.heap _
      exact ⟨rfl, N9⟩
set_option maxRecDepth 65536 in
set_option maxHeartbeats 40000000 in
theorem comes_1 {Post : Tables → Env → Array Value → State → Outcome → State → Prop} (hpost : ∀ tb e args s v u, (limb_1_1.after args s (.returned v) u = true ∧ limb_1_2.after args s (.returned v) u = true ∧ True) → FrameEnd s (.returned v) u (Jvm.fieldLocs frame_1_writes args s ++ Jvm.arrayLocs frame_1_arrays args s ++ Jvm.staticLocs frame_1_statics s) 16 128 → Post tb e args s (.returned v) u) :
    ArmFor flags0 classFile x code maxLocals ret World_1 tables_1 room_1 Calls_1 rest_1 Pre_1 Post := by
  intro l hfl _ _ p e ha hc hk s m args below hf hA hF happ hP
  obtain ⟨hcalls, hrest, hpre⟩ := hP
  obtain ⟨-, -, -, hnamed, -, -, -, hat⟩ := (Spec.applies_iff hf).mp happ
  obtain ⟨hg, hn⟩ := and_e (Cond.before_iff.mp (show (Jvm.Cond.and given_1 narrow_1).before args s = true from hpre))
  obtain ⟨hg0, hg⟩ := and_e hg
  obtain ⟨ga0, hg⟩ := and_e hg
  have ga1 := hg
  obtain ⟨w0, w1, rfl⟩ : ∃ w0 w1 : Value, args = #[w0, w1] := by
    have hs : args.size = 2 := by simpa [Cond.value, given_1] using hg0
    obtain ⟨L⟩ := args
    match L, hs with
    | [w0, w1], _ => exact ⟨w0, w1, rfl⟩
  have hw := fun d (hd : d ∈ tables_1) => atoms_spec (ws := Jvm.Cond.code x code maxLocals ret :: tables_1) hat d (List.mem_cons_of_mem _ hd)
  have hfit : Fit s := fun {y c} hc i hi => by
    obtain ⟨ha, rfl⟩ := Array.getElem?_eq_some_iff.mp hc
    have q := List.all_eq_true.mp ((Array.all_eq_true_iff_forall_mem.mp hF) _ (Array.getElem_mem ha)) i (List.mem_range.mpr hi)
    simpa [Array.getElem?_eq_getElem hi] using q
  obtain ⟨i0, ei0⟩ := isL_v ga0
  obtain rfl : w0 = (.long i0) := Option.some.inj ei0
  obtain ⟨i1, ei1⟩ := is_v ga1
  obtain rfl : w1 = (.int i1) := Option.some.inj ei1
  obtain ⟨n, o, h1, h2, h3, _, L, rfl, ⟨rfl, N⟩, hq⟩ := rm0 l s _ hw tables_1 i0 i1  s.heap s.heap.size (Nat.le_refl _)  p e ha hc hk s m _ below hf ((Spec.applies_iff_loose hf).mp happ).1 ⟨rfl, State.Warmed39.refl s, rfl⟩ trivial
  refine ⟨n, _, h1, h2, h3, hpost _ _ _ _ _ _ ⟨Cond.after_iff.mpr rfl, Cond.after_iff.mpr (eq_i res_at (Term.int_eval (1)) rfl), trivial⟩ ⟨hq.1, hq.2.1, (hq.2.2.sift fun y hy => Or.inr (N y hy)).mono (by decide) (by decide)⟩⟩
theorem main_1_1 : Claimed_1_1 := comes_1 fun _ _ _ _ _ _ h hF => ⟨h.1, hF⟩
theorem main_1_2 : Claimed_1_2 := comes_1 fun _ _ _ _ _ _ h hF => ⟨h.2.1, hF⟩
end Jvm.Pilot.@@N@@
namespace Jvm.Pilot.@@N@@
open Jvm Jvm.ClassFile Sem Op Lib Jvm.Free Jvm.Stand Jvm.Pilot.@@N@@.Jvm.D
/-! MADE BY PROGRAM (witnessworld.py) out of the Statement's table words and the real class files: 18 classes; the members and pool entries that the words name. The judged class is class 1, her method 1. -/
namespace start1
open Jvm.ClassFile
def u (s : String) : CpInfo := .utf8 (stringToUtf16 s)
/-- a pool by its gaps: so many unusable entries, then the entry; so many at the end -/
def gap : Nat → List CpInfo → List CpInfo
  | 0, r => r
  | n + 1, r => .unusable :: gap n r
def poolList (es : List (Nat × CpInfo)) (last : Nat) : List CpInfo := es.foldr (fun e r => gap e.1 (e.2 :: r)) (gap last [])
def pool (es : List (Nat × CpInfo)) (last : Nat) : Array CpInfo := ⟨poolList es last⟩
def fileOf (pool : Array CpInfo) (this : Nat) (attrs : Array Attribute := #[]) (ms : Array MethodInfo := #[]) (fl : Nat := 33) (sup : Nat := 0) (ifs : Array Nat := #[]) (fds : Array FieldInfo := #[]) : ClassFile where
  minorVersion := 0
  majorVersion := 65
  constantPool := pool
  accessFlags := fl
  thisClass := this
  superClass := sup
  interfaces := ifs
  fields := fds
  methods := ms
  attributes := attrs
def plain (name : String) (sup : Option ClassId) : Class where
  name := name
  kind := .ordinary
  loader := none
  accessFlags := 33
  super := sup
  interfaces := #[]
  cf := none
  fields := #[]
  methods := #[]
  instanceTypes := #[]
  staticTypes := #[]
  resolved := #[]
  callSites := []
  init := .initialized
  statics := none
  mirror := none

def pool0 : Array CpInfo := pool [(5, u "<init>"), (0, u "()V"), (1, .class_ 10), (1, u "java/lang/Object")] 113

def k0c0 : Code := { maxStack := 0, maxLocals := 1, code := object_method_1_code, exceptionTable := #[], attributes := #[] }
def k0m0 : Method := { name := "<init>", desc := "()V", sig := { parameters := [], returnType := none }, accessFlags := 1, code := some k0c0 }
/-- java/lang/Object -/
def k0 : Class := { plain "java/lang/Object" none with
  accessFlags := 33
  interfaces := #[]
  cf := some (fileOf pool0 8 #[] #[{ accessFlags := 1, nameIndex := 5, descriptorIndex := 6, attributes := #[] }] 33 0 #[] #[])
  fields := #[]
  methods := #[k0m0]
  instanceTypes := #[]
  staticTypes := #[]
  resolved := Array.replicate 124 none
  statics := none }

def pool1 : Array CpInfo := pool [(2, .class_ 4), (1, u "java/lang/Object"), (0, u "<init>"), (0, u "()V"), (0, .long 7), (1, .long 4611686018427387903), (1, .methodref 12 13), (0, .class_ 14), (0, .nameAndType 15 16), (0, u "java/lang/Math"), (0, u "max"), (0, u "(JJ)J"), (0, .class_ 18), (0, u "com/example/keylatch/keylatch/Lease"), (0, .methodref 17 20), (0, .nameAndType 5 21), (0, u "(J)V"), (0, .methodref 17 23), (0, .nameAndType 24 25), (0, u "renewalInterval"), (0, u "()Ljava/time/Duration;"), (0, .methodref 17 27), (0, .nameAndType 28 29), (0, u "ceilMillis"), (0, u "(Ljava/time/Duration;)J"), (0, .long 3), (1, .class_ 33), (0, u "com/example/keylatch/keylatch/LeaseRenewalIntervalPinLaw"), (2, u "law"), (0, u "(JI)Z")] 5

def k1m0 : Method := { name := "<init>", desc := "()V", sig := { parameters := [], returnType := none }, accessFlags := 1, code := none }
def k1c1 : Code := { maxStack := 6, maxLocals := 9, code := code, exceptionTable := #[], attributes := #[] }
def k1m1 : Method := { name := "law", desc := "(JI)Z", sig := { parameters := [.long, .int], returnType := some .boolean }, accessFlags := 9, code := some k1c1 }
/-- com/example/keylatch/keylatch/LeaseRenewalIntervalPinLaw -/
def k1 : Class := { plain "com/example/keylatch/keylatch/LeaseRenewalIntervalPinLaw" (some 0) with
  accessFlags := 49
  interfaces := #[]
  cf := some (fileOf pool1 32 #[] #[{ accessFlags := 1, nameIndex := 5, descriptorIndex := 6, attributes := #[] }, { accessFlags := 9, nameIndex := 36, descriptorIndex := 37, attributes := #[] }] 49 2 #[] #[])
  fields := #[]
  methods := #[k1m0, k1m1]
  instanceTypes := #[]
  staticTypes := #[]
  resolved := Array.replicate 43 none
  statics := none }

def pool2 : Array CpInfo := pool [(1, .class_ 2), (0, u "java/lang/Math"), (1, .class_ 6), (1, u "java/lang/Object"), (0, u "<init>"), (0, u "()V"), (89, .class_ 100), (1, u "java/lang/Math$RandomNumberGeneratorHolder"), (17, .methodref 1 119), (0, .nameAndType 120 121), (0, u "multiplyExact"), (0, u "(JJ)J"), (0, .methodref 1 123), (0, .nameAndType 124 125), (0, u "abs"), (0, u "(J)J"), (2, .long 9223372036854775808), (43, u "negativeZeroFloatBits"), (0, u "J"), (2, u "negativeZeroDoubleBits"), (21, u "max"), (46, u "$assertionsDisabled"), (0, u "Z"), (91, u "twoToTheDoubleScaleDown"), (0, u "D"), (4, u "twoToTheDoubleScaleUp"), (9, u "E"), (3, u "PI"), (2, u "TAU"), (2, u "DEGREES_TO_RADIANS"), (0, u "RADIANS_TO_DEGREES"), (27, u "addExact"), (1, u "(JI)J")] 64

def k2m0 : Method := { name := "<init>", desc := "()V", sig := { parameters := [], returnType := none }, accessFlags := 2, code := none }
def k2c1 : Code := { maxStack := 6, maxLocals := 6, code := jdk_29_method_25_code, exceptionTable := #[], attributes := #[] }
def k2m1 : Method := { name := "addExact", desc := "(JJ)J", sig := { parameters := [.long, .long], returnType := some .long }, accessFlags := 9, code := some k2c1 }
def k2c2 : Code := { maxStack := 4, maxLocals := 3, code := jdk_29_method_29_code, exceptionTable := #[], attributes := #[] }
def k2m2 : Method := { name := "multiplyExact", desc := "(JI)J", sig := { parameters := [.long, .int], returnType := some .long }, accessFlags := 9, code := some k2c2 }
def k2c3 : Code := { maxStack := 4, maxLocals := 10, code := jdk_29_method_30_code, exceptionTable := #[], attributes := #[] }
def k2m3 : Method := { name := "multiplyExact", desc := "(JJ)J", sig := { parameters := [.long, .long], returnType := some .long }, accessFlags := 9, code := some k2c3 }
def k2c4 : Code := { maxStack := 4, maxLocals := 2, code := jdk_29_method_61_code, exceptionTable := #[], attributes := #[] }
def k2m4 : Method := { name := "abs", desc := "(J)J", sig := { parameters := [.long], returnType := some .long }, accessFlags := 9, code := some k2c4 }
def k2c5 : Code := { maxStack := 4, maxLocals := 4, code := jdk_29_method_66_code, exceptionTable := #[], attributes := #[] }
def k2m5 : Method := { name := "max", desc := "(JJ)J", sig := { parameters := [.long, .long], returnType := some .long }, accessFlags := 9, code := some k2c5 }
/-- java/lang/Math -/
def k2 : Class := { plain "java/lang/Math" (some 0) with
  accessFlags := 49
  interfaces := #[]
  cf := some (fileOf pool2 1 #[.nestMembers #[98]] #[{ accessFlags := 2, nameIndex := 7, descriptorIndex := 8, attributes := #[] }, { accessFlags := 9, nameIndex := 393, descriptorIndex := 121, attributes := #[] }, { accessFlags := 9, nameIndex := 120, descriptorIndex := 395, attributes := #[] }, { accessFlags := 9, nameIndex := 120, descriptorIndex := 121, attributes := #[] }, { accessFlags := 9, nameIndex := 124, descriptorIndex := 125, attributes := #[] }, { accessFlags := 9, nameIndex := 198, descriptorIndex := 121, attributes := #[] }] 49 4 #[] #[{ accessFlags := 25, nameIndex := 354, descriptorIndex := 339, attributes := #[] }, { accessFlags := 25, nameIndex := 358, descriptorIndex := 339, attributes := #[] }, { accessFlags := 25, nameIndex := 361, descriptorIndex := 339, attributes := #[] }, { accessFlags := 26, nameIndex := 364, descriptorIndex := 339, attributes := #[] }, { accessFlags := 26, nameIndex := 365, descriptorIndex := 339, attributes := #[] }, { accessFlags := 26, nameIndex := 172, descriptorIndex := 173, attributes := #[] }, { accessFlags := 26, nameIndex := 176, descriptorIndex := 173, attributes := #[] }, { accessFlags := 8, nameIndex := 344, descriptorIndex := 339, attributes := #[] }, { accessFlags := 8, nameIndex := 338, descriptorIndex := 339, attributes := #[] }, { accessFlags := 4120, nameIndex := 245, descriptorIndex := 246, attributes := #[] }])
  fields := #[{ name := "E", type := .double, accessFlags := 25, slot := 0, constantValue := 0 }, { name := "PI", type := .double, accessFlags := 25, slot := 1, constantValue := 0 }, { name := "TAU", type := .double, accessFlags := 25, slot := 2, constantValue := 0 }, { name := "DEGREES_TO_RADIANS", type := .double, accessFlags := 26, slot := 3, constantValue := 0 }, { name := "RADIANS_TO_DEGREES", type := .double, accessFlags := 26, slot := 4, constantValue := 0 }, { name := "negativeZeroFloatBits", type := .long, accessFlags := 26, slot := 5, constantValue := 0 }, { name := "negativeZeroDoubleBits", type := .long, accessFlags := 26, slot := 6, constantValue := 0 }, { name := "twoToTheDoubleScaleUp", type := .double, accessFlags := 8, slot := 7, constantValue := 0 }, { name := "twoToTheDoubleScaleDown", type := .double, accessFlags := 8, slot := 8, constantValue := 0 }, { name := "$assertionsDisabled", type := .boolean, accessFlags := 4120, slot := 9, constantValue := 0 }]
  methods := #[k2m0, k2m1, k2m2, k2m3, k2m4, k2m5]
  instanceTypes := #[]
  staticTypes := #[.double, .double, .double, .double, .double, .long, .long, .double, .double, .boolean]
  resolved := Array.replicate 460 none
  statics := none }

def pool3 : Array CpInfo := pool [(1, .methodref 2 3), (0, .class_ 4), (0, .nameAndType 5 6), (0, u "java/lang/Object"), (0, u "<init>"), (0, u "()V"), (0, .class_ 8), (0, u "java/lang/Record")] 13

def k3c0 : Code := { maxStack := 1, maxLocals := 1, code := jdk_30_method_1_code, exceptionTable := #[], attributes := #[] }
def k3m0 : Method := { name := "<init>", desc := "()V", sig := { parameters := [], returnType := none }, accessFlags := 4, code := some k3c0 }
/-- java/lang/Record -/
def k3 : Class := { plain "java/lang/Record" (some 0) with
  accessFlags := 1057
  interfaces := #[]
  cf := some (fileOf pool3 7 #[] #[{ accessFlags := 4, nameIndex := 5, descriptorIndex := 6, attributes := #[] }] 1057 2 #[] #[])
  fields := #[]
  methods := #[k3m0]
  instanceTypes := #[]
  staticTypes := #[]
  resolved := Array.replicate 22 none
  statics := none }

def pool4 : Array CpInfo := pool [(3, .methodref 4 5), (0, .class_ 6), (0, .nameAndType 7 8), (0, u "java/lang/Record"), (0, u "<init>"), (0, u "()V"), (0, .class_ 10), (0, u "com/example/keylatch/keylatch/Lease"), (0, .long 4611686018427387903), (9, .fieldref 9 22), (0, .nameAndType 23 24), (0, u "millis"), (0, u "J"), (1, .class_ 28), (1, u "java/time/Duration"), (2, .methodref 26 32), (0, .nameAndType 33 34), (0, u "compareTo"), (0, u "(Ljava/time/Duration;)I"), (0, .methodref 26 36), (0, .nameAndType 37 38), (0, u "ofMillis"), (0, u "(J)Ljava/time/Duration;"), (2, u "ceilMillis"), (0, u "(Ljava/time/Duration;)J"), (2, u "(J)V"), (0, .methodref 26 47), (0, .nameAndType 48 49), (0, u "toMillis"), (0, u "()J"), (25, .long 3), (1, .methodref 78 79), (0, .class_ 80), (0, .nameAndType 81 82), (0, u "java/lang/Math"), (0, u "max"), (0, u "(JJ)J"), (24, u "DEFAULT"), (0, u "Lcom/example/keylatch/keylatch/Lease;"), (2, u "NOT_GIVEN"), (0, u "MAX_MILLIS"), (6, u "renewalInterval"), (0, u "()Ljava/time/Duration;")] 35

def k4c0 : Code := { maxStack := 4, maxLocals := 3, code := prog_10_method_1_code, exceptionTable := #[], attributes := #[] }
def k4m0 : Method := { name := "<init>", desc := "(J)V", sig := { parameters := [.long], returnType := none }, accessFlags := 0, code := some k4c0 }
def k4c1 : Code := { maxStack := 4, maxLocals := 3, code := prog_10_method_3_code, exceptionTable := #[], attributes := #[] }
def k4m1 : Method := { name := "ceilMillis", desc := "(Ljava/time/Duration;)J", sig := { parameters := [(.object "java/time/Duration")], returnType := some .long }, accessFlags := 8, code := some k4c1 }
def k4c2 : Code := { maxStack := 6, maxLocals := 1, code := prog_10_method_5_code, exceptionTable := #[], attributes := #[] }
def k4m2 : Method := { name := "renewalInterval", desc := "()Ljava/time/Duration;", sig := { parameters := [], returnType := some (.object "java/time/Duration") }, accessFlags := 0, code := some k4c2 }
/-- com/example/keylatch/keylatch/Lease -/
def k4 : Class := { plain "com/example/keylatch/keylatch/Lease" (some 3) with
  accessFlags := 48
  interfaces := #[]
  cf := some (fileOf pool4 9 #[] #[{ accessFlags := 0, nameIndex := 7, descriptorIndex := 45, attributes := #[] }, { accessFlags := 8, nameIndex := 41, descriptorIndex := 42, attributes := #[] }, { accessFlags := 0, nameIndex := 119, descriptorIndex := 120, attributes := #[] }] 48 4 #[] #[{ accessFlags := 18, nameIndex := 23, descriptorIndex := 24, attributes := #[] }, { accessFlags := 24, nameIndex := 112, descriptorIndex := 24, attributes := #[] }, { accessFlags := 24, nameIndex := 107, descriptorIndex := 108, attributes := #[] }, { accessFlags := 24, nameIndex := 111, descriptorIndex := 108, attributes := #[] }])
  fields := #[{ name := "millis", type := .long, accessFlags := 18, slot := 0, constantValue := 0 }, { name := "MAX_MILLIS", type := .long, accessFlags := 24, slot := 0, constantValue := 0 }, { name := "DEFAULT", type := (.object "com/example/keylatch/keylatch/Lease"), accessFlags := 24, slot := 1, constantValue := 0 }, { name := "NOT_GIVEN", type := (.object "com/example/keylatch/keylatch/Lease"), accessFlags := 24, slot := 2, constantValue := 0 }]
  methods := #[k4m0, k4m1, k4m2]
  instanceTypes := #[.long]
  staticTypes := #[.long, (.object "com/example/keylatch/keylatch/Lease"), (.object "com/example/keylatch/keylatch/Lease")]
  resolved := Array.replicate 156 none
  statics := none }

def pool5 : Array CpInfo := pool [(1, .class_ 2), (0, u "java/time/temporal/TemporalAmount"), (0, .class_ 4), (0, u "java/lang/Object")] 11

/-- java/time/temporal/TemporalAmount -/
def k5 : Class := { plain "java/time/temporal/TemporalAmount" (some 0) with
  accessFlags := 1537
  interfaces := #[]
  cf := some (fileOf pool5 1 #[] #[] 1537 3 #[] #[])
  fields := #[]
  methods := #[]
  instanceTypes := #[]
  staticTypes := #[]
  resolved := Array.replicate 16 none
  statics := none }

def pool6 : Array CpInfo := pool [(1, .class_ 2), (0, u "java/lang/Comparable"), (0, .class_ 4), (0, u "java/lang/Object")] 7

/-- java/lang/Comparable -/
def k6 : Class := { plain "java/lang/Comparable" (some 0) with
  accessFlags := 1537
  interfaces := #[]
  cf := some (fileOf pool6 1 #[] #[] 1537 3 #[] #[])
  fields := #[]
  methods := #[]
  instanceTypes := #[]
  staticTypes := #[]
  resolved := Array.replicate 12 none
  statics := none }

def pool7 : Array CpInfo := pool [(1, .class_ 2), (0, u "java/io/Serializable"), (0, .class_ 4), (0, u "java/lang/Object")] 2

/-- java/io/Serializable -/
def k7 : Class := { plain "java/io/Serializable" (some 0) with
  accessFlags := 1537
  interfaces := #[]
  cf := some (fileOf pool7 1 #[] #[] 1537 3 #[] #[])
  fields := #[]
  methods := #[]
  instanceTypes := #[]
  staticTypes := #[]
  resolved := Array.replicate 7 none
  statics := none }

def pool8 : Array CpInfo := pool [(4, .methodref 5 6), (0, .class_ 7), (0, .nameAndType 8 9), (0, u "java/lang/Math"), (0, u "multiplyExact"), (0, u "(JI)J"), (0, .methodref 11 12), (0, .class_ 13), (0, .nameAndType 14 15), (0, u "java/time/Duration"), (0, u "create"), (0, u "(JI)Ljava/time/Duration;"), (5, u "(JJ)J"), (0, .methodref 5 23), (0, .nameAndType 24 21), (0, u "addExact"), (3, .long 1000), (1, .integer 1000000), (3, u "ZERO"), (0, u "Ljava/time/Duration;"), (13, .class_ 51), (1, u "java/time/temporal/TemporalAmount"), (27, .class_ 81), (1, u "java/time/Duration$Lazy"), (35, u "seconds"), (21, u "<init>"), (7, .class_ 149), (1, u "java/lang/Long"), (7, .nameAndType 139 158), (0, u "()V"), (40, u "(J)Ljava/time/Duration;"), (15, .methodref 11 216), (0, .nameAndType 139 217), (0, u "(JI)V"), (0, .methodref 219 157), (0, .class_ 220), (0, u "java/lang/Object"), (0, .fieldref 11 222), (0, .nameAndType 117 223), (0, u "J"), (0, .fieldref 11 225), (0, .nameAndType 226 227), (0, u "nanos"), (0, u "I"), (11, .class_ 241), (1, u "java/time/Duration$DurationUnits"), (9, u "()J"), (17, .class_ 271), (1, u "java/time/Duration$1"), (22, .long 1000000), (68, u "BI_NANOS_PER_SECOND"), (0, u "Ljava/math/BigInteger;"), (51, .methodref 147 417), (0, .nameAndType 418 419), (0, u "compare"), (0, u "(JJ)I"), (60, u "compareTo"), (0, u "(Ljava/time/Duration;)I"), (3, .class_ 486), (0, u "java/lang/Comparable"), (0, .class_ 488), (0, u "java/io/Serializable"), (0, u "serialVersionUID"), (12, u "ofMillis"), (98, u "toMillis")] 54

def k8c0 : Code := { maxStack := 4, maxLocals := 5, code := jdk_2316_method_6_code, exceptionTable := #[], attributes := #[] }
def k8m0 : Method := { name := "ofMillis", desc := "(J)Ljava/time/Duration;", sig := { parameters := [.long], returnType := some (.object "java/time/Duration") }, accessFlags := 9, code := some k8c0 }
def k8c1 : Code := { maxStack := 5, maxLocals := 3, code := jdk_2316_method_16_code, exceptionTable := #[], attributes := #[] }
def k8m1 : Method := { name := "create", desc := "(JI)Ljava/time/Duration;", sig := { parameters := [.long, .int], returnType := some (.object "java/time/Duration") }, accessFlags := 10, code := some k8c1 }
def k8c2 : Code := { maxStack := 3, maxLocals := 4, code := jdk_2316_method_17_code, exceptionTable := #[], attributes := #[] }
def k8m2 : Method := { name := "<init>", desc := "(JI)V", sig := { parameters := [.long, .int], returnType := none }, accessFlags := 2, code := some k8c2 }
def k8c3 : Code := { maxStack := 6, maxLocals := 7, code := jdk_2316_method_57_code, exceptionTable := #[], attributes := #[] }
def k8m3 : Method := { name := "toMillis", desc := "()J", sig := { parameters := [], returnType := some .long }, accessFlags := 1, code := some k8c3 }
def k8c4 : Code := { maxStack := 4, maxLocals := 3, code := jdk_2316_method_66_code, exceptionTable := #[], attributes := #[] }
def k8m4 : Method := { name := "compareTo", desc := "(Ljava/time/Duration;)I", sig := { parameters := [(.object "java/time/Duration")], returnType := some .int }, accessFlags := 1, code := some k8c4 }
/-- java/time/Duration -/
def k8 : Class := { plain "java/time/Duration" (some 0) with
  accessFlags := 49
  interfaces := #[5, 6, 7]
  cf := some (fileOf pool8 11 #[.nestMembers #[269, 239, 79]] #[{ accessFlags := 9, nameIndex := 502, descriptorIndex := 199, attributes := #[] }, { accessFlags := 10, nameIndex := 14, descriptorIndex := 15, attributes := #[] }, { accessFlags := 2, nameIndex := 139, descriptorIndex := 217, attributes := #[] }, { accessFlags := 1, nameIndex := 601, descriptorIndex := 251, attributes := #[] }, { accessFlags := 1, nameIndex := 480, descriptorIndex := 481, attributes := #[] }] 49 219 #[49, 485, 487] #[{ accessFlags := 25, nameIndex := 34, descriptorIndex := 35, attributes := #[] }, { accessFlags := 26, nameIndex := 489, descriptorIndex := 223, attributes := #[] }, { accessFlags := 26, nameIndex := 363, descriptorIndex := 364, attributes := #[] }, { accessFlags := 18, nameIndex := 117, descriptorIndex := 223, attributes := #[] }, { accessFlags := 18, nameIndex := 226, descriptorIndex := 227, attributes := #[] }])
  fields := #[{ name := "ZERO", type := (.object "java/time/Duration"), accessFlags := 25, slot := 0, constantValue := 0 }, { name := "serialVersionUID", type := .long, accessFlags := 26, slot := 1, constantValue := 0 }, { name := "BI_NANOS_PER_SECOND", type := (.object "java/math/BigInteger"), accessFlags := 26, slot := 2, constantValue := 0 }, { name := "seconds", type := .long, accessFlags := 18, slot := 0, constantValue := 0 }, { name := "nanos", type := .int, accessFlags := 18, slot := 1, constantValue := 0 }]
  methods := #[k8m0, k8m1, k8m2, k8m3, k8m4]
  instanceTypes := #[.long, .int]
  staticTypes := #[(.object "java/time/Duration"), .long, (.object "java/math/BigInteger")]
  resolved := Array.replicate 656 none
  statics := none }

def pool9 : Array CpInfo := pool [(2, .class_ 4), (1, u "java/lang/Object"), (0, u "<init>"), (0, u "()V"), (1, .class_ 10), (1, u "java/lang/Number"), (2, .class_ 14), (0, u "java/io/Serializable"), (0, u "serialVersionUID"), (0, u "J")] 20

def k9m0 : Method := { name := "<init>", desc := "()V", sig := { parameters := [], returnType := none }, accessFlags := 1, code := none }
/-- java/lang/Number -/
def k9 : Class := { plain "java/lang/Number" (some 0) with
  accessFlags := 1057
  interfaces := #[7]
  cf := some (fileOf pool9 8 #[] #[{ accessFlags := 1, nameIndex := 5, descriptorIndex := 6, attributes := #[] }] 1057 2 #[13] #[{ accessFlags := 26, nameIndex := 15, descriptorIndex := 16, attributes := #[] }])
  fields := #[{ name := "serialVersionUID", type := .long, accessFlags := 26, slot := 0, constantValue := 0 }]
  methods := #[k9m0]
  instanceTypes := #[]
  staticTypes := #[.long]
  resolved := Array.replicate 37 none
  statics := none }

def pool10 : Array CpInfo := pool [(1, .class_ 2), (0, u "java/lang/constant/Constable"), (0, .class_ 4), (0, u "java/lang/Object")] 6

/-- java/lang/constant/Constable -/
def k10 : Class := { plain "java/lang/constant/Constable" (some 0) with
  accessFlags := 1537
  interfaces := #[]
  cf := some (fileOf pool10 1 #[] #[] 1537 3 #[] #[])
  fields := #[]
  methods := #[]
  instanceTypes := #[]
  staticTypes := #[]
  resolved := Array.replicate 11 none
  statics := none }

def pool11 : Array CpInfo := pool [(1, .class_ 2), (0, u "java/lang/constant/ConstantDesc"), (0, .class_ 4), (0, u "java/lang/Object")] 32

/-- java/lang/constant/ConstantDesc -/
def k11 : Class := { plain "java/lang/constant/ConstantDesc" (some 0) with
  accessFlags := 1537
  interfaces := #[]
  cf := some (fileOf pool11 1 #[] #[] 1537 3 #[] #[])
  fields := #[]
  methods := #[]
  instanceTypes := #[]
  staticTypes := #[]
  resolved := Array.replicate 37 none
  statics := none }

def pool12 : Array CpInfo := pool [(1, .class_ 2), (0, u "java/lang/Long"), (232, .class_ 237), (1, u "java/lang/Long$LongCache"), (33, .class_ 272), (0, u "java/lang/Number"), (2, u "value"), (0, u "J"), (27, u "compare"), (0, u "(JJ)I"), (55, u "TYPE"), (0, u "Ljava/lang/Class;"), (0, .class_ 364), (0, u "java/lang/Comparable"), (0, .class_ 366), (0, u "java/lang/constant/Constable"), (0, .class_ 368), (0, u "java/lang/constant/ConstantDesc"), (0, u "MIN_VALUE"), (1, u "MAX_VALUE"), (4, u "SIZE"), (0, u "I"), (1, u "BYTES"), (1, u "serialVersionUID")] 142

def k12c0 : Code := { maxStack := 4, maxLocals := 4, code := jdk_35_method_42_code, exceptionTable := #[], attributes := #[] }
def k12m0 : Method := { name := "compare", desc := "(JJ)I", sig := { parameters := [.long, .long], returnType := some .int }, accessFlags := 9, code := some k12c0 }
/-- java/lang/Long -/
def k12 : Class := { plain "java/lang/Long" (some 9) with
  accessFlags := 49
  interfaces := #[6, 10, 11]
  cf := some (fileOf pool12 1 #[.nestMembers #[235]] #[{ accessFlags := 9, nameIndex := 304, descriptorIndex := 305, attributes := #[] }] 49 271 #[363, 365, 367] #[{ accessFlags := 25, nameIndex := 369, descriptorIndex := 276, attributes := #[] }, { accessFlags := 25, nameIndex := 371, descriptorIndex := 276, attributes := #[] }, { accessFlags := 25, nameIndex := 361, descriptorIndex := 362, attributes := #[] }, { accessFlags := 18, nameIndex := 275, descriptorIndex := 276, attributes := #[] }, { accessFlags := 25, nameIndex := 376, descriptorIndex := 377, attributes := #[] }, { accessFlags := 25, nameIndex := 379, descriptorIndex := 377, attributes := #[] }, { accessFlags := 26, nameIndex := 381, descriptorIndex := 276, attributes := #[] }])
  fields := #[{ name := "MIN_VALUE", type := .long, accessFlags := 25, slot := 0, constantValue := 0 }, { name := "MAX_VALUE", type := .long, accessFlags := 25, slot := 1, constantValue := 0 }, { name := "TYPE", type := (.object "java/lang/Class"), accessFlags := 25, slot := 2, constantValue := 0 }, { name := "value", type := .long, accessFlags := 18, slot := 0, constantValue := 0 }, { name := "SIZE", type := .int, accessFlags := 25, slot := 3, constantValue := 0 }, { name := "BYTES", type := .int, accessFlags := 25, slot := 4, constantValue := 0 }, { name := "serialVersionUID", type := .long, accessFlags := 26, slot := 5, constantValue := 0 }]
  methods := #[k12m0]
  instanceTypes := #[.long]
  staticTypes := #[.long, .long, (.object "java/lang/Class"), .int, .int, .long]
  resolved := Array.replicate 524 none
  statics := none }

def pool13 : Array CpInfo := pool [(1, u "java/lang/Cloneable"), (0, .class_ 1), (0, u "java/lang/Object"), (0, .class_ 3)] 3

/-- java/lang/Cloneable -/
def k13 : Class := { plain "java/lang/Cloneable" (some 0) with
  accessFlags := 1537
  interfaces := #[]
  cf := some (fileOf pool13 2 #[] #[] 1537 4 #[] #[])
  fields := #[]
  methods := #[]
  instanceTypes := #[]
  staticTypes := #[]
  resolved := Array.replicate 8 none
  statics := none }

/-- the primitive byte -/
def k14 : Class := { plain "byte" none with kind := .primitive 'B', accessFlags := 0x411 }
/-- [B -/
def k15 : Class := { plain "[B" (some 0) with kind := .array 14 .byte, interfaces := #[13, 7], accessFlags := 1041 }

/-- the primitive int -/
def k16 : Class := { plain "int" none with kind := .primitive 'I', accessFlags := 0x411 }
/-- [I -/
def k17 : Class := { plain "[I" (some 0) with kind := .array 16 .int, interfaces := #[13, 7], accessFlags := 1041 }

def heap : Heap := #[]
def classes : Array Class := #[k0, k1, k2, k3, k4, k5, k6, k7, k8, k9, k10, k11, k12, k13, k14, k15, k16, k17]
def interned : List (Array UInt16 × Addr) := []
def slotsUsed : Nat := 0
def theMethod : MethodId := ⟨1, 1⟩
def args0 : Array Value := #[.long 5, .int 7]
def aboutOver (below : List Frame) : State where
  vm := { classes := classes, interned := interned.toArray }
  heap := heap
  slotsUsed := slotsUsed
  threads := #[{ frames := .invoking theMethod args0 :: below }]
def below0 : List Frame := [.native { method := ⟨0, 0⟩, args := #[] }]
def about1 : State := aboutOver below0
def p0 : Program := .bare "" "" ""
def e0 : Env := launch0.env 0 0 0
theorem w_frames : about1.frames = Frame.invoking theMethod args0 :: below0 := rfl
set_option maxRecDepth 65536 in
theorem w_args : argsFit about1.vm theMethod args0 = true := by decide +kernel
set_option maxRecDepth 65536 in
theorem w_heap : heapFits about1 = true := by decide +kernel
set_option maxRecDepth 65536 in
theorem w_runnable : about1.curStatus? = some .runnable := by decide +kernel
set_option maxRecDepth 65536 in
theorem w_alone : about1.alone = true := by decide +kernel
set_option maxRecDepth 65536 in
theorem w_named : about1.methodNamed? x = some theMethod := by decide +kernel
set_option maxRecDepth 65536 in
theorem w_hears : about1.hears theMethod below0 = true := by decide +kernel
set_option maxRecDepth 65536 in
theorem w_ripe : about1.ripe theMethod args0 below0 = true := by decide +kernel
theorem w_running : about1.status = .running := rfl
set_option maxRecDepth 65536 in
theorem w_room : about1.hasRoom e0.platform room_1 = true :=
  launch0.hasRoom_least _ room_1 (by decide +kernel) (by decide +kernel) (by decide +kernel) (by decide +kernel) (by decide +kernel) (by decide +kernel)
theorem allAtoms_all (ts : List Jvm.Cond) (a : Array Jvm.Value) (st : Jvm.State) : (allAtoms ts).before a st = ts.all (fun c => c.before a st) := by
  induction ts with
  | nil => rfl
  | cons c t ih =>
    show (Jvm.Cond.and c (allAtoms t)).before a st = _
    rw [Jvm.Cond.before_and, ih, List.all_cons]
def words1 : List Jvm.Cond := Jvm.Cond.code x code maxLocals ret :: tables_1
/-- a 'code' word, met by the world's own term for the bytes: nothing is compared byte by byte -/
theorem code_word {y : MethodName} {bytes : ByteArray} {mx : Nat} {rt : Option FieldType} {a : Array Value} {s : State} {m : MethodId} {meth : Method} {c : Code} (h1 : s.methodNamed? y = some m) (h2 : s.vm.method? m = some meth) (h3 : meth.code = some c) (h4 : c.code = bytes)
    (h5 : (c.maxLocals == mx && c.exceptionTable.isEmpty && decide (c.maxStack ≤ mostOperands) && decide (meth.sig.returnType = rt) && !meth.locks && decide (parseMethodDescriptor y.desc = some meth.sig)) = true) : (Jvm.Cond.code y bytes mx rt).before a s = true := by
  simp only [Bool.and_eq_true, beq_iff_eq, Bool.not_eq_true', decide_eq_true_eq] at h5
  obtain ⟨⟨⟨⟨⟨g1, g2⟩, g3⟩, g4⟩, g5⟩, g6⟩ := h5
  simp [Cond.before, Cond.holds, Cond.value, h1, h2, h3, h4, g1, g2, g3, g4, g5, g6]
def isCode : Jvm.Cond → Bool
  | .code _ _ _ _ => true
  | _ => false
theorem all_split {L : List Jvm.Cond} {P : Jvm.Cond → Bool} (h1 : L.all (fun c => isCode c || P c) = true) (h2 : ∀ c ∈ L.filter isCode, P c = true) : L.all P = true := by
  refine List.all_eq_true.mpr fun c hc => ?_
  have h := List.all_eq_true.mp h1 c hc
  rcases Bool.eq_false_or_eq_true (isCode c) with hi | hi
  · exact h2 c (List.mem_filter.mpr ⟨hc, hi⟩)
  · simpa [hi] using h
set_option maxRecDepth 65536 in
theorem w_c0 : (Jvm.Cond.code x code maxLocals ret).before args0 about1 = true := code_word (m := ⟨1, 1⟩) (meth := k1m1) (c := k1c1) (by decide +kernel) rfl rfl rfl (by decide +kernel)
set_option maxRecDepth 65536 in
theorem w_c1 : (Jvm.Cond.code ({ cls := "java/lang/Math", name := "max", desc := "(JJ)J" } : Jvm.MethodName) jdk_29_method_66_code (4 : Nat) (Option.some Jvm.ClassFile.FieldType.long)).before args0 about1 = true := code_word (m := ⟨2, 5⟩) (meth := k2m5) (c := k2c5) (by decide +kernel) rfl rfl rfl (by decide +kernel)
set_option maxRecDepth 65536 in
theorem w_c2 : (Jvm.Cond.code ({ cls := "com/example/keylatch/keylatch/Lease", name := "<init>", desc := "(J)V" } : Jvm.MethodName) prog_10_method_1_code (3 : Nat) (Option.none : Option Jvm.ClassFile.FieldType)).before args0 about1 = true := code_word (m := ⟨4, 0⟩) (meth := k4m0) (c := k4c0) (by decide +kernel) rfl rfl rfl (by decide +kernel)
set_option maxRecDepth 65536 in
theorem w_c3 : (Jvm.Cond.code ({ cls := "java/lang/Record", name := "<init>", desc := "()V" } : Jvm.MethodName) jdk_30_method_1_code (1 : Nat) (Option.none : Option Jvm.ClassFile.FieldType)).before args0 about1 = true := code_word (m := ⟨3, 0⟩) (meth := k3m0) (c := k3c0) (by decide +kernel) rfl rfl rfl (by decide +kernel)
set_option maxRecDepth 65536 in
theorem w_c4 : (Jvm.Cond.code ({ cls := "java/lang/Object", name := "<init>", desc := "()V" } : Jvm.MethodName) object_method_1_code (1 : Nat) (Option.none : Option Jvm.ClassFile.FieldType)).before args0 about1 = true := code_word (m := ⟨0, 0⟩) (meth := k0m0) (c := k0c0) (by decide +kernel) rfl rfl rfl (by decide +kernel)
set_option maxRecDepth 65536 in
theorem w_c5 : (Jvm.Cond.code ({ cls := "com/example/keylatch/keylatch/Lease", name := "renewalInterval", desc := "()Ljava/time/Duration;" } : Jvm.MethodName) prog_10_method_5_code (1 : Nat) (Option.some (Jvm.ClassFile.FieldType.object "java/time/Duration"))).before args0 about1 = true := code_word (m := ⟨4, 2⟩) (meth := k4m2) (c := k4c2) (by decide +kernel) rfl rfl rfl (by decide +kernel)
set_option maxRecDepth 65536 in
theorem w_c6 : (Jvm.Cond.code ({ cls := "java/time/Duration", name := "ofMillis", desc := "(J)Ljava/time/Duration;" } : Jvm.MethodName) jdk_2316_method_6_code (5 : Nat) (Option.some (Jvm.ClassFile.FieldType.object "java/time/Duration"))).before args0 about1 = true := code_word (m := ⟨8, 0⟩) (meth := k8m0) (c := k8c0) (by decide +kernel) rfl rfl rfl (by decide +kernel)
set_option maxRecDepth 65536 in
theorem w_c7 : (Jvm.Cond.code ({ cls := "java/time/Duration", name := "create", desc := "(JI)Ljava/time/Duration;" } : Jvm.MethodName) jdk_2316_method_16_code (3 : Nat) (Option.some (Jvm.ClassFile.FieldType.object "java/time/Duration"))).before args0 about1 = true := code_word (m := ⟨8, 1⟩) (meth := k8m1) (c := k8c1) (by decide +kernel) rfl rfl rfl (by decide +kernel)
set_option maxRecDepth 65536 in
theorem w_c8 : (Jvm.Cond.code ({ cls := "java/time/Duration", name := "<init>", desc := "(JI)V" } : Jvm.MethodName) jdk_2316_method_17_code (4 : Nat) (Option.none : Option Jvm.ClassFile.FieldType)).before args0 about1 = true := code_word (m := ⟨8, 2⟩) (meth := k8m2) (c := k8c2) (by decide +kernel) rfl rfl rfl (by decide +kernel)
set_option maxRecDepth 65536 in
theorem w_c9 : (Jvm.Cond.code ({ cls := "com/example/keylatch/keylatch/Lease", name := "ceilMillis", desc := "(Ljava/time/Duration;)J" } : Jvm.MethodName) prog_10_method_3_code (3 : Nat) (Option.some Jvm.ClassFile.FieldType.long)).before args0 about1 = true := code_word (m := ⟨4, 1⟩) (meth := k4m1) (c := k4c1) (by decide +kernel) rfl rfl rfl (by decide +kernel)
set_option maxRecDepth 65536 in
theorem w_c10 : (Jvm.Cond.code ({ cls := "java/time/Duration", name := "toMillis", desc := "()J" } : Jvm.MethodName) jdk_2316_method_57_code (7 : Nat) (Option.some Jvm.ClassFile.FieldType.long)).before args0 about1 = true := code_word (m := ⟨8, 3⟩) (meth := k8m3) (c := k8c3) (by decide +kernel) rfl rfl rfl (by decide +kernel)
set_option maxRecDepth 65536 in
theorem w_c11 : (Jvm.Cond.code ({ cls := "java/lang/Math", name := "multiplyExact", desc := "(JI)J" } : Jvm.MethodName) jdk_29_method_29_code (3 : Nat) (Option.some Jvm.ClassFile.FieldType.long)).before args0 about1 = true := code_word (m := ⟨2, 2⟩) (meth := k2m2) (c := k2c2) (by decide +kernel) rfl rfl rfl (by decide +kernel)
set_option maxRecDepth 65536 in
theorem w_c12 : (Jvm.Cond.code ({ cls := "java/lang/Math", name := "multiplyExact", desc := "(JJ)J" } : Jvm.MethodName) jdk_29_method_30_code (10 : Nat) (Option.some Jvm.ClassFile.FieldType.long)).before args0 about1 = true := code_word (m := ⟨2, 3⟩) (meth := k2m3) (c := k2c3) (by decide +kernel) rfl rfl rfl (by decide +kernel)
set_option maxRecDepth 65536 in
theorem w_c13 : (Jvm.Cond.code ({ cls := "java/lang/Math", name := "abs", desc := "(J)J" } : Jvm.MethodName) jdk_29_method_61_code (2 : Nat) (Option.some Jvm.ClassFile.FieldType.long)).before args0 about1 = true := code_word (m := ⟨2, 4⟩) (meth := k2m4) (c := k2c4) (by decide +kernel) rfl rfl rfl (by decide +kernel)
set_option maxRecDepth 65536 in
theorem w_c14 : (Jvm.Cond.code ({ cls := "java/lang/Math", name := "addExact", desc := "(JJ)J" } : Jvm.MethodName) jdk_29_method_25_code (6 : Nat) (Option.some Jvm.ClassFile.FieldType.long)).before args0 about1 = true := code_word (m := ⟨2, 1⟩) (meth := k2m1) (c := k2c1) (by decide +kernel) rfl rfl rfl (by decide +kernel)
set_option maxRecDepth 65536 in
theorem w_c15 : (Jvm.Cond.code ({ cls := "java/time/Duration", name := "compareTo", desc := "(Ljava/time/Duration;)I" } : Jvm.MethodName) jdk_2316_method_66_code (3 : Nat) (Option.some Jvm.ClassFile.FieldType.int)).before args0 about1 = true := code_word (m := ⟨8, 4⟩) (meth := k8m4) (c := k8c4) (by decide +kernel) rfl rfl rfl (by decide +kernel)
set_option maxRecDepth 65536 in
theorem w_c16 : (Jvm.Cond.code ({ cls := "java/lang/Long", name := "compare", desc := "(JJ)I" } : Jvm.MethodName) jdk_35_method_42_code (4 : Nat) (Option.some Jvm.ClassFile.FieldType.int)).before args0 about1 = true := code_word (m := ⟨12, 0⟩) (meth := k12m0) (c := k12c0) (by decide +kernel) rfl rfl rfl (by decide +kernel)
def codes1 : List Jvm.Cond := [Jvm.Cond.code x code maxLocals ret, Jvm.Cond.code ({ cls := "java/lang/Math", name := "max", desc := "(JJ)J" } : Jvm.MethodName) jdk_29_method_66_code (4 : Nat) (Option.some Jvm.ClassFile.FieldType.long), Jvm.Cond.code ({ cls := "com/example/keylatch/keylatch/Lease", name := "<init>", desc := "(J)V" } : Jvm.MethodName) prog_10_method_1_code (3 : Nat) (Option.none : Option Jvm.ClassFile.FieldType), Jvm.Cond.code ({ cls := "java/lang/Record", name := "<init>", desc := "()V" } : Jvm.MethodName) jdk_30_method_1_code (1 : Nat) (Option.none : Option Jvm.ClassFile.FieldType), Jvm.Cond.code ({ cls := "java/lang/Object", name := "<init>", desc := "()V" } : Jvm.MethodName) object_method_1_code (1 : Nat) (Option.none : Option Jvm.ClassFile.FieldType), Jvm.Cond.code ({ cls := "com/example/keylatch/keylatch/Lease", name := "renewalInterval", desc := "()Ljava/time/Duration;" } : Jvm.MethodName) prog_10_method_5_code (1 : Nat) (Option.some (Jvm.ClassFile.FieldType.object "java/time/Duration")), Jvm.Cond.code ({ cls := "java/time/Duration", name := "ofMillis", desc := "(J)Ljava/time/Duration;" } : Jvm.MethodName) jdk_2316_method_6_code (5 : Nat) (Option.some (Jvm.ClassFile.FieldType.object "java/time/Duration")), Jvm.Cond.code ({ cls := "java/time/Duration", name := "create", desc := "(JI)Ljava/time/Duration;" } : Jvm.MethodName) jdk_2316_method_16_code (3 : Nat) (Option.some (Jvm.ClassFile.FieldType.object "java/time/Duration")), Jvm.Cond.code ({ cls := "java/time/Duration", name := "<init>", desc := "(JI)V" } : Jvm.MethodName) jdk_2316_method_17_code (4 : Nat) (Option.none : Option Jvm.ClassFile.FieldType), Jvm.Cond.code ({ cls := "com/example/keylatch/keylatch/Lease", name := "ceilMillis", desc := "(Ljava/time/Duration;)J" } : Jvm.MethodName) prog_10_method_3_code (3 : Nat) (Option.some Jvm.ClassFile.FieldType.long), Jvm.Cond.code ({ cls := "java/time/Duration", name := "toMillis", desc := "()J" } : Jvm.MethodName) jdk_2316_method_57_code (7 : Nat) (Option.some Jvm.ClassFile.FieldType.long), Jvm.Cond.code ({ cls := "java/lang/Math", name := "multiplyExact", desc := "(JI)J" } : Jvm.MethodName) jdk_29_method_29_code (3 : Nat) (Option.some Jvm.ClassFile.FieldType.long), Jvm.Cond.code ({ cls := "java/lang/Math", name := "multiplyExact", desc := "(JJ)J" } : Jvm.MethodName) jdk_29_method_30_code (10 : Nat) (Option.some Jvm.ClassFile.FieldType.long), Jvm.Cond.code ({ cls := "java/lang/Math", name := "abs", desc := "(J)J" } : Jvm.MethodName) jdk_29_method_61_code (2 : Nat) (Option.some Jvm.ClassFile.FieldType.long), Jvm.Cond.code ({ cls := "java/lang/Math", name := "addExact", desc := "(JJ)J" } : Jvm.MethodName) jdk_29_method_25_code (6 : Nat) (Option.some Jvm.ClassFile.FieldType.long), Jvm.Cond.code ({ cls := "java/time/Duration", name := "compareTo", desc := "(Ljava/time/Duration;)I" } : Jvm.MethodName) jdk_2316_method_66_code (3 : Nat) (Option.some Jvm.ClassFile.FieldType.int), Jvm.Cond.code ({ cls := "java/lang/Long", name := "compare", desc := "(JJ)I" } : Jvm.MethodName) jdk_35_method_42_code (4 : Nat) (Option.some Jvm.ClassFile.FieldType.int)]
set_option maxRecDepth 65536 in
theorem codes_eq : words1.filter isCode = codes1 := rfl
theorem w_codes : ∀ c ∈ words1.filter isCode, c.before args0 about1 = true := by
  rw [codes_eq]
  intro c hc
  simp only [codes1, List.mem_cons, List.not_mem_nil, or_false] at hc
  rcases hc with rfl | rfl | rfl | rfl | rfl | rfl | rfl | rfl | rfl | rfl | rfl | rfl | rfl | rfl | rfl | rfl | rfl
  · exact w_c0
  · exact w_c1
  · exact w_c2
  · exact w_c3
  · exact w_c4
  · exact w_c5
  · exact w_c6
  · exact w_c7
  · exact w_c8
  · exact w_c9
  · exact w_c10
  · exact w_c11
  · exact w_c12
  · exact w_c13
  · exact w_c14
  · exact w_c15
  · exact w_c16
set_option maxRecDepth 65536 in
theorem w_t1 : (words1.take 24).all (fun c => isCode c || c.before args0 about1) = true := by decide +kernel
set_option maxRecDepth 65536 in
theorem w_t2 : ((words1.drop 24).take 24).all (fun c => isCode c || c.before args0 about1) = true := by decide +kernel
set_option maxRecDepth 65536 in
theorem w_t3 : (((words1.drop 24).drop 24).take 24).all (fun c => isCode c || c.before args0 about1) = true := by decide +kernel
set_option maxRecDepth 65536 in
theorem w_t4 : (((words1.drop 24).drop 24).drop 24).all (fun c => isCode c || c.before args0 about1) = true := by decide +kernel
theorem w_tables : (allAtoms (Jvm.Cond.code x code maxLocals ret :: tables_1)).before args0 about1 = true := by
  rw [allAtoms_all]
  show words1.all (fun c => c.before args0 about1) = true
  refine all_split ?_ w_codes
  rw [← List.take_append_drop 24 words1, List.all_append, w_t1, ← List.take_append_drop 24 (words1.drop 24), List.all_append, w_t2, ← List.take_append_drop 24 ((words1.drop 24).drop 24), List.all_append, w_t3, w_t4]
  rfl
set_option maxRecDepth 65536 in
theorem w_case : (Jvm.Cond.and given_1 narrow_1).before args0 about1 = true := by decide +kernel
theorem w_applies : (headSpec (Jvm.Cond.code x code maxLocals ret :: tables_1) room_1).applies x e0.platform about1 = true :=
  (Spec.applies_iff w_frames).mpr ⟨w_running, w_runnable, w_alone, w_named, w_hears, w_ripe, w_room, w_tables⟩
theorem atStart : AtStart classFile x code maxLocals ret World_1 tables_1 room_1 Calls_1 rest_1 Pre_1 launch0 p0 e0 about1 theMethod args0 below0 :=
  ⟨lists_1, trivial, launch0.admits_env _ _ _, launch0.least_env, fairChoices_fair.cas, fairChoices_fair.clock, w_frames, w_args, w_heap, w_applies, trivial, trivial, w_case⟩
end start1
theorem witness_1 : WitnessClaimed_1 := ⟨start1.p0, start1.e0, start1.about1, start1.theMethod, start1.args0, start1.below0, start1.atStart⟩
end Jvm.Pilot.@@N@@
