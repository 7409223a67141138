import JvmDerived
import JvmDerived.Pilot.@@N@@Statement
import JvmDerived.Pilot.@@N@@Code
set_option linter.unusedVariables false
set_option linter.unusedSimpArgs false
namespace Jvm.RoadKit
open Sem ClassFile Op Lib Jvm.Stand Jvm.Free Jvm.LawKit
section New
variable {p : Program} {l : Launch} {e : Env} {R : Room} {s : State} {m : MethodId} {args : Array Value} {below : List Frame} {meth : Method} {c : Code} {T : State} {locs : List Loc} {cells slots : Nat}
theorem retI (X : Stand p l e R s m args below meth c T locs cells slots) (hx : p.tables.exec = Jvm.exec) {pc : Nat} {Ls : Array Slot} {z : Int32} {rest : List Value} (hret : meth.sig.returnType = some .int) (hd : decode c.code pc = .ok (.ireturn, 1)) {fs : List Frame}
    (hl : ∀ (f : JFrame) (acts : List Action), f.method = m → f.locked = none → f.entered = [] → (doReturn e (T.setTop f) acts (some (.int z))).1 = T.setFrames fs) : Steps p.tables e below (T.setTop (mkF m pc Ls (.int z :: rest))) (T.setFrames fs) := by
  have hm' : T.vm.method? m = some meth := X.method'
  have hn : narrow .int (.int z) = .int z := rfl
  show Steps p.tables e below (T.setTop { method := m, pc := pc, locals := Ls, stack := _ :: rest, locked := none }) _
  jvm_step X.here [X.here.top, hx, hd, hm', hret, hn]
  first | (intro acts; rw [hl _ acts rfl rfl rfl]) | rw [hl _ _ rfl rfl rfl]
  exact Steps.refl _
end New
end Jvm.RoadKit
namespace Jvm.Pilot.@@N@@
open Jvm Jvm.ClassFile Sem Op Lib Jvm.Free Jvm.Stand Jvm.LawKit Jvm.RoadKit Bundle Jvm.Pilot.@@N@@.Jvm.D
def own_len (p : Int32) : Int32 := if p = 3 then 9 else if p = 4 then 9 else if p = 8 then 1 else if p = 9 then 5 else 0
theorem d_prog_117_method_1_code_0 : decode prog_117_method_1_code 0 = .ok (.iload_n 0, 1) := by decide +kernel
theorem d_prog_117_method_1_code_1 : decode prog_117_method_1_code 1 = .ok (.tableswitch 61 3 9 #[43, 48, 61, 61, 61, 53, 57], 43) := by decide +kernel
theorem d_prog_117_method_1_code_44 : decode prog_117_method_1_code 44 = .ok (.bipush 9, 2) := by decide +kernel
theorem d_prog_117_method_1_code_46 : decode prog_117_method_1_code 46 = .ok (.goto 17, 3) := by decide +kernel
theorem d_prog_117_method_1_code_63 : decode prog_117_method_1_code 63 = .ok (.ireturn, 1) := by decide +kernel
theorem d_prog_117_method_1_code_49 : decode prog_117_method_1_code 49 = .ok (.bipush 9, 2) := by decide +kernel
theorem d_prog_117_method_1_code_51 : decode prog_117_method_1_code 51 = .ok (.goto 12, 3) := by decide +kernel
theorem d_prog_117_method_1_code_62 : decode prog_117_method_1_code 62 = .ok (.iconst 0, 1) := by decide +kernel
theorem d_prog_117_method_1_code_54 : decode prog_117_method_1_code 54 = .ok (.iconst 1, 1) := by decide +kernel
theorem d_prog_117_method_1_code_55 : decode prog_117_method_1_code 55 = .ok (.goto 8, 3) := by decide +kernel
theorem d_prog_117_method_1_code_58 : decode prog_117_method_1_code 58 = .ok (.iconst 5, 1) := by decide +kernel
theorem d_prog_117_method_1_code_59 : decode prog_117_method_1_code 59 = .ok (.goto 4, 3) := by decide +kernel
theorem pn_0 : plainName "com/example/exacid/exacid/storage/LogRecord" = true := by first | (simp [plainName, overriddenIn]; done) | decide +kernel
theorem ef_rm1 (m : MethodId) (x0 : Int32) : entryFrame m #[(.int x0)] 1 = mkF m 0 #[.val (.int x0)] [] := by first | (simp [entryFrame, mkF, argsToLocals, Value.category]; done) | rfl
def Q_rm1 (Z : State) (p0 : Int32) (h0 : Heap) (n0 : Nat) (v : Option Value) (h : Heap) (L : List Loc) : Prop := v = some (.int (own_len p0)) ∧ Fr n0 L ∧ h = h0
set_option maxRecDepth 65536 in
set_option maxHeartbeats 40000000 in
theorem rm1 (l : Launch) (Z : State) (a0 : Array Value) (hw : ∀ d ∈ tables_1, d.before a0 Z = true) (ws : List Jvm.Cond) (p0 : Int32) (h0 : Heap) (n0 : Nat) (Z0 : n0 ≤ h0.size) :
    MetFree l (⟨"com/example/exacid/exacid/storage/LogRecord", "fixedBodyLength", "(B)I"⟩ : MethodName) (head1 (Jvm.Cond.code (⟨"com/example/exacid/exacid/storage/LogRecord", "fixedBodyLength", "(B)I"⟩ : MethodName) prog_117_method_1_code 1 (some .int) :: ws) ({ frames := 0, cells := 0, slots := 0, locals := 0 } : Room)) (fun a U => a = #[(.int p0)] ∧ Z.Warmed39 U.vm ∧ U.heap = h0) (fun _ _ _ _ _ => True) (fun _ U o U' => ∃ v L, o = .returned v ∧ Q_rm1 Z p0 h0 n0 v U'.heap L ∧ FrameEnd U o U' L ({ frames := 0, cells := 0, slots := 0, locals := 0 } : Room).cells ({ frames := 0, cells := 0, slots := 0, locals := 0 } : Room).slots) := by
  refine MetFree.of_bodySF (plainFor_of_name pn_0) hisR ?_
  intro p e s m args below meth c s₁ Bd hml0 hP hK
  obtain ⟨rfl, hZ, hh⟩ := hP
  have hx := Bd.exec
  have hby := Bd.bytes
  have hml : c.maxLocals = 1 := hml0
  have hown : s.vm.findClass "com/example/exacid/exacid/storage/LogRecord" = some m.cls := findClass_of_methodNamed Bd.named
  have hnm := (name_of_methodNamed Bd.named Bd.method).1
  have hlk : meth.locks = false := by first | exact BodyLoose.notSynchronized (by assumption) | exact Body.notSynchronized (by assumption) | assumption
  have X0 : Stand p l e ({ frames := 0, cells := 0, slots := 0, locals := 0 } : Room) s m #[(.int p0)] below meth c s₁ [] 0 0 := Stand.of_body Bd
  have e0 : s₁.heap = h0 := by rw [← hh, Bd.state]; rfl
  have N0 := Fr.nil n0
  have Zn := Z0
  have K0 : ∀ t, Steps p.tables e below (s₁.setTop (mkF m 0 #[.val (.int p0)] [])) t → Steps p.tables e below (s₁.setTop (entryFrame m #[(.int p0)] 1)) t := fun t k => castTop (ef_rm1 m p0) k
  have K1 : ∀ t, Steps p.tables e below (s₁.setTop (mkF m 1 #[.val (.int p0)] [(.int p0)])) t → Steps p.tables e below (s₁.setTop (entryFrame m #[(.int p0)] 1)) t := by
    intro t kt
    refine K0 t ?_
    show Steps p.tables e below (s₁.setTop (mkF m 0 #[.val (.int p0)] [])) _
    refine XS.iloadN X0.here hx rfl (hb hby d_prog_117_method_1_code_0) rfl ?_
    exact kt
  by_cases hsw : (p0).toInt = 3
  ·
    obtain ⟨fs, hr, hrun, hended, hW, hsame⟩ := X0.leave (v := some (.int (9 : Int32))) (fun h => by rw [Bd.returns] at h; cases h) hlk
    refine ⟨_, _, K1 _ ?_, hrun, hended, _, _, rfl, ?_, ⟨_, rfl⟩, hW, hsame.mono (by decide) (by decide)⟩
    ·
      show Steps p.tables e below (s₁.setTop (mkF m 1 #[.val (.int p0)] [(.int p0)])) _
      refine XS.tswIn X0.here hx rfl (pc0 := 1) (pc' := 44) (o := 43) rfl (hb hby d_prog_117_method_1_code_1) rfl (by rw [hsw]; decide) (by rw [hsw]; decide) (by decide) (by decide) ?_
      show Steps p.tables e below (s₁.setTop (mkF m 44 #[.val (.int p0)] [])) _
      refine XS.bipush X0.here hx rfl (hb hby d_prog_117_method_1_code_44) ?_
      show Steps p.tables e below (s₁.setTop (mkF m 46 #[.val (.int p0)] [(.int (9 : Int32))])) _
      refine XS.goto X0.here hx rfl (pc0 := 46) (pc' := 63) rfl (hb hby d_prog_117_method_1_code_46) (by decide) (by decide) ?_
      show Steps p.tables e below (s₁.setTop (mkF m 63 #[.val (.int p0)] [(.int (9 : Int32))])) _
      exact retI X0 hx Bd.returns (hb hby d_prog_117_method_1_code_63) hr
    ·
      show Q_rm1 Z p0 h0 n0 _ s₁.heap _
      rw [e0]
      have q : p0 = 3 := Int32.toInt_inj.mp hsw
      refine ⟨?_, N0, rfl⟩
      rw [q]; decide
  have hsw3 := hsw
  by_cases hsw : (p0).toInt = 4
  ·
    obtain ⟨fs, hr, hrun, hended, hW, hsame⟩ := X0.leave (v := some (.int (9 : Int32))) (fun h => by rw [Bd.returns] at h; cases h) hlk
    refine ⟨_, _, K1 _ ?_, hrun, hended, _, _, rfl, ?_, ⟨_, rfl⟩, hW, hsame.mono (by decide) (by decide)⟩
    ·
      show Steps p.tables e below (s₁.setTop (mkF m 1 #[.val (.int p0)] [(.int p0)])) _
      refine XS.tswIn X0.here hx rfl (pc0 := 1) (pc' := 49) (o := 48) rfl (hb hby d_prog_117_method_1_code_1) rfl (by rw [hsw]; decide) (by rw [hsw]; decide) (by decide) (by decide) ?_
      show Steps p.tables e below (s₁.setTop (mkF m 49 #[.val (.int p0)] [])) _
      refine XS.bipush X0.here hx rfl (hb hby d_prog_117_method_1_code_49) ?_
      show Steps p.tables e below (s₁.setTop (mkF m 51 #[.val (.int p0)] [(.int (9 : Int32))])) _
      refine XS.goto X0.here hx rfl (pc0 := 51) (pc' := 63) rfl (hb hby d_prog_117_method_1_code_51) (by decide) (by decide) ?_
      show Steps p.tables e below (s₁.setTop (mkF m 63 #[.val (.int p0)] [(.int (9 : Int32))])) _
      exact retI X0 hx Bd.returns (hb hby d_prog_117_method_1_code_63) hr
    ·
      show Q_rm1 Z p0 h0 n0 _ s₁.heap _
      rw [e0]
      have q : p0 = 4 := Int32.toInt_inj.mp hsw
      refine ⟨?_, N0, rfl⟩
      rw [q]; decide
  have hsw4 := hsw
  by_cases hsw : (p0).toInt = 5
  ·
    obtain ⟨fs, hr, hrun, hended, hW, hsame⟩ := X0.leave (v := some (.int (0 : Int32))) (fun h => by rw [Bd.returns] at h; cases h) hlk
    refine ⟨_, _, K1 _ ?_, hrun, hended, _, _, rfl, ?_, ⟨_, rfl⟩, hW, hsame.mono (by decide) (by decide)⟩
    ·
      show Steps p.tables e below (s₁.setTop (mkF m 1 #[.val (.int p0)] [(.int p0)])) _
      refine XS.tswIn X0.here hx rfl (pc0 := 1) (pc' := 62) (o := 61) rfl (hb hby d_prog_117_method_1_code_1) rfl (by rw [hsw]; decide) (by rw [hsw]; decide) (by decide) (by decide) ?_
      show Steps p.tables e below (s₁.setTop (mkF m 62 #[.val (.int p0)] [])) _
      refine XS.iconst X0.here hx rfl (hb hby d_prog_117_method_1_code_62) ?_
      show Steps p.tables e below (s₁.setTop (mkF m 63 #[.val (.int p0)] [(.int (0 : Int32))])) _
      exact retI X0 hx Bd.returns (hb hby d_prog_117_method_1_code_63) hr
    ·
      show Q_rm1 Z p0 h0 n0 _ s₁.heap _
      rw [e0]
      have q : p0 = 5 := Int32.toInt_inj.mp hsw
      refine ⟨?_, N0, rfl⟩
      rw [q]; decide
  have hsw5 := hsw
  by_cases hsw : (p0).toInt = 6
  ·
    obtain ⟨fs, hr, hrun, hended, hW, hsame⟩ := X0.leave (v := some (.int (0 : Int32))) (fun h => by rw [Bd.returns] at h; cases h) hlk
    refine ⟨_, _, K1 _ ?_, hrun, hended, _, _, rfl, ?_, ⟨_, rfl⟩, hW, hsame.mono (by decide) (by decide)⟩
    ·
      show Steps p.tables e below (s₁.setTop (mkF m 1 #[.val (.int p0)] [(.int p0)])) _
      refine XS.tswIn X0.here hx rfl (pc0 := 1) (pc' := 62) (o := 61) rfl (hb hby d_prog_117_method_1_code_1) rfl (by rw [hsw]; decide) (by rw [hsw]; decide) (by decide) (by decide) ?_
      show Steps p.tables e below (s₁.setTop (mkF m 62 #[.val (.int p0)] [])) _
      refine XS.iconst X0.here hx rfl (hb hby d_prog_117_method_1_code_62) ?_
      show Steps p.tables e below (s₁.setTop (mkF m 63 #[.val (.int p0)] [(.int (0 : Int32))])) _
      exact retI X0 hx Bd.returns (hb hby d_prog_117_method_1_code_63) hr
    ·
      show Q_rm1 Z p0 h0 n0 _ s₁.heap _
      rw [e0]
      have q : p0 = 6 := Int32.toInt_inj.mp hsw
      refine ⟨?_, N0, rfl⟩
      rw [q]; decide
  have hsw6 := hsw
  by_cases hsw : (p0).toInt = 7
  ·
    obtain ⟨fs, hr, hrun, hended, hW, hsame⟩ := X0.leave (v := some (.int (0 : Int32))) (fun h => by rw [Bd.returns] at h; cases h) hlk
    refine ⟨_, _, K1 _ ?_, hrun, hended, _, _, rfl, ?_, ⟨_, rfl⟩, hW, hsame.mono (by decide) (by decide)⟩
    ·
      show Steps p.tables e below (s₁.setTop (mkF m 1 #[.val (.int p0)] [(.int p0)])) _
      refine XS.tswIn X0.here hx rfl (pc0 := 1) (pc' := 62) (o := 61) rfl (hb hby d_prog_117_method_1_code_1) rfl (by rw [hsw]; decide) (by rw [hsw]; decide) (by decide) (by decide) ?_
      show Steps p.tables e below (s₁.setTop (mkF m 62 #[.val (.int p0)] [])) _
      refine XS.iconst X0.here hx rfl (hb hby d_prog_117_method_1_code_62) ?_
      show Steps p.tables e below (s₁.setTop (mkF m 63 #[.val (.int p0)] [(.int (0 : Int32))])) _
      exact retI X0 hx Bd.returns (hb hby d_prog_117_method_1_code_63) hr
    ·
      show Q_rm1 Z p0 h0 n0 _ s₁.heap _
      rw [e0]
      have q : p0 = 7 := Int32.toInt_inj.mp hsw
      refine ⟨?_, N0, rfl⟩
      rw [q]; decide
  have hsw7 := hsw
  by_cases hsw : (p0).toInt = 8
  ·
    obtain ⟨fs, hr, hrun, hended, hW, hsame⟩ := X0.leave (v := some (.int (1 : Int32))) (fun h => by rw [Bd.returns] at h; cases h) hlk
    refine ⟨_, _, K1 _ ?_, hrun, hended, _, _, rfl, ?_, ⟨_, rfl⟩, hW, hsame.mono (by decide) (by decide)⟩
    ·
      show Steps p.tables e below (s₁.setTop (mkF m 1 #[.val (.int p0)] [(.int p0)])) _
      refine XS.tswIn X0.here hx rfl (pc0 := 1) (pc' := 54) (o := 53) rfl (hb hby d_prog_117_method_1_code_1) rfl (by rw [hsw]; decide) (by rw [hsw]; decide) (by decide) (by decide) ?_
      show Steps p.tables e below (s₁.setTop (mkF m 54 #[.val (.int p0)] [])) _
      refine XS.iconst X0.here hx rfl (hb hby d_prog_117_method_1_code_54) ?_
      show Steps p.tables e below (s₁.setTop (mkF m 55 #[.val (.int p0)] [(.int (1 : Int32))])) _
      refine XS.goto X0.here hx rfl (pc0 := 55) (pc' := 63) rfl (hb hby d_prog_117_method_1_code_55) (by decide) (by decide) ?_
      show Steps p.tables e below (s₁.setTop (mkF m 63 #[.val (.int p0)] [(.int (1 : Int32))])) _
      exact retI X0 hx Bd.returns (hb hby d_prog_117_method_1_code_63) hr
    ·
      show Q_rm1 Z p0 h0 n0 _ s₁.heap _
      rw [e0]
      have q : p0 = 8 := Int32.toInt_inj.mp hsw
      refine ⟨?_, N0, rfl⟩
      rw [q]; decide
  have hsw8 := hsw
  by_cases hsw : (p0).toInt = 9
  ·
    obtain ⟨fs, hr, hrun, hended, hW, hsame⟩ := X0.leave (v := some (.int (5 : Int32))) (fun h => by rw [Bd.returns] at h; cases h) hlk
    refine ⟨_, _, K1 _ ?_, hrun, hended, _, _, rfl, ?_, ⟨_, rfl⟩, hW, hsame.mono (by decide) (by decide)⟩
    ·
      show Steps p.tables e below (s₁.setTop (mkF m 1 #[.val (.int p0)] [(.int p0)])) _
      refine XS.tswIn X0.here hx rfl (pc0 := 1) (pc' := 58) (o := 57) rfl (hb hby d_prog_117_method_1_code_1) rfl (by rw [hsw]; decide) (by rw [hsw]; decide) (by decide) (by decide) ?_
      show Steps p.tables e below (s₁.setTop (mkF m 58 #[.val (.int p0)] [])) _
      refine XS.iconst X0.here hx rfl (hb hby d_prog_117_method_1_code_58) ?_
      show Steps p.tables e below (s₁.setTop (mkF m 59 #[.val (.int p0)] [(.int (5 : Int32))])) _
      refine XS.goto X0.here hx rfl (pc0 := 59) (pc' := 63) rfl (hb hby d_prog_117_method_1_code_59) (by decide) (by decide) ?_
      show Steps p.tables e below (s₁.setTop (mkF m 63 #[.val (.int p0)] [(.int (5 : Int32))])) _
      exact retI X0 hx Bd.returns (hb hby d_prog_117_method_1_code_63) hr
    ·
      show Q_rm1 Z p0 h0 n0 _ s₁.heap _
      rw [e0]
      have q : p0 = 9 := Int32.toInt_inj.mp hsw
      refine ⟨?_, N0, rfl⟩
      rw [q]; decide
  have hsw9 := hsw
  replace hsw : (p0).toInt < 3 ∨ (p0).toInt > 9 := by omega
  obtain ⟨fs, hr, hrun, hended, hW, hsame⟩ := X0.leave (v := some (.int (0 : Int32))) (fun h => by rw [Bd.returns] at h; cases h) hlk
  refine ⟨_, _, K1 _ ?_, hrun, hended, _, _, rfl, ?_, ⟨_, rfl⟩, hW, hsame.mono (by decide) (by decide)⟩
  ·
    show Steps p.tables e below (s₁.setTop (mkF m 1 #[.val (.int p0)] [(.int p0)])) _
    refine XS.tswOut X0.here hx rfl (pc0 := 1) (pc' := 62) rfl (hb hby d_prog_117_method_1_code_1) rfl hsw (by decide) (by decide) ?_
    show Steps p.tables e below (s₁.setTop (mkF m 62 #[.val (.int p0)] [])) _
    refine XS.iconst X0.here hx rfl (hb hby d_prog_117_method_1_code_62) ?_
    show Steps p.tables e below (s₁.setTop (mkF m 63 #[.val (.int p0)] [(.int (0 : Int32))])) _
    exact retI X0 hx Bd.returns (hb hby d_prog_117_method_1_code_63) hr
  ·
    show Q_rm1 Z p0 h0 n0 _ s₁.heap _
    rw [e0]
    have q3 : ¬ p0 = 3 := fun e => hsw3 (by rw [e]; rfl)
    have q4 : ¬ p0 = 4 := fun e => hsw4 (by rw [e]; rfl)
    have q8 : ¬ p0 = 8 := fun e => hsw8 (by rw [e]; rfl)
    have q9 : ¬ p0 = 9 := fun e => hsw9 (by rw [e]; rfl)
    refine ⟨?_, N0, rfl⟩
    simp only [own_len, q3, q4, q8, q9, if_false]
theorem d_method_2_code_0 : decode method_2_code 0 = .ok (.iload_n 0, 1) := by decide +kernel
theorem d_method_2_code_1 : decode method_2_code 1 = .ok (.iconst 3, 1) := by decide +kernel
theorem d_method_2_code_2 : decode method_2_code 2 = .ok (.if_icmp .ne 6, 3) := by decide +kernel
theorem d_method_2_code_5 : decode method_2_code 5 = .ok (.bipush 9, 2) := by decide +kernel
theorem d_method_2_code_7 : decode method_2_code 7 = .ok (.ireturn, 1) := by decide +kernel
theorem d_method_2_code_8 : decode method_2_code 8 = .ok (.iload_n 0, 1) := by decide +kernel
theorem d_method_2_code_9 : decode method_2_code 9 = .ok (.iconst 4, 1) := by decide +kernel
theorem d_method_2_code_10 : decode method_2_code 10 = .ok (.if_icmp .ne 6, 3) := by decide +kernel
theorem d_method_2_code_13 : decode method_2_code 13 = .ok (.bipush 9, 2) := by decide +kernel
theorem d_method_2_code_15 : decode method_2_code 15 = .ok (.ireturn, 1) := by decide +kernel
theorem d_method_2_code_16 : decode method_2_code 16 = .ok (.iload_n 0, 1) := by decide +kernel
theorem d_method_2_code_17 : decode method_2_code 17 = .ok (.bipush 8, 2) := by decide +kernel
theorem d_method_2_code_19 : decode method_2_code 19 = .ok (.if_icmp .ne 5, 3) := by decide +kernel
theorem d_method_2_code_22 : decode method_2_code 22 = .ok (.iconst 1, 1) := by decide +kernel
theorem d_method_2_code_23 : decode method_2_code 23 = .ok (.ireturn, 1) := by decide +kernel
theorem d_method_2_code_24 : decode method_2_code 24 = .ok (.iload_n 0, 1) := by decide +kernel
theorem d_method_2_code_25 : decode method_2_code 25 = .ok (.bipush 9, 2) := by decide +kernel
theorem d_method_2_code_27 : decode method_2_code 27 = .ok (.if_icmp .ne 5, 3) := by decide +kernel
theorem d_method_2_code_30 : decode method_2_code 30 = .ok (.iconst 5, 1) := by decide +kernel
theorem d_method_2_code_31 : decode method_2_code 31 = .ok (.ireturn, 1) := by decide +kernel
theorem d_method_2_code_32 : decode method_2_code 32 = .ok (.iconst 0, 1) := by decide +kernel
theorem d_method_2_code_33 : decode method_2_code 33 = .ok (.ireturn, 1) := by decide +kernel
theorem pn_1 : plainName "com/example/exacid/exacid/storage/LogRecordFixedBodyLengthPinLaw" = true := by first | (simp [plainName, overriddenIn]; done) | decide +kernel
theorem ef_rm2 (m : MethodId) (x0 : Int32) : entryFrame m #[(.int x0)] 1 = mkF m 0 #[.val (.int x0)] [] := by first | (simp [entryFrame, mkF, argsToLocals, Value.category]; done) | rfl
def Q_rm2 (Z : State) (p0 : Int32) (h0 : Heap) (n0 : Nat) (v : Option Value) (h : Heap) (L : List Loc) : Prop := v = some (.int (own_len p0)) ∧ Fr n0 L ∧ h = h0
set_option maxRecDepth 65536 in
set_option maxHeartbeats 40000000 in
theorem rm2 (l : Launch) (Z : State) (a0 : Array Value) (hw : ∀ d ∈ tables_1, d.before a0 Z = true) (ws : List Jvm.Cond) (p0 : Int32) (h0 : Heap) (n0 : Nat) (Z0 : n0 ≤ h0.size) :
    MetFree l (⟨"com/example/exacid/exacid/storage/LogRecordFixedBodyLengthPinLaw", "expected", "(B)I"⟩ : MethodName) (head1 (Jvm.Cond.code (⟨"com/example/exacid/exacid/storage/LogRecordFixedBodyLengthPinLaw", "expected", "(B)I"⟩ : MethodName) method_2_code 1 (some .int) :: ws) ({ frames := 0, cells := 0, slots := 0, locals := 0 } : Room)) (fun a U => a = #[(.int p0)] ∧ Z.Warmed39 U.vm ∧ U.heap = h0) (fun _ _ _ _ _ => True) (fun _ U o U' => ∃ v L, o = .returned v ∧ Q_rm2 Z p0 h0 n0 v U'.heap L ∧ FrameEnd U o U' L ({ frames := 0, cells := 0, slots := 0, locals := 0 } : Room).cells ({ frames := 0, cells := 0, slots := 0, locals := 0 } : Room).slots) := by
  refine MetFree.of_bodySF (plainFor_of_name pn_1) hisR ?_
  intro p e s m args below meth c s₁ Bd hml0 hP hK
  obtain ⟨rfl, hZ, hh⟩ := hP
  have hx := Bd.exec
  have hby := Bd.bytes
  have hml : c.maxLocals = 1 := hml0
  have hown : s.vm.findClass "com/example/exacid/exacid/storage/LogRecordFixedBodyLengthPinLaw" = some m.cls := findClass_of_methodNamed Bd.named
  have hnm := (name_of_methodNamed Bd.named Bd.method).1
  have hlk : meth.locks = false := by first | exact BodyLoose.notSynchronized (by assumption) | exact Body.notSynchronized (by assumption) | assumption
  have X0 : Stand p l e ({ frames := 0, cells := 0, slots := 0, locals := 0 } : Room) s m #[(.int p0)] below meth c s₁ [] 0 0 := Stand.of_body Bd
  have e0 : s₁.heap = h0 := by rw [← hh, Bd.state]; rfl
  have N0 := Fr.nil n0
  have Zn := Z0
  have K0 : ∀ t, Steps p.tables e below (s₁.setTop (mkF m 0 #[.val (.int p0)] [])) t → Steps p.tables e below (s₁.setTop (entryFrame m #[(.int p0)] 1)) t := fun t k => castTop (ef_rm2 m p0) k
  have K1 : ∀ t, Steps p.tables e below (s₁.setTop (mkF m 2 #[.val (.int p0)] [(.int (3 : Int32)), (.int p0)])) t → Steps p.tables e below (s₁.setTop (entryFrame m #[(.int p0)] 1)) t := by
    intro t kt
    refine K0 t ?_
    show Steps p.tables e below (s₁.setTop (mkF m 0 #[.val (.int p0)] [])) _
    refine XS.iloadN X0.here hx rfl (hb hby d_method_2_code_0) rfl ?_
    show Steps p.tables e below (s₁.setTop (mkF m 1 #[.val (.int p0)] [(.int p0)])) _
    refine XS.iconst X0.here hx rfl (hb hby d_method_2_code_1) ?_
    exact kt
  by_cases hc2 : p0 = (3 : Int32)
  ·
    obtain ⟨fs, hr, hrun, hended, hW, hsame⟩ := X0.leave (v := some (.int (9 : Int32))) (fun h => by rw [Bd.returns] at h; cases h) hlk
    refine ⟨_, _, K1 _ ?_, hrun, hended, _, _, rfl, ?_, ⟨_, rfl⟩, hW, hsame.mono (by decide) (by decide)⟩
    ·
      show Steps p.tables e below (s₁.setTop (mkF m 2 #[.val (.int p0)] [(.int (3 : Int32)), (.int p0)])) _
      refine XS.icmpNo X0.here hx rfl (hb hby d_method_2_code_2) rfl (teq hc2).2 ?_
      show Steps p.tables e below (s₁.setTop (mkF m 5 #[.val (.int p0)] [])) _
      refine XS.bipush X0.here hx rfl (hb hby d_method_2_code_5) ?_
      show Steps p.tables e below (s₁.setTop (mkF m 7 #[.val (.int p0)] [(.int (9 : Int32))])) _
      exact retI X0 hx Bd.returns (hb hby d_method_2_code_7) hr
    ·
      show Q_rm2 Z p0 h0 n0 _ s₁.heap _
      rw [e0]
      refine ⟨?_, N0, rfl⟩
      simp [own_len, hc2]
  ·
    have K2 : ∀ t, Steps p.tables e below (s₁.setTop (mkF m 10 #[.val (.int p0)] [(.int (4 : Int32)), (.int p0)])) t → Steps p.tables e below (s₁.setTop (entryFrame m #[(.int p0)] 1)) t := by
      intro t kt
      refine K1 t ?_
      show Steps p.tables e below (s₁.setTop (mkF m 2 #[.val (.int p0)] [(.int (3 : Int32)), (.int p0)])) _
      refine XS.icmpYes X0.here hx rfl (pc0 := 2) (pc' := 8) rfl (hb hby d_method_2_code_2) rfl (feq hc2).2 (by decide) (by decide) ?_
      show Steps p.tables e below (s₁.setTop (mkF m 8 #[.val (.int p0)] [])) _
      refine XS.iloadN X0.here hx rfl (hb hby d_method_2_code_8) rfl ?_
      show Steps p.tables e below (s₁.setTop (mkF m 9 #[.val (.int p0)] [(.int p0)])) _
      refine XS.iconst X0.here hx rfl (hb hby d_method_2_code_9) ?_
      exact kt
    by_cases hc10 : p0 = (4 : Int32)
    ·
      obtain ⟨fs, hr, hrun, hended, hW, hsame⟩ := X0.leave (v := some (.int (9 : Int32))) (fun h => by rw [Bd.returns] at h; cases h) hlk
      refine ⟨_, _, K2 _ ?_, hrun, hended, _, _, rfl, ?_, ⟨_, rfl⟩, hW, hsame.mono (by decide) (by decide)⟩
      ·
        show Steps p.tables e below (s₁.setTop (mkF m 10 #[.val (.int p0)] [(.int (4 : Int32)), (.int p0)])) _
        refine XS.icmpNo X0.here hx rfl (hb hby d_method_2_code_10) rfl (teq hc10).2 ?_
        show Steps p.tables e below (s₁.setTop (mkF m 13 #[.val (.int p0)] [])) _
        refine XS.bipush X0.here hx rfl (hb hby d_method_2_code_13) ?_
        show Steps p.tables e below (s₁.setTop (mkF m 15 #[.val (.int p0)] [(.int (9 : Int32))])) _
        exact retI X0 hx Bd.returns (hb hby d_method_2_code_15) hr
      ·
        show Q_rm2 Z p0 h0 n0 _ s₁.heap _
        rw [e0]
        refine ⟨?_, N0, rfl⟩
        simp [own_len, hc2, hc10]
    ·
      have K3 : ∀ t, Steps p.tables e below (s₁.setTop (mkF m 19 #[.val (.int p0)] [(.int (8 : Int32)), (.int p0)])) t → Steps p.tables e below (s₁.setTop (entryFrame m #[(.int p0)] 1)) t := by
        intro t kt
        refine K2 t ?_
        show Steps p.tables e below (s₁.setTop (mkF m 10 #[.val (.int p0)] [(.int (4 : Int32)), (.int p0)])) _
        refine XS.icmpYes X0.here hx rfl (pc0 := 10) (pc' := 16) rfl (hb hby d_method_2_code_10) rfl (feq hc10).2 (by decide) (by decide) ?_
        show Steps p.tables e below (s₁.setTop (mkF m 16 #[.val (.int p0)] [])) _
        refine XS.iloadN X0.here hx rfl (hb hby d_method_2_code_16) rfl ?_
        show Steps p.tables e below (s₁.setTop (mkF m 17 #[.val (.int p0)] [(.int p0)])) _
        refine XS.bipush X0.here hx rfl (hb hby d_method_2_code_17) ?_
        exact kt
      by_cases hc19 : p0 = (8 : Int32)
      ·
        obtain ⟨fs, hr, hrun, hended, hW, hsame⟩ := X0.leave (v := some (.int (1 : Int32))) (fun h => by rw [Bd.returns] at h; cases h) hlk
        refine ⟨_, _, K3 _ ?_, hrun, hended, _, _, rfl, ?_, ⟨_, rfl⟩, hW, hsame.mono (by decide) (by decide)⟩
        ·
          show Steps p.tables e below (s₁.setTop (mkF m 19 #[.val (.int p0)] [(.int (8 : Int32)), (.int p0)])) _
          refine XS.icmpNo X0.here hx rfl (hb hby d_method_2_code_19) rfl (teq hc19).2 ?_
          show Steps p.tables e below (s₁.setTop (mkF m 22 #[.val (.int p0)] [])) _
          refine XS.iconst X0.here hx rfl (hb hby d_method_2_code_22) ?_
          show Steps p.tables e below (s₁.setTop (mkF m 23 #[.val (.int p0)] [(.int (1 : Int32))])) _
          exact retI X0 hx Bd.returns (hb hby d_method_2_code_23) hr
        ·
          show Q_rm2 Z p0 h0 n0 _ s₁.heap _
          rw [e0]
          refine ⟨?_, N0, rfl⟩
          simp [own_len, hc2, hc10, hc19]
      ·
        have K4 : ∀ t, Steps p.tables e below (s₁.setTop (mkF m 27 #[.val (.int p0)] [(.int (9 : Int32)), (.int p0)])) t → Steps p.tables e below (s₁.setTop (entryFrame m #[(.int p0)] 1)) t := by
          intro t kt
          refine K3 t ?_
          show Steps p.tables e below (s₁.setTop (mkF m 19 #[.val (.int p0)] [(.int (8 : Int32)), (.int p0)])) _
          refine XS.icmpYes X0.here hx rfl (pc0 := 19) (pc' := 24) rfl (hb hby d_method_2_code_19) rfl (feq hc19).2 (by decide) (by decide) ?_
          show Steps p.tables e below (s₁.setTop (mkF m 24 #[.val (.int p0)] [])) _
          refine XS.iloadN X0.here hx rfl (hb hby d_method_2_code_24) rfl ?_
          show Steps p.tables e below (s₁.setTop (mkF m 25 #[.val (.int p0)] [(.int p0)])) _
          refine XS.bipush X0.here hx rfl (hb hby d_method_2_code_25) ?_
          exact kt
        by_cases hc27 : p0 = (9 : Int32)
        ·
          obtain ⟨fs, hr, hrun, hended, hW, hsame⟩ := X0.leave (v := some (.int (5 : Int32))) (fun h => by rw [Bd.returns] at h; cases h) hlk
          refine ⟨_, _, K4 _ ?_, hrun, hended, _, _, rfl, ?_, ⟨_, rfl⟩, hW, hsame.mono (by decide) (by decide)⟩
          ·
            show Steps p.tables e below (s₁.setTop (mkF m 27 #[.val (.int p0)] [(.int (9 : Int32)), (.int p0)])) _
            refine XS.icmpNo X0.here hx rfl (hb hby d_method_2_code_27) rfl (teq hc27).2 ?_
            show Steps p.tables e below (s₁.setTop (mkF m 30 #[.val (.int p0)] [])) _
            refine XS.iconst X0.here hx rfl (hb hby d_method_2_code_30) ?_
            show Steps p.tables e below (s₁.setTop (mkF m 31 #[.val (.int p0)] [(.int (5 : Int32))])) _
            exact retI X0 hx Bd.returns (hb hby d_method_2_code_31) hr
          ·
            show Q_rm2 Z p0 h0 n0 _ s₁.heap _
            rw [e0]
            refine ⟨?_, N0, rfl⟩
            simp [own_len, hc2, hc10, hc19, hc27]
        ·
          obtain ⟨fs, hr, hrun, hended, hW, hsame⟩ := X0.leave (v := some (.int (0 : Int32))) (fun h => by rw [Bd.returns] at h; cases h) hlk
          refine ⟨_, _, K4 _ ?_, hrun, hended, _, _, rfl, ?_, ⟨_, rfl⟩, hW, hsame.mono (by decide) (by decide)⟩
          ·
            show Steps p.tables e below (s₁.setTop (mkF m 27 #[.val (.int p0)] [(.int (9 : Int32)), (.int p0)])) _
            refine XS.icmpYes X0.here hx rfl (pc0 := 27) (pc' := 32) rfl (hb hby d_method_2_code_27) rfl (feq hc27).2 (by decide) (by decide) ?_
            show Steps p.tables e below (s₁.setTop (mkF m 32 #[.val (.int p0)] [])) _
            refine XS.iconst X0.here hx rfl (hb hby d_method_2_code_32) ?_
            show Steps p.tables e below (s₁.setTop (mkF m 33 #[.val (.int p0)] [(.int (0 : Int32))])) _
            exact retI X0 hx Bd.returns (hb hby d_method_2_code_33) hr
          ·
            show Q_rm2 Z p0 h0 n0 _ s₁.heap _
            rw [e0]
            refine ⟨?_, N0, rfl⟩
            simp [own_len, hc2, hc10, hc19, hc27]
theorem pd_2 : parseMethodDescriptor "(B)I" = some ⟨[.byte], some .int⟩ := by decide +kernel
theorem ef_rm0 (m : MethodId) (x0 : Int32) : entryFrame m #[(.int x0)] maxLocals = mkF m 0 #[.val (.int x0), .unset, .unset] [] := by first | (simp [entryFrame, mkF, argsToLocals, Value.category, maxLocals]; done) | rfl
def Q_rm0 (Z : State) (p0 : Int32) (h0 : Heap) (n0 : Nat) (v : Option Value) (h : Heap) (L : List Loc) : Prop := v = some (.int 1) ∧ Fr n0 L
set_option maxRecDepth 65536 in
set_option maxHeartbeats 40000000 in
theorem rm0 (l : Launch) (Z : State) (a0 : Array Value) (hw : ∀ d ∈ tables_1, d.before a0 Z = true) (ws : List Jvm.Cond) (p0 : Int32) (h0 : Heap) (n0 : Nat) (Z0 : n0 ≤ h0.size) :
    MetFree l x (head1 (Jvm.Cond.code x code maxLocals ret :: ws) room_1) (fun a U => a = #[(.int p0)] ∧ Z.Warmed39 U.vm ∧ U.heap = h0) (fun _ _ _ _ _ => True) (fun _ U o U' => ∃ v L, o = .returned v ∧ Q_rm0 Z p0 h0 n0 v U'.heap L ∧ FrameEnd U o U' L room_1.cells room_1.slots) := by
  refine MetFree.of_bodySF (plainFor_of_name pn_1) hisR ?_
  intro p e s m args below meth c s₁ Bd hml0 hP hK
  obtain ⟨rfl, hZ, hh⟩ := hP
  have hx := Bd.exec
  have hby := Bd.bytes
  have hml : c.maxLocals = 3 := hml0
  have hown : s.vm.findClass "com/example/exacid/exacid/storage/LogRecordFixedBodyLengthPinLaw" = some m.cls := findClass_of_methodNamed Bd.named
  have hnm := (name_of_methodNamed Bd.named Bd.method).1
  have hlk : meth.locks = false := by first | exact BodyLoose.notSynchronized (by assumption) | exact Body.notSynchronized (by assumption) | assumption
  have X0 : Stand p l e room_1 s m #[(.int p0)] below meth c s₁ [] 0 0 := Stand.of_body Bd
  have e0 : s₁.heap = h0 := by rw [← hh, Bd.state]; rfl
  have N0 := Fr.nil n0
  have Zn := Z0
  have K0 : ∀ t, Steps p.tables e below (s₁.setTop (mkF m 0 #[.val (.int p0), .unset, .unset] [])) t → Steps p.tables e below (s₁.setTop (entryFrame m #[(.int p0)] maxLocals)) t := fun t k => castTop (ef_rm0 m p0) k
  obtain ⟨_, _, ⟨T1, L1, k1, n1⟩, -, X1, ⟨Lc1, hQ1, l1, y1, z1⟩, st1⟩ := Jvm.LawKit.callS X0 hx (y := (⟨"com/example/exacid/exacid/storage/LogRecord", "fixedBodyLength", "(B)I"⟩ : MethodName)) hown (mvT hZ (hw _ (List.mem_of_getElem? (i := 0) rfl))) (mvT hZ (hw _ (List.mem_of_getElem? (i := 1) rfl))) (mvT hZ (hw _ (List.mem_of_getElem? (i := 2) rfl))) (mvT hZ (hw _ (List.mem_of_getElem? (i := 3) rfl))) (by decide) (backOf (W := 0) (rm1 l Z a0 hw [] (p0.toInt8.toInt32)  h0 n0 Zn ) hZ (hw _ (List.mem_of_getElem? (i := 3) rfl)) (hw _ (List.mem_of_getElem? (i := 2) rfl)) (by decide) (by decide)) (g := (mkF m 4 #[.val (.int p0), .val (.int (p0.toInt8.toInt32)), .unset] [(.int (p0.toInt8.toInt32))])) rfl (by rw [hml]; rfl) (argsL := [(.int (p0.toInt8.toInt32))]) (rest := []) (lenOf pd_2 rfl) rfl (by show 2 * 0 + _ ≤ _; exact Nat.le_of_eq rfl) (hb hby at_4) (fun _ _ => ⟨rfl, e0, (by decide : 0 + 0 ≤ _), (by decide : 0 + 0 ≤ _)⟩)
  dsimp only [Pt.U, Pt.locs, Pt.cells, Pt.slots] at X1 l1 y1 z1 st1 hQ1
  subst l1 y1 z1
  obtain ⟨rfl, N1q, e1q⟩ := hQ1
  have N1 := Fr.app N0 N1q
  have e1 : T1.heap = h0 := e1q
  obtain ⟨_, _, ⟨T2, L2, k2, n2⟩, -, X2, ⟨Lc2, hQ2, l2, y2, z2⟩, st2⟩ := Jvm.LawKit.callS X1 hx (y := (⟨"com/example/exacid/exacid/storage/LogRecordFixedBodyLengthPinLaw", "expected", "(B)I"⟩ : MethodName)) hown (mvT hZ (hw _ (List.mem_of_getElem? (i := 4) rfl))) (mvT hZ (hw _ (List.mem_of_getElem? (i := 5) rfl))) (mvT hZ (hw _ (List.mem_of_getElem? (i := 6) rfl))) (mvT hZ (hw _ (List.mem_of_getElem? (i := 7) rfl))) (by decide) (backOf (W := 1) (rm2 l Z a0 hw [] (p0.toInt8.toInt32)  h0 n0 Zn ) hZ (hw _ (List.mem_of_getElem? (i := 7) rfl)) (hw _ (List.mem_of_getElem? (i := 6) rfl)) (by decide) (by decide)) (g := (mkF m 10 #[.val (.int p0), .val (.int (p0.toInt8.toInt32)), .val (.int (own_len (p0.toInt8.toInt32)))] [(.int (p0.toInt8.toInt32)), (.int (own_len (p0.toInt8.toInt32)))])) rfl (by rw [hml]; rfl) (argsL := [(.int (p0.toInt8.toInt32))]) (rest := [(.int (own_len (p0.toInt8.toInt32)))]) (lenOf pd_2 rfl) rfl (by show 2 * 0 + _ ≤ _; exact Nat.le_of_eq rfl) (hb hby at_10) (fun _ _ => ⟨rfl, e1, (by decide : 0 + 0 ≤ _), (by decide : 0 + 0 ≤ _)⟩)
  dsimp only [Pt.U, Pt.locs, Pt.cells, Pt.slots] at X2 l2 y2 z2 st2 hQ2
  subst l2 y2 z2
  obtain ⟨rfl, N2q, e2q⟩ := hQ2
  have N2 := Fr.app N1 N2q
  have e2 : T2.heap = h0 := e2q
  obtain ⟨fs, hr, hrun, hended, hW, hsame⟩ := X2.leave (v := some (.int (1 : Int32))) (fun h => by rw [Bd.returns] at h; cases h) hlk
  refine ⟨_, _, K0 _ ?_, hrun, hended, _, _, rfl, ?_, ⟨_, rfl⟩, hW, hsame.mono (by decide) (by decide)⟩
  ·
    show Steps p.tables e below (s₁.setTop (mkF m 0 #[.val (.int p0), .unset, .unset] [])) _
    refine XS.iloadN X0.here hx rfl (hb hby at_0) rfl ?_
    show Steps p.tables e below (s₁.setTop (mkF m 1 #[.val (.int p0), .unset, .unset] [(.int p0)])) _
    refine XS.i2b X0.here hx rfl (hb hby at_1) rfl ?_
    show Steps p.tables e below (s₁.setTop (mkF m 2 #[.val (.int p0), .unset, .unset] [(.int (p0.toInt8.toInt32))])) _
    refine XS.istoreN X0.here hx rfl (hb hby at_2) rfl (l' := #[.val (.int p0), .val (.int (p0.toInt8.toInt32)), .unset]) rfl ?_
    show Steps p.tables e below (s₁.setTop (mkF m 3 #[.val (.int p0), .val (.int (p0.toInt8.toInt32)), .unset] [])) _
    refine XS.iloadN X0.here hx rfl (hb hby at_3) rfl ?_
    show Steps p.tables e below (s₁.setTop (mkF m 4 #[.val (.int p0), .val (.int (p0.toInt8.toInt32)), .unset] [(.int (p0.toInt8.toInt32))])) _
    refine st1 _ ?_
    show Steps p.tables e below (T1.setTop (mkF m 7 #[.val (.int p0), .val (.int (p0.toInt8.toInt32)), .unset] [(.int (own_len (p0.toInt8.toInt32)))])) _
    refine XS.istoreN X1.here hx rfl (hb hby at_7) rfl (l' := #[.val (.int p0), .val (.int (p0.toInt8.toInt32)), .val (.int (own_len (p0.toInt8.toInt32)))]) rfl ?_
    show Steps p.tables e below (T1.setTop (mkF m 8 #[.val (.int p0), .val (.int (p0.toInt8.toInt32)), .val (.int (own_len (p0.toInt8.toInt32)))] [])) _
    refine XS.iloadN X1.here hx rfl (hb hby at_8) rfl ?_
    show Steps p.tables e below (T1.setTop (mkF m 9 #[.val (.int p0), .val (.int (p0.toInt8.toInt32)), .val (.int (own_len (p0.toInt8.toInt32)))] [(.int (own_len (p0.toInt8.toInt32)))])) _
    refine XS.iloadN X1.here hx rfl (hb hby at_9) rfl ?_
    show Steps p.tables e below (T1.setTop (mkF m 10 #[.val (.int p0), .val (.int (p0.toInt8.toInt32)), .val (.int (own_len (p0.toInt8.toInt32)))] [(.int (p0.toInt8.toInt32)), (.int (own_len (p0.toInt8.toInt32)))])) _
    refine st2 _ ?_
    show Steps p.tables e below (T2.setTop (mkF m 13 #[.val (.int p0), .val (.int (p0.toInt8.toInt32)), .val (.int (own_len (p0.toInt8.toInt32)))] [(.int (own_len (p0.toInt8.toInt32))), (.int (own_len (p0.toInt8.toInt32)))])) _
    refine XS.icmpNo X2.here hx rfl (hb hby at_13) rfl (teq (rfl : (own_len (p0.toInt8.toInt32)) = (own_len (p0.toInt8.toInt32)))).2 ?_
    show Steps p.tables e below (T2.setTop (mkF m 16 #[.val (.int p0), .val (.int (p0.toInt8.toInt32)), .val (.int (own_len (p0.toInt8.toInt32)))] [])) _
    refine XS.iconst X2.here hx rfl (hb hby at_16) ?_
    show Steps p.tables e below (T2.setTop (mkF m 17 #[.val (.int p0), .val (.int (p0.toInt8.toInt32)), .val (.int (own_len (p0.toInt8.toInt32)))] [(.int (1 : Int32))])) _
    refine XS.goto X2.here hx rfl (pc0 := 17) (pc' := 21) rfl (hb hby at_17) (by decide) (by decide) ?_
    show Steps p.tables e below (T2.setTop (mkF m 21 #[.val (.int p0), .val (.int (p0.toInt8.toInt32)), .val (.int (own_len (p0.toInt8.toInt32)))] [(.int (1 : Int32))])) _
    exact retN X2 hx (t := .boolean) Bd.returns (by simp) (hb hby at_21) hr
  ·
    show Q_rm0 Z p0 h0 n0 _ T2.heap _
    rw [e2]
    exact ⟨rfl, N2⟩
set_option maxRecDepth 65536 in
set_option maxHeartbeats 40000000 in
theorem comes_1 {Post : Tables → Env → Array Value → State → Outcome → State → Prop} (hpost : ∀ tb e args s v u, (limb_1_1.after args s (.returned v) u = true ∧ limb_1_2.after args s (.returned v) u = true ∧ True) → FrameEnd s (.returned v) u (Jvm.fieldLocs frame_1_writes args s ++ Jvm.arrayLocs frame_1_arrays args s ++ Jvm.staticLocs frame_1_statics s) 0 0 → Post tb e args s (.returned v) u) :
    ArmFor flags0 classFile x code maxLocals ret World_1 tables_1 room_1 Calls_1 rest_1 Pre_1 Post := by
  intro l hfl _ _ p e ha hc hk s m args below hf hA hF happ hP
  obtain ⟨hcalls, hrest, hpre⟩ := hP
  obtain ⟨-, -, -, hnamed, -, -, -, hat⟩ := (Spec.applies_iff hf).mp happ
  obtain ⟨hg, hn⟩ := and_e (Cond.before_iff.mp (show (Jvm.Cond.and given_1 narrow_1).before args s = true from hpre))
  obtain ⟨hg0, hg⟩ := and_e hg
  have ga0 := hg
  obtain ⟨w0, rfl⟩ : ∃ w0 : Value, args = #[w0] := by
    have hs : args.size = 1 := by simpa [Cond.value, given_1] using hg0
    obtain ⟨L⟩ := args
    match L, hs with
    | [w0], _ => exact ⟨w0, rfl⟩
  have hw := fun d (hd : d ∈ tables_1) => atoms_spec (ws := Jvm.Cond.code x code maxLocals ret :: tables_1) hat d (List.mem_cons_of_mem _ hd)
  have hfit : Fit s := fun {y c} hc i hi => by
    obtain ⟨ha, rfl⟩ := Array.getElem?_eq_some_iff.mp hc
    have q := List.all_eq_true.mp ((Array.all_eq_true_iff_forall_mem.mp hF) _ (Array.getElem_mem ha)) i (List.mem_range.mpr hi)
    simpa [Array.getElem?_eq_getElem hi] using q
  obtain ⟨i0, ei0⟩ := is_v ga0
  obtain rfl : w0 = (.int i0) := Option.some.inj ei0
  obtain ⟨n, o, h1, h2, h3, _, L, rfl, ⟨rfl, N⟩, hq⟩ := rm0 l s _ hw tables_1 i0  s.heap s.heap.size (Nat.le_refl _)  p e ha hc hk s m _ below hf ((Spec.applies_iff_loose hf).mp happ).1 ⟨rfl, State.Warmed39.refl s, rfl⟩ trivial
  refine ⟨n, _, h1, h2, h3, hpost _ _ _ _ _ _ ⟨Cond.after_iff.mpr rfl, Cond.after_iff.mpr (eq_i res_at (Term.int_eval (1)) rfl), trivial⟩ ⟨hq.1, hq.2.1, (hq.2.2.sift fun y hy => Or.inr (N y hy)).mono (by decide) (by decide)⟩⟩
theorem main_1_1 : Claimed_1_1 := comes_1 fun _ _ _ _ _ _ h hF => ⟨h.1, hF⟩
theorem main_1_2 : Claimed_1_2 := comes_1 fun _ _ _ _ _ _ h hF => ⟨h.2.1, hF⟩
end Jvm.Pilot.@@N@@
namespace Jvm.Pilot.@@N@@
open Jvm Jvm.ClassFile Sem Op Lib Jvm.Free Jvm.Stand Jvm.Pilot.@@N@@.Jvm.D
/-! MADE BY PROGRAM (witnessworld.py) out of the Statement's table words and the real class files: 9 classes; the members and pool entries that the words name. The judged class is class 1, her method 2. -/
namespace start1
open Jvm.ClassFile
def u (s : String) : CpInfo := .utf8 (stringToUtf16 s)
/-- a pool by its gaps: so many unusable entries, then the entry; so many at the end -/
def gap : Nat → List CpInfo → List CpInfo
  | 0, r => r
  | n + 1, r => .unusable :: gap n r
def poolList (es : List (Nat × CpInfo)) (last : Nat) : List CpInfo := es.foldr (fun e r => gap e.1 (e.2 :: r)) (gap last [])
def pool (es : List (Nat × CpInfo)) (last : Nat) : Array CpInfo := ⟨poolList es last⟩
def fileOf (pool : Array CpInfo) (this : Nat) (attrs : Array Attribute := #[]) (ms : Array MethodInfo := #[]) (fl : Nat := 33) (sup : Nat := 0) (ifs : Array Nat := #[]) (fds : Array FieldInfo := #[]) : ClassFile where
  minorVersion := 0
  majorVersion := 65
  constantPool := pool
  accessFlags := fl
  thisClass := this
  superClass := sup
  interfaces := ifs
  fields := fds
  methods := ms
  attributes := attrs
def plain (name : String) (sup : Option ClassId) : Class where
  name := name
  kind := .ordinary
  loader := none
  accessFlags := 33
  super := sup
  interfaces := #[]
  cf := none
  fields := #[]
  methods := #[]
  instanceTypes := #[]
  staticTypes := #[]
  resolved := #[]
  callSites := []
  init := .initialized
  statics := none
  mirror := none

def pool0 : Array CpInfo := pool [(5, u "<init>"), (0, u "()V"), (1, .class_ 10), (1, u "java/lang/Object")] 113

def k0m0 : Method := { name := "<init>", desc := "()V", sig := { parameters := [], returnType := none }, accessFlags := 1, code := none }
/-- java/lang/Object -/
def k0 : Class := { plain "java/lang/Object" none with
  accessFlags := 33
  interfaces := #[]
  cf := some (fileOf pool0 8 #[] #[{ accessFlags := 1, nameIndex := 5, descriptorIndex := 6, attributes := #[] }] 33 0 #[] #[])
  fields := #[]
  methods := #[k0m0]
  instanceTypes := #[]
  staticTypes := #[]
  resolved := Array.replicate 124 none
  statics := none }

def pool1 : Array CpInfo := pool [(2, .class_ 4), (1, u "java/lang/Object"), (0, u "<init>"), (0, u "()V"), (0, .interfaceMethodref 8 9), (0, .class_ 10), (0, .nameAndType 11 12), (0, u "com/example/exacid/exacid/storage/LogRecord"), (0, u "fixedBodyLength"), (0, u "(B)I"), (0, .methodref 14 15), (0, .class_ 16), (0, .nameAndType 17 12), (0, u "com/example/exacid/exacid/storage/LogRecordFixedBodyLengthPinLaw"), (0, u "expected"), (3, u "law"), (0, u "(I)Z")] 2

def k1m0 : Method := { name := "<init>", desc := "()V", sig := { parameters := [], returnType := none }, accessFlags := 2, code := none }
def k1c1 : Code := { maxStack := 2, maxLocals := 1, code := method_2_code, exceptionTable := #[], attributes := #[] }
def k1m1 : Method := { name := "expected", desc := "(B)I", sig := { parameters := [.byte], returnType := some .int }, accessFlags := 10, code := some k1c1 }
def k1c2 : Code := { maxStack := 2, maxLocals := 3, code := code, exceptionTable := #[], attributes := #[] }
def k1m2 : Method := { name := "law", desc := "(I)Z", sig := { parameters := [.int], returnType := some .boolean }, accessFlags := 9, code := some k1c2 }
/-- com/example/exacid/exacid/storage/LogRecordFixedBodyLengthPinLaw -/
def k1 : Class := { plain "com/example/exacid/exacid/storage/LogRecordFixedBodyLengthPinLaw" (some 0) with
  accessFlags := 49
  interfaces := #[]
  cf := some (fileOf pool1 14 #[] #[{ accessFlags := 2, nameIndex := 5, descriptorIndex := 6, attributes := #[] }, { accessFlags := 10, nameIndex := 17, descriptorIndex := 12, attributes := #[] }, { accessFlags := 9, nameIndex := 21, descriptorIndex := 22, attributes := #[] }] 49 2 #[] #[])
  fields := #[]
  methods := #[k1m0, k1m1, k1m2]
  instanceTypes := #[]
  staticTypes := #[]
  resolved := Array.replicate 25 none
  statics := none }

def pool2 : Array CpInfo := pool [(3, .class_ 4), (0, u "com/example/exacid/exacid/storage/LogRecord$Commit"), (0, .class_ 6), (0, u "com/example/exacid/exacid/storage/LogRecord$Checkpoint"), (0, .class_ 8), (0, u "com/example/exacid/exacid/storage/LogRecord$FileEnd"), (0, .class_ 10), (0, u "com/example/exacid/exacid/storage/LogRecord$RemoveTree"), (1, .class_ 14), (1, u "com/example/exacid/exacid/storage/LogRecord"), (28, .class_ 44), (0, u "com/example/exacid/exacid/storage/LogRecord$Piece"), (66, .class_ 112), (0, u "com/example/exacid/exacid/storage/LogRecord$CreateTree"), (23, .class_ 137), (0, u "com/example/exacid/exacid/storage/LogRecord$Put"), (15, .class_ 154), (0, u "com/example/exacid/exacid/storage/LogRecord$Delete"), (3, .class_ 159), (0, u "com/example/exacid/exacid/storage/LogRecord$DeletePrefix"), (16, .class_ 177), (0, u "java/lang/Object"), (0, u "MAX_BODY_LENGTH"), (0, u "I"), (2, u "CREATE_TREE"), (0, u "B"), (1, u "PUT"), (1, u "COMMIT"), (1, u "CHECKPOINT"), (1, u "DELETE"), (1, u "DELETE_PREFIX"), (1, u "PIECE"), (1, u "FILE_END"), (1, u "REMOVE_TREE"), (1, u "LAST_PIECE"), (1, u "fixedBodyLength"), (0, u "(B)I"), (13, .class_ 219), (0, u "com/example/exacid/exacid/storage/LogRecord$Joiner"), (0, .class_ 221), (0, u "com/example/exacid/exacid/storage/LogRecord$Change"), (0, .class_ 223), (0, u "com/example/exacid/exacid/storage/LogRecord$Source"), (0, .class_ 225), (0, u "com/example/exacid/exacid/storage/LogRecord$Sink")] 33

def k2c0 : Code := { maxStack := 1, maxLocals := 1, code := prog_117_method_1_code, exceptionTable := #[], attributes := #[] }
def k2m0 : Method := { name := "fixedBodyLength", desc := "(B)I", sig := { parameters := [.byte], returnType := some .int }, accessFlags := 9, code := some k2c0 }
/-- com/example/exacid/exacid/storage/LogRecord -/
def k2 : Class := { plain "com/example/exacid/exacid/storage/LogRecord" (some 0) with
  accessFlags := 1536
  interfaces := #[]
  cf := some (fileOf pool2 12 #[.nestMembers #[218, 5, 3, 7, 43, 9, 158, 153, 136, 220, 111, 222, 224]] #[{ accessFlags := 9, nameIndex := 203, descriptorIndex := 204, attributes := #[] }] 1536 176 #[] #[{ accessFlags := 25, nameIndex := 178, descriptorIndex := 179, attributes := #[] }, { accessFlags := 25, nameIndex := 182, descriptorIndex := 183, attributes := #[] }, { accessFlags := 25, nameIndex := 185, descriptorIndex := 183, attributes := #[] }, { accessFlags := 25, nameIndex := 187, descriptorIndex := 183, attributes := #[] }, { accessFlags := 25, nameIndex := 189, descriptorIndex := 183, attributes := #[] }, { accessFlags := 25, nameIndex := 191, descriptorIndex := 183, attributes := #[] }, { accessFlags := 25, nameIndex := 193, descriptorIndex := 183, attributes := #[] }, { accessFlags := 25, nameIndex := 195, descriptorIndex := 183, attributes := #[] }, { accessFlags := 25, nameIndex := 197, descriptorIndex := 183, attributes := #[] }, { accessFlags := 25, nameIndex := 199, descriptorIndex := 183, attributes := #[] }, { accessFlags := 25, nameIndex := 201, descriptorIndex := 183, attributes := #[] }])
  fields := #[{ name := "MAX_BODY_LENGTH", type := .int, accessFlags := 25, slot := 0, constantValue := 0 }, { name := "CREATE_TREE", type := .byte, accessFlags := 25, slot := 1, constantValue := 0 }, { name := "PUT", type := .byte, accessFlags := 25, slot := 2, constantValue := 0 }, { name := "COMMIT", type := .byte, accessFlags := 25, slot := 3, constantValue := 0 }, { name := "CHECKPOINT", type := .byte, accessFlags := 25, slot := 4, constantValue := 0 }, { name := "DELETE", type := .byte, accessFlags := 25, slot := 5, constantValue := 0 }, { name := "DELETE_PREFIX", type := .byte, accessFlags := 25, slot := 6, constantValue := 0 }, { name := "PIECE", type := .byte, accessFlags := 25, slot := 7, constantValue := 0 }, { name := "FILE_END", type := .byte, accessFlags := 25, slot := 8, constantValue := 0 }, { name := "REMOVE_TREE", type := .byte, accessFlags := 25, slot := 9, constantValue := 0 }, { name := "LAST_PIECE", type := .byte, accessFlags := 25, slot := 10, constantValue := 0 }]
  methods := #[k2m0]
  instanceTypes := #[]
  staticTypes := #[.int, .byte, .byte, .byte, .byte, .byte, .byte, .byte, .byte, .byte, .byte]
  resolved := Array.replicate 259 none
  statics := none }

def pool3 : Array CpInfo := pool [(1, u "java/lang/Cloneable"), (0, .class_ 1), (0, u "java/lang/Object"), (0, .class_ 3)] 3

/-- java/lang/Cloneable -/
def k3 : Class := { plain "java/lang/Cloneable" (some 0) with
  accessFlags := 1537
  interfaces := #[]
  cf := some (fileOf pool3 2 #[] #[] 1537 4 #[] #[])
  fields := #[]
  methods := #[]
  instanceTypes := #[]
  staticTypes := #[]
  resolved := Array.replicate 8 none
  statics := none }

def pool4 : Array CpInfo := pool [(1, u "java/io/Serializable"), (0, .class_ 1), (0, u "java/lang/Object"), (0, .class_ 3)] 3

/-- java/io/Serializable -/
def k4 : Class := { plain "java/io/Serializable" (some 0) with
  accessFlags := 1537
  interfaces := #[]
  cf := some (fileOf pool4 2 #[] #[] 1537 4 #[] #[])
  fields := #[]
  methods := #[]
  instanceTypes := #[]
  staticTypes := #[]
  resolved := Array.replicate 8 none
  statics := none }

/-- the primitive byte -/
def k5 : Class := { plain "byte" none with kind := .primitive 'B', accessFlags := 0x411 }
/-- [B -/
def k6 : Class := { plain "[B" (some 0) with kind := .array 5 .byte, interfaces := #[3, 4], accessFlags := 1041 }

/-- the primitive int -/
def k7 : Class := { plain "int" none with kind := .primitive 'I', accessFlags := 0x411 }
/-- [I -/
def k8 : Class := { plain "[I" (some 0) with kind := .array 7 .int, interfaces := #[3, 4], accessFlags := 1041 }

def heap : Heap := #[]
def classes : Array Class := #[k0, k1, k2, k3, k4, k5, k6, k7, k8]
def interned : List (Array UInt16 × Addr) := []
def slotsUsed : Nat := 0
def theMethod : MethodId := ⟨1, 2⟩
def args0 : Array Value := #[.int 5]
def aboutOver (below : List Frame) : State where
  vm := { classes := classes, interned := interned.toArray }
  heap := heap
  slotsUsed := slotsUsed
  threads := #[{ frames := .invoking theMethod args0 :: below }]
def below0 : List Frame := [.native { method := ⟨0, 0⟩, args := #[] }]
def about1 : State := aboutOver below0
def p0 : Program := .bare "" "" ""
def e0 : Env := launch0.env 0 0 0
theorem w_frames : about1.frames = Frame.invoking theMethod args0 :: below0 := rfl
set_option maxRecDepth 65536 in
theorem w_args : argsFit about1.vm theMethod args0 = true := by decide +kernel
set_option maxRecDepth 65536 in
theorem w_heap : heapFits about1 = true := by decide +kernel
set_option maxRecDepth 65536 in
theorem w_runnable : about1.curStatus? = some .runnable := by decide +kernel
set_option maxRecDepth 65536 in
theorem w_alone : about1.alone = true := by decide +kernel
set_option maxRecDepth 65536 in
theorem w_named : about1.methodNamed? x = some theMethod := by decide +kernel
set_option maxRecDepth 65536 in
theorem w_hears : about1.hears theMethod below0 = true := by decide +kernel
set_option maxRecDepth 65536 in
theorem w_ripe : about1.ripe theMethod args0 below0 = true := by decide +kernel
theorem w_running : about1.status = .running := rfl
set_option maxRecDepth 65536 in
theorem w_room : about1.hasRoom e0.platform room_1 = true :=
  launch0.hasRoom_least _ room_1 (by decide +kernel) (by decide +kernel) (by decide +kernel) (by decide +kernel) (by decide +kernel) (by decide +kernel)
theorem allAtoms_all (ts : List Jvm.Cond) (a : Array Jvm.Value) (st : Jvm.State) : (allAtoms ts).before a st = ts.all (fun c => c.before a st) := by
  induction ts with
  | nil => rfl
  | cons c t ih =>
    show (Jvm.Cond.and c (allAtoms t)).before a st = _
    rw [Jvm.Cond.before_and, ih, List.all_cons]
def words1 : List Jvm.Cond := Jvm.Cond.code x code maxLocals ret :: tables_1
/-- a 'code' word, met by the world's own term for the bytes: nothing is compared byte by byte -/
theorem code_word {y : MethodName} {bytes : ByteArray} {mx : Nat} {rt : Option FieldType} {a : Array Value} {s : State} {m : MethodId} {meth : Method} {c : Code} (h1 : s.methodNamed? y = some m) (h2 : s.vm.method? m = some meth) (h3 : meth.code = some c) (h4 : c.code = bytes)
    (h5 : (c.maxLocals == mx && c.exceptionTable.isEmpty && decide (c.maxStack ≤ mostOperands) && decide (meth.sig.returnType = rt) && !meth.locks && decide (parseMethodDescriptor y.desc = some meth.sig)) = true) : (Jvm.Cond.code y bytes mx rt).before a s = true := by
  simp only [Bool.and_eq_true, beq_iff_eq, Bool.not_eq_true', decide_eq_true_eq] at h5
  obtain ⟨⟨⟨⟨⟨g1, g2⟩, g3⟩, g4⟩, g5⟩, g6⟩ := h5
  simp [Cond.before, Cond.holds, Cond.value, h1, h2, h3, h4, g1, g2, g3, g4, g5, g6]
def isCode : Jvm.Cond → Bool
  | .code _ _ _ _ => true
  | _ => false
theorem all_split {L : List Jvm.Cond} {P : Jvm.Cond → Bool} (h1 : L.all (fun c => isCode c || P c) = true) (h2 : ∀ c ∈ L.filter isCode, P c = true) : L.all P = true := by
  refine List.all_eq_true.mpr fun c hc => ?_
  have h := List.all_eq_true.mp h1 c hc
  rcases Bool.eq_false_or_eq_true (isCode c) with hi | hi
  · exact h2 c (List.mem_filter.mpr ⟨hc, hi⟩)
  · simpa [hi] using h
set_option maxRecDepth 65536 in
theorem w_c0 : (Jvm.Cond.code x code maxLocals ret).before args0 about1 = true := code_word (m := ⟨1, 2⟩) (meth := k1m2) (c := k1c2) (by decide +kernel) rfl rfl rfl (by decide +kernel)
set_option maxRecDepth 65536 in
theorem w_c1 : (Jvm.Cond.code ({ cls := "com/example/exacid/exacid/storage/LogRecord", name := "fixedBodyLength", desc := "(B)I" } : Jvm.MethodName) prog_117_method_1_code (1 : Nat) (Option.some Jvm.ClassFile.FieldType.int)).before args0 about1 = true := code_word (m := ⟨2, 0⟩) (meth := k2m0) (c := k2c0) (by decide +kernel) rfl rfl rfl (by decide +kernel)
set_option maxRecDepth 65536 in
theorem w_c2 : (Jvm.Cond.code ({ cls := "com/example/exacid/exacid/storage/LogRecordFixedBodyLengthPinLaw", name := "expected", desc := "(B)I" } : Jvm.MethodName) method_2_code (1 : Nat) (Option.some Jvm.ClassFile.FieldType.int)).before args0 about1 = true := code_word (m := ⟨1, 1⟩) (meth := k1m1) (c := k1c1) (by decide +kernel) rfl rfl rfl (by decide +kernel)
def codes1 : List Jvm.Cond := [Jvm.Cond.code x code maxLocals ret, Jvm.Cond.code ({ cls := "com/example/exacid/exacid/storage/LogRecord", name := "fixedBodyLength", desc := "(B)I" } : Jvm.MethodName) prog_117_method_1_code (1 : Nat) (Option.some Jvm.ClassFile.FieldType.int), Jvm.Cond.code ({ cls := "com/example/exacid/exacid/storage/LogRecordFixedBodyLengthPinLaw", name := "expected", desc := "(B)I" } : Jvm.MethodName) method_2_code (1 : Nat) (Option.some Jvm.ClassFile.FieldType.int)]
set_option maxRecDepth 65536 in
theorem codes_eq : words1.filter isCode = codes1 := rfl
theorem w_codes : ∀ c ∈ words1.filter isCode, c.before args0 about1 = true := by
  rw [codes_eq]
  intro c hc
  simp only [codes1, List.mem_cons, List.not_mem_nil, or_false] at hc
  rcases hc with rfl | rfl | rfl
  · exact w_c0
  · exact w_c1
  · exact w_c2
set_option maxRecDepth 65536 in
theorem w_t1 : words1.all (fun c => isCode c || c.before args0 about1) = true := by decide +kernel
theorem w_tables : (allAtoms (Jvm.Cond.code x code maxLocals ret :: tables_1)).before args0 about1 = true := by
  rw [allAtoms_all]
  show words1.all (fun c => c.before args0 about1) = true
  refine all_split ?_ w_codes
  rw [w_t1]
set_option maxRecDepth 65536 in
theorem w_case : (Jvm.Cond.and given_1 narrow_1).before args0 about1 = true := by decide +kernel
theorem w_applies : (headSpec (Jvm.Cond.code x code maxLocals ret :: tables_1) room_1).applies x e0.platform about1 = true :=
  (Spec.applies_iff w_frames).mpr ⟨w_running, w_runnable, w_alone, w_named, w_hears, w_ripe, w_room, w_tables⟩
theorem atStart : AtStart classFile x code maxLocals ret World_1 tables_1 room_1 Calls_1 rest_1 Pre_1 launch0 p0 e0 about1 theMethod args0 below0 :=
  ⟨lists_1, trivial, launch0.admits_env _ _ _, launch0.least_env, fairChoices_fair.cas, fairChoices_fair.clock, w_frames, w_args, w_heap, w_applies, trivial, trivial, w_case⟩
end start1
theorem witness_1 : WitnessClaimed_1 := ⟨start1.p0, start1.e0, start1.about1, start1.theMethod, start1.args0, start1.below0, start1.atStart⟩
end Jvm.Pilot.@@N@@
