import JvmDerived
import JvmDerived.Pilot.@@N@@Statement
import JvmDerived.Pilot.@@N@@Code
set_option linter.unusedVariables false
set_option linter.unusedSimpArgs false
@@BLOCK:NumsL.lean.txt@@
namespace Jvm.RoadKit
open Sem ClassFile Op Lib Jvm.Stand Jvm.Free Jvm.LawKit
section New
variable {p : Program} {l : Launch} {e : Env} {R : Room} {s : State} {m : MethodId} {args : Array Value} {below : List Frame} {meth : Method} {c : Code} {T : State} {locs : List Loc} {cells slots : Nat}
theorem retI (X : Stand p l e R s m args below meth c T locs cells slots) (hx : p.tables.exec = Jvm.exec) {pc : Nat} {Ls : Array Slot} {z : Int32} {rest : List Value} (hret : meth.sig.returnType = some .int) (hd : decode c.code pc = .ok (.ireturn, 1)) {fs : List Frame}
    (hl : ∀ (f : JFrame) (acts : List Action), f.method = m → f.locked = none → f.entered = [] → (doReturn e (T.setTop f) acts (some (.int z))).1 = T.setFrames fs) : Steps p.tables e below (T.setTop (mkF m pc Ls (.int z :: rest))) (T.setFrames fs) := by
  have hm' : T.vm.method? m = some meth := X.method'
  have hn : narrow .int (.int z) = .int z := rfl
  show Steps p.tables e below (T.setTop { method := m, pc := pc, locals := Ls, stack := _ :: rest, locked := none }) _
  jvm_step X.here [X.here.top, hx, hd, hm', hret, hn]
  first | (intro acts; rw [hl _ acts rfl rfl rfl]) | rw [hl _ _ rfl rfl rfl]
  exact Steps.refl _
end New
end Jvm.RoadKit
namespace Jvm.Pilot.@@N@@
open Jvm Jvm.ClassFile Sem Op Lib Jvm.Free Jvm.Stand Jvm.LawKit Jvm.RoadKit Bundle Jvm.Pilot.@@N@@.Jvm.D
def own_pad (q : Int64) : Int64 := (((q + (512 : Int64)) - (1 : Int64)) / (512 : Int64)) * (512 : Int64)
theorem own_size (x : Int64) : 0 ≤ (x &&& (8589934591 : Int64)).toInt ∧ (x &&& (8589934591 : Int64)).toInt < 8589934592 := by
  have e : (x &&& (8589934591 : Int64)).toInt = x.toInt % 2 ^ 33 := Jvm.Kit.i64_mask x 8589934591 (k := 33) (by decide) (by decide)
  omega
theorem own_held (x : Int64) : ¬ ((0 : Int32) < (lcmpW (x &&& (8589934591 : Int64)) (8589934591 : Int64))) := by
  rw [lw_gt, Int64.lt_iff_toInt_lt]
  have h := own_size x
  have e : (8589934591 : Int64).toInt = 8589934591 := by decide
  omega
theorem own_padI (z : Int64) (h0 : 0 ≤ z.toInt) (h1 : z.toInt < 8589934592) : (own_pad z).toInt = (z.toInt + 511) / 512 * 512 := by
  have c512 : (512 : Int64).toInt = 512 := by decide
  have c1 : (1 : Int64).toInt = 1 := by decide
  have e1 : (z + (512 : Int64)).toInt = z.toInt + 512 := by rw [Jvm.Kit.i64_add (by omega) (by omega), c512]
  have e2 : ((z + (512 : Int64)) - (1 : Int64)).toInt = z.toInt + 511 := by rw [Jvm.Kit.i64_sub (by omega) (by omega), e1, c1]; omega
  have e3 : (((z + (512 : Int64)) - (1 : Int64)) / (512 : Int64)).toInt = (z.toInt + 511) / 512 := by
    rw [Jvm.Kit.i64_div (by omega), e2, c512, Int.tdiv_eq_ediv_of_nonneg (by omega)]
  unfold own_pad
  rw [Jvm.Kit.i64_mul (by rw [e3, c512]; omega) (by rw [e3, c512]; omega), e3, c512]
theorem own_fin (x k : Int64) (hk : (k.toInt = 1 ∧ (x &&& (8589934591 : Int64)).toInt % 512 ≠ 0) ∨ (k.toInt = 0 ∧ (x &&& (8589934591 : Int64)).toInt % 512 = 0)) :
    (lcmpW ((512 : Int64) + own_pad (x &&& (8589934591 : Int64))) ((512 : Int64) * (((1 : Int64) + (((x &&& (8589934591 : Int64)).toUInt64 >>> ((9 : Int32) &&& 0x3f).toInt64.toUInt64).toInt64)) + k))) = (0 : Int32) := by
  rw [lw_eq]
  obtain ⟨h0, h1⟩ := own_size x
  generalize (x &&& (8589934591 : Int64)) = z at *
  have c512 : (512 : Int64).toInt = 512 := by decide
  have c1 : (1 : Int64).toInt = 1 := by decide
  have e4 := own_padI z h0 h1
  have e5 : ((z.toUInt64 >>> ((9 : Int32) &&& 0x3f).toInt64.toUInt64).toInt64).toInt = z.toInt / 2 ^ 9 := Jvm.Kit.i64_lushr (Jvm.Kit.i64_nonneg.mpr h0) (by decide) (by decide)
  generalize ((z.toUInt64 >>> ((9 : Int32) &&& 0x3f).toInt64.toUInt64).toInt64) = u at *
  generalize own_pad z = pz at *
  have e6 : ((512 : Int64) + pz).toInt = 512 + pz.toInt := by rw [Jvm.Kit.i64_add (by omega) (by omega), c512]
  have e7 : ((1 : Int64) + u).toInt = 1 + u.toInt := by rw [Jvm.Kit.i64_add (by omega) (by omega), c1]
  have e8 : (((1 : Int64) + u) + k).toInt = 1 + u.toInt + k.toInt := by rw [Jvm.Kit.i64_add (by omega) (by omega), e7]
  have e9 : ((512 : Int64) * (((1 : Int64) + u) + k)).toInt = 512 * (1 + u.toInt + k.toInt) := by rw [Jvm.Kit.i64_mul (by rw [e8, c512]; omega) (by rw [e8, c512]; omega), c512, e8]
  apply Int64.toInt_inj.mp
  rw [e6, e9]
  omega
theorem own_low (x : Int64) : (lcmpW ((x &&& (8589934591 : Int64)) &&& (511 : Int64)) (0 : Int64)) = (0 : Int32) ↔ (x &&& (8589934591 : Int64)).toInt % 512 = 0 := by
  rw [lw_eq, ← Int64.toInt_inj]
  have e : ((x &&& (8589934591 : Int64)) &&& (511 : Int64)).toInt = (x &&& (8589934591 : Int64)).toInt % 2 ^ 9 := Jvm.Kit.i64_mask _ 511 (k := 9) (by decide) (by decide)
  have c0 : (0 : Int64).toInt = 0 := by decide
  rw [e, c0]; omega
theorem d_prog_25_method_3_code_0 : decode prog_25_method_3_code 0 = .ok (.lload_n 0, 1) := by decide +kernel
theorem d_prog_25_method_3_code_1 : decode prog_25_method_3_code 1 = .ok (.ldc2_w 40, 3) := by decide +kernel
theorem d_prog_25_method_3_code_4 : decode prog_25_method_3_code 4 = .ok (.lcmp, 1) := by decide +kernel
theorem d_prog_25_method_3_code_5 : decode prog_25_method_3_code 5 = .ok (.ifCond .le 17, 3) := by decide +kernel
theorem d_prog_25_method_3_code_22 : decode prog_25_method_3_code 22 = .ok (.return_, 1) := by decide +kernel
theorem pn_0 : plainName "com/example/mandate/mandate/TarWriter" = true := by first | (simp [plainName, overriddenIn]; done) | decide +kernel
theorem ef_rm3 (m : MethodId) (x0 : Int64) : entryFrame m #[(.long x0)] 2 = mkF m 0 #[.val (.long x0), .second] [] := by first | (simp [entryFrame, mkF, argsToLocals, Value.category]; done) | rfl
def Q_rm3 (Z : State) (q0 : Int64) (h0 : Heap) (n0 : Nat) (v : Option Value) (h : Heap) (L : List Loc) : Prop := v = none ∧ Fr n0 L ∧ h = h0
set_option maxRecDepth 65536 in
set_option maxHeartbeats 40000000 in
theorem rm3 (l : Launch) (Z : State) (a0 : Array Value) (hw : ∀ d ∈ tables_1, d.before a0 Z = true) (ws : List Jvm.Cond) (q0 : Int64) (h0 : Heap) (n0 : Nat) (Z0 : n0 ≤ h0.size) (hle : ¬ ((0 : Int32) < (lcmpW q0 (8589934591 : Int64)))) :
    MetFree l (⟨"com/example/mandate/mandate/TarWriter", "requireHeld", "(J)V"⟩ : MethodName) (head1 (Jvm.Cond.code (⟨"com/example/mandate/mandate/TarWriter", "requireHeld", "(J)V"⟩ : MethodName) prog_25_method_3_code 2 none :: ws) ({ frames := 0, cells := 0, slots := 0, locals := 0 } : Room)) (fun a U => a = #[(.long q0)] ∧ Z.Warmed39 U.vm ∧ U.heap = h0) (fun _ _ _ _ _ => True) (fun _ U o U' => ∃ v L, o = .returned v ∧ Q_rm3 Z q0 h0 n0 v U'.heap L ∧ FrameEnd U o U' L ({ frames := 0, cells := 0, slots := 0, locals := 0 } : Room).cells ({ frames := 0, cells := 0, slots := 0, locals := 0 } : Room).slots) := by
  refine MetFree.of_bodySF (plainFor_of_name pn_0) hisR ?_
  intro p e s m args below meth c s₁ Bd hml0 hP hK
  obtain ⟨rfl, hZ, hh⟩ := hP
  have hx := Bd.exec
  have hby := Bd.bytes
  have hml : c.maxLocals = 2 := hml0
  have hown : s.vm.findClass "com/example/mandate/mandate/TarWriter" = some m.cls := findClass_of_methodNamed Bd.named
  have hnm := (name_of_methodNamed Bd.named Bd.method).1
  have hlk : meth.locks = false := by first | exact BodyLoose.notSynchronized (by assumption) | exact Body.notSynchronized (by assumption) | assumption
  have X0 : Stand p l e ({ frames := 0, cells := 0, slots := 0, locals := 0 } : Room) s m #[(.long q0)] below meth c s₁ [] 0 0 := Stand.of_body Bd
  have e0 : s₁.heap = h0 := by rw [← hh, Bd.state]; rfl
  have N0 := Fr.nil n0
  have Zn := Z0
  have K0 : ∀ t, Steps p.tables e below (s₁.setTop (mkF m 0 #[.val (.long q0), .second] [])) t → Steps p.tables e below (s₁.setTop (entryFrame m #[(.long q0)] 2)) t := fun t k => castTop (ef_rm3 m q0) k
  have hc5 : ¬ ((0 : Int32) < (lcmpW q0 (8589934591 : Int64))) := hle
  obtain ⟨fs, hr, hrun, hended, hW, hsame⟩ := X0.leave (v := none) (fun _ => rfl) hlk
  refine ⟨_, _, K0 _ ?_, hrun, hended, _, _, rfl, ?_, ⟨_, rfl⟩, hW, hsame.mono (by decide) (by decide)⟩
  ·
    show Steps p.tables e below (s₁.setTop (mkF m 0 #[.val (.long q0), .second] [])) _
    refine XS.lloadN X0.here hx rfl (hb hby d_prog_25_method_3_code_0) rfl ?_
    show Steps p.tables e below (s₁.setTop (mkF m 1 #[.val (.long q0), .second] [(.long q0)])) _
    refine X0.ldc2Long hx hown (mvT hZ (hw _ (List.mem_of_getElem? (i := 8) rfl))) (g := (mkF m 1 #[.val (.long q0), .second] [(.long q0)])) rfl (hb hby d_prog_25_method_3_code_1) _ ?_
    show Steps p.tables e below (s₁.setTop (mkF m 4 #[.val (.long q0), .second] [(.long (8589934591 : Int64)), (.long q0)])) _
    refine XS.lcmp X0.here hx rfl (hb hby d_prog_25_method_3_code_4) rfl ?_
    show Steps p.tables e below (s₁.setTop (mkF m 5 #[.val (.long q0), .second] [(.int (lcmpW q0 (8589934591 : Int64)))])) _
    refine XS.ifYes X0.here hx rfl (pc0 := 5) (pc' := 22) rfl (hb hby d_prog_25_method_3_code_5) rfl ((if0 _ _).trans (flt hc5).2.2.2) (by decide) (by decide) ?_
    show Steps p.tables e below (s₁.setTop (mkF m 22 #[.val (.long q0), .second] [])) _
    exact X0.returnOut hx Bd.returns (hb hby d_prog_25_method_3_code_22) hr
  ·
    show Q_rm3 Z q0 h0 n0 _ s₁.heap _
    rw [e0]
    exact ⟨rfl, N0, rfl⟩
theorem d_prog_25_method_11_code_0 : decode prog_25_method_11_code 0 = .ok (.lload_n 0, 1) := by decide +kernel
theorem d_prog_25_method_11_code_1 : decode prog_25_method_11_code 1 = .ok (.ldc2_w 34, 3) := by decide +kernel
theorem d_prog_25_method_11_code_4 : decode prog_25_method_11_code 4 = .ok (.ladd, 1) := by decide +kernel
theorem d_prog_25_method_11_code_5 : decode prog_25_method_11_code 5 = .ok (.lconst 1, 1) := by decide +kernel
theorem d_prog_25_method_11_code_6 : decode prog_25_method_11_code 6 = .ok (.lsub, 1) := by decide +kernel
theorem d_prog_25_method_11_code_7 : decode prog_25_method_11_code 7 = .ok (.ldc2_w 34, 3) := by decide +kernel
theorem d_prog_25_method_11_code_10 : decode prog_25_method_11_code 10 = .ok (.ldiv, 1) := by decide +kernel
theorem d_prog_25_method_11_code_11 : decode prog_25_method_11_code 11 = .ok (.ldc2_w 34, 3) := by decide +kernel
theorem d_prog_25_method_11_code_14 : decode prog_25_method_11_code 14 = .ok (.lmul, 1) := by decide +kernel
theorem d_prog_25_method_11_code_15 : decode prog_25_method_11_code 15 = .ok (.lreturn, 1) := by decide +kernel
theorem ef_rm2 (m : MethodId) (x0 : Int64) : entryFrame m #[(.long x0)] 2 = mkF m 0 #[.val (.long x0), .second] [] := by first | (simp [entryFrame, mkF, argsToLocals, Value.category]; done) | rfl
def Q_rm2 (Z : State) (q0 : Int64) (h0 : Heap) (n0 : Nat) (v : Option Value) (h : Heap) (L : List Loc) : Prop := v = some (.long (own_pad q0)) ∧ Fr n0 L ∧ h = h0
set_option maxRecDepth 65536 in
set_option maxHeartbeats 40000000 in
theorem rm2 (l : Launch) (Z : State) (a0 : Array Value) (hw : ∀ d ∈ tables_1, d.before a0 Z = true) (ws : List Jvm.Cond) (q0 : Int64) (h0 : Heap) (n0 : Nat) (Z0 : n0 ≤ h0.size) :
    MetFree l (⟨"com/example/mandate/mandate/TarWriter", "padded", "(J)J"⟩ : MethodName) (head1 (Jvm.Cond.code (⟨"com/example/mandate/mandate/TarWriter", "padded", "(J)J"⟩ : MethodName) prog_25_method_11_code 2 (some .long) :: ws) ({ frames := 0, cells := 0, slots := 0, locals := 0 } : Room)) (fun a U => a = #[(.long q0)] ∧ Z.Warmed39 U.vm ∧ U.heap = h0) (fun _ _ _ _ _ => True) (fun _ U o U' => ∃ v L, o = .returned v ∧ Q_rm2 Z q0 h0 n0 v U'.heap L ∧ FrameEnd U o U' L ({ frames := 0, cells := 0, slots := 0, locals := 0 } : Room).cells ({ frames := 0, cells := 0, slots := 0, locals := 0 } : Room).slots) := by
  refine MetFree.of_bodySF (plainFor_of_name pn_0) hisR ?_
  intro p e s m args below meth c s₁ Bd hml0 hP hK
  obtain ⟨rfl, hZ, hh⟩ := hP
  have hx := Bd.exec
  have hby := Bd.bytes
  have hml : c.maxLocals = 2 := hml0
  have hown : s.vm.findClass "com/example/mandate/mandate/TarWriter" = some m.cls := findClass_of_methodNamed Bd.named
  have hnm := (name_of_methodNamed Bd.named Bd.method).1
  have hlk : meth.locks = false := by first | exact BodyLoose.notSynchronized (by assumption) | exact Body.notSynchronized (by assumption) | assumption
  have X0 : Stand p l e ({ frames := 0, cells := 0, slots := 0, locals := 0 } : Room) s m #[(.long q0)] below meth c s₁ [] 0 0 := Stand.of_body Bd
  have e0 : s₁.heap = h0 := by rw [← hh, Bd.state]; rfl
  have N0 := Fr.nil n0
  have Zn := Z0
  have K0 : ∀ t, Steps p.tables e below (s₁.setTop (mkF m 0 #[.val (.long q0), .second] [])) t → Steps p.tables e below (s₁.setTop (entryFrame m #[(.long q0)] 2)) t := fun t k => castTop (ef_rm2 m q0) k
  obtain ⟨fs, hr, hrun, hended, hW, hsame⟩ := X0.leave (v := some (.long ((((q0 + (512 : Int64)) - (1 : Int64)) / (512 : Int64)) * (512 : Int64)))) (fun h => by rw [Bd.returns] at h; cases h) hlk
  refine ⟨_, _, K0 _ ?_, hrun, hended, _, _, rfl, ?_, ⟨_, rfl⟩, hW, hsame.mono (by decide) (by decide)⟩
  ·
    show Steps p.tables e below (s₁.setTop (mkF m 0 #[.val (.long q0), .second] [])) _
    refine XS.lloadN X0.here hx rfl (hb hby d_prog_25_method_11_code_0) rfl ?_
    show Steps p.tables e below (s₁.setTop (mkF m 1 #[.val (.long q0), .second] [(.long q0)])) _
    refine X0.ldc2Long hx hown (mvT hZ (hw _ (List.mem_of_getElem? (i := 9) rfl))) (g := (mkF m 1 #[.val (.long q0), .second] [(.long q0)])) rfl (hb hby d_prog_25_method_11_code_1) _ ?_
    show Steps p.tables e below (s₁.setTop (mkF m 4 #[.val (.long q0), .second] [(.long (512 : Int64)), (.long q0)])) _
    refine XS.ladd X0.here hx rfl (hb hby d_prog_25_method_11_code_4) rfl ?_
    show Steps p.tables e below (s₁.setTop (mkF m 5 #[.val (.long q0), .second] [(.long (q0 + (512 : Int64)))])) _
    refine XS.lconst X0.here hx rfl (hb hby d_prog_25_method_11_code_5) ?_
    show Steps p.tables e below (s₁.setTop (mkF m 6 #[.val (.long q0), .second] [(.long (1 : Int64)), (.long (q0 + (512 : Int64)))])) _
    refine XS.lsub X0.here hx rfl (hb hby d_prog_25_method_11_code_6) rfl ?_
    show Steps p.tables e below (s₁.setTop (mkF m 7 #[.val (.long q0), .second] [(.long ((q0 + (512 : Int64)) - (1 : Int64)))])) _
    refine X0.ldc2Long hx hown (mvT hZ (hw _ (List.mem_of_getElem? (i := 9) rfl))) (g := (mkF m 7 #[.val (.long q0), .second] [(.long ((q0 + (512 : Int64)) - (1 : Int64)))])) rfl (hb hby d_prog_25_method_11_code_7) _ ?_
    show Steps p.tables e below (s₁.setTop (mkF m 10 #[.val (.long q0), .second] [(.long (512 : Int64)), (.long ((q0 + (512 : Int64)) - (1 : Int64)))])) _
    refine XS.ldiv X0.here hx rfl (hb hby d_prog_25_method_11_code_10) rfl (by decide) ?_
    show Steps p.tables e below (s₁.setTop (mkF m 11 #[.val (.long q0), .second] [(.long (((q0 + (512 : Int64)) - (1 : Int64)) / (512 : Int64)))])) _
    refine X0.ldc2Long hx hown (mvT hZ (hw _ (List.mem_of_getElem? (i := 9) rfl))) (g := (mkF m 11 #[.val (.long q0), .second] [(.long (((q0 + (512 : Int64)) - (1 : Int64)) / (512 : Int64)))])) rfl (hb hby d_prog_25_method_11_code_11) _ ?_
    show Steps p.tables e below (s₁.setTop (mkF m 14 #[.val (.long q0), .second] [(.long (512 : Int64)), (.long (((q0 + (512 : Int64)) - (1 : Int64)) / (512 : Int64)))])) _
    refine XS.lmul X0.here hx rfl (hb hby d_prog_25_method_11_code_14) rfl ?_
    show Steps p.tables e below (s₁.setTop (mkF m 15 #[.val (.long q0), .second] [(.long ((((q0 + (512 : Int64)) - (1 : Int64)) / (512 : Int64)) * (512 : Int64)))])) _
    exact X0.lreturnOut hx Bd.returns (hb hby d_prog_25_method_11_code_15) hr
  ·
    show Q_rm2 Z q0 h0 n0 _ s₁.heap _
    rw [e0]
    exact ⟨rfl, N0, rfl⟩
theorem d_prog_25_method_2_code_0 : decode prog_25_method_2_code 0 = .ok (.lload_n 0, 1) := by decide +kernel
theorem d_prog_25_method_2_code_1 : decode prog_25_method_2_code 1 = .ok (.invokestatic 30, 3) := by decide +kernel
theorem pd_1 : parseMethodDescriptor "(J)V" = some ⟨[.long], none⟩ := by decide +kernel
theorem d_prog_25_method_2_code_4 : decode prog_25_method_2_code 4 = .ok (.ldc2_w 34, 3) := by decide +kernel
theorem d_prog_25_method_2_code_7 : decode prog_25_method_2_code 7 = .ok (.lload_n 0, 1) := by decide +kernel
theorem d_prog_25_method_2_code_8 : decode prog_25_method_2_code 8 = .ok (.invokestatic 36, 3) := by decide +kernel
theorem pd_2 : parseMethodDescriptor "(J)J" = some ⟨[.long], some .long⟩ := by decide +kernel
theorem d_prog_25_method_2_code_11 : decode prog_25_method_2_code 11 = .ok (.ladd, 1) := by decide +kernel
theorem d_prog_25_method_2_code_12 : decode prog_25_method_2_code 12 = .ok (.lreturn, 1) := by decide +kernel
theorem ef_rm1 (m : MethodId) (x0 : Int64) : entryFrame m #[(.long x0)] 2 = mkF m 0 #[.val (.long x0), .second] [] := by first | (simp [entryFrame, mkF, argsToLocals, Value.category]; done) | rfl
def Q_rm1 (Z : State) (q0 : Int64) (h0 : Heap) (n0 : Nat) (v : Option Value) (h : Heap) (L : List Loc) : Prop := v = some (.long ((512 : Int64) + own_pad q0)) ∧ Fr n0 L ∧ h = h0
set_option maxRecDepth 65536 in
set_option maxHeartbeats 40000000 in
theorem rm1 (l : Launch) (Z : State) (a0 : Array Value) (hw : ∀ d ∈ tables_1, d.before a0 Z = true) (ws : List Jvm.Cond) (q0 : Int64) (h0 : Heap) (n0 : Nat) (Z0 : n0 ≤ h0.size) (hle : ¬ ((0 : Int32) < (lcmpW q0 (8589934591 : Int64)))) :
    MetFree l (⟨"com/example/mandate/mandate/TarWriter", "sizeOf", "(J)J"⟩ : MethodName) (head1 (Jvm.Cond.code (⟨"com/example/mandate/mandate/TarWriter", "sizeOf", "(J)J"⟩ : MethodName) prog_25_method_2_code 2 (some .long) :: ws) ({ frames := 1, cells := 0, slots := 0, locals := 15 } : Room)) (fun a U => a = #[(.long q0)] ∧ Z.Warmed39 U.vm ∧ U.heap = h0) (fun _ _ _ _ _ => True) (fun _ U o U' => ∃ v L, o = .returned v ∧ Q_rm1 Z q0 h0 n0 v U'.heap L ∧ FrameEnd U o U' L ({ frames := 1, cells := 0, slots := 0, locals := 15 } : Room).cells ({ frames := 1, cells := 0, slots := 0, locals := 15 } : Room).slots) := by
  refine MetFree.of_bodySF (plainFor_of_name pn_0) hisR ?_
  intro p e s m args below meth c s₁ Bd hml0 hP hK
  obtain ⟨rfl, hZ, hh⟩ := hP
  have hx := Bd.exec
  have hby := Bd.bytes
  have hml : c.maxLocals = 2 := hml0
  have hown : s.vm.findClass "com/example/mandate/mandate/TarWriter" = some m.cls := findClass_of_methodNamed Bd.named
  have hnm := (name_of_methodNamed Bd.named Bd.method).1
  have hlk : meth.locks = false := by first | exact BodyLoose.notSynchronized (by assumption) | exact Body.notSynchronized (by assumption) | assumption
  have X0 : Stand p l e ({ frames := 1, cells := 0, slots := 0, locals := 15 } : Room) s m #[(.long q0)] below meth c s₁ [] 0 0 := Stand.of_body Bd
  have e0 : s₁.heap = h0 := by rw [← hh, Bd.state]; rfl
  have N0 := Fr.nil n0
  have Zn := Z0
  have K0 : ∀ t, Steps p.tables e below (s₁.setTop (mkF m 0 #[.val (.long q0), .second] [])) t → Steps p.tables e below (s₁.setTop (entryFrame m #[(.long q0)] 2)) t := fun t k => castTop (ef_rm1 m q0) k
  obtain ⟨_, _, ⟨T1, L1, k1, n1⟩, -, X1, ⟨Lc1, hQ1, l1, y1, z1⟩, st1⟩ := Jvm.LawKit.callS X0 hx (y := (⟨"com/example/mandate/mandate/TarWriter", "requireHeld", "(J)V"⟩ : MethodName)) hown (mvT hZ (hw _ (List.mem_of_getElem? (i := 5) rfl))) (mvT hZ (hw _ (List.mem_of_getElem? (i := 6) rfl))) (mvT hZ (hw _ (List.mem_of_getElem? (i := 3) rfl))) (mvT hZ (hw _ (List.mem_of_getElem? (i := 7) rfl))) (by decide) (backOf (W := 0) (rm3 l Z a0 hw [] q0  h0 n0 Zn hle) hZ (hw _ (List.mem_of_getElem? (i := 7) rfl)) (hw _ (List.mem_of_getElem? (i := 3) rfl)) (by decide) (by decide)) (g := (mkF m 1 #[.val (.long q0), .second] [(.long q0)])) rfl (by rw [hml]; rfl) (argsL := [(.long q0)]) (rest := []) (lenOf pd_1 rfl) rfl (by show 2 * 0 + _ ≤ _; exact Nat.le_of_eq rfl) (hb hby d_prog_25_method_2_code_1) (fun _ _ => ⟨rfl, e0, (by decide : 0 + 0 ≤ _), (by decide : 0 + 0 ≤ _)⟩)
  dsimp only [Pt.U, Pt.locs, Pt.cells, Pt.slots] at X1 l1 y1 z1 st1 hQ1
  subst l1 y1 z1
  obtain ⟨rfl, N1q, e1q⟩ := hQ1
  have N1 := Fr.app N0 N1q
  have e1 : T1.heap = h0 := e1q
  obtain ⟨_, _, ⟨T2, L2, k2, n2⟩, -, X2, ⟨Lc2, hQ2, l2, y2, z2⟩, st2⟩ := Jvm.LawKit.callS X1 hx (y := (⟨"com/example/mandate/mandate/TarWriter", "padded", "(J)J"⟩ : MethodName)) hown (mvT hZ (hw _ (List.mem_of_getElem? (i := 10) rfl))) (mvT hZ (hw _ (List.mem_of_getElem? (i := 11) rfl))) (mvT hZ (hw _ (List.mem_of_getElem? (i := 3) rfl))) (mvT hZ (hw _ (List.mem_of_getElem? (i := 12) rfl))) (by decide) (backOf (W := 2) (rm2 l Z a0 hw [] q0  h0 n0 Zn ) hZ (hw _ (List.mem_of_getElem? (i := 12) rfl)) (hw _ (List.mem_of_getElem? (i := 3) rfl)) (by decide) (by decide)) (g := (mkF m 8 #[.val (.long q0), .second] [(.long q0), (.long (512 : Int64))])) rfl (by rw [hml]; rfl) (argsL := [(.long q0)]) (rest := [(.long (512 : Int64))]) (lenOf pd_2 rfl) rfl (by show 2 * 0 + _ ≤ _; exact Nat.le_of_eq rfl) (hb hby d_prog_25_method_2_code_8) (fun _ _ => ⟨rfl, e1, (by decide : 0 + 0 ≤ _), (by decide : 0 + 0 ≤ _)⟩)
  dsimp only [Pt.U, Pt.locs, Pt.cells, Pt.slots] at X2 l2 y2 z2 st2 hQ2
  subst l2 y2 z2
  obtain ⟨rfl, N2q, e2q⟩ := hQ2
  have N2 := Fr.app N1 N2q
  have e2 : T2.heap = h0 := e2q
  obtain ⟨fs, hr, hrun, hended, hW, hsame⟩ := X2.leave (v := some (.long ((512 : Int64) + (own_pad q0)))) (fun h => by rw [Bd.returns] at h; cases h) hlk
  refine ⟨_, _, K0 _ ?_, hrun, hended, _, _, rfl, ?_, ⟨_, rfl⟩, hW, hsame.mono (by decide) (by decide)⟩
  ·
    show Steps p.tables e below (s₁.setTop (mkF m 0 #[.val (.long q0), .second] [])) _
    refine XS.lloadN X0.here hx rfl (hb hby d_prog_25_method_2_code_0) rfl ?_
    show Steps p.tables e below (s₁.setTop (mkF m 1 #[.val (.long q0), .second] [(.long q0)])) _
    refine st1 _ ?_
    show Steps p.tables e below (T1.setTop (mkF m 4 #[.val (.long q0), .second] [])) _
    refine X1.ldc2Long hx hown (mvT hZ (hw _ (List.mem_of_getElem? (i := 9) rfl))) (g := (mkF m 4 #[.val (.long q0), .second] [])) rfl (hb hby d_prog_25_method_2_code_4) _ ?_
    show Steps p.tables e below (T1.setTop (mkF m 7 #[.val (.long q0), .second] [(.long (512 : Int64))])) _
    refine XS.lloadN X1.here hx rfl (hb hby d_prog_25_method_2_code_7) rfl ?_
    show Steps p.tables e below (T1.setTop (mkF m 8 #[.val (.long q0), .second] [(.long q0), (.long (512 : Int64))])) _
    refine st2 _ ?_
    show Steps p.tables e below (T2.setTop (mkF m 11 #[.val (.long q0), .second] [(.long (own_pad q0)), (.long (512 : Int64))])) _
    refine XS.ladd X2.here hx rfl (hb hby d_prog_25_method_2_code_11) rfl ?_
    show Steps p.tables e below (T2.setTop (mkF m 12 #[.val (.long q0), .second] [(.long ((512 : Int64) + (own_pad q0)))])) _
    exact X2.lreturnOut hx Bd.returns (hb hby d_prog_25_method_2_code_12) hr
  ·
    show Q_rm1 Z q0 h0 n0 _ T2.heap _
    rw [e2]
    exact ⟨rfl, N2, rfl⟩
theorem pn_3 : plainName "com/example/mandate/mandate/TarWriterSizeOfPinLaw" = true := by first | (simp [plainName, overriddenIn]; done) | decide +kernel
theorem ef_rm0 (m : MethodId) (x0 : Int64) : entryFrame m #[(.long x0)] maxLocals = mkF m 0 #[.val (.long x0), .second, .unset, .unset, .unset, .unset, .unset, .unset, .unset, .unset, .unset, .unset] [] := by first | (simp [entryFrame, mkF, argsToLocals, Value.category, maxLocals]; done) | rfl
def Q_rm0 (Z : State) (q0 : Int64) (h0 : Heap) (n0 : Nat) (v : Option Value) (h : Heap) (L : List Loc) : Prop := v = some (.int 1) ∧ Fr n0 L
set_option maxRecDepth 65536 in
set_option maxHeartbeats 40000000 in
theorem rm0 (l : Launch) (Z : State) (a0 : Array Value) (hw : ∀ d ∈ tables_1, d.before a0 Z = true) (ws : List Jvm.Cond) (q0 : Int64) (h0 : Heap) (n0 : Nat) (Z0 : n0 ≤ h0.size) :
    MetFree l x (head1 (Jvm.Cond.code x code maxLocals ret :: ws) room_1) (fun a U => a = #[(.long q0)] ∧ Z.Warmed39 U.vm ∧ U.heap = h0) (fun _ _ _ _ _ => True) (fun _ U o U' => ∃ v L, o = .returned v ∧ Q_rm0 Z q0 h0 n0 v U'.heap L ∧ FrameEnd U o U' L room_1.cells room_1.slots) := by
  refine MetFree.of_bodySF (plainFor_of_name pn_3) hisR ?_
  intro p e s m args below meth c s₁ Bd hml0 hP hK
  obtain ⟨rfl, hZ, hh⟩ := hP
  have hx := Bd.exec
  have hby := Bd.bytes
  have hml : c.maxLocals = 12 := hml0
  have hown : s.vm.findClass "com/example/mandate/mandate/TarWriterSizeOfPinLaw" = some m.cls := findClass_of_methodNamed Bd.named
  have hnm := (name_of_methodNamed Bd.named Bd.method).1
  have hlk : meth.locks = false := by first | exact BodyLoose.notSynchronized (by assumption) | exact Body.notSynchronized (by assumption) | assumption
  have X0 : Stand p l e room_1 s m #[(.long q0)] below meth c s₁ [] 0 0 := Stand.of_body Bd
  have e0 : s₁.heap = h0 := by rw [← hh, Bd.state]; rfl
  have N0 := Fr.nil n0
  have Zn := Z0
  have K0 : ∀ t, Steps p.tables e below (s₁.setTop (mkF m 0 #[.val (.long q0), .second, .unset, .unset, .unset, .unset, .unset, .unset, .unset, .unset, .unset, .unset] [])) t → Steps p.tables e below (s₁.setTop (entryFrame m #[(.long q0)] maxLocals)) t := fun t k => castTop (ef_rm0 m q0) k
  obtain ⟨_, _, ⟨T1, L1, k1, n1⟩, -, X1, ⟨Lc1, hQ1, l1, y1, z1⟩, st1⟩ := Jvm.LawKit.callS X0 hx (y := (⟨"com/example/mandate/mandate/TarWriter", "sizeOf", "(J)J"⟩ : MethodName)) hown (mvT hZ (hw _ (List.mem_of_getElem? (i := 1) rfl))) (mvT hZ (hw _ (List.mem_of_getElem? (i := 2) rfl))) (mvT hZ (hw _ (List.mem_of_getElem? (i := 3) rfl))) (mvT hZ (hw _ (List.mem_of_getElem? (i := 4) rfl))) (by decide) (backOf (W := 0) (rm1 l Z a0 hw [] (q0 &&& (8589934591 : Int64))  h0 n0 Zn (own_held q0)) hZ (hw _ (List.mem_of_getElem? (i := 4) rfl)) (hw _ (List.mem_of_getElem? (i := 3) rfl)) (by decide) (by decide)) (g := (mkF m 7 #[.val (.long q0), .second, .val (.long (q0 &&& (8589934591 : Int64))), .second, .unset, .unset, .unset, .unset, .unset, .unset, .unset, .unset] [(.long (q0 &&& (8589934591 : Int64)))])) rfl (by rw [hml]; rfl) (argsL := [(.long (q0 &&& (8589934591 : Int64)))]) (rest := []) (lenOf pd_2 rfl) rfl (by show 2 * 0 + _ ≤ _; exact Nat.le_of_eq rfl) (hb hby at_7) (fun _ _ => ⟨rfl, e0, (by decide : 0 + 0 ≤ _), (by decide : 0 + 0 ≤ _)⟩)
  dsimp only [Pt.U, Pt.locs, Pt.cells, Pt.slots] at X1 l1 y1 z1 st1 hQ1
  subst l1 y1 z1
  obtain ⟨rfl, N1q, e1q⟩ := hQ1
  have N1 := Fr.app N0 N1q
  have e1 : T1.heap = h0 := e1q
  have K2 : ∀ t, Steps p.tables e below (T1.setTop (mkF m 25 #[.val (.long q0), .second, .val (.long (q0 &&& (8589934591 : Int64))), .second, .val (.long ((512 : Int64) + own_pad (q0 &&& (8589934591 : Int64)))), .second, .val (.long (((q0 &&& (8589934591 : Int64)).toUInt64 >>> ((9 : Int32) &&& 0x3f).toInt64.toUInt64).toInt64)), .second, .unset, .unset, .unset, .unset] [(.int (lcmpW ((q0 &&& (8589934591 : Int64)) &&& (511 : Int64)) (0 : Int64)))])) t → Steps p.tables e below (s₁.setTop (entryFrame m #[(.long q0)] maxLocals)) t := by
    intro t kt
    refine K0 t ?_
    show Steps p.tables e below (s₁.setTop (mkF m 0 #[.val (.long q0), .second, .unset, .unset, .unset, .unset, .unset, .unset, .unset, .unset, .unset, .unset] [])) _
    refine XS.lloadN X0.here hx rfl (hb hby at_0) rfl ?_
    show Steps p.tables e below (s₁.setTop (mkF m 1 #[.val (.long q0), .second, .unset, .unset, .unset, .unset, .unset, .unset, .unset, .unset, .unset, .unset] [(.long q0)])) _
    refine X0.ldc2Long hx hown (mvT hZ (hw _ (List.mem_of_getElem? (i := 0) rfl))) (g := (mkF m 1 #[.val (.long q0), .second, .unset, .unset, .unset, .unset, .unset, .unset, .unset, .unset, .unset, .unset] [(.long q0)])) rfl (hb hby at_1) _ ?_
    show Steps p.tables e below (s₁.setTop (mkF m 4 #[.val (.long q0), .second, .unset, .unset, .unset, .unset, .unset, .unset, .unset, .unset, .unset, .unset] [(.long (8589934591 : Int64)), (.long q0)])) _
    refine XS.land X0.here hx rfl (hb hby at_4) rfl ?_
    show Steps p.tables e below (s₁.setTop (mkF m 5 #[.val (.long q0), .second, .unset, .unset, .unset, .unset, .unset, .unset, .unset, .unset, .unset, .unset] [(.long (q0 &&& (8589934591 : Int64)))])) _
    refine XS.lstoreN X0.here hx rfl (hb hby at_5) rfl (l' := #[.val (.long q0), .second, .val (.long (q0 &&& (8589934591 : Int64))), .second, .unset, .unset, .unset, .unset, .unset, .unset, .unset, .unset]) rfl ?_
    show Steps p.tables e below (s₁.setTop (mkF m 6 #[.val (.long q0), .second, .val (.long (q0 &&& (8589934591 : Int64))), .second, .unset, .unset, .unset, .unset, .unset, .unset, .unset, .unset] [])) _
    refine XS.lloadN X0.here hx rfl (hb hby at_6) rfl ?_
    show Steps p.tables e below (s₁.setTop (mkF m 7 #[.val (.long q0), .second, .val (.long (q0 &&& (8589934591 : Int64))), .second, .unset, .unset, .unset, .unset, .unset, .unset, .unset, .unset] [(.long (q0 &&& (8589934591 : Int64)))])) _
    refine st1 _ ?_
    show Steps p.tables e below (T1.setTop (mkF m 10 #[.val (.long q0), .second, .val (.long (q0 &&& (8589934591 : Int64))), .second, .unset, .unset, .unset, .unset, .unset, .unset, .unset, .unset] [(.long ((512 : Int64) + own_pad (q0 &&& (8589934591 : Int64))))])) _
    refine XS.lstore X1.here hx rfl (hb hby at_10) rfl (l' := #[.val (.long q0), .second, .val (.long (q0 &&& (8589934591 : Int64))), .second, .val (.long ((512 : Int64) + own_pad (q0 &&& (8589934591 : Int64)))), .second, .unset, .unset, .unset, .unset, .unset, .unset]) rfl ?_
    show Steps p.tables e below (T1.setTop (mkF m 12 #[.val (.long q0), .second, .val (.long (q0 &&& (8589934591 : Int64))), .second, .val (.long ((512 : Int64) + own_pad (q0 &&& (8589934591 : Int64)))), .second, .unset, .unset, .unset, .unset, .unset, .unset] [])) _
    refine XS.lloadN X1.here hx rfl (hb hby at_12) rfl ?_
    show Steps p.tables e below (T1.setTop (mkF m 13 #[.val (.long q0), .second, .val (.long (q0 &&& (8589934591 : Int64))), .second, .val (.long ((512 : Int64) + own_pad (q0 &&& (8589934591 : Int64)))), .second, .unset, .unset, .unset, .unset, .unset, .unset] [(.long (q0 &&& (8589934591 : Int64)))])) _
    refine XS.bipush X1.here hx rfl (hb hby at_13) ?_
    show Steps p.tables e below (T1.setTop (mkF m 15 #[.val (.long q0), .second, .val (.long (q0 &&& (8589934591 : Int64))), .second, .val (.long ((512 : Int64) + own_pad (q0 &&& (8589934591 : Int64)))), .second, .unset, .unset, .unset, .unset, .unset, .unset] [(.int (9 : Int32)), (.long (q0 &&& (8589934591 : Int64)))])) _
    refine XS.lushr X1.here hx rfl (hb hby at_15) rfl ?_
    show Steps p.tables e below (T1.setTop (mkF m 16 #[.val (.long q0), .second, .val (.long (q0 &&& (8589934591 : Int64))), .second, .val (.long ((512 : Int64) + own_pad (q0 &&& (8589934591 : Int64)))), .second, .unset, .unset, .unset, .unset, .unset, .unset] [(.long (((q0 &&& (8589934591 : Int64)).toUInt64 >>> ((9 : Int32) &&& 0x3f).toInt64.toUInt64).toInt64))])) _
    refine XS.lstore X1.here hx rfl (hb hby at_16) rfl (l' := #[.val (.long q0), .second, .val (.long (q0 &&& (8589934591 : Int64))), .second, .val (.long ((512 : Int64) + own_pad (q0 &&& (8589934591 : Int64)))), .second, .val (.long (((q0 &&& (8589934591 : Int64)).toUInt64 >>> ((9 : Int32) &&& 0x3f).toInt64.toUInt64).toInt64)), .second, .unset, .unset, .unset, .unset]) rfl ?_
    show Steps p.tables e below (T1.setTop (mkF m 18 #[.val (.long q0), .second, .val (.long (q0 &&& (8589934591 : Int64))), .second, .val (.long ((512 : Int64) + own_pad (q0 &&& (8589934591 : Int64)))), .second, .val (.long (((q0 &&& (8589934591 : Int64)).toUInt64 >>> ((9 : Int32) &&& 0x3f).toInt64.toUInt64).toInt64)), .second, .unset, .unset, .unset, .unset] [])) _
    refine XS.lloadN X1.here hx rfl (hb hby at_18) rfl ?_
    show Steps p.tables e below (T1.setTop (mkF m 19 #[.val (.long q0), .second, .val (.long (q0 &&& (8589934591 : Int64))), .second, .val (.long ((512 : Int64) + own_pad (q0 &&& (8589934591 : Int64)))), .second, .val (.long (((q0 &&& (8589934591 : Int64)).toUInt64 >>> ((9 : Int32) &&& 0x3f).toInt64.toUInt64).toInt64)), .second, .unset, .unset, .unset, .unset] [(.long (q0 &&& (8589934591 : Int64)))])) _
    refine X1.ldc2Long hx hown (mvT hZ (hw _ (List.mem_of_getElem? (i := 13) rfl))) (g := (mkF m 19 #[.val (.long q0), .second, .val (.long (q0 &&& (8589934591 : Int64))), .second, .val (.long ((512 : Int64) + own_pad (q0 &&& (8589934591 : Int64)))), .second, .val (.long (((q0 &&& (8589934591 : Int64)).toUInt64 >>> ((9 : Int32) &&& 0x3f).toInt64.toUInt64).toInt64)), .second, .unset, .unset, .unset, .unset] [(.long (q0 &&& (8589934591 : Int64)))])) rfl (hb hby at_19) _ ?_
    show Steps p.tables e below (T1.setTop (mkF m 22 #[.val (.long q0), .second, .val (.long (q0 &&& (8589934591 : Int64))), .second, .val (.long ((512 : Int64) + own_pad (q0 &&& (8589934591 : Int64)))), .second, .val (.long (((q0 &&& (8589934591 : Int64)).toUInt64 >>> ((9 : Int32) &&& 0x3f).toInt64.toUInt64).toInt64)), .second, .unset, .unset, .unset, .unset] [(.long (511 : Int64)), (.long (q0 &&& (8589934591 : Int64)))])) _
    refine XS.land X1.here hx rfl (hb hby at_22) rfl ?_
    show Steps p.tables e below (T1.setTop (mkF m 23 #[.val (.long q0), .second, .val (.long (q0 &&& (8589934591 : Int64))), .second, .val (.long ((512 : Int64) + own_pad (q0 &&& (8589934591 : Int64)))), .second, .val (.long (((q0 &&& (8589934591 : Int64)).toUInt64 >>> ((9 : Int32) &&& 0x3f).toInt64.toUInt64).toInt64)), .second, .unset, .unset, .unset, .unset] [(.long ((q0 &&& (8589934591 : Int64)) &&& (511 : Int64)))])) _
    refine XS.lconst X1.here hx rfl (hb hby at_23) ?_
    show Steps p.tables e below (T1.setTop (mkF m 24 #[.val (.long q0), .second, .val (.long (q0 &&& (8589934591 : Int64))), .second, .val (.long ((512 : Int64) + own_pad (q0 &&& (8589934591 : Int64)))), .second, .val (.long (((q0 &&& (8589934591 : Int64)).toUInt64 >>> ((9 : Int32) &&& 0x3f).toInt64.toUInt64).toInt64)), .second, .unset, .unset, .unset, .unset] [(.long (0 : Int64)), (.long ((q0 &&& (8589934591 : Int64)) &&& (511 : Int64)))])) _
    refine XS.lcmp X1.here hx rfl (hb hby at_24) rfl ?_
    exact kt
  by_cases hc25 : (lcmpW ((q0 &&& (8589934591 : Int64)) &&& (511 : Int64)) (0 : Int64)) = (0 : Int32)
  ·
    have hc53 : (lcmpW ((512 : Int64) + own_pad (q0 &&& (8589934591 : Int64))) ((512 : Int64) * (((1 : Int64) + (((q0 &&& (8589934591 : Int64)).toUInt64 >>> ((9 : Int32) &&& 0x3f).toInt64.toUInt64).toInt64)) + (0 : Int64)))) = (0 : Int32) := own_fin q0 _ (Or.inr ⟨by decide, (own_low q0).mp hc25⟩)
    obtain ⟨fs, hr, hrun, hended, hW, hsame⟩ := X1.leave (v := some (.int (1 : Int32))) (fun h => by rw [Bd.returns] at h; cases h) hlk
    refine ⟨_, _, K2 _ ?_, hrun, hended, _, _, rfl, ?_, ⟨_, rfl⟩, hW, hsame.mono (by decide) (by decide)⟩
    ·
      show Steps p.tables e below (T1.setTop (mkF m 25 #[.val (.long q0), .second, .val (.long (q0 &&& (8589934591 : Int64))), .second, .val (.long ((512 : Int64) + own_pad (q0 &&& (8589934591 : Int64)))), .second, .val (.long (((q0 &&& (8589934591 : Int64)).toUInt64 >>> ((9 : Int32) &&& 0x3f).toInt64.toUInt64).toInt64)), .second, .unset, .unset, .unset, .unset] [(.int (lcmpW ((q0 &&& (8589934591 : Int64)) &&& (511 : Int64)) (0 : Int64)))])) _
      refine XS.ifYes X1.here hx rfl (pc0 := 25) (pc' := 32) rfl (hb hby at_25) rfl ((if0 _ _).trans (teq hc25).1) (by decide) (by decide) ?_
      show Steps p.tables e below (T1.setTop (mkF m 32 #[.val (.long q0), .second, .val (.long (q0 &&& (8589934591 : Int64))), .second, .val (.long ((512 : Int64) + own_pad (q0 &&& (8589934591 : Int64)))), .second, .val (.long (((q0 &&& (8589934591 : Int64)).toUInt64 >>> ((9 : Int32) &&& 0x3f).toInt64.toUInt64).toInt64)), .second, .unset, .unset, .unset, .unset] [])) _
      refine XS.lconst X1.here hx rfl (hb hby at_32) ?_
      show Steps p.tables e below (T1.setTop (mkF m 33 #[.val (.long q0), .second, .val (.long (q0 &&& (8589934591 : Int64))), .second, .val (.long ((512 : Int64) + own_pad (q0 &&& (8589934591 : Int64)))), .second, .val (.long (((q0 &&& (8589934591 : Int64)).toUInt64 >>> ((9 : Int32) &&& 0x3f).toInt64.toUInt64).toInt64)), .second, .unset, .unset, .unset, .unset] [(.long (0 : Int64))])) _
      refine XS.lstore X1.here hx rfl (hb hby at_33) rfl (l' := #[.val (.long q0), .second, .val (.long (q0 &&& (8589934591 : Int64))), .second, .val (.long ((512 : Int64) + own_pad (q0 &&& (8589934591 : Int64)))), .second, .val (.long (((q0 &&& (8589934591 : Int64)).toUInt64 >>> ((9 : Int32) &&& 0x3f).toInt64.toUInt64).toInt64)), .second, .val (.long (0 : Int64)), .second, .unset, .unset]) rfl ?_
      show Steps p.tables e below (T1.setTop (mkF m 35 #[.val (.long q0), .second, .val (.long (q0 &&& (8589934591 : Int64))), .second, .val (.long ((512 : Int64) + own_pad (q0 &&& (8589934591 : Int64)))), .second, .val (.long (((q0 &&& (8589934591 : Int64)).toUInt64 >>> ((9 : Int32) &&& 0x3f).toInt64.toUInt64).toInt64)), .second, .val (.long (0 : Int64)), .second, .unset, .unset] [])) _
      refine X1.ldc2Long hx hown (mvT hZ (hw _ (List.mem_of_getElem? (i := 14) rfl))) (g := (mkF m 35 #[.val (.long q0), .second, .val (.long (q0 &&& (8589934591 : Int64))), .second, .val (.long ((512 : Int64) + own_pad (q0 &&& (8589934591 : Int64)))), .second, .val (.long (((q0 &&& (8589934591 : Int64)).toUInt64 >>> ((9 : Int32) &&& 0x3f).toInt64.toUInt64).toInt64)), .second, .val (.long (0 : Int64)), .second, .unset, .unset] [])) rfl (hb hby at_35) _ ?_
      show Steps p.tables e below (T1.setTop (mkF m 38 #[.val (.long q0), .second, .val (.long (q0 &&& (8589934591 : Int64))), .second, .val (.long ((512 : Int64) + own_pad (q0 &&& (8589934591 : Int64)))), .second, .val (.long (((q0 &&& (8589934591 : Int64)).toUInt64 >>> ((9 : Int32) &&& 0x3f).toInt64.toUInt64).toInt64)), .second, .val (.long (0 : Int64)), .second, .unset, .unset] [(.long (512 : Int64))])) _
      refine XS.lconst X1.here hx rfl (hb hby at_38) ?_
      show Steps p.tables e below (T1.setTop (mkF m 39 #[.val (.long q0), .second, .val (.long (q0 &&& (8589934591 : Int64))), .second, .val (.long ((512 : Int64) + own_pad (q0 &&& (8589934591 : Int64)))), .second, .val (.long (((q0 &&& (8589934591 : Int64)).toUInt64 >>> ((9 : Int32) &&& 0x3f).toInt64.toUInt64).toInt64)), .second, .val (.long (0 : Int64)), .second, .unset, .unset] [(.long (1 : Int64)), (.long (512 : Int64))])) _
      refine XS.lload X1.here hx rfl (hb hby at_39) rfl ?_
      show Steps p.tables e below (T1.setTop (mkF m 41 #[.val (.long q0), .second, .val (.long (q0 &&& (8589934591 : Int64))), .second, .val (.long ((512 : Int64) + own_pad (q0 &&& (8589934591 : Int64)))), .second, .val (.long (((q0 &&& (8589934591 : Int64)).toUInt64 >>> ((9 : Int32) &&& 0x3f).toInt64.toUInt64).toInt64)), .second, .val (.long (0 : Int64)), .second, .unset, .unset] [(.long (((q0 &&& (8589934591 : Int64)).toUInt64 >>> ((9 : Int32) &&& 0x3f).toInt64.toUInt64).toInt64)), (.long (1 : Int64)), (.long (512 : Int64))])) _
      refine XS.ladd X1.here hx rfl (hb hby at_41) rfl ?_
      show Steps p.tables e below (T1.setTop (mkF m 42 #[.val (.long q0), .second, .val (.long (q0 &&& (8589934591 : Int64))), .second, .val (.long ((512 : Int64) + own_pad (q0 &&& (8589934591 : Int64)))), .second, .val (.long (((q0 &&& (8589934591 : Int64)).toUInt64 >>> ((9 : Int32) &&& 0x3f).toInt64.toUInt64).toInt64)), .second, .val (.long (0 : Int64)), .second, .unset, .unset] [(.long ((1 : Int64) + (((q0 &&& (8589934591 : Int64)).toUInt64 >>> ((9 : Int32) &&& 0x3f).toInt64.toUInt64).toInt64))), (.long (512 : Int64))])) _
      refine XS.lload X1.here hx rfl (hb hby at_42) rfl ?_
      show Steps p.tables e below (T1.setTop (mkF m 44 #[.val (.long q0), .second, .val (.long (q0 &&& (8589934591 : Int64))), .second, .val (.long ((512 : Int64) + own_pad (q0 &&& (8589934591 : Int64)))), .second, .val (.long (((q0 &&& (8589934591 : Int64)).toUInt64 >>> ((9 : Int32) &&& 0x3f).toInt64.toUInt64).toInt64)), .second, .val (.long (0 : Int64)), .second, .unset, .unset] [(.long (0 : Int64)), (.long ((1 : Int64) + (((q0 &&& (8589934591 : Int64)).toUInt64 >>> ((9 : Int32) &&& 0x3f).toInt64.toUInt64).toInt64))), (.long (512 : Int64))])) _
      refine XS.ladd X1.here hx rfl (hb hby at_44) rfl ?_
      show Steps p.tables e below (T1.setTop (mkF m 45 #[.val (.long q0), .second, .val (.long (q0 &&& (8589934591 : Int64))), .second, .val (.long ((512 : Int64) + own_pad (q0 &&& (8589934591 : Int64)))), .second, .val (.long (((q0 &&& (8589934591 : Int64)).toUInt64 >>> ((9 : Int32) &&& 0x3f).toInt64.toUInt64).toInt64)), .second, .val (.long (0 : Int64)), .second, .unset, .unset] [(.long (((1 : Int64) + (((q0 &&& (8589934591 : Int64)).toUInt64 >>> ((9 : Int32) &&& 0x3f).toInt64.toUInt64).toInt64)) + (0 : Int64))), (.long (512 : Int64))])) _
      refine XS.lmul X1.here hx rfl (hb hby at_45) rfl ?_
      show Steps p.tables e below (T1.setTop (mkF m 46 #[.val (.long q0), .second, .val (.long (q0 &&& (8589934591 : Int64))), .second, .val (.long ((512 : Int64) + own_pad (q0 &&& (8589934591 : Int64)))), .second, .val (.long (((q0 &&& (8589934591 : Int64)).toUInt64 >>> ((9 : Int32) &&& 0x3f).toInt64.toUInt64).toInt64)), .second, .val (.long (0 : Int64)), .second, .unset, .unset] [(.long ((512 : Int64) * (((1 : Int64) + (((q0 &&& (8589934591 : Int64)).toUInt64 >>> ((9 : Int32) &&& 0x3f).toInt64.toUInt64).toInt64)) + (0 : Int64))))])) _
      refine XS.lstore X1.here hx rfl (hb hby at_46) rfl (l' := #[.val (.long q0), .second, .val (.long (q0 &&& (8589934591 : Int64))), .second, .val (.long ((512 : Int64) + own_pad (q0 &&& (8589934591 : Int64)))), .second, .val (.long (((q0 &&& (8589934591 : Int64)).toUInt64 >>> ((9 : Int32) &&& 0x3f).toInt64.toUInt64).toInt64)), .second, .val (.long (0 : Int64)), .second, .val (.long ((512 : Int64) * (((1 : Int64) + (((q0 &&& (8589934591 : Int64)).toUInt64 >>> ((9 : Int32) &&& 0x3f).toInt64.toUInt64).toInt64)) + (0 : Int64)))), .second]) rfl ?_
      show Steps p.tables e below (T1.setTop (mkF m 48 #[.val (.long q0), .second, .val (.long (q0 &&& (8589934591 : Int64))), .second, .val (.long ((512 : Int64) + own_pad (q0 &&& (8589934591 : Int64)))), .second, .val (.long (((q0 &&& (8589934591 : Int64)).toUInt64 >>> ((9 : Int32) &&& 0x3f).toInt64.toUInt64).toInt64)), .second, .val (.long (0 : Int64)), .second, .val (.long ((512 : Int64) * (((1 : Int64) + (((q0 &&& (8589934591 : Int64)).toUInt64 >>> ((9 : Int32) &&& 0x3f).toInt64.toUInt64).toInt64)) + (0 : Int64)))), .second] [])) _
      refine XS.lload X1.here hx rfl (hb hby at_48) rfl ?_
      show Steps p.tables e below (T1.setTop (mkF m 50 #[.val (.long q0), .second, .val (.long (q0 &&& (8589934591 : Int64))), .second, .val (.long ((512 : Int64) + own_pad (q0 &&& (8589934591 : Int64)))), .second, .val (.long (((q0 &&& (8589934591 : Int64)).toUInt64 >>> ((9 : Int32) &&& 0x3f).toInt64.toUInt64).toInt64)), .second, .val (.long (0 : Int64)), .second, .val (.long ((512 : Int64) * (((1 : Int64) + (((q0 &&& (8589934591 : Int64)).toUInt64 >>> ((9 : Int32) &&& 0x3f).toInt64.toUInt64).toInt64)) + (0 : Int64)))), .second] [(.long ((512 : Int64) + own_pad (q0 &&& (8589934591 : Int64))))])) _
      refine XS.lload X1.here hx rfl (hb hby at_50) rfl ?_
      show Steps p.tables e below (T1.setTop (mkF m 52 #[.val (.long q0), .second, .val (.long (q0 &&& (8589934591 : Int64))), .second, .val (.long ((512 : Int64) + own_pad (q0 &&& (8589934591 : Int64)))), .second, .val (.long (((q0 &&& (8589934591 : Int64)).toUInt64 >>> ((9 : Int32) &&& 0x3f).toInt64.toUInt64).toInt64)), .second, .val (.long (0 : Int64)), .second, .val (.long ((512 : Int64) * (((1 : Int64) + (((q0 &&& (8589934591 : Int64)).toUInt64 >>> ((9 : Int32) &&& 0x3f).toInt64.toUInt64).toInt64)) + (0 : Int64)))), .second] [(.long ((512 : Int64) * (((1 : Int64) + (((q0 &&& (8589934591 : Int64)).toUInt64 >>> ((9 : Int32) &&& 0x3f).toInt64.toUInt64).toInt64)) + (0 : Int64)))), (.long ((512 : Int64) + own_pad (q0 &&& (8589934591 : Int64))))])) _
      refine XS.lcmp X1.here hx rfl (hb hby at_52) rfl ?_
      show Steps p.tables e below (T1.setTop (mkF m 53 #[.val (.long q0), .second, .val (.long (q0 &&& (8589934591 : Int64))), .second, .val (.long ((512 : Int64) + own_pad (q0 &&& (8589934591 : Int64)))), .second, .val (.long (((q0 &&& (8589934591 : Int64)).toUInt64 >>> ((9 : Int32) &&& 0x3f).toInt64.toUInt64).toInt64)), .second, .val (.long (0 : Int64)), .second, .val (.long ((512 : Int64) * (((1 : Int64) + (((q0 &&& (8589934591 : Int64)).toUInt64 >>> ((9 : Int32) &&& 0x3f).toInt64.toUInt64).toInt64)) + (0 : Int64)))), .second] [(.int (lcmpW ((512 : Int64) + own_pad (q0 &&& (8589934591 : Int64))) ((512 : Int64) * (((1 : Int64) + (((q0 &&& (8589934591 : Int64)).toUInt64 >>> ((9 : Int32) &&& 0x3f).toInt64.toUInt64).toInt64)) + (0 : Int64)))))])) _
      refine XS.ifNo X1.here hx rfl (hb hby at_53) rfl ((if0 _ _).trans (teq hc53).2) ?_
      show Steps p.tables e below (T1.setTop (mkF m 56 #[.val (.long q0), .second, .val (.long (q0 &&& (8589934591 : Int64))), .second, .val (.long ((512 : Int64) + own_pad (q0 &&& (8589934591 : Int64)))), .second, .val (.long (((q0 &&& (8589934591 : Int64)).toUInt64 >>> ((9 : Int32) &&& 0x3f).toInt64.toUInt64).toInt64)), .second, .val (.long (0 : Int64)), .second, .val (.long ((512 : Int64) * (((1 : Int64) + (((q0 &&& (8589934591 : Int64)).toUInt64 >>> ((9 : Int32) &&& 0x3f).toInt64.toUInt64).toInt64)) + (0 : Int64)))), .second] [])) _
      refine XS.iconst X1.here hx rfl (hb hby at_56) ?_
      show Steps p.tables e below (T1.setTop (mkF m 57 #[.val (.long q0), .second, .val (.long (q0 &&& (8589934591 : Int64))), .second, .val (.long ((512 : Int64) + own_pad (q0 &&& (8589934591 : Int64)))), .second, .val (.long (((q0 &&& (8589934591 : Int64)).toUInt64 >>> ((9 : Int32) &&& 0x3f).toInt64.toUInt64).toInt64)), .second, .val (.long (0 : Int64)), .second, .val (.long ((512 : Int64) * (((1 : Int64) + (((q0 &&& (8589934591 : Int64)).toUInt64 >>> ((9 : Int32) &&& 0x3f).toInt64.toUInt64).toInt64)) + (0 : Int64)))), .second] [(.int (1 : Int32))])) _
      refine XS.goto X1.here hx rfl (pc0 := 57) (pc' := 61) rfl (hb hby at_57) (by decide) (by decide) ?_
      show Steps p.tables e below (T1.setTop (mkF m 61 #[.val (.long q0), .second, .val (.long (q0 &&& (8589934591 : Int64))), .second, .val (.long ((512 : Int64) + own_pad (q0 &&& (8589934591 : Int64)))), .second, .val (.long (((q0 &&& (8589934591 : Int64)).toUInt64 >>> ((9 : Int32) &&& 0x3f).toInt64.toUInt64).toInt64)), .second, .val (.long (0 : Int64)), .second, .val (.long ((512 : Int64) * (((1 : Int64) + (((q0 &&& (8589934591 : Int64)).toUInt64 >>> ((9 : Int32) &&& 0x3f).toInt64.toUInt64).toInt64)) + (0 : Int64)))), .second] [(.int (1 : Int32))])) _
      exact retN X1 hx (t := .boolean) Bd.returns (by simp) (hb hby at_61) hr
    ·
      show Q_rm0 Z q0 h0 n0 _ T1.heap _
      rw [e1]
      exact ⟨rfl, N1⟩
  ·
    have hc53 : (lcmpW ((512 : Int64) + own_pad (q0 &&& (8589934591 : Int64))) ((512 : Int64) * (((1 : Int64) + (((q0 &&& (8589934591 : Int64)).toUInt64 >>> ((9 : Int32) &&& 0x3f).toInt64.toUInt64).toInt64)) + (1 : Int64)))) = (0 : Int32) := own_fin q0 _ (Or.inl ⟨by decide, fun z => hc25 ((own_low q0).mpr z)⟩)
    obtain ⟨fs, hr, hrun, hended, hW, hsame⟩ := X1.leave (v := some (.int (1 : Int32))) (fun h => by rw [Bd.returns] at h; cases h) hlk
    refine ⟨_, _, K2 _ ?_, hrun, hended, _, _, rfl, ?_, ⟨_, rfl⟩, hW, hsame.mono (by decide) (by decide)⟩
    ·
      show Steps p.tables e below (T1.setTop (mkF m 25 #[.val (.long q0), .second, .val (.long (q0 &&& (8589934591 : Int64))), .second, .val (.long ((512 : Int64) + own_pad (q0 &&& (8589934591 : Int64)))), .second, .val (.long (((q0 &&& (8589934591 : Int64)).toUInt64 >>> ((9 : Int32) &&& 0x3f).toInt64.toUInt64).toInt64)), .second, .unset, .unset, .unset, .unset] [(.int (lcmpW ((q0 &&& (8589934591 : Int64)) &&& (511 : Int64)) (0 : Int64)))])) _
      refine XS.ifNo X1.here hx rfl (hb hby at_25) rfl ((if0 _ _).trans (feq hc25).1) ?_
      show Steps p.tables e below (T1.setTop (mkF m 28 #[.val (.long q0), .second, .val (.long (q0 &&& (8589934591 : Int64))), .second, .val (.long ((512 : Int64) + own_pad (q0 &&& (8589934591 : Int64)))), .second, .val (.long (((q0 &&& (8589934591 : Int64)).toUInt64 >>> ((9 : Int32) &&& 0x3f).toInt64.toUInt64).toInt64)), .second, .unset, .unset, .unset, .unset] [])) _
      refine XS.lconst X1.here hx rfl (hb hby at_28) ?_
      show Steps p.tables e below (T1.setTop (mkF m 29 #[.val (.long q0), .second, .val (.long (q0 &&& (8589934591 : Int64))), .second, .val (.long ((512 : Int64) + own_pad (q0 &&& (8589934591 : Int64)))), .second, .val (.long (((q0 &&& (8589934591 : Int64)).toUInt64 >>> ((9 : Int32) &&& 0x3f).toInt64.toUInt64).toInt64)), .second, .unset, .unset, .unset, .unset] [(.long (1 : Int64))])) _
      refine XS.goto X1.here hx rfl (pc0 := 29) (pc' := 33) rfl (hb hby at_29) (by decide) (by decide) ?_
      show Steps p.tables e below (T1.setTop (mkF m 33 #[.val (.long q0), .second, .val (.long (q0 &&& (8589934591 : Int64))), .second, .val (.long ((512 : Int64) + own_pad (q0 &&& (8589934591 : Int64)))), .second, .val (.long (((q0 &&& (8589934591 : Int64)).toUInt64 >>> ((9 : Int32) &&& 0x3f).toInt64.toUInt64).toInt64)), .second, .unset, .unset, .unset, .unset] [(.long (1 : Int64))])) _
      refine XS.lstore X1.here hx rfl (hb hby at_33) rfl (l' := #[.val (.long q0), .second, .val (.long (q0 &&& (8589934591 : Int64))), .second, .val (.long ((512 : Int64) + own_pad (q0 &&& (8589934591 : Int64)))), .second, .val (.long (((q0 &&& (8589934591 : Int64)).toUInt64 >>> ((9 : Int32) &&& 0x3f).toInt64.toUInt64).toInt64)), .second, .val (.long (1 : Int64)), .second, .unset, .unset]) rfl ?_
      show Steps p.tables e below (T1.setTop (mkF m 35 #[.val (.long q0), .second, .val (.long (q0 &&& (8589934591 : Int64))), .second, .val (.long ((512 : Int64) + own_pad (q0 &&& (8589934591 : Int64)))), .second, .val (.long (((q0 &&& (8589934591 : Int64)).toUInt64 >>> ((9 : Int32) &&& 0x3f).toInt64.toUInt64).toInt64)), .second, .val (.long (1 : Int64)), .second, .unset, .unset] [])) _
      refine X1.ldc2Long hx hown (mvT hZ (hw _ (List.mem_of_getElem? (i := 14) rfl))) (g := (mkF m 35 #[.val (.long q0), .second, .val (.long (q0 &&& (8589934591 : Int64))), .second, .val (.long ((512 : Int64) + own_pad (q0 &&& (8589934591 : Int64)))), .second, .val (.long (((q0 &&& (8589934591 : Int64)).toUInt64 >>> ((9 : Int32) &&& 0x3f).toInt64.toUInt64).toInt64)), .second, .val (.long (1 : Int64)), .second, .unset, .unset] [])) rfl (hb hby at_35) _ ?_
      show Steps p.tables e below (T1.setTop (mkF m 38 #[.val (.long q0), .second, .val (.long (q0 &&& (8589934591 : Int64))), .second, .val (.long ((512 : Int64) + own_pad (q0 &&& (8589934591 : Int64)))), .second, .val (.long (((q0 &&& (8589934591 : Int64)).toUInt64 >>> ((9 : Int32) &&& 0x3f).toInt64.toUInt64).toInt64)), .second, .val (.long (1 : Int64)), .second, .unset, .unset] [(.long (512 : Int64))])) _
      refine XS.lconst X1.here hx rfl (hb hby at_38) ?_
      show Steps p.tables e below (T1.setTop (mkF m 39 #[.val (.long q0), .second, .val (.long (q0 &&& (8589934591 : Int64))), .second, .val (.long ((512 : Int64) + own_pad (q0 &&& (8589934591 : Int64)))), .second, .val (.long (((q0 &&& (8589934591 : Int64)).toUInt64 >>> ((9 : Int32) &&& 0x3f).toInt64.toUInt64).toInt64)), .second, .val (.long (1 : Int64)), .second, .unset, .unset] [(.long (1 : Int64)), (.long (512 : Int64))])) _
      refine XS.lload X1.here hx rfl (hb hby at_39) rfl ?_
      show Steps p.tables e below (T1.setTop (mkF m 41 #[.val (.long q0), .second, .val (.long (q0 &&& (8589934591 : Int64))), .second, .val (.long ((512 : Int64) + own_pad (q0 &&& (8589934591 : Int64)))), .second, .val (.long (((q0 &&& (8589934591 : Int64)).toUInt64 >>> ((9 : Int32) &&& 0x3f).toInt64.toUInt64).toInt64)), .second, .val (.long (1 : Int64)), .second, .unset, .unset] [(.long (((q0 &&& (8589934591 : Int64)).toUInt64 >>> ((9 : Int32) &&& 0x3f).toInt64.toUInt64).toInt64)), (.long (1 : Int64)), (.long (512 : Int64))])) _
      refine XS.ladd X1.here hx rfl (hb hby at_41) rfl ?_
      show Steps p.tables e below (T1.setTop (mkF m 42 #[.val (.long q0), .second, .val (.long (q0 &&& (8589934591 : Int64))), .second, .val (.long ((512 : Int64) + own_pad (q0 &&& (8589934591 : Int64)))), .second, .val (.long (((q0 &&& (8589934591 : Int64)).toUInt64 >>> ((9 : Int32) &&& 0x3f).toInt64.toUInt64).toInt64)), .second, .val (.long (1 : Int64)), .second, .unset, .unset] [(.long ((1 : Int64) + (((q0 &&& (8589934591 : Int64)).toUInt64 >>> ((9 : Int32) &&& 0x3f).toInt64.toUInt64).toInt64))), (.long (512 : Int64))])) _
      refine XS.lload X1.here hx rfl (hb hby at_42) rfl ?_
      show Steps p.tables e below (T1.setTop (mkF m 44 #[.val (.long q0), .second, .val (.long (q0 &&& (8589934591 : Int64))), .second, .val (.long ((512 : Int64) + own_pad (q0 &&& (8589934591 : Int64)))), .second, .val (.long (((q0 &&& (8589934591 : Int64)).toUInt64 >>> ((9 : Int32) &&& 0x3f).toInt64.toUInt64).toInt64)), .second, .val (.long (1 : Int64)), .second, .unset, .unset] [(.long (1 : Int64)), (.long ((1 : Int64) + (((q0 &&& (8589934591 : Int64)).toUInt64 >>> ((9 : Int32) &&& 0x3f).toInt64.toUInt64).toInt64))), (.long (512 : Int64))])) _
      refine XS.ladd X1.here hx rfl (hb hby at_44) rfl ?_
      show Steps p.tables e below (T1.setTop (mkF m 45 #[.val (.long q0), .second, .val (.long (q0 &&& (8589934591 : Int64))), .second, .val (.long ((512 : Int64) + own_pad (q0 &&& (8589934591 : Int64)))), .second, .val (.long (((q0 &&& (8589934591 : Int64)).toUInt64 >>> ((9 : Int32) &&& 0x3f).toInt64.toUInt64).toInt64)), .second, .val (.long (1 : Int64)), .second, .unset, .unset] [(.long (((1 : Int64) + (((q0 &&& (8589934591 : Int64)).toUInt64 >>> ((9 : Int32) &&& 0x3f).toInt64.toUInt64).toInt64)) + (1 : Int64))), (.long (512 : Int64))])) _
      refine XS.lmul X1.here hx rfl (hb hby at_45) rfl ?_
      show Steps p.tables e below (T1.setTop (mkF m 46 #[.val (.long q0), .second, .val (.long (q0 &&& (8589934591 : Int64))), .second, .val (.long ((512 : Int64) + own_pad (q0 &&& (8589934591 : Int64)))), .second, .val (.long (((q0 &&& (8589934591 : Int64)).toUInt64 >>> ((9 : Int32) &&& 0x3f).toInt64.toUInt64).toInt64)), .second, .val (.long (1 : Int64)), .second, .unset, .unset] [(.long ((512 : Int64) * (((1 : Int64) + (((q0 &&& (8589934591 : Int64)).toUInt64 >>> ((9 : Int32) &&& 0x3f).toInt64.toUInt64).toInt64)) + (1 : Int64))))])) _
      refine XS.lstore X1.here hx rfl (hb hby at_46) rfl (l' := #[.val (.long q0), .second, .val (.long (q0 &&& (8589934591 : Int64))), .second, .val (.long ((512 : Int64) + own_pad (q0 &&& (8589934591 : Int64)))), .second, .val (.long (((q0 &&& (8589934591 : Int64)).toUInt64 >>> ((9 : Int32) &&& 0x3f).toInt64.toUInt64).toInt64)), .second, .val (.long (1 : Int64)), .second, .val (.long ((512 : Int64) * (((1 : Int64) + (((q0 &&& (8589934591 : Int64)).toUInt64 >>> ((9 : Int32) &&& 0x3f).toInt64.toUInt64).toInt64)) + (1 : Int64)))), .second]) rfl ?_
      show Steps p.tables e below (T1.setTop (mkF m 48 #[.val (.long q0), .second, .val (.long (q0 &&& (8589934591 : Int64))), .second, .val (.long ((512 : Int64) + own_pad (q0 &&& (8589934591 : Int64)))), .second, .val (.long (((q0 &&& (8589934591 : Int64)).toUInt64 >>> ((9 : Int32) &&& 0x3f).toInt64.toUInt64).toInt64)), .second, .val (.long (1 : Int64)), .second, .val (.long ((512 : Int64) * (((1 : Int64) + (((q0 &&& (8589934591 : Int64)).toUInt64 >>> ((9 : Int32) &&& 0x3f).toInt64.toUInt64).toInt64)) + (1 : Int64)))), .second] [])) _
      refine XS.lload X1.here hx rfl (hb hby at_48) rfl ?_
      show Steps p.tables e below (T1.setTop (mkF m 50 #[.val (.long q0), .second, .val (.long (q0 &&& (8589934591 : Int64))), .second, .val (.long ((512 : Int64) + own_pad (q0 &&& (8589934591 : Int64)))), .second, .val (.long (((q0 &&& (8589934591 : Int64)).toUInt64 >>> ((9 : Int32) &&& 0x3f).toInt64.toUInt64).toInt64)), .second, .val (.long (1 : Int64)), .second, .val (.long ((512 : Int64) * (((1 : Int64) + (((q0 &&& (8589934591 : Int64)).toUInt64 >>> ((9 : Int32) &&& 0x3f).toInt64.toUInt64).toInt64)) + (1 : Int64)))), .second] [(.long ((512 : Int64) + own_pad (q0 &&& (8589934591 : Int64))))])) _
      refine XS.lload X1.here hx rfl (hb hby at_50) rfl ?_
      show Steps p.tables e below (T1.setTop (mkF m 52 #[.val (.long q0), .second, .val (.long (q0 &&& (8589934591 : Int64))), .second, .val (.long ((512 : Int64) + own_pad (q0 &&& (8589934591 : Int64)))), .second, .val (.long (((q0 &&& (8589934591 : Int64)).toUInt64 >>> ((9 : Int32) &&& 0x3f).toInt64.toUInt64).toInt64)), .second, .val (.long (1 : Int64)), .second, .val (.long ((512 : Int64) * (((1 : Int64) + (((q0 &&& (8589934591 : Int64)).toUInt64 >>> ((9 : Int32) &&& 0x3f).toInt64.toUInt64).toInt64)) + (1 : Int64)))), .second] [(.long ((512 : Int64) * (((1 : Int64) + (((q0 &&& (8589934591 : Int64)).toUInt64 >>> ((9 : Int32) &&& 0x3f).toInt64.toUInt64).toInt64)) + (1 : Int64)))), (.long ((512 : Int64) + own_pad (q0 &&& (8589934591 : Int64))))])) _
      refine XS.lcmp X1.here hx rfl (hb hby at_52) rfl ?_
      show Steps p.tables e below (T1.setTop (mkF m 53 #[.val (.long q0), .second, .val (.long (q0 &&& (8589934591 : Int64))), .second, .val (.long ((512 : Int64) + own_pad (q0 &&& (8589934591 : Int64)))), .second, .val (.long (((q0 &&& (8589934591 : Int64)).toUInt64 >>> ((9 : Int32) &&& 0x3f).toInt64.toUInt64).toInt64)), .second, .val (.long (1 : Int64)), .second, .val (.long ((512 : Int64) * (((1 : Int64) + (((q0 &&& (8589934591 : Int64)).toUInt64 >>> ((9 : Int32) &&& 0x3f).toInt64.toUInt64).toInt64)) + (1 : Int64)))), .second] [(.int (lcmpW ((512 : Int64) + own_pad (q0 &&& (8589934591 : Int64))) ((512 : Int64) * (((1 : Int64) + (((q0 &&& (8589934591 : Int64)).toUInt64 >>> ((9 : Int32) &&& 0x3f).toInt64.toUInt64).toInt64)) + (1 : Int64)))))])) _
      refine XS.ifNo X1.here hx rfl (hb hby at_53) rfl ((if0 _ _).trans (teq hc53).2) ?_
      show Steps p.tables e below (T1.setTop (mkF m 56 #[.val (.long q0), .second, .val (.long (q0 &&& (8589934591 : Int64))), .second, .val (.long ((512 : Int64) + own_pad (q0 &&& (8589934591 : Int64)))), .second, .val (.long (((q0 &&& (8589934591 : Int64)).toUInt64 >>> ((9 : Int32) &&& 0x3f).toInt64.toUInt64).toInt64)), .second, .val (.long (1 : Int64)), .second, .val (.long ((512 : Int64) * (((1 : Int64) + (((q0 &&& (8589934591 : Int64)).toUInt64 >>> ((9 : Int32) &&& 0x3f).toInt64.toUInt64).toInt64)) + (1 : Int64)))), .second] [])) _
      refine XS.iconst X1.here hx rfl (hb hby at_56) ?_
      show Steps p.tables e below (T1.setTop (mkF m 57 #[.val (.long q0), .second, .val (.long (q0 &&& (8589934591 : Int64))), .second, .val (.long ((512 : Int64) + own_pad (q0 &&& (8589934591 : Int64)))), .second, .val (.long (((q0 &&& (8589934591 : Int64)).toUInt64 >>> ((9 : Int32) &&& 0x3f).toInt64.toUInt64).toInt64)), .second, .val (.long (1 : Int64)), .second, .val (.long ((512 : Int64) * (((1 : Int64) + (((q0 &&& (8589934591 : Int64)).toUInt64 >>> ((9 : Int32) &&& 0x3f).toInt64.toUInt64).toInt64)) + (1 : Int64)))), .second] [(.int (1 : Int32))])) _
      refine XS.goto X1.here hx rfl (pc0 := 57) (pc' := 61) rfl (hb hby at_57) (by decide) (by decide) ?_
      show Steps p.tables e below (T1.setTop (mkF m 61 #[.val (.long q0), .second, .val (.long (q0 &&& (8589934591 : Int64))), .second, .val (.long ((512 : Int64) + own_pad (q0 &&& (8589934591 : Int64)))), .second, .val (.long (((q0 &&& (8589934591 : Int64)).toUInt64 >>> ((9 : Int32) &&& 0x3f).toInt64.toUInt64).toInt64)), .second, .val (.long (1 : Int64)), .second, .val (.long ((512 : Int64) * (((1 : Int64) + (((q0 &&& (8589934591 : Int64)).toUInt64 >>> ((9 : Int32) &&& 0x3f).toInt64.toUInt64).toInt64)) + (1 : Int64)))), .second] [(.int (1 : Int32))])) _
      exact retN X1 hx (t := .boolean) Bd.returns (by simp) (hb hby at_61) hr
    ·
      show Q_rm0 Z q0 h0 n0 _ T1.heap _
      rw [e1]
      exact ⟨rfl, N1⟩
set_option maxRecDepth 65536 in
set_option maxHeartbeats 40000000 in
theorem comes_1 {Post : Tables → Env → Array Value → State → Outcome → State → Prop} (hpost : ∀ tb e args s v u, (limb_1_1.after args s (.returned v) u = true ∧ limb_1_2.after args s (.returned v) u = true ∧ True) → FrameEnd s (.returned v) u (Jvm.fieldLocs frame_1_writes args s ++ Jvm.arrayLocs frame_1_arrays args s ++ Jvm.staticLocs frame_1_statics s) 0 0 → Post tb e args s (.returned v) u) :
    ArmFor flags0 classFile x code maxLocals ret World_1 tables_1 room_1 Calls_1 rest_1 Pre_1 Post := by
  intro l hfl _ _ p e ha hc hk s m args below hf hA hF happ hP
  obtain ⟨hcalls, hrest, hpre⟩ := hP
  obtain ⟨-, -, -, hnamed, -, -, -, hat⟩ := (Spec.applies_iff hf).mp happ
  obtain ⟨hg, hn⟩ := and_e (Cond.before_iff.mp (show (Jvm.Cond.and given_1 narrow_1).before args s = true from hpre))
  obtain ⟨hg0, hg⟩ := and_e hg
  have ga0 := hg
  obtain ⟨w0, rfl⟩ : ∃ w0 : Value, args = #[w0] := by
    have hs : args.size = 1 := by simpa [Cond.value, given_1] using hg0
    obtain ⟨L⟩ := args
    match L, hs with
    | [w0], _ => exact ⟨w0, rfl⟩
  have hw := fun d (hd : d ∈ tables_1) => atoms_spec (ws := Jvm.Cond.code x code maxLocals ret :: tables_1) hat d (List.mem_cons_of_mem _ hd)
  have hfit : Fit s := fun {y c} hc i hi => by
    obtain ⟨ha, rfl⟩ := Array.getElem?_eq_some_iff.mp hc
    have q := List.all_eq_true.mp ((Array.all_eq_true_iff_forall_mem.mp hF) _ (Array.getElem_mem ha)) i (List.mem_range.mpr hi)
    simpa [Array.getElem?_eq_getElem hi] using q
  obtain ⟨i0, ei0⟩ := isL_v ga0
  obtain rfl : w0 = (.long i0) := Option.some.inj ei0
  obtain ⟨n, o, h1, h2, h3, _, L, rfl, ⟨rfl, N⟩, hq⟩ := rm0 l s _ hw tables_1 i0  s.heap s.heap.size (Nat.le_refl _)  p e ha hc hk s m _ below hf ((Spec.applies_iff_loose hf).mp happ).1 ⟨rfl, State.Warmed39.refl s, rfl⟩ trivial
  refine ⟨n, _, h1, h2, h3, hpost _ _ _ _ _ _ ⟨Cond.after_iff.mpr rfl, Cond.after_iff.mpr (eq_i res_at (Term.int_eval (1)) rfl), trivial⟩ ⟨hq.1, hq.2.1, (hq.2.2.sift fun y hy => Or.inr (N y hy)).mono (by decide) (by decide)⟩⟩
theorem main_1_1 : Claimed_1_1 := comes_1 fun _ _ _ _ _ _ h hF => ⟨h.1, hF⟩
theorem main_1_2 : Claimed_1_2 := comes_1 fun _ _ _ _ _ _ h hF => ⟨h.2.1, hF⟩
end Jvm.Pilot.@@N@@
namespace Jvm.Pilot.@@N@@
open Jvm Jvm.ClassFile Sem Op Lib Jvm.Free Jvm.Stand Jvm.Pilot.@@N@@.Jvm.D
/-! MADE BY PROGRAM (witnessworld.py) out of the Statement's table words and the real class files: 9 classes; the members and pool entries that the words name. The judged class is class 1, her method 1. -/
namespace start1
open Jvm.ClassFile
def u (s : String) : CpInfo := .utf8 (stringToUtf16 s)
/-- a pool by its gaps: so many unusable entries, then the entry; so many at the end -/
def gap : Nat → List CpInfo → List CpInfo
  | 0, r => r
  | n + 1, r => .unusable :: gap n r
def poolList (es : List (Nat × CpInfo)) (last : Nat) : List CpInfo := es.foldr (fun e r => gap e.1 (e.2 :: r)) (gap last [])
def pool (es : List (Nat × CpInfo)) (last : Nat) : Array CpInfo := ⟨poolList es last⟩
def fileOf (pool : Array CpInfo) (this : Nat) (attrs : Array Attribute := #[]) (ms : Array MethodInfo := #[]) (fl : Nat := 33) (sup : Nat := 0) (ifs : Array Nat := #[]) (fds : Array FieldInfo := #[]) : ClassFile where
  minorVersion := 0
  majorVersion := 65
  constantPool := pool
  accessFlags := fl
  thisClass := this
  superClass := sup
  interfaces := ifs
  fields := fds
  methods := ms
  attributes := attrs
def plain (name : String) (sup : Option ClassId) : Class where
  name := name
  kind := .ordinary
  loader := none
  accessFlags := 33
  super := sup
  interfaces := #[]
  cf := none
  fields := #[]
  methods := #[]
  instanceTypes := #[]
  staticTypes := #[]
  resolved := #[]
  callSites := []
  init := .initialized
  statics := none
  mirror := none

def pool0 : Array CpInfo := pool [(5, u "<init>"), (0, u "()V"), (1, .class_ 10), (1, u "java/lang/Object")] 113

def k0m0 : Method := { name := "<init>", desc := "()V", sig := { parameters := [], returnType := none }, accessFlags := 1, code := none }
/-- java/lang/Object -/
def k0 : Class := { plain "java/lang/Object" none with
  accessFlags := 33
  interfaces := #[]
  cf := some (fileOf pool0 8 #[] #[{ accessFlags := 1, nameIndex := 5, descriptorIndex := 6, attributes := #[] }] 33 0 #[] #[])
  fields := #[]
  methods := #[k0m0]
  instanceTypes := #[]
  staticTypes := #[]
  resolved := Array.replicate 124 none
  statics := none }

def pool1 : Array CpInfo := pool [(2, .class_ 4), (1, u "java/lang/Object"), (0, u "<init>"), (0, u "()V"), (0, .long 8589934591), (1, .methodref 10 11), (0, .class_ 12), (0, .nameAndType 13 14), (0, u "com/example/mandate/mandate/TarWriter"), (0, u "sizeOf"), (0, u "(J)J"), (0, .long 511), (1, .long 512), (1, .class_ 20), (0, u "com/example/mandate/mandate/TarWriterSizeOfPinLaw"), (2, u "law"), (0, u "(J)Z")] 3

def k1m0 : Method := { name := "<init>", desc := "()V", sig := { parameters := [], returnType := none }, accessFlags := 1, code := none }
def k1c1 : Code := { maxStack := 6, maxLocals := 12, code := code, exceptionTable := #[], attributes := #[] }
def k1m1 : Method := { name := "law", desc := "(J)Z", sig := { parameters := [.long], returnType := some .boolean }, accessFlags := 9, code := some k1c1 }
/-- com/example/mandate/mandate/TarWriterSizeOfPinLaw -/
def k1 : Class := { plain "com/example/mandate/mandate/TarWriterSizeOfPinLaw" (some 0) with
  accessFlags := 49
  interfaces := #[]
  cf := some (fileOf pool1 19 #[] #[{ accessFlags := 1, nameIndex := 5, descriptorIndex := 6, attributes := #[] }, { accessFlags := 9, nameIndex := 23, descriptorIndex := 24, attributes := #[] }] 49 2 #[] #[])
  fields := #[]
  methods := #[k1m0, k1m1]
  instanceTypes := #[]
  staticTypes := #[]
  resolved := Array.replicate 28 none
  statics := none }

def pool2 : Array CpInfo := pool [(1, .class_ 2), (0, u "com/example/mandate/mandate/TarWriter"), (1, .class_ 6), (1, u "java/lang/Object"), (4, u "out"), (0, u "Ljava/io/OutputStream;"), (8, u "time"), (0, u "J"), (2, u "user"), (0, u "I"), (2, u "group"), (0, .methodref 1 31), (0, .nameAndType 32 33), (0, u "requireHeld"), (0, u "(J)V"), (0, .long 512), (1, .methodref 1 37), (0, .nameAndType 38 39), (0, u "padded"), (0, u "(J)J"), (0, .long 8589934591), (130, u "BLOCK"), (2, u "END"), (1, u "MOST_SIZE"), (0, u "MOST_NAME"), (1, u "DIRECTORY_MODE"), (1, u "FILE_MODE"), (1, u "CHUNK"), (3, u "sizeOf")] 31

def k2c0 : Code := { maxStack := 4, maxLocals := 2, code := prog_25_method_2_code, exceptionTable := #[], attributes := #[] }
def k2m0 : Method := { name := "sizeOf", desc := "(J)J", sig := { parameters := [.long], returnType := some .long }, accessFlags := 8, code := some k2c0 }
def k2c1 : Code := { maxStack := 4, maxLocals := 2, code := prog_25_method_3_code, exceptionTable := #[], attributes := #[] }
def k2m1 : Method := { name := "requireHeld", desc := "(J)V", sig := { parameters := [.long], returnType := none }, accessFlags := 10, code := some k2c1 }
def k2c2 : Code := { maxStack := 4, maxLocals := 2, code := prog_25_method_11_code, exceptionTable := #[], attributes := #[] }
def k2m2 : Method := { name := "padded", desc := "(J)J", sig := { parameters := [.long], returnType := some .long }, accessFlags := 10, code := some k2c2 }
/-- com/example/mandate/mandate/TarWriter -/
def k2 : Class := { plain "com/example/mandate/mandate/TarWriter" (some 0) with
  accessFlags := 48
  interfaces := #[]
  cf := some (fileOf pool2 1 #[] #[{ accessFlags := 8, nameIndex := 187, descriptorIndex := 39, attributes := #[] }, { accessFlags := 10, nameIndex := 32, descriptorIndex := 33, attributes := #[] }, { accessFlags := 10, nameIndex := 38, descriptorIndex := 39, attributes := #[] }] 48 4 #[] #[{ accessFlags := 24, nameIndex := 171, descriptorIndex := 26, attributes := #[] }, { accessFlags := 24, nameIndex := 174, descriptorIndex := 26, attributes := #[] }, { accessFlags := 24, nameIndex := 176, descriptorIndex := 22, attributes := #[] }, { accessFlags := 26, nameIndex := 177, descriptorIndex := 26, attributes := #[] }, { accessFlags := 26, nameIndex := 179, descriptorIndex := 26, attributes := #[] }, { accessFlags := 26, nameIndex := 181, descriptorIndex := 26, attributes := #[] }, { accessFlags := 26, nameIndex := 183, descriptorIndex := 26, attributes := #[] }, { accessFlags := 18, nameIndex := 11, descriptorIndex := 12, attributes := #[] }, { accessFlags := 18, nameIndex := 21, descriptorIndex := 22, attributes := #[] }, { accessFlags := 18, nameIndex := 25, descriptorIndex := 26, attributes := #[] }, { accessFlags := 18, nameIndex := 29, descriptorIndex := 26, attributes := #[] }])
  fields := #[{ name := "BLOCK", type := .int, accessFlags := 24, slot := 0, constantValue := 0 }, { name := "END", type := .int, accessFlags := 24, slot := 1, constantValue := 0 }, { name := "MOST_SIZE", type := .long, accessFlags := 24, slot := 2, constantValue := 0 }, { name := "MOST_NAME", type := .int, accessFlags := 26, slot := 3, constantValue := 0 }, { name := "DIRECTORY_MODE", type := .int, accessFlags := 26, slot := 4, constantValue := 0 }, { name := "FILE_MODE", type := .int, accessFlags := 26, slot := 5, constantValue := 0 }, { name := "CHUNK", type := .int, accessFlags := 26, slot := 6, constantValue := 0 }, { name := "out", type := (.object "java/io/OutputStream"), accessFlags := 18, slot := 0, constantValue := 0 }, { name := "time", type := .long, accessFlags := 18, slot := 1, constantValue := 0 }, { name := "user", type := .int, accessFlags := 18, slot := 2, constantValue := 0 }, { name := "group", type := .int, accessFlags := 18, slot := 3, constantValue := 0 }]
  methods := #[k2m0, k2m1, k2m2]
  instanceTypes := #[(.object "java/io/OutputStream"), .long, .int, .int]
  staticTypes := #[.int, .int, .long, .int, .int, .int, .int]
  resolved := Array.replicate 219 none
  statics := none }

def pool3 : Array CpInfo := pool [(1, u "java/lang/Cloneable"), (0, .class_ 1), (0, u "java/lang/Object"), (0, .class_ 3)] 3

/-- java/lang/Cloneable -/
def k3 : Class := { plain "java/lang/Cloneable" (some 0) with
  accessFlags := 1537
  interfaces := #[]
  cf := some (fileOf pool3 2 #[] #[] 1537 4 #[] #[])
  fields := #[]
  methods := #[]
  instanceTypes := #[]
  staticTypes := #[]
  resolved := Array.replicate 8 none
  statics := none }

def pool4 : Array CpInfo := pool [(1, u "java/io/Serializable"), (0, .class_ 1), (0, u "java/lang/Object"), (0, .class_ 3)] 3

/-- java/io/Serializable -/
def k4 : Class := { plain "java/io/Serializable" (some 0) with
  accessFlags := 1537
  interfaces := #[]
  cf := some (fileOf pool4 2 #[] #[] 1537 4 #[] #[])
  fields := #[]
  methods := #[]
  instanceTypes := #[]
  staticTypes := #[]
  resolved := Array.replicate 8 none
  statics := none }

/-- the primitive byte -/
def k5 : Class := { plain "byte" none with kind := .primitive 'B', accessFlags := 0x411 }
/-- [B -/
def k6 : Class := { plain "[B" (some 0) with kind := .array 5 .byte, interfaces := #[3, 4], accessFlags := 1041 }

/-- the primitive int -/
def k7 : Class := { plain "int" none with kind := .primitive 'I', accessFlags := 0x411 }
/-- [I -/
def k8 : Class := { plain "[I" (some 0) with kind := .array 7 .int, interfaces := #[3, 4], accessFlags := 1041 }

def heap : Heap := #[]
def classes : Array Class := #[k0, k1, k2, k3, k4, k5, k6, k7, k8]
def interned : List (Array UInt16 × Addr) := []
def slotsUsed : Nat := 0
def theMethod : MethodId := ⟨1, 1⟩
def args0 : Array Value := #[.long 5]
def aboutOver (below : List Frame) : State where
  vm := { classes := classes, interned := interned.toArray }
  heap := heap
  slotsUsed := slotsUsed
  threads := #[{ frames := .invoking theMethod args0 :: below }]
def below0 : List Frame := [.native { method := ⟨0, 0⟩, args := #[] }]
def about1 : State := aboutOver below0
def p0 : Program := .bare "" "" ""
def e0 : Env := launch0.env 0 0 0
theorem w_frames : about1.frames = Frame.invoking theMethod args0 :: below0 := rfl
set_option maxRecDepth 65536 in
theorem w_args : argsFit about1.vm theMethod args0 = true := by decide +kernel
set_option maxRecDepth 65536 in
theorem w_heap : heapFits about1 = true := by decide +kernel
set_option maxRecDepth 65536 in
theorem w_runnable : about1.curStatus? = some .runnable := by decide +kernel
set_option maxRecDepth 65536 in
theorem w_alone : about1.alone = true := by decide +kernel
set_option maxRecDepth 65536 in
theorem w_named : about1.methodNamed? x = some theMethod := by decide +kernel
set_option maxRecDepth 65536 in
theorem w_hears : about1.hears theMethod below0 = true := by decide +kernel
set_option maxRecDepth 65536 in
theorem w_ripe : about1.ripe theMethod args0 below0 = true := by decide +kernel
theorem w_running : about1.status = .running := rfl
set_option maxRecDepth 65536 in
theorem w_room : about1.hasRoom e0.platform room_1 = true :=
  launch0.hasRoom_least _ room_1 (by decide +kernel) (by decide +kernel) (by decide +kernel) (by decide +kernel) (by decide +kernel) (by decide +kernel)
theorem allAtoms_all (ts : List Jvm.Cond) (a : Array Jvm.Value) (st : Jvm.State) : (allAtoms ts).before a st = ts.all (fun c => c.before a st) := by
  induction ts with
  | nil => rfl
  | cons c t ih =>
    show (Jvm.Cond.and c (allAtoms t)).before a st = _
    rw [Jvm.Cond.before_and, ih, List.all_cons]
def words1 : List Jvm.Cond := Jvm.Cond.code x code maxLocals ret :: tables_1
/-- a 'code' word, met by the world's own term for the bytes: nothing is compared byte by byte -/
theorem code_word {y : MethodName} {bytes : ByteArray} {mx : Nat} {rt : Option FieldType} {a : Array Value} {s : State} {m : MethodId} {meth : Method} {c : Code} (h1 : s.methodNamed? y = some m) (h2 : s.vm.method? m = some meth) (h3 : meth.code = some c) (h4 : c.code = bytes)
    (h5 : (c.maxLocals == mx && c.exceptionTable.isEmpty && decide (c.maxStack ≤ mostOperands) && decide (meth.sig.returnType = rt) && !meth.locks && decide (parseMethodDescriptor y.desc = some meth.sig)) = true) : (Jvm.Cond.code y bytes mx rt).before a s = true := by
  simp only [Bool.and_eq_true, beq_iff_eq, Bool.not_eq_true', decide_eq_true_eq] at h5
  obtain ⟨⟨⟨⟨⟨g1, g2⟩, g3⟩, g4⟩, g5⟩, g6⟩ := h5
  simp [Cond.before, Cond.holds, Cond.value, h1, h2, h3, h4, g1, g2, g3, g4, g5, g6]
def isCode : Jvm.Cond → Bool
  | .code _ _ _ _ => true
  | _ => false
theorem all_split {L : List Jvm.Cond} {P : Jvm.Cond → Bool} (h1 : L.all (fun c => isCode c || P c) = true) (h2 : ∀ c ∈ L.filter isCode, P c = true) : L.all P = true := by
  refine List.all_eq_true.mpr fun c hc => ?_
  have h := List.all_eq_true.mp h1 c hc
  rcases Bool.eq_false_or_eq_true (isCode c) with hi | hi
  · exact h2 c (List.mem_filter.mpr ⟨hc, hi⟩)
  · simpa [hi] using h
set_option maxRecDepth 65536 in
theorem w_c0 : (Jvm.Cond.code x code maxLocals ret).before args0 about1 = true := code_word (m := ⟨1, 1⟩) (meth := k1m1) (c := k1c1) (by decide +kernel) rfl rfl rfl (by decide +kernel)
set_option maxRecDepth 65536 in
theorem w_c1 : (Jvm.Cond.code ({ cls := "com/example/mandate/mandate/TarWriter", name := "sizeOf", desc := "(J)J" } : Jvm.MethodName) prog_25_method_2_code (2 : Nat) (Option.some Jvm.ClassFile.FieldType.long)).before args0 about1 = true := code_word (m := ⟨2, 0⟩) (meth := k2m0) (c := k2c0) (by decide +kernel) rfl rfl rfl (by decide +kernel)
set_option maxRecDepth 65536 in
theorem w_c2 : (Jvm.Cond.code ({ cls := "com/example/mandate/mandate/TarWriter", name := "requireHeld", desc := "(J)V" } : Jvm.MethodName) prog_25_method_3_code (2 : Nat) (Option.none : Option Jvm.ClassFile.FieldType)).before args0 about1 = true := code_word (m := ⟨2, 1⟩) (meth := k2m1) (c := k2c1) (by decide +kernel) rfl rfl rfl (by decide +kernel)
set_option maxRecDepth 65536 in
theorem w_c3 : (Jvm.Cond.code ({ cls := "com/example/mandate/mandate/TarWriter", name := "padded", desc := "(J)J" } : Jvm.MethodName) prog_25_method_11_code (2 : Nat) (Option.some Jvm.ClassFile.FieldType.long)).before args0 about1 = true := code_word (m := ⟨2, 2⟩) (meth := k2m2) (c := k2c2) (by decide +kernel) rfl rfl rfl (by decide +kernel)
def codes1 : List Jvm.Cond := [Jvm.Cond.code x code maxLocals ret, Jvm.Cond.code ({ cls := "com/example/mandate/mandate/TarWriter", name := "sizeOf", desc := "(J)J" } : Jvm.MethodName) prog_25_method_2_code (2 : Nat) (Option.some Jvm.ClassFile.FieldType.long), Jvm.Cond.code ({ cls := "com/example/mandate/mandate/TarWriter", name := "requireHeld", desc := "(J)V" } : Jvm.MethodName) prog_25_method_3_code (2 : Nat) (Option.none : Option Jvm.ClassFile.FieldType), Jvm.Cond.code ({ cls := "com/example/mandate/mandate/TarWriter", name := "padded", desc := "(J)J" } : Jvm.MethodName) prog_25_method_11_code (2 : Nat) (Option.some Jvm.ClassFile.FieldType.long)]
set_option maxRecDepth 65536 in
theorem codes_eq : words1.filter isCode = codes1 := rfl
theorem w_codes : ∀ c ∈ words1.filter isCode, c.before args0 about1 = true := by
  rw [codes_eq]
  intro c hc
  simp only [codes1, List.mem_cons, List.not_mem_nil, or_false] at hc
  rcases hc with rfl | rfl | rfl | rfl
  · exact w_c0
  · exact w_c1
  · exact w_c2
  · exact w_c3
set_option maxRecDepth 65536 in
theorem w_t1 : words1.all (fun c => isCode c || c.before args0 about1) = true := by decide +kernel
theorem w_tables : (allAtoms (Jvm.Cond.code x code maxLocals ret :: tables_1)).before args0 about1 = true := by
  rw [allAtoms_all]
  show words1.all (fun c => c.before args0 about1) = true
  refine all_split ?_ w_codes
  rw [w_t1]
set_option maxRecDepth 65536 in
theorem w_case : (Jvm.Cond.and given_1 narrow_1).before args0 about1 = true := by decide +kernel
theorem w_applies : (headSpec (Jvm.Cond.code x code maxLocals ret :: tables_1) room_1).applies x e0.platform about1 = true :=
  (Spec.applies_iff w_frames).mpr ⟨w_running, w_runnable, w_alone, w_named, w_hears, w_ripe, w_room, w_tables⟩
theorem atStart : AtStart classFile x code maxLocals ret World_1 tables_1 room_1 Calls_1 rest_1 Pre_1 launch0 p0 e0 about1 theMethod args0 below0 :=
  ⟨lists_1, trivial, launch0.admits_env _ _ _, launch0.least_env, fairChoices_fair.cas, fairChoices_fair.clock, w_frames, w_args, w_heap, w_applies, trivial, trivial, w_case⟩
end start1
theorem witness_1 : WitnessClaimed_1 := ⟨start1.p0, start1.e0, start1.about1, start1.theMethod, start1.args0, start1.below0, start1.atStart⟩
end Jvm.Pilot.@@N@@
