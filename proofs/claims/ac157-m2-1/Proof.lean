import JvmDerived
import JvmDerived.Pilot.@@N@@Statement
import JvmDerived.Pilot.@@N@@Code
set_option linter.unusedVariables false
set_option linter.unusedSimpArgs false
@@BLOCK:NumsL.lean.txt@@
namespace Jvm.RoadKit
open Sem ClassFile Op Lib Jvm.Stand Jvm.Free Jvm.LawKit
section New
variable {p : Program} {l : Launch} {e : Env} {R : Room} {s : State} {m : MethodId} {args : Array Value} {below : List Frame} {meth : Method} {c : Code} {T : State} {locs : List Loc} {cells slots : Nat}
theorem retI (X : Stand p l e R s m args below meth c T locs cells slots) (hx : p.tables.exec = Jvm.exec) {pc : Nat} {Ls : Array Slot} {z : Int32} {rest : List Value} (hret : meth.sig.returnType = some .int) (hd : decode c.code pc = .ok (.ireturn, 1)) {fs : List Frame}
    (hl : ∀ (f : JFrame) (acts : List Action), f.method = m → f.locked = none → f.entered = [] → (doReturn e (T.setTop f) acts (some (.int z))).1 = T.setFrames fs) : Steps p.tables e below (T.setTop (mkF m pc Ls (.int z :: rest))) (T.setFrames fs) := by
  have hm' : T.vm.method? m = some meth := X.method'
  have hn : narrow .int (.int z) = .int z := rfl
  show Steps p.tables e below (T.setTop { method := m, pc := pc, locals := Ls, stack := _ :: rest, locked := none }) _
  jvm_step X.here [X.here.top, hx, hd, hm', hret, hn]
  first | (intro acts; rw [hl _ acts rfl rfl rfl]) | rw [hl _ _ rfl rfl rfl]
  exact Steps.refl _
end New
end Jvm.RoadKit
namespace Jvm.Pilot.@@N@@
open Jvm Jvm.ClassFile Sem Op Lib Jvm.Free Jvm.Stand Jvm.LawKit Jvm.RoadKit Bundle Jvm.Pilot.@@N@@.Jvm.D
def own_lmin (p q : Int64) : Int64 := if (0 : Int32) < (lcmpW p q) then q else p
def own_lmax (p q : Int64) : Int64 := if (lcmpW p q) < (0 : Int32) then q else p
def own_span (st : Int64) (n : Int32) : Int64 := if (0 : Int32) < (lcmpW st ((9223372036854775807 : Int64) / (n.toInt64))) then (9223372036854775807 : Int64) else (st * (n.toInt64))
def own_slot (t st : Int64) (n : Int32) : Int32 := (((t / st) - ((t / st) / (n.toInt64)) * (n.toInt64)).toInt32)
theorem own_set (vs : List Value) (v : Value) : (vs ++ List.replicate 1 Value.null).set vs.length v = vs ++ [v] := by simp [List.set_append]
theorem own_irr (x : Int32) : ¬ (x < x) := by rw [Int32.lt_iff_toInt_lt]; omega
theorem own_nz64 {n : Int32} (h : 2 ≤ n.toInt) : (n.toInt64) ≠ 0 := fun e => by
  have g : (n.toInt64).toInt = n.toInt := Jvm.Kit.i64_of_i32 n
  rw [e] at g
  have k : (0 : Int64).toInt = 0 := by decide
  omega
theorem own_nzst {s : Int64} (h : 1 ≤ s.toInt) : s ≠ 0 := fun e => by
  rw [e] at h
  have k : (0 : Int64).toInt = 0 := by decide
  omega
theorem own_nn {i : Int32} (h : ¬ i < 0) : (i.toNatClampNeg : Int) = i.toInt := (nat_of h).symm
theorem own_ge0 {i : Int32} : ¬ i < 0 ↔ 0 ≤ i.toInt := by
  rw [Int32.lt_iff_toInt_lt]
  have k : (0 : Int32).toInt = 0 := by decide
  omega
def own_exs (Z : State) (h : Heap) (bs : List Addr) : Prop := ∀ x ∈ bs, Exa Z h x "com/example/lachesis/lachesis/timer/Bucket"
theorem own_exs.wr {Z : State} {h h' : Heap} {bs : List Addr} {a : Addr} {sl : Nat} {v : Value} (X : own_exs Z h bs) (Wq : Wr h h' a sl v) : own_exs Z h' bs := fun x q => (X x q).wr Wq
theorem own_exs.keep {Z : State} {h h' : Heap} {bs ws : List Addr} (X : own_exs Z h bs) (K : Keep h h' ws) : own_exs Z h' bs := fun x q => (X x q).keep K
theorem own_exs.at {Z : State} {h : Heap} {bs : List Addr} (X : own_exs Z h bs) {n : Nat} (hn : n < bs.length) : Exa Z h (bs.getD n 0) "com/example/lachesis/lachesis/timer/Bucket" := by
  rw [List.getD_eq_getElem?_getD, List.getElem?_eq_getElem hn]
  exact X _ (List.getElem_mem hn)
theorem d_jdk_29_method_66_code_0 : decode jdk_29_method_66_code 0 = .ok (.lload_n 0, 1) := by decide +kernel
theorem d_jdk_29_method_66_code_1 : decode jdk_29_method_66_code 1 = .ok (.lload_n 2, 1) := by decide +kernel
theorem d_jdk_29_method_66_code_2 : decode jdk_29_method_66_code 2 = .ok (.lcmp, 1) := by decide +kernel
theorem d_jdk_29_method_66_code_3 : decode jdk_29_method_66_code 3 = .ok (.ifCond .lt 7, 3) := by decide +kernel
theorem d_jdk_29_method_66_code_10 : decode jdk_29_method_66_code 10 = .ok (.lload_n 2, 1) := by decide +kernel
theorem d_jdk_29_method_66_code_11 : decode jdk_29_method_66_code 11 = .ok (.lreturn, 1) := by decide +kernel
theorem d_jdk_29_method_66_code_6 : decode jdk_29_method_66_code 6 = .ok (.lload_n 0, 1) := by decide +kernel
theorem d_jdk_29_method_66_code_7 : decode jdk_29_method_66_code 7 = .ok (.goto 4, 3) := by decide +kernel
theorem ef_rm_max (m : MethodId) (x0 : Int64) (x1 : Int64) : entryFrame m #[(.long x0), (.long x1)] 4 = mkF m 0 #[.val (.long x0), .second, .val (.long x1), .second] [] := by first | (simp [entryFrame, mkF, argsToLocals, Value.category]; done) | rfl
def Q_rm_max (Z : State) (q0 : Int64) (q1 : Int64) (h0 : Heap) (n0 : Nat) (v : Option Value) (h : Heap) (L : List Loc) : Prop := v = some (.long (own_lmax q0 q1)) ∧ Fr n0 L ∧ h = h0
set_option maxRecDepth 65536 in
set_option maxHeartbeats 40000000 in
theorem rm_max (l : Launch) (Z : State) (a0 : Array Value) (hw : ∀ d ∈ tables_1, d.before a0 Z = true) (ws : List Jvm.Cond) (q0 : Int64) (q1 : Int64) (h0 : Heap) (n0 : Nat) (Z0 : n0 ≤ h0.size) :
    MetFree l (⟨"java/lang/Math", "max", "(JJ)J"⟩ : MethodName) (head1 (Jvm.Cond.code (⟨"java/lang/Math", "max", "(JJ)J"⟩ : MethodName) jdk_29_method_66_code 4 (some .long) :: ws) ({ frames := 0, cells := 0, slots := 0, locals := 0 } : Room)) (fun a U => a = #[(.long q0), (.long q1)] ∧ Z.Warmed39 U.vm ∧ U.heap = h0) (fun _ _ _ _ _ => True) (fun _ U o U' => ∃ v L, o = .returned v ∧ Q_rm_max Z q0 q1 h0 n0 v U'.heap L ∧ FrameEnd U o U' L ({ frames := 0, cells := 0, slots := 0, locals := 0 } : Room).cells ({ frames := 0, cells := 0, slots := 0, locals := 0 } : Room).slots) := by
  refine MetFree.of_bodySF (Jvm.Free.JP.mathPlain rfl (by decide +kernel)) hisR ?_
  intro p e s m args below meth c s₁ Bd hml0 hP hK
  obtain ⟨rfl, hZ, hh⟩ := hP
  have hx := Bd.exec
  have hby := Bd.bytes
  have hml : c.maxLocals = 4 := hml0
  have hown : s.vm.findClass "java/lang/Math" = some m.cls := findClass_of_methodNamed Bd.named
  have hnm := (name_of_methodNamed Bd.named Bd.method).1
  have hlk : meth.locks = false := by first | exact BodyLoose.notSynchronized (by assumption) | exact Body.notSynchronized (by assumption) | assumption
  have X0 : Stand p l e ({ frames := 0, cells := 0, slots := 0, locals := 0 } : Room) s m #[(.long q0), (.long q1)] below meth c s₁ [] 0 0 := Stand.of_body Bd
  have e0 : s₁.heap = h0 := by rw [← hh, Bd.state]; rfl
  have N0 := Fr.nil n0
  have Zn := Z0
  have K0 : ∀ t, Steps p.tables e below (s₁.setTop (mkF m 0 #[.val (.long q0), .second, .val (.long q1), .second] [])) t → Steps p.tables e below (s₁.setTop (entryFrame m #[(.long q0), (.long q1)] 4)) t := fun t k => castTop (ef_rm_max m q0 q1) k
  have K1 : ∀ t, Steps p.tables e below (s₁.setTop (mkF m 3 #[.val (.long q0), .second, .val (.long q1), .second] [(.int (lcmpW q0 q1))])) t → Steps p.tables e below (s₁.setTop (entryFrame m #[(.long q0), (.long q1)] 4)) t := by
    intro t kt
    refine K0 t ?_
    show Steps p.tables e below (s₁.setTop (mkF m 0 #[.val (.long q0), .second, .val (.long q1), .second] [])) _
    refine XS.lloadN X0.here hx rfl (hb hby d_jdk_29_method_66_code_0) rfl ?_
    show Steps p.tables e below (s₁.setTop (mkF m 1 #[.val (.long q0), .second, .val (.long q1), .second] [(.long q0)])) _
    refine XS.lloadN X0.here hx rfl (hb hby d_jdk_29_method_66_code_1) rfl ?_
    show Steps p.tables e below (s₁.setTop (mkF m 2 #[.val (.long q0), .second, .val (.long q1), .second] [(.long q1), (.long q0)])) _
    refine XS.lcmp X0.here hx rfl (hb hby d_jdk_29_method_66_code_2) rfl ?_
    exact kt
  by_cases hc3 : (lcmpW q0 q1) < (0 : Int32)
  ·
    obtain ⟨fs, hr, hrun, hended, hW, hsame⟩ := X0.leave (v := some (.long q1)) (fun h => by rw [Bd.returns] at h; cases h) hlk
    refine ⟨_, _, K1 _ ?_, hrun, hended, _, _, rfl, ?_, ⟨_, rfl⟩, hW, hsame.mono (by decide) (by decide)⟩
    ·
      show Steps p.tables e below (s₁.setTop (mkF m 3 #[.val (.long q0), .second, .val (.long q1), .second] [(.int (lcmpW q0 q1))])) _
      refine XS.ifYes X0.here hx rfl (pc0 := 3) (pc' := 10) rfl (hb hby d_jdk_29_method_66_code_3) rfl ((if0 _ _).trans (tlt hc3).1) (by decide) (by decide) ?_
      show Steps p.tables e below (s₁.setTop (mkF m 10 #[.val (.long q0), .second, .val (.long q1), .second] [])) _
      refine XS.lloadN X0.here hx rfl (hb hby d_jdk_29_method_66_code_10) rfl ?_
      show Steps p.tables e below (s₁.setTop (mkF m 11 #[.val (.long q0), .second, .val (.long q1), .second] [(.long q1)])) _
      exact X0.lreturnOut hx Bd.returns (hb hby d_jdk_29_method_66_code_11) hr
    ·
      show Q_rm_max Z q0 q1 h0 n0 _ s₁.heap _
      rw [e0]
      refine ⟨?_, N0, rfl⟩
      simp only [own_lmax, hc3, if_true, if_false]
  ·
    obtain ⟨fs, hr, hrun, hended, hW, hsame⟩ := X0.leave (v := some (.long q0)) (fun h => by rw [Bd.returns] at h; cases h) hlk
    refine ⟨_, _, K1 _ ?_, hrun, hended, _, _, rfl, ?_, ⟨_, rfl⟩, hW, hsame.mono (by decide) (by decide)⟩
    ·
      show Steps p.tables e below (s₁.setTop (mkF m 3 #[.val (.long q0), .second, .val (.long q1), .second] [(.int (lcmpW q0 q1))])) _
      refine XS.ifNo X0.here hx rfl (hb hby d_jdk_29_method_66_code_3) rfl ((if0 _ _).trans (flt hc3).1) ?_
      show Steps p.tables e below (s₁.setTop (mkF m 6 #[.val (.long q0), .second, .val (.long q1), .second] [])) _
      refine XS.lloadN X0.here hx rfl (hb hby d_jdk_29_method_66_code_6) rfl ?_
      show Steps p.tables e below (s₁.setTop (mkF m 7 #[.val (.long q0), .second, .val (.long q1), .second] [(.long q0)])) _
      refine XS.goto X0.here hx rfl (pc0 := 7) (pc' := 11) rfl (hb hby d_jdk_29_method_66_code_7) (by decide) (by decide) ?_
      show Steps p.tables e below (s₁.setTop (mkF m 11 #[.val (.long q0), .second, .val (.long q1), .second] [(.long q0)])) _
      exact X0.lreturnOut hx Bd.returns (hb hby d_jdk_29_method_66_code_11) hr
    ·
      show Q_rm_max Z q0 q1 h0 n0 _ s₁.heap _
      rw [e0]
      refine ⟨?_, N0, rfl⟩
      simp only [own_lmax, hc3, if_true, if_false]
theorem d_jdk_29_method_70_code_0 : decode jdk_29_method_70_code 0 = .ok (.lload_n 0, 1) := by decide +kernel
theorem d_jdk_29_method_70_code_1 : decode jdk_29_method_70_code 1 = .ok (.lload_n 2, 1) := by decide +kernel
theorem d_jdk_29_method_70_code_2 : decode jdk_29_method_70_code 2 = .ok (.lcmp, 1) := by decide +kernel
theorem d_jdk_29_method_70_code_3 : decode jdk_29_method_70_code 3 = .ok (.ifCond .gt 7, 3) := by decide +kernel
theorem d_jdk_29_method_70_code_10 : decode jdk_29_method_70_code 10 = .ok (.lload_n 2, 1) := by decide +kernel
theorem d_jdk_29_method_70_code_11 : decode jdk_29_method_70_code 11 = .ok (.lreturn, 1) := by decide +kernel
theorem d_jdk_29_method_70_code_6 : decode jdk_29_method_70_code 6 = .ok (.lload_n 0, 1) := by decide +kernel
theorem d_jdk_29_method_70_code_7 : decode jdk_29_method_70_code 7 = .ok (.goto 4, 3) := by decide +kernel
theorem ef_rm_min (m : MethodId) (x0 : Int64) (x1 : Int64) : entryFrame m #[(.long x0), (.long x1)] 4 = mkF m 0 #[.val (.long x0), .second, .val (.long x1), .second] [] := by first | (simp [entryFrame, mkF, argsToLocals, Value.category]; done) | rfl
def Q_rm_min (Z : State) (q0 : Int64) (q1 : Int64) (h0 : Heap) (n0 : Nat) (v : Option Value) (h : Heap) (L : List Loc) : Prop := v = some (.long (own_lmin q0 q1)) ∧ Fr n0 L ∧ h = h0
set_option maxRecDepth 65536 in
set_option maxHeartbeats 40000000 in
theorem rm_min (l : Launch) (Z : State) (a0 : Array Value) (hw : ∀ d ∈ tables_1, d.before a0 Z = true) (ws : List Jvm.Cond) (q0 : Int64) (q1 : Int64) (h0 : Heap) (n0 : Nat) (Z0 : n0 ≤ h0.size) :
    MetFree l (⟨"java/lang/Math", "min", "(JJ)J"⟩ : MethodName) (head1 (Jvm.Cond.code (⟨"java/lang/Math", "min", "(JJ)J"⟩ : MethodName) jdk_29_method_70_code 4 (some .long) :: ws) ({ frames := 0, cells := 0, slots := 0, locals := 0 } : Room)) (fun a U => a = #[(.long q0), (.long q1)] ∧ Z.Warmed39 U.vm ∧ U.heap = h0) (fun _ _ _ _ _ => True) (fun _ U o U' => ∃ v L, o = .returned v ∧ Q_rm_min Z q0 q1 h0 n0 v U'.heap L ∧ FrameEnd U o U' L ({ frames := 0, cells := 0, slots := 0, locals := 0 } : Room).cells ({ frames := 0, cells := 0, slots := 0, locals := 0 } : Room).slots) := by
  refine MetFree.of_bodySF (Jvm.Free.JP.mathPlain rfl (by decide +kernel)) hisR ?_
  intro p e s m args below meth c s₁ Bd hml0 hP hK
  obtain ⟨rfl, hZ, hh⟩ := hP
  have hx := Bd.exec
  have hby := Bd.bytes
  have hml : c.maxLocals = 4 := hml0
  have hown : s.vm.findClass "java/lang/Math" = some m.cls := findClass_of_methodNamed Bd.named
  have hnm := (name_of_methodNamed Bd.named Bd.method).1
  have hlk : meth.locks = false := by first | exact BodyLoose.notSynchronized (by assumption) | exact Body.notSynchronized (by assumption) | assumption
  have X0 : Stand p l e ({ frames := 0, cells := 0, slots := 0, locals := 0 } : Room) s m #[(.long q0), (.long q1)] below meth c s₁ [] 0 0 := Stand.of_body Bd
  have e0 : s₁.heap = h0 := by rw [← hh, Bd.state]; rfl
  have N0 := Fr.nil n0
  have Zn := Z0
  have K0 : ∀ t, Steps p.tables e below (s₁.setTop (mkF m 0 #[.val (.long q0), .second, .val (.long q1), .second] [])) t → Steps p.tables e below (s₁.setTop (entryFrame m #[(.long q0), (.long q1)] 4)) t := fun t k => castTop (ef_rm_min m q0 q1) k
  have K1 : ∀ t, Steps p.tables e below (s₁.setTop (mkF m 3 #[.val (.long q0), .second, .val (.long q1), .second] [(.int (lcmpW q0 q1))])) t → Steps p.tables e below (s₁.setTop (entryFrame m #[(.long q0), (.long q1)] 4)) t := by
    intro t kt
    refine K0 t ?_
    show Steps p.tables e below (s₁.setTop (mkF m 0 #[.val (.long q0), .second, .val (.long q1), .second] [])) _
    refine XS.lloadN X0.here hx rfl (hb hby d_jdk_29_method_70_code_0) rfl ?_
    show Steps p.tables e below (s₁.setTop (mkF m 1 #[.val (.long q0), .second, .val (.long q1), .second] [(.long q0)])) _
    refine XS.lloadN X0.here hx rfl (hb hby d_jdk_29_method_70_code_1) rfl ?_
    show Steps p.tables e below (s₁.setTop (mkF m 2 #[.val (.long q0), .second, .val (.long q1), .second] [(.long q1), (.long q0)])) _
    refine XS.lcmp X0.here hx rfl (hb hby d_jdk_29_method_70_code_2) rfl ?_
    exact kt
  by_cases hc3 : (0 : Int32) < (lcmpW q0 q1)
  ·
    obtain ⟨fs, hr, hrun, hended, hW, hsame⟩ := X0.leave (v := some (.long q1)) (fun h => by rw [Bd.returns] at h; cases h) hlk
    refine ⟨_, _, K1 _ ?_, hrun, hended, _, _, rfl, ?_, ⟨_, rfl⟩, hW, hsame.mono (by decide) (by decide)⟩
    ·
      show Steps p.tables e below (s₁.setTop (mkF m 3 #[.val (.long q0), .second, .val (.long q1), .second] [(.int (lcmpW q0 q1))])) _
      refine XS.ifYes X0.here hx rfl (pc0 := 3) (pc' := 10) rfl (hb hby d_jdk_29_method_70_code_3) rfl ((if0 _ _).trans (tlt hc3).2.2.1) (by decide) (by decide) ?_
      show Steps p.tables e below (s₁.setTop (mkF m 10 #[.val (.long q0), .second, .val (.long q1), .second] [])) _
      refine XS.lloadN X0.here hx rfl (hb hby d_jdk_29_method_70_code_10) rfl ?_
      show Steps p.tables e below (s₁.setTop (mkF m 11 #[.val (.long q0), .second, .val (.long q1), .second] [(.long q1)])) _
      exact X0.lreturnOut hx Bd.returns (hb hby d_jdk_29_method_70_code_11) hr
    ·
      show Q_rm_min Z q0 q1 h0 n0 _ s₁.heap _
      rw [e0]
      refine ⟨?_, N0, rfl⟩
      simp only [own_lmin, hc3, if_true, if_false]
  ·
    obtain ⟨fs, hr, hrun, hended, hW, hsame⟩ := X0.leave (v := some (.long q0)) (fun h => by rw [Bd.returns] at h; cases h) hlk
    refine ⟨_, _, K1 _ ?_, hrun, hended, _, _, rfl, ?_, ⟨_, rfl⟩, hW, hsame.mono (by decide) (by decide)⟩
    ·
      show Steps p.tables e below (s₁.setTop (mkF m 3 #[.val (.long q0), .second, .val (.long q1), .second] [(.int (lcmpW q0 q1))])) _
      refine XS.ifNo X0.here hx rfl (hb hby d_jdk_29_method_70_code_3) rfl ((if0 _ _).trans (flt hc3).2.2.1) ?_
      show Steps p.tables e below (s₁.setTop (mkF m 6 #[.val (.long q0), .second, .val (.long q1), .second] [])) _
      refine XS.lloadN X0.here hx rfl (hb hby d_jdk_29_method_70_code_6) rfl ?_
      show Steps p.tables e below (s₁.setTop (mkF m 7 #[.val (.long q0), .second, .val (.long q1), .second] [(.long q0)])) _
      refine XS.goto X0.here hx rfl (pc0 := 7) (pc' := 11) rfl (hb hby d_jdk_29_method_70_code_7) (by decide) (by decide) ?_
      show Steps p.tables e below (s₁.setTop (mkF m 11 #[.val (.long q0), .second, .val (.long q1), .second] [(.long q0)])) _
      exact X0.lreturnOut hx Bd.returns (hb hby d_jdk_29_method_70_code_11) hr
    ·
      show Q_rm_min Z q0 q1 h0 n0 _ s₁.heap _
      rw [e0]
      refine ⟨?_, N0, rfl⟩
      simp only [own_lmin, hc3, if_true, if_false]
theorem d_prog_29_method_1_code_0 : decode prog_29_method_1_code 0 = .ok (.aload_n 0, 1) := by decide +kernel
theorem d_prog_29_method_1_code_1 : decode prog_29_method_1_code 1 = .ok (.invokespecial 1, 3) := by decide +kernel
theorem d_prog_29_method_1_code_4 : decode prog_29_method_1_code 4 = .ok (.aload_n 0, 1) := by decide +kernel
theorem d_prog_29_method_1_code_5 : decode prog_29_method_1_code 5 = .ok (.getstatic 7, 3) := by decide +kernel
theorem d_prog_29_method_1_code_8 : decode prog_29_method_1_code 8 = .ok (.putfield 13, 3) := by decide +kernel
theorem d_prog_29_method_1_code_11 : decode prog_29_method_1_code 11 = .ok (.return_, 1) := by decide +kernel
theorem pn_0 : plainName "com/example/lachesis/lachesis/timer/Bucket" = true := by first | (simp [plainName, overriddenIn]; done) | decide +kernel
theorem ef_rmB (m : MethodId) (x0 : Addr) : entryFrame m #[(.ref x0)] 1 = mkF m 0 #[.val (.ref x0)] [] := by first | (simp [entryFrame, mkF, argsToLocals, Value.category]; done) | rfl
def Q_rmB (Z : State) (r0 : Addr) (w_NONE : Addr) (h0 : Heap) (n0 : Nat) (v : Option Value) (h : Heap) (L : List Loc) : Prop := v = none ∧ Fr n0 L ∧ Keep h0 h [r0] ∧ Exa Z h r0 "com/example/lachesis/lachesis/timer/Bucket"
set_option maxRecDepth 65536 in
set_option maxHeartbeats 40000000 in
theorem rmB (l : Launch) (Z : State) (a0 : Array Value) (hw : ∀ d ∈ tables_1, d.before a0 Z = true) (ws : List Jvm.Cond) (r0 : Addr) (w_NONE : Addr) (h0 : Heap) (n0 : Nat) (Z0 : n0 ≤ h0.size) (S_NONE : Sta Z h0 "com/example/lachesis/lachesis/timer/Bucket" "NONE" "[Lcom/example/lachesis/lachesis/timer/TimerEntry;" (.ref w_NONE)) (E_r0 : Exa Z h0 r0 "com/example/lachesis/lachesis/timer/Bucket") (g_r0 : n0 ≤ r0) (F_entries_r0 : Fld Z h0 r0 "com/example/lachesis/lachesis/timer/Bucket" "entries" "[Lcom/example/lachesis/lachesis/timer/TimerEntry;" .null) :
    MetFree l (⟨"com/example/lachesis/lachesis/timer/Bucket", "<init>", "()V"⟩ : MethodName) (head1 (Jvm.Cond.code (⟨"com/example/lachesis/lachesis/timer/Bucket", "<init>", "()V"⟩ : MethodName) prog_29_method_1_code 1 none :: ws) ({ frames := 1, cells := 0, slots := 0, locals := 12 } : Room)) (fun a U => a = #[(.ref r0)] ∧ Z.Warmed39 U.vm ∧ U.heap = h0) (fun _ _ _ _ _ => True) (fun _ U o U' => ∃ v L, o = .returned v ∧ Q_rmB Z r0 w_NONE h0 n0 v U'.heap L ∧ FrameEnd U o U' L ({ frames := 1, cells := 0, slots := 0, locals := 12 } : Room).cells ({ frames := 1, cells := 0, slots := 0, locals := 12 } : Room).slots) := by
  refine MetFree.of_bodySF (plainFor_of_name pn_0) hisR ?_
  intro p e s m args below meth c s₁ Bd hml0 hP hK
  obtain ⟨rfl, hZ, hh⟩ := hP
  have hx := Bd.exec
  have hby := Bd.bytes
  have hml : c.maxLocals = 1 := hml0
  have hown : s.vm.findClass "com/example/lachesis/lachesis/timer/Bucket" = some m.cls := findClass_of_methodNamed Bd.named
  have hnm := (name_of_methodNamed Bd.named Bd.method).1
  have hlk : meth.locks = false := by first | exact BodyLoose.notSynchronized (by assumption) | exact Body.notSynchronized (by assumption) | assumption
  have X0 : Stand p l e ({ frames := 1, cells := 0, slots := 0, locals := 12 } : Room) s m #[(.ref r0)] below meth c s₁ [] 0 0 := Stand.of_body Bd
  have e0 : s₁.heap = h0 := by rw [← hh, Bd.state]; rfl
  have N0 := Fr.nil n0
  have Zn := Z0
  have K0 : ∀ t, Steps p.tables e below (s₁.setTop (mkF m 0 #[.val (.ref r0)] [])) t → Steps p.tables e below (s₁.setTop (entryFrame m #[(.ref r0)] 1)) t := fun t k => castTop (ef_rmB m r0) k
  have Kp : Keep h0 h0 [r0] := Keep.refl h0 [r0]
  obtain ⟨T1, X1, e1, st1⟩ := initO X0 hx hZ hown (hw _ (List.mem_of_getElem? (i := 33) rfl)) (hw _ (List.mem_of_getElem? (i := 18) rfl)) (hw _ (List.mem_of_getElem? (i := 19) rfl)) e0 (g := (mkF m 1 #[.val (.ref r0)] [(.ref r0)])) rfl (by rw [hml]; rfl) rfl (hb hby d_prog_29_method_1_code_1) (by decide) (W := 0) (by show 2 * 0 + _ ≤ _; exact Nat.le_of_eq rfl) (by decide)
  obtain ⟨T2, X2, e2, st2⟩ := getS2 X1 hx hZ hown (host := "") (Or.inl (hw _ (List.mem_of_getElem? (i := 34) rfl))) Via.refl e1 S_NONE (g := (mkF m 5 #[.val (.ref r0)] [(.ref r0)])) rfl (hb hby d_prog_29_method_1_code_5)
  obtain ⟨T3, h3, X3, e3, W3, st3⟩ := putF X2 hx hZ hown (host := "") (Or.inl (hw _ (List.mem_of_getElem? (i := 36) rfl))) Via.refl e2 F_entries_r0 E_r0 (Or.inl (hw _ (List.mem_of_getElem? (i := 37) rfl))) (hw _ (List.mem_of_getElem? (i := 28) rfl)) (ty := (.array (.object "com/example/lachesis/lachesis/timer/TimerEntry"))) (by decide) rfl rfl (g := (mkF m 8 #[.val (.ref r0)] [(.ref w_NONE), (.ref r0)])) rfl rfl (hb hby d_prog_29_method_1_code_8)
  replace E_r0 := E_r0.wr W3
  replace S_NONE := S_NONE.wr W3
  have F_entries_r0 := F_entries_r0.same W3
  have N3 := Fr.snoc X3 N0 g_r0
  have Kp := Kp.wr W3 (Or.inl (List.mem_of_getElem? (i := 0) rfl))
  replace Zn := Nat.le_trans Zn (Keep.of_wr W3).1
  obtain ⟨fs, hr, hrun, hended, hW, hsame⟩ := X3.leave (v := none) (fun _ => rfl) hlk
  refine ⟨_, _, K0 _ ?_, hrun, hended, _, _, rfl, ?_, ⟨_, rfl⟩, hW, hsame.mono (by decide) (by decide)⟩
  ·
    show Steps p.tables e below (s₁.setTop (mkF m 0 #[.val (.ref r0)] [])) _
    refine XS.aloadN X0.here hx rfl (hb hby d_prog_29_method_1_code_0) rfl rfl ?_
    show Steps p.tables e below (s₁.setTop (mkF m 1 #[.val (.ref r0)] [(.ref r0)])) _
    refine st1 _ ?_
    show Steps p.tables e below (T1.setTop (mkF m 4 #[.val (.ref r0)] [])) _
    refine XS.aloadN X1.here hx rfl (hb hby d_prog_29_method_1_code_4) rfl rfl ?_
    show Steps p.tables e below (T1.setTop (mkF m 5 #[.val (.ref r0)] [(.ref r0)])) _
    refine st2 _ ?_
    show Steps p.tables e below (T2.setTop (mkF m 8 #[.val (.ref r0)] [(.ref w_NONE), (.ref r0)])) _
    refine st3 _ ?_
    show Steps p.tables e below (T3.setTop (mkF m 11 #[.val (.ref r0)] [])) _
    exact X3.returnOut hx Bd.returns (hb hby d_prog_29_method_1_code_11) hr
  ·
    show Q_rmB Z r0 w_NONE h0 n0 _ T3.heap _
    rw [e3]
    exact ⟨rfl, N3, Kp, E_r0⟩
theorem d_prog_37_method_3_code_0 : decode prog_37_method_3_code 0 = .ok (.lload_n 1, 1) := by decide +kernel
theorem d_prog_37_method_3_code_1 : decode prog_37_method_3_code 1 = .ok (.aload_n 0, 1) := by decide +kernel
theorem d_prog_37_method_3_code_2 : decode prog_37_method_3_code 2 = .ok (.getfield 7, 3) := by decide +kernel
theorem d_prog_37_method_3_code_5 : decode prog_37_method_3_code 5 = .ok (.ldiv, 1) := by decide +kernel
theorem d_prog_37_method_3_code_6 : decode prog_37_method_3_code 6 = .ok (.lstore_n 3, 1) := by decide +kernel
theorem d_prog_37_method_3_code_7 : decode prog_37_method_3_code 7 = .ok (.aload_n 0, 1) := by decide +kernel
theorem d_prog_37_method_3_code_8 : decode prog_37_method_3_code 8 = .ok (.lload_n 3, 1) := by decide +kernel
theorem d_prog_37_method_3_code_9 : decode prog_37_method_3_code 9 = .ok (.aload_n 0, 1) := by decide +kernel
theorem d_prog_37_method_3_code_10 : decode prog_37_method_3_code 10 = .ok (.getfield 7, 3) := by decide +kernel
theorem d_prog_37_method_3_code_13 : decode prog_37_method_3_code 13 = .ok (.lmul, 1) := by decide +kernel
theorem d_prog_37_method_3_code_14 : decode prog_37_method_3_code 14 = .ok (.putfield 31, 3) := by decide +kernel
theorem d_prog_37_method_3_code_17 : decode prog_37_method_3_code 17 = .ok (.aload_n 0, 1) := by decide +kernel
theorem d_prog_37_method_3_code_18 : decode prog_37_method_3_code 18 = .ok (.lload_n 3, 1) := by decide +kernel
theorem d_prog_37_method_3_code_19 : decode prog_37_method_3_code 19 = .ok (.aload_n 0, 1) := by decide +kernel
theorem d_prog_37_method_3_code_20 : decode prog_37_method_3_code 20 = .ok (.getfield 22, 3) := by decide +kernel
theorem d_prog_37_method_3_code_23 : decode prog_37_method_3_code 23 = .ok (.arraylength, 1) := by decide +kernel
theorem d_prog_37_method_3_code_24 : decode prog_37_method_3_code 24 = .ok (.i2l, 1) := by decide +kernel
theorem d_prog_37_method_3_code_25 : decode prog_37_method_3_code 25 = .ok (.lrem, 1) := by decide +kernel
theorem d_prog_37_method_3_code_26 : decode prog_37_method_3_code 26 = .ok (.l2i, 1) := by decide +kernel
theorem d_prog_37_method_3_code_27 : decode prog_37_method_3_code 27 = .ok (.putfield 34, 3) := by decide +kernel
theorem d_prog_37_method_3_code_30 : decode prog_37_method_3_code 30 = .ok (.return_, 1) := by decide +kernel
theorem pn_1 : plainName "com/example/lachesis/lachesis/timer/Wheel" = true := by first | (simp [plainName, overriddenIn]; done) | decide +kernel
theorem ef_rmM (m : MethodId) (x0 : Addr) (x1 : Int64) : entryFrame m #[(.ref x0), (.long x1)] 5 = mkF m 0 #[.val (.ref x0), .val (.long x1), .second, .unset, .unset] [] := by first | (simp [entryFrame, mkF, argsToLocals, Value.category]; done) | rfl
def Q_rmM (Z : State) (r0 : Addr) (q1 : Int64) (st : Int64) (sp : Int64) (ba : Addr) (ss : Int64) (sl : Int32) (kk : ClassId) (nn : Int32) (vs : List Value) (h0 : Heap) (n0 : Nat) (v : Option Value) (h : Heap) (L : List Loc) : Prop := v = none ∧ Fr n0 L ∧ Keep h0 h [r0] ∧ Exa Z h r0 "com/example/lachesis/lachesis/timer/Wheel" ∧ Fld Z h r0 "com/example/lachesis/lachesis/timer/Wheel" "slotTicks" "J" (.long st) ∧ Fld Z h r0 "com/example/lachesis/lachesis/timer/Wheel" "spanTicks" "J" (.long sp) ∧ Fld Z h r0 "com/example/lachesis/lachesis/timer/Wheel" "buckets" "[Lcom/example/lachesis/lachesis/timer/Bucket;" (.ref ba) ∧ Fld Z h r0 "com/example/lachesis/lachesis/timer/Wheel" "slotStart" "J" (.long ((q1 / st) * st)) ∧ Fld Z h r0 "com/example/lachesis/lachesis/timer/Wheel" "slot" "I" (.int (own_slot q1 st nn))
set_option maxRecDepth 65536 in
set_option maxHeartbeats 40000000 in
theorem rmM (l : Launch) (Z : State) (a0 : Array Value) (hw : ∀ d ∈ tables_1, d.before a0 Z = true) (ws : List Jvm.Cond) (r0 : Addr) (q1 : Int64) (st : Int64) (sp : Int64) (ba : Addr) (ss : Int64) (sl : Int32) (kk : ClassId) (nn : Int32) (vs : List Value) (h0 : Heap) (n0 : Nat) (Z0 : n0 ≤ h0.size) (E_r0 : Exa Z h0 r0 "com/example/lachesis/lachesis/timer/Wheel") (g_r0 : n0 ≤ r0) (ne_ba_r0 : ba ≠ r0) (F_slotTicks_r0 : Fld Z h0 r0 "com/example/lachesis/lachesis/timer/Wheel" "slotTicks" "J" (.long st)) (F_spanTicks_r0 : Fld Z h0 r0 "com/example/lachesis/lachesis/timer/Wheel" "spanTicks" "J" (.long sp)) (F_buckets_r0 : Fld Z h0 r0 "com/example/lachesis/lachesis/timer/Wheel" "buckets" "[Lcom/example/lachesis/lachesis/timer/Bucket;" (.ref ba)) (F_slotStart_r0 : Fld Z h0 r0 "com/example/lachesis/lachesis/timer/Wheel" "slotStart" "J" (.long ss)) (F_slot_r0 : Fld Z h0 r0 "com/example/lachesis/lachesis/timer/Wheel" "slot" "I" (.int sl)) (V_ba : Arv Z h0 ba kk (.object "com/example/lachesis/lachesis/timer/Bucket") nn vs .null) (hst : st ≠ 0) (hnn : (nn.toInt64) ≠ 0) :
    MetFree l (⟨"com/example/lachesis/lachesis/timer/Wheel", "moveTo", "(J)V"⟩ : MethodName) (head1 (Jvm.Cond.code (⟨"com/example/lachesis/lachesis/timer/Wheel", "moveTo", "(J)V"⟩ : MethodName) prog_37_method_3_code 5 none :: ws) ({ frames := 0, cells := 0, slots := 0, locals := 0 } : Room)) (fun a U => a = #[(.ref r0), (.long q1)] ∧ Z.Warmed39 U.vm ∧ U.heap = h0) (fun _ _ _ _ _ => True) (fun _ U o U' => ∃ v L, o = .returned v ∧ Q_rmM Z r0 q1 st sp ba ss sl kk nn vs h0 n0 v U'.heap L ∧ FrameEnd U o U' L ({ frames := 0, cells := 0, slots := 0, locals := 0 } : Room).cells ({ frames := 0, cells := 0, slots := 0, locals := 0 } : Room).slots) := by
  refine MetFree.of_bodySF (plainFor_of_name pn_1) hisR ?_
  intro p e s m args below meth c s₁ Bd hml0 hP hK
  obtain ⟨rfl, hZ, hh⟩ := hP
  have hx := Bd.exec
  have hby := Bd.bytes
  have hml : c.maxLocals = 5 := hml0
  have hown : s.vm.findClass "com/example/lachesis/lachesis/timer/Wheel" = some m.cls := findClass_of_methodNamed Bd.named
  have hnm := (name_of_methodNamed Bd.named Bd.method).1
  have hlk : meth.locks = false := by first | exact BodyLoose.notSynchronized (by assumption) | exact Body.notSynchronized (by assumption) | assumption
  have X0 : Stand p l e ({ frames := 0, cells := 0, slots := 0, locals := 0 } : Room) s m #[(.ref r0), (.long q1)] below meth c s₁ [] 0 0 := Stand.of_body Bd
  have e0 : s₁.heap = h0 := by rw [← hh, Bd.state]; rfl
  have N0 := Fr.nil n0
  have Zn := Z0
  have K0 : ∀ t, Steps p.tables e below (s₁.setTop (mkF m 0 #[.val (.ref r0), .val (.long q1), .second, .unset, .unset] [])) t → Steps p.tables e below (s₁.setTop (entryFrame m #[(.ref r0), (.long q1)] 5)) t := fun t k => castTop (ef_rmM m r0 q1) k
  have Kp : Keep h0 h0 [r0] := Keep.refl h0 [r0]
  obtain ⟨T1, X1, e1, st1⟩ := getF X0 hx hZ hown (host := "") (Or.inl (hw _ (List.mem_of_getElem? (i := 20) rfl))) Via.refl e0 F_slotTicks_r0 (g := (mkF m 2 #[.val (.ref r0), .val (.long q1), .second, .unset, .unset] [(.ref r0), (.long q1)])) rfl rfl (hb hby d_prog_37_method_3_code_2)
  obtain ⟨T2, X2, e2, st2⟩ := getF X1 hx hZ hown (host := "") (Or.inl (hw _ (List.mem_of_getElem? (i := 20) rfl))) Via.refl e1 F_slotTicks_r0 (g := (mkF m 10 #[.val (.ref r0), .val (.long q1), .second, .val (.long (q1 / st)), .second] [(.ref r0), (.long (q1 / st)), (.ref r0)])) rfl rfl (hb hby d_prog_37_method_3_code_10)
  obtain ⟨T3, h3, X3, e3, W3, st3⟩ := putF X2 hx hZ hown (host := "") (Or.inl (hw _ (List.mem_of_getElem? (i := 44) rfl))) Via.refl e2 F_slotStart_r0 E_r0 (Or.inl (hw _ (List.mem_of_getElem? (i := 45) rfl))) (hw _ (List.mem_of_getElem? (i := 12) rfl)) (ty := .long) (by decide) rfl rfl (g := (mkF m 14 #[.val (.ref r0), .val (.long q1), .second, .val (.long (q1 / st)), .second] [(.long ((q1 / st) * st)), (.ref r0)])) rfl rfl (hb hby d_prog_37_method_3_code_14)
  replace E_r0 := E_r0.wr W3
  replace F_slotTicks_r0 := F_slotTicks_r0.other W3 (Or.inr (slot_ne (Or.inr (hw _ (List.mem_of_getElem? (i := 21) rfl))) (Or.inl (hw _ (List.mem_of_getElem? (i := 45) rfl))) (by decide) (t := .long) (t' := .long) (by decide) (by decide)))
  replace F_spanTicks_r0 := F_spanTicks_r0.other W3 (Or.inr (slot_ne (Or.inr (hw _ (List.mem_of_getElem? (i := 24) rfl))) (Or.inl (hw _ (List.mem_of_getElem? (i := 45) rfl))) (by decide) (t := .long) (t' := .long) (by decide) (by decide)))
  replace F_buckets_r0 := F_buckets_r0.other W3 (Or.inr (slot_ne (Or.inr (hw _ (List.mem_of_getElem? (i := 27) rfl))) (Or.inl (hw _ (List.mem_of_getElem? (i := 45) rfl))) (by decide) (t := (.array (.object "com/example/lachesis/lachesis/timer/Bucket"))) (t' := .long) (by decide) (by decide)))
  replace F_slot_r0 := F_slot_r0.other W3 (Or.inr (slot_ne (Or.inl (hw _ (List.mem_of_getElem? (i := 47) rfl))) (Or.inl (hw _ (List.mem_of_getElem? (i := 45) rfl))) (by decide) (t := .int) (t' := .long) (by decide) (by decide)))
  replace V_ba := V_ba.other W3 ne_ba_r0
  have F_slotStart_r0 := F_slotStart_r0.same W3
  have N3 := Fr.snoc X3 N0 g_r0
  have Kp := Kp.wr W3 (Or.inl (List.mem_of_getElem? (i := 0) rfl))
  replace Zn := Nat.le_trans Zn (Keep.of_wr W3).1
  obtain ⟨T4, X4, e4, st4⟩ := getF X3 hx hZ hown (host := "") (Or.inl (hw _ (List.mem_of_getElem? (i := 26) rfl))) Via.refl e3 F_buckets_r0 (g := (mkF m 20 #[.val (.ref r0), .val (.long q1), .second, .val (.long (q1 / st)), .second] [(.ref r0), (.long (q1 / st)), (.ref r0)])) rfl rfl (hb hby d_prog_37_method_3_code_20)
  have Vq5 := V_ba
  obtain ⟨cl5, Ar5, -, S5, N5z, -, -⟩ := Vq5
  obtain ⟨T6, h6, X6, e6, W6, st6⟩ := putF X4 hx hZ hown (host := "") (Or.inl (hw _ (List.mem_of_getElem? (i := 46) rfl))) Via.refl e4 F_slot_r0 E_r0 (Or.inl (hw _ (List.mem_of_getElem? (i := 47) rfl))) (hw _ (List.mem_of_getElem? (i := 12) rfl)) (ty := .int) (by decide) rfl rfl (g := (mkF m 27 #[.val (.ref r0), .val (.long q1), .second, .val (.long (q1 / st)), .second] [(.int (((q1 / st) - ((q1 / st) / (nn.toInt64)) * (nn.toInt64)).toInt32)), (.ref r0)])) rfl rfl (hb hby d_prog_37_method_3_code_27)
  replace E_r0 := E_r0.wr W6
  replace F_slotTicks_r0 := F_slotTicks_r0.other W6 (Or.inr (slot_ne (Or.inr (hw _ (List.mem_of_getElem? (i := 21) rfl))) (Or.inl (hw _ (List.mem_of_getElem? (i := 47) rfl))) (by decide) (t := .long) (t' := .int) (by decide) (by decide)))
  replace F_spanTicks_r0 := F_spanTicks_r0.other W6 (Or.inr (slot_ne (Or.inr (hw _ (List.mem_of_getElem? (i := 24) rfl))) (Or.inl (hw _ (List.mem_of_getElem? (i := 47) rfl))) (by decide) (t := .long) (t' := .int) (by decide) (by decide)))
  replace F_buckets_r0 := F_buckets_r0.other W6 (Or.inr (slot_ne (Or.inr (hw _ (List.mem_of_getElem? (i := 27) rfl))) (Or.inl (hw _ (List.mem_of_getElem? (i := 47) rfl))) (by decide) (t := (.array (.object "com/example/lachesis/lachesis/timer/Bucket"))) (t' := .int) (by decide) (by decide)))
  replace F_slotStart_r0 := F_slotStart_r0.other W6 (Or.inr (slot_ne (Or.inl (hw _ (List.mem_of_getElem? (i := 45) rfl))) (Or.inl (hw _ (List.mem_of_getElem? (i := 47) rfl))) (by decide) (t := .long) (t' := .int) (by decide) (by decide)))
  replace V_ba := V_ba.other W6 ne_ba_r0
  have F_slot_r0 := F_slot_r0.same W6
  have N6 := Fr.snoc X6 N3 g_r0
  have Kp := Kp.wr W6 (Or.inl (List.mem_of_getElem? (i := 0) rfl))
  replace Zn := Nat.le_trans Zn (Keep.of_wr W6).1
  obtain ⟨fs, hr, hrun, hended, hW, hsame⟩ := X6.leave (v := none) (fun _ => rfl) hlk
  refine ⟨_, _, K0 _ ?_, hrun, hended, _, _, rfl, ?_, ⟨_, rfl⟩, hW, hsame.mono (by decide) (by decide)⟩
  ·
    show Steps p.tables e below (s₁.setTop (mkF m 0 #[.val (.ref r0), .val (.long q1), .second, .unset, .unset] [])) _
    refine XS.lloadN X0.here hx rfl (hb hby d_prog_37_method_3_code_0) rfl ?_
    show Steps p.tables e below (s₁.setTop (mkF m 1 #[.val (.ref r0), .val (.long q1), .second, .unset, .unset] [(.long q1)])) _
    refine XS.aloadN X0.here hx rfl (hb hby d_prog_37_method_3_code_1) rfl rfl ?_
    show Steps p.tables e below (s₁.setTop (mkF m 2 #[.val (.ref r0), .val (.long q1), .second, .unset, .unset] [(.ref r0), (.long q1)])) _
    refine st1 _ ?_
    show Steps p.tables e below (T1.setTop (mkF m 5 #[.val (.ref r0), .val (.long q1), .second, .unset, .unset] [(.long st), (.long q1)])) _
    refine XS.ldiv X1.here hx rfl (hb hby d_prog_37_method_3_code_5) rfl hst ?_
    show Steps p.tables e below (T1.setTop (mkF m 6 #[.val (.ref r0), .val (.long q1), .second, .unset, .unset] [(.long (q1 / st))])) _
    refine XS.lstoreN X1.here hx rfl (hb hby d_prog_37_method_3_code_6) rfl (l' := #[.val (.ref r0), .val (.long q1), .second, .val (.long (q1 / st)), .second]) rfl ?_
    show Steps p.tables e below (T1.setTop (mkF m 7 #[.val (.ref r0), .val (.long q1), .second, .val (.long (q1 / st)), .second] [])) _
    refine XS.aloadN X1.here hx rfl (hb hby d_prog_37_method_3_code_7) rfl rfl ?_
    show Steps p.tables e below (T1.setTop (mkF m 8 #[.val (.ref r0), .val (.long q1), .second, .val (.long (q1 / st)), .second] [(.ref r0)])) _
    refine XS.lloadN X1.here hx rfl (hb hby d_prog_37_method_3_code_8) rfl ?_
    show Steps p.tables e below (T1.setTop (mkF m 9 #[.val (.ref r0), .val (.long q1), .second, .val (.long (q1 / st)), .second] [(.long (q1 / st)), (.ref r0)])) _
    refine XS.aloadN X1.here hx rfl (hb hby d_prog_37_method_3_code_9) rfl rfl ?_
    show Steps p.tables e below (T1.setTop (mkF m 10 #[.val (.ref r0), .val (.long q1), .second, .val (.long (q1 / st)), .second] [(.ref r0), (.long (q1 / st)), (.ref r0)])) _
    refine st2 _ ?_
    show Steps p.tables e below (T2.setTop (mkF m 13 #[.val (.ref r0), .val (.long q1), .second, .val (.long (q1 / st)), .second] [(.long st), (.long (q1 / st)), (.ref r0)])) _
    refine XS.lmul X2.here hx rfl (hb hby d_prog_37_method_3_code_13) rfl ?_
    show Steps p.tables e below (T2.setTop (mkF m 14 #[.val (.ref r0), .val (.long q1), .second, .val (.long (q1 / st)), .second] [(.long ((q1 / st) * st)), (.ref r0)])) _
    refine st3 _ ?_
    show Steps p.tables e below (T3.setTop (mkF m 17 #[.val (.ref r0), .val (.long q1), .second, .val (.long (q1 / st)), .second] [])) _
    refine XS.aloadN X3.here hx rfl (hb hby d_prog_37_method_3_code_17) rfl rfl ?_
    show Steps p.tables e below (T3.setTop (mkF m 18 #[.val (.ref r0), .val (.long q1), .second, .val (.long (q1 / st)), .second] [(.ref r0)])) _
    refine XS.lloadN X3.here hx rfl (hb hby d_prog_37_method_3_code_18) rfl ?_
    show Steps p.tables e below (T3.setTop (mkF m 19 #[.val (.ref r0), .val (.long q1), .second, .val (.long (q1 / st)), .second] [(.long (q1 / st)), (.ref r0)])) _
    refine XS.aloadN X3.here hx rfl (hb hby d_prog_37_method_3_code_19) rfl rfl ?_
    show Steps p.tables e below (T3.setTop (mkF m 20 #[.val (.ref r0), .val (.long q1), .second, .val (.long (q1 / st)), .second] [(.ref r0), (.long (q1 / st)), (.ref r0)])) _
    refine st4 _ ?_
    show Steps p.tables e below (T4.setTop (mkF m 23 #[.val (.ref r0), .val (.long q1), .second, .val (.long (q1 / st)), .second] [(.ref ba), (.long (q1 / st)), (.ref r0)])) _
    refine X4.arraylength hx (by rw [e4]; exact Ar5.1) (State.isArrayOf_alike hZ.alike Ar5.2.1) (g := (mkF m 23 #[.val (.ref r0), .val (.long q1), .second, .val (.long (q1 / st)), .second] [(.ref ba), (.long (q1 / st)), (.ref r0)])) rfl rfl (hb hby d_prog_37_method_3_code_23) _ ?_
    rw [len_of S5 N5z]
    show Steps p.tables e below (T4.setTop (mkF m 24 #[.val (.ref r0), .val (.long q1), .second, .val (.long (q1 / st)), .second] [(.int nn), (.long (q1 / st)), (.ref r0)])) _
    refine XS.i2l X4.here hx rfl (hb hby d_prog_37_method_3_code_24) rfl ?_
    show Steps p.tables e below (T4.setTop (mkF m 25 #[.val (.ref r0), .val (.long q1), .second, .val (.long (q1 / st)), .second] [(.long (nn.toInt64)), (.long (q1 / st)), (.ref r0)])) _
    refine XS.lrem X4.here hx rfl (hb hby d_prog_37_method_3_code_25) rfl hnn ?_
    show Steps p.tables e below (T4.setTop (mkF m 26 #[.val (.ref r0), .val (.long q1), .second, .val (.long (q1 / st)), .second] [(.long ((q1 / st) - ((q1 / st) / (nn.toInt64)) * (nn.toInt64))), (.ref r0)])) _
    refine XS.l2i X4.here hx rfl (hb hby d_prog_37_method_3_code_26) rfl ?_
    show Steps p.tables e below (T4.setTop (mkF m 27 #[.val (.ref r0), .val (.long q1), .second, .val (.long (q1 / st)), .second] [(.int (((q1 / st) - ((q1 / st) / (nn.toInt64)) * (nn.toInt64)).toInt32)), (.ref r0)])) _
    refine st6 _ ?_
    show Steps p.tables e below (T6.setTop (mkF m 30 #[.val (.ref r0), .val (.long q1), .second, .val (.long (q1 / st)), .second] [])) _
    exact X6.returnOut hx Bd.returns (hb hby d_prog_37_method_3_code_30) hr
  ·
    show Q_rmM Z r0 q1 st sp ba ss sl kk nn vs h0 n0 _ T6.heap _
    rw [e6]
    exact ⟨rfl, N6, Kp, E_r0, F_slotTicks_r0, F_spanTicks_r0, F_buckets_r0, F_slotStart_r0, F_slot_r0⟩
theorem d_prog_37_method_1_code_45 : decode prog_37_method_1_code 45 = .ok (.iload 6, 2) := by decide +kernel
theorem d_prog_37_method_1_code_47 : decode prog_37_method_1_code 47 = .ok (.iload_n 3, 1) := by decide +kernel
theorem d_prog_37_method_1_code_48 : decode prog_37_method_1_code 48 = .ok (.if_icmp .ge 23, 3) := by decide +kernel
theorem d_prog_37_method_1_code_51 : decode prog_37_method_1_code 51 = .ok (.aload_n 0, 1) := by decide +kernel
theorem d_prog_37_method_1_code_52 : decode prog_37_method_1_code 52 = .ok (.getfield 22, 3) := by decide +kernel
theorem d_prog_37_method_1_code_55 : decode prog_37_method_1_code 55 = .ok (.iload 6, 2) := by decide +kernel
theorem d_prog_37_method_1_code_57 : decode prog_37_method_1_code 57 = .ok (.new 20, 3) := by decide +kernel
theorem d_prog_37_method_1_code_60 : decode prog_37_method_1_code 60 = .ok (.dup, 1) := by decide +kernel
theorem d_prog_37_method_1_code_61 : decode prog_37_method_1_code 61 = .ok (.invokespecial 26, 3) := by decide +kernel
theorem pd_2 : parseMethodDescriptor "()V" = some ⟨[], none⟩ := by decide +kernel
theorem d_prog_37_method_1_code_64 : decode prog_37_method_1_code 64 = .ok (.aastore, 1) := by decide +kernel
theorem d_prog_37_method_1_code_65 : decode prog_37_method_1_code 65 = .ok (.iinc 6 1, 3) := by decide +kernel
theorem d_prog_37_method_1_code_68 : decode prog_37_method_1_code 68 = .ok (.goto (-23), 3) := by decide +kernel
set_option maxRecDepth 65536 in
set_option maxHeartbeats 40000000 in
theorem tnW {p : Program} {l : Launch} {e : Env} {s : State} {m : MethodId} {args : Array Value} {below : List Frame} {meth : Method} {c : Code} {T0 : State} {locs : List Loc} {cells slots : Nat} {Z : State} {a0 : Array Value} {h0 : Heap} {n0 : Nat} (r0 : Addr) (q1 : Int64) (p2 : Int32) (q3 : Int64) (i : Int32) (w_NONE : Addr) (ba : Addr) (kk : ClassId) (vs : List Value)
    (X0 : Stand p l e ({ frames := 2, cells := 6, slots := 25, locals := 27 } : Room) s m args below meth c T0 locs cells slots) (hx : p.tables.exec = Jvm.exec) (hZ : Z.Warmed39 s.vm) (hw : ∀ d ∈ tables_1, d.before a0 Z = true) (hby : c.code = prog_37_method_1_code) (hml : c.maxLocals = 7) (hown : s.vm.findClass "com/example/lachesis/lachesis/timer/Wheel" = some m.cls) (e0 : T0.heap = h0) (Z0 : n0 ≤ h0.size) (N0 : Fr n0 locs) (S_NONE : Sta Z Z.heap "com/example/lachesis/lachesis/timer/Bucket" "NONE" "[Lcom/example/lachesis/lachesis/timer/TimerEntry;" (.ref w_NONE)) (OLD : Old Z n0 h0) (F_buckets_r0 : Fld Z h0 r0 "com/example/lachesis/lachesis/timer/Wheel" "buckets" "[Lcom/example/lachesis/lachesis/timer/Bucket;" (.ref ba)) (V_ba : Arv Z h0 ba kk (.object "com/example/lachesis/lachesis/timer/Bucket") p2 vs .null) (O_ba : Ovr Z kk "com/example/lachesis/lachesis/timer/Bucket") (g_ba : n0 ≤ ba) (ne_r0_ba : r0 ≠ ba) (hi0 : ¬ i < 0) (hlt : i < p2) (hlen : i.toNatClampNeg = vs.length) (hcap : cells + 1 ≤ ({ frames := 2, cells := 6, slots := 25, locals := 27 } : Room).cells) (hslo : slots + 4 ≤ ({ frames := 2, cells := 6, slots := 25, locals := 27 } : Room).slots) :
    ∃ (b : Addr) (T' : State) (h' : Heap) (locs' : List Loc), Stand p l e ({ frames := 2, cells := 6, slots := 25, locals := 27 } : Room) s m args below meth c T' locs' (cells + 1) (slots + 4) ∧ T'.heap = h' ∧ Fr n0 locs' ∧ n0 ≤ h'.size ∧ Keep h0 h' [ba] ∧ h0.size ≤ b ∧ Exa Z h' b "com/example/lachesis/lachesis/timer/Bucket" ∧ Arv Z h' ba kk (.object "com/example/lachesis/lachesis/timer/Bucket") p2 (vs ++ [Value.ref b]) .null ∧ ∀ t, Steps p.tables e below (T'.setTop (mkF m 45 #[.val (.ref r0), .val (.long q1), .second, .val (.int p2), .val (.long q3), .second, .val (.int (i + (1 : Int32)))] [])) t → Steps p.tables e below (T0.setTop (mkF m 45 #[.val (.ref r0), .val (.long q1), .second, .val (.int p2), .val (.long q3), .second, .val (.int i)] [])) t := by
  have Zn := Z0
  have K0 : ∀ t, Steps p.tables e below (T0.setTop (mkF m 45 #[.val (.ref r0), .val (.long q1), .second, .val (.int p2), .val (.long q3), .second, .val (.int i)] [])) t → Steps p.tables e below (T0.setTop (mkF m 45 #[.val (.ref r0), .val (.long q1), .second, .val (.int p2), .val (.long q3), .second, .val (.int i)] [])) t := fun t k => k
  have Kp : Keep h0 h0 [ba] := Keep.refl h0 [ba]
  have hc48 : i < p2 := hlt
  obtain ⟨T1, X1, e1, st1⟩ := getF X0 hx hZ hown (host := "") (Or.inl (hw _ (List.mem_of_getElem? (i := 26) rfl))) Via.refl e0 F_buckets_r0 (g := (mkF m 52 #[.val (.ref r0), .val (.long q1), .second, .val (.int p2), .val (.long q3), .second, .val (.int i)] [(.ref r0)])) rfl rfl (hb hby d_prog_37_method_1_code_52)
  obtain ⟨T2, h2, X2, e2, E2, A2, D2, -, st2⟩ := newO X1 hx hZ hown (hw _ (List.mem_of_getElem? (i := 25) rfl)) (hw _ (List.mem_of_getElem? (i := 28) rfl)) (hw _ (List.mem_of_getElem? (i := 29) rfl)) e1 (g := (mkF m 57 #[.val (.ref r0), .val (.long q1), .second, .val (.int p2), .val (.long q3), .second, .val (.int i)] [(.int i), (.ref ba)])) rfl (hb hby d_prog_37_method_1_code_57) hcap hslo
  obtain ⟨b2, g2⟩ : ∃ z, z = h0.size := ⟨_, rfl⟩
  rw [← g2] at A2 D2 st2
  have g_b2 : n0 ≤ b2 := Nat.le_trans Zn (Nat.le_of_eq g2.symm)
  have sz_b2 : h0.size ≤ b2 := Nat.le_trans Kp.1 (Nat.le_of_eq g2.symm)
  have ne_r0_b2 : r0 ≠ b2 := Nat.ne_of_lt (Nat.lt_of_lt_of_le F_buckets_r0.lt (Nat.le_of_eq g2.symm))
  have ne_ba_b2 : ba ≠ b2 := Nat.ne_of_lt (Nat.lt_of_lt_of_le V_ba.lt (Nat.le_of_eq g2.symm))
  replace OLD := OLD.ext E2
  replace F_buckets_r0 := F_buckets_r0.ext E2
  replace V_ba := V_ba.ext E2
  replace Zn := Nat.le_trans Zn E2.1
  have Kp := Kp.ext E2
  have E_b2 := A2
  have F_entries_b2 : Fld Z h2 b2 "com/example/lachesis/lachesis/timer/Bucket" "entries" "[Lcom/example/lachesis/lachesis/timer/TimerEntry;" .null := D2 (Or.inl (hw _ (List.mem_of_getElem? (i := 37) rfl))) (ty := (.array (.object "com/example/lachesis/lachesis/timer/TimerEntry"))) (by decide)
  obtain ⟨_, _, ⟨T3, L3, k3, n3⟩, -, X3, ⟨Lc3, hQ3, l3, y3, z3⟩, st3⟩ := X2.specialBack hx (y := (⟨"com/example/lachesis/lachesis/timer/Bucket", "<init>", "()V"⟩ : MethodName)) rfl hown (mvT hZ (hw _ (List.mem_of_getElem? (i := 30) rfl))) (mvT hZ (hw _ (List.mem_of_getElem? (i := 31) rfl))) (mvT hZ (hw _ (List.mem_of_getElem? (i := 32) rfl))) (by decide) (backOf (W := 3) (rmB l Z a0 hw [] b2 w_NONE h2 n0 Zn (S_NONE.ext OLD.2) E_b2 g_b2 F_entries_b2) hZ (hw _ (List.mem_of_getElem? (i := 32) rfl)) (hw _ (List.mem_of_getElem? (i := 29) rfl)) (by decide) (by decide)) (g := (mkF m 61 #[.val (.ref r0), .val (.long q1), .second, .val (.int p2), .val (.long q3), .second, .val (.int i)] [(.ref b2), (.ref b2), (.int i), (.ref ba)])) rfl (by rw [hml]; rfl) (Steps.refl _) (a := b2) (argsL := []) (rest := [(.ref b2), (.int i), (.ref ba)]) (lenOf pd_2 rfl) rfl (by show 2 * 0 + _ ≤ _; exact Nat.le_of_eq rfl) (hb hby d_prog_37_method_1_code_61) (fun _ _ => ⟨rfl, e2, hcap, hslo⟩)
  dsimp only [Pt.U, Pt.locs, Pt.cells, Pt.slots] at X3 l3 y3 z3 st3 hQ3
  subst l3 y3 z3
  obtain ⟨rfl, N3q, K3k, pf3_0⟩ := hQ3
  have N3 := Fr.app N0 N3q
  have OLD := OLD.keep K3k (allS g_b2 all0)
  have F_buckets_r0 := F_buckets_r0.keep K3k (ninS ne_r0_b2 nin0)
  have V_ba := V_ba.keep K3k (ninS ne_ba_b2 nin0)
  have E_b2 := E_b2.keep K3k
  have Kp := Kp.trans K3k (allS (Or.inr sz_b2) all0)
  replace Zn := Nat.le_trans Zn K3k.1
  have E_b2 := pf3_0
  have Vp := V_ba.pad (pad_rep vs .null 1)
  obtain ⟨cl4, Ar4, q4, S4, N4z, H4, G4⟩ := Vp
  have hin4 : ¬ (i < 0 ∨ cl4.slots.size ≤ (i).toNatClampNeg) := inb_of S4 ⟨hi0, hlt⟩
  obtain ⟨T4, h4, X4, e4, W4, st4⟩ := stR X3 hx hZ rfl Ar4 (j := i) hin4 rfl (Sto.ofV Ar4 q4 O_ba (Ins.self E_b2)) (g := (mkF m 64 #[.val (.ref r0), .val (.long q1), .second, .val (.int p2), .val (.long q3), .second, .val (.int i)] [(.ref b2), (.int i), (.ref ba)])) rfl rfl (hb hby d_prog_37_method_1_code_64)
  replace OLD := OLD.wr W4 g_ba
  replace F_buckets_r0 := F_buckets_r0.other W4 (Or.inl ne_r0_ba)
  replace E_b2 := E_b2.wr W4
  have V_ba : Arv Z h4 ba kk (.object "com/example/lachesis/lachesis/timer/Bucket") p2 (vs ++ [Value.ref b2]) .null := by
    have q := Arv.set Ar4 q4 S4 N4z H4 G4 rfl W4 vs.length hlen (by simp)
    rwa [own_set] at q
  have Kp := Kp.wr W4 (Or.inl (List.mem_of_getElem? (i := 0) rfl))
  replace Zn := Nat.le_trans Zn (Keep.of_wr W4).1
  have N4 := Fr.snoc X4 N3 g_ba
  have K5 : ∀ t, Steps p.tables e below (T4.setTop (mkF m 45 #[.val (.ref r0), .val (.long q1), .second, .val (.int p2), .val (.long q3), .second, .val (.int (i + (1 : Int32)))] [])) t → Steps p.tables e below (T0.setTop (mkF m 45 #[.val (.ref r0), .val (.long q1), .second, .val (.int p2), .val (.long q3), .second, .val (.int i)] [])) t := by
    intro t kt
    refine K0 t ?_
    show Steps p.tables e below (T0.setTop (mkF m 45 #[.val (.ref r0), .val (.long q1), .second, .val (.int p2), .val (.long q3), .second, .val (.int i)] [])) _
    refine XS.iload X0.here hx rfl (hb hby d_prog_37_method_1_code_45) rfl ?_
    show Steps p.tables e below (T0.setTop (mkF m 47 #[.val (.ref r0), .val (.long q1), .second, .val (.int p2), .val (.long q3), .second, .val (.int i)] [(.int i)])) _
    refine XS.iloadN X0.here hx rfl (hb hby d_prog_37_method_1_code_47) rfl ?_
    show Steps p.tables e below (T0.setTop (mkF m 48 #[.val (.ref r0), .val (.long q1), .second, .val (.int p2), .val (.long q3), .second, .val (.int i)] [(.int p2), (.int i)])) _
    refine XS.icmpNo X0.here hx rfl (hb hby d_prog_37_method_1_code_48) rfl (tlt hc48).2.1 ?_
    show Steps p.tables e below (T0.setTop (mkF m 51 #[.val (.ref r0), .val (.long q1), .second, .val (.int p2), .val (.long q3), .second, .val (.int i)] [])) _
    refine XS.aloadN X0.here hx rfl (hb hby d_prog_37_method_1_code_51) rfl rfl ?_
    show Steps p.tables e below (T0.setTop (mkF m 52 #[.val (.ref r0), .val (.long q1), .second, .val (.int p2), .val (.long q3), .second, .val (.int i)] [(.ref r0)])) _
    refine st1 _ ?_
    show Steps p.tables e below (T1.setTop (mkF m 55 #[.val (.ref r0), .val (.long q1), .second, .val (.int p2), .val (.long q3), .second, .val (.int i)] [(.ref ba)])) _
    refine XS.iload X1.here hx rfl (hb hby d_prog_37_method_1_code_55) rfl ?_
    show Steps p.tables e below (T1.setTop (mkF m 57 #[.val (.ref r0), .val (.long q1), .second, .val (.int p2), .val (.long q3), .second, .val (.int i)] [(.int i), (.ref ba)])) _
    refine st2 _ ?_
    show Steps p.tables e below (T2.setTop (mkF m 60 #[.val (.ref r0), .val (.long q1), .second, .val (.int p2), .val (.long q3), .second, .val (.int i)] [(.ref b2), (.int i), (.ref ba)])) _
    refine XS.dup X2.here hx rfl (hb hby d_prog_37_method_1_code_60) rfl rfl ?_
    show Steps p.tables e below (T2.setTop (mkF m 61 #[.val (.ref r0), .val (.long q1), .second, .val (.int p2), .val (.long q3), .second, .val (.int i)] [(.ref b2), (.ref b2), (.int i), (.ref ba)])) _
    refine st3.trans ?_
    show Steps p.tables e below (T3.setTop (mkF m 64 #[.val (.ref r0), .val (.long q1), .second, .val (.int p2), .val (.long q3), .second, .val (.int i)] [(.ref b2), (.int i), (.ref ba)])) _
    refine st4 _ ?_
    show Steps p.tables e below (T4.setTop (mkF m 65 #[.val (.ref r0), .val (.long q1), .second, .val (.int p2), .val (.long q3), .second, .val (.int i)] [])) _
    refine XS.iinc X4.here hx rfl (hb hby d_prog_37_method_1_code_65) rfl (l' := #[.val (.ref r0), .val (.long q1), .second, .val (.int p2), .val (.long q3), .second, .val (.int (i + (1 : Int32)))]) rfl ?_
    show Steps p.tables e below (T4.setTop (mkF m 68 #[.val (.ref r0), .val (.long q1), .second, .val (.int p2), .val (.long q3), .second, .val (.int (i + (1 : Int32)))] [])) _
    refine XS.goto X4.here hx rfl (pc0 := 68) (pc' := 45) rfl (hb hby d_prog_37_method_1_code_68) (by decide) (by decide) ?_
    exact kt
  exact ⟨b2, T4, _, _, X4, e4, N4, Zn, Kp, sz_b2, E_b2, V_ba, K5⟩
theorem loopW {p : Program} {l : Launch} {e : Env} {s : State} {m : MethodId} {args : Array Value} {below : List Frame} {meth : Method} {c : Code} {Z : State} {a0 : Array Value} {n0 : Nat} (r0 : Addr) (q1 : Int64) (p2 : Int32) (q3 : Int64) (w_NONE ba : Addr) (kk : ClassId)
    (hx : p.tables.exec = Jvm.exec) (hZ : Z.Warmed39 s.vm) (hw : ∀ d ∈ tables_1, d.before a0 Z = true) (hby : c.code = prog_37_method_1_code) (hml : c.maxLocals = 7) (hown : s.vm.findClass "com/example/lachesis/lachesis/timer/Wheel" = some m.cls)
    (S_NONE : Sta Z Z.heap "com/example/lachesis/lachesis/timer/Bucket" "NONE" "[Lcom/example/lachesis/lachesis/timer/TimerEntry;" (.ref w_NONE)) (O_ba : Ovr Z kk "com/example/lachesis/lachesis/timer/Bucket") (g_ba : n0 ≤ ba) (ne_r0_ba : r0 ≠ ba) (hp2 : ¬ p2 < 0) :
    ∀ (k : Nat) (i : Int32) (T0 : State) (locs : List Loc) (cells slots : Nat) (h0 : Heap) (bs : List Addr), Stand p l e ({ frames := 2, cells := 6, slots := 25, locals := 27 } : Room) s m args below meth c T0 locs cells slots → T0.heap = h0 → n0 ≤ h0.size → Fr n0 locs → Old Z n0 h0 → Fld Z h0 r0 "com/example/lachesis/lachesis/timer/Wheel" "buckets" "[Lcom/example/lachesis/lachesis/timer/Bucket;" (.ref ba) → Arv Z h0 ba kk (.object "com/example/lachesis/lachesis/timer/Bucket") p2 (bs.map Value.ref) .null → ¬ i < 0 → i.toNatClampNeg = bs.length → bs.length + k = p2.toNatClampNeg → (∀ x ∈ bs, Exa Z h0 x "com/example/lachesis/lachesis/timer/Bucket") → bs.Nodup → cells + k ≤ ({ frames := 2, cells := 6, slots := 25, locals := 27 } : Room).cells → slots + 4 * k ≤ ({ frames := 2, cells := 6, slots := 25, locals := 27 } : Room).slots →
    ∃ (T' : State) (h' : Heap) (locs' : List Loc) (bs' : List Addr), Stand p l e ({ frames := 2, cells := 6, slots := 25, locals := 27 } : Room) s m args below meth c T' locs' (cells + k) (slots + 4 * k) ∧ T'.heap = h' ∧ n0 ≤ h'.size ∧ Fr n0 locs' ∧ Keep h0 h' [ba] ∧ Arv Z h' ba kk (.object "com/example/lachesis/lachesis/timer/Bucket") p2 (bs'.map Value.ref) .null ∧ bs'.length = p2.toNatClampNeg ∧ (∀ x ∈ bs', Exa Z h' x "com/example/lachesis/lachesis/timer/Bucket") ∧ bs'.Nodup ∧ ∀ t, Steps p.tables e below (T'.setTop (mkF m 45 #[.val (.ref r0), .val (.long q1), .second, .val (.int p2), .val (.long q3), .second, .val (.int p2)] [])) t → Steps p.tables e below (T0.setTop (mkF m 45 #[.val (.ref r0), .val (.long q1), .second, .val (.int p2), .val (.long q3), .second, .val (.int i)] [])) t := by
  intro k
  induction k with
  | zero =>
    intro i T0 locs cells slots h0 bs X0 e0 Z0 N0 OLD F V hi0 hlen hsum hex hnd hc hs
    have hip : i = p2 := Int32.toInt_inj.mp (by rw [← own_nn hi0, ← own_nn hp2]; omega)
    subst hip
    exact ⟨T0, h0, locs, bs, X0, e0, Z0, N0, Keep.refl _ _, V, by omega, hex, hnd, fun t k => k⟩
  | succ k ih =>
    intro i T0 locs cells slots h0 bs X0 e0 Z0 N0 OLD F V hi0 hlen hsum hex hnd hc hs
    have u1 := own_nn hi0
    have u2 := own_nn hp2
    have hlt : i < p2 := by rw [Int32.lt_iff_toInt_lt]; omega
    obtain ⟨b, T1, h1, locs1, X1, e1, N1, Z1, K1, zb, Eb, V1, st1⟩ := tnW r0 q1 p2 q3 i w_NONE ba kk (bs.map Value.ref) X0 hx hZ hw hby hml hown e0 Z0 N0 S_NONE OLD F V O_ba g_ba ne_r0_ba hi0 hlt (by rw [hlen, List.length_map]) (by omega) (by omega)
    have k1 : (1 : Int32).toInt = 1 := by decide
    have up : (i + (1 : Int32)).toInt = i.toInt + 1 := by have := p2.toInt_lt; rw [Jvm.Kit.i32_add (by omega) (by omega), k1]
    have hi1 : ¬ (i + (1 : Int32)) < 0 := own_ge0.mpr (by omega)
    have u3 := own_nn hi1
    have V2 : Arv Z h1 ba kk (.object "com/example/lachesis/lachesis/timer/Bucket") p2 ((bs ++ [b]).map Value.ref) .null := by have q := V1; rwa [show List.map Value.ref bs ++ [Value.ref b] = List.map Value.ref (bs ++ [b]) by simp] at q
    obtain ⟨T2, h2, locs2, bs2, X2, e2, Z2, N2, K2, V3, L3, E3, D3, st2⟩ := ih (i + (1 : Int32)) T1 locs1 (cells + 1) (slots + 4) h1 (bs ++ [b]) X1 e1 Z1 N1 (OLD.keep K1 (allS g_ba all0)) (F.keep K1 (ninS ne_r0_ba nin0)) V2 hi1 (by rw [List.length_append, List.length_singleton]; omega) (by rw [List.length_append, List.length_singleton]; omega)
      (fun x hx' => (List.mem_append.mp hx').elim (fun q => (hex x q).keep K1) (fun q => by cases List.mem_singleton.mp q; exact Eb))
      (List.nodup_append.mpr ⟨hnd, by simp, fun x q y r => by cases List.mem_singleton.mp r; exact Nat.ne_of_lt (Nat.lt_of_lt_of_le (hex x q).lt zb)⟩) (by omega) (by omega)
    refine ⟨T2, h2, locs2, bs2, ?_, e2, Z2, N2, K1.trans K2 (allS (Or.inl (List.mem_singleton.mpr rfl)) all0), V3, L3, E3, D3, fun t k => st1 t (st2 t k)⟩
    have c1 : cells + (k + 1) = cells + 1 + k := by omega
    have c2 : slots + 4 * (k + 1) = slots + 4 + 4 * k := by omega
    rw [c1, c2]; exact X2
theorem d_prog_37_method_1_code_0 : decode prog_37_method_1_code 0 = .ok (.aload_n 0, 1) := by decide +kernel
theorem d_prog_37_method_1_code_1 : decode prog_37_method_1_code 1 = .ok (.invokespecial 1, 3) := by decide +kernel
theorem d_prog_37_method_1_code_4 : decode prog_37_method_1_code 4 = .ok (.aload_n 0, 1) := by decide +kernel
theorem d_prog_37_method_1_code_5 : decode prog_37_method_1_code 5 = .ok (.lload_n 1, 1) := by decide +kernel
theorem d_prog_37_method_1_code_6 : decode prog_37_method_1_code 6 = .ok (.putfield 7, 3) := by decide +kernel
theorem d_prog_37_method_1_code_9 : decode prog_37_method_1_code 9 = .ok (.aload_n 0, 1) := by decide +kernel
theorem d_prog_37_method_1_code_10 : decode prog_37_method_1_code 10 = .ok (.lload_n 1, 1) := by decide +kernel
theorem d_prog_37_method_1_code_11 : decode prog_37_method_1_code 11 = .ok (.ldc2_w 15, 3) := by decide +kernel
theorem d_prog_37_method_1_code_14 : decode prog_37_method_1_code 14 = .ok (.iload_n 3, 1) := by decide +kernel
theorem d_prog_37_method_1_code_15 : decode prog_37_method_1_code 15 = .ok (.i2l, 1) := by decide +kernel
theorem d_prog_37_method_1_code_16 : decode prog_37_method_1_code 16 = .ok (.ldiv, 1) := by decide +kernel
theorem d_prog_37_method_1_code_17 : decode prog_37_method_1_code 17 = .ok (.lcmp, 1) := by decide +kernel
theorem d_prog_37_method_1_code_18 : decode prog_37_method_1_code 18 = .ok (.ifCond .le 9, 3) := by decide +kernel
theorem d_prog_37_method_1_code_21 : decode prog_37_method_1_code 21 = .ok (.ldc2_w 15, 3) := by decide +kernel
theorem d_prog_37_method_1_code_24 : decode prog_37_method_1_code 24 = .ok (.goto 7, 3) := by decide +kernel
theorem d_prog_37_method_1_code_27 : decode prog_37_method_1_code 27 = .ok (.lload_n 1, 1) := by decide +kernel
theorem d_prog_37_method_1_code_28 : decode prog_37_method_1_code 28 = .ok (.iload_n 3, 1) := by decide +kernel
theorem d_prog_37_method_1_code_29 : decode prog_37_method_1_code 29 = .ok (.i2l, 1) := by decide +kernel
theorem d_prog_37_method_1_code_30 : decode prog_37_method_1_code 30 = .ok (.lmul, 1) := by decide +kernel
theorem d_prog_37_method_1_code_31 : decode prog_37_method_1_code 31 = .ok (.putfield 17, 3) := by decide +kernel
theorem d_prog_37_method_1_code_34 : decode prog_37_method_1_code 34 = .ok (.aload_n 0, 1) := by decide +kernel
theorem d_prog_37_method_1_code_35 : decode prog_37_method_1_code 35 = .ok (.iload_n 3, 1) := by decide +kernel
theorem d_prog_37_method_1_code_36 : decode prog_37_method_1_code 36 = .ok (.anewarray 20, 3) := by decide +kernel
theorem d_prog_37_method_1_code_39 : decode prog_37_method_1_code 39 = .ok (.putfield 22, 3) := by decide +kernel
theorem d_prog_37_method_1_code_42 : decode prog_37_method_1_code 42 = .ok (.iconst 0, 1) := by decide +kernel
theorem d_prog_37_method_1_code_43 : decode prog_37_method_1_code 43 = .ok (.istore 6, 2) := by decide +kernel
theorem d_prog_37_method_1_code_71 : decode prog_37_method_1_code 71 = .ok (.aload_n 0, 1) := by decide +kernel
theorem d_prog_37_method_1_code_72 : decode prog_37_method_1_code 72 = .ok (.lload 4, 2) := by decide +kernel
theorem d_prog_37_method_1_code_74 : decode prog_37_method_1_code 74 = .ok (.invokevirtual 27, 3) := by decide +kernel
theorem pd_3 : parseMethodDescriptor "(J)V" = some ⟨[.long], none⟩ := by decide +kernel
theorem d_prog_37_method_1_code_77 : decode prog_37_method_1_code 77 = .ok (.return_, 1) := by decide +kernel
theorem ef_rmW (m : MethodId) (x0 : Addr) (x1 : Int64) (x2 : Int32) (x3 : Int64) : entryFrame m #[(.ref x0), (.long x1), (.int x2), (.long x3)] 7 = mkF m 0 #[.val (.ref x0), .val (.long x1), .second, .val (.int x2), .val (.long x3), .second, .unset] [] := by first | (simp [entryFrame, mkF, argsToLocals, Value.category]; done) | rfl
def Q_rmW (Z : State) (r0 : Addr) (q1 : Int64) (p2 : Int32) (q3 : Int64) (w_NONE : Addr) (h0 : Heap) (n0 : Nat) (v : Option Value) (h : Heap) (L : List Loc) : Prop := ∃ (ba : Addr) (kk : ClassId) (bs : List Addr), v = none ∧ Fr n0 L ∧ Keep h0 h [r0] ∧ n0 ≤ ba ∧ h0.size ≤ ba ∧ ba ≠ r0 ∧ bs.length = p2.toNatClampNeg ∧ bs.Nodup ∧ (∀ x ∈ bs, Exa Z h x "com/example/lachesis/lachesis/timer/Bucket") ∧ Arv Z h ba kk (.object "com/example/lachesis/lachesis/timer/Bucket") p2 (bs.map Value.ref) .null ∧ Exa Z h r0 "com/example/lachesis/lachesis/timer/Wheel" ∧ Fld Z h r0 "com/example/lachesis/lachesis/timer/Wheel" "slotTicks" "J" (.long q1) ∧ Fld Z h r0 "com/example/lachesis/lachesis/timer/Wheel" "spanTicks" "J" (.long (own_span q1 p2)) ∧ Fld Z h r0 "com/example/lachesis/lachesis/timer/Wheel" "buckets" "[Lcom/example/lachesis/lachesis/timer/Bucket;" (.ref ba) ∧ Fld Z h r0 "com/example/lachesis/lachesis/timer/Wheel" "slotStart" "J" (.long ((q3 / q1) * q1)) ∧ Fld Z h r0 "com/example/lachesis/lachesis/timer/Wheel" "slot" "I" (.int (own_slot q3 q1 p2))
set_option maxRecDepth 65536 in
set_option maxHeartbeats 40000000 in
theorem rmW (l : Launch) (Z : State) (a0 : Array Value) (hw : ∀ d ∈ tables_1, d.before a0 Z = true) (ws : List Jvm.Cond) (r0 : Addr) (q1 : Int64) (p2 : Int32) (q3 : Int64) (w_NONE : Addr) (h0 : Heap) (n0 : Nat) (Z0 : n0 ≤ h0.size) (S_NONE : Sta Z Z.heap "com/example/lachesis/lachesis/timer/Bucket" "NONE" "[Lcom/example/lachesis/lachesis/timer/TimerEntry;" (.ref w_NONE)) (OLD : Old Z n0 h0) (E_r0 : Exa Z h0 r0 "com/example/lachesis/lachesis/timer/Wheel") (g_r0 : n0 ≤ r0) (F_slotTicks_r0 : Fld Z h0 r0 "com/example/lachesis/lachesis/timer/Wheel" "slotTicks" "J" (.long (0 : Int64))) (F_spanTicks_r0 : Fld Z h0 r0 "com/example/lachesis/lachesis/timer/Wheel" "spanTicks" "J" (.long (0 : Int64))) (F_buckets_r0 : Fld Z h0 r0 "com/example/lachesis/lachesis/timer/Wheel" "buckets" "[Lcom/example/lachesis/lachesis/timer/Bucket;" .null) (F_slotStart_r0 : Fld Z h0 r0 "com/example/lachesis/lachesis/timer/Wheel" "slotStart" "J" (.long (0 : Int64))) (F_slot_r0 : Fld Z h0 r0 "com/example/lachesis/lachesis/timer/Wheel" "slot" "I" (.int (0 : Int32))) (hq1 : 1 ≤ q1.toInt) (hp2 : 2 ≤ p2.toInt ∧ p2.toInt ≤ 5) :
    MetFree l (⟨"com/example/lachesis/lachesis/timer/Wheel", "<init>", "(JIJ)V"⟩ : MethodName) (head1 (Jvm.Cond.code (⟨"com/example/lachesis/lachesis/timer/Wheel", "<init>", "(JIJ)V"⟩ : MethodName) prog_37_method_1_code 7 none :: ws) ({ frames := 2, cells := 6, slots := 25, locals := 27 } : Room)) (fun a U => a = #[(.ref r0), (.long q1), (.int p2), (.long q3)] ∧ Z.Warmed39 U.vm ∧ U.heap = h0) (fun _ _ _ _ _ => True) (fun _ U o U' => ∃ v L, o = .returned v ∧ Q_rmW Z r0 q1 p2 q3 w_NONE h0 n0 v U'.heap L ∧ FrameEnd U o U' L ({ frames := 2, cells := 6, slots := 25, locals := 27 } : Room).cells ({ frames := 2, cells := 6, slots := 25, locals := 27 } : Room).slots) := by
  refine MetFree.of_bodySF (plainFor_of_name pn_1) hisR ?_
  intro p e s m args below meth c s₁ Bd hml0 hP hK
  obtain ⟨rfl, hZ, hh⟩ := hP
  have hx := Bd.exec
  have hby := Bd.bytes
  have hml : c.maxLocals = 7 := hml0
  have hown : s.vm.findClass "com/example/lachesis/lachesis/timer/Wheel" = some m.cls := findClass_of_methodNamed Bd.named
  have hnm := (name_of_methodNamed Bd.named Bd.method).1
  have hlk : meth.locks = false := by first | exact BodyLoose.notSynchronized (by assumption) | exact Body.notSynchronized (by assumption) | assumption
  have X0 : Stand p l e ({ frames := 2, cells := 6, slots := 25, locals := 27 } : Room) s m #[(.ref r0), (.long q1), (.int p2), (.long q3)] below meth c s₁ [] 0 0 := Stand.of_body Bd
  have e0 : s₁.heap = h0 := by rw [← hh, Bd.state]; rfl
  have N0 := Fr.nil n0
  have Zn := Z0
  have K0 : ∀ t, Steps p.tables e below (s₁.setTop (mkF m 0 #[.val (.ref r0), .val (.long q1), .second, .val (.int p2), .val (.long q3), .second, .unset] [])) t → Steps p.tables e below (s₁.setTop (entryFrame m #[(.ref r0), (.long q1), (.int p2), (.long q3)] 7)) t := fun t k => castTop (ef_rmW m r0 q1 p2 q3) k
  have Kp : Keep h0 h0 [r0] := Keep.refl h0 [r0]
  have hp20 : ¬ p2 < 0 := own_ge0.mpr (by omega)
  have hp2n := own_nn hp20
  obtain ⟨T1, X1, e1, st1⟩ := initO X0 hx hZ hown (hw _ (List.mem_of_getElem? (i := 17) rfl)) (hw _ (List.mem_of_getElem? (i := 18) rfl)) (hw _ (List.mem_of_getElem? (i := 19) rfl)) e0 (g := (mkF m 1 #[.val (.ref r0), .val (.long q1), .second, .val (.int p2), .val (.long q3), .second, .unset] [(.ref r0)])) rfl (by rw [hml]; rfl) rfl (hb hby d_prog_37_method_1_code_1) (by decide) (W := 0) (by show 2 * 0 + _ ≤ _; exact Nat.le_of_eq rfl) (by decide)
  obtain ⟨T2, h2, X2, e2, W2, st2⟩ := putF X1 hx hZ hown (host := "") (Or.inl (hw _ (List.mem_of_getElem? (i := 20) rfl))) Via.refl e1 F_slotTicks_r0 E_r0 (Or.inr ⟨(hw _ (List.mem_of_getElem? (i := 21) rfl)), rfl, hnm⟩) (hw _ (List.mem_of_getElem? (i := 12) rfl)) (ty := .long) (by decide) rfl rfl (g := (mkF m 6 #[.val (.ref r0), .val (.long q1), .second, .val (.int p2), .val (.long q3), .second, .unset] [(.long q1), (.ref r0)])) rfl rfl (hb hby d_prog_37_method_1_code_6)
  replace OLD := OLD.wr W2 g_r0
  replace E_r0 := E_r0.wr W2
  replace F_spanTicks_r0 := F_spanTicks_r0.other W2 (Or.inr (slot_ne (Or.inr (hw _ (List.mem_of_getElem? (i := 24) rfl))) (Or.inr (hw _ (List.mem_of_getElem? (i := 21) rfl))) (by decide) (t := .long) (t' := .long) (by decide) (by decide)))
  replace F_buckets_r0 := F_buckets_r0.other W2 (Or.inr (slot_ne (Or.inr (hw _ (List.mem_of_getElem? (i := 27) rfl))) (Or.inr (hw _ (List.mem_of_getElem? (i := 21) rfl))) (by decide) (t := (.array (.object "com/example/lachesis/lachesis/timer/Bucket"))) (t' := .long) (by decide) (by decide)))
  replace F_slotStart_r0 := F_slotStart_r0.other W2 (Or.inr (slot_ne (Or.inl (hw _ (List.mem_of_getElem? (i := 45) rfl))) (Or.inr (hw _ (List.mem_of_getElem? (i := 21) rfl))) (by decide) (t := .long) (t' := .long) (by decide) (by decide)))
  replace F_slot_r0 := F_slot_r0.other W2 (Or.inr (slot_ne (Or.inl (hw _ (List.mem_of_getElem? (i := 47) rfl))) (Or.inr (hw _ (List.mem_of_getElem? (i := 21) rfl))) (by decide) (t := .int) (t' := .long) (by decide) (by decide)))
  have F_slotTicks_r0 := F_slotTicks_r0.same W2
  have N2 := Fr.snoc X2 N0 g_r0
  have Kp := Kp.wr W2 (Or.inl (List.mem_of_getElem? (i := 0) rfl))
  replace Zn := Nat.le_trans Zn (Keep.of_wr W2).1
  have K3 : ∀ t, Steps p.tables e below (T2.setTop (mkF m 9 #[.val (.ref r0), .val (.long q1), .second, .val (.int p2), .val (.long q3), .second, .unset] [])) t → Steps p.tables e below (s₁.setTop (entryFrame m #[(.ref r0), (.long q1), (.int p2), (.long q3)] 7)) t := by
    intro t kt
    refine K0 t ?_
    show Steps p.tables e below (s₁.setTop (mkF m 0 #[.val (.ref r0), .val (.long q1), .second, .val (.int p2), .val (.long q3), .second, .unset] [])) _
    refine XS.aloadN X0.here hx rfl (hb hby d_prog_37_method_1_code_0) rfl rfl ?_
    show Steps p.tables e below (s₁.setTop (mkF m 1 #[.val (.ref r0), .val (.long q1), .second, .val (.int p2), .val (.long q3), .second, .unset] [(.ref r0)])) _
    refine st1 _ ?_
    show Steps p.tables e below (T1.setTop (mkF m 4 #[.val (.ref r0), .val (.long q1), .second, .val (.int p2), .val (.long q3), .second, .unset] [])) _
    refine XS.aloadN X1.here hx rfl (hb hby d_prog_37_method_1_code_4) rfl rfl ?_
    show Steps p.tables e below (T1.setTop (mkF m 5 #[.val (.ref r0), .val (.long q1), .second, .val (.int p2), .val (.long q3), .second, .unset] [(.ref r0)])) _
    refine XS.lloadN X1.here hx rfl (hb hby d_prog_37_method_1_code_5) rfl ?_
    show Steps p.tables e below (T1.setTop (mkF m 6 #[.val (.ref r0), .val (.long q1), .second, .val (.int p2), .val (.long q3), .second, .unset] [(.long q1), (.ref r0)])) _
    refine st2 _ ?_
    exact kt
  obtain ⟨T4, lc4, sp, X4, N4, e4, P4, K4j⟩ : ∃ (T' : State) (lc' : List Loc) (sp : Int64), Stand p l e ({ frames := 2, cells := 6, slots := 25, locals := 27 } : Room) s m #[(.ref r0), (.long q1), (.int p2), (.long q3)] below meth c T' lc' 0 0 ∧ Fr n0 lc' ∧ T'.heap = h2 ∧ (sp = own_span q1 p2) ∧ ∀ t, Steps p.tables e below (T'.setTop (mkF m 31 #[.val (.ref r0), .val (.long q1), .second, .val (.int p2), .val (.long q3), .second, .unset] [(.long sp), (.ref r0)])) t → Steps p.tables e below (s₁.setTop (entryFrame m #[(.ref r0), (.long q1), (.int p2), (.long q3)] 7)) t := by
    have K5 : ∀ t, Steps p.tables e below (T2.setTop (mkF m 18 #[.val (.ref r0), .val (.long q1), .second, .val (.int p2), .val (.long q3), .second, .unset] [(.int (lcmpW q1 ((9223372036854775807 : Int64) / (p2.toInt64)))), (.ref r0)])) t → Steps p.tables e below (s₁.setTop (entryFrame m #[(.ref r0), (.long q1), (.int p2), (.long q3)] 7)) t := by
      intro t kt
      refine K3 t ?_
      show Steps p.tables e below (T2.setTop (mkF m 9 #[.val (.ref r0), .val (.long q1), .second, .val (.int p2), .val (.long q3), .second, .unset] [])) _
      refine XS.aloadN X2.here hx rfl (hb hby d_prog_37_method_1_code_9) rfl rfl ?_
      show Steps p.tables e below (T2.setTop (mkF m 10 #[.val (.ref r0), .val (.long q1), .second, .val (.int p2), .val (.long q3), .second, .unset] [(.ref r0)])) _
      refine XS.lloadN X2.here hx rfl (hb hby d_prog_37_method_1_code_10) rfl ?_
      show Steps p.tables e below (T2.setTop (mkF m 11 #[.val (.ref r0), .val (.long q1), .second, .val (.int p2), .val (.long q3), .second, .unset] [(.long q1), (.ref r0)])) _
      refine X2.ldc2Long hx hown (mvT hZ (hw _ (List.mem_of_getElem? (i := 22) rfl))) (g := (mkF m 11 #[.val (.ref r0), .val (.long q1), .second, .val (.int p2), .val (.long q3), .second, .unset] [(.long q1), (.ref r0)])) rfl (hb hby d_prog_37_method_1_code_11) _ ?_
      show Steps p.tables e below (T2.setTop (mkF m 14 #[.val (.ref r0), .val (.long q1), .second, .val (.int p2), .val (.long q3), .second, .unset] [(.long (9223372036854775807 : Int64)), (.long q1), (.ref r0)])) _
      refine XS.iloadN X2.here hx rfl (hb hby d_prog_37_method_1_code_14) rfl ?_
      show Steps p.tables e below (T2.setTop (mkF m 15 #[.val (.ref r0), .val (.long q1), .second, .val (.int p2), .val (.long q3), .second, .unset] [(.int p2), (.long (9223372036854775807 : Int64)), (.long q1), (.ref r0)])) _
      refine XS.i2l X2.here hx rfl (hb hby d_prog_37_method_1_code_15) rfl ?_
      show Steps p.tables e below (T2.setTop (mkF m 16 #[.val (.ref r0), .val (.long q1), .second, .val (.int p2), .val (.long q3), .second, .unset] [(.long (p2.toInt64)), (.long (9223372036854775807 : Int64)), (.long q1), (.ref r0)])) _
      refine XS.ldiv X2.here hx rfl (hb hby d_prog_37_method_1_code_16) rfl (own_nz64 hp2.1) ?_
      show Steps p.tables e below (T2.setTop (mkF m 17 #[.val (.ref r0), .val (.long q1), .second, .val (.int p2), .val (.long q3), .second, .unset] [(.long ((9223372036854775807 : Int64) / (p2.toInt64))), (.long q1), (.ref r0)])) _
      refine XS.lcmp X2.here hx rfl (hb hby d_prog_37_method_1_code_17) rfl ?_
      exact kt
    by_cases hc18 : (0 : Int32) < (lcmpW q1 ((9223372036854775807 : Int64) / (p2.toInt64)))
    ·
      have K6 : ∀ t, Steps p.tables e below (T2.setTop (mkF m 31 #[.val (.ref r0), .val (.long q1), .second, .val (.int p2), .val (.long q3), .second, .unset] [(.long (9223372036854775807 : Int64)), (.ref r0)])) t → Steps p.tables e below (s₁.setTop (entryFrame m #[(.ref r0), (.long q1), (.int p2), (.long q3)] 7)) t := by
        intro t kt
        refine K5 t ?_
        show Steps p.tables e below (T2.setTop (mkF m 18 #[.val (.ref r0), .val (.long q1), .second, .val (.int p2), .val (.long q3), .second, .unset] [(.int (lcmpW q1 ((9223372036854775807 : Int64) / (p2.toInt64)))), (.ref r0)])) _
        refine XS.ifNo X2.here hx rfl (hb hby d_prog_37_method_1_code_18) rfl ((if0 _ _).trans (tlt hc18).2.2.2) ?_
        show Steps p.tables e below (T2.setTop (mkF m 21 #[.val (.ref r0), .val (.long q1), .second, .val (.int p2), .val (.long q3), .second, .unset] [(.ref r0)])) _
        refine X2.ldc2Long hx hown (mvT hZ (hw _ (List.mem_of_getElem? (i := 22) rfl))) (g := (mkF m 21 #[.val (.ref r0), .val (.long q1), .second, .val (.int p2), .val (.long q3), .second, .unset] [(.ref r0)])) rfl (hb hby d_prog_37_method_1_code_21) _ ?_
        show Steps p.tables e below (T2.setTop (mkF m 24 #[.val (.ref r0), .val (.long q1), .second, .val (.int p2), .val (.long q3), .second, .unset] [(.long (9223372036854775807 : Int64)), (.ref r0)])) _
        refine XS.goto X2.here hx rfl (pc0 := 24) (pc' := 31) rfl (hb hby d_prog_37_method_1_code_24) (by decide) (by decide) ?_
        exact kt
      exact ⟨T2, _, (9223372036854775807 : Int64), X2, N2, e2, (by simp only [own_span, hc18, if_true, if_false]), K6⟩
    ·
      have K7 : ∀ t, Steps p.tables e below (T2.setTop (mkF m 31 #[.val (.ref r0), .val (.long q1), .second, .val (.int p2), .val (.long q3), .second, .unset] [(.long (q1 * (p2.toInt64))), (.ref r0)])) t → Steps p.tables e below (s₁.setTop (entryFrame m #[(.ref r0), (.long q1), (.int p2), (.long q3)] 7)) t := by
        intro t kt
        refine K5 t ?_
        show Steps p.tables e below (T2.setTop (mkF m 18 #[.val (.ref r0), .val (.long q1), .second, .val (.int p2), .val (.long q3), .second, .unset] [(.int (lcmpW q1 ((9223372036854775807 : Int64) / (p2.toInt64)))), (.ref r0)])) _
        refine XS.ifYes X2.here hx rfl (pc0 := 18) (pc' := 27) rfl (hb hby d_prog_37_method_1_code_18) rfl ((if0 _ _).trans (flt hc18).2.2.2) (by decide) (by decide) ?_
        show Steps p.tables e below (T2.setTop (mkF m 27 #[.val (.ref r0), .val (.long q1), .second, .val (.int p2), .val (.long q3), .second, .unset] [(.ref r0)])) _
        refine XS.lloadN X2.here hx rfl (hb hby d_prog_37_method_1_code_27) rfl ?_
        show Steps p.tables e below (T2.setTop (mkF m 28 #[.val (.ref r0), .val (.long q1), .second, .val (.int p2), .val (.long q3), .second, .unset] [(.long q1), (.ref r0)])) _
        refine XS.iloadN X2.here hx rfl (hb hby d_prog_37_method_1_code_28) rfl ?_
        show Steps p.tables e below (T2.setTop (mkF m 29 #[.val (.ref r0), .val (.long q1), .second, .val (.int p2), .val (.long q3), .second, .unset] [(.int p2), (.long q1), (.ref r0)])) _
        refine XS.i2l X2.here hx rfl (hb hby d_prog_37_method_1_code_29) rfl ?_
        show Steps p.tables e below (T2.setTop (mkF m 30 #[.val (.ref r0), .val (.long q1), .second, .val (.int p2), .val (.long q3), .second, .unset] [(.long (p2.toInt64)), (.long q1), (.ref r0)])) _
        refine XS.lmul X2.here hx rfl (hb hby d_prog_37_method_1_code_30) rfl ?_
        exact kt
      exact ⟨T2, _, (q1 * (p2.toInt64)), X2, N2, e2, (by simp only [own_span, hc18, if_true, if_false]), K7⟩
  have hsp := P4
  obtain ⟨T8, h8, X8, e8, W8, st8⟩ := putF X4 hx hZ hown (host := "") (Or.inl (hw _ (List.mem_of_getElem? (i := 23) rfl))) Via.refl e4 F_spanTicks_r0 E_r0 (Or.inr ⟨(hw _ (List.mem_of_getElem? (i := 24) rfl)), rfl, hnm⟩) (hw _ (List.mem_of_getElem? (i := 12) rfl)) (ty := .long) (by decide) rfl rfl (g := (mkF m 31 #[.val (.ref r0), .val (.long q1), .second, .val (.int p2), .val (.long q3), .second, .unset] [(.long sp), (.ref r0)])) rfl rfl (hb hby d_prog_37_method_1_code_31)
  replace OLD := OLD.wr W8 g_r0
  replace E_r0 := E_r0.wr W8
  replace F_slotTicks_r0 := F_slotTicks_r0.other W8 (Or.inr (slot_ne (Or.inr (hw _ (List.mem_of_getElem? (i := 21) rfl))) (Or.inr (hw _ (List.mem_of_getElem? (i := 24) rfl))) (by decide) (t := .long) (t' := .long) (by decide) (by decide)))
  replace F_buckets_r0 := F_buckets_r0.other W8 (Or.inr (slot_ne (Or.inr (hw _ (List.mem_of_getElem? (i := 27) rfl))) (Or.inr (hw _ (List.mem_of_getElem? (i := 24) rfl))) (by decide) (t := (.array (.object "com/example/lachesis/lachesis/timer/Bucket"))) (t' := .long) (by decide) (by decide)))
  replace F_slotStart_r0 := F_slotStart_r0.other W8 (Or.inr (slot_ne (Or.inl (hw _ (List.mem_of_getElem? (i := 45) rfl))) (Or.inr (hw _ (List.mem_of_getElem? (i := 24) rfl))) (by decide) (t := .long) (t' := .long) (by decide) (by decide)))
  replace F_slot_r0 := F_slot_r0.other W8 (Or.inr (slot_ne (Or.inl (hw _ (List.mem_of_getElem? (i := 47) rfl))) (Or.inr (hw _ (List.mem_of_getElem? (i := 24) rfl))) (by decide) (t := .int) (t' := .long) (by decide) (by decide)))
  have F_spanTicks_r0 := F_spanTicks_r0.same W8
  have N8 := Fr.snoc X8 N4 g_r0
  have Kp := Kp.wr W8 (Or.inl (List.mem_of_getElem? (i := 0) rfl))
  replace Zn := Nat.le_trans Zn (Keep.of_wr W8).1
  obtain ⟨T9, h9, k9, X9, e9, E9, A9, O9, st9⟩ := newR X8 hx hZ hown (hw _ (List.mem_of_getElem? (i := 25) rfl)) (hw _ (List.mem_of_getElem? (i := 10) rfl)) e8 (g := (mkF m 36 #[.val (.ref r0), .val (.long q1), .second, .val (.int p2), .val (.long q3), .second, .unset] [(.int p2), (.ref r0)])) rfl (hb hby d_prog_37_method_1_code_36) rfl hp20 (cap := 5) (by omega) (by decide) (by decide) (by decide)
  obtain ⟨b9, g9⟩ : ∃ z, z = h8.size := ⟨_, rfl⟩
  rw [← g9] at A9 st9
  have g_b9 : n0 ≤ b9 := Nat.le_trans Zn (Nat.le_of_eq g9.symm)
  have sz_b9 : h0.size ≤ b9 := Nat.le_trans Kp.1 (Nat.le_of_eq g9.symm)
  have ne_r0_b9 : r0 ≠ b9 := Nat.ne_of_lt (Nat.lt_of_lt_of_le E_r0.lt (Nat.le_of_eq g9.symm))
  replace OLD := OLD.ext E9
  replace E_r0 := E_r0.ext E9
  replace F_slotTicks_r0 := F_slotTicks_r0.ext E9
  replace F_spanTicks_r0 := F_spanTicks_r0.ext E9
  replace F_buckets_r0 := F_buckets_r0.ext E9
  replace F_slotStart_r0 := F_slotStart_r0.ext E9
  replace F_slot_r0 := F_slot_r0.ext E9
  replace Zn := Nat.le_trans Zn E9.1
  have Kp := Kp.ext E9
  have V_b9 : Arv Z h9 b9 k9 (.object "com/example/lachesis/lachesis/timer/Bucket") p2 [] .null := Arv.new A9 hp20
  obtain ⟨T10, h10, X10, e10, W10, st10⟩ := putF X9 hx hZ hown (host := "") (Or.inl (hw _ (List.mem_of_getElem? (i := 26) rfl))) Via.refl e9 F_buckets_r0 E_r0 (Or.inr ⟨(hw _ (List.mem_of_getElem? (i := 27) rfl)), rfl, hnm⟩) (hw _ (List.mem_of_getElem? (i := 12) rfl)) (ty := (.array (.object "com/example/lachesis/lachesis/timer/Bucket"))) (by decide) rfl rfl (g := (mkF m 39 #[.val (.ref r0), .val (.long q1), .second, .val (.int p2), .val (.long q3), .second, .unset] [(.ref b9), (.ref r0)])) rfl rfl (hb hby d_prog_37_method_1_code_39)
  replace OLD := OLD.wr W10 g_r0
  replace E_r0 := E_r0.wr W10
  replace F_slotTicks_r0 := F_slotTicks_r0.other W10 (Or.inr (slot_ne (Or.inr (hw _ (List.mem_of_getElem? (i := 21) rfl))) (Or.inr (hw _ (List.mem_of_getElem? (i := 27) rfl))) (by decide) (t := .long) (t' := (.array (.object "com/example/lachesis/lachesis/timer/Bucket"))) (by decide) (by decide)))
  replace F_spanTicks_r0 := F_spanTicks_r0.other W10 (Or.inr (slot_ne (Or.inr (hw _ (List.mem_of_getElem? (i := 24) rfl))) (Or.inr (hw _ (List.mem_of_getElem? (i := 27) rfl))) (by decide) (t := .long) (t' := (.array (.object "com/example/lachesis/lachesis/timer/Bucket"))) (by decide) (by decide)))
  replace F_slotStart_r0 := F_slotStart_r0.other W10 (Or.inr (slot_ne (Or.inl (hw _ (List.mem_of_getElem? (i := 45) rfl))) (Or.inr (hw _ (List.mem_of_getElem? (i := 27) rfl))) (by decide) (t := .long) (t' := (.array (.object "com/example/lachesis/lachesis/timer/Bucket"))) (by decide) (by decide)))
  replace F_slot_r0 := F_slot_r0.other W10 (Or.inr (slot_ne (Or.inl (hw _ (List.mem_of_getElem? (i := 47) rfl))) (Or.inr (hw _ (List.mem_of_getElem? (i := 27) rfl))) (by decide) (t := .int) (t' := (.array (.object "com/example/lachesis/lachesis/timer/Bucket"))) (by decide) (by decide)))
  replace V_b9 := V_b9.other W10 (Ne.symm ne_r0_b9)
  have F_buckets_r0 := F_buckets_r0.same W10
  have N10 := Fr.snoc X10 N8 g_r0
  have Kp := Kp.wr W10 (Or.inl (List.mem_of_getElem? (i := 0) rfl))
  replace Zn := Nat.le_trans Zn (Keep.of_wr W10).1
  have K11 : ∀ t, Steps p.tables e below (T10.setTop (mkF m 45 #[.val (.ref r0), .val (.long q1), .second, .val (.int p2), .val (.long q3), .second, .val (.int (0 : Int32))] [])) t → Steps p.tables e below (s₁.setTop (entryFrame m #[(.ref r0), (.long q1), (.int p2), (.long q3)] 7)) t := by
    intro t kt
    refine K4j t ?_
    show Steps p.tables e below (T4.setTop (mkF m 31 #[.val (.ref r0), .val (.long q1), .second, .val (.int p2), .val (.long q3), .second, .unset] [(.long sp), (.ref r0)])) _
    refine st8 _ ?_
    show Steps p.tables e below (T8.setTop (mkF m 34 #[.val (.ref r0), .val (.long q1), .second, .val (.int p2), .val (.long q3), .second, .unset] [])) _
    refine XS.aloadN X8.here hx rfl (hb hby d_prog_37_method_1_code_34) rfl rfl ?_
    show Steps p.tables e below (T8.setTop (mkF m 35 #[.val (.ref r0), .val (.long q1), .second, .val (.int p2), .val (.long q3), .second, .unset] [(.ref r0)])) _
    refine XS.iloadN X8.here hx rfl (hb hby d_prog_37_method_1_code_35) rfl ?_
    show Steps p.tables e below (T8.setTop (mkF m 36 #[.val (.ref r0), .val (.long q1), .second, .val (.int p2), .val (.long q3), .second, .unset] [(.int p2), (.ref r0)])) _
    refine st9 _ ?_
    show Steps p.tables e below (T9.setTop (mkF m 39 #[.val (.ref r0), .val (.long q1), .second, .val (.int p2), .val (.long q3), .second, .unset] [(.ref b9), (.ref r0)])) _
    refine st10 _ ?_
    show Steps p.tables e below (T10.setTop (mkF m 42 #[.val (.ref r0), .val (.long q1), .second, .val (.int p2), .val (.long q3), .second, .unset] [])) _
    refine XS.iconst X10.here hx rfl (hb hby d_prog_37_method_1_code_42) ?_
    show Steps p.tables e below (T10.setTop (mkF m 43 #[.val (.ref r0), .val (.long q1), .second, .val (.int p2), .val (.long q3), .second, .unset] [(.int (0 : Int32))])) _
    refine XS.istore X10.here hx rfl (hb hby d_prog_37_method_1_code_43) rfl (l' := #[.val (.ref r0), .val (.long q1), .second, .val (.int p2), .val (.long q3), .second, .val (.int (0 : Int32))]) rfl ?_
    exact kt
  obtain ⟨T12, h12, lc12, bs, X12, e12, Zn, N12L, KL, V_b9, hbl, hbe, hbn, stL⟩ := loopW r0 q1 p2 q3 w_NONE b9 k9 hx hZ hw hby hml hown S_NONE O9 g_b9 ne_r0_b9 hp20 p2.toNatClampNeg (0 : Int32) T10 _ _ _ h10 [] X10 e10 Zn N10 OLD F_buckets_r0 V_b9 (by decide) rfl (by simp) (fun x q => by cases q) List.nodup_nil (by show _ ≤ 6; omega) (by show _ ≤ 25; omega)
  have OLD := OLD.keep KL (allS g_b9 all0)
  have E_r0 := E_r0.keep KL
  have F_slotTicks_r0 := F_slotTicks_r0.keep KL (ninS ne_r0_b9 nin0)
  have F_spanTicks_r0 := F_spanTicks_r0.keep KL (ninS ne_r0_b9 nin0)
  have F_buckets_r0 := F_buckets_r0.keep KL (ninS ne_r0_b9 nin0)
  have F_slotStart_r0 := F_slotStart_r0.keep KL (ninS ne_r0_b9 nin0)
  have F_slot_r0 := F_slot_r0.keep KL (ninS ne_r0_b9 nin0)
  have Kp := Kp.trans KL (allS (Or.inr sz_b9) all0)
  have X_bs : own_exs Z h12 bs := hbe
  have K13 : ∀ t, Steps p.tables e below (T12.setTop (mkF m 45 #[.val (.ref r0), .val (.long q1), .second, .val (.int p2), .val (.long q3), .second, .val (.int p2)] [])) t → Steps p.tables e below (s₁.setTop (entryFrame m #[(.ref r0), (.long q1), (.int p2), (.long q3)] 7)) t := fun t k => K11 t (stL t k)
  have hc48 : ¬ (p2 < p2) := (own_irr p2)
  obtain ⟨cq14, kq14, q14a, q14b, q14c⟩ := isOf hZ e12 E_r0
  obtain ⟨_, _, ⟨T14, L14, k14, n14⟩, -, X14, ⟨Lc14, hQ14, l14, y14, z14⟩, st14⟩ := X12.virtualBack hx (y := (⟨"com/example/lachesis/lachesis/timer/Wheel", "moveTo", "(J)V"⟩ : MethodName)) (z := (⟨"com/example/lachesis/lachesis/timer/Wheel", "moveTo", "(J)V"⟩ : MethodName)) hown (mvT hZ (hw _ (List.mem_of_getElem? (i := 39) rfl))) (mvT hZ (hw _ (List.mem_of_getElem? (i := 40) rfl))) (notFace_of_selects (args := #[]) (mvT hZ (hw _ (List.mem_of_getElem? (i := 42) rfl)))) (mvT hZ (hw _ (List.mem_of_getElem? (i := 42) rfl))) (mvT hZ (hw _ (List.mem_of_getElem? (i := 41) rfl))) (by decide) (backOf (W := 0) (rmM l Z a0 hw [] r0 q3 q1 sp b9 (0 : Int64) (0 : Int32) k9 p2 (bs.map Value.ref) h12 n0 Zn E_r0 g_r0 (Ne.symm ne_r0_b9) F_slotTicks_r0 F_spanTicks_r0 F_buckets_r0 F_slotStart_r0 F_slot_r0 V_b9 (own_nzst hq1) (own_nz64 hp2.1)) hZ (hw _ (List.mem_of_getElem? (i := 43) rfl)) (hw _ (List.mem_of_getElem? (i := 13) rfl)) (by decide) (by decide)) q14a q14c (g := (mkF m 74 #[.val (.ref r0), .val (.long q1), .second, .val (.int p2), .val (.long q3), .second, .val (.int p2)] [(.long q3), (.ref r0)])) rfl (by rw [hml]; rfl) (Steps.refl _) (argsL := [(.long q3)]) (rest := []) (lenOf pd_3 rfl) rfl (by show 2 * 0 + _ ≤ _; exact Nat.le_of_eq rfl) (hb hby d_prog_37_method_1_code_74) (fun _ _ => ⟨rfl, e12, (by show (0 + 1 + p2.toNatClampNeg) + 0 ≤ 6; omega), (by show (0 + 5 + 4 * p2.toNatClampNeg) + 0 ≤ 25; omega)⟩)
  dsimp only [Pt.U, Pt.locs, Pt.cells, Pt.slots] at X14 l14 y14 z14 st14 hQ14
  subst l14 y14 z14
  obtain ⟨rfl, N14q, K14k, pf14_0, pf14_1, pf14_2, pf14_3, pf14_4, pf14_5⟩ := hQ14
  have N14 := Fr.app N12L N14q
  have OLD := OLD.keep K14k (allS g_r0 all0)
  have E_r0 := E_r0.keep K14k
  have V_b9 := V_b9.keep K14k (ninS (Ne.symm ne_r0_b9) nin0)
  have X_bs := X_bs.keep K14k
  have Kp := Kp.trans K14k (allS (Or.inl (List.mem_of_getElem? (i := 0) rfl)) all0)
  replace Zn := Nat.le_trans Zn K14k.1
  have E_r0 := pf14_0
  have F_slotTicks_r0 := pf14_1
  have F_spanTicks_r0 := pf14_2
  have F_buckets_r0 := pf14_3
  have F_slotStart_r0 := pf14_4
  have F_slot_r0 := pf14_5
  obtain ⟨fs, hr, hrun, hended, hW, hsame⟩ := X14.leave (v := none) (fun _ => rfl) hlk
  refine ⟨_, _, K13 _ ?_, hrun, hended, _, _, rfl, ?_, ⟨_, rfl⟩, hW, hsame.mono (by show _ ≤ 6; omega) (by show _ ≤ 25; omega)⟩
  ·
    show Steps p.tables e below (T12.setTop (mkF m 45 #[.val (.ref r0), .val (.long q1), .second, .val (.int p2), .val (.long q3), .second, .val (.int p2)] [])) _
    refine XS.iload X12.here hx rfl (hb hby d_prog_37_method_1_code_45) rfl ?_
    show Steps p.tables e below (T12.setTop (mkF m 47 #[.val (.ref r0), .val (.long q1), .second, .val (.int p2), .val (.long q3), .second, .val (.int p2)] [(.int p2)])) _
    refine XS.iloadN X12.here hx rfl (hb hby d_prog_37_method_1_code_47) rfl ?_
    show Steps p.tables e below (T12.setTop (mkF m 48 #[.val (.ref r0), .val (.long q1), .second, .val (.int p2), .val (.long q3), .second, .val (.int p2)] [(.int p2), (.int p2)])) _
    refine XS.icmpYes X12.here hx rfl (pc0 := 48) (pc' := 71) rfl (hb hby d_prog_37_method_1_code_48) rfl (flt hc48).2.1 (by decide) (by decide) ?_
    show Steps p.tables e below (T12.setTop (mkF m 71 #[.val (.ref r0), .val (.long q1), .second, .val (.int p2), .val (.long q3), .second, .val (.int p2)] [])) _
    refine XS.aloadN X12.here hx rfl (hb hby d_prog_37_method_1_code_71) rfl rfl ?_
    show Steps p.tables e below (T12.setTop (mkF m 72 #[.val (.ref r0), .val (.long q1), .second, .val (.int p2), .val (.long q3), .second, .val (.int p2)] [(.ref r0)])) _
    refine XS.lload X12.here hx rfl (hb hby d_prog_37_method_1_code_72) rfl ?_
    show Steps p.tables e below (T12.setTop (mkF m 74 #[.val (.ref r0), .val (.long q1), .second, .val (.int p2), .val (.long q3), .second, .val (.int p2)] [(.long q3), (.ref r0)])) _
    refine st14.trans ?_
    show Steps p.tables e below (T14.setTop (mkF m 77 #[.val (.ref r0), .val (.long q1), .second, .val (.int p2), .val (.long q3), .second, .val (.int p2)] [])) _
    exact X14.returnOut hx Bd.returns (hb hby d_prog_37_method_1_code_77) hr
  ·
    show Q_rmW Z r0 q1 p2 q3 w_NONE h0 n0 _ T14.heap _
    exact ⟨b9, k9, bs, rfl, N14, Kp, g_b9, sz_b9, (Ne.symm ne_r0_b9), hbl, hbn, X_bs, V_b9, E_r0, F_slotTicks_r0, (hsp ▸ F_spanTicks_r0), F_buckets_r0, F_slotStart_r0, F_slot_r0⟩
theorem own_slotI {t st : Int64} {nn : Int32} (h : 1 ≤ st.toInt ∧ 0 ≤ t.toInt) (hn : 2 ≤ nn.toInt) : (own_slot t st nn).toInt = t.toInt / st.toInt % nn.toInt := by
  have e : (t / st).toInt = t.toInt / st.toInt := by rw [Jvm.Kit.i64_div (by omega), Int.tdiv_eq_ediv_of_nonneg h.2]
  have p0 : 0 ≤ t.toInt / st.toInt := Int.ediv_nonneg h.2 (by omega)
  have n1 : (nn.toInt64).toInt = nn.toInt := Jvm.Kit.i64_of_i32 nn
  have u := nn.toInt_lt
  have q : ((t / st) - ((t / st) / (nn.toInt64)) * (nn.toInt64)).toInt = t.toInt / st.toInt % nn.toInt := by rw [Jvm.Kit.i64_rem_nonneg (by rw [e]; exact p0), e, n1]
  have b1 := Int.emod_nonneg (t.toInt / st.toInt) (b := nn.toInt) (by omega)
  have b2 := Int.emod_lt_of_pos (t.toInt / st.toInt) (b := nn.toInt) (by omega)
  unfold own_slot
  rw [Jvm.Kit.i32_of_i64 (by rw [q]; omega) (by rw [q]; omega), q]
theorem own_slotB {t st : Int64} {nn : Int32} (h : 1 ≤ st.toInt ∧ 0 ≤ t.toInt) (hn : 2 ≤ nn.toInt) : 0 ≤ (own_slot t st nn).toInt ∧ (own_slot t st nn).toInt < nn.toInt := by
  rw [own_slotI h hn]
  exact ⟨Int.emod_nonneg _ (by omega), Int.emod_lt_of_pos _ (by omega)⟩
def own_ix (sl : Int32) (q : Int64) (nn : Int32) : Int32 := if (sl + (q.toInt32)) < nn then (sl + (q.toInt32)) else ((sl + (q.toInt32)) - nn)
theorem own_idx0 {sl e nn : Int32} (h : sl = 0) (be : 0 ≤ e.toInt ∧ e.toInt < nn.toInt) : own_ix sl (e.toInt64) nn = e := by
  have e1 : (e.toInt64).toInt32 = e := by
    apply Int32.toInt_inj.mp
    have g : (e.toInt64).toInt = e.toInt := Jvm.Kit.i64_of_i32 e
    have u := e.toInt_lt
    rw [Jvm.Kit.i32_of_i64 (by rw [g]; omega) (by rw [g]; omega), g]
  subst h
  unfold own_ix
  rw [e1, Int32.zero_add, if_pos (by rw [Int32.lt_iff_toInt_lt]; omega)]
theorem own_idx1 {sl e nn : Int32} (h : sl = e) (be : 0 ≤ e.toInt ∧ e.toInt < nn.toInt) : own_ix sl (0 : Int64) nn = e := by
  subst h
  unfold own_ix
  rw [show (0 : Int64).toInt32 = 0 by decide, Int32.add_zero, if_pos (by rw [Int32.lt_iff_toInt_lt]; omega)]
theorem own_getref (ws : List Addr) (n : Nat) (h : n < ws.length) : (ws.map Value.ref).getD n .null = .ref (ws.getD n 0) := by
  simp [List.getD_eq_getElem?_getD, List.getElem?_map, h]
theorem own_inb {e nn : Int32} (be : 0 ≤ e.toInt ∧ e.toInt < nn.toInt) : ¬ e < 0 ∧ e < nn := ⟨own_ge0.mpr be.1, by rw [Int32.lt_iff_toInt_lt]; exact be.2⟩
theorem own_inl {e nn : Int32} (be : 0 ≤ e.toInt ∧ e.toInt < nn.toInt) : e.toNatClampNeg < nn.toNatClampNeg := by
  have u := own_nn (own_inb be).1
  have v := own_nn (own_ge0.mpr (by omega : 0 ≤ nn.toInt))
  omega
theorem d_prog_37_method_5_code_0 : decode prog_37_method_5_code 0 = .ok (.aload_n 0, 1) := by decide +kernel
theorem d_prog_37_method_5_code_1 : decode prog_37_method_5_code 1 = .ok (.getfield 34, 3) := by decide +kernel
theorem d_prog_37_method_5_code_4 : decode prog_37_method_5_code 4 = .ok (.lload_n 1, 1) := by decide +kernel
theorem d_prog_37_method_5_code_5 : decode prog_37_method_5_code 5 = .ok (.l2i, 1) := by decide +kernel
theorem d_prog_37_method_5_code_6 : decode prog_37_method_5_code 6 = .ok (.iadd, 1) := by decide +kernel
theorem d_prog_37_method_5_code_7 : decode prog_37_method_5_code 7 = .ok (.istore_n 3, 1) := by decide +kernel
theorem d_prog_37_method_5_code_8 : decode prog_37_method_5_code 8 = .ok (.aload_n 0, 1) := by decide +kernel
theorem d_prog_37_method_5_code_9 : decode prog_37_method_5_code 9 = .ok (.getfield 22, 3) := by decide +kernel
theorem d_prog_37_method_5_code_12 : decode prog_37_method_5_code 12 = .ok (.iload_n 3, 1) := by decide +kernel
theorem d_prog_37_method_5_code_13 : decode prog_37_method_5_code 13 = .ok (.aload_n 0, 1) := by decide +kernel
theorem d_prog_37_method_5_code_14 : decode prog_37_method_5_code 14 = .ok (.getfield 22, 3) := by decide +kernel
theorem d_prog_37_method_5_code_17 : decode prog_37_method_5_code 17 = .ok (.arraylength, 1) := by decide +kernel
theorem d_prog_37_method_5_code_18 : decode prog_37_method_5_code 18 = .ok (.if_icmp .ge 7, 3) := by decide +kernel
theorem d_prog_37_method_5_code_21 : decode prog_37_method_5_code 21 = .ok (.iload_n 3, 1) := by decide +kernel
theorem d_prog_37_method_5_code_22 : decode prog_37_method_5_code 22 = .ok (.goto 10, 3) := by decide +kernel
theorem d_prog_37_method_5_code_32 : decode prog_37_method_5_code 32 = .ok (.aaload, 1) := by decide +kernel
theorem d_prog_37_method_5_code_33 : decode prog_37_method_5_code 33 = .ok (.areturn, 1) := by decide +kernel
theorem d_prog_37_method_5_code_25 : decode prog_37_method_5_code 25 = .ok (.iload_n 3, 1) := by decide +kernel
theorem d_prog_37_method_5_code_26 : decode prog_37_method_5_code 26 = .ok (.aload_n 0, 1) := by decide +kernel
theorem d_prog_37_method_5_code_27 : decode prog_37_method_5_code 27 = .ok (.getfield 22, 3) := by decide +kernel
theorem d_prog_37_method_5_code_30 : decode prog_37_method_5_code 30 = .ok (.arraylength, 1) := by decide +kernel
theorem d_prog_37_method_5_code_31 : decode prog_37_method_5_code 31 = .ok (.isub, 1) := by decide +kernel
theorem ef_rmK (m : MethodId) (x0 : Addr) (x1 : Int64) : entryFrame m #[(.ref x0), (.long x1)] 4 = mkF m 0 #[.val (.ref x0), .val (.long x1), .second, .unset] [] := by first | (simp [entryFrame, mkF, argsToLocals, Value.category]; done) | rfl
def Q_rmK (Z : State) (r0 : Addr) (q1 : Int64) (sl : Int32) (ba : Addr) (kk : ClassId) (nn : Int32) (bs : List Addr) (ix : Int32) (h0 : Heap) (n0 : Nat) (v : Option Value) (h : Heap) (L : List Loc) : Prop := v = some (.ref (bs.getD ix.toNatClampNeg 0)) ∧ Fr n0 L ∧ h = h0
set_option maxRecDepth 65536 in
set_option maxHeartbeats 40000000 in
theorem rmK (l : Launch) (Z : State) (a0 : Array Value) (hw : ∀ d ∈ tables_1, d.before a0 Z = true) (ws : List Jvm.Cond) (r0 : Addr) (q1 : Int64) (sl : Int32) (ba : Addr) (kk : ClassId) (nn : Int32) (bs : List Addr) (ix : Int32) (h0 : Heap) (n0 : Nat) (Z0 : n0 ≤ h0.size) (F_slot_r0 : Fld Z h0 r0 "com/example/lachesis/lachesis/timer/Wheel" "slot" "I" (.int sl)) (F_buckets_r0 : Fld Z h0 r0 "com/example/lachesis/lachesis/timer/Wheel" "buckets" "[Lcom/example/lachesis/lachesis/timer/Bucket;" (.ref ba)) (V_ba : Arv Z h0 ba kk (.object "com/example/lachesis/lachesis/timer/Bucket") nn (bs.map Value.ref) .null) (hbl : bs.length = nn.toNatClampNeg) (be : 0 ≤ ix.toInt ∧ ix.toInt < nn.toInt) (hix0 : own_ix sl q1 nn = ix) :
    MetFree l (⟨"com/example/lachesis/lachesis/timer/Wheel", "bucket", "(J)Lcom/example/lachesis/lachesis/timer/Bucket;"⟩ : MethodName) (head1 (Jvm.Cond.code (⟨"com/example/lachesis/lachesis/timer/Wheel", "bucket", "(J)Lcom/example/lachesis/lachesis/timer/Bucket;"⟩ : MethodName) prog_37_method_5_code 4 (some (.object "com/example/lachesis/lachesis/timer/Bucket")) :: ws) ({ frames := 0, cells := 0, slots := 0, locals := 0 } : Room)) (fun a U => a = #[(.ref r0), (.long q1)] ∧ Z.Warmed39 U.vm ∧ U.heap = h0) (fun _ _ _ _ _ => True) (fun _ U o U' => ∃ v L, o = .returned v ∧ Q_rmK Z r0 q1 sl ba kk nn bs ix h0 n0 v U'.heap L ∧ FrameEnd U o U' L ({ frames := 0, cells := 0, slots := 0, locals := 0 } : Room).cells ({ frames := 0, cells := 0, slots := 0, locals := 0 } : Room).slots) := by
  refine MetFree.of_bodySF (plainFor_of_name pn_1) hisR ?_
  intro p e s m args below meth c s₁ Bd hml0 hP hK
  obtain ⟨rfl, hZ, hh⟩ := hP
  have hx := Bd.exec
  have hby := Bd.bytes
  have hml : c.maxLocals = 4 := hml0
  have hown : s.vm.findClass "com/example/lachesis/lachesis/timer/Wheel" = some m.cls := findClass_of_methodNamed Bd.named
  have hnm := (name_of_methodNamed Bd.named Bd.method).1
  have hlk : meth.locks = false := by first | exact BodyLoose.notSynchronized (by assumption) | exact Body.notSynchronized (by assumption) | assumption
  have X0 : Stand p l e ({ frames := 0, cells := 0, slots := 0, locals := 0 } : Room) s m #[(.ref r0), (.long q1)] below meth c s₁ [] 0 0 := Stand.of_body Bd
  have e0 : s₁.heap = h0 := by rw [← hh, Bd.state]; rfl
  have N0 := Fr.nil n0
  have Zn := Z0
  have K0 : ∀ t, Steps p.tables e below (s₁.setTop (mkF m 0 #[.val (.ref r0), .val (.long q1), .second, .unset] [])) t → Steps p.tables e below (s₁.setTop (entryFrame m #[(.ref r0), (.long q1)] 4)) t := fun t k => castTop (ef_rmK m r0 q1) k
  obtain ⟨T1, X1, e1, st1⟩ := getF X0 hx hZ hown (host := "") (Or.inl (hw _ (List.mem_of_getElem? (i := 46) rfl))) Via.refl e0 F_slot_r0 (g := (mkF m 1 #[.val (.ref r0), .val (.long q1), .second, .unset] [(.ref r0)])) rfl rfl (hb hby d_prog_37_method_5_code_1)
  obtain ⟨T2, X2, e2, st2⟩ := getF X1 hx hZ hown (host := "") (Or.inl (hw _ (List.mem_of_getElem? (i := 26) rfl))) Via.refl e1 F_buckets_r0 (g := (mkF m 9 #[.val (.ref r0), .val (.long q1), .second, .val (.int (sl + (q1.toInt32)))] [(.ref r0)])) rfl rfl (hb hby d_prog_37_method_5_code_9)
  obtain ⟨T3, X3, e3, st3⟩ := getF X2 hx hZ hown (host := "") (Or.inl (hw _ (List.mem_of_getElem? (i := 26) rfl))) Via.refl e2 F_buckets_r0 (g := (mkF m 14 #[.val (.ref r0), .val (.long q1), .second, .val (.int (sl + (q1.toInt32)))] [(.ref r0), (.int (sl + (q1.toInt32))), (.ref ba)])) rfl rfl (hb hby d_prog_37_method_5_code_14)
  have Vq4 := V_ba
  obtain ⟨cl4, Ar4, -, S4, N4z, -, -⟩ := Vq4
  have K5 : ∀ t, Steps p.tables e below (T3.setTop (mkF m 18 #[.val (.ref r0), .val (.long q1), .second, .val (.int (sl + (q1.toInt32)))] [(.int nn), (.int (sl + (q1.toInt32))), (.ref ba)])) t → Steps p.tables e below (s₁.setTop (entryFrame m #[(.ref r0), (.long q1)] 4)) t := by
    intro t kt
    refine K0 t ?_
    show Steps p.tables e below (s₁.setTop (mkF m 0 #[.val (.ref r0), .val (.long q1), .second, .unset] [])) _
    refine XS.aloadN X0.here hx rfl (hb hby d_prog_37_method_5_code_0) rfl rfl ?_
    show Steps p.tables e below (s₁.setTop (mkF m 1 #[.val (.ref r0), .val (.long q1), .second, .unset] [(.ref r0)])) _
    refine st1 _ ?_
    show Steps p.tables e below (T1.setTop (mkF m 4 #[.val (.ref r0), .val (.long q1), .second, .unset] [(.int sl)])) _
    refine XS.lloadN X1.here hx rfl (hb hby d_prog_37_method_5_code_4) rfl ?_
    show Steps p.tables e below (T1.setTop (mkF m 5 #[.val (.ref r0), .val (.long q1), .second, .unset] [(.long q1), (.int sl)])) _
    refine XS.l2i X1.here hx rfl (hb hby d_prog_37_method_5_code_5) rfl ?_
    show Steps p.tables e below (T1.setTop (mkF m 6 #[.val (.ref r0), .val (.long q1), .second, .unset] [(.int (q1.toInt32)), (.int sl)])) _
    refine XS.iadd X1.here hx rfl (hb hby d_prog_37_method_5_code_6) rfl ?_
    show Steps p.tables e below (T1.setTop (mkF m 7 #[.val (.ref r0), .val (.long q1), .second, .unset] [(.int (sl + (q1.toInt32)))])) _
    refine XS.istoreN X1.here hx rfl (hb hby d_prog_37_method_5_code_7) rfl (l' := #[.val (.ref r0), .val (.long q1), .second, .val (.int (sl + (q1.toInt32)))]) rfl ?_
    show Steps p.tables e below (T1.setTop (mkF m 8 #[.val (.ref r0), .val (.long q1), .second, .val (.int (sl + (q1.toInt32)))] [])) _
    refine XS.aloadN X1.here hx rfl (hb hby d_prog_37_method_5_code_8) rfl rfl ?_
    show Steps p.tables e below (T1.setTop (mkF m 9 #[.val (.ref r0), .val (.long q1), .second, .val (.int (sl + (q1.toInt32)))] [(.ref r0)])) _
    refine st2 _ ?_
    show Steps p.tables e below (T2.setTop (mkF m 12 #[.val (.ref r0), .val (.long q1), .second, .val (.int (sl + (q1.toInt32)))] [(.ref ba)])) _
    refine XS.iloadN X2.here hx rfl (hb hby d_prog_37_method_5_code_12) rfl ?_
    show Steps p.tables e below (T2.setTop (mkF m 13 #[.val (.ref r0), .val (.long q1), .second, .val (.int (sl + (q1.toInt32)))] [(.int (sl + (q1.toInt32))), (.ref ba)])) _
    refine XS.aloadN X2.here hx rfl (hb hby d_prog_37_method_5_code_13) rfl rfl ?_
    show Steps p.tables e below (T2.setTop (mkF m 14 #[.val (.ref r0), .val (.long q1), .second, .val (.int (sl + (q1.toInt32)))] [(.ref r0), (.int (sl + (q1.toInt32))), (.ref ba)])) _
    refine st3 _ ?_
    show Steps p.tables e below (T3.setTop (mkF m 17 #[.val (.ref r0), .val (.long q1), .second, .val (.int (sl + (q1.toInt32)))] [(.ref ba), (.int (sl + (q1.toInt32))), (.ref ba)])) _
    refine X3.arraylength hx (by rw [e3]; exact Ar4.1) (State.isArrayOf_alike hZ.alike Ar4.2.1) (g := (mkF m 17 #[.val (.ref r0), .val (.long q1), .second, .val (.int (sl + (q1.toInt32)))] [(.ref ba), (.int (sl + (q1.toInt32))), (.ref ba)])) rfl rfl (hb hby d_prog_37_method_5_code_17) _ ?_
    rw [len_of S4 N4z]
    exact kt
  by_cases hc18 : (sl + (q1.toInt32)) < nn
  ·
    have K6 : ∀ t, Steps p.tables e below (T3.setTop (mkF m 32 #[.val (.ref r0), .val (.long q1), .second, .val (.int (sl + (q1.toInt32)))] [(.int (sl + (q1.toInt32))), (.ref ba)])) t → Steps p.tables e below (s₁.setTop (entryFrame m #[(.ref r0), (.long q1)] 4)) t := by
      intro t kt
      refine K5 t ?_
      show Steps p.tables e below (T3.setTop (mkF m 18 #[.val (.ref r0), .val (.long q1), .second, .val (.int (sl + (q1.toInt32)))] [(.int nn), (.int (sl + (q1.toInt32))), (.ref ba)])) _
      refine XS.icmpNo X3.here hx rfl (hb hby d_prog_37_method_5_code_18) rfl (tlt hc18).2.1 ?_
      show Steps p.tables e below (T3.setTop (mkF m 21 #[.val (.ref r0), .val (.long q1), .second, .val (.int (sl + (q1.toInt32)))] [(.ref ba)])) _
      refine XS.iloadN X3.here hx rfl (hb hby d_prog_37_method_5_code_21) rfl ?_
      show Steps p.tables e below (T3.setTop (mkF m 22 #[.val (.ref r0), .val (.long q1), .second, .val (.int (sl + (q1.toInt32)))] [(.int (sl + (q1.toInt32))), (.ref ba)])) _
      refine XS.goto X3.here hx rfl (pc0 := 22) (pc' := 32) rfl (hb hby d_prog_37_method_5_code_22) (by decide) (by decide) ?_
      exact kt
    have hix : (sl + (q1.toInt32)) = ix := by have z := hix0; unfold own_ix at z; rwa [if_pos hc18] at z
    rw [hix] at K6
    have Vq7 := V_ba
    obtain ⟨cl7, Ar7, q7, S7, N7z, H7, G7⟩ := Vq7
    have hin7 : ¬ (ix < 0 ∨ cl7.slots.size ≤ (ix).toNatClampNeg) := inb_of S7 (own_inb be)
    have hat7 : cl7.slots[(ix).toNatClampNeg]? = some (.ref (bs.getD ix.toNatClampNeg 0)) := Has.at H7 hin7 (own_getref bs _ (by rw [hbl]; exact own_inl be))
    obtain ⟨fs, hr, hrun, hended, hW, hsame⟩ := X3.leave (v := some (.ref (bs.getD ix.toNatClampNeg 0))) (fun h => by rw [Bd.returns] at h; cases h) hlk
    refine ⟨_, _, K6 _ ?_, hrun, hended, _, _, rfl, ?_, ⟨_, rfl⟩, hW, hsame.mono (by decide) (by decide)⟩
    ·
      show Steps p.tables e below (T3.setTop (mkF m 32 #[.val (.ref r0), .val (.long q1), .second, .val (.int ix)] [(.int ix), (.ref ba)])) _
      refine X3.aaload hx (j := ix) (v := (.ref (bs.getD ix.toNatClampNeg 0))) (by rw [e3]; exact Ar7.1) (State.isArrayOf_alike hZ.alike Ar7.2.1) rfl Ar7.2.2 hin7 hat7 (g := (mkF m 32 #[.val (.ref r0), .val (.long q1), .second, .val (.int ix)] [(.int ix), (.ref ba)])) rfl rfl (hb hby d_prog_37_method_5_code_32) _ ?_
      show Steps p.tables e below (T3.setTop (mkF m 33 #[.val (.ref r0), .val (.long q1), .second, .val (.int ix)] [(.ref (bs.getD ix.toNatClampNeg 0))])) _
      exact retOut X3 hx Bd.returns rfl (Or.inr (Or.inr (Or.inr (Or.inr ⟨rfl, rfl, rfl⟩)))) (hb hby d_prog_37_method_5_code_33) hr
    ·
      show Q_rmK Z r0 q1 sl ba kk nn bs ix h0 n0 _ T3.heap _
      rw [e3]
      exact ⟨rfl, N0, rfl⟩
  ·
    obtain ⟨T8, X8, e8, st8⟩ := getF X3 hx hZ hown (host := "") (Or.inl (hw _ (List.mem_of_getElem? (i := 26) rfl))) Via.refl e3 F_buckets_r0 (g := (mkF m 27 #[.val (.ref r0), .val (.long q1), .second, .val (.int (sl + (q1.toInt32)))] [(.ref r0), (.int (sl + (q1.toInt32))), (.ref ba)])) rfl rfl (hb hby d_prog_37_method_5_code_27)
    have Vq9 := V_ba
    obtain ⟨cl9, Ar9, -, S9, N9z, -, -⟩ := Vq9
    have K10 : ∀ t, Steps p.tables e below (T8.setTop (mkF m 32 #[.val (.ref r0), .val (.long q1), .second, .val (.int (sl + (q1.toInt32)))] [(.int ((sl + (q1.toInt32)) - nn)), (.ref ba)])) t → Steps p.tables e below (s₁.setTop (entryFrame m #[(.ref r0), (.long q1)] 4)) t := by
      intro t kt
      refine K5 t ?_
      show Steps p.tables e below (T3.setTop (mkF m 18 #[.val (.ref r0), .val (.long q1), .second, .val (.int (sl + (q1.toInt32)))] [(.int nn), (.int (sl + (q1.toInt32))), (.ref ba)])) _
      refine XS.icmpYes X3.here hx rfl (pc0 := 18) (pc' := 25) rfl (hb hby d_prog_37_method_5_code_18) rfl (flt hc18).2.1 (by decide) (by decide) ?_
      show Steps p.tables e below (T3.setTop (mkF m 25 #[.val (.ref r0), .val (.long q1), .second, .val (.int (sl + (q1.toInt32)))] [(.ref ba)])) _
      refine XS.iloadN X3.here hx rfl (hb hby d_prog_37_method_5_code_25) rfl ?_
      show Steps p.tables e below (T3.setTop (mkF m 26 #[.val (.ref r0), .val (.long q1), .second, .val (.int (sl + (q1.toInt32)))] [(.int (sl + (q1.toInt32))), (.ref ba)])) _
      refine XS.aloadN X3.here hx rfl (hb hby d_prog_37_method_5_code_26) rfl rfl ?_
      show Steps p.tables e below (T3.setTop (mkF m 27 #[.val (.ref r0), .val (.long q1), .second, .val (.int (sl + (q1.toInt32)))] [(.ref r0), (.int (sl + (q1.toInt32))), (.ref ba)])) _
      refine st8 _ ?_
      show Steps p.tables e below (T8.setTop (mkF m 30 #[.val (.ref r0), .val (.long q1), .second, .val (.int (sl + (q1.toInt32)))] [(.ref ba), (.int (sl + (q1.toInt32))), (.ref ba)])) _
      refine X8.arraylength hx (by rw [e8]; exact Ar9.1) (State.isArrayOf_alike hZ.alike Ar9.2.1) (g := (mkF m 30 #[.val (.ref r0), .val (.long q1), .second, .val (.int (sl + (q1.toInt32)))] [(.ref ba), (.int (sl + (q1.toInt32))), (.ref ba)])) rfl rfl (hb hby d_prog_37_method_5_code_30) _ ?_
      rw [len_of S9 N9z]
      show Steps p.tables e below (T8.setTop (mkF m 31 #[.val (.ref r0), .val (.long q1), .second, .val (.int (sl + (q1.toInt32)))] [(.int nn), (.int (sl + (q1.toInt32))), (.ref ba)])) _
      refine XS.isub X8.here hx rfl (hb hby d_prog_37_method_5_code_31) rfl ?_
      exact kt
    have hix : ((sl + (q1.toInt32)) - nn) = ix := by have z := hix0; unfold own_ix at z; rwa [if_neg hc18] at z
    rw [hix] at K10
    have Vq11 := V_ba
    obtain ⟨cl11, Ar11, q11, S11, N11z, H11, G11⟩ := Vq11
    have hin11 : ¬ (ix < 0 ∨ cl11.slots.size ≤ (ix).toNatClampNeg) := inb_of S11 (own_inb be)
    have hat11 : cl11.slots[(ix).toNatClampNeg]? = some (.ref (bs.getD ix.toNatClampNeg 0)) := Has.at H11 hin11 (own_getref bs _ (by rw [hbl]; exact own_inl be))
    obtain ⟨fs, hr, hrun, hended, hW, hsame⟩ := X8.leave (v := some (.ref (bs.getD ix.toNatClampNeg 0))) (fun h => by rw [Bd.returns] at h; cases h) hlk
    refine ⟨_, _, K10 _ ?_, hrun, hended, _, _, rfl, ?_, ⟨_, rfl⟩, hW, hsame.mono (by decide) (by decide)⟩
    ·
      show Steps p.tables e below (T8.setTop (mkF m 32 #[.val (.ref r0), .val (.long q1), .second, .val (.int (sl + (q1.toInt32)))] [(.int ix), (.ref ba)])) _
      refine X8.aaload hx (j := ix) (v := (.ref (bs.getD ix.toNatClampNeg 0))) (by rw [e8]; exact Ar11.1) (State.isArrayOf_alike hZ.alike Ar11.2.1) rfl Ar11.2.2 hin11 hat11 (g := (mkF m 32 #[.val (.ref r0), .val (.long q1), .second, .val (.int (sl + (q1.toInt32)))] [(.int ix), (.ref ba)])) rfl rfl (hb hby d_prog_37_method_5_code_32) _ ?_
      show Steps p.tables e below (T8.setTop (mkF m 33 #[.val (.ref r0), .val (.long q1), .second, .val (.int (sl + (q1.toInt32)))] [(.ref (bs.getD ix.toNatClampNeg 0))])) _
      exact retOut X8 hx Bd.returns rfl (Or.inr (Or.inr (Or.inr (Or.inr ⟨rfl, rfl, rfl⟩)))) (hb hby d_prog_37_method_5_code_33) hr
    ·
      show Q_rmK Z r0 q1 sl ba kk nn bs ix h0 n0 _ T8.heap _
      rw [e8]
      exact ⟨rfl, N0, rfl⟩
theorem own_dis {bs : List Addr} (h : bs.Nodup) {i j : Nat} (hi : i < bs.length) (hj : j < bs.length) (n : i ≠ j) : bs.getD i 0 ≠ bs.getD j 0 := fun e => n ((List.getD_inj hi hj h).mp e)
theorem own_ixI {sl : Int32} {q : Int64} {nn : Int32} (hn : 2 ≤ nn.toInt ∧ nn.toInt ≤ 5) (hs : 0 ≤ sl.toInt ∧ sl.toInt < nn.toInt) (hq : 0 ≤ q.toInt ∧ q.toInt < nn.toInt) : (own_ix sl q nn).toInt = if sl.toInt + q.toInt < nn.toInt then sl.toInt + q.toInt else sl.toInt + q.toInt - nn.toInt := by
  have e1 : (q.toInt32).toInt = q.toInt := Jvm.Kit.i32_of_i64 (by omega) (by omega)
  have e2 : (sl + (q.toInt32)).toInt = sl.toInt + q.toInt := by rw [Jvm.Kit.i32_add (by rw [e1]; omega) (by rw [e1]; omega), e1]
  unfold own_ix
  simp only [Int32.lt_iff_toInt_lt, e2]
  by_cases g : sl.toInt + q.toInt < nn.toInt
  · rw [if_pos g, if_pos g, e2]
  · rw [if_neg g, if_neg g, Jvm.Kit.i32_sub (by rw [e2]; omega) (by rw [e2]; omega), e2]
theorem own_ixB {sl : Int32} {q : Int64} {nn : Int32} (hn : 2 ≤ nn.toInt ∧ nn.toInt ≤ 5) (hs : 0 ≤ sl.toInt ∧ sl.toInt < nn.toInt) (hq : 0 ≤ q.toInt ∧ q.toInt < nn.toInt) : 0 ≤ (own_ix sl q nn).toInt ∧ (own_ix sl q nn).toInt < nn.toInt := by
  rw [own_ixI hn hs hq]
  split <;> omega
theorem own_ixne {sl : Int32} {q r : Int64} {nn : Int32} (hn : 2 ≤ nn.toInt ∧ nn.toInt ≤ 5) (hs : 0 ≤ sl.toInt ∧ sl.toInt < nn.toInt) (hq : 0 ≤ q.toInt ∧ q.toInt < nn.toInt) (hr : 0 ≤ r.toInt ∧ r.toInt < nn.toInt) (ne : q.toInt ≠ r.toInt) : (own_ix sl q nn).toNatClampNeg ≠ (own_ix sl r nn).toNatClampNeg := by
  have a := own_ixI hn hs hq
  have b := own_ixI hn hs hr
  have a1 := own_nn (own_ge0.mpr (own_ixB hn hs hq).1)
  have b1 := own_nn (own_ge0.mpr (own_ixB hn hs hr).1)
  intro e
  rw [e, b1, b] at a1
  rw [a] at a1
  split at a1 <;> split at a1 <;> omega
theorem own_st2 (x : Int64) : 1 ≤ (own_lmax (1 : Int64) (x &&& (9223372036854775807 : Int64))).toInt := by
  have e : (x &&& (9223372036854775807 : Int64)).toInt = x.toInt % 2 ^ 63 := Jvm.Kit.i64_mask x 9223372036854775807 (k := 63) (by decide) (by decide)
  have k1 : (1 : Int64).toInt = 1 := by decide
  unfold own_lmax
  simp only [lw_lt, Int64.lt_iff_toInt_lt, k1]
  split <;> omega
theorem own_size (y : Int32) : 2 ≤ ((2 : Int32) + (y &&& (3 : Int32))).toInt ∧ ((2 : Int32) + (y &&& (3 : Int32))).toInt ≤ 5 := by
  have e : (y &&& (3 : Int32)).toInt = y.toInt % 2 ^ 2 := Jvm.Kit.i32_mask y 3 (k := 2) (by decide) (by decide)
  have k2 : (2 : Int32).toInt = 2 := by decide
  rw [Jvm.Kit.i32_add (by omega) (by omega)]; omega
theorem own_pos (x : Int64) : 0 ≤ (x &&& (9223372036854775807 : Int64)).toInt := by
  have e : (x &&& (9223372036854775807 : Int64)).toInt = x.toInt % 2 ^ 63 := Jvm.Kit.i64_mask x 9223372036854775807 (k := 63) (by decide) (by decide)
  omega
theorem own_minp {a b : Int64} (ha : 0 ≤ a.toInt) (hb : 0 ≤ b.toInt) : 0 ≤ (own_lmin a b).toInt := by unfold own_lmin; split <;> omega
theorem own_maxp {a b : Int64} (ha : 0 ≤ a.toInt) (hb : 0 ≤ b.toInt) : 0 ≤ (own_lmax a b).toInt := by unfold own_lmax; split <;> omega
theorem own_mod (p c : Int32) (hc : 0 < c.toInt) : 0 ≤ ((p &&& (2147483647 : Int32)) - ((p &&& (2147483647 : Int32)) / c) * c).toInt ∧ ((p &&& (2147483647 : Int32)) - ((p &&& (2147483647 : Int32)) / c) * c).toInt < c.toInt := by
  have e : (p &&& (2147483647 : Int32)).toInt = p.toInt % 2 ^ 31 := Jvm.Kit.i32_mask p 2147483647 (k := 31) (by decide) (by decide)
  rw [irem_eq_mod, Jvm.Kit.i32_rem_nonneg (by omega)]
  exact ⟨Int.emod_nonneg _ (by omega), Int.emod_lt_of_pos _ hc⟩
theorem own_nz32 {n : Int32} (h : 2 ≤ n.toInt) : n ≠ 0 := fun e => by
  rw [e] at h
  have k : (0 : Int32).toInt = 0 := by decide
  omega
theorem own_idxI {s1 s2 kx nn : Int32} (hn : 2 ≤ nn.toInt ∧ nn.toInt ≤ 5) (h1 : 0 ≤ s1.toInt ∧ s1.toInt < nn.toInt) (h2 : 0 ≤ s2.toInt ∧ s2.toInt < nn.toInt) (h3 : 0 ≤ kx.toInt ∧ kx.toInt < nn.toInt) : ((((s2 + kx) - s1) + nn) - ((((s2 + kx) - s1) + nn) / nn) * nn).toInt = (s2.toInt + kx.toInt - s1.toInt + nn.toInt) % nn.toInt := by
  have e1 : (s2 + kx).toInt = s2.toInt + kx.toInt := Jvm.Kit.i32_add (by omega) (by omega)
  have e2 : ((s2 + kx) - s1).toInt = s2.toInt + kx.toInt - s1.toInt := by rw [Jvm.Kit.i32_sub (by rw [e1]; omega) (by rw [e1]; omega), e1]
  have e3 : (((s2 + kx) - s1) + nn).toInt = s2.toInt + kx.toInt - s1.toInt + nn.toInt := by rw [Jvm.Kit.i32_add (by rw [e2]; omega) (by rw [e2]; omega), e2]
  rw [irem_eq_mod, Jvm.Kit.i32_rem_nonneg (by rw [e3]; omega), e3]
theorem own_hit {s1 s2 kx nn idx : Int32} {q : Int64} (hn : 2 ≤ nn.toInt ∧ nn.toInt ≤ 5) (h1 : 0 ≤ s1.toInt ∧ s1.toInt < nn.toInt) (h2 : 0 ≤ s2.toInt ∧ s2.toInt < nn.toInt) (h3 : 0 ≤ kx.toInt ∧ kx.toInt < nn.toInt) (hi : idx.toInt = (s2.toInt + kx.toInt - s1.toInt + nn.toInt) % nn.toInt) (hq : q.toInt = idx.toInt) : own_ix s1 q nn = own_ix s2 (kx.toInt64) nn := by
  have k1 : (kx.toInt64).toInt = kx.toInt := Jvm.Kit.i64_of_i32 kx
  have b0 : nn.toInt = 2 ∨ nn.toInt = 3 ∨ nn.toInt = 4 ∨ nn.toInt = 5 := by omega
  apply Int32.toInt_inj.mp
  rcases b0 with b0 | b0 | b0 | b0 <;> rw [b0] at hi <;> (rw [own_ixI hn h1 (by omega), own_ixI hn h2 (by omega), hq, k1, b0]; split <;> split <;> omega)
theorem d_method_2_code_0 : decode method_2_code 0 = .ok (.aload_n 0, 1) := by decide +kernel
theorem d_method_2_code_1 : decode method_2_code 1 = .ok (.iconst 0, 1) := by decide +kernel
theorem d_method_2_code_2 : decode method_2_code 2 = .ok (.aaload, 1) := by decide +kernel
theorem d_method_2_code_3 : decode method_2_code 3 = .ok (.ifnull 22, 3) := by decide +kernel
theorem d_method_2_code_6 : decode method_2_code 6 = .ok (.aload_n 0, 1) := by decide +kernel
theorem d_method_2_code_7 : decode method_2_code 7 = .ok (.iconst 1, 1) := by decide +kernel
theorem d_method_2_code_8 : decode method_2_code 8 = .ok (.aaload, 1) := by decide +kernel
theorem d_method_2_code_9 : decode method_2_code 9 = .ok (.ifnull 16, 3) := by decide +kernel
theorem d_method_2_code_12 : decode method_2_code 12 = .ok (.aload_n 0, 1) := by decide +kernel
theorem d_method_2_code_13 : decode method_2_code 13 = .ok (.iconst 0, 1) := by decide +kernel
theorem d_method_2_code_14 : decode method_2_code 14 = .ok (.aaload, 1) := by decide +kernel
theorem d_method_2_code_15 : decode method_2_code 15 = .ok (.aload_n 0, 1) := by decide +kernel
theorem d_method_2_code_16 : decode method_2_code 16 = .ok (.iconst 1, 1) := by decide +kernel
theorem d_method_2_code_17 : decode method_2_code 17 = .ok (.aaload, 1) := by decide +kernel
theorem d_method_2_code_18 : decode method_2_code 18 = .ok (.if_acmp .eq 7, 3) := by decide +kernel
theorem d_method_2_code_21 : decode method_2_code 21 = .ok (.iconst 1, 1) := by decide +kernel
theorem d_method_2_code_22 : decode method_2_code 22 = .ok (.goto 4, 3) := by decide +kernel
theorem d_method_2_code_26 : decode method_2_code 26 = .ok (.istore_n 2, 1) := by decide +kernel
theorem d_method_2_code_27 : decode method_2_code 27 = .ok (.iload_n 1, 1) := by decide +kernel
theorem d_method_2_code_28 : decode method_2_code 28 = .ok (.iconst 2, 1) := by decide +kernel
theorem d_method_2_code_29 : decode method_2_code 29 = .ok (.if_icmp .le 37, 3) := by decide +kernel
theorem d_method_2_code_66 : decode method_2_code 66 = .ok (.iload_n 1, 1) := by decide +kernel
theorem d_method_2_code_67 : decode method_2_code 67 = .ok (.iconst 3, 1) := by decide +kernel
theorem d_method_2_code_68 : decode method_2_code 68 = .ok (.if_icmp .le 46, 3) := by decide +kernel
theorem d_method_2_code_114 : decode method_2_code 114 = .ok (.iload_n 1, 1) := by decide +kernel
theorem d_method_2_code_115 : decode method_2_code 115 = .ok (.iconst 4, 1) := by decide +kernel
theorem d_method_2_code_116 : decode method_2_code 116 = .ok (.if_icmp .le 55, 3) := by decide +kernel
theorem d_method_2_code_171 : decode method_2_code 171 = .ok (.iload_n 2, 1) := by decide +kernel
theorem d_method_2_code_172 : decode method_2_code 172 = .ok (.ireturn, 1) := by decide +kernel
theorem pn_4 : plainName "com/example/lachesis/lachesis/timer/WheelBucketPinLaw" = true := by first | (simp [plainName, overriddenIn]; done) | decide +kernel
theorem ef_rmD2 (m : MethodId) (x0 : Addr) (x1 : Int32) : entryFrame m #[(.ref x0), (.int x1)] 3 = mkF m 0 #[.val (.ref x0), .val (.int x1), .unset] [] := by first | (simp [entryFrame, mkF, argsToLocals, Value.category]; done) | rfl
def Q_rmD2 (Z : State) (r0 : Addr) (p1 : Int32) (kR : ClassId) (c0 : Addr) (c1 : Addr) (h0 : Heap) (n0 : Nat) (v : Option Value) (h : Heap) (L : List Loc) : Prop := v = some (.int 1) ∧ Fr n0 L ∧ h = h0
set_option maxRecDepth 65536 in
set_option maxHeartbeats 40000000 in
theorem rmD2 (l : Launch) (Z : State) (a0 : Array Value) (hw : ∀ d ∈ tables_1, d.before a0 Z = true) (ws : List Jvm.Cond) (r0 : Addr) (p1 : Int32) (kR : ClassId) (c0 : Addr) (c1 : Addr) (h0 : Heap) (n0 : Nat) (Z0 : n0 ≤ h0.size) (V_r0 : Arv Z h0 r0 kR (.object "com/example/lachesis/lachesis/timer/Bucket") (5 : Int32) [(.ref c0), (.ref c1), .null, .null, .null] .null) (hn : p1.toInt = 2) (ne_c1_c0 : c1 ≠ c0) :
    MetFree l (⟨"com/example/lachesis/lachesis/timer/WheelBucketPinLaw", "distinct", "([Lcom/example/lachesis/lachesis/timer/Bucket;I)Z"⟩ : MethodName) (head1 (Jvm.Cond.code (⟨"com/example/lachesis/lachesis/timer/WheelBucketPinLaw", "distinct", "([Lcom/example/lachesis/lachesis/timer/Bucket;I)Z"⟩ : MethodName) method_2_code 3 (some .boolean) :: ws) ({ frames := 0, cells := 0, slots := 0, locals := 0 } : Room)) (fun a U => a = #[(.ref r0), (.int p1)] ∧ Z.Warmed39 U.vm ∧ U.heap = h0) (fun _ _ _ _ _ => True) (fun _ U o U' => ∃ v L, o = .returned v ∧ Q_rmD2 Z r0 p1 kR c0 c1 h0 n0 v U'.heap L ∧ FrameEnd U o U' L ({ frames := 0, cells := 0, slots := 0, locals := 0 } : Room).cells ({ frames := 0, cells := 0, slots := 0, locals := 0 } : Room).slots) := by
  refine MetFree.of_bodySF (plainFor_of_name pn_4) hisR ?_
  intro p e s m args below meth c s₁ Bd hml0 hP hK
  obtain ⟨rfl, hZ, hh⟩ := hP
  have hx := Bd.exec
  have hby := Bd.bytes
  have hml : c.maxLocals = 3 := hml0
  have hown : s.vm.findClass "com/example/lachesis/lachesis/timer/WheelBucketPinLaw" = some m.cls := findClass_of_methodNamed Bd.named
  have hnm := (name_of_methodNamed Bd.named Bd.method).1
  have hlk : meth.locks = false := by first | exact BodyLoose.notSynchronized (by assumption) | exact Body.notSynchronized (by assumption) | assumption
  have X0 : Stand p l e ({ frames := 0, cells := 0, slots := 0, locals := 0 } : Room) s m #[(.ref r0), (.int p1)] below meth c s₁ [] 0 0 := Stand.of_body Bd
  have e0 : s₁.heap = h0 := by rw [← hh, Bd.state]; rfl
  have N0 := Fr.nil n0
  have Zn := Z0
  have K0 : ∀ t, Steps p.tables e below (s₁.setTop (mkF m 0 #[.val (.ref r0), .val (.int p1), .unset] [])) t → Steps p.tables e below (s₁.setTop (entryFrame m #[(.ref r0), (.int p1)] 3)) t := fun t k => castTop (ef_rmD2 m r0 p1) k
  have Vq1 := V_r0
  obtain ⟨cl1, Ar1, q1, S1, N1z, H1, G1⟩ := Vq1
  have hin1 : ¬ ((0 : Int32) < 0 ∨ cl1.slots.size ≤ ((0 : Int32)).toNatClampNeg) := inb_of S1 ⟨by decide, by decide⟩
  have hat1 : cl1.slots[((0 : Int32)).toNatClampNeg]? = some (.ref c0) := Has.at H1 hin1 rfl
  have Vq2 := V_r0
  obtain ⟨cl2, Ar2, q2, S2, N2z, H2, G2⟩ := Vq2
  have hin2 : ¬ ((1 : Int32) < 0 ∨ cl2.slots.size ≤ ((1 : Int32)).toNatClampNeg) := inb_of S2 ⟨by decide, by decide⟩
  have hat2 : cl2.slots[((1 : Int32)).toNatClampNeg]? = some (.ref c1) := Has.at H2 hin2 rfl
  have Vq3 := V_r0
  obtain ⟨cl3, Ar3, q3, S3, N3z, H3, G3⟩ := Vq3
  have hin3 : ¬ ((0 : Int32) < 0 ∨ cl3.slots.size ≤ ((0 : Int32)).toNatClampNeg) := inb_of S3 ⟨by decide, by decide⟩
  have hat3 : cl3.slots[((0 : Int32)).toNatClampNeg]? = some (.ref c0) := Has.at H3 hin3 rfl
  have Vq4 := V_r0
  obtain ⟨cl4, Ar4, q4, S4, N4z, H4, G4⟩ := Vq4
  have hin4 : ¬ ((1 : Int32) < 0 ∨ cl4.slots.size ≤ ((1 : Int32)).toNatClampNeg) := inb_of S4 ⟨by decide, by decide⟩
  have hat4 : cl4.slots[((1 : Int32)).toNatClampNeg]? = some (.ref c1) := Has.at H4 hin4 rfl
  have hc18 : ¬ (c0 = c1) := (Ne.symm ne_c1_c0)
  have hc29 : ¬ ((2 : Int32) < p1) := (by rw [Int32.lt_iff_toInt_lt]; have z : (2 : Int32).toInt = 2 := (by decide); omega)
  have hc68 : ¬ ((3 : Int32) < p1) := (by rw [Int32.lt_iff_toInt_lt]; have z : (3 : Int32).toInt = 3 := (by decide); omega)
  have hc116 : ¬ ((4 : Int32) < p1) := (by rw [Int32.lt_iff_toInt_lt]; have z : (4 : Int32).toInt = 4 := (by decide); omega)
  obtain ⟨fs, hr, hrun, hended, hW, hsame⟩ := X0.leave (v := some (.int (1 : Int32))) (fun h => by rw [Bd.returns] at h; cases h) hlk
  refine ⟨_, _, K0 _ ?_, hrun, hended, _, _, rfl, ?_, ⟨_, rfl⟩, hW, hsame.mono (by decide) (by decide)⟩
  ·
    show Steps p.tables e below (s₁.setTop (mkF m 0 #[.val (.ref r0), .val (.int p1), .unset] [])) _
    refine XS.aloadN X0.here hx rfl (hb hby d_method_2_code_0) rfl rfl ?_
    show Steps p.tables e below (s₁.setTop (mkF m 1 #[.val (.ref r0), .val (.int p1), .unset] [(.ref r0)])) _
    refine XS.iconst X0.here hx rfl (hb hby d_method_2_code_1) ?_
    show Steps p.tables e below (s₁.setTop (mkF m 2 #[.val (.ref r0), .val (.int p1), .unset] [(.int (0 : Int32)), (.ref r0)])) _
    refine X0.aaload hx (j := (0 : Int32)) (v := (.ref c0)) (by rw [e0]; exact Ar1.1) (State.isArrayOf_alike hZ.alike Ar1.2.1) rfl Ar1.2.2 hin1 hat1 (g := (mkF m 2 #[.val (.ref r0), .val (.int p1), .unset] [(.int (0 : Int32)), (.ref r0)])) rfl rfl (hb hby d_method_2_code_2) _ ?_
    show Steps p.tables e below (s₁.setTop (mkF m 3 #[.val (.ref r0), .val (.int p1), .unset] [(.ref c0)])) _
    refine XS.ifnullNo X0.here hx rfl (hb hby d_method_2_code_3) rfl ?_
    show Steps p.tables e below (s₁.setTop (mkF m 6 #[.val (.ref r0), .val (.int p1), .unset] [])) _
    refine XS.aloadN X0.here hx rfl (hb hby d_method_2_code_6) rfl rfl ?_
    show Steps p.tables e below (s₁.setTop (mkF m 7 #[.val (.ref r0), .val (.int p1), .unset] [(.ref r0)])) _
    refine XS.iconst X0.here hx rfl (hb hby d_method_2_code_7) ?_
    show Steps p.tables e below (s₁.setTop (mkF m 8 #[.val (.ref r0), .val (.int p1), .unset] [(.int (1 : Int32)), (.ref r0)])) _
    refine X0.aaload hx (j := (1 : Int32)) (v := (.ref c1)) (by rw [e0]; exact Ar2.1) (State.isArrayOf_alike hZ.alike Ar2.2.1) rfl Ar2.2.2 hin2 hat2 (g := (mkF m 8 #[.val (.ref r0), .val (.int p1), .unset] [(.int (1 : Int32)), (.ref r0)])) rfl rfl (hb hby d_method_2_code_8) _ ?_
    show Steps p.tables e below (s₁.setTop (mkF m 9 #[.val (.ref r0), .val (.int p1), .unset] [(.ref c1)])) _
    refine XS.ifnullNo X0.here hx rfl (hb hby d_method_2_code_9) rfl ?_
    show Steps p.tables e below (s₁.setTop (mkF m 12 #[.val (.ref r0), .val (.int p1), .unset] [])) _
    refine XS.aloadN X0.here hx rfl (hb hby d_method_2_code_12) rfl rfl ?_
    show Steps p.tables e below (s₁.setTop (mkF m 13 #[.val (.ref r0), .val (.int p1), .unset] [(.ref r0)])) _
    refine XS.iconst X0.here hx rfl (hb hby d_method_2_code_13) ?_
    show Steps p.tables e below (s₁.setTop (mkF m 14 #[.val (.ref r0), .val (.int p1), .unset] [(.int (0 : Int32)), (.ref r0)])) _
    refine X0.aaload hx (j := (0 : Int32)) (v := (.ref c0)) (by rw [e0]; exact Ar3.1) (State.isArrayOf_alike hZ.alike Ar3.2.1) rfl Ar3.2.2 hin3 hat3 (g := (mkF m 14 #[.val (.ref r0), .val (.int p1), .unset] [(.int (0 : Int32)), (.ref r0)])) rfl rfl (hb hby d_method_2_code_14) _ ?_
    show Steps p.tables e below (s₁.setTop (mkF m 15 #[.val (.ref r0), .val (.int p1), .unset] [(.ref c0)])) _
    refine XS.aloadN X0.here hx rfl (hb hby d_method_2_code_15) rfl rfl ?_
    show Steps p.tables e below (s₁.setTop (mkF m 16 #[.val (.ref r0), .val (.int p1), .unset] [(.ref r0), (.ref c0)])) _
    refine XS.iconst X0.here hx rfl (hb hby d_method_2_code_16) ?_
    show Steps p.tables e below (s₁.setTop (mkF m 17 #[.val (.ref r0), .val (.int p1), .unset] [(.int (1 : Int32)), (.ref r0), (.ref c0)])) _
    refine X0.aaload hx (j := (1 : Int32)) (v := (.ref c1)) (by rw [e0]; exact Ar4.1) (State.isArrayOf_alike hZ.alike Ar4.2.1) rfl Ar4.2.2 hin4 hat4 (g := (mkF m 17 #[.val (.ref r0), .val (.int p1), .unset] [(.int (1 : Int32)), (.ref r0), (.ref c0)])) rfl rfl (hb hby d_method_2_code_17) _ ?_
    show Steps p.tables e below (s₁.setTop (mkF m 18 #[.val (.ref r0), .val (.int p1), .unset] [(.ref c1), (.ref c0)])) _
    refine Jvm.RoadKit.acmp (g := (mkF m 18 #[.val (.ref r0), .val (.int p1), .unset] [(.ref c1), (.ref c0)])) X0 hx rfl rfl rfl (pc0 := 18) (pc' := 21) (same := false) rfl (hb hby d_method_2_code_18) rfl (decide_eq_false fun q => hc18 (Value.ref.inj q)) (by decide) (by decide) ?_
    show Steps p.tables e below (s₁.setTop (mkF m 21 #[.val (.ref r0), .val (.int p1), .unset] [])) _
    refine XS.iconst X0.here hx rfl (hb hby d_method_2_code_21) ?_
    show Steps p.tables e below (s₁.setTop (mkF m 22 #[.val (.ref r0), .val (.int p1), .unset] [(.int (1 : Int32))])) _
    refine XS.goto X0.here hx rfl (pc0 := 22) (pc' := 26) rfl (hb hby d_method_2_code_22) (by decide) (by decide) ?_
    show Steps p.tables e below (s₁.setTop (mkF m 26 #[.val (.ref r0), .val (.int p1), .unset] [(.int (1 : Int32))])) _
    refine XS.istoreN X0.here hx rfl (hb hby d_method_2_code_26) rfl (l' := #[.val (.ref r0), .val (.int p1), .val (.int (1 : Int32))]) rfl ?_
    show Steps p.tables e below (s₁.setTop (mkF m 27 #[.val (.ref r0), .val (.int p1), .val (.int (1 : Int32))] [])) _
    refine XS.iloadN X0.here hx rfl (hb hby d_method_2_code_27) rfl ?_
    show Steps p.tables e below (s₁.setTop (mkF m 28 #[.val (.ref r0), .val (.int p1), .val (.int (1 : Int32))] [(.int p1)])) _
    refine XS.iconst X0.here hx rfl (hb hby d_method_2_code_28) ?_
    show Steps p.tables e below (s₁.setTop (mkF m 29 #[.val (.ref r0), .val (.int p1), .val (.int (1 : Int32))] [(.int (2 : Int32)), (.int p1)])) _
    refine XS.icmpYes X0.here hx rfl (pc0 := 29) (pc' := 66) rfl (hb hby d_method_2_code_29) rfl (flt hc29).2.2.2 (by decide) (by decide) ?_
    show Steps p.tables e below (s₁.setTop (mkF m 66 #[.val (.ref r0), .val (.int p1), .val (.int (1 : Int32))] [])) _
    refine XS.iloadN X0.here hx rfl (hb hby d_method_2_code_66) rfl ?_
    show Steps p.tables e below (s₁.setTop (mkF m 67 #[.val (.ref r0), .val (.int p1), .val (.int (1 : Int32))] [(.int p1)])) _
    refine XS.iconst X0.here hx rfl (hb hby d_method_2_code_67) ?_
    show Steps p.tables e below (s₁.setTop (mkF m 68 #[.val (.ref r0), .val (.int p1), .val (.int (1 : Int32))] [(.int (3 : Int32)), (.int p1)])) _
    refine XS.icmpYes X0.here hx rfl (pc0 := 68) (pc' := 114) rfl (hb hby d_method_2_code_68) rfl (flt hc68).2.2.2 (by decide) (by decide) ?_
    show Steps p.tables e below (s₁.setTop (mkF m 114 #[.val (.ref r0), .val (.int p1), .val (.int (1 : Int32))] [])) _
    refine XS.iloadN X0.here hx rfl (hb hby d_method_2_code_114) rfl ?_
    show Steps p.tables e below (s₁.setTop (mkF m 115 #[.val (.ref r0), .val (.int p1), .val (.int (1 : Int32))] [(.int p1)])) _
    refine XS.iconst X0.here hx rfl (hb hby d_method_2_code_115) ?_
    show Steps p.tables e below (s₁.setTop (mkF m 116 #[.val (.ref r0), .val (.int p1), .val (.int (1 : Int32))] [(.int (4 : Int32)), (.int p1)])) _
    refine XS.icmpYes X0.here hx rfl (pc0 := 116) (pc' := 171) rfl (hb hby d_method_2_code_116) rfl (flt hc116).2.2.2 (by decide) (by decide) ?_
    show Steps p.tables e below (s₁.setTop (mkF m 171 #[.val (.ref r0), .val (.int p1), .val (.int (1 : Int32))] [])) _
    refine XS.iloadN X0.here hx rfl (hb hby d_method_2_code_171) rfl ?_
    show Steps p.tables e below (s₁.setTop (mkF m 172 #[.val (.ref r0), .val (.int p1), .val (.int (1 : Int32))] [(.int (1 : Int32))])) _
    exact retN X0 hx (t := .boolean) Bd.returns (by simp) (hb hby d_method_2_code_172) hr
  ·
    show Q_rmD2 Z r0 p1 kR c0 c1 h0 n0 _ s₁.heap _
    rw [e0]
    exact ⟨rfl, N0, rfl⟩
theorem d_method_2_code_32 : decode method_2_code 32 = .ok (.iload_n 2, 1) := by decide +kernel
theorem d_method_2_code_33 : decode method_2_code 33 = .ok (.ifCond .eq 31, 3) := by decide +kernel
theorem d_method_2_code_36 : decode method_2_code 36 = .ok (.aload_n 0, 1) := by decide +kernel
theorem d_method_2_code_37 : decode method_2_code 37 = .ok (.iconst 2, 1) := by decide +kernel
theorem d_method_2_code_38 : decode method_2_code 38 = .ok (.aaload, 1) := by decide +kernel
theorem d_method_2_code_39 : decode method_2_code 39 = .ok (.ifnull 25, 3) := by decide +kernel
theorem d_method_2_code_42 : decode method_2_code 42 = .ok (.aload_n 0, 1) := by decide +kernel
theorem d_method_2_code_43 : decode method_2_code 43 = .ok (.iconst 2, 1) := by decide +kernel
theorem d_method_2_code_44 : decode method_2_code 44 = .ok (.aaload, 1) := by decide +kernel
theorem d_method_2_code_45 : decode method_2_code 45 = .ok (.aload_n 0, 1) := by decide +kernel
theorem d_method_2_code_46 : decode method_2_code 46 = .ok (.iconst 0, 1) := by decide +kernel
theorem d_method_2_code_47 : decode method_2_code 47 = .ok (.aaload, 1) := by decide +kernel
theorem d_method_2_code_48 : decode method_2_code 48 = .ok (.if_acmp .eq 16, 3) := by decide +kernel
theorem d_method_2_code_51 : decode method_2_code 51 = .ok (.aload_n 0, 1) := by decide +kernel
theorem d_method_2_code_52 : decode method_2_code 52 = .ok (.iconst 2, 1) := by decide +kernel
theorem d_method_2_code_53 : decode method_2_code 53 = .ok (.aaload, 1) := by decide +kernel
theorem d_method_2_code_54 : decode method_2_code 54 = .ok (.aload_n 0, 1) := by decide +kernel
theorem d_method_2_code_55 : decode method_2_code 55 = .ok (.iconst 1, 1) := by decide +kernel
theorem d_method_2_code_56 : decode method_2_code 56 = .ok (.aaload, 1) := by decide +kernel
theorem d_method_2_code_57 : decode method_2_code 57 = .ok (.if_acmp .eq 7, 3) := by decide +kernel
theorem d_method_2_code_60 : decode method_2_code 60 = .ok (.iconst 1, 1) := by decide +kernel
theorem d_method_2_code_61 : decode method_2_code 61 = .ok (.goto 4, 3) := by decide +kernel
theorem d_method_2_code_65 : decode method_2_code 65 = .ok (.istore_n 2, 1) := by decide +kernel
theorem ef_rmD3 (m : MethodId) (x0 : Addr) (x1 : Int32) : entryFrame m #[(.ref x0), (.int x1)] 3 = mkF m 0 #[.val (.ref x0), .val (.int x1), .unset] [] := by first | (simp [entryFrame, mkF, argsToLocals, Value.category]; done) | rfl
def Q_rmD3 (Z : State) (r0 : Addr) (p1 : Int32) (kR : ClassId) (c0 : Addr) (c1 : Addr) (c2 : Addr) (h0 : Heap) (n0 : Nat) (v : Option Value) (h : Heap) (L : List Loc) : Prop := v = some (.int 1) ∧ Fr n0 L ∧ h = h0
set_option maxRecDepth 65536 in
set_option maxHeartbeats 40000000 in
theorem rmD3 (l : Launch) (Z : State) (a0 : Array Value) (hw : ∀ d ∈ tables_1, d.before a0 Z = true) (ws : List Jvm.Cond) (r0 : Addr) (p1 : Int32) (kR : ClassId) (c0 : Addr) (c1 : Addr) (c2 : Addr) (h0 : Heap) (n0 : Nat) (Z0 : n0 ≤ h0.size) (V_r0 : Arv Z h0 r0 kR (.object "com/example/lachesis/lachesis/timer/Bucket") (5 : Int32) [(.ref c0), (.ref c1), (.ref c2), .null, .null] .null) (hn : p1.toInt = 3) (ne_c1_c0 : c1 ≠ c0) (ne_c2_c0 : c2 ≠ c0) (ne_c2_c1 : c2 ≠ c1) :
    MetFree l (⟨"com/example/lachesis/lachesis/timer/WheelBucketPinLaw", "distinct", "([Lcom/example/lachesis/lachesis/timer/Bucket;I)Z"⟩ : MethodName) (head1 (Jvm.Cond.code (⟨"com/example/lachesis/lachesis/timer/WheelBucketPinLaw", "distinct", "([Lcom/example/lachesis/lachesis/timer/Bucket;I)Z"⟩ : MethodName) method_2_code 3 (some .boolean) :: ws) ({ frames := 0, cells := 0, slots := 0, locals := 0 } : Room)) (fun a U => a = #[(.ref r0), (.int p1)] ∧ Z.Warmed39 U.vm ∧ U.heap = h0) (fun _ _ _ _ _ => True) (fun _ U o U' => ∃ v L, o = .returned v ∧ Q_rmD3 Z r0 p1 kR c0 c1 c2 h0 n0 v U'.heap L ∧ FrameEnd U o U' L ({ frames := 0, cells := 0, slots := 0, locals := 0 } : Room).cells ({ frames := 0, cells := 0, slots := 0, locals := 0 } : Room).slots) := by
  refine MetFree.of_bodySF (plainFor_of_name pn_4) hisR ?_
  intro p e s m args below meth c s₁ Bd hml0 hP hK
  obtain ⟨rfl, hZ, hh⟩ := hP
  have hx := Bd.exec
  have hby := Bd.bytes
  have hml : c.maxLocals = 3 := hml0
  have hown : s.vm.findClass "com/example/lachesis/lachesis/timer/WheelBucketPinLaw" = some m.cls := findClass_of_methodNamed Bd.named
  have hnm := (name_of_methodNamed Bd.named Bd.method).1
  have hlk : meth.locks = false := by first | exact BodyLoose.notSynchronized (by assumption) | exact Body.notSynchronized (by assumption) | assumption
  have X0 : Stand p l e ({ frames := 0, cells := 0, slots := 0, locals := 0 } : Room) s m #[(.ref r0), (.int p1)] below meth c s₁ [] 0 0 := Stand.of_body Bd
  have e0 : s₁.heap = h0 := by rw [← hh, Bd.state]; rfl
  have N0 := Fr.nil n0
  have Zn := Z0
  have K0 : ∀ t, Steps p.tables e below (s₁.setTop (mkF m 0 #[.val (.ref r0), .val (.int p1), .unset] [])) t → Steps p.tables e below (s₁.setTop (entryFrame m #[(.ref r0), (.int p1)] 3)) t := fun t k => castTop (ef_rmD3 m r0 p1) k
  have Vq1 := V_r0
  obtain ⟨cl1, Ar1, q1, S1, N1z, H1, G1⟩ := Vq1
  have hin1 : ¬ ((0 : Int32) < 0 ∨ cl1.slots.size ≤ ((0 : Int32)).toNatClampNeg) := inb_of S1 ⟨by decide, by decide⟩
  have hat1 : cl1.slots[((0 : Int32)).toNatClampNeg]? = some (.ref c0) := Has.at H1 hin1 rfl
  have Vq2 := V_r0
  obtain ⟨cl2, Ar2, q2, S2, N2z, H2, G2⟩ := Vq2
  have hin2 : ¬ ((1 : Int32) < 0 ∨ cl2.slots.size ≤ ((1 : Int32)).toNatClampNeg) := inb_of S2 ⟨by decide, by decide⟩
  have hat2 : cl2.slots[((1 : Int32)).toNatClampNeg]? = some (.ref c1) := Has.at H2 hin2 rfl
  have Vq3 := V_r0
  obtain ⟨cl3, Ar3, q3, S3, N3z, H3, G3⟩ := Vq3
  have hin3 : ¬ ((0 : Int32) < 0 ∨ cl3.slots.size ≤ ((0 : Int32)).toNatClampNeg) := inb_of S3 ⟨by decide, by decide⟩
  have hat3 : cl3.slots[((0 : Int32)).toNatClampNeg]? = some (.ref c0) := Has.at H3 hin3 rfl
  have Vq4 := V_r0
  obtain ⟨cl4, Ar4, q4, S4, N4z, H4, G4⟩ := Vq4
  have hin4 : ¬ ((1 : Int32) < 0 ∨ cl4.slots.size ≤ ((1 : Int32)).toNatClampNeg) := inb_of S4 ⟨by decide, by decide⟩
  have hat4 : cl4.slots[((1 : Int32)).toNatClampNeg]? = some (.ref c1) := Has.at H4 hin4 rfl
  have hc18 : ¬ (c0 = c1) := (Ne.symm ne_c1_c0)
  have hc29 : (2 : Int32) < p1 := (by rw [Int32.lt_iff_toInt_lt]; have z : (2 : Int32).toInt = 2 := (by decide); omega)
  have hc33 : ¬ ((1 : Int32) = (0 : Int32)) := (by decide)
  have Vq5 := V_r0
  obtain ⟨cl5, Ar5, q5, S5, N5z, H5, G5⟩ := Vq5
  have hin5 : ¬ ((2 : Int32) < 0 ∨ cl5.slots.size ≤ ((2 : Int32)).toNatClampNeg) := inb_of S5 ⟨by decide, by decide⟩
  have hat5 : cl5.slots[((2 : Int32)).toNatClampNeg]? = some (.ref c2) := Has.at H5 hin5 rfl
  have Vq6 := V_r0
  obtain ⟨cl6, Ar6, q6, S6, N6z, H6, G6⟩ := Vq6
  have hin6 : ¬ ((2 : Int32) < 0 ∨ cl6.slots.size ≤ ((2 : Int32)).toNatClampNeg) := inb_of S6 ⟨by decide, by decide⟩
  have hat6 : cl6.slots[((2 : Int32)).toNatClampNeg]? = some (.ref c2) := Has.at H6 hin6 rfl
  have Vq7 := V_r0
  obtain ⟨cl7, Ar7, q7, S7, N7z, H7, G7⟩ := Vq7
  have hin7 : ¬ ((0 : Int32) < 0 ∨ cl7.slots.size ≤ ((0 : Int32)).toNatClampNeg) := inb_of S7 ⟨by decide, by decide⟩
  have hat7 : cl7.slots[((0 : Int32)).toNatClampNeg]? = some (.ref c0) := Has.at H7 hin7 rfl
  have hc48 : ¬ (c2 = c0) := ne_c2_c0
  have Vq8 := V_r0
  obtain ⟨cl8, Ar8, q8, S8, N8z, H8, G8⟩ := Vq8
  have hin8 : ¬ ((2 : Int32) < 0 ∨ cl8.slots.size ≤ ((2 : Int32)).toNatClampNeg) := inb_of S8 ⟨by decide, by decide⟩
  have hat8 : cl8.slots[((2 : Int32)).toNatClampNeg]? = some (.ref c2) := Has.at H8 hin8 rfl
  have Vq9 := V_r0
  obtain ⟨cl9, Ar9, q9, S9, N9z, H9, G9⟩ := Vq9
  have hin9 : ¬ ((1 : Int32) < 0 ∨ cl9.slots.size ≤ ((1 : Int32)).toNatClampNeg) := inb_of S9 ⟨by decide, by decide⟩
  have hat9 : cl9.slots[((1 : Int32)).toNatClampNeg]? = some (.ref c1) := Has.at H9 hin9 rfl
  have hc57 : ¬ (c2 = c1) := ne_c2_c1
  have hc68 : ¬ ((3 : Int32) < p1) := (by rw [Int32.lt_iff_toInt_lt]; have z : (3 : Int32).toInt = 3 := (by decide); omega)
  have hc116 : ¬ ((4 : Int32) < p1) := (by rw [Int32.lt_iff_toInt_lt]; have z : (4 : Int32).toInt = 4 := (by decide); omega)
  obtain ⟨fs, hr, hrun, hended, hW, hsame⟩ := X0.leave (v := some (.int (1 : Int32))) (fun h => by rw [Bd.returns] at h; cases h) hlk
  refine ⟨_, _, K0 _ ?_, hrun, hended, _, _, rfl, ?_, ⟨_, rfl⟩, hW, hsame.mono (by decide) (by decide)⟩
  ·
    show Steps p.tables e below (s₁.setTop (mkF m 0 #[.val (.ref r0), .val (.int p1), .unset] [])) _
    refine XS.aloadN X0.here hx rfl (hb hby d_method_2_code_0) rfl rfl ?_
    show Steps p.tables e below (s₁.setTop (mkF m 1 #[.val (.ref r0), .val (.int p1), .unset] [(.ref r0)])) _
    refine XS.iconst X0.here hx rfl (hb hby d_method_2_code_1) ?_
    show Steps p.tables e below (s₁.setTop (mkF m 2 #[.val (.ref r0), .val (.int p1), .unset] [(.int (0 : Int32)), (.ref r0)])) _
    refine X0.aaload hx (j := (0 : Int32)) (v := (.ref c0)) (by rw [e0]; exact Ar1.1) (State.isArrayOf_alike hZ.alike Ar1.2.1) rfl Ar1.2.2 hin1 hat1 (g := (mkF m 2 #[.val (.ref r0), .val (.int p1), .unset] [(.int (0 : Int32)), (.ref r0)])) rfl rfl (hb hby d_method_2_code_2) _ ?_
    show Steps p.tables e below (s₁.setTop (mkF m 3 #[.val (.ref r0), .val (.int p1), .unset] [(.ref c0)])) _
    refine XS.ifnullNo X0.here hx rfl (hb hby d_method_2_code_3) rfl ?_
    show Steps p.tables e below (s₁.setTop (mkF m 6 #[.val (.ref r0), .val (.int p1), .unset] [])) _
    refine XS.aloadN X0.here hx rfl (hb hby d_method_2_code_6) rfl rfl ?_
    show Steps p.tables e below (s₁.setTop (mkF m 7 #[.val (.ref r0), .val (.int p1), .unset] [(.ref r0)])) _
    refine XS.iconst X0.here hx rfl (hb hby d_method_2_code_7) ?_
    show Steps p.tables e below (s₁.setTop (mkF m 8 #[.val (.ref r0), .val (.int p1), .unset] [(.int (1 : Int32)), (.ref r0)])) _
    refine X0.aaload hx (j := (1 : Int32)) (v := (.ref c1)) (by rw [e0]; exact Ar2.1) (State.isArrayOf_alike hZ.alike Ar2.2.1) rfl Ar2.2.2 hin2 hat2 (g := (mkF m 8 #[.val (.ref r0), .val (.int p1), .unset] [(.int (1 : Int32)), (.ref r0)])) rfl rfl (hb hby d_method_2_code_8) _ ?_
    show Steps p.tables e below (s₁.setTop (mkF m 9 #[.val (.ref r0), .val (.int p1), .unset] [(.ref c1)])) _
    refine XS.ifnullNo X0.here hx rfl (hb hby d_method_2_code_9) rfl ?_
    show Steps p.tables e below (s₁.setTop (mkF m 12 #[.val (.ref r0), .val (.int p1), .unset] [])) _
    refine XS.aloadN X0.here hx rfl (hb hby d_method_2_code_12) rfl rfl ?_
    show Steps p.tables e below (s₁.setTop (mkF m 13 #[.val (.ref r0), .val (.int p1), .unset] [(.ref r0)])) _
    refine XS.iconst X0.here hx rfl (hb hby d_method_2_code_13) ?_
    show Steps p.tables e below (s₁.setTop (mkF m 14 #[.val (.ref r0), .val (.int p1), .unset] [(.int (0 : Int32)), (.ref r0)])) _
    refine X0.aaload hx (j := (0 : Int32)) (v := (.ref c0)) (by rw [e0]; exact Ar3.1) (State.isArrayOf_alike hZ.alike Ar3.2.1) rfl Ar3.2.2 hin3 hat3 (g := (mkF m 14 #[.val (.ref r0), .val (.int p1), .unset] [(.int (0 : Int32)), (.ref r0)])) rfl rfl (hb hby d_method_2_code_14) _ ?_
    show Steps p.tables e below (s₁.setTop (mkF m 15 #[.val (.ref r0), .val (.int p1), .unset] [(.ref c0)])) _
    refine XS.aloadN X0.here hx rfl (hb hby d_method_2_code_15) rfl rfl ?_
    show Steps p.tables e below (s₁.setTop (mkF m 16 #[.val (.ref r0), .val (.int p1), .unset] [(.ref r0), (.ref c0)])) _
    refine XS.iconst X0.here hx rfl (hb hby d_method_2_code_16) ?_
    show Steps p.tables e below (s₁.setTop (mkF m 17 #[.val (.ref r0), .val (.int p1), .unset] [(.int (1 : Int32)), (.ref r0), (.ref c0)])) _
    refine X0.aaload hx (j := (1 : Int32)) (v := (.ref c1)) (by rw [e0]; exact Ar4.1) (State.isArrayOf_alike hZ.alike Ar4.2.1) rfl Ar4.2.2 hin4 hat4 (g := (mkF m 17 #[.val (.ref r0), .val (.int p1), .unset] [(.int (1 : Int32)), (.ref r0), (.ref c0)])) rfl rfl (hb hby d_method_2_code_17) _ ?_
    show Steps p.tables e below (s₁.setTop (mkF m 18 #[.val (.ref r0), .val (.int p1), .unset] [(.ref c1), (.ref c0)])) _
    refine Jvm.RoadKit.acmp (g := (mkF m 18 #[.val (.ref r0), .val (.int p1), .unset] [(.ref c1), (.ref c0)])) X0 hx rfl rfl rfl (pc0 := 18) (pc' := 21) (same := false) rfl (hb hby d_method_2_code_18) rfl (decide_eq_false fun q => hc18 (Value.ref.inj q)) (by decide) (by decide) ?_
    show Steps p.tables e below (s₁.setTop (mkF m 21 #[.val (.ref r0), .val (.int p1), .unset] [])) _
    refine XS.iconst X0.here hx rfl (hb hby d_method_2_code_21) ?_
    show Steps p.tables e below (s₁.setTop (mkF m 22 #[.val (.ref r0), .val (.int p1), .unset] [(.int (1 : Int32))])) _
    refine XS.goto X0.here hx rfl (pc0 := 22) (pc' := 26) rfl (hb hby d_method_2_code_22) (by decide) (by decide) ?_
    show Steps p.tables e below (s₁.setTop (mkF m 26 #[.val (.ref r0), .val (.int p1), .unset] [(.int (1 : Int32))])) _
    refine XS.istoreN X0.here hx rfl (hb hby d_method_2_code_26) rfl (l' := #[.val (.ref r0), .val (.int p1), .val (.int (1 : Int32))]) rfl ?_
    show Steps p.tables e below (s₁.setTop (mkF m 27 #[.val (.ref r0), .val (.int p1), .val (.int (1 : Int32))] [])) _
    refine XS.iloadN X0.here hx rfl (hb hby d_method_2_code_27) rfl ?_
    show Steps p.tables e below (s₁.setTop (mkF m 28 #[.val (.ref r0), .val (.int p1), .val (.int (1 : Int32))] [(.int p1)])) _
    refine XS.iconst X0.here hx rfl (hb hby d_method_2_code_28) ?_
    show Steps p.tables e below (s₁.setTop (mkF m 29 #[.val (.ref r0), .val (.int p1), .val (.int (1 : Int32))] [(.int (2 : Int32)), (.int p1)])) _
    refine XS.icmpNo X0.here hx rfl (hb hby d_method_2_code_29) rfl (tlt hc29).2.2.2 ?_
    show Steps p.tables e below (s₁.setTop (mkF m 32 #[.val (.ref r0), .val (.int p1), .val (.int (1 : Int32))] [])) _
    refine XS.iloadN X0.here hx rfl (hb hby d_method_2_code_32) rfl ?_
    show Steps p.tables e below (s₁.setTop (mkF m 33 #[.val (.ref r0), .val (.int p1), .val (.int (1 : Int32))] [(.int (1 : Int32))])) _
    refine XS.ifNo X0.here hx rfl (hb hby d_method_2_code_33) rfl ((if0 _ _).trans (feq hc33).1) ?_
    show Steps p.tables e below (s₁.setTop (mkF m 36 #[.val (.ref r0), .val (.int p1), .val (.int (1 : Int32))] [])) _
    refine XS.aloadN X0.here hx rfl (hb hby d_method_2_code_36) rfl rfl ?_
    show Steps p.tables e below (s₁.setTop (mkF m 37 #[.val (.ref r0), .val (.int p1), .val (.int (1 : Int32))] [(.ref r0)])) _
    refine XS.iconst X0.here hx rfl (hb hby d_method_2_code_37) ?_
    show Steps p.tables e below (s₁.setTop (mkF m 38 #[.val (.ref r0), .val (.int p1), .val (.int (1 : Int32))] [(.int (2 : Int32)), (.ref r0)])) _
    refine X0.aaload hx (j := (2 : Int32)) (v := (.ref c2)) (by rw [e0]; exact Ar5.1) (State.isArrayOf_alike hZ.alike Ar5.2.1) rfl Ar5.2.2 hin5 hat5 (g := (mkF m 38 #[.val (.ref r0), .val (.int p1), .val (.int (1 : Int32))] [(.int (2 : Int32)), (.ref r0)])) rfl rfl (hb hby d_method_2_code_38) _ ?_
    show Steps p.tables e below (s₁.setTop (mkF m 39 #[.val (.ref r0), .val (.int p1), .val (.int (1 : Int32))] [(.ref c2)])) _
    refine XS.ifnullNo X0.here hx rfl (hb hby d_method_2_code_39) rfl ?_
    show Steps p.tables e below (s₁.setTop (mkF m 42 #[.val (.ref r0), .val (.int p1), .val (.int (1 : Int32))] [])) _
    refine XS.aloadN X0.here hx rfl (hb hby d_method_2_code_42) rfl rfl ?_
    show Steps p.tables e below (s₁.setTop (mkF m 43 #[.val (.ref r0), .val (.int p1), .val (.int (1 : Int32))] [(.ref r0)])) _
    refine XS.iconst X0.here hx rfl (hb hby d_method_2_code_43) ?_
    show Steps p.tables e below (s₁.setTop (mkF m 44 #[.val (.ref r0), .val (.int p1), .val (.int (1 : Int32))] [(.int (2 : Int32)), (.ref r0)])) _
    refine X0.aaload hx (j := (2 : Int32)) (v := (.ref c2)) (by rw [e0]; exact Ar6.1) (State.isArrayOf_alike hZ.alike Ar6.2.1) rfl Ar6.2.2 hin6 hat6 (g := (mkF m 44 #[.val (.ref r0), .val (.int p1), .val (.int (1 : Int32))] [(.int (2 : Int32)), (.ref r0)])) rfl rfl (hb hby d_method_2_code_44) _ ?_
    show Steps p.tables e below (s₁.setTop (mkF m 45 #[.val (.ref r0), .val (.int p1), .val (.int (1 : Int32))] [(.ref c2)])) _
    refine XS.aloadN X0.here hx rfl (hb hby d_method_2_code_45) rfl rfl ?_
    show Steps p.tables e below (s₁.setTop (mkF m 46 #[.val (.ref r0), .val (.int p1), .val (.int (1 : Int32))] [(.ref r0), (.ref c2)])) _
    refine XS.iconst X0.here hx rfl (hb hby d_method_2_code_46) ?_
    show Steps p.tables e below (s₁.setTop (mkF m 47 #[.val (.ref r0), .val (.int p1), .val (.int (1 : Int32))] [(.int (0 : Int32)), (.ref r0), (.ref c2)])) _
    refine X0.aaload hx (j := (0 : Int32)) (v := (.ref c0)) (by rw [e0]; exact Ar7.1) (State.isArrayOf_alike hZ.alike Ar7.2.1) rfl Ar7.2.2 hin7 hat7 (g := (mkF m 47 #[.val (.ref r0), .val (.int p1), .val (.int (1 : Int32))] [(.int (0 : Int32)), (.ref r0), (.ref c2)])) rfl rfl (hb hby d_method_2_code_47) _ ?_
    show Steps p.tables e below (s₁.setTop (mkF m 48 #[.val (.ref r0), .val (.int p1), .val (.int (1 : Int32))] [(.ref c0), (.ref c2)])) _
    refine Jvm.RoadKit.acmp (g := (mkF m 48 #[.val (.ref r0), .val (.int p1), .val (.int (1 : Int32))] [(.ref c0), (.ref c2)])) X0 hx rfl rfl rfl (pc0 := 48) (pc' := 51) (same := false) rfl (hb hby d_method_2_code_48) rfl (decide_eq_false fun q => hc48 (Value.ref.inj q)) (by decide) (by decide) ?_
    show Steps p.tables e below (s₁.setTop (mkF m 51 #[.val (.ref r0), .val (.int p1), .val (.int (1 : Int32))] [])) _
    refine XS.aloadN X0.here hx rfl (hb hby d_method_2_code_51) rfl rfl ?_
    show Steps p.tables e below (s₁.setTop (mkF m 52 #[.val (.ref r0), .val (.int p1), .val (.int (1 : Int32))] [(.ref r0)])) _
    refine XS.iconst X0.here hx rfl (hb hby d_method_2_code_52) ?_
    show Steps p.tables e below (s₁.setTop (mkF m 53 #[.val (.ref r0), .val (.int p1), .val (.int (1 : Int32))] [(.int (2 : Int32)), (.ref r0)])) _
    refine X0.aaload hx (j := (2 : Int32)) (v := (.ref c2)) (by rw [e0]; exact Ar8.1) (State.isArrayOf_alike hZ.alike Ar8.2.1) rfl Ar8.2.2 hin8 hat8 (g := (mkF m 53 #[.val (.ref r0), .val (.int p1), .val (.int (1 : Int32))] [(.int (2 : Int32)), (.ref r0)])) rfl rfl (hb hby d_method_2_code_53) _ ?_
    show Steps p.tables e below (s₁.setTop (mkF m 54 #[.val (.ref r0), .val (.int p1), .val (.int (1 : Int32))] [(.ref c2)])) _
    refine XS.aloadN X0.here hx rfl (hb hby d_method_2_code_54) rfl rfl ?_
    show Steps p.tables e below (s₁.setTop (mkF m 55 #[.val (.ref r0), .val (.int p1), .val (.int (1 : Int32))] [(.ref r0), (.ref c2)])) _
    refine XS.iconst X0.here hx rfl (hb hby d_method_2_code_55) ?_
    show Steps p.tables e below (s₁.setTop (mkF m 56 #[.val (.ref r0), .val (.int p1), .val (.int (1 : Int32))] [(.int (1 : Int32)), (.ref r0), (.ref c2)])) _
    refine X0.aaload hx (j := (1 : Int32)) (v := (.ref c1)) (by rw [e0]; exact Ar9.1) (State.isArrayOf_alike hZ.alike Ar9.2.1) rfl Ar9.2.2 hin9 hat9 (g := (mkF m 56 #[.val (.ref r0), .val (.int p1), .val (.int (1 : Int32))] [(.int (1 : Int32)), (.ref r0), (.ref c2)])) rfl rfl (hb hby d_method_2_code_56) _ ?_
    show Steps p.tables e below (s₁.setTop (mkF m 57 #[.val (.ref r0), .val (.int p1), .val (.int (1 : Int32))] [(.ref c1), (.ref c2)])) _
    refine Jvm.RoadKit.acmp (g := (mkF m 57 #[.val (.ref r0), .val (.int p1), .val (.int (1 : Int32))] [(.ref c1), (.ref c2)])) X0 hx rfl rfl rfl (pc0 := 57) (pc' := 60) (same := false) rfl (hb hby d_method_2_code_57) rfl (decide_eq_false fun q => hc57 (Value.ref.inj q)) (by decide) (by decide) ?_
    show Steps p.tables e below (s₁.setTop (mkF m 60 #[.val (.ref r0), .val (.int p1), .val (.int (1 : Int32))] [])) _
    refine XS.iconst X0.here hx rfl (hb hby d_method_2_code_60) ?_
    show Steps p.tables e below (s₁.setTop (mkF m 61 #[.val (.ref r0), .val (.int p1), .val (.int (1 : Int32))] [(.int (1 : Int32))])) _
    refine XS.goto X0.here hx rfl (pc0 := 61) (pc' := 65) rfl (hb hby d_method_2_code_61) (by decide) (by decide) ?_
    show Steps p.tables e below (s₁.setTop (mkF m 65 #[.val (.ref r0), .val (.int p1), .val (.int (1 : Int32))] [(.int (1 : Int32))])) _
    refine XS.istoreN X0.here hx rfl (hb hby d_method_2_code_65) rfl (l' := #[.val (.ref r0), .val (.int p1), .val (.int (1 : Int32))]) rfl ?_
    show Steps p.tables e below (s₁.setTop (mkF m 66 #[.val (.ref r0), .val (.int p1), .val (.int (1 : Int32))] [])) _
    refine XS.iloadN X0.here hx rfl (hb hby d_method_2_code_66) rfl ?_
    show Steps p.tables e below (s₁.setTop (mkF m 67 #[.val (.ref r0), .val (.int p1), .val (.int (1 : Int32))] [(.int p1)])) _
    refine XS.iconst X0.here hx rfl (hb hby d_method_2_code_67) ?_
    show Steps p.tables e below (s₁.setTop (mkF m 68 #[.val (.ref r0), .val (.int p1), .val (.int (1 : Int32))] [(.int (3 : Int32)), (.int p1)])) _
    refine XS.icmpYes X0.here hx rfl (pc0 := 68) (pc' := 114) rfl (hb hby d_method_2_code_68) rfl (flt hc68).2.2.2 (by decide) (by decide) ?_
    show Steps p.tables e below (s₁.setTop (mkF m 114 #[.val (.ref r0), .val (.int p1), .val (.int (1 : Int32))] [])) _
    refine XS.iloadN X0.here hx rfl (hb hby d_method_2_code_114) rfl ?_
    show Steps p.tables e below (s₁.setTop (mkF m 115 #[.val (.ref r0), .val (.int p1), .val (.int (1 : Int32))] [(.int p1)])) _
    refine XS.iconst X0.here hx rfl (hb hby d_method_2_code_115) ?_
    show Steps p.tables e below (s₁.setTop (mkF m 116 #[.val (.ref r0), .val (.int p1), .val (.int (1 : Int32))] [(.int (4 : Int32)), (.int p1)])) _
    refine XS.icmpYes X0.here hx rfl (pc0 := 116) (pc' := 171) rfl (hb hby d_method_2_code_116) rfl (flt hc116).2.2.2 (by decide) (by decide) ?_
    show Steps p.tables e below (s₁.setTop (mkF m 171 #[.val (.ref r0), .val (.int p1), .val (.int (1 : Int32))] [])) _
    refine XS.iloadN X0.here hx rfl (hb hby d_method_2_code_171) rfl ?_
    show Steps p.tables e below (s₁.setTop (mkF m 172 #[.val (.ref r0), .val (.int p1), .val (.int (1 : Int32))] [(.int (1 : Int32))])) _
    exact retN X0 hx (t := .boolean) Bd.returns (by simp) (hb hby d_method_2_code_172) hr
  ·
    show Q_rmD3 Z r0 p1 kR c0 c1 c2 h0 n0 _ s₁.heap _
    rw [e0]
    exact ⟨rfl, N0, rfl⟩
theorem d_method_2_code_71 : decode method_2_code 71 = .ok (.iload_n 2, 1) := by decide +kernel
theorem d_method_2_code_72 : decode method_2_code 72 = .ok (.ifCond .eq 40, 3) := by decide +kernel
theorem d_method_2_code_75 : decode method_2_code 75 = .ok (.aload_n 0, 1) := by decide +kernel
theorem d_method_2_code_76 : decode method_2_code 76 = .ok (.iconst 3, 1) := by decide +kernel
theorem d_method_2_code_77 : decode method_2_code 77 = .ok (.aaload, 1) := by decide +kernel
theorem d_method_2_code_78 : decode method_2_code 78 = .ok (.ifnull 34, 3) := by decide +kernel
theorem d_method_2_code_81 : decode method_2_code 81 = .ok (.aload_n 0, 1) := by decide +kernel
theorem d_method_2_code_82 : decode method_2_code 82 = .ok (.iconst 3, 1) := by decide +kernel
theorem d_method_2_code_83 : decode method_2_code 83 = .ok (.aaload, 1) := by decide +kernel
theorem d_method_2_code_84 : decode method_2_code 84 = .ok (.aload_n 0, 1) := by decide +kernel
theorem d_method_2_code_85 : decode method_2_code 85 = .ok (.iconst 0, 1) := by decide +kernel
theorem d_method_2_code_86 : decode method_2_code 86 = .ok (.aaload, 1) := by decide +kernel
theorem d_method_2_code_87 : decode method_2_code 87 = .ok (.if_acmp .eq 25, 3) := by decide +kernel
theorem d_method_2_code_90 : decode method_2_code 90 = .ok (.aload_n 0, 1) := by decide +kernel
theorem d_method_2_code_91 : decode method_2_code 91 = .ok (.iconst 3, 1) := by decide +kernel
theorem d_method_2_code_92 : decode method_2_code 92 = .ok (.aaload, 1) := by decide +kernel
theorem d_method_2_code_93 : decode method_2_code 93 = .ok (.aload_n 0, 1) := by decide +kernel
theorem d_method_2_code_94 : decode method_2_code 94 = .ok (.iconst 1, 1) := by decide +kernel
theorem d_method_2_code_95 : decode method_2_code 95 = .ok (.aaload, 1) := by decide +kernel
theorem d_method_2_code_96 : decode method_2_code 96 = .ok (.if_acmp .eq 16, 3) := by decide +kernel
theorem d_method_2_code_99 : decode method_2_code 99 = .ok (.aload_n 0, 1) := by decide +kernel
theorem d_method_2_code_100 : decode method_2_code 100 = .ok (.iconst 3, 1) := by decide +kernel
theorem d_method_2_code_101 : decode method_2_code 101 = .ok (.aaload, 1) := by decide +kernel
theorem d_method_2_code_102 : decode method_2_code 102 = .ok (.aload_n 0, 1) := by decide +kernel
theorem d_method_2_code_103 : decode method_2_code 103 = .ok (.iconst 2, 1) := by decide +kernel
theorem d_method_2_code_104 : decode method_2_code 104 = .ok (.aaload, 1) := by decide +kernel
theorem d_method_2_code_105 : decode method_2_code 105 = .ok (.if_acmp .eq 7, 3) := by decide +kernel
theorem d_method_2_code_108 : decode method_2_code 108 = .ok (.iconst 1, 1) := by decide +kernel
theorem d_method_2_code_109 : decode method_2_code 109 = .ok (.goto 4, 3) := by decide +kernel
theorem d_method_2_code_113 : decode method_2_code 113 = .ok (.istore_n 2, 1) := by decide +kernel
theorem ef_rmD4 (m : MethodId) (x0 : Addr) (x1 : Int32) : entryFrame m #[(.ref x0), (.int x1)] 3 = mkF m 0 #[.val (.ref x0), .val (.int x1), .unset] [] := by first | (simp [entryFrame, mkF, argsToLocals, Value.category]; done) | rfl
def Q_rmD4 (Z : State) (r0 : Addr) (p1 : Int32) (kR : ClassId) (c0 : Addr) (c1 : Addr) (c2 : Addr) (c3 : Addr) (h0 : Heap) (n0 : Nat) (v : Option Value) (h : Heap) (L : List Loc) : Prop := v = some (.int 1) ∧ Fr n0 L ∧ h = h0
set_option maxRecDepth 65536 in
set_option maxHeartbeats 40000000 in
theorem rmD4 (l : Launch) (Z : State) (a0 : Array Value) (hw : ∀ d ∈ tables_1, d.before a0 Z = true) (ws : List Jvm.Cond) (r0 : Addr) (p1 : Int32) (kR : ClassId) (c0 : Addr) (c1 : Addr) (c2 : Addr) (c3 : Addr) (h0 : Heap) (n0 : Nat) (Z0 : n0 ≤ h0.size) (V_r0 : Arv Z h0 r0 kR (.object "com/example/lachesis/lachesis/timer/Bucket") (5 : Int32) [(.ref c0), (.ref c1), (.ref c2), (.ref c3), .null] .null) (hn : p1.toInt = 4) (ne_c1_c0 : c1 ≠ c0) (ne_c2_c0 : c2 ≠ c0) (ne_c2_c1 : c2 ≠ c1) (ne_c3_c0 : c3 ≠ c0) (ne_c3_c1 : c3 ≠ c1) (ne_c3_c2 : c3 ≠ c2) :
    MetFree l (⟨"com/example/lachesis/lachesis/timer/WheelBucketPinLaw", "distinct", "([Lcom/example/lachesis/lachesis/timer/Bucket;I)Z"⟩ : MethodName) (head1 (Jvm.Cond.code (⟨"com/example/lachesis/lachesis/timer/WheelBucketPinLaw", "distinct", "([Lcom/example/lachesis/lachesis/timer/Bucket;I)Z"⟩ : MethodName) method_2_code 3 (some .boolean) :: ws) ({ frames := 0, cells := 0, slots := 0, locals := 0 } : Room)) (fun a U => a = #[(.ref r0), (.int p1)] ∧ Z.Warmed39 U.vm ∧ U.heap = h0) (fun _ _ _ _ _ => True) (fun _ U o U' => ∃ v L, o = .returned v ∧ Q_rmD4 Z r0 p1 kR c0 c1 c2 c3 h0 n0 v U'.heap L ∧ FrameEnd U o U' L ({ frames := 0, cells := 0, slots := 0, locals := 0 } : Room).cells ({ frames := 0, cells := 0, slots := 0, locals := 0 } : Room).slots) := by
  refine MetFree.of_bodySF (plainFor_of_name pn_4) hisR ?_
  intro p e s m args below meth c s₁ Bd hml0 hP hK
  obtain ⟨rfl, hZ, hh⟩ := hP
  have hx := Bd.exec
  have hby := Bd.bytes
  have hml : c.maxLocals = 3 := hml0
  have hown : s.vm.findClass "com/example/lachesis/lachesis/timer/WheelBucketPinLaw" = some m.cls := findClass_of_methodNamed Bd.named
  have hnm := (name_of_methodNamed Bd.named Bd.method).1
  have hlk : meth.locks = false := by first | exact BodyLoose.notSynchronized (by assumption) | exact Body.notSynchronized (by assumption) | assumption
  have X0 : Stand p l e ({ frames := 0, cells := 0, slots := 0, locals := 0 } : Room) s m #[(.ref r0), (.int p1)] below meth c s₁ [] 0 0 := Stand.of_body Bd
  have e0 : s₁.heap = h0 := by rw [← hh, Bd.state]; rfl
  have N0 := Fr.nil n0
  have Zn := Z0
  have K0 : ∀ t, Steps p.tables e below (s₁.setTop (mkF m 0 #[.val (.ref r0), .val (.int p1), .unset] [])) t → Steps p.tables e below (s₁.setTop (entryFrame m #[(.ref r0), (.int p1)] 3)) t := fun t k => castTop (ef_rmD4 m r0 p1) k
  have Vq1 := V_r0
  obtain ⟨cl1, Ar1, q1, S1, N1z, H1, G1⟩ := Vq1
  have hin1 : ¬ ((0 : Int32) < 0 ∨ cl1.slots.size ≤ ((0 : Int32)).toNatClampNeg) := inb_of S1 ⟨by decide, by decide⟩
  have hat1 : cl1.slots[((0 : Int32)).toNatClampNeg]? = some (.ref c0) := Has.at H1 hin1 rfl
  have Vq2 := V_r0
  obtain ⟨cl2, Ar2, q2, S2, N2z, H2, G2⟩ := Vq2
  have hin2 : ¬ ((1 : Int32) < 0 ∨ cl2.slots.size ≤ ((1 : Int32)).toNatClampNeg) := inb_of S2 ⟨by decide, by decide⟩
  have hat2 : cl2.slots[((1 : Int32)).toNatClampNeg]? = some (.ref c1) := Has.at H2 hin2 rfl
  have Vq3 := V_r0
  obtain ⟨cl3, Ar3, q3, S3, N3z, H3, G3⟩ := Vq3
  have hin3 : ¬ ((0 : Int32) < 0 ∨ cl3.slots.size ≤ ((0 : Int32)).toNatClampNeg) := inb_of S3 ⟨by decide, by decide⟩
  have hat3 : cl3.slots[((0 : Int32)).toNatClampNeg]? = some (.ref c0) := Has.at H3 hin3 rfl
  have Vq4 := V_r0
  obtain ⟨cl4, Ar4, q4, S4, N4z, H4, G4⟩ := Vq4
  have hin4 : ¬ ((1 : Int32) < 0 ∨ cl4.slots.size ≤ ((1 : Int32)).toNatClampNeg) := inb_of S4 ⟨by decide, by decide⟩
  have hat4 : cl4.slots[((1 : Int32)).toNatClampNeg]? = some (.ref c1) := Has.at H4 hin4 rfl
  have hc18 : ¬ (c0 = c1) := (Ne.symm ne_c1_c0)
  have hc29 : (2 : Int32) < p1 := (by rw [Int32.lt_iff_toInt_lt]; have z : (2 : Int32).toInt = 2 := (by decide); omega)
  have hc33 : ¬ ((1 : Int32) = (0 : Int32)) := (by decide)
  have Vq5 := V_r0
  obtain ⟨cl5, Ar5, q5, S5, N5z, H5, G5⟩ := Vq5
  have hin5 : ¬ ((2 : Int32) < 0 ∨ cl5.slots.size ≤ ((2 : Int32)).toNatClampNeg) := inb_of S5 ⟨by decide, by decide⟩
  have hat5 : cl5.slots[((2 : Int32)).toNatClampNeg]? = some (.ref c2) := Has.at H5 hin5 rfl
  have Vq6 := V_r0
  obtain ⟨cl6, Ar6, q6, S6, N6z, H6, G6⟩ := Vq6
  have hin6 : ¬ ((2 : Int32) < 0 ∨ cl6.slots.size ≤ ((2 : Int32)).toNatClampNeg) := inb_of S6 ⟨by decide, by decide⟩
  have hat6 : cl6.slots[((2 : Int32)).toNatClampNeg]? = some (.ref c2) := Has.at H6 hin6 rfl
  have Vq7 := V_r0
  obtain ⟨cl7, Ar7, q7, S7, N7z, H7, G7⟩ := Vq7
  have hin7 : ¬ ((0 : Int32) < 0 ∨ cl7.slots.size ≤ ((0 : Int32)).toNatClampNeg) := inb_of S7 ⟨by decide, by decide⟩
  have hat7 : cl7.slots[((0 : Int32)).toNatClampNeg]? = some (.ref c0) := Has.at H7 hin7 rfl
  have hc48 : ¬ (c2 = c0) := ne_c2_c0
  have Vq8 := V_r0
  obtain ⟨cl8, Ar8, q8, S8, N8z, H8, G8⟩ := Vq8
  have hin8 : ¬ ((2 : Int32) < 0 ∨ cl8.slots.size ≤ ((2 : Int32)).toNatClampNeg) := inb_of S8 ⟨by decide, by decide⟩
  have hat8 : cl8.slots[((2 : Int32)).toNatClampNeg]? = some (.ref c2) := Has.at H8 hin8 rfl
  have Vq9 := V_r0
  obtain ⟨cl9, Ar9, q9, S9, N9z, H9, G9⟩ := Vq9
  have hin9 : ¬ ((1 : Int32) < 0 ∨ cl9.slots.size ≤ ((1 : Int32)).toNatClampNeg) := inb_of S9 ⟨by decide, by decide⟩
  have hat9 : cl9.slots[((1 : Int32)).toNatClampNeg]? = some (.ref c1) := Has.at H9 hin9 rfl
  have hc57 : ¬ (c2 = c1) := ne_c2_c1
  have hc68 : (3 : Int32) < p1 := (by rw [Int32.lt_iff_toInt_lt]; have z : (3 : Int32).toInt = 3 := (by decide); omega)
  have hc72 : ¬ ((1 : Int32) = (0 : Int32)) := (by decide)
  have Vq10 := V_r0
  obtain ⟨cl10, Ar10, q10, S10, N10z, H10, G10⟩ := Vq10
  have hin10 : ¬ ((3 : Int32) < 0 ∨ cl10.slots.size ≤ ((3 : Int32)).toNatClampNeg) := inb_of S10 ⟨by decide, by decide⟩
  have hat10 : cl10.slots[((3 : Int32)).toNatClampNeg]? = some (.ref c3) := Has.at H10 hin10 rfl
  have Vq11 := V_r0
  obtain ⟨cl11, Ar11, q11, S11, N11z, H11, G11⟩ := Vq11
  have hin11 : ¬ ((3 : Int32) < 0 ∨ cl11.slots.size ≤ ((3 : Int32)).toNatClampNeg) := inb_of S11 ⟨by decide, by decide⟩
  have hat11 : cl11.slots[((3 : Int32)).toNatClampNeg]? = some (.ref c3) := Has.at H11 hin11 rfl
  have Vq12 := V_r0
  obtain ⟨cl12, Ar12, q12, S12, N12z, H12, G12⟩ := Vq12
  have hin12 : ¬ ((0 : Int32) < 0 ∨ cl12.slots.size ≤ ((0 : Int32)).toNatClampNeg) := inb_of S12 ⟨by decide, by decide⟩
  have hat12 : cl12.slots[((0 : Int32)).toNatClampNeg]? = some (.ref c0) := Has.at H12 hin12 rfl
  have hc87 : ¬ (c3 = c0) := ne_c3_c0
  have Vq13 := V_r0
  obtain ⟨cl13, Ar13, q13, S13, N13z, H13, G13⟩ := Vq13
  have hin13 : ¬ ((3 : Int32) < 0 ∨ cl13.slots.size ≤ ((3 : Int32)).toNatClampNeg) := inb_of S13 ⟨by decide, by decide⟩
  have hat13 : cl13.slots[((3 : Int32)).toNatClampNeg]? = some (.ref c3) := Has.at H13 hin13 rfl
  have Vq14 := V_r0
  obtain ⟨cl14, Ar14, q14, S14, N14z, H14, G14⟩ := Vq14
  have hin14 : ¬ ((1 : Int32) < 0 ∨ cl14.slots.size ≤ ((1 : Int32)).toNatClampNeg) := inb_of S14 ⟨by decide, by decide⟩
  have hat14 : cl14.slots[((1 : Int32)).toNatClampNeg]? = some (.ref c1) := Has.at H14 hin14 rfl
  have hc96 : ¬ (c3 = c1) := ne_c3_c1
  have Vq15 := V_r0
  obtain ⟨cl15, Ar15, q15, S15, N15z, H15, G15⟩ := Vq15
  have hin15 : ¬ ((3 : Int32) < 0 ∨ cl15.slots.size ≤ ((3 : Int32)).toNatClampNeg) := inb_of S15 ⟨by decide, by decide⟩
  have hat15 : cl15.slots[((3 : Int32)).toNatClampNeg]? = some (.ref c3) := Has.at H15 hin15 rfl
  have Vq16 := V_r0
  obtain ⟨cl16, Ar16, q16, S16, N16z, H16, G16⟩ := Vq16
  have hin16 : ¬ ((2 : Int32) < 0 ∨ cl16.slots.size ≤ ((2 : Int32)).toNatClampNeg) := inb_of S16 ⟨by decide, by decide⟩
  have hat16 : cl16.slots[((2 : Int32)).toNatClampNeg]? = some (.ref c2) := Has.at H16 hin16 rfl
  have hc105 : ¬ (c3 = c2) := ne_c3_c2
  have hc116 : ¬ ((4 : Int32) < p1) := (by rw [Int32.lt_iff_toInt_lt]; have z : (4 : Int32).toInt = 4 := (by decide); omega)
  obtain ⟨fs, hr, hrun, hended, hW, hsame⟩ := X0.leave (v := some (.int (1 : Int32))) (fun h => by rw [Bd.returns] at h; cases h) hlk
  refine ⟨_, _, K0 _ ?_, hrun, hended, _, _, rfl, ?_, ⟨_, rfl⟩, hW, hsame.mono (by decide) (by decide)⟩
  ·
    show Steps p.tables e below (s₁.setTop (mkF m 0 #[.val (.ref r0), .val (.int p1), .unset] [])) _
    refine XS.aloadN X0.here hx rfl (hb hby d_method_2_code_0) rfl rfl ?_
    show Steps p.tables e below (s₁.setTop (mkF m 1 #[.val (.ref r0), .val (.int p1), .unset] [(.ref r0)])) _
    refine XS.iconst X0.here hx rfl (hb hby d_method_2_code_1) ?_
    show Steps p.tables e below (s₁.setTop (mkF m 2 #[.val (.ref r0), .val (.int p1), .unset] [(.int (0 : Int32)), (.ref r0)])) _
    refine X0.aaload hx (j := (0 : Int32)) (v := (.ref c0)) (by rw [e0]; exact Ar1.1) (State.isArrayOf_alike hZ.alike Ar1.2.1) rfl Ar1.2.2 hin1 hat1 (g := (mkF m 2 #[.val (.ref r0), .val (.int p1), .unset] [(.int (0 : Int32)), (.ref r0)])) rfl rfl (hb hby d_method_2_code_2) _ ?_
    show Steps p.tables e below (s₁.setTop (mkF m 3 #[.val (.ref r0), .val (.int p1), .unset] [(.ref c0)])) _
    refine XS.ifnullNo X0.here hx rfl (hb hby d_method_2_code_3) rfl ?_
    show Steps p.tables e below (s₁.setTop (mkF m 6 #[.val (.ref r0), .val (.int p1), .unset] [])) _
    refine XS.aloadN X0.here hx rfl (hb hby d_method_2_code_6) rfl rfl ?_
    show Steps p.tables e below (s₁.setTop (mkF m 7 #[.val (.ref r0), .val (.int p1), .unset] [(.ref r0)])) _
    refine XS.iconst X0.here hx rfl (hb hby d_method_2_code_7) ?_
    show Steps p.tables e below (s₁.setTop (mkF m 8 #[.val (.ref r0), .val (.int p1), .unset] [(.int (1 : Int32)), (.ref r0)])) _
    refine X0.aaload hx (j := (1 : Int32)) (v := (.ref c1)) (by rw [e0]; exact Ar2.1) (State.isArrayOf_alike hZ.alike Ar2.2.1) rfl Ar2.2.2 hin2 hat2 (g := (mkF m 8 #[.val (.ref r0), .val (.int p1), .unset] [(.int (1 : Int32)), (.ref r0)])) rfl rfl (hb hby d_method_2_code_8) _ ?_
    show Steps p.tables e below (s₁.setTop (mkF m 9 #[.val (.ref r0), .val (.int p1), .unset] [(.ref c1)])) _
    refine XS.ifnullNo X0.here hx rfl (hb hby d_method_2_code_9) rfl ?_
    show Steps p.tables e below (s₁.setTop (mkF m 12 #[.val (.ref r0), .val (.int p1), .unset] [])) _
    refine XS.aloadN X0.here hx rfl (hb hby d_method_2_code_12) rfl rfl ?_
    show Steps p.tables e below (s₁.setTop (mkF m 13 #[.val (.ref r0), .val (.int p1), .unset] [(.ref r0)])) _
    refine XS.iconst X0.here hx rfl (hb hby d_method_2_code_13) ?_
    show Steps p.tables e below (s₁.setTop (mkF m 14 #[.val (.ref r0), .val (.int p1), .unset] [(.int (0 : Int32)), (.ref r0)])) _
    refine X0.aaload hx (j := (0 : Int32)) (v := (.ref c0)) (by rw [e0]; exact Ar3.1) (State.isArrayOf_alike hZ.alike Ar3.2.1) rfl Ar3.2.2 hin3 hat3 (g := (mkF m 14 #[.val (.ref r0), .val (.int p1), .unset] [(.int (0 : Int32)), (.ref r0)])) rfl rfl (hb hby d_method_2_code_14) _ ?_
    show Steps p.tables e below (s₁.setTop (mkF m 15 #[.val (.ref r0), .val (.int p1), .unset] [(.ref c0)])) _
    refine XS.aloadN X0.here hx rfl (hb hby d_method_2_code_15) rfl rfl ?_
    show Steps p.tables e below (s₁.setTop (mkF m 16 #[.val (.ref r0), .val (.int p1), .unset] [(.ref r0), (.ref c0)])) _
    refine XS.iconst X0.here hx rfl (hb hby d_method_2_code_16) ?_
    show Steps p.tables e below (s₁.setTop (mkF m 17 #[.val (.ref r0), .val (.int p1), .unset] [(.int (1 : Int32)), (.ref r0), (.ref c0)])) _
    refine X0.aaload hx (j := (1 : Int32)) (v := (.ref c1)) (by rw [e0]; exact Ar4.1) (State.isArrayOf_alike hZ.alike Ar4.2.1) rfl Ar4.2.2 hin4 hat4 (g := (mkF m 17 #[.val (.ref r0), .val (.int p1), .unset] [(.int (1 : Int32)), (.ref r0), (.ref c0)])) rfl rfl (hb hby d_method_2_code_17) _ ?_
    show Steps p.tables e below (s₁.setTop (mkF m 18 #[.val (.ref r0), .val (.int p1), .unset] [(.ref c1), (.ref c0)])) _
    refine Jvm.RoadKit.acmp (g := (mkF m 18 #[.val (.ref r0), .val (.int p1), .unset] [(.ref c1), (.ref c0)])) X0 hx rfl rfl rfl (pc0 := 18) (pc' := 21) (same := false) rfl (hb hby d_method_2_code_18) rfl (decide_eq_false fun q => hc18 (Value.ref.inj q)) (by decide) (by decide) ?_
    show Steps p.tables e below (s₁.setTop (mkF m 21 #[.val (.ref r0), .val (.int p1), .unset] [])) _
    refine XS.iconst X0.here hx rfl (hb hby d_method_2_code_21) ?_
    show Steps p.tables e below (s₁.setTop (mkF m 22 #[.val (.ref r0), .val (.int p1), .unset] [(.int (1 : Int32))])) _
    refine XS.goto X0.here hx rfl (pc0 := 22) (pc' := 26) rfl (hb hby d_method_2_code_22) (by decide) (by decide) ?_
    show Steps p.tables e below (s₁.setTop (mkF m 26 #[.val (.ref r0), .val (.int p1), .unset] [(.int (1 : Int32))])) _
    refine XS.istoreN X0.here hx rfl (hb hby d_method_2_code_26) rfl (l' := #[.val (.ref r0), .val (.int p1), .val (.int (1 : Int32))]) rfl ?_
    show Steps p.tables e below (s₁.setTop (mkF m 27 #[.val (.ref r0), .val (.int p1), .val (.int (1 : Int32))] [])) _
    refine XS.iloadN X0.here hx rfl (hb hby d_method_2_code_27) rfl ?_
    show Steps p.tables e below (s₁.setTop (mkF m 28 #[.val (.ref r0), .val (.int p1), .val (.int (1 : Int32))] [(.int p1)])) _
    refine XS.iconst X0.here hx rfl (hb hby d_method_2_code_28) ?_
    show Steps p.tables e below (s₁.setTop (mkF m 29 #[.val (.ref r0), .val (.int p1), .val (.int (1 : Int32))] [(.int (2 : Int32)), (.int p1)])) _
    refine XS.icmpNo X0.here hx rfl (hb hby d_method_2_code_29) rfl (tlt hc29).2.2.2 ?_
    show Steps p.tables e below (s₁.setTop (mkF m 32 #[.val (.ref r0), .val (.int p1), .val (.int (1 : Int32))] [])) _
    refine XS.iloadN X0.here hx rfl (hb hby d_method_2_code_32) rfl ?_
    show Steps p.tables e below (s₁.setTop (mkF m 33 #[.val (.ref r0), .val (.int p1), .val (.int (1 : Int32))] [(.int (1 : Int32))])) _
    refine XS.ifNo X0.here hx rfl (hb hby d_method_2_code_33) rfl ((if0 _ _).trans (feq hc33).1) ?_
    show Steps p.tables e below (s₁.setTop (mkF m 36 #[.val (.ref r0), .val (.int p1), .val (.int (1 : Int32))] [])) _
    refine XS.aloadN X0.here hx rfl (hb hby d_method_2_code_36) rfl rfl ?_
    show Steps p.tables e below (s₁.setTop (mkF m 37 #[.val (.ref r0), .val (.int p1), .val (.int (1 : Int32))] [(.ref r0)])) _
    refine XS.iconst X0.here hx rfl (hb hby d_method_2_code_37) ?_
    show Steps p.tables e below (s₁.setTop (mkF m 38 #[.val (.ref r0), .val (.int p1), .val (.int (1 : Int32))] [(.int (2 : Int32)), (.ref r0)])) _
    refine X0.aaload hx (j := (2 : Int32)) (v := (.ref c2)) (by rw [e0]; exact Ar5.1) (State.isArrayOf_alike hZ.alike Ar5.2.1) rfl Ar5.2.2 hin5 hat5 (g := (mkF m 38 #[.val (.ref r0), .val (.int p1), .val (.int (1 : Int32))] [(.int (2 : Int32)), (.ref r0)])) rfl rfl (hb hby d_method_2_code_38) _ ?_
    show Steps p.tables e below (s₁.setTop (mkF m 39 #[.val (.ref r0), .val (.int p1), .val (.int (1 : Int32))] [(.ref c2)])) _
    refine XS.ifnullNo X0.here hx rfl (hb hby d_method_2_code_39) rfl ?_
    show Steps p.tables e below (s₁.setTop (mkF m 42 #[.val (.ref r0), .val (.int p1), .val (.int (1 : Int32))] [])) _
    refine XS.aloadN X0.here hx rfl (hb hby d_method_2_code_42) rfl rfl ?_
    show Steps p.tables e below (s₁.setTop (mkF m 43 #[.val (.ref r0), .val (.int p1), .val (.int (1 : Int32))] [(.ref r0)])) _
    refine XS.iconst X0.here hx rfl (hb hby d_method_2_code_43) ?_
    show Steps p.tables e below (s₁.setTop (mkF m 44 #[.val (.ref r0), .val (.int p1), .val (.int (1 : Int32))] [(.int (2 : Int32)), (.ref r0)])) _
    refine X0.aaload hx (j := (2 : Int32)) (v := (.ref c2)) (by rw [e0]; exact Ar6.1) (State.isArrayOf_alike hZ.alike Ar6.2.1) rfl Ar6.2.2 hin6 hat6 (g := (mkF m 44 #[.val (.ref r0), .val (.int p1), .val (.int (1 : Int32))] [(.int (2 : Int32)), (.ref r0)])) rfl rfl (hb hby d_method_2_code_44) _ ?_
    show Steps p.tables e below (s₁.setTop (mkF m 45 #[.val (.ref r0), .val (.int p1), .val (.int (1 : Int32))] [(.ref c2)])) _
    refine XS.aloadN X0.here hx rfl (hb hby d_method_2_code_45) rfl rfl ?_
    show Steps p.tables e below (s₁.setTop (mkF m 46 #[.val (.ref r0), .val (.int p1), .val (.int (1 : Int32))] [(.ref r0), (.ref c2)])) _
    refine XS.iconst X0.here hx rfl (hb hby d_method_2_code_46) ?_
    show Steps p.tables e below (s₁.setTop (mkF m 47 #[.val (.ref r0), .val (.int p1), .val (.int (1 : Int32))] [(.int (0 : Int32)), (.ref r0), (.ref c2)])) _
    refine X0.aaload hx (j := (0 : Int32)) (v := (.ref c0)) (by rw [e0]; exact Ar7.1) (State.isArrayOf_alike hZ.alike Ar7.2.1) rfl Ar7.2.2 hin7 hat7 (g := (mkF m 47 #[.val (.ref r0), .val (.int p1), .val (.int (1 : Int32))] [(.int (0 : Int32)), (.ref r0), (.ref c2)])) rfl rfl (hb hby d_method_2_code_47) _ ?_
    show Steps p.tables e below (s₁.setTop (mkF m 48 #[.val (.ref r0), .val (.int p1), .val (.int (1 : Int32))] [(.ref c0), (.ref c2)])) _
    refine Jvm.RoadKit.acmp (g := (mkF m 48 #[.val (.ref r0), .val (.int p1), .val (.int (1 : Int32))] [(.ref c0), (.ref c2)])) X0 hx rfl rfl rfl (pc0 := 48) (pc' := 51) (same := false) rfl (hb hby d_method_2_code_48) rfl (decide_eq_false fun q => hc48 (Value.ref.inj q)) (by decide) (by decide) ?_
    show Steps p.tables e below (s₁.setTop (mkF m 51 #[.val (.ref r0), .val (.int p1), .val (.int (1 : Int32))] [])) _
    refine XS.aloadN X0.here hx rfl (hb hby d_method_2_code_51) rfl rfl ?_
    show Steps p.tables e below (s₁.setTop (mkF m 52 #[.val (.ref r0), .val (.int p1), .val (.int (1 : Int32))] [(.ref r0)])) _
    refine XS.iconst X0.here hx rfl (hb hby d_method_2_code_52) ?_
    show Steps p.tables e below (s₁.setTop (mkF m 53 #[.val (.ref r0), .val (.int p1), .val (.int (1 : Int32))] [(.int (2 : Int32)), (.ref r0)])) _
    refine X0.aaload hx (j := (2 : Int32)) (v := (.ref c2)) (by rw [e0]; exact Ar8.1) (State.isArrayOf_alike hZ.alike Ar8.2.1) rfl Ar8.2.2 hin8 hat8 (g := (mkF m 53 #[.val (.ref r0), .val (.int p1), .val (.int (1 : Int32))] [(.int (2 : Int32)), (.ref r0)])) rfl rfl (hb hby d_method_2_code_53) _ ?_
    show Steps p.tables e below (s₁.setTop (mkF m 54 #[.val (.ref r0), .val (.int p1), .val (.int (1 : Int32))] [(.ref c2)])) _
    refine XS.aloadN X0.here hx rfl (hb hby d_method_2_code_54) rfl rfl ?_
    show Steps p.tables e below (s₁.setTop (mkF m 55 #[.val (.ref r0), .val (.int p1), .val (.int (1 : Int32))] [(.ref r0), (.ref c2)])) _
    refine XS.iconst X0.here hx rfl (hb hby d_method_2_code_55) ?_
    show Steps p.tables e below (s₁.setTop (mkF m 56 #[.val (.ref r0), .val (.int p1), .val (.int (1 : Int32))] [(.int (1 : Int32)), (.ref r0), (.ref c2)])) _
    refine X0.aaload hx (j := (1 : Int32)) (v := (.ref c1)) (by rw [e0]; exact Ar9.1) (State.isArrayOf_alike hZ.alike Ar9.2.1) rfl Ar9.2.2 hin9 hat9 (g := (mkF m 56 #[.val (.ref r0), .val (.int p1), .val (.int (1 : Int32))] [(.int (1 : Int32)), (.ref r0), (.ref c2)])) rfl rfl (hb hby d_method_2_code_56) _ ?_
    show Steps p.tables e below (s₁.setTop (mkF m 57 #[.val (.ref r0), .val (.int p1), .val (.int (1 : Int32))] [(.ref c1), (.ref c2)])) _
    refine Jvm.RoadKit.acmp (g := (mkF m 57 #[.val (.ref r0), .val (.int p1), .val (.int (1 : Int32))] [(.ref c1), (.ref c2)])) X0 hx rfl rfl rfl (pc0 := 57) (pc' := 60) (same := false) rfl (hb hby d_method_2_code_57) rfl (decide_eq_false fun q => hc57 (Value.ref.inj q)) (by decide) (by decide) ?_
    show Steps p.tables e below (s₁.setTop (mkF m 60 #[.val (.ref r0), .val (.int p1), .val (.int (1 : Int32))] [])) _
    refine XS.iconst X0.here hx rfl (hb hby d_method_2_code_60) ?_
    show Steps p.tables e below (s₁.setTop (mkF m 61 #[.val (.ref r0), .val (.int p1), .val (.int (1 : Int32))] [(.int (1 : Int32))])) _
    refine XS.goto X0.here hx rfl (pc0 := 61) (pc' := 65) rfl (hb hby d_method_2_code_61) (by decide) (by decide) ?_
    show Steps p.tables e below (s₁.setTop (mkF m 65 #[.val (.ref r0), .val (.int p1), .val (.int (1 : Int32))] [(.int (1 : Int32))])) _
    refine XS.istoreN X0.here hx rfl (hb hby d_method_2_code_65) rfl (l' := #[.val (.ref r0), .val (.int p1), .val (.int (1 : Int32))]) rfl ?_
    show Steps p.tables e below (s₁.setTop (mkF m 66 #[.val (.ref r0), .val (.int p1), .val (.int (1 : Int32))] [])) _
    refine XS.iloadN X0.here hx rfl (hb hby d_method_2_code_66) rfl ?_
    show Steps p.tables e below (s₁.setTop (mkF m 67 #[.val (.ref r0), .val (.int p1), .val (.int (1 : Int32))] [(.int p1)])) _
    refine XS.iconst X0.here hx rfl (hb hby d_method_2_code_67) ?_
    show Steps p.tables e below (s₁.setTop (mkF m 68 #[.val (.ref r0), .val (.int p1), .val (.int (1 : Int32))] [(.int (3 : Int32)), (.int p1)])) _
    refine XS.icmpNo X0.here hx rfl (hb hby d_method_2_code_68) rfl (tlt hc68).2.2.2 ?_
    show Steps p.tables e below (s₁.setTop (mkF m 71 #[.val (.ref r0), .val (.int p1), .val (.int (1 : Int32))] [])) _
    refine XS.iloadN X0.here hx rfl (hb hby d_method_2_code_71) rfl ?_
    show Steps p.tables e below (s₁.setTop (mkF m 72 #[.val (.ref r0), .val (.int p1), .val (.int (1 : Int32))] [(.int (1 : Int32))])) _
    refine XS.ifNo X0.here hx rfl (hb hby d_method_2_code_72) rfl ((if0 _ _).trans (feq hc72).1) ?_
    show Steps p.tables e below (s₁.setTop (mkF m 75 #[.val (.ref r0), .val (.int p1), .val (.int (1 : Int32))] [])) _
    refine XS.aloadN X0.here hx rfl (hb hby d_method_2_code_75) rfl rfl ?_
    show Steps p.tables e below (s₁.setTop (mkF m 76 #[.val (.ref r0), .val (.int p1), .val (.int (1 : Int32))] [(.ref r0)])) _
    refine XS.iconst X0.here hx rfl (hb hby d_method_2_code_76) ?_
    show Steps p.tables e below (s₁.setTop (mkF m 77 #[.val (.ref r0), .val (.int p1), .val (.int (1 : Int32))] [(.int (3 : Int32)), (.ref r0)])) _
    refine X0.aaload hx (j := (3 : Int32)) (v := (.ref c3)) (by rw [e0]; exact Ar10.1) (State.isArrayOf_alike hZ.alike Ar10.2.1) rfl Ar10.2.2 hin10 hat10 (g := (mkF m 77 #[.val (.ref r0), .val (.int p1), .val (.int (1 : Int32))] [(.int (3 : Int32)), (.ref r0)])) rfl rfl (hb hby d_method_2_code_77) _ ?_
    show Steps p.tables e below (s₁.setTop (mkF m 78 #[.val (.ref r0), .val (.int p1), .val (.int (1 : Int32))] [(.ref c3)])) _
    refine XS.ifnullNo X0.here hx rfl (hb hby d_method_2_code_78) rfl ?_
    show Steps p.tables e below (s₁.setTop (mkF m 81 #[.val (.ref r0), .val (.int p1), .val (.int (1 : Int32))] [])) _
    refine XS.aloadN X0.here hx rfl (hb hby d_method_2_code_81) rfl rfl ?_
    show Steps p.tables e below (s₁.setTop (mkF m 82 #[.val (.ref r0), .val (.int p1), .val (.int (1 : Int32))] [(.ref r0)])) _
    refine XS.iconst X0.here hx rfl (hb hby d_method_2_code_82) ?_
    show Steps p.tables e below (s₁.setTop (mkF m 83 #[.val (.ref r0), .val (.int p1), .val (.int (1 : Int32))] [(.int (3 : Int32)), (.ref r0)])) _
    refine X0.aaload hx (j := (3 : Int32)) (v := (.ref c3)) (by rw [e0]; exact Ar11.1) (State.isArrayOf_alike hZ.alike Ar11.2.1) rfl Ar11.2.2 hin11 hat11 (g := (mkF m 83 #[.val (.ref r0), .val (.int p1), .val (.int (1 : Int32))] [(.int (3 : Int32)), (.ref r0)])) rfl rfl (hb hby d_method_2_code_83) _ ?_
    show Steps p.tables e below (s₁.setTop (mkF m 84 #[.val (.ref r0), .val (.int p1), .val (.int (1 : Int32))] [(.ref c3)])) _
    refine XS.aloadN X0.here hx rfl (hb hby d_method_2_code_84) rfl rfl ?_
    show Steps p.tables e below (s₁.setTop (mkF m 85 #[.val (.ref r0), .val (.int p1), .val (.int (1 : Int32))] [(.ref r0), (.ref c3)])) _
    refine XS.iconst X0.here hx rfl (hb hby d_method_2_code_85) ?_
    show Steps p.tables e below (s₁.setTop (mkF m 86 #[.val (.ref r0), .val (.int p1), .val (.int (1 : Int32))] [(.int (0 : Int32)), (.ref r0), (.ref c3)])) _
    refine X0.aaload hx (j := (0 : Int32)) (v := (.ref c0)) (by rw [e0]; exact Ar12.1) (State.isArrayOf_alike hZ.alike Ar12.2.1) rfl Ar12.2.2 hin12 hat12 (g := (mkF m 86 #[.val (.ref r0), .val (.int p1), .val (.int (1 : Int32))] [(.int (0 : Int32)), (.ref r0), (.ref c3)])) rfl rfl (hb hby d_method_2_code_86) _ ?_
    show Steps p.tables e below (s₁.setTop (mkF m 87 #[.val (.ref r0), .val (.int p1), .val (.int (1 : Int32))] [(.ref c0), (.ref c3)])) _
    refine Jvm.RoadKit.acmp (g := (mkF m 87 #[.val (.ref r0), .val (.int p1), .val (.int (1 : Int32))] [(.ref c0), (.ref c3)])) X0 hx rfl rfl rfl (pc0 := 87) (pc' := 90) (same := false) rfl (hb hby d_method_2_code_87) rfl (decide_eq_false fun q => hc87 (Value.ref.inj q)) (by decide) (by decide) ?_
    show Steps p.tables e below (s₁.setTop (mkF m 90 #[.val (.ref r0), .val (.int p1), .val (.int (1 : Int32))] [])) _
    refine XS.aloadN X0.here hx rfl (hb hby d_method_2_code_90) rfl rfl ?_
    show Steps p.tables e below (s₁.setTop (mkF m 91 #[.val (.ref r0), .val (.int p1), .val (.int (1 : Int32))] [(.ref r0)])) _
    refine XS.iconst X0.here hx rfl (hb hby d_method_2_code_91) ?_
    show Steps p.tables e below (s₁.setTop (mkF m 92 #[.val (.ref r0), .val (.int p1), .val (.int (1 : Int32))] [(.int (3 : Int32)), (.ref r0)])) _
    refine X0.aaload hx (j := (3 : Int32)) (v := (.ref c3)) (by rw [e0]; exact Ar13.1) (State.isArrayOf_alike hZ.alike Ar13.2.1) rfl Ar13.2.2 hin13 hat13 (g := (mkF m 92 #[.val (.ref r0), .val (.int p1), .val (.int (1 : Int32))] [(.int (3 : Int32)), (.ref r0)])) rfl rfl (hb hby d_method_2_code_92) _ ?_
    show Steps p.tables e below (s₁.setTop (mkF m 93 #[.val (.ref r0), .val (.int p1), .val (.int (1 : Int32))] [(.ref c3)])) _
    refine XS.aloadN X0.here hx rfl (hb hby d_method_2_code_93) rfl rfl ?_
    show Steps p.tables e below (s₁.setTop (mkF m 94 #[.val (.ref r0), .val (.int p1), .val (.int (1 : Int32))] [(.ref r0), (.ref c3)])) _
    refine XS.iconst X0.here hx rfl (hb hby d_method_2_code_94) ?_
    show Steps p.tables e below (s₁.setTop (mkF m 95 #[.val (.ref r0), .val (.int p1), .val (.int (1 : Int32))] [(.int (1 : Int32)), (.ref r0), (.ref c3)])) _
    refine X0.aaload hx (j := (1 : Int32)) (v := (.ref c1)) (by rw [e0]; exact Ar14.1) (State.isArrayOf_alike hZ.alike Ar14.2.1) rfl Ar14.2.2 hin14 hat14 (g := (mkF m 95 #[.val (.ref r0), .val (.int p1), .val (.int (1 : Int32))] [(.int (1 : Int32)), (.ref r0), (.ref c3)])) rfl rfl (hb hby d_method_2_code_95) _ ?_
    show Steps p.tables e below (s₁.setTop (mkF m 96 #[.val (.ref r0), .val (.int p1), .val (.int (1 : Int32))] [(.ref c1), (.ref c3)])) _
    refine Jvm.RoadKit.acmp (g := (mkF m 96 #[.val (.ref r0), .val (.int p1), .val (.int (1 : Int32))] [(.ref c1), (.ref c3)])) X0 hx rfl rfl rfl (pc0 := 96) (pc' := 99) (same := false) rfl (hb hby d_method_2_code_96) rfl (decide_eq_false fun q => hc96 (Value.ref.inj q)) (by decide) (by decide) ?_
    show Steps p.tables e below (s₁.setTop (mkF m 99 #[.val (.ref r0), .val (.int p1), .val (.int (1 : Int32))] [])) _
    refine XS.aloadN X0.here hx rfl (hb hby d_method_2_code_99) rfl rfl ?_
    show Steps p.tables e below (s₁.setTop (mkF m 100 #[.val (.ref r0), .val (.int p1), .val (.int (1 : Int32))] [(.ref r0)])) _
    refine XS.iconst X0.here hx rfl (hb hby d_method_2_code_100) ?_
    show Steps p.tables e below (s₁.setTop (mkF m 101 #[.val (.ref r0), .val (.int p1), .val (.int (1 : Int32))] [(.int (3 : Int32)), (.ref r0)])) _
    refine X0.aaload hx (j := (3 : Int32)) (v := (.ref c3)) (by rw [e0]; exact Ar15.1) (State.isArrayOf_alike hZ.alike Ar15.2.1) rfl Ar15.2.2 hin15 hat15 (g := (mkF m 101 #[.val (.ref r0), .val (.int p1), .val (.int (1 : Int32))] [(.int (3 : Int32)), (.ref r0)])) rfl rfl (hb hby d_method_2_code_101) _ ?_
    show Steps p.tables e below (s₁.setTop (mkF m 102 #[.val (.ref r0), .val (.int p1), .val (.int (1 : Int32))] [(.ref c3)])) _
    refine XS.aloadN X0.here hx rfl (hb hby d_method_2_code_102) rfl rfl ?_
    show Steps p.tables e below (s₁.setTop (mkF m 103 #[.val (.ref r0), .val (.int p1), .val (.int (1 : Int32))] [(.ref r0), (.ref c3)])) _
    refine XS.iconst X0.here hx rfl (hb hby d_method_2_code_103) ?_
    show Steps p.tables e below (s₁.setTop (mkF m 104 #[.val (.ref r0), .val (.int p1), .val (.int (1 : Int32))] [(.int (2 : Int32)), (.ref r0), (.ref c3)])) _
    refine X0.aaload hx (j := (2 : Int32)) (v := (.ref c2)) (by rw [e0]; exact Ar16.1) (State.isArrayOf_alike hZ.alike Ar16.2.1) rfl Ar16.2.2 hin16 hat16 (g := (mkF m 104 #[.val (.ref r0), .val (.int p1), .val (.int (1 : Int32))] [(.int (2 : Int32)), (.ref r0), (.ref c3)])) rfl rfl (hb hby d_method_2_code_104) _ ?_
    show Steps p.tables e below (s₁.setTop (mkF m 105 #[.val (.ref r0), .val (.int p1), .val (.int (1 : Int32))] [(.ref c2), (.ref c3)])) _
    refine Jvm.RoadKit.acmp (g := (mkF m 105 #[.val (.ref r0), .val (.int p1), .val (.int (1 : Int32))] [(.ref c2), (.ref c3)])) X0 hx rfl rfl rfl (pc0 := 105) (pc' := 108) (same := false) rfl (hb hby d_method_2_code_105) rfl (decide_eq_false fun q => hc105 (Value.ref.inj q)) (by decide) (by decide) ?_
    show Steps p.tables e below (s₁.setTop (mkF m 108 #[.val (.ref r0), .val (.int p1), .val (.int (1 : Int32))] [])) _
    refine XS.iconst X0.here hx rfl (hb hby d_method_2_code_108) ?_
    show Steps p.tables e below (s₁.setTop (mkF m 109 #[.val (.ref r0), .val (.int p1), .val (.int (1 : Int32))] [(.int (1 : Int32))])) _
    refine XS.goto X0.here hx rfl (pc0 := 109) (pc' := 113) rfl (hb hby d_method_2_code_109) (by decide) (by decide) ?_
    show Steps p.tables e below (s₁.setTop (mkF m 113 #[.val (.ref r0), .val (.int p1), .val (.int (1 : Int32))] [(.int (1 : Int32))])) _
    refine XS.istoreN X0.here hx rfl (hb hby d_method_2_code_113) rfl (l' := #[.val (.ref r0), .val (.int p1), .val (.int (1 : Int32))]) rfl ?_
    show Steps p.tables e below (s₁.setTop (mkF m 114 #[.val (.ref r0), .val (.int p1), .val (.int (1 : Int32))] [])) _
    refine XS.iloadN X0.here hx rfl (hb hby d_method_2_code_114) rfl ?_
    show Steps p.tables e below (s₁.setTop (mkF m 115 #[.val (.ref r0), .val (.int p1), .val (.int (1 : Int32))] [(.int p1)])) _
    refine XS.iconst X0.here hx rfl (hb hby d_method_2_code_115) ?_
    show Steps p.tables e below (s₁.setTop (mkF m 116 #[.val (.ref r0), .val (.int p1), .val (.int (1 : Int32))] [(.int (4 : Int32)), (.int p1)])) _
    refine XS.icmpYes X0.here hx rfl (pc0 := 116) (pc' := 171) rfl (hb hby d_method_2_code_116) rfl (flt hc116).2.2.2 (by decide) (by decide) ?_
    show Steps p.tables e below (s₁.setTop (mkF m 171 #[.val (.ref r0), .val (.int p1), .val (.int (1 : Int32))] [])) _
    refine XS.iloadN X0.here hx rfl (hb hby d_method_2_code_171) rfl ?_
    show Steps p.tables e below (s₁.setTop (mkF m 172 #[.val (.ref r0), .val (.int p1), .val (.int (1 : Int32))] [(.int (1 : Int32))])) _
    exact retN X0 hx (t := .boolean) Bd.returns (by simp) (hb hby d_method_2_code_172) hr
  ·
    show Q_rmD4 Z r0 p1 kR c0 c1 c2 c3 h0 n0 _ s₁.heap _
    rw [e0]
    exact ⟨rfl, N0, rfl⟩
theorem d_method_2_code_119 : decode method_2_code 119 = .ok (.iload_n 2, 1) := by decide +kernel
theorem d_method_2_code_120 : decode method_2_code 120 = .ok (.ifCond .eq 49, 3) := by decide +kernel
theorem d_method_2_code_123 : decode method_2_code 123 = .ok (.aload_n 0, 1) := by decide +kernel
theorem d_method_2_code_124 : decode method_2_code 124 = .ok (.iconst 4, 1) := by decide +kernel
theorem d_method_2_code_125 : decode method_2_code 125 = .ok (.aaload, 1) := by decide +kernel
theorem d_method_2_code_126 : decode method_2_code 126 = .ok (.ifnull 43, 3) := by decide +kernel
theorem d_method_2_code_129 : decode method_2_code 129 = .ok (.aload_n 0, 1) := by decide +kernel
theorem d_method_2_code_130 : decode method_2_code 130 = .ok (.iconst 4, 1) := by decide +kernel
theorem d_method_2_code_131 : decode method_2_code 131 = .ok (.aaload, 1) := by decide +kernel
theorem d_method_2_code_132 : decode method_2_code 132 = .ok (.aload_n 0, 1) := by decide +kernel
theorem d_method_2_code_133 : decode method_2_code 133 = .ok (.iconst 0, 1) := by decide +kernel
theorem d_method_2_code_134 : decode method_2_code 134 = .ok (.aaload, 1) := by decide +kernel
theorem d_method_2_code_135 : decode method_2_code 135 = .ok (.if_acmp .eq 34, 3) := by decide +kernel
theorem d_method_2_code_138 : decode method_2_code 138 = .ok (.aload_n 0, 1) := by decide +kernel
theorem d_method_2_code_139 : decode method_2_code 139 = .ok (.iconst 4, 1) := by decide +kernel
theorem d_method_2_code_140 : decode method_2_code 140 = .ok (.aaload, 1) := by decide +kernel
theorem d_method_2_code_141 : decode method_2_code 141 = .ok (.aload_n 0, 1) := by decide +kernel
theorem d_method_2_code_142 : decode method_2_code 142 = .ok (.iconst 1, 1) := by decide +kernel
theorem d_method_2_code_143 : decode method_2_code 143 = .ok (.aaload, 1) := by decide +kernel
theorem d_method_2_code_144 : decode method_2_code 144 = .ok (.if_acmp .eq 25, 3) := by decide +kernel
theorem d_method_2_code_147 : decode method_2_code 147 = .ok (.aload_n 0, 1) := by decide +kernel
theorem d_method_2_code_148 : decode method_2_code 148 = .ok (.iconst 4, 1) := by decide +kernel
theorem d_method_2_code_149 : decode method_2_code 149 = .ok (.aaload, 1) := by decide +kernel
theorem d_method_2_code_150 : decode method_2_code 150 = .ok (.aload_n 0, 1) := by decide +kernel
theorem d_method_2_code_151 : decode method_2_code 151 = .ok (.iconst 2, 1) := by decide +kernel
theorem d_method_2_code_152 : decode method_2_code 152 = .ok (.aaload, 1) := by decide +kernel
theorem d_method_2_code_153 : decode method_2_code 153 = .ok (.if_acmp .eq 16, 3) := by decide +kernel
theorem d_method_2_code_156 : decode method_2_code 156 = .ok (.aload_n 0, 1) := by decide +kernel
theorem d_method_2_code_157 : decode method_2_code 157 = .ok (.iconst 4, 1) := by decide +kernel
theorem d_method_2_code_158 : decode method_2_code 158 = .ok (.aaload, 1) := by decide +kernel
theorem d_method_2_code_159 : decode method_2_code 159 = .ok (.aload_n 0, 1) := by decide +kernel
theorem d_method_2_code_160 : decode method_2_code 160 = .ok (.iconst 3, 1) := by decide +kernel
theorem d_method_2_code_161 : decode method_2_code 161 = .ok (.aaload, 1) := by decide +kernel
theorem d_method_2_code_162 : decode method_2_code 162 = .ok (.if_acmp .eq 7, 3) := by decide +kernel
theorem d_method_2_code_165 : decode method_2_code 165 = .ok (.iconst 1, 1) := by decide +kernel
theorem d_method_2_code_166 : decode method_2_code 166 = .ok (.goto 4, 3) := by decide +kernel
theorem d_method_2_code_170 : decode method_2_code 170 = .ok (.istore_n 2, 1) := by decide +kernel
theorem ef_rmD5 (m : MethodId) (x0 : Addr) (x1 : Int32) : entryFrame m #[(.ref x0), (.int x1)] 3 = mkF m 0 #[.val (.ref x0), .val (.int x1), .unset] [] := by first | (simp [entryFrame, mkF, argsToLocals, Value.category]; done) | rfl
def Q_rmD5 (Z : State) (r0 : Addr) (p1 : Int32) (kR : ClassId) (c0 : Addr) (c1 : Addr) (c2 : Addr) (c3 : Addr) (c4 : Addr) (h0 : Heap) (n0 : Nat) (v : Option Value) (h : Heap) (L : List Loc) : Prop := v = some (.int 1) ∧ Fr n0 L ∧ h = h0
set_option maxRecDepth 65536 in
set_option maxHeartbeats 40000000 in
theorem rmD5 (l : Launch) (Z : State) (a0 : Array Value) (hw : ∀ d ∈ tables_1, d.before a0 Z = true) (ws : List Jvm.Cond) (r0 : Addr) (p1 : Int32) (kR : ClassId) (c0 : Addr) (c1 : Addr) (c2 : Addr) (c3 : Addr) (c4 : Addr) (h0 : Heap) (n0 : Nat) (Z0 : n0 ≤ h0.size) (V_r0 : Arv Z h0 r0 kR (.object "com/example/lachesis/lachesis/timer/Bucket") (5 : Int32) [(.ref c0), (.ref c1), (.ref c2), (.ref c3), (.ref c4)] .null) (hn : p1.toInt = 5) (ne_c1_c0 : c1 ≠ c0) (ne_c2_c0 : c2 ≠ c0) (ne_c2_c1 : c2 ≠ c1) (ne_c3_c0 : c3 ≠ c0) (ne_c3_c1 : c3 ≠ c1) (ne_c3_c2 : c3 ≠ c2) (ne_c4_c0 : c4 ≠ c0) (ne_c4_c1 : c4 ≠ c1) (ne_c4_c2 : c4 ≠ c2) (ne_c4_c3 : c4 ≠ c3) :
    MetFree l (⟨"com/example/lachesis/lachesis/timer/WheelBucketPinLaw", "distinct", "([Lcom/example/lachesis/lachesis/timer/Bucket;I)Z"⟩ : MethodName) (head1 (Jvm.Cond.code (⟨"com/example/lachesis/lachesis/timer/WheelBucketPinLaw", "distinct", "([Lcom/example/lachesis/lachesis/timer/Bucket;I)Z"⟩ : MethodName) method_2_code 3 (some .boolean) :: ws) ({ frames := 0, cells := 0, slots := 0, locals := 0 } : Room)) (fun a U => a = #[(.ref r0), (.int p1)] ∧ Z.Warmed39 U.vm ∧ U.heap = h0) (fun _ _ _ _ _ => True) (fun _ U o U' => ∃ v L, o = .returned v ∧ Q_rmD5 Z r0 p1 kR c0 c1 c2 c3 c4 h0 n0 v U'.heap L ∧ FrameEnd U o U' L ({ frames := 0, cells := 0, slots := 0, locals := 0 } : Room).cells ({ frames := 0, cells := 0, slots := 0, locals := 0 } : Room).slots) := by
  refine MetFree.of_bodySF (plainFor_of_name pn_4) hisR ?_
  intro p e s m args below meth c s₁ Bd hml0 hP hK
  obtain ⟨rfl, hZ, hh⟩ := hP
  have hx := Bd.exec
  have hby := Bd.bytes
  have hml : c.maxLocals = 3 := hml0
  have hown : s.vm.findClass "com/example/lachesis/lachesis/timer/WheelBucketPinLaw" = some m.cls := findClass_of_methodNamed Bd.named
  have hnm := (name_of_methodNamed Bd.named Bd.method).1
  have hlk : meth.locks = false := by first | exact BodyLoose.notSynchronized (by assumption) | exact Body.notSynchronized (by assumption) | assumption
  have X0 : Stand p l e ({ frames := 0, cells := 0, slots := 0, locals := 0 } : Room) s m #[(.ref r0), (.int p1)] below meth c s₁ [] 0 0 := Stand.of_body Bd
  have e0 : s₁.heap = h0 := by rw [← hh, Bd.state]; rfl
  have N0 := Fr.nil n0
  have Zn := Z0
  have K0 : ∀ t, Steps p.tables e below (s₁.setTop (mkF m 0 #[.val (.ref r0), .val (.int p1), .unset] [])) t → Steps p.tables e below (s₁.setTop (entryFrame m #[(.ref r0), (.int p1)] 3)) t := fun t k => castTop (ef_rmD5 m r0 p1) k
  have Vq1 := V_r0
  obtain ⟨cl1, Ar1, q1, S1, N1z, H1, G1⟩ := Vq1
  have hin1 : ¬ ((0 : Int32) < 0 ∨ cl1.slots.size ≤ ((0 : Int32)).toNatClampNeg) := inb_of S1 ⟨by decide, by decide⟩
  have hat1 : cl1.slots[((0 : Int32)).toNatClampNeg]? = some (.ref c0) := Has.at H1 hin1 rfl
  have Vq2 := V_r0
  obtain ⟨cl2, Ar2, q2, S2, N2z, H2, G2⟩ := Vq2
  have hin2 : ¬ ((1 : Int32) < 0 ∨ cl2.slots.size ≤ ((1 : Int32)).toNatClampNeg) := inb_of S2 ⟨by decide, by decide⟩
  have hat2 : cl2.slots[((1 : Int32)).toNatClampNeg]? = some (.ref c1) := Has.at H2 hin2 rfl
  have Vq3 := V_r0
  obtain ⟨cl3, Ar3, q3, S3, N3z, H3, G3⟩ := Vq3
  have hin3 : ¬ ((0 : Int32) < 0 ∨ cl3.slots.size ≤ ((0 : Int32)).toNatClampNeg) := inb_of S3 ⟨by decide, by decide⟩
  have hat3 : cl3.slots[((0 : Int32)).toNatClampNeg]? = some (.ref c0) := Has.at H3 hin3 rfl
  have Vq4 := V_r0
  obtain ⟨cl4, Ar4, q4, S4, N4z, H4, G4⟩ := Vq4
  have hin4 : ¬ ((1 : Int32) < 0 ∨ cl4.slots.size ≤ ((1 : Int32)).toNatClampNeg) := inb_of S4 ⟨by decide, by decide⟩
  have hat4 : cl4.slots[((1 : Int32)).toNatClampNeg]? = some (.ref c1) := Has.at H4 hin4 rfl
  have hc18 : ¬ (c0 = c1) := (Ne.symm ne_c1_c0)
  have hc29 : (2 : Int32) < p1 := (by rw [Int32.lt_iff_toInt_lt]; have z : (2 : Int32).toInt = 2 := (by decide); omega)
  have hc33 : ¬ ((1 : Int32) = (0 : Int32)) := (by decide)
  have Vq5 := V_r0
  obtain ⟨cl5, Ar5, q5, S5, N5z, H5, G5⟩ := Vq5
  have hin5 : ¬ ((2 : Int32) < 0 ∨ cl5.slots.size ≤ ((2 : Int32)).toNatClampNeg) := inb_of S5 ⟨by decide, by decide⟩
  have hat5 : cl5.slots[((2 : Int32)).toNatClampNeg]? = some (.ref c2) := Has.at H5 hin5 rfl
  have Vq6 := V_r0
  obtain ⟨cl6, Ar6, q6, S6, N6z, H6, G6⟩ := Vq6
  have hin6 : ¬ ((2 : Int32) < 0 ∨ cl6.slots.size ≤ ((2 : Int32)).toNatClampNeg) := inb_of S6 ⟨by decide, by decide⟩
  have hat6 : cl6.slots[((2 : Int32)).toNatClampNeg]? = some (.ref c2) := Has.at H6 hin6 rfl
  have Vq7 := V_r0
  obtain ⟨cl7, Ar7, q7, S7, N7z, H7, G7⟩ := Vq7
  have hin7 : ¬ ((0 : Int32) < 0 ∨ cl7.slots.size ≤ ((0 : Int32)).toNatClampNeg) := inb_of S7 ⟨by decide, by decide⟩
  have hat7 : cl7.slots[((0 : Int32)).toNatClampNeg]? = some (.ref c0) := Has.at H7 hin7 rfl
  have hc48 : ¬ (c2 = c0) := ne_c2_c0
  have Vq8 := V_r0
  obtain ⟨cl8, Ar8, q8, S8, N8z, H8, G8⟩ := Vq8
  have hin8 : ¬ ((2 : Int32) < 0 ∨ cl8.slots.size ≤ ((2 : Int32)).toNatClampNeg) := inb_of S8 ⟨by decide, by decide⟩
  have hat8 : cl8.slots[((2 : Int32)).toNatClampNeg]? = some (.ref c2) := Has.at H8 hin8 rfl
  have Vq9 := V_r0
  obtain ⟨cl9, Ar9, q9, S9, N9z, H9, G9⟩ := Vq9
  have hin9 : ¬ ((1 : Int32) < 0 ∨ cl9.slots.size ≤ ((1 : Int32)).toNatClampNeg) := inb_of S9 ⟨by decide, by decide⟩
  have hat9 : cl9.slots[((1 : Int32)).toNatClampNeg]? = some (.ref c1) := Has.at H9 hin9 rfl
  have hc57 : ¬ (c2 = c1) := ne_c2_c1
  have hc68 : (3 : Int32) < p1 := (by rw [Int32.lt_iff_toInt_lt]; have z : (3 : Int32).toInt = 3 := (by decide); omega)
  have hc72 : ¬ ((1 : Int32) = (0 : Int32)) := (by decide)
  have Vq10 := V_r0
  obtain ⟨cl10, Ar10, q10, S10, N10z, H10, G10⟩ := Vq10
  have hin10 : ¬ ((3 : Int32) < 0 ∨ cl10.slots.size ≤ ((3 : Int32)).toNatClampNeg) := inb_of S10 ⟨by decide, by decide⟩
  have hat10 : cl10.slots[((3 : Int32)).toNatClampNeg]? = some (.ref c3) := Has.at H10 hin10 rfl
  have Vq11 := V_r0
  obtain ⟨cl11, Ar11, q11, S11, N11z, H11, G11⟩ := Vq11
  have hin11 : ¬ ((3 : Int32) < 0 ∨ cl11.slots.size ≤ ((3 : Int32)).toNatClampNeg) := inb_of S11 ⟨by decide, by decide⟩
  have hat11 : cl11.slots[((3 : Int32)).toNatClampNeg]? = some (.ref c3) := Has.at H11 hin11 rfl
  have Vq12 := V_r0
  obtain ⟨cl12, Ar12, q12, S12, N12z, H12, G12⟩ := Vq12
  have hin12 : ¬ ((0 : Int32) < 0 ∨ cl12.slots.size ≤ ((0 : Int32)).toNatClampNeg) := inb_of S12 ⟨by decide, by decide⟩
  have hat12 : cl12.slots[((0 : Int32)).toNatClampNeg]? = some (.ref c0) := Has.at H12 hin12 rfl
  have hc87 : ¬ (c3 = c0) := ne_c3_c0
  have Vq13 := V_r0
  obtain ⟨cl13, Ar13, q13, S13, N13z, H13, G13⟩ := Vq13
  have hin13 : ¬ ((3 : Int32) < 0 ∨ cl13.slots.size ≤ ((3 : Int32)).toNatClampNeg) := inb_of S13 ⟨by decide, by decide⟩
  have hat13 : cl13.slots[((3 : Int32)).toNatClampNeg]? = some (.ref c3) := Has.at H13 hin13 rfl
  have Vq14 := V_r0
  obtain ⟨cl14, Ar14, q14, S14, N14z, H14, G14⟩ := Vq14
  have hin14 : ¬ ((1 : Int32) < 0 ∨ cl14.slots.size ≤ ((1 : Int32)).toNatClampNeg) := inb_of S14 ⟨by decide, by decide⟩
  have hat14 : cl14.slots[((1 : Int32)).toNatClampNeg]? = some (.ref c1) := Has.at H14 hin14 rfl
  have hc96 : ¬ (c3 = c1) := ne_c3_c1
  have Vq15 := V_r0
  obtain ⟨cl15, Ar15, q15, S15, N15z, H15, G15⟩ := Vq15
  have hin15 : ¬ ((3 : Int32) < 0 ∨ cl15.slots.size ≤ ((3 : Int32)).toNatClampNeg) := inb_of S15 ⟨by decide, by decide⟩
  have hat15 : cl15.slots[((3 : Int32)).toNatClampNeg]? = some (.ref c3) := Has.at H15 hin15 rfl
  have Vq16 := V_r0
  obtain ⟨cl16, Ar16, q16, S16, N16z, H16, G16⟩ := Vq16
  have hin16 : ¬ ((2 : Int32) < 0 ∨ cl16.slots.size ≤ ((2 : Int32)).toNatClampNeg) := inb_of S16 ⟨by decide, by decide⟩
  have hat16 : cl16.slots[((2 : Int32)).toNatClampNeg]? = some (.ref c2) := Has.at H16 hin16 rfl
  have hc105 : ¬ (c3 = c2) := ne_c3_c2
  have hc116 : (4 : Int32) < p1 := (by rw [Int32.lt_iff_toInt_lt]; have z : (4 : Int32).toInt = 4 := (by decide); omega)
  have hc120 : ¬ ((1 : Int32) = (0 : Int32)) := (by decide)
  have Vq17 := V_r0
  obtain ⟨cl17, Ar17, q17, S17, N17z, H17, G17⟩ := Vq17
  have hin17 : ¬ ((4 : Int32) < 0 ∨ cl17.slots.size ≤ ((4 : Int32)).toNatClampNeg) := inb_of S17 ⟨by decide, by decide⟩
  have hat17 : cl17.slots[((4 : Int32)).toNatClampNeg]? = some (.ref c4) := Has.at H17 hin17 rfl
  have Vq18 := V_r0
  obtain ⟨cl18, Ar18, q18, S18, N18z, H18, G18⟩ := Vq18
  have hin18 : ¬ ((4 : Int32) < 0 ∨ cl18.slots.size ≤ ((4 : Int32)).toNatClampNeg) := inb_of S18 ⟨by decide, by decide⟩
  have hat18 : cl18.slots[((4 : Int32)).toNatClampNeg]? = some (.ref c4) := Has.at H18 hin18 rfl
  have Vq19 := V_r0
  obtain ⟨cl19, Ar19, q19, S19, N19z, H19, G19⟩ := Vq19
  have hin19 : ¬ ((0 : Int32) < 0 ∨ cl19.slots.size ≤ ((0 : Int32)).toNatClampNeg) := inb_of S19 ⟨by decide, by decide⟩
  have hat19 : cl19.slots[((0 : Int32)).toNatClampNeg]? = some (.ref c0) := Has.at H19 hin19 rfl
  have hc135 : ¬ (c4 = c0) := ne_c4_c0
  have Vq20 := V_r0
  obtain ⟨cl20, Ar20, q20, S20, N20z, H20, G20⟩ := Vq20
  have hin20 : ¬ ((4 : Int32) < 0 ∨ cl20.slots.size ≤ ((4 : Int32)).toNatClampNeg) := inb_of S20 ⟨by decide, by decide⟩
  have hat20 : cl20.slots[((4 : Int32)).toNatClampNeg]? = some (.ref c4) := Has.at H20 hin20 rfl
  have Vq21 := V_r0
  obtain ⟨cl21, Ar21, q21, S21, N21z, H21, G21⟩ := Vq21
  have hin21 : ¬ ((1 : Int32) < 0 ∨ cl21.slots.size ≤ ((1 : Int32)).toNatClampNeg) := inb_of S21 ⟨by decide, by decide⟩
  have hat21 : cl21.slots[((1 : Int32)).toNatClampNeg]? = some (.ref c1) := Has.at H21 hin21 rfl
  have hc144 : ¬ (c4 = c1) := ne_c4_c1
  have Vq22 := V_r0
  obtain ⟨cl22, Ar22, q22, S22, N22z, H22, G22⟩ := Vq22
  have hin22 : ¬ ((4 : Int32) < 0 ∨ cl22.slots.size ≤ ((4 : Int32)).toNatClampNeg) := inb_of S22 ⟨by decide, by decide⟩
  have hat22 : cl22.slots[((4 : Int32)).toNatClampNeg]? = some (.ref c4) := Has.at H22 hin22 rfl
  have Vq23 := V_r0
  obtain ⟨cl23, Ar23, q23, S23, N23z, H23, G23⟩ := Vq23
  have hin23 : ¬ ((2 : Int32) < 0 ∨ cl23.slots.size ≤ ((2 : Int32)).toNatClampNeg) := inb_of S23 ⟨by decide, by decide⟩
  have hat23 : cl23.slots[((2 : Int32)).toNatClampNeg]? = some (.ref c2) := Has.at H23 hin23 rfl
  have hc153 : ¬ (c4 = c2) := ne_c4_c2
  have Vq24 := V_r0
  obtain ⟨cl24, Ar24, q24, S24, N24z, H24, G24⟩ := Vq24
  have hin24 : ¬ ((4 : Int32) < 0 ∨ cl24.slots.size ≤ ((4 : Int32)).toNatClampNeg) := inb_of S24 ⟨by decide, by decide⟩
  have hat24 : cl24.slots[((4 : Int32)).toNatClampNeg]? = some (.ref c4) := Has.at H24 hin24 rfl
  have Vq25 := V_r0
  obtain ⟨cl25, Ar25, q25, S25, N25z, H25, G25⟩ := Vq25
  have hin25 : ¬ ((3 : Int32) < 0 ∨ cl25.slots.size ≤ ((3 : Int32)).toNatClampNeg) := inb_of S25 ⟨by decide, by decide⟩
  have hat25 : cl25.slots[((3 : Int32)).toNatClampNeg]? = some (.ref c3) := Has.at H25 hin25 rfl
  have hc162 : ¬ (c4 = c3) := ne_c4_c3
  obtain ⟨fs, hr, hrun, hended, hW, hsame⟩ := X0.leave (v := some (.int (1 : Int32))) (fun h => by rw [Bd.returns] at h; cases h) hlk
  refine ⟨_, _, K0 _ ?_, hrun, hended, _, _, rfl, ?_, ⟨_, rfl⟩, hW, hsame.mono (by decide) (by decide)⟩
  ·
    show Steps p.tables e below (s₁.setTop (mkF m 0 #[.val (.ref r0), .val (.int p1), .unset] [])) _
    refine XS.aloadN X0.here hx rfl (hb hby d_method_2_code_0) rfl rfl ?_
    show Steps p.tables e below (s₁.setTop (mkF m 1 #[.val (.ref r0), .val (.int p1), .unset] [(.ref r0)])) _
    refine XS.iconst X0.here hx rfl (hb hby d_method_2_code_1) ?_
    show Steps p.tables e below (s₁.setTop (mkF m 2 #[.val (.ref r0), .val (.int p1), .unset] [(.int (0 : Int32)), (.ref r0)])) _
    refine X0.aaload hx (j := (0 : Int32)) (v := (.ref c0)) (by rw [e0]; exact Ar1.1) (State.isArrayOf_alike hZ.alike Ar1.2.1) rfl Ar1.2.2 hin1 hat1 (g := (mkF m 2 #[.val (.ref r0), .val (.int p1), .unset] [(.int (0 : Int32)), (.ref r0)])) rfl rfl (hb hby d_method_2_code_2) _ ?_
    show Steps p.tables e below (s₁.setTop (mkF m 3 #[.val (.ref r0), .val (.int p1), .unset] [(.ref c0)])) _
    refine XS.ifnullNo X0.here hx rfl (hb hby d_method_2_code_3) rfl ?_
    show Steps p.tables e below (s₁.setTop (mkF m 6 #[.val (.ref r0), .val (.int p1), .unset] [])) _
    refine XS.aloadN X0.here hx rfl (hb hby d_method_2_code_6) rfl rfl ?_
    show Steps p.tables e below (s₁.setTop (mkF m 7 #[.val (.ref r0), .val (.int p1), .unset] [(.ref r0)])) _
    refine XS.iconst X0.here hx rfl (hb hby d_method_2_code_7) ?_
    show Steps p.tables e below (s₁.setTop (mkF m 8 #[.val (.ref r0), .val (.int p1), .unset] [(.int (1 : Int32)), (.ref r0)])) _
    refine X0.aaload hx (j := (1 : Int32)) (v := (.ref c1)) (by rw [e0]; exact Ar2.1) (State.isArrayOf_alike hZ.alike Ar2.2.1) rfl Ar2.2.2 hin2 hat2 (g := (mkF m 8 #[.val (.ref r0), .val (.int p1), .unset] [(.int (1 : Int32)), (.ref r0)])) rfl rfl (hb hby d_method_2_code_8) _ ?_
    show Steps p.tables e below (s₁.setTop (mkF m 9 #[.val (.ref r0), .val (.int p1), .unset] [(.ref c1)])) _
    refine XS.ifnullNo X0.here hx rfl (hb hby d_method_2_code_9) rfl ?_
    show Steps p.tables e below (s₁.setTop (mkF m 12 #[.val (.ref r0), .val (.int p1), .unset] [])) _
    refine XS.aloadN X0.here hx rfl (hb hby d_method_2_code_12) rfl rfl ?_
    show Steps p.tables e below (s₁.setTop (mkF m 13 #[.val (.ref r0), .val (.int p1), .unset] [(.ref r0)])) _
    refine XS.iconst X0.here hx rfl (hb hby d_method_2_code_13) ?_
    show Steps p.tables e below (s₁.setTop (mkF m 14 #[.val (.ref r0), .val (.int p1), .unset] [(.int (0 : Int32)), (.ref r0)])) _
    refine X0.aaload hx (j := (0 : Int32)) (v := (.ref c0)) (by rw [e0]; exact Ar3.1) (State.isArrayOf_alike hZ.alike Ar3.2.1) rfl Ar3.2.2 hin3 hat3 (g := (mkF m 14 #[.val (.ref r0), .val (.int p1), .unset] [(.int (0 : Int32)), (.ref r0)])) rfl rfl (hb hby d_method_2_code_14) _ ?_
    show Steps p.tables e below (s₁.setTop (mkF m 15 #[.val (.ref r0), .val (.int p1), .unset] [(.ref c0)])) _
    refine XS.aloadN X0.here hx rfl (hb hby d_method_2_code_15) rfl rfl ?_
    show Steps p.tables e below (s₁.setTop (mkF m 16 #[.val (.ref r0), .val (.int p1), .unset] [(.ref r0), (.ref c0)])) _
    refine XS.iconst X0.here hx rfl (hb hby d_method_2_code_16) ?_
    show Steps p.tables e below (s₁.setTop (mkF m 17 #[.val (.ref r0), .val (.int p1), .unset] [(.int (1 : Int32)), (.ref r0), (.ref c0)])) _
    refine X0.aaload hx (j := (1 : Int32)) (v := (.ref c1)) (by rw [e0]; exact Ar4.1) (State.isArrayOf_alike hZ.alike Ar4.2.1) rfl Ar4.2.2 hin4 hat4 (g := (mkF m 17 #[.val (.ref r0), .val (.int p1), .unset] [(.int (1 : Int32)), (.ref r0), (.ref c0)])) rfl rfl (hb hby d_method_2_code_17) _ ?_
    show Steps p.tables e below (s₁.setTop (mkF m 18 #[.val (.ref r0), .val (.int p1), .unset] [(.ref c1), (.ref c0)])) _
    refine Jvm.RoadKit.acmp (g := (mkF m 18 #[.val (.ref r0), .val (.int p1), .unset] [(.ref c1), (.ref c0)])) X0 hx rfl rfl rfl (pc0 := 18) (pc' := 21) (same := false) rfl (hb hby d_method_2_code_18) rfl (decide_eq_false fun q => hc18 (Value.ref.inj q)) (by decide) (by decide) ?_
    show Steps p.tables e below (s₁.setTop (mkF m 21 #[.val (.ref r0), .val (.int p1), .unset] [])) _
    refine XS.iconst X0.here hx rfl (hb hby d_method_2_code_21) ?_
    show Steps p.tables e below (s₁.setTop (mkF m 22 #[.val (.ref r0), .val (.int p1), .unset] [(.int (1 : Int32))])) _
    refine XS.goto X0.here hx rfl (pc0 := 22) (pc' := 26) rfl (hb hby d_method_2_code_22) (by decide) (by decide) ?_
    show Steps p.tables e below (s₁.setTop (mkF m 26 #[.val (.ref r0), .val (.int p1), .unset] [(.int (1 : Int32))])) _
    refine XS.istoreN X0.here hx rfl (hb hby d_method_2_code_26) rfl (l' := #[.val (.ref r0), .val (.int p1), .val (.int (1 : Int32))]) rfl ?_
    show Steps p.tables e below (s₁.setTop (mkF m 27 #[.val (.ref r0), .val (.int p1), .val (.int (1 : Int32))] [])) _
    refine XS.iloadN X0.here hx rfl (hb hby d_method_2_code_27) rfl ?_
    show Steps p.tables e below (s₁.setTop (mkF m 28 #[.val (.ref r0), .val (.int p1), .val (.int (1 : Int32))] [(.int p1)])) _
    refine XS.iconst X0.here hx rfl (hb hby d_method_2_code_28) ?_
    show Steps p.tables e below (s₁.setTop (mkF m 29 #[.val (.ref r0), .val (.int p1), .val (.int (1 : Int32))] [(.int (2 : Int32)), (.int p1)])) _
    refine XS.icmpNo X0.here hx rfl (hb hby d_method_2_code_29) rfl (tlt hc29).2.2.2 ?_
    show Steps p.tables e below (s₁.setTop (mkF m 32 #[.val (.ref r0), .val (.int p1), .val (.int (1 : Int32))] [])) _
    refine XS.iloadN X0.here hx rfl (hb hby d_method_2_code_32) rfl ?_
    show Steps p.tables e below (s₁.setTop (mkF m 33 #[.val (.ref r0), .val (.int p1), .val (.int (1 : Int32))] [(.int (1 : Int32))])) _
    refine XS.ifNo X0.here hx rfl (hb hby d_method_2_code_33) rfl ((if0 _ _).trans (feq hc33).1) ?_
    show Steps p.tables e below (s₁.setTop (mkF m 36 #[.val (.ref r0), .val (.int p1), .val (.int (1 : Int32))] [])) _
    refine XS.aloadN X0.here hx rfl (hb hby d_method_2_code_36) rfl rfl ?_
    show Steps p.tables e below (s₁.setTop (mkF m 37 #[.val (.ref r0), .val (.int p1), .val (.int (1 : Int32))] [(.ref r0)])) _
    refine XS.iconst X0.here hx rfl (hb hby d_method_2_code_37) ?_
    show Steps p.tables e below (s₁.setTop (mkF m 38 #[.val (.ref r0), .val (.int p1), .val (.int (1 : Int32))] [(.int (2 : Int32)), (.ref r0)])) _
    refine X0.aaload hx (j := (2 : Int32)) (v := (.ref c2)) (by rw [e0]; exact Ar5.1) (State.isArrayOf_alike hZ.alike Ar5.2.1) rfl Ar5.2.2 hin5 hat5 (g := (mkF m 38 #[.val (.ref r0), .val (.int p1), .val (.int (1 : Int32))] [(.int (2 : Int32)), (.ref r0)])) rfl rfl (hb hby d_method_2_code_38) _ ?_
    show Steps p.tables e below (s₁.setTop (mkF m 39 #[.val (.ref r0), .val (.int p1), .val (.int (1 : Int32))] [(.ref c2)])) _
    refine XS.ifnullNo X0.here hx rfl (hb hby d_method_2_code_39) rfl ?_
    show Steps p.tables e below (s₁.setTop (mkF m 42 #[.val (.ref r0), .val (.int p1), .val (.int (1 : Int32))] [])) _
    refine XS.aloadN X0.here hx rfl (hb hby d_method_2_code_42) rfl rfl ?_
    show Steps p.tables e below (s₁.setTop (mkF m 43 #[.val (.ref r0), .val (.int p1), .val (.int (1 : Int32))] [(.ref r0)])) _
    refine XS.iconst X0.here hx rfl (hb hby d_method_2_code_43) ?_
    show Steps p.tables e below (s₁.setTop (mkF m 44 #[.val (.ref r0), .val (.int p1), .val (.int (1 : Int32))] [(.int (2 : Int32)), (.ref r0)])) _
    refine X0.aaload hx (j := (2 : Int32)) (v := (.ref c2)) (by rw [e0]; exact Ar6.1) (State.isArrayOf_alike hZ.alike Ar6.2.1) rfl Ar6.2.2 hin6 hat6 (g := (mkF m 44 #[.val (.ref r0), .val (.int p1), .val (.int (1 : Int32))] [(.int (2 : Int32)), (.ref r0)])) rfl rfl (hb hby d_method_2_code_44) _ ?_
    show Steps p.tables e below (s₁.setTop (mkF m 45 #[.val (.ref r0), .val (.int p1), .val (.int (1 : Int32))] [(.ref c2)])) _
    refine XS.aloadN X0.here hx rfl (hb hby d_method_2_code_45) rfl rfl ?_
    show Steps p.tables e below (s₁.setTop (mkF m 46 #[.val (.ref r0), .val (.int p1), .val (.int (1 : Int32))] [(.ref r0), (.ref c2)])) _
    refine XS.iconst X0.here hx rfl (hb hby d_method_2_code_46) ?_
    show Steps p.tables e below (s₁.setTop (mkF m 47 #[.val (.ref r0), .val (.int p1), .val (.int (1 : Int32))] [(.int (0 : Int32)), (.ref r0), (.ref c2)])) _
    refine X0.aaload hx (j := (0 : Int32)) (v := (.ref c0)) (by rw [e0]; exact Ar7.1) (State.isArrayOf_alike hZ.alike Ar7.2.1) rfl Ar7.2.2 hin7 hat7 (g := (mkF m 47 #[.val (.ref r0), .val (.int p1), .val (.int (1 : Int32))] [(.int (0 : Int32)), (.ref r0), (.ref c2)])) rfl rfl (hb hby d_method_2_code_47) _ ?_
    show Steps p.tables e below (s₁.setTop (mkF m 48 #[.val (.ref r0), .val (.int p1), .val (.int (1 : Int32))] [(.ref c0), (.ref c2)])) _
    refine Jvm.RoadKit.acmp (g := (mkF m 48 #[.val (.ref r0), .val (.int p1), .val (.int (1 : Int32))] [(.ref c0), (.ref c2)])) X0 hx rfl rfl rfl (pc0 := 48) (pc' := 51) (same := false) rfl (hb hby d_method_2_code_48) rfl (decide_eq_false fun q => hc48 (Value.ref.inj q)) (by decide) (by decide) ?_
    show Steps p.tables e below (s₁.setTop (mkF m 51 #[.val (.ref r0), .val (.int p1), .val (.int (1 : Int32))] [])) _
    refine XS.aloadN X0.here hx rfl (hb hby d_method_2_code_51) rfl rfl ?_
    show Steps p.tables e below (s₁.setTop (mkF m 52 #[.val (.ref r0), .val (.int p1), .val (.int (1 : Int32))] [(.ref r0)])) _
    refine XS.iconst X0.here hx rfl (hb hby d_method_2_code_52) ?_
    show Steps p.tables e below (s₁.setTop (mkF m 53 #[.val (.ref r0), .val (.int p1), .val (.int (1 : Int32))] [(.int (2 : Int32)), (.ref r0)])) _
    refine X0.aaload hx (j := (2 : Int32)) (v := (.ref c2)) (by rw [e0]; exact Ar8.1) (State.isArrayOf_alike hZ.alike Ar8.2.1) rfl Ar8.2.2 hin8 hat8 (g := (mkF m 53 #[.val (.ref r0), .val (.int p1), .val (.int (1 : Int32))] [(.int (2 : Int32)), (.ref r0)])) rfl rfl (hb hby d_method_2_code_53) _ ?_
    show Steps p.tables e below (s₁.setTop (mkF m 54 #[.val (.ref r0), .val (.int p1), .val (.int (1 : Int32))] [(.ref c2)])) _
    refine XS.aloadN X0.here hx rfl (hb hby d_method_2_code_54) rfl rfl ?_
    show Steps p.tables e below (s₁.setTop (mkF m 55 #[.val (.ref r0), .val (.int p1), .val (.int (1 : Int32))] [(.ref r0), (.ref c2)])) _
    refine XS.iconst X0.here hx rfl (hb hby d_method_2_code_55) ?_
    show Steps p.tables e below (s₁.setTop (mkF m 56 #[.val (.ref r0), .val (.int p1), .val (.int (1 : Int32))] [(.int (1 : Int32)), (.ref r0), (.ref c2)])) _
    refine X0.aaload hx (j := (1 : Int32)) (v := (.ref c1)) (by rw [e0]; exact Ar9.1) (State.isArrayOf_alike hZ.alike Ar9.2.1) rfl Ar9.2.2 hin9 hat9 (g := (mkF m 56 #[.val (.ref r0), .val (.int p1), .val (.int (1 : Int32))] [(.int (1 : Int32)), (.ref r0), (.ref c2)])) rfl rfl (hb hby d_method_2_code_56) _ ?_
    show Steps p.tables e below (s₁.setTop (mkF m 57 #[.val (.ref r0), .val (.int p1), .val (.int (1 : Int32))] [(.ref c1), (.ref c2)])) _
    refine Jvm.RoadKit.acmp (g := (mkF m 57 #[.val (.ref r0), .val (.int p1), .val (.int (1 : Int32))] [(.ref c1), (.ref c2)])) X0 hx rfl rfl rfl (pc0 := 57) (pc' := 60) (same := false) rfl (hb hby d_method_2_code_57) rfl (decide_eq_false fun q => hc57 (Value.ref.inj q)) (by decide) (by decide) ?_
    show Steps p.tables e below (s₁.setTop (mkF m 60 #[.val (.ref r0), .val (.int p1), .val (.int (1 : Int32))] [])) _
    refine XS.iconst X0.here hx rfl (hb hby d_method_2_code_60) ?_
    show Steps p.tables e below (s₁.setTop (mkF m 61 #[.val (.ref r0), .val (.int p1), .val (.int (1 : Int32))] [(.int (1 : Int32))])) _
    refine XS.goto X0.here hx rfl (pc0 := 61) (pc' := 65) rfl (hb hby d_method_2_code_61) (by decide) (by decide) ?_
    show Steps p.tables e below (s₁.setTop (mkF m 65 #[.val (.ref r0), .val (.int p1), .val (.int (1 : Int32))] [(.int (1 : Int32))])) _
    refine XS.istoreN X0.here hx rfl (hb hby d_method_2_code_65) rfl (l' := #[.val (.ref r0), .val (.int p1), .val (.int (1 : Int32))]) rfl ?_
    show Steps p.tables e below (s₁.setTop (mkF m 66 #[.val (.ref r0), .val (.int p1), .val (.int (1 : Int32))] [])) _
    refine XS.iloadN X0.here hx rfl (hb hby d_method_2_code_66) rfl ?_
    show Steps p.tables e below (s₁.setTop (mkF m 67 #[.val (.ref r0), .val (.int p1), .val (.int (1 : Int32))] [(.int p1)])) _
    refine XS.iconst X0.here hx rfl (hb hby d_method_2_code_67) ?_
    show Steps p.tables e below (s₁.setTop (mkF m 68 #[.val (.ref r0), .val (.int p1), .val (.int (1 : Int32))] [(.int (3 : Int32)), (.int p1)])) _
    refine XS.icmpNo X0.here hx rfl (hb hby d_method_2_code_68) rfl (tlt hc68).2.2.2 ?_
    show Steps p.tables e below (s₁.setTop (mkF m 71 #[.val (.ref r0), .val (.int p1), .val (.int (1 : Int32))] [])) _
    refine XS.iloadN X0.here hx rfl (hb hby d_method_2_code_71) rfl ?_
    show Steps p.tables e below (s₁.setTop (mkF m 72 #[.val (.ref r0), .val (.int p1), .val (.int (1 : Int32))] [(.int (1 : Int32))])) _
    refine XS.ifNo X0.here hx rfl (hb hby d_method_2_code_72) rfl ((if0 _ _).trans (feq hc72).1) ?_
    show Steps p.tables e below (s₁.setTop (mkF m 75 #[.val (.ref r0), .val (.int p1), .val (.int (1 : Int32))] [])) _
    refine XS.aloadN X0.here hx rfl (hb hby d_method_2_code_75) rfl rfl ?_
    show Steps p.tables e below (s₁.setTop (mkF m 76 #[.val (.ref r0), .val (.int p1), .val (.int (1 : Int32))] [(.ref r0)])) _
    refine XS.iconst X0.here hx rfl (hb hby d_method_2_code_76) ?_
    show Steps p.tables e below (s₁.setTop (mkF m 77 #[.val (.ref r0), .val (.int p1), .val (.int (1 : Int32))] [(.int (3 : Int32)), (.ref r0)])) _
    refine X0.aaload hx (j := (3 : Int32)) (v := (.ref c3)) (by rw [e0]; exact Ar10.1) (State.isArrayOf_alike hZ.alike Ar10.2.1) rfl Ar10.2.2 hin10 hat10 (g := (mkF m 77 #[.val (.ref r0), .val (.int p1), .val (.int (1 : Int32))] [(.int (3 : Int32)), (.ref r0)])) rfl rfl (hb hby d_method_2_code_77) _ ?_
    show Steps p.tables e below (s₁.setTop (mkF m 78 #[.val (.ref r0), .val (.int p1), .val (.int (1 : Int32))] [(.ref c3)])) _
    refine XS.ifnullNo X0.here hx rfl (hb hby d_method_2_code_78) rfl ?_
    show Steps p.tables e below (s₁.setTop (mkF m 81 #[.val (.ref r0), .val (.int p1), .val (.int (1 : Int32))] [])) _
    refine XS.aloadN X0.here hx rfl (hb hby d_method_2_code_81) rfl rfl ?_
    show Steps p.tables e below (s₁.setTop (mkF m 82 #[.val (.ref r0), .val (.int p1), .val (.int (1 : Int32))] [(.ref r0)])) _
    refine XS.iconst X0.here hx rfl (hb hby d_method_2_code_82) ?_
    show Steps p.tables e below (s₁.setTop (mkF m 83 #[.val (.ref r0), .val (.int p1), .val (.int (1 : Int32))] [(.int (3 : Int32)), (.ref r0)])) _
    refine X0.aaload hx (j := (3 : Int32)) (v := (.ref c3)) (by rw [e0]; exact Ar11.1) (State.isArrayOf_alike hZ.alike Ar11.2.1) rfl Ar11.2.2 hin11 hat11 (g := (mkF m 83 #[.val (.ref r0), .val (.int p1), .val (.int (1 : Int32))] [(.int (3 : Int32)), (.ref r0)])) rfl rfl (hb hby d_method_2_code_83) _ ?_
    show Steps p.tables e below (s₁.setTop (mkF m 84 #[.val (.ref r0), .val (.int p1), .val (.int (1 : Int32))] [(.ref c3)])) _
    refine XS.aloadN X0.here hx rfl (hb hby d_method_2_code_84) rfl rfl ?_
    show Steps p.tables e below (s₁.setTop (mkF m 85 #[.val (.ref r0), .val (.int p1), .val (.int (1 : Int32))] [(.ref r0), (.ref c3)])) _
    refine XS.iconst X0.here hx rfl (hb hby d_method_2_code_85) ?_
    show Steps p.tables e below (s₁.setTop (mkF m 86 #[.val (.ref r0), .val (.int p1), .val (.int (1 : Int32))] [(.int (0 : Int32)), (.ref r0), (.ref c3)])) _
    refine X0.aaload hx (j := (0 : Int32)) (v := (.ref c0)) (by rw [e0]; exact Ar12.1) (State.isArrayOf_alike hZ.alike Ar12.2.1) rfl Ar12.2.2 hin12 hat12 (g := (mkF m 86 #[.val (.ref r0), .val (.int p1), .val (.int (1 : Int32))] [(.int (0 : Int32)), (.ref r0), (.ref c3)])) rfl rfl (hb hby d_method_2_code_86) _ ?_
    show Steps p.tables e below (s₁.setTop (mkF m 87 #[.val (.ref r0), .val (.int p1), .val (.int (1 : Int32))] [(.ref c0), (.ref c3)])) _
    refine Jvm.RoadKit.acmp (g := (mkF m 87 #[.val (.ref r0), .val (.int p1), .val (.int (1 : Int32))] [(.ref c0), (.ref c3)])) X0 hx rfl rfl rfl (pc0 := 87) (pc' := 90) (same := false) rfl (hb hby d_method_2_code_87) rfl (decide_eq_false fun q => hc87 (Value.ref.inj q)) (by decide) (by decide) ?_
    show Steps p.tables e below (s₁.setTop (mkF m 90 #[.val (.ref r0), .val (.int p1), .val (.int (1 : Int32))] [])) _
    refine XS.aloadN X0.here hx rfl (hb hby d_method_2_code_90) rfl rfl ?_
    show Steps p.tables e below (s₁.setTop (mkF m 91 #[.val (.ref r0), .val (.int p1), .val (.int (1 : Int32))] [(.ref r0)])) _
    refine XS.iconst X0.here hx rfl (hb hby d_method_2_code_91) ?_
    show Steps p.tables e below (s₁.setTop (mkF m 92 #[.val (.ref r0), .val (.int p1), .val (.int (1 : Int32))] [(.int (3 : Int32)), (.ref r0)])) _
    refine X0.aaload hx (j := (3 : Int32)) (v := (.ref c3)) (by rw [e0]; exact Ar13.1) (State.isArrayOf_alike hZ.alike Ar13.2.1) rfl Ar13.2.2 hin13 hat13 (g := (mkF m 92 #[.val (.ref r0), .val (.int p1), .val (.int (1 : Int32))] [(.int (3 : Int32)), (.ref r0)])) rfl rfl (hb hby d_method_2_code_92) _ ?_
    show Steps p.tables e below (s₁.setTop (mkF m 93 #[.val (.ref r0), .val (.int p1), .val (.int (1 : Int32))] [(.ref c3)])) _
    refine XS.aloadN X0.here hx rfl (hb hby d_method_2_code_93) rfl rfl ?_
    show Steps p.tables e below (s₁.setTop (mkF m 94 #[.val (.ref r0), .val (.int p1), .val (.int (1 : Int32))] [(.ref r0), (.ref c3)])) _
    refine XS.iconst X0.here hx rfl (hb hby d_method_2_code_94) ?_
    show Steps p.tables e below (s₁.setTop (mkF m 95 #[.val (.ref r0), .val (.int p1), .val (.int (1 : Int32))] [(.int (1 : Int32)), (.ref r0), (.ref c3)])) _
    refine X0.aaload hx (j := (1 : Int32)) (v := (.ref c1)) (by rw [e0]; exact Ar14.1) (State.isArrayOf_alike hZ.alike Ar14.2.1) rfl Ar14.2.2 hin14 hat14 (g := (mkF m 95 #[.val (.ref r0), .val (.int p1), .val (.int (1 : Int32))] [(.int (1 : Int32)), (.ref r0), (.ref c3)])) rfl rfl (hb hby d_method_2_code_95) _ ?_
    show Steps p.tables e below (s₁.setTop (mkF m 96 #[.val (.ref r0), .val (.int p1), .val (.int (1 : Int32))] [(.ref c1), (.ref c3)])) _
    refine Jvm.RoadKit.acmp (g := (mkF m 96 #[.val (.ref r0), .val (.int p1), .val (.int (1 : Int32))] [(.ref c1), (.ref c3)])) X0 hx rfl rfl rfl (pc0 := 96) (pc' := 99) (same := false) rfl (hb hby d_method_2_code_96) rfl (decide_eq_false fun q => hc96 (Value.ref.inj q)) (by decide) (by decide) ?_
    show Steps p.tables e below (s₁.setTop (mkF m 99 #[.val (.ref r0), .val (.int p1), .val (.int (1 : Int32))] [])) _
    refine XS.aloadN X0.here hx rfl (hb hby d_method_2_code_99) rfl rfl ?_
    show Steps p.tables e below (s₁.setTop (mkF m 100 #[.val (.ref r0), .val (.int p1), .val (.int (1 : Int32))] [(.ref r0)])) _
    refine XS.iconst X0.here hx rfl (hb hby d_method_2_code_100) ?_
    show Steps p.tables e below (s₁.setTop (mkF m 101 #[.val (.ref r0), .val (.int p1), .val (.int (1 : Int32))] [(.int (3 : Int32)), (.ref r0)])) _
    refine X0.aaload hx (j := (3 : Int32)) (v := (.ref c3)) (by rw [e0]; exact Ar15.1) (State.isArrayOf_alike hZ.alike Ar15.2.1) rfl Ar15.2.2 hin15 hat15 (g := (mkF m 101 #[.val (.ref r0), .val (.int p1), .val (.int (1 : Int32))] [(.int (3 : Int32)), (.ref r0)])) rfl rfl (hb hby d_method_2_code_101) _ ?_
    show Steps p.tables e below (s₁.setTop (mkF m 102 #[.val (.ref r0), .val (.int p1), .val (.int (1 : Int32))] [(.ref c3)])) _
    refine XS.aloadN X0.here hx rfl (hb hby d_method_2_code_102) rfl rfl ?_
    show Steps p.tables e below (s₁.setTop (mkF m 103 #[.val (.ref r0), .val (.int p1), .val (.int (1 : Int32))] [(.ref r0), (.ref c3)])) _
    refine XS.iconst X0.here hx rfl (hb hby d_method_2_code_103) ?_
    show Steps p.tables e below (s₁.setTop (mkF m 104 #[.val (.ref r0), .val (.int p1), .val (.int (1 : Int32))] [(.int (2 : Int32)), (.ref r0), (.ref c3)])) _
    refine X0.aaload hx (j := (2 : Int32)) (v := (.ref c2)) (by rw [e0]; exact Ar16.1) (State.isArrayOf_alike hZ.alike Ar16.2.1) rfl Ar16.2.2 hin16 hat16 (g := (mkF m 104 #[.val (.ref r0), .val (.int p1), .val (.int (1 : Int32))] [(.int (2 : Int32)), (.ref r0), (.ref c3)])) rfl rfl (hb hby d_method_2_code_104) _ ?_
    show Steps p.tables e below (s₁.setTop (mkF m 105 #[.val (.ref r0), .val (.int p1), .val (.int (1 : Int32))] [(.ref c2), (.ref c3)])) _
    refine Jvm.RoadKit.acmp (g := (mkF m 105 #[.val (.ref r0), .val (.int p1), .val (.int (1 : Int32))] [(.ref c2), (.ref c3)])) X0 hx rfl rfl rfl (pc0 := 105) (pc' := 108) (same := false) rfl (hb hby d_method_2_code_105) rfl (decide_eq_false fun q => hc105 (Value.ref.inj q)) (by decide) (by decide) ?_
    show Steps p.tables e below (s₁.setTop (mkF m 108 #[.val (.ref r0), .val (.int p1), .val (.int (1 : Int32))] [])) _
    refine XS.iconst X0.here hx rfl (hb hby d_method_2_code_108) ?_
    show Steps p.tables e below (s₁.setTop (mkF m 109 #[.val (.ref r0), .val (.int p1), .val (.int (1 : Int32))] [(.int (1 : Int32))])) _
    refine XS.goto X0.here hx rfl (pc0 := 109) (pc' := 113) rfl (hb hby d_method_2_code_109) (by decide) (by decide) ?_
    show Steps p.tables e below (s₁.setTop (mkF m 113 #[.val (.ref r0), .val (.int p1), .val (.int (1 : Int32))] [(.int (1 : Int32))])) _
    refine XS.istoreN X0.here hx rfl (hb hby d_method_2_code_113) rfl (l' := #[.val (.ref r0), .val (.int p1), .val (.int (1 : Int32))]) rfl ?_
    show Steps p.tables e below (s₁.setTop (mkF m 114 #[.val (.ref r0), .val (.int p1), .val (.int (1 : Int32))] [])) _
    refine XS.iloadN X0.here hx rfl (hb hby d_method_2_code_114) rfl ?_
    show Steps p.tables e below (s₁.setTop (mkF m 115 #[.val (.ref r0), .val (.int p1), .val (.int (1 : Int32))] [(.int p1)])) _
    refine XS.iconst X0.here hx rfl (hb hby d_method_2_code_115) ?_
    show Steps p.tables e below (s₁.setTop (mkF m 116 #[.val (.ref r0), .val (.int p1), .val (.int (1 : Int32))] [(.int (4 : Int32)), (.int p1)])) _
    refine XS.icmpNo X0.here hx rfl (hb hby d_method_2_code_116) rfl (tlt hc116).2.2.2 ?_
    show Steps p.tables e below (s₁.setTop (mkF m 119 #[.val (.ref r0), .val (.int p1), .val (.int (1 : Int32))] [])) _
    refine XS.iloadN X0.here hx rfl (hb hby d_method_2_code_119) rfl ?_
    show Steps p.tables e below (s₁.setTop (mkF m 120 #[.val (.ref r0), .val (.int p1), .val (.int (1 : Int32))] [(.int (1 : Int32))])) _
    refine XS.ifNo X0.here hx rfl (hb hby d_method_2_code_120) rfl ((if0 _ _).trans (feq hc120).1) ?_
    show Steps p.tables e below (s₁.setTop (mkF m 123 #[.val (.ref r0), .val (.int p1), .val (.int (1 : Int32))] [])) _
    refine XS.aloadN X0.here hx rfl (hb hby d_method_2_code_123) rfl rfl ?_
    show Steps p.tables e below (s₁.setTop (mkF m 124 #[.val (.ref r0), .val (.int p1), .val (.int (1 : Int32))] [(.ref r0)])) _
    refine XS.iconst X0.here hx rfl (hb hby d_method_2_code_124) ?_
    show Steps p.tables e below (s₁.setTop (mkF m 125 #[.val (.ref r0), .val (.int p1), .val (.int (1 : Int32))] [(.int (4 : Int32)), (.ref r0)])) _
    refine X0.aaload hx (j := (4 : Int32)) (v := (.ref c4)) (by rw [e0]; exact Ar17.1) (State.isArrayOf_alike hZ.alike Ar17.2.1) rfl Ar17.2.2 hin17 hat17 (g := (mkF m 125 #[.val (.ref r0), .val (.int p1), .val (.int (1 : Int32))] [(.int (4 : Int32)), (.ref r0)])) rfl rfl (hb hby d_method_2_code_125) _ ?_
    show Steps p.tables e below (s₁.setTop (mkF m 126 #[.val (.ref r0), .val (.int p1), .val (.int (1 : Int32))] [(.ref c4)])) _
    refine XS.ifnullNo X0.here hx rfl (hb hby d_method_2_code_126) rfl ?_
    show Steps p.tables e below (s₁.setTop (mkF m 129 #[.val (.ref r0), .val (.int p1), .val (.int (1 : Int32))] [])) _
    refine XS.aloadN X0.here hx rfl (hb hby d_method_2_code_129) rfl rfl ?_
    show Steps p.tables e below (s₁.setTop (mkF m 130 #[.val (.ref r0), .val (.int p1), .val (.int (1 : Int32))] [(.ref r0)])) _
    refine XS.iconst X0.here hx rfl (hb hby d_method_2_code_130) ?_
    show Steps p.tables e below (s₁.setTop (mkF m 131 #[.val (.ref r0), .val (.int p1), .val (.int (1 : Int32))] [(.int (4 : Int32)), (.ref r0)])) _
    refine X0.aaload hx (j := (4 : Int32)) (v := (.ref c4)) (by rw [e0]; exact Ar18.1) (State.isArrayOf_alike hZ.alike Ar18.2.1) rfl Ar18.2.2 hin18 hat18 (g := (mkF m 131 #[.val (.ref r0), .val (.int p1), .val (.int (1 : Int32))] [(.int (4 : Int32)), (.ref r0)])) rfl rfl (hb hby d_method_2_code_131) _ ?_
    show Steps p.tables e below (s₁.setTop (mkF m 132 #[.val (.ref r0), .val (.int p1), .val (.int (1 : Int32))] [(.ref c4)])) _
    refine XS.aloadN X0.here hx rfl (hb hby d_method_2_code_132) rfl rfl ?_
    show Steps p.tables e below (s₁.setTop (mkF m 133 #[.val (.ref r0), .val (.int p1), .val (.int (1 : Int32))] [(.ref r0), (.ref c4)])) _
    refine XS.iconst X0.here hx rfl (hb hby d_method_2_code_133) ?_
    show Steps p.tables e below (s₁.setTop (mkF m 134 #[.val (.ref r0), .val (.int p1), .val (.int (1 : Int32))] [(.int (0 : Int32)), (.ref r0), (.ref c4)])) _
    refine X0.aaload hx (j := (0 : Int32)) (v := (.ref c0)) (by rw [e0]; exact Ar19.1) (State.isArrayOf_alike hZ.alike Ar19.2.1) rfl Ar19.2.2 hin19 hat19 (g := (mkF m 134 #[.val (.ref r0), .val (.int p1), .val (.int (1 : Int32))] [(.int (0 : Int32)), (.ref r0), (.ref c4)])) rfl rfl (hb hby d_method_2_code_134) _ ?_
    show Steps p.tables e below (s₁.setTop (mkF m 135 #[.val (.ref r0), .val (.int p1), .val (.int (1 : Int32))] [(.ref c0), (.ref c4)])) _
    refine Jvm.RoadKit.acmp (g := (mkF m 135 #[.val (.ref r0), .val (.int p1), .val (.int (1 : Int32))] [(.ref c0), (.ref c4)])) X0 hx rfl rfl rfl (pc0 := 135) (pc' := 138) (same := false) rfl (hb hby d_method_2_code_135) rfl (decide_eq_false fun q => hc135 (Value.ref.inj q)) (by decide) (by decide) ?_
    show Steps p.tables e below (s₁.setTop (mkF m 138 #[.val (.ref r0), .val (.int p1), .val (.int (1 : Int32))] [])) _
    refine XS.aloadN X0.here hx rfl (hb hby d_method_2_code_138) rfl rfl ?_
    show Steps p.tables e below (s₁.setTop (mkF m 139 #[.val (.ref r0), .val (.int p1), .val (.int (1 : Int32))] [(.ref r0)])) _
    refine XS.iconst X0.here hx rfl (hb hby d_method_2_code_139) ?_
    show Steps p.tables e below (s₁.setTop (mkF m 140 #[.val (.ref r0), .val (.int p1), .val (.int (1 : Int32))] [(.int (4 : Int32)), (.ref r0)])) _
    refine X0.aaload hx (j := (4 : Int32)) (v := (.ref c4)) (by rw [e0]; exact Ar20.1) (State.isArrayOf_alike hZ.alike Ar20.2.1) rfl Ar20.2.2 hin20 hat20 (g := (mkF m 140 #[.val (.ref r0), .val (.int p1), .val (.int (1 : Int32))] [(.int (4 : Int32)), (.ref r0)])) rfl rfl (hb hby d_method_2_code_140) _ ?_
    show Steps p.tables e below (s₁.setTop (mkF m 141 #[.val (.ref r0), .val (.int p1), .val (.int (1 : Int32))] [(.ref c4)])) _
    refine XS.aloadN X0.here hx rfl (hb hby d_method_2_code_141) rfl rfl ?_
    show Steps p.tables e below (s₁.setTop (mkF m 142 #[.val (.ref r0), .val (.int p1), .val (.int (1 : Int32))] [(.ref r0), (.ref c4)])) _
    refine XS.iconst X0.here hx rfl (hb hby d_method_2_code_142) ?_
    show Steps p.tables e below (s₁.setTop (mkF m 143 #[.val (.ref r0), .val (.int p1), .val (.int (1 : Int32))] [(.int (1 : Int32)), (.ref r0), (.ref c4)])) _
    refine X0.aaload hx (j := (1 : Int32)) (v := (.ref c1)) (by rw [e0]; exact Ar21.1) (State.isArrayOf_alike hZ.alike Ar21.2.1) rfl Ar21.2.2 hin21 hat21 (g := (mkF m 143 #[.val (.ref r0), .val (.int p1), .val (.int (1 : Int32))] [(.int (1 : Int32)), (.ref r0), (.ref c4)])) rfl rfl (hb hby d_method_2_code_143) _ ?_
    show Steps p.tables e below (s₁.setTop (mkF m 144 #[.val (.ref r0), .val (.int p1), .val (.int (1 : Int32))] [(.ref c1), (.ref c4)])) _
    refine Jvm.RoadKit.acmp (g := (mkF m 144 #[.val (.ref r0), .val (.int p1), .val (.int (1 : Int32))] [(.ref c1), (.ref c4)])) X0 hx rfl rfl rfl (pc0 := 144) (pc' := 147) (same := false) rfl (hb hby d_method_2_code_144) rfl (decide_eq_false fun q => hc144 (Value.ref.inj q)) (by decide) (by decide) ?_
    show Steps p.tables e below (s₁.setTop (mkF m 147 #[.val (.ref r0), .val (.int p1), .val (.int (1 : Int32))] [])) _
    refine XS.aloadN X0.here hx rfl (hb hby d_method_2_code_147) rfl rfl ?_
    show Steps p.tables e below (s₁.setTop (mkF m 148 #[.val (.ref r0), .val (.int p1), .val (.int (1 : Int32))] [(.ref r0)])) _
    refine XS.iconst X0.here hx rfl (hb hby d_method_2_code_148) ?_
    show Steps p.tables e below (s₁.setTop (mkF m 149 #[.val (.ref r0), .val (.int p1), .val (.int (1 : Int32))] [(.int (4 : Int32)), (.ref r0)])) _
    refine X0.aaload hx (j := (4 : Int32)) (v := (.ref c4)) (by rw [e0]; exact Ar22.1) (State.isArrayOf_alike hZ.alike Ar22.2.1) rfl Ar22.2.2 hin22 hat22 (g := (mkF m 149 #[.val (.ref r0), .val (.int p1), .val (.int (1 : Int32))] [(.int (4 : Int32)), (.ref r0)])) rfl rfl (hb hby d_method_2_code_149) _ ?_
    show Steps p.tables e below (s₁.setTop (mkF m 150 #[.val (.ref r0), .val (.int p1), .val (.int (1 : Int32))] [(.ref c4)])) _
    refine XS.aloadN X0.here hx rfl (hb hby d_method_2_code_150) rfl rfl ?_
    show Steps p.tables e below (s₁.setTop (mkF m 151 #[.val (.ref r0), .val (.int p1), .val (.int (1 : Int32))] [(.ref r0), (.ref c4)])) _
    refine XS.iconst X0.here hx rfl (hb hby d_method_2_code_151) ?_
    show Steps p.tables e below (s₁.setTop (mkF m 152 #[.val (.ref r0), .val (.int p1), .val (.int (1 : Int32))] [(.int (2 : Int32)), (.ref r0), (.ref c4)])) _
    refine X0.aaload hx (j := (2 : Int32)) (v := (.ref c2)) (by rw [e0]; exact Ar23.1) (State.isArrayOf_alike hZ.alike Ar23.2.1) rfl Ar23.2.2 hin23 hat23 (g := (mkF m 152 #[.val (.ref r0), .val (.int p1), .val (.int (1 : Int32))] [(.int (2 : Int32)), (.ref r0), (.ref c4)])) rfl rfl (hb hby d_method_2_code_152) _ ?_
    show Steps p.tables e below (s₁.setTop (mkF m 153 #[.val (.ref r0), .val (.int p1), .val (.int (1 : Int32))] [(.ref c2), (.ref c4)])) _
    refine Jvm.RoadKit.acmp (g := (mkF m 153 #[.val (.ref r0), .val (.int p1), .val (.int (1 : Int32))] [(.ref c2), (.ref c4)])) X0 hx rfl rfl rfl (pc0 := 153) (pc' := 156) (same := false) rfl (hb hby d_method_2_code_153) rfl (decide_eq_false fun q => hc153 (Value.ref.inj q)) (by decide) (by decide) ?_
    show Steps p.tables e below (s₁.setTop (mkF m 156 #[.val (.ref r0), .val (.int p1), .val (.int (1 : Int32))] [])) _
    refine XS.aloadN X0.here hx rfl (hb hby d_method_2_code_156) rfl rfl ?_
    show Steps p.tables e below (s₁.setTop (mkF m 157 #[.val (.ref r0), .val (.int p1), .val (.int (1 : Int32))] [(.ref r0)])) _
    refine XS.iconst X0.here hx rfl (hb hby d_method_2_code_157) ?_
    show Steps p.tables e below (s₁.setTop (mkF m 158 #[.val (.ref r0), .val (.int p1), .val (.int (1 : Int32))] [(.int (4 : Int32)), (.ref r0)])) _
    refine X0.aaload hx (j := (4 : Int32)) (v := (.ref c4)) (by rw [e0]; exact Ar24.1) (State.isArrayOf_alike hZ.alike Ar24.2.1) rfl Ar24.2.2 hin24 hat24 (g := (mkF m 158 #[.val (.ref r0), .val (.int p1), .val (.int (1 : Int32))] [(.int (4 : Int32)), (.ref r0)])) rfl rfl (hb hby d_method_2_code_158) _ ?_
    show Steps p.tables e below (s₁.setTop (mkF m 159 #[.val (.ref r0), .val (.int p1), .val (.int (1 : Int32))] [(.ref c4)])) _
    refine XS.aloadN X0.here hx rfl (hb hby d_method_2_code_159) rfl rfl ?_
    show Steps p.tables e below (s₁.setTop (mkF m 160 #[.val (.ref r0), .val (.int p1), .val (.int (1 : Int32))] [(.ref r0), (.ref c4)])) _
    refine XS.iconst X0.here hx rfl (hb hby d_method_2_code_160) ?_
    show Steps p.tables e below (s₁.setTop (mkF m 161 #[.val (.ref r0), .val (.int p1), .val (.int (1 : Int32))] [(.int (3 : Int32)), (.ref r0), (.ref c4)])) _
    refine X0.aaload hx (j := (3 : Int32)) (v := (.ref c3)) (by rw [e0]; exact Ar25.1) (State.isArrayOf_alike hZ.alike Ar25.2.1) rfl Ar25.2.2 hin25 hat25 (g := (mkF m 161 #[.val (.ref r0), .val (.int p1), .val (.int (1 : Int32))] [(.int (3 : Int32)), (.ref r0), (.ref c4)])) rfl rfl (hb hby d_method_2_code_161) _ ?_
    show Steps p.tables e below (s₁.setTop (mkF m 162 #[.val (.ref r0), .val (.int p1), .val (.int (1 : Int32))] [(.ref c3), (.ref c4)])) _
    refine Jvm.RoadKit.acmp (g := (mkF m 162 #[.val (.ref r0), .val (.int p1), .val (.int (1 : Int32))] [(.ref c3), (.ref c4)])) X0 hx rfl rfl rfl (pc0 := 162) (pc' := 165) (same := false) rfl (hb hby d_method_2_code_162) rfl (decide_eq_false fun q => hc162 (Value.ref.inj q)) (by decide) (by decide) ?_
    show Steps p.tables e below (s₁.setTop (mkF m 165 #[.val (.ref r0), .val (.int p1), .val (.int (1 : Int32))] [])) _
    refine XS.iconst X0.here hx rfl (hb hby d_method_2_code_165) ?_
    show Steps p.tables e below (s₁.setTop (mkF m 166 #[.val (.ref r0), .val (.int p1), .val (.int (1 : Int32))] [(.int (1 : Int32))])) _
    refine XS.goto X0.here hx rfl (pc0 := 166) (pc' := 170) rfl (hb hby d_method_2_code_166) (by decide) (by decide) ?_
    show Steps p.tables e below (s₁.setTop (mkF m 170 #[.val (.ref r0), .val (.int p1), .val (.int (1 : Int32))] [(.int (1 : Int32))])) _
    refine XS.istoreN X0.here hx rfl (hb hby d_method_2_code_170) rfl (l' := #[.val (.ref r0), .val (.int p1), .val (.int (1 : Int32))]) rfl ?_
    show Steps p.tables e below (s₁.setTop (mkF m 171 #[.val (.ref r0), .val (.int p1), .val (.int (1 : Int32))] [])) _
    refine XS.iloadN X0.here hx rfl (hb hby d_method_2_code_171) rfl ?_
    show Steps p.tables e below (s₁.setTop (mkF m 172 #[.val (.ref r0), .val (.int p1), .val (.int (1 : Int32))] [(.int (1 : Int32))])) _
    exact retN X0 hx (t := .boolean) Bd.returns (by simp) (hb hby d_method_2_code_172) hr
  ·
    show Q_rmD5 Z r0 p1 kR c0 c1 c2 c3 c4 h0 n0 _ s₁.heap _
    rw [e0]
    exact ⟨rfl, N0, rfl⟩
theorem pd_5 : parseMethodDescriptor "(JJ)J" = some ⟨[.long, .long], some .long⟩ := by decide +kernel
theorem pd_6 : parseMethodDescriptor "(JIJ)V" = some ⟨[.long, .int, .long], none⟩ := by decide +kernel
theorem pd_7 : parseMethodDescriptor "(J)Lcom/example/lachesis/lachesis/timer/Bucket;" = some ⟨[.long], some (.object "com/example/lachesis/lachesis/timer/Bucket")⟩ := by decide +kernel
theorem pd_8 : parseMethodDescriptor "([Lcom/example/lachesis/lachesis/timer/Bucket;I)Z" = some ⟨[(.array (.object "com/example/lachesis/lachesis/timer/Bucket")), .int], some .boolean⟩ := by decide +kernel
theorem ef_rm0 (m : MethodId) (x0 : Int64) (x1 : Int32) (x2 : Int64) (x3 : Int64) (x4 : Int32) : entryFrame m #[(.long x0), (.int x1), (.long x2), (.long x3), (.int x4)] maxLocals = mkF m 0 #[.val (.long x0), .second, .val (.int x1), .val (.long x2), .second, .val (.long x3), .second, .val (.int x4), .unset, .unset, .unset, .unset, .unset, .unset, .unset, .unset, .unset, .unset, .unset, .unset, .unset, .unset, .unset, .unset, .unset, .unset] [] := by first | (simp [entryFrame, mkF, argsToLocals, Value.category, maxLocals]; done) | rfl
def Q_rm0 (Z : State) (q0 : Int64) (p1 : Int32) (q2 : Int64) (q3 : Int64) (p4 : Int32) (w_NONE : Addr) (h0 : Heap) (n0 : Nat) (v : Option Value) (h : Heap) (L : List Loc) : Prop := v = some (.int 1) ∧ Fr n0 L
set_option maxRecDepth 65536 in
set_option maxHeartbeats 40000000 in
theorem rm0 (l : Launch) (Z : State) (a0 : Array Value) (hw : ∀ d ∈ tables_1, d.before a0 Z = true) (ws : List Jvm.Cond) (q0 : Int64) (p1 : Int32) (q2 : Int64) (q3 : Int64) (p4 : Int32) (w_NONE : Addr) (h0 : Heap) (n0 : Nat) (Z0 : n0 ≤ h0.size) (S_NONE : Sta Z Z.heap "com/example/lachesis/lachesis/timer/Bucket" "NONE" "[Lcom/example/lachesis/lachesis/timer/TimerEntry;" (.ref w_NONE)) (OLD : Old Z n0 h0) :
    MetFree l x (head1 (Jvm.Cond.code x code maxLocals ret :: ws) room_1) (fun a U => a = #[(.long q0), (.int p1), (.long q2), (.long q3), (.int p4)] ∧ Z.Warmed39 U.vm ∧ U.heap = h0) (fun _ _ _ _ _ => True) (fun _ U o U' => ∃ v L, o = .returned v ∧ Q_rm0 Z q0 p1 q2 q3 p4 w_NONE h0 n0 v U'.heap L ∧ FrameEnd U o U' L room_1.cells room_1.slots) := by
  refine MetFree.of_bodySF (plainFor_of_name pn_4) hisR ?_
  intro p e s m args below meth c s₁ Bd hml0 hP hK
  obtain ⟨rfl, hZ, hh⟩ := hP
  have hx := Bd.exec
  have hby := Bd.bytes
  have hml : c.maxLocals = 26 := hml0
  have hown : s.vm.findClass "com/example/lachesis/lachesis/timer/WheelBucketPinLaw" = some m.cls := findClass_of_methodNamed Bd.named
  have hnm := (name_of_methodNamed Bd.named Bd.method).1
  have hlk : meth.locks = false := by first | exact BodyLoose.notSynchronized (by assumption) | exact Body.notSynchronized (by assumption) | assumption
  have X0 : Stand p l e room_1 s m #[(.long q0), (.int p1), (.long q2), (.long q3), (.int p4)] below meth c s₁ [] 0 0 := Stand.of_body Bd
  have e0 : s₁.heap = h0 := by rw [← hh, Bd.state]; rfl
  have N0 := Fr.nil n0
  have Zn := Z0
  have K0 : ∀ t, Steps p.tables e below (s₁.setTop (mkF m 0 #[.val (.long q0), .second, .val (.int p1), .val (.long q2), .second, .val (.long q3), .second, .val (.int p4), .unset, .unset, .unset, .unset, .unset, .unset, .unset, .unset, .unset, .unset, .unset, .unset, .unset, .unset, .unset, .unset, .unset, .unset] [])) t → Steps p.tables e below (s₁.setTop (entryFrame m #[(.long q0), (.int p1), (.long q2), (.long q3), (.int p4)] maxLocals)) t := fun t k => castTop (ef_rm0 m q0 p1 q2 q3 p4) k
  obtain ⟨_, _, ⟨T1, L1, k1, n1⟩, -, X1, ⟨Lc1, hQ1, l1, y1, z1⟩, st1⟩ := Jvm.LawKit.callS X0 hx (y := (⟨"java/lang/Math", "max", "(JJ)J"⟩ : MethodName)) hown (mvT hZ (hw _ (List.mem_of_getElem? (i := 1) rfl))) (mvT hZ (hw _ (List.mem_of_getElem? (i := 2) rfl))) (mvT hZ (hw _ (List.mem_of_getElem? (i := 3) rfl))) (mvT hZ (hw _ (List.mem_of_getElem? (i := 4) rfl))) (by decide) (backOf (W := 0) (rm_max l Z a0 hw [] (1 : Int64) (q0 &&& (9223372036854775807 : Int64))  h0 n0 Zn ) hZ (hw _ (List.mem_of_getElem? (i := 4) rfl)) (hw _ (List.mem_of_getElem? (i := 3) rfl)) (by decide) (by decide)) (g := (mkF m 6 #[.val (.long q0), .second, .val (.int p1), .val (.long q2), .second, .val (.long q3), .second, .val (.int p4), .unset, .unset, .unset, .unset, .unset, .unset, .unset, .unset, .unset, .unset, .unset, .unset, .unset, .unset, .unset, .unset, .unset, .unset] [(.long (q0 &&& (9223372036854775807 : Int64))), (.long (1 : Int64))])) rfl (by rw [hml]; rfl) (argsL := [(.long (1 : Int64)), (.long (q0 &&& (9223372036854775807 : Int64)))]) (rest := []) (lenOf pd_5 rfl) rfl (by show 2 * 0 + _ ≤ _; exact Nat.le_of_eq rfl) (hb hby at_6) (fun _ _ => ⟨rfl, e0, (by decide : 0 + 0 ≤ _), (by decide : 0 + 0 ≤ _)⟩)
  dsimp only [Pt.U, Pt.locs, Pt.cells, Pt.slots] at X1 l1 y1 z1 st1 hQ1
  subst l1 y1 z1
  obtain ⟨rfl, N1q, e1q⟩ := hQ1
  have N1 := Fr.app N0 N1q
  have e1 : T1.heap = h0 := e1q
  have K2 : ∀ t, Steps p.tables e below (T1.setTop (mkF m 11 #[.val (.long q0), .second, .val (.int p1), .val (.long q2), .second, .val (.long q3), .second, .val (.int p4), .val (.long (own_lmax (1 : Int64) (q0 &&& (9223372036854775807 : Int64)))), .second, .unset, .unset, .unset, .unset, .unset, .unset, .unset, .unset, .unset, .unset, .unset, .unset, .unset, .unset, .unset, .unset] [])) t → Steps p.tables e below (s₁.setTop (entryFrame m #[(.long q0), (.int p1), (.long q2), (.long q3), (.int p4)] maxLocals)) t := by
    intro t kt
    refine K0 t ?_
    show Steps p.tables e below (s₁.setTop (mkF m 0 #[.val (.long q0), .second, .val (.int p1), .val (.long q2), .second, .val (.long q3), .second, .val (.int p4), .unset, .unset, .unset, .unset, .unset, .unset, .unset, .unset, .unset, .unset, .unset, .unset, .unset, .unset, .unset, .unset, .unset, .unset] [])) _
    refine XS.lconst X0.here hx rfl (hb hby at_0) ?_
    show Steps p.tables e below (s₁.setTop (mkF m 1 #[.val (.long q0), .second, .val (.int p1), .val (.long q2), .second, .val (.long q3), .second, .val (.int p4), .unset, .unset, .unset, .unset, .unset, .unset, .unset, .unset, .unset, .unset, .unset, .unset, .unset, .unset, .unset, .unset, .unset, .unset] [(.long (1 : Int64))])) _
    refine XS.lloadN X0.here hx rfl (hb hby at_1) rfl ?_
    show Steps p.tables e below (s₁.setTop (mkF m 2 #[.val (.long q0), .second, .val (.int p1), .val (.long q2), .second, .val (.long q3), .second, .val (.int p4), .unset, .unset, .unset, .unset, .unset, .unset, .unset, .unset, .unset, .unset, .unset, .unset, .unset, .unset, .unset, .unset, .unset, .unset] [(.long q0), (.long (1 : Int64))])) _
    refine X0.ldc2Long hx hown (mvT hZ (hw _ (List.mem_of_getElem? (i := 0) rfl))) (g := (mkF m 2 #[.val (.long q0), .second, .val (.int p1), .val (.long q2), .second, .val (.long q3), .second, .val (.int p4), .unset, .unset, .unset, .unset, .unset, .unset, .unset, .unset, .unset, .unset, .unset, .unset, .unset, .unset, .unset, .unset, .unset, .unset] [(.long q0), (.long (1 : Int64))])) rfl (hb hby at_2) _ ?_
    show Steps p.tables e below (s₁.setTop (mkF m 5 #[.val (.long q0), .second, .val (.int p1), .val (.long q2), .second, .val (.long q3), .second, .val (.int p4), .unset, .unset, .unset, .unset, .unset, .unset, .unset, .unset, .unset, .unset, .unset, .unset, .unset, .unset, .unset, .unset, .unset, .unset] [(.long (9223372036854775807 : Int64)), (.long q0), (.long (1 : Int64))])) _
    refine XS.land X0.here hx rfl (hb hby at_5) rfl ?_
    show Steps p.tables e below (s₁.setTop (mkF m 6 #[.val (.long q0), .second, .val (.int p1), .val (.long q2), .second, .val (.long q3), .second, .val (.int p4), .unset, .unset, .unset, .unset, .unset, .unset, .unset, .unset, .unset, .unset, .unset, .unset, .unset, .unset, .unset, .unset, .unset, .unset] [(.long (q0 &&& (9223372036854775807 : Int64))), (.long (1 : Int64))])) _
    refine st1 _ ?_
    show Steps p.tables e below (T1.setTop (mkF m 9 #[.val (.long q0), .second, .val (.int p1), .val (.long q2), .second, .val (.long q3), .second, .val (.int p4), .unset, .unset, .unset, .unset, .unset, .unset, .unset, .unset, .unset, .unset, .unset, .unset, .unset, .unset, .unset, .unset, .unset, .unset] [(.long (own_lmax (1 : Int64) (q0 &&& (9223372036854775807 : Int64))))])) _
    refine XS.lstore X1.here hx rfl (hb hby at_9) rfl (l' := #[.val (.long q0), .second, .val (.int p1), .val (.long q2), .second, .val (.long q3), .second, .val (.int p4), .val (.long (own_lmax (1 : Int64) (q0 &&& (9223372036854775807 : Int64)))), .second, .unset, .unset, .unset, .unset, .unset, .unset, .unset, .unset, .unset, .unset, .unset, .unset, .unset, .unset, .unset, .unset]) rfl ?_
    exact kt
  obtain ⟨st, hg_st⟩ : ∃ z, z = (own_lmax (1 : Int64) (q0 &&& (9223372036854775807 : Int64))) := ⟨_, rfl⟩
  rw [← hg_st] at K2
  have hst : 1 ≤ st.toInt := by rw [hg_st]; exact own_st2 q0
  have K3 : ∀ t, Steps p.tables e below (T1.setTop (mkF m 18 #[.val (.long q0), .second, .val (.int p1), .val (.long q2), .second, .val (.long q3), .second, .val (.int p4), .val (.long st), .second, .val (.int ((2 : Int32) + (p1 &&& (3 : Int32)))), .unset, .unset, .unset, .unset, .unset, .unset, .unset, .unset, .unset, .unset, .unset, .unset, .unset, .unset, .unset] [])) t → Steps p.tables e below (s₁.setTop (entryFrame m #[(.long q0), (.int p1), (.long q2), (.long q3), (.int p4)] maxLocals)) t := by
    intro t kt
    refine K2 t ?_
    show Steps p.tables e below (T1.setTop (mkF m 11 #[.val (.long q0), .second, .val (.int p1), .val (.long q2), .second, .val (.long q3), .second, .val (.int p4), .val (.long st), .second, .unset, .unset, .unset, .unset, .unset, .unset, .unset, .unset, .unset, .unset, .unset, .unset, .unset, .unset, .unset, .unset] [])) _
    refine XS.iconst X1.here hx rfl (hb hby at_11) ?_
    show Steps p.tables e below (T1.setTop (mkF m 12 #[.val (.long q0), .second, .val (.int p1), .val (.long q2), .second, .val (.long q3), .second, .val (.int p4), .val (.long st), .second, .unset, .unset, .unset, .unset, .unset, .unset, .unset, .unset, .unset, .unset, .unset, .unset, .unset, .unset, .unset, .unset] [(.int (2 : Int32))])) _
    refine XS.iloadN X1.here hx rfl (hb hby at_12) rfl ?_
    show Steps p.tables e below (T1.setTop (mkF m 13 #[.val (.long q0), .second, .val (.int p1), .val (.long q2), .second, .val (.long q3), .second, .val (.int p4), .val (.long st), .second, .unset, .unset, .unset, .unset, .unset, .unset, .unset, .unset, .unset, .unset, .unset, .unset, .unset, .unset, .unset, .unset] [(.int p1), (.int (2 : Int32))])) _
    refine XS.iconst X1.here hx rfl (hb hby at_13) ?_
    show Steps p.tables e below (T1.setTop (mkF m 14 #[.val (.long q0), .second, .val (.int p1), .val (.long q2), .second, .val (.long q3), .second, .val (.int p4), .val (.long st), .second, .unset, .unset, .unset, .unset, .unset, .unset, .unset, .unset, .unset, .unset, .unset, .unset, .unset, .unset, .unset, .unset] [(.int (3 : Int32)), (.int p1), (.int (2 : Int32))])) _
    refine XS.iand X1.here hx rfl (hb hby at_14) rfl ?_
    show Steps p.tables e below (T1.setTop (mkF m 15 #[.val (.long q0), .second, .val (.int p1), .val (.long q2), .second, .val (.long q3), .second, .val (.int p4), .val (.long st), .second, .unset, .unset, .unset, .unset, .unset, .unset, .unset, .unset, .unset, .unset, .unset, .unset, .unset, .unset, .unset, .unset] [(.int (p1 &&& (3 : Int32))), (.int (2 : Int32))])) _
    refine XS.iadd X1.here hx rfl (hb hby at_15) rfl ?_
    show Steps p.tables e below (T1.setTop (mkF m 16 #[.val (.long q0), .second, .val (.int p1), .val (.long q2), .second, .val (.long q3), .second, .val (.int p4), .val (.long st), .second, .unset, .unset, .unset, .unset, .unset, .unset, .unset, .unset, .unset, .unset, .unset, .unset, .unset, .unset, .unset, .unset] [(.int ((2 : Int32) + (p1 &&& (3 : Int32))))])) _
    refine XS.istore X1.here hx rfl (hb hby at_16) rfl (l' := #[.val (.long q0), .second, .val (.int p1), .val (.long q2), .second, .val (.long q3), .second, .val (.int p4), .val (.long st), .second, .val (.int ((2 : Int32) + (p1 &&& (3 : Int32)))), .unset, .unset, .unset, .unset, .unset, .unset, .unset, .unset, .unset, .unset, .unset, .unset, .unset, .unset, .unset]) rfl ?_
    exact kt
  obtain ⟨nn, hg_nn⟩ : ∃ z, z = ((2 : Int32) + (p1 &&& (3 : Int32))) := ⟨_, rfl⟩
  rw [← hg_nn] at K3
  have hnn : 2 ≤ nn.toInt ∧ nn.toInt ≤ 5 := by rw [hg_nn]; exact own_size p1
  obtain ⟨_, _, ⟨T4, L4, k4, n4⟩, -, X4, ⟨Lc4, hQ4, l4, y4, z4⟩, st4⟩ := Jvm.LawKit.callS X1 hx (y := (⟨"java/lang/Math", "min", "(JJ)J"⟩ : MethodName)) hown (mvT hZ (hw _ (List.mem_of_getElem? (i := 5) rfl))) (mvT hZ (hw _ (List.mem_of_getElem? (i := 6) rfl))) (mvT hZ (hw _ (List.mem_of_getElem? (i := 3) rfl))) (mvT hZ (hw _ (List.mem_of_getElem? (i := 7) rfl))) (by decide) (backOf (W := 0) (rm_min l Z a0 hw [] (q2 &&& (9223372036854775807 : Int64)) (q3 &&& (9223372036854775807 : Int64))  h0 n0 Zn ) hZ (hw _ (List.mem_of_getElem? (i := 7) rfl)) (hw _ (List.mem_of_getElem? (i := 3) rfl)) (by decide) (by decide)) (g := (mkF m 37 #[.val (.long q0), .second, .val (.int p1), .val (.long q2), .second, .val (.long q3), .second, .val (.int p4), .val (.long st), .second, .val (.int nn), .val (.long (q2 &&& (9223372036854775807 : Int64))), .second, .val (.long (q3 &&& (9223372036854775807 : Int64))), .second, .unset, .unset, .unset, .unset, .unset, .unset, .unset, .unset, .unset, .unset, .unset] [(.long (q3 &&& (9223372036854775807 : Int64))), (.long (q2 &&& (9223372036854775807 : Int64)))])) rfl (by rw [hml]; rfl) (argsL := [(.long (q2 &&& (9223372036854775807 : Int64))), (.long (q3 &&& (9223372036854775807 : Int64)))]) (rest := []) (lenOf pd_5 rfl) rfl (by show 2 * 0 + _ ≤ _; exact Nat.le_of_eq rfl) (hb hby at_37) (fun _ _ => ⟨rfl, e1, (by decide : 0 + 0 ≤ _), (by decide : 0 + 0 ≤ _)⟩)
  dsimp only [Pt.U, Pt.locs, Pt.cells, Pt.slots] at X4 l4 y4 z4 st4 hQ4
  subst l4 y4 z4
  obtain ⟨rfl, N4q, e4q⟩ := hQ4
  have N4 := Fr.app N1 N4q
  have e4 : T4.heap = h0 := e4q
  have K5 : ∀ t, Steps p.tables e below (T4.setTop (mkF m 42 #[.val (.long q0), .second, .val (.int p1), .val (.long q2), .second, .val (.long q3), .second, .val (.int p4), .val (.long st), .second, .val (.int nn), .val (.long (q2 &&& (9223372036854775807 : Int64))), .second, .val (.long (q3 &&& (9223372036854775807 : Int64))), .second, .val (.long (own_lmin (q2 &&& (9223372036854775807 : Int64)) (q3 &&& (9223372036854775807 : Int64)))), .second, .unset, .unset, .unset, .unset, .unset, .unset, .unset, .unset, .unset] [])) t → Steps p.tables e below (s₁.setTop (entryFrame m #[(.long q0), (.int p1), (.long q2), (.long q3), (.int p4)] maxLocals)) t := by
    intro t kt
    refine K3 t ?_
    show Steps p.tables e below (T1.setTop (mkF m 18 #[.val (.long q0), .second, .val (.int p1), .val (.long q2), .second, .val (.long q3), .second, .val (.int p4), .val (.long st), .second, .val (.int nn), .unset, .unset, .unset, .unset, .unset, .unset, .unset, .unset, .unset, .unset, .unset, .unset, .unset, .unset, .unset] [])) _
    refine XS.lloadN X1.here hx rfl (hb hby at_18) rfl ?_
    show Steps p.tables e below (T1.setTop (mkF m 19 #[.val (.long q0), .second, .val (.int p1), .val (.long q2), .second, .val (.long q3), .second, .val (.int p4), .val (.long st), .second, .val (.int nn), .unset, .unset, .unset, .unset, .unset, .unset, .unset, .unset, .unset, .unset, .unset, .unset, .unset, .unset, .unset] [(.long q2)])) _
    refine X1.ldc2Long hx hown (mvT hZ (hw _ (List.mem_of_getElem? (i := 0) rfl))) (g := (mkF m 19 #[.val (.long q0), .second, .val (.int p1), .val (.long q2), .second, .val (.long q3), .second, .val (.int p4), .val (.long st), .second, .val (.int nn), .unset, .unset, .unset, .unset, .unset, .unset, .unset, .unset, .unset, .unset, .unset, .unset, .unset, .unset, .unset] [(.long q2)])) rfl (hb hby at_19) _ ?_
    show Steps p.tables e below (T1.setTop (mkF m 22 #[.val (.long q0), .second, .val (.int p1), .val (.long q2), .second, .val (.long q3), .second, .val (.int p4), .val (.long st), .second, .val (.int nn), .unset, .unset, .unset, .unset, .unset, .unset, .unset, .unset, .unset, .unset, .unset, .unset, .unset, .unset, .unset] [(.long (9223372036854775807 : Int64)), (.long q2)])) _
    refine XS.land X1.here hx rfl (hb hby at_22) rfl ?_
    show Steps p.tables e below (T1.setTop (mkF m 23 #[.val (.long q0), .second, .val (.int p1), .val (.long q2), .second, .val (.long q3), .second, .val (.int p4), .val (.long st), .second, .val (.int nn), .unset, .unset, .unset, .unset, .unset, .unset, .unset, .unset, .unset, .unset, .unset, .unset, .unset, .unset, .unset] [(.long (q2 &&& (9223372036854775807 : Int64)))])) _
    refine XS.lstore X1.here hx rfl (hb hby at_23) rfl (l' := #[.val (.long q0), .second, .val (.int p1), .val (.long q2), .second, .val (.long q3), .second, .val (.int p4), .val (.long st), .second, .val (.int nn), .val (.long (q2 &&& (9223372036854775807 : Int64))), .second, .unset, .unset, .unset, .unset, .unset, .unset, .unset, .unset, .unset, .unset, .unset, .unset, .unset]) rfl ?_
    show Steps p.tables e below (T1.setTop (mkF m 25 #[.val (.long q0), .second, .val (.int p1), .val (.long q2), .second, .val (.long q3), .second, .val (.int p4), .val (.long st), .second, .val (.int nn), .val (.long (q2 &&& (9223372036854775807 : Int64))), .second, .unset, .unset, .unset, .unset, .unset, .unset, .unset, .unset, .unset, .unset, .unset, .unset, .unset] [])) _
    refine XS.lload X1.here hx rfl (hb hby at_25) rfl ?_
    show Steps p.tables e below (T1.setTop (mkF m 27 #[.val (.long q0), .second, .val (.int p1), .val (.long q2), .second, .val (.long q3), .second, .val (.int p4), .val (.long st), .second, .val (.int nn), .val (.long (q2 &&& (9223372036854775807 : Int64))), .second, .unset, .unset, .unset, .unset, .unset, .unset, .unset, .unset, .unset, .unset, .unset, .unset, .unset] [(.long q3)])) _
    refine X1.ldc2Long hx hown (mvT hZ (hw _ (List.mem_of_getElem? (i := 0) rfl))) (g := (mkF m 27 #[.val (.long q0), .second, .val (.int p1), .val (.long q2), .second, .val (.long q3), .second, .val (.int p4), .val (.long st), .second, .val (.int nn), .val (.long (q2 &&& (9223372036854775807 : Int64))), .second, .unset, .unset, .unset, .unset, .unset, .unset, .unset, .unset, .unset, .unset, .unset, .unset, .unset] [(.long q3)])) rfl (hb hby at_27) _ ?_
    show Steps p.tables e below (T1.setTop (mkF m 30 #[.val (.long q0), .second, .val (.int p1), .val (.long q2), .second, .val (.long q3), .second, .val (.int p4), .val (.long st), .second, .val (.int nn), .val (.long (q2 &&& (9223372036854775807 : Int64))), .second, .unset, .unset, .unset, .unset, .unset, .unset, .unset, .unset, .unset, .unset, .unset, .unset, .unset] [(.long (9223372036854775807 : Int64)), (.long q3)])) _
    refine XS.land X1.here hx rfl (hb hby at_30) rfl ?_
    show Steps p.tables e below (T1.setTop (mkF m 31 #[.val (.long q0), .second, .val (.int p1), .val (.long q2), .second, .val (.long q3), .second, .val (.int p4), .val (.long st), .second, .val (.int nn), .val (.long (q2 &&& (9223372036854775807 : Int64))), .second, .unset, .unset, .unset, .unset, .unset, .unset, .unset, .unset, .unset, .unset, .unset, .unset, .unset] [(.long (q3 &&& (9223372036854775807 : Int64)))])) _
    refine XS.lstore X1.here hx rfl (hb hby at_31) rfl (l' := #[.val (.long q0), .second, .val (.int p1), .val (.long q2), .second, .val (.long q3), .second, .val (.int p4), .val (.long st), .second, .val (.int nn), .val (.long (q2 &&& (9223372036854775807 : Int64))), .second, .val (.long (q3 &&& (9223372036854775807 : Int64))), .second, .unset, .unset, .unset, .unset, .unset, .unset, .unset, .unset, .unset, .unset, .unset]) rfl ?_
    show Steps p.tables e below (T1.setTop (mkF m 33 #[.val (.long q0), .second, .val (.int p1), .val (.long q2), .second, .val (.long q3), .second, .val (.int p4), .val (.long st), .second, .val (.int nn), .val (.long (q2 &&& (9223372036854775807 : Int64))), .second, .val (.long (q3 &&& (9223372036854775807 : Int64))), .second, .unset, .unset, .unset, .unset, .unset, .unset, .unset, .unset, .unset, .unset, .unset] [])) _
    refine XS.lload X1.here hx rfl (hb hby at_33) rfl ?_
    show Steps p.tables e below (T1.setTop (mkF m 35 #[.val (.long q0), .second, .val (.int p1), .val (.long q2), .second, .val (.long q3), .second, .val (.int p4), .val (.long st), .second, .val (.int nn), .val (.long (q2 &&& (9223372036854775807 : Int64))), .second, .val (.long (q3 &&& (9223372036854775807 : Int64))), .second, .unset, .unset, .unset, .unset, .unset, .unset, .unset, .unset, .unset, .unset, .unset] [(.long (q2 &&& (9223372036854775807 : Int64)))])) _
    refine XS.lload X1.here hx rfl (hb hby at_35) rfl ?_
    show Steps p.tables e below (T1.setTop (mkF m 37 #[.val (.long q0), .second, .val (.int p1), .val (.long q2), .second, .val (.long q3), .second, .val (.int p4), .val (.long st), .second, .val (.int nn), .val (.long (q2 &&& (9223372036854775807 : Int64))), .second, .val (.long (q3 &&& (9223372036854775807 : Int64))), .second, .unset, .unset, .unset, .unset, .unset, .unset, .unset, .unset, .unset, .unset, .unset] [(.long (q3 &&& (9223372036854775807 : Int64))), (.long (q2 &&& (9223372036854775807 : Int64)))])) _
    refine st4 _ ?_
    show Steps p.tables e below (T4.setTop (mkF m 40 #[.val (.long q0), .second, .val (.int p1), .val (.long q2), .second, .val (.long q3), .second, .val (.int p4), .val (.long st), .second, .val (.int nn), .val (.long (q2 &&& (9223372036854775807 : Int64))), .second, .val (.long (q3 &&& (9223372036854775807 : Int64))), .second, .unset, .unset, .unset, .unset, .unset, .unset, .unset, .unset, .unset, .unset, .unset] [(.long (own_lmin (q2 &&& (9223372036854775807 : Int64)) (q3 &&& (9223372036854775807 : Int64))))])) _
    refine XS.lstore X4.here hx rfl (hb hby at_40) rfl (l' := #[.val (.long q0), .second, .val (.int p1), .val (.long q2), .second, .val (.long q3), .second, .val (.int p4), .val (.long st), .second, .val (.int nn), .val (.long (q2 &&& (9223372036854775807 : Int64))), .second, .val (.long (q3 &&& (9223372036854775807 : Int64))), .second, .val (.long (own_lmin (q2 &&& (9223372036854775807 : Int64)) (q3 &&& (9223372036854775807 : Int64)))), .second, .unset, .unset, .unset, .unset, .unset, .unset, .unset, .unset, .unset]) rfl ?_
    exact kt
  obtain ⟨t1, hg_t1⟩ : ∃ z, z = (own_lmin (q2 &&& (9223372036854775807 : Int64)) (q3 &&& (9223372036854775807 : Int64))) := ⟨_, rfl⟩
  rw [← hg_t1] at K5
  have ht1 : 0 ≤ t1.toInt := by rw [hg_t1]; exact own_minp (own_pos _) (own_pos _)
  obtain ⟨_, _, ⟨T6, L6, k6, n6⟩, -, X6, ⟨Lc6, hQ6, l6, y6, z6⟩, st6⟩ := Jvm.LawKit.callS X4 hx (y := (⟨"java/lang/Math", "max", "(JJ)J"⟩ : MethodName)) hown (mvT hZ (hw _ (List.mem_of_getElem? (i := 1) rfl))) (mvT hZ (hw _ (List.mem_of_getElem? (i := 2) rfl))) (mvT hZ (hw _ (List.mem_of_getElem? (i := 3) rfl))) (mvT hZ (hw _ (List.mem_of_getElem? (i := 4) rfl))) (by decide) (backOf (W := 0) (rm_max l Z a0 hw [] (q2 &&& (9223372036854775807 : Int64)) (q3 &&& (9223372036854775807 : Int64))  h0 n0 Zn ) hZ (hw _ (List.mem_of_getElem? (i := 4) rfl)) (hw _ (List.mem_of_getElem? (i := 3) rfl)) (by decide) (by decide)) (g := (mkF m 46 #[.val (.long q0), .second, .val (.int p1), .val (.long q2), .second, .val (.long q3), .second, .val (.int p4), .val (.long st), .second, .val (.int nn), .val (.long (q2 &&& (9223372036854775807 : Int64))), .second, .val (.long (q3 &&& (9223372036854775807 : Int64))), .second, .val (.long t1), .second, .unset, .unset, .unset, .unset, .unset, .unset, .unset, .unset, .unset] [(.long (q3 &&& (9223372036854775807 : Int64))), (.long (q2 &&& (9223372036854775807 : Int64)))])) rfl (by rw [hml]; rfl) (argsL := [(.long (q2 &&& (9223372036854775807 : Int64))), (.long (q3 &&& (9223372036854775807 : Int64)))]) (rest := []) (lenOf pd_5 rfl) rfl (by show 2 * 0 + _ ≤ _; exact Nat.le_of_eq rfl) (hb hby at_46) (fun _ _ => ⟨rfl, e4, (by decide : 0 + 0 ≤ _), (by decide : 0 + 0 ≤ _)⟩)
  dsimp only [Pt.U, Pt.locs, Pt.cells, Pt.slots] at X6 l6 y6 z6 st6 hQ6
  subst l6 y6 z6
  obtain ⟨rfl, N6q, e6q⟩ := hQ6
  have N6 := Fr.app N4 N6q
  have e6 : T6.heap = h0 := e6q
  have K7 : ∀ t, Steps p.tables e below (T6.setTop (mkF m 51 #[.val (.long q0), .second, .val (.int p1), .val (.long q2), .second, .val (.long q3), .second, .val (.int p4), .val (.long st), .second, .val (.int nn), .val (.long (q2 &&& (9223372036854775807 : Int64))), .second, .val (.long (q3 &&& (9223372036854775807 : Int64))), .second, .val (.long t1), .second, .val (.long (own_lmax (q2 &&& (9223372036854775807 : Int64)) (q3 &&& (9223372036854775807 : Int64)))), .second, .unset, .unset, .unset, .unset, .unset, .unset, .unset] [])) t → Steps p.tables e below (s₁.setTop (entryFrame m #[(.long q0), (.int p1), (.long q2), (.long q3), (.int p4)] maxLocals)) t := by
    intro t kt
    refine K5 t ?_
    show Steps p.tables e below (T4.setTop (mkF m 42 #[.val (.long q0), .second, .val (.int p1), .val (.long q2), .second, .val (.long q3), .second, .val (.int p4), .val (.long st), .second, .val (.int nn), .val (.long (q2 &&& (9223372036854775807 : Int64))), .second, .val (.long (q3 &&& (9223372036854775807 : Int64))), .second, .val (.long t1), .second, .unset, .unset, .unset, .unset, .unset, .unset, .unset, .unset, .unset] [])) _
    refine XS.lload X4.here hx rfl (hb hby at_42) rfl ?_
    show Steps p.tables e below (T4.setTop (mkF m 44 #[.val (.long q0), .second, .val (.int p1), .val (.long q2), .second, .val (.long q3), .second, .val (.int p4), .val (.long st), .second, .val (.int nn), .val (.long (q2 &&& (9223372036854775807 : Int64))), .second, .val (.long (q3 &&& (9223372036854775807 : Int64))), .second, .val (.long t1), .second, .unset, .unset, .unset, .unset, .unset, .unset, .unset, .unset, .unset] [(.long (q2 &&& (9223372036854775807 : Int64)))])) _
    refine XS.lload X4.here hx rfl (hb hby at_44) rfl ?_
    show Steps p.tables e below (T4.setTop (mkF m 46 #[.val (.long q0), .second, .val (.int p1), .val (.long q2), .second, .val (.long q3), .second, .val (.int p4), .val (.long st), .second, .val (.int nn), .val (.long (q2 &&& (9223372036854775807 : Int64))), .second, .val (.long (q3 &&& (9223372036854775807 : Int64))), .second, .val (.long t1), .second, .unset, .unset, .unset, .unset, .unset, .unset, .unset, .unset, .unset] [(.long (q3 &&& (9223372036854775807 : Int64))), (.long (q2 &&& (9223372036854775807 : Int64)))])) _
    refine st6 _ ?_
    show Steps p.tables e below (T6.setTop (mkF m 49 #[.val (.long q0), .second, .val (.int p1), .val (.long q2), .second, .val (.long q3), .second, .val (.int p4), .val (.long st), .second, .val (.int nn), .val (.long (q2 &&& (9223372036854775807 : Int64))), .second, .val (.long (q3 &&& (9223372036854775807 : Int64))), .second, .val (.long t1), .second, .unset, .unset, .unset, .unset, .unset, .unset, .unset, .unset, .unset] [(.long (own_lmax (q2 &&& (9223372036854775807 : Int64)) (q3 &&& (9223372036854775807 : Int64))))])) _
    refine XS.lstore X6.here hx rfl (hb hby at_49) rfl (l' := #[.val (.long q0), .second, .val (.int p1), .val (.long q2), .second, .val (.long q3), .second, .val (.int p4), .val (.long st), .second, .val (.int nn), .val (.long (q2 &&& (9223372036854775807 : Int64))), .second, .val (.long (q3 &&& (9223372036854775807 : Int64))), .second, .val (.long t1), .second, .val (.long (own_lmax (q2 &&& (9223372036854775807 : Int64)) (q3 &&& (9223372036854775807 : Int64)))), .second, .unset, .unset, .unset, .unset, .unset, .unset, .unset]) rfl ?_
    exact kt
  obtain ⟨t2, hg_t2⟩ : ∃ z, z = (own_lmax (q2 &&& (9223372036854775807 : Int64)) (q3 &&& (9223372036854775807 : Int64))) := ⟨_, rfl⟩
  rw [← hg_t2] at K7
  have ht2 : 0 ≤ t2.toInt := by rw [hg_t2]; exact own_maxp (own_pos _) (own_pos _)
  have K8 : ∀ t, Steps p.tables e below (T6.setTop (mkF m 61 #[.val (.long q0), .second, .val (.int p1), .val (.long q2), .second, .val (.long q3), .second, .val (.int p4), .val (.long st), .second, .val (.int nn), .val (.long (q2 &&& (9223372036854775807 : Int64))), .second, .val (.long (q3 &&& (9223372036854775807 : Int64))), .second, .val (.long t1), .second, .val (.long t2), .second, .val (.int ((p4 &&& (2147483647 : Int32)) - ((p4 &&& (2147483647 : Int32)) / nn) * nn)), .unset, .unset, .unset, .unset, .unset, .unset] [])) t → Steps p.tables e below (s₁.setTop (entryFrame m #[(.long q0), (.int p1), (.long q2), (.long q3), (.int p4)] maxLocals)) t := by
    intro t kt
    refine K7 t ?_
    show Steps p.tables e below (T6.setTop (mkF m 51 #[.val (.long q0), .second, .val (.int p1), .val (.long q2), .second, .val (.long q3), .second, .val (.int p4), .val (.long st), .second, .val (.int nn), .val (.long (q2 &&& (9223372036854775807 : Int64))), .second, .val (.long (q3 &&& (9223372036854775807 : Int64))), .second, .val (.long t1), .second, .val (.long t2), .second, .unset, .unset, .unset, .unset, .unset, .unset, .unset] [])) _
    refine XS.iload X6.here hx rfl (hb hby at_51) rfl ?_
    show Steps p.tables e below (T6.setTop (mkF m 53 #[.val (.long q0), .second, .val (.int p1), .val (.long q2), .second, .val (.long q3), .second, .val (.int p4), .val (.long st), .second, .val (.int nn), .val (.long (q2 &&& (9223372036854775807 : Int64))), .second, .val (.long (q3 &&& (9223372036854775807 : Int64))), .second, .val (.long t1), .second, .val (.long t2), .second, .unset, .unset, .unset, .unset, .unset, .unset, .unset] [(.int p4)])) _
    refine X6.ldcInt hx hown (mvT hZ (hw _ (List.mem_of_getElem? (i := 8) rfl))) (g := (mkF m 53 #[.val (.long q0), .second, .val (.int p1), .val (.long q2), .second, .val (.long q3), .second, .val (.int p4), .val (.long st), .second, .val (.int nn), .val (.long (q2 &&& (9223372036854775807 : Int64))), .second, .val (.long (q3 &&& (9223372036854775807 : Int64))), .second, .val (.long t1), .second, .val (.long t2), .second, .unset, .unset, .unset, .unset, .unset, .unset, .unset] [(.int p4)])) rfl (hb hby at_53) _ ?_
    show Steps p.tables e below (T6.setTop (mkF m 55 #[.val (.long q0), .second, .val (.int p1), .val (.long q2), .second, .val (.long q3), .second, .val (.int p4), .val (.long st), .second, .val (.int nn), .val (.long (q2 &&& (9223372036854775807 : Int64))), .second, .val (.long (q3 &&& (9223372036854775807 : Int64))), .second, .val (.long t1), .second, .val (.long t2), .second, .unset, .unset, .unset, .unset, .unset, .unset, .unset] [(.int (2147483647 : Int32)), (.int p4)])) _
    refine XS.iand X6.here hx rfl (hb hby at_55) rfl ?_
    show Steps p.tables e below (T6.setTop (mkF m 56 #[.val (.long q0), .second, .val (.int p1), .val (.long q2), .second, .val (.long q3), .second, .val (.int p4), .val (.long st), .second, .val (.int nn), .val (.long (q2 &&& (9223372036854775807 : Int64))), .second, .val (.long (q3 &&& (9223372036854775807 : Int64))), .second, .val (.long t1), .second, .val (.long t2), .second, .unset, .unset, .unset, .unset, .unset, .unset, .unset] [(.int (p4 &&& (2147483647 : Int32)))])) _
    refine XS.iload X6.here hx rfl (hb hby at_56) rfl ?_
    show Steps p.tables e below (T6.setTop (mkF m 58 #[.val (.long q0), .second, .val (.int p1), .val (.long q2), .second, .val (.long q3), .second, .val (.int p4), .val (.long st), .second, .val (.int nn), .val (.long (q2 &&& (9223372036854775807 : Int64))), .second, .val (.long (q3 &&& (9223372036854775807 : Int64))), .second, .val (.long t1), .second, .val (.long t2), .second, .unset, .unset, .unset, .unset, .unset, .unset, .unset] [(.int nn), (.int (p4 &&& (2147483647 : Int32)))])) _
    refine XS.irem X6.here hx rfl (hb hby at_58) rfl (own_nz32 hnn.1) ?_
    show Steps p.tables e below (T6.setTop (mkF m 59 #[.val (.long q0), .second, .val (.int p1), .val (.long q2), .second, .val (.long q3), .second, .val (.int p4), .val (.long st), .second, .val (.int nn), .val (.long (q2 &&& (9223372036854775807 : Int64))), .second, .val (.long (q3 &&& (9223372036854775807 : Int64))), .second, .val (.long t1), .second, .val (.long t2), .second, .unset, .unset, .unset, .unset, .unset, .unset, .unset] [(.int ((p4 &&& (2147483647 : Int32)) - ((p4 &&& (2147483647 : Int32)) / nn) * nn))])) _
    refine XS.istore X6.here hx rfl (hb hby at_59) rfl (l' := #[.val (.long q0), .second, .val (.int p1), .val (.long q2), .second, .val (.long q3), .second, .val (.int p4), .val (.long st), .second, .val (.int nn), .val (.long (q2 &&& (9223372036854775807 : Int64))), .second, .val (.long (q3 &&& (9223372036854775807 : Int64))), .second, .val (.long t1), .second, .val (.long t2), .second, .val (.int ((p4 &&& (2147483647 : Int32)) - ((p4 &&& (2147483647 : Int32)) / nn) * nn)), .unset, .unset, .unset, .unset, .unset, .unset]) rfl ?_
    exact kt
  obtain ⟨kx, hg_kx⟩ : ∃ z, z = ((p4 &&& (2147483647 : Int32)) - ((p4 &&& (2147483647 : Int32)) / nn) * nn) := ⟨_, rfl⟩
  rw [← hg_kx] at K8
  have hkx : 0 ≤ kx.toInt ∧ kx.toInt < nn.toInt := by rw [hg_kx]; exact own_mod p4 nn (by omega)
  obtain ⟨T9, h9, k9, X9, e9, E9, A9, O9, st9⟩ := newR X6 hx hZ hown (hw _ (List.mem_of_getElem? (i := 9) rfl)) (hw _ (List.mem_of_getElem? (i := 10) rfl)) e6 (g := (mkF m 62 #[.val (.long q0), .second, .val (.int p1), .val (.long q2), .second, .val (.long q3), .second, .val (.int p4), .val (.long st), .second, .val (.int nn), .val (.long (q2 &&& (9223372036854775807 : Int64))), .second, .val (.long (q3 &&& (9223372036854775807 : Int64))), .second, .val (.long t1), .second, .val (.long t2), .second, .val (.int kx), .unset, .unset, .unset, .unset, .unset, .unset] [(.int (5 : Int32))])) rfl (hb hby at_62) rfl (by decide) (cap := 5) (by decide) (by decide) (by decide) (by decide)
  obtain ⟨b9, g9⟩ : ∃ z, z = h0.size := ⟨_, rfl⟩
  rw [← g9] at A9 st9
  have g_b9 : n0 ≤ b9 := Nat.le_trans Zn (Nat.le_of_eq g9.symm)
  replace OLD := OLD.ext E9
  replace Zn := Nat.le_trans Zn E9.1
  have V_b9 : Arv Z h9 b9 k9 (.object "com/example/lachesis/lachesis/timer/Bucket") (5 : Int32) [.null, .null, .null, .null, .null] .null := (Arv.new A9 (by decide)).pad (pad_rep [] .null 5)
  obtain ⟨T10, h10, X10, e10, E10, A10, D10, -, st10⟩ := newO X9 hx hZ hown (hw _ (List.mem_of_getElem? (i := 11) rfl)) (hw _ (List.mem_of_getElem? (i := 12) rfl)) (hw _ (List.mem_of_getElem? (i := 13) rfl)) e9 (g := (mkF m 67 #[.val (.long q0), .second, .val (.int p1), .val (.long q2), .second, .val (.long q3), .second, .val (.int p4), .val (.long st), .second, .val (.int nn), .val (.long (q2 &&& (9223372036854775807 : Int64))), .second, .val (.long (q3 &&& (9223372036854775807 : Int64))), .second, .val (.long t1), .second, .val (.long t2), .second, .val (.int kx), .val (.ref b9), .unset, .unset, .unset, .unset, .unset] [])) rfl (hb hby at_67) (by decide) (by decide)
  obtain ⟨b10, g10⟩ : ∃ z, z = h9.size := ⟨_, rfl⟩
  rw [← g10] at A10 D10 st10
  have g_b10 : n0 ≤ b10 := Nat.le_trans Zn (Nat.le_of_eq g10.symm)
  have ne_b9_b10 : b9 ≠ b10 := Nat.ne_of_lt (Nat.lt_of_lt_of_le V_b9.lt (Nat.le_of_eq g10.symm))
  replace OLD := OLD.ext E10
  replace V_b9 := V_b9.ext E10
  replace Zn := Nat.le_trans Zn E10.1
  have E_b10 := A10
  have F_slotTicks_b10 : Fld Z h10 b10 "com/example/lachesis/lachesis/timer/Wheel" "slotTicks" "J" (.long (0 : Int64)) := D10 (Or.inr (hw _ (List.mem_of_getElem? (i := 21) rfl))) (ty := .long) (by decide)
  have F_spanTicks_b10 : Fld Z h10 b10 "com/example/lachesis/lachesis/timer/Wheel" "spanTicks" "J" (.long (0 : Int64)) := D10 (Or.inr (hw _ (List.mem_of_getElem? (i := 24) rfl))) (ty := .long) (by decide)
  have F_buckets_b10 : Fld Z h10 b10 "com/example/lachesis/lachesis/timer/Wheel" "buckets" "[Lcom/example/lachesis/lachesis/timer/Bucket;" .null := D10 (Or.inr (hw _ (List.mem_of_getElem? (i := 27) rfl))) (ty := (.array (.object "com/example/lachesis/lachesis/timer/Bucket"))) (by decide)
  have F_slotStart_b10 : Fld Z h10 b10 "com/example/lachesis/lachesis/timer/Wheel" "slotStart" "J" (.long (0 : Int64)) := D10 (Or.inl (hw _ (List.mem_of_getElem? (i := 45) rfl))) (ty := .long) (by decide)
  have F_slot_b10 : Fld Z h10 b10 "com/example/lachesis/lachesis/timer/Wheel" "slot" "I" (.int (0 : Int32)) := D10 (Or.inl (hw _ (List.mem_of_getElem? (i := 47) rfl))) (ty := .int) (by decide)
  have lt_r := V_b9.lt
  obtain ⟨_, _, ⟨T11, L11, k11, n11⟩, -, X11, ⟨Lc11, hQ11, l11, y11, z11⟩, st11⟩ := X10.specialBack hx (y := (⟨"com/example/lachesis/lachesis/timer/Wheel", "<init>", "(JIJ)V"⟩ : MethodName)) rfl hown (mvT hZ (hw _ (List.mem_of_getElem? (i := 14) rfl))) (mvT hZ (hw _ (List.mem_of_getElem? (i := 15) rfl))) (mvT hZ (hw _ (List.mem_of_getElem? (i := 16) rfl))) (by decide) (backOf (W := 1) (rmW l Z a0 hw [] b10 st nn t1 w_NONE h10 n0 Zn S_NONE OLD E_b10 g_b10 F_slotTicks_b10 F_spanTicks_b10 F_buckets_b10 F_slotStart_b10 F_slot_b10 hst hnn) hZ (hw _ (List.mem_of_getElem? (i := 16) rfl)) (hw _ (List.mem_of_getElem? (i := 13) rfl)) (by decide) (by decide)) (g := (mkF m 77 #[.val (.long q0), .second, .val (.int p1), .val (.long q2), .second, .val (.long q3), .second, .val (.int p4), .val (.long st), .second, .val (.int nn), .val (.long (q2 &&& (9223372036854775807 : Int64))), .second, .val (.long (q3 &&& (9223372036854775807 : Int64))), .second, .val (.long t1), .second, .val (.long t2), .second, .val (.int kx), .val (.ref b9), .unset, .unset, .unset, .unset, .unset] [(.long t1), (.int nn), (.long st), (.ref b10), (.ref b10)])) rfl (by rw [hml]; rfl) (Steps.refl _) (a := b10) (argsL := [(.long st), (.int nn), (.long t1)]) (rest := [(.ref b10)]) (lenOf pd_6 rfl) rfl (by show 2 * 0 + _ ≤ _; exact Nat.le_of_eq rfl) (hb hby at_77) (fun _ _ => ⟨rfl, e10, (by decide : 2 + 6 ≤ _), (by decide : 10 + 25 ≤ _)⟩)
  dsimp only [Pt.U, Pt.locs, Pt.cells, Pt.slots] at X11 l11 y11 z11 st11 hQ11
  subst l11 y11 z11
  obtain ⟨ba11, kk11, bs11, rfl, N11q, K11k, pf11_0, pf11_1, pf11_2, pf11_3, pf11_4, pf11_5, pf11_6, pf11_7, pf11_8, pf11_9, pf11_10, pf11_11, pf11_12⟩ := hQ11
  have N11 := Fr.app N6 N11q
  have OLD := OLD.keep K11k (allS g_b10 all0)
  have V_b9 := V_b9.keep K11k (ninS ne_b9_b10 nin0)
  have E_b10 := E_b10.keep K11k
  replace Zn := Nat.le_trans Zn K11k.1
  have g_ba11 := pf11_0
  have sza11 := pf11_1
  have ne_ba11_b10 := pf11_2
  have hbl11 := pf11_3
  have hbn11 := pf11_4
  have hbe11 := pf11_5
  have V_ba11 := pf11_6
  have E_b10 := pf11_7
  have F_slotTicks_b10 := pf11_8
  have F_spanTicks_b10 := pf11_9
  have F_buckets_b10 := pf11_10
  have F_slotStart_b10 := pf11_11
  have F_slot_b10 := pf11_12
  have ne_b9_ba11 : b9 ≠ ba11 := Nat.ne_of_lt (Nat.lt_of_lt_of_le lt_r sza11)
  have X_bs : own_exs Z _ bs11 := hbe11
  have bs1 := own_slotB (t := t1) ⟨hst, ht1⟩ hnn.1
  have bs2 := own_slotB (t := t2) ⟨hst, ht2⟩ hnn.1
  have hq_c0 : 0 ≤ ((0 : Int64)).toInt ∧ ((0 : Int64)).toInt < nn.toInt := (by have z : (0 : Int64).toInt = 0 := (by decide); omega)
  have hb_c0 := own_ixB hnn bs1 hq_c0
  have hl_c0 : (own_ix (own_slot t1 st nn) (0 : Int64) nn).toNatClampNeg < bs11.length := by rw [hbl11]; exact own_inl hb_c0
  obtain ⟨cq12, kq12, q12a, q12b, q12c⟩ := isOf hZ rfl E_b10
  obtain ⟨_, _, ⟨T12, L12, k12, n12⟩, -, X12, ⟨Lc12, hQ12, l12, y12, z12⟩, st12⟩ := X11.virtualBack hx (y := (⟨"com/example/lachesis/lachesis/timer/Wheel", "bucket", "(J)Lcom/example/lachesis/lachesis/timer/Bucket;"⟩ : MethodName)) (z := (⟨"com/example/lachesis/lachesis/timer/Wheel", "bucket", "(J)Lcom/example/lachesis/lachesis/timer/Bucket;"⟩ : MethodName)) hown (mvT hZ (hw _ (List.mem_of_getElem? (i := 48) rfl))) (mvT hZ (hw _ (List.mem_of_getElem? (i := 49) rfl))) (notFace_of_selects (args := #[]) (mvT hZ (hw _ (List.mem_of_getElem? (i := 51) rfl)))) (mvT hZ (hw _ (List.mem_of_getElem? (i := 51) rfl))) (mvT hZ (hw _ (List.mem_of_getElem? (i := 50) rfl))) (by decide) (backOf (W := 2) (rmK l Z a0 hw [] b10 (0 : Int64) (own_slot t1 st nn) ba11 kk11 nn bs11 (own_ix (own_slot t1 st nn) (0 : Int64) nn) T11.heap n0 Zn F_slot_b10 F_buckets_b10 V_ba11 hbl11 hb_c0 rfl) hZ (hw _ (List.mem_of_getElem? (i := 52) rfl)) (hw _ (List.mem_of_getElem? (i := 13) rfl)) (by decide) (by decide)) q12a q12c (g := (mkF m 88 #[.val (.long q0), .second, .val (.int p1), .val (.long q2), .second, .val (.long q3), .second, .val (.int p4), .val (.long st), .second, .val (.int nn), .val (.long (q2 &&& (9223372036854775807 : Int64))), .second, .val (.long (q3 &&& (9223372036854775807 : Int64))), .second, .val (.long t1), .second, .val (.long t2), .second, .val (.int kx), .val (.ref b9), .val (.ref b10), .unset, .unset, .unset, .unset] [(.long (0 : Int64)), (.ref b10), (.int (0 : Int32)), (.ref b9)])) rfl (by rw [hml]; rfl) (Steps.refl _) (argsL := [(.long (0 : Int64))]) (rest := [(.int (0 : Int32)), (.ref b9)]) (lenOf pd_7 rfl) rfl (by show 2 * 0 + _ ≤ _; exact Nat.le_of_eq rfl) (hb hby at_88) (fun _ _ => ⟨rfl, rfl, (by decide : 8 + 0 ≤ _), (by decide : 35 + 0 ≤ _)⟩)
  dsimp only [Pt.U, Pt.locs, Pt.cells, Pt.slots] at X12 l12 y12 z12 st12 hQ12
  subst l12 y12 z12
  obtain ⟨rfl, N12q, e12q⟩ := hQ12
  have N12 := Fr.app N11 N12q
  have e12 : T12.heap = T11.heap := e12q
  obtain ⟨c0, hv_c0⟩ : ∃ z, z = bs11.getD (own_ix (own_slot t1 st nn) (0 : Int64) nn).toNatClampNeg 0 := ⟨_, rfl⟩
  rw [← hv_c0] at st12
  have E_c0 : Exa Z _ c0 "com/example/lachesis/lachesis/timer/Bucket" := hv_c0 ▸ X_bs.at hl_c0
  obtain ⟨cl13, Ar13, q13, S13, N13z, H13, G13⟩ := V_b9
  have hin13 : ¬ ((0 : Int32) < 0 ∨ cl13.slots.size ≤ ((0 : Int32)).toNatClampNeg) := inb_of S13 ⟨by decide, by decide⟩
  obtain ⟨T13, h13, X13, e13, W13, st13⟩ := stR X12 hx hZ e12 Ar13 (j := (0 : Int32)) hin13 rfl (Sto.ofV Ar13 q13 O9 (Ins.self E_c0)) (g := (mkF m 91 #[.val (.long q0), .second, .val (.int p1), .val (.long q2), .second, .val (.long q3), .second, .val (.int p4), .val (.long st), .second, .val (.int nn), .val (.long (q2 &&& (9223372036854775807 : Int64))), .second, .val (.long (q3 &&& (9223372036854775807 : Int64))), .second, .val (.long t1), .second, .val (.long t2), .second, .val (.int kx), .val (.ref b9), .val (.ref b10), .unset, .unset, .unset, .unset] [(.ref c0), (.int (0 : Int32)), (.ref b9)])) rfl rfl (hb hby at_91)
  replace OLD := OLD.wr W13 g_b9
  replace E_b10 := E_b10.wr W13
  replace V_ba11 := V_ba11.other W13 (Ne.symm ne_b9_ba11)
  replace F_slotTicks_b10 := F_slotTicks_b10.other W13 (Or.inl (Ne.symm ne_b9_b10))
  replace F_spanTicks_b10 := F_spanTicks_b10.other W13 (Or.inl (Ne.symm ne_b9_b10))
  replace F_buckets_b10 := F_buckets_b10.other W13 (Or.inl (Ne.symm ne_b9_b10))
  replace F_slotStart_b10 := F_slotStart_b10.other W13 (Or.inl (Ne.symm ne_b9_b10))
  replace F_slot_b10 := F_slot_b10.other W13 (Or.inl (Ne.symm ne_b9_b10))
  replace X_bs := X_bs.wr W13
  replace E_c0 := E_c0.wr W13
  have V_b9 : Arv Z h13 b9 k9 (.object "com/example/lachesis/lachesis/timer/Bucket") (5 : Int32) [(.ref c0), .null, .null, .null, .null] .null := Arv.set Ar13 q13 S13 N13z H13 G13 rfl W13 0 rfl (Nat.le_of_ble_eq_true rfl)
  replace Zn := Nat.le_trans Zn (Keep.of_wr W13).1
  have N13 := Fr.snoc X13 N12 g_b9
  have hq_c1 : 0 ≤ ((1 : Int64)).toInt ∧ ((1 : Int64)).toInt < nn.toInt := (by have z : (1 : Int64).toInt = 1 := (by decide); omega)
  have hb_c1 := own_ixB hnn bs1 hq_c1
  have hl_c1 : (own_ix (own_slot t1 st nn) (1 : Int64) nn).toNatClampNeg < bs11.length := by rw [hbl11]; exact own_inl hb_c1
  obtain ⟨cq14, kq14, q14a, q14b, q14c⟩ := isOf hZ e13 E_b10
  obtain ⟨_, _, ⟨T14, L14, k14, n14⟩, -, X14, ⟨Lc14, hQ14, l14, y14, z14⟩, st14⟩ := X13.virtualBack hx (y := (⟨"com/example/lachesis/lachesis/timer/Wheel", "bucket", "(J)Lcom/example/lachesis/lachesis/timer/Bucket;"⟩ : MethodName)) (z := (⟨"com/example/lachesis/lachesis/timer/Wheel", "bucket", "(J)Lcom/example/lachesis/lachesis/timer/Bucket;"⟩ : MethodName)) hown (mvT hZ (hw _ (List.mem_of_getElem? (i := 48) rfl))) (mvT hZ (hw _ (List.mem_of_getElem? (i := 49) rfl))) (notFace_of_selects (args := #[]) (mvT hZ (hw _ (List.mem_of_getElem? (i := 51) rfl)))) (mvT hZ (hw _ (List.mem_of_getElem? (i := 51) rfl))) (mvT hZ (hw _ (List.mem_of_getElem? (i := 50) rfl))) (by decide) (backOf (W := 2) (rmK l Z a0 hw [] b10 (1 : Int64) (own_slot t1 st nn) ba11 kk11 nn bs11 (own_ix (own_slot t1 st nn) (1 : Int64) nn) h13 n0 Zn F_slot_b10 F_buckets_b10 V_ba11 hbl11 hb_c1 rfl) hZ (hw _ (List.mem_of_getElem? (i := 52) rfl)) (hw _ (List.mem_of_getElem? (i := 13) rfl)) (by decide) (by decide)) q14a q14c (g := (mkF m 98 #[.val (.long q0), .second, .val (.int p1), .val (.long q2), .second, .val (.long q3), .second, .val (.int p4), .val (.long st), .second, .val (.int nn), .val (.long (q2 &&& (9223372036854775807 : Int64))), .second, .val (.long (q3 &&& (9223372036854775807 : Int64))), .second, .val (.long t1), .second, .val (.long t2), .second, .val (.int kx), .val (.ref b9), .val (.ref b10), .unset, .unset, .unset, .unset] [(.long (1 : Int64)), (.ref b10), (.int (1 : Int32)), (.ref b9)])) rfl (by rw [hml]; rfl) (Steps.refl _) (argsL := [(.long (1 : Int64))]) (rest := [(.int (1 : Int32)), (.ref b9)]) (lenOf pd_7 rfl) rfl (by show 2 * 0 + _ ≤ _; exact Nat.le_of_eq rfl) (hb hby at_98) (fun _ _ => ⟨rfl, e13, (by decide : 8 + 0 ≤ _), (by decide : 35 + 0 ≤ _)⟩)
  dsimp only [Pt.U, Pt.locs, Pt.cells, Pt.slots] at X14 l14 y14 z14 st14 hQ14
  subst l14 y14 z14
  obtain ⟨rfl, N14q, e14q⟩ := hQ14
  have N14 := Fr.app N13 N14q
  have e14 : T14.heap = h13 := e14q
  obtain ⟨c1, hv_c1⟩ : ∃ z, z = bs11.getD (own_ix (own_slot t1 st nn) (1 : Int64) nn).toNatClampNeg 0 := ⟨_, rfl⟩
  rw [← hv_c1] at st14
  have E_c1 : Exa Z _ c1 "com/example/lachesis/lachesis/timer/Bucket" := hv_c1 ▸ X_bs.at hl_c1
  obtain ⟨cl15, Ar15, q15, S15, N15z, H15, G15⟩ := V_b9
  have hin15 : ¬ ((1 : Int32) < 0 ∨ cl15.slots.size ≤ ((1 : Int32)).toNatClampNeg) := inb_of S15 ⟨by decide, by decide⟩
  obtain ⟨T15, h15, X15, e15, W15, st15⟩ := stR X14 hx hZ e14 Ar15 (j := (1 : Int32)) hin15 rfl (Sto.ofV Ar15 q15 O9 (Ins.self E_c1)) (g := (mkF m 101 #[.val (.long q0), .second, .val (.int p1), .val (.long q2), .second, .val (.long q3), .second, .val (.int p4), .val (.long st), .second, .val (.int nn), .val (.long (q2 &&& (9223372036854775807 : Int64))), .second, .val (.long (q3 &&& (9223372036854775807 : Int64))), .second, .val (.long t1), .second, .val (.long t2), .second, .val (.int kx), .val (.ref b9), .val (.ref b10), .unset, .unset, .unset, .unset] [(.ref c1), (.int (1 : Int32)), (.ref b9)])) rfl rfl (hb hby at_101)
  replace OLD := OLD.wr W15 g_b9
  replace E_b10 := E_b10.wr W15
  replace V_ba11 := V_ba11.other W15 (Ne.symm ne_b9_ba11)
  replace F_slotTicks_b10 := F_slotTicks_b10.other W15 (Or.inl (Ne.symm ne_b9_b10))
  replace F_spanTicks_b10 := F_spanTicks_b10.other W15 (Or.inl (Ne.symm ne_b9_b10))
  replace F_buckets_b10 := F_buckets_b10.other W15 (Or.inl (Ne.symm ne_b9_b10))
  replace F_slotStart_b10 := F_slotStart_b10.other W15 (Or.inl (Ne.symm ne_b9_b10))
  replace F_slot_b10 := F_slot_b10.other W15 (Or.inl (Ne.symm ne_b9_b10))
  replace X_bs := X_bs.wr W15
  replace E_c0 := E_c0.wr W15
  replace E_c1 := E_c1.wr W15
  have V_b9 : Arv Z h15 b9 k9 (.object "com/example/lachesis/lachesis/timer/Bucket") (5 : Int32) [(.ref c0), (.ref c1), .null, .null, .null] .null := Arv.set Ar15 q15 S15 N15z H15 G15 rfl W15 1 rfl (Nat.le_of_ble_eq_true rfl)
  replace Zn := Nat.le_trans Zn (Keep.of_wr W15).1
  have N15 := Fr.snoc X15 N14 g_b9
  have K16 : ∀ t, Steps p.tables e below (T15.setTop (mkF m 105 #[.val (.long q0), .second, .val (.int p1), .val (.long q2), .second, .val (.long q3), .second, .val (.int p4), .val (.long st), .second, .val (.int nn), .val (.long (q2 &&& (9223372036854775807 : Int64))), .second, .val (.long (q3 &&& (9223372036854775807 : Int64))), .second, .val (.long t1), .second, .val (.long t2), .second, .val (.int kx), .val (.ref b9), .val (.ref b10), .unset, .unset, .unset, .unset] [(.int (2 : Int32)), (.int nn)])) t → Steps p.tables e below (s₁.setTop (entryFrame m #[(.long q0), (.int p1), (.long q2), (.long q3), (.int p4)] maxLocals)) t := by
    intro t kt
    refine K8 t ?_
    show Steps p.tables e below (T6.setTop (mkF m 61 #[.val (.long q0), .second, .val (.int p1), .val (.long q2), .second, .val (.long q3), .second, .val (.int p4), .val (.long st), .second, .val (.int nn), .val (.long (q2 &&& (9223372036854775807 : Int64))), .second, .val (.long (q3 &&& (9223372036854775807 : Int64))), .second, .val (.long t1), .second, .val (.long t2), .second, .val (.int kx), .unset, .unset, .unset, .unset, .unset, .unset] [])) _
    refine XS.iconst X6.here hx rfl (hb hby at_61) ?_
    show Steps p.tables e below (T6.setTop (mkF m 62 #[.val (.long q0), .second, .val (.int p1), .val (.long q2), .second, .val (.long q3), .second, .val (.int p4), .val (.long st), .second, .val (.int nn), .val (.long (q2 &&& (9223372036854775807 : Int64))), .second, .val (.long (q3 &&& (9223372036854775807 : Int64))), .second, .val (.long t1), .second, .val (.long t2), .second, .val (.int kx), .unset, .unset, .unset, .unset, .unset, .unset] [(.int (5 : Int32))])) _
    refine st9 _ ?_
    show Steps p.tables e below (T9.setTop (mkF m 65 #[.val (.long q0), .second, .val (.int p1), .val (.long q2), .second, .val (.long q3), .second, .val (.int p4), .val (.long st), .second, .val (.int nn), .val (.long (q2 &&& (9223372036854775807 : Int64))), .second, .val (.long (q3 &&& (9223372036854775807 : Int64))), .second, .val (.long t1), .second, .val (.long t2), .second, .val (.int kx), .unset, .unset, .unset, .unset, .unset, .unset] [(.ref b9)])) _
    refine XS.astore X9.here hx rfl (hb hby at_65) rfl rfl (l' := #[.val (.long q0), .second, .val (.int p1), .val (.long q2), .second, .val (.long q3), .second, .val (.int p4), .val (.long st), .second, .val (.int nn), .val (.long (q2 &&& (9223372036854775807 : Int64))), .second, .val (.long (q3 &&& (9223372036854775807 : Int64))), .second, .val (.long t1), .second, .val (.long t2), .second, .val (.int kx), .val (.ref b9), .unset, .unset, .unset, .unset, .unset]) rfl ?_
    show Steps p.tables e below (T9.setTop (mkF m 67 #[.val (.long q0), .second, .val (.int p1), .val (.long q2), .second, .val (.long q3), .second, .val (.int p4), .val (.long st), .second, .val (.int nn), .val (.long (q2 &&& (9223372036854775807 : Int64))), .second, .val (.long (q3 &&& (9223372036854775807 : Int64))), .second, .val (.long t1), .second, .val (.long t2), .second, .val (.int kx), .val (.ref b9), .unset, .unset, .unset, .unset, .unset] [])) _
    refine st10 _ ?_
    show Steps p.tables e below (T10.setTop (mkF m 70 #[.val (.long q0), .second, .val (.int p1), .val (.long q2), .second, .val (.long q3), .second, .val (.int p4), .val (.long st), .second, .val (.int nn), .val (.long (q2 &&& (9223372036854775807 : Int64))), .second, .val (.long (q3 &&& (9223372036854775807 : Int64))), .second, .val (.long t1), .second, .val (.long t2), .second, .val (.int kx), .val (.ref b9), .unset, .unset, .unset, .unset, .unset] [(.ref b10)])) _
    refine XS.dup X10.here hx rfl (hb hby at_70) rfl rfl ?_
    show Steps p.tables e below (T10.setTop (mkF m 71 #[.val (.long q0), .second, .val (.int p1), .val (.long q2), .second, .val (.long q3), .second, .val (.int p4), .val (.long st), .second, .val (.int nn), .val (.long (q2 &&& (9223372036854775807 : Int64))), .second, .val (.long (q3 &&& (9223372036854775807 : Int64))), .second, .val (.long t1), .second, .val (.long t2), .second, .val (.int kx), .val (.ref b9), .unset, .unset, .unset, .unset, .unset] [(.ref b10), (.ref b10)])) _
    refine XS.lload X10.here hx rfl (hb hby at_71) rfl ?_
    show Steps p.tables e below (T10.setTop (mkF m 73 #[.val (.long q0), .second, .val (.int p1), .val (.long q2), .second, .val (.long q3), .second, .val (.int p4), .val (.long st), .second, .val (.int nn), .val (.long (q2 &&& (9223372036854775807 : Int64))), .second, .val (.long (q3 &&& (9223372036854775807 : Int64))), .second, .val (.long t1), .second, .val (.long t2), .second, .val (.int kx), .val (.ref b9), .unset, .unset, .unset, .unset, .unset] [(.long st), (.ref b10), (.ref b10)])) _
    refine XS.iload X10.here hx rfl (hb hby at_73) rfl ?_
    show Steps p.tables e below (T10.setTop (mkF m 75 #[.val (.long q0), .second, .val (.int p1), .val (.long q2), .second, .val (.long q3), .second, .val (.int p4), .val (.long st), .second, .val (.int nn), .val (.long (q2 &&& (9223372036854775807 : Int64))), .second, .val (.long (q3 &&& (9223372036854775807 : Int64))), .second, .val (.long t1), .second, .val (.long t2), .second, .val (.int kx), .val (.ref b9), .unset, .unset, .unset, .unset, .unset] [(.int nn), (.long st), (.ref b10), (.ref b10)])) _
    refine XS.lload X10.here hx rfl (hb hby at_75) rfl ?_
    show Steps p.tables e below (T10.setTop (mkF m 77 #[.val (.long q0), .second, .val (.int p1), .val (.long q2), .second, .val (.long q3), .second, .val (.int p4), .val (.long st), .second, .val (.int nn), .val (.long (q2 &&& (9223372036854775807 : Int64))), .second, .val (.long (q3 &&& (9223372036854775807 : Int64))), .second, .val (.long t1), .second, .val (.long t2), .second, .val (.int kx), .val (.ref b9), .unset, .unset, .unset, .unset, .unset] [(.long t1), (.int nn), (.long st), (.ref b10), (.ref b10)])) _
    refine st11.trans ?_
    show Steps p.tables e below (T11.setTop (mkF m 80 #[.val (.long q0), .second, .val (.int p1), .val (.long q2), .second, .val (.long q3), .second, .val (.int p4), .val (.long st), .second, .val (.int nn), .val (.long (q2 &&& (9223372036854775807 : Int64))), .second, .val (.long (q3 &&& (9223372036854775807 : Int64))), .second, .val (.long t1), .second, .val (.long t2), .second, .val (.int kx), .val (.ref b9), .unset, .unset, .unset, .unset, .unset] [(.ref b10)])) _
    refine XS.astore X11.here hx rfl (hb hby at_80) rfl rfl (l' := #[.val (.long q0), .second, .val (.int p1), .val (.long q2), .second, .val (.long q3), .second, .val (.int p4), .val (.long st), .second, .val (.int nn), .val (.long (q2 &&& (9223372036854775807 : Int64))), .second, .val (.long (q3 &&& (9223372036854775807 : Int64))), .second, .val (.long t1), .second, .val (.long t2), .second, .val (.int kx), .val (.ref b9), .val (.ref b10), .unset, .unset, .unset, .unset]) rfl ?_
    show Steps p.tables e below (T11.setTop (mkF m 82 #[.val (.long q0), .second, .val (.int p1), .val (.long q2), .second, .val (.long q3), .second, .val (.int p4), .val (.long st), .second, .val (.int nn), .val (.long (q2 &&& (9223372036854775807 : Int64))), .second, .val (.long (q3 &&& (9223372036854775807 : Int64))), .second, .val (.long t1), .second, .val (.long t2), .second, .val (.int kx), .val (.ref b9), .val (.ref b10), .unset, .unset, .unset, .unset] [])) _
    refine XS.aload X11.here hx rfl (hb hby at_82) rfl rfl ?_
    show Steps p.tables e below (T11.setTop (mkF m 84 #[.val (.long q0), .second, .val (.int p1), .val (.long q2), .second, .val (.long q3), .second, .val (.int p4), .val (.long st), .second, .val (.int nn), .val (.long (q2 &&& (9223372036854775807 : Int64))), .second, .val (.long (q3 &&& (9223372036854775807 : Int64))), .second, .val (.long t1), .second, .val (.long t2), .second, .val (.int kx), .val (.ref b9), .val (.ref b10), .unset, .unset, .unset, .unset] [(.ref b9)])) _
    refine XS.iconst X11.here hx rfl (hb hby at_84) ?_
    show Steps p.tables e below (T11.setTop (mkF m 85 #[.val (.long q0), .second, .val (.int p1), .val (.long q2), .second, .val (.long q3), .second, .val (.int p4), .val (.long st), .second, .val (.int nn), .val (.long (q2 &&& (9223372036854775807 : Int64))), .second, .val (.long (q3 &&& (9223372036854775807 : Int64))), .second, .val (.long t1), .second, .val (.long t2), .second, .val (.int kx), .val (.ref b9), .val (.ref b10), .unset, .unset, .unset, .unset] [(.int (0 : Int32)), (.ref b9)])) _
    refine XS.aload X11.here hx rfl (hb hby at_85) rfl rfl ?_
    show Steps p.tables e below (T11.setTop (mkF m 87 #[.val (.long q0), .second, .val (.int p1), .val (.long q2), .second, .val (.long q3), .second, .val (.int p4), .val (.long st), .second, .val (.int nn), .val (.long (q2 &&& (9223372036854775807 : Int64))), .second, .val (.long (q3 &&& (9223372036854775807 : Int64))), .second, .val (.long t1), .second, .val (.long t2), .second, .val (.int kx), .val (.ref b9), .val (.ref b10), .unset, .unset, .unset, .unset] [(.ref b10), (.int (0 : Int32)), (.ref b9)])) _
    refine XS.lconst X11.here hx rfl (hb hby at_87) ?_
    show Steps p.tables e below (T11.setTop (mkF m 88 #[.val (.long q0), .second, .val (.int p1), .val (.long q2), .second, .val (.long q3), .second, .val (.int p4), .val (.long st), .second, .val (.int nn), .val (.long (q2 &&& (9223372036854775807 : Int64))), .second, .val (.long (q3 &&& (9223372036854775807 : Int64))), .second, .val (.long t1), .second, .val (.long t2), .second, .val (.int kx), .val (.ref b9), .val (.ref b10), .unset, .unset, .unset, .unset] [(.long (0 : Int64)), (.ref b10), (.int (0 : Int32)), (.ref b9)])) _
    refine st12.trans ?_
    show Steps p.tables e below (T12.setTop (mkF m 91 #[.val (.long q0), .second, .val (.int p1), .val (.long q2), .second, .val (.long q3), .second, .val (.int p4), .val (.long st), .second, .val (.int nn), .val (.long (q2 &&& (9223372036854775807 : Int64))), .second, .val (.long (q3 &&& (9223372036854775807 : Int64))), .second, .val (.long t1), .second, .val (.long t2), .second, .val (.int kx), .val (.ref b9), .val (.ref b10), .unset, .unset, .unset, .unset] [(.ref c0), (.int (0 : Int32)), (.ref b9)])) _
    refine st13 _ ?_
    show Steps p.tables e below (T13.setTop (mkF m 92 #[.val (.long q0), .second, .val (.int p1), .val (.long q2), .second, .val (.long q3), .second, .val (.int p4), .val (.long st), .second, .val (.int nn), .val (.long (q2 &&& (9223372036854775807 : Int64))), .second, .val (.long (q3 &&& (9223372036854775807 : Int64))), .second, .val (.long t1), .second, .val (.long t2), .second, .val (.int kx), .val (.ref b9), .val (.ref b10), .unset, .unset, .unset, .unset] [])) _
    refine XS.aload X13.here hx rfl (hb hby at_92) rfl rfl ?_
    show Steps p.tables e below (T13.setTop (mkF m 94 #[.val (.long q0), .second, .val (.int p1), .val (.long q2), .second, .val (.long q3), .second, .val (.int p4), .val (.long st), .second, .val (.int nn), .val (.long (q2 &&& (9223372036854775807 : Int64))), .second, .val (.long (q3 &&& (9223372036854775807 : Int64))), .second, .val (.long t1), .second, .val (.long t2), .second, .val (.int kx), .val (.ref b9), .val (.ref b10), .unset, .unset, .unset, .unset] [(.ref b9)])) _
    refine XS.iconst X13.here hx rfl (hb hby at_94) ?_
    show Steps p.tables e below (T13.setTop (mkF m 95 #[.val (.long q0), .second, .val (.int p1), .val (.long q2), .second, .val (.long q3), .second, .val (.int p4), .val (.long st), .second, .val (.int nn), .val (.long (q2 &&& (9223372036854775807 : Int64))), .second, .val (.long (q3 &&& (9223372036854775807 : Int64))), .second, .val (.long t1), .second, .val (.long t2), .second, .val (.int kx), .val (.ref b9), .val (.ref b10), .unset, .unset, .unset, .unset] [(.int (1 : Int32)), (.ref b9)])) _
    refine XS.aload X13.here hx rfl (hb hby at_95) rfl rfl ?_
    show Steps p.tables e below (T13.setTop (mkF m 97 #[.val (.long q0), .second, .val (.int p1), .val (.long q2), .second, .val (.long q3), .second, .val (.int p4), .val (.long st), .second, .val (.int nn), .val (.long (q2 &&& (9223372036854775807 : Int64))), .second, .val (.long (q3 &&& (9223372036854775807 : Int64))), .second, .val (.long t1), .second, .val (.long t2), .second, .val (.int kx), .val (.ref b9), .val (.ref b10), .unset, .unset, .unset, .unset] [(.ref b10), (.int (1 : Int32)), (.ref b9)])) _
    refine XS.lconst X13.here hx rfl (hb hby at_97) ?_
    show Steps p.tables e below (T13.setTop (mkF m 98 #[.val (.long q0), .second, .val (.int p1), .val (.long q2), .second, .val (.long q3), .second, .val (.int p4), .val (.long st), .second, .val (.int nn), .val (.long (q2 &&& (9223372036854775807 : Int64))), .second, .val (.long (q3 &&& (9223372036854775807 : Int64))), .second, .val (.long t1), .second, .val (.long t2), .second, .val (.int kx), .val (.ref b9), .val (.ref b10), .unset, .unset, .unset, .unset] [(.long (1 : Int64)), (.ref b10), (.int (1 : Int32)), (.ref b9)])) _
    refine st14.trans ?_
    show Steps p.tables e below (T14.setTop (mkF m 101 #[.val (.long q0), .second, .val (.int p1), .val (.long q2), .second, .val (.long q3), .second, .val (.int p4), .val (.long st), .second, .val (.int nn), .val (.long (q2 &&& (9223372036854775807 : Int64))), .second, .val (.long (q3 &&& (9223372036854775807 : Int64))), .second, .val (.long t1), .second, .val (.long t2), .second, .val (.int kx), .val (.ref b9), .val (.ref b10), .unset, .unset, .unset, .unset] [(.ref c1), (.int (1 : Int32)), (.ref b9)])) _
    refine st15 _ ?_
    show Steps p.tables e below (T15.setTop (mkF m 102 #[.val (.long q0), .second, .val (.int p1), .val (.long q2), .second, .val (.long q3), .second, .val (.int p4), .val (.long st), .second, .val (.int nn), .val (.long (q2 &&& (9223372036854775807 : Int64))), .second, .val (.long (q3 &&& (9223372036854775807 : Int64))), .second, .val (.long t1), .second, .val (.long t2), .second, .val (.int kx), .val (.ref b9), .val (.ref b10), .unset, .unset, .unset, .unset] [])) _
    refine XS.iload X15.here hx rfl (hb hby at_102) rfl ?_
    show Steps p.tables e below (T15.setTop (mkF m 104 #[.val (.long q0), .second, .val (.int p1), .val (.long q2), .second, .val (.long q3), .second, .val (.int p4), .val (.long st), .second, .val (.int nn), .val (.long (q2 &&& (9223372036854775807 : Int64))), .second, .val (.long (q3 &&& (9223372036854775807 : Int64))), .second, .val (.long t1), .second, .val (.long t2), .second, .val (.int kx), .val (.ref b9), .val (.ref b10), .unset, .unset, .unset, .unset] [(.int nn)])) _
    refine XS.iconst X15.here hx rfl (hb hby at_104) ?_
    exact kt
  by_cases hc105 : (2 : Int32) < nn
  ·
    have hq_c2 : 0 ≤ ((2 : Int64)).toInt ∧ ((2 : Int64)).toInt < nn.toInt := (by have z : (2 : Int64).toInt = 2 := (by decide); have u := hc105; rw [Int32.lt_iff_toInt_lt] at u; have y : (2 : Int32).toInt = 2 := (by decide); omega)
    have hb_c2 := own_ixB hnn bs1 hq_c2
    have hl_c2 : (own_ix (own_slot t1 st nn) (2 : Int64) nn).toNatClampNeg < bs11.length := by rw [hbl11]; exact own_inl hb_c2
    obtain ⟨cq17, kq17, q17a, q17b, q17c⟩ := isOf hZ e15 E_b10
    obtain ⟨_, _, ⟨T17, L17, k17, n17⟩, -, X17, ⟨Lc17, hQ17, l17, y17, z17⟩, st17⟩ := X15.virtualBack hx (y := (⟨"com/example/lachesis/lachesis/timer/Wheel", "bucket", "(J)Lcom/example/lachesis/lachesis/timer/Bucket;"⟩ : MethodName)) (z := (⟨"com/example/lachesis/lachesis/timer/Wheel", "bucket", "(J)Lcom/example/lachesis/lachesis/timer/Bucket;"⟩ : MethodName)) hown (mvT hZ (hw _ (List.mem_of_getElem? (i := 48) rfl))) (mvT hZ (hw _ (List.mem_of_getElem? (i := 49) rfl))) (notFace_of_selects (args := #[]) (mvT hZ (hw _ (List.mem_of_getElem? (i := 51) rfl)))) (mvT hZ (hw _ (List.mem_of_getElem? (i := 51) rfl))) (mvT hZ (hw _ (List.mem_of_getElem? (i := 50) rfl))) (by decide) (backOf (W := 2) (rmK l Z a0 hw [] b10 (2 : Int64) (own_slot t1 st nn) ba11 kk11 nn bs11 (own_ix (own_slot t1 st nn) (2 : Int64) nn) h15 n0 Zn F_slot_b10 F_buckets_b10 V_ba11 hbl11 hb_c2 rfl) hZ (hw _ (List.mem_of_getElem? (i := 52) rfl)) (hw _ (List.mem_of_getElem? (i := 13) rfl)) (by decide) (by decide)) q17a q17c (g := (mkF m 116 #[.val (.long q0), .second, .val (.int p1), .val (.long q2), .second, .val (.long q3), .second, .val (.int p4), .val (.long st), .second, .val (.int nn), .val (.long (q2 &&& (9223372036854775807 : Int64))), .second, .val (.long (q3 &&& (9223372036854775807 : Int64))), .second, .val (.long t1), .second, .val (.long t2), .second, .val (.int kx), .val (.ref b9), .val (.ref b10), .unset, .unset, .unset, .unset] [(.long (2 : Int64)), (.ref b10), (.int (2 : Int32)), (.ref b9)])) rfl (by rw [hml]; rfl) (Steps.refl _) (argsL := [(.long (2 : Int64))]) (rest := [(.int (2 : Int32)), (.ref b9)]) (lenOf pd_7 rfl) rfl (by show 2 * 0 + _ ≤ _; exact Nat.le_of_eq rfl) (hb hby at_116) (fun _ _ => ⟨rfl, e15, (by decide : 8 + 0 ≤ _), (by decide : 35 + 0 ≤ _)⟩)
    dsimp only [Pt.U, Pt.locs, Pt.cells, Pt.slots] at X17 l17 y17 z17 st17 hQ17
    subst l17 y17 z17
    obtain ⟨rfl, N17q, e17q⟩ := hQ17
    have N17 := Fr.app N15 N17q
    have e17 : T17.heap = h15 := e17q
    obtain ⟨c2, hv_c2⟩ : ∃ z, z = bs11.getD (own_ix (own_slot t1 st nn) (2 : Int64) nn).toNatClampNeg 0 := ⟨_, rfl⟩
    rw [← hv_c2] at st17
    have E_c2 : Exa Z _ c2 "com/example/lachesis/lachesis/timer/Bucket" := hv_c2 ▸ X_bs.at hl_c2
    obtain ⟨cl18, Ar18, q18, S18, N18z, H18, G18⟩ := V_b9
    have hin18 : ¬ ((2 : Int32) < 0 ∨ cl18.slots.size ≤ ((2 : Int32)).toNatClampNeg) := inb_of S18 ⟨by decide, by decide⟩
    obtain ⟨T18, h18, X18, e18, W18, st18⟩ := stR X17 hx hZ e17 Ar18 (j := (2 : Int32)) hin18 rfl (Sto.ofV Ar18 q18 O9 (Ins.self E_c2)) (g := (mkF m 119 #[.val (.long q0), .second, .val (.int p1), .val (.long q2), .second, .val (.long q3), .second, .val (.int p4), .val (.long st), .second, .val (.int nn), .val (.long (q2 &&& (9223372036854775807 : Int64))), .second, .val (.long (q3 &&& (9223372036854775807 : Int64))), .second, .val (.long t1), .second, .val (.long t2), .second, .val (.int kx), .val (.ref b9), .val (.ref b10), .unset, .unset, .unset, .unset] [(.ref c2), (.int (2 : Int32)), (.ref b9)])) rfl rfl (hb hby at_119)
    replace OLD := OLD.wr W18 g_b9
    replace E_b10 := E_b10.wr W18
    replace V_ba11 := V_ba11.other W18 (Ne.symm ne_b9_ba11)
    replace F_slotTicks_b10 := F_slotTicks_b10.other W18 (Or.inl (Ne.symm ne_b9_b10))
    replace F_spanTicks_b10 := F_spanTicks_b10.other W18 (Or.inl (Ne.symm ne_b9_b10))
    replace F_buckets_b10 := F_buckets_b10.other W18 (Or.inl (Ne.symm ne_b9_b10))
    replace F_slotStart_b10 := F_slotStart_b10.other W18 (Or.inl (Ne.symm ne_b9_b10))
    replace F_slot_b10 := F_slot_b10.other W18 (Or.inl (Ne.symm ne_b9_b10))
    replace X_bs := X_bs.wr W18
    replace E_c0 := E_c0.wr W18
    replace E_c1 := E_c1.wr W18
    replace E_c2 := E_c2.wr W18
    have V_b9 : Arv Z h18 b9 k9 (.object "com/example/lachesis/lachesis/timer/Bucket") (5 : Int32) [(.ref c0), (.ref c1), (.ref c2), .null, .null] .null := Arv.set Ar18 q18 S18 N18z H18 G18 rfl W18 2 rfl (Nat.le_of_ble_eq_true rfl)
    replace Zn := Nat.le_trans Zn (Keep.of_wr W18).1
    have N18 := Fr.snoc X18 N17 g_b9
    have K19 : ∀ t, Steps p.tables e below (T18.setTop (mkF m 123 #[.val (.long q0), .second, .val (.int p1), .val (.long q2), .second, .val (.long q3), .second, .val (.int p4), .val (.long st), .second, .val (.int nn), .val (.long (q2 &&& (9223372036854775807 : Int64))), .second, .val (.long (q3 &&& (9223372036854775807 : Int64))), .second, .val (.long t1), .second, .val (.long t2), .second, .val (.int kx), .val (.ref b9), .val (.ref b10), .unset, .unset, .unset, .unset] [(.int (3 : Int32)), (.int nn)])) t → Steps p.tables e below (s₁.setTop (entryFrame m #[(.long q0), (.int p1), (.long q2), (.long q3), (.int p4)] maxLocals)) t := by
      intro t kt
      refine K16 t ?_
      show Steps p.tables e below (T15.setTop (mkF m 105 #[.val (.long q0), .second, .val (.int p1), .val (.long q2), .second, .val (.long q3), .second, .val (.int p4), .val (.long st), .second, .val (.int nn), .val (.long (q2 &&& (9223372036854775807 : Int64))), .second, .val (.long (q3 &&& (9223372036854775807 : Int64))), .second, .val (.long t1), .second, .val (.long t2), .second, .val (.int kx), .val (.ref b9), .val (.ref b10), .unset, .unset, .unset, .unset] [(.int (2 : Int32)), (.int nn)])) _
      refine XS.icmpNo X15.here hx rfl (hb hby at_105) rfl (tlt hc105).2.2.2 ?_
      show Steps p.tables e below (T15.setTop (mkF m 108 #[.val (.long q0), .second, .val (.int p1), .val (.long q2), .second, .val (.long q3), .second, .val (.int p4), .val (.long st), .second, .val (.int nn), .val (.long (q2 &&& (9223372036854775807 : Int64))), .second, .val (.long (q3 &&& (9223372036854775807 : Int64))), .second, .val (.long t1), .second, .val (.long t2), .second, .val (.int kx), .val (.ref b9), .val (.ref b10), .unset, .unset, .unset, .unset] [])) _
      refine XS.aload X15.here hx rfl (hb hby at_108) rfl rfl ?_
      show Steps p.tables e below (T15.setTop (mkF m 110 #[.val (.long q0), .second, .val (.int p1), .val (.long q2), .second, .val (.long q3), .second, .val (.int p4), .val (.long st), .second, .val (.int nn), .val (.long (q2 &&& (9223372036854775807 : Int64))), .second, .val (.long (q3 &&& (9223372036854775807 : Int64))), .second, .val (.long t1), .second, .val (.long t2), .second, .val (.int kx), .val (.ref b9), .val (.ref b10), .unset, .unset, .unset, .unset] [(.ref b9)])) _
      refine XS.iconst X15.here hx rfl (hb hby at_110) ?_
      show Steps p.tables e below (T15.setTop (mkF m 111 #[.val (.long q0), .second, .val (.int p1), .val (.long q2), .second, .val (.long q3), .second, .val (.int p4), .val (.long st), .second, .val (.int nn), .val (.long (q2 &&& (9223372036854775807 : Int64))), .second, .val (.long (q3 &&& (9223372036854775807 : Int64))), .second, .val (.long t1), .second, .val (.long t2), .second, .val (.int kx), .val (.ref b9), .val (.ref b10), .unset, .unset, .unset, .unset] [(.int (2 : Int32)), (.ref b9)])) _
      refine XS.aload X15.here hx rfl (hb hby at_111) rfl rfl ?_
      show Steps p.tables e below (T15.setTop (mkF m 113 #[.val (.long q0), .second, .val (.int p1), .val (.long q2), .second, .val (.long q3), .second, .val (.int p4), .val (.long st), .second, .val (.int nn), .val (.long (q2 &&& (9223372036854775807 : Int64))), .second, .val (.long (q3 &&& (9223372036854775807 : Int64))), .second, .val (.long t1), .second, .val (.long t2), .second, .val (.int kx), .val (.ref b9), .val (.ref b10), .unset, .unset, .unset, .unset] [(.ref b10), (.int (2 : Int32)), (.ref b9)])) _
      refine X15.ldc2Long hx hown (mvT hZ (hw _ (List.mem_of_getElem? (i := 53) rfl))) (g := (mkF m 113 #[.val (.long q0), .second, .val (.int p1), .val (.long q2), .second, .val (.long q3), .second, .val (.int p4), .val (.long st), .second, .val (.int nn), .val (.long (q2 &&& (9223372036854775807 : Int64))), .second, .val (.long (q3 &&& (9223372036854775807 : Int64))), .second, .val (.long t1), .second, .val (.long t2), .second, .val (.int kx), .val (.ref b9), .val (.ref b10), .unset, .unset, .unset, .unset] [(.ref b10), (.int (2 : Int32)), (.ref b9)])) rfl (hb hby at_113) _ ?_
      show Steps p.tables e below (T15.setTop (mkF m 116 #[.val (.long q0), .second, .val (.int p1), .val (.long q2), .second, .val (.long q3), .second, .val (.int p4), .val (.long st), .second, .val (.int nn), .val (.long (q2 &&& (9223372036854775807 : Int64))), .second, .val (.long (q3 &&& (9223372036854775807 : Int64))), .second, .val (.long t1), .second, .val (.long t2), .second, .val (.int kx), .val (.ref b9), .val (.ref b10), .unset, .unset, .unset, .unset] [(.long (2 : Int64)), (.ref b10), (.int (2 : Int32)), (.ref b9)])) _
      refine st17.trans ?_
      show Steps p.tables e below (T17.setTop (mkF m 119 #[.val (.long q0), .second, .val (.int p1), .val (.long q2), .second, .val (.long q3), .second, .val (.int p4), .val (.long st), .second, .val (.int nn), .val (.long (q2 &&& (9223372036854775807 : Int64))), .second, .val (.long (q3 &&& (9223372036854775807 : Int64))), .second, .val (.long t1), .second, .val (.long t2), .second, .val (.int kx), .val (.ref b9), .val (.ref b10), .unset, .unset, .unset, .unset] [(.ref c2), (.int (2 : Int32)), (.ref b9)])) _
      refine st18 _ ?_
      show Steps p.tables e below (T18.setTop (mkF m 120 #[.val (.long q0), .second, .val (.int p1), .val (.long q2), .second, .val (.long q3), .second, .val (.int p4), .val (.long st), .second, .val (.int nn), .val (.long (q2 &&& (9223372036854775807 : Int64))), .second, .val (.long (q3 &&& (9223372036854775807 : Int64))), .second, .val (.long t1), .second, .val (.long t2), .second, .val (.int kx), .val (.ref b9), .val (.ref b10), .unset, .unset, .unset, .unset] [])) _
      refine XS.iload X18.here hx rfl (hb hby at_120) rfl ?_
      show Steps p.tables e below (T18.setTop (mkF m 122 #[.val (.long q0), .second, .val (.int p1), .val (.long q2), .second, .val (.long q3), .second, .val (.int p4), .val (.long st), .second, .val (.int nn), .val (.long (q2 &&& (9223372036854775807 : Int64))), .second, .val (.long (q3 &&& (9223372036854775807 : Int64))), .second, .val (.long t1), .second, .val (.long t2), .second, .val (.int kx), .val (.ref b9), .val (.ref b10), .unset, .unset, .unset, .unset] [(.int nn)])) _
      refine XS.iconst X18.here hx rfl (hb hby at_122) ?_
      exact kt
    by_cases hc123 : (3 : Int32) < nn
    ·
      have hq_c3 : 0 ≤ ((3 : Int64)).toInt ∧ ((3 : Int64)).toInt < nn.toInt := (by have z : (3 : Int64).toInt = 3 := (by decide); have u := hc123; rw [Int32.lt_iff_toInt_lt] at u; have y : (3 : Int32).toInt = 3 := (by decide); omega)
      have hb_c3 := own_ixB hnn bs1 hq_c3
      have hl_c3 : (own_ix (own_slot t1 st nn) (3 : Int64) nn).toNatClampNeg < bs11.length := by rw [hbl11]; exact own_inl hb_c3
      obtain ⟨cq20, kq20, q20a, q20b, q20c⟩ := isOf hZ e18 E_b10
      obtain ⟨_, _, ⟨T20, L20, k20, n20⟩, -, X20, ⟨Lc20, hQ20, l20, y20, z20⟩, st20⟩ := X18.virtualBack hx (y := (⟨"com/example/lachesis/lachesis/timer/Wheel", "bucket", "(J)Lcom/example/lachesis/lachesis/timer/Bucket;"⟩ : MethodName)) (z := (⟨"com/example/lachesis/lachesis/timer/Wheel", "bucket", "(J)Lcom/example/lachesis/lachesis/timer/Bucket;"⟩ : MethodName)) hown (mvT hZ (hw _ (List.mem_of_getElem? (i := 48) rfl))) (mvT hZ (hw _ (List.mem_of_getElem? (i := 49) rfl))) (notFace_of_selects (args := #[]) (mvT hZ (hw _ (List.mem_of_getElem? (i := 51) rfl)))) (mvT hZ (hw _ (List.mem_of_getElem? (i := 51) rfl))) (mvT hZ (hw _ (List.mem_of_getElem? (i := 50) rfl))) (by decide) (backOf (W := 2) (rmK l Z a0 hw [] b10 (3 : Int64) (own_slot t1 st nn) ba11 kk11 nn bs11 (own_ix (own_slot t1 st nn) (3 : Int64) nn) h18 n0 Zn F_slot_b10 F_buckets_b10 V_ba11 hbl11 hb_c3 rfl) hZ (hw _ (List.mem_of_getElem? (i := 52) rfl)) (hw _ (List.mem_of_getElem? (i := 13) rfl)) (by decide) (by decide)) q20a q20c (g := (mkF m 134 #[.val (.long q0), .second, .val (.int p1), .val (.long q2), .second, .val (.long q3), .second, .val (.int p4), .val (.long st), .second, .val (.int nn), .val (.long (q2 &&& (9223372036854775807 : Int64))), .second, .val (.long (q3 &&& (9223372036854775807 : Int64))), .second, .val (.long t1), .second, .val (.long t2), .second, .val (.int kx), .val (.ref b9), .val (.ref b10), .unset, .unset, .unset, .unset] [(.long (3 : Int64)), (.ref b10), (.int (3 : Int32)), (.ref b9)])) rfl (by rw [hml]; rfl) (Steps.refl _) (argsL := [(.long (3 : Int64))]) (rest := [(.int (3 : Int32)), (.ref b9)]) (lenOf pd_7 rfl) rfl (by show 2 * 0 + _ ≤ _; exact Nat.le_of_eq rfl) (hb hby at_134) (fun _ _ => ⟨rfl, e18, (by decide : 8 + 0 ≤ _), (by decide : 35 + 0 ≤ _)⟩)
      dsimp only [Pt.U, Pt.locs, Pt.cells, Pt.slots] at X20 l20 y20 z20 st20 hQ20
      subst l20 y20 z20
      obtain ⟨rfl, N20q, e20q⟩ := hQ20
      have N20 := Fr.app N18 N20q
      have e20 : T20.heap = h18 := e20q
      obtain ⟨c3, hv_c3⟩ : ∃ z, z = bs11.getD (own_ix (own_slot t1 st nn) (3 : Int64) nn).toNatClampNeg 0 := ⟨_, rfl⟩
      rw [← hv_c3] at st20
      have E_c3 : Exa Z _ c3 "com/example/lachesis/lachesis/timer/Bucket" := hv_c3 ▸ X_bs.at hl_c3
      obtain ⟨cl21, Ar21, q21, S21, N21z, H21, G21⟩ := V_b9
      have hin21 : ¬ ((3 : Int32) < 0 ∨ cl21.slots.size ≤ ((3 : Int32)).toNatClampNeg) := inb_of S21 ⟨by decide, by decide⟩
      obtain ⟨T21, h21, X21, e21, W21, st21⟩ := stR X20 hx hZ e20 Ar21 (j := (3 : Int32)) hin21 rfl (Sto.ofV Ar21 q21 O9 (Ins.self E_c3)) (g := (mkF m 137 #[.val (.long q0), .second, .val (.int p1), .val (.long q2), .second, .val (.long q3), .second, .val (.int p4), .val (.long st), .second, .val (.int nn), .val (.long (q2 &&& (9223372036854775807 : Int64))), .second, .val (.long (q3 &&& (9223372036854775807 : Int64))), .second, .val (.long t1), .second, .val (.long t2), .second, .val (.int kx), .val (.ref b9), .val (.ref b10), .unset, .unset, .unset, .unset] [(.ref c3), (.int (3 : Int32)), (.ref b9)])) rfl rfl (hb hby at_137)
      replace OLD := OLD.wr W21 g_b9
      replace E_b10 := E_b10.wr W21
      replace V_ba11 := V_ba11.other W21 (Ne.symm ne_b9_ba11)
      replace F_slotTicks_b10 := F_slotTicks_b10.other W21 (Or.inl (Ne.symm ne_b9_b10))
      replace F_spanTicks_b10 := F_spanTicks_b10.other W21 (Or.inl (Ne.symm ne_b9_b10))
      replace F_buckets_b10 := F_buckets_b10.other W21 (Or.inl (Ne.symm ne_b9_b10))
      replace F_slotStart_b10 := F_slotStart_b10.other W21 (Or.inl (Ne.symm ne_b9_b10))
      replace F_slot_b10 := F_slot_b10.other W21 (Or.inl (Ne.symm ne_b9_b10))
      replace X_bs := X_bs.wr W21
      replace E_c0 := E_c0.wr W21
      replace E_c1 := E_c1.wr W21
      replace E_c2 := E_c2.wr W21
      replace E_c3 := E_c3.wr W21
      have V_b9 : Arv Z h21 b9 k9 (.object "com/example/lachesis/lachesis/timer/Bucket") (5 : Int32) [(.ref c0), (.ref c1), (.ref c2), (.ref c3), .null] .null := Arv.set Ar21 q21 S21 N21z H21 G21 rfl W21 3 rfl (Nat.le_of_ble_eq_true rfl)
      replace Zn := Nat.le_trans Zn (Keep.of_wr W21).1
      have N21 := Fr.snoc X21 N20 g_b9
      have K22 : ∀ t, Steps p.tables e below (T21.setTop (mkF m 141 #[.val (.long q0), .second, .val (.int p1), .val (.long q2), .second, .val (.long q3), .second, .val (.int p4), .val (.long st), .second, .val (.int nn), .val (.long (q2 &&& (9223372036854775807 : Int64))), .second, .val (.long (q3 &&& (9223372036854775807 : Int64))), .second, .val (.long t1), .second, .val (.long t2), .second, .val (.int kx), .val (.ref b9), .val (.ref b10), .unset, .unset, .unset, .unset] [(.int (4 : Int32)), (.int nn)])) t → Steps p.tables e below (s₁.setTop (entryFrame m #[(.long q0), (.int p1), (.long q2), (.long q3), (.int p4)] maxLocals)) t := by
        intro t kt
        refine K19 t ?_
        show Steps p.tables e below (T18.setTop (mkF m 123 #[.val (.long q0), .second, .val (.int p1), .val (.long q2), .second, .val (.long q3), .second, .val (.int p4), .val (.long st), .second, .val (.int nn), .val (.long (q2 &&& (9223372036854775807 : Int64))), .second, .val (.long (q3 &&& (9223372036854775807 : Int64))), .second, .val (.long t1), .second, .val (.long t2), .second, .val (.int kx), .val (.ref b9), .val (.ref b10), .unset, .unset, .unset, .unset] [(.int (3 : Int32)), (.int nn)])) _
        refine XS.icmpNo X18.here hx rfl (hb hby at_123) rfl (tlt hc123).2.2.2 ?_
        show Steps p.tables e below (T18.setTop (mkF m 126 #[.val (.long q0), .second, .val (.int p1), .val (.long q2), .second, .val (.long q3), .second, .val (.int p4), .val (.long st), .second, .val (.int nn), .val (.long (q2 &&& (9223372036854775807 : Int64))), .second, .val (.long (q3 &&& (9223372036854775807 : Int64))), .second, .val (.long t1), .second, .val (.long t2), .second, .val (.int kx), .val (.ref b9), .val (.ref b10), .unset, .unset, .unset, .unset] [])) _
        refine XS.aload X18.here hx rfl (hb hby at_126) rfl rfl ?_
        show Steps p.tables e below (T18.setTop (mkF m 128 #[.val (.long q0), .second, .val (.int p1), .val (.long q2), .second, .val (.long q3), .second, .val (.int p4), .val (.long st), .second, .val (.int nn), .val (.long (q2 &&& (9223372036854775807 : Int64))), .second, .val (.long (q3 &&& (9223372036854775807 : Int64))), .second, .val (.long t1), .second, .val (.long t2), .second, .val (.int kx), .val (.ref b9), .val (.ref b10), .unset, .unset, .unset, .unset] [(.ref b9)])) _
        refine XS.iconst X18.here hx rfl (hb hby at_128) ?_
        show Steps p.tables e below (T18.setTop (mkF m 129 #[.val (.long q0), .second, .val (.int p1), .val (.long q2), .second, .val (.long q3), .second, .val (.int p4), .val (.long st), .second, .val (.int nn), .val (.long (q2 &&& (9223372036854775807 : Int64))), .second, .val (.long (q3 &&& (9223372036854775807 : Int64))), .second, .val (.long t1), .second, .val (.long t2), .second, .val (.int kx), .val (.ref b9), .val (.ref b10), .unset, .unset, .unset, .unset] [(.int (3 : Int32)), (.ref b9)])) _
        refine XS.aload X18.here hx rfl (hb hby at_129) rfl rfl ?_
        show Steps p.tables e below (T18.setTop (mkF m 131 #[.val (.long q0), .second, .val (.int p1), .val (.long q2), .second, .val (.long q3), .second, .val (.int p4), .val (.long st), .second, .val (.int nn), .val (.long (q2 &&& (9223372036854775807 : Int64))), .second, .val (.long (q3 &&& (9223372036854775807 : Int64))), .second, .val (.long t1), .second, .val (.long t2), .second, .val (.int kx), .val (.ref b9), .val (.ref b10), .unset, .unset, .unset, .unset] [(.ref b10), (.int (3 : Int32)), (.ref b9)])) _
        refine X18.ldc2Long hx hown (mvT hZ (hw _ (List.mem_of_getElem? (i := 54) rfl))) (g := (mkF m 131 #[.val (.long q0), .second, .val (.int p1), .val (.long q2), .second, .val (.long q3), .second, .val (.int p4), .val (.long st), .second, .val (.int nn), .val (.long (q2 &&& (9223372036854775807 : Int64))), .second, .val (.long (q3 &&& (9223372036854775807 : Int64))), .second, .val (.long t1), .second, .val (.long t2), .second, .val (.int kx), .val (.ref b9), .val (.ref b10), .unset, .unset, .unset, .unset] [(.ref b10), (.int (3 : Int32)), (.ref b9)])) rfl (hb hby at_131) _ ?_
        show Steps p.tables e below (T18.setTop (mkF m 134 #[.val (.long q0), .second, .val (.int p1), .val (.long q2), .second, .val (.long q3), .second, .val (.int p4), .val (.long st), .second, .val (.int nn), .val (.long (q2 &&& (9223372036854775807 : Int64))), .second, .val (.long (q3 &&& (9223372036854775807 : Int64))), .second, .val (.long t1), .second, .val (.long t2), .second, .val (.int kx), .val (.ref b9), .val (.ref b10), .unset, .unset, .unset, .unset] [(.long (3 : Int64)), (.ref b10), (.int (3 : Int32)), (.ref b9)])) _
        refine st20.trans ?_
        show Steps p.tables e below (T20.setTop (mkF m 137 #[.val (.long q0), .second, .val (.int p1), .val (.long q2), .second, .val (.long q3), .second, .val (.int p4), .val (.long st), .second, .val (.int nn), .val (.long (q2 &&& (9223372036854775807 : Int64))), .second, .val (.long (q3 &&& (9223372036854775807 : Int64))), .second, .val (.long t1), .second, .val (.long t2), .second, .val (.int kx), .val (.ref b9), .val (.ref b10), .unset, .unset, .unset, .unset] [(.ref c3), (.int (3 : Int32)), (.ref b9)])) _
        refine st21 _ ?_
        show Steps p.tables e below (T21.setTop (mkF m 138 #[.val (.long q0), .second, .val (.int p1), .val (.long q2), .second, .val (.long q3), .second, .val (.int p4), .val (.long st), .second, .val (.int nn), .val (.long (q2 &&& (9223372036854775807 : Int64))), .second, .val (.long (q3 &&& (9223372036854775807 : Int64))), .second, .val (.long t1), .second, .val (.long t2), .second, .val (.int kx), .val (.ref b9), .val (.ref b10), .unset, .unset, .unset, .unset] [])) _
        refine XS.iload X21.here hx rfl (hb hby at_138) rfl ?_
        show Steps p.tables e below (T21.setTop (mkF m 140 #[.val (.long q0), .second, .val (.int p1), .val (.long q2), .second, .val (.long q3), .second, .val (.int p4), .val (.long st), .second, .val (.int nn), .val (.long (q2 &&& (9223372036854775807 : Int64))), .second, .val (.long (q3 &&& (9223372036854775807 : Int64))), .second, .val (.long t1), .second, .val (.long t2), .second, .val (.int kx), .val (.ref b9), .val (.ref b10), .unset, .unset, .unset, .unset] [(.int nn)])) _
        refine XS.iconst X21.here hx rfl (hb hby at_140) ?_
        exact kt
      by_cases hc141 : (4 : Int32) < nn
      ·
        have hq_c4 : 0 ≤ ((4 : Int64)).toInt ∧ ((4 : Int64)).toInt < nn.toInt := (by have z : (4 : Int64).toInt = 4 := (by decide); have u := hc141; rw [Int32.lt_iff_toInt_lt] at u; have y : (4 : Int32).toInt = 4 := (by decide); omega)
        have hb_c4 := own_ixB hnn bs1 hq_c4
        have hl_c4 : (own_ix (own_slot t1 st nn) (4 : Int64) nn).toNatClampNeg < bs11.length := by rw [hbl11]; exact own_inl hb_c4
        obtain ⟨cq23, kq23, q23a, q23b, q23c⟩ := isOf hZ e21 E_b10
        obtain ⟨_, _, ⟨T23, L23, k23, n23⟩, -, X23, ⟨Lc23, hQ23, l23, y23, z23⟩, st23⟩ := X21.virtualBack hx (y := (⟨"com/example/lachesis/lachesis/timer/Wheel", "bucket", "(J)Lcom/example/lachesis/lachesis/timer/Bucket;"⟩ : MethodName)) (z := (⟨"com/example/lachesis/lachesis/timer/Wheel", "bucket", "(J)Lcom/example/lachesis/lachesis/timer/Bucket;"⟩ : MethodName)) hown (mvT hZ (hw _ (List.mem_of_getElem? (i := 48) rfl))) (mvT hZ (hw _ (List.mem_of_getElem? (i := 49) rfl))) (notFace_of_selects (args := #[]) (mvT hZ (hw _ (List.mem_of_getElem? (i := 51) rfl)))) (mvT hZ (hw _ (List.mem_of_getElem? (i := 51) rfl))) (mvT hZ (hw _ (List.mem_of_getElem? (i := 50) rfl))) (by decide) (backOf (W := 2) (rmK l Z a0 hw [] b10 (4 : Int64) (own_slot t1 st nn) ba11 kk11 nn bs11 (own_ix (own_slot t1 st nn) (4 : Int64) nn) h21 n0 Zn F_slot_b10 F_buckets_b10 V_ba11 hbl11 hb_c4 rfl) hZ (hw _ (List.mem_of_getElem? (i := 52) rfl)) (hw _ (List.mem_of_getElem? (i := 13) rfl)) (by decide) (by decide)) q23a q23c (g := (mkF m 152 #[.val (.long q0), .second, .val (.int p1), .val (.long q2), .second, .val (.long q3), .second, .val (.int p4), .val (.long st), .second, .val (.int nn), .val (.long (q2 &&& (9223372036854775807 : Int64))), .second, .val (.long (q3 &&& (9223372036854775807 : Int64))), .second, .val (.long t1), .second, .val (.long t2), .second, .val (.int kx), .val (.ref b9), .val (.ref b10), .unset, .unset, .unset, .unset] [(.long (4 : Int64)), (.ref b10), (.int (4 : Int32)), (.ref b9)])) rfl (by rw [hml]; rfl) (Steps.refl _) (argsL := [(.long (4 : Int64))]) (rest := [(.int (4 : Int32)), (.ref b9)]) (lenOf pd_7 rfl) rfl (by show 2 * 0 + _ ≤ _; exact Nat.le_of_eq rfl) (hb hby at_152) (fun _ _ => ⟨rfl, e21, (by decide : 8 + 0 ≤ _), (by decide : 35 + 0 ≤ _)⟩)
        dsimp only [Pt.U, Pt.locs, Pt.cells, Pt.slots] at X23 l23 y23 z23 st23 hQ23
        subst l23 y23 z23
        obtain ⟨rfl, N23q, e23q⟩ := hQ23
        have N23 := Fr.app N21 N23q
        have e23 : T23.heap = h21 := e23q
        obtain ⟨c4, hv_c4⟩ : ∃ z, z = bs11.getD (own_ix (own_slot t1 st nn) (4 : Int64) nn).toNatClampNeg 0 := ⟨_, rfl⟩
        rw [← hv_c4] at st23
        have E_c4 : Exa Z _ c4 "com/example/lachesis/lachesis/timer/Bucket" := hv_c4 ▸ X_bs.at hl_c4
        obtain ⟨cl24, Ar24, q24, S24, N24z, H24, G24⟩ := V_b9
        have hin24 : ¬ ((4 : Int32) < 0 ∨ cl24.slots.size ≤ ((4 : Int32)).toNatClampNeg) := inb_of S24 ⟨by decide, by decide⟩
        obtain ⟨T24, h24, X24, e24, W24, st24⟩ := stR X23 hx hZ e23 Ar24 (j := (4 : Int32)) hin24 rfl (Sto.ofV Ar24 q24 O9 (Ins.self E_c4)) (g := (mkF m 155 #[.val (.long q0), .second, .val (.int p1), .val (.long q2), .second, .val (.long q3), .second, .val (.int p4), .val (.long st), .second, .val (.int nn), .val (.long (q2 &&& (9223372036854775807 : Int64))), .second, .val (.long (q3 &&& (9223372036854775807 : Int64))), .second, .val (.long t1), .second, .val (.long t2), .second, .val (.int kx), .val (.ref b9), .val (.ref b10), .unset, .unset, .unset, .unset] [(.ref c4), (.int (4 : Int32)), (.ref b9)])) rfl rfl (hb hby at_155)
        replace OLD := OLD.wr W24 g_b9
        replace E_b10 := E_b10.wr W24
        replace V_ba11 := V_ba11.other W24 (Ne.symm ne_b9_ba11)
        replace F_slotTicks_b10 := F_slotTicks_b10.other W24 (Or.inl (Ne.symm ne_b9_b10))
        replace F_spanTicks_b10 := F_spanTicks_b10.other W24 (Or.inl (Ne.symm ne_b9_b10))
        replace F_buckets_b10 := F_buckets_b10.other W24 (Or.inl (Ne.symm ne_b9_b10))
        replace F_slotStart_b10 := F_slotStart_b10.other W24 (Or.inl (Ne.symm ne_b9_b10))
        replace F_slot_b10 := F_slot_b10.other W24 (Or.inl (Ne.symm ne_b9_b10))
        replace X_bs := X_bs.wr W24
        replace E_c0 := E_c0.wr W24
        replace E_c1 := E_c1.wr W24
        replace E_c2 := E_c2.wr W24
        replace E_c3 := E_c3.wr W24
        replace E_c4 := E_c4.wr W24
        have V_b9 : Arv Z h24 b9 k9 (.object "com/example/lachesis/lachesis/timer/Bucket") (5 : Int32) [(.ref c0), (.ref c1), (.ref c2), (.ref c3), (.ref c4)] .null := Arv.set Ar24 q24 S24 N24z H24 G24 rfl W24 4 rfl (Nat.le_of_ble_eq_true rfl)
        replace Zn := Nat.le_trans Zn (Keep.of_wr W24).1
        have N24 := Fr.snoc X24 N23 g_b9
        have y2 : (2 : Int32).toInt = 2 := by decide
        have y3 : (3 : Int32).toInt = 3 := by decide
        have y4 : (4 : Int32).toInt = 4 := by decide
        have u2 := hc105
        rw [Int32.lt_iff_toInt_lt] at u2
        have u3 := hc123
        rw [Int32.lt_iff_toInt_lt] at u3
        have u4 := hc141
        rw [Int32.lt_iff_toInt_lt] at u4
        have hk : nn.toInt = 5 := by omega
        obtain ⟨cq25, kq25, q25a, q25b, q25c⟩ := isOf hZ e24 E_b10
        obtain ⟨_, _, ⟨T25, L25, k25, n25⟩, -, X25, ⟨Lc25, hQ25, l25, y25, z25⟩, st25⟩ := X24.virtualBack hx (y := (⟨"com/example/lachesis/lachesis/timer/Wheel", "moveTo", "(J)V"⟩ : MethodName)) (z := (⟨"com/example/lachesis/lachesis/timer/Wheel", "moveTo", "(J)V"⟩ : MethodName)) hown (mvT hZ (hw _ (List.mem_of_getElem? (i := 55) rfl))) (mvT hZ (hw _ (List.mem_of_getElem? (i := 40) rfl))) (notFace_of_selects (args := #[]) (mvT hZ (hw _ (List.mem_of_getElem? (i := 42) rfl)))) (mvT hZ (hw _ (List.mem_of_getElem? (i := 42) rfl))) (mvT hZ (hw _ (List.mem_of_getElem? (i := 41) rfl))) (by decide) (backOf (W := 0) (rmM l Z a0 hw [] b10 t2 st (own_span st nn) ba11 ((t1 / st) * st) (own_slot t1 st nn) kk11 nn (bs11.map Value.ref) h24 n0 Zn E_b10 g_b10 ne_ba11_b10 F_slotTicks_b10 F_spanTicks_b10 F_buckets_b10 F_slotStart_b10 F_slot_b10 V_ba11 (own_nzst hst) (own_nz64 hnn.1)) hZ (hw _ (List.mem_of_getElem? (i := 43) rfl)) (hw _ (List.mem_of_getElem? (i := 13) rfl)) (by decide) (by decide)) q25a q25c (g := (mkF m 160 #[.val (.long q0), .second, .val (.int p1), .val (.long q2), .second, .val (.long q3), .second, .val (.int p4), .val (.long st), .second, .val (.int nn), .val (.long (q2 &&& (9223372036854775807 : Int64))), .second, .val (.long (q3 &&& (9223372036854775807 : Int64))), .second, .val (.long t1), .second, .val (.long t2), .second, .val (.int kx), .val (.ref b9), .val (.ref b10), .unset, .unset, .unset, .unset] [(.long t2), (.ref b10)])) rfl (by rw [hml]; rfl) (Steps.refl _) (argsL := [(.long t2)]) (rest := []) (lenOf pd_3 rfl) rfl (by show 2 * 0 + _ ≤ _; exact Nat.le_of_eq rfl) (hb hby at_160) (fun _ _ => ⟨rfl, e24, (by decide : 8 + 0 ≤ _), (by decide : 35 + 0 ≤ _)⟩)
        dsimp only [Pt.U, Pt.locs, Pt.cells, Pt.slots] at X25 l25 y25 z25 st25 hQ25
        subst l25 y25 z25
        obtain ⟨rfl, N25q, K25k, pf25_0, pf25_1, pf25_2, pf25_3, pf25_4, pf25_5⟩ := hQ25
        have N25 := Fr.app N24 N25q
        have OLD := OLD.keep K25k (allS g_b10 all0)
        have V_b9 := V_b9.keep K25k (ninS ne_b9_b10 nin0)
        have E_b10 := E_b10.keep K25k
        have V_ba11 := V_ba11.keep K25k (ninS ne_ba11_b10 nin0)
        have X_bs := X_bs.keep K25k
        have E_c0 := E_c0.keep K25k
        have E_c1 := E_c1.keep K25k
        have E_c2 := E_c2.keep K25k
        have E_c3 := E_c3.keep K25k
        have E_c4 := E_c4.keep K25k
        replace Zn := Nat.le_trans Zn K25k.1
        have E_b10 := pf25_0
        have F_slotTicks_b10 := pf25_1
        have F_spanTicks_b10 := pf25_2
        have F_buckets_b10 := pf25_3
        have F_slotStart_b10 := pf25_4
        have F_slot_b10 := pf25_5
        have hq_got : 0 ≤ ((kx.toInt64)).toInt ∧ ((kx.toInt64)).toInt < nn.toInt := (by rw [Jvm.Kit.i64_of_i32]; exact hkx)
        have hb_got := own_ixB hnn bs2 hq_got
        have hl_got : (own_ix (own_slot t2 st nn) (kx.toInt64) nn).toNatClampNeg < bs11.length := by rw [hbl11]; exact own_inl hb_got
        obtain ⟨cq26, kq26, q26a, q26b, q26c⟩ := isOf hZ rfl E_b10
        obtain ⟨_, _, ⟨T26, L26, k26, n26⟩, -, X26, ⟨Lc26, hQ26, l26, y26, z26⟩, st26⟩ := X25.virtualBack hx (y := (⟨"com/example/lachesis/lachesis/timer/Wheel", "bucket", "(J)Lcom/example/lachesis/lachesis/timer/Bucket;"⟩ : MethodName)) (z := (⟨"com/example/lachesis/lachesis/timer/Wheel", "bucket", "(J)Lcom/example/lachesis/lachesis/timer/Bucket;"⟩ : MethodName)) hown (mvT hZ (hw _ (List.mem_of_getElem? (i := 48) rfl))) (mvT hZ (hw _ (List.mem_of_getElem? (i := 49) rfl))) (notFace_of_selects (args := #[]) (mvT hZ (hw _ (List.mem_of_getElem? (i := 51) rfl)))) (mvT hZ (hw _ (List.mem_of_getElem? (i := 51) rfl))) (mvT hZ (hw _ (List.mem_of_getElem? (i := 50) rfl))) (by decide) (backOf (W := 0) (rmK l Z a0 hw [] b10 (kx.toInt64) (own_slot t2 st nn) ba11 kk11 nn bs11 (own_ix (own_slot t2 st nn) (kx.toInt64) nn) T25.heap n0 Zn F_slot_b10 F_buckets_b10 V_ba11 hbl11 hb_got rfl) hZ (hw _ (List.mem_of_getElem? (i := 52) rfl)) (hw _ (List.mem_of_getElem? (i := 13) rfl)) (by decide) (by decide)) q26a q26c (g := (mkF m 168 #[.val (.long q0), .second, .val (.int p1), .val (.long q2), .second, .val (.long q3), .second, .val (.int p4), .val (.long st), .second, .val (.int nn), .val (.long (q2 &&& (9223372036854775807 : Int64))), .second, .val (.long (q3 &&& (9223372036854775807 : Int64))), .second, .val (.long t1), .second, .val (.long t2), .second, .val (.int kx), .val (.ref b9), .val (.ref b10), .unset, .unset, .unset, .unset] [(.long (kx.toInt64)), (.ref b10)])) rfl (by rw [hml]; rfl) (Steps.refl _) (argsL := [(.long (kx.toInt64))]) (rest := []) (lenOf pd_7 rfl) rfl (by show 2 * 0 + _ ≤ _; exact Nat.le_of_eq rfl) (hb hby at_168) (fun _ _ => ⟨rfl, rfl, (by decide : 8 + 0 ≤ _), (by decide : 35 + 0 ≤ _)⟩)
        dsimp only [Pt.U, Pt.locs, Pt.cells, Pt.slots] at X26 l26 y26 z26 st26 hQ26
        subst l26 y26 z26
        obtain ⟨rfl, N26q, e26q⟩ := hQ26
        have N26 := Fr.app N25 N26q
        have e26 : T26.heap = T25.heap := e26q
        obtain ⟨got, hv_got⟩ : ∃ z, z = bs11.getD (own_ix (own_slot t2 st nn) (kx.toInt64) nn).toNatClampNeg 0 := ⟨_, rfl⟩
        rw [← hv_got] at st26
        have E_got : Exa Z _ got "com/example/lachesis/lachesis/timer/Bucket" := hv_got ▸ X_bs.at hl_got
        have K27 : ∀ t, Steps p.tables e below (T26.setTop (mkF m 213 #[.val (.long q0), .second, .val (.int p1), .val (.long q2), .second, .val (.long q3), .second, .val (.int p4), .val (.long st), .second, .val (.int nn), .val (.long (q2 &&& (9223372036854775807 : Int64))), .second, .val (.long (q3 &&& (9223372036854775807 : Int64))), .second, .val (.long t1), .second, .val (.long t2), .second, .val (.int kx), .val (.ref b9), .val (.ref b10), .val (.ref got), .val (.int (((t1 / st) - ((t1 / st) / (nn.toInt64)) * (nn.toInt64)).toInt32)), .val (.int (((t2 / st) - ((t2 / st) / (nn.toInt64)) * (nn.toInt64)).toInt32)), .val (.int (((((((t2 / st) - ((t2 / st) / (nn.toInt64)) * (nn.toInt64)).toInt32) + kx) - (((t1 / st) - ((t1 / st) / (nn.toInt64)) * (nn.toInt64)).toInt32)) + nn) - (((((((t2 / st) - ((t2 / st) / (nn.toInt64)) * (nn.toInt64)).toInt32) + kx) - (((t1 / st) - ((t1 / st) / (nn.toInt64)) * (nn.toInt64)).toInt32)) + nn) / nn) * nn))] [])) t → Steps p.tables e below (s₁.setTop (entryFrame m #[(.long q0), (.int p1), (.long q2), (.long q3), (.int p4)] maxLocals)) t := by
          intro t kt
          refine K22 t ?_
          show Steps p.tables e below (T21.setTop (mkF m 141 #[.val (.long q0), .second, .val (.int p1), .val (.long q2), .second, .val (.long q3), .second, .val (.int p4), .val (.long st), .second, .val (.int nn), .val (.long (q2 &&& (9223372036854775807 : Int64))), .second, .val (.long (q3 &&& (9223372036854775807 : Int64))), .second, .val (.long t1), .second, .val (.long t2), .second, .val (.int kx), .val (.ref b9), .val (.ref b10), .unset, .unset, .unset, .unset] [(.int (4 : Int32)), (.int nn)])) _
          refine XS.icmpNo X21.here hx rfl (hb hby at_141) rfl (tlt hc141).2.2.2 ?_
          show Steps p.tables e below (T21.setTop (mkF m 144 #[.val (.long q0), .second, .val (.int p1), .val (.long q2), .second, .val (.long q3), .second, .val (.int p4), .val (.long st), .second, .val (.int nn), .val (.long (q2 &&& (9223372036854775807 : Int64))), .second, .val (.long (q3 &&& (9223372036854775807 : Int64))), .second, .val (.long t1), .second, .val (.long t2), .second, .val (.int kx), .val (.ref b9), .val (.ref b10), .unset, .unset, .unset, .unset] [])) _
          refine XS.aload X21.here hx rfl (hb hby at_144) rfl rfl ?_
          show Steps p.tables e below (T21.setTop (mkF m 146 #[.val (.long q0), .second, .val (.int p1), .val (.long q2), .second, .val (.long q3), .second, .val (.int p4), .val (.long st), .second, .val (.int nn), .val (.long (q2 &&& (9223372036854775807 : Int64))), .second, .val (.long (q3 &&& (9223372036854775807 : Int64))), .second, .val (.long t1), .second, .val (.long t2), .second, .val (.int kx), .val (.ref b9), .val (.ref b10), .unset, .unset, .unset, .unset] [(.ref b9)])) _
          refine XS.iconst X21.here hx rfl (hb hby at_146) ?_
          show Steps p.tables e below (T21.setTop (mkF m 147 #[.val (.long q0), .second, .val (.int p1), .val (.long q2), .second, .val (.long q3), .second, .val (.int p4), .val (.long st), .second, .val (.int nn), .val (.long (q2 &&& (9223372036854775807 : Int64))), .second, .val (.long (q3 &&& (9223372036854775807 : Int64))), .second, .val (.long t1), .second, .val (.long t2), .second, .val (.int kx), .val (.ref b9), .val (.ref b10), .unset, .unset, .unset, .unset] [(.int (4 : Int32)), (.ref b9)])) _
          refine XS.aload X21.here hx rfl (hb hby at_147) rfl rfl ?_
          show Steps p.tables e below (T21.setTop (mkF m 149 #[.val (.long q0), .second, .val (.int p1), .val (.long q2), .second, .val (.long q3), .second, .val (.int p4), .val (.long st), .second, .val (.int nn), .val (.long (q2 &&& (9223372036854775807 : Int64))), .second, .val (.long (q3 &&& (9223372036854775807 : Int64))), .second, .val (.long t1), .second, .val (.long t2), .second, .val (.int kx), .val (.ref b9), .val (.ref b10), .unset, .unset, .unset, .unset] [(.ref b10), (.int (4 : Int32)), (.ref b9)])) _
          refine X21.ldc2Long hx hown (mvT hZ (hw _ (List.mem_of_getElem? (i := 60) rfl))) (g := (mkF m 149 #[.val (.long q0), .second, .val (.int p1), .val (.long q2), .second, .val (.long q3), .second, .val (.int p4), .val (.long st), .second, .val (.int nn), .val (.long (q2 &&& (9223372036854775807 : Int64))), .second, .val (.long (q3 &&& (9223372036854775807 : Int64))), .second, .val (.long t1), .second, .val (.long t2), .second, .val (.int kx), .val (.ref b9), .val (.ref b10), .unset, .unset, .unset, .unset] [(.ref b10), (.int (4 : Int32)), (.ref b9)])) rfl (hb hby at_149) _ ?_
          show Steps p.tables e below (T21.setTop (mkF m 152 #[.val (.long q0), .second, .val (.int p1), .val (.long q2), .second, .val (.long q3), .second, .val (.int p4), .val (.long st), .second, .val (.int nn), .val (.long (q2 &&& (9223372036854775807 : Int64))), .second, .val (.long (q3 &&& (9223372036854775807 : Int64))), .second, .val (.long t1), .second, .val (.long t2), .second, .val (.int kx), .val (.ref b9), .val (.ref b10), .unset, .unset, .unset, .unset] [(.long (4 : Int64)), (.ref b10), (.int (4 : Int32)), (.ref b9)])) _
          refine st23.trans ?_
          show Steps p.tables e below (T23.setTop (mkF m 155 #[.val (.long q0), .second, .val (.int p1), .val (.long q2), .second, .val (.long q3), .second, .val (.int p4), .val (.long st), .second, .val (.int nn), .val (.long (q2 &&& (9223372036854775807 : Int64))), .second, .val (.long (q3 &&& (9223372036854775807 : Int64))), .second, .val (.long t1), .second, .val (.long t2), .second, .val (.int kx), .val (.ref b9), .val (.ref b10), .unset, .unset, .unset, .unset] [(.ref c4), (.int (4 : Int32)), (.ref b9)])) _
          refine st24 _ ?_
          show Steps p.tables e below (T24.setTop (mkF m 156 #[.val (.long q0), .second, .val (.int p1), .val (.long q2), .second, .val (.long q3), .second, .val (.int p4), .val (.long st), .second, .val (.int nn), .val (.long (q2 &&& (9223372036854775807 : Int64))), .second, .val (.long (q3 &&& (9223372036854775807 : Int64))), .second, .val (.long t1), .second, .val (.long t2), .second, .val (.int kx), .val (.ref b9), .val (.ref b10), .unset, .unset, .unset, .unset] [])) _
          refine XS.aload X24.here hx rfl (hb hby at_156) rfl rfl ?_
          show Steps p.tables e below (T24.setTop (mkF m 158 #[.val (.long q0), .second, .val (.int p1), .val (.long q2), .second, .val (.long q3), .second, .val (.int p4), .val (.long st), .second, .val (.int nn), .val (.long (q2 &&& (9223372036854775807 : Int64))), .second, .val (.long (q3 &&& (9223372036854775807 : Int64))), .second, .val (.long t1), .second, .val (.long t2), .second, .val (.int kx), .val (.ref b9), .val (.ref b10), .unset, .unset, .unset, .unset] [(.ref b10)])) _
          refine XS.lload X24.here hx rfl (hb hby at_158) rfl ?_
          show Steps p.tables e below (T24.setTop (mkF m 160 #[.val (.long q0), .second, .val (.int p1), .val (.long q2), .second, .val (.long q3), .second, .val (.int p4), .val (.long st), .second, .val (.int nn), .val (.long (q2 &&& (9223372036854775807 : Int64))), .second, .val (.long (q3 &&& (9223372036854775807 : Int64))), .second, .val (.long t1), .second, .val (.long t2), .second, .val (.int kx), .val (.ref b9), .val (.ref b10), .unset, .unset, .unset, .unset] [(.long t2), (.ref b10)])) _
          refine st25.trans ?_
          show Steps p.tables e below (T25.setTop (mkF m 163 #[.val (.long q0), .second, .val (.int p1), .val (.long q2), .second, .val (.long q3), .second, .val (.int p4), .val (.long st), .second, .val (.int nn), .val (.long (q2 &&& (9223372036854775807 : Int64))), .second, .val (.long (q3 &&& (9223372036854775807 : Int64))), .second, .val (.long t1), .second, .val (.long t2), .second, .val (.int kx), .val (.ref b9), .val (.ref b10), .unset, .unset, .unset, .unset] [])) _
          refine XS.aload X25.here hx rfl (hb hby at_163) rfl rfl ?_
          show Steps p.tables e below (T25.setTop (mkF m 165 #[.val (.long q0), .second, .val (.int p1), .val (.long q2), .second, .val (.long q3), .second, .val (.int p4), .val (.long st), .second, .val (.int nn), .val (.long (q2 &&& (9223372036854775807 : Int64))), .second, .val (.long (q3 &&& (9223372036854775807 : Int64))), .second, .val (.long t1), .second, .val (.long t2), .second, .val (.int kx), .val (.ref b9), .val (.ref b10), .unset, .unset, .unset, .unset] [(.ref b10)])) _
          refine XS.iload X25.here hx rfl (hb hby at_165) rfl ?_
          show Steps p.tables e below (T25.setTop (mkF m 167 #[.val (.long q0), .second, .val (.int p1), .val (.long q2), .second, .val (.long q3), .second, .val (.int p4), .val (.long st), .second, .val (.int nn), .val (.long (q2 &&& (9223372036854775807 : Int64))), .second, .val (.long (q3 &&& (9223372036854775807 : Int64))), .second, .val (.long t1), .second, .val (.long t2), .second, .val (.int kx), .val (.ref b9), .val (.ref b10), .unset, .unset, .unset, .unset] [(.int kx), (.ref b10)])) _
          refine XS.i2l X25.here hx rfl (hb hby at_167) rfl ?_
          show Steps p.tables e below (T25.setTop (mkF m 168 #[.val (.long q0), .second, .val (.int p1), .val (.long q2), .second, .val (.long q3), .second, .val (.int p4), .val (.long st), .second, .val (.int nn), .val (.long (q2 &&& (9223372036854775807 : Int64))), .second, .val (.long (q3 &&& (9223372036854775807 : Int64))), .second, .val (.long t1), .second, .val (.long t2), .second, .val (.int kx), .val (.ref b9), .val (.ref b10), .unset, .unset, .unset, .unset] [(.long (kx.toInt64)), (.ref b10)])) _
          refine st26.trans ?_
          show Steps p.tables e below (T26.setTop (mkF m 171 #[.val (.long q0), .second, .val (.int p1), .val (.long q2), .second, .val (.long q3), .second, .val (.int p4), .val (.long st), .second, .val (.int nn), .val (.long (q2 &&& (9223372036854775807 : Int64))), .second, .val (.long (q3 &&& (9223372036854775807 : Int64))), .second, .val (.long t1), .second, .val (.long t2), .second, .val (.int kx), .val (.ref b9), .val (.ref b10), .unset, .unset, .unset, .unset] [(.ref got)])) _
          refine XS.astore X26.here hx rfl (hb hby at_171) rfl rfl (l' := #[.val (.long q0), .second, .val (.int p1), .val (.long q2), .second, .val (.long q3), .second, .val (.int p4), .val (.long st), .second, .val (.int nn), .val (.long (q2 &&& (9223372036854775807 : Int64))), .second, .val (.long (q3 &&& (9223372036854775807 : Int64))), .second, .val (.long t1), .second, .val (.long t2), .second, .val (.int kx), .val (.ref b9), .val (.ref b10), .val (.ref got), .unset, .unset, .unset]) rfl ?_
          show Steps p.tables e below (T26.setTop (mkF m 173 #[.val (.long q0), .second, .val (.int p1), .val (.long q2), .second, .val (.long q3), .second, .val (.int p4), .val (.long st), .second, .val (.int nn), .val (.long (q2 &&& (9223372036854775807 : Int64))), .second, .val (.long (q3 &&& (9223372036854775807 : Int64))), .second, .val (.long t1), .second, .val (.long t2), .second, .val (.int kx), .val (.ref b9), .val (.ref b10), .val (.ref got), .unset, .unset, .unset] [])) _
          refine XS.lload X26.here hx rfl (hb hby at_173) rfl ?_
          show Steps p.tables e below (T26.setTop (mkF m 175 #[.val (.long q0), .second, .val (.int p1), .val (.long q2), .second, .val (.long q3), .second, .val (.int p4), .val (.long st), .second, .val (.int nn), .val (.long (q2 &&& (9223372036854775807 : Int64))), .second, .val (.long (q3 &&& (9223372036854775807 : Int64))), .second, .val (.long t1), .second, .val (.long t2), .second, .val (.int kx), .val (.ref b9), .val (.ref b10), .val (.ref got), .unset, .unset, .unset] [(.long t1)])) _
          refine XS.lload X26.here hx rfl (hb hby at_175) rfl ?_
          show Steps p.tables e below (T26.setTop (mkF m 177 #[.val (.long q0), .second, .val (.int p1), .val (.long q2), .second, .val (.long q3), .second, .val (.int p4), .val (.long st), .second, .val (.int nn), .val (.long (q2 &&& (9223372036854775807 : Int64))), .second, .val (.long (q3 &&& (9223372036854775807 : Int64))), .second, .val (.long t1), .second, .val (.long t2), .second, .val (.int kx), .val (.ref b9), .val (.ref b10), .val (.ref got), .unset, .unset, .unset] [(.long st), (.long t1)])) _
          refine XS.ldiv X26.here hx rfl (hb hby at_177) rfl (own_nzst hst) ?_
          show Steps p.tables e below (T26.setTop (mkF m 178 #[.val (.long q0), .second, .val (.int p1), .val (.long q2), .second, .val (.long q3), .second, .val (.int p4), .val (.long st), .second, .val (.int nn), .val (.long (q2 &&& (9223372036854775807 : Int64))), .second, .val (.long (q3 &&& (9223372036854775807 : Int64))), .second, .val (.long t1), .second, .val (.long t2), .second, .val (.int kx), .val (.ref b9), .val (.ref b10), .val (.ref got), .unset, .unset, .unset] [(.long (t1 / st))])) _
          refine XS.iload X26.here hx rfl (hb hby at_178) rfl ?_
          show Steps p.tables e below (T26.setTop (mkF m 180 #[.val (.long q0), .second, .val (.int p1), .val (.long q2), .second, .val (.long q3), .second, .val (.int p4), .val (.long st), .second, .val (.int nn), .val (.long (q2 &&& (9223372036854775807 : Int64))), .second, .val (.long (q3 &&& (9223372036854775807 : Int64))), .second, .val (.long t1), .second, .val (.long t2), .second, .val (.int kx), .val (.ref b9), .val (.ref b10), .val (.ref got), .unset, .unset, .unset] [(.int nn), (.long (t1 / st))])) _
          refine XS.i2l X26.here hx rfl (hb hby at_180) rfl ?_
          show Steps p.tables e below (T26.setTop (mkF m 181 #[.val (.long q0), .second, .val (.int p1), .val (.long q2), .second, .val (.long q3), .second, .val (.int p4), .val (.long st), .second, .val (.int nn), .val (.long (q2 &&& (9223372036854775807 : Int64))), .second, .val (.long (q3 &&& (9223372036854775807 : Int64))), .second, .val (.long t1), .second, .val (.long t2), .second, .val (.int kx), .val (.ref b9), .val (.ref b10), .val (.ref got), .unset, .unset, .unset] [(.long (nn.toInt64)), (.long (t1 / st))])) _
          refine XS.lrem X26.here hx rfl (hb hby at_181) rfl (own_nz64 hnn.1) ?_
          show Steps p.tables e below (T26.setTop (mkF m 182 #[.val (.long q0), .second, .val (.int p1), .val (.long q2), .second, .val (.long q3), .second, .val (.int p4), .val (.long st), .second, .val (.int nn), .val (.long (q2 &&& (9223372036854775807 : Int64))), .second, .val (.long (q3 &&& (9223372036854775807 : Int64))), .second, .val (.long t1), .second, .val (.long t2), .second, .val (.int kx), .val (.ref b9), .val (.ref b10), .val (.ref got), .unset, .unset, .unset] [(.long ((t1 / st) - ((t1 / st) / (nn.toInt64)) * (nn.toInt64)))])) _
          refine XS.l2i X26.here hx rfl (hb hby at_182) rfl ?_
          show Steps p.tables e below (T26.setTop (mkF m 183 #[.val (.long q0), .second, .val (.int p1), .val (.long q2), .second, .val (.long q3), .second, .val (.int p4), .val (.long st), .second, .val (.int nn), .val (.long (q2 &&& (9223372036854775807 : Int64))), .second, .val (.long (q3 &&& (9223372036854775807 : Int64))), .second, .val (.long t1), .second, .val (.long t2), .second, .val (.int kx), .val (.ref b9), .val (.ref b10), .val (.ref got), .unset, .unset, .unset] [(.int (((t1 / st) - ((t1 / st) / (nn.toInt64)) * (nn.toInt64)).toInt32))])) _
          refine XS.istore X26.here hx rfl (hb hby at_183) rfl (l' := #[.val (.long q0), .second, .val (.int p1), .val (.long q2), .second, .val (.long q3), .second, .val (.int p4), .val (.long st), .second, .val (.int nn), .val (.long (q2 &&& (9223372036854775807 : Int64))), .second, .val (.long (q3 &&& (9223372036854775807 : Int64))), .second, .val (.long t1), .second, .val (.long t2), .second, .val (.int kx), .val (.ref b9), .val (.ref b10), .val (.ref got), .val (.int (((t1 / st) - ((t1 / st) / (nn.toInt64)) * (nn.toInt64)).toInt32)), .unset, .unset]) rfl ?_
          show Steps p.tables e below (T26.setTop (mkF m 185 #[.val (.long q0), .second, .val (.int p1), .val (.long q2), .second, .val (.long q3), .second, .val (.int p4), .val (.long st), .second, .val (.int nn), .val (.long (q2 &&& (9223372036854775807 : Int64))), .second, .val (.long (q3 &&& (9223372036854775807 : Int64))), .second, .val (.long t1), .second, .val (.long t2), .second, .val (.int kx), .val (.ref b9), .val (.ref b10), .val (.ref got), .val (.int (((t1 / st) - ((t1 / st) / (nn.toInt64)) * (nn.toInt64)).toInt32)), .unset, .unset] [])) _
          refine XS.lload X26.here hx rfl (hb hby at_185) rfl ?_
          show Steps p.tables e below (T26.setTop (mkF m 187 #[.val (.long q0), .second, .val (.int p1), .val (.long q2), .second, .val (.long q3), .second, .val (.int p4), .val (.long st), .second, .val (.int nn), .val (.long (q2 &&& (9223372036854775807 : Int64))), .second, .val (.long (q3 &&& (9223372036854775807 : Int64))), .second, .val (.long t1), .second, .val (.long t2), .second, .val (.int kx), .val (.ref b9), .val (.ref b10), .val (.ref got), .val (.int (((t1 / st) - ((t1 / st) / (nn.toInt64)) * (nn.toInt64)).toInt32)), .unset, .unset] [(.long t2)])) _
          refine XS.lload X26.here hx rfl (hb hby at_187) rfl ?_
          show Steps p.tables e below (T26.setTop (mkF m 189 #[.val (.long q0), .second, .val (.int p1), .val (.long q2), .second, .val (.long q3), .second, .val (.int p4), .val (.long st), .second, .val (.int nn), .val (.long (q2 &&& (9223372036854775807 : Int64))), .second, .val (.long (q3 &&& (9223372036854775807 : Int64))), .second, .val (.long t1), .second, .val (.long t2), .second, .val (.int kx), .val (.ref b9), .val (.ref b10), .val (.ref got), .val (.int (((t1 / st) - ((t1 / st) / (nn.toInt64)) * (nn.toInt64)).toInt32)), .unset, .unset] [(.long st), (.long t2)])) _
          refine XS.ldiv X26.here hx rfl (hb hby at_189) rfl (own_nzst hst) ?_
          show Steps p.tables e below (T26.setTop (mkF m 190 #[.val (.long q0), .second, .val (.int p1), .val (.long q2), .second, .val (.long q3), .second, .val (.int p4), .val (.long st), .second, .val (.int nn), .val (.long (q2 &&& (9223372036854775807 : Int64))), .second, .val (.long (q3 &&& (9223372036854775807 : Int64))), .second, .val (.long t1), .second, .val (.long t2), .second, .val (.int kx), .val (.ref b9), .val (.ref b10), .val (.ref got), .val (.int (((t1 / st) - ((t1 / st) / (nn.toInt64)) * (nn.toInt64)).toInt32)), .unset, .unset] [(.long (t2 / st))])) _
          refine XS.iload X26.here hx rfl (hb hby at_190) rfl ?_
          show Steps p.tables e below (T26.setTop (mkF m 192 #[.val (.long q0), .second, .val (.int p1), .val (.long q2), .second, .val (.long q3), .second, .val (.int p4), .val (.long st), .second, .val (.int nn), .val (.long (q2 &&& (9223372036854775807 : Int64))), .second, .val (.long (q3 &&& (9223372036854775807 : Int64))), .second, .val (.long t1), .second, .val (.long t2), .second, .val (.int kx), .val (.ref b9), .val (.ref b10), .val (.ref got), .val (.int (((t1 / st) - ((t1 / st) / (nn.toInt64)) * (nn.toInt64)).toInt32)), .unset, .unset] [(.int nn), (.long (t2 / st))])) _
          refine XS.i2l X26.here hx rfl (hb hby at_192) rfl ?_
          show Steps p.tables e below (T26.setTop (mkF m 193 #[.val (.long q0), .second, .val (.int p1), .val (.long q2), .second, .val (.long q3), .second, .val (.int p4), .val (.long st), .second, .val (.int nn), .val (.long (q2 &&& (9223372036854775807 : Int64))), .second, .val (.long (q3 &&& (9223372036854775807 : Int64))), .second, .val (.long t1), .second, .val (.long t2), .second, .val (.int kx), .val (.ref b9), .val (.ref b10), .val (.ref got), .val (.int (((t1 / st) - ((t1 / st) / (nn.toInt64)) * (nn.toInt64)).toInt32)), .unset, .unset] [(.long (nn.toInt64)), (.long (t2 / st))])) _
          refine XS.lrem X26.here hx rfl (hb hby at_193) rfl (own_nz64 hnn.1) ?_
          show Steps p.tables e below (T26.setTop (mkF m 194 #[.val (.long q0), .second, .val (.int p1), .val (.long q2), .second, .val (.long q3), .second, .val (.int p4), .val (.long st), .second, .val (.int nn), .val (.long (q2 &&& (9223372036854775807 : Int64))), .second, .val (.long (q3 &&& (9223372036854775807 : Int64))), .second, .val (.long t1), .second, .val (.long t2), .second, .val (.int kx), .val (.ref b9), .val (.ref b10), .val (.ref got), .val (.int (((t1 / st) - ((t1 / st) / (nn.toInt64)) * (nn.toInt64)).toInt32)), .unset, .unset] [(.long ((t2 / st) - ((t2 / st) / (nn.toInt64)) * (nn.toInt64)))])) _
          refine XS.l2i X26.here hx rfl (hb hby at_194) rfl ?_
          show Steps p.tables e below (T26.setTop (mkF m 195 #[.val (.long q0), .second, .val (.int p1), .val (.long q2), .second, .val (.long q3), .second, .val (.int p4), .val (.long st), .second, .val (.int nn), .val (.long (q2 &&& (9223372036854775807 : Int64))), .second, .val (.long (q3 &&& (9223372036854775807 : Int64))), .second, .val (.long t1), .second, .val (.long t2), .second, .val (.int kx), .val (.ref b9), .val (.ref b10), .val (.ref got), .val (.int (((t1 / st) - ((t1 / st) / (nn.toInt64)) * (nn.toInt64)).toInt32)), .unset, .unset] [(.int (((t2 / st) - ((t2 / st) / (nn.toInt64)) * (nn.toInt64)).toInt32))])) _
          refine XS.istore X26.here hx rfl (hb hby at_195) rfl (l' := #[.val (.long q0), .second, .val (.int p1), .val (.long q2), .second, .val (.long q3), .second, .val (.int p4), .val (.long st), .second, .val (.int nn), .val (.long (q2 &&& (9223372036854775807 : Int64))), .second, .val (.long (q3 &&& (9223372036854775807 : Int64))), .second, .val (.long t1), .second, .val (.long t2), .second, .val (.int kx), .val (.ref b9), .val (.ref b10), .val (.ref got), .val (.int (((t1 / st) - ((t1 / st) / (nn.toInt64)) * (nn.toInt64)).toInt32)), .val (.int (((t2 / st) - ((t2 / st) / (nn.toInt64)) * (nn.toInt64)).toInt32)), .unset]) rfl ?_
          show Steps p.tables e below (T26.setTop (mkF m 197 #[.val (.long q0), .second, .val (.int p1), .val (.long q2), .second, .val (.long q3), .second, .val (.int p4), .val (.long st), .second, .val (.int nn), .val (.long (q2 &&& (9223372036854775807 : Int64))), .second, .val (.long (q3 &&& (9223372036854775807 : Int64))), .second, .val (.long t1), .second, .val (.long t2), .second, .val (.int kx), .val (.ref b9), .val (.ref b10), .val (.ref got), .val (.int (((t1 / st) - ((t1 / st) / (nn.toInt64)) * (nn.toInt64)).toInt32)), .val (.int (((t2 / st) - ((t2 / st) / (nn.toInt64)) * (nn.toInt64)).toInt32)), .unset] [])) _
          refine XS.iload X26.here hx rfl (hb hby at_197) rfl ?_
          show Steps p.tables e below (T26.setTop (mkF m 199 #[.val (.long q0), .second, .val (.int p1), .val (.long q2), .second, .val (.long q3), .second, .val (.int p4), .val (.long st), .second, .val (.int nn), .val (.long (q2 &&& (9223372036854775807 : Int64))), .second, .val (.long (q3 &&& (9223372036854775807 : Int64))), .second, .val (.long t1), .second, .val (.long t2), .second, .val (.int kx), .val (.ref b9), .val (.ref b10), .val (.ref got), .val (.int (((t1 / st) - ((t1 / st) / (nn.toInt64)) * (nn.toInt64)).toInt32)), .val (.int (((t2 / st) - ((t2 / st) / (nn.toInt64)) * (nn.toInt64)).toInt32)), .unset] [(.int (((t2 / st) - ((t2 / st) / (nn.toInt64)) * (nn.toInt64)).toInt32))])) _
          refine XS.iload X26.here hx rfl (hb hby at_199) rfl ?_
          show Steps p.tables e below (T26.setTop (mkF m 201 #[.val (.long q0), .second, .val (.int p1), .val (.long q2), .second, .val (.long q3), .second, .val (.int p4), .val (.long st), .second, .val (.int nn), .val (.long (q2 &&& (9223372036854775807 : Int64))), .second, .val (.long (q3 &&& (9223372036854775807 : Int64))), .second, .val (.long t1), .second, .val (.long t2), .second, .val (.int kx), .val (.ref b9), .val (.ref b10), .val (.ref got), .val (.int (((t1 / st) - ((t1 / st) / (nn.toInt64)) * (nn.toInt64)).toInt32)), .val (.int (((t2 / st) - ((t2 / st) / (nn.toInt64)) * (nn.toInt64)).toInt32)), .unset] [(.int kx), (.int (((t2 / st) - ((t2 / st) / (nn.toInt64)) * (nn.toInt64)).toInt32))])) _
          refine XS.iadd X26.here hx rfl (hb hby at_201) rfl ?_
          show Steps p.tables e below (T26.setTop (mkF m 202 #[.val (.long q0), .second, .val (.int p1), .val (.long q2), .second, .val (.long q3), .second, .val (.int p4), .val (.long st), .second, .val (.int nn), .val (.long (q2 &&& (9223372036854775807 : Int64))), .second, .val (.long (q3 &&& (9223372036854775807 : Int64))), .second, .val (.long t1), .second, .val (.long t2), .second, .val (.int kx), .val (.ref b9), .val (.ref b10), .val (.ref got), .val (.int (((t1 / st) - ((t1 / st) / (nn.toInt64)) * (nn.toInt64)).toInt32)), .val (.int (((t2 / st) - ((t2 / st) / (nn.toInt64)) * (nn.toInt64)).toInt32)), .unset] [(.int ((((t2 / st) - ((t2 / st) / (nn.toInt64)) * (nn.toInt64)).toInt32) + kx))])) _
          refine XS.iload X26.here hx rfl (hb hby at_202) rfl ?_
          show Steps p.tables e below (T26.setTop (mkF m 204 #[.val (.long q0), .second, .val (.int p1), .val (.long q2), .second, .val (.long q3), .second, .val (.int p4), .val (.long st), .second, .val (.int nn), .val (.long (q2 &&& (9223372036854775807 : Int64))), .second, .val (.long (q3 &&& (9223372036854775807 : Int64))), .second, .val (.long t1), .second, .val (.long t2), .second, .val (.int kx), .val (.ref b9), .val (.ref b10), .val (.ref got), .val (.int (((t1 / st) - ((t1 / st) / (nn.toInt64)) * (nn.toInt64)).toInt32)), .val (.int (((t2 / st) - ((t2 / st) / (nn.toInt64)) * (nn.toInt64)).toInt32)), .unset] [(.int (((t1 / st) - ((t1 / st) / (nn.toInt64)) * (nn.toInt64)).toInt32)), (.int ((((t2 / st) - ((t2 / st) / (nn.toInt64)) * (nn.toInt64)).toInt32) + kx))])) _
          refine XS.isub X26.here hx rfl (hb hby at_204) rfl ?_
          show Steps p.tables e below (T26.setTop (mkF m 205 #[.val (.long q0), .second, .val (.int p1), .val (.long q2), .second, .val (.long q3), .second, .val (.int p4), .val (.long st), .second, .val (.int nn), .val (.long (q2 &&& (9223372036854775807 : Int64))), .second, .val (.long (q3 &&& (9223372036854775807 : Int64))), .second, .val (.long t1), .second, .val (.long t2), .second, .val (.int kx), .val (.ref b9), .val (.ref b10), .val (.ref got), .val (.int (((t1 / st) - ((t1 / st) / (nn.toInt64)) * (nn.toInt64)).toInt32)), .val (.int (((t2 / st) - ((t2 / st) / (nn.toInt64)) * (nn.toInt64)).toInt32)), .unset] [(.int (((((t2 / st) - ((t2 / st) / (nn.toInt64)) * (nn.toInt64)).toInt32) + kx) - (((t1 / st) - ((t1 / st) / (nn.toInt64)) * (nn.toInt64)).toInt32)))])) _
          refine XS.iload X26.here hx rfl (hb hby at_205) rfl ?_
          show Steps p.tables e below (T26.setTop (mkF m 207 #[.val (.long q0), .second, .val (.int p1), .val (.long q2), .second, .val (.long q3), .second, .val (.int p4), .val (.long st), .second, .val (.int nn), .val (.long (q2 &&& (9223372036854775807 : Int64))), .second, .val (.long (q3 &&& (9223372036854775807 : Int64))), .second, .val (.long t1), .second, .val (.long t2), .second, .val (.int kx), .val (.ref b9), .val (.ref b10), .val (.ref got), .val (.int (((t1 / st) - ((t1 / st) / (nn.toInt64)) * (nn.toInt64)).toInt32)), .val (.int (((t2 / st) - ((t2 / st) / (nn.toInt64)) * (nn.toInt64)).toInt32)), .unset] [(.int nn), (.int (((((t2 / st) - ((t2 / st) / (nn.toInt64)) * (nn.toInt64)).toInt32) + kx) - (((t1 / st) - ((t1 / st) / (nn.toInt64)) * (nn.toInt64)).toInt32)))])) _
          refine XS.iadd X26.here hx rfl (hb hby at_207) rfl ?_
          show Steps p.tables e below (T26.setTop (mkF m 208 #[.val (.long q0), .second, .val (.int p1), .val (.long q2), .second, .val (.long q3), .second, .val (.int p4), .val (.long st), .second, .val (.int nn), .val (.long (q2 &&& (9223372036854775807 : Int64))), .second, .val (.long (q3 &&& (9223372036854775807 : Int64))), .second, .val (.long t1), .second, .val (.long t2), .second, .val (.int kx), .val (.ref b9), .val (.ref b10), .val (.ref got), .val (.int (((t1 / st) - ((t1 / st) / (nn.toInt64)) * (nn.toInt64)).toInt32)), .val (.int (((t2 / st) - ((t2 / st) / (nn.toInt64)) * (nn.toInt64)).toInt32)), .unset] [(.int ((((((t2 / st) - ((t2 / st) / (nn.toInt64)) * (nn.toInt64)).toInt32) + kx) - (((t1 / st) - ((t1 / st) / (nn.toInt64)) * (nn.toInt64)).toInt32)) + nn))])) _
          refine XS.iload X26.here hx rfl (hb hby at_208) rfl ?_
          show Steps p.tables e below (T26.setTop (mkF m 210 #[.val (.long q0), .second, .val (.int p1), .val (.long q2), .second, .val (.long q3), .second, .val (.int p4), .val (.long st), .second, .val (.int nn), .val (.long (q2 &&& (9223372036854775807 : Int64))), .second, .val (.long (q3 &&& (9223372036854775807 : Int64))), .second, .val (.long t1), .second, .val (.long t2), .second, .val (.int kx), .val (.ref b9), .val (.ref b10), .val (.ref got), .val (.int (((t1 / st) - ((t1 / st) / (nn.toInt64)) * (nn.toInt64)).toInt32)), .val (.int (((t2 / st) - ((t2 / st) / (nn.toInt64)) * (nn.toInt64)).toInt32)), .unset] [(.int nn), (.int ((((((t2 / st) - ((t2 / st) / (nn.toInt64)) * (nn.toInt64)).toInt32) + kx) - (((t1 / st) - ((t1 / st) / (nn.toInt64)) * (nn.toInt64)).toInt32)) + nn))])) _
          refine XS.irem X26.here hx rfl (hb hby at_210) rfl (own_nz32 hnn.1) ?_
          show Steps p.tables e below (T26.setTop (mkF m 211 #[.val (.long q0), .second, .val (.int p1), .val (.long q2), .second, .val (.long q3), .second, .val (.int p4), .val (.long st), .second, .val (.int nn), .val (.long (q2 &&& (9223372036854775807 : Int64))), .second, .val (.long (q3 &&& (9223372036854775807 : Int64))), .second, .val (.long t1), .second, .val (.long t2), .second, .val (.int kx), .val (.ref b9), .val (.ref b10), .val (.ref got), .val (.int (((t1 / st) - ((t1 / st) / (nn.toInt64)) * (nn.toInt64)).toInt32)), .val (.int (((t2 / st) - ((t2 / st) / (nn.toInt64)) * (nn.toInt64)).toInt32)), .unset] [(.int (((((((t2 / st) - ((t2 / st) / (nn.toInt64)) * (nn.toInt64)).toInt32) + kx) - (((t1 / st) - ((t1 / st) / (nn.toInt64)) * (nn.toInt64)).toInt32)) + nn) - (((((((t2 / st) - ((t2 / st) / (nn.toInt64)) * (nn.toInt64)).toInt32) + kx) - (((t1 / st) - ((t1 / st) / (nn.toInt64)) * (nn.toInt64)).toInt32)) + nn) / nn) * nn))])) _
          refine XS.istore X26.here hx rfl (hb hby at_211) rfl (l' := #[.val (.long q0), .second, .val (.int p1), .val (.long q2), .second, .val (.long q3), .second, .val (.int p4), .val (.long st), .second, .val (.int nn), .val (.long (q2 &&& (9223372036854775807 : Int64))), .second, .val (.long (q3 &&& (9223372036854775807 : Int64))), .second, .val (.long t1), .second, .val (.long t2), .second, .val (.int kx), .val (.ref b9), .val (.ref b10), .val (.ref got), .val (.int (((t1 / st) - ((t1 / st) / (nn.toInt64)) * (nn.toInt64)).toInt32)), .val (.int (((t2 / st) - ((t2 / st) / (nn.toInt64)) * (nn.toInt64)).toInt32)), .val (.int (((((((t2 / st) - ((t2 / st) / (nn.toInt64)) * (nn.toInt64)).toInt32) + kx) - (((t1 / st) - ((t1 / st) / (nn.toInt64)) * (nn.toInt64)).toInt32)) + nn) - (((((((t2 / st) - ((t2 / st) / (nn.toInt64)) * (nn.toInt64)).toInt32) + kx) - (((t1 / st) - ((t1 / st) / (nn.toInt64)) * (nn.toInt64)).toInt32)) + nn) / nn) * nn))]) rfl ?_
          exact kt
        obtain ⟨idx, hg_idx⟩ : ∃ z, z = (((((((t2 / st) - ((t2 / st) / (nn.toInt64)) * (nn.toInt64)).toInt32) + kx) - (((t1 / st) - ((t1 / st) / (nn.toInt64)) * (nn.toInt64)).toInt32)) + nn) - (((((((t2 / st) - ((t2 / st) / (nn.toInt64)) * (nn.toInt64)).toInt32) + kx) - (((t1 / st) - ((t1 / st) / (nn.toInt64)) * (nn.toInt64)).toInt32)) + nn) / nn) * nn) := ⟨_, rfl⟩
        rw [← hg_idx] at K27
        have hidI : idx.toInt = ((own_slot t2 st nn).toInt + kx.toInt - (own_slot t1 st nn).toInt + nn.toInt) % nn.toInt := by rw [hg_idx]; exact own_idxI hnn bs1 bs2 hkx
        have hid : 0 ≤ idx.toInt ∧ idx.toInt < nn.toInt := by rw [hidI]; exact ⟨Int.emod_nonneg _ (by omega), Int.emod_lt_of_pos _ (by omega)⟩
        obtain ⟨_, _, ⟨T28, L28, k28, n28⟩, -, X28, ⟨Lc28, hQ28, l28, y28, z28⟩, st28⟩ := Jvm.LawKit.callS X26 hx (y := (⟨"com/example/lachesis/lachesis/timer/WheelBucketPinLaw", "distinct", "([Lcom/example/lachesis/lachesis/timer/Bucket;I)Z"⟩ : MethodName)) hown (mvT hZ (hw _ (List.mem_of_getElem? (i := 56) rfl))) (mvT hZ (hw _ (List.mem_of_getElem? (i := 57) rfl))) (mvT hZ (hw _ (List.mem_of_getElem? (i := 58) rfl))) (mvT hZ (hw _ (List.mem_of_getElem? (i := 59) rfl))) (by decide) (backOf (W := 0) (rmD5 l Z a0 hw [] b9 nn k9 c0 c1 c2 c3 c4 T25.heap n0 Zn V_b9 hk (by rw [hv_c1, hv_c0]; exact own_dis hbn11 hl_c1 hl_c0 (own_ixne hnn bs1 hq_c1 hq_c0 (by decide))) (by rw [hv_c2, hv_c0]; exact own_dis hbn11 hl_c2 hl_c0 (own_ixne hnn bs1 hq_c2 hq_c0 (by decide))) (by rw [hv_c2, hv_c1]; exact own_dis hbn11 hl_c2 hl_c1 (own_ixne hnn bs1 hq_c2 hq_c1 (by decide))) (by rw [hv_c3, hv_c0]; exact own_dis hbn11 hl_c3 hl_c0 (own_ixne hnn bs1 hq_c3 hq_c0 (by decide))) (by rw [hv_c3, hv_c1]; exact own_dis hbn11 hl_c3 hl_c1 (own_ixne hnn bs1 hq_c3 hq_c1 (by decide))) (by rw [hv_c3, hv_c2]; exact own_dis hbn11 hl_c3 hl_c2 (own_ixne hnn bs1 hq_c3 hq_c2 (by decide))) (by rw [hv_c4, hv_c0]; exact own_dis hbn11 hl_c4 hl_c0 (own_ixne hnn bs1 hq_c4 hq_c0 (by decide))) (by rw [hv_c4, hv_c1]; exact own_dis hbn11 hl_c4 hl_c1 (own_ixne hnn bs1 hq_c4 hq_c1 (by decide))) (by rw [hv_c4, hv_c2]; exact own_dis hbn11 hl_c4 hl_c2 (own_ixne hnn bs1 hq_c4 hq_c2 (by decide))) (by rw [hv_c4, hv_c3]; exact own_dis hbn11 hl_c4 hl_c3 (own_ixne hnn bs1 hq_c4 hq_c3 (by decide)))) hZ (hw _ (List.mem_of_getElem? (i := 59) rfl)) (hw _ (List.mem_of_getElem? (i := 58) rfl)) (by decide) (by decide)) (g := (mkF m 217 #[.val (.long q0), .second, .val (.int p1), .val (.long q2), .second, .val (.long q3), .second, .val (.int p4), .val (.long st), .second, .val (.int nn), .val (.long (q2 &&& (9223372036854775807 : Int64))), .second, .val (.long (q3 &&& (9223372036854775807 : Int64))), .second, .val (.long t1), .second, .val (.long t2), .second, .val (.int kx), .val (.ref b9), .val (.ref b10), .val (.ref got), .val (.int (((t1 / st) - ((t1 / st) / (nn.toInt64)) * (nn.toInt64)).toInt32)), .val (.int (((t2 / st) - ((t2 / st) / (nn.toInt64)) * (nn.toInt64)).toInt32)), .val (.int idx)] [(.int nn), (.ref b9)])) rfl (by rw [hml]; rfl) (argsL := [(.ref b9), (.int nn)]) (rest := []) (lenOf pd_8 rfl) rfl (by show 2 * 0 + _ ≤ _; exact Nat.le_of_eq rfl) (hb hby at_217) (fun _ _ => ⟨rfl, e26, (by decide : 8 + 0 ≤ _), (by decide : 35 + 0 ≤ _)⟩)
        dsimp only [Pt.U, Pt.locs, Pt.cells, Pt.slots] at X28 l28 y28 z28 st28 hQ28
        subst l28 y28 z28
        obtain ⟨rfl, N28q, e28q⟩ := hQ28
        have N28 := Fr.app N26 N28q
        have e28 : T28.heap = T25.heap := e28q
        have hc220 : ¬ ((1 : Int32) = (0 : Int32)) := (by decide)
        have Vq29 := V_b9
        obtain ⟨cl29, Ar29, q29, S29, N29z, H29, G29⟩ := Vq29
        have hin29 : ¬ (idx < 0 ∨ cl29.slots.size ≤ (idx).toNatClampNeg) := inb_of S29 ⟨own_ge0.mpr hid.1, by rw [Int32.lt_iff_toInt_lt]; have z : (5 : Int32).toInt = 5 := (by decide); omega⟩
        have hat29 : cl29.slots[(idx).toNatClampNeg]? = some (.ref got) := Has.at H29 hin29 (by
             have hi5 : idx.toInt = 0 ∨ idx.toInt = 1 ∨ idx.toInt = 2 ∨ idx.toInt = 3 ∨ idx.toInt = 4 := by omega
             rcases hi5 with hi5 | hi5 | hi5 | hi5 | hi5
             · rw [show idx.toNatClampNeg = 0 by have z := own_nn (own_ge0.mpr hid.1); omega]
               show Value.ref c0 = Value.ref got
               rw [hv_c0, hv_got, own_hit (q := (0 : Int64)) hnn bs1 bs2 hkx hidI (by rw [hi5]; decide)]
             · rw [show idx.toNatClampNeg = 1 by have z := own_nn (own_ge0.mpr hid.1); omega]
               show Value.ref c1 = Value.ref got
               rw [hv_c1, hv_got, own_hit (q := (1 : Int64)) hnn bs1 bs2 hkx hidI (by rw [hi5]; decide)]
             · rw [show idx.toNatClampNeg = 2 by have z := own_nn (own_ge0.mpr hid.1); omega]
               show Value.ref c2 = Value.ref got
               rw [hv_c2, hv_got, own_hit (q := (2 : Int64)) hnn bs1 bs2 hkx hidI (by rw [hi5]; decide)]
             · rw [show idx.toNatClampNeg = 3 by have z := own_nn (own_ge0.mpr hid.1); omega]
               show Value.ref c3 = Value.ref got
               rw [hv_c3, hv_got, own_hit (q := (3 : Int64)) hnn bs1 bs2 hkx hidI (by rw [hi5]; decide)]
             · rw [show idx.toNatClampNeg = 4 by have z := own_nn (own_ge0.mpr hid.1); omega]
               show Value.ref c4 = Value.ref got
               rw [hv_c4, hv_got, own_hit (q := (4 : Int64)) hnn bs1 bs2 hkx hidI (by rw [hi5]; decide)])
        obtain ⟨fs, hr, hrun, hended, hW, hsame⟩ := X28.leave (v := some (.int (1 : Int32))) (fun h => by rw [Bd.returns] at h; cases h) hlk
        refine ⟨_, _, K27 _ ?_, hrun, hended, _, _, rfl, ?_, ⟨_, rfl⟩, hW, hsame.mono (by decide) (by decide)⟩
        ·
          show Steps p.tables e below (T26.setTop (mkF m 213 #[.val (.long q0), .second, .val (.int p1), .val (.long q2), .second, .val (.long q3), .second, .val (.int p4), .val (.long st), .second, .val (.int nn), .val (.long (q2 &&& (9223372036854775807 : Int64))), .second, .val (.long (q3 &&& (9223372036854775807 : Int64))), .second, .val (.long t1), .second, .val (.long t2), .second, .val (.int kx), .val (.ref b9), .val (.ref b10), .val (.ref got), .val (.int (((t1 / st) - ((t1 / st) / (nn.toInt64)) * (nn.toInt64)).toInt32)), .val (.int (((t2 / st) - ((t2 / st) / (nn.toInt64)) * (nn.toInt64)).toInt32)), .val (.int idx)] [])) _
          refine XS.aload X26.here hx rfl (hb hby at_213) rfl rfl ?_
          show Steps p.tables e below (T26.setTop (mkF m 215 #[.val (.long q0), .second, .val (.int p1), .val (.long q2), .second, .val (.long q3), .second, .val (.int p4), .val (.long st), .second, .val (.int nn), .val (.long (q2 &&& (9223372036854775807 : Int64))), .second, .val (.long (q3 &&& (9223372036854775807 : Int64))), .second, .val (.long t1), .second, .val (.long t2), .second, .val (.int kx), .val (.ref b9), .val (.ref b10), .val (.ref got), .val (.int (((t1 / st) - ((t1 / st) / (nn.toInt64)) * (nn.toInt64)).toInt32)), .val (.int (((t2 / st) - ((t2 / st) / (nn.toInt64)) * (nn.toInt64)).toInt32)), .val (.int idx)] [(.ref b9)])) _
          refine XS.iload X26.here hx rfl (hb hby at_215) rfl ?_
          show Steps p.tables e below (T26.setTop (mkF m 217 #[.val (.long q0), .second, .val (.int p1), .val (.long q2), .second, .val (.long q3), .second, .val (.int p4), .val (.long st), .second, .val (.int nn), .val (.long (q2 &&& (9223372036854775807 : Int64))), .second, .val (.long (q3 &&& (9223372036854775807 : Int64))), .second, .val (.long t1), .second, .val (.long t2), .second, .val (.int kx), .val (.ref b9), .val (.ref b10), .val (.ref got), .val (.int (((t1 / st) - ((t1 / st) / (nn.toInt64)) * (nn.toInt64)).toInt32)), .val (.int (((t2 / st) - ((t2 / st) / (nn.toInt64)) * (nn.toInt64)).toInt32)), .val (.int idx)] [(.int nn), (.ref b9)])) _
          refine st28 _ ?_
          show Steps p.tables e below (T28.setTop (mkF m 220 #[.val (.long q0), .second, .val (.int p1), .val (.long q2), .second, .val (.long q3), .second, .val (.int p4), .val (.long st), .second, .val (.int nn), .val (.long (q2 &&& (9223372036854775807 : Int64))), .second, .val (.long (q3 &&& (9223372036854775807 : Int64))), .second, .val (.long t1), .second, .val (.long t2), .second, .val (.int kx), .val (.ref b9), .val (.ref b10), .val (.ref got), .val (.int (((t1 / st) - ((t1 / st) / (nn.toInt64)) * (nn.toInt64)).toInt32)), .val (.int (((t2 / st) - ((t2 / st) / (nn.toInt64)) * (nn.toInt64)).toInt32)), .val (.int idx)] [(.int (1 : Int32))])) _
          refine XS.ifNo X28.here hx rfl (hb hby at_220) rfl ((if0 _ _).trans (feq hc220).1) ?_
          show Steps p.tables e below (T28.setTop (mkF m 223 #[.val (.long q0), .second, .val (.int p1), .val (.long q2), .second, .val (.long q3), .second, .val (.int p4), .val (.long st), .second, .val (.int nn), .val (.long (q2 &&& (9223372036854775807 : Int64))), .second, .val (.long (q3 &&& (9223372036854775807 : Int64))), .second, .val (.long t1), .second, .val (.long t2), .second, .val (.int kx), .val (.ref b9), .val (.ref b10), .val (.ref got), .val (.int (((t1 / st) - ((t1 / st) / (nn.toInt64)) * (nn.toInt64)).toInt32)), .val (.int (((t2 / st) - ((t2 / st) / (nn.toInt64)) * (nn.toInt64)).toInt32)), .val (.int idx)] [])) _
          refine XS.aload X28.here hx rfl (hb hby at_223) rfl rfl ?_
          show Steps p.tables e below (T28.setTop (mkF m 225 #[.val (.long q0), .second, .val (.int p1), .val (.long q2), .second, .val (.long q3), .second, .val (.int p4), .val (.long st), .second, .val (.int nn), .val (.long (q2 &&& (9223372036854775807 : Int64))), .second, .val (.long (q3 &&& (9223372036854775807 : Int64))), .second, .val (.long t1), .second, .val (.long t2), .second, .val (.int kx), .val (.ref b9), .val (.ref b10), .val (.ref got), .val (.int (((t1 / st) - ((t1 / st) / (nn.toInt64)) * (nn.toInt64)).toInt32)), .val (.int (((t2 / st) - ((t2 / st) / (nn.toInt64)) * (nn.toInt64)).toInt32)), .val (.int idx)] [(.ref got)])) _
          refine XS.aload X28.here hx rfl (hb hby at_225) rfl rfl ?_
          show Steps p.tables e below (T28.setTop (mkF m 227 #[.val (.long q0), .second, .val (.int p1), .val (.long q2), .second, .val (.long q3), .second, .val (.int p4), .val (.long st), .second, .val (.int nn), .val (.long (q2 &&& (9223372036854775807 : Int64))), .second, .val (.long (q3 &&& (9223372036854775807 : Int64))), .second, .val (.long t1), .second, .val (.long t2), .second, .val (.int kx), .val (.ref b9), .val (.ref b10), .val (.ref got), .val (.int (((t1 / st) - ((t1 / st) / (nn.toInt64)) * (nn.toInt64)).toInt32)), .val (.int (((t2 / st) - ((t2 / st) / (nn.toInt64)) * (nn.toInt64)).toInt32)), .val (.int idx)] [(.ref b9), (.ref got)])) _
          refine XS.iload X28.here hx rfl (hb hby at_227) rfl ?_
          show Steps p.tables e below (T28.setTop (mkF m 229 #[.val (.long q0), .second, .val (.int p1), .val (.long q2), .second, .val (.long q3), .second, .val (.int p4), .val (.long st), .second, .val (.int nn), .val (.long (q2 &&& (9223372036854775807 : Int64))), .second, .val (.long (q3 &&& (9223372036854775807 : Int64))), .second, .val (.long t1), .second, .val (.long t2), .second, .val (.int kx), .val (.ref b9), .val (.ref b10), .val (.ref got), .val (.int (((t1 / st) - ((t1 / st) / (nn.toInt64)) * (nn.toInt64)).toInt32)), .val (.int (((t2 / st) - ((t2 / st) / (nn.toInt64)) * (nn.toInt64)).toInt32)), .val (.int idx)] [(.int idx), (.ref b9), (.ref got)])) _
          refine X28.aaload hx (j := idx) (v := (.ref got)) (by rw [e28]; exact Ar29.1) (State.isArrayOf_alike hZ.alike Ar29.2.1) rfl Ar29.2.2 hin29 hat29 (g := (mkF m 229 #[.val (.long q0), .second, .val (.int p1), .val (.long q2), .second, .val (.long q3), .second, .val (.int p4), .val (.long st), .second, .val (.int nn), .val (.long (q2 &&& (9223372036854775807 : Int64))), .second, .val (.long (q3 &&& (9223372036854775807 : Int64))), .second, .val (.long t1), .second, .val (.long t2), .second, .val (.int kx), .val (.ref b9), .val (.ref b10), .val (.ref got), .val (.int (((t1 / st) - ((t1 / st) / (nn.toInt64)) * (nn.toInt64)).toInt32)), .val (.int (((t2 / st) - ((t2 / st) / (nn.toInt64)) * (nn.toInt64)).toInt32)), .val (.int idx)] [(.int idx), (.ref b9), (.ref got)])) rfl rfl (hb hby at_229) _ ?_
          show Steps p.tables e below (T28.setTop (mkF m 230 #[.val (.long q0), .second, .val (.int p1), .val (.long q2), .second, .val (.long q3), .second, .val (.int p4), .val (.long st), .second, .val (.int nn), .val (.long (q2 &&& (9223372036854775807 : Int64))), .second, .val (.long (q3 &&& (9223372036854775807 : Int64))), .second, .val (.long t1), .second, .val (.long t2), .second, .val (.int kx), .val (.ref b9), .val (.ref b10), .val (.ref got), .val (.int (((t1 / st) - ((t1 / st) / (nn.toInt64)) * (nn.toInt64)).toInt32)), .val (.int (((t2 / st) - ((t2 / st) / (nn.toInt64)) * (nn.toInt64)).toInt32)), .val (.int idx)] [(.ref got), (.ref got)])) _
          refine Jvm.RoadKit.acmp (g := (mkF m 230 #[.val (.long q0), .second, .val (.int p1), .val (.long q2), .second, .val (.long q3), .second, .val (.int p4), .val (.long st), .second, .val (.int nn), .val (.long (q2 &&& (9223372036854775807 : Int64))), .second, .val (.long (q3 &&& (9223372036854775807 : Int64))), .second, .val (.long t1), .second, .val (.long t2), .second, .val (.int kx), .val (.ref b9), .val (.ref b10), .val (.ref got), .val (.int (((t1 / st) - ((t1 / st) / (nn.toInt64)) * (nn.toInt64)).toInt32)), .val (.int (((t2 / st) - ((t2 / st) / (nn.toInt64)) * (nn.toInt64)).toInt32)), .val (.int idx)] [(.ref got), (.ref got)])) X28 hx rfl rfl rfl (pc0 := 230) (pc' := 233) (same := true) rfl (hb hby at_230) rfl (decide_eq_true rfl) (by decide) (by decide) ?_
          show Steps p.tables e below (T28.setTop (mkF m 233 #[.val (.long q0), .second, .val (.int p1), .val (.long q2), .second, .val (.long q3), .second, .val (.int p4), .val (.long st), .second, .val (.int nn), .val (.long (q2 &&& (9223372036854775807 : Int64))), .second, .val (.long (q3 &&& (9223372036854775807 : Int64))), .second, .val (.long t1), .second, .val (.long t2), .second, .val (.int kx), .val (.ref b9), .val (.ref b10), .val (.ref got), .val (.int (((t1 / st) - ((t1 / st) / (nn.toInt64)) * (nn.toInt64)).toInt32)), .val (.int (((t2 / st) - ((t2 / st) / (nn.toInt64)) * (nn.toInt64)).toInt32)), .val (.int idx)] [])) _
          refine XS.iconst X28.here hx rfl (hb hby at_233) ?_
          show Steps p.tables e below (T28.setTop (mkF m 234 #[.val (.long q0), .second, .val (.int p1), .val (.long q2), .second, .val (.long q3), .second, .val (.int p4), .val (.long st), .second, .val (.int nn), .val (.long (q2 &&& (9223372036854775807 : Int64))), .second, .val (.long (q3 &&& (9223372036854775807 : Int64))), .second, .val (.long t1), .second, .val (.long t2), .second, .val (.int kx), .val (.ref b9), .val (.ref b10), .val (.ref got), .val (.int (((t1 / st) - ((t1 / st) / (nn.toInt64)) * (nn.toInt64)).toInt32)), .val (.int (((t2 / st) - ((t2 / st) / (nn.toInt64)) * (nn.toInt64)).toInt32)), .val (.int idx)] [(.int (1 : Int32))])) _
          refine XS.goto X28.here hx rfl (pc0 := 234) (pc' := 238) rfl (hb hby at_234) (by decide) (by decide) ?_
          show Steps p.tables e below (T28.setTop (mkF m 238 #[.val (.long q0), .second, .val (.int p1), .val (.long q2), .second, .val (.long q3), .second, .val (.int p4), .val (.long st), .second, .val (.int nn), .val (.long (q2 &&& (9223372036854775807 : Int64))), .second, .val (.long (q3 &&& (9223372036854775807 : Int64))), .second, .val (.long t1), .second, .val (.long t2), .second, .val (.int kx), .val (.ref b9), .val (.ref b10), .val (.ref got), .val (.int (((t1 / st) - ((t1 / st) / (nn.toInt64)) * (nn.toInt64)).toInt32)), .val (.int (((t2 / st) - ((t2 / st) / (nn.toInt64)) * (nn.toInt64)).toInt32)), .val (.int idx)] [(.int (1 : Int32))])) _
          exact retN X28 hx (t := .boolean) Bd.returns (by simp) (hb hby at_238) hr
        ·
          show Q_rm0 Z q0 p1 q2 q3 p4 w_NONE h0 n0 _ T28.heap _
          rw [e28]
          exact ⟨rfl, N28⟩
      ·
        have y2 : (2 : Int32).toInt = 2 := by decide
        have y3 : (3 : Int32).toInt = 3 := by decide
        have y4 : (4 : Int32).toInt = 4 := by decide
        have u2 := hc105
        rw [Int32.lt_iff_toInt_lt] at u2
        have u3 := hc123
        rw [Int32.lt_iff_toInt_lt] at u3
        have u4 := hc141
        rw [Int32.lt_iff_toInt_lt] at u4
        have hk : nn.toInt = 4 := by omega
        obtain ⟨cq30, kq30, q30a, q30b, q30c⟩ := isOf hZ e21 E_b10
        obtain ⟨_, _, ⟨T30, L30, k30, n30⟩, -, X30, ⟨Lc30, hQ30, l30, y30, z30⟩, st30⟩ := X21.virtualBack hx (y := (⟨"com/example/lachesis/lachesis/timer/Wheel", "moveTo", "(J)V"⟩ : MethodName)) (z := (⟨"com/example/lachesis/lachesis/timer/Wheel", "moveTo", "(J)V"⟩ : MethodName)) hown (mvT hZ (hw _ (List.mem_of_getElem? (i := 55) rfl))) (mvT hZ (hw _ (List.mem_of_getElem? (i := 40) rfl))) (notFace_of_selects (args := #[]) (mvT hZ (hw _ (List.mem_of_getElem? (i := 42) rfl)))) (mvT hZ (hw _ (List.mem_of_getElem? (i := 42) rfl))) (mvT hZ (hw _ (List.mem_of_getElem? (i := 41) rfl))) (by decide) (backOf (W := 0) (rmM l Z a0 hw [] b10 t2 st (own_span st nn) ba11 ((t1 / st) * st) (own_slot t1 st nn) kk11 nn (bs11.map Value.ref) h21 n0 Zn E_b10 g_b10 ne_ba11_b10 F_slotTicks_b10 F_spanTicks_b10 F_buckets_b10 F_slotStart_b10 F_slot_b10 V_ba11 (own_nzst hst) (own_nz64 hnn.1)) hZ (hw _ (List.mem_of_getElem? (i := 43) rfl)) (hw _ (List.mem_of_getElem? (i := 13) rfl)) (by decide) (by decide)) q30a q30c (g := (mkF m 160 #[.val (.long q0), .second, .val (.int p1), .val (.long q2), .second, .val (.long q3), .second, .val (.int p4), .val (.long st), .second, .val (.int nn), .val (.long (q2 &&& (9223372036854775807 : Int64))), .second, .val (.long (q3 &&& (9223372036854775807 : Int64))), .second, .val (.long t1), .second, .val (.long t2), .second, .val (.int kx), .val (.ref b9), .val (.ref b10), .unset, .unset, .unset, .unset] [(.long t2), (.ref b10)])) rfl (by rw [hml]; rfl) (Steps.refl _) (argsL := [(.long t2)]) (rest := []) (lenOf pd_3 rfl) rfl (by show 2 * 0 + _ ≤ _; exact Nat.le_of_eq rfl) (hb hby at_160) (fun _ _ => ⟨rfl, e21, (by decide : 8 + 0 ≤ _), (by decide : 35 + 0 ≤ _)⟩)
        dsimp only [Pt.U, Pt.locs, Pt.cells, Pt.slots] at X30 l30 y30 z30 st30 hQ30
        subst l30 y30 z30
        obtain ⟨rfl, N30q, K30k, pf30_0, pf30_1, pf30_2, pf30_3, pf30_4, pf30_5⟩ := hQ30
        have N30 := Fr.app N21 N30q
        have OLD := OLD.keep K30k (allS g_b10 all0)
        have V_b9 := V_b9.keep K30k (ninS ne_b9_b10 nin0)
        have E_b10 := E_b10.keep K30k
        have V_ba11 := V_ba11.keep K30k (ninS ne_ba11_b10 nin0)
        have X_bs := X_bs.keep K30k
        have E_c0 := E_c0.keep K30k
        have E_c1 := E_c1.keep K30k
        have E_c2 := E_c2.keep K30k
        have E_c3 := E_c3.keep K30k
        replace Zn := Nat.le_trans Zn K30k.1
        have E_b10 := pf30_0
        have F_slotTicks_b10 := pf30_1
        have F_spanTicks_b10 := pf30_2
        have F_buckets_b10 := pf30_3
        have F_slotStart_b10 := pf30_4
        have F_slot_b10 := pf30_5
        have hq_got : 0 ≤ ((kx.toInt64)).toInt ∧ ((kx.toInt64)).toInt < nn.toInt := (by rw [Jvm.Kit.i64_of_i32]; exact hkx)
        have hb_got := own_ixB hnn bs2 hq_got
        have hl_got : (own_ix (own_slot t2 st nn) (kx.toInt64) nn).toNatClampNeg < bs11.length := by rw [hbl11]; exact own_inl hb_got
        obtain ⟨cq31, kq31, q31a, q31b, q31c⟩ := isOf hZ rfl E_b10
        obtain ⟨_, _, ⟨T31, L31, k31, n31⟩, -, X31, ⟨Lc31, hQ31, l31, y31, z31⟩, st31⟩ := X30.virtualBack hx (y := (⟨"com/example/lachesis/lachesis/timer/Wheel", "bucket", "(J)Lcom/example/lachesis/lachesis/timer/Bucket;"⟩ : MethodName)) (z := (⟨"com/example/lachesis/lachesis/timer/Wheel", "bucket", "(J)Lcom/example/lachesis/lachesis/timer/Bucket;"⟩ : MethodName)) hown (mvT hZ (hw _ (List.mem_of_getElem? (i := 48) rfl))) (mvT hZ (hw _ (List.mem_of_getElem? (i := 49) rfl))) (notFace_of_selects (args := #[]) (mvT hZ (hw _ (List.mem_of_getElem? (i := 51) rfl)))) (mvT hZ (hw _ (List.mem_of_getElem? (i := 51) rfl))) (mvT hZ (hw _ (List.mem_of_getElem? (i := 50) rfl))) (by decide) (backOf (W := 0) (rmK l Z a0 hw [] b10 (kx.toInt64) (own_slot t2 st nn) ba11 kk11 nn bs11 (own_ix (own_slot t2 st nn) (kx.toInt64) nn) T30.heap n0 Zn F_slot_b10 F_buckets_b10 V_ba11 hbl11 hb_got rfl) hZ (hw _ (List.mem_of_getElem? (i := 52) rfl)) (hw _ (List.mem_of_getElem? (i := 13) rfl)) (by decide) (by decide)) q31a q31c (g := (mkF m 168 #[.val (.long q0), .second, .val (.int p1), .val (.long q2), .second, .val (.long q3), .second, .val (.int p4), .val (.long st), .second, .val (.int nn), .val (.long (q2 &&& (9223372036854775807 : Int64))), .second, .val (.long (q3 &&& (9223372036854775807 : Int64))), .second, .val (.long t1), .second, .val (.long t2), .second, .val (.int kx), .val (.ref b9), .val (.ref b10), .unset, .unset, .unset, .unset] [(.long (kx.toInt64)), (.ref b10)])) rfl (by rw [hml]; rfl) (Steps.refl _) (argsL := [(.long (kx.toInt64))]) (rest := []) (lenOf pd_7 rfl) rfl (by show 2 * 0 + _ ≤ _; exact Nat.le_of_eq rfl) (hb hby at_168) (fun _ _ => ⟨rfl, rfl, (by decide : 8 + 0 ≤ _), (by decide : 35 + 0 ≤ _)⟩)
        dsimp only [Pt.U, Pt.locs, Pt.cells, Pt.slots] at X31 l31 y31 z31 st31 hQ31
        subst l31 y31 z31
        obtain ⟨rfl, N31q, e31q⟩ := hQ31
        have N31 := Fr.app N30 N31q
        have e31 : T31.heap = T30.heap := e31q
        obtain ⟨got, hv_got⟩ : ∃ z, z = bs11.getD (own_ix (own_slot t2 st nn) (kx.toInt64) nn).toNatClampNeg 0 := ⟨_, rfl⟩
        rw [← hv_got] at st31
        have E_got : Exa Z _ got "com/example/lachesis/lachesis/timer/Bucket" := hv_got ▸ X_bs.at hl_got
        have K32 : ∀ t, Steps p.tables e below (T31.setTop (mkF m 213 #[.val (.long q0), .second, .val (.int p1), .val (.long q2), .second, .val (.long q3), .second, .val (.int p4), .val (.long st), .second, .val (.int nn), .val (.long (q2 &&& (9223372036854775807 : Int64))), .second, .val (.long (q3 &&& (9223372036854775807 : Int64))), .second, .val (.long t1), .second, .val (.long t2), .second, .val (.int kx), .val (.ref b9), .val (.ref b10), .val (.ref got), .val (.int (((t1 / st) - ((t1 / st) / (nn.toInt64)) * (nn.toInt64)).toInt32)), .val (.int (((t2 / st) - ((t2 / st) / (nn.toInt64)) * (nn.toInt64)).toInt32)), .val (.int (((((((t2 / st) - ((t2 / st) / (nn.toInt64)) * (nn.toInt64)).toInt32) + kx) - (((t1 / st) - ((t1 / st) / (nn.toInt64)) * (nn.toInt64)).toInt32)) + nn) - (((((((t2 / st) - ((t2 / st) / (nn.toInt64)) * (nn.toInt64)).toInt32) + kx) - (((t1 / st) - ((t1 / st) / (nn.toInt64)) * (nn.toInt64)).toInt32)) + nn) / nn) * nn))] [])) t → Steps p.tables e below (s₁.setTop (entryFrame m #[(.long q0), (.int p1), (.long q2), (.long q3), (.int p4)] maxLocals)) t := by
          intro t kt
          refine K22 t ?_
          show Steps p.tables e below (T21.setTop (mkF m 141 #[.val (.long q0), .second, .val (.int p1), .val (.long q2), .second, .val (.long q3), .second, .val (.int p4), .val (.long st), .second, .val (.int nn), .val (.long (q2 &&& (9223372036854775807 : Int64))), .second, .val (.long (q3 &&& (9223372036854775807 : Int64))), .second, .val (.long t1), .second, .val (.long t2), .second, .val (.int kx), .val (.ref b9), .val (.ref b10), .unset, .unset, .unset, .unset] [(.int (4 : Int32)), (.int nn)])) _
          refine XS.icmpYes X21.here hx rfl (pc0 := 141) (pc' := 156) rfl (hb hby at_141) rfl (flt hc141).2.2.2 (by decide) (by decide) ?_
          show Steps p.tables e below (T21.setTop (mkF m 156 #[.val (.long q0), .second, .val (.int p1), .val (.long q2), .second, .val (.long q3), .second, .val (.int p4), .val (.long st), .second, .val (.int nn), .val (.long (q2 &&& (9223372036854775807 : Int64))), .second, .val (.long (q3 &&& (9223372036854775807 : Int64))), .second, .val (.long t1), .second, .val (.long t2), .second, .val (.int kx), .val (.ref b9), .val (.ref b10), .unset, .unset, .unset, .unset] [])) _
          refine XS.aload X21.here hx rfl (hb hby at_156) rfl rfl ?_
          show Steps p.tables e below (T21.setTop (mkF m 158 #[.val (.long q0), .second, .val (.int p1), .val (.long q2), .second, .val (.long q3), .second, .val (.int p4), .val (.long st), .second, .val (.int nn), .val (.long (q2 &&& (9223372036854775807 : Int64))), .second, .val (.long (q3 &&& (9223372036854775807 : Int64))), .second, .val (.long t1), .second, .val (.long t2), .second, .val (.int kx), .val (.ref b9), .val (.ref b10), .unset, .unset, .unset, .unset] [(.ref b10)])) _
          refine XS.lload X21.here hx rfl (hb hby at_158) rfl ?_
          show Steps p.tables e below (T21.setTop (mkF m 160 #[.val (.long q0), .second, .val (.int p1), .val (.long q2), .second, .val (.long q3), .second, .val (.int p4), .val (.long st), .second, .val (.int nn), .val (.long (q2 &&& (9223372036854775807 : Int64))), .second, .val (.long (q3 &&& (9223372036854775807 : Int64))), .second, .val (.long t1), .second, .val (.long t2), .second, .val (.int kx), .val (.ref b9), .val (.ref b10), .unset, .unset, .unset, .unset] [(.long t2), (.ref b10)])) _
          refine st30.trans ?_
          show Steps p.tables e below (T30.setTop (mkF m 163 #[.val (.long q0), .second, .val (.int p1), .val (.long q2), .second, .val (.long q3), .second, .val (.int p4), .val (.long st), .second, .val (.int nn), .val (.long (q2 &&& (9223372036854775807 : Int64))), .second, .val (.long (q3 &&& (9223372036854775807 : Int64))), .second, .val (.long t1), .second, .val (.long t2), .second, .val (.int kx), .val (.ref b9), .val (.ref b10), .unset, .unset, .unset, .unset] [])) _
          refine XS.aload X30.here hx rfl (hb hby at_163) rfl rfl ?_
          show Steps p.tables e below (T30.setTop (mkF m 165 #[.val (.long q0), .second, .val (.int p1), .val (.long q2), .second, .val (.long q3), .second, .val (.int p4), .val (.long st), .second, .val (.int nn), .val (.long (q2 &&& (9223372036854775807 : Int64))), .second, .val (.long (q3 &&& (9223372036854775807 : Int64))), .second, .val (.long t1), .second, .val (.long t2), .second, .val (.int kx), .val (.ref b9), .val (.ref b10), .unset, .unset, .unset, .unset] [(.ref b10)])) _
          refine XS.iload X30.here hx rfl (hb hby at_165) rfl ?_
          show Steps p.tables e below (T30.setTop (mkF m 167 #[.val (.long q0), .second, .val (.int p1), .val (.long q2), .second, .val (.long q3), .second, .val (.int p4), .val (.long st), .second, .val (.int nn), .val (.long (q2 &&& (9223372036854775807 : Int64))), .second, .val (.long (q3 &&& (9223372036854775807 : Int64))), .second, .val (.long t1), .second, .val (.long t2), .second, .val (.int kx), .val (.ref b9), .val (.ref b10), .unset, .unset, .unset, .unset] [(.int kx), (.ref b10)])) _
          refine XS.i2l X30.here hx rfl (hb hby at_167) rfl ?_
          show Steps p.tables e below (T30.setTop (mkF m 168 #[.val (.long q0), .second, .val (.int p1), .val (.long q2), .second, .val (.long q3), .second, .val (.int p4), .val (.long st), .second, .val (.int nn), .val (.long (q2 &&& (9223372036854775807 : Int64))), .second, .val (.long (q3 &&& (9223372036854775807 : Int64))), .second, .val (.long t1), .second, .val (.long t2), .second, .val (.int kx), .val (.ref b9), .val (.ref b10), .unset, .unset, .unset, .unset] [(.long (kx.toInt64)), (.ref b10)])) _
          refine st31.trans ?_
          show Steps p.tables e below (T31.setTop (mkF m 171 #[.val (.long q0), .second, .val (.int p1), .val (.long q2), .second, .val (.long q3), .second, .val (.int p4), .val (.long st), .second, .val (.int nn), .val (.long (q2 &&& (9223372036854775807 : Int64))), .second, .val (.long (q3 &&& (9223372036854775807 : Int64))), .second, .val (.long t1), .second, .val (.long t2), .second, .val (.int kx), .val (.ref b9), .val (.ref b10), .unset, .unset, .unset, .unset] [(.ref got)])) _
          refine XS.astore X31.here hx rfl (hb hby at_171) rfl rfl (l' := #[.val (.long q0), .second, .val (.int p1), .val (.long q2), .second, .val (.long q3), .second, .val (.int p4), .val (.long st), .second, .val (.int nn), .val (.long (q2 &&& (9223372036854775807 : Int64))), .second, .val (.long (q3 &&& (9223372036854775807 : Int64))), .second, .val (.long t1), .second, .val (.long t2), .second, .val (.int kx), .val (.ref b9), .val (.ref b10), .val (.ref got), .unset, .unset, .unset]) rfl ?_
          show Steps p.tables e below (T31.setTop (mkF m 173 #[.val (.long q0), .second, .val (.int p1), .val (.long q2), .second, .val (.long q3), .second, .val (.int p4), .val (.long st), .second, .val (.int nn), .val (.long (q2 &&& (9223372036854775807 : Int64))), .second, .val (.long (q3 &&& (9223372036854775807 : Int64))), .second, .val (.long t1), .second, .val (.long t2), .second, .val (.int kx), .val (.ref b9), .val (.ref b10), .val (.ref got), .unset, .unset, .unset] [])) _
          refine XS.lload X31.here hx rfl (hb hby at_173) rfl ?_
          show Steps p.tables e below (T31.setTop (mkF m 175 #[.val (.long q0), .second, .val (.int p1), .val (.long q2), .second, .val (.long q3), .second, .val (.int p4), .val (.long st), .second, .val (.int nn), .val (.long (q2 &&& (9223372036854775807 : Int64))), .second, .val (.long (q3 &&& (9223372036854775807 : Int64))), .second, .val (.long t1), .second, .val (.long t2), .second, .val (.int kx), .val (.ref b9), .val (.ref b10), .val (.ref got), .unset, .unset, .unset] [(.long t1)])) _
          refine XS.lload X31.here hx rfl (hb hby at_175) rfl ?_
          show Steps p.tables e below (T31.setTop (mkF m 177 #[.val (.long q0), .second, .val (.int p1), .val (.long q2), .second, .val (.long q3), .second, .val (.int p4), .val (.long st), .second, .val (.int nn), .val (.long (q2 &&& (9223372036854775807 : Int64))), .second, .val (.long (q3 &&& (9223372036854775807 : Int64))), .second, .val (.long t1), .second, .val (.long t2), .second, .val (.int kx), .val (.ref b9), .val (.ref b10), .val (.ref got), .unset, .unset, .unset] [(.long st), (.long t1)])) _
          refine XS.ldiv X31.here hx rfl (hb hby at_177) rfl (own_nzst hst) ?_
          show Steps p.tables e below (T31.setTop (mkF m 178 #[.val (.long q0), .second, .val (.int p1), .val (.long q2), .second, .val (.long q3), .second, .val (.int p4), .val (.long st), .second, .val (.int nn), .val (.long (q2 &&& (9223372036854775807 : Int64))), .second, .val (.long (q3 &&& (9223372036854775807 : Int64))), .second, .val (.long t1), .second, .val (.long t2), .second, .val (.int kx), .val (.ref b9), .val (.ref b10), .val (.ref got), .unset, .unset, .unset] [(.long (t1 / st))])) _
          refine XS.iload X31.here hx rfl (hb hby at_178) rfl ?_
          show Steps p.tables e below (T31.setTop (mkF m 180 #[.val (.long q0), .second, .val (.int p1), .val (.long q2), .second, .val (.long q3), .second, .val (.int p4), .val (.long st), .second, .val (.int nn), .val (.long (q2 &&& (9223372036854775807 : Int64))), .second, .val (.long (q3 &&& (9223372036854775807 : Int64))), .second, .val (.long t1), .second, .val (.long t2), .second, .val (.int kx), .val (.ref b9), .val (.ref b10), .val (.ref got), .unset, .unset, .unset] [(.int nn), (.long (t1 / st))])) _
          refine XS.i2l X31.here hx rfl (hb hby at_180) rfl ?_
          show Steps p.tables e below (T31.setTop (mkF m 181 #[.val (.long q0), .second, .val (.int p1), .val (.long q2), .second, .val (.long q3), .second, .val (.int p4), .val (.long st), .second, .val (.int nn), .val (.long (q2 &&& (9223372036854775807 : Int64))), .second, .val (.long (q3 &&& (9223372036854775807 : Int64))), .second, .val (.long t1), .second, .val (.long t2), .second, .val (.int kx), .val (.ref b9), .val (.ref b10), .val (.ref got), .unset, .unset, .unset] [(.long (nn.toInt64)), (.long (t1 / st))])) _
          refine XS.lrem X31.here hx rfl (hb hby at_181) rfl (own_nz64 hnn.1) ?_
          show Steps p.tables e below (T31.setTop (mkF m 182 #[.val (.long q0), .second, .val (.int p1), .val (.long q2), .second, .val (.long q3), .second, .val (.int p4), .val (.long st), .second, .val (.int nn), .val (.long (q2 &&& (9223372036854775807 : Int64))), .second, .val (.long (q3 &&& (9223372036854775807 : Int64))), .second, .val (.long t1), .second, .val (.long t2), .second, .val (.int kx), .val (.ref b9), .val (.ref b10), .val (.ref got), .unset, .unset, .unset] [(.long ((t1 / st) - ((t1 / st) / (nn.toInt64)) * (nn.toInt64)))])) _
          refine XS.l2i X31.here hx rfl (hb hby at_182) rfl ?_
          show Steps p.tables e below (T31.setTop (mkF m 183 #[.val (.long q0), .second, .val (.int p1), .val (.long q2), .second, .val (.long q3), .second, .val (.int p4), .val (.long st), .second, .val (.int nn), .val (.long (q2 &&& (9223372036854775807 : Int64))), .second, .val (.long (q3 &&& (9223372036854775807 : Int64))), .second, .val (.long t1), .second, .val (.long t2), .second, .val (.int kx), .val (.ref b9), .val (.ref b10), .val (.ref got), .unset, .unset, .unset] [(.int (((t1 / st) - ((t1 / st) / (nn.toInt64)) * (nn.toInt64)).toInt32))])) _
          refine XS.istore X31.here hx rfl (hb hby at_183) rfl (l' := #[.val (.long q0), .second, .val (.int p1), .val (.long q2), .second, .val (.long q3), .second, .val (.int p4), .val (.long st), .second, .val (.int nn), .val (.long (q2 &&& (9223372036854775807 : Int64))), .second, .val (.long (q3 &&& (9223372036854775807 : Int64))), .second, .val (.long t1), .second, .val (.long t2), .second, .val (.int kx), .val (.ref b9), .val (.ref b10), .val (.ref got), .val (.int (((t1 / st) - ((t1 / st) / (nn.toInt64)) * (nn.toInt64)).toInt32)), .unset, .unset]) rfl ?_
          show Steps p.tables e below (T31.setTop (mkF m 185 #[.val (.long q0), .second, .val (.int p1), .val (.long q2), .second, .val (.long q3), .second, .val (.int p4), .val (.long st), .second, .val (.int nn), .val (.long (q2 &&& (9223372036854775807 : Int64))), .second, .val (.long (q3 &&& (9223372036854775807 : Int64))), .second, .val (.long t1), .second, .val (.long t2), .second, .val (.int kx), .val (.ref b9), .val (.ref b10), .val (.ref got), .val (.int (((t1 / st) - ((t1 / st) / (nn.toInt64)) * (nn.toInt64)).toInt32)), .unset, .unset] [])) _
          refine XS.lload X31.here hx rfl (hb hby at_185) rfl ?_
          show Steps p.tables e below (T31.setTop (mkF m 187 #[.val (.long q0), .second, .val (.int p1), .val (.long q2), .second, .val (.long q3), .second, .val (.int p4), .val (.long st), .second, .val (.int nn), .val (.long (q2 &&& (9223372036854775807 : Int64))), .second, .val (.long (q3 &&& (9223372036854775807 : Int64))), .second, .val (.long t1), .second, .val (.long t2), .second, .val (.int kx), .val (.ref b9), .val (.ref b10), .val (.ref got), .val (.int (((t1 / st) - ((t1 / st) / (nn.toInt64)) * (nn.toInt64)).toInt32)), .unset, .unset] [(.long t2)])) _
          refine XS.lload X31.here hx rfl (hb hby at_187) rfl ?_
          show Steps p.tables e below (T31.setTop (mkF m 189 #[.val (.long q0), .second, .val (.int p1), .val (.long q2), .second, .val (.long q3), .second, .val (.int p4), .val (.long st), .second, .val (.int nn), .val (.long (q2 &&& (9223372036854775807 : Int64))), .second, .val (.long (q3 &&& (9223372036854775807 : Int64))), .second, .val (.long t1), .second, .val (.long t2), .second, .val (.int kx), .val (.ref b9), .val (.ref b10), .val (.ref got), .val (.int (((t1 / st) - ((t1 / st) / (nn.toInt64)) * (nn.toInt64)).toInt32)), .unset, .unset] [(.long st), (.long t2)])) _
          refine XS.ldiv X31.here hx rfl (hb hby at_189) rfl (own_nzst hst) ?_
          show Steps p.tables e below (T31.setTop (mkF m 190 #[.val (.long q0), .second, .val (.int p1), .val (.long q2), .second, .val (.long q3), .second, .val (.int p4), .val (.long st), .second, .val (.int nn), .val (.long (q2 &&& (9223372036854775807 : Int64))), .second, .val (.long (q3 &&& (9223372036854775807 : Int64))), .second, .val (.long t1), .second, .val (.long t2), .second, .val (.int kx), .val (.ref b9), .val (.ref b10), .val (.ref got), .val (.int (((t1 / st) - ((t1 / st) / (nn.toInt64)) * (nn.toInt64)).toInt32)), .unset, .unset] [(.long (t2 / st))])) _
          refine XS.iload X31.here hx rfl (hb hby at_190) rfl ?_
          show Steps p.tables e below (T31.setTop (mkF m 192 #[.val (.long q0), .second, .val (.int p1), .val (.long q2), .second, .val (.long q3), .second, .val (.int p4), .val (.long st), .second, .val (.int nn), .val (.long (q2 &&& (9223372036854775807 : Int64))), .second, .val (.long (q3 &&& (9223372036854775807 : Int64))), .second, .val (.long t1), .second, .val (.long t2), .second, .val (.int kx), .val (.ref b9), .val (.ref b10), .val (.ref got), .val (.int (((t1 / st) - ((t1 / st) / (nn.toInt64)) * (nn.toInt64)).toInt32)), .unset, .unset] [(.int nn), (.long (t2 / st))])) _
          refine XS.i2l X31.here hx rfl (hb hby at_192) rfl ?_
          show Steps p.tables e below (T31.setTop (mkF m 193 #[.val (.long q0), .second, .val (.int p1), .val (.long q2), .second, .val (.long q3), .second, .val (.int p4), .val (.long st), .second, .val (.int nn), .val (.long (q2 &&& (9223372036854775807 : Int64))), .second, .val (.long (q3 &&& (9223372036854775807 : Int64))), .second, .val (.long t1), .second, .val (.long t2), .second, .val (.int kx), .val (.ref b9), .val (.ref b10), .val (.ref got), .val (.int (((t1 / st) - ((t1 / st) / (nn.toInt64)) * (nn.toInt64)).toInt32)), .unset, .unset] [(.long (nn.toInt64)), (.long (t2 / st))])) _
          refine XS.lrem X31.here hx rfl (hb hby at_193) rfl (own_nz64 hnn.1) ?_
          show Steps p.tables e below (T31.setTop (mkF m 194 #[.val (.long q0), .second, .val (.int p1), .val (.long q2), .second, .val (.long q3), .second, .val (.int p4), .val (.long st), .second, .val (.int nn), .val (.long (q2 &&& (9223372036854775807 : Int64))), .second, .val (.long (q3 &&& (9223372036854775807 : Int64))), .second, .val (.long t1), .second, .val (.long t2), .second, .val (.int kx), .val (.ref b9), .val (.ref b10), .val (.ref got), .val (.int (((t1 / st) - ((t1 / st) / (nn.toInt64)) * (nn.toInt64)).toInt32)), .unset, .unset] [(.long ((t2 / st) - ((t2 / st) / (nn.toInt64)) * (nn.toInt64)))])) _
          refine XS.l2i X31.here hx rfl (hb hby at_194) rfl ?_
          show Steps p.tables e below (T31.setTop (mkF m 195 #[.val (.long q0), .second, .val (.int p1), .val (.long q2), .second, .val (.long q3), .second, .val (.int p4), .val (.long st), .second, .val (.int nn), .val (.long (q2 &&& (9223372036854775807 : Int64))), .second, .val (.long (q3 &&& (9223372036854775807 : Int64))), .second, .val (.long t1), .second, .val (.long t2), .second, .val (.int kx), .val (.ref b9), .val (.ref b10), .val (.ref got), .val (.int (((t1 / st) - ((t1 / st) / (nn.toInt64)) * (nn.toInt64)).toInt32)), .unset, .unset] [(.int (((t2 / st) - ((t2 / st) / (nn.toInt64)) * (nn.toInt64)).toInt32))])) _
          refine XS.istore X31.here hx rfl (hb hby at_195) rfl (l' := #[.val (.long q0), .second, .val (.int p1), .val (.long q2), .second, .val (.long q3), .second, .val (.int p4), .val (.long st), .second, .val (.int nn), .val (.long (q2 &&& (9223372036854775807 : Int64))), .second, .val (.long (q3 &&& (9223372036854775807 : Int64))), .second, .val (.long t1), .second, .val (.long t2), .second, .val (.int kx), .val (.ref b9), .val (.ref b10), .val (.ref got), .val (.int (((t1 / st) - ((t1 / st) / (nn.toInt64)) * (nn.toInt64)).toInt32)), .val (.int (((t2 / st) - ((t2 / st) / (nn.toInt64)) * (nn.toInt64)).toInt32)), .unset]) rfl ?_
          show Steps p.tables e below (T31.setTop (mkF m 197 #[.val (.long q0), .second, .val (.int p1), .val (.long q2), .second, .val (.long q3), .second, .val (.int p4), .val (.long st), .second, .val (.int nn), .val (.long (q2 &&& (9223372036854775807 : Int64))), .second, .val (.long (q3 &&& (9223372036854775807 : Int64))), .second, .val (.long t1), .second, .val (.long t2), .second, .val (.int kx), .val (.ref b9), .val (.ref b10), .val (.ref got), .val (.int (((t1 / st) - ((t1 / st) / (nn.toInt64)) * (nn.toInt64)).toInt32)), .val (.int (((t2 / st) - ((t2 / st) / (nn.toInt64)) * (nn.toInt64)).toInt32)), .unset] [])) _
          refine XS.iload X31.here hx rfl (hb hby at_197) rfl ?_
          show Steps p.tables e below (T31.setTop (mkF m 199 #[.val (.long q0), .second, .val (.int p1), .val (.long q2), .second, .val (.long q3), .second, .val (.int p4), .val (.long st), .second, .val (.int nn), .val (.long (q2 &&& (9223372036854775807 : Int64))), .second, .val (.long (q3 &&& (9223372036854775807 : Int64))), .second, .val (.long t1), .second, .val (.long t2), .second, .val (.int kx), .val (.ref b9), .val (.ref b10), .val (.ref got), .val (.int (((t1 / st) - ((t1 / st) / (nn.toInt64)) * (nn.toInt64)).toInt32)), .val (.int (((t2 / st) - ((t2 / st) / (nn.toInt64)) * (nn.toInt64)).toInt32)), .unset] [(.int (((t2 / st) - ((t2 / st) / (nn.toInt64)) * (nn.toInt64)).toInt32))])) _
          refine XS.iload X31.here hx rfl (hb hby at_199) rfl ?_
          show Steps p.tables e below (T31.setTop (mkF m 201 #[.val (.long q0), .second, .val (.int p1), .val (.long q2), .second, .val (.long q3), .second, .val (.int p4), .val (.long st), .second, .val (.int nn), .val (.long (q2 &&& (9223372036854775807 : Int64))), .second, .val (.long (q3 &&& (9223372036854775807 : Int64))), .second, .val (.long t1), .second, .val (.long t2), .second, .val (.int kx), .val (.ref b9), .val (.ref b10), .val (.ref got), .val (.int (((t1 / st) - ((t1 / st) / (nn.toInt64)) * (nn.toInt64)).toInt32)), .val (.int (((t2 / st) - ((t2 / st) / (nn.toInt64)) * (nn.toInt64)).toInt32)), .unset] [(.int kx), (.int (((t2 / st) - ((t2 / st) / (nn.toInt64)) * (nn.toInt64)).toInt32))])) _
          refine XS.iadd X31.here hx rfl (hb hby at_201) rfl ?_
          show Steps p.tables e below (T31.setTop (mkF m 202 #[.val (.long q0), .second, .val (.int p1), .val (.long q2), .second, .val (.long q3), .second, .val (.int p4), .val (.long st), .second, .val (.int nn), .val (.long (q2 &&& (9223372036854775807 : Int64))), .second, .val (.long (q3 &&& (9223372036854775807 : Int64))), .second, .val (.long t1), .second, .val (.long t2), .second, .val (.int kx), .val (.ref b9), .val (.ref b10), .val (.ref got), .val (.int (((t1 / st) - ((t1 / st) / (nn.toInt64)) * (nn.toInt64)).toInt32)), .val (.int (((t2 / st) - ((t2 / st) / (nn.toInt64)) * (nn.toInt64)).toInt32)), .unset] [(.int ((((t2 / st) - ((t2 / st) / (nn.toInt64)) * (nn.toInt64)).toInt32) + kx))])) _
          refine XS.iload X31.here hx rfl (hb hby at_202) rfl ?_
          show Steps p.tables e below (T31.setTop (mkF m 204 #[.val (.long q0), .second, .val (.int p1), .val (.long q2), .second, .val (.long q3), .second, .val (.int p4), .val (.long st), .second, .val (.int nn), .val (.long (q2 &&& (9223372036854775807 : Int64))), .second, .val (.long (q3 &&& (9223372036854775807 : Int64))), .second, .val (.long t1), .second, .val (.long t2), .second, .val (.int kx), .val (.ref b9), .val (.ref b10), .val (.ref got), .val (.int (((t1 / st) - ((t1 / st) / (nn.toInt64)) * (nn.toInt64)).toInt32)), .val (.int (((t2 / st) - ((t2 / st) / (nn.toInt64)) * (nn.toInt64)).toInt32)), .unset] [(.int (((t1 / st) - ((t1 / st) / (nn.toInt64)) * (nn.toInt64)).toInt32)), (.int ((((t2 / st) - ((t2 / st) / (nn.toInt64)) * (nn.toInt64)).toInt32) + kx))])) _
          refine XS.isub X31.here hx rfl (hb hby at_204) rfl ?_
          show Steps p.tables e below (T31.setTop (mkF m 205 #[.val (.long q0), .second, .val (.int p1), .val (.long q2), .second, .val (.long q3), .second, .val (.int p4), .val (.long st), .second, .val (.int nn), .val (.long (q2 &&& (9223372036854775807 : Int64))), .second, .val (.long (q3 &&& (9223372036854775807 : Int64))), .second, .val (.long t1), .second, .val (.long t2), .second, .val (.int kx), .val (.ref b9), .val (.ref b10), .val (.ref got), .val (.int (((t1 / st) - ((t1 / st) / (nn.toInt64)) * (nn.toInt64)).toInt32)), .val (.int (((t2 / st) - ((t2 / st) / (nn.toInt64)) * (nn.toInt64)).toInt32)), .unset] [(.int (((((t2 / st) - ((t2 / st) / (nn.toInt64)) * (nn.toInt64)).toInt32) + kx) - (((t1 / st) - ((t1 / st) / (nn.toInt64)) * (nn.toInt64)).toInt32)))])) _
          refine XS.iload X31.here hx rfl (hb hby at_205) rfl ?_
          show Steps p.tables e below (T31.setTop (mkF m 207 #[.val (.long q0), .second, .val (.int p1), .val (.long q2), .second, .val (.long q3), .second, .val (.int p4), .val (.long st), .second, .val (.int nn), .val (.long (q2 &&& (9223372036854775807 : Int64))), .second, .val (.long (q3 &&& (9223372036854775807 : Int64))), .second, .val (.long t1), .second, .val (.long t2), .second, .val (.int kx), .val (.ref b9), .val (.ref b10), .val (.ref got), .val (.int (((t1 / st) - ((t1 / st) / (nn.toInt64)) * (nn.toInt64)).toInt32)), .val (.int (((t2 / st) - ((t2 / st) / (nn.toInt64)) * (nn.toInt64)).toInt32)), .unset] [(.int nn), (.int (((((t2 / st) - ((t2 / st) / (nn.toInt64)) * (nn.toInt64)).toInt32) + kx) - (((t1 / st) - ((t1 / st) / (nn.toInt64)) * (nn.toInt64)).toInt32)))])) _
          refine XS.iadd X31.here hx rfl (hb hby at_207) rfl ?_
          show Steps p.tables e below (T31.setTop (mkF m 208 #[.val (.long q0), .second, .val (.int p1), .val (.long q2), .second, .val (.long q3), .second, .val (.int p4), .val (.long st), .second, .val (.int nn), .val (.long (q2 &&& (9223372036854775807 : Int64))), .second, .val (.long (q3 &&& (9223372036854775807 : Int64))), .second, .val (.long t1), .second, .val (.long t2), .second, .val (.int kx), .val (.ref b9), .val (.ref b10), .val (.ref got), .val (.int (((t1 / st) - ((t1 / st) / (nn.toInt64)) * (nn.toInt64)).toInt32)), .val (.int (((t2 / st) - ((t2 / st) / (nn.toInt64)) * (nn.toInt64)).toInt32)), .unset] [(.int ((((((t2 / st) - ((t2 / st) / (nn.toInt64)) * (nn.toInt64)).toInt32) + kx) - (((t1 / st) - ((t1 / st) / (nn.toInt64)) * (nn.toInt64)).toInt32)) + nn))])) _
          refine XS.iload X31.here hx rfl (hb hby at_208) rfl ?_
          show Steps p.tables e below (T31.setTop (mkF m 210 #[.val (.long q0), .second, .val (.int p1), .val (.long q2), .second, .val (.long q3), .second, .val (.int p4), .val (.long st), .second, .val (.int nn), .val (.long (q2 &&& (9223372036854775807 : Int64))), .second, .val (.long (q3 &&& (9223372036854775807 : Int64))), .second, .val (.long t1), .second, .val (.long t2), .second, .val (.int kx), .val (.ref b9), .val (.ref b10), .val (.ref got), .val (.int (((t1 / st) - ((t1 / st) / (nn.toInt64)) * (nn.toInt64)).toInt32)), .val (.int (((t2 / st) - ((t2 / st) / (nn.toInt64)) * (nn.toInt64)).toInt32)), .unset] [(.int nn), (.int ((((((t2 / st) - ((t2 / st) / (nn.toInt64)) * (nn.toInt64)).toInt32) + kx) - (((t1 / st) - ((t1 / st) / (nn.toInt64)) * (nn.toInt64)).toInt32)) + nn))])) _
          refine XS.irem X31.here hx rfl (hb hby at_210) rfl (own_nz32 hnn.1) ?_
          show Steps p.tables e below (T31.setTop (mkF m 211 #[.val (.long q0), .second, .val (.int p1), .val (.long q2), .second, .val (.long q3), .second, .val (.int p4), .val (.long st), .second, .val (.int nn), .val (.long (q2 &&& (9223372036854775807 : Int64))), .second, .val (.long (q3 &&& (9223372036854775807 : Int64))), .second, .val (.long t1), .second, .val (.long t2), .second, .val (.int kx), .val (.ref b9), .val (.ref b10), .val (.ref got), .val (.int (((t1 / st) - ((t1 / st) / (nn.toInt64)) * (nn.toInt64)).toInt32)), .val (.int (((t2 / st) - ((t2 / st) / (nn.toInt64)) * (nn.toInt64)).toInt32)), .unset] [(.int (((((((t2 / st) - ((t2 / st) / (nn.toInt64)) * (nn.toInt64)).toInt32) + kx) - (((t1 / st) - ((t1 / st) / (nn.toInt64)) * (nn.toInt64)).toInt32)) + nn) - (((((((t2 / st) - ((t2 / st) / (nn.toInt64)) * (nn.toInt64)).toInt32) + kx) - (((t1 / st) - ((t1 / st) / (nn.toInt64)) * (nn.toInt64)).toInt32)) + nn) / nn) * nn))])) _
          refine XS.istore X31.here hx rfl (hb hby at_211) rfl (l' := #[.val (.long q0), .second, .val (.int p1), .val (.long q2), .second, .val (.long q3), .second, .val (.int p4), .val (.long st), .second, .val (.int nn), .val (.long (q2 &&& (9223372036854775807 : Int64))), .second, .val (.long (q3 &&& (9223372036854775807 : Int64))), .second, .val (.long t1), .second, .val (.long t2), .second, .val (.int kx), .val (.ref b9), .val (.ref b10), .val (.ref got), .val (.int (((t1 / st) - ((t1 / st) / (nn.toInt64)) * (nn.toInt64)).toInt32)), .val (.int (((t2 / st) - ((t2 / st) / (nn.toInt64)) * (nn.toInt64)).toInt32)), .val (.int (((((((t2 / st) - ((t2 / st) / (nn.toInt64)) * (nn.toInt64)).toInt32) + kx) - (((t1 / st) - ((t1 / st) / (nn.toInt64)) * (nn.toInt64)).toInt32)) + nn) - (((((((t2 / st) - ((t2 / st) / (nn.toInt64)) * (nn.toInt64)).toInt32) + kx) - (((t1 / st) - ((t1 / st) / (nn.toInt64)) * (nn.toInt64)).toInt32)) + nn) / nn) * nn))]) rfl ?_
          exact kt
        obtain ⟨idx, hg_idx⟩ : ∃ z, z = (((((((t2 / st) - ((t2 / st) / (nn.toInt64)) * (nn.toInt64)).toInt32) + kx) - (((t1 / st) - ((t1 / st) / (nn.toInt64)) * (nn.toInt64)).toInt32)) + nn) - (((((((t2 / st) - ((t2 / st) / (nn.toInt64)) * (nn.toInt64)).toInt32) + kx) - (((t1 / st) - ((t1 / st) / (nn.toInt64)) * (nn.toInt64)).toInt32)) + nn) / nn) * nn) := ⟨_, rfl⟩
        rw [← hg_idx] at K32
        have hidI : idx.toInt = ((own_slot t2 st nn).toInt + kx.toInt - (own_slot t1 st nn).toInt + nn.toInt) % nn.toInt := by rw [hg_idx]; exact own_idxI hnn bs1 bs2 hkx
        have hid : 0 ≤ idx.toInt ∧ idx.toInt < nn.toInt := by rw [hidI]; exact ⟨Int.emod_nonneg _ (by omega), Int.emod_lt_of_pos _ (by omega)⟩
        obtain ⟨_, _, ⟨T33, L33, k33, n33⟩, -, X33, ⟨Lc33, hQ33, l33, y33, z33⟩, st33⟩ := Jvm.LawKit.callS X31 hx (y := (⟨"com/example/lachesis/lachesis/timer/WheelBucketPinLaw", "distinct", "([Lcom/example/lachesis/lachesis/timer/Bucket;I)Z"⟩ : MethodName)) hown (mvT hZ (hw _ (List.mem_of_getElem? (i := 56) rfl))) (mvT hZ (hw _ (List.mem_of_getElem? (i := 57) rfl))) (mvT hZ (hw _ (List.mem_of_getElem? (i := 58) rfl))) (mvT hZ (hw _ (List.mem_of_getElem? (i := 59) rfl))) (by decide) (backOf (W := 0) (rmD4 l Z a0 hw [] b9 nn k9 c0 c1 c2 c3 T30.heap n0 Zn V_b9 hk (by rw [hv_c1, hv_c0]; exact own_dis hbn11 hl_c1 hl_c0 (own_ixne hnn bs1 hq_c1 hq_c0 (by decide))) (by rw [hv_c2, hv_c0]; exact own_dis hbn11 hl_c2 hl_c0 (own_ixne hnn bs1 hq_c2 hq_c0 (by decide))) (by rw [hv_c2, hv_c1]; exact own_dis hbn11 hl_c2 hl_c1 (own_ixne hnn bs1 hq_c2 hq_c1 (by decide))) (by rw [hv_c3, hv_c0]; exact own_dis hbn11 hl_c3 hl_c0 (own_ixne hnn bs1 hq_c3 hq_c0 (by decide))) (by rw [hv_c3, hv_c1]; exact own_dis hbn11 hl_c3 hl_c1 (own_ixne hnn bs1 hq_c3 hq_c1 (by decide))) (by rw [hv_c3, hv_c2]; exact own_dis hbn11 hl_c3 hl_c2 (own_ixne hnn bs1 hq_c3 hq_c2 (by decide)))) hZ (hw _ (List.mem_of_getElem? (i := 59) rfl)) (hw _ (List.mem_of_getElem? (i := 58) rfl)) (by decide) (by decide)) (g := (mkF m 217 #[.val (.long q0), .second, .val (.int p1), .val (.long q2), .second, .val (.long q3), .second, .val (.int p4), .val (.long st), .second, .val (.int nn), .val (.long (q2 &&& (9223372036854775807 : Int64))), .second, .val (.long (q3 &&& (9223372036854775807 : Int64))), .second, .val (.long t1), .second, .val (.long t2), .second, .val (.int kx), .val (.ref b9), .val (.ref b10), .val (.ref got), .val (.int (((t1 / st) - ((t1 / st) / (nn.toInt64)) * (nn.toInt64)).toInt32)), .val (.int (((t2 / st) - ((t2 / st) / (nn.toInt64)) * (nn.toInt64)).toInt32)), .val (.int idx)] [(.int nn), (.ref b9)])) rfl (by rw [hml]; rfl) (argsL := [(.ref b9), (.int nn)]) (rest := []) (lenOf pd_8 rfl) rfl (by show 2 * 0 + _ ≤ _; exact Nat.le_of_eq rfl) (hb hby at_217) (fun _ _ => ⟨rfl, e31, (by decide : 8 + 0 ≤ _), (by decide : 35 + 0 ≤ _)⟩)
        dsimp only [Pt.U, Pt.locs, Pt.cells, Pt.slots] at X33 l33 y33 z33 st33 hQ33
        subst l33 y33 z33
        obtain ⟨rfl, N33q, e33q⟩ := hQ33
        have N33 := Fr.app N31 N33q
        have e33 : T33.heap = T30.heap := e33q
        have hc220 : ¬ ((1 : Int32) = (0 : Int32)) := (by decide)
        have Vq34 := V_b9
        obtain ⟨cl34, Ar34, q34, S34, N34z, H34, G34⟩ := Vq34
        have hin34 : ¬ (idx < 0 ∨ cl34.slots.size ≤ (idx).toNatClampNeg) := inb_of S34 ⟨own_ge0.mpr hid.1, by rw [Int32.lt_iff_toInt_lt]; have z : (5 : Int32).toInt = 5 := (by decide); omega⟩
        have hat34 : cl34.slots[(idx).toNatClampNeg]? = some (.ref got) := Has.at H34 hin34 (by
             have hi5 : idx.toInt = 0 ∨ idx.toInt = 1 ∨ idx.toInt = 2 ∨ idx.toInt = 3 := by omega
             rcases hi5 with hi5 | hi5 | hi5 | hi5
             · rw [show idx.toNatClampNeg = 0 by have z := own_nn (own_ge0.mpr hid.1); omega]
               show Value.ref c0 = Value.ref got
               rw [hv_c0, hv_got, own_hit (q := (0 : Int64)) hnn bs1 bs2 hkx hidI (by rw [hi5]; decide)]
             · rw [show idx.toNatClampNeg = 1 by have z := own_nn (own_ge0.mpr hid.1); omega]
               show Value.ref c1 = Value.ref got
               rw [hv_c1, hv_got, own_hit (q := (1 : Int64)) hnn bs1 bs2 hkx hidI (by rw [hi5]; decide)]
             · rw [show idx.toNatClampNeg = 2 by have z := own_nn (own_ge0.mpr hid.1); omega]
               show Value.ref c2 = Value.ref got
               rw [hv_c2, hv_got, own_hit (q := (2 : Int64)) hnn bs1 bs2 hkx hidI (by rw [hi5]; decide)]
             · rw [show idx.toNatClampNeg = 3 by have z := own_nn (own_ge0.mpr hid.1); omega]
               show Value.ref c3 = Value.ref got
               rw [hv_c3, hv_got, own_hit (q := (3 : Int64)) hnn bs1 bs2 hkx hidI (by rw [hi5]; decide)])
        obtain ⟨fs, hr, hrun, hended, hW, hsame⟩ := X33.leave (v := some (.int (1 : Int32))) (fun h => by rw [Bd.returns] at h; cases h) hlk
        refine ⟨_, _, K32 _ ?_, hrun, hended, _, _, rfl, ?_, ⟨_, rfl⟩, hW, hsame.mono (by decide) (by decide)⟩
        ·
          show Steps p.tables e below (T31.setTop (mkF m 213 #[.val (.long q0), .second, .val (.int p1), .val (.long q2), .second, .val (.long q3), .second, .val (.int p4), .val (.long st), .second, .val (.int nn), .val (.long (q2 &&& (9223372036854775807 : Int64))), .second, .val (.long (q3 &&& (9223372036854775807 : Int64))), .second, .val (.long t1), .second, .val (.long t2), .second, .val (.int kx), .val (.ref b9), .val (.ref b10), .val (.ref got), .val (.int (((t1 / st) - ((t1 / st) / (nn.toInt64)) * (nn.toInt64)).toInt32)), .val (.int (((t2 / st) - ((t2 / st) / (nn.toInt64)) * (nn.toInt64)).toInt32)), .val (.int idx)] [])) _
          refine XS.aload X31.here hx rfl (hb hby at_213) rfl rfl ?_
          show Steps p.tables e below (T31.setTop (mkF m 215 #[.val (.long q0), .second, .val (.int p1), .val (.long q2), .second, .val (.long q3), .second, .val (.int p4), .val (.long st), .second, .val (.int nn), .val (.long (q2 &&& (9223372036854775807 : Int64))), .second, .val (.long (q3 &&& (9223372036854775807 : Int64))), .second, .val (.long t1), .second, .val (.long t2), .second, .val (.int kx), .val (.ref b9), .val (.ref b10), .val (.ref got), .val (.int (((t1 / st) - ((t1 / st) / (nn.toInt64)) * (nn.toInt64)).toInt32)), .val (.int (((t2 / st) - ((t2 / st) / (nn.toInt64)) * (nn.toInt64)).toInt32)), .val (.int idx)] [(.ref b9)])) _
          refine XS.iload X31.here hx rfl (hb hby at_215) rfl ?_
          show Steps p.tables e below (T31.setTop (mkF m 217 #[.val (.long q0), .second, .val (.int p1), .val (.long q2), .second, .val (.long q3), .second, .val (.int p4), .val (.long st), .second, .val (.int nn), .val (.long (q2 &&& (9223372036854775807 : Int64))), .second, .val (.long (q3 &&& (9223372036854775807 : Int64))), .second, .val (.long t1), .second, .val (.long t2), .second, .val (.int kx), .val (.ref b9), .val (.ref b10), .val (.ref got), .val (.int (((t1 / st) - ((t1 / st) / (nn.toInt64)) * (nn.toInt64)).toInt32)), .val (.int (((t2 / st) - ((t2 / st) / (nn.toInt64)) * (nn.toInt64)).toInt32)), .val (.int idx)] [(.int nn), (.ref b9)])) _
          refine st33 _ ?_
          show Steps p.tables e below (T33.setTop (mkF m 220 #[.val (.long q0), .second, .val (.int p1), .val (.long q2), .second, .val (.long q3), .second, .val (.int p4), .val (.long st), .second, .val (.int nn), .val (.long (q2 &&& (9223372036854775807 : Int64))), .second, .val (.long (q3 &&& (9223372036854775807 : Int64))), .second, .val (.long t1), .second, .val (.long t2), .second, .val (.int kx), .val (.ref b9), .val (.ref b10), .val (.ref got), .val (.int (((t1 / st) - ((t1 / st) / (nn.toInt64)) * (nn.toInt64)).toInt32)), .val (.int (((t2 / st) - ((t2 / st) / (nn.toInt64)) * (nn.toInt64)).toInt32)), .val (.int idx)] [(.int (1 : Int32))])) _
          refine XS.ifNo X33.here hx rfl (hb hby at_220) rfl ((if0 _ _).trans (feq hc220).1) ?_
          show Steps p.tables e below (T33.setTop (mkF m 223 #[.val (.long q0), .second, .val (.int p1), .val (.long q2), .second, .val (.long q3), .second, .val (.int p4), .val (.long st), .second, .val (.int nn), .val (.long (q2 &&& (9223372036854775807 : Int64))), .second, .val (.long (q3 &&& (9223372036854775807 : Int64))), .second, .val (.long t1), .second, .val (.long t2), .second, .val (.int kx), .val (.ref b9), .val (.ref b10), .val (.ref got), .val (.int (((t1 / st) - ((t1 / st) / (nn.toInt64)) * (nn.toInt64)).toInt32)), .val (.int (((t2 / st) - ((t2 / st) / (nn.toInt64)) * (nn.toInt64)).toInt32)), .val (.int idx)] [])) _
          refine XS.aload X33.here hx rfl (hb hby at_223) rfl rfl ?_
          show Steps p.tables e below (T33.setTop (mkF m 225 #[.val (.long q0), .second, .val (.int p1), .val (.long q2), .second, .val (.long q3), .second, .val (.int p4), .val (.long st), .second, .val (.int nn), .val (.long (q2 &&& (9223372036854775807 : Int64))), .second, .val (.long (q3 &&& (9223372036854775807 : Int64))), .second, .val (.long t1), .second, .val (.long t2), .second, .val (.int kx), .val (.ref b9), .val (.ref b10), .val (.ref got), .val (.int (((t1 / st) - ((t1 / st) / (nn.toInt64)) * (nn.toInt64)).toInt32)), .val (.int (((t2 / st) - ((t2 / st) / (nn.toInt64)) * (nn.toInt64)).toInt32)), .val (.int idx)] [(.ref got)])) _
          refine XS.aload X33.here hx rfl (hb hby at_225) rfl rfl ?_
          show Steps p.tables e below (T33.setTop (mkF m 227 #[.val (.long q0), .second, .val (.int p1), .val (.long q2), .second, .val (.long q3), .second, .val (.int p4), .val (.long st), .second, .val (.int nn), .val (.long (q2 &&& (9223372036854775807 : Int64))), .second, .val (.long (q3 &&& (9223372036854775807 : Int64))), .second, .val (.long t1), .second, .val (.long t2), .second, .val (.int kx), .val (.ref b9), .val (.ref b10), .val (.ref got), .val (.int (((t1 / st) - ((t1 / st) / (nn.toInt64)) * (nn.toInt64)).toInt32)), .val (.int (((t2 / st) - ((t2 / st) / (nn.toInt64)) * (nn.toInt64)).toInt32)), .val (.int idx)] [(.ref b9), (.ref got)])) _
          refine XS.iload X33.here hx rfl (hb hby at_227) rfl ?_
          show Steps p.tables e below (T33.setTop (mkF m 229 #[.val (.long q0), .second, .val (.int p1), .val (.long q2), .second, .val (.long q3), .second, .val (.int p4), .val (.long st), .second, .val (.int nn), .val (.long (q2 &&& (9223372036854775807 : Int64))), .second, .val (.long (q3 &&& (9223372036854775807 : Int64))), .second, .val (.long t1), .second, .val (.long t2), .second, .val (.int kx), .val (.ref b9), .val (.ref b10), .val (.ref got), .val (.int (((t1 / st) - ((t1 / st) / (nn.toInt64)) * (nn.toInt64)).toInt32)), .val (.int (((t2 / st) - ((t2 / st) / (nn.toInt64)) * (nn.toInt64)).toInt32)), .val (.int idx)] [(.int idx), (.ref b9), (.ref got)])) _
          refine X33.aaload hx (j := idx) (v := (.ref got)) (by rw [e33]; exact Ar34.1) (State.isArrayOf_alike hZ.alike Ar34.2.1) rfl Ar34.2.2 hin34 hat34 (g := (mkF m 229 #[.val (.long q0), .second, .val (.int p1), .val (.long q2), .second, .val (.long q3), .second, .val (.int p4), .val (.long st), .second, .val (.int nn), .val (.long (q2 &&& (9223372036854775807 : Int64))), .second, .val (.long (q3 &&& (9223372036854775807 : Int64))), .second, .val (.long t1), .second, .val (.long t2), .second, .val (.int kx), .val (.ref b9), .val (.ref b10), .val (.ref got), .val (.int (((t1 / st) - ((t1 / st) / (nn.toInt64)) * (nn.toInt64)).toInt32)), .val (.int (((t2 / st) - ((t2 / st) / (nn.toInt64)) * (nn.toInt64)).toInt32)), .val (.int idx)] [(.int idx), (.ref b9), (.ref got)])) rfl rfl (hb hby at_229) _ ?_
          show Steps p.tables e below (T33.setTop (mkF m 230 #[.val (.long q0), .second, .val (.int p1), .val (.long q2), .second, .val (.long q3), .second, .val (.int p4), .val (.long st), .second, .val (.int nn), .val (.long (q2 &&& (9223372036854775807 : Int64))), .second, .val (.long (q3 &&& (9223372036854775807 : Int64))), .second, .val (.long t1), .second, .val (.long t2), .second, .val (.int kx), .val (.ref b9), .val (.ref b10), .val (.ref got), .val (.int (((t1 / st) - ((t1 / st) / (nn.toInt64)) * (nn.toInt64)).toInt32)), .val (.int (((t2 / st) - ((t2 / st) / (nn.toInt64)) * (nn.toInt64)).toInt32)), .val (.int idx)] [(.ref got), (.ref got)])) _
          refine Jvm.RoadKit.acmp (g := (mkF m 230 #[.val (.long q0), .second, .val (.int p1), .val (.long q2), .second, .val (.long q3), .second, .val (.int p4), .val (.long st), .second, .val (.int nn), .val (.long (q2 &&& (9223372036854775807 : Int64))), .second, .val (.long (q3 &&& (9223372036854775807 : Int64))), .second, .val (.long t1), .second, .val (.long t2), .second, .val (.int kx), .val (.ref b9), .val (.ref b10), .val (.ref got), .val (.int (((t1 / st) - ((t1 / st) / (nn.toInt64)) * (nn.toInt64)).toInt32)), .val (.int (((t2 / st) - ((t2 / st) / (nn.toInt64)) * (nn.toInt64)).toInt32)), .val (.int idx)] [(.ref got), (.ref got)])) X33 hx rfl rfl rfl (pc0 := 230) (pc' := 233) (same := true) rfl (hb hby at_230) rfl (decide_eq_true rfl) (by decide) (by decide) ?_
          show Steps p.tables e below (T33.setTop (mkF m 233 #[.val (.long q0), .second, .val (.int p1), .val (.long q2), .second, .val (.long q3), .second, .val (.int p4), .val (.long st), .second, .val (.int nn), .val (.long (q2 &&& (9223372036854775807 : Int64))), .second, .val (.long (q3 &&& (9223372036854775807 : Int64))), .second, .val (.long t1), .second, .val (.long t2), .second, .val (.int kx), .val (.ref b9), .val (.ref b10), .val (.ref got), .val (.int (((t1 / st) - ((t1 / st) / (nn.toInt64)) * (nn.toInt64)).toInt32)), .val (.int (((t2 / st) - ((t2 / st) / (nn.toInt64)) * (nn.toInt64)).toInt32)), .val (.int idx)] [])) _
          refine XS.iconst X33.here hx rfl (hb hby at_233) ?_
          show Steps p.tables e below (T33.setTop (mkF m 234 #[.val (.long q0), .second, .val (.int p1), .val (.long q2), .second, .val (.long q3), .second, .val (.int p4), .val (.long st), .second, .val (.int nn), .val (.long (q2 &&& (9223372036854775807 : Int64))), .second, .val (.long (q3 &&& (9223372036854775807 : Int64))), .second, .val (.long t1), .second, .val (.long t2), .second, .val (.int kx), .val (.ref b9), .val (.ref b10), .val (.ref got), .val (.int (((t1 / st) - ((t1 / st) / (nn.toInt64)) * (nn.toInt64)).toInt32)), .val (.int (((t2 / st) - ((t2 / st) / (nn.toInt64)) * (nn.toInt64)).toInt32)), .val (.int idx)] [(.int (1 : Int32))])) _
          refine XS.goto X33.here hx rfl (pc0 := 234) (pc' := 238) rfl (hb hby at_234) (by decide) (by decide) ?_
          show Steps p.tables e below (T33.setTop (mkF m 238 #[.val (.long q0), .second, .val (.int p1), .val (.long q2), .second, .val (.long q3), .second, .val (.int p4), .val (.long st), .second, .val (.int nn), .val (.long (q2 &&& (9223372036854775807 : Int64))), .second, .val (.long (q3 &&& (9223372036854775807 : Int64))), .second, .val (.long t1), .second, .val (.long t2), .second, .val (.int kx), .val (.ref b9), .val (.ref b10), .val (.ref got), .val (.int (((t1 / st) - ((t1 / st) / (nn.toInt64)) * (nn.toInt64)).toInt32)), .val (.int (((t2 / st) - ((t2 / st) / (nn.toInt64)) * (nn.toInt64)).toInt32)), .val (.int idx)] [(.int (1 : Int32))])) _
          exact retN X33 hx (t := .boolean) Bd.returns (by simp) (hb hby at_238) hr
        ·
          show Q_rm0 Z q0 p1 q2 q3 p4 w_NONE h0 n0 _ T33.heap _
          rw [e33]
          exact ⟨rfl, N33⟩
    ·
      have hc141 : ¬ ((4 : Int32) < nn) := (by have z := hc123; rw [Int32.lt_iff_toInt_lt] at z ⊢; have y : (3 : Int32).toInt = 3 := (by decide); have x : (4 : Int32).toInt = 4 := (by decide); omega)
      have y2 : (2 : Int32).toInt = 2 := by decide
      have y3 : (3 : Int32).toInt = 3 := by decide
      have y4 : (4 : Int32).toInt = 4 := by decide
      have u2 := hc105
      rw [Int32.lt_iff_toInt_lt] at u2
      have u3 := hc123
      rw [Int32.lt_iff_toInt_lt] at u3
      have hk : nn.toInt = 3 := by omega
      obtain ⟨cq35, kq35, q35a, q35b, q35c⟩ := isOf hZ e18 E_b10
      obtain ⟨_, _, ⟨T35, L35, k35, n35⟩, -, X35, ⟨Lc35, hQ35, l35, y35, z35⟩, st35⟩ := X18.virtualBack hx (y := (⟨"com/example/lachesis/lachesis/timer/Wheel", "moveTo", "(J)V"⟩ : MethodName)) (z := (⟨"com/example/lachesis/lachesis/timer/Wheel", "moveTo", "(J)V"⟩ : MethodName)) hown (mvT hZ (hw _ (List.mem_of_getElem? (i := 55) rfl))) (mvT hZ (hw _ (List.mem_of_getElem? (i := 40) rfl))) (notFace_of_selects (args := #[]) (mvT hZ (hw _ (List.mem_of_getElem? (i := 42) rfl)))) (mvT hZ (hw _ (List.mem_of_getElem? (i := 42) rfl))) (mvT hZ (hw _ (List.mem_of_getElem? (i := 41) rfl))) (by decide) (backOf (W := 0) (rmM l Z a0 hw [] b10 t2 st (own_span st nn) ba11 ((t1 / st) * st) (own_slot t1 st nn) kk11 nn (bs11.map Value.ref) h18 n0 Zn E_b10 g_b10 ne_ba11_b10 F_slotTicks_b10 F_spanTicks_b10 F_buckets_b10 F_slotStart_b10 F_slot_b10 V_ba11 (own_nzst hst) (own_nz64 hnn.1)) hZ (hw _ (List.mem_of_getElem? (i := 43) rfl)) (hw _ (List.mem_of_getElem? (i := 13) rfl)) (by decide) (by decide)) q35a q35c (g := (mkF m 160 #[.val (.long q0), .second, .val (.int p1), .val (.long q2), .second, .val (.long q3), .second, .val (.int p4), .val (.long st), .second, .val (.int nn), .val (.long (q2 &&& (9223372036854775807 : Int64))), .second, .val (.long (q3 &&& (9223372036854775807 : Int64))), .second, .val (.long t1), .second, .val (.long t2), .second, .val (.int kx), .val (.ref b9), .val (.ref b10), .unset, .unset, .unset, .unset] [(.long t2), (.ref b10)])) rfl (by rw [hml]; rfl) (Steps.refl _) (argsL := [(.long t2)]) (rest := []) (lenOf pd_3 rfl) rfl (by show 2 * 0 + _ ≤ _; exact Nat.le_of_eq rfl) (hb hby at_160) (fun _ _ => ⟨rfl, e18, (by decide : 8 + 0 ≤ _), (by decide : 35 + 0 ≤ _)⟩)
      dsimp only [Pt.U, Pt.locs, Pt.cells, Pt.slots] at X35 l35 y35 z35 st35 hQ35
      subst l35 y35 z35
      obtain ⟨rfl, N35q, K35k, pf35_0, pf35_1, pf35_2, pf35_3, pf35_4, pf35_5⟩ := hQ35
      have N35 := Fr.app N18 N35q
      have OLD := OLD.keep K35k (allS g_b10 all0)
      have V_b9 := V_b9.keep K35k (ninS ne_b9_b10 nin0)
      have E_b10 := E_b10.keep K35k
      have V_ba11 := V_ba11.keep K35k (ninS ne_ba11_b10 nin0)
      have X_bs := X_bs.keep K35k
      have E_c0 := E_c0.keep K35k
      have E_c1 := E_c1.keep K35k
      have E_c2 := E_c2.keep K35k
      replace Zn := Nat.le_trans Zn K35k.1
      have E_b10 := pf35_0
      have F_slotTicks_b10 := pf35_1
      have F_spanTicks_b10 := pf35_2
      have F_buckets_b10 := pf35_3
      have F_slotStart_b10 := pf35_4
      have F_slot_b10 := pf35_5
      have hq_got : 0 ≤ ((kx.toInt64)).toInt ∧ ((kx.toInt64)).toInt < nn.toInt := (by rw [Jvm.Kit.i64_of_i32]; exact hkx)
      have hb_got := own_ixB hnn bs2 hq_got
      have hl_got : (own_ix (own_slot t2 st nn) (kx.toInt64) nn).toNatClampNeg < bs11.length := by rw [hbl11]; exact own_inl hb_got
      obtain ⟨cq36, kq36, q36a, q36b, q36c⟩ := isOf hZ rfl E_b10
      obtain ⟨_, _, ⟨T36, L36, k36, n36⟩, -, X36, ⟨Lc36, hQ36, l36, y36, z36⟩, st36⟩ := X35.virtualBack hx (y := (⟨"com/example/lachesis/lachesis/timer/Wheel", "bucket", "(J)Lcom/example/lachesis/lachesis/timer/Bucket;"⟩ : MethodName)) (z := (⟨"com/example/lachesis/lachesis/timer/Wheel", "bucket", "(J)Lcom/example/lachesis/lachesis/timer/Bucket;"⟩ : MethodName)) hown (mvT hZ (hw _ (List.mem_of_getElem? (i := 48) rfl))) (mvT hZ (hw _ (List.mem_of_getElem? (i := 49) rfl))) (notFace_of_selects (args := #[]) (mvT hZ (hw _ (List.mem_of_getElem? (i := 51) rfl)))) (mvT hZ (hw _ (List.mem_of_getElem? (i := 51) rfl))) (mvT hZ (hw _ (List.mem_of_getElem? (i := 50) rfl))) (by decide) (backOf (W := 0) (rmK l Z a0 hw [] b10 (kx.toInt64) (own_slot t2 st nn) ba11 kk11 nn bs11 (own_ix (own_slot t2 st nn) (kx.toInt64) nn) T35.heap n0 Zn F_slot_b10 F_buckets_b10 V_ba11 hbl11 hb_got rfl) hZ (hw _ (List.mem_of_getElem? (i := 52) rfl)) (hw _ (List.mem_of_getElem? (i := 13) rfl)) (by decide) (by decide)) q36a q36c (g := (mkF m 168 #[.val (.long q0), .second, .val (.int p1), .val (.long q2), .second, .val (.long q3), .second, .val (.int p4), .val (.long st), .second, .val (.int nn), .val (.long (q2 &&& (9223372036854775807 : Int64))), .second, .val (.long (q3 &&& (9223372036854775807 : Int64))), .second, .val (.long t1), .second, .val (.long t2), .second, .val (.int kx), .val (.ref b9), .val (.ref b10), .unset, .unset, .unset, .unset] [(.long (kx.toInt64)), (.ref b10)])) rfl (by rw [hml]; rfl) (Steps.refl _) (argsL := [(.long (kx.toInt64))]) (rest := []) (lenOf pd_7 rfl) rfl (by show 2 * 0 + _ ≤ _; exact Nat.le_of_eq rfl) (hb hby at_168) (fun _ _ => ⟨rfl, rfl, (by decide : 8 + 0 ≤ _), (by decide : 35 + 0 ≤ _)⟩)
      dsimp only [Pt.U, Pt.locs, Pt.cells, Pt.slots] at X36 l36 y36 z36 st36 hQ36
      subst l36 y36 z36
      obtain ⟨rfl, N36q, e36q⟩ := hQ36
      have N36 := Fr.app N35 N36q
      have e36 : T36.heap = T35.heap := e36q
      obtain ⟨got, hv_got⟩ : ∃ z, z = bs11.getD (own_ix (own_slot t2 st nn) (kx.toInt64) nn).toNatClampNeg 0 := ⟨_, rfl⟩
      rw [← hv_got] at st36
      have E_got : Exa Z _ got "com/example/lachesis/lachesis/timer/Bucket" := hv_got ▸ X_bs.at hl_got
      have K37 : ∀ t, Steps p.tables e below (T36.setTop (mkF m 213 #[.val (.long q0), .second, .val (.int p1), .val (.long q2), .second, .val (.long q3), .second, .val (.int p4), .val (.long st), .second, .val (.int nn), .val (.long (q2 &&& (9223372036854775807 : Int64))), .second, .val (.long (q3 &&& (9223372036854775807 : Int64))), .second, .val (.long t1), .second, .val (.long t2), .second, .val (.int kx), .val (.ref b9), .val (.ref b10), .val (.ref got), .val (.int (((t1 / st) - ((t1 / st) / (nn.toInt64)) * (nn.toInt64)).toInt32)), .val (.int (((t2 / st) - ((t2 / st) / (nn.toInt64)) * (nn.toInt64)).toInt32)), .val (.int (((((((t2 / st) - ((t2 / st) / (nn.toInt64)) * (nn.toInt64)).toInt32) + kx) - (((t1 / st) - ((t1 / st) / (nn.toInt64)) * (nn.toInt64)).toInt32)) + nn) - (((((((t2 / st) - ((t2 / st) / (nn.toInt64)) * (nn.toInt64)).toInt32) + kx) - (((t1 / st) - ((t1 / st) / (nn.toInt64)) * (nn.toInt64)).toInt32)) + nn) / nn) * nn))] [])) t → Steps p.tables e below (s₁.setTop (entryFrame m #[(.long q0), (.int p1), (.long q2), (.long q3), (.int p4)] maxLocals)) t := by
        intro t kt
        refine K19 t ?_
        show Steps p.tables e below (T18.setTop (mkF m 123 #[.val (.long q0), .second, .val (.int p1), .val (.long q2), .second, .val (.long q3), .second, .val (.int p4), .val (.long st), .second, .val (.int nn), .val (.long (q2 &&& (9223372036854775807 : Int64))), .second, .val (.long (q3 &&& (9223372036854775807 : Int64))), .second, .val (.long t1), .second, .val (.long t2), .second, .val (.int kx), .val (.ref b9), .val (.ref b10), .unset, .unset, .unset, .unset] [(.int (3 : Int32)), (.int nn)])) _
        refine XS.icmpYes X18.here hx rfl (pc0 := 123) (pc' := 138) rfl (hb hby at_123) rfl (flt hc123).2.2.2 (by decide) (by decide) ?_
        show Steps p.tables e below (T18.setTop (mkF m 138 #[.val (.long q0), .second, .val (.int p1), .val (.long q2), .second, .val (.long q3), .second, .val (.int p4), .val (.long st), .second, .val (.int nn), .val (.long (q2 &&& (9223372036854775807 : Int64))), .second, .val (.long (q3 &&& (9223372036854775807 : Int64))), .second, .val (.long t1), .second, .val (.long t2), .second, .val (.int kx), .val (.ref b9), .val (.ref b10), .unset, .unset, .unset, .unset] [])) _
        refine XS.iload X18.here hx rfl (hb hby at_138) rfl ?_
        show Steps p.tables e below (T18.setTop (mkF m 140 #[.val (.long q0), .second, .val (.int p1), .val (.long q2), .second, .val (.long q3), .second, .val (.int p4), .val (.long st), .second, .val (.int nn), .val (.long (q2 &&& (9223372036854775807 : Int64))), .second, .val (.long (q3 &&& (9223372036854775807 : Int64))), .second, .val (.long t1), .second, .val (.long t2), .second, .val (.int kx), .val (.ref b9), .val (.ref b10), .unset, .unset, .unset, .unset] [(.int nn)])) _
        refine XS.iconst X18.here hx rfl (hb hby at_140) ?_
        show Steps p.tables e below (T18.setTop (mkF m 141 #[.val (.long q0), .second, .val (.int p1), .val (.long q2), .second, .val (.long q3), .second, .val (.int p4), .val (.long st), .second, .val (.int nn), .val (.long (q2 &&& (9223372036854775807 : Int64))), .second, .val (.long (q3 &&& (9223372036854775807 : Int64))), .second, .val (.long t1), .second, .val (.long t2), .second, .val (.int kx), .val (.ref b9), .val (.ref b10), .unset, .unset, .unset, .unset] [(.int (4 : Int32)), (.int nn)])) _
        refine XS.icmpYes X18.here hx rfl (pc0 := 141) (pc' := 156) rfl (hb hby at_141) rfl (flt hc141).2.2.2 (by decide) (by decide) ?_
        show Steps p.tables e below (T18.setTop (mkF m 156 #[.val (.long q0), .second, .val (.int p1), .val (.long q2), .second, .val (.long q3), .second, .val (.int p4), .val (.long st), .second, .val (.int nn), .val (.long (q2 &&& (9223372036854775807 : Int64))), .second, .val (.long (q3 &&& (9223372036854775807 : Int64))), .second, .val (.long t1), .second, .val (.long t2), .second, .val (.int kx), .val (.ref b9), .val (.ref b10), .unset, .unset, .unset, .unset] [])) _
        refine XS.aload X18.here hx rfl (hb hby at_156) rfl rfl ?_
        show Steps p.tables e below (T18.setTop (mkF m 158 #[.val (.long q0), .second, .val (.int p1), .val (.long q2), .second, .val (.long q3), .second, .val (.int p4), .val (.long st), .second, .val (.int nn), .val (.long (q2 &&& (9223372036854775807 : Int64))), .second, .val (.long (q3 &&& (9223372036854775807 : Int64))), .second, .val (.long t1), .second, .val (.long t2), .second, .val (.int kx), .val (.ref b9), .val (.ref b10), .unset, .unset, .unset, .unset] [(.ref b10)])) _
        refine XS.lload X18.here hx rfl (hb hby at_158) rfl ?_
        show Steps p.tables e below (T18.setTop (mkF m 160 #[.val (.long q0), .second, .val (.int p1), .val (.long q2), .second, .val (.long q3), .second, .val (.int p4), .val (.long st), .second, .val (.int nn), .val (.long (q2 &&& (9223372036854775807 : Int64))), .second, .val (.long (q3 &&& (9223372036854775807 : Int64))), .second, .val (.long t1), .second, .val (.long t2), .second, .val (.int kx), .val (.ref b9), .val (.ref b10), .unset, .unset, .unset, .unset] [(.long t2), (.ref b10)])) _
        refine st35.trans ?_
        show Steps p.tables e below (T35.setTop (mkF m 163 #[.val (.long q0), .second, .val (.int p1), .val (.long q2), .second, .val (.long q3), .second, .val (.int p4), .val (.long st), .second, .val (.int nn), .val (.long (q2 &&& (9223372036854775807 : Int64))), .second, .val (.long (q3 &&& (9223372036854775807 : Int64))), .second, .val (.long t1), .second, .val (.long t2), .second, .val (.int kx), .val (.ref b9), .val (.ref b10), .unset, .unset, .unset, .unset] [])) _
        refine XS.aload X35.here hx rfl (hb hby at_163) rfl rfl ?_
        show Steps p.tables e below (T35.setTop (mkF m 165 #[.val (.long q0), .second, .val (.int p1), .val (.long q2), .second, .val (.long q3), .second, .val (.int p4), .val (.long st), .second, .val (.int nn), .val (.long (q2 &&& (9223372036854775807 : Int64))), .second, .val (.long (q3 &&& (9223372036854775807 : Int64))), .second, .val (.long t1), .second, .val (.long t2), .second, .val (.int kx), .val (.ref b9), .val (.ref b10), .unset, .unset, .unset, .unset] [(.ref b10)])) _
        refine XS.iload X35.here hx rfl (hb hby at_165) rfl ?_
        show Steps p.tables e below (T35.setTop (mkF m 167 #[.val (.long q0), .second, .val (.int p1), .val (.long q2), .second, .val (.long q3), .second, .val (.int p4), .val (.long st), .second, .val (.int nn), .val (.long (q2 &&& (9223372036854775807 : Int64))), .second, .val (.long (q3 &&& (9223372036854775807 : Int64))), .second, .val (.long t1), .second, .val (.long t2), .second, .val (.int kx), .val (.ref b9), .val (.ref b10), .unset, .unset, .unset, .unset] [(.int kx), (.ref b10)])) _
        refine XS.i2l X35.here hx rfl (hb hby at_167) rfl ?_
        show Steps p.tables e below (T35.setTop (mkF m 168 #[.val (.long q0), .second, .val (.int p1), .val (.long q2), .second, .val (.long q3), .second, .val (.int p4), .val (.long st), .second, .val (.int nn), .val (.long (q2 &&& (9223372036854775807 : Int64))), .second, .val (.long (q3 &&& (9223372036854775807 : Int64))), .second, .val (.long t1), .second, .val (.long t2), .second, .val (.int kx), .val (.ref b9), .val (.ref b10), .unset, .unset, .unset, .unset] [(.long (kx.toInt64)), (.ref b10)])) _
        refine st36.trans ?_
        show Steps p.tables e below (T36.setTop (mkF m 171 #[.val (.long q0), .second, .val (.int p1), .val (.long q2), .second, .val (.long q3), .second, .val (.int p4), .val (.long st), .second, .val (.int nn), .val (.long (q2 &&& (9223372036854775807 : Int64))), .second, .val (.long (q3 &&& (9223372036854775807 : Int64))), .second, .val (.long t1), .second, .val (.long t2), .second, .val (.int kx), .val (.ref b9), .val (.ref b10), .unset, .unset, .unset, .unset] [(.ref got)])) _
        refine XS.astore X36.here hx rfl (hb hby at_171) rfl rfl (l' := #[.val (.long q0), .second, .val (.int p1), .val (.long q2), .second, .val (.long q3), .second, .val (.int p4), .val (.long st), .second, .val (.int nn), .val (.long (q2 &&& (9223372036854775807 : Int64))), .second, .val (.long (q3 &&& (9223372036854775807 : Int64))), .second, .val (.long t1), .second, .val (.long t2), .second, .val (.int kx), .val (.ref b9), .val (.ref b10), .val (.ref got), .unset, .unset, .unset]) rfl ?_
        show Steps p.tables e below (T36.setTop (mkF m 173 #[.val (.long q0), .second, .val (.int p1), .val (.long q2), .second, .val (.long q3), .second, .val (.int p4), .val (.long st), .second, .val (.int nn), .val (.long (q2 &&& (9223372036854775807 : Int64))), .second, .val (.long (q3 &&& (9223372036854775807 : Int64))), .second, .val (.long t1), .second, .val (.long t2), .second, .val (.int kx), .val (.ref b9), .val (.ref b10), .val (.ref got), .unset, .unset, .unset] [])) _
        refine XS.lload X36.here hx rfl (hb hby at_173) rfl ?_
        show Steps p.tables e below (T36.setTop (mkF m 175 #[.val (.long q0), .second, .val (.int p1), .val (.long q2), .second, .val (.long q3), .second, .val (.int p4), .val (.long st), .second, .val (.int nn), .val (.long (q2 &&& (9223372036854775807 : Int64))), .second, .val (.long (q3 &&& (9223372036854775807 : Int64))), .second, .val (.long t1), .second, .val (.long t2), .second, .val (.int kx), .val (.ref b9), .val (.ref b10), .val (.ref got), .unset, .unset, .unset] [(.long t1)])) _
        refine XS.lload X36.here hx rfl (hb hby at_175) rfl ?_
        show Steps p.tables e below (T36.setTop (mkF m 177 #[.val (.long q0), .second, .val (.int p1), .val (.long q2), .second, .val (.long q3), .second, .val (.int p4), .val (.long st), .second, .val (.int nn), .val (.long (q2 &&& (9223372036854775807 : Int64))), .second, .val (.long (q3 &&& (9223372036854775807 : Int64))), .second, .val (.long t1), .second, .val (.long t2), .second, .val (.int kx), .val (.ref b9), .val (.ref b10), .val (.ref got), .unset, .unset, .unset] [(.long st), (.long t1)])) _
        refine XS.ldiv X36.here hx rfl (hb hby at_177) rfl (own_nzst hst) ?_
        show Steps p.tables e below (T36.setTop (mkF m 178 #[.val (.long q0), .second, .val (.int p1), .val (.long q2), .second, .val (.long q3), .second, .val (.int p4), .val (.long st), .second, .val (.int nn), .val (.long (q2 &&& (9223372036854775807 : Int64))), .second, .val (.long (q3 &&& (9223372036854775807 : Int64))), .second, .val (.long t1), .second, .val (.long t2), .second, .val (.int kx), .val (.ref b9), .val (.ref b10), .val (.ref got), .unset, .unset, .unset] [(.long (t1 / st))])) _
        refine XS.iload X36.here hx rfl (hb hby at_178) rfl ?_
        show Steps p.tables e below (T36.setTop (mkF m 180 #[.val (.long q0), .second, .val (.int p1), .val (.long q2), .second, .val (.long q3), .second, .val (.int p4), .val (.long st), .second, .val (.int nn), .val (.long (q2 &&& (9223372036854775807 : Int64))), .second, .val (.long (q3 &&& (9223372036854775807 : Int64))), .second, .val (.long t1), .second, .val (.long t2), .second, .val (.int kx), .val (.ref b9), .val (.ref b10), .val (.ref got), .unset, .unset, .unset] [(.int nn), (.long (t1 / st))])) _
        refine XS.i2l X36.here hx rfl (hb hby at_180) rfl ?_
        show Steps p.tables e below (T36.setTop (mkF m 181 #[.val (.long q0), .second, .val (.int p1), .val (.long q2), .second, .val (.long q3), .second, .val (.int p4), .val (.long st), .second, .val (.int nn), .val (.long (q2 &&& (9223372036854775807 : Int64))), .second, .val (.long (q3 &&& (9223372036854775807 : Int64))), .second, .val (.long t1), .second, .val (.long t2), .second, .val (.int kx), .val (.ref b9), .val (.ref b10), .val (.ref got), .unset, .unset, .unset] [(.long (nn.toInt64)), (.long (t1 / st))])) _
        refine XS.lrem X36.here hx rfl (hb hby at_181) rfl (own_nz64 hnn.1) ?_
        show Steps p.tables e below (T36.setTop (mkF m 182 #[.val (.long q0), .second, .val (.int p1), .val (.long q2), .second, .val (.long q3), .second, .val (.int p4), .val (.long st), .second, .val (.int nn), .val (.long (q2 &&& (9223372036854775807 : Int64))), .second, .val (.long (q3 &&& (9223372036854775807 : Int64))), .second, .val (.long t1), .second, .val (.long t2), .second, .val (.int kx), .val (.ref b9), .val (.ref b10), .val (.ref got), .unset, .unset, .unset] [(.long ((t1 / st) - ((t1 / st) / (nn.toInt64)) * (nn.toInt64)))])) _
        refine XS.l2i X36.here hx rfl (hb hby at_182) rfl ?_
        show Steps p.tables e below (T36.setTop (mkF m 183 #[.val (.long q0), .second, .val (.int p1), .val (.long q2), .second, .val (.long q3), .second, .val (.int p4), .val (.long st), .second, .val (.int nn), .val (.long (q2 &&& (9223372036854775807 : Int64))), .second, .val (.long (q3 &&& (9223372036854775807 : Int64))), .second, .val (.long t1), .second, .val (.long t2), .second, .val (.int kx), .val (.ref b9), .val (.ref b10), .val (.ref got), .unset, .unset, .unset] [(.int (((t1 / st) - ((t1 / st) / (nn.toInt64)) * (nn.toInt64)).toInt32))])) _
        refine XS.istore X36.here hx rfl (hb hby at_183) rfl (l' := #[.val (.long q0), .second, .val (.int p1), .val (.long q2), .second, .val (.long q3), .second, .val (.int p4), .val (.long st), .second, .val (.int nn), .val (.long (q2 &&& (9223372036854775807 : Int64))), .second, .val (.long (q3 &&& (9223372036854775807 : Int64))), .second, .val (.long t1), .second, .val (.long t2), .second, .val (.int kx), .val (.ref b9), .val (.ref b10), .val (.ref got), .val (.int (((t1 / st) - ((t1 / st) / (nn.toInt64)) * (nn.toInt64)).toInt32)), .unset, .unset]) rfl ?_
        show Steps p.tables e below (T36.setTop (mkF m 185 #[.val (.long q0), .second, .val (.int p1), .val (.long q2), .second, .val (.long q3), .second, .val (.int p4), .val (.long st), .second, .val (.int nn), .val (.long (q2 &&& (9223372036854775807 : Int64))), .second, .val (.long (q3 &&& (9223372036854775807 : Int64))), .second, .val (.long t1), .second, .val (.long t2), .second, .val (.int kx), .val (.ref b9), .val (.ref b10), .val (.ref got), .val (.int (((t1 / st) - ((t1 / st) / (nn.toInt64)) * (nn.toInt64)).toInt32)), .unset, .unset] [])) _
        refine XS.lload X36.here hx rfl (hb hby at_185) rfl ?_
        show Steps p.tables e below (T36.setTop (mkF m 187 #[.val (.long q0), .second, .val (.int p1), .val (.long q2), .second, .val (.long q3), .second, .val (.int p4), .val (.long st), .second, .val (.int nn), .val (.long (q2 &&& (9223372036854775807 : Int64))), .second, .val (.long (q3 &&& (9223372036854775807 : Int64))), .second, .val (.long t1), .second, .val (.long t2), .second, .val (.int kx), .val (.ref b9), .val (.ref b10), .val (.ref got), .val (.int (((t1 / st) - ((t1 / st) / (nn.toInt64)) * (nn.toInt64)).toInt32)), .unset, .unset] [(.long t2)])) _
        refine XS.lload X36.here hx rfl (hb hby at_187) rfl ?_
        show Steps p.tables e below (T36.setTop (mkF m 189 #[.val (.long q0), .second, .val (.int p1), .val (.long q2), .second, .val (.long q3), .second, .val (.int p4), .val (.long st), .second, .val (.int nn), .val (.long (q2 &&& (9223372036854775807 : Int64))), .second, .val (.long (q3 &&& (9223372036854775807 : Int64))), .second, .val (.long t1), .second, .val (.long t2), .second, .val (.int kx), .val (.ref b9), .val (.ref b10), .val (.ref got), .val (.int (((t1 / st) - ((t1 / st) / (nn.toInt64)) * (nn.toInt64)).toInt32)), .unset, .unset] [(.long st), (.long t2)])) _
        refine XS.ldiv X36.here hx rfl (hb hby at_189) rfl (own_nzst hst) ?_
        show Steps p.tables e below (T36.setTop (mkF m 190 #[.val (.long q0), .second, .val (.int p1), .val (.long q2), .second, .val (.long q3), .second, .val (.int p4), .val (.long st), .second, .val (.int nn), .val (.long (q2 &&& (9223372036854775807 : Int64))), .second, .val (.long (q3 &&& (9223372036854775807 : Int64))), .second, .val (.long t1), .second, .val (.long t2), .second, .val (.int kx), .val (.ref b9), .val (.ref b10), .val (.ref got), .val (.int (((t1 / st) - ((t1 / st) / (nn.toInt64)) * (nn.toInt64)).toInt32)), .unset, .unset] [(.long (t2 / st))])) _
        refine XS.iload X36.here hx rfl (hb hby at_190) rfl ?_
        show Steps p.tables e below (T36.setTop (mkF m 192 #[.val (.long q0), .second, .val (.int p1), .val (.long q2), .second, .val (.long q3), .second, .val (.int p4), .val (.long st), .second, .val (.int nn), .val (.long (q2 &&& (9223372036854775807 : Int64))), .second, .val (.long (q3 &&& (9223372036854775807 : Int64))), .second, .val (.long t1), .second, .val (.long t2), .second, .val (.int kx), .val (.ref b9), .val (.ref b10), .val (.ref got), .val (.int (((t1 / st) - ((t1 / st) / (nn.toInt64)) * (nn.toInt64)).toInt32)), .unset, .unset] [(.int nn), (.long (t2 / st))])) _
        refine XS.i2l X36.here hx rfl (hb hby at_192) rfl ?_
        show Steps p.tables e below (T36.setTop (mkF m 193 #[.val (.long q0), .second, .val (.int p1), .val (.long q2), .second, .val (.long q3), .second, .val (.int p4), .val (.long st), .second, .val (.int nn), .val (.long (q2 &&& (9223372036854775807 : Int64))), .second, .val (.long (q3 &&& (9223372036854775807 : Int64))), .second, .val (.long t1), .second, .val (.long t2), .second, .val (.int kx), .val (.ref b9), .val (.ref b10), .val (.ref got), .val (.int (((t1 / st) - ((t1 / st) / (nn.toInt64)) * (nn.toInt64)).toInt32)), .unset, .unset] [(.long (nn.toInt64)), (.long (t2 / st))])) _
        refine XS.lrem X36.here hx rfl (hb hby at_193) rfl (own_nz64 hnn.1) ?_
        show Steps p.tables e below (T36.setTop (mkF m 194 #[.val (.long q0), .second, .val (.int p1), .val (.long q2), .second, .val (.long q3), .second, .val (.int p4), .val (.long st), .second, .val (.int nn), .val (.long (q2 &&& (9223372036854775807 : Int64))), .second, .val (.long (q3 &&& (9223372036854775807 : Int64))), .second, .val (.long t1), .second, .val (.long t2), .second, .val (.int kx), .val (.ref b9), .val (.ref b10), .val (.ref got), .val (.int (((t1 / st) - ((t1 / st) / (nn.toInt64)) * (nn.toInt64)).toInt32)), .unset, .unset] [(.long ((t2 / st) - ((t2 / st) / (nn.toInt64)) * (nn.toInt64)))])) _
        refine XS.l2i X36.here hx rfl (hb hby at_194) rfl ?_
        show Steps p.tables e below (T36.setTop (mkF m 195 #[.val (.long q0), .second, .val (.int p1), .val (.long q2), .second, .val (.long q3), .second, .val (.int p4), .val (.long st), .second, .val (.int nn), .val (.long (q2 &&& (9223372036854775807 : Int64))), .second, .val (.long (q3 &&& (9223372036854775807 : Int64))), .second, .val (.long t1), .second, .val (.long t2), .second, .val (.int kx), .val (.ref b9), .val (.ref b10), .val (.ref got), .val (.int (((t1 / st) - ((t1 / st) / (nn.toInt64)) * (nn.toInt64)).toInt32)), .unset, .unset] [(.int (((t2 / st) - ((t2 / st) / (nn.toInt64)) * (nn.toInt64)).toInt32))])) _
        refine XS.istore X36.here hx rfl (hb hby at_195) rfl (l' := #[.val (.long q0), .second, .val (.int p1), .val (.long q2), .second, .val (.long q3), .second, .val (.int p4), .val (.long st), .second, .val (.int nn), .val (.long (q2 &&& (9223372036854775807 : Int64))), .second, .val (.long (q3 &&& (9223372036854775807 : Int64))), .second, .val (.long t1), .second, .val (.long t2), .second, .val (.int kx), .val (.ref b9), .val (.ref b10), .val (.ref got), .val (.int (((t1 / st) - ((t1 / st) / (nn.toInt64)) * (nn.toInt64)).toInt32)), .val (.int (((t2 / st) - ((t2 / st) / (nn.toInt64)) * (nn.toInt64)).toInt32)), .unset]) rfl ?_
        show Steps p.tables e below (T36.setTop (mkF m 197 #[.val (.long q0), .second, .val (.int p1), .val (.long q2), .second, .val (.long q3), .second, .val (.int p4), .val (.long st), .second, .val (.int nn), .val (.long (q2 &&& (9223372036854775807 : Int64))), .second, .val (.long (q3 &&& (9223372036854775807 : Int64))), .second, .val (.long t1), .second, .val (.long t2), .second, .val (.int kx), .val (.ref b9), .val (.ref b10), .val (.ref got), .val (.int (((t1 / st) - ((t1 / st) / (nn.toInt64)) * (nn.toInt64)).toInt32)), .val (.int (((t2 / st) - ((t2 / st) / (nn.toInt64)) * (nn.toInt64)).toInt32)), .unset] [])) _
        refine XS.iload X36.here hx rfl (hb hby at_197) rfl ?_
        show Steps p.tables e below (T36.setTop (mkF m 199 #[.val (.long q0), .second, .val (.int p1), .val (.long q2), .second, .val (.long q3), .second, .val (.int p4), .val (.long st), .second, .val (.int nn), .val (.long (q2 &&& (9223372036854775807 : Int64))), .second, .val (.long (q3 &&& (9223372036854775807 : Int64))), .second, .val (.long t1), .second, .val (.long t2), .second, .val (.int kx), .val (.ref b9), .val (.ref b10), .val (.ref got), .val (.int (((t1 / st) - ((t1 / st) / (nn.toInt64)) * (nn.toInt64)).toInt32)), .val (.int (((t2 / st) - ((t2 / st) / (nn.toInt64)) * (nn.toInt64)).toInt32)), .unset] [(.int (((t2 / st) - ((t2 / st) / (nn.toInt64)) * (nn.toInt64)).toInt32))])) _
        refine XS.iload X36.here hx rfl (hb hby at_199) rfl ?_
        show Steps p.tables e below (T36.setTop (mkF m 201 #[.val (.long q0), .second, .val (.int p1), .val (.long q2), .second, .val (.long q3), .second, .val (.int p4), .val (.long st), .second, .val (.int nn), .val (.long (q2 &&& (9223372036854775807 : Int64))), .second, .val (.long (q3 &&& (9223372036854775807 : Int64))), .second, .val (.long t1), .second, .val (.long t2), .second, .val (.int kx), .val (.ref b9), .val (.ref b10), .val (.ref got), .val (.int (((t1 / st) - ((t1 / st) / (nn.toInt64)) * (nn.toInt64)).toInt32)), .val (.int (((t2 / st) - ((t2 / st) / (nn.toInt64)) * (nn.toInt64)).toInt32)), .unset] [(.int kx), (.int (((t2 / st) - ((t2 / st) / (nn.toInt64)) * (nn.toInt64)).toInt32))])) _
        refine XS.iadd X36.here hx rfl (hb hby at_201) rfl ?_
        show Steps p.tables e below (T36.setTop (mkF m 202 #[.val (.long q0), .second, .val (.int p1), .val (.long q2), .second, .val (.long q3), .second, .val (.int p4), .val (.long st), .second, .val (.int nn), .val (.long (q2 &&& (9223372036854775807 : Int64))), .second, .val (.long (q3 &&& (9223372036854775807 : Int64))), .second, .val (.long t1), .second, .val (.long t2), .second, .val (.int kx), .val (.ref b9), .val (.ref b10), .val (.ref got), .val (.int (((t1 / st) - ((t1 / st) / (nn.toInt64)) * (nn.toInt64)).toInt32)), .val (.int (((t2 / st) - ((t2 / st) / (nn.toInt64)) * (nn.toInt64)).toInt32)), .unset] [(.int ((((t2 / st) - ((t2 / st) / (nn.toInt64)) * (nn.toInt64)).toInt32) + kx))])) _
        refine XS.iload X36.here hx rfl (hb hby at_202) rfl ?_
        show Steps p.tables e below (T36.setTop (mkF m 204 #[.val (.long q0), .second, .val (.int p1), .val (.long q2), .second, .val (.long q3), .second, .val (.int p4), .val (.long st), .second, .val (.int nn), .val (.long (q2 &&& (9223372036854775807 : Int64))), .second, .val (.long (q3 &&& (9223372036854775807 : Int64))), .second, .val (.long t1), .second, .val (.long t2), .second, .val (.int kx), .val (.ref b9), .val (.ref b10), .val (.ref got), .val (.int (((t1 / st) - ((t1 / st) / (nn.toInt64)) * (nn.toInt64)).toInt32)), .val (.int (((t2 / st) - ((t2 / st) / (nn.toInt64)) * (nn.toInt64)).toInt32)), .unset] [(.int (((t1 / st) - ((t1 / st) / (nn.toInt64)) * (nn.toInt64)).toInt32)), (.int ((((t2 / st) - ((t2 / st) / (nn.toInt64)) * (nn.toInt64)).toInt32) + kx))])) _
        refine XS.isub X36.here hx rfl (hb hby at_204) rfl ?_
        show Steps p.tables e below (T36.setTop (mkF m 205 #[.val (.long q0), .second, .val (.int p1), .val (.long q2), .second, .val (.long q3), .second, .val (.int p4), .val (.long st), .second, .val (.int nn), .val (.long (q2 &&& (9223372036854775807 : Int64))), .second, .val (.long (q3 &&& (9223372036854775807 : Int64))), .second, .val (.long t1), .second, .val (.long t2), .second, .val (.int kx), .val (.ref b9), .val (.ref b10), .val (.ref got), .val (.int (((t1 / st) - ((t1 / st) / (nn.toInt64)) * (nn.toInt64)).toInt32)), .val (.int (((t2 / st) - ((t2 / st) / (nn.toInt64)) * (nn.toInt64)).toInt32)), .unset] [(.int (((((t2 / st) - ((t2 / st) / (nn.toInt64)) * (nn.toInt64)).toInt32) + kx) - (((t1 / st) - ((t1 / st) / (nn.toInt64)) * (nn.toInt64)).toInt32)))])) _
        refine XS.iload X36.here hx rfl (hb hby at_205) rfl ?_
        show Steps p.tables e below (T36.setTop (mkF m 207 #[.val (.long q0), .second, .val (.int p1), .val (.long q2), .second, .val (.long q3), .second, .val (.int p4), .val (.long st), .second, .val (.int nn), .val (.long (q2 &&& (9223372036854775807 : Int64))), .second, .val (.long (q3 &&& (9223372036854775807 : Int64))), .second, .val (.long t1), .second, .val (.long t2), .second, .val (.int kx), .val (.ref b9), .val (.ref b10), .val (.ref got), .val (.int (((t1 / st) - ((t1 / st) / (nn.toInt64)) * (nn.toInt64)).toInt32)), .val (.int (((t2 / st) - ((t2 / st) / (nn.toInt64)) * (nn.toInt64)).toInt32)), .unset] [(.int nn), (.int (((((t2 / st) - ((t2 / st) / (nn.toInt64)) * (nn.toInt64)).toInt32) + kx) - (((t1 / st) - ((t1 / st) / (nn.toInt64)) * (nn.toInt64)).toInt32)))])) _
        refine XS.iadd X36.here hx rfl (hb hby at_207) rfl ?_
        show Steps p.tables e below (T36.setTop (mkF m 208 #[.val (.long q0), .second, .val (.int p1), .val (.long q2), .second, .val (.long q3), .second, .val (.int p4), .val (.long st), .second, .val (.int nn), .val (.long (q2 &&& (9223372036854775807 : Int64))), .second, .val (.long (q3 &&& (9223372036854775807 : Int64))), .second, .val (.long t1), .second, .val (.long t2), .second, .val (.int kx), .val (.ref b9), .val (.ref b10), .val (.ref got), .val (.int (((t1 / st) - ((t1 / st) / (nn.toInt64)) * (nn.toInt64)).toInt32)), .val (.int (((t2 / st) - ((t2 / st) / (nn.toInt64)) * (nn.toInt64)).toInt32)), .unset] [(.int ((((((t2 / st) - ((t2 / st) / (nn.toInt64)) * (nn.toInt64)).toInt32) + kx) - (((t1 / st) - ((t1 / st) / (nn.toInt64)) * (nn.toInt64)).toInt32)) + nn))])) _
        refine XS.iload X36.here hx rfl (hb hby at_208) rfl ?_
        show Steps p.tables e below (T36.setTop (mkF m 210 #[.val (.long q0), .second, .val (.int p1), .val (.long q2), .second, .val (.long q3), .second, .val (.int p4), .val (.long st), .second, .val (.int nn), .val (.long (q2 &&& (9223372036854775807 : Int64))), .second, .val (.long (q3 &&& (9223372036854775807 : Int64))), .second, .val (.long t1), .second, .val (.long t2), .second, .val (.int kx), .val (.ref b9), .val (.ref b10), .val (.ref got), .val (.int (((t1 / st) - ((t1 / st) / (nn.toInt64)) * (nn.toInt64)).toInt32)), .val (.int (((t2 / st) - ((t2 / st) / (nn.toInt64)) * (nn.toInt64)).toInt32)), .unset] [(.int nn), (.int ((((((t2 / st) - ((t2 / st) / (nn.toInt64)) * (nn.toInt64)).toInt32) + kx) - (((t1 / st) - ((t1 / st) / (nn.toInt64)) * (nn.toInt64)).toInt32)) + nn))])) _
        refine XS.irem X36.here hx rfl (hb hby at_210) rfl (own_nz32 hnn.1) ?_
        show Steps p.tables e below (T36.setTop (mkF m 211 #[.val (.long q0), .second, .val (.int p1), .val (.long q2), .second, .val (.long q3), .second, .val (.int p4), .val (.long st), .second, .val (.int nn), .val (.long (q2 &&& (9223372036854775807 : Int64))), .second, .val (.long (q3 &&& (9223372036854775807 : Int64))), .second, .val (.long t1), .second, .val (.long t2), .second, .val (.int kx), .val (.ref b9), .val (.ref b10), .val (.ref got), .val (.int (((t1 / st) - ((t1 / st) / (nn.toInt64)) * (nn.toInt64)).toInt32)), .val (.int (((t2 / st) - ((t2 / st) / (nn.toInt64)) * (nn.toInt64)).toInt32)), .unset] [(.int (((((((t2 / st) - ((t2 / st) / (nn.toInt64)) * (nn.toInt64)).toInt32) + kx) - (((t1 / st) - ((t1 / st) / (nn.toInt64)) * (nn.toInt64)).toInt32)) + nn) - (((((((t2 / st) - ((t2 / st) / (nn.toInt64)) * (nn.toInt64)).toInt32) + kx) - (((t1 / st) - ((t1 / st) / (nn.toInt64)) * (nn.toInt64)).toInt32)) + nn) / nn) * nn))])) _
        refine XS.istore X36.here hx rfl (hb hby at_211) rfl (l' := #[.val (.long q0), .second, .val (.int p1), .val (.long q2), .second, .val (.long q3), .second, .val (.int p4), .val (.long st), .second, .val (.int nn), .val (.long (q2 &&& (9223372036854775807 : Int64))), .second, .val (.long (q3 &&& (9223372036854775807 : Int64))), .second, .val (.long t1), .second, .val (.long t2), .second, .val (.int kx), .val (.ref b9), .val (.ref b10), .val (.ref got), .val (.int (((t1 / st) - ((t1 / st) / (nn.toInt64)) * (nn.toInt64)).toInt32)), .val (.int (((t2 / st) - ((t2 / st) / (nn.toInt64)) * (nn.toInt64)).toInt32)), .val (.int (((((((t2 / st) - ((t2 / st) / (nn.toInt64)) * (nn.toInt64)).toInt32) + kx) - (((t1 / st) - ((t1 / st) / (nn.toInt64)) * (nn.toInt64)).toInt32)) + nn) - (((((((t2 / st) - ((t2 / st) / (nn.toInt64)) * (nn.toInt64)).toInt32) + kx) - (((t1 / st) - ((t1 / st) / (nn.toInt64)) * (nn.toInt64)).toInt32)) + nn) / nn) * nn))]) rfl ?_
        exact kt
      obtain ⟨idx, hg_idx⟩ : ∃ z, z = (((((((t2 / st) - ((t2 / st) / (nn.toInt64)) * (nn.toInt64)).toInt32) + kx) - (((t1 / st) - ((t1 / st) / (nn.toInt64)) * (nn.toInt64)).toInt32)) + nn) - (((((((t2 / st) - ((t2 / st) / (nn.toInt64)) * (nn.toInt64)).toInt32) + kx) - (((t1 / st) - ((t1 / st) / (nn.toInt64)) * (nn.toInt64)).toInt32)) + nn) / nn) * nn) := ⟨_, rfl⟩
      rw [← hg_idx] at K37
      have hidI : idx.toInt = ((own_slot t2 st nn).toInt + kx.toInt - (own_slot t1 st nn).toInt + nn.toInt) % nn.toInt := by rw [hg_idx]; exact own_idxI hnn bs1 bs2 hkx
      have hid : 0 ≤ idx.toInt ∧ idx.toInt < nn.toInt := by rw [hidI]; exact ⟨Int.emod_nonneg _ (by omega), Int.emod_lt_of_pos _ (by omega)⟩
      obtain ⟨_, _, ⟨T38, L38, k38, n38⟩, -, X38, ⟨Lc38, hQ38, l38, y38, z38⟩, st38⟩ := Jvm.LawKit.callS X36 hx (y := (⟨"com/example/lachesis/lachesis/timer/WheelBucketPinLaw", "distinct", "([Lcom/example/lachesis/lachesis/timer/Bucket;I)Z"⟩ : MethodName)) hown (mvT hZ (hw _ (List.mem_of_getElem? (i := 56) rfl))) (mvT hZ (hw _ (List.mem_of_getElem? (i := 57) rfl))) (mvT hZ (hw _ (List.mem_of_getElem? (i := 58) rfl))) (mvT hZ (hw _ (List.mem_of_getElem? (i := 59) rfl))) (by decide) (backOf (W := 0) (rmD3 l Z a0 hw [] b9 nn k9 c0 c1 c2 T35.heap n0 Zn V_b9 hk (by rw [hv_c1, hv_c0]; exact own_dis hbn11 hl_c1 hl_c0 (own_ixne hnn bs1 hq_c1 hq_c0 (by decide))) (by rw [hv_c2, hv_c0]; exact own_dis hbn11 hl_c2 hl_c0 (own_ixne hnn bs1 hq_c2 hq_c0 (by decide))) (by rw [hv_c2, hv_c1]; exact own_dis hbn11 hl_c2 hl_c1 (own_ixne hnn bs1 hq_c2 hq_c1 (by decide)))) hZ (hw _ (List.mem_of_getElem? (i := 59) rfl)) (hw _ (List.mem_of_getElem? (i := 58) rfl)) (by decide) (by decide)) (g := (mkF m 217 #[.val (.long q0), .second, .val (.int p1), .val (.long q2), .second, .val (.long q3), .second, .val (.int p4), .val (.long st), .second, .val (.int nn), .val (.long (q2 &&& (9223372036854775807 : Int64))), .second, .val (.long (q3 &&& (9223372036854775807 : Int64))), .second, .val (.long t1), .second, .val (.long t2), .second, .val (.int kx), .val (.ref b9), .val (.ref b10), .val (.ref got), .val (.int (((t1 / st) - ((t1 / st) / (nn.toInt64)) * (nn.toInt64)).toInt32)), .val (.int (((t2 / st) - ((t2 / st) / (nn.toInt64)) * (nn.toInt64)).toInt32)), .val (.int idx)] [(.int nn), (.ref b9)])) rfl (by rw [hml]; rfl) (argsL := [(.ref b9), (.int nn)]) (rest := []) (lenOf pd_8 rfl) rfl (by show 2 * 0 + _ ≤ _; exact Nat.le_of_eq rfl) (hb hby at_217) (fun _ _ => ⟨rfl, e36, (by decide : 8 + 0 ≤ _), (by decide : 35 + 0 ≤ _)⟩)
      dsimp only [Pt.U, Pt.locs, Pt.cells, Pt.slots] at X38 l38 y38 z38 st38 hQ38
      subst l38 y38 z38
      obtain ⟨rfl, N38q, e38q⟩ := hQ38
      have N38 := Fr.app N36 N38q
      have e38 : T38.heap = T35.heap := e38q
      have hc220 : ¬ ((1 : Int32) = (0 : Int32)) := (by decide)
      have Vq39 := V_b9
      obtain ⟨cl39, Ar39, q39, S39, N39z, H39, G39⟩ := Vq39
      have hin39 : ¬ (idx < 0 ∨ cl39.slots.size ≤ (idx).toNatClampNeg) := inb_of S39 ⟨own_ge0.mpr hid.1, by rw [Int32.lt_iff_toInt_lt]; have z : (5 : Int32).toInt = 5 := (by decide); omega⟩
      have hat39 : cl39.slots[(idx).toNatClampNeg]? = some (.ref got) := Has.at H39 hin39 (by
           have hi5 : idx.toInt = 0 ∨ idx.toInt = 1 ∨ idx.toInt = 2 := by omega
           rcases hi5 with hi5 | hi5 | hi5
           · rw [show idx.toNatClampNeg = 0 by have z := own_nn (own_ge0.mpr hid.1); omega]
             show Value.ref c0 = Value.ref got
             rw [hv_c0, hv_got, own_hit (q := (0 : Int64)) hnn bs1 bs2 hkx hidI (by rw [hi5]; decide)]
           · rw [show idx.toNatClampNeg = 1 by have z := own_nn (own_ge0.mpr hid.1); omega]
             show Value.ref c1 = Value.ref got
             rw [hv_c1, hv_got, own_hit (q := (1 : Int64)) hnn bs1 bs2 hkx hidI (by rw [hi5]; decide)]
           · rw [show idx.toNatClampNeg = 2 by have z := own_nn (own_ge0.mpr hid.1); omega]
             show Value.ref c2 = Value.ref got
             rw [hv_c2, hv_got, own_hit (q := (2 : Int64)) hnn bs1 bs2 hkx hidI (by rw [hi5]; decide)])
      obtain ⟨fs, hr, hrun, hended, hW, hsame⟩ := X38.leave (v := some (.int (1 : Int32))) (fun h => by rw [Bd.returns] at h; cases h) hlk
      refine ⟨_, _, K37 _ ?_, hrun, hended, _, _, rfl, ?_, ⟨_, rfl⟩, hW, hsame.mono (by decide) (by decide)⟩
      ·
        show Steps p.tables e below (T36.setTop (mkF m 213 #[.val (.long q0), .second, .val (.int p1), .val (.long q2), .second, .val (.long q3), .second, .val (.int p4), .val (.long st), .second, .val (.int nn), .val (.long (q2 &&& (9223372036854775807 : Int64))), .second, .val (.long (q3 &&& (9223372036854775807 : Int64))), .second, .val (.long t1), .second, .val (.long t2), .second, .val (.int kx), .val (.ref b9), .val (.ref b10), .val (.ref got), .val (.int (((t1 / st) - ((t1 / st) / (nn.toInt64)) * (nn.toInt64)).toInt32)), .val (.int (((t2 / st) - ((t2 / st) / (nn.toInt64)) * (nn.toInt64)).toInt32)), .val (.int idx)] [])) _
        refine XS.aload X36.here hx rfl (hb hby at_213) rfl rfl ?_
        show Steps p.tables e below (T36.setTop (mkF m 215 #[.val (.long q0), .second, .val (.int p1), .val (.long q2), .second, .val (.long q3), .second, .val (.int p4), .val (.long st), .second, .val (.int nn), .val (.long (q2 &&& (9223372036854775807 : Int64))), .second, .val (.long (q3 &&& (9223372036854775807 : Int64))), .second, .val (.long t1), .second, .val (.long t2), .second, .val (.int kx), .val (.ref b9), .val (.ref b10), .val (.ref got), .val (.int (((t1 / st) - ((t1 / st) / (nn.toInt64)) * (nn.toInt64)).toInt32)), .val (.int (((t2 / st) - ((t2 / st) / (nn.toInt64)) * (nn.toInt64)).toInt32)), .val (.int idx)] [(.ref b9)])) _
        refine XS.iload X36.here hx rfl (hb hby at_215) rfl ?_
        show Steps p.tables e below (T36.setTop (mkF m 217 #[.val (.long q0), .second, .val (.int p1), .val (.long q2), .second, .val (.long q3), .second, .val (.int p4), .val (.long st), .second, .val (.int nn), .val (.long (q2 &&& (9223372036854775807 : Int64))), .second, .val (.long (q3 &&& (9223372036854775807 : Int64))), .second, .val (.long t1), .second, .val (.long t2), .second, .val (.int kx), .val (.ref b9), .val (.ref b10), .val (.ref got), .val (.int (((t1 / st) - ((t1 / st) / (nn.toInt64)) * (nn.toInt64)).toInt32)), .val (.int (((t2 / st) - ((t2 / st) / (nn.toInt64)) * (nn.toInt64)).toInt32)), .val (.int idx)] [(.int nn), (.ref b9)])) _
        refine st38 _ ?_
        show Steps p.tables e below (T38.setTop (mkF m 220 #[.val (.long q0), .second, .val (.int p1), .val (.long q2), .second, .val (.long q3), .second, .val (.int p4), .val (.long st), .second, .val (.int nn), .val (.long (q2 &&& (9223372036854775807 : Int64))), .second, .val (.long (q3 &&& (9223372036854775807 : Int64))), .second, .val (.long t1), .second, .val (.long t2), .second, .val (.int kx), .val (.ref b9), .val (.ref b10), .val (.ref got), .val (.int (((t1 / st) - ((t1 / st) / (nn.toInt64)) * (nn.toInt64)).toInt32)), .val (.int (((t2 / st) - ((t2 / st) / (nn.toInt64)) * (nn.toInt64)).toInt32)), .val (.int idx)] [(.int (1 : Int32))])) _
        refine XS.ifNo X38.here hx rfl (hb hby at_220) rfl ((if0 _ _).trans (feq hc220).1) ?_
        show Steps p.tables e below (T38.setTop (mkF m 223 #[.val (.long q0), .second, .val (.int p1), .val (.long q2), .second, .val (.long q3), .second, .val (.int p4), .val (.long st), .second, .val (.int nn), .val (.long (q2 &&& (9223372036854775807 : Int64))), .second, .val (.long (q3 &&& (9223372036854775807 : Int64))), .second, .val (.long t1), .second, .val (.long t2), .second, .val (.int kx), .val (.ref b9), .val (.ref b10), .val (.ref got), .val (.int (((t1 / st) - ((t1 / st) / (nn.toInt64)) * (nn.toInt64)).toInt32)), .val (.int (((t2 / st) - ((t2 / st) / (nn.toInt64)) * (nn.toInt64)).toInt32)), .val (.int idx)] [])) _
        refine XS.aload X38.here hx rfl (hb hby at_223) rfl rfl ?_
        show Steps p.tables e below (T38.setTop (mkF m 225 #[.val (.long q0), .second, .val (.int p1), .val (.long q2), .second, .val (.long q3), .second, .val (.int p4), .val (.long st), .second, .val (.int nn), .val (.long (q2 &&& (9223372036854775807 : Int64))), .second, .val (.long (q3 &&& (9223372036854775807 : Int64))), .second, .val (.long t1), .second, .val (.long t2), .second, .val (.int kx), .val (.ref b9), .val (.ref b10), .val (.ref got), .val (.int (((t1 / st) - ((t1 / st) / (nn.toInt64)) * (nn.toInt64)).toInt32)), .val (.int (((t2 / st) - ((t2 / st) / (nn.toInt64)) * (nn.toInt64)).toInt32)), .val (.int idx)] [(.ref got)])) _
        refine XS.aload X38.here hx rfl (hb hby at_225) rfl rfl ?_
        show Steps p.tables e below (T38.setTop (mkF m 227 #[.val (.long q0), .second, .val (.int p1), .val (.long q2), .second, .val (.long q3), .second, .val (.int p4), .val (.long st), .second, .val (.int nn), .val (.long (q2 &&& (9223372036854775807 : Int64))), .second, .val (.long (q3 &&& (9223372036854775807 : Int64))), .second, .val (.long t1), .second, .val (.long t2), .second, .val (.int kx), .val (.ref b9), .val (.ref b10), .val (.ref got), .val (.int (((t1 / st) - ((t1 / st) / (nn.toInt64)) * (nn.toInt64)).toInt32)), .val (.int (((t2 / st) - ((t2 / st) / (nn.toInt64)) * (nn.toInt64)).toInt32)), .val (.int idx)] [(.ref b9), (.ref got)])) _
        refine XS.iload X38.here hx rfl (hb hby at_227) rfl ?_
        show Steps p.tables e below (T38.setTop (mkF m 229 #[.val (.long q0), .second, .val (.int p1), .val (.long q2), .second, .val (.long q3), .second, .val (.int p4), .val (.long st), .second, .val (.int nn), .val (.long (q2 &&& (9223372036854775807 : Int64))), .second, .val (.long (q3 &&& (9223372036854775807 : Int64))), .second, .val (.long t1), .second, .val (.long t2), .second, .val (.int kx), .val (.ref b9), .val (.ref b10), .val (.ref got), .val (.int (((t1 / st) - ((t1 / st) / (nn.toInt64)) * (nn.toInt64)).toInt32)), .val (.int (((t2 / st) - ((t2 / st) / (nn.toInt64)) * (nn.toInt64)).toInt32)), .val (.int idx)] [(.int idx), (.ref b9), (.ref got)])) _
        refine X38.aaload hx (j := idx) (v := (.ref got)) (by rw [e38]; exact Ar39.1) (State.isArrayOf_alike hZ.alike Ar39.2.1) rfl Ar39.2.2 hin39 hat39 (g := (mkF m 229 #[.val (.long q0), .second, .val (.int p1), .val (.long q2), .second, .val (.long q3), .second, .val (.int p4), .val (.long st), .second, .val (.int nn), .val (.long (q2 &&& (9223372036854775807 : Int64))), .second, .val (.long (q3 &&& (9223372036854775807 : Int64))), .second, .val (.long t1), .second, .val (.long t2), .second, .val (.int kx), .val (.ref b9), .val (.ref b10), .val (.ref got), .val (.int (((t1 / st) - ((t1 / st) / (nn.toInt64)) * (nn.toInt64)).toInt32)), .val (.int (((t2 / st) - ((t2 / st) / (nn.toInt64)) * (nn.toInt64)).toInt32)), .val (.int idx)] [(.int idx), (.ref b9), (.ref got)])) rfl rfl (hb hby at_229) _ ?_
        show Steps p.tables e below (T38.setTop (mkF m 230 #[.val (.long q0), .second, .val (.int p1), .val (.long q2), .second, .val (.long q3), .second, .val (.int p4), .val (.long st), .second, .val (.int nn), .val (.long (q2 &&& (9223372036854775807 : Int64))), .second, .val (.long (q3 &&& (9223372036854775807 : Int64))), .second, .val (.long t1), .second, .val (.long t2), .second, .val (.int kx), .val (.ref b9), .val (.ref b10), .val (.ref got), .val (.int (((t1 / st) - ((t1 / st) / (nn.toInt64)) * (nn.toInt64)).toInt32)), .val (.int (((t2 / st) - ((t2 / st) / (nn.toInt64)) * (nn.toInt64)).toInt32)), .val (.int idx)] [(.ref got), (.ref got)])) _
        refine Jvm.RoadKit.acmp (g := (mkF m 230 #[.val (.long q0), .second, .val (.int p1), .val (.long q2), .second, .val (.long q3), .second, .val (.int p4), .val (.long st), .second, .val (.int nn), .val (.long (q2 &&& (9223372036854775807 : Int64))), .second, .val (.long (q3 &&& (9223372036854775807 : Int64))), .second, .val (.long t1), .second, .val (.long t2), .second, .val (.int kx), .val (.ref b9), .val (.ref b10), .val (.ref got), .val (.int (((t1 / st) - ((t1 / st) / (nn.toInt64)) * (nn.toInt64)).toInt32)), .val (.int (((t2 / st) - ((t2 / st) / (nn.toInt64)) * (nn.toInt64)).toInt32)), .val (.int idx)] [(.ref got), (.ref got)])) X38 hx rfl rfl rfl (pc0 := 230) (pc' := 233) (same := true) rfl (hb hby at_230) rfl (decide_eq_true rfl) (by decide) (by decide) ?_
        show Steps p.tables e below (T38.setTop (mkF m 233 #[.val (.long q0), .second, .val (.int p1), .val (.long q2), .second, .val (.long q3), .second, .val (.int p4), .val (.long st), .second, .val (.int nn), .val (.long (q2 &&& (9223372036854775807 : Int64))), .second, .val (.long (q3 &&& (9223372036854775807 : Int64))), .second, .val (.long t1), .second, .val (.long t2), .second, .val (.int kx), .val (.ref b9), .val (.ref b10), .val (.ref got), .val (.int (((t1 / st) - ((t1 / st) / (nn.toInt64)) * (nn.toInt64)).toInt32)), .val (.int (((t2 / st) - ((t2 / st) / (nn.toInt64)) * (nn.toInt64)).toInt32)), .val (.int idx)] [])) _
        refine XS.iconst X38.here hx rfl (hb hby at_233) ?_
        show Steps p.tables e below (T38.setTop (mkF m 234 #[.val (.long q0), .second, .val (.int p1), .val (.long q2), .second, .val (.long q3), .second, .val (.int p4), .val (.long st), .second, .val (.int nn), .val (.long (q2 &&& (9223372036854775807 : Int64))), .second, .val (.long (q3 &&& (9223372036854775807 : Int64))), .second, .val (.long t1), .second, .val (.long t2), .second, .val (.int kx), .val (.ref b9), .val (.ref b10), .val (.ref got), .val (.int (((t1 / st) - ((t1 / st) / (nn.toInt64)) * (nn.toInt64)).toInt32)), .val (.int (((t2 / st) - ((t2 / st) / (nn.toInt64)) * (nn.toInt64)).toInt32)), .val (.int idx)] [(.int (1 : Int32))])) _
        refine XS.goto X38.here hx rfl (pc0 := 234) (pc' := 238) rfl (hb hby at_234) (by decide) (by decide) ?_
        show Steps p.tables e below (T38.setTop (mkF m 238 #[.val (.long q0), .second, .val (.int p1), .val (.long q2), .second, .val (.long q3), .second, .val (.int p4), .val (.long st), .second, .val (.int nn), .val (.long (q2 &&& (9223372036854775807 : Int64))), .second, .val (.long (q3 &&& (9223372036854775807 : Int64))), .second, .val (.long t1), .second, .val (.long t2), .second, .val (.int kx), .val (.ref b9), .val (.ref b10), .val (.ref got), .val (.int (((t1 / st) - ((t1 / st) / (nn.toInt64)) * (nn.toInt64)).toInt32)), .val (.int (((t2 / st) - ((t2 / st) / (nn.toInt64)) * (nn.toInt64)).toInt32)), .val (.int idx)] [(.int (1 : Int32))])) _
        exact retN X38 hx (t := .boolean) Bd.returns (by simp) (hb hby at_238) hr
      ·
        show Q_rm0 Z q0 p1 q2 q3 p4 w_NONE h0 n0 _ T38.heap _
        rw [e38]
        exact ⟨rfl, N38⟩
  ·
    have hc123 : ¬ ((3 : Int32) < nn) := (by have z := hc105; rw [Int32.lt_iff_toInt_lt] at z ⊢; have y : (2 : Int32).toInt = 2 := (by decide); have x : (3 : Int32).toInt = 3 := (by decide); omega)
    have hc141 : ¬ ((4 : Int32) < nn) := (by have z := hc105; rw [Int32.lt_iff_toInt_lt] at z ⊢; have y : (2 : Int32).toInt = 2 := (by decide); have x : (4 : Int32).toInt = 4 := (by decide); omega)
    have y2 : (2 : Int32).toInt = 2 := by decide
    have y3 : (3 : Int32).toInt = 3 := by decide
    have y4 : (4 : Int32).toInt = 4 := by decide
    have u2 := hc105
    rw [Int32.lt_iff_toInt_lt] at u2
    have hk : nn.toInt = 2 := by omega
    obtain ⟨cq40, kq40, q40a, q40b, q40c⟩ := isOf hZ e15 E_b10
    obtain ⟨_, _, ⟨T40, L40, k40, n40⟩, -, X40, ⟨Lc40, hQ40, l40, y40, z40⟩, st40⟩ := X15.virtualBack hx (y := (⟨"com/example/lachesis/lachesis/timer/Wheel", "moveTo", "(J)V"⟩ : MethodName)) (z := (⟨"com/example/lachesis/lachesis/timer/Wheel", "moveTo", "(J)V"⟩ : MethodName)) hown (mvT hZ (hw _ (List.mem_of_getElem? (i := 55) rfl))) (mvT hZ (hw _ (List.mem_of_getElem? (i := 40) rfl))) (notFace_of_selects (args := #[]) (mvT hZ (hw _ (List.mem_of_getElem? (i := 42) rfl)))) (mvT hZ (hw _ (List.mem_of_getElem? (i := 42) rfl))) (mvT hZ (hw _ (List.mem_of_getElem? (i := 41) rfl))) (by decide) (backOf (W := 0) (rmM l Z a0 hw [] b10 t2 st (own_span st nn) ba11 ((t1 / st) * st) (own_slot t1 st nn) kk11 nn (bs11.map Value.ref) h15 n0 Zn E_b10 g_b10 ne_ba11_b10 F_slotTicks_b10 F_spanTicks_b10 F_buckets_b10 F_slotStart_b10 F_slot_b10 V_ba11 (own_nzst hst) (own_nz64 hnn.1)) hZ (hw _ (List.mem_of_getElem? (i := 43) rfl)) (hw _ (List.mem_of_getElem? (i := 13) rfl)) (by decide) (by decide)) q40a q40c (g := (mkF m 160 #[.val (.long q0), .second, .val (.int p1), .val (.long q2), .second, .val (.long q3), .second, .val (.int p4), .val (.long st), .second, .val (.int nn), .val (.long (q2 &&& (9223372036854775807 : Int64))), .second, .val (.long (q3 &&& (9223372036854775807 : Int64))), .second, .val (.long t1), .second, .val (.long t2), .second, .val (.int kx), .val (.ref b9), .val (.ref b10), .unset, .unset, .unset, .unset] [(.long t2), (.ref b10)])) rfl (by rw [hml]; rfl) (Steps.refl _) (argsL := [(.long t2)]) (rest := []) (lenOf pd_3 rfl) rfl (by show 2 * 0 + _ ≤ _; exact Nat.le_of_eq rfl) (hb hby at_160) (fun _ _ => ⟨rfl, e15, (by decide : 8 + 0 ≤ _), (by decide : 35 + 0 ≤ _)⟩)
    dsimp only [Pt.U, Pt.locs, Pt.cells, Pt.slots] at X40 l40 y40 z40 st40 hQ40
    subst l40 y40 z40
    obtain ⟨rfl, N40q, K40k, pf40_0, pf40_1, pf40_2, pf40_3, pf40_4, pf40_5⟩ := hQ40
    have N40 := Fr.app N15 N40q
    have OLD := OLD.keep K40k (allS g_b10 all0)
    have V_b9 := V_b9.keep K40k (ninS ne_b9_b10 nin0)
    have E_b10 := E_b10.keep K40k
    have V_ba11 := V_ba11.keep K40k (ninS ne_ba11_b10 nin0)
    have X_bs := X_bs.keep K40k
    have E_c0 := E_c0.keep K40k
    have E_c1 := E_c1.keep K40k
    replace Zn := Nat.le_trans Zn K40k.1
    have E_b10 := pf40_0
    have F_slotTicks_b10 := pf40_1
    have F_spanTicks_b10 := pf40_2
    have F_buckets_b10 := pf40_3
    have F_slotStart_b10 := pf40_4
    have F_slot_b10 := pf40_5
    have hq_got : 0 ≤ ((kx.toInt64)).toInt ∧ ((kx.toInt64)).toInt < nn.toInt := (by rw [Jvm.Kit.i64_of_i32]; exact hkx)
    have hb_got := own_ixB hnn bs2 hq_got
    have hl_got : (own_ix (own_slot t2 st nn) (kx.toInt64) nn).toNatClampNeg < bs11.length := by rw [hbl11]; exact own_inl hb_got
    obtain ⟨cq41, kq41, q41a, q41b, q41c⟩ := isOf hZ rfl E_b10
    obtain ⟨_, _, ⟨T41, L41, k41, n41⟩, -, X41, ⟨Lc41, hQ41, l41, y41, z41⟩, st41⟩ := X40.virtualBack hx (y := (⟨"com/example/lachesis/lachesis/timer/Wheel", "bucket", "(J)Lcom/example/lachesis/lachesis/timer/Bucket;"⟩ : MethodName)) (z := (⟨"com/example/lachesis/lachesis/timer/Wheel", "bucket", "(J)Lcom/example/lachesis/lachesis/timer/Bucket;"⟩ : MethodName)) hown (mvT hZ (hw _ (List.mem_of_getElem? (i := 48) rfl))) (mvT hZ (hw _ (List.mem_of_getElem? (i := 49) rfl))) (notFace_of_selects (args := #[]) (mvT hZ (hw _ (List.mem_of_getElem? (i := 51) rfl)))) (mvT hZ (hw _ (List.mem_of_getElem? (i := 51) rfl))) (mvT hZ (hw _ (List.mem_of_getElem? (i := 50) rfl))) (by decide) (backOf (W := 0) (rmK l Z a0 hw [] b10 (kx.toInt64) (own_slot t2 st nn) ba11 kk11 nn bs11 (own_ix (own_slot t2 st nn) (kx.toInt64) nn) T40.heap n0 Zn F_slot_b10 F_buckets_b10 V_ba11 hbl11 hb_got rfl) hZ (hw _ (List.mem_of_getElem? (i := 52) rfl)) (hw _ (List.mem_of_getElem? (i := 13) rfl)) (by decide) (by decide)) q41a q41c (g := (mkF m 168 #[.val (.long q0), .second, .val (.int p1), .val (.long q2), .second, .val (.long q3), .second, .val (.int p4), .val (.long st), .second, .val (.int nn), .val (.long (q2 &&& (9223372036854775807 : Int64))), .second, .val (.long (q3 &&& (9223372036854775807 : Int64))), .second, .val (.long t1), .second, .val (.long t2), .second, .val (.int kx), .val (.ref b9), .val (.ref b10), .unset, .unset, .unset, .unset] [(.long (kx.toInt64)), (.ref b10)])) rfl (by rw [hml]; rfl) (Steps.refl _) (argsL := [(.long (kx.toInt64))]) (rest := []) (lenOf pd_7 rfl) rfl (by show 2 * 0 + _ ≤ _; exact Nat.le_of_eq rfl) (hb hby at_168) (fun _ _ => ⟨rfl, rfl, (by decide : 8 + 0 ≤ _), (by decide : 35 + 0 ≤ _)⟩)
    dsimp only [Pt.U, Pt.locs, Pt.cells, Pt.slots] at X41 l41 y41 z41 st41 hQ41
    subst l41 y41 z41
    obtain ⟨rfl, N41q, e41q⟩ := hQ41
    have N41 := Fr.app N40 N41q
    have e41 : T41.heap = T40.heap := e41q
    obtain ⟨got, hv_got⟩ : ∃ z, z = bs11.getD (own_ix (own_slot t2 st nn) (kx.toInt64) nn).toNatClampNeg 0 := ⟨_, rfl⟩
    rw [← hv_got] at st41
    have E_got : Exa Z _ got "com/example/lachesis/lachesis/timer/Bucket" := hv_got ▸ X_bs.at hl_got
    have K42 : ∀ t, Steps p.tables e below (T41.setTop (mkF m 213 #[.val (.long q0), .second, .val (.int p1), .val (.long q2), .second, .val (.long q3), .second, .val (.int p4), .val (.long st), .second, .val (.int nn), .val (.long (q2 &&& (9223372036854775807 : Int64))), .second, .val (.long (q3 &&& (9223372036854775807 : Int64))), .second, .val (.long t1), .second, .val (.long t2), .second, .val (.int kx), .val (.ref b9), .val (.ref b10), .val (.ref got), .val (.int (((t1 / st) - ((t1 / st) / (nn.toInt64)) * (nn.toInt64)).toInt32)), .val (.int (((t2 / st) - ((t2 / st) / (nn.toInt64)) * (nn.toInt64)).toInt32)), .val (.int (((((((t2 / st) - ((t2 / st) / (nn.toInt64)) * (nn.toInt64)).toInt32) + kx) - (((t1 / st) - ((t1 / st) / (nn.toInt64)) * (nn.toInt64)).toInt32)) + nn) - (((((((t2 / st) - ((t2 / st) / (nn.toInt64)) * (nn.toInt64)).toInt32) + kx) - (((t1 / st) - ((t1 / st) / (nn.toInt64)) * (nn.toInt64)).toInt32)) + nn) / nn) * nn))] [])) t → Steps p.tables e below (s₁.setTop (entryFrame m #[(.long q0), (.int p1), (.long q2), (.long q3), (.int p4)] maxLocals)) t := by
      intro t kt
      refine K16 t ?_
      show Steps p.tables e below (T15.setTop (mkF m 105 #[.val (.long q0), .second, .val (.int p1), .val (.long q2), .second, .val (.long q3), .second, .val (.int p4), .val (.long st), .second, .val (.int nn), .val (.long (q2 &&& (9223372036854775807 : Int64))), .second, .val (.long (q3 &&& (9223372036854775807 : Int64))), .second, .val (.long t1), .second, .val (.long t2), .second, .val (.int kx), .val (.ref b9), .val (.ref b10), .unset, .unset, .unset, .unset] [(.int (2 : Int32)), (.int nn)])) _
      refine XS.icmpYes X15.here hx rfl (pc0 := 105) (pc' := 120) rfl (hb hby at_105) rfl (flt hc105).2.2.2 (by decide) (by decide) ?_
      show Steps p.tables e below (T15.setTop (mkF m 120 #[.val (.long q0), .second, .val (.int p1), .val (.long q2), .second, .val (.long q3), .second, .val (.int p4), .val (.long st), .second, .val (.int nn), .val (.long (q2 &&& (9223372036854775807 : Int64))), .second, .val (.long (q3 &&& (9223372036854775807 : Int64))), .second, .val (.long t1), .second, .val (.long t2), .second, .val (.int kx), .val (.ref b9), .val (.ref b10), .unset, .unset, .unset, .unset] [])) _
      refine XS.iload X15.here hx rfl (hb hby at_120) rfl ?_
      show Steps p.tables e below (T15.setTop (mkF m 122 #[.val (.long q0), .second, .val (.int p1), .val (.long q2), .second, .val (.long q3), .second, .val (.int p4), .val (.long st), .second, .val (.int nn), .val (.long (q2 &&& (9223372036854775807 : Int64))), .second, .val (.long (q3 &&& (9223372036854775807 : Int64))), .second, .val (.long t1), .second, .val (.long t2), .second, .val (.int kx), .val (.ref b9), .val (.ref b10), .unset, .unset, .unset, .unset] [(.int nn)])) _
      refine XS.iconst X15.here hx rfl (hb hby at_122) ?_
      show Steps p.tables e below (T15.setTop (mkF m 123 #[.val (.long q0), .second, .val (.int p1), .val (.long q2), .second, .val (.long q3), .second, .val (.int p4), .val (.long st), .second, .val (.int nn), .val (.long (q2 &&& (9223372036854775807 : Int64))), .second, .val (.long (q3 &&& (9223372036854775807 : Int64))), .second, .val (.long t1), .second, .val (.long t2), .second, .val (.int kx), .val (.ref b9), .val (.ref b10), .unset, .unset, .unset, .unset] [(.int (3 : Int32)), (.int nn)])) _
      refine XS.icmpYes X15.here hx rfl (pc0 := 123) (pc' := 138) rfl (hb hby at_123) rfl (flt hc123).2.2.2 (by decide) (by decide) ?_
      show Steps p.tables e below (T15.setTop (mkF m 138 #[.val (.long q0), .second, .val (.int p1), .val (.long q2), .second, .val (.long q3), .second, .val (.int p4), .val (.long st), .second, .val (.int nn), .val (.long (q2 &&& (9223372036854775807 : Int64))), .second, .val (.long (q3 &&& (9223372036854775807 : Int64))), .second, .val (.long t1), .second, .val (.long t2), .second, .val (.int kx), .val (.ref b9), .val (.ref b10), .unset, .unset, .unset, .unset] [])) _
      refine XS.iload X15.here hx rfl (hb hby at_138) rfl ?_
      show Steps p.tables e below (T15.setTop (mkF m 140 #[.val (.long q0), .second, .val (.int p1), .val (.long q2), .second, .val (.long q3), .second, .val (.int p4), .val (.long st), .second, .val (.int nn), .val (.long (q2 &&& (9223372036854775807 : Int64))), .second, .val (.long (q3 &&& (9223372036854775807 : Int64))), .second, .val (.long t1), .second, .val (.long t2), .second, .val (.int kx), .val (.ref b9), .val (.ref b10), .unset, .unset, .unset, .unset] [(.int nn)])) _
      refine XS.iconst X15.here hx rfl (hb hby at_140) ?_
      show Steps p.tables e below (T15.setTop (mkF m 141 #[.val (.long q0), .second, .val (.int p1), .val (.long q2), .second, .val (.long q3), .second, .val (.int p4), .val (.long st), .second, .val (.int nn), .val (.long (q2 &&& (9223372036854775807 : Int64))), .second, .val (.long (q3 &&& (9223372036854775807 : Int64))), .second, .val (.long t1), .second, .val (.long t2), .second, .val (.int kx), .val (.ref b9), .val (.ref b10), .unset, .unset, .unset, .unset] [(.int (4 : Int32)), (.int nn)])) _
      refine XS.icmpYes X15.here hx rfl (pc0 := 141) (pc' := 156) rfl (hb hby at_141) rfl (flt hc141).2.2.2 (by decide) (by decide) ?_
      show Steps p.tables e below (T15.setTop (mkF m 156 #[.val (.long q0), .second, .val (.int p1), .val (.long q2), .second, .val (.long q3), .second, .val (.int p4), .val (.long st), .second, .val (.int nn), .val (.long (q2 &&& (9223372036854775807 : Int64))), .second, .val (.long (q3 &&& (9223372036854775807 : Int64))), .second, .val (.long t1), .second, .val (.long t2), .second, .val (.int kx), .val (.ref b9), .val (.ref b10), .unset, .unset, .unset, .unset] [])) _
      refine XS.aload X15.here hx rfl (hb hby at_156) rfl rfl ?_
      show Steps p.tables e below (T15.setTop (mkF m 158 #[.val (.long q0), .second, .val (.int p1), .val (.long q2), .second, .val (.long q3), .second, .val (.int p4), .val (.long st), .second, .val (.int nn), .val (.long (q2 &&& (9223372036854775807 : Int64))), .second, .val (.long (q3 &&& (9223372036854775807 : Int64))), .second, .val (.long t1), .second, .val (.long t2), .second, .val (.int kx), .val (.ref b9), .val (.ref b10), .unset, .unset, .unset, .unset] [(.ref b10)])) _
      refine XS.lload X15.here hx rfl (hb hby at_158) rfl ?_
      show Steps p.tables e below (T15.setTop (mkF m 160 #[.val (.long q0), .second, .val (.int p1), .val (.long q2), .second, .val (.long q3), .second, .val (.int p4), .val (.long st), .second, .val (.int nn), .val (.long (q2 &&& (9223372036854775807 : Int64))), .second, .val (.long (q3 &&& (9223372036854775807 : Int64))), .second, .val (.long t1), .second, .val (.long t2), .second, .val (.int kx), .val (.ref b9), .val (.ref b10), .unset, .unset, .unset, .unset] [(.long t2), (.ref b10)])) _
      refine st40.trans ?_
      show Steps p.tables e below (T40.setTop (mkF m 163 #[.val (.long q0), .second, .val (.int p1), .val (.long q2), .second, .val (.long q3), .second, .val (.int p4), .val (.long st), .second, .val (.int nn), .val (.long (q2 &&& (9223372036854775807 : Int64))), .second, .val (.long (q3 &&& (9223372036854775807 : Int64))), .second, .val (.long t1), .second, .val (.long t2), .second, .val (.int kx), .val (.ref b9), .val (.ref b10), .unset, .unset, .unset, .unset] [])) _
      refine XS.aload X40.here hx rfl (hb hby at_163) rfl rfl ?_
      show Steps p.tables e below (T40.setTop (mkF m 165 #[.val (.long q0), .second, .val (.int p1), .val (.long q2), .second, .val (.long q3), .second, .val (.int p4), .val (.long st), .second, .val (.int nn), .val (.long (q2 &&& (9223372036854775807 : Int64))), .second, .val (.long (q3 &&& (9223372036854775807 : Int64))), .second, .val (.long t1), .second, .val (.long t2), .second, .val (.int kx), .val (.ref b9), .val (.ref b10), .unset, .unset, .unset, .unset] [(.ref b10)])) _
      refine XS.iload X40.here hx rfl (hb hby at_165) rfl ?_
      show Steps p.tables e below (T40.setTop (mkF m 167 #[.val (.long q0), .second, .val (.int p1), .val (.long q2), .second, .val (.long q3), .second, .val (.int p4), .val (.long st), .second, .val (.int nn), .val (.long (q2 &&& (9223372036854775807 : Int64))), .second, .val (.long (q3 &&& (9223372036854775807 : Int64))), .second, .val (.long t1), .second, .val (.long t2), .second, .val (.int kx), .val (.ref b9), .val (.ref b10), .unset, .unset, .unset, .unset] [(.int kx), (.ref b10)])) _
      refine XS.i2l X40.here hx rfl (hb hby at_167) rfl ?_
      show Steps p.tables e below (T40.setTop (mkF m 168 #[.val (.long q0), .second, .val (.int p1), .val (.long q2), .second, .val (.long q3), .second, .val (.int p4), .val (.long st), .second, .val (.int nn), .val (.long (q2 &&& (9223372036854775807 : Int64))), .second, .val (.long (q3 &&& (9223372036854775807 : Int64))), .second, .val (.long t1), .second, .val (.long t2), .second, .val (.int kx), .val (.ref b9), .val (.ref b10), .unset, .unset, .unset, .unset] [(.long (kx.toInt64)), (.ref b10)])) _
      refine st41.trans ?_
      show Steps p.tables e below (T41.setTop (mkF m 171 #[.val (.long q0), .second, .val (.int p1), .val (.long q2), .second, .val (.long q3), .second, .val (.int p4), .val (.long st), .second, .val (.int nn), .val (.long (q2 &&& (9223372036854775807 : Int64))), .second, .val (.long (q3 &&& (9223372036854775807 : Int64))), .second, .val (.long t1), .second, .val (.long t2), .second, .val (.int kx), .val (.ref b9), .val (.ref b10), .unset, .unset, .unset, .unset] [(.ref got)])) _
      refine XS.astore X41.here hx rfl (hb hby at_171) rfl rfl (l' := #[.val (.long q0), .second, .val (.int p1), .val (.long q2), .second, .val (.long q3), .second, .val (.int p4), .val (.long st), .second, .val (.int nn), .val (.long (q2 &&& (9223372036854775807 : Int64))), .second, .val (.long (q3 &&& (9223372036854775807 : Int64))), .second, .val (.long t1), .second, .val (.long t2), .second, .val (.int kx), .val (.ref b9), .val (.ref b10), .val (.ref got), .unset, .unset, .unset]) rfl ?_
      show Steps p.tables e below (T41.setTop (mkF m 173 #[.val (.long q0), .second, .val (.int p1), .val (.long q2), .second, .val (.long q3), .second, .val (.int p4), .val (.long st), .second, .val (.int nn), .val (.long (q2 &&& (9223372036854775807 : Int64))), .second, .val (.long (q3 &&& (9223372036854775807 : Int64))), .second, .val (.long t1), .second, .val (.long t2), .second, .val (.int kx), .val (.ref b9), .val (.ref b10), .val (.ref got), .unset, .unset, .unset] [])) _
      refine XS.lload X41.here hx rfl (hb hby at_173) rfl ?_
      show Steps p.tables e below (T41.setTop (mkF m 175 #[.val (.long q0), .second, .val (.int p1), .val (.long q2), .second, .val (.long q3), .second, .val (.int p4), .val (.long st), .second, .val (.int nn), .val (.long (q2 &&& (9223372036854775807 : Int64))), .second, .val (.long (q3 &&& (9223372036854775807 : Int64))), .second, .val (.long t1), .second, .val (.long t2), .second, .val (.int kx), .val (.ref b9), .val (.ref b10), .val (.ref got), .unset, .unset, .unset] [(.long t1)])) _
      refine XS.lload X41.here hx rfl (hb hby at_175) rfl ?_
      show Steps p.tables e below (T41.setTop (mkF m 177 #[.val (.long q0), .second, .val (.int p1), .val (.long q2), .second, .val (.long q3), .second, .val (.int p4), .val (.long st), .second, .val (.int nn), .val (.long (q2 &&& (9223372036854775807 : Int64))), .second, .val (.long (q3 &&& (9223372036854775807 : Int64))), .second, .val (.long t1), .second, .val (.long t2), .second, .val (.int kx), .val (.ref b9), .val (.ref b10), .val (.ref got), .unset, .unset, .unset] [(.long st), (.long t1)])) _
      refine XS.ldiv X41.here hx rfl (hb hby at_177) rfl (own_nzst hst) ?_
      show Steps p.tables e below (T41.setTop (mkF m 178 #[.val (.long q0), .second, .val (.int p1), .val (.long q2), .second, .val (.long q3), .second, .val (.int p4), .val (.long st), .second, .val (.int nn), .val (.long (q2 &&& (9223372036854775807 : Int64))), .second, .val (.long (q3 &&& (9223372036854775807 : Int64))), .second, .val (.long t1), .second, .val (.long t2), .second, .val (.int kx), .val (.ref b9), .val (.ref b10), .val (.ref got), .unset, .unset, .unset] [(.long (t1 / st))])) _
      refine XS.iload X41.here hx rfl (hb hby at_178) rfl ?_
      show Steps p.tables e below (T41.setTop (mkF m 180 #[.val (.long q0), .second, .val (.int p1), .val (.long q2), .second, .val (.long q3), .second, .val (.int p4), .val (.long st), .second, .val (.int nn), .val (.long (q2 &&& (9223372036854775807 : Int64))), .second, .val (.long (q3 &&& (9223372036854775807 : Int64))), .second, .val (.long t1), .second, .val (.long t2), .second, .val (.int kx), .val (.ref b9), .val (.ref b10), .val (.ref got), .unset, .unset, .unset] [(.int nn), (.long (t1 / st))])) _
      refine XS.i2l X41.here hx rfl (hb hby at_180) rfl ?_
      show Steps p.tables e below (T41.setTop (mkF m 181 #[.val (.long q0), .second, .val (.int p1), .val (.long q2), .second, .val (.long q3), .second, .val (.int p4), .val (.long st), .second, .val (.int nn), .val (.long (q2 &&& (9223372036854775807 : Int64))), .second, .val (.long (q3 &&& (9223372036854775807 : Int64))), .second, .val (.long t1), .second, .val (.long t2), .second, .val (.int kx), .val (.ref b9), .val (.ref b10), .val (.ref got), .unset, .unset, .unset] [(.long (nn.toInt64)), (.long (t1 / st))])) _
      refine XS.lrem X41.here hx rfl (hb hby at_181) rfl (own_nz64 hnn.1) ?_
      show Steps p.tables e below (T41.setTop (mkF m 182 #[.val (.long q0), .second, .val (.int p1), .val (.long q2), .second, .val (.long q3), .second, .val (.int p4), .val (.long st), .second, .val (.int nn), .val (.long (q2 &&& (9223372036854775807 : Int64))), .second, .val (.long (q3 &&& (9223372036854775807 : Int64))), .second, .val (.long t1), .second, .val (.long t2), .second, .val (.int kx), .val (.ref b9), .val (.ref b10), .val (.ref got), .unset, .unset, .unset] [(.long ((t1 / st) - ((t1 / st) / (nn.toInt64)) * (nn.toInt64)))])) _
      refine XS.l2i X41.here hx rfl (hb hby at_182) rfl ?_
      show Steps p.tables e below (T41.setTop (mkF m 183 #[.val (.long q0), .second, .val (.int p1), .val (.long q2), .second, .val (.long q3), .second, .val (.int p4), .val (.long st), .second, .val (.int nn), .val (.long (q2 &&& (9223372036854775807 : Int64))), .second, .val (.long (q3 &&& (9223372036854775807 : Int64))), .second, .val (.long t1), .second, .val (.long t2), .second, .val (.int kx), .val (.ref b9), .val (.ref b10), .val (.ref got), .unset, .unset, .unset] [(.int (((t1 / st) - ((t1 / st) / (nn.toInt64)) * (nn.toInt64)).toInt32))])) _
      refine XS.istore X41.here hx rfl (hb hby at_183) rfl (l' := #[.val (.long q0), .second, .val (.int p1), .val (.long q2), .second, .val (.long q3), .second, .val (.int p4), .val (.long st), .second, .val (.int nn), .val (.long (q2 &&& (9223372036854775807 : Int64))), .second, .val (.long (q3 &&& (9223372036854775807 : Int64))), .second, .val (.long t1), .second, .val (.long t2), .second, .val (.int kx), .val (.ref b9), .val (.ref b10), .val (.ref got), .val (.int (((t1 / st) - ((t1 / st) / (nn.toInt64)) * (nn.toInt64)).toInt32)), .unset, .unset]) rfl ?_
      show Steps p.tables e below (T41.setTop (mkF m 185 #[.val (.long q0), .second, .val (.int p1), .val (.long q2), .second, .val (.long q3), .second, .val (.int p4), .val (.long st), .second, .val (.int nn), .val (.long (q2 &&& (9223372036854775807 : Int64))), .second, .val (.long (q3 &&& (9223372036854775807 : Int64))), .second, .val (.long t1), .second, .val (.long t2), .second, .val (.int kx), .val (.ref b9), .val (.ref b10), .val (.ref got), .val (.int (((t1 / st) - ((t1 / st) / (nn.toInt64)) * (nn.toInt64)).toInt32)), .unset, .unset] [])) _
      refine XS.lload X41.here hx rfl (hb hby at_185) rfl ?_
      show Steps p.tables e below (T41.setTop (mkF m 187 #[.val (.long q0), .second, .val (.int p1), .val (.long q2), .second, .val (.long q3), .second, .val (.int p4), .val (.long st), .second, .val (.int nn), .val (.long (q2 &&& (9223372036854775807 : Int64))), .second, .val (.long (q3 &&& (9223372036854775807 : Int64))), .second, .val (.long t1), .second, .val (.long t2), .second, .val (.int kx), .val (.ref b9), .val (.ref b10), .val (.ref got), .val (.int (((t1 / st) - ((t1 / st) / (nn.toInt64)) * (nn.toInt64)).toInt32)), .unset, .unset] [(.long t2)])) _
      refine XS.lload X41.here hx rfl (hb hby at_187) rfl ?_
      show Steps p.tables e below (T41.setTop (mkF m 189 #[.val (.long q0), .second, .val (.int p1), .val (.long q2), .second, .val (.long q3), .second, .val (.int p4), .val (.long st), .second, .val (.int nn), .val (.long (q2 &&& (9223372036854775807 : Int64))), .second, .val (.long (q3 &&& (9223372036854775807 : Int64))), .second, .val (.long t1), .second, .val (.long t2), .second, .val (.int kx), .val (.ref b9), .val (.ref b10), .val (.ref got), .val (.int (((t1 / st) - ((t1 / st) / (nn.toInt64)) * (nn.toInt64)).toInt32)), .unset, .unset] [(.long st), (.long t2)])) _
      refine XS.ldiv X41.here hx rfl (hb hby at_189) rfl (own_nzst hst) ?_
      show Steps p.tables e below (T41.setTop (mkF m 190 #[.val (.long q0), .second, .val (.int p1), .val (.long q2), .second, .val (.long q3), .second, .val (.int p4), .val (.long st), .second, .val (.int nn), .val (.long (q2 &&& (9223372036854775807 : Int64))), .second, .val (.long (q3 &&& (9223372036854775807 : Int64))), .second, .val (.long t1), .second, .val (.long t2), .second, .val (.int kx), .val (.ref b9), .val (.ref b10), .val (.ref got), .val (.int (((t1 / st) - ((t1 / st) / (nn.toInt64)) * (nn.toInt64)).toInt32)), .unset, .unset] [(.long (t2 / st))])) _
      refine XS.iload X41.here hx rfl (hb hby at_190) rfl ?_
      show Steps p.tables e below (T41.setTop (mkF m 192 #[.val (.long q0), .second, .val (.int p1), .val (.long q2), .second, .val (.long q3), .second, .val (.int p4), .val (.long st), .second, .val (.int nn), .val (.long (q2 &&& (9223372036854775807 : Int64))), .second, .val (.long (q3 &&& (9223372036854775807 : Int64))), .second, .val (.long t1), .second, .val (.long t2), .second, .val (.int kx), .val (.ref b9), .val (.ref b10), .val (.ref got), .val (.int (((t1 / st) - ((t1 / st) / (nn.toInt64)) * (nn.toInt64)).toInt32)), .unset, .unset] [(.int nn), (.long (t2 / st))])) _
      refine XS.i2l X41.here hx rfl (hb hby at_192) rfl ?_
      show Steps p.tables e below (T41.setTop (mkF m 193 #[.val (.long q0), .second, .val (.int p1), .val (.long q2), .second, .val (.long q3), .second, .val (.int p4), .val (.long st), .second, .val (.int nn), .val (.long (q2 &&& (9223372036854775807 : Int64))), .second, .val (.long (q3 &&& (9223372036854775807 : Int64))), .second, .val (.long t1), .second, .val (.long t2), .second, .val (.int kx), .val (.ref b9), .val (.ref b10), .val (.ref got), .val (.int (((t1 / st) - ((t1 / st) / (nn.toInt64)) * (nn.toInt64)).toInt32)), .unset, .unset] [(.long (nn.toInt64)), (.long (t2 / st))])) _
      refine XS.lrem X41.here hx rfl (hb hby at_193) rfl (own_nz64 hnn.1) ?_
      show Steps p.tables e below (T41.setTop (mkF m 194 #[.val (.long q0), .second, .val (.int p1), .val (.long q2), .second, .val (.long q3), .second, .val (.int p4), .val (.long st), .second, .val (.int nn), .val (.long (q2 &&& (9223372036854775807 : Int64))), .second, .val (.long (q3 &&& (9223372036854775807 : Int64))), .second, .val (.long t1), .second, .val (.long t2), .second, .val (.int kx), .val (.ref b9), .val (.ref b10), .val (.ref got), .val (.int (((t1 / st) - ((t1 / st) / (nn.toInt64)) * (nn.toInt64)).toInt32)), .unset, .unset] [(.long ((t2 / st) - ((t2 / st) / (nn.toInt64)) * (nn.toInt64)))])) _
      refine XS.l2i X41.here hx rfl (hb hby at_194) rfl ?_
      show Steps p.tables e below (T41.setTop (mkF m 195 #[.val (.long q0), .second, .val (.int p1), .val (.long q2), .second, .val (.long q3), .second, .val (.int p4), .val (.long st), .second, .val (.int nn), .val (.long (q2 &&& (9223372036854775807 : Int64))), .second, .val (.long (q3 &&& (9223372036854775807 : Int64))), .second, .val (.long t1), .second, .val (.long t2), .second, .val (.int kx), .val (.ref b9), .val (.ref b10), .val (.ref got), .val (.int (((t1 / st) - ((t1 / st) / (nn.toInt64)) * (nn.toInt64)).toInt32)), .unset, .unset] [(.int (((t2 / st) - ((t2 / st) / (nn.toInt64)) * (nn.toInt64)).toInt32))])) _
      refine XS.istore X41.here hx rfl (hb hby at_195) rfl (l' := #[.val (.long q0), .second, .val (.int p1), .val (.long q2), .second, .val (.long q3), .second, .val (.int p4), .val (.long st), .second, .val (.int nn), .val (.long (q2 &&& (9223372036854775807 : Int64))), .second, .val (.long (q3 &&& (9223372036854775807 : Int64))), .second, .val (.long t1), .second, .val (.long t2), .second, .val (.int kx), .val (.ref b9), .val (.ref b10), .val (.ref got), .val (.int (((t1 / st) - ((t1 / st) / (nn.toInt64)) * (nn.toInt64)).toInt32)), .val (.int (((t2 / st) - ((t2 / st) / (nn.toInt64)) * (nn.toInt64)).toInt32)), .unset]) rfl ?_
      show Steps p.tables e below (T41.setTop (mkF m 197 #[.val (.long q0), .second, .val (.int p1), .val (.long q2), .second, .val (.long q3), .second, .val (.int p4), .val (.long st), .second, .val (.int nn), .val (.long (q2 &&& (9223372036854775807 : Int64))), .second, .val (.long (q3 &&& (9223372036854775807 : Int64))), .second, .val (.long t1), .second, .val (.long t2), .second, .val (.int kx), .val (.ref b9), .val (.ref b10), .val (.ref got), .val (.int (((t1 / st) - ((t1 / st) / (nn.toInt64)) * (nn.toInt64)).toInt32)), .val (.int (((t2 / st) - ((t2 / st) / (nn.toInt64)) * (nn.toInt64)).toInt32)), .unset] [])) _
      refine XS.iload X41.here hx rfl (hb hby at_197) rfl ?_
      show Steps p.tables e below (T41.setTop (mkF m 199 #[.val (.long q0), .second, .val (.int p1), .val (.long q2), .second, .val (.long q3), .second, .val (.int p4), .val (.long st), .second, .val (.int nn), .val (.long (q2 &&& (9223372036854775807 : Int64))), .second, .val (.long (q3 &&& (9223372036854775807 : Int64))), .second, .val (.long t1), .second, .val (.long t2), .second, .val (.int kx), .val (.ref b9), .val (.ref b10), .val (.ref got), .val (.int (((t1 / st) - ((t1 / st) / (nn.toInt64)) * (nn.toInt64)).toInt32)), .val (.int (((t2 / st) - ((t2 / st) / (nn.toInt64)) * (nn.toInt64)).toInt32)), .unset] [(.int (((t2 / st) - ((t2 / st) / (nn.toInt64)) * (nn.toInt64)).toInt32))])) _
      refine XS.iload X41.here hx rfl (hb hby at_199) rfl ?_
      show Steps p.tables e below (T41.setTop (mkF m 201 #[.val (.long q0), .second, .val (.int p1), .val (.long q2), .second, .val (.long q3), .second, .val (.int p4), .val (.long st), .second, .val (.int nn), .val (.long (q2 &&& (9223372036854775807 : Int64))), .second, .val (.long (q3 &&& (9223372036854775807 : Int64))), .second, .val (.long t1), .second, .val (.long t2), .second, .val (.int kx), .val (.ref b9), .val (.ref b10), .val (.ref got), .val (.int (((t1 / st) - ((t1 / st) / (nn.toInt64)) * (nn.toInt64)).toInt32)), .val (.int (((t2 / st) - ((t2 / st) / (nn.toInt64)) * (nn.toInt64)).toInt32)), .unset] [(.int kx), (.int (((t2 / st) - ((t2 / st) / (nn.toInt64)) * (nn.toInt64)).toInt32))])) _
      refine XS.iadd X41.here hx rfl (hb hby at_201) rfl ?_
      show Steps p.tables e below (T41.setTop (mkF m 202 #[.val (.long q0), .second, .val (.int p1), .val (.long q2), .second, .val (.long q3), .second, .val (.int p4), .val (.long st), .second, .val (.int nn), .val (.long (q2 &&& (9223372036854775807 : Int64))), .second, .val (.long (q3 &&& (9223372036854775807 : Int64))), .second, .val (.long t1), .second, .val (.long t2), .second, .val (.int kx), .val (.ref b9), .val (.ref b10), .val (.ref got), .val (.int (((t1 / st) - ((t1 / st) / (nn.toInt64)) * (nn.toInt64)).toInt32)), .val (.int (((t2 / st) - ((t2 / st) / (nn.toInt64)) * (nn.toInt64)).toInt32)), .unset] [(.int ((((t2 / st) - ((t2 / st) / (nn.toInt64)) * (nn.toInt64)).toInt32) + kx))])) _
      refine XS.iload X41.here hx rfl (hb hby at_202) rfl ?_
      show Steps p.tables e below (T41.setTop (mkF m 204 #[.val (.long q0), .second, .val (.int p1), .val (.long q2), .second, .val (.long q3), .second, .val (.int p4), .val (.long st), .second, .val (.int nn), .val (.long (q2 &&& (9223372036854775807 : Int64))), .second, .val (.long (q3 &&& (9223372036854775807 : Int64))), .second, .val (.long t1), .second, .val (.long t2), .second, .val (.int kx), .val (.ref b9), .val (.ref b10), .val (.ref got), .val (.int (((t1 / st) - ((t1 / st) / (nn.toInt64)) * (nn.toInt64)).toInt32)), .val (.int (((t2 / st) - ((t2 / st) / (nn.toInt64)) * (nn.toInt64)).toInt32)), .unset] [(.int (((t1 / st) - ((t1 / st) / (nn.toInt64)) * (nn.toInt64)).toInt32)), (.int ((((t2 / st) - ((t2 / st) / (nn.toInt64)) * (nn.toInt64)).toInt32) + kx))])) _
      refine XS.isub X41.here hx rfl (hb hby at_204) rfl ?_
      show Steps p.tables e below (T41.setTop (mkF m 205 #[.val (.long q0), .second, .val (.int p1), .val (.long q2), .second, .val (.long q3), .second, .val (.int p4), .val (.long st), .second, .val (.int nn), .val (.long (q2 &&& (9223372036854775807 : Int64))), .second, .val (.long (q3 &&& (9223372036854775807 : Int64))), .second, .val (.long t1), .second, .val (.long t2), .second, .val (.int kx), .val (.ref b9), .val (.ref b10), .val (.ref got), .val (.int (((t1 / st) - ((t1 / st) / (nn.toInt64)) * (nn.toInt64)).toInt32)), .val (.int (((t2 / st) - ((t2 / st) / (nn.toInt64)) * (nn.toInt64)).toInt32)), .unset] [(.int (((((t2 / st) - ((t2 / st) / (nn.toInt64)) * (nn.toInt64)).toInt32) + kx) - (((t1 / st) - ((t1 / st) / (nn.toInt64)) * (nn.toInt64)).toInt32)))])) _
      refine XS.iload X41.here hx rfl (hb hby at_205) rfl ?_
      show Steps p.tables e below (T41.setTop (mkF m 207 #[.val (.long q0), .second, .val (.int p1), .val (.long q2), .second, .val (.long q3), .second, .val (.int p4), .val (.long st), .second, .val (.int nn), .val (.long (q2 &&& (9223372036854775807 : Int64))), .second, .val (.long (q3 &&& (9223372036854775807 : Int64))), .second, .val (.long t1), .second, .val (.long t2), .second, .val (.int kx), .val (.ref b9), .val (.ref b10), .val (.ref got), .val (.int (((t1 / st) - ((t1 / st) / (nn.toInt64)) * (nn.toInt64)).toInt32)), .val (.int (((t2 / st) - ((t2 / st) / (nn.toInt64)) * (nn.toInt64)).toInt32)), .unset] [(.int nn), (.int (((((t2 / st) - ((t2 / st) / (nn.toInt64)) * (nn.toInt64)).toInt32) + kx) - (((t1 / st) - ((t1 / st) / (nn.toInt64)) * (nn.toInt64)).toInt32)))])) _
      refine XS.iadd X41.here hx rfl (hb hby at_207) rfl ?_
      show Steps p.tables e below (T41.setTop (mkF m 208 #[.val (.long q0), .second, .val (.int p1), .val (.long q2), .second, .val (.long q3), .second, .val (.int p4), .val (.long st), .second, .val (.int nn), .val (.long (q2 &&& (9223372036854775807 : Int64))), .second, .val (.long (q3 &&& (9223372036854775807 : Int64))), .second, .val (.long t1), .second, .val (.long t2), .second, .val (.int kx), .val (.ref b9), .val (.ref b10), .val (.ref got), .val (.int (((t1 / st) - ((t1 / st) / (nn.toInt64)) * (nn.toInt64)).toInt32)), .val (.int (((t2 / st) - ((t2 / st) / (nn.toInt64)) * (nn.toInt64)).toInt32)), .unset] [(.int ((((((t2 / st) - ((t2 / st) / (nn.toInt64)) * (nn.toInt64)).toInt32) + kx) - (((t1 / st) - ((t1 / st) / (nn.toInt64)) * (nn.toInt64)).toInt32)) + nn))])) _
      refine XS.iload X41.here hx rfl (hb hby at_208) rfl ?_
      show Steps p.tables e below (T41.setTop (mkF m 210 #[.val (.long q0), .second, .val (.int p1), .val (.long q2), .second, .val (.long q3), .second, .val (.int p4), .val (.long st), .second, .val (.int nn), .val (.long (q2 &&& (9223372036854775807 : Int64))), .second, .val (.long (q3 &&& (9223372036854775807 : Int64))), .second, .val (.long t1), .second, .val (.long t2), .second, .val (.int kx), .val (.ref b9), .val (.ref b10), .val (.ref got), .val (.int (((t1 / st) - ((t1 / st) / (nn.toInt64)) * (nn.toInt64)).toInt32)), .val (.int (((t2 / st) - ((t2 / st) / (nn.toInt64)) * (nn.toInt64)).toInt32)), .unset] [(.int nn), (.int ((((((t2 / st) - ((t2 / st) / (nn.toInt64)) * (nn.toInt64)).toInt32) + kx) - (((t1 / st) - ((t1 / st) / (nn.toInt64)) * (nn.toInt64)).toInt32)) + nn))])) _
      refine XS.irem X41.here hx rfl (hb hby at_210) rfl (own_nz32 hnn.1) ?_
      show Steps p.tables e below (T41.setTop (mkF m 211 #[.val (.long q0), .second, .val (.int p1), .val (.long q2), .second, .val (.long q3), .second, .val (.int p4), .val (.long st), .second, .val (.int nn), .val (.long (q2 &&& (9223372036854775807 : Int64))), .second, .val (.long (q3 &&& (9223372036854775807 : Int64))), .second, .val (.long t1), .second, .val (.long t2), .second, .val (.int kx), .val (.ref b9), .val (.ref b10), .val (.ref got), .val (.int (((t1 / st) - ((t1 / st) / (nn.toInt64)) * (nn.toInt64)).toInt32)), .val (.int (((t2 / st) - ((t2 / st) / (nn.toInt64)) * (nn.toInt64)).toInt32)), .unset] [(.int (((((((t2 / st) - ((t2 / st) / (nn.toInt64)) * (nn.toInt64)).toInt32) + kx) - (((t1 / st) - ((t1 / st) / (nn.toInt64)) * (nn.toInt64)).toInt32)) + nn) - (((((((t2 / st) - ((t2 / st) / (nn.toInt64)) * (nn.toInt64)).toInt32) + kx) - (((t1 / st) - ((t1 / st) / (nn.toInt64)) * (nn.toInt64)).toInt32)) + nn) / nn) * nn))])) _
      refine XS.istore X41.here hx rfl (hb hby at_211) rfl (l' := #[.val (.long q0), .second, .val (.int p1), .val (.long q2), .second, .val (.long q3), .second, .val (.int p4), .val (.long st), .second, .val (.int nn), .val (.long (q2 &&& (9223372036854775807 : Int64))), .second, .val (.long (q3 &&& (9223372036854775807 : Int64))), .second, .val (.long t1), .second, .val (.long t2), .second, .val (.int kx), .val (.ref b9), .val (.ref b10), .val (.ref got), .val (.int (((t1 / st) - ((t1 / st) / (nn.toInt64)) * (nn.toInt64)).toInt32)), .val (.int (((t2 / st) - ((t2 / st) / (nn.toInt64)) * (nn.toInt64)).toInt32)), .val (.int (((((((t2 / st) - ((t2 / st) / (nn.toInt64)) * (nn.toInt64)).toInt32) + kx) - (((t1 / st) - ((t1 / st) / (nn.toInt64)) * (nn.toInt64)).toInt32)) + nn) - (((((((t2 / st) - ((t2 / st) / (nn.toInt64)) * (nn.toInt64)).toInt32) + kx) - (((t1 / st) - ((t1 / st) / (nn.toInt64)) * (nn.toInt64)).toInt32)) + nn) / nn) * nn))]) rfl ?_
      exact kt
    obtain ⟨idx, hg_idx⟩ : ∃ z, z = (((((((t2 / st) - ((t2 / st) / (nn.toInt64)) * (nn.toInt64)).toInt32) + kx) - (((t1 / st) - ((t1 / st) / (nn.toInt64)) * (nn.toInt64)).toInt32)) + nn) - (((((((t2 / st) - ((t2 / st) / (nn.toInt64)) * (nn.toInt64)).toInt32) + kx) - (((t1 / st) - ((t1 / st) / (nn.toInt64)) * (nn.toInt64)).toInt32)) + nn) / nn) * nn) := ⟨_, rfl⟩
    rw [← hg_idx] at K42
    have hidI : idx.toInt = ((own_slot t2 st nn).toInt + kx.toInt - (own_slot t1 st nn).toInt + nn.toInt) % nn.toInt := by rw [hg_idx]; exact own_idxI hnn bs1 bs2 hkx
    have hid : 0 ≤ idx.toInt ∧ idx.toInt < nn.toInt := by rw [hidI]; exact ⟨Int.emod_nonneg _ (by omega), Int.emod_lt_of_pos _ (by omega)⟩
    obtain ⟨_, _, ⟨T43, L43, k43, n43⟩, -, X43, ⟨Lc43, hQ43, l43, y43, z43⟩, st43⟩ := Jvm.LawKit.callS X41 hx (y := (⟨"com/example/lachesis/lachesis/timer/WheelBucketPinLaw", "distinct", "([Lcom/example/lachesis/lachesis/timer/Bucket;I)Z"⟩ : MethodName)) hown (mvT hZ (hw _ (List.mem_of_getElem? (i := 56) rfl))) (mvT hZ (hw _ (List.mem_of_getElem? (i := 57) rfl))) (mvT hZ (hw _ (List.mem_of_getElem? (i := 58) rfl))) (mvT hZ (hw _ (List.mem_of_getElem? (i := 59) rfl))) (by decide) (backOf (W := 0) (rmD2 l Z a0 hw [] b9 nn k9 c0 c1 T40.heap n0 Zn V_b9 hk (by rw [hv_c1, hv_c0]; exact own_dis hbn11 hl_c1 hl_c0 (own_ixne hnn bs1 hq_c1 hq_c0 (by decide)))) hZ (hw _ (List.mem_of_getElem? (i := 59) rfl)) (hw _ (List.mem_of_getElem? (i := 58) rfl)) (by decide) (by decide)) (g := (mkF m 217 #[.val (.long q0), .second, .val (.int p1), .val (.long q2), .second, .val (.long q3), .second, .val (.int p4), .val (.long st), .second, .val (.int nn), .val (.long (q2 &&& (9223372036854775807 : Int64))), .second, .val (.long (q3 &&& (9223372036854775807 : Int64))), .second, .val (.long t1), .second, .val (.long t2), .second, .val (.int kx), .val (.ref b9), .val (.ref b10), .val (.ref got), .val (.int (((t1 / st) - ((t1 / st) / (nn.toInt64)) * (nn.toInt64)).toInt32)), .val (.int (((t2 / st) - ((t2 / st) / (nn.toInt64)) * (nn.toInt64)).toInt32)), .val (.int idx)] [(.int nn), (.ref b9)])) rfl (by rw [hml]; rfl) (argsL := [(.ref b9), (.int nn)]) (rest := []) (lenOf pd_8 rfl) rfl (by show 2 * 0 + _ ≤ _; exact Nat.le_of_eq rfl) (hb hby at_217) (fun _ _ => ⟨rfl, e41, (by decide : 8 + 0 ≤ _), (by decide : 35 + 0 ≤ _)⟩)
    dsimp only [Pt.U, Pt.locs, Pt.cells, Pt.slots] at X43 l43 y43 z43 st43 hQ43
    subst l43 y43 z43
    obtain ⟨rfl, N43q, e43q⟩ := hQ43
    have N43 := Fr.app N41 N43q
    have e43 : T43.heap = T40.heap := e43q
    have hc220 : ¬ ((1 : Int32) = (0 : Int32)) := (by decide)
    have Vq44 := V_b9
    obtain ⟨cl44, Ar44, q44, S44, N44z, H44, G44⟩ := Vq44
    have hin44 : ¬ (idx < 0 ∨ cl44.slots.size ≤ (idx).toNatClampNeg) := inb_of S44 ⟨own_ge0.mpr hid.1, by rw [Int32.lt_iff_toInt_lt]; have z : (5 : Int32).toInt = 5 := (by decide); omega⟩
    have hat44 : cl44.slots[(idx).toNatClampNeg]? = some (.ref got) := Has.at H44 hin44 (by
         have hi5 : idx.toInt = 0 ∨ idx.toInt = 1 := by omega
         rcases hi5 with hi5 | hi5
         · rw [show idx.toNatClampNeg = 0 by have z := own_nn (own_ge0.mpr hid.1); omega]
           show Value.ref c0 = Value.ref got
           rw [hv_c0, hv_got, own_hit (q := (0 : Int64)) hnn bs1 bs2 hkx hidI (by rw [hi5]; decide)]
         · rw [show idx.toNatClampNeg = 1 by have z := own_nn (own_ge0.mpr hid.1); omega]
           show Value.ref c1 = Value.ref got
           rw [hv_c1, hv_got, own_hit (q := (1 : Int64)) hnn bs1 bs2 hkx hidI (by rw [hi5]; decide)])
    obtain ⟨fs, hr, hrun, hended, hW, hsame⟩ := X43.leave (v := some (.int (1 : Int32))) (fun h => by rw [Bd.returns] at h; cases h) hlk
    refine ⟨_, _, K42 _ ?_, hrun, hended, _, _, rfl, ?_, ⟨_, rfl⟩, hW, hsame.mono (by decide) (by decide)⟩
    ·
      show Steps p.tables e below (T41.setTop (mkF m 213 #[.val (.long q0), .second, .val (.int p1), .val (.long q2), .second, .val (.long q3), .second, .val (.int p4), .val (.long st), .second, .val (.int nn), .val (.long (q2 &&& (9223372036854775807 : Int64))), .second, .val (.long (q3 &&& (9223372036854775807 : Int64))), .second, .val (.long t1), .second, .val (.long t2), .second, .val (.int kx), .val (.ref b9), .val (.ref b10), .val (.ref got), .val (.int (((t1 / st) - ((t1 / st) / (nn.toInt64)) * (nn.toInt64)).toInt32)), .val (.int (((t2 / st) - ((t2 / st) / (nn.toInt64)) * (nn.toInt64)).toInt32)), .val (.int idx)] [])) _
      refine XS.aload X41.here hx rfl (hb hby at_213) rfl rfl ?_
      show Steps p.tables e below (T41.setTop (mkF m 215 #[.val (.long q0), .second, .val (.int p1), .val (.long q2), .second, .val (.long q3), .second, .val (.int p4), .val (.long st), .second, .val (.int nn), .val (.long (q2 &&& (9223372036854775807 : Int64))), .second, .val (.long (q3 &&& (9223372036854775807 : Int64))), .second, .val (.long t1), .second, .val (.long t2), .second, .val (.int kx), .val (.ref b9), .val (.ref b10), .val (.ref got), .val (.int (((t1 / st) - ((t1 / st) / (nn.toInt64)) * (nn.toInt64)).toInt32)), .val (.int (((t2 / st) - ((t2 / st) / (nn.toInt64)) * (nn.toInt64)).toInt32)), .val (.int idx)] [(.ref b9)])) _
      refine XS.iload X41.here hx rfl (hb hby at_215) rfl ?_
      show Steps p.tables e below (T41.setTop (mkF m 217 #[.val (.long q0), .second, .val (.int p1), .val (.long q2), .second, .val (.long q3), .second, .val (.int p4), .val (.long st), .second, .val (.int nn), .val (.long (q2 &&& (9223372036854775807 : Int64))), .second, .val (.long (q3 &&& (9223372036854775807 : Int64))), .second, .val (.long t1), .second, .val (.long t2), .second, .val (.int kx), .val (.ref b9), .val (.ref b10), .val (.ref got), .val (.int (((t1 / st) - ((t1 / st) / (nn.toInt64)) * (nn.toInt64)).toInt32)), .val (.int (((t2 / st) - ((t2 / st) / (nn.toInt64)) * (nn.toInt64)).toInt32)), .val (.int idx)] [(.int nn), (.ref b9)])) _
      refine st43 _ ?_
      show Steps p.tables e below (T43.setTop (mkF m 220 #[.val (.long q0), .second, .val (.int p1), .val (.long q2), .second, .val (.long q3), .second, .val (.int p4), .val (.long st), .second, .val (.int nn), .val (.long (q2 &&& (9223372036854775807 : Int64))), .second, .val (.long (q3 &&& (9223372036854775807 : Int64))), .second, .val (.long t1), .second, .val (.long t2), .second, .val (.int kx), .val (.ref b9), .val (.ref b10), .val (.ref got), .val (.int (((t1 / st) - ((t1 / st) / (nn.toInt64)) * (nn.toInt64)).toInt32)), .val (.int (((t2 / st) - ((t2 / st) / (nn.toInt64)) * (nn.toInt64)).toInt32)), .val (.int idx)] [(.int (1 : Int32))])) _
      refine XS.ifNo X43.here hx rfl (hb hby at_220) rfl ((if0 _ _).trans (feq hc220).1) ?_
      show Steps p.tables e below (T43.setTop (mkF m 223 #[.val (.long q0), .second, .val (.int p1), .val (.long q2), .second, .val (.long q3), .second, .val (.int p4), .val (.long st), .second, .val (.int nn), .val (.long (q2 &&& (9223372036854775807 : Int64))), .second, .val (.long (q3 &&& (9223372036854775807 : Int64))), .second, .val (.long t1), .second, .val (.long t2), .second, .val (.int kx), .val (.ref b9), .val (.ref b10), .val (.ref got), .val (.int (((t1 / st) - ((t1 / st) / (nn.toInt64)) * (nn.toInt64)).toInt32)), .val (.int (((t2 / st) - ((t2 / st) / (nn.toInt64)) * (nn.toInt64)).toInt32)), .val (.int idx)] [])) _
      refine XS.aload X43.here hx rfl (hb hby at_223) rfl rfl ?_
      show Steps p.tables e below (T43.setTop (mkF m 225 #[.val (.long q0), .second, .val (.int p1), .val (.long q2), .second, .val (.long q3), .second, .val (.int p4), .val (.long st), .second, .val (.int nn), .val (.long (q2 &&& (9223372036854775807 : Int64))), .second, .val (.long (q3 &&& (9223372036854775807 : Int64))), .second, .val (.long t1), .second, .val (.long t2), .second, .val (.int kx), .val (.ref b9), .val (.ref b10), .val (.ref got), .val (.int (((t1 / st) - ((t1 / st) / (nn.toInt64)) * (nn.toInt64)).toInt32)), .val (.int (((t2 / st) - ((t2 / st) / (nn.toInt64)) * (nn.toInt64)).toInt32)), .val (.int idx)] [(.ref got)])) _
      refine XS.aload X43.here hx rfl (hb hby at_225) rfl rfl ?_
      show Steps p.tables e below (T43.setTop (mkF m 227 #[.val (.long q0), .second, .val (.int p1), .val (.long q2), .second, .val (.long q3), .second, .val (.int p4), .val (.long st), .second, .val (.int nn), .val (.long (q2 &&& (9223372036854775807 : Int64))), .second, .val (.long (q3 &&& (9223372036854775807 : Int64))), .second, .val (.long t1), .second, .val (.long t2), .second, .val (.int kx), .val (.ref b9), .val (.ref b10), .val (.ref got), .val (.int (((t1 / st) - ((t1 / st) / (nn.toInt64)) * (nn.toInt64)).toInt32)), .val (.int (((t2 / st) - ((t2 / st) / (nn.toInt64)) * (nn.toInt64)).toInt32)), .val (.int idx)] [(.ref b9), (.ref got)])) _
      refine XS.iload X43.here hx rfl (hb hby at_227) rfl ?_
      show Steps p.tables e below (T43.setTop (mkF m 229 #[.val (.long q0), .second, .val (.int p1), .val (.long q2), .second, .val (.long q3), .second, .val (.int p4), .val (.long st), .second, .val (.int nn), .val (.long (q2 &&& (9223372036854775807 : Int64))), .second, .val (.long (q3 &&& (9223372036854775807 : Int64))), .second, .val (.long t1), .second, .val (.long t2), .second, .val (.int kx), .val (.ref b9), .val (.ref b10), .val (.ref got), .val (.int (((t1 / st) - ((t1 / st) / (nn.toInt64)) * (nn.toInt64)).toInt32)), .val (.int (((t2 / st) - ((t2 / st) / (nn.toInt64)) * (nn.toInt64)).toInt32)), .val (.int idx)] [(.int idx), (.ref b9), (.ref got)])) _
      refine X43.aaload hx (j := idx) (v := (.ref got)) (by rw [e43]; exact Ar44.1) (State.isArrayOf_alike hZ.alike Ar44.2.1) rfl Ar44.2.2 hin44 hat44 (g := (mkF m 229 #[.val (.long q0), .second, .val (.int p1), .val (.long q2), .second, .val (.long q3), .second, .val (.int p4), .val (.long st), .second, .val (.int nn), .val (.long (q2 &&& (9223372036854775807 : Int64))), .second, .val (.long (q3 &&& (9223372036854775807 : Int64))), .second, .val (.long t1), .second, .val (.long t2), .second, .val (.int kx), .val (.ref b9), .val (.ref b10), .val (.ref got), .val (.int (((t1 / st) - ((t1 / st) / (nn.toInt64)) * (nn.toInt64)).toInt32)), .val (.int (((t2 / st) - ((t2 / st) / (nn.toInt64)) * (nn.toInt64)).toInt32)), .val (.int idx)] [(.int idx), (.ref b9), (.ref got)])) rfl rfl (hb hby at_229) _ ?_
      show Steps p.tables e below (T43.setTop (mkF m 230 #[.val (.long q0), .second, .val (.int p1), .val (.long q2), .second, .val (.long q3), .second, .val (.int p4), .val (.long st), .second, .val (.int nn), .val (.long (q2 &&& (9223372036854775807 : Int64))), .second, .val (.long (q3 &&& (9223372036854775807 : Int64))), .second, .val (.long t1), .second, .val (.long t2), .second, .val (.int kx), .val (.ref b9), .val (.ref b10), .val (.ref got), .val (.int (((t1 / st) - ((t1 / st) / (nn.toInt64)) * (nn.toInt64)).toInt32)), .val (.int (((t2 / st) - ((t2 / st) / (nn.toInt64)) * (nn.toInt64)).toInt32)), .val (.int idx)] [(.ref got), (.ref got)])) _
      refine Jvm.RoadKit.acmp (g := (mkF m 230 #[.val (.long q0), .second, .val (.int p1), .val (.long q2), .second, .val (.long q3), .second, .val (.int p4), .val (.long st), .second, .val (.int nn), .val (.long (q2 &&& (9223372036854775807 : Int64))), .second, .val (.long (q3 &&& (9223372036854775807 : Int64))), .second, .val (.long t1), .second, .val (.long t2), .second, .val (.int kx), .val (.ref b9), .val (.ref b10), .val (.ref got), .val (.int (((t1 / st) - ((t1 / st) / (nn.toInt64)) * (nn.toInt64)).toInt32)), .val (.int (((t2 / st) - ((t2 / st) / (nn.toInt64)) * (nn.toInt64)).toInt32)), .val (.int idx)] [(.ref got), (.ref got)])) X43 hx rfl rfl rfl (pc0 := 230) (pc' := 233) (same := true) rfl (hb hby at_230) rfl (decide_eq_true rfl) (by decide) (by decide) ?_
      show Steps p.tables e below (T43.setTop (mkF m 233 #[.val (.long q0), .second, .val (.int p1), .val (.long q2), .second, .val (.long q3), .second, .val (.int p4), .val (.long st), .second, .val (.int nn), .val (.long (q2 &&& (9223372036854775807 : Int64))), .second, .val (.long (q3 &&& (9223372036854775807 : Int64))), .second, .val (.long t1), .second, .val (.long t2), .second, .val (.int kx), .val (.ref b9), .val (.ref b10), .val (.ref got), .val (.int (((t1 / st) - ((t1 / st) / (nn.toInt64)) * (nn.toInt64)).toInt32)), .val (.int (((t2 / st) - ((t2 / st) / (nn.toInt64)) * (nn.toInt64)).toInt32)), .val (.int idx)] [])) _
      refine XS.iconst X43.here hx rfl (hb hby at_233) ?_
      show Steps p.tables e below (T43.setTop (mkF m 234 #[.val (.long q0), .second, .val (.int p1), .val (.long q2), .second, .val (.long q3), .second, .val (.int p4), .val (.long st), .second, .val (.int nn), .val (.long (q2 &&& (9223372036854775807 : Int64))), .second, .val (.long (q3 &&& (9223372036854775807 : Int64))), .second, .val (.long t1), .second, .val (.long t2), .second, .val (.int kx), .val (.ref b9), .val (.ref b10), .val (.ref got), .val (.int (((t1 / st) - ((t1 / st) / (nn.toInt64)) * (nn.toInt64)).toInt32)), .val (.int (((t2 / st) - ((t2 / st) / (nn.toInt64)) * (nn.toInt64)).toInt32)), .val (.int idx)] [(.int (1 : Int32))])) _
      refine XS.goto X43.here hx rfl (pc0 := 234) (pc' := 238) rfl (hb hby at_234) (by decide) (by decide) ?_
      show Steps p.tables e below (T43.setTop (mkF m 238 #[.val (.long q0), .second, .val (.int p1), .val (.long q2), .second, .val (.long q3), .second, .val (.int p4), .val (.long st), .second, .val (.int nn), .val (.long (q2 &&& (9223372036854775807 : Int64))), .second, .val (.long (q3 &&& (9223372036854775807 : Int64))), .second, .val (.long t1), .second, .val (.long t2), .second, .val (.int kx), .val (.ref b9), .val (.ref b10), .val (.ref got), .val (.int (((t1 / st) - ((t1 / st) / (nn.toInt64)) * (nn.toInt64)).toInt32)), .val (.int (((t2 / st) - ((t2 / st) / (nn.toInt64)) * (nn.toInt64)).toInt32)), .val (.int idx)] [(.int (1 : Int32))])) _
      exact retN X43 hx (t := .boolean) Bd.returns (by simp) (hb hby at_238) hr
    ·
      show Q_rm0 Z q0 p1 q2 q3 p4 w_NONE h0 n0 _ T43.heap _
      rw [e43]
      exact ⟨rfl, N43⟩
set_option maxRecDepth 65536 in
set_option maxHeartbeats 40000000 in
theorem comes_1 {Post : Tables → Env → Array Value → State → Outcome → State → Prop} (hpost : ∀ tb e args s v u, (limb_1_1.after args s (.returned v) u = true ∧ limb_1_2.after args s (.returned v) u = true ∧ True) → FrameEnd s (.returned v) u (Jvm.fieldLocs frame_1_writes args s ++ Jvm.arrayLocs frame_1_arrays args s ++ Jvm.staticLocs frame_1_statics s) 24 192 → Post tb e args s (.returned v) u) :
    ArmFor flags0 classFile x code maxLocals ret World_1 tables_1 room_1 Calls_1 rest_1 Pre_1 Post := by
  intro l hfl _ _ p e ha hc hk s m args below hf hA hF happ hP
  obtain ⟨hcalls, hrest, hpre⟩ := hP
  obtain ⟨-, -, -, hnamed, -, -, -, hat⟩ := (Spec.applies_iff hf).mp happ
  obtain ⟨hg, hn⟩ := and_e (Cond.before_iff.mp (show (Jvm.Cond.and given_1 narrow_1).before args s = true from hpre))
  obtain ⟨hg0, hg⟩ := and_e hg
  obtain ⟨ga0, hg⟩ := and_e hg
  obtain ⟨ga1, hg⟩ := and_e hg
  obtain ⟨ga2, hg⟩ := and_e hg
  obtain ⟨ga3, hg⟩ := and_e hg
  have ga4 := hg
  obtain ⟨w0, w1, w2, w3, w4, rfl⟩ : ∃ w0 w1 w2 w3 w4 : Value, args = #[w0, w1, w2, w3, w4] := by
    have hs : args.size = 5 := by simpa [Cond.value, given_1] using hg0
    obtain ⟨L⟩ := args
    match L, hs with
    | [w0, w1, w2, w3, w4], _ => exact ⟨w0, w1, w2, w3, w4, rfl⟩
  have hw := fun d (hd : d ∈ tables_1) => atoms_spec (ws := Jvm.Cond.code x code maxLocals ret :: tables_1) hat d (List.mem_cons_of_mem _ hd)
  have hfit : Fit s := fun {y c} hc i hi => by
    obtain ⟨ha, rfl⟩ := Array.getElem?_eq_some_iff.mp hc
    have q := List.all_eq_true.mp ((Array.all_eq_true_iff_forall_mem.mp hF) _ (Array.getElem_mem ha)) i (List.mem_range.mpr hi)
    simpa [Array.getElem?_eq_getElem hi] using q
  obtain ⟨i0, ei0⟩ := isL_v ga0
  obtain rfl : w0 = (.long i0) := Option.some.inj ei0
  obtain ⟨i1, ei1⟩ := is_v ga1
  obtain rfl : w1 = (.int i1) := Option.some.inj ei1
  obtain ⟨i2, ei2⟩ := isL_v ga2
  obtain rfl : w2 = (.long i2) := Option.some.inj ei2
  obtain ⟨i3, ei3⟩ := isL_v ga3
  obtain rfl : w3 = (.long i3) := Option.some.inj ei3
  obtain ⟨i4, ei4⟩ := is_v ga4
  obtain rfl : w4 = (.int i4) := Option.some.inj ei4
  obtain ⟨cn0, hn⟩ := and_e hn
  obtain ⟨w_NONE, ev_NONE⟩ := arr_v cn0
  have S_NONE : Sta s s.heap "com/example/lachesis/lachesis/timer/Bucket" "NONE" "[Lcom/example/lachesis/lachesis/timer/TimerEntry;" (.ref w_NONE) := Sta.start ev_NONE (Or.inr ⟨(hw _ (List.mem_of_getElem? (i := 29) rfl)), (hw _ (List.mem_of_getElem? (i := 35) rfl))⟩)
  obtain ⟨n, o, h1, h2, h3, _, L, rfl, ⟨rfl, N⟩, hq⟩ := rm0 l s _ hw tables_1 i0 i1 i2 i3 i4 w_NONE s.heap s.heap.size (Nat.le_refl _) S_NONE (Old.start s) p e ha hc hk s m _ below hf ((Spec.applies_iff_loose hf).mp happ).1 ⟨rfl, State.Warmed39.refl s, rfl⟩ trivial
  refine ⟨n, _, h1, h2, h3, hpost _ _ _ _ _ _ ⟨Cond.after_iff.mpr rfl, Cond.after_iff.mpr (eq_i res_at (Term.int_eval (1)) rfl), trivial⟩ ⟨hq.1, hq.2.1, (hq.2.2.sift fun y hy => Or.inr (N y hy)).mono (by decide) (by decide)⟩⟩
theorem main_1_1 : Claimed_1_1 := comes_1 fun _ _ _ _ _ _ h hF => ⟨h.1, hF⟩
theorem main_1_2 : Claimed_1_2 := comes_1 fun _ _ _ _ _ _ h hF => ⟨h.2.1, hF⟩
end Jvm.Pilot.@@N@@
namespace Jvm.Pilot.@@N@@
open Jvm Jvm.ClassFile Sem Op Lib Jvm.Free Jvm.Stand Jvm.Pilot.@@N@@.Jvm.D
/-! MADE BY PROGRAM (witnessworld.py) out of the Statement's table words and the real class files: 14 classes; the members and pool entries that the words name. The judged class is class 1, her method 2. -/
namespace start1
open Jvm.ClassFile
def u (s : String) : CpInfo := .utf8 (stringToUtf16 s)
/-- a pool by its gaps: so many unusable entries, then the entry; so many at the end -/
def gap : Nat → List CpInfo → List CpInfo
  | 0, r => r
  | n + 1, r => .unusable :: gap n r
def poolList (es : List (Nat × CpInfo)) (last : Nat) : List CpInfo := es.foldr (fun e r => gap e.1 (e.2 :: r)) (gap last [])
def pool (es : List (Nat × CpInfo)) (last : Nat) : Array CpInfo := ⟨poolList es last⟩
def fileOf (pool : Array CpInfo) (this : Nat) (attrs : Array Attribute := #[]) (ms : Array MethodInfo := #[]) (fl : Nat := 33) (sup : Nat := 0) (ifs : Array Nat := #[]) (fds : Array FieldInfo := #[]) : ClassFile where
  minorVersion := 0
  majorVersion := 65
  constantPool := pool
  accessFlags := fl
  thisClass := this
  superClass := sup
  interfaces := ifs
  fields := fds
  methods := ms
  attributes := attrs
def plain (name : String) (sup : Option ClassId) : Class where
  name := name
  kind := .ordinary
  loader := none
  accessFlags := 33
  super := sup
  interfaces := #[]
  cf := none
  fields := #[]
  methods := #[]
  instanceTypes := #[]
  staticTypes := #[]
  resolved := #[]
  callSites := []
  init := .initialized
  statics := none
  mirror := none

def pool0 : Array CpInfo := pool [(5, u "<init>"), (0, u "()V"), (1, .class_ 10), (1, u "java/lang/Object")] 113

def k0c0 : Code := { maxStack := 0, maxLocals := 1, code := object_method_1_code, exceptionTable := #[], attributes := #[] }
def k0m0 : Method := { name := "<init>", desc := "()V", sig := { parameters := [], returnType := none }, accessFlags := 1, code := some k0c0 }
/-- java/lang/Object -/
def k0 : Class := { plain "java/lang/Object" none with
  accessFlags := 33
  interfaces := #[]
  cf := some (fileOf pool0 8 #[] #[{ accessFlags := 1, nameIndex := 5, descriptorIndex := 6, attributes := #[] }] 33 0 #[] #[])
  fields := #[]
  methods := #[k0m0]
  instanceTypes := #[]
  staticTypes := #[]
  resolved := Array.replicate 124 none
  statics := none }

def pool1 : Array CpInfo := pool [(2, .class_ 4), (1, u "java/lang/Object"), (0, u "<init>"), (0, u "()V"), (2, .long 9223372036854775807), (1, .methodref 12 13), (0, .class_ 14), (0, .nameAndType 15 16), (0, u "java/lang/Math"), (0, u "max"), (0, u "(JJ)J"), (0, .methodref 12 18), (0, .nameAndType 19 16), (0, u "min"), (0, .integer 2147483647), (0, .class_ 22), (0, u "com/example/lachesis/lachesis/timer/Bucket"), (0, .class_ 24), (0, u "com/example/lachesis/lachesis/timer/Wheel"), (0, .methodref 23 26), (0, .nameAndType 5 27), (0, u "(JIJ)V"), (0, .methodref 23 29), (0, .nameAndType 30 31), (0, u "bucket"), (0, u "(J)Lcom/example/lachesis/lachesis/timer/Bucket;"), (0, .long 2), (1, .long 3), (1, .long 4), (1, .methodref 23 39), (0, .nameAndType 40 41), (0, u "moveTo"), (0, u "(J)V"), (0, .methodref 43 44), (0, .class_ 45), (0, .nameAndType 46 47), (0, u "com/example/lachesis/lachesis/timer/WheelBucketPinLaw"), (0, u "distinct"), (0, u "([Lcom/example/lachesis/lachesis/timer/Bucket;I)Z"), (3, u "law"), (0, u "(JIJJI)Z")] 4

def k1m0 : Method := { name := "<init>", desc := "()V", sig := { parameters := [], returnType := none }, accessFlags := 2, code := none }
def k1c1 : Code := { maxStack := 3, maxLocals := 3, code := method_2_code, exceptionTable := #[], attributes := #[] }
def k1m1 : Method := { name := "distinct", desc := "([Lcom/example/lachesis/lachesis/timer/Bucket;I)Z", sig := { parameters := [(.array (.object "com/example/lachesis/lachesis/timer/Bucket")), .int], returnType := some .boolean }, accessFlags := 10, code := some k1c1 }
def k1c2 : Code := { maxStack := 7, maxLocals := 26, code := code, exceptionTable := #[], attributes := #[] }
def k1m2 : Method := { name := "law", desc := "(JIJJI)Z", sig := { parameters := [.long, .int, .long, .long, .int], returnType := some .boolean }, accessFlags := 9, code := some k1c2 }
/-- com/example/lachesis/lachesis/timer/WheelBucketPinLaw -/
def k1 : Class := { plain "com/example/lachesis/lachesis/timer/WheelBucketPinLaw" (some 0) with
  accessFlags := 49
  interfaces := #[]
  cf := some (fileOf pool1 43 #[] #[{ accessFlags := 2, nameIndex := 5, descriptorIndex := 6, attributes := #[] }, { accessFlags := 10, nameIndex := 46, descriptorIndex := 47, attributes := #[] }, { accessFlags := 9, nameIndex := 51, descriptorIndex := 52, attributes := #[] }] 49 2 #[] #[])
  fields := #[]
  methods := #[k1m0, k1m1, k1m2]
  instanceTypes := #[]
  staticTypes := #[]
  resolved := Array.replicate 57 none
  statics := none }

def pool2 : Array CpInfo := pool [(1, .class_ 2), (0, u "java/lang/Math"), (1, .class_ 6), (1, u "java/lang/Object"), (0, u "<init>"), (0, u "()V"), (89, .class_ 100), (1, u "java/lang/Math$RandomNumberGeneratorHolder"), (20, u "(JJ)J"), (50, u "negativeZeroFloatBits"), (0, u "J"), (2, u "negativeZeroDoubleBits"), (21, u "max"), (2, u "min"), (43, u "$assertionsDisabled"), (0, u "Z"), (91, u "twoToTheDoubleScaleDown"), (0, u "D"), (4, u "twoToTheDoubleScaleUp"), (9, u "E"), (3, u "PI"), (2, u "TAU"), (2, u "DEGREES_TO_RADIANS"), (0, u "RADIANS_TO_DEGREES")] 94

def k2m0 : Method := { name := "<init>", desc := "()V", sig := { parameters := [], returnType := none }, accessFlags := 2, code := none }
def k2c1 : Code := { maxStack := 4, maxLocals := 4, code := jdk_29_method_66_code, exceptionTable := #[], attributes := #[] }
def k2m1 : Method := { name := "max", desc := "(JJ)J", sig := { parameters := [.long, .long], returnType := some .long }, accessFlags := 9, code := some k2c1 }
def k2c2 : Code := { maxStack := 4, maxLocals := 4, code := jdk_29_method_70_code, exceptionTable := #[], attributes := #[] }
def k2m2 : Method := { name := "min", desc := "(JJ)J", sig := { parameters := [.long, .long], returnType := some .long }, accessFlags := 9, code := some k2c2 }
/-- java/lang/Math -/
def k2 : Class := { plain "java/lang/Math" (some 0) with
  accessFlags := 49
  interfaces := #[]
  cf := some (fileOf pool2 1 #[.nestMembers #[98]] #[{ accessFlags := 2, nameIndex := 7, descriptorIndex := 8, attributes := #[] }, { accessFlags := 9, nameIndex := 198, descriptorIndex := 121, attributes := #[] }, { accessFlags := 9, nameIndex := 201, descriptorIndex := 121, attributes := #[] }] 49 4 #[] #[{ accessFlags := 25, nameIndex := 354, descriptorIndex := 339, attributes := #[] }, { accessFlags := 25, nameIndex := 358, descriptorIndex := 339, attributes := #[] }, { accessFlags := 25, nameIndex := 361, descriptorIndex := 339, attributes := #[] }, { accessFlags := 26, nameIndex := 364, descriptorIndex := 339, attributes := #[] }, { accessFlags := 26, nameIndex := 365, descriptorIndex := 339, attributes := #[] }, { accessFlags := 26, nameIndex := 172, descriptorIndex := 173, attributes := #[] }, { accessFlags := 26, nameIndex := 176, descriptorIndex := 173, attributes := #[] }, { accessFlags := 8, nameIndex := 344, descriptorIndex := 339, attributes := #[] }, { accessFlags := 8, nameIndex := 338, descriptorIndex := 339, attributes := #[] }, { accessFlags := 4120, nameIndex := 245, descriptorIndex := 246, attributes := #[] }])
  fields := #[{ name := "E", type := .double, accessFlags := 25, slot := 0, constantValue := 0 }, { name := "PI", type := .double, accessFlags := 25, slot := 1, constantValue := 0 }, { name := "TAU", type := .double, accessFlags := 25, slot := 2, constantValue := 0 }, { name := "DEGREES_TO_RADIANS", type := .double, accessFlags := 26, slot := 3, constantValue := 0 }, { name := "RADIANS_TO_DEGREES", type := .double, accessFlags := 26, slot := 4, constantValue := 0 }, { name := "negativeZeroFloatBits", type := .long, accessFlags := 26, slot := 5, constantValue := 0 }, { name := "negativeZeroDoubleBits", type := .long, accessFlags := 26, slot := 6, constantValue := 0 }, { name := "twoToTheDoubleScaleUp", type := .double, accessFlags := 8, slot := 7, constantValue := 0 }, { name := "twoToTheDoubleScaleDown", type := .double, accessFlags := 8, slot := 8, constantValue := 0 }, { name := "$assertionsDisabled", type := .boolean, accessFlags := 4120, slot := 9, constantValue := 0 }]
  methods := #[k2m0, k2m1, k2m2]
  instanceTypes := #[]
  staticTypes := #[.double, .double, .double, .double, .double, .long, .long, .double, .double, .boolean]
  resolved := Array.replicate 460 none
  statics := none }

def pool3 : Array CpInfo := pool [(1, .methodref 2 3), (0, .class_ 4), (0, .nameAndType 5 6), (0, u "java/lang/Object"), (0, u "<init>"), (0, u "()V"), (0, .fieldref 8 9), (0, .class_ 10), (0, .nameAndType 11 12), (0, u "com/example/lachesis/lachesis/timer/Bucket"), (0, u "NONE"), (0, u "[Lcom/example/lachesis/lachesis/timer/TimerEntry;"), (0, .fieldref 8 14), (0, .nameAndType 15 12), (0, u "entries"), (2, u "size"), (0, u "I"), (23, u "SMALLEST"), (2, u "fireTick"), (0, u "J"), (0, u "queued"), (0, u "Z")] 13

def k3c0 : Code := { maxStack := 2, maxLocals := 1, code := prog_29_method_1_code, exceptionTable := #[], attributes := #[] }
def k3m0 : Method := { name := "<init>", desc := "()V", sig := { parameters := [], returnType := none }, accessFlags := 0, code := some k3c0 }
/-- com/example/lachesis/lachesis/timer/Bucket -/
def k3 : Class := { plain "com/example/lachesis/lachesis/timer/Bucket" (some 0) with
  accessFlags := 32
  interfaces := #[]
  cf := some (fileOf pool3 8 #[] #[{ accessFlags := 0, nameIndex := 5, descriptorIndex := 6, attributes := #[] }] 32 2 #[] #[{ accessFlags := 26, nameIndex := 11, descriptorIndex := 12, attributes := #[] }, { accessFlags := 26, nameIndex := 43, descriptorIndex := 19, attributes := #[] }, { accessFlags := 0, nameIndex := 46, descriptorIndex := 47, attributes := #[] }, { accessFlags := 0, nameIndex := 48, descriptorIndex := 49, attributes := #[] }, { accessFlags := 2, nameIndex := 15, descriptorIndex := 12, attributes := #[] }, { accessFlags := 2, nameIndex := 18, descriptorIndex := 19, attributes := #[] }])
  fields := #[{ name := "NONE", type := (.array (.object "com/example/lachesis/lachesis/timer/TimerEntry")), accessFlags := 26, slot := 0, constantValue := 0 }, { name := "SMALLEST", type := .int, accessFlags := 26, slot := 1, constantValue := 0 }, { name := "fireTick", type := .long, accessFlags := 0, slot := 0, constantValue := 0 }, { name := "queued", type := .boolean, accessFlags := 0, slot := 1, constantValue := 0 }, { name := "entries", type := (.array (.object "com/example/lachesis/lachesis/timer/TimerEntry")), accessFlags := 2, slot := 2, constantValue := 0 }, { name := "size", type := .int, accessFlags := 2, slot := 3, constantValue := 0 }]
  methods := #[k3m0]
  instanceTypes := #[.long, .boolean, (.array (.object "com/example/lachesis/lachesis/timer/TimerEntry")), .int]
  staticTypes := #[(.array (.object "com/example/lachesis/lachesis/timer/TimerEntry")), .int]
  resolved := Array.replicate 63 none
  statics := some 0 }

def pool4 : Array CpInfo := pool [(1, .methodref 2 3), (0, .class_ 4), (0, .nameAndType 5 6), (0, u "java/lang/Object"), (0, u "<init>"), (0, u "()V"), (0, .fieldref 8 9), (0, .class_ 10), (0, .nameAndType 11 12), (0, u "com/example/lachesis/lachesis/timer/Wheel"), (0, u "slotTicks"), (0, u "J"), (2, .long 9223372036854775807), (1, .fieldref 8 18), (0, .nameAndType 19 12), (0, u "spanTicks"), (0, .class_ 21), (0, u "com/example/lachesis/lachesis/timer/Bucket"), (0, .fieldref 8 23), (0, .nameAndType 24 25), (0, u "buckets"), (0, u "[Lcom/example/lachesis/lachesis/timer/Bucket;"), (0, .methodref 20 3), (0, .methodref 8 28), (0, .nameAndType 29 30), (0, u "moveTo"), (0, u "(J)V"), (0, .fieldref 8 32), (0, .nameAndType 33 12), (0, u "slotStart"), (0, .fieldref 8 35), (0, .nameAndType 36 37), (0, u "slot"), (0, u "I"), (2, u "(JIJ)V"), (6, u "bucket"), (0, u "(J)Lcom/example/lachesis/lachesis/timer/Bucket;")] 4

def k4c0 : Code := { maxStack := 7, maxLocals := 7, code := prog_37_method_1_code, exceptionTable := #[], attributes := #[] }
def k4m0 : Method := { name := "<init>", desc := "(JIJ)V", sig := { parameters := [.long, .int, .long], returnType := none }, accessFlags := 0, code := some k4c0 }
def k4c1 : Code := { maxStack := 5, maxLocals := 5, code := prog_37_method_3_code, exceptionTable := #[], attributes := #[] }
def k4m1 : Method := { name := "moveTo", desc := "(J)V", sig := { parameters := [.long], returnType := none }, accessFlags := 0, code := some k4c1 }
def k4c2 : Code := { maxStack := 3, maxLocals := 4, code := prog_37_method_5_code, exceptionTable := #[], attributes := #[] }
def k4m2 : Method := { name := "bucket", desc := "(J)Lcom/example/lachesis/lachesis/timer/Bucket;", sig := { parameters := [.long], returnType := some (.object "com/example/lachesis/lachesis/timer/Bucket") }, accessFlags := 0, code := some k4c2 }
/-- com/example/lachesis/lachesis/timer/Wheel -/
def k4 : Class := { plain "com/example/lachesis/lachesis/timer/Wheel" (some 0) with
  accessFlags := 32
  interfaces := #[]
  cf := some (fileOf pool4 8 #[] #[{ accessFlags := 0, nameIndex := 5, descriptorIndex := 40, attributes := #[] }, { accessFlags := 0, nameIndex := 29, descriptorIndex := 30, attributes := #[] }, { accessFlags := 0, nameIndex := 47, descriptorIndex := 48, attributes := #[] }] 32 2 #[] #[{ accessFlags := 18, nameIndex := 11, descriptorIndex := 12, attributes := #[] }, { accessFlags := 18, nameIndex := 19, descriptorIndex := 12, attributes := #[] }, { accessFlags := 18, nameIndex := 24, descriptorIndex := 25, attributes := #[] }, { accessFlags := 2, nameIndex := 33, descriptorIndex := 12, attributes := #[] }, { accessFlags := 2, nameIndex := 36, descriptorIndex := 37, attributes := #[] }])
  fields := #[{ name := "slotTicks", type := .long, accessFlags := 18, slot := 0, constantValue := 0 }, { name := "spanTicks", type := .long, accessFlags := 18, slot := 1, constantValue := 0 }, { name := "buckets", type := (.array (.object "com/example/lachesis/lachesis/timer/Bucket")), accessFlags := 18, slot := 2, constantValue := 0 }, { name := "slotStart", type := .long, accessFlags := 2, slot := 3, constantValue := 0 }, { name := "slot", type := .int, accessFlags := 2, slot := 4, constantValue := 0 }]
  methods := #[k4m0, k4m1, k4m2]
  instanceTypes := #[.long, .long, (.array (.object "com/example/lachesis/lachesis/timer/Bucket")), .long, .int]
  staticTypes := #[]
  resolved := Array.replicate 53 none
  statics := none }

def pool5 : Array CpInfo := pool [(2, .class_ 4), (1, u "java/lang/Object"), (0, u "<init>"), (0, u "()V"), (1, .class_ 10), (1, u "com/example/lachesis/lachesis/timer/TimerEntry"), (0, u "state"), (0, u "I"), (2, u "STATE"), (0, u "Ljava/lang/invoke/VarHandle;"), (8, u "timer"), (0, u "Lcom/example/lachesis/lachesis/timer/Timer;"), (7, u "TIMER"), (37, u "NEW"), (2, u "PENDING"), (1, u "WITHDRAWN"), (1, u "RUN"), (1, u "dueTick"), (0, u "J"), (0, u "next"), (0, u "Lcom/example/lachesis/lachesis/timer/TimerEntry;")] 15

def k5m0 : Method := { name := "<init>", desc := "()V", sig := { parameters := [], returnType := none }, accessFlags := 4, code := none }
/-- com/example/lachesis/lachesis/timer/TimerEntry -/
def k5 : Class := { plain "com/example/lachesis/lachesis/timer/TimerEntry" (some 0) with
  accessFlags := 1057
  interfaces := #[]
  cf := some (fileOf pool5 8 #[] #[{ accessFlags := 4, nameIndex := 5, descriptorIndex := 6, attributes := #[] }] 1057 2 #[] #[{ accessFlags := 26, nameIndex := 72, descriptorIndex := 12, attributes := #[] }, { accessFlags := 26, nameIndex := 75, descriptorIndex := 12, attributes := #[] }, { accessFlags := 26, nameIndex := 77, descriptorIndex := 12, attributes := #[] }, { accessFlags := 26, nameIndex := 79, descriptorIndex := 12, attributes := #[] }, { accessFlags := 26, nameIndex := 15, descriptorIndex := 16, attributes := #[] }, { accessFlags := 26, nameIndex := 34, descriptorIndex := 16, attributes := #[] }, { accessFlags := 66, nameIndex := 11, descriptorIndex := 12, attributes := #[] }, { accessFlags := 66, nameIndex := 25, descriptorIndex := 26, attributes := #[] }, { accessFlags := 0, nameIndex := 81, descriptorIndex := 82, attributes := #[] }, { accessFlags := 0, nameIndex := 83, descriptorIndex := 84, attributes := #[] }])
  fields := #[{ name := "NEW", type := .int, accessFlags := 26, slot := 0, constantValue := 0 }, { name := "PENDING", type := .int, accessFlags := 26, slot := 1, constantValue := 0 }, { name := "WITHDRAWN", type := .int, accessFlags := 26, slot := 2, constantValue := 0 }, { name := "RUN", type := .int, accessFlags := 26, slot := 3, constantValue := 0 }, { name := "STATE", type := (.object "java/lang/invoke/VarHandle"), accessFlags := 26, slot := 4, constantValue := 0 }, { name := "TIMER", type := (.object "java/lang/invoke/VarHandle"), accessFlags := 26, slot := 5, constantValue := 0 }, { name := "state", type := .int, accessFlags := 66, slot := 0, constantValue := 0 }, { name := "timer", type := (.object "com/example/lachesis/lachesis/timer/Timer"), accessFlags := 66, slot := 1, constantValue := 0 }, { name := "dueTick", type := .long, accessFlags := 0, slot := 2, constantValue := 0 }, { name := "next", type := (.object "com/example/lachesis/lachesis/timer/TimerEntry"), accessFlags := 0, slot := 3, constantValue := 0 }]
  methods := #[k5m0]
  instanceTypes := #[.int, (.object "com/example/lachesis/lachesis/timer/Timer"), .long, (.object "com/example/lachesis/lachesis/timer/TimerEntry")]
  staticTypes := #[.int, .int, .int, .int, (.object "java/lang/invoke/VarHandle"), (.object "java/lang/invoke/VarHandle")]
  resolved := Array.replicate 100 none
  statics := none }

def pool6 : Array CpInfo := pool [(1, u "java/lang/Cloneable"), (0, .class_ 1), (0, u "java/lang/Object"), (0, .class_ 3)] 3

/-- java/lang/Cloneable -/
def k6 : Class := { plain "java/lang/Cloneable" (some 0) with
  accessFlags := 1537
  interfaces := #[]
  cf := some (fileOf pool6 2 #[] #[] 1537 4 #[] #[])
  fields := #[]
  methods := #[]
  instanceTypes := #[]
  staticTypes := #[]
  resolved := Array.replicate 8 none
  statics := none }

def pool7 : Array CpInfo := pool [(1, u "java/io/Serializable"), (0, .class_ 1), (0, u "java/lang/Object"), (0, .class_ 3)] 3

/-- java/io/Serializable -/
def k7 : Class := { plain "java/io/Serializable" (some 0) with
  accessFlags := 1537
  interfaces := #[]
  cf := some (fileOf pool7 2 #[] #[] 1537 4 #[] #[])
  fields := #[]
  methods := #[]
  instanceTypes := #[]
  staticTypes := #[]
  resolved := Array.replicate 8 none
  statics := none }

/-- the primitive byte -/
def k8 : Class := { plain "byte" none with kind := .primitive 'B', accessFlags := 0x411 }
/-- [B -/
def k9 : Class := { plain "[B" (some 0) with kind := .array 8 .byte, interfaces := #[6, 7], accessFlags := 1041 }

/-- the primitive int -/
def k10 : Class := { plain "int" none with kind := .primitive 'I', accessFlags := 0x411 }
/-- [I -/
def k11 : Class := { plain "[I" (some 0) with kind := .array 10 .int, interfaces := #[6, 7], accessFlags := 1041 }

/-- [Lcom/example/lachesis/lachesis/timer/Bucket; -/
def k12 : Class := { plain "[Lcom/example/lachesis/lachesis/timer/Bucket;" (some 0) with kind := .array 3 (.object "com/example/lachesis/lachesis/timer/Bucket"), interfaces := #[6, 7], accessFlags := 1041 }

/-- [Lcom/example/lachesis/lachesis/timer/TimerEntry; -/
def k13 : Class := { plain "[Lcom/example/lachesis/lachesis/timer/TimerEntry;" (some 0) with kind := .array 5 (.object "com/example/lachesis/lachesis/timer/TimerEntry"), interfaces := #[6, 7], accessFlags := 1041 }

def heap : Heap := #[{ cls := 3, slots := #[.ref 1, .int 0], vm := .statics 3 },
  { cls := 13, slots := #[], vm := .none }]
def classes : Array Class := #[k0, k1, k2, k3, k4, k5, k6, k7, k8, k9, k10, k11, k12, k13]
def interned : List (Array UInt16 × Addr) := []
def slotsUsed : Nat := 2
def theMethod : MethodId := ⟨1, 2⟩
def args0 : Array Value := #[.long 5, .int 7, .long 8, .long 9, .int 3]
def aboutOver (below : List Frame) : State where
  vm := { classes := classes, interned := interned.toArray }
  heap := heap
  slotsUsed := slotsUsed
  threads := #[{ frames := .invoking theMethod args0 :: below }]
def below0 : List Frame := [.native { method := ⟨0, 0⟩, args := #[] }]
def about1 : State := aboutOver below0
def p0 : Program := .bare "" "" ""
def e0 : Env := launch0.env 0 0 0
theorem w_frames : about1.frames = Frame.invoking theMethod args0 :: below0 := rfl
set_option maxRecDepth 65536 in
theorem w_args : argsFit about1.vm theMethod args0 = true := by decide +kernel
set_option maxRecDepth 65536 in
theorem w_heap : heapFits about1 = true := by decide +kernel
set_option maxRecDepth 65536 in
theorem w_runnable : about1.curStatus? = some .runnable := by decide +kernel
set_option maxRecDepth 65536 in
theorem w_alone : about1.alone = true := by decide +kernel
set_option maxRecDepth 65536 in
theorem w_named : about1.methodNamed? x = some theMethod := by decide +kernel
set_option maxRecDepth 65536 in
theorem w_hears : about1.hears theMethod below0 = true := by decide +kernel
set_option maxRecDepth 65536 in
theorem w_ripe : about1.ripe theMethod args0 below0 = true := by decide +kernel
theorem w_running : about1.status = .running := rfl
set_option maxRecDepth 65536 in
theorem w_room : about1.hasRoom e0.platform room_1 = true :=
  launch0.hasRoom_least _ room_1 (by decide +kernel) (by decide +kernel) (by decide +kernel) (by decide +kernel) (by decide +kernel) (by decide +kernel)
theorem allAtoms_all (ts : List Jvm.Cond) (a : Array Jvm.Value) (st : Jvm.State) : (allAtoms ts).before a st = ts.all (fun c => c.before a st) := by
  induction ts with
  | nil => rfl
  | cons c t ih =>
    show (Jvm.Cond.and c (allAtoms t)).before a st = _
    rw [Jvm.Cond.before_and, ih, List.all_cons]
def words1 : List Jvm.Cond := Jvm.Cond.code x code maxLocals ret :: tables_1
/-- a 'code' word, met by the world's own term for the bytes: nothing is compared byte by byte -/
theorem code_word {y : MethodName} {bytes : ByteArray} {mx : Nat} {rt : Option FieldType} {a : Array Value} {s : State} {m : MethodId} {meth : Method} {c : Code} (h1 : s.methodNamed? y = some m) (h2 : s.vm.method? m = some meth) (h3 : meth.code = some c) (h4 : c.code = bytes)
    (h5 : (c.maxLocals == mx && c.exceptionTable.isEmpty && decide (c.maxStack ≤ mostOperands) && decide (meth.sig.returnType = rt) && !meth.locks && decide (parseMethodDescriptor y.desc = some meth.sig)) = true) : (Jvm.Cond.code y bytes mx rt).before a s = true := by
  simp only [Bool.and_eq_true, beq_iff_eq, Bool.not_eq_true', decide_eq_true_eq] at h5
  obtain ⟨⟨⟨⟨⟨g1, g2⟩, g3⟩, g4⟩, g5⟩, g6⟩ := h5
  simp [Cond.before, Cond.holds, Cond.value, h1, h2, h3, h4, g1, g2, g3, g4, g5, g6]
def isCode : Jvm.Cond → Bool
  | .code _ _ _ _ => true
  | _ => false
theorem all_split {L : List Jvm.Cond} {P : Jvm.Cond → Bool} (h1 : L.all (fun c => isCode c || P c) = true) (h2 : ∀ c ∈ L.filter isCode, P c = true) : L.all P = true := by
  refine List.all_eq_true.mpr fun c hc => ?_
  have h := List.all_eq_true.mp h1 c hc
  rcases Bool.eq_false_or_eq_true (isCode c) with hi | hi
  · exact h2 c (List.mem_filter.mpr ⟨hc, hi⟩)
  · simpa [hi] using h
set_option maxRecDepth 65536 in
theorem w_c0 : (Jvm.Cond.code x code maxLocals ret).before args0 about1 = true := code_word (m := ⟨1, 2⟩) (meth := k1m2) (c := k1c2) (by decide +kernel) rfl rfl rfl (by decide +kernel)
set_option maxRecDepth 65536 in
theorem w_c1 : (Jvm.Cond.code ({ cls := "java/lang/Math", name := "max", desc := "(JJ)J" } : Jvm.MethodName) jdk_29_method_66_code (4 : Nat) (Option.some Jvm.ClassFile.FieldType.long)).before args0 about1 = true := code_word (m := ⟨2, 1⟩) (meth := k2m1) (c := k2c1) (by decide +kernel) rfl rfl rfl (by decide +kernel)
set_option maxRecDepth 65536 in
theorem w_c2 : (Jvm.Cond.code ({ cls := "java/lang/Math", name := "min", desc := "(JJ)J" } : Jvm.MethodName) jdk_29_method_70_code (4 : Nat) (Option.some Jvm.ClassFile.FieldType.long)).before args0 about1 = true := code_word (m := ⟨2, 2⟩) (meth := k2m2) (c := k2c2) (by decide +kernel) rfl rfl rfl (by decide +kernel)
set_option maxRecDepth 65536 in
theorem w_c3 : (Jvm.Cond.code ({ cls := "com/example/lachesis/lachesis/timer/Wheel", name := "<init>", desc := "(JIJ)V" } : Jvm.MethodName) prog_37_method_1_code (7 : Nat) (Option.none : Option Jvm.ClassFile.FieldType)).before args0 about1 = true := code_word (m := ⟨4, 0⟩) (meth := k4m0) (c := k4c0) (by decide +kernel) rfl rfl rfl (by decide +kernel)
set_option maxRecDepth 65536 in
theorem w_c4 : (Jvm.Cond.code ({ cls := "java/lang/Object", name := "<init>", desc := "()V" } : Jvm.MethodName) object_method_1_code (1 : Nat) (Option.none : Option Jvm.ClassFile.FieldType)).before args0 about1 = true := code_word (m := ⟨0, 0⟩) (meth := k0m0) (c := k0c0) (by decide +kernel) rfl rfl rfl (by decide +kernel)
set_option maxRecDepth 65536 in
theorem w_c5 : (Jvm.Cond.code ({ cls := "com/example/lachesis/lachesis/timer/Bucket", name := "<init>", desc := "()V" } : Jvm.MethodName) prog_29_method_1_code (1 : Nat) (Option.none : Option Jvm.ClassFile.FieldType)).before args0 about1 = true := code_word (m := ⟨3, 0⟩) (meth := k3m0) (c := k3c0) (by decide +kernel) rfl rfl rfl (by decide +kernel)
set_option maxRecDepth 65536 in
theorem w_c6 : (Jvm.Cond.code ({ cls := "com/example/lachesis/lachesis/timer/Wheel", name := "moveTo", desc := "(J)V" } : Jvm.MethodName) prog_37_method_3_code (5 : Nat) (Option.none : Option Jvm.ClassFile.FieldType)).before args0 about1 = true := code_word (m := ⟨4, 1⟩) (meth := k4m1) (c := k4c1) (by decide +kernel) rfl rfl rfl (by decide +kernel)
set_option maxRecDepth 65536 in
theorem w_c7 : (Jvm.Cond.code ({ cls := "com/example/lachesis/lachesis/timer/Wheel", name := "bucket", desc := "(J)Lcom/example/lachesis/lachesis/timer/Bucket;" } : Jvm.MethodName) prog_37_method_5_code (4 : Nat) (Option.some (Jvm.ClassFile.FieldType.object "com/example/lachesis/lachesis/timer/Bucket"))).before args0 about1 = true := code_word (m := ⟨4, 2⟩) (meth := k4m2) (c := k4c2) (by decide +kernel) rfl rfl rfl (by decide +kernel)
set_option maxRecDepth 65536 in
theorem w_c8 : (Jvm.Cond.code ({ cls := "com/example/lachesis/lachesis/timer/WheelBucketPinLaw", name := "distinct", desc := "([Lcom/example/lachesis/lachesis/timer/Bucket;I)Z" } : Jvm.MethodName) method_2_code (3 : Nat) (Option.some Jvm.ClassFile.FieldType.boolean)).before args0 about1 = true := code_word (m := ⟨1, 1⟩) (meth := k1m1) (c := k1c1) (by decide +kernel) rfl rfl rfl (by decide +kernel)
def codes1 : List Jvm.Cond := [Jvm.Cond.code x code maxLocals ret, Jvm.Cond.code ({ cls := "java/lang/Math", name := "max", desc := "(JJ)J" } : Jvm.MethodName) jdk_29_method_66_code (4 : Nat) (Option.some Jvm.ClassFile.FieldType.long), Jvm.Cond.code ({ cls := "java/lang/Math", name := "min", desc := "(JJ)J" } : Jvm.MethodName) jdk_29_method_70_code (4 : Nat) (Option.some Jvm.ClassFile.FieldType.long), Jvm.Cond.code ({ cls := "com/example/lachesis/lachesis/timer/Wheel", name := "<init>", desc := "(JIJ)V" } : Jvm.MethodName) prog_37_method_1_code (7 : Nat) (Option.none : Option Jvm.ClassFile.FieldType), Jvm.Cond.code ({ cls := "java/lang/Object", name := "<init>", desc := "()V" } : Jvm.MethodName) object_method_1_code (1 : Nat) (Option.none : Option Jvm.ClassFile.FieldType), Jvm.Cond.code ({ cls := "com/example/lachesis/lachesis/timer/Bucket", name := "<init>", desc := "()V" } : Jvm.MethodName) prog_29_method_1_code (1 : Nat) (Option.none : Option Jvm.ClassFile.FieldType), Jvm.Cond.code ({ cls := "com/example/lachesis/lachesis/timer/Wheel", name := "moveTo", desc := "(J)V" } : Jvm.MethodName) prog_37_method_3_code (5 : Nat) (Option.none : Option Jvm.ClassFile.FieldType), Jvm.Cond.code ({ cls := "com/example/lachesis/lachesis/timer/Wheel", name := "bucket", desc := "(J)Lcom/example/lachesis/lachesis/timer/Bucket;" } : Jvm.MethodName) prog_37_method_5_code (4 : Nat) (Option.some (Jvm.ClassFile.FieldType.object "com/example/lachesis/lachesis/timer/Bucket")), Jvm.Cond.code ({ cls := "com/example/lachesis/lachesis/timer/WheelBucketPinLaw", name := "distinct", desc := "([Lcom/example/lachesis/lachesis/timer/Bucket;I)Z" } : Jvm.MethodName) method_2_code (3 : Nat) (Option.some Jvm.ClassFile.FieldType.boolean)]
set_option maxRecDepth 65536 in
theorem codes_eq : words1.filter isCode = codes1 := rfl
theorem w_codes : ∀ c ∈ words1.filter isCode, c.before args0 about1 = true := by
  rw [codes_eq]
  intro c hc
  simp only [codes1, List.mem_cons, List.not_mem_nil, or_false] at hc
  rcases hc with rfl | rfl | rfl | rfl | rfl | rfl | rfl | rfl | rfl
  · exact w_c0
  · exact w_c1
  · exact w_c2
  · exact w_c3
  · exact w_c4
  · exact w_c5
  · exact w_c6
  · exact w_c7
  · exact w_c8
set_option maxRecDepth 65536 in
theorem w_t1 : (words1.take 24).all (fun c => isCode c || c.before args0 about1) = true := by decide +kernel
set_option maxRecDepth 65536 in
theorem w_t2 : ((words1.drop 24).take 24).all (fun c => isCode c || c.before args0 about1) = true := by decide +kernel
set_option maxRecDepth 65536 in
theorem w_t3 : ((words1.drop 24).drop 24).all (fun c => isCode c || c.before args0 about1) = true := by decide +kernel
theorem w_tables : (allAtoms (Jvm.Cond.code x code maxLocals ret :: tables_1)).before args0 about1 = true := by
  rw [allAtoms_all]
  show words1.all (fun c => c.before args0 about1) = true
  refine all_split ?_ w_codes
  rw [← List.take_append_drop 24 words1, List.all_append, w_t1, ← List.take_append_drop 24 (words1.drop 24), List.all_append, w_t2, w_t3]
  rfl
set_option maxRecDepth 65536 in
theorem w_case : (Jvm.Cond.and given_1 narrow_1).before args0 about1 = true := by decide +kernel
theorem w_applies : (headSpec (Jvm.Cond.code x code maxLocals ret :: tables_1) room_1).applies x e0.platform about1 = true :=
  (Spec.applies_iff w_frames).mpr ⟨w_running, w_runnable, w_alone, w_named, w_hears, w_ripe, w_room, w_tables⟩
theorem atStart : AtStart classFile x code maxLocals ret World_1 tables_1 room_1 Calls_1 rest_1 Pre_1 launch0 p0 e0 about1 theMethod args0 below0 :=
  ⟨lists_1, trivial, launch0.admits_env _ _ _, launch0.least_env, fairChoices_fair.cas, fairChoices_fair.clock, w_frames, w_args, w_heap, w_applies, trivial, trivial, w_case⟩
end start1
theorem witness_1 : WitnessClaimed_1 := ⟨start1.p0, start1.e0, start1.about1, start1.theMethod, start1.args0, start1.below0, start1.atStart⟩
end Jvm.Pilot.@@N@@
