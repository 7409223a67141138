import JvmDerived
import JvmDerived.Pilot.@@N@@Statement
import JvmDerived.Pilot.@@N@@Code
set_option linter.unusedVariables false
set_option linter.unusedSimpArgs false
@@BLOCK:NumsL.lean.txt@@
namespace Jvm.RoadKit
open Sem ClassFile Op Lib Jvm.Stand Jvm.Free Jvm.LawKit
section New
variable {p : Program} {l : Launch} {e : Env} {R : Room} {s : State} {m : MethodId} {args : Array Value} {below : List Frame} {meth : Method} {c : Code} {T : State} {locs : List Loc} {cells slots : Nat}
theorem retI (X : Stand p l e R s m args below meth c T locs cells slots) (hx : p.tables.exec = Jvm.exec) {pc : Nat} {Ls : Array Slot} {z : Int32} {rest : List Value} (hret : meth.sig.returnType = some .int) (hd : decode c.code pc = .ok (.ireturn, 1)) {fs : List Frame}
    (hl : ∀ (f : JFrame) (acts : List Action), f.method = m → f.locked = none → f.entered = [] → (doReturn e (T.setTop f) acts (some (.int z))).1 = T.setFrames fs) : Steps p.tables e below (T.setTop (mkF m pc Ls (.int z :: rest))) (T.setFrames fs) := by
  have hm' : T.vm.method? m = some meth := X.method'
  have hn : narrow .int (.int z) = .int z := rfl
  show Steps p.tables e below (T.setTop { method := m, pc := pc, locals := Ls, stack := _ :: rest, locked := none }) _
  jvm_step X.here [X.here.top, hx, hd, hm', hret, hn]
  first | (intro acts; rw [hl _ acts rfl rfl rfl]) | rw [hl _ _ rfl rfl rfl]
  exact Steps.refl _
end New
end Jvm.RoadKit
namespace Jvm.Pilot.@@N@@
open Jvm Jvm.ClassFile Sem Op Lib Jvm.Free Jvm.Stand Jvm.LawKit Jvm.RoadKit Bundle Jvm.Pilot.@@N@@.Jvm.D
def own_lmin (p q : Int64) : Int64 := if (0 : Int32) < (lcmpW p q) then q else p
def own_lmax (p q : Int64) : Int64 := if (lcmpW p q) < (0 : Int32) then q else p
def own_span (st : Int64) (n : Int32) : Int64 := if (0 : Int32) < (lcmpW st ((9223372036854775807 : Int64) / (n.toInt64))) then (9223372036854775807 : Int64) else (st * (n.toInt64))
def own_slot (t st : Int64) (n : Int32) : Int32 := (((t / st) - ((t / st) / (n.toInt64)) * (n.toInt64)).toInt32)
theorem own_set (vs : List Value) (v : Value) : (vs ++ List.replicate 1 Value.null).set vs.length v = vs ++ [v] := by simp [List.set_append]
theorem own_irr (x : Int32) : ¬ (x < x) := by rw [Int32.lt_iff_toInt_lt]; omega
theorem own_nz64 {n : Int32} (h : 2 ≤ n.toInt) : (n.toInt64) ≠ 0 := fun e => by
  have g : (n.toInt64).toInt = n.toInt := Jvm.Kit.i64_of_i32 n
  rw [e] at g
  have k : (0 : Int64).toInt = 0 := by decide
  omega
theorem own_nzst {s : Int64} (h : 1 ≤ s.toInt) : s ≠ 0 := fun e => by
  rw [e] at h
  have k : (0 : Int64).toInt = 0 := by decide
  omega
theorem own_nn {i : Int32} (h : ¬ i < 0) : (i.toNatClampNeg : Int) = i.toInt := (nat_of h).symm
theorem own_ge0 {i : Int32} : ¬ i < 0 ↔ 0 ≤ i.toInt := by
  rw [Int32.lt_iff_toInt_lt]
  have k : (0 : Int32).toInt = 0 := by decide
  omega
def own_exs (Z : State) (h : Heap) (bs : List Addr) : Prop := ∀ x ∈ bs, Exa Z h x "com/example/lachesis/lachesis/timer/Bucket"
theorem own_exs.wr {Z : State} {h h' : Heap} {bs : List Addr} {a : Addr} {sl : Nat} {v : Value} (X : own_exs Z h bs) (Wq : Wr h h' a sl v) : own_exs Z h' bs := fun x q => (X x q).wr Wq
theorem own_exs.keep {Z : State} {h h' : Heap} {bs ws : List Addr} (X : own_exs Z h bs) (K : Keep h h' ws) : own_exs Z h' bs := fun x q => (X x q).keep K
theorem own_exs.at {Z : State} {h : Heap} {bs : List Addr} (X : own_exs Z h bs) {n : Nat} (hn : n < bs.length) : Exa Z h (bs.getD n 0) "com/example/lachesis/lachesis/timer/Bucket" := by
  rw [List.getD_eq_getElem?_getD, List.getElem?_eq_getElem hn]
  exact X _ (List.getElem_mem hn)
theorem d_jdk_29_method_66_code_0 : decode jdk_29_method_66_code 0 = .ok (.lload_n 0, 1) := by decide +kernel
theorem d_jdk_29_method_66_code_1 : decode jdk_29_method_66_code 1 = .ok (.lload_n 2, 1) := by decide +kernel
theorem d_jdk_29_method_66_code_2 : decode jdk_29_method_66_code 2 = .ok (.lcmp, 1) := by decide +kernel
theorem d_jdk_29_method_66_code_3 : decode jdk_29_method_66_code 3 = .ok (.ifCond .lt 7, 3) := by decide +kernel
theorem d_jdk_29_method_66_code_10 : decode jdk_29_method_66_code 10 = .ok (.lload_n 2, 1) := by decide +kernel
theorem d_jdk_29_method_66_code_11 : decode jdk_29_method_66_code 11 = .ok (.lreturn, 1) := by decide +kernel
theorem d_jdk_29_method_66_code_6 : decode jdk_29_method_66_code 6 = .ok (.lload_n 0, 1) := by decide +kernel
theorem d_jdk_29_method_66_code_7 : decode jdk_29_method_66_code 7 = .ok (.goto 4, 3) := by decide +kernel
theorem ef_rm_max (m : MethodId) (x0 : Int64) (x1 : Int64) : entryFrame m #[(.long x0), (.long x1)] 4 = mkF m 0 #[.val (.long x0), .second, .val (.long x1), .second] [] := by first | (simp [entryFrame, mkF, argsToLocals, Value.category]; done) | rfl
def Q_rm_max (Z : State) (q0 : Int64) (q1 : Int64) (h0 : Heap) (n0 : Nat) (v : Option Value) (h : Heap) (L : List Loc) : Prop := v = some (.long (own_lmax q0 q1)) ∧ Fr n0 L ∧ h = h0
set_option maxRecDepth 65536 in
set_option maxHeartbeats 40000000 in
theorem rm_max (l : Launch) (Z : State) (a0 : Array Value) (hw : ∀ d ∈ tables_1, d.before a0 Z = true) (ws : List Jvm.Cond) (q0 : Int64) (q1 : Int64) (h0 : Heap) (n0 : Nat) (Z0 : n0 ≤ h0.size) :
    MetFree l (⟨"java/lang/Math", "max", "(JJ)J"⟩ : MethodName) (head1 (Jvm.Cond.code (⟨"java/lang/Math", "max", "(JJ)J"⟩ : MethodName) jdk_29_method_66_code 4 (some .long) :: ws) ({ frames := 0, cells := 0, slots := 0, locals := 0 } : Room)) (fun a U => a = #[(.long q0), (.long q1)] ∧ Z.Warmed39 U.vm ∧ U.heap = h0) (fun _ _ _ _ _ => True) (fun _ U o U' => ∃ v L, o = .returned v ∧ Q_rm_max Z q0 q1 h0 n0 v U'.heap L ∧ FrameEnd U o U' L ({ frames := 0, cells := 0, slots := 0, locals := 0 } : Room).cells ({ frames := 0, cells := 0, slots := 0, locals := 0 } : Room).slots) := by
  refine MetFree.of_bodySF (Jvm.Free.JP.mathPlain rfl (by decide +kernel)) hisR ?_
  intro p e s m args below meth c s₁ Bd hml0 hP hK
  obtain ⟨rfl, hZ, hh⟩ := hP
  have hx := Bd.exec
  have hby := Bd.bytes
  have hml : c.maxLocals = 4 := hml0
  have hown : s.vm.findClass "java/lang/Math" = some m.cls := findClass_of_methodNamed Bd.named
  have hnm := (name_of_methodNamed Bd.named Bd.method).1
  have hlk : meth.locks = false := by first | exact BodyLoose.notSynchronized (by assumption) | exact Body.notSynchronized (by assumption) | assumption
  have X0 : Stand p l e ({ frames := 0, cells := 0, slots := 0, locals := 0 } : Room) s m #[(.long q0), (.long q1)] below meth c s₁ [] 0 0 := Stand.of_body Bd
  have e0 : s₁.heap = h0 := by rw [← hh, Bd.state]; rfl
  have N0 := Fr.nil n0
  have Zn := Z0
  have K0 : ∀ t, Steps p.tables e below (s₁.setTop (mkF m 0 #[.val (.long q0), .second, .val (.long q1), .second] [])) t → Steps p.tables e below (s₁.setTop (entryFrame m #[(.long q0), (.long q1)] 4)) t := fun t k => castTop (ef_rm_max m q0 q1) k
  have K1 : ∀ t, Steps p.tables e below (s₁.setTop (mkF m 3 #[.val (.long q0), .second, .val (.long q1), .second] [(.int (lcmpW q0 q1))])) t → Steps p.tables e below (s₁.setTop (entryFrame m #[(.long q0), (.long q1)] 4)) t := by
    intro t kt
    refine K0 t ?_
    show Steps p.tables e below (s₁.setTop (mkF m 0 #[.val (.long q0), .second, .val (.long q1), .second] [])) _
    refine XS.lloadN X0.here hx rfl (hb hby d_jdk_29_method_66_code_0) rfl ?_
    show Steps p.tables e below (s₁.setTop (mkF m 1 #[.val (.long q0), .second, .val (.long q1), .second] [(.long q0)])) _
    refine XS.lloadN X0.here hx rfl (hb hby d_jdk_29_method_66_code_1) rfl ?_
    show Steps p.tables e below (s₁.setTop (mkF m 2 #[.val (.long q0), .second, .val (.long q1), .second] [(.long q1), (.long q0)])) _
    refine XS.lcmp X0.here hx rfl (hb hby d_jdk_29_method_66_code_2) rfl ?_
    exact kt
  by_cases hc3 : (lcmpW q0 q1) < (0 : Int32)
  ·
    obtain ⟨fs, hr, hrun, hended, hW, hsame⟩ := X0.leave (v := some (.long q1)) (fun h => by rw [Bd.returns] at h; cases h) hlk
    refine ⟨_, _, K1 _ ?_, hrun, hended, _, _, rfl, ?_, ⟨_, rfl⟩, hW, hsame.mono (by decide) (by decide)⟩
    ·
      show Steps p.tables e below (s₁.setTop (mkF m 3 #[.val (.long q0), .second, .val (.long q1), .second] [(.int (lcmpW q0 q1))])) _
      refine XS.ifYes X0.here hx rfl (pc0 := 3) (pc' := 10) rfl (hb hby d_jdk_29_method_66_code_3) rfl ((if0 _ _).trans (tlt hc3).1) (by decide) (by decide) ?_
      show Steps p.tables e below (s₁.setTop (mkF m 10 #[.val (.long q0), .second, .val (.long q1), .second] [])) _
      refine XS.lloadN X0.here hx rfl (hb hby d_jdk_29_method_66_code_10) rfl ?_
      show Steps p.tables e below (s₁.setTop (mkF m 11 #[.val (.long q0), .second, .val (.long q1), .second] [(.long q1)])) _
      exact X0.lreturnOut hx Bd.returns (hb hby d_jdk_29_method_66_code_11) hr
    ·
      show Q_rm_max Z q0 q1 h0 n0 _ s₁.heap _
      rw [e0]
      refine ⟨?_, N0, rfl⟩
      simp only [own_lmax, hc3, if_true, if_false]
  ·
    obtain ⟨fs, hr, hrun, hended, hW, hsame⟩ := X0.leave (v := some (.long q0)) (fun h => by rw [Bd.returns] at h; cases h) hlk
    refine ⟨_, _, K1 _ ?_, hrun, hended, _, _, rfl, ?_, ⟨_, rfl⟩, hW, hsame.mono (by decide) (by decide)⟩
    ·
      show Steps p.tables e below (s₁.setTop (mkF m 3 #[.val (.long q0), .second, .val (.long q1), .second] [(.int (lcmpW q0 q1))])) _
      refine XS.ifNo X0.here hx rfl (hb hby d_jdk_29_method_66_code_3) rfl ((if0 _ _).trans (flt hc3).1) ?_
      show Steps p.tables e below (s₁.setTop (mkF m 6 #[.val (.long q0), .second, .val (.long q1), .second] [])) _
      refine XS.lloadN X0.here hx rfl (hb hby d_jdk_29_method_66_code_6) rfl ?_
      show Steps p.tables e below (s₁.setTop (mkF m 7 #[.val (.long q0), .second, .val (.long q1), .second] [(.long q0)])) _
      refine XS.goto X0.here hx rfl (pc0 := 7) (pc' := 11) rfl (hb hby d_jdk_29_method_66_code_7) (by decide) (by decide) ?_
      show Steps p.tables e below (s₁.setTop (mkF m 11 #[.val (.long q0), .second, .val (.long q1), .second] [(.long q0)])) _
      exact X0.lreturnOut hx Bd.returns (hb hby d_jdk_29_method_66_code_11) hr
    ·
      show Q_rm_max Z q0 q1 h0 n0 _ s₁.heap _
      rw [e0]
      refine ⟨?_, N0, rfl⟩
      simp only [own_lmax, hc3, if_true, if_false]
theorem d_jdk_29_method_70_code_0 : decode jdk_29_method_70_code 0 = .ok (.lload_n 0, 1) := by decide +kernel
theorem d_jdk_29_method_70_code_1 : decode jdk_29_method_70_code 1 = .ok (.lload_n 2, 1) := by decide +kernel
theorem d_jdk_29_method_70_code_2 : decode jdk_29_method_70_code 2 = .ok (.lcmp, 1) := by decide +kernel
theorem d_jdk_29_method_70_code_3 : decode jdk_29_method_70_code 3 = .ok (.ifCond .gt 7, 3) := by decide +kernel
theorem d_jdk_29_method_70_code_10 : decode jdk_29_method_70_code 10 = .ok (.lload_n 2, 1) := by decide +kernel
theorem d_jdk_29_method_70_code_11 : decode jdk_29_method_70_code 11 = .ok (.lreturn, 1) := by decide +kernel
theorem d_jdk_29_method_70_code_6 : decode jdk_29_method_70_code 6 = .ok (.lload_n 0, 1) := by decide +kernel
theorem d_jdk_29_method_70_code_7 : decode jdk_29_method_70_code 7 = .ok (.goto 4, 3) := by decide +kernel
theorem ef_rm_min (m : MethodId) (x0 : Int64) (x1 : Int64) : entryFrame m #[(.long x0), (.long x1)] 4 = mkF m 0 #[.val (.long x0), .second, .val (.long x1), .second] [] := by first | (simp [entryFrame, mkF, argsToLocals, Value.category]; done) | rfl
def Q_rm_min (Z : State) (q0 : Int64) (q1 : Int64) (h0 : Heap) (n0 : Nat) (v : Option Value) (h : Heap) (L : List Loc) : Prop := v = some (.long (own_lmin q0 q1)) ∧ Fr n0 L ∧ h = h0
set_option maxRecDepth 65536 in
set_option maxHeartbeats 40000000 in
theorem rm_min (l : Launch) (Z : State) (a0 : Array Value) (hw : ∀ d ∈ tables_1, d.before a0 Z = true) (ws : List Jvm.Cond) (q0 : Int64) (q1 : Int64) (h0 : Heap) (n0 : Nat) (Z0 : n0 ≤ h0.size) :
    MetFree l (⟨"java/lang/Math", "min", "(JJ)J"⟩ : MethodName) (head1 (Jvm.Cond.code (⟨"java/lang/Math", "min", "(JJ)J"⟩ : MethodName) jdk_29_method_70_code 4 (some .long) :: ws) ({ frames := 0, cells := 0, slots := 0, locals := 0 } : Room)) (fun a U => a = #[(.long q0), (.long q1)] ∧ Z.Warmed39 U.vm ∧ U.heap = h0) (fun _ _ _ _ _ => True) (fun _ U o U' => ∃ v L, o = .returned v ∧ Q_rm_min Z q0 q1 h0 n0 v U'.heap L ∧ FrameEnd U o U' L ({ frames := 0, cells := 0, slots := 0, locals := 0 } : Room).cells ({ frames := 0, cells := 0, slots := 0, locals := 0 } : Room).slots) := by
  refine MetFree.of_bodySF (Jvm.Free.JP.mathPlain rfl (by decide +kernel)) hisR ?_
  intro p e s m args below meth c s₁ Bd hml0 hP hK
  obtain ⟨rfl, hZ, hh⟩ := hP
  have hx := Bd.exec
  have hby := Bd.bytes
  have hml : c.maxLocals = 4 := hml0
  have hown : s.vm.findClass "java/lang/Math" = some m.cls := findClass_of_methodNamed Bd.named
  have hnm := (name_of_methodNamed Bd.named Bd.method).1
  have hlk : meth.locks = false := by first | exact BodyLoose.notSynchronized (by assumption) | exact Body.notSynchronized (by assumption) | assumption
  have X0 : Stand p l e ({ frames := 0, cells := 0, slots := 0, locals := 0 } : Room) s m #[(.long q0), (.long q1)] below meth c s₁ [] 0 0 := Stand.of_body Bd
  have e0 : s₁.heap = h0 := by rw [← hh, Bd.state]; rfl
  have N0 := Fr.nil n0
  have Zn := Z0
  have K0 : ∀ t, Steps p.tables e below (s₁.setTop (mkF m 0 #[.val (.long q0), .second, .val (.long q1), .second] [])) t → Steps p.tables e below (s₁.setTop (entryFrame m #[(.long q0), (.long q1)] 4)) t := fun t k => castTop (ef_rm_min m q0 q1) k
  have K1 : ∀ t, Steps p.tables e below (s₁.setTop (mkF m 3 #[.val (.long q0), .second, .val (.long q1), .second] [(.int (lcmpW q0 q1))])) t → Steps p.tables e below (s₁.setTop (entryFrame m #[(.long q0), (.long q1)] 4)) t := by
    intro t kt
    refine K0 t ?_
    show Steps p.tables e below (s₁.setTop (mkF m 0 #[.val (.long q0), .second, .val (.long q1), .second] [])) _
    refine XS.lloadN X0.here hx rfl (hb hby d_jdk_29_method_70_code_0) rfl ?_
    show Steps p.tables e below (s₁.setTop (mkF m 1 #[.val (.long q0), .second, .val (.long q1), .second] [(.long q0)])) _
    refine XS.lloadN X0.here hx rfl (hb hby d_jdk_29_method_70_code_1) rfl ?_
    show Steps p.tables e below (s₁.setTop (mkF m 2 #[.val (.long q0), .second, .val (.long q1), .second] [(.long q1), (.long q0)])) _
    refine XS.lcmp X0.here hx rfl (hb hby d_jdk_29_method_70_code_2) rfl ?_
    exact kt
  by_cases hc3 : (0 : Int32) < (lcmpW q0 q1)
  ·
    obtain ⟨fs, hr, hrun, hended, hW, hsame⟩ := X0.leave (v := some (.long q1)) (fun h => by rw [Bd.returns] at h; cases h) hlk
    refine ⟨_, _, K1 _ ?_, hrun, hended, _, _, rfl, ?_, ⟨_, rfl⟩, hW, hsame.mono (by decide) (by decide)⟩
    ·
      show Steps p.tables e below (s₁.setTop (mkF m 3 #[.val (.long q0), .second, .val (.long q1), .second] [(.int (lcmpW q0 q1))])) _
      refine XS.ifYes X0.here hx rfl (pc0 := 3) (pc' := 10) rfl (hb hby d_jdk_29_method_70_code_3) rfl ((if0 _ _).trans (tlt hc3).2.2.1) (by decide) (by decide) ?_
      show Steps p.tables e below (s₁.setTop (mkF m 10 #[.val (.long q0), .second, .val (.long q1), .second] [])) _
      refine XS.lloadN X0.here hx rfl (hb hby d_jdk_29_method_70_code_10) rfl ?_
      show Steps p.tables e below (s₁.setTop (mkF m 11 #[.val (.long q0), .second, .val (.long q1), .second] [(.long q1)])) _
      exact X0.lreturnOut hx Bd.returns (hb hby d_jdk_29_method_70_code_11) hr
    ·
      show Q_rm_min Z q0 q1 h0 n0 _ s₁.heap _
      rw [e0]
      refine ⟨?_, N0, rfl⟩
      simp only [own_lmin, hc3, if_true, if_false]
  ·
    obtain ⟨fs, hr, hrun, hended, hW, hsame⟩ := X0.leave (v := some (.long q0)) (fun h => by rw [Bd.returns] at h; cases h) hlk
    refine ⟨_, _, K1 _ ?_, hrun, hended, _, _, rfl, ?_, ⟨_, rfl⟩, hW, hsame.mono (by decide) (by decide)⟩
    ·
      show Steps p.tables e below (s₁.setTop (mkF m 3 #[.val (.long q0), .second, .val (.long q1), .second] [(.int (lcmpW q0 q1))])) _
      refine XS.ifNo X0.here hx rfl (hb hby d_jdk_29_method_70_code_3) rfl ((if0 _ _).trans (flt hc3).2.2.1) ?_
      show Steps p.tables e below (s₁.setTop (mkF m 6 #[.val (.long q0), .second, .val (.long q1), .second] [])) _
      refine XS.lloadN X0.here hx rfl (hb hby d_jdk_29_method_70_code_6) rfl ?_
      show Steps p.tables e below (s₁.setTop (mkF m 7 #[.val (.long q0), .second, .val (.long q1), .second] [(.long q0)])) _
      refine XS.goto X0.here hx rfl (pc0 := 7) (pc' := 11) rfl (hb hby d_jdk_29_method_70_code_7) (by decide) (by decide) ?_
      show Steps p.tables e below (s₁.setTop (mkF m 11 #[.val (.long q0), .second, .val (.long q1), .second] [(.long q0)])) _
      exact X0.lreturnOut hx Bd.returns (hb hby d_jdk_29_method_70_code_11) hr
    ·
      show Q_rm_min Z q0 q1 h0 n0 _ s₁.heap _
      rw [e0]
      refine ⟨?_, N0, rfl⟩
      simp only [own_lmin, hc3, if_true, if_false]
theorem d_prog_29_method_1_code_0 : decode prog_29_method_1_code 0 = .ok (.aload_n 0, 1) := by decide +kernel
theorem d_prog_29_method_1_code_1 : decode prog_29_method_1_code 1 = .ok (.invokespecial 1, 3) := by decide +kernel
theorem d_prog_29_method_1_code_4 : decode prog_29_method_1_code 4 = .ok (.aload_n 0, 1) := by decide +kernel
theorem d_prog_29_method_1_code_5 : decode prog_29_method_1_code 5 = .ok (.getstatic 7, 3) := by decide +kernel
theorem d_prog_29_method_1_code_8 : decode prog_29_method_1_code 8 = .ok (.putfield 13, 3) := by decide +kernel
theorem d_prog_29_method_1_code_11 : decode prog_29_method_1_code 11 = .ok (.return_, 1) := by decide +kernel
theorem pn_0 : plainName "com/example/lachesis/lachesis/timer/Bucket" = true := by first | (simp [plainName, overriddenIn]; done) | decide +kernel
theorem ef_rmB (m : MethodId) (x0 : Addr) : entryFrame m #[(.ref x0)] 1 = mkF m 0 #[.val (.ref x0)] [] := by first | (simp [entryFrame, mkF, argsToLocals, Value.category]; done) | rfl
def Q_rmB (Z : State) (r0 : Addr) (w_NONE : Addr) (h0 : Heap) (n0 : Nat) (v : Option Value) (h : Heap) (L : List Loc) : Prop := v = none ∧ Fr n0 L ∧ Keep h0 h [r0] ∧ Exa Z h r0 "com/example/lachesis/lachesis/timer/Bucket"
set_option maxRecDepth 65536 in
set_option maxHeartbeats 40000000 in
theorem rmB (l : Launch) (Z : State) (a0 : Array Value) (hw : ∀ d ∈ tables_1, d.before a0 Z = true) (ws : List Jvm.Cond) (r0 : Addr) (w_NONE : Addr) (h0 : Heap) (n0 : Nat) (Z0 : n0 ≤ h0.size) (S_NONE : Sta Z h0 "com/example/lachesis/lachesis/timer/Bucket" "NONE" "[Lcom/example/lachesis/lachesis/timer/TimerEntry;" (.ref w_NONE)) (E_r0 : Exa Z h0 r0 "com/example/lachesis/lachesis/timer/Bucket") (g_r0 : n0 ≤ r0) (F_entries_r0 : Fld Z h0 r0 "com/example/lachesis/lachesis/timer/Bucket" "entries" "[Lcom/example/lachesis/lachesis/timer/TimerEntry;" .null) :
    MetFree l (⟨"com/example/lachesis/lachesis/timer/Bucket", "<init>", "()V"⟩ : MethodName) (head1 (Jvm.Cond.code (⟨"com/example/lachesis/lachesis/timer/Bucket", "<init>", "()V"⟩ : MethodName) prog_29_method_1_code 1 none :: ws) ({ frames := 1, cells := 0, slots := 0, locals := 12 } : Room)) (fun a U => a = #[(.ref r0)] ∧ Z.Warmed39 U.vm ∧ U.heap = h0) (fun _ _ _ _ _ => True) (fun _ U o U' => ∃ v L, o = .returned v ∧ Q_rmB Z r0 w_NONE h0 n0 v U'.heap L ∧ FrameEnd U o U' L ({ frames := 1, cells := 0, slots := 0, locals := 12 } : Room).cells ({ frames := 1, cells := 0, slots := 0, locals := 12 } : Room).slots) := by
  refine MetFree.of_bodySF (plainFor_of_name pn_0) hisR ?_
  intro p e s m args below meth c s₁ Bd hml0 hP hK
  obtain ⟨rfl, hZ, hh⟩ := hP
  have hx := Bd.exec
  have hby := Bd.bytes
  have hml : c.maxLocals = 1 := hml0
  have hown : s.vm.findClass "com/example/lachesis/lachesis/timer/Bucket" = some m.cls := findClass_of_methodNamed Bd.named
  have hnm := (name_of_methodNamed Bd.named Bd.method).1
  have hlk : meth.locks = false := by first | exact BodyLoose.notSynchronized (by assumption) | exact Body.notSynchronized (by assumption) | assumption
  have X0 : Stand p l e ({ frames := 1, cells := 0, slots := 0, locals := 12 } : Room) s m #[(.ref r0)] below meth c s₁ [] 0 0 := Stand.of_body Bd
  have e0 : s₁.heap = h0 := by rw [← hh, Bd.state]; rfl
  have N0 := Fr.nil n0
  have Zn := Z0
  have K0 : ∀ t, Steps p.tables e below (s₁.setTop (mkF m 0 #[.val (.ref r0)] [])) t → Steps p.tables e below (s₁.setTop (entryFrame m #[(.ref r0)] 1)) t := fun t k => castTop (ef_rmB m r0) k
  have Kp : Keep h0 h0 [r0] := Keep.refl h0 [r0]
  obtain ⟨T1, X1, e1, st1⟩ := initO X0 hx hZ hown (hw _ (List.mem_of_getElem? (i := 31) rfl)) (hw _ (List.mem_of_getElem? (i := 15) rfl)) (hw _ (List.mem_of_getElem? (i := 16) rfl)) e0 (g := (mkF m 1 #[.val (.ref r0)] [(.ref r0)])) rfl (by rw [hml]; rfl) rfl (hb hby d_prog_29_method_1_code_1) (by decide) (W := 0) (by show 2 * 0 + _ ≤ _; exact Nat.le_of_eq rfl) (by decide)
  obtain ⟨T2, X2, e2, st2⟩ := getS2 X1 hx hZ hown (host := "") (Or.inl (hw _ (List.mem_of_getElem? (i := 32) rfl))) Via.refl e1 S_NONE (g := (mkF m 5 #[.val (.ref r0)] [(.ref r0)])) rfl (hb hby d_prog_29_method_1_code_5)
  obtain ⟨T3, h3, X3, e3, W3, st3⟩ := putF X2 hx hZ hown (host := "") (Or.inl (hw _ (List.mem_of_getElem? (i := 34) rfl))) Via.refl e2 F_entries_r0 E_r0 (Or.inl (hw _ (List.mem_of_getElem? (i := 35) rfl))) (hw _ (List.mem_of_getElem? (i := 26) rfl)) (ty := (.array (.object "com/example/lachesis/lachesis/timer/TimerEntry"))) (by decide) rfl rfl (g := (mkF m 8 #[.val (.ref r0)] [(.ref w_NONE), (.ref r0)])) rfl rfl (hb hby d_prog_29_method_1_code_8)
  replace E_r0 := E_r0.wr W3
  replace S_NONE := S_NONE.wr W3
  have F_entries_r0 := F_entries_r0.same W3
  have N3 := Fr.snoc X3 N0 g_r0
  have Kp := Kp.wr W3 (Or.inl (List.mem_of_getElem? (i := 0) rfl))
  replace Zn := Nat.le_trans Zn (Keep.of_wr W3).1
  obtain ⟨fs, hr, hrun, hended, hW, hsame⟩ := X3.leave (v := none) (fun _ => rfl) hlk
  refine ⟨_, _, K0 _ ?_, hrun, hended, _, _, rfl, ?_, ⟨_, rfl⟩, hW, hsame.mono (by decide) (by decide)⟩
  ·
    show Steps p.tables e below (s₁.setTop (mkF m 0 #[.val (.ref r0)] [])) _
    refine XS.aloadN X0.here hx rfl (hb hby d_prog_29_method_1_code_0) rfl rfl ?_
    show Steps p.tables e below (s₁.setTop (mkF m 1 #[.val (.ref r0)] [(.ref r0)])) _
    refine st1 _ ?_
    show Steps p.tables e below (T1.setTop (mkF m 4 #[.val (.ref r0)] [])) _
    refine XS.aloadN X1.here hx rfl (hb hby d_prog_29_method_1_code_4) rfl rfl ?_
    show Steps p.tables e below (T1.setTop (mkF m 5 #[.val (.ref r0)] [(.ref r0)])) _
    refine st2 _ ?_
    show Steps p.tables e below (T2.setTop (mkF m 8 #[.val (.ref r0)] [(.ref w_NONE), (.ref r0)])) _
    refine st3 _ ?_
    show Steps p.tables e below (T3.setTop (mkF m 11 #[.val (.ref r0)] [])) _
    exact X3.returnOut hx Bd.returns (hb hby d_prog_29_method_1_code_11) hr
  ·
    show Q_rmB Z r0 w_NONE h0 n0 _ T3.heap _
    rw [e3]
    exact ⟨rfl, N3, Kp, E_r0⟩
theorem d_prog_37_method_3_code_0 : decode prog_37_method_3_code 0 = .ok (.lload_n 1, 1) := by decide +kernel
theorem d_prog_37_method_3_code_1 : decode prog_37_method_3_code 1 = .ok (.aload_n 0, 1) := by decide +kernel
theorem d_prog_37_method_3_code_2 : decode prog_37_method_3_code 2 = .ok (.getfield 7, 3) := by decide +kernel
theorem d_prog_37_method_3_code_5 : decode prog_37_method_3_code 5 = .ok (.ldiv, 1) := by decide +kernel
theorem d_prog_37_method_3_code_6 : decode prog_37_method_3_code 6 = .ok (.lstore_n 3, 1) := by decide +kernel
theorem d_prog_37_method_3_code_7 : decode prog_37_method_3_code 7 = .ok (.aload_n 0, 1) := by decide +kernel
theorem d_prog_37_method_3_code_8 : decode prog_37_method_3_code 8 = .ok (.lload_n 3, 1) := by decide +kernel
theorem d_prog_37_method_3_code_9 : decode prog_37_method_3_code 9 = .ok (.aload_n 0, 1) := by decide +kernel
theorem d_prog_37_method_3_code_10 : decode prog_37_method_3_code 10 = .ok (.getfield 7, 3) := by decide +kernel
theorem d_prog_37_method_3_code_13 : decode prog_37_method_3_code 13 = .ok (.lmul, 1) := by decide +kernel
theorem d_prog_37_method_3_code_14 : decode prog_37_method_3_code 14 = .ok (.putfield 31, 3) := by decide +kernel
theorem d_prog_37_method_3_code_17 : decode prog_37_method_3_code 17 = .ok (.aload_n 0, 1) := by decide +kernel
theorem d_prog_37_method_3_code_18 : decode prog_37_method_3_code 18 = .ok (.lload_n 3, 1) := by decide +kernel
theorem d_prog_37_method_3_code_19 : decode prog_37_method_3_code 19 = .ok (.aload_n 0, 1) := by decide +kernel
theorem d_prog_37_method_3_code_20 : decode prog_37_method_3_code 20 = .ok (.getfield 22, 3) := by decide +kernel
theorem d_prog_37_method_3_code_23 : decode prog_37_method_3_code 23 = .ok (.arraylength, 1) := by decide +kernel
theorem d_prog_37_method_3_code_24 : decode prog_37_method_3_code 24 = .ok (.i2l, 1) := by decide +kernel
theorem d_prog_37_method_3_code_25 : decode prog_37_method_3_code 25 = .ok (.lrem, 1) := by decide +kernel
theorem d_prog_37_method_3_code_26 : decode prog_37_method_3_code 26 = .ok (.l2i, 1) := by decide +kernel
theorem d_prog_37_method_3_code_27 : decode prog_37_method_3_code 27 = .ok (.putfield 34, 3) := by decide +kernel
theorem d_prog_37_method_3_code_30 : decode prog_37_method_3_code 30 = .ok (.return_, 1) := by decide +kernel
theorem pn_1 : plainName "com/example/lachesis/lachesis/timer/Wheel" = true := by first | (simp [plainName, overriddenIn]; done) | decide +kernel
theorem ef_rmM (m : MethodId) (x0 : Addr) (x1 : Int64) : entryFrame m #[(.ref x0), (.long x1)] 5 = mkF m 0 #[.val (.ref x0), .val (.long x1), .second, .unset, .unset] [] := by first | (simp [entryFrame, mkF, argsToLocals, Value.category]; done) | rfl
def Q_rmM (Z : State) (r0 : Addr) (q1 : Int64) (st : Int64) (sp : Int64) (ba : Addr) (ss : Int64) (sl : Int32) (kk : ClassId) (nn : Int32) (vs : List Value) (h0 : Heap) (n0 : Nat) (v : Option Value) (h : Heap) (L : List Loc) : Prop := v = none ∧ Fr n0 L ∧ Keep h0 h [r0] ∧ Exa Z h r0 "com/example/lachesis/lachesis/timer/Wheel" ∧ Fld Z h r0 "com/example/lachesis/lachesis/timer/Wheel" "slotTicks" "J" (.long st) ∧ Fld Z h r0 "com/example/lachesis/lachesis/timer/Wheel" "spanTicks" "J" (.long sp) ∧ Fld Z h r0 "com/example/lachesis/lachesis/timer/Wheel" "buckets" "[Lcom/example/lachesis/lachesis/timer/Bucket;" (.ref ba) ∧ Fld Z h r0 "com/example/lachesis/lachesis/timer/Wheel" "slotStart" "J" (.long ((q1 / st) * st)) ∧ Fld Z h r0 "com/example/lachesis/lachesis/timer/Wheel" "slot" "I" (.int (own_slot q1 st nn))
set_option maxRecDepth 65536 in
set_option maxHeartbeats 40000000 in
theorem rmM (l : Launch) (Z : State) (a0 : Array Value) (hw : ∀ d ∈ tables_1, d.before a0 Z = true) (ws : List Jvm.Cond) (r0 : Addr) (q1 : Int64) (st : Int64) (sp : Int64) (ba : Addr) (ss : Int64) (sl : Int32) (kk : ClassId) (nn : Int32) (vs : List Value) (h0 : Heap) (n0 : Nat) (Z0 : n0 ≤ h0.size) (E_r0 : Exa Z h0 r0 "com/example/lachesis/lachesis/timer/Wheel") (g_r0 : n0 ≤ r0) (ne_ba_r0 : ba ≠ r0) (F_slotTicks_r0 : Fld Z h0 r0 "com/example/lachesis/lachesis/timer/Wheel" "slotTicks" "J" (.long st)) (F_spanTicks_r0 : Fld Z h0 r0 "com/example/lachesis/lachesis/timer/Wheel" "spanTicks" "J" (.long sp)) (F_buckets_r0 : Fld Z h0 r0 "com/example/lachesis/lachesis/timer/Wheel" "buckets" "[Lcom/example/lachesis/lachesis/timer/Bucket;" (.ref ba)) (F_slotStart_r0 : Fld Z h0 r0 "com/example/lachesis/lachesis/timer/Wheel" "slotStart" "J" (.long ss)) (F_slot_r0 : Fld Z h0 r0 "com/example/lachesis/lachesis/timer/Wheel" "slot" "I" (.int sl)) (V_ba : Arv Z h0 ba kk (.object "com/example/lachesis/lachesis/timer/Bucket") nn vs .null) (hst : st ≠ 0) (hnn : (nn.toInt64) ≠ 0) :
    MetFree l (⟨"com/example/lachesis/lachesis/timer/Wheel", "moveTo", "(J)V"⟩ : MethodName) (head1 (Jvm.Cond.code (⟨"com/example/lachesis/lachesis/timer/Wheel", "moveTo", "(J)V"⟩ : MethodName) prog_37_method_3_code 5 none :: ws) ({ frames := 0, cells := 0, slots := 0, locals := 0 } : Room)) (fun a U => a = #[(.ref r0), (.long q1)] ∧ Z.Warmed39 U.vm ∧ U.heap = h0) (fun _ _ _ _ _ => True) (fun _ U o U' => ∃ v L, o = .returned v ∧ Q_rmM Z r0 q1 st sp ba ss sl kk nn vs h0 n0 v U'.heap L ∧ FrameEnd U o U' L ({ frames := 0, cells := 0, slots := 0, locals := 0 } : Room).cells ({ frames := 0, cells := 0, slots := 0, locals := 0 } : Room).slots) := by
  refine MetFree.of_bodySF (plainFor_of_name pn_1) hisR ?_
  intro p e s m args below meth c s₁ Bd hml0 hP hK
  obtain ⟨rfl, hZ, hh⟩ := hP
  have hx := Bd.exec
  have hby := Bd.bytes
  have hml : c.maxLocals = 5 := hml0
  have hown : s.vm.findClass "com/example/lachesis/lachesis/timer/Wheel" = some m.cls := findClass_of_methodNamed Bd.named
  have hnm := (name_of_methodNamed Bd.named Bd.method).1
  have hlk : meth.locks = false := by first | exact BodyLoose.notSynchronized (by assumption) | exact Body.notSynchronized (by assumption) | assumption
  have X0 : Stand p l e ({ frames := 0, cells := 0, slots := 0, locals := 0 } : Room) s m #[(.ref r0), (.long q1)] below meth c s₁ [] 0 0 := Stand.of_body Bd
  have e0 : s₁.heap = h0 := by rw [← hh, Bd.state]; rfl
  have N0 := Fr.nil n0
  have Zn := Z0
  have K0 : ∀ t, Steps p.tables e below (s₁.setTop (mkF m 0 #[.val (.ref r0), .val (.long q1), .second, .unset, .unset] [])) t → Steps p.tables e below (s₁.setTop (entryFrame m #[(.ref r0), (.long q1)] 5)) t := fun t k => castTop (ef_rmM m r0 q1) k
  have Kp : Keep h0 h0 [r0] := Keep.refl h0 [r0]
  obtain ⟨T1, X1, e1, st1⟩ := getF X0 hx hZ hown (host := "") (Or.inl (hw _ (List.mem_of_getElem? (i := 17) rfl))) Via.refl e0 F_slotTicks_r0 (g := (mkF m 2 #[.val (.ref r0), .val (.long q1), .second, .unset, .unset] [(.ref r0), (.long q1)])) rfl rfl (hb hby d_prog_37_method_3_code_2)
  obtain ⟨T2, X2, e2, st2⟩ := getF X1 hx hZ hown (host := "") (Or.inl (hw _ (List.mem_of_getElem? (i := 17) rfl))) Via.refl e1 F_slotTicks_r0 (g := (mkF m 10 #[.val (.ref r0), .val (.long q1), .second, .val (.long (q1 / st)), .second] [(.ref r0), (.long (q1 / st)), (.ref r0)])) rfl rfl (hb hby d_prog_37_method_3_code_10)
  obtain ⟨T3, h3, X3, e3, W3, st3⟩ := putF X2 hx hZ hown (host := "") (Or.inl (hw _ (List.mem_of_getElem? (i := 42) rfl))) Via.refl e2 F_slotStart_r0 E_r0 (Or.inl (hw _ (List.mem_of_getElem? (i := 43) rfl))) (hw _ (List.mem_of_getElem? (i := 9) rfl)) (ty := .long) (by decide) rfl rfl (g := (mkF m 14 #[.val (.ref r0), .val (.long q1), .second, .val (.long (q1 / st)), .second] [(.long ((q1 / st) * st)), (.ref r0)])) rfl rfl (hb hby d_prog_37_method_3_code_14)
  replace E_r0 := E_r0.wr W3
  replace F_slotTicks_r0 := F_slotTicks_r0.other W3 (Or.inr (slot_ne (Or.inr (hw _ (List.mem_of_getElem? (i := 18) rfl))) (Or.inl (hw _ (List.mem_of_getElem? (i := 43) rfl))) (by decide) (t := .long) (t' := .long) (by decide) (by decide)))
  replace F_spanTicks_r0 := F_spanTicks_r0.other W3 (Or.inr (slot_ne (Or.inr (hw _ (List.mem_of_getElem? (i := 21) rfl))) (Or.inl (hw _ (List.mem_of_getElem? (i := 43) rfl))) (by decide) (t := .long) (t' := .long) (by decide) (by decide)))
  replace F_buckets_r0 := F_buckets_r0.other W3 (Or.inr (slot_ne (Or.inr (hw _ (List.mem_of_getElem? (i := 25) rfl))) (Or.inl (hw _ (List.mem_of_getElem? (i := 43) rfl))) (by decide) (t := (.array (.object "com/example/lachesis/lachesis/timer/Bucket"))) (t' := .long) (by decide) (by decide)))
  replace F_slot_r0 := F_slot_r0.other W3 (Or.inr (slot_ne (Or.inl (hw _ (List.mem_of_getElem? (i := 45) rfl))) (Or.inl (hw _ (List.mem_of_getElem? (i := 43) rfl))) (by decide) (t := .int) (t' := .long) (by decide) (by decide)))
  replace V_ba := V_ba.other W3 ne_ba_r0
  have F_slotStart_r0 := F_slotStart_r0.same W3
  have N3 := Fr.snoc X3 N0 g_r0
  have Kp := Kp.wr W3 (Or.inl (List.mem_of_getElem? (i := 0) rfl))
  replace Zn := Nat.le_trans Zn (Keep.of_wr W3).1
  obtain ⟨T4, X4, e4, st4⟩ := getF X3 hx hZ hown (host := "") (Or.inl (hw _ (List.mem_of_getElem? (i := 24) rfl))) Via.refl e3 F_buckets_r0 (g := (mkF m 20 #[.val (.ref r0), .val (.long q1), .second, .val (.long (q1 / st)), .second] [(.ref r0), (.long (q1 / st)), (.ref r0)])) rfl rfl (hb hby d_prog_37_method_3_code_20)
  have Vq5 := V_ba
  obtain ⟨cl5, Ar5, -, S5, N5z, -, -⟩ := Vq5
  obtain ⟨T6, h6, X6, e6, W6, st6⟩ := putF X4 hx hZ hown (host := "") (Or.inl (hw _ (List.mem_of_getElem? (i := 44) rfl))) Via.refl e4 F_slot_r0 E_r0 (Or.inl (hw _ (List.mem_of_getElem? (i := 45) rfl))) (hw _ (List.mem_of_getElem? (i := 9) rfl)) (ty := .int) (by decide) rfl rfl (g := (mkF m 27 #[.val (.ref r0), .val (.long q1), .second, .val (.long (q1 / st)), .second] [(.int (((q1 / st) - ((q1 / st) / (nn.toInt64)) * (nn.toInt64)).toInt32)), (.ref r0)])) rfl rfl (hb hby d_prog_37_method_3_code_27)
  replace E_r0 := E_r0.wr W6
  replace F_slotTicks_r0 := F_slotTicks_r0.other W6 (Or.inr (slot_ne (Or.inr (hw _ (List.mem_of_getElem? (i := 18) rfl))) (Or.inl (hw _ (List.mem_of_getElem? (i := 45) rfl))) (by decide) (t := .long) (t' := .int) (by decide) (by decide)))
  replace F_spanTicks_r0 := F_spanTicks_r0.other W6 (Or.inr (slot_ne (Or.inr (hw _ (List.mem_of_getElem? (i := 21) rfl))) (Or.inl (hw _ (List.mem_of_getElem? (i := 45) rfl))) (by decide) (t := .long) (t' := .int) (by decide) (by decide)))
  replace F_buckets_r0 := F_buckets_r0.other W6 (Or.inr (slot_ne (Or.inr (hw _ (List.mem_of_getElem? (i := 25) rfl))) (Or.inl (hw _ (List.mem_of_getElem? (i := 45) rfl))) (by decide) (t := (.array (.object "com/example/lachesis/lachesis/timer/Bucket"))) (t' := .int) (by decide) (by decide)))
  replace F_slotStart_r0 := F_slotStart_r0.other W6 (Or.inr (slot_ne (Or.inl (hw _ (List.mem_of_getElem? (i := 43) rfl))) (Or.inl (hw _ (List.mem_of_getElem? (i := 45) rfl))) (by decide) (t := .long) (t' := .int) (by decide) (by decide)))
  replace V_ba := V_ba.other W6 ne_ba_r0
  have F_slot_r0 := F_slot_r0.same W6
  have N6 := Fr.snoc X6 N3 g_r0
  have Kp := Kp.wr W6 (Or.inl (List.mem_of_getElem? (i := 0) rfl))
  replace Zn := Nat.le_trans Zn (Keep.of_wr W6).1
  obtain ⟨fs, hr, hrun, hended, hW, hsame⟩ := X6.leave (v := none) (fun _ => rfl) hlk
  refine ⟨_, _, K0 _ ?_, hrun, hended, _, _, rfl, ?_, ⟨_, rfl⟩, hW, hsame.mono (by decide) (by decide)⟩
  ·
    show Steps p.tables e below (s₁.setTop (mkF m 0 #[.val (.ref r0), .val (.long q1), .second, .unset, .unset] [])) _
    refine XS.lloadN X0.here hx rfl (hb hby d_prog_37_method_3_code_0) rfl ?_
    show Steps p.tables e below (s₁.setTop (mkF m 1 #[.val (.ref r0), .val (.long q1), .second, .unset, .unset] [(.long q1)])) _
    refine XS.aloadN X0.here hx rfl (hb hby d_prog_37_method_3_code_1) rfl rfl ?_
    show Steps p.tables e below (s₁.setTop (mkF m 2 #[.val (.ref r0), .val (.long q1), .second, .unset, .unset] [(.ref r0), (.long q1)])) _
    refine st1 _ ?_
    show Steps p.tables e below (T1.setTop (mkF m 5 #[.val (.ref r0), .val (.long q1), .second, .unset, .unset] [(.long st), (.long q1)])) _
    refine XS.ldiv X1.here hx rfl (hb hby d_prog_37_method_3_code_5) rfl hst ?_
    show Steps p.tables e below (T1.setTop (mkF m 6 #[.val (.ref r0), .val (.long q1), .second, .unset, .unset] [(.long (q1 / st))])) _
    refine XS.lstoreN X1.here hx rfl (hb hby d_prog_37_method_3_code_6) rfl (l' := #[.val (.ref r0), .val (.long q1), .second, .val (.long (q1 / st)), .second]) rfl ?_
    show Steps p.tables e below (T1.setTop (mkF m 7 #[.val (.ref r0), .val (.long q1), .second, .val (.long (q1 / st)), .second] [])) _
    refine XS.aloadN X1.here hx rfl (hb hby d_prog_37_method_3_code_7) rfl rfl ?_
    show Steps p.tables e below (T1.setTop (mkF m 8 #[.val (.ref r0), .val (.long q1), .second, .val (.long (q1 / st)), .second] [(.ref r0)])) _
    refine XS.lloadN X1.here hx rfl (hb hby d_prog_37_method_3_code_8) rfl ?_
    show Steps p.tables e below (T1.setTop (mkF m 9 #[.val (.ref r0), .val (.long q1), .second, .val (.long (q1 / st)), .second] [(.long (q1 / st)), (.ref r0)])) _
    refine XS.aloadN X1.here hx rfl (hb hby d_prog_37_method_3_code_9) rfl rfl ?_
    show Steps p.tables e below (T1.setTop (mkF m 10 #[.val (.ref r0), .val (.long q1), .second, .val (.long (q1 / st)), .second] [(.ref r0), (.long (q1 / st)), (.ref r0)])) _
    refine st2 _ ?_
    show Steps p.tables e below (T2.setTop (mkF m 13 #[.val (.ref r0), .val (.long q1), .second, .val (.long (q1 / st)), .second] [(.long st), (.long (q1 / st)), (.ref r0)])) _
    refine XS.lmul X2.here hx rfl (hb hby d_prog_37_method_3_code_13) rfl ?_
    show Steps p.tables e below (T2.setTop (mkF m 14 #[.val (.ref r0), .val (.long q1), .second, .val (.long (q1 / st)), .second] [(.long ((q1 / st) * st)), (.ref r0)])) _
    refine st3 _ ?_
    show Steps p.tables e below (T3.setTop (mkF m 17 #[.val (.ref r0), .val (.long q1), .second, .val (.long (q1 / st)), .second] [])) _
    refine XS.aloadN X3.here hx rfl (hb hby d_prog_37_method_3_code_17) rfl rfl ?_
    show Steps p.tables e below (T3.setTop (mkF m 18 #[.val (.ref r0), .val (.long q1), .second, .val (.long (q1 / st)), .second] [(.ref r0)])) _
    refine XS.lloadN X3.here hx rfl (hb hby d_prog_37_method_3_code_18) rfl ?_
    show Steps p.tables e below (T3.setTop (mkF m 19 #[.val (.ref r0), .val (.long q1), .second, .val (.long (q1 / st)), .second] [(.long (q1 / st)), (.ref r0)])) _
    refine XS.aloadN X3.here hx rfl (hb hby d_prog_37_method_3_code_19) rfl rfl ?_
    show Steps p.tables e below (T3.setTop (mkF m 20 #[.val (.ref r0), .val (.long q1), .second, .val (.long (q1 / st)), .second] [(.ref r0), (.long (q1 / st)), (.ref r0)])) _
    refine st4 _ ?_
    show Steps p.tables e below (T4.setTop (mkF m 23 #[.val (.ref r0), .val (.long q1), .second, .val (.long (q1 / st)), .second] [(.ref ba), (.long (q1 / st)), (.ref r0)])) _
    refine X4.arraylength hx (by rw [e4]; exact Ar5.1) (State.isArrayOf_alike hZ.alike Ar5.2.1) (g := (mkF m 23 #[.val (.ref r0), .val (.long q1), .second, .val (.long (q1 / st)), .second] [(.ref ba), (.long (q1 / st)), (.ref r0)])) rfl rfl (hb hby d_prog_37_method_3_code_23) _ ?_
    rw [len_of S5 N5z]
    show Steps p.tables e below (T4.setTop (mkF m 24 #[.val (.ref r0), .val (.long q1), .second, .val (.long (q1 / st)), .second] [(.int nn), (.long (q1 / st)), (.ref r0)])) _
    refine XS.i2l X4.here hx rfl (hb hby d_prog_37_method_3_code_24) rfl ?_
    show Steps p.tables e below (T4.setTop (mkF m 25 #[.val (.ref r0), .val (.long q1), .second, .val (.long (q1 / st)), .second] [(.long (nn.toInt64)), (.long (q1 / st)), (.ref r0)])) _
    refine XS.lrem X4.here hx rfl (hb hby d_prog_37_method_3_code_25) rfl hnn ?_
    show Steps p.tables e below (T4.setTop (mkF m 26 #[.val (.ref r0), .val (.long q1), .second, .val (.long (q1 / st)), .second] [(.long ((q1 / st) - ((q1 / st) / (nn.toInt64)) * (nn.toInt64))), (.ref r0)])) _
    refine XS.l2i X4.here hx rfl (hb hby d_prog_37_method_3_code_26) rfl ?_
    show Steps p.tables e below (T4.setTop (mkF m 27 #[.val (.ref r0), .val (.long q1), .second, .val (.long (q1 / st)), .second] [(.int (((q1 / st) - ((q1 / st) / (nn.toInt64)) * (nn.toInt64)).toInt32)), (.ref r0)])) _
    refine st6 _ ?_
    show Steps p.tables e below (T6.setTop (mkF m 30 #[.val (.ref r0), .val (.long q1), .second, .val (.long (q1 / st)), .second] [])) _
    exact X6.returnOut hx Bd.returns (hb hby d_prog_37_method_3_code_30) hr
  ·
    show Q_rmM Z r0 q1 st sp ba ss sl kk nn vs h0 n0 _ T6.heap _
    rw [e6]
    exact ⟨rfl, N6, Kp, E_r0, F_slotTicks_r0, F_spanTicks_r0, F_buckets_r0, F_slotStart_r0, F_slot_r0⟩
theorem d_prog_37_method_1_code_45 : decode prog_37_method_1_code 45 = .ok (.iload 6, 2) := by decide +kernel
theorem d_prog_37_method_1_code_47 : decode prog_37_method_1_code 47 = .ok (.iload_n 3, 1) := by decide +kernel
theorem d_prog_37_method_1_code_48 : decode prog_37_method_1_code 48 = .ok (.if_icmp .ge 23, 3) := by decide +kernel
theorem d_prog_37_method_1_code_51 : decode prog_37_method_1_code 51 = .ok (.aload_n 0, 1) := by decide +kernel
theorem d_prog_37_method_1_code_52 : decode prog_37_method_1_code 52 = .ok (.getfield 22, 3) := by decide +kernel
theorem d_prog_37_method_1_code_55 : decode prog_37_method_1_code 55 = .ok (.iload 6, 2) := by decide +kernel
theorem d_prog_37_method_1_code_57 : decode prog_37_method_1_code 57 = .ok (.new 20, 3) := by decide +kernel
theorem d_prog_37_method_1_code_60 : decode prog_37_method_1_code 60 = .ok (.dup, 1) := by decide +kernel
theorem d_prog_37_method_1_code_61 : decode prog_37_method_1_code 61 = .ok (.invokespecial 26, 3) := by decide +kernel
theorem pd_2 : parseMethodDescriptor "()V" = some ⟨[], none⟩ := by decide +kernel
theorem d_prog_37_method_1_code_64 : decode prog_37_method_1_code 64 = .ok (.aastore, 1) := by decide +kernel
theorem d_prog_37_method_1_code_65 : decode prog_37_method_1_code 65 = .ok (.iinc 6 1, 3) := by decide +kernel
theorem d_prog_37_method_1_code_68 : decode prog_37_method_1_code 68 = .ok (.goto (-23), 3) := by decide +kernel
set_option maxRecDepth 65536 in
set_option maxHeartbeats 40000000 in
theorem tnW {p : Program} {l : Launch} {e : Env} {s : State} {m : MethodId} {args : Array Value} {below : List Frame} {meth : Method} {c : Code} {T0 : State} {locs : List Loc} {cells slots : Nat} {Z : State} {a0 : Array Value} {h0 : Heap} {n0 : Nat} (r0 : Addr) (q1 : Int64) (p2 : Int32) (q3 : Int64) (i : Int32) (w_NONE : Addr) (ba : Addr) (kk : ClassId) (vs : List Value)
    (X0 : Stand p l e ({ frames := 2, cells := 34, slots := 165, locals := 27 } : Room) s m args below meth c T0 locs cells slots) (hx : p.tables.exec = Jvm.exec) (hZ : Z.Warmed39 s.vm) (hw : ∀ d ∈ tables_1, d.before a0 Z = true) (hby : c.code = prog_37_method_1_code) (hml : c.maxLocals = 7) (hown : s.vm.findClass "com/example/lachesis/lachesis/timer/Wheel" = some m.cls) (e0 : T0.heap = h0) (Z0 : n0 ≤ h0.size) (N0 : Fr n0 locs) (S_NONE : Sta Z Z.heap "com/example/lachesis/lachesis/timer/Bucket" "NONE" "[Lcom/example/lachesis/lachesis/timer/TimerEntry;" (.ref w_NONE)) (OLD : Old Z n0 h0) (F_buckets_r0 : Fld Z h0 r0 "com/example/lachesis/lachesis/timer/Wheel" "buckets" "[Lcom/example/lachesis/lachesis/timer/Bucket;" (.ref ba)) (V_ba : Arv Z h0 ba kk (.object "com/example/lachesis/lachesis/timer/Bucket") p2 vs .null) (O_ba : Ovr Z kk "com/example/lachesis/lachesis/timer/Bucket") (g_ba : n0 ≤ ba) (ne_r0_ba : r0 ≠ ba) (hi0 : ¬ i < 0) (hlt : i < p2) (hlen : i.toNatClampNeg = vs.length) (hcap : cells + 1 ≤ ({ frames := 2, cells := 34, slots := 165, locals := 27 } : Room).cells) (hslo : slots + 4 ≤ ({ frames := 2, cells := 34, slots := 165, locals := 27 } : Room).slots) :
    ∃ (b : Addr) (T' : State) (h' : Heap) (locs' : List Loc), Stand p l e ({ frames := 2, cells := 34, slots := 165, locals := 27 } : Room) s m args below meth c T' locs' (cells + 1) (slots + 4) ∧ T'.heap = h' ∧ Fr n0 locs' ∧ n0 ≤ h'.size ∧ Keep h0 h' [ba] ∧ h0.size ≤ b ∧ Exa Z h' b "com/example/lachesis/lachesis/timer/Bucket" ∧ Arv Z h' ba kk (.object "com/example/lachesis/lachesis/timer/Bucket") p2 (vs ++ [Value.ref b]) .null ∧ ∀ t, Steps p.tables e below (T'.setTop (mkF m 45 #[.val (.ref r0), .val (.long q1), .second, .val (.int p2), .val (.long q3), .second, .val (.int (i + (1 : Int32)))] [])) t → Steps p.tables e below (T0.setTop (mkF m 45 #[.val (.ref r0), .val (.long q1), .second, .val (.int p2), .val (.long q3), .second, .val (.int i)] [])) t := by
  have Zn := Z0
  have K0 : ∀ t, Steps p.tables e below (T0.setTop (mkF m 45 #[.val (.ref r0), .val (.long q1), .second, .val (.int p2), .val (.long q3), .second, .val (.int i)] [])) t → Steps p.tables e below (T0.setTop (mkF m 45 #[.val (.ref r0), .val (.long q1), .second, .val (.int p2), .val (.long q3), .second, .val (.int i)] [])) t := fun t k => k
  have Kp : Keep h0 h0 [ba] := Keep.refl h0 [ba]
  have hc48 : i < p2 := hlt
  obtain ⟨T1, X1, e1, st1⟩ := getF X0 hx hZ hown (host := "") (Or.inl (hw _ (List.mem_of_getElem? (i := 24) rfl))) Via.refl e0 F_buckets_r0 (g := (mkF m 52 #[.val (.ref r0), .val (.long q1), .second, .val (.int p2), .val (.long q3), .second, .val (.int i)] [(.ref r0)])) rfl rfl (hb hby d_prog_37_method_1_code_52)
  obtain ⟨T2, h2, X2, e2, E2, A2, D2, -, st2⟩ := newO X1 hx hZ hown (hw _ (List.mem_of_getElem? (i := 22) rfl)) (hw _ (List.mem_of_getElem? (i := 26) rfl)) (hw _ (List.mem_of_getElem? (i := 27) rfl)) e1 (g := (mkF m 57 #[.val (.ref r0), .val (.long q1), .second, .val (.int p2), .val (.long q3), .second, .val (.int i)] [(.int i), (.ref ba)])) rfl (hb hby d_prog_37_method_1_code_57) hcap hslo
  obtain ⟨b2, g2⟩ : ∃ z, z = h0.size := ⟨_, rfl⟩
  rw [← g2] at A2 D2 st2
  have g_b2 : n0 ≤ b2 := Nat.le_trans Zn (Nat.le_of_eq g2.symm)
  have sz_b2 : h0.size ≤ b2 := Nat.le_trans Kp.1 (Nat.le_of_eq g2.symm)
  have ne_r0_b2 : r0 ≠ b2 := Nat.ne_of_lt (Nat.lt_of_lt_of_le F_buckets_r0.lt (Nat.le_of_eq g2.symm))
  have ne_ba_b2 : ba ≠ b2 := Nat.ne_of_lt (Nat.lt_of_lt_of_le V_ba.lt (Nat.le_of_eq g2.symm))
  replace OLD := OLD.ext E2
  replace F_buckets_r0 := F_buckets_r0.ext E2
  replace V_ba := V_ba.ext E2
  replace Zn := Nat.le_trans Zn E2.1
  have Kp := Kp.ext E2
  have E_b2 := A2
  have F_entries_b2 : Fld Z h2 b2 "com/example/lachesis/lachesis/timer/Bucket" "entries" "[Lcom/example/lachesis/lachesis/timer/TimerEntry;" .null := D2 (Or.inl (hw _ (List.mem_of_getElem? (i := 35) rfl))) (ty := (.array (.object "com/example/lachesis/lachesis/timer/TimerEntry"))) (by decide)
  obtain ⟨_, _, ⟨T3, L3, k3, n3⟩, -, X3, ⟨Lc3, hQ3, l3, y3, z3⟩, st3⟩ := X2.specialBack hx (y := (⟨"com/example/lachesis/lachesis/timer/Bucket", "<init>", "()V"⟩ : MethodName)) rfl hown (mvT hZ (hw _ (List.mem_of_getElem? (i := 28) rfl))) (mvT hZ (hw _ (List.mem_of_getElem? (i := 29) rfl))) (mvT hZ (hw _ (List.mem_of_getElem? (i := 30) rfl))) (by decide) (backOf (W := 3) (rmB l Z a0 hw [] b2 w_NONE h2 n0 Zn (S_NONE.ext OLD.2) E_b2 g_b2 F_entries_b2) hZ (hw _ (List.mem_of_getElem? (i := 30) rfl)) (hw _ (List.mem_of_getElem? (i := 27) rfl)) (by decide) (by decide)) (g := (mkF m 61 #[.val (.ref r0), .val (.long q1), .second, .val (.int p2), .val (.long q3), .second, .val (.int i)] [(.ref b2), (.ref b2), (.int i), (.ref ba)])) rfl (by rw [hml]; rfl) (Steps.refl _) (a := b2) (argsL := []) (rest := [(.ref b2), (.int i), (.ref ba)]) (lenOf pd_2 rfl) rfl (by show 2 * 0 + _ ≤ _; exact Nat.le_of_eq rfl) (hb hby d_prog_37_method_1_code_61) (fun _ _ => ⟨rfl, e2, hcap, hslo⟩)
  dsimp only [Pt.U, Pt.locs, Pt.cells, Pt.slots] at X3 l3 y3 z3 st3 hQ3
  subst l3 y3 z3
  obtain ⟨rfl, N3q, K3k, pf3_0⟩ := hQ3
  have N3 := Fr.app N0 N3q
  have OLD := OLD.keep K3k (allS g_b2 all0)
  have F_buckets_r0 := F_buckets_r0.keep K3k (ninS ne_r0_b2 nin0)
  have V_ba := V_ba.keep K3k (ninS ne_ba_b2 nin0)
  have E_b2 := E_b2.keep K3k
  have Kp := Kp.trans K3k (allS (Or.inr sz_b2) all0)
  replace Zn := Nat.le_trans Zn K3k.1
  have E_b2 := pf3_0
  have Vp := V_ba.pad (pad_rep vs .null 1)
  obtain ⟨cl4, Ar4, q4, S4, N4z, H4, G4⟩ := Vp
  have hin4 : ¬ (i < 0 ∨ cl4.slots.size ≤ (i).toNatClampNeg) := inb_of S4 ⟨hi0, hlt⟩
  obtain ⟨T4, h4, X4, e4, W4, st4⟩ := stR X3 hx hZ rfl Ar4 (j := i) hin4 rfl (Sto.ofV Ar4 q4 O_ba (Ins.self E_b2)) (g := (mkF m 64 #[.val (.ref r0), .val (.long q1), .second, .val (.int p2), .val (.long q3), .second, .val (.int i)] [(.ref b2), (.int i), (.ref ba)])) rfl rfl (hb hby d_prog_37_method_1_code_64)
  replace OLD := OLD.wr W4 g_ba
  replace F_buckets_r0 := F_buckets_r0.other W4 (Or.inl ne_r0_ba)
  replace E_b2 := E_b2.wr W4
  have V_ba : Arv Z h4 ba kk (.object "com/example/lachesis/lachesis/timer/Bucket") p2 (vs ++ [Value.ref b2]) .null := by
    have q := Arv.set Ar4 q4 S4 N4z H4 G4 rfl W4 vs.length hlen (by simp)
    rwa [own_set] at q
  have Kp := Kp.wr W4 (Or.inl (List.mem_of_getElem? (i := 0) rfl))
  replace Zn := Nat.le_trans Zn (Keep.of_wr W4).1
  have N4 := Fr.snoc X4 N3 g_ba
  have K5 : ∀ t, Steps p.tables e below (T4.setTop (mkF m 45 #[.val (.ref r0), .val (.long q1), .second, .val (.int p2), .val (.long q3), .second, .val (.int (i + (1 : Int32)))] [])) t → Steps p.tables e below (T0.setTop (mkF m 45 #[.val (.ref r0), .val (.long q1), .second, .val (.int p2), .val (.long q3), .second, .val (.int i)] [])) t := by
    intro t kt
    refine K0 t ?_
    show Steps p.tables e below (T0.setTop (mkF m 45 #[.val (.ref r0), .val (.long q1), .second, .val (.int p2), .val (.long q3), .second, .val (.int i)] [])) _
    refine XS.iload X0.here hx rfl (hb hby d_prog_37_method_1_code_45) rfl ?_
    show Steps p.tables e below (T0.setTop (mkF m 47 #[.val (.ref r0), .val (.long q1), .second, .val (.int p2), .val (.long q3), .second, .val (.int i)] [(.int i)])) _
    refine XS.iloadN X0.here hx rfl (hb hby d_prog_37_method_1_code_47) rfl ?_
    show Steps p.tables e below (T0.setTop (mkF m 48 #[.val (.ref r0), .val (.long q1), .second, .val (.int p2), .val (.long q3), .second, .val (.int i)] [(.int p2), (.int i)])) _
    refine XS.icmpNo X0.here hx rfl (hb hby d_prog_37_method_1_code_48) rfl (tlt hc48).2.1 ?_
    show Steps p.tables e below (T0.setTop (mkF m 51 #[.val (.ref r0), .val (.long q1), .second, .val (.int p2), .val (.long q3), .second, .val (.int i)] [])) _
    refine XS.aloadN X0.here hx rfl (hb hby d_prog_37_method_1_code_51) rfl rfl ?_
    show Steps p.tables e below (T0.setTop (mkF m 52 #[.val (.ref r0), .val (.long q1), .second, .val (.int p2), .val (.long q3), .second, .val (.int i)] [(.ref r0)])) _
    refine st1 _ ?_
    show Steps p.tables e below (T1.setTop (mkF m 55 #[.val (.ref r0), .val (.long q1), .second, .val (.int p2), .val (.long q3), .second, .val (.int i)] [(.ref ba)])) _
    refine XS.iload X1.here hx rfl (hb hby d_prog_37_method_1_code_55) rfl ?_
    show Steps p.tables e below (T1.setTop (mkF m 57 #[.val (.ref r0), .val (.long q1), .second, .val (.int p2), .val (.long q3), .second, .val (.int i)] [(.int i), (.ref ba)])) _
    refine st2 _ ?_
    show Steps p.tables e below (T2.setTop (mkF m 60 #[.val (.ref r0), .val (.long q1), .second, .val (.int p2), .val (.long q3), .second, .val (.int i)] [(.ref b2), (.int i), (.ref ba)])) _
    refine XS.dup X2.here hx rfl (hb hby d_prog_37_method_1_code_60) rfl rfl ?_
    show Steps p.tables e below (T2.setTop (mkF m 61 #[.val (.ref r0), .val (.long q1), .second, .val (.int p2), .val (.long q3), .second, .val (.int i)] [(.ref b2), (.ref b2), (.int i), (.ref ba)])) _
    refine st3.trans ?_
    show Steps p.tables e below (T3.setTop (mkF m 64 #[.val (.ref r0), .val (.long q1), .second, .val (.int p2), .val (.long q3), .second, .val (.int i)] [(.ref b2), (.int i), (.ref ba)])) _
    refine st4 _ ?_
    show Steps p.tables e below (T4.setTop (mkF m 65 #[.val (.ref r0), .val (.long q1), .second, .val (.int p2), .val (.long q3), .second, .val (.int i)] [])) _
    refine XS.iinc X4.here hx rfl (hb hby d_prog_37_method_1_code_65) rfl (l' := #[.val (.ref r0), .val (.long q1), .second, .val (.int p2), .val (.long q3), .second, .val (.int (i + (1 : Int32)))]) rfl ?_
    show Steps p.tables e below (T4.setTop (mkF m 68 #[.val (.ref r0), .val (.long q1), .second, .val (.int p2), .val (.long q3), .second, .val (.int (i + (1 : Int32)))] [])) _
    refine XS.goto X4.here hx rfl (pc0 := 68) (pc' := 45) rfl (hb hby d_prog_37_method_1_code_68) (by decide) (by decide) ?_
    exact kt
  exact ⟨b2, T4, _, _, X4, e4, N4, Zn, Kp, sz_b2, E_b2, V_ba, K5⟩
theorem loopW {p : Program} {l : Launch} {e : Env} {s : State} {m : MethodId} {args : Array Value} {below : List Frame} {meth : Method} {c : Code} {Z : State} {a0 : Array Value} {n0 : Nat} (r0 : Addr) (q1 : Int64) (p2 : Int32) (q3 : Int64) (w_NONE ba : Addr) (kk : ClassId)
    (hx : p.tables.exec = Jvm.exec) (hZ : Z.Warmed39 s.vm) (hw : ∀ d ∈ tables_1, d.before a0 Z = true) (hby : c.code = prog_37_method_1_code) (hml : c.maxLocals = 7) (hown : s.vm.findClass "com/example/lachesis/lachesis/timer/Wheel" = some m.cls)
    (S_NONE : Sta Z Z.heap "com/example/lachesis/lachesis/timer/Bucket" "NONE" "[Lcom/example/lachesis/lachesis/timer/TimerEntry;" (.ref w_NONE)) (O_ba : Ovr Z kk "com/example/lachesis/lachesis/timer/Bucket") (g_ba : n0 ≤ ba) (ne_r0_ba : r0 ≠ ba) (hp2 : ¬ p2 < 0) :
    ∀ (k : Nat) (i : Int32) (T0 : State) (locs : List Loc) (cells slots : Nat) (h0 : Heap) (bs : List Addr), Stand p l e ({ frames := 2, cells := 34, slots := 165, locals := 27 } : Room) s m args below meth c T0 locs cells slots → T0.heap = h0 → n0 ≤ h0.size → Fr n0 locs → Old Z n0 h0 → Fld Z h0 r0 "com/example/lachesis/lachesis/timer/Wheel" "buckets" "[Lcom/example/lachesis/lachesis/timer/Bucket;" (.ref ba) → Arv Z h0 ba kk (.object "com/example/lachesis/lachesis/timer/Bucket") p2 (bs.map Value.ref) .null → ¬ i < 0 → i.toNatClampNeg = bs.length → bs.length + k = p2.toNatClampNeg → (∀ x ∈ bs, Exa Z h0 x "com/example/lachesis/lachesis/timer/Bucket") → bs.Nodup → cells + k ≤ ({ frames := 2, cells := 34, slots := 165, locals := 27 } : Room).cells → slots + 4 * k ≤ ({ frames := 2, cells := 34, slots := 165, locals := 27 } : Room).slots →
    ∃ (T' : State) (h' : Heap) (locs' : List Loc) (bs' : List Addr), Stand p l e ({ frames := 2, cells := 34, slots := 165, locals := 27 } : Room) s m args below meth c T' locs' (cells + k) (slots + 4 * k) ∧ T'.heap = h' ∧ n0 ≤ h'.size ∧ Fr n0 locs' ∧ Keep h0 h' [ba] ∧ Arv Z h' ba kk (.object "com/example/lachesis/lachesis/timer/Bucket") p2 (bs'.map Value.ref) .null ∧ bs'.length = p2.toNatClampNeg ∧ (∀ x ∈ bs', Exa Z h' x "com/example/lachesis/lachesis/timer/Bucket") ∧ bs'.Nodup ∧ ∀ t, Steps p.tables e below (T'.setTop (mkF m 45 #[.val (.ref r0), .val (.long q1), .second, .val (.int p2), .val (.long q3), .second, .val (.int p2)] [])) t → Steps p.tables e below (T0.setTop (mkF m 45 #[.val (.ref r0), .val (.long q1), .second, .val (.int p2), .val (.long q3), .second, .val (.int i)] [])) t := by
  intro k
  induction k with
  | zero =>
    intro i T0 locs cells slots h0 bs X0 e0 Z0 N0 OLD F V hi0 hlen hsum hex hnd hc hs
    have hip : i = p2 := Int32.toInt_inj.mp (by rw [← own_nn hi0, ← own_nn hp2]; omega)
    subst hip
    exact ⟨T0, h0, locs, bs, X0, e0, Z0, N0, Keep.refl _ _, V, by omega, hex, hnd, fun t k => k⟩
  | succ k ih =>
    intro i T0 locs cells slots h0 bs X0 e0 Z0 N0 OLD F V hi0 hlen hsum hex hnd hc hs
    have u1 := own_nn hi0
    have u2 := own_nn hp2
    have hlt : i < p2 := by rw [Int32.lt_iff_toInt_lt]; omega
    obtain ⟨b, T1, h1, locs1, X1, e1, N1, Z1, K1, zb, Eb, V1, st1⟩ := tnW r0 q1 p2 q3 i w_NONE ba kk (bs.map Value.ref) X0 hx hZ hw hby hml hown e0 Z0 N0 S_NONE OLD F V O_ba g_ba ne_r0_ba hi0 hlt (by rw [hlen, List.length_map]) (by omega) (by omega)
    have k1 : (1 : Int32).toInt = 1 := by decide
    have up : (i + (1 : Int32)).toInt = i.toInt + 1 := by have := p2.toInt_lt; rw [Jvm.Kit.i32_add (by omega) (by omega), k1]
    have hi1 : ¬ (i + (1 : Int32)) < 0 := own_ge0.mpr (by omega)
    have u3 := own_nn hi1
    have V2 : Arv Z h1 ba kk (.object "com/example/lachesis/lachesis/timer/Bucket") p2 ((bs ++ [b]).map Value.ref) .null := by have q := V1; rwa [show List.map Value.ref bs ++ [Value.ref b] = List.map Value.ref (bs ++ [b]) by simp] at q
    obtain ⟨T2, h2, locs2, bs2, X2, e2, Z2, N2, K2, V3, L3, E3, D3, st2⟩ := ih (i + (1 : Int32)) T1 locs1 (cells + 1) (slots + 4) h1 (bs ++ [b]) X1 e1 Z1 N1 (OLD.keep K1 (allS g_ba all0)) (F.keep K1 (ninS ne_r0_ba nin0)) V2 hi1 (by rw [List.length_append, List.length_singleton]; omega) (by rw [List.length_append, List.length_singleton]; omega)
      (fun x hx' => (List.mem_append.mp hx').elim (fun q => (hex x q).keep K1) (fun q => by cases List.mem_singleton.mp q; exact Eb))
      (List.nodup_append.mpr ⟨hnd, by simp, fun x q y r => by cases List.mem_singleton.mp r; exact Nat.ne_of_lt (Nat.lt_of_lt_of_le (hex x q).lt zb)⟩) (by omega) (by omega)
    refine ⟨T2, h2, locs2, bs2, ?_, e2, Z2, N2, K1.trans K2 (allS (Or.inl (List.mem_singleton.mpr rfl)) all0), V3, L3, E3, D3, fun t k => st1 t (st2 t k)⟩
    have c1 : cells + (k + 1) = cells + 1 + k := by omega
    have c2 : slots + 4 * (k + 1) = slots + 4 + 4 * k := by omega
    rw [c1, c2]; exact X2
theorem d_prog_37_method_1_code_0 : decode prog_37_method_1_code 0 = .ok (.aload_n 0, 1) := by decide +kernel
theorem d_prog_37_method_1_code_1 : decode prog_37_method_1_code 1 = .ok (.invokespecial 1, 3) := by decide +kernel
theorem d_prog_37_method_1_code_4 : decode prog_37_method_1_code 4 = .ok (.aload_n 0, 1) := by decide +kernel
theorem d_prog_37_method_1_code_5 : decode prog_37_method_1_code 5 = .ok (.lload_n 1, 1) := by decide +kernel
theorem d_prog_37_method_1_code_6 : decode prog_37_method_1_code 6 = .ok (.putfield 7, 3) := by decide +kernel
theorem d_prog_37_method_1_code_9 : decode prog_37_method_1_code 9 = .ok (.aload_n 0, 1) := by decide +kernel
theorem d_prog_37_method_1_code_10 : decode prog_37_method_1_code 10 = .ok (.lload_n 1, 1) := by decide +kernel
theorem d_prog_37_method_1_code_11 : decode prog_37_method_1_code 11 = .ok (.ldc2_w 15, 3) := by decide +kernel
theorem d_prog_37_method_1_code_14 : decode prog_37_method_1_code 14 = .ok (.iload_n 3, 1) := by decide +kernel
theorem d_prog_37_method_1_code_15 : decode prog_37_method_1_code 15 = .ok (.i2l, 1) := by decide +kernel
theorem d_prog_37_method_1_code_16 : decode prog_37_method_1_code 16 = .ok (.ldiv, 1) := by decide +kernel
theorem d_prog_37_method_1_code_17 : decode prog_37_method_1_code 17 = .ok (.lcmp, 1) := by decide +kernel
theorem d_prog_37_method_1_code_18 : decode prog_37_method_1_code 18 = .ok (.ifCond .le 9, 3) := by decide +kernel
theorem d_prog_37_method_1_code_21 : decode prog_37_method_1_code 21 = .ok (.ldc2_w 15, 3) := by decide +kernel
theorem d_prog_37_method_1_code_24 : decode prog_37_method_1_code 24 = .ok (.goto 7, 3) := by decide +kernel
theorem d_prog_37_method_1_code_27 : decode prog_37_method_1_code 27 = .ok (.lload_n 1, 1) := by decide +kernel
theorem d_prog_37_method_1_code_28 : decode prog_37_method_1_code 28 = .ok (.iload_n 3, 1) := by decide +kernel
theorem d_prog_37_method_1_code_29 : decode prog_37_method_1_code 29 = .ok (.i2l, 1) := by decide +kernel
theorem d_prog_37_method_1_code_30 : decode prog_37_method_1_code 30 = .ok (.lmul, 1) := by decide +kernel
theorem d_prog_37_method_1_code_31 : decode prog_37_method_1_code 31 = .ok (.putfield 17, 3) := by decide +kernel
theorem d_prog_37_method_1_code_34 : decode prog_37_method_1_code 34 = .ok (.aload_n 0, 1) := by decide +kernel
theorem d_prog_37_method_1_code_35 : decode prog_37_method_1_code 35 = .ok (.iload_n 3, 1) := by decide +kernel
theorem d_prog_37_method_1_code_36 : decode prog_37_method_1_code 36 = .ok (.anewarray 20, 3) := by decide +kernel
theorem d_prog_37_method_1_code_39 : decode prog_37_method_1_code 39 = .ok (.putfield 22, 3) := by decide +kernel
theorem d_prog_37_method_1_code_42 : decode prog_37_method_1_code 42 = .ok (.iconst 0, 1) := by decide +kernel
theorem d_prog_37_method_1_code_43 : decode prog_37_method_1_code 43 = .ok (.istore 6, 2) := by decide +kernel
theorem d_prog_37_method_1_code_71 : decode prog_37_method_1_code 71 = .ok (.aload_n 0, 1) := by decide +kernel
theorem d_prog_37_method_1_code_72 : decode prog_37_method_1_code 72 = .ok (.lload 4, 2) := by decide +kernel
theorem d_prog_37_method_1_code_74 : decode prog_37_method_1_code 74 = .ok (.invokevirtual 27, 3) := by decide +kernel
theorem pd_3 : parseMethodDescriptor "(J)V" = some ⟨[.long], none⟩ := by decide +kernel
theorem d_prog_37_method_1_code_77 : decode prog_37_method_1_code 77 = .ok (.return_, 1) := by decide +kernel
theorem ef_rmW (m : MethodId) (x0 : Addr) (x1 : Int64) (x2 : Int32) (x3 : Int64) : entryFrame m #[(.ref x0), (.long x1), (.int x2), (.long x3)] 7 = mkF m 0 #[.val (.ref x0), .val (.long x1), .second, .val (.int x2), .val (.long x3), .second, .unset] [] := by first | (simp [entryFrame, mkF, argsToLocals, Value.category]; done) | rfl
def Q_rmW (Z : State) (r0 : Addr) (q1 : Int64) (p2 : Int32) (q3 : Int64) (w_NONE : Addr) (h0 : Heap) (n0 : Nat) (v : Option Value) (h : Heap) (L : List Loc) : Prop := ∃ (ba : Addr) (kk : ClassId) (bs : List Addr), v = none ∧ Fr n0 L ∧ Keep h0 h [r0] ∧ n0 ≤ ba ∧ h0.size ≤ ba ∧ ba ≠ r0 ∧ bs.length = p2.toNatClampNeg ∧ bs.Nodup ∧ (∀ x ∈ bs, Exa Z h x "com/example/lachesis/lachesis/timer/Bucket") ∧ Arv Z h ba kk (.object "com/example/lachesis/lachesis/timer/Bucket") p2 (bs.map Value.ref) .null ∧ Exa Z h r0 "com/example/lachesis/lachesis/timer/Wheel" ∧ Fld Z h r0 "com/example/lachesis/lachesis/timer/Wheel" "slotTicks" "J" (.long q1) ∧ Fld Z h r0 "com/example/lachesis/lachesis/timer/Wheel" "spanTicks" "J" (.long (own_span q1 p2)) ∧ Fld Z h r0 "com/example/lachesis/lachesis/timer/Wheel" "buckets" "[Lcom/example/lachesis/lachesis/timer/Bucket;" (.ref ba) ∧ Fld Z h r0 "com/example/lachesis/lachesis/timer/Wheel" "slotStart" "J" (.long ((q3 / q1) * q1)) ∧ Fld Z h r0 "com/example/lachesis/lachesis/timer/Wheel" "slot" "I" (.int (own_slot q3 q1 p2))
set_option maxRecDepth 65536 in
set_option maxHeartbeats 40000000 in
theorem rmW (l : Launch) (Z : State) (a0 : Array Value) (hw : ∀ d ∈ tables_1, d.before a0 Z = true) (ws : List Jvm.Cond) (r0 : Addr) (q1 : Int64) (p2 : Int32) (q3 : Int64) (w_NONE : Addr) (h0 : Heap) (n0 : Nat) (Z0 : n0 ≤ h0.size) (S_NONE : Sta Z Z.heap "com/example/lachesis/lachesis/timer/Bucket" "NONE" "[Lcom/example/lachesis/lachesis/timer/TimerEntry;" (.ref w_NONE)) (OLD : Old Z n0 h0) (E_r0 : Exa Z h0 r0 "com/example/lachesis/lachesis/timer/Wheel") (g_r0 : n0 ≤ r0) (F_slotTicks_r0 : Fld Z h0 r0 "com/example/lachesis/lachesis/timer/Wheel" "slotTicks" "J" (.long (0 : Int64))) (F_spanTicks_r0 : Fld Z h0 r0 "com/example/lachesis/lachesis/timer/Wheel" "spanTicks" "J" (.long (0 : Int64))) (F_buckets_r0 : Fld Z h0 r0 "com/example/lachesis/lachesis/timer/Wheel" "buckets" "[Lcom/example/lachesis/lachesis/timer/Bucket;" .null) (F_slotStart_r0 : Fld Z h0 r0 "com/example/lachesis/lachesis/timer/Wheel" "slotStart" "J" (.long (0 : Int64))) (F_slot_r0 : Fld Z h0 r0 "com/example/lachesis/lachesis/timer/Wheel" "slot" "I" (.int (0 : Int32))) (hq1 : 1 ≤ q1.toInt) (hp2 : 2 ≤ p2.toInt ∧ p2.toInt ≤ 33) :
    MetFree l (⟨"com/example/lachesis/lachesis/timer/Wheel", "<init>", "(JIJ)V"⟩ : MethodName) (head1 (Jvm.Cond.code (⟨"com/example/lachesis/lachesis/timer/Wheel", "<init>", "(JIJ)V"⟩ : MethodName) prog_37_method_1_code 7 none :: ws) ({ frames := 2, cells := 34, slots := 165, locals := 27 } : Room)) (fun a U => a = #[(.ref r0), (.long q1), (.int p2), (.long q3)] ∧ Z.Warmed39 U.vm ∧ U.heap = h0) (fun _ _ _ _ _ => True) (fun _ U o U' => ∃ v L, o = .returned v ∧ Q_rmW Z r0 q1 p2 q3 w_NONE h0 n0 v U'.heap L ∧ FrameEnd U o U' L ({ frames := 2, cells := 34, slots := 165, locals := 27 } : Room).cells ({ frames := 2, cells := 34, slots := 165, locals := 27 } : Room).slots) := by
  refine MetFree.of_bodySF (plainFor_of_name pn_1) hisR ?_
  intro p e s m args below meth c s₁ Bd hml0 hP hK
  obtain ⟨rfl, hZ, hh⟩ := hP
  have hx := Bd.exec
  have hby := Bd.bytes
  have hml : c.maxLocals = 7 := hml0
  have hown : s.vm.findClass "com/example/lachesis/lachesis/timer/Wheel" = some m.cls := findClass_of_methodNamed Bd.named
  have hnm := (name_of_methodNamed Bd.named Bd.method).1
  have hlk : meth.locks = false := by first | exact BodyLoose.notSynchronized (by assumption) | exact Body.notSynchronized (by assumption) | assumption
  have X0 : Stand p l e ({ frames := 2, cells := 34, slots := 165, locals := 27 } : Room) s m #[(.ref r0), (.long q1), (.int p2), (.long q3)] below meth c s₁ [] 0 0 := Stand.of_body Bd
  have e0 : s₁.heap = h0 := by rw [← hh, Bd.state]; rfl
  have N0 := Fr.nil n0
  have Zn := Z0
  have K0 : ∀ t, Steps p.tables e below (s₁.setTop (mkF m 0 #[.val (.ref r0), .val (.long q1), .second, .val (.int p2), .val (.long q3), .second, .unset] [])) t → Steps p.tables e below (s₁.setTop (entryFrame m #[(.ref r0), (.long q1), (.int p2), (.long q3)] 7)) t := fun t k => castTop (ef_rmW m r0 q1 p2 q3) k
  have Kp : Keep h0 h0 [r0] := Keep.refl h0 [r0]
  have hp20 : ¬ p2 < 0 := own_ge0.mpr (by omega)
  have hp2n := own_nn hp20
  obtain ⟨T1, X1, e1, st1⟩ := initO X0 hx hZ hown (hw _ (List.mem_of_getElem? (i := 14) rfl)) (hw _ (List.mem_of_getElem? (i := 15) rfl)) (hw _ (List.mem_of_getElem? (i := 16) rfl)) e0 (g := (mkF m 1 #[.val (.ref r0), .val (.long q1), .second, .val (.int p2), .val (.long q3), .second, .unset] [(.ref r0)])) rfl (by rw [hml]; rfl) rfl (hb hby d_prog_37_method_1_code_1) (by decide) (W := 0) (by show 2 * 0 + _ ≤ _; exact Nat.le_of_eq rfl) (by decide)
  obtain ⟨T2, h2, X2, e2, W2, st2⟩ := putF X1 hx hZ hown (host := "") (Or.inl (hw _ (List.mem_of_getElem? (i := 17) rfl))) Via.refl e1 F_slotTicks_r0 E_r0 (Or.inr ⟨(hw _ (List.mem_of_getElem? (i := 18) rfl)), rfl, hnm⟩) (hw _ (List.mem_of_getElem? (i := 9) rfl)) (ty := .long) (by decide) rfl rfl (g := (mkF m 6 #[.val (.ref r0), .val (.long q1), .second, .val (.int p2), .val (.long q3), .second, .unset] [(.long q1), (.ref r0)])) rfl rfl (hb hby d_prog_37_method_1_code_6)
  replace OLD := OLD.wr W2 g_r0
  replace E_r0 := E_r0.wr W2
  replace F_spanTicks_r0 := F_spanTicks_r0.other W2 (Or.inr (slot_ne (Or.inr (hw _ (List.mem_of_getElem? (i := 21) rfl))) (Or.inr (hw _ (List.mem_of_getElem? (i := 18) rfl))) (by decide) (t := .long) (t' := .long) (by decide) (by decide)))
  replace F_buckets_r0 := F_buckets_r0.other W2 (Or.inr (slot_ne (Or.inr (hw _ (List.mem_of_getElem? (i := 25) rfl))) (Or.inr (hw _ (List.mem_of_getElem? (i := 18) rfl))) (by decide) (t := (.array (.object "com/example/lachesis/lachesis/timer/Bucket"))) (t' := .long) (by decide) (by decide)))
  replace F_slotStart_r0 := F_slotStart_r0.other W2 (Or.inr (slot_ne (Or.inl (hw _ (List.mem_of_getElem? (i := 43) rfl))) (Or.inr (hw _ (List.mem_of_getElem? (i := 18) rfl))) (by decide) (t := .long) (t' := .long) (by decide) (by decide)))
  replace F_slot_r0 := F_slot_r0.other W2 (Or.inr (slot_ne (Or.inl (hw _ (List.mem_of_getElem? (i := 45) rfl))) (Or.inr (hw _ (List.mem_of_getElem? (i := 18) rfl))) (by decide) (t := .int) (t' := .long) (by decide) (by decide)))
  have F_slotTicks_r0 := F_slotTicks_r0.same W2
  have N2 := Fr.snoc X2 N0 g_r0
  have Kp := Kp.wr W2 (Or.inl (List.mem_of_getElem? (i := 0) rfl))
  replace Zn := Nat.le_trans Zn (Keep.of_wr W2).1
  have K3 : ∀ t, Steps p.tables e below (T2.setTop (mkF m 9 #[.val (.ref r0), .val (.long q1), .second, .val (.int p2), .val (.long q3), .second, .unset] [])) t → Steps p.tables e below (s₁.setTop (entryFrame m #[(.ref r0), (.long q1), (.int p2), (.long q3)] 7)) t := by
    intro t kt
    refine K0 t ?_
    show Steps p.tables e below (s₁.setTop (mkF m 0 #[.val (.ref r0), .val (.long q1), .second, .val (.int p2), .val (.long q3), .second, .unset] [])) _
    refine XS.aloadN X0.here hx rfl (hb hby d_prog_37_method_1_code_0) rfl rfl ?_
    show Steps p.tables e below (s₁.setTop (mkF m 1 #[.val (.ref r0), .val (.long q1), .second, .val (.int p2), .val (.long q3), .second, .unset] [(.ref r0)])) _
    refine st1 _ ?_
    show Steps p.tables e below (T1.setTop (mkF m 4 #[.val (.ref r0), .val (.long q1), .second, .val (.int p2), .val (.long q3), .second, .unset] [])) _
    refine XS.aloadN X1.here hx rfl (hb hby d_prog_37_method_1_code_4) rfl rfl ?_
    show Steps p.tables e below (T1.setTop (mkF m 5 #[.val (.ref r0), .val (.long q1), .second, .val (.int p2), .val (.long q3), .second, .unset] [(.ref r0)])) _
    refine XS.lloadN X1.here hx rfl (hb hby d_prog_37_method_1_code_5) rfl ?_
    show Steps p.tables e below (T1.setTop (mkF m 6 #[.val (.ref r0), .val (.long q1), .second, .val (.int p2), .val (.long q3), .second, .unset] [(.long q1), (.ref r0)])) _
    refine st2 _ ?_
    exact kt
  obtain ⟨T4, lc4, sp, X4, N4, e4, P4, K4j⟩ : ∃ (T' : State) (lc' : List Loc) (sp : Int64), Stand p l e ({ frames := 2, cells := 34, slots := 165, locals := 27 } : Room) s m #[(.ref r0), (.long q1), (.int p2), (.long q3)] below meth c T' lc' 0 0 ∧ Fr n0 lc' ∧ T'.heap = h2 ∧ (sp = own_span q1 p2) ∧ ∀ t, Steps p.tables e below (T'.setTop (mkF m 31 #[.val (.ref r0), .val (.long q1), .second, .val (.int p2), .val (.long q3), .second, .unset] [(.long sp), (.ref r0)])) t → Steps p.tables e below (s₁.setTop (entryFrame m #[(.ref r0), (.long q1), (.int p2), (.long q3)] 7)) t := by
    have K5 : ∀ t, Steps p.tables e below (T2.setTop (mkF m 18 #[.val (.ref r0), .val (.long q1), .second, .val (.int p2), .val (.long q3), .second, .unset] [(.int (lcmpW q1 ((9223372036854775807 : Int64) / (p2.toInt64)))), (.ref r0)])) t → Steps p.tables e below (s₁.setTop (entryFrame m #[(.ref r0), (.long q1), (.int p2), (.long q3)] 7)) t := by
      intro t kt
      refine K3 t ?_
      show Steps p.tables e below (T2.setTop (mkF m 9 #[.val (.ref r0), .val (.long q1), .second, .val (.int p2), .val (.long q3), .second, .unset] [])) _
      refine XS.aloadN X2.here hx rfl (hb hby d_prog_37_method_1_code_9) rfl rfl ?_
      show Steps p.tables e below (T2.setTop (mkF m 10 #[.val (.ref r0), .val (.long q1), .second, .val (.int p2), .val (.long q3), .second, .unset] [(.ref r0)])) _
      refine XS.lloadN X2.here hx rfl (hb hby d_prog_37_method_1_code_10) rfl ?_
      show Steps p.tables e below (T2.setTop (mkF m 11 #[.val (.ref r0), .val (.long q1), .second, .val (.int p2), .val (.long q3), .second, .unset] [(.long q1), (.ref r0)])) _
      refine X2.ldc2Long hx hown (mvT hZ (hw _ (List.mem_of_getElem? (i := 19) rfl))) (g := (mkF m 11 #[.val (.ref r0), .val (.long q1), .second, .val (.int p2), .val (.long q3), .second, .unset] [(.long q1), (.ref r0)])) rfl (hb hby d_prog_37_method_1_code_11) _ ?_
      show Steps p.tables e below (T2.setTop (mkF m 14 #[.val (.ref r0), .val (.long q1), .second, .val (.int p2), .val (.long q3), .second, .unset] [(.long (9223372036854775807 : Int64)), (.long q1), (.ref r0)])) _
      refine XS.iloadN X2.here hx rfl (hb hby d_prog_37_method_1_code_14) rfl ?_
      show Steps p.tables e below (T2.setTop (mkF m 15 #[.val (.ref r0), .val (.long q1), .second, .val (.int p2), .val (.long q3), .second, .unset] [(.int p2), (.long (9223372036854775807 : Int64)), (.long q1), (.ref r0)])) _
      refine XS.i2l X2.here hx rfl (hb hby d_prog_37_method_1_code_15) rfl ?_
      show Steps p.tables e below (T2.setTop (mkF m 16 #[.val (.ref r0), .val (.long q1), .second, .val (.int p2), .val (.long q3), .second, .unset] [(.long (p2.toInt64)), (.long (9223372036854775807 : Int64)), (.long q1), (.ref r0)])) _
      refine XS.ldiv X2.here hx rfl (hb hby d_prog_37_method_1_code_16) rfl (own_nz64 hp2.1) ?_
      show Steps p.tables e below (T2.setTop (mkF m 17 #[.val (.ref r0), .val (.long q1), .second, .val (.int p2), .val (.long q3), .second, .unset] [(.long ((9223372036854775807 : Int64) / (p2.toInt64))), (.long q1), (.ref r0)])) _
      refine XS.lcmp X2.here hx rfl (hb hby d_prog_37_method_1_code_17) rfl ?_
      exact kt
    by_cases hc18 : (0 : Int32) < (lcmpW q1 ((9223372036854775807 : Int64) / (p2.toInt64)))
    ·
      have K6 : ∀ t, Steps p.tables e below (T2.setTop (mkF m 31 #[.val (.ref r0), .val (.long q1), .second, .val (.int p2), .val (.long q3), .second, .unset] [(.long (9223372036854775807 : Int64)), (.ref r0)])) t → Steps p.tables e below (s₁.setTop (entryFrame m #[(.ref r0), (.long q1), (.int p2), (.long q3)] 7)) t := by
        intro t kt
        refine K5 t ?_
        show Steps p.tables e below (T2.setTop (mkF m 18 #[.val (.ref r0), .val (.long q1), .second, .val (.int p2), .val (.long q3), .second, .unset] [(.int (lcmpW q1 ((9223372036854775807 : Int64) / (p2.toInt64)))), (.ref r0)])) _
        refine XS.ifNo X2.here hx rfl (hb hby d_prog_37_method_1_code_18) rfl ((if0 _ _).trans (tlt hc18).2.2.2) ?_
        show Steps p.tables e below (T2.setTop (mkF m 21 #[.val (.ref r0), .val (.long q1), .second, .val (.int p2), .val (.long q3), .second, .unset] [(.ref r0)])) _
        refine X2.ldc2Long hx hown (mvT hZ (hw _ (List.mem_of_getElem? (i := 19) rfl))) (g := (mkF m 21 #[.val (.ref r0), .val (.long q1), .second, .val (.int p2), .val (.long q3), .second, .unset] [(.ref r0)])) rfl (hb hby d_prog_37_method_1_code_21) _ ?_
        show Steps p.tables e below (T2.setTop (mkF m 24 #[.val (.ref r0), .val (.long q1), .second, .val (.int p2), .val (.long q3), .second, .unset] [(.long (9223372036854775807 : Int64)), (.ref r0)])) _
        refine XS.goto X2.here hx rfl (pc0 := 24) (pc' := 31) rfl (hb hby d_prog_37_method_1_code_24) (by decide) (by decide) ?_
        exact kt
      exact ⟨T2, _, (9223372036854775807 : Int64), X2, N2, e2, (by simp only [own_span, hc18, if_true, if_false]), K6⟩
    ·
      have K7 : ∀ t, Steps p.tables e below (T2.setTop (mkF m 31 #[.val (.ref r0), .val (.long q1), .second, .val (.int p2), .val (.long q3), .second, .unset] [(.long (q1 * (p2.toInt64))), (.ref r0)])) t → Steps p.tables e below (s₁.setTop (entryFrame m #[(.ref r0), (.long q1), (.int p2), (.long q3)] 7)) t := by
        intro t kt
        refine K5 t ?_
        show Steps p.tables e below (T2.setTop (mkF m 18 #[.val (.ref r0), .val (.long q1), .second, .val (.int p2), .val (.long q3), .second, .unset] [(.int (lcmpW q1 ((9223372036854775807 : Int64) / (p2.toInt64)))), (.ref r0)])) _
        refine XS.ifYes X2.here hx rfl (pc0 := 18) (pc' := 27) rfl (hb hby d_prog_37_method_1_code_18) rfl ((if0 _ _).trans (flt hc18).2.2.2) (by decide) (by decide) ?_
        show Steps p.tables e below (T2.setTop (mkF m 27 #[.val (.ref r0), .val (.long q1), .second, .val (.int p2), .val (.long q3), .second, .unset] [(.ref r0)])) _
        refine XS.lloadN X2.here hx rfl (hb hby d_prog_37_method_1_code_27) rfl ?_
        show Steps p.tables e below (T2.setTop (mkF m 28 #[.val (.ref r0), .val (.long q1), .second, .val (.int p2), .val (.long q3), .second, .unset] [(.long q1), (.ref r0)])) _
        refine XS.iloadN X2.here hx rfl (hb hby d_prog_37_method_1_code_28) rfl ?_
        show Steps p.tables e below (T2.setTop (mkF m 29 #[.val (.ref r0), .val (.long q1), .second, .val (.int p2), .val (.long q3), .second, .unset] [(.int p2), (.long q1), (.ref r0)])) _
        refine XS.i2l X2.here hx rfl (hb hby d_prog_37_method_1_code_29) rfl ?_
        show Steps p.tables e below (T2.setTop (mkF m 30 #[.val (.ref r0), .val (.long q1), .second, .val (.int p2), .val (.long q3), .second, .unset] [(.long (p2.toInt64)), (.long q1), (.ref r0)])) _
        refine XS.lmul X2.here hx rfl (hb hby d_prog_37_method_1_code_30) rfl ?_
        exact kt
      exact ⟨T2, _, (q1 * (p2.toInt64)), X2, N2, e2, (by simp only [own_span, hc18, if_true, if_false]), K7⟩
  have hsp := P4
  obtain ⟨T8, h8, X8, e8, W8, st8⟩ := putF X4 hx hZ hown (host := "") (Or.inl (hw _ (List.mem_of_getElem? (i := 20) rfl))) Via.refl e4 F_spanTicks_r0 E_r0 (Or.inr ⟨(hw _ (List.mem_of_getElem? (i := 21) rfl)), rfl, hnm⟩) (hw _ (List.mem_of_getElem? (i := 9) rfl)) (ty := .long) (by decide) rfl rfl (g := (mkF m 31 #[.val (.ref r0), .val (.long q1), .second, .val (.int p2), .val (.long q3), .second, .unset] [(.long sp), (.ref r0)])) rfl rfl (hb hby d_prog_37_method_1_code_31)
  replace OLD := OLD.wr W8 g_r0
  replace E_r0 := E_r0.wr W8
  replace F_slotTicks_r0 := F_slotTicks_r0.other W8 (Or.inr (slot_ne (Or.inr (hw _ (List.mem_of_getElem? (i := 18) rfl))) (Or.inr (hw _ (List.mem_of_getElem? (i := 21) rfl))) (by decide) (t := .long) (t' := .long) (by decide) (by decide)))
  replace F_buckets_r0 := F_buckets_r0.other W8 (Or.inr (slot_ne (Or.inr (hw _ (List.mem_of_getElem? (i := 25) rfl))) (Or.inr (hw _ (List.mem_of_getElem? (i := 21) rfl))) (by decide) (t := (.array (.object "com/example/lachesis/lachesis/timer/Bucket"))) (t' := .long) (by decide) (by decide)))
  replace F_slotStart_r0 := F_slotStart_r0.other W8 (Or.inr (slot_ne (Or.inl (hw _ (List.mem_of_getElem? (i := 43) rfl))) (Or.inr (hw _ (List.mem_of_getElem? (i := 21) rfl))) (by decide) (t := .long) (t' := .long) (by decide) (by decide)))
  replace F_slot_r0 := F_slot_r0.other W8 (Or.inr (slot_ne (Or.inl (hw _ (List.mem_of_getElem? (i := 45) rfl))) (Or.inr (hw _ (List.mem_of_getElem? (i := 21) rfl))) (by decide) (t := .int) (t' := .long) (by decide) (by decide)))
  have F_spanTicks_r0 := F_spanTicks_r0.same W8
  have N8 := Fr.snoc X8 N4 g_r0
  have Kp := Kp.wr W8 (Or.inl (List.mem_of_getElem? (i := 0) rfl))
  replace Zn := Nat.le_trans Zn (Keep.of_wr W8).1
  obtain ⟨T9, h9, k9, X9, e9, E9, A9, O9, st9⟩ := newR X8 hx hZ hown (hw _ (List.mem_of_getElem? (i := 22) rfl)) (hw _ (List.mem_of_getElem? (i := 23) rfl)) e8 (g := (mkF m 36 #[.val (.ref r0), .val (.long q1), .second, .val (.int p2), .val (.long q3), .second, .unset] [(.int p2), (.ref r0)])) rfl (hb hby d_prog_37_method_1_code_36) rfl hp20 (cap := 33) (by omega) (by decide) (by decide) (by decide)
  obtain ⟨b9, g9⟩ : ∃ z, z = h8.size := ⟨_, rfl⟩
  rw [← g9] at A9 st9
  have g_b9 : n0 ≤ b9 := Nat.le_trans Zn (Nat.le_of_eq g9.symm)
  have sz_b9 : h0.size ≤ b9 := Nat.le_trans Kp.1 (Nat.le_of_eq g9.symm)
  have ne_r0_b9 : r0 ≠ b9 := Nat.ne_of_lt (Nat.lt_of_lt_of_le E_r0.lt (Nat.le_of_eq g9.symm))
  replace OLD := OLD.ext E9
  replace E_r0 := E_r0.ext E9
  replace F_slotTicks_r0 := F_slotTicks_r0.ext E9
  replace F_spanTicks_r0 := F_spanTicks_r0.ext E9
  replace F_buckets_r0 := F_buckets_r0.ext E9
  replace F_slotStart_r0 := F_slotStart_r0.ext E9
  replace F_slot_r0 := F_slot_r0.ext E9
  replace Zn := Nat.le_trans Zn E9.1
  have Kp := Kp.ext E9
  have V_b9 : Arv Z h9 b9 k9 (.object "com/example/lachesis/lachesis/timer/Bucket") p2 [] .null := Arv.new A9 hp20
  obtain ⟨T10, h10, X10, e10, W10, st10⟩ := putF X9 hx hZ hown (host := "") (Or.inl (hw _ (List.mem_of_getElem? (i := 24) rfl))) Via.refl e9 F_buckets_r0 E_r0 (Or.inr ⟨(hw _ (List.mem_of_getElem? (i := 25) rfl)), rfl, hnm⟩) (hw _ (List.mem_of_getElem? (i := 9) rfl)) (ty := (.array (.object "com/example/lachesis/lachesis/timer/Bucket"))) (by decide) rfl rfl (g := (mkF m 39 #[.val (.ref r0), .val (.long q1), .second, .val (.int p2), .val (.long q3), .second, .unset] [(.ref b9), (.ref r0)])) rfl rfl (hb hby d_prog_37_method_1_code_39)
  replace OLD := OLD.wr W10 g_r0
  replace E_r0 := E_r0.wr W10
  replace F_slotTicks_r0 := F_slotTicks_r0.other W10 (Or.inr (slot_ne (Or.inr (hw _ (List.mem_of_getElem? (i := 18) rfl))) (Or.inr (hw _ (List.mem_of_getElem? (i := 25) rfl))) (by decide) (t := .long) (t' := (.array (.object "com/example/lachesis/lachesis/timer/Bucket"))) (by decide) (by decide)))
  replace F_spanTicks_r0 := F_spanTicks_r0.other W10 (Or.inr (slot_ne (Or.inr (hw _ (List.mem_of_getElem? (i := 21) rfl))) (Or.inr (hw _ (List.mem_of_getElem? (i := 25) rfl))) (by decide) (t := .long) (t' := (.array (.object "com/example/lachesis/lachesis/timer/Bucket"))) (by decide) (by decide)))
  replace F_slotStart_r0 := F_slotStart_r0.other W10 (Or.inr (slot_ne (Or.inl (hw _ (List.mem_of_getElem? (i := 43) rfl))) (Or.inr (hw _ (List.mem_of_getElem? (i := 25) rfl))) (by decide) (t := .long) (t' := (.array (.object "com/example/lachesis/lachesis/timer/Bucket"))) (by decide) (by decide)))
  replace F_slot_r0 := F_slot_r0.other W10 (Or.inr (slot_ne (Or.inl (hw _ (List.mem_of_getElem? (i := 45) rfl))) (Or.inr (hw _ (List.mem_of_getElem? (i := 25) rfl))) (by decide) (t := .int) (t' := (.array (.object "com/example/lachesis/lachesis/timer/Bucket"))) (by decide) (by decide)))
  replace V_b9 := V_b9.other W10 (Ne.symm ne_r0_b9)
  have F_buckets_r0 := F_buckets_r0.same W10
  have N10 := Fr.snoc X10 N8 g_r0
  have Kp := Kp.wr W10 (Or.inl (List.mem_of_getElem? (i := 0) rfl))
  replace Zn := Nat.le_trans Zn (Keep.of_wr W10).1
  have K11 : ∀ t, Steps p.tables e below (T10.setTop (mkF m 45 #[.val (.ref r0), .val (.long q1), .second, .val (.int p2), .val (.long q3), .second, .val (.int (0 : Int32))] [])) t → Steps p.tables e below (s₁.setTop (entryFrame m #[(.ref r0), (.long q1), (.int p2), (.long q3)] 7)) t := by
    intro t kt
    refine K4j t ?_
    show Steps p.tables e below (T4.setTop (mkF m 31 #[.val (.ref r0), .val (.long q1), .second, .val (.int p2), .val (.long q3), .second, .unset] [(.long sp), (.ref r0)])) _
    refine st8 _ ?_
    show Steps p.tables e below (T8.setTop (mkF m 34 #[.val (.ref r0), .val (.long q1), .second, .val (.int p2), .val (.long q3), .second, .unset] [])) _
    refine XS.aloadN X8.here hx rfl (hb hby d_prog_37_method_1_code_34) rfl rfl ?_
    show Steps p.tables e below (T8.setTop (mkF m 35 #[.val (.ref r0), .val (.long q1), .second, .val (.int p2), .val (.long q3), .second, .unset] [(.ref r0)])) _
    refine XS.iloadN X8.here hx rfl (hb hby d_prog_37_method_1_code_35) rfl ?_
    show Steps p.tables e below (T8.setTop (mkF m 36 #[.val (.ref r0), .val (.long q1), .second, .val (.int p2), .val (.long q3), .second, .unset] [(.int p2), (.ref r0)])) _
    refine st9 _ ?_
    show Steps p.tables e below (T9.setTop (mkF m 39 #[.val (.ref r0), .val (.long q1), .second, .val (.int p2), .val (.long q3), .second, .unset] [(.ref b9), (.ref r0)])) _
    refine st10 _ ?_
    show Steps p.tables e below (T10.setTop (mkF m 42 #[.val (.ref r0), .val (.long q1), .second, .val (.int p2), .val (.long q3), .second, .unset] [])) _
    refine XS.iconst X10.here hx rfl (hb hby d_prog_37_method_1_code_42) ?_
    show Steps p.tables e below (T10.setTop (mkF m 43 #[.val (.ref r0), .val (.long q1), .second, .val (.int p2), .val (.long q3), .second, .unset] [(.int (0 : Int32))])) _
    refine XS.istore X10.here hx rfl (hb hby d_prog_37_method_1_code_43) rfl (l' := #[.val (.ref r0), .val (.long q1), .second, .val (.int p2), .val (.long q3), .second, .val (.int (0 : Int32))]) rfl ?_
    exact kt
  obtain ⟨T12, h12, lc12, bs, X12, e12, Zn, N12L, KL, V_b9, hbl, hbe, hbn, stL⟩ := loopW r0 q1 p2 q3 w_NONE b9 k9 hx hZ hw hby hml hown S_NONE O9 g_b9 ne_r0_b9 hp20 p2.toNatClampNeg (0 : Int32) T10 _ _ _ h10 [] X10 e10 Zn N10 OLD F_buckets_r0 V_b9 (by decide) rfl (by simp) (fun x q => by cases q) List.nodup_nil (by show _ ≤ 34; omega) (by show _ ≤ 165; omega)
  have OLD := OLD.keep KL (allS g_b9 all0)
  have E_r0 := E_r0.keep KL
  have F_slotTicks_r0 := F_slotTicks_r0.keep KL (ninS ne_r0_b9 nin0)
  have F_spanTicks_r0 := F_spanTicks_r0.keep KL (ninS ne_r0_b9 nin0)
  have F_buckets_r0 := F_buckets_r0.keep KL (ninS ne_r0_b9 nin0)
  have F_slotStart_r0 := F_slotStart_r0.keep KL (ninS ne_r0_b9 nin0)
  have F_slot_r0 := F_slot_r0.keep KL (ninS ne_r0_b9 nin0)
  have Kp := Kp.trans KL (allS (Or.inr sz_b9) all0)
  have X_bs : own_exs Z h12 bs := hbe
  have K13 : ∀ t, Steps p.tables e below (T12.setTop (mkF m 45 #[.val (.ref r0), .val (.long q1), .second, .val (.int p2), .val (.long q3), .second, .val (.int p2)] [])) t → Steps p.tables e below (s₁.setTop (entryFrame m #[(.ref r0), (.long q1), (.int p2), (.long q3)] 7)) t := fun t k => K11 t (stL t k)
  have hc48 : ¬ (p2 < p2) := (own_irr p2)
  obtain ⟨cq14, kq14, q14a, q14b, q14c⟩ := isOf hZ e12 E_r0
  obtain ⟨_, _, ⟨T14, L14, k14, n14⟩, -, X14, ⟨Lc14, hQ14, l14, y14, z14⟩, st14⟩ := X12.virtualBack hx (y := (⟨"com/example/lachesis/lachesis/timer/Wheel", "moveTo", "(J)V"⟩ : MethodName)) (z := (⟨"com/example/lachesis/lachesis/timer/Wheel", "moveTo", "(J)V"⟩ : MethodName)) hown (mvT hZ (hw _ (List.mem_of_getElem? (i := 37) rfl))) (mvT hZ (hw _ (List.mem_of_getElem? (i := 38) rfl))) (notFace_of_selects (args := #[]) (mvT hZ (hw _ (List.mem_of_getElem? (i := 40) rfl)))) (mvT hZ (hw _ (List.mem_of_getElem? (i := 40) rfl))) (mvT hZ (hw _ (List.mem_of_getElem? (i := 39) rfl))) (by decide) (backOf (W := 0) (rmM l Z a0 hw [] r0 q3 q1 sp b9 (0 : Int64) (0 : Int32) k9 p2 (bs.map Value.ref) h12 n0 Zn E_r0 g_r0 (Ne.symm ne_r0_b9) F_slotTicks_r0 F_spanTicks_r0 F_buckets_r0 F_slotStart_r0 F_slot_r0 V_b9 (own_nzst hq1) (own_nz64 hp2.1)) hZ (hw _ (List.mem_of_getElem? (i := 41) rfl)) (hw _ (List.mem_of_getElem? (i := 10) rfl)) (by decide) (by decide)) q14a q14c (g := (mkF m 74 #[.val (.ref r0), .val (.long q1), .second, .val (.int p2), .val (.long q3), .second, .val (.int p2)] [(.long q3), (.ref r0)])) rfl (by rw [hml]; rfl) (Steps.refl _) (argsL := [(.long q3)]) (rest := []) (lenOf pd_3 rfl) rfl (by show 2 * 0 + _ ≤ _; exact Nat.le_of_eq rfl) (hb hby d_prog_37_method_1_code_74) (fun _ _ => ⟨rfl, e12, (by show (0 + 1 + p2.toNatClampNeg) + 0 ≤ 34; omega), (by show (0 + 33 + 4 * p2.toNatClampNeg) + 0 ≤ 165; omega)⟩)
  dsimp only [Pt.U, Pt.locs, Pt.cells, Pt.slots] at X14 l14 y14 z14 st14 hQ14
  subst l14 y14 z14
  obtain ⟨rfl, N14q, K14k, pf14_0, pf14_1, pf14_2, pf14_3, pf14_4, pf14_5⟩ := hQ14
  have N14 := Fr.app N12L N14q
  have OLD := OLD.keep K14k (allS g_r0 all0)
  have E_r0 := E_r0.keep K14k
  have V_b9 := V_b9.keep K14k (ninS (Ne.symm ne_r0_b9) nin0)
  have X_bs := X_bs.keep K14k
  have Kp := Kp.trans K14k (allS (Or.inl (List.mem_of_getElem? (i := 0) rfl)) all0)
  replace Zn := Nat.le_trans Zn K14k.1
  have E_r0 := pf14_0
  have F_slotTicks_r0 := pf14_1
  have F_spanTicks_r0 := pf14_2
  have F_buckets_r0 := pf14_3
  have F_slotStart_r0 := pf14_4
  have F_slot_r0 := pf14_5
  obtain ⟨fs, hr, hrun, hended, hW, hsame⟩ := X14.leave (v := none) (fun _ => rfl) hlk
  refine ⟨_, _, K13 _ ?_, hrun, hended, _, _, rfl, ?_, ⟨_, rfl⟩, hW, hsame.mono (by show _ ≤ 34; omega) (by show _ ≤ 165; omega)⟩
  ·
    show Steps p.tables e below (T12.setTop (mkF m 45 #[.val (.ref r0), .val (.long q1), .second, .val (.int p2), .val (.long q3), .second, .val (.int p2)] [])) _
    refine XS.iload X12.here hx rfl (hb hby d_prog_37_method_1_code_45) rfl ?_
    show Steps p.tables e below (T12.setTop (mkF m 47 #[.val (.ref r0), .val (.long q1), .second, .val (.int p2), .val (.long q3), .second, .val (.int p2)] [(.int p2)])) _
    refine XS.iloadN X12.here hx rfl (hb hby d_prog_37_method_1_code_47) rfl ?_
    show Steps p.tables e below (T12.setTop (mkF m 48 #[.val (.ref r0), .val (.long q1), .second, .val (.int p2), .val (.long q3), .second, .val (.int p2)] [(.int p2), (.int p2)])) _
    refine XS.icmpYes X12.here hx rfl (pc0 := 48) (pc' := 71) rfl (hb hby d_prog_37_method_1_code_48) rfl (flt hc48).2.1 (by decide) (by decide) ?_
    show Steps p.tables e below (T12.setTop (mkF m 71 #[.val (.ref r0), .val (.long q1), .second, .val (.int p2), .val (.long q3), .second, .val (.int p2)] [])) _
    refine XS.aloadN X12.here hx rfl (hb hby d_prog_37_method_1_code_71) rfl rfl ?_
    show Steps p.tables e below (T12.setTop (mkF m 72 #[.val (.ref r0), .val (.long q1), .second, .val (.int p2), .val (.long q3), .second, .val (.int p2)] [(.ref r0)])) _
    refine XS.lload X12.here hx rfl (hb hby d_prog_37_method_1_code_72) rfl ?_
    show Steps p.tables e below (T12.setTop (mkF m 74 #[.val (.ref r0), .val (.long q1), .second, .val (.int p2), .val (.long q3), .second, .val (.int p2)] [(.long q3), (.ref r0)])) _
    refine st14.trans ?_
    show Steps p.tables e below (T14.setTop (mkF m 77 #[.val (.ref r0), .val (.long q1), .second, .val (.int p2), .val (.long q3), .second, .val (.int p2)] [])) _
    exact X14.returnOut hx Bd.returns (hb hby d_prog_37_method_1_code_77) hr
  ·
    show Q_rmW Z r0 q1 p2 q3 w_NONE h0 n0 _ T14.heap _
    exact ⟨b9, k9, bs, rfl, N14, Kp, g_b9, sz_b9, (Ne.symm ne_r0_b9), hbl, hbn, X_bs, V_b9, E_r0, F_slotTicks_r0, (hsp ▸ F_spanTicks_r0), F_buckets_r0, F_slotStart_r0, F_slot_r0⟩
theorem own_slotI {t st : Int64} {nn : Int32} (h : 1 ≤ st.toInt ∧ 0 ≤ t.toInt) (hn : 2 ≤ nn.toInt) : (own_slot t st nn).toInt = t.toInt / st.toInt % nn.toInt := by
  have e : (t / st).toInt = t.toInt / st.toInt := by rw [Jvm.Kit.i64_div (by omega), Int.tdiv_eq_ediv_of_nonneg h.2]
  have p0 : 0 ≤ t.toInt / st.toInt := Int.ediv_nonneg h.2 (by omega)
  have n1 : (nn.toInt64).toInt = nn.toInt := Jvm.Kit.i64_of_i32 nn
  have u := nn.toInt_lt
  have q : ((t / st) - ((t / st) / (nn.toInt64)) * (nn.toInt64)).toInt = t.toInt / st.toInt % nn.toInt := by rw [Jvm.Kit.i64_rem_nonneg (by rw [e]; exact p0), e, n1]
  have b1 := Int.emod_nonneg (t.toInt / st.toInt) (b := nn.toInt) (by omega)
  have b2 := Int.emod_lt_of_pos (t.toInt / st.toInt) (b := nn.toInt) (by omega)
  unfold own_slot
  rw [Jvm.Kit.i32_of_i64 (by rw [q]; omega) (by rw [q]; omega), q]
theorem own_slotB {t st : Int64} {nn : Int32} (h : 1 ≤ st.toInt ∧ 0 ≤ t.toInt) (hn : 2 ≤ nn.toInt) : 0 ≤ (own_slot t st nn).toInt ∧ (own_slot t st nn).toInt < nn.toInt := by
  rw [own_slotI h hn]
  exact ⟨Int.emod_nonneg _ (by omega), Int.emod_lt_of_pos _ (by omega)⟩
def own_ix (sl : Int32) (q : Int64) (nn : Int32) : Int32 := if (sl + (q.toInt32)) < nn then (sl + (q.toInt32)) else ((sl + (q.toInt32)) - nn)
theorem own_idx0 {sl e nn : Int32} (h : sl = 0) (be : 0 ≤ e.toInt ∧ e.toInt < nn.toInt) : own_ix sl (e.toInt64) nn = e := by
  have e1 : (e.toInt64).toInt32 = e := by
    apply Int32.toInt_inj.mp
    have g : (e.toInt64).toInt = e.toInt := Jvm.Kit.i64_of_i32 e
    have u := e.toInt_lt
    rw [Jvm.Kit.i32_of_i64 (by rw [g]; omega) (by rw [g]; omega), g]
  subst h
  unfold own_ix
  rw [e1, Int32.zero_add, if_pos (by rw [Int32.lt_iff_toInt_lt]; omega)]
theorem own_idx1 {sl e nn : Int32} (h : sl = e) (be : 0 ≤ e.toInt ∧ e.toInt < nn.toInt) : own_ix sl (0 : Int64) nn = e := by
  subst h
  unfold own_ix
  rw [show (0 : Int64).toInt32 = 0 by decide, Int32.add_zero, if_pos (by rw [Int32.lt_iff_toInt_lt]; omega)]
theorem own_getref (ws : List Addr) (n : Nat) (h : n < ws.length) : (ws.map Value.ref).getD n .null = .ref (ws.getD n 0) := by
  simp [List.getD_eq_getElem?_getD, List.getElem?_map, h]
theorem own_inb {e nn : Int32} (be : 0 ≤ e.toInt ∧ e.toInt < nn.toInt) : ¬ e < 0 ∧ e < nn := ⟨own_ge0.mpr be.1, by rw [Int32.lt_iff_toInt_lt]; exact be.2⟩
theorem own_inl {e nn : Int32} (be : 0 ≤ e.toInt ∧ e.toInt < nn.toInt) : e.toNatClampNeg < nn.toNatClampNeg := by
  have u := own_nn (own_inb be).1
  have v := own_nn (own_ge0.mpr (by omega : 0 ≤ nn.toInt))
  omega
theorem d_prog_37_method_5_code_0 : decode prog_37_method_5_code 0 = .ok (.aload_n 0, 1) := by decide +kernel
theorem d_prog_37_method_5_code_1 : decode prog_37_method_5_code 1 = .ok (.getfield 34, 3) := by decide +kernel
theorem d_prog_37_method_5_code_4 : decode prog_37_method_5_code 4 = .ok (.lload_n 1, 1) := by decide +kernel
theorem d_prog_37_method_5_code_5 : decode prog_37_method_5_code 5 = .ok (.l2i, 1) := by decide +kernel
theorem d_prog_37_method_5_code_6 : decode prog_37_method_5_code 6 = .ok (.iadd, 1) := by decide +kernel
theorem d_prog_37_method_5_code_7 : decode prog_37_method_5_code 7 = .ok (.istore_n 3, 1) := by decide +kernel
theorem d_prog_37_method_5_code_8 : decode prog_37_method_5_code 8 = .ok (.aload_n 0, 1) := by decide +kernel
theorem d_prog_37_method_5_code_9 : decode prog_37_method_5_code 9 = .ok (.getfield 22, 3) := by decide +kernel
theorem d_prog_37_method_5_code_12 : decode prog_37_method_5_code 12 = .ok (.iload_n 3, 1) := by decide +kernel
theorem d_prog_37_method_5_code_13 : decode prog_37_method_5_code 13 = .ok (.aload_n 0, 1) := by decide +kernel
theorem d_prog_37_method_5_code_14 : decode prog_37_method_5_code 14 = .ok (.getfield 22, 3) := by decide +kernel
theorem d_prog_37_method_5_code_17 : decode prog_37_method_5_code 17 = .ok (.arraylength, 1) := by decide +kernel
theorem d_prog_37_method_5_code_18 : decode prog_37_method_5_code 18 = .ok (.if_icmp .ge 7, 3) := by decide +kernel
theorem d_prog_37_method_5_code_21 : decode prog_37_method_5_code 21 = .ok (.iload_n 3, 1) := by decide +kernel
theorem d_prog_37_method_5_code_22 : decode prog_37_method_5_code 22 = .ok (.goto 10, 3) := by decide +kernel
theorem d_prog_37_method_5_code_32 : decode prog_37_method_5_code 32 = .ok (.aaload, 1) := by decide +kernel
theorem d_prog_37_method_5_code_33 : decode prog_37_method_5_code 33 = .ok (.areturn, 1) := by decide +kernel
theorem d_prog_37_method_5_code_25 : decode prog_37_method_5_code 25 = .ok (.iload_n 3, 1) := by decide +kernel
theorem d_prog_37_method_5_code_26 : decode prog_37_method_5_code 26 = .ok (.aload_n 0, 1) := by decide +kernel
theorem d_prog_37_method_5_code_27 : decode prog_37_method_5_code 27 = .ok (.getfield 22, 3) := by decide +kernel
theorem d_prog_37_method_5_code_30 : decode prog_37_method_5_code 30 = .ok (.arraylength, 1) := by decide +kernel
theorem d_prog_37_method_5_code_31 : decode prog_37_method_5_code 31 = .ok (.isub, 1) := by decide +kernel
theorem ef_rmK (m : MethodId) (x0 : Addr) (x1 : Int64) : entryFrame m #[(.ref x0), (.long x1)] 4 = mkF m 0 #[.val (.ref x0), .val (.long x1), .second, .unset] [] := by first | (simp [entryFrame, mkF, argsToLocals, Value.category]; done) | rfl
def Q_rmK (Z : State) (r0 : Addr) (q1 : Int64) (sl : Int32) (ba : Addr) (kk : ClassId) (nn : Int32) (bs : List Addr) (ix : Int32) (h0 : Heap) (n0 : Nat) (v : Option Value) (h : Heap) (L : List Loc) : Prop := v = some (.ref (bs.getD ix.toNatClampNeg 0)) ∧ Fr n0 L ∧ h = h0
set_option maxRecDepth 65536 in
set_option maxHeartbeats 40000000 in
theorem rmK (l : Launch) (Z : State) (a0 : Array Value) (hw : ∀ d ∈ tables_1, d.before a0 Z = true) (ws : List Jvm.Cond) (r0 : Addr) (q1 : Int64) (sl : Int32) (ba : Addr) (kk : ClassId) (nn : Int32) (bs : List Addr) (ix : Int32) (h0 : Heap) (n0 : Nat) (Z0 : n0 ≤ h0.size) (F_slot_r0 : Fld Z h0 r0 "com/example/lachesis/lachesis/timer/Wheel" "slot" "I" (.int sl)) (F_buckets_r0 : Fld Z h0 r0 "com/example/lachesis/lachesis/timer/Wheel" "buckets" "[Lcom/example/lachesis/lachesis/timer/Bucket;" (.ref ba)) (V_ba : Arv Z h0 ba kk (.object "com/example/lachesis/lachesis/timer/Bucket") nn (bs.map Value.ref) .null) (hbl : bs.length = nn.toNatClampNeg) (be : 0 ≤ ix.toInt ∧ ix.toInt < nn.toInt) (hix0 : own_ix sl q1 nn = ix) :
    MetFree l (⟨"com/example/lachesis/lachesis/timer/Wheel", "bucket", "(J)Lcom/example/lachesis/lachesis/timer/Bucket;"⟩ : MethodName) (head1 (Jvm.Cond.code (⟨"com/example/lachesis/lachesis/timer/Wheel", "bucket", "(J)Lcom/example/lachesis/lachesis/timer/Bucket;"⟩ : MethodName) prog_37_method_5_code 4 (some (.object "com/example/lachesis/lachesis/timer/Bucket")) :: ws) ({ frames := 0, cells := 0, slots := 0, locals := 0 } : Room)) (fun a U => a = #[(.ref r0), (.long q1)] ∧ Z.Warmed39 U.vm ∧ U.heap = h0) (fun _ _ _ _ _ => True) (fun _ U o U' => ∃ v L, o = .returned v ∧ Q_rmK Z r0 q1 sl ba kk nn bs ix h0 n0 v U'.heap L ∧ FrameEnd U o U' L ({ frames := 0, cells := 0, slots := 0, locals := 0 } : Room).cells ({ frames := 0, cells := 0, slots := 0, locals := 0 } : Room).slots) := by
  refine MetFree.of_bodySF (plainFor_of_name pn_1) hisR ?_
  intro p e s m args below meth c s₁ Bd hml0 hP hK
  obtain ⟨rfl, hZ, hh⟩ := hP
  have hx := Bd.exec
  have hby := Bd.bytes
  have hml : c.maxLocals = 4 := hml0
  have hown : s.vm.findClass "com/example/lachesis/lachesis/timer/Wheel" = some m.cls := findClass_of_methodNamed Bd.named
  have hnm := (name_of_methodNamed Bd.named Bd.method).1
  have hlk : meth.locks = false := by first | exact BodyLoose.notSynchronized (by assumption) | exact Body.notSynchronized (by assumption) | assumption
  have X0 : Stand p l e ({ frames := 0, cells := 0, slots := 0, locals := 0 } : Room) s m #[(.ref r0), (.long q1)] below meth c s₁ [] 0 0 := Stand.of_body Bd
  have e0 : s₁.heap = h0 := by rw [← hh, Bd.state]; rfl
  have N0 := Fr.nil n0
  have Zn := Z0
  have K0 : ∀ t, Steps p.tables e below (s₁.setTop (mkF m 0 #[.val (.ref r0), .val (.long q1), .second, .unset] [])) t → Steps p.tables e below (s₁.setTop (entryFrame m #[(.ref r0), (.long q1)] 4)) t := fun t k => castTop (ef_rmK m r0 q1) k
  obtain ⟨T1, X1, e1, st1⟩ := getF X0 hx hZ hown (host := "") (Or.inl (hw _ (List.mem_of_getElem? (i := 44) rfl))) Via.refl e0 F_slot_r0 (g := (mkF m 1 #[.val (.ref r0), .val (.long q1), .second, .unset] [(.ref r0)])) rfl rfl (hb hby d_prog_37_method_5_code_1)
  obtain ⟨T2, X2, e2, st2⟩ := getF X1 hx hZ hown (host := "") (Or.inl (hw _ (List.mem_of_getElem? (i := 24) rfl))) Via.refl e1 F_buckets_r0 (g := (mkF m 9 #[.val (.ref r0), .val (.long q1), .second, .val (.int (sl + (q1.toInt32)))] [(.ref r0)])) rfl rfl (hb hby d_prog_37_method_5_code_9)
  obtain ⟨T3, X3, e3, st3⟩ := getF X2 hx hZ hown (host := "") (Or.inl (hw _ (List.mem_of_getElem? (i := 24) rfl))) Via.refl e2 F_buckets_r0 (g := (mkF m 14 #[.val (.ref r0), .val (.long q1), .second, .val (.int (sl + (q1.toInt32)))] [(.ref r0), (.int (sl + (q1.toInt32))), (.ref ba)])) rfl rfl (hb hby d_prog_37_method_5_code_14)
  have Vq4 := V_ba
  obtain ⟨cl4, Ar4, -, S4, N4z, -, -⟩ := Vq4
  have K5 : ∀ t, Steps p.tables e below (T3.setTop (mkF m 18 #[.val (.ref r0), .val (.long q1), .second, .val (.int (sl + (q1.toInt32)))] [(.int nn), (.int (sl + (q1.toInt32))), (.ref ba)])) t → Steps p.tables e below (s₁.setTop (entryFrame m #[(.ref r0), (.long q1)] 4)) t := by
    intro t kt
    refine K0 t ?_
    show Steps p.tables e below (s₁.setTop (mkF m 0 #[.val (.ref r0), .val (.long q1), .second, .unset] [])) _
    refine XS.aloadN X0.here hx rfl (hb hby d_prog_37_method_5_code_0) rfl rfl ?_
    show Steps p.tables e below (s₁.setTop (mkF m 1 #[.val (.ref r0), .val (.long q1), .second, .unset] [(.ref r0)])) _
    refine st1 _ ?_
    show Steps p.tables e below (T1.setTop (mkF m 4 #[.val (.ref r0), .val (.long q1), .second, .unset] [(.int sl)])) _
    refine XS.lloadN X1.here hx rfl (hb hby d_prog_37_method_5_code_4) rfl ?_
    show Steps p.tables e below (T1.setTop (mkF m 5 #[.val (.ref r0), .val (.long q1), .second, .unset] [(.long q1), (.int sl)])) _
    refine XS.l2i X1.here hx rfl (hb hby d_prog_37_method_5_code_5) rfl ?_
    show Steps p.tables e below (T1.setTop (mkF m 6 #[.val (.ref r0), .val (.long q1), .second, .unset] [(.int (q1.toInt32)), (.int sl)])) _
    refine XS.iadd X1.here hx rfl (hb hby d_prog_37_method_5_code_6) rfl ?_
    show Steps p.tables e below (T1.setTop (mkF m 7 #[.val (.ref r0), .val (.long q1), .second, .unset] [(.int (sl + (q1.toInt32)))])) _
    refine XS.istoreN X1.here hx rfl (hb hby d_prog_37_method_5_code_7) rfl (l' := #[.val (.ref r0), .val (.long q1), .second, .val (.int (sl + (q1.toInt32)))]) rfl ?_
    show Steps p.tables e below (T1.setTop (mkF m 8 #[.val (.ref r0), .val (.long q1), .second, .val (.int (sl + (q1.toInt32)))] [])) _
    refine XS.aloadN X1.here hx rfl (hb hby d_prog_37_method_5_code_8) rfl rfl ?_
    show Steps p.tables e below (T1.setTop (mkF m 9 #[.val (.ref r0), .val (.long q1), .second, .val (.int (sl + (q1.toInt32)))] [(.ref r0)])) _
    refine st2 _ ?_
    show Steps p.tables e below (T2.setTop (mkF m 12 #[.val (.ref r0), .val (.long q1), .second, .val (.int (sl + (q1.toInt32)))] [(.ref ba)])) _
    refine XS.iloadN X2.here hx rfl (hb hby d_prog_37_method_5_code_12) rfl ?_
    show Steps p.tables e below (T2.setTop (mkF m 13 #[.val (.ref r0), .val (.long q1), .second, .val (.int (sl + (q1.toInt32)))] [(.int (sl + (q1.toInt32))), (.ref ba)])) _
    refine XS.aloadN X2.here hx rfl (hb hby d_prog_37_method_5_code_13) rfl rfl ?_
    show Steps p.tables e below (T2.setTop (mkF m 14 #[.val (.ref r0), .val (.long q1), .second, .val (.int (sl + (q1.toInt32)))] [(.ref r0), (.int (sl + (q1.toInt32))), (.ref ba)])) _
    refine st3 _ ?_
    show Steps p.tables e below (T3.setTop (mkF m 17 #[.val (.ref r0), .val (.long q1), .second, .val (.int (sl + (q1.toInt32)))] [(.ref ba), (.int (sl + (q1.toInt32))), (.ref ba)])) _
    refine X3.arraylength hx (by rw [e3]; exact Ar4.1) (State.isArrayOf_alike hZ.alike Ar4.2.1) (g := (mkF m 17 #[.val (.ref r0), .val (.long q1), .second, .val (.int (sl + (q1.toInt32)))] [(.ref ba), (.int (sl + (q1.toInt32))), (.ref ba)])) rfl rfl (hb hby d_prog_37_method_5_code_17) _ ?_
    rw [len_of S4 N4z]
    exact kt
  by_cases hc18 : (sl + (q1.toInt32)) < nn
  ·
    have K6 : ∀ t, Steps p.tables e below (T3.setTop (mkF m 32 #[.val (.ref r0), .val (.long q1), .second, .val (.int (sl + (q1.toInt32)))] [(.int (sl + (q1.toInt32))), (.ref ba)])) t → Steps p.tables e below (s₁.setTop (entryFrame m #[(.ref r0), (.long q1)] 4)) t := by
      intro t kt
      refine K5 t ?_
      show Steps p.tables e below (T3.setTop (mkF m 18 #[.val (.ref r0), .val (.long q1), .second, .val (.int (sl + (q1.toInt32)))] [(.int nn), (.int (sl + (q1.toInt32))), (.ref ba)])) _
      refine XS.icmpNo X3.here hx rfl (hb hby d_prog_37_method_5_code_18) rfl (tlt hc18).2.1 ?_
      show Steps p.tables e below (T3.setTop (mkF m 21 #[.val (.ref r0), .val (.long q1), .second, .val (.int (sl + (q1.toInt32)))] [(.ref ba)])) _
      refine XS.iloadN X3.here hx rfl (hb hby d_prog_37_method_5_code_21) rfl ?_
      show Steps p.tables e below (T3.setTop (mkF m 22 #[.val (.ref r0), .val (.long q1), .second, .val (.int (sl + (q1.toInt32)))] [(.int (sl + (q1.toInt32))), (.ref ba)])) _
      refine XS.goto X3.here hx rfl (pc0 := 22) (pc' := 32) rfl (hb hby d_prog_37_method_5_code_22) (by decide) (by decide) ?_
      exact kt
    have hix : (sl + (q1.toInt32)) = ix := by have z := hix0; unfold own_ix at z; rwa [if_pos hc18] at z
    rw [hix] at K6
    have Vq7 := V_ba
    obtain ⟨cl7, Ar7, q7, S7, N7z, H7, G7⟩ := Vq7
    have hin7 : ¬ (ix < 0 ∨ cl7.slots.size ≤ (ix).toNatClampNeg) := inb_of S7 (own_inb be)
    have hat7 : cl7.slots[(ix).toNatClampNeg]? = some (.ref (bs.getD ix.toNatClampNeg 0)) := Has.at H7 hin7 (own_getref bs _ (by rw [hbl]; exact own_inl be))
    obtain ⟨fs, hr, hrun, hended, hW, hsame⟩ := X3.leave (v := some (.ref (bs.getD ix.toNatClampNeg 0))) (fun h => by rw [Bd.returns] at h; cases h) hlk
    refine ⟨_, _, K6 _ ?_, hrun, hended, _, _, rfl, ?_, ⟨_, rfl⟩, hW, hsame.mono (by decide) (by decide)⟩
    ·
      show Steps p.tables e below (T3.setTop (mkF m 32 #[.val (.ref r0), .val (.long q1), .second, .val (.int ix)] [(.int ix), (.ref ba)])) _
      refine X3.aaload hx (j := ix) (v := (.ref (bs.getD ix.toNatClampNeg 0))) (by rw [e3]; exact Ar7.1) (State.isArrayOf_alike hZ.alike Ar7.2.1) rfl Ar7.2.2 hin7 hat7 (g := (mkF m 32 #[.val (.ref r0), .val (.long q1), .second, .val (.int ix)] [(.int ix), (.ref ba)])) rfl rfl (hb hby d_prog_37_method_5_code_32) _ ?_
      show Steps p.tables e below (T3.setTop (mkF m 33 #[.val (.ref r0), .val (.long q1), .second, .val (.int ix)] [(.ref (bs.getD ix.toNatClampNeg 0))])) _
      exact retOut X3 hx Bd.returns rfl (Or.inr (Or.inr (Or.inr (Or.inr ⟨rfl, rfl, rfl⟩)))) (hb hby d_prog_37_method_5_code_33) hr
    ·
      show Q_rmK Z r0 q1 sl ba kk nn bs ix h0 n0 _ T3.heap _
      rw [e3]
      exact ⟨rfl, N0, rfl⟩
  ·
    obtain ⟨T8, X8, e8, st8⟩ := getF X3 hx hZ hown (host := "") (Or.inl (hw _ (List.mem_of_getElem? (i := 24) rfl))) Via.refl e3 F_buckets_r0 (g := (mkF m 27 #[.val (.ref r0), .val (.long q1), .second, .val (.int (sl + (q1.toInt32)))] [(.ref r0), (.int (sl + (q1.toInt32))), (.ref ba)])) rfl rfl (hb hby d_prog_37_method_5_code_27)
    have Vq9 := V_ba
    obtain ⟨cl9, Ar9, -, S9, N9z, -, -⟩ := Vq9
    have K10 : ∀ t, Steps p.tables e below (T8.setTop (mkF m 32 #[.val (.ref r0), .val (.long q1), .second, .val (.int (sl + (q1.toInt32)))] [(.int ((sl + (q1.toInt32)) - nn)), (.ref ba)])) t → Steps p.tables e below (s₁.setTop (entryFrame m #[(.ref r0), (.long q1)] 4)) t := by
      intro t kt
      refine K5 t ?_
      show Steps p.tables e below (T3.setTop (mkF m 18 #[.val (.ref r0), .val (.long q1), .second, .val (.int (sl + (q1.toInt32)))] [(.int nn), (.int (sl + (q1.toInt32))), (.ref ba)])) _
      refine XS.icmpYes X3.here hx rfl (pc0 := 18) (pc' := 25) rfl (hb hby d_prog_37_method_5_code_18) rfl (flt hc18).2.1 (by decide) (by decide) ?_
      show Steps p.tables e below (T3.setTop (mkF m 25 #[.val (.ref r0), .val (.long q1), .second, .val (.int (sl + (q1.toInt32)))] [(.ref ba)])) _
      refine XS.iloadN X3.here hx rfl (hb hby d_prog_37_method_5_code_25) rfl ?_
      show Steps p.tables e below (T3.setTop (mkF m 26 #[.val (.ref r0), .val (.long q1), .second, .val (.int (sl + (q1.toInt32)))] [(.int (sl + (q1.toInt32))), (.ref ba)])) _
      refine XS.aloadN X3.here hx rfl (hb hby d_prog_37_method_5_code_26) rfl rfl ?_
      show Steps p.tables e below (T3.setTop (mkF m 27 #[.val (.ref r0), .val (.long q1), .second, .val (.int (sl + (q1.toInt32)))] [(.ref r0), (.int (sl + (q1.toInt32))), (.ref ba)])) _
      refine st8 _ ?_
      show Steps p.tables e below (T8.setTop (mkF m 30 #[.val (.ref r0), .val (.long q1), .second, .val (.int (sl + (q1.toInt32)))] [(.ref ba), (.int (sl + (q1.toInt32))), (.ref ba)])) _
      refine X8.arraylength hx (by rw [e8]; exact Ar9.1) (State.isArrayOf_alike hZ.alike Ar9.2.1) (g := (mkF m 30 #[.val (.ref r0), .val (.long q1), .second, .val (.int (sl + (q1.toInt32)))] [(.ref ba), (.int (sl + (q1.toInt32))), (.ref ba)])) rfl rfl (hb hby d_prog_37_method_5_code_30) _ ?_
      rw [len_of S9 N9z]
      show Steps p.tables e below (T8.setTop (mkF m 31 #[.val (.ref r0), .val (.long q1), .second, .val (.int (sl + (q1.toInt32)))] [(.int nn), (.int (sl + (q1.toInt32))), (.ref ba)])) _
      refine XS.isub X8.here hx rfl (hb hby d_prog_37_method_5_code_31) rfl ?_
      exact kt
    have hix : ((sl + (q1.toInt32)) - nn) = ix := by have z := hix0; unfold own_ix at z; rwa [if_neg hc18] at z
    rw [hix] at K10
    have Vq11 := V_ba
    obtain ⟨cl11, Ar11, q11, S11, N11z, H11, G11⟩ := Vq11
    have hin11 : ¬ (ix < 0 ∨ cl11.slots.size ≤ (ix).toNatClampNeg) := inb_of S11 (own_inb be)
    have hat11 : cl11.slots[(ix).toNatClampNeg]? = some (.ref (bs.getD ix.toNatClampNeg 0)) := Has.at H11 hin11 (own_getref bs _ (by rw [hbl]; exact own_inl be))
    obtain ⟨fs, hr, hrun, hended, hW, hsame⟩ := X8.leave (v := some (.ref (bs.getD ix.toNatClampNeg 0))) (fun h => by rw [Bd.returns] at h; cases h) hlk
    refine ⟨_, _, K10 _ ?_, hrun, hended, _, _, rfl, ?_, ⟨_, rfl⟩, hW, hsame.mono (by decide) (by decide)⟩
    ·
      show Steps p.tables e below (T8.setTop (mkF m 32 #[.val (.ref r0), .val (.long q1), .second, .val (.int (sl + (q1.toInt32)))] [(.int ix), (.ref ba)])) _
      refine X8.aaload hx (j := ix) (v := (.ref (bs.getD ix.toNatClampNeg 0))) (by rw [e8]; exact Ar11.1) (State.isArrayOf_alike hZ.alike Ar11.2.1) rfl Ar11.2.2 hin11 hat11 (g := (mkF m 32 #[.val (.ref r0), .val (.long q1), .second, .val (.int (sl + (q1.toInt32)))] [(.int ix), (.ref ba)])) rfl rfl (hb hby d_prog_37_method_5_code_32) _ ?_
      show Steps p.tables e below (T8.setTop (mkF m 33 #[.val (.ref r0), .val (.long q1), .second, .val (.int (sl + (q1.toInt32)))] [(.ref (bs.getD ix.toNatClampNeg 0))])) _
      exact retOut X8 hx Bd.returns rfl (Or.inr (Or.inr (Or.inr (Or.inr ⟨rfl, rfl, rfl⟩)))) (hb hby d_prog_37_method_5_code_33) hr
    ·
      show Q_rmK Z r0 q1 sl ba kk nn bs ix h0 n0 _ T8.heap _
      rw [e8]
      exact ⟨rfl, N0, rfl⟩
theorem d_prog_37_method_6_code_0 : decode prog_37_method_6_code 0 = .ok (.aload_n 0, 1) := by decide +kernel
theorem d_prog_37_method_6_code_1 : decode prog_37_method_6_code 1 = .ok (.getfield 31, 3) := by decide +kernel
theorem d_prog_37_method_6_code_4 : decode prog_37_method_6_code 4 = .ok (.lload_n 1, 1) := by decide +kernel
theorem d_prog_37_method_6_code_5 : decode prog_37_method_6_code 5 = .ok (.aload_n 0, 1) := by decide +kernel
theorem d_prog_37_method_6_code_6 : decode prog_37_method_6_code 6 = .ok (.getfield 7, 3) := by decide +kernel
theorem d_prog_37_method_6_code_9 : decode prog_37_method_6_code 9 = .ok (.lmul, 1) := by decide +kernel
theorem d_prog_37_method_6_code_10 : decode prog_37_method_6_code 10 = .ok (.ladd, 1) := by decide +kernel
theorem d_prog_37_method_6_code_11 : decode prog_37_method_6_code 11 = .ok (.lreturn, 1) := by decide +kernel
theorem ef_rmF (m : MethodId) (x0 : Addr) (x1 : Int64) : entryFrame m #[(.ref x0), (.long x1)] 3 = mkF m 0 #[.val (.ref x0), .val (.long x1), .second] [] := by first | (simp [entryFrame, mkF, argsToLocals, Value.category]; done) | rfl
def Q_rmF (Z : State) (r0 : Addr) (q1 : Int64) (st : Int64) (ss : Int64) (h0 : Heap) (n0 : Nat) (v : Option Value) (h : Heap) (L : List Loc) : Prop := v = some (.long (ss + (q1 * st))) ∧ Fr n0 L ∧ h = h0
set_option maxRecDepth 65536 in
set_option maxHeartbeats 40000000 in
theorem rmF (l : Launch) (Z : State) (a0 : Array Value) (hw : ∀ d ∈ tables_1, d.before a0 Z = true) (ws : List Jvm.Cond) (r0 : Addr) (q1 : Int64) (st : Int64) (ss : Int64) (h0 : Heap) (n0 : Nat) (Z0 : n0 ≤ h0.size) (F_slotTicks_r0 : Fld Z h0 r0 "com/example/lachesis/lachesis/timer/Wheel" "slotTicks" "J" (.long st)) (F_slotStart_r0 : Fld Z h0 r0 "com/example/lachesis/lachesis/timer/Wheel" "slotStart" "J" (.long ss)) :
    MetFree l (⟨"com/example/lachesis/lachesis/timer/Wheel", "fireTick", "(J)J"⟩ : MethodName) (head1 (Jvm.Cond.code (⟨"com/example/lachesis/lachesis/timer/Wheel", "fireTick", "(J)J"⟩ : MethodName) prog_37_method_6_code 3 (some .long) :: ws) ({ frames := 0, cells := 0, slots := 0, locals := 0 } : Room)) (fun a U => a = #[(.ref r0), (.long q1)] ∧ Z.Warmed39 U.vm ∧ U.heap = h0) (fun _ _ _ _ _ => True) (fun _ U o U' => ∃ v L, o = .returned v ∧ Q_rmF Z r0 q1 st ss h0 n0 v U'.heap L ∧ FrameEnd U o U' L ({ frames := 0, cells := 0, slots := 0, locals := 0 } : Room).cells ({ frames := 0, cells := 0, slots := 0, locals := 0 } : Room).slots) := by
  refine MetFree.of_bodySF (plainFor_of_name pn_1) hisR ?_
  intro p e s m args below meth c s₁ Bd hml0 hP hK
  obtain ⟨rfl, hZ, hh⟩ := hP
  have hx := Bd.exec
  have hby := Bd.bytes
  have hml : c.maxLocals = 3 := hml0
  have hown : s.vm.findClass "com/example/lachesis/lachesis/timer/Wheel" = some m.cls := findClass_of_methodNamed Bd.named
  have hnm := (name_of_methodNamed Bd.named Bd.method).1
  have hlk : meth.locks = false := by first | exact BodyLoose.notSynchronized (by assumption) | exact Body.notSynchronized (by assumption) | assumption
  have X0 : Stand p l e ({ frames := 0, cells := 0, slots := 0, locals := 0 } : Room) s m #[(.ref r0), (.long q1)] below meth c s₁ [] 0 0 := Stand.of_body Bd
  have e0 : s₁.heap = h0 := by rw [← hh, Bd.state]; rfl
  have N0 := Fr.nil n0
  have Zn := Z0
  have K0 : ∀ t, Steps p.tables e below (s₁.setTop (mkF m 0 #[.val (.ref r0), .val (.long q1), .second] [])) t → Steps p.tables e below (s₁.setTop (entryFrame m #[(.ref r0), (.long q1)] 3)) t := fun t k => castTop (ef_rmF m r0 q1) k
  obtain ⟨T1, X1, e1, st1⟩ := getF X0 hx hZ hown (host := "") (Or.inl (hw _ (List.mem_of_getElem? (i := 42) rfl))) Via.refl e0 F_slotStart_r0 (g := (mkF m 1 #[.val (.ref r0), .val (.long q1), .second] [(.ref r0)])) rfl rfl (hb hby d_prog_37_method_6_code_1)
  obtain ⟨T2, X2, e2, st2⟩ := getF X1 hx hZ hown (host := "") (Or.inl (hw _ (List.mem_of_getElem? (i := 17) rfl))) Via.refl e1 F_slotTicks_r0 (g := (mkF m 6 #[.val (.ref r0), .val (.long q1), .second] [(.ref r0), (.long q1), (.long ss)])) rfl rfl (hb hby d_prog_37_method_6_code_6)
  obtain ⟨fs, hr, hrun, hended, hW, hsame⟩ := X2.leave (v := some (.long (ss + (q1 * st)))) (fun h => by rw [Bd.returns] at h; cases h) hlk
  refine ⟨_, _, K0 _ ?_, hrun, hended, _, _, rfl, ?_, ⟨_, rfl⟩, hW, hsame.mono (by decide) (by decide)⟩
  ·
    show Steps p.tables e below (s₁.setTop (mkF m 0 #[.val (.ref r0), .val (.long q1), .second] [])) _
    refine XS.aloadN X0.here hx rfl (hb hby d_prog_37_method_6_code_0) rfl rfl ?_
    show Steps p.tables e below (s₁.setTop (mkF m 1 #[.val (.ref r0), .val (.long q1), .second] [(.ref r0)])) _
    refine st1 _ ?_
    show Steps p.tables e below (T1.setTop (mkF m 4 #[.val (.ref r0), .val (.long q1), .second] [(.long ss)])) _
    refine XS.lloadN X1.here hx rfl (hb hby d_prog_37_method_6_code_4) rfl ?_
    show Steps p.tables e below (T1.setTop (mkF m 5 #[.val (.ref r0), .val (.long q1), .second] [(.long q1), (.long ss)])) _
    refine XS.aloadN X1.here hx rfl (hb hby d_prog_37_method_6_code_5) rfl rfl ?_
    show Steps p.tables e below (T1.setTop (mkF m 6 #[.val (.ref r0), .val (.long q1), .second] [(.ref r0), (.long q1), (.long ss)])) _
    refine st2 _ ?_
    show Steps p.tables e below (T2.setTop (mkF m 9 #[.val (.ref r0), .val (.long q1), .second] [(.long st), (.long q1), (.long ss)])) _
    refine XS.lmul X2.here hx rfl (hb hby d_prog_37_method_6_code_9) rfl ?_
    show Steps p.tables e below (T2.setTop (mkF m 10 #[.val (.ref r0), .val (.long q1), .second] [(.long (q1 * st)), (.long ss)])) _
    refine XS.ladd X2.here hx rfl (hb hby d_prog_37_method_6_code_10) rfl ?_
    show Steps p.tables e below (T2.setTop (mkF m 11 #[.val (.ref r0), .val (.long q1), .second] [(.long (ss + (q1 * st)))])) _
    exact X2.lreturnOut hx Bd.returns (hb hby d_prog_37_method_6_code_11) hr
  ·
    show Q_rmF Z r0 q1 st ss h0 n0 _ T2.heap _
    rw [e2]
    exact ⟨rfl, N0, rfl⟩
def own_at (t st : Int64) : Prop := 1 ≤ st.toInt ∧ 0 ≤ t.toInt
theorem own_fire {t st : Int64} (h : own_at t st) : (((t / st) * st) + ((0 : Int64) * st)) = (t / st) * st := by
  rw [Int64.zero_mul, Int64.add_zero]
theorem own_tdiv {t st : Int64} (h : own_at t st) : (t / st).toInt = t.toInt / st.toInt := by
  have a := h.1; have b := h.2
  rw [Jvm.Kit.i64_div (by omega), Int.tdiv_eq_ediv_of_nonneg b]
theorem own_start {t st : Int64} (h : own_at t st) : ((t / st) * st).toInt = t.toInt / st.toInt * st.toInt ∧ 0 ≤ t.toInt / st.toInt * st.toInt ∧ t.toInt / st.toInt * st.toInt ≤ t.toInt ∧ t.toInt - t.toInt / st.toInt * st.toInt < st.toInt := by
  have a := h.1; have b := h.2
  have e := own_tdiv h
  have p0 : 0 ≤ t.toInt / st.toInt := Int.ediv_nonneg b (by omega)
  have p3 : t.toInt / st.toInt * st.toInt ≤ t.toInt := Int.ediv_mul_le _ (by omega)
  have p4 : 0 ≤ t.toInt / st.toInt * st.toInt := Int.mul_nonneg p0 (by omega)
  have u := t.toInt_lt
  have p5 : t.toInt - t.toInt / st.toInt * st.toInt < st.toInt := by
    have q := Int.emod_lt_of_pos t.toInt (b := st.toInt) (by omega)
    rw [Int.emod_def, Int.mul_comm] at q
    exact q
  refine ⟨?_, p4, p3, p5⟩
  rw [Jvm.Kit.i64_mul (by rw [e]; omega) (by rw [e]; omega), e]
theorem own_s1 {t st : Int64} (h : own_at t st) : ¬ ((lcmpW ((t / st) * st) (0 : Int64)) < (0 : Int32)) := by
  have q := own_start h
  have k : (0 : Int64).toInt = 0 := by decide
  rw [lw_lt, Int64.lt_iff_toInt_lt, q.1]; omega
theorem own_s2 {t st : Int64} (h : own_at t st) : ¬ ((0 : Int32) < (lcmpW ((t / st) * st) t)) := by
  have q := own_start h
  rw [lw_gt, Int64.lt_iff_toInt_lt, q.1]; omega
theorem own_s3 {t st : Int64} (h : own_at t st) : (lcmpW (t - ((t / st) * st)) st) < (0 : Int32) := by
  have q := own_start h
  have b := h.2
  have u := t.toInt_lt
  rw [lw_lt, Int64.lt_iff_toInt_lt, Jvm.Kit.i64_sub (by rw [q.1]; omega) (by rw [q.1]; omega), q.1]; omega
theorem own_s4 {t st : Int64} (h : own_at t st) : (lcmpW (((t / st) * st) - ((((t / st) * st) / st) * st)) (0 : Int64)) = (0 : Int32) := by
  have q := own_start h
  rw [lw_eq]
  apply Int64.toInt_inj.mp
  rw [Jvm.Kit.i64_rem_nonneg (by rw [q.1]; omega), q.1, Int.mul_emod_left]
  decide
theorem d_method_3_code_0 : decode method_3_code 0 = .ok (.aload_n 0, 1) := by decide +kernel
theorem d_method_3_code_1 : decode method_3_code 1 = .ok (.lconst 0, 1) := by decide +kernel
theorem d_method_3_code_2 : decode method_3_code 2 = .ok (.invokevirtual 39, 3) := by decide +kernel
theorem pd_4 : parseMethodDescriptor "(J)J" = some ⟨[.long], some .long⟩ := by decide +kernel
theorem d_method_3_code_5 : decode method_3_code 5 = .ok (.lstore 5, 2) := by decide +kernel
theorem d_method_3_code_7 : decode method_3_code 7 = .ok (.lload 5, 2) := by decide +kernel
theorem d_method_3_code_9 : decode method_3_code 9 = .ok (.lconst 0, 1) := by decide +kernel
theorem d_method_3_code_10 : decode method_3_code 10 = .ok (.lcmp, 1) := by decide +kernel
theorem d_method_3_code_11 : decode method_3_code 11 = .ok (.ifCond .lt 32, 3) := by decide +kernel
theorem d_method_3_code_14 : decode method_3_code 14 = .ok (.lload 5, 2) := by decide +kernel
theorem d_method_3_code_16 : decode method_3_code 16 = .ok (.lload_n 1, 1) := by decide +kernel
theorem d_method_3_code_17 : decode method_3_code 17 = .ok (.lcmp, 1) := by decide +kernel
theorem d_method_3_code_18 : decode method_3_code 18 = .ok (.ifCond .gt 25, 3) := by decide +kernel
theorem d_method_3_code_21 : decode method_3_code 21 = .ok (.lload_n 1, 1) := by decide +kernel
theorem d_method_3_code_22 : decode method_3_code 22 = .ok (.lload 5, 2) := by decide +kernel
theorem d_method_3_code_24 : decode method_3_code 24 = .ok (.lsub, 1) := by decide +kernel
theorem d_method_3_code_25 : decode method_3_code 25 = .ok (.lload_n 3, 1) := by decide +kernel
theorem d_method_3_code_26 : decode method_3_code 26 = .ok (.lcmp, 1) := by decide +kernel
theorem d_method_3_code_27 : decode method_3_code 27 = .ok (.ifCond .ge 16, 3) := by decide +kernel
theorem d_method_3_code_30 : decode method_3_code 30 = .ok (.lload 5, 2) := by decide +kernel
theorem d_method_3_code_32 : decode method_3_code 32 = .ok (.lload_n 3, 1) := by decide +kernel
theorem d_method_3_code_33 : decode method_3_code 33 = .ok (.lrem, 1) := by decide +kernel
theorem d_method_3_code_34 : decode method_3_code 34 = .ok (.lconst 0, 1) := by decide +kernel
theorem d_method_3_code_35 : decode method_3_code 35 = .ok (.lcmp, 1) := by decide +kernel
theorem d_method_3_code_36 : decode method_3_code 36 = .ok (.ifCond .ne 7, 3) := by decide +kernel
theorem d_method_3_code_39 : decode method_3_code 39 = .ok (.iconst 1, 1) := by decide +kernel
theorem d_method_3_code_40 : decode method_3_code 40 = .ok (.goto 4, 3) := by decide +kernel
theorem d_method_3_code_44 : decode method_3_code 44 = .ok (.ireturn, 1) := by decide +kernel
theorem pn_5 : plainName "com/example/lachesis/lachesis/timer/WheelMoveToPinLaw" = true := by first | (simp [plainName, overriddenIn]; done) | decide +kernel
theorem ef_rmS (m : MethodId) (x0 : Addr) (x1 : Int64) (x2 : Int64) : entryFrame m #[(.ref x0), (.long x1), (.long x2)] 7 = mkF m 0 #[.val (.ref x0), .val (.long x1), .second, .val (.long x2), .second, .unset, .unset] [] := by first | (simp [entryFrame, mkF, argsToLocals, Value.category]; done) | rfl
def Q_rmS (Z : State) (r0 : Addr) (q1 : Int64) (q2 : Int64) (h0 : Heap) (n0 : Nat) (v : Option Value) (h : Heap) (L : List Loc) : Prop := v = some (.int 1) ∧ Fr n0 L ∧ h = h0
set_option maxRecDepth 65536 in
set_option maxHeartbeats 40000000 in
theorem rmS (l : Launch) (Z : State) (a0 : Array Value) (hw : ∀ d ∈ tables_1, d.before a0 Z = true) (ws : List Jvm.Cond) (r0 : Addr) (q1 : Int64) (q2 : Int64) (h0 : Heap) (n0 : Nat) (Z0 : n0 ≤ h0.size) (E_r0 : Exa Z h0 r0 "com/example/lachesis/lachesis/timer/Wheel") (F_slotTicks_r0 : Fld Z h0 r0 "com/example/lachesis/lachesis/timer/Wheel" "slotTicks" "J" (.long q2)) (F_slotStart_r0 : Fld Z h0 r0 "com/example/lachesis/lachesis/timer/Wheel" "slotStart" "J" (.long ((q1 / q2) * q2))) (hat : own_at q1 q2) :
    MetFree l (⟨"com/example/lachesis/lachesis/timer/WheelMoveToPinLaw", "standsAt", "(Lcom/example/lachesis/lachesis/timer/Wheel;JJ)Z"⟩ : MethodName) (head1 (Jvm.Cond.code (⟨"com/example/lachesis/lachesis/timer/WheelMoveToPinLaw", "standsAt", "(Lcom/example/lachesis/lachesis/timer/Wheel;JJ)Z"⟩ : MethodName) method_3_code 7 (some .boolean) :: ws) ({ frames := 1, cells := 0, slots := 0, locals := 14 } : Room)) (fun a U => a = #[(.ref r0), (.long q1), (.long q2)] ∧ Z.Warmed39 U.vm ∧ U.heap = h0) (fun _ _ _ _ _ => True) (fun _ U o U' => ∃ v L, o = .returned v ∧ Q_rmS Z r0 q1 q2 h0 n0 v U'.heap L ∧ FrameEnd U o U' L ({ frames := 1, cells := 0, slots := 0, locals := 14 } : Room).cells ({ frames := 1, cells := 0, slots := 0, locals := 14 } : Room).slots) := by
  refine MetFree.of_bodySF (plainFor_of_name pn_5) hisR ?_
  intro p e s m args below meth c s₁ Bd hml0 hP hK
  obtain ⟨rfl, hZ, hh⟩ := hP
  have hx := Bd.exec
  have hby := Bd.bytes
  have hml : c.maxLocals = 7 := hml0
  have hown : s.vm.findClass "com/example/lachesis/lachesis/timer/WheelMoveToPinLaw" = some m.cls := findClass_of_methodNamed Bd.named
  have hnm := (name_of_methodNamed Bd.named Bd.method).1
  have hlk : meth.locks = false := by first | exact BodyLoose.notSynchronized (by assumption) | exact Body.notSynchronized (by assumption) | assumption
  have X0 : Stand p l e ({ frames := 1, cells := 0, slots := 0, locals := 14 } : Room) s m #[(.ref r0), (.long q1), (.long q2)] below meth c s₁ [] 0 0 := Stand.of_body Bd
  have e0 : s₁.heap = h0 := by rw [← hh, Bd.state]; rfl
  have N0 := Fr.nil n0
  have Zn := Z0
  have K0 : ∀ t, Steps p.tables e below (s₁.setTop (mkF m 0 #[.val (.ref r0), .val (.long q1), .second, .val (.long q2), .second, .unset, .unset] [])) t → Steps p.tables e below (s₁.setTop (entryFrame m #[(.ref r0), (.long q1), (.long q2)] 7)) t := fun t k => castTop (ef_rmS m r0 q1 q2) k
  obtain ⟨cq1, kq1, q1a, q1b, q1c⟩ := isOf hZ e0 E_r0
  obtain ⟨_, _, ⟨T1, L1, k1, n1⟩, -, X1, ⟨Lc1, hQ1, l1, y1, z1⟩, st1⟩ := X0.virtualBack hx (y := (⟨"com/example/lachesis/lachesis/timer/Wheel", "fireTick", "(J)J"⟩ : MethodName)) (z := (⟨"com/example/lachesis/lachesis/timer/Wheel", "fireTick", "(J)J"⟩ : MethodName)) hown (mvT hZ (hw _ (List.mem_of_getElem? (i := 56) rfl))) (mvT hZ (hw _ (List.mem_of_getElem? (i := 57) rfl))) (notFace_of_selects (args := #[]) (mvT hZ (hw _ (List.mem_of_getElem? (i := 59) rfl)))) (mvT hZ (hw _ (List.mem_of_getElem? (i := 59) rfl))) (mvT hZ (hw _ (List.mem_of_getElem? (i := 58) rfl))) (by decide) (backOf (W := 0) (rmF l Z a0 hw [] r0 (0 : Int64) q2 ((q1 / q2) * q2) h0 n0 Zn F_slotTicks_r0 F_slotStart_r0) hZ (hw _ (List.mem_of_getElem? (i := 60) rfl)) (hw _ (List.mem_of_getElem? (i := 10) rfl)) (by decide) (by decide)) q1a q1c (g := (mkF m 2 #[.val (.ref r0), .val (.long q1), .second, .val (.long q2), .second, .unset, .unset] [(.long (0 : Int64)), (.ref r0)])) rfl (by rw [hml]; rfl) (Steps.refl _) (argsL := [(.long (0 : Int64))]) (rest := []) (lenOf pd_4 rfl) rfl (by show 2 * 0 + _ ≤ _; exact Nat.le_of_eq rfl) (hb hby d_method_3_code_2) (fun _ _ => ⟨rfl, e0, (by decide : 0 + 0 ≤ _), (by decide : 0 + 0 ≤ _)⟩)
  dsimp only [Pt.U, Pt.locs, Pt.cells, Pt.slots] at X1 l1 y1 z1 st1 hQ1
  subst l1 y1 z1
  obtain ⟨hv1, N1q, e1q⟩ := hQ1
  obtain rfl := hv1.trans (show some (Value.long (((q1 / q2) * q2) + ((0 : Int64) * q2))) = some (.long ((q1 / q2) * q2)) by rw [own_fire hat])
  have N1 := Fr.app N0 N1q
  have e1 : T1.heap = h0 := e1q
  have hc11 : ¬ ((lcmpW ((q1 / q2) * q2) (0 : Int64)) < (0 : Int32)) := (own_s1 hat)
  have hc18 : ¬ ((0 : Int32) < (lcmpW ((q1 / q2) * q2) q1)) := (own_s2 hat)
  have hc27 : (lcmpW (q1 - ((q1 / q2) * q2)) q2) < (0 : Int32) := (own_s3 hat)
  have hc36 : (lcmpW (((q1 / q2) * q2) - (((q1 / q2) * q2) / q2) * q2) (0 : Int64)) = (0 : Int32) := (own_s4 hat)
  obtain ⟨fs, hr, hrun, hended, hW, hsame⟩ := X1.leave (v := some (.int (1 : Int32))) (fun h => by rw [Bd.returns] at h; cases h) hlk
  refine ⟨_, _, K0 _ ?_, hrun, hended, _, _, rfl, ?_, ⟨_, rfl⟩, hW, hsame.mono (by decide) (by decide)⟩
  ·
    show Steps p.tables e below (s₁.setTop (mkF m 0 #[.val (.ref r0), .val (.long q1), .second, .val (.long q2), .second, .unset, .unset] [])) _
    refine XS.aloadN X0.here hx rfl (hb hby d_method_3_code_0) rfl rfl ?_
    show Steps p.tables e below (s₁.setTop (mkF m 1 #[.val (.ref r0), .val (.long q1), .second, .val (.long q2), .second, .unset, .unset] [(.ref r0)])) _
    refine XS.lconst X0.here hx rfl (hb hby d_method_3_code_1) ?_
    show Steps p.tables e below (s₁.setTop (mkF m 2 #[.val (.ref r0), .val (.long q1), .second, .val (.long q2), .second, .unset, .unset] [(.long (0 : Int64)), (.ref r0)])) _
    refine st1.trans ?_
    show Steps p.tables e below (T1.setTop (mkF m 5 #[.val (.ref r0), .val (.long q1), .second, .val (.long q2), .second, .unset, .unset] [(.long ((q1 / q2) * q2))])) _
    refine XS.lstore X1.here hx rfl (hb hby d_method_3_code_5) rfl (l' := #[.val (.ref r0), .val (.long q1), .second, .val (.long q2), .second, .val (.long ((q1 / q2) * q2)), .second]) rfl ?_
    show Steps p.tables e below (T1.setTop (mkF m 7 #[.val (.ref r0), .val (.long q1), .second, .val (.long q2), .second, .val (.long ((q1 / q2) * q2)), .second] [])) _
    refine XS.lload X1.here hx rfl (hb hby d_method_3_code_7) rfl ?_
    show Steps p.tables e below (T1.setTop (mkF m 9 #[.val (.ref r0), .val (.long q1), .second, .val (.long q2), .second, .val (.long ((q1 / q2) * q2)), .second] [(.long ((q1 / q2) * q2))])) _
    refine XS.lconst X1.here hx rfl (hb hby d_method_3_code_9) ?_
    show Steps p.tables e below (T1.setTop (mkF m 10 #[.val (.ref r0), .val (.long q1), .second, .val (.long q2), .second, .val (.long ((q1 / q2) * q2)), .second] [(.long (0 : Int64)), (.long ((q1 / q2) * q2))])) _
    refine XS.lcmp X1.here hx rfl (hb hby d_method_3_code_10) rfl ?_
    show Steps p.tables e below (T1.setTop (mkF m 11 #[.val (.ref r0), .val (.long q1), .second, .val (.long q2), .second, .val (.long ((q1 / q2) * q2)), .second] [(.int (lcmpW ((q1 / q2) * q2) (0 : Int64)))])) _
    refine XS.ifNo X1.here hx rfl (hb hby d_method_3_code_11) rfl ((if0 _ _).trans (flt hc11).1) ?_
    show Steps p.tables e below (T1.setTop (mkF m 14 #[.val (.ref r0), .val (.long q1), .second, .val (.long q2), .second, .val (.long ((q1 / q2) * q2)), .second] [])) _
    refine XS.lload X1.here hx rfl (hb hby d_method_3_code_14) rfl ?_
    show Steps p.tables e below (T1.setTop (mkF m 16 #[.val (.ref r0), .val (.long q1), .second, .val (.long q2), .second, .val (.long ((q1 / q2) * q2)), .second] [(.long ((q1 / q2) * q2))])) _
    refine XS.lloadN X1.here hx rfl (hb hby d_method_3_code_16) rfl ?_
    show Steps p.tables e below (T1.setTop (mkF m 17 #[.val (.ref r0), .val (.long q1), .second, .val (.long q2), .second, .val (.long ((q1 / q2) * q2)), .second] [(.long q1), (.long ((q1 / q2) * q2))])) _
    refine XS.lcmp X1.here hx rfl (hb hby d_method_3_code_17) rfl ?_
    show Steps p.tables e below (T1.setTop (mkF m 18 #[.val (.ref r0), .val (.long q1), .second, .val (.long q2), .second, .val (.long ((q1 / q2) * q2)), .second] [(.int (lcmpW ((q1 / q2) * q2) q1))])) _
    refine XS.ifNo X1.here hx rfl (hb hby d_method_3_code_18) rfl ((if0 _ _).trans (flt hc18).2.2.1) ?_
    show Steps p.tables e below (T1.setTop (mkF m 21 #[.val (.ref r0), .val (.long q1), .second, .val (.long q2), .second, .val (.long ((q1 / q2) * q2)), .second] [])) _
    refine XS.lloadN X1.here hx rfl (hb hby d_method_3_code_21) rfl ?_
    show Steps p.tables e below (T1.setTop (mkF m 22 #[.val (.ref r0), .val (.long q1), .second, .val (.long q2), .second, .val (.long ((q1 / q2) * q2)), .second] [(.long q1)])) _
    refine XS.lload X1.here hx rfl (hb hby d_method_3_code_22) rfl ?_
    show Steps p.tables e below (T1.setTop (mkF m 24 #[.val (.ref r0), .val (.long q1), .second, .val (.long q2), .second, .val (.long ((q1 / q2) * q2)), .second] [(.long ((q1 / q2) * q2)), (.long q1)])) _
    refine XS.lsub X1.here hx rfl (hb hby d_method_3_code_24) rfl ?_
    show Steps p.tables e below (T1.setTop (mkF m 25 #[.val (.ref r0), .val (.long q1), .second, .val (.long q2), .second, .val (.long ((q1 / q2) * q2)), .second] [(.long (q1 - ((q1 / q2) * q2)))])) _
    refine XS.lloadN X1.here hx rfl (hb hby d_method_3_code_25) rfl ?_
    show Steps p.tables e below (T1.setTop (mkF m 26 #[.val (.ref r0), .val (.long q1), .second, .val (.long q2), .second, .val (.long ((q1 / q2) * q2)), .second] [(.long q2), (.long (q1 - ((q1 / q2) * q2)))])) _
    refine XS.lcmp X1.here hx rfl (hb hby d_method_3_code_26) rfl ?_
    show Steps p.tables e below (T1.setTop (mkF m 27 #[.val (.ref r0), .val (.long q1), .second, .val (.long q2), .second, .val (.long ((q1 / q2) * q2)), .second] [(.int (lcmpW (q1 - ((q1 / q2) * q2)) q2))])) _
    refine XS.ifNo X1.here hx rfl (hb hby d_method_3_code_27) rfl ((if0 _ _).trans (tlt hc27).2.1) ?_
    show Steps p.tables e below (T1.setTop (mkF m 30 #[.val (.ref r0), .val (.long q1), .second, .val (.long q2), .second, .val (.long ((q1 / q2) * q2)), .second] [])) _
    refine XS.lload X1.here hx rfl (hb hby d_method_3_code_30) rfl ?_
    show Steps p.tables e below (T1.setTop (mkF m 32 #[.val (.ref r0), .val (.long q1), .second, .val (.long q2), .second, .val (.long ((q1 / q2) * q2)), .second] [(.long ((q1 / q2) * q2))])) _
    refine XS.lloadN X1.here hx rfl (hb hby d_method_3_code_32) rfl ?_
    show Steps p.tables e below (T1.setTop (mkF m 33 #[.val (.ref r0), .val (.long q1), .second, .val (.long q2), .second, .val (.long ((q1 / q2) * q2)), .second] [(.long q2), (.long ((q1 / q2) * q2))])) _
    refine XS.lrem X1.here hx rfl (hb hby d_method_3_code_33) rfl (own_nzst hat.1) ?_
    show Steps p.tables e below (T1.setTop (mkF m 34 #[.val (.ref r0), .val (.long q1), .second, .val (.long q2), .second, .val (.long ((q1 / q2) * q2)), .second] [(.long (((q1 / q2) * q2) - (((q1 / q2) * q2) / q2) * q2))])) _
    refine XS.lconst X1.here hx rfl (hb hby d_method_3_code_34) ?_
    show Steps p.tables e below (T1.setTop (mkF m 35 #[.val (.ref r0), .val (.long q1), .second, .val (.long q2), .second, .val (.long ((q1 / q2) * q2)), .second] [(.long (0 : Int64)), (.long (((q1 / q2) * q2) - (((q1 / q2) * q2) / q2) * q2))])) _
    refine XS.lcmp X1.here hx rfl (hb hby d_method_3_code_35) rfl ?_
    show Steps p.tables e below (T1.setTop (mkF m 36 #[.val (.ref r0), .val (.long q1), .second, .val (.long q2), .second, .val (.long ((q1 / q2) * q2)), .second] [(.int (lcmpW (((q1 / q2) * q2) - (((q1 / q2) * q2) / q2) * q2) (0 : Int64)))])) _
    refine XS.ifNo X1.here hx rfl (hb hby d_method_3_code_36) rfl ((if0 _ _).trans (teq hc36).2) ?_
    show Steps p.tables e below (T1.setTop (mkF m 39 #[.val (.ref r0), .val (.long q1), .second, .val (.long q2), .second, .val (.long ((q1 / q2) * q2)), .second] [])) _
    refine XS.iconst X1.here hx rfl (hb hby d_method_3_code_39) ?_
    show Steps p.tables e below (T1.setTop (mkF m 40 #[.val (.ref r0), .val (.long q1), .second, .val (.long q2), .second, .val (.long ((q1 / q2) * q2)), .second] [(.int (1 : Int32))])) _
    refine XS.goto X1.here hx rfl (pc0 := 40) (pc' := 44) rfl (hb hby d_method_3_code_40) (by decide) (by decide) ?_
    show Steps p.tables e below (T1.setTop (mkF m 44 #[.val (.ref r0), .val (.long q1), .second, .val (.long q2), .second, .val (.long ((q1 / q2) * q2)), .second] [(.int (1 : Int32))])) _
    exact retN X1 hx (t := .boolean) Bd.returns (by simp) (hb hby d_method_3_code_44) hr
  ·
    show Q_rmS Z r0 q1 q2 h0 n0 _ T1.heap _
    rw [e1]
    exact ⟨rfl, N1, rfl⟩
theorem own_st2 (x : Int64) : 1 ≤ (own_lmax (1 : Int64) (x &&& (9223372036854775807 : Int64))).toInt := by
  have e : (x &&& (9223372036854775807 : Int64)).toInt = x.toInt % 2 ^ 63 := Jvm.Kit.i64_mask x 9223372036854775807 (k := 63) (by decide) (by decide)
  have k1 : (1 : Int64).toInt = 1 := by decide
  unfold own_lmax
  simp only [lw_lt, Int64.lt_iff_toInt_lt, k1]
  split <;> omega
theorem own_size (y : Int32) : 2 ≤ ((2 : Int32) + (y &&& (31 : Int32))).toInt ∧ ((2 : Int32) + (y &&& (31 : Int32))).toInt ≤ 33 := by
  have e : (y &&& (31 : Int32)).toInt = y.toInt % 2 ^ 5 := Jvm.Kit.i32_mask y 31 (k := 5) (by decide) (by decide)
  have k2 : (2 : Int32).toInt = 2 := by decide
  rw [Jvm.Kit.i32_add (by omega) (by omega)]; omega
theorem own_pos (x : Int64) : 0 ≤ (x &&& (9223372036854775807 : Int64)).toInt := by
  have e : (x &&& (9223372036854775807 : Int64)).toInt = x.toInt % 2 ^ 63 := Jvm.Kit.i64_mask x 9223372036854775807 (k := 63) (by decide) (by decide)
  omega
theorem own_minp {a b : Int64} (ha : 0 ≤ a.toInt) (hb : 0 ≤ b.toInt) : 0 ≤ (own_lmin a b).toInt := by unfold own_lmin; split <;> omega
theorem own_maxp {a b : Int64} (ha : 0 ≤ a.toInt) (hb : 0 ≤ b.toInt) : 0 ≤ (own_lmax a b).toInt := by unfold own_lmax; split <;> omega
theorem own_slot0 (st : Int64) (nn : Int32) (hs : 1 ≤ st.toInt) (hn : 2 ≤ nn.toInt) : own_slot (0 : Int64) st nn = 0 := by
  apply Int32.toInt_inj.mp
  rw [own_slotI ⟨hs, by decide⟩ hn]
  have k : (0 : Int64).toInt = 0 := by decide
  rw [k]; simp
theorem pd_6 : parseMethodDescriptor "(JJ)J" = some ⟨[.long, .long], some .long⟩ := by decide +kernel
theorem pd_7 : parseMethodDescriptor "(JIJ)V" = some ⟨[.long, .int, .long], none⟩ := by decide +kernel
theorem pd_8 : parseMethodDescriptor "(J)Lcom/example/lachesis/lachesis/timer/Bucket;" = some ⟨[.long], some (.object "com/example/lachesis/lachesis/timer/Bucket")⟩ := by decide +kernel
theorem pd_9 : parseMethodDescriptor "(Lcom/example/lachesis/lachesis/timer/Wheel;JJ)Z" = some ⟨[(.object "com/example/lachesis/lachesis/timer/Wheel"), .long, .long], some .boolean⟩ := by decide +kernel
theorem ef_rm0 (m : MethodId) (x0 : Int64) (x1 : Int32) (x2 : Int64) (x3 : Int64) : entryFrame m #[(.long x0), (.int x1), (.long x2), (.long x3)] maxLocals = mkF m 0 #[.val (.long x0), .second, .val (.int x1), .val (.long x2), .second, .val (.long x3), .second, .unset, .unset, .unset, .unset, .unset, .unset, .unset, .unset, .unset, .unset, .unset, .unset, .unset, .unset, .unset, .unset, .unset, .unset] [] := by first | (simp [entryFrame, mkF, argsToLocals, Value.category, maxLocals]; done) | rfl
def Q_rm0 (Z : State) (q0 : Int64) (p1 : Int32) (q2 : Int64) (q3 : Int64) (w_NONE : Addr) (h0 : Heap) (n0 : Nat) (v : Option Value) (h : Heap) (L : List Loc) : Prop := v = some (.int 1) ∧ Fr n0 L
set_option maxRecDepth 65536 in
set_option maxHeartbeats 40000000 in
theorem rm0 (l : Launch) (Z : State) (a0 : Array Value) (hw : ∀ d ∈ tables_1, d.before a0 Z = true) (ws : List Jvm.Cond) (q0 : Int64) (p1 : Int32) (q2 : Int64) (q3 : Int64) (w_NONE : Addr) (h0 : Heap) (n0 : Nat) (Z0 : n0 ≤ h0.size) (S_NONE : Sta Z Z.heap "com/example/lachesis/lachesis/timer/Bucket" "NONE" "[Lcom/example/lachesis/lachesis/timer/TimerEntry;" (.ref w_NONE)) (OLD : Old Z n0 h0) :
    MetFree l x (head1 (Jvm.Cond.code x code maxLocals ret :: ws) room_1) (fun a U => a = #[(.long q0), (.int p1), (.long q2), (.long q3)] ∧ Z.Warmed39 U.vm ∧ U.heap = h0) (fun _ _ _ _ _ => True) (fun _ U o U' => ∃ v L, o = .returned v ∧ Q_rm0 Z q0 p1 q2 q3 w_NONE h0 n0 v U'.heap L ∧ FrameEnd U o U' L room_1.cells room_1.slots) := by
  refine MetFree.of_bodySF (plainFor_of_name pn_5) hisR ?_
  intro p e s m args below meth c s₁ Bd hml0 hP hK
  obtain ⟨rfl, hZ, hh⟩ := hP
  have hx := Bd.exec
  have hby := Bd.bytes
  have hml : c.maxLocals = 25 := hml0
  have hown : s.vm.findClass "com/example/lachesis/lachesis/timer/WheelMoveToPinLaw" = some m.cls := findClass_of_methodNamed Bd.named
  have hnm := (name_of_methodNamed Bd.named Bd.method).1
  have hlk : meth.locks = false := by first | exact BodyLoose.notSynchronized (by assumption) | exact Body.notSynchronized (by assumption) | assumption
  have X0 : Stand p l e room_1 s m #[(.long q0), (.int p1), (.long q2), (.long q3)] below meth c s₁ [] 0 0 := Stand.of_body Bd
  have e0 : s₁.heap = h0 := by rw [← hh, Bd.state]; rfl
  have N0 := Fr.nil n0
  have Zn := Z0
  have K0 : ∀ t, Steps p.tables e below (s₁.setTop (mkF m 0 #[.val (.long q0), .second, .val (.int p1), .val (.long q2), .second, .val (.long q3), .second, .unset, .unset, .unset, .unset, .unset, .unset, .unset, .unset, .unset, .unset, .unset, .unset, .unset, .unset, .unset, .unset, .unset, .unset] [])) t → Steps p.tables e below (s₁.setTop (entryFrame m #[(.long q0), (.int p1), (.long q2), (.long q3)] maxLocals)) t := fun t k => castTop (ef_rm0 m q0 p1 q2 q3) k
  obtain ⟨_, _, ⟨T1, L1, k1, n1⟩, -, X1, ⟨Lc1, hQ1, l1, y1, z1⟩, st1⟩ := Jvm.LawKit.callS X0 hx (y := (⟨"java/lang/Math", "max", "(JJ)J"⟩ : MethodName)) hown (mvT hZ (hw _ (List.mem_of_getElem? (i := 1) rfl))) (mvT hZ (hw _ (List.mem_of_getElem? (i := 2) rfl))) (mvT hZ (hw _ (List.mem_of_getElem? (i := 3) rfl))) (mvT hZ (hw _ (List.mem_of_getElem? (i := 4) rfl))) (by decide) (backOf (W := 0) (rm_max l Z a0 hw [] (1 : Int64) (q0 &&& (9223372036854775807 : Int64))  h0 n0 Zn ) hZ (hw _ (List.mem_of_getElem? (i := 4) rfl)) (hw _ (List.mem_of_getElem? (i := 3) rfl)) (by decide) (by decide)) (g := (mkF m 6 #[.val (.long q0), .second, .val (.int p1), .val (.long q2), .second, .val (.long q3), .second, .unset, .unset, .unset, .unset, .unset, .unset, .unset, .unset, .unset, .unset, .unset, .unset, .unset, .unset, .unset, .unset, .unset, .unset] [(.long (q0 &&& (9223372036854775807 : Int64))), (.long (1 : Int64))])) rfl (by rw [hml]; rfl) (argsL := [(.long (1 : Int64)), (.long (q0 &&& (9223372036854775807 : Int64)))]) (rest := []) (lenOf pd_6 rfl) rfl (by show 2 * 0 + _ ≤ _; exact Nat.le_of_eq rfl) (hb hby at_6) (fun _ _ => ⟨rfl, e0, (by decide : 0 + 0 ≤ _), (by decide : 0 + 0 ≤ _)⟩)
  dsimp only [Pt.U, Pt.locs, Pt.cells, Pt.slots] at X1 l1 y1 z1 st1 hQ1
  subst l1 y1 z1
  obtain ⟨rfl, N1q, e1q⟩ := hQ1
  have N1 := Fr.app N0 N1q
  have e1 : T1.heap = h0 := e1q
  have K2 : ∀ t, Steps p.tables e below (T1.setTop (mkF m 11 #[.val (.long q0), .second, .val (.int p1), .val (.long q2), .second, .val (.long q3), .second, .val (.long (own_lmax (1 : Int64) (q0 &&& (9223372036854775807 : Int64)))), .second, .unset, .unset, .unset, .unset, .unset, .unset, .unset, .unset, .unset, .unset, .unset, .unset, .unset, .unset, .unset, .unset] [])) t → Steps p.tables e below (s₁.setTop (entryFrame m #[(.long q0), (.int p1), (.long q2), (.long q3)] maxLocals)) t := by
    intro t kt
    refine K0 t ?_
    show Steps p.tables e below (s₁.setTop (mkF m 0 #[.val (.long q0), .second, .val (.int p1), .val (.long q2), .second, .val (.long q3), .second, .unset, .unset, .unset, .unset, .unset, .unset, .unset, .unset, .unset, .unset, .unset, .unset, .unset, .unset, .unset, .unset, .unset, .unset] [])) _
    refine XS.lconst X0.here hx rfl (hb hby at_0) ?_
    show Steps p.tables e below (s₁.setTop (mkF m 1 #[.val (.long q0), .second, .val (.int p1), .val (.long q2), .second, .val (.long q3), .second, .unset, .unset, .unset, .unset, .unset, .unset, .unset, .unset, .unset, .unset, .unset, .unset, .unset, .unset, .unset, .unset, .unset, .unset] [(.long (1 : Int64))])) _
    refine XS.lloadN X0.here hx rfl (hb hby at_1) rfl ?_
    show Steps p.tables e below (s₁.setTop (mkF m 2 #[.val (.long q0), .second, .val (.int p1), .val (.long q2), .second, .val (.long q3), .second, .unset, .unset, .unset, .unset, .unset, .unset, .unset, .unset, .unset, .unset, .unset, .unset, .unset, .unset, .unset, .unset, .unset, .unset] [(.long q0), (.long (1 : Int64))])) _
    refine X0.ldc2Long hx hown (mvT hZ (hw _ (List.mem_of_getElem? (i := 0) rfl))) (g := (mkF m 2 #[.val (.long q0), .second, .val (.int p1), .val (.long q2), .second, .val (.long q3), .second, .unset, .unset, .unset, .unset, .unset, .unset, .unset, .unset, .unset, .unset, .unset, .unset, .unset, .unset, .unset, .unset, .unset, .unset] [(.long q0), (.long (1 : Int64))])) rfl (hb hby at_2) _ ?_
    show Steps p.tables e below (s₁.setTop (mkF m 5 #[.val (.long q0), .second, .val (.int p1), .val (.long q2), .second, .val (.long q3), .second, .unset, .unset, .unset, .unset, .unset, .unset, .unset, .unset, .unset, .unset, .unset, .unset, .unset, .unset, .unset, .unset, .unset, .unset] [(.long (9223372036854775807 : Int64)), (.long q0), (.long (1 : Int64))])) _
    refine XS.land X0.here hx rfl (hb hby at_5) rfl ?_
    show Steps p.tables e below (s₁.setTop (mkF m 6 #[.val (.long q0), .second, .val (.int p1), .val (.long q2), .second, .val (.long q3), .second, .unset, .unset, .unset, .unset, .unset, .unset, .unset, .unset, .unset, .unset, .unset, .unset, .unset, .unset, .unset, .unset, .unset, .unset] [(.long (q0 &&& (9223372036854775807 : Int64))), (.long (1 : Int64))])) _
    refine st1 _ ?_
    show Steps p.tables e below (T1.setTop (mkF m 9 #[.val (.long q0), .second, .val (.int p1), .val (.long q2), .second, .val (.long q3), .second, .unset, .unset, .unset, .unset, .unset, .unset, .unset, .unset, .unset, .unset, .unset, .unset, .unset, .unset, .unset, .unset, .unset, .unset] [(.long (own_lmax (1 : Int64) (q0 &&& (9223372036854775807 : Int64))))])) _
    refine XS.lstore X1.here hx rfl (hb hby at_9) rfl (l' := #[.val (.long q0), .second, .val (.int p1), .val (.long q2), .second, .val (.long q3), .second, .val (.long (own_lmax (1 : Int64) (q0 &&& (9223372036854775807 : Int64)))), .second, .unset, .unset, .unset, .unset, .unset, .unset, .unset, .unset, .unset, .unset, .unset, .unset, .unset, .unset, .unset, .unset]) rfl ?_
    exact kt
  obtain ⟨st, hg_st⟩ : ∃ z, z = (own_lmax (1 : Int64) (q0 &&& (9223372036854775807 : Int64))) := ⟨_, rfl⟩
  rw [← hg_st] at K2
  have hst : 1 ≤ st.toInt := by rw [hg_st]; exact own_st2 q0
  have K3 : ∀ t, Steps p.tables e below (T1.setTop (mkF m 19 #[.val (.long q0), .second, .val (.int p1), .val (.long q2), .second, .val (.long q3), .second, .val (.long st), .second, .val (.int ((2 : Int32) + (p1 &&& (31 : Int32)))), .unset, .unset, .unset, .unset, .unset, .unset, .unset, .unset, .unset, .unset, .unset, .unset, .unset, .unset, .unset] [])) t → Steps p.tables e below (s₁.setTop (entryFrame m #[(.long q0), (.int p1), (.long q2), (.long q3)] maxLocals)) t := by
    intro t kt
    refine K2 t ?_
    show Steps p.tables e below (T1.setTop (mkF m 11 #[.val (.long q0), .second, .val (.int p1), .val (.long q2), .second, .val (.long q3), .second, .val (.long st), .second, .unset, .unset, .unset, .unset, .unset, .unset, .unset, .unset, .unset, .unset, .unset, .unset, .unset, .unset, .unset, .unset] [])) _
    refine XS.iconst X1.here hx rfl (hb hby at_11) ?_
    show Steps p.tables e below (T1.setTop (mkF m 12 #[.val (.long q0), .second, .val (.int p1), .val (.long q2), .second, .val (.long q3), .second, .val (.long st), .second, .unset, .unset, .unset, .unset, .unset, .unset, .unset, .unset, .unset, .unset, .unset, .unset, .unset, .unset, .unset, .unset] [(.int (2 : Int32))])) _
    refine XS.iloadN X1.here hx rfl (hb hby at_12) rfl ?_
    show Steps p.tables e below (T1.setTop (mkF m 13 #[.val (.long q0), .second, .val (.int p1), .val (.long q2), .second, .val (.long q3), .second, .val (.long st), .second, .unset, .unset, .unset, .unset, .unset, .unset, .unset, .unset, .unset, .unset, .unset, .unset, .unset, .unset, .unset, .unset] [(.int p1), (.int (2 : Int32))])) _
    refine XS.bipush X1.here hx rfl (hb hby at_13) ?_
    show Steps p.tables e below (T1.setTop (mkF m 15 #[.val (.long q0), .second, .val (.int p1), .val (.long q2), .second, .val (.long q3), .second, .val (.long st), .second, .unset, .unset, .unset, .unset, .unset, .unset, .unset, .unset, .unset, .unset, .unset, .unset, .unset, .unset, .unset, .unset] [(.int (31 : Int32)), (.int p1), (.int (2 : Int32))])) _
    refine XS.iand X1.here hx rfl (hb hby at_15) rfl ?_
    show Steps p.tables e below (T1.setTop (mkF m 16 #[.val (.long q0), .second, .val (.int p1), .val (.long q2), .second, .val (.long q3), .second, .val (.long st), .second, .unset, .unset, .unset, .unset, .unset, .unset, .unset, .unset, .unset, .unset, .unset, .unset, .unset, .unset, .unset, .unset] [(.int (p1 &&& (31 : Int32))), (.int (2 : Int32))])) _
    refine XS.iadd X1.here hx rfl (hb hby at_16) rfl ?_
    show Steps p.tables e below (T1.setTop (mkF m 17 #[.val (.long q0), .second, .val (.int p1), .val (.long q2), .second, .val (.long q3), .second, .val (.long st), .second, .unset, .unset, .unset, .unset, .unset, .unset, .unset, .unset, .unset, .unset, .unset, .unset, .unset, .unset, .unset, .unset] [(.int ((2 : Int32) + (p1 &&& (31 : Int32))))])) _
    refine XS.istore X1.here hx rfl (hb hby at_17) rfl (l' := #[.val (.long q0), .second, .val (.int p1), .val (.long q2), .second, .val (.long q3), .second, .val (.long st), .second, .val (.int ((2 : Int32) + (p1 &&& (31 : Int32)))), .unset, .unset, .unset, .unset, .unset, .unset, .unset, .unset, .unset, .unset, .unset, .unset, .unset, .unset, .unset]) rfl ?_
    exact kt
  obtain ⟨nn, hg_nn⟩ : ∃ z, z = ((2 : Int32) + (p1 &&& (31 : Int32))) := ⟨_, rfl⟩
  rw [← hg_nn] at K3
  have hnn : 2 ≤ nn.toInt ∧ nn.toInt ≤ 33 := by rw [hg_nn]; exact own_size p1
  obtain ⟨_, _, ⟨T4, L4, k4, n4⟩, -, X4, ⟨Lc4, hQ4, l4, y4, z4⟩, st4⟩ := Jvm.LawKit.callS X1 hx (y := (⟨"java/lang/Math", "min", "(JJ)J"⟩ : MethodName)) hown (mvT hZ (hw _ (List.mem_of_getElem? (i := 5) rfl))) (mvT hZ (hw _ (List.mem_of_getElem? (i := 6) rfl))) (mvT hZ (hw _ (List.mem_of_getElem? (i := 3) rfl))) (mvT hZ (hw _ (List.mem_of_getElem? (i := 7) rfl))) (by decide) (backOf (W := 0) (rm_min l Z a0 hw [] (q2 &&& (9223372036854775807 : Int64)) (q3 &&& (9223372036854775807 : Int64))  h0 n0 Zn ) hZ (hw _ (List.mem_of_getElem? (i := 7) rfl)) (hw _ (List.mem_of_getElem? (i := 3) rfl)) (by decide) (by decide)) (g := (mkF m 38 #[.val (.long q0), .second, .val (.int p1), .val (.long q2), .second, .val (.long q3), .second, .val (.long st), .second, .val (.int nn), .val (.long (q2 &&& (9223372036854775807 : Int64))), .second, .val (.long (q3 &&& (9223372036854775807 : Int64))), .second, .unset, .unset, .unset, .unset, .unset, .unset, .unset, .unset, .unset, .unset, .unset] [(.long (q3 &&& (9223372036854775807 : Int64))), (.long (q2 &&& (9223372036854775807 : Int64)))])) rfl (by rw [hml]; rfl) (argsL := [(.long (q2 &&& (9223372036854775807 : Int64))), (.long (q3 &&& (9223372036854775807 : Int64)))]) (rest := []) (lenOf pd_6 rfl) rfl (by show 2 * 0 + _ ≤ _; exact Nat.le_of_eq rfl) (hb hby at_38) (fun _ _ => ⟨rfl, e1, (by decide : 0 + 0 ≤ _), (by decide : 0 + 0 ≤ _)⟩)
  dsimp only [Pt.U, Pt.locs, Pt.cells, Pt.slots] at X4 l4 y4 z4 st4 hQ4
  subst l4 y4 z4
  obtain ⟨rfl, N4q, e4q⟩ := hQ4
  have N4 := Fr.app N1 N4q
  have e4 : T4.heap = h0 := e4q
  have K5 : ∀ t, Steps p.tables e below (T4.setTop (mkF m 43 #[.val (.long q0), .second, .val (.int p1), .val (.long q2), .second, .val (.long q3), .second, .val (.long st), .second, .val (.int nn), .val (.long (q2 &&& (9223372036854775807 : Int64))), .second, .val (.long (q3 &&& (9223372036854775807 : Int64))), .second, .val (.long (own_lmin (q2 &&& (9223372036854775807 : Int64)) (q3 &&& (9223372036854775807 : Int64)))), .second, .unset, .unset, .unset, .unset, .unset, .unset, .unset, .unset, .unset] [])) t → Steps p.tables e below (s₁.setTop (entryFrame m #[(.long q0), (.int p1), (.long q2), (.long q3)] maxLocals)) t := by
    intro t kt
    refine K3 t ?_
    show Steps p.tables e below (T1.setTop (mkF m 19 #[.val (.long q0), .second, .val (.int p1), .val (.long q2), .second, .val (.long q3), .second, .val (.long st), .second, .val (.int nn), .unset, .unset, .unset, .unset, .unset, .unset, .unset, .unset, .unset, .unset, .unset, .unset, .unset, .unset, .unset] [])) _
    refine XS.lloadN X1.here hx rfl (hb hby at_19) rfl ?_
    show Steps p.tables e below (T1.setTop (mkF m 20 #[.val (.long q0), .second, .val (.int p1), .val (.long q2), .second, .val (.long q3), .second, .val (.long st), .second, .val (.int nn), .unset, .unset, .unset, .unset, .unset, .unset, .unset, .unset, .unset, .unset, .unset, .unset, .unset, .unset, .unset] [(.long q2)])) _
    refine X1.ldc2Long hx hown (mvT hZ (hw _ (List.mem_of_getElem? (i := 0) rfl))) (g := (mkF m 20 #[.val (.long q0), .second, .val (.int p1), .val (.long q2), .second, .val (.long q3), .second, .val (.long st), .second, .val (.int nn), .unset, .unset, .unset, .unset, .unset, .unset, .unset, .unset, .unset, .unset, .unset, .unset, .unset, .unset, .unset] [(.long q2)])) rfl (hb hby at_20) _ ?_
    show Steps p.tables e below (T1.setTop (mkF m 23 #[.val (.long q0), .second, .val (.int p1), .val (.long q2), .second, .val (.long q3), .second, .val (.long st), .second, .val (.int nn), .unset, .unset, .unset, .unset, .unset, .unset, .unset, .unset, .unset, .unset, .unset, .unset, .unset, .unset, .unset] [(.long (9223372036854775807 : Int64)), (.long q2)])) _
    refine XS.land X1.here hx rfl (hb hby at_23) rfl ?_
    show Steps p.tables e below (T1.setTop (mkF m 24 #[.val (.long q0), .second, .val (.int p1), .val (.long q2), .second, .val (.long q3), .second, .val (.long st), .second, .val (.int nn), .unset, .unset, .unset, .unset, .unset, .unset, .unset, .unset, .unset, .unset, .unset, .unset, .unset, .unset, .unset] [(.long (q2 &&& (9223372036854775807 : Int64)))])) _
    refine XS.lstore X1.here hx rfl (hb hby at_24) rfl (l' := #[.val (.long q0), .second, .val (.int p1), .val (.long q2), .second, .val (.long q3), .second, .val (.long st), .second, .val (.int nn), .val (.long (q2 &&& (9223372036854775807 : Int64))), .second, .unset, .unset, .unset, .unset, .unset, .unset, .unset, .unset, .unset, .unset, .unset, .unset, .unset]) rfl ?_
    show Steps p.tables e below (T1.setTop (mkF m 26 #[.val (.long q0), .second, .val (.int p1), .val (.long q2), .second, .val (.long q3), .second, .val (.long st), .second, .val (.int nn), .val (.long (q2 &&& (9223372036854775807 : Int64))), .second, .unset, .unset, .unset, .unset, .unset, .unset, .unset, .unset, .unset, .unset, .unset, .unset, .unset] [])) _
    refine XS.lload X1.here hx rfl (hb hby at_26) rfl ?_
    show Steps p.tables e below (T1.setTop (mkF m 28 #[.val (.long q0), .second, .val (.int p1), .val (.long q2), .second, .val (.long q3), .second, .val (.long st), .second, .val (.int nn), .val (.long (q2 &&& (9223372036854775807 : Int64))), .second, .unset, .unset, .unset, .unset, .unset, .unset, .unset, .unset, .unset, .unset, .unset, .unset, .unset] [(.long q3)])) _
    refine X1.ldc2Long hx hown (mvT hZ (hw _ (List.mem_of_getElem? (i := 0) rfl))) (g := (mkF m 28 #[.val (.long q0), .second, .val (.int p1), .val (.long q2), .second, .val (.long q3), .second, .val (.long st), .second, .val (.int nn), .val (.long (q2 &&& (9223372036854775807 : Int64))), .second, .unset, .unset, .unset, .unset, .unset, .unset, .unset, .unset, .unset, .unset, .unset, .unset, .unset] [(.long q3)])) rfl (hb hby at_28) _ ?_
    show Steps p.tables e below (T1.setTop (mkF m 31 #[.val (.long q0), .second, .val (.int p1), .val (.long q2), .second, .val (.long q3), .second, .val (.long st), .second, .val (.int nn), .val (.long (q2 &&& (9223372036854775807 : Int64))), .second, .unset, .unset, .unset, .unset, .unset, .unset, .unset, .unset, .unset, .unset, .unset, .unset, .unset] [(.long (9223372036854775807 : Int64)), (.long q3)])) _
    refine XS.land X1.here hx rfl (hb hby at_31) rfl ?_
    show Steps p.tables e below (T1.setTop (mkF m 32 #[.val (.long q0), .second, .val (.int p1), .val (.long q2), .second, .val (.long q3), .second, .val (.long st), .second, .val (.int nn), .val (.long (q2 &&& (9223372036854775807 : Int64))), .second, .unset, .unset, .unset, .unset, .unset, .unset, .unset, .unset, .unset, .unset, .unset, .unset, .unset] [(.long (q3 &&& (9223372036854775807 : Int64)))])) _
    refine XS.lstore X1.here hx rfl (hb hby at_32) rfl (l' := #[.val (.long q0), .second, .val (.int p1), .val (.long q2), .second, .val (.long q3), .second, .val (.long st), .second, .val (.int nn), .val (.long (q2 &&& (9223372036854775807 : Int64))), .second, .val (.long (q3 &&& (9223372036854775807 : Int64))), .second, .unset, .unset, .unset, .unset, .unset, .unset, .unset, .unset, .unset, .unset, .unset]) rfl ?_
    show Steps p.tables e below (T1.setTop (mkF m 34 #[.val (.long q0), .second, .val (.int p1), .val (.long q2), .second, .val (.long q3), .second, .val (.long st), .second, .val (.int nn), .val (.long (q2 &&& (9223372036854775807 : Int64))), .second, .val (.long (q3 &&& (9223372036854775807 : Int64))), .second, .unset, .unset, .unset, .unset, .unset, .unset, .unset, .unset, .unset, .unset, .unset] [])) _
    refine XS.lload X1.here hx rfl (hb hby at_34) rfl ?_
    show Steps p.tables e below (T1.setTop (mkF m 36 #[.val (.long q0), .second, .val (.int p1), .val (.long q2), .second, .val (.long q3), .second, .val (.long st), .second, .val (.int nn), .val (.long (q2 &&& (9223372036854775807 : Int64))), .second, .val (.long (q3 &&& (9223372036854775807 : Int64))), .second, .unset, .unset, .unset, .unset, .unset, .unset, .unset, .unset, .unset, .unset, .unset] [(.long (q2 &&& (9223372036854775807 : Int64)))])) _
    refine XS.lload X1.here hx rfl (hb hby at_36) rfl ?_
    show Steps p.tables e below (T1.setTop (mkF m 38 #[.val (.long q0), .second, .val (.int p1), .val (.long q2), .second, .val (.long q3), .second, .val (.long st), .second, .val (.int nn), .val (.long (q2 &&& (9223372036854775807 : Int64))), .second, .val (.long (q3 &&& (9223372036854775807 : Int64))), .second, .unset, .unset, .unset, .unset, .unset, .unset, .unset, .unset, .unset, .unset, .unset] [(.long (q3 &&& (9223372036854775807 : Int64))), (.long (q2 &&& (9223372036854775807 : Int64)))])) _
    refine st4 _ ?_
    show Steps p.tables e below (T4.setTop (mkF m 41 #[.val (.long q0), .second, .val (.int p1), .val (.long q2), .second, .val (.long q3), .second, .val (.long st), .second, .val (.int nn), .val (.long (q2 &&& (9223372036854775807 : Int64))), .second, .val (.long (q3 &&& (9223372036854775807 : Int64))), .second, .unset, .unset, .unset, .unset, .unset, .unset, .unset, .unset, .unset, .unset, .unset] [(.long (own_lmin (q2 &&& (9223372036854775807 : Int64)) (q3 &&& (9223372036854775807 : Int64))))])) _
    refine XS.lstore X4.here hx rfl (hb hby at_41) rfl (l' := #[.val (.long q0), .second, .val (.int p1), .val (.long q2), .second, .val (.long q3), .second, .val (.long st), .second, .val (.int nn), .val (.long (q2 &&& (9223372036854775807 : Int64))), .second, .val (.long (q3 &&& (9223372036854775807 : Int64))), .second, .val (.long (own_lmin (q2 &&& (9223372036854775807 : Int64)) (q3 &&& (9223372036854775807 : Int64)))), .second, .unset, .unset, .unset, .unset, .unset, .unset, .unset, .unset, .unset]) rfl ?_
    exact kt
  obtain ⟨t1, hg_t1⟩ : ∃ z, z = (own_lmin (q2 &&& (9223372036854775807 : Int64)) (q3 &&& (9223372036854775807 : Int64))) := ⟨_, rfl⟩
  rw [← hg_t1] at K5
  have ht1 : 0 ≤ t1.toInt := by rw [hg_t1]; exact own_minp (own_pos _) (own_pos _)
  obtain ⟨_, _, ⟨T6, L6, k6, n6⟩, -, X6, ⟨Lc6, hQ6, l6, y6, z6⟩, st6⟩ := Jvm.LawKit.callS X4 hx (y := (⟨"java/lang/Math", "max", "(JJ)J"⟩ : MethodName)) hown (mvT hZ (hw _ (List.mem_of_getElem? (i := 1) rfl))) (mvT hZ (hw _ (List.mem_of_getElem? (i := 2) rfl))) (mvT hZ (hw _ (List.mem_of_getElem? (i := 3) rfl))) (mvT hZ (hw _ (List.mem_of_getElem? (i := 4) rfl))) (by decide) (backOf (W := 0) (rm_max l Z a0 hw [] (q2 &&& (9223372036854775807 : Int64)) (q3 &&& (9223372036854775807 : Int64))  h0 n0 Zn ) hZ (hw _ (List.mem_of_getElem? (i := 4) rfl)) (hw _ (List.mem_of_getElem? (i := 3) rfl)) (by decide) (by decide)) (g := (mkF m 47 #[.val (.long q0), .second, .val (.int p1), .val (.long q2), .second, .val (.long q3), .second, .val (.long st), .second, .val (.int nn), .val (.long (q2 &&& (9223372036854775807 : Int64))), .second, .val (.long (q3 &&& (9223372036854775807 : Int64))), .second, .val (.long t1), .second, .unset, .unset, .unset, .unset, .unset, .unset, .unset, .unset, .unset] [(.long (q3 &&& (9223372036854775807 : Int64))), (.long (q2 &&& (9223372036854775807 : Int64)))])) rfl (by rw [hml]; rfl) (argsL := [(.long (q2 &&& (9223372036854775807 : Int64))), (.long (q3 &&& (9223372036854775807 : Int64)))]) (rest := []) (lenOf pd_6 rfl) rfl (by show 2 * 0 + _ ≤ _; exact Nat.le_of_eq rfl) (hb hby at_47) (fun _ _ => ⟨rfl, e4, (by decide : 0 + 0 ≤ _), (by decide : 0 + 0 ≤ _)⟩)
  dsimp only [Pt.U, Pt.locs, Pt.cells, Pt.slots] at X6 l6 y6 z6 st6 hQ6
  subst l6 y6 z6
  obtain ⟨rfl, N6q, e6q⟩ := hQ6
  have N6 := Fr.app N4 N6q
  have e6 : T6.heap = h0 := e6q
  have K7 : ∀ t, Steps p.tables e below (T6.setTop (mkF m 52 #[.val (.long q0), .second, .val (.int p1), .val (.long q2), .second, .val (.long q3), .second, .val (.long st), .second, .val (.int nn), .val (.long (q2 &&& (9223372036854775807 : Int64))), .second, .val (.long (q3 &&& (9223372036854775807 : Int64))), .second, .val (.long t1), .second, .val (.long (own_lmax (q2 &&& (9223372036854775807 : Int64)) (q3 &&& (9223372036854775807 : Int64)))), .second, .unset, .unset, .unset, .unset, .unset, .unset, .unset] [])) t → Steps p.tables e below (s₁.setTop (entryFrame m #[(.long q0), (.int p1), (.long q2), (.long q3)] maxLocals)) t := by
    intro t kt
    refine K5 t ?_
    show Steps p.tables e below (T4.setTop (mkF m 43 #[.val (.long q0), .second, .val (.int p1), .val (.long q2), .second, .val (.long q3), .second, .val (.long st), .second, .val (.int nn), .val (.long (q2 &&& (9223372036854775807 : Int64))), .second, .val (.long (q3 &&& (9223372036854775807 : Int64))), .second, .val (.long t1), .second, .unset, .unset, .unset, .unset, .unset, .unset, .unset, .unset, .unset] [])) _
    refine XS.lload X4.here hx rfl (hb hby at_43) rfl ?_
    show Steps p.tables e below (T4.setTop (mkF m 45 #[.val (.long q0), .second, .val (.int p1), .val (.long q2), .second, .val (.long q3), .second, .val (.long st), .second, .val (.int nn), .val (.long (q2 &&& (9223372036854775807 : Int64))), .second, .val (.long (q3 &&& (9223372036854775807 : Int64))), .second, .val (.long t1), .second, .unset, .unset, .unset, .unset, .unset, .unset, .unset, .unset, .unset] [(.long (q2 &&& (9223372036854775807 : Int64)))])) _
    refine XS.lload X4.here hx rfl (hb hby at_45) rfl ?_
    show Steps p.tables e below (T4.setTop (mkF m 47 #[.val (.long q0), .second, .val (.int p1), .val (.long q2), .second, .val (.long q3), .second, .val (.long st), .second, .val (.int nn), .val (.long (q2 &&& (9223372036854775807 : Int64))), .second, .val (.long (q3 &&& (9223372036854775807 : Int64))), .second, .val (.long t1), .second, .unset, .unset, .unset, .unset, .unset, .unset, .unset, .unset, .unset] [(.long (q3 &&& (9223372036854775807 : Int64))), (.long (q2 &&& (9223372036854775807 : Int64)))])) _
    refine st6 _ ?_
    show Steps p.tables e below (T6.setTop (mkF m 50 #[.val (.long q0), .second, .val (.int p1), .val (.long q2), .second, .val (.long q3), .second, .val (.long st), .second, .val (.int nn), .val (.long (q2 &&& (9223372036854775807 : Int64))), .second, .val (.long (q3 &&& (9223372036854775807 : Int64))), .second, .val (.long t1), .second, .unset, .unset, .unset, .unset, .unset, .unset, .unset, .unset, .unset] [(.long (own_lmax (q2 &&& (9223372036854775807 : Int64)) (q3 &&& (9223372036854775807 : Int64))))])) _
    refine XS.lstore X6.here hx rfl (hb hby at_50) rfl (l' := #[.val (.long q0), .second, .val (.int p1), .val (.long q2), .second, .val (.long q3), .second, .val (.long st), .second, .val (.int nn), .val (.long (q2 &&& (9223372036854775807 : Int64))), .second, .val (.long (q3 &&& (9223372036854775807 : Int64))), .second, .val (.long t1), .second, .val (.long (own_lmax (q2 &&& (9223372036854775807 : Int64)) (q3 &&& (9223372036854775807 : Int64)))), .second, .unset, .unset, .unset, .unset, .unset, .unset, .unset]) rfl ?_
    exact kt
  obtain ⟨t2, hg_t2⟩ : ∃ z, z = (own_lmax (q2 &&& (9223372036854775807 : Int64)) (q3 &&& (9223372036854775807 : Int64))) := ⟨_, rfl⟩
  rw [← hg_t2] at K7
  have ht2 : 0 ≤ t2.toInt := by rw [hg_t2]; exact own_maxp (own_pos _) (own_pos _)
  have K8 : ∀ t, Steps p.tables e below (T6.setTop (mkF m 64 #[.val (.long q0), .second, .val (.int p1), .val (.long q2), .second, .val (.long q3), .second, .val (.long st), .second, .val (.int nn), .val (.long (q2 &&& (9223372036854775807 : Int64))), .second, .val (.long (q3 &&& (9223372036854775807 : Int64))), .second, .val (.long t1), .second, .val (.long t2), .second, .val (.int (((t1 / st) - ((t1 / st) / (nn.toInt64)) * (nn.toInt64)).toInt32)), .unset, .unset, .unset, .unset, .unset, .unset] [])) t → Steps p.tables e below (s₁.setTop (entryFrame m #[(.long q0), (.int p1), (.long q2), (.long q3)] maxLocals)) t := by
    intro t kt
    refine K7 t ?_
    show Steps p.tables e below (T6.setTop (mkF m 52 #[.val (.long q0), .second, .val (.int p1), .val (.long q2), .second, .val (.long q3), .second, .val (.long st), .second, .val (.int nn), .val (.long (q2 &&& (9223372036854775807 : Int64))), .second, .val (.long (q3 &&& (9223372036854775807 : Int64))), .second, .val (.long t1), .second, .val (.long t2), .second, .unset, .unset, .unset, .unset, .unset, .unset, .unset] [])) _
    refine XS.lload X6.here hx rfl (hb hby at_52) rfl ?_
    show Steps p.tables e below (T6.setTop (mkF m 54 #[.val (.long q0), .second, .val (.int p1), .val (.long q2), .second, .val (.long q3), .second, .val (.long st), .second, .val (.int nn), .val (.long (q2 &&& (9223372036854775807 : Int64))), .second, .val (.long (q3 &&& (9223372036854775807 : Int64))), .second, .val (.long t1), .second, .val (.long t2), .second, .unset, .unset, .unset, .unset, .unset, .unset, .unset] [(.long t1)])) _
    refine XS.lload X6.here hx rfl (hb hby at_54) rfl ?_
    show Steps p.tables e below (T6.setTop (mkF m 56 #[.val (.long q0), .second, .val (.int p1), .val (.long q2), .second, .val (.long q3), .second, .val (.long st), .second, .val (.int nn), .val (.long (q2 &&& (9223372036854775807 : Int64))), .second, .val (.long (q3 &&& (9223372036854775807 : Int64))), .second, .val (.long t1), .second, .val (.long t2), .second, .unset, .unset, .unset, .unset, .unset, .unset, .unset] [(.long st), (.long t1)])) _
    refine XS.ldiv X6.here hx rfl (hb hby at_56) rfl (own_nzst hst) ?_
    show Steps p.tables e below (T6.setTop (mkF m 57 #[.val (.long q0), .second, .val (.int p1), .val (.long q2), .second, .val (.long q3), .second, .val (.long st), .second, .val (.int nn), .val (.long (q2 &&& (9223372036854775807 : Int64))), .second, .val (.long (q3 &&& (9223372036854775807 : Int64))), .second, .val (.long t1), .second, .val (.long t2), .second, .unset, .unset, .unset, .unset, .unset, .unset, .unset] [(.long (t1 / st))])) _
    refine XS.iload X6.here hx rfl (hb hby at_57) rfl ?_
    show Steps p.tables e below (T6.setTop (mkF m 59 #[.val (.long q0), .second, .val (.int p1), .val (.long q2), .second, .val (.long q3), .second, .val (.long st), .second, .val (.int nn), .val (.long (q2 &&& (9223372036854775807 : Int64))), .second, .val (.long (q3 &&& (9223372036854775807 : Int64))), .second, .val (.long t1), .second, .val (.long t2), .second, .unset, .unset, .unset, .unset, .unset, .unset, .unset] [(.int nn), (.long (t1 / st))])) _
    refine XS.i2l X6.here hx rfl (hb hby at_59) rfl ?_
    show Steps p.tables e below (T6.setTop (mkF m 60 #[.val (.long q0), .second, .val (.int p1), .val (.long q2), .second, .val (.long q3), .second, .val (.long st), .second, .val (.int nn), .val (.long (q2 &&& (9223372036854775807 : Int64))), .second, .val (.long (q3 &&& (9223372036854775807 : Int64))), .second, .val (.long t1), .second, .val (.long t2), .second, .unset, .unset, .unset, .unset, .unset, .unset, .unset] [(.long (nn.toInt64)), (.long (t1 / st))])) _
    refine XS.lrem X6.here hx rfl (hb hby at_60) rfl (own_nz64 hnn.1) ?_
    show Steps p.tables e below (T6.setTop (mkF m 61 #[.val (.long q0), .second, .val (.int p1), .val (.long q2), .second, .val (.long q3), .second, .val (.long st), .second, .val (.int nn), .val (.long (q2 &&& (9223372036854775807 : Int64))), .second, .val (.long (q3 &&& (9223372036854775807 : Int64))), .second, .val (.long t1), .second, .val (.long t2), .second, .unset, .unset, .unset, .unset, .unset, .unset, .unset] [(.long ((t1 / st) - ((t1 / st) / (nn.toInt64)) * (nn.toInt64)))])) _
    refine XS.l2i X6.here hx rfl (hb hby at_61) rfl ?_
    show Steps p.tables e below (T6.setTop (mkF m 62 #[.val (.long q0), .second, .val (.int p1), .val (.long q2), .second, .val (.long q3), .second, .val (.long st), .second, .val (.int nn), .val (.long (q2 &&& (9223372036854775807 : Int64))), .second, .val (.long (q3 &&& (9223372036854775807 : Int64))), .second, .val (.long t1), .second, .val (.long t2), .second, .unset, .unset, .unset, .unset, .unset, .unset, .unset] [(.int (((t1 / st) - ((t1 / st) / (nn.toInt64)) * (nn.toInt64)).toInt32))])) _
    refine XS.istore X6.here hx rfl (hb hby at_62) rfl (l' := #[.val (.long q0), .second, .val (.int p1), .val (.long q2), .second, .val (.long q3), .second, .val (.long st), .second, .val (.int nn), .val (.long (q2 &&& (9223372036854775807 : Int64))), .second, .val (.long (q3 &&& (9223372036854775807 : Int64))), .second, .val (.long t1), .second, .val (.long t2), .second, .val (.int (((t1 / st) - ((t1 / st) / (nn.toInt64)) * (nn.toInt64)).toInt32)), .unset, .unset, .unset, .unset, .unset, .unset]) rfl ?_
    exact kt
  obtain ⟨e1, hg_e1⟩ : ∃ z, z = (((t1 / st) - ((t1 / st) / (nn.toInt64)) * (nn.toInt64)).toInt32) := ⟨_, rfl⟩
  rw [← hg_e1] at K8
  have he1 : e1 = own_slot t1 st nn := hg_e1
  have be1 := own_slotB (t := t1) ⟨hst, ht1⟩ hnn.1
  rw [← he1] at be1
  have K9 : ∀ t, Steps p.tables e below (T6.setTop (mkF m 76 #[.val (.long q0), .second, .val (.int p1), .val (.long q2), .second, .val (.long q3), .second, .val (.long st), .second, .val (.int nn), .val (.long (q2 &&& (9223372036854775807 : Int64))), .second, .val (.long (q3 &&& (9223372036854775807 : Int64))), .second, .val (.long t1), .second, .val (.long t2), .second, .val (.int e1), .val (.int (((t2 / st) - ((t2 / st) / (nn.toInt64)) * (nn.toInt64)).toInt32)), .unset, .unset, .unset, .unset, .unset] [])) t → Steps p.tables e below (s₁.setTop (entryFrame m #[(.long q0), (.int p1), (.long q2), (.long q3)] maxLocals)) t := by
    intro t kt
    refine K8 t ?_
    show Steps p.tables e below (T6.setTop (mkF m 64 #[.val (.long q0), .second, .val (.int p1), .val (.long q2), .second, .val (.long q3), .second, .val (.long st), .second, .val (.int nn), .val (.long (q2 &&& (9223372036854775807 : Int64))), .second, .val (.long (q3 &&& (9223372036854775807 : Int64))), .second, .val (.long t1), .second, .val (.long t2), .second, .val (.int e1), .unset, .unset, .unset, .unset, .unset, .unset] [])) _
    refine XS.lload X6.here hx rfl (hb hby at_64) rfl ?_
    show Steps p.tables e below (T6.setTop (mkF m 66 #[.val (.long q0), .second, .val (.int p1), .val (.long q2), .second, .val (.long q3), .second, .val (.long st), .second, .val (.int nn), .val (.long (q2 &&& (9223372036854775807 : Int64))), .second, .val (.long (q3 &&& (9223372036854775807 : Int64))), .second, .val (.long t1), .second, .val (.long t2), .second, .val (.int e1), .unset, .unset, .unset, .unset, .unset, .unset] [(.long t2)])) _
    refine XS.lload X6.here hx rfl (hb hby at_66) rfl ?_
    show Steps p.tables e below (T6.setTop (mkF m 68 #[.val (.long q0), .second, .val (.int p1), .val (.long q2), .second, .val (.long q3), .second, .val (.long st), .second, .val (.int nn), .val (.long (q2 &&& (9223372036854775807 : Int64))), .second, .val (.long (q3 &&& (9223372036854775807 : Int64))), .second, .val (.long t1), .second, .val (.long t2), .second, .val (.int e1), .unset, .unset, .unset, .unset, .unset, .unset] [(.long st), (.long t2)])) _
    refine XS.ldiv X6.here hx rfl (hb hby at_68) rfl (own_nzst hst) ?_
    show Steps p.tables e below (T6.setTop (mkF m 69 #[.val (.long q0), .second, .val (.int p1), .val (.long q2), .second, .val (.long q3), .second, .val (.long st), .second, .val (.int nn), .val (.long (q2 &&& (9223372036854775807 : Int64))), .second, .val (.long (q3 &&& (9223372036854775807 : Int64))), .second, .val (.long t1), .second, .val (.long t2), .second, .val (.int e1), .unset, .unset, .unset, .unset, .unset, .unset] [(.long (t2 / st))])) _
    refine XS.iload X6.here hx rfl (hb hby at_69) rfl ?_
    show Steps p.tables e below (T6.setTop (mkF m 71 #[.val (.long q0), .second, .val (.int p1), .val (.long q2), .second, .val (.long q3), .second, .val (.long st), .second, .val (.int nn), .val (.long (q2 &&& (9223372036854775807 : Int64))), .second, .val (.long (q3 &&& (9223372036854775807 : Int64))), .second, .val (.long t1), .second, .val (.long t2), .second, .val (.int e1), .unset, .unset, .unset, .unset, .unset, .unset] [(.int nn), (.long (t2 / st))])) _
    refine XS.i2l X6.here hx rfl (hb hby at_71) rfl ?_
    show Steps p.tables e below (T6.setTop (mkF m 72 #[.val (.long q0), .second, .val (.int p1), .val (.long q2), .second, .val (.long q3), .second, .val (.long st), .second, .val (.int nn), .val (.long (q2 &&& (9223372036854775807 : Int64))), .second, .val (.long (q3 &&& (9223372036854775807 : Int64))), .second, .val (.long t1), .second, .val (.long t2), .second, .val (.int e1), .unset, .unset, .unset, .unset, .unset, .unset] [(.long (nn.toInt64)), (.long (t2 / st))])) _
    refine XS.lrem X6.here hx rfl (hb hby at_72) rfl (own_nz64 hnn.1) ?_
    show Steps p.tables e below (T6.setTop (mkF m 73 #[.val (.long q0), .second, .val (.int p1), .val (.long q2), .second, .val (.long q3), .second, .val (.long st), .second, .val (.int nn), .val (.long (q2 &&& (9223372036854775807 : Int64))), .second, .val (.long (q3 &&& (9223372036854775807 : Int64))), .second, .val (.long t1), .second, .val (.long t2), .second, .val (.int e1), .unset, .unset, .unset, .unset, .unset, .unset] [(.long ((t2 / st) - ((t2 / st) / (nn.toInt64)) * (nn.toInt64)))])) _
    refine XS.l2i X6.here hx rfl (hb hby at_73) rfl ?_
    show Steps p.tables e below (T6.setTop (mkF m 74 #[.val (.long q0), .second, .val (.int p1), .val (.long q2), .second, .val (.long q3), .second, .val (.long st), .second, .val (.int nn), .val (.long (q2 &&& (9223372036854775807 : Int64))), .second, .val (.long (q3 &&& (9223372036854775807 : Int64))), .second, .val (.long t1), .second, .val (.long t2), .second, .val (.int e1), .unset, .unset, .unset, .unset, .unset, .unset] [(.int (((t2 / st) - ((t2 / st) / (nn.toInt64)) * (nn.toInt64)).toInt32))])) _
    refine XS.istore X6.here hx rfl (hb hby at_74) rfl (l' := #[.val (.long q0), .second, .val (.int p1), .val (.long q2), .second, .val (.long q3), .second, .val (.long st), .second, .val (.int nn), .val (.long (q2 &&& (9223372036854775807 : Int64))), .second, .val (.long (q3 &&& (9223372036854775807 : Int64))), .second, .val (.long t1), .second, .val (.long t2), .second, .val (.int e1), .val (.int (((t2 / st) - ((t2 / st) / (nn.toInt64)) * (nn.toInt64)).toInt32)), .unset, .unset, .unset, .unset, .unset]) rfl ?_
    exact kt
  obtain ⟨e2, hg_e2⟩ : ∃ z, z = (((t2 / st) - ((t2 / st) / (nn.toInt64)) * (nn.toInt64)).toInt32) := ⟨_, rfl⟩
  rw [← hg_e2] at K9
  have he2 : e2 = own_slot t2 st nn := hg_e2
  have be2 := own_slotB (t := t2) ⟨hst, ht2⟩ hnn.1
  rw [← he2] at be2
  obtain ⟨T10, h10, X10, e10, E10, A10, D10, -, st10⟩ := newO X6 hx hZ hown (hw _ (List.mem_of_getElem? (i := 8) rfl)) (hw _ (List.mem_of_getElem? (i := 9) rfl)) (hw _ (List.mem_of_getElem? (i := 10) rfl)) e6 (g := (mkF m 76 #[.val (.long q0), .second, .val (.int p1), .val (.long q2), .second, .val (.long q3), .second, .val (.long st), .second, .val (.int nn), .val (.long (q2 &&& (9223372036854775807 : Int64))), .second, .val (.long (q3 &&& (9223372036854775807 : Int64))), .second, .val (.long t1), .second, .val (.long t2), .second, .val (.int e1), .val (.int e2), .unset, .unset, .unset, .unset, .unset] [])) rfl (hb hby at_76) (by decide) (by decide)
  obtain ⟨b10, g10⟩ : ∃ z, z = h0.size := ⟨_, rfl⟩
  rw [← g10] at A10 D10 st10
  have g_b10 : n0 ≤ b10 := Nat.le_trans Zn (Nat.le_of_eq g10.symm)
  replace OLD := OLD.ext E10
  replace Zn := Nat.le_trans Zn E10.1
  have E_b10 := A10
  have F_slotTicks_b10 : Fld Z h10 b10 "com/example/lachesis/lachesis/timer/Wheel" "slotTicks" "J" (.long (0 : Int64)) := D10 (Or.inr (hw _ (List.mem_of_getElem? (i := 18) rfl))) (ty := .long) (by decide)
  have F_spanTicks_b10 : Fld Z h10 b10 "com/example/lachesis/lachesis/timer/Wheel" "spanTicks" "J" (.long (0 : Int64)) := D10 (Or.inr (hw _ (List.mem_of_getElem? (i := 21) rfl))) (ty := .long) (by decide)
  have F_buckets_b10 : Fld Z h10 b10 "com/example/lachesis/lachesis/timer/Wheel" "buckets" "[Lcom/example/lachesis/lachesis/timer/Bucket;" .null := D10 (Or.inr (hw _ (List.mem_of_getElem? (i := 25) rfl))) (ty := (.array (.object "com/example/lachesis/lachesis/timer/Bucket"))) (by decide)
  have F_slotStart_b10 : Fld Z h10 b10 "com/example/lachesis/lachesis/timer/Wheel" "slotStart" "J" (.long (0 : Int64)) := D10 (Or.inl (hw _ (List.mem_of_getElem? (i := 43) rfl))) (ty := .long) (by decide)
  have F_slot_b10 : Fld Z h10 b10 "com/example/lachesis/lachesis/timer/Wheel" "slot" "I" (.int (0 : Int32)) := D10 (Or.inl (hw _ (List.mem_of_getElem? (i := 45) rfl))) (ty := .int) (by decide)
  obtain ⟨_, _, ⟨T11, L11, k11, n11⟩, -, X11, ⟨Lc11, hQ11, l11, y11, z11⟩, st11⟩ := X10.specialBack hx (y := (⟨"com/example/lachesis/lachesis/timer/Wheel", "<init>", "(JIJ)V"⟩ : MethodName)) rfl hown (mvT hZ (hw _ (List.mem_of_getElem? (i := 11) rfl))) (mvT hZ (hw _ (List.mem_of_getElem? (i := 12) rfl))) (mvT hZ (hw _ (List.mem_of_getElem? (i := 13) rfl))) (by decide) (backOf (W := 1) (rmW l Z a0 hw [] b10 st nn (0 : Int64) w_NONE h10 n0 Zn S_NONE OLD E_b10 g_b10 F_slotTicks_b10 F_spanTicks_b10 F_buckets_b10 F_slotStart_b10 F_slot_b10 hst hnn) hZ (hw _ (List.mem_of_getElem? (i := 13) rfl)) (hw _ (List.mem_of_getElem? (i := 10) rfl)) (by decide) (by decide)) (g := (mkF m 85 #[.val (.long q0), .second, .val (.int p1), .val (.long q2), .second, .val (.long q3), .second, .val (.long st), .second, .val (.int nn), .val (.long (q2 &&& (9223372036854775807 : Int64))), .second, .val (.long (q3 &&& (9223372036854775807 : Int64))), .second, .val (.long t1), .second, .val (.long t2), .second, .val (.int e1), .val (.int e2), .unset, .unset, .unset, .unset, .unset] [(.long (0 : Int64)), (.int nn), (.long st), (.ref b10), (.ref b10)])) rfl (by rw [hml]; rfl) (Steps.refl _) (a := b10) (argsL := [(.long st), (.int nn), (.long (0 : Int64))]) (rest := [(.ref b10)]) (lenOf pd_7 rfl) rfl (by show 2 * 0 + _ ≤ _; exact Nat.le_of_eq rfl) (hb hby at_85) (fun _ _ => ⟨rfl, e10, (by decide : 1 + 34 ≤ _), (by decide : 5 + 165 ≤ _)⟩)
  dsimp only [Pt.U, Pt.locs, Pt.cells, Pt.slots] at X11 l11 y11 z11 st11 hQ11
  subst l11 y11 z11
  obtain ⟨ba11, kk11, bs11, rfl, N11q, K11k, pf11_0, pf11_1, pf11_2, pf11_3, pf11_4, pf11_5, pf11_6, pf11_7, pf11_8, pf11_9, pf11_10, pf11_11, pf11_12⟩ := hQ11
  have N11 := Fr.app N6 N11q
  have OLD := OLD.keep K11k (allS g_b10 all0)
  have E_b10 := E_b10.keep K11k
  replace Zn := Nat.le_trans Zn K11k.1
  have g_ba11 := pf11_0
  have sza11 := pf11_1
  have ne_ba11_b10 := pf11_2
  have hbl11 := pf11_3
  have hbn11 := pf11_4
  have hbe11 := pf11_5
  have V_ba11 := pf11_6
  have E_b10 := pf11_7
  have F_slotTicks_b10 := pf11_8
  have F_spanTicks_b10 := pf11_9
  have F_buckets_b10 := pf11_10
  have F_slotStart_b10 := pf11_11
  have F_slot_b10 := pf11_12
  obtain ⟨cq12, kq12, q12a, q12b, q12c⟩ := isOf hZ rfl E_b10
  obtain ⟨_, _, ⟨T12, L12, k12, n12⟩, -, X12, ⟨Lc12, hQ12, l12, y12, z12⟩, st12⟩ := X11.virtualBack hx (y := (⟨"com/example/lachesis/lachesis/timer/Wheel", "bucket", "(J)Lcom/example/lachesis/lachesis/timer/Bucket;"⟩ : MethodName)) (z := (⟨"com/example/lachesis/lachesis/timer/Wheel", "bucket", "(J)Lcom/example/lachesis/lachesis/timer/Bucket;"⟩ : MethodName)) hown (mvT hZ (hw _ (List.mem_of_getElem? (i := 46) rfl))) (mvT hZ (hw _ (List.mem_of_getElem? (i := 47) rfl))) (notFace_of_selects (args := #[]) (mvT hZ (hw _ (List.mem_of_getElem? (i := 49) rfl)))) (mvT hZ (hw _ (List.mem_of_getElem? (i := 49) rfl))) (mvT hZ (hw _ (List.mem_of_getElem? (i := 48) rfl))) (by decide) (backOf (W := 0) (rmK l Z a0 hw [] b10 (e1.toInt64) (own_slot (0 : Int64) st nn) ba11 kk11 nn bs11 e1 T11.heap n0 Zn F_slot_b10 F_buckets_b10 V_ba11 hbl11 be1 (own_idx0 (own_slot0 st nn hst hnn.1) be1)) hZ (hw _ (List.mem_of_getElem? (i := 50) rfl)) (hw _ (List.mem_of_getElem? (i := 10) rfl)) (by decide) (by decide)) q12a q12c (g := (mkF m 95 #[.val (.long q0), .second, .val (.int p1), .val (.long q2), .second, .val (.long q3), .second, .val (.long st), .second, .val (.int nn), .val (.long (q2 &&& (9223372036854775807 : Int64))), .second, .val (.long (q3 &&& (9223372036854775807 : Int64))), .second, .val (.long t1), .second, .val (.long t2), .second, .val (.int e1), .val (.int e2), .val (.ref b10), .unset, .unset, .unset, .unset] [(.long (e1.toInt64)), (.ref b10)])) rfl (by rw [hml]; rfl) (Steps.refl _) (argsL := [(.long (e1.toInt64))]) (rest := []) (lenOf pd_8 rfl) rfl (by show 2 * 0 + _ ≤ _; exact Nat.le_of_eq rfl) (hb hby at_95) (fun _ _ => ⟨rfl, rfl, (by decide : 35 + 0 ≤ _), (by decide : 170 + 0 ≤ _)⟩)
  dsimp only [Pt.U, Pt.locs, Pt.cells, Pt.slots] at X12 l12 y12 z12 st12 hQ12
  subst l12 y12 z12
  obtain ⟨rfl, N12q, e12q⟩ := hQ12
  have N12 := Fr.app N11 N12q
  have e12 : T12.heap = T11.heap := e12q
  obtain ⟨cq13, kq13, q13a, q13b, q13c⟩ := isOf hZ e12 E_b10
  obtain ⟨_, _, ⟨T13, L13, k13, n13⟩, -, X13, ⟨Lc13, hQ13, l13, y13, z13⟩, st13⟩ := X12.virtualBack hx (y := (⟨"com/example/lachesis/lachesis/timer/Wheel", "bucket", "(J)Lcom/example/lachesis/lachesis/timer/Bucket;"⟩ : MethodName)) (z := (⟨"com/example/lachesis/lachesis/timer/Wheel", "bucket", "(J)Lcom/example/lachesis/lachesis/timer/Bucket;"⟩ : MethodName)) hown (mvT hZ (hw _ (List.mem_of_getElem? (i := 46) rfl))) (mvT hZ (hw _ (List.mem_of_getElem? (i := 47) rfl))) (notFace_of_selects (args := #[]) (mvT hZ (hw _ (List.mem_of_getElem? (i := 49) rfl)))) (mvT hZ (hw _ (List.mem_of_getElem? (i := 49) rfl))) (mvT hZ (hw _ (List.mem_of_getElem? (i := 48) rfl))) (by decide) (backOf (W := 0) (rmK l Z a0 hw [] b10 (e2.toInt64) (own_slot (0 : Int64) st nn) ba11 kk11 nn bs11 e2 T11.heap n0 Zn F_slot_b10 F_buckets_b10 V_ba11 hbl11 be2 (own_idx0 (own_slot0 st nn hst hnn.1) be2)) hZ (hw _ (List.mem_of_getElem? (i := 50) rfl)) (hw _ (List.mem_of_getElem? (i := 10) rfl)) (by decide) (by decide)) q13a q13c (g := (mkF m 105 #[.val (.long q0), .second, .val (.int p1), .val (.long q2), .second, .val (.long q3), .second, .val (.long st), .second, .val (.int nn), .val (.long (q2 &&& (9223372036854775807 : Int64))), .second, .val (.long (q3 &&& (9223372036854775807 : Int64))), .second, .val (.long t1), .second, .val (.long t2), .second, .val (.int e1), .val (.int e2), .val (.ref b10), .val (.ref (bs11.getD e1.toNatClampNeg 0)), .unset, .unset, .unset] [(.long (e2.toInt64)), (.ref b10)])) rfl (by rw [hml]; rfl) (Steps.refl _) (argsL := [(.long (e2.toInt64))]) (rest := []) (lenOf pd_8 rfl) rfl (by show 2 * 0 + _ ≤ _; exact Nat.le_of_eq rfl) (hb hby at_105) (fun _ _ => ⟨rfl, e12, (by decide : 35 + 0 ≤ _), (by decide : 170 + 0 ≤ _)⟩)
  dsimp only [Pt.U, Pt.locs, Pt.cells, Pt.slots] at X13 l13 y13 z13 st13 hQ13
  subst l13 y13 z13
  obtain ⟨rfl, N13q, e13q⟩ := hQ13
  have N13 := Fr.app N12 N13q
  have e13 : T13.heap = T11.heap := e13q
  obtain ⟨cq14, kq14, q14a, q14b, q14c⟩ := isOf hZ e13 E_b10
  obtain ⟨_, _, ⟨T14, L14, k14, n14⟩, -, X14, ⟨Lc14, hQ14, l14, y14, z14⟩, st14⟩ := X13.virtualBack hx (y := (⟨"com/example/lachesis/lachesis/timer/Wheel", "moveTo", "(J)V"⟩ : MethodName)) (z := (⟨"com/example/lachesis/lachesis/timer/Wheel", "moveTo", "(J)V"⟩ : MethodName)) hown (mvT hZ (hw _ (List.mem_of_getElem? (i := 51) rfl))) (mvT hZ (hw _ (List.mem_of_getElem? (i := 38) rfl))) (notFace_of_selects (args := #[]) (mvT hZ (hw _ (List.mem_of_getElem? (i := 40) rfl)))) (mvT hZ (hw _ (List.mem_of_getElem? (i := 40) rfl))) (mvT hZ (hw _ (List.mem_of_getElem? (i := 39) rfl))) (by decide) (backOf (W := 0) (rmM l Z a0 hw [] b10 t1 st (own_span st nn) ba11 (((0 : Int64) / st) * st) (own_slot (0 : Int64) st nn) kk11 nn (bs11.map Value.ref) T11.heap n0 Zn E_b10 g_b10 ne_ba11_b10 F_slotTicks_b10 F_spanTicks_b10 F_buckets_b10 F_slotStart_b10 F_slot_b10 V_ba11 (own_nzst hst) (own_nz64 hnn.1)) hZ (hw _ (List.mem_of_getElem? (i := 41) rfl)) (hw _ (List.mem_of_getElem? (i := 10) rfl)) (by decide) (by decide)) q14a q14c (g := (mkF m 114 #[.val (.long q0), .second, .val (.int p1), .val (.long q2), .second, .val (.long q3), .second, .val (.long st), .second, .val (.int nn), .val (.long (q2 &&& (9223372036854775807 : Int64))), .second, .val (.long (q3 &&& (9223372036854775807 : Int64))), .second, .val (.long t1), .second, .val (.long t2), .second, .val (.int e1), .val (.int e2), .val (.ref b10), .val (.ref (bs11.getD e1.toNatClampNeg 0)), .val (.ref (bs11.getD e2.toNatClampNeg 0)), .unset, .unset] [(.long t1), (.ref b10)])) rfl (by rw [hml]; rfl) (Steps.refl _) (argsL := [(.long t1)]) (rest := []) (lenOf pd_3 rfl) rfl (by show 2 * 0 + _ ≤ _; exact Nat.le_of_eq rfl) (hb hby at_114) (fun _ _ => ⟨rfl, e13, (by decide : 35 + 0 ≤ _), (by decide : 170 + 0 ≤ _)⟩)
  dsimp only [Pt.U, Pt.locs, Pt.cells, Pt.slots] at X14 l14 y14 z14 st14 hQ14
  subst l14 y14 z14
  obtain ⟨rfl, N14q, K14k, pf14_0, pf14_1, pf14_2, pf14_3, pf14_4, pf14_5⟩ := hQ14
  have N14 := Fr.app N13 N14q
  have OLD := OLD.keep K14k (allS g_b10 all0)
  have E_b10 := E_b10.keep K14k
  have V_ba11 := V_ba11.keep K14k (ninS ne_ba11_b10 nin0)
  replace Zn := Nat.le_trans Zn K14k.1
  have E_b10 := pf14_0
  have F_slotTicks_b10 := pf14_1
  have F_spanTicks_b10 := pf14_2
  have F_buckets_b10 := pf14_3
  have F_slotStart_b10 := pf14_4
  have F_slot_b10 := pf14_5
  obtain ⟨_, _, ⟨T15, L15, k15, n15⟩, -, X15, ⟨Lc15, hQ15, l15, y15, z15⟩, st15⟩ := Jvm.LawKit.callS X14 hx (y := (⟨"com/example/lachesis/lachesis/timer/WheelMoveToPinLaw", "standsAt", "(Lcom/example/lachesis/lachesis/timer/Wheel;JJ)Z"⟩ : MethodName)) hown (mvT hZ (hw _ (List.mem_of_getElem? (i := 52) rfl))) (mvT hZ (hw _ (List.mem_of_getElem? (i := 53) rfl))) (mvT hZ (hw _ (List.mem_of_getElem? (i := 54) rfl))) (mvT hZ (hw _ (List.mem_of_getElem? (i := 55) rfl))) (by decide) (backOf (W := 0) (rmS l Z a0 hw [] b10 t1 st  T14.heap n0 Zn E_b10 F_slotTicks_b10 F_slotStart_b10 ⟨hst, ht1⟩) hZ (hw _ (List.mem_of_getElem? (i := 55) rfl)) (hw _ (List.mem_of_getElem? (i := 54) rfl)) (by decide) (by decide)) (g := (mkF m 123 #[.val (.long q0), .second, .val (.int p1), .val (.long q2), .second, .val (.long q3), .second, .val (.long st), .second, .val (.int nn), .val (.long (q2 &&& (9223372036854775807 : Int64))), .second, .val (.long (q3 &&& (9223372036854775807 : Int64))), .second, .val (.long t1), .second, .val (.long t2), .second, .val (.int e1), .val (.int e2), .val (.ref b10), .val (.ref (bs11.getD e1.toNatClampNeg 0)), .val (.ref (bs11.getD e2.toNatClampNeg 0)), .unset, .unset] [(.long st), (.long t1), (.ref b10)])) rfl (by rw [hml]; rfl) (argsL := [(.ref b10), (.long t1), (.long st)]) (rest := []) (lenOf pd_9 rfl) rfl (by show 2 * 0 + _ ≤ _; exact Nat.le_of_eq rfl) (hb hby at_123) (fun _ _ => ⟨rfl, rfl, (by decide : 35 + 0 ≤ _), (by decide : 170 + 0 ≤ _)⟩)
  dsimp only [Pt.U, Pt.locs, Pt.cells, Pt.slots] at X15 l15 y15 z15 st15 hQ15
  subst l15 y15 z15
  obtain ⟨rfl, N15q, e15q⟩ := hQ15
  have N15 := Fr.app N14 N15q
  have e15 : T15.heap = T14.heap := e15q
  have hc126 : ¬ ((1 : Int32) = (0 : Int32)) := (by decide)
  obtain ⟨cq16, kq16, q16a, q16b, q16c⟩ := isOf hZ e15 E_b10
  obtain ⟨_, _, ⟨T16, L16, k16, n16⟩, -, X16, ⟨Lc16, hQ16, l16, y16, z16⟩, st16⟩ := X15.virtualBack hx (y := (⟨"com/example/lachesis/lachesis/timer/Wheel", "bucket", "(J)Lcom/example/lachesis/lachesis/timer/Bucket;"⟩ : MethodName)) (z := (⟨"com/example/lachesis/lachesis/timer/Wheel", "bucket", "(J)Lcom/example/lachesis/lachesis/timer/Bucket;"⟩ : MethodName)) hown (mvT hZ (hw _ (List.mem_of_getElem? (i := 46) rfl))) (mvT hZ (hw _ (List.mem_of_getElem? (i := 47) rfl))) (notFace_of_selects (args := #[]) (mvT hZ (hw _ (List.mem_of_getElem? (i := 49) rfl)))) (mvT hZ (hw _ (List.mem_of_getElem? (i := 49) rfl))) (mvT hZ (hw _ (List.mem_of_getElem? (i := 48) rfl))) (by decide) (backOf (W := 0) (rmK l Z a0 hw [] b10 (0 : Int64) (own_slot t1 st nn) ba11 kk11 nn bs11 e1 T14.heap n0 Zn F_slot_b10 F_buckets_b10 V_ba11 hbl11 be1 (own_idx1 (he1 ▸ rfl : own_slot t1 st nn = e1) be1)) hZ (hw _ (List.mem_of_getElem? (i := 50) rfl)) (hw _ (List.mem_of_getElem? (i := 10) rfl)) (by decide) (by decide)) q16a q16c (g := (mkF m 132 #[.val (.long q0), .second, .val (.int p1), .val (.long q2), .second, .val (.long q3), .second, .val (.long st), .second, .val (.int nn), .val (.long (q2 &&& (9223372036854775807 : Int64))), .second, .val (.long (q3 &&& (9223372036854775807 : Int64))), .second, .val (.long t1), .second, .val (.long t2), .second, .val (.int e1), .val (.int e2), .val (.ref b10), .val (.ref (bs11.getD e1.toNatClampNeg 0)), .val (.ref (bs11.getD e2.toNatClampNeg 0)), .unset, .unset] [(.long (0 : Int64)), (.ref b10)])) rfl (by rw [hml]; rfl) (Steps.refl _) (argsL := [(.long (0 : Int64))]) (rest := []) (lenOf pd_8 rfl) rfl (by show 2 * 0 + _ ≤ _; exact Nat.le_of_eq rfl) (hb hby at_132) (fun _ _ => ⟨rfl, e15, (by decide : 35 + 0 ≤ _), (by decide : 170 + 0 ≤ _)⟩)
  dsimp only [Pt.U, Pt.locs, Pt.cells, Pt.slots] at X16 l16 y16 z16 st16 hQ16
  subst l16 y16 z16
  obtain ⟨rfl, N16q, e16q⟩ := hQ16
  have N16 := Fr.app N15 N16q
  have e16 : T16.heap = T14.heap := e16q
  obtain ⟨cq17, kq17, q17a, q17b, q17c⟩ := isOf hZ e16 E_b10
  obtain ⟨_, _, ⟨T17, L17, k17, n17⟩, -, X17, ⟨Lc17, hQ17, l17, y17, z17⟩, st17⟩ := X16.virtualBack hx (y := (⟨"com/example/lachesis/lachesis/timer/Wheel", "moveTo", "(J)V"⟩ : MethodName)) (z := (⟨"com/example/lachesis/lachesis/timer/Wheel", "moveTo", "(J)V"⟩ : MethodName)) hown (mvT hZ (hw _ (List.mem_of_getElem? (i := 51) rfl))) (mvT hZ (hw _ (List.mem_of_getElem? (i := 38) rfl))) (notFace_of_selects (args := #[]) (mvT hZ (hw _ (List.mem_of_getElem? (i := 40) rfl)))) (mvT hZ (hw _ (List.mem_of_getElem? (i := 40) rfl))) (mvT hZ (hw _ (List.mem_of_getElem? (i := 39) rfl))) (by decide) (backOf (W := 0) (rmM l Z a0 hw [] b10 t2 st (own_span st nn) ba11 ((t1 / st) * st) (own_slot t1 st nn) kk11 nn (bs11.map Value.ref) T14.heap n0 Zn E_b10 g_b10 ne_ba11_b10 F_slotTicks_b10 F_spanTicks_b10 F_buckets_b10 F_slotStart_b10 F_slot_b10 V_ba11 (own_nzst hst) (own_nz64 hnn.1)) hZ (hw _ (List.mem_of_getElem? (i := 41) rfl)) (hw _ (List.mem_of_getElem? (i := 10) rfl)) (by decide) (by decide)) q17a q17c (g := (mkF m 151 #[.val (.long q0), .second, .val (.int p1), .val (.long q2), .second, .val (.long q3), .second, .val (.long st), .second, .val (.int nn), .val (.long (q2 &&& (9223372036854775807 : Int64))), .second, .val (.long (q3 &&& (9223372036854775807 : Int64))), .second, .val (.long t1), .second, .val (.long t2), .second, .val (.int e1), .val (.int e2), .val (.ref b10), .val (.ref (bs11.getD e1.toNatClampNeg 0)), .val (.ref (bs11.getD e2.toNatClampNeg 0)), .val (.int (1 : Int32)), .unset] [(.long t2), (.ref b10)])) rfl (by rw [hml]; rfl) (Steps.refl _) (argsL := [(.long t2)]) (rest := []) (lenOf pd_3 rfl) rfl (by show 2 * 0 + _ ≤ _; exact Nat.le_of_eq rfl) (hb hby at_151) (fun _ _ => ⟨rfl, e16, (by decide : 35 + 0 ≤ _), (by decide : 170 + 0 ≤ _)⟩)
  dsimp only [Pt.U, Pt.locs, Pt.cells, Pt.slots] at X17 l17 y17 z17 st17 hQ17
  subst l17 y17 z17
  obtain ⟨rfl, N17q, K17k, pf17_0, pf17_1, pf17_2, pf17_3, pf17_4, pf17_5⟩ := hQ17
  have N17 := Fr.app N16 N17q
  have OLD := OLD.keep K17k (allS g_b10 all0)
  have E_b10 := E_b10.keep K17k
  have V_ba11 := V_ba11.keep K17k (ninS ne_ba11_b10 nin0)
  replace Zn := Nat.le_trans Zn K17k.1
  have E_b10 := pf17_0
  have F_slotTicks_b10 := pf17_1
  have F_spanTicks_b10 := pf17_2
  have F_buckets_b10 := pf17_3
  have F_slotStart_b10 := pf17_4
  have F_slot_b10 := pf17_5
  obtain ⟨_, _, ⟨T18, L18, k18, n18⟩, -, X18, ⟨Lc18, hQ18, l18, y18, z18⟩, st18⟩ := Jvm.LawKit.callS X17 hx (y := (⟨"com/example/lachesis/lachesis/timer/WheelMoveToPinLaw", "standsAt", "(Lcom/example/lachesis/lachesis/timer/Wheel;JJ)Z"⟩ : MethodName)) hown (mvT hZ (hw _ (List.mem_of_getElem? (i := 52) rfl))) (mvT hZ (hw _ (List.mem_of_getElem? (i := 53) rfl))) (mvT hZ (hw _ (List.mem_of_getElem? (i := 54) rfl))) (mvT hZ (hw _ (List.mem_of_getElem? (i := 55) rfl))) (by decide) (backOf (W := 0) (rmS l Z a0 hw [] b10 t2 st  T17.heap n0 Zn E_b10 F_slotTicks_b10 F_slotStart_b10 ⟨hst, ht2⟩) hZ (hw _ (List.mem_of_getElem? (i := 55) rfl)) (hw _ (List.mem_of_getElem? (i := 54) rfl)) (by decide) (by decide)) (g := (mkF m 160 #[.val (.long q0), .second, .val (.int p1), .val (.long q2), .second, .val (.long q3), .second, .val (.long st), .second, .val (.int nn), .val (.long (q2 &&& (9223372036854775807 : Int64))), .second, .val (.long (q3 &&& (9223372036854775807 : Int64))), .second, .val (.long t1), .second, .val (.long t2), .second, .val (.int e1), .val (.int e2), .val (.ref b10), .val (.ref (bs11.getD e1.toNatClampNeg 0)), .val (.ref (bs11.getD e2.toNatClampNeg 0)), .val (.int (1 : Int32)), .unset] [(.long st), (.long t2), (.ref b10)])) rfl (by rw [hml]; rfl) (argsL := [(.ref b10), (.long t2), (.long st)]) (rest := []) (lenOf pd_9 rfl) rfl (by show 2 * 0 + _ ≤ _; exact Nat.le_of_eq rfl) (hb hby at_160) (fun _ _ => ⟨rfl, rfl, (by decide : 35 + 0 ≤ _), (by decide : 170 + 0 ≤ _)⟩)
  dsimp only [Pt.U, Pt.locs, Pt.cells, Pt.slots] at X18 l18 y18 z18 st18 hQ18
  subst l18 y18 z18
  obtain ⟨rfl, N18q, e18q⟩ := hQ18
  have N18 := Fr.app N17 N18q
  have e18 : T18.heap = T17.heap := e18q
  have hc163 : ¬ ((1 : Int32) = (0 : Int32)) := (by decide)
  obtain ⟨cq19, kq19, q19a, q19b, q19c⟩ := isOf hZ e18 E_b10
  obtain ⟨_, _, ⟨T19, L19, k19, n19⟩, -, X19, ⟨Lc19, hQ19, l19, y19, z19⟩, st19⟩ := X18.virtualBack hx (y := (⟨"com/example/lachesis/lachesis/timer/Wheel", "bucket", "(J)Lcom/example/lachesis/lachesis/timer/Bucket;"⟩ : MethodName)) (z := (⟨"com/example/lachesis/lachesis/timer/Wheel", "bucket", "(J)Lcom/example/lachesis/lachesis/timer/Bucket;"⟩ : MethodName)) hown (mvT hZ (hw _ (List.mem_of_getElem? (i := 46) rfl))) (mvT hZ (hw _ (List.mem_of_getElem? (i := 47) rfl))) (notFace_of_selects (args := #[]) (mvT hZ (hw _ (List.mem_of_getElem? (i := 49) rfl)))) (mvT hZ (hw _ (List.mem_of_getElem? (i := 49) rfl))) (mvT hZ (hw _ (List.mem_of_getElem? (i := 48) rfl))) (by decide) (backOf (W := 0) (rmK l Z a0 hw [] b10 (0 : Int64) (own_slot t2 st nn) ba11 kk11 nn bs11 e2 T17.heap n0 Zn F_slot_b10 F_buckets_b10 V_ba11 hbl11 be2 (own_idx1 (he2 ▸ rfl : own_slot t2 st nn = e2) be2)) hZ (hw _ (List.mem_of_getElem? (i := 50) rfl)) (hw _ (List.mem_of_getElem? (i := 10) rfl)) (by decide) (by decide)) q19a q19c (g := (mkF m 169 #[.val (.long q0), .second, .val (.int p1), .val (.long q2), .second, .val (.long q3), .second, .val (.long st), .second, .val (.int nn), .val (.long (q2 &&& (9223372036854775807 : Int64))), .second, .val (.long (q3 &&& (9223372036854775807 : Int64))), .second, .val (.long t1), .second, .val (.long t2), .second, .val (.int e1), .val (.int e2), .val (.ref b10), .val (.ref (bs11.getD e1.toNatClampNeg 0)), .val (.ref (bs11.getD e2.toNatClampNeg 0)), .val (.int (1 : Int32)), .unset] [(.long (0 : Int64)), (.ref b10)])) rfl (by rw [hml]; rfl) (Steps.refl _) (argsL := [(.long (0 : Int64))]) (rest := []) (lenOf pd_8 rfl) rfl (by show 2 * 0 + _ ≤ _; exact Nat.le_of_eq rfl) (hb hby at_169) (fun _ _ => ⟨rfl, e18, (by decide : 35 + 0 ≤ _), (by decide : 170 + 0 ≤ _)⟩)
  dsimp only [Pt.U, Pt.locs, Pt.cells, Pt.slots] at X19 l19 y19 z19 st19 hQ19
  subst l19 y19 z19
  obtain ⟨rfl, N19q, e19q⟩ := hQ19
  have N19 := Fr.app N18 N19q
  have e19 : T19.heap = T17.heap := e19q
  have hc186 : ¬ ((1 : Int32) = (0 : Int32)) := (by decide)
  have hc191 : ¬ ((1 : Int32) = (0 : Int32)) := (by decide)
  obtain ⟨fs, hr, hrun, hended, hW, hsame⟩ := X19.leave (v := some (.int (1 : Int32))) (fun h => by rw [Bd.returns] at h; cases h) hlk
  refine ⟨_, _, K9 _ ?_, hrun, hended, _, _, rfl, ?_, ⟨_, rfl⟩, hW, hsame.mono (by decide) (by decide)⟩
  ·
    show Steps p.tables e below (T6.setTop (mkF m 76 #[.val (.long q0), .second, .val (.int p1), .val (.long q2), .second, .val (.long q3), .second, .val (.long st), .second, .val (.int nn), .val (.long (q2 &&& (9223372036854775807 : Int64))), .second, .val (.long (q3 &&& (9223372036854775807 : Int64))), .second, .val (.long t1), .second, .val (.long t2), .second, .val (.int e1), .val (.int e2), .unset, .unset, .unset, .unset, .unset] [])) _
    refine st10 _ ?_
    show Steps p.tables e below (T10.setTop (mkF m 79 #[.val (.long q0), .second, .val (.int p1), .val (.long q2), .second, .val (.long q3), .second, .val (.long st), .second, .val (.int nn), .val (.long (q2 &&& (9223372036854775807 : Int64))), .second, .val (.long (q3 &&& (9223372036854775807 : Int64))), .second, .val (.long t1), .second, .val (.long t2), .second, .val (.int e1), .val (.int e2), .unset, .unset, .unset, .unset, .unset] [(.ref b10)])) _
    refine XS.dup X10.here hx rfl (hb hby at_79) rfl rfl ?_
    show Steps p.tables e below (T10.setTop (mkF m 80 #[.val (.long q0), .second, .val (.int p1), .val (.long q2), .second, .val (.long q3), .second, .val (.long st), .second, .val (.int nn), .val (.long (q2 &&& (9223372036854775807 : Int64))), .second, .val (.long (q3 &&& (9223372036854775807 : Int64))), .second, .val (.long t1), .second, .val (.long t2), .second, .val (.int e1), .val (.int e2), .unset, .unset, .unset, .unset, .unset] [(.ref b10), (.ref b10)])) _
    refine XS.lload X10.here hx rfl (hb hby at_80) rfl ?_
    show Steps p.tables e below (T10.setTop (mkF m 82 #[.val (.long q0), .second, .val (.int p1), .val (.long q2), .second, .val (.long q3), .second, .val (.long st), .second, .val (.int nn), .val (.long (q2 &&& (9223372036854775807 : Int64))), .second, .val (.long (q3 &&& (9223372036854775807 : Int64))), .second, .val (.long t1), .second, .val (.long t2), .second, .val (.int e1), .val (.int e2), .unset, .unset, .unset, .unset, .unset] [(.long st), (.ref b10), (.ref b10)])) _
    refine XS.iload X10.here hx rfl (hb hby at_82) rfl ?_
    show Steps p.tables e below (T10.setTop (mkF m 84 #[.val (.long q0), .second, .val (.int p1), .val (.long q2), .second, .val (.long q3), .second, .val (.long st), .second, .val (.int nn), .val (.long (q2 &&& (9223372036854775807 : Int64))), .second, .val (.long (q3 &&& (9223372036854775807 : Int64))), .second, .val (.long t1), .second, .val (.long t2), .second, .val (.int e1), .val (.int e2), .unset, .unset, .unset, .unset, .unset] [(.int nn), (.long st), (.ref b10), (.ref b10)])) _
    refine XS.lconst X10.here hx rfl (hb hby at_84) ?_
    show Steps p.tables e below (T10.setTop (mkF m 85 #[.val (.long q0), .second, .val (.int p1), .val (.long q2), .second, .val (.long q3), .second, .val (.long st), .second, .val (.int nn), .val (.long (q2 &&& (9223372036854775807 : Int64))), .second, .val (.long (q3 &&& (9223372036854775807 : Int64))), .second, .val (.long t1), .second, .val (.long t2), .second, .val (.int e1), .val (.int e2), .unset, .unset, .unset, .unset, .unset] [(.long (0 : Int64)), (.int nn), (.long st), (.ref b10), (.ref b10)])) _
    refine st11.trans ?_
    show Steps p.tables e below (T11.setTop (mkF m 88 #[.val (.long q0), .second, .val (.int p1), .val (.long q2), .second, .val (.long q3), .second, .val (.long st), .second, .val (.int nn), .val (.long (q2 &&& (9223372036854775807 : Int64))), .second, .val (.long (q3 &&& (9223372036854775807 : Int64))), .second, .val (.long t1), .second, .val (.long t2), .second, .val (.int e1), .val (.int e2), .unset, .unset, .unset, .unset, .unset] [(.ref b10)])) _
    refine XS.astore X11.here hx rfl (hb hby at_88) rfl rfl (l' := #[.val (.long q0), .second, .val (.int p1), .val (.long q2), .second, .val (.long q3), .second, .val (.long st), .second, .val (.int nn), .val (.long (q2 &&& (9223372036854775807 : Int64))), .second, .val (.long (q3 &&& (9223372036854775807 : Int64))), .second, .val (.long t1), .second, .val (.long t2), .second, .val (.int e1), .val (.int e2), .val (.ref b10), .unset, .unset, .unset, .unset]) rfl ?_
    show Steps p.tables e below (T11.setTop (mkF m 90 #[.val (.long q0), .second, .val (.int p1), .val (.long q2), .second, .val (.long q3), .second, .val (.long st), .second, .val (.int nn), .val (.long (q2 &&& (9223372036854775807 : Int64))), .second, .val (.long (q3 &&& (9223372036854775807 : Int64))), .second, .val (.long t1), .second, .val (.long t2), .second, .val (.int e1), .val (.int e2), .val (.ref b10), .unset, .unset, .unset, .unset] [])) _
    refine XS.aload X11.here hx rfl (hb hby at_90) rfl rfl ?_
    show Steps p.tables e below (T11.setTop (mkF m 92 #[.val (.long q0), .second, .val (.int p1), .val (.long q2), .second, .val (.long q3), .second, .val (.long st), .second, .val (.int nn), .val (.long (q2 &&& (9223372036854775807 : Int64))), .second, .val (.long (q3 &&& (9223372036854775807 : Int64))), .second, .val (.long t1), .second, .val (.long t2), .second, .val (.int e1), .val (.int e2), .val (.ref b10), .unset, .unset, .unset, .unset] [(.ref b10)])) _
    refine XS.iload X11.here hx rfl (hb hby at_92) rfl ?_
    show Steps p.tables e below (T11.setTop (mkF m 94 #[.val (.long q0), .second, .val (.int p1), .val (.long q2), .second, .val (.long q3), .second, .val (.long st), .second, .val (.int nn), .val (.long (q2 &&& (9223372036854775807 : Int64))), .second, .val (.long (q3 &&& (9223372036854775807 : Int64))), .second, .val (.long t1), .second, .val (.long t2), .second, .val (.int e1), .val (.int e2), .val (.ref b10), .unset, .unset, .unset, .unset] [(.int e1), (.ref b10)])) _
    refine XS.i2l X11.here hx rfl (hb hby at_94) rfl ?_
    show Steps p.tables e below (T11.setTop (mkF m 95 #[.val (.long q0), .second, .val (.int p1), .val (.long q2), .second, .val (.long q3), .second, .val (.long st), .second, .val (.int nn), .val (.long (q2 &&& (9223372036854775807 : Int64))), .second, .val (.long (q3 &&& (9223372036854775807 : Int64))), .second, .val (.long t1), .second, .val (.long t2), .second, .val (.int e1), .val (.int e2), .val (.ref b10), .unset, .unset, .unset, .unset] [(.long (e1.toInt64)), (.ref b10)])) _
    refine st12.trans ?_
    show Steps p.tables e below (T12.setTop (mkF m 98 #[.val (.long q0), .second, .val (.int p1), .val (.long q2), .second, .val (.long q3), .second, .val (.long st), .second, .val (.int nn), .val (.long (q2 &&& (9223372036854775807 : Int64))), .second, .val (.long (q3 &&& (9223372036854775807 : Int64))), .second, .val (.long t1), .second, .val (.long t2), .second, .val (.int e1), .val (.int e2), .val (.ref b10), .unset, .unset, .unset, .unset] [(.ref (bs11.getD e1.toNatClampNeg 0))])) _
    refine XS.astore X12.here hx rfl (hb hby at_98) rfl rfl (l' := #[.val (.long q0), .second, .val (.int p1), .val (.long q2), .second, .val (.long q3), .second, .val (.long st), .second, .val (.int nn), .val (.long (q2 &&& (9223372036854775807 : Int64))), .second, .val (.long (q3 &&& (9223372036854775807 : Int64))), .second, .val (.long t1), .second, .val (.long t2), .second, .val (.int e1), .val (.int e2), .val (.ref b10), .val (.ref (bs11.getD e1.toNatClampNeg 0)), .unset, .unset, .unset]) rfl ?_
    show Steps p.tables e below (T12.setTop (mkF m 100 #[.val (.long q0), .second, .val (.int p1), .val (.long q2), .second, .val (.long q3), .second, .val (.long st), .second, .val (.int nn), .val (.long (q2 &&& (9223372036854775807 : Int64))), .second, .val (.long (q3 &&& (9223372036854775807 : Int64))), .second, .val (.long t1), .second, .val (.long t2), .second, .val (.int e1), .val (.int e2), .val (.ref b10), .val (.ref (bs11.getD e1.toNatClampNeg 0)), .unset, .unset, .unset] [])) _
    refine XS.aload X12.here hx rfl (hb hby at_100) rfl rfl ?_
    show Steps p.tables e below (T12.setTop (mkF m 102 #[.val (.long q0), .second, .val (.int p1), .val (.long q2), .second, .val (.long q3), .second, .val (.long st), .second, .val (.int nn), .val (.long (q2 &&& (9223372036854775807 : Int64))), .second, .val (.long (q3 &&& (9223372036854775807 : Int64))), .second, .val (.long t1), .second, .val (.long t2), .second, .val (.int e1), .val (.int e2), .val (.ref b10), .val (.ref (bs11.getD e1.toNatClampNeg 0)), .unset, .unset, .unset] [(.ref b10)])) _
    refine XS.iload X12.here hx rfl (hb hby at_102) rfl ?_
    show Steps p.tables e below (T12.setTop (mkF m 104 #[.val (.long q0), .second, .val (.int p1), .val (.long q2), .second, .val (.long q3), .second, .val (.long st), .second, .val (.int nn), .val (.long (q2 &&& (9223372036854775807 : Int64))), .second, .val (.long (q3 &&& (9223372036854775807 : Int64))), .second, .val (.long t1), .second, .val (.long t2), .second, .val (.int e1), .val (.int e2), .val (.ref b10), .val (.ref (bs11.getD e1.toNatClampNeg 0)), .unset, .unset, .unset] [(.int e2), (.ref b10)])) _
    refine XS.i2l X12.here hx rfl (hb hby at_104) rfl ?_
    show Steps p.tables e below (T12.setTop (mkF m 105 #[.val (.long q0), .second, .val (.int p1), .val (.long q2), .second, .val (.long q3), .second, .val (.long st), .second, .val (.int nn), .val (.long (q2 &&& (9223372036854775807 : Int64))), .second, .val (.long (q3 &&& (9223372036854775807 : Int64))), .second, .val (.long t1), .second, .val (.long t2), .second, .val (.int e1), .val (.int e2), .val (.ref b10), .val (.ref (bs11.getD e1.toNatClampNeg 0)), .unset, .unset, .unset] [(.long (e2.toInt64)), (.ref b10)])) _
    refine st13.trans ?_
    show Steps p.tables e below (T13.setTop (mkF m 108 #[.val (.long q0), .second, .val (.int p1), .val (.long q2), .second, .val (.long q3), .second, .val (.long st), .second, .val (.int nn), .val (.long (q2 &&& (9223372036854775807 : Int64))), .second, .val (.long (q3 &&& (9223372036854775807 : Int64))), .second, .val (.long t1), .second, .val (.long t2), .second, .val (.int e1), .val (.int e2), .val (.ref b10), .val (.ref (bs11.getD e1.toNatClampNeg 0)), .unset, .unset, .unset] [(.ref (bs11.getD e2.toNatClampNeg 0))])) _
    refine XS.astore X13.here hx rfl (hb hby at_108) rfl rfl (l' := #[.val (.long q0), .second, .val (.int p1), .val (.long q2), .second, .val (.long q3), .second, .val (.long st), .second, .val (.int nn), .val (.long (q2 &&& (9223372036854775807 : Int64))), .second, .val (.long (q3 &&& (9223372036854775807 : Int64))), .second, .val (.long t1), .second, .val (.long t2), .second, .val (.int e1), .val (.int e2), .val (.ref b10), .val (.ref (bs11.getD e1.toNatClampNeg 0)), .val (.ref (bs11.getD e2.toNatClampNeg 0)), .unset, .unset]) rfl ?_
    show Steps p.tables e below (T13.setTop (mkF m 110 #[.val (.long q0), .second, .val (.int p1), .val (.long q2), .second, .val (.long q3), .second, .val (.long st), .second, .val (.int nn), .val (.long (q2 &&& (9223372036854775807 : Int64))), .second, .val (.long (q3 &&& (9223372036854775807 : Int64))), .second, .val (.long t1), .second, .val (.long t2), .second, .val (.int e1), .val (.int e2), .val (.ref b10), .val (.ref (bs11.getD e1.toNatClampNeg 0)), .val (.ref (bs11.getD e2.toNatClampNeg 0)), .unset, .unset] [])) _
    refine XS.aload X13.here hx rfl (hb hby at_110) rfl rfl ?_
    show Steps p.tables e below (T13.setTop (mkF m 112 #[.val (.long q0), .second, .val (.int p1), .val (.long q2), .second, .val (.long q3), .second, .val (.long st), .second, .val (.int nn), .val (.long (q2 &&& (9223372036854775807 : Int64))), .second, .val (.long (q3 &&& (9223372036854775807 : Int64))), .second, .val (.long t1), .second, .val (.long t2), .second, .val (.int e1), .val (.int e2), .val (.ref b10), .val (.ref (bs11.getD e1.toNatClampNeg 0)), .val (.ref (bs11.getD e2.toNatClampNeg 0)), .unset, .unset] [(.ref b10)])) _
    refine XS.lload X13.here hx rfl (hb hby at_112) rfl ?_
    show Steps p.tables e below (T13.setTop (mkF m 114 #[.val (.long q0), .second, .val (.int p1), .val (.long q2), .second, .val (.long q3), .second, .val (.long st), .second, .val (.int nn), .val (.long (q2 &&& (9223372036854775807 : Int64))), .second, .val (.long (q3 &&& (9223372036854775807 : Int64))), .second, .val (.long t1), .second, .val (.long t2), .second, .val (.int e1), .val (.int e2), .val (.ref b10), .val (.ref (bs11.getD e1.toNatClampNeg 0)), .val (.ref (bs11.getD e2.toNatClampNeg 0)), .unset, .unset] [(.long t1), (.ref b10)])) _
    refine st14.trans ?_
    show Steps p.tables e below (T14.setTop (mkF m 117 #[.val (.long q0), .second, .val (.int p1), .val (.long q2), .second, .val (.long q3), .second, .val (.long st), .second, .val (.int nn), .val (.long (q2 &&& (9223372036854775807 : Int64))), .second, .val (.long (q3 &&& (9223372036854775807 : Int64))), .second, .val (.long t1), .second, .val (.long t2), .second, .val (.int e1), .val (.int e2), .val (.ref b10), .val (.ref (bs11.getD e1.toNatClampNeg 0)), .val (.ref (bs11.getD e2.toNatClampNeg 0)), .unset, .unset] [])) _
    refine XS.aload X14.here hx rfl (hb hby at_117) rfl rfl ?_
    show Steps p.tables e below (T14.setTop (mkF m 119 #[.val (.long q0), .second, .val (.int p1), .val (.long q2), .second, .val (.long q3), .second, .val (.long st), .second, .val (.int nn), .val (.long (q2 &&& (9223372036854775807 : Int64))), .second, .val (.long (q3 &&& (9223372036854775807 : Int64))), .second, .val (.long t1), .second, .val (.long t2), .second, .val (.int e1), .val (.int e2), .val (.ref b10), .val (.ref (bs11.getD e1.toNatClampNeg 0)), .val (.ref (bs11.getD e2.toNatClampNeg 0)), .unset, .unset] [(.ref b10)])) _
    refine XS.lload X14.here hx rfl (hb hby at_119) rfl ?_
    show Steps p.tables e below (T14.setTop (mkF m 121 #[.val (.long q0), .second, .val (.int p1), .val (.long q2), .second, .val (.long q3), .second, .val (.long st), .second, .val (.int nn), .val (.long (q2 &&& (9223372036854775807 : Int64))), .second, .val (.long (q3 &&& (9223372036854775807 : Int64))), .second, .val (.long t1), .second, .val (.long t2), .second, .val (.int e1), .val (.int e2), .val (.ref b10), .val (.ref (bs11.getD e1.toNatClampNeg 0)), .val (.ref (bs11.getD e2.toNatClampNeg 0)), .unset, .unset] [(.long t1), (.ref b10)])) _
    refine XS.lload X14.here hx rfl (hb hby at_121) rfl ?_
    show Steps p.tables e below (T14.setTop (mkF m 123 #[.val (.long q0), .second, .val (.int p1), .val (.long q2), .second, .val (.long q3), .second, .val (.long st), .second, .val (.int nn), .val (.long (q2 &&& (9223372036854775807 : Int64))), .second, .val (.long (q3 &&& (9223372036854775807 : Int64))), .second, .val (.long t1), .second, .val (.long t2), .second, .val (.int e1), .val (.int e2), .val (.ref b10), .val (.ref (bs11.getD e1.toNatClampNeg 0)), .val (.ref (bs11.getD e2.toNatClampNeg 0)), .unset, .unset] [(.long st), (.long t1), (.ref b10)])) _
    refine st15 _ ?_
    show Steps p.tables e below (T15.setTop (mkF m 126 #[.val (.long q0), .second, .val (.int p1), .val (.long q2), .second, .val (.long q3), .second, .val (.long st), .second, .val (.int nn), .val (.long (q2 &&& (9223372036854775807 : Int64))), .second, .val (.long (q3 &&& (9223372036854775807 : Int64))), .second, .val (.long t1), .second, .val (.long t2), .second, .val (.int e1), .val (.int e2), .val (.ref b10), .val (.ref (bs11.getD e1.toNatClampNeg 0)), .val (.ref (bs11.getD e2.toNatClampNeg 0)), .unset, .unset] [(.int (1 : Int32))])) _
    refine XS.ifNo X15.here hx rfl (hb hby at_126) rfl ((if0 _ _).trans (feq hc126).1) ?_
    show Steps p.tables e below (T15.setTop (mkF m 129 #[.val (.long q0), .second, .val (.int p1), .val (.long q2), .second, .val (.long q3), .second, .val (.long st), .second, .val (.int nn), .val (.long (q2 &&& (9223372036854775807 : Int64))), .second, .val (.long (q3 &&& (9223372036854775807 : Int64))), .second, .val (.long t1), .second, .val (.long t2), .second, .val (.int e1), .val (.int e2), .val (.ref b10), .val (.ref (bs11.getD e1.toNatClampNeg 0)), .val (.ref (bs11.getD e2.toNatClampNeg 0)), .unset, .unset] [])) _
    refine XS.aload X15.here hx rfl (hb hby at_129) rfl rfl ?_
    show Steps p.tables e below (T15.setTop (mkF m 131 #[.val (.long q0), .second, .val (.int p1), .val (.long q2), .second, .val (.long q3), .second, .val (.long st), .second, .val (.int nn), .val (.long (q2 &&& (9223372036854775807 : Int64))), .second, .val (.long (q3 &&& (9223372036854775807 : Int64))), .second, .val (.long t1), .second, .val (.long t2), .second, .val (.int e1), .val (.int e2), .val (.ref b10), .val (.ref (bs11.getD e1.toNatClampNeg 0)), .val (.ref (bs11.getD e2.toNatClampNeg 0)), .unset, .unset] [(.ref b10)])) _
    refine XS.lconst X15.here hx rfl (hb hby at_131) ?_
    show Steps p.tables e below (T15.setTop (mkF m 132 #[.val (.long q0), .second, .val (.int p1), .val (.long q2), .second, .val (.long q3), .second, .val (.long st), .second, .val (.int nn), .val (.long (q2 &&& (9223372036854775807 : Int64))), .second, .val (.long (q3 &&& (9223372036854775807 : Int64))), .second, .val (.long t1), .second, .val (.long t2), .second, .val (.int e1), .val (.int e2), .val (.ref b10), .val (.ref (bs11.getD e1.toNatClampNeg 0)), .val (.ref (bs11.getD e2.toNatClampNeg 0)), .unset, .unset] [(.long (0 : Int64)), (.ref b10)])) _
    refine st16.trans ?_
    show Steps p.tables e below (T16.setTop (mkF m 135 #[.val (.long q0), .second, .val (.int p1), .val (.long q2), .second, .val (.long q3), .second, .val (.long st), .second, .val (.int nn), .val (.long (q2 &&& (9223372036854775807 : Int64))), .second, .val (.long (q3 &&& (9223372036854775807 : Int64))), .second, .val (.long t1), .second, .val (.long t2), .second, .val (.int e1), .val (.int e2), .val (.ref b10), .val (.ref (bs11.getD e1.toNatClampNeg 0)), .val (.ref (bs11.getD e2.toNatClampNeg 0)), .unset, .unset] [(.ref (bs11.getD e1.toNatClampNeg 0))])) _
    refine XS.aload X16.here hx rfl (hb hby at_135) rfl rfl ?_
    show Steps p.tables e below (T16.setTop (mkF m 137 #[.val (.long q0), .second, .val (.int p1), .val (.long q2), .second, .val (.long q3), .second, .val (.long st), .second, .val (.int nn), .val (.long (q2 &&& (9223372036854775807 : Int64))), .second, .val (.long (q3 &&& (9223372036854775807 : Int64))), .second, .val (.long t1), .second, .val (.long t2), .second, .val (.int e1), .val (.int e2), .val (.ref b10), .val (.ref (bs11.getD e1.toNatClampNeg 0)), .val (.ref (bs11.getD e2.toNatClampNeg 0)), .unset, .unset] [(.ref (bs11.getD e1.toNatClampNeg 0)), (.ref (bs11.getD e1.toNatClampNeg 0))])) _
    refine Jvm.RoadKit.acmp (g := (mkF m 137 #[.val (.long q0), .second, .val (.int p1), .val (.long q2), .second, .val (.long q3), .second, .val (.long st), .second, .val (.int nn), .val (.long (q2 &&& (9223372036854775807 : Int64))), .second, .val (.long (q3 &&& (9223372036854775807 : Int64))), .second, .val (.long t1), .second, .val (.long t2), .second, .val (.int e1), .val (.int e2), .val (.ref b10), .val (.ref (bs11.getD e1.toNatClampNeg 0)), .val (.ref (bs11.getD e2.toNatClampNeg 0)), .unset, .unset] [(.ref (bs11.getD e1.toNatClampNeg 0)), (.ref (bs11.getD e1.toNatClampNeg 0))])) X16 hx rfl rfl rfl (pc0 := 137) (pc' := 140) (same := true) rfl (hb hby at_137) rfl (decide_eq_true rfl) (by decide) (by decide) ?_
    show Steps p.tables e below (T16.setTop (mkF m 140 #[.val (.long q0), .second, .val (.int p1), .val (.long q2), .second, .val (.long q3), .second, .val (.long st), .second, .val (.int nn), .val (.long (q2 &&& (9223372036854775807 : Int64))), .second, .val (.long (q3 &&& (9223372036854775807 : Int64))), .second, .val (.long t1), .second, .val (.long t2), .second, .val (.int e1), .val (.int e2), .val (.ref b10), .val (.ref (bs11.getD e1.toNatClampNeg 0)), .val (.ref (bs11.getD e2.toNatClampNeg 0)), .unset, .unset] [])) _
    refine XS.iconst X16.here hx rfl (hb hby at_140) ?_
    show Steps p.tables e below (T16.setTop (mkF m 141 #[.val (.long q0), .second, .val (.int p1), .val (.long q2), .second, .val (.long q3), .second, .val (.long st), .second, .val (.int nn), .val (.long (q2 &&& (9223372036854775807 : Int64))), .second, .val (.long (q3 &&& (9223372036854775807 : Int64))), .second, .val (.long t1), .second, .val (.long t2), .second, .val (.int e1), .val (.int e2), .val (.ref b10), .val (.ref (bs11.getD e1.toNatClampNeg 0)), .val (.ref (bs11.getD e2.toNatClampNeg 0)), .unset, .unset] [(.int (1 : Int32))])) _
    refine XS.goto X16.here hx rfl (pc0 := 141) (pc' := 145) rfl (hb hby at_141) (by decide) (by decide) ?_
    show Steps p.tables e below (T16.setTop (mkF m 145 #[.val (.long q0), .second, .val (.int p1), .val (.long q2), .second, .val (.long q3), .second, .val (.long st), .second, .val (.int nn), .val (.long (q2 &&& (9223372036854775807 : Int64))), .second, .val (.long (q3 &&& (9223372036854775807 : Int64))), .second, .val (.long t1), .second, .val (.long t2), .second, .val (.int e1), .val (.int e2), .val (.ref b10), .val (.ref (bs11.getD e1.toNatClampNeg 0)), .val (.ref (bs11.getD e2.toNatClampNeg 0)), .unset, .unset] [(.int (1 : Int32))])) _
    refine XS.istore X16.here hx rfl (hb hby at_145) rfl (l' := #[.val (.long q0), .second, .val (.int p1), .val (.long q2), .second, .val (.long q3), .second, .val (.long st), .second, .val (.int nn), .val (.long (q2 &&& (9223372036854775807 : Int64))), .second, .val (.long (q3 &&& (9223372036854775807 : Int64))), .second, .val (.long t1), .second, .val (.long t2), .second, .val (.int e1), .val (.int e2), .val (.ref b10), .val (.ref (bs11.getD e1.toNatClampNeg 0)), .val (.ref (bs11.getD e2.toNatClampNeg 0)), .val (.int (1 : Int32)), .unset]) rfl ?_
    show Steps p.tables e below (T16.setTop (mkF m 147 #[.val (.long q0), .second, .val (.int p1), .val (.long q2), .second, .val (.long q3), .second, .val (.long st), .second, .val (.int nn), .val (.long (q2 &&& (9223372036854775807 : Int64))), .second, .val (.long (q3 &&& (9223372036854775807 : Int64))), .second, .val (.long t1), .second, .val (.long t2), .second, .val (.int e1), .val (.int e2), .val (.ref b10), .val (.ref (bs11.getD e1.toNatClampNeg 0)), .val (.ref (bs11.getD e2.toNatClampNeg 0)), .val (.int (1 : Int32)), .unset] [])) _
    refine XS.aload X16.here hx rfl (hb hby at_147) rfl rfl ?_
    show Steps p.tables e below (T16.setTop (mkF m 149 #[.val (.long q0), .second, .val (.int p1), .val (.long q2), .second, .val (.long q3), .second, .val (.long st), .second, .val (.int nn), .val (.long (q2 &&& (9223372036854775807 : Int64))), .second, .val (.long (q3 &&& (9223372036854775807 : Int64))), .second, .val (.long t1), .second, .val (.long t2), .second, .val (.int e1), .val (.int e2), .val (.ref b10), .val (.ref (bs11.getD e1.toNatClampNeg 0)), .val (.ref (bs11.getD e2.toNatClampNeg 0)), .val (.int (1 : Int32)), .unset] [(.ref b10)])) _
    refine XS.lload X16.here hx rfl (hb hby at_149) rfl ?_
    show Steps p.tables e below (T16.setTop (mkF m 151 #[.val (.long q0), .second, .val (.int p1), .val (.long q2), .second, .val (.long q3), .second, .val (.long st), .second, .val (.int nn), .val (.long (q2 &&& (9223372036854775807 : Int64))), .second, .val (.long (q3 &&& (9223372036854775807 : Int64))), .second, .val (.long t1), .second, .val (.long t2), .second, .val (.int e1), .val (.int e2), .val (.ref b10), .val (.ref (bs11.getD e1.toNatClampNeg 0)), .val (.ref (bs11.getD e2.toNatClampNeg 0)), .val (.int (1 : Int32)), .unset] [(.long t2), (.ref b10)])) _
    refine st17.trans ?_
    show Steps p.tables e below (T17.setTop (mkF m 154 #[.val (.long q0), .second, .val (.int p1), .val (.long q2), .second, .val (.long q3), .second, .val (.long st), .second, .val (.int nn), .val (.long (q2 &&& (9223372036854775807 : Int64))), .second, .val (.long (q3 &&& (9223372036854775807 : Int64))), .second, .val (.long t1), .second, .val (.long t2), .second, .val (.int e1), .val (.int e2), .val (.ref b10), .val (.ref (bs11.getD e1.toNatClampNeg 0)), .val (.ref (bs11.getD e2.toNatClampNeg 0)), .val (.int (1 : Int32)), .unset] [])) _
    refine XS.aload X17.here hx rfl (hb hby at_154) rfl rfl ?_
    show Steps p.tables e below (T17.setTop (mkF m 156 #[.val (.long q0), .second, .val (.int p1), .val (.long q2), .second, .val (.long q3), .second, .val (.long st), .second, .val (.int nn), .val (.long (q2 &&& (9223372036854775807 : Int64))), .second, .val (.long (q3 &&& (9223372036854775807 : Int64))), .second, .val (.long t1), .second, .val (.long t2), .second, .val (.int e1), .val (.int e2), .val (.ref b10), .val (.ref (bs11.getD e1.toNatClampNeg 0)), .val (.ref (bs11.getD e2.toNatClampNeg 0)), .val (.int (1 : Int32)), .unset] [(.ref b10)])) _
    refine XS.lload X17.here hx rfl (hb hby at_156) rfl ?_
    show Steps p.tables e below (T17.setTop (mkF m 158 #[.val (.long q0), .second, .val (.int p1), .val (.long q2), .second, .val (.long q3), .second, .val (.long st), .second, .val (.int nn), .val (.long (q2 &&& (9223372036854775807 : Int64))), .second, .val (.long (q3 &&& (9223372036854775807 : Int64))), .second, .val (.long t1), .second, .val (.long t2), .second, .val (.int e1), .val (.int e2), .val (.ref b10), .val (.ref (bs11.getD e1.toNatClampNeg 0)), .val (.ref (bs11.getD e2.toNatClampNeg 0)), .val (.int (1 : Int32)), .unset] [(.long t2), (.ref b10)])) _
    refine XS.lload X17.here hx rfl (hb hby at_158) rfl ?_
    show Steps p.tables e below (T17.setTop (mkF m 160 #[.val (.long q0), .second, .val (.int p1), .val (.long q2), .second, .val (.long q3), .second, .val (.long st), .second, .val (.int nn), .val (.long (q2 &&& (9223372036854775807 : Int64))), .second, .val (.long (q3 &&& (9223372036854775807 : Int64))), .second, .val (.long t1), .second, .val (.long t2), .second, .val (.int e1), .val (.int e2), .val (.ref b10), .val (.ref (bs11.getD e1.toNatClampNeg 0)), .val (.ref (bs11.getD e2.toNatClampNeg 0)), .val (.int (1 : Int32)), .unset] [(.long st), (.long t2), (.ref b10)])) _
    refine st18 _ ?_
    show Steps p.tables e below (T18.setTop (mkF m 163 #[.val (.long q0), .second, .val (.int p1), .val (.long q2), .second, .val (.long q3), .second, .val (.long st), .second, .val (.int nn), .val (.long (q2 &&& (9223372036854775807 : Int64))), .second, .val (.long (q3 &&& (9223372036854775807 : Int64))), .second, .val (.long t1), .second, .val (.long t2), .second, .val (.int e1), .val (.int e2), .val (.ref b10), .val (.ref (bs11.getD e1.toNatClampNeg 0)), .val (.ref (bs11.getD e2.toNatClampNeg 0)), .val (.int (1 : Int32)), .unset] [(.int (1 : Int32))])) _
    refine XS.ifNo X18.here hx rfl (hb hby at_163) rfl ((if0 _ _).trans (feq hc163).1) ?_
    show Steps p.tables e below (T18.setTop (mkF m 166 #[.val (.long q0), .second, .val (.int p1), .val (.long q2), .second, .val (.long q3), .second, .val (.long st), .second, .val (.int nn), .val (.long (q2 &&& (9223372036854775807 : Int64))), .second, .val (.long (q3 &&& (9223372036854775807 : Int64))), .second, .val (.long t1), .second, .val (.long t2), .second, .val (.int e1), .val (.int e2), .val (.ref b10), .val (.ref (bs11.getD e1.toNatClampNeg 0)), .val (.ref (bs11.getD e2.toNatClampNeg 0)), .val (.int (1 : Int32)), .unset] [])) _
    refine XS.aload X18.here hx rfl (hb hby at_166) rfl rfl ?_
    show Steps p.tables e below (T18.setTop (mkF m 168 #[.val (.long q0), .second, .val (.int p1), .val (.long q2), .second, .val (.long q3), .second, .val (.long st), .second, .val (.int nn), .val (.long (q2 &&& (9223372036854775807 : Int64))), .second, .val (.long (q3 &&& (9223372036854775807 : Int64))), .second, .val (.long t1), .second, .val (.long t2), .second, .val (.int e1), .val (.int e2), .val (.ref b10), .val (.ref (bs11.getD e1.toNatClampNeg 0)), .val (.ref (bs11.getD e2.toNatClampNeg 0)), .val (.int (1 : Int32)), .unset] [(.ref b10)])) _
    refine XS.lconst X18.here hx rfl (hb hby at_168) ?_
    show Steps p.tables e below (T18.setTop (mkF m 169 #[.val (.long q0), .second, .val (.int p1), .val (.long q2), .second, .val (.long q3), .second, .val (.long st), .second, .val (.int nn), .val (.long (q2 &&& (9223372036854775807 : Int64))), .second, .val (.long (q3 &&& (9223372036854775807 : Int64))), .second, .val (.long t1), .second, .val (.long t2), .second, .val (.int e1), .val (.int e2), .val (.ref b10), .val (.ref (bs11.getD e1.toNatClampNeg 0)), .val (.ref (bs11.getD e2.toNatClampNeg 0)), .val (.int (1 : Int32)), .unset] [(.long (0 : Int64)), (.ref b10)])) _
    refine st19.trans ?_
    show Steps p.tables e below (T19.setTop (mkF m 172 #[.val (.long q0), .second, .val (.int p1), .val (.long q2), .second, .val (.long q3), .second, .val (.long st), .second, .val (.int nn), .val (.long (q2 &&& (9223372036854775807 : Int64))), .second, .val (.long (q3 &&& (9223372036854775807 : Int64))), .second, .val (.long t1), .second, .val (.long t2), .second, .val (.int e1), .val (.int e2), .val (.ref b10), .val (.ref (bs11.getD e1.toNatClampNeg 0)), .val (.ref (bs11.getD e2.toNatClampNeg 0)), .val (.int (1 : Int32)), .unset] [(.ref (bs11.getD e2.toNatClampNeg 0))])) _
    refine XS.aload X19.here hx rfl (hb hby at_172) rfl rfl ?_
    show Steps p.tables e below (T19.setTop (mkF m 174 #[.val (.long q0), .second, .val (.int p1), .val (.long q2), .second, .val (.long q3), .second, .val (.long st), .second, .val (.int nn), .val (.long (q2 &&& (9223372036854775807 : Int64))), .second, .val (.long (q3 &&& (9223372036854775807 : Int64))), .second, .val (.long t1), .second, .val (.long t2), .second, .val (.int e1), .val (.int e2), .val (.ref b10), .val (.ref (bs11.getD e1.toNatClampNeg 0)), .val (.ref (bs11.getD e2.toNatClampNeg 0)), .val (.int (1 : Int32)), .unset] [(.ref (bs11.getD e2.toNatClampNeg 0)), (.ref (bs11.getD e2.toNatClampNeg 0))])) _
    refine Jvm.RoadKit.acmp (g := (mkF m 174 #[.val (.long q0), .second, .val (.int p1), .val (.long q2), .second, .val (.long q3), .second, .val (.long st), .second, .val (.int nn), .val (.long (q2 &&& (9223372036854775807 : Int64))), .second, .val (.long (q3 &&& (9223372036854775807 : Int64))), .second, .val (.long t1), .second, .val (.long t2), .second, .val (.int e1), .val (.int e2), .val (.ref b10), .val (.ref (bs11.getD e1.toNatClampNeg 0)), .val (.ref (bs11.getD e2.toNatClampNeg 0)), .val (.int (1 : Int32)), .unset] [(.ref (bs11.getD e2.toNatClampNeg 0)), (.ref (bs11.getD e2.toNatClampNeg 0))])) X19 hx rfl rfl rfl (pc0 := 174) (pc' := 177) (same := true) rfl (hb hby at_174) rfl (decide_eq_true rfl) (by decide) (by decide) ?_
    show Steps p.tables e below (T19.setTop (mkF m 177 #[.val (.long q0), .second, .val (.int p1), .val (.long q2), .second, .val (.long q3), .second, .val (.long st), .second, .val (.int nn), .val (.long (q2 &&& (9223372036854775807 : Int64))), .second, .val (.long (q3 &&& (9223372036854775807 : Int64))), .second, .val (.long t1), .second, .val (.long t2), .second, .val (.int e1), .val (.int e2), .val (.ref b10), .val (.ref (bs11.getD e1.toNatClampNeg 0)), .val (.ref (bs11.getD e2.toNatClampNeg 0)), .val (.int (1 : Int32)), .unset] [])) _
    refine XS.iconst X19.here hx rfl (hb hby at_177) ?_
    show Steps p.tables e below (T19.setTop (mkF m 178 #[.val (.long q0), .second, .val (.int p1), .val (.long q2), .second, .val (.long q3), .second, .val (.long st), .second, .val (.int nn), .val (.long (q2 &&& (9223372036854775807 : Int64))), .second, .val (.long (q3 &&& (9223372036854775807 : Int64))), .second, .val (.long t1), .second, .val (.long t2), .second, .val (.int e1), .val (.int e2), .val (.ref b10), .val (.ref (bs11.getD e1.toNatClampNeg 0)), .val (.ref (bs11.getD e2.toNatClampNeg 0)), .val (.int (1 : Int32)), .unset] [(.int (1 : Int32))])) _
    refine XS.goto X19.here hx rfl (pc0 := 178) (pc' := 182) rfl (hb hby at_178) (by decide) (by decide) ?_
    show Steps p.tables e below (T19.setTop (mkF m 182 #[.val (.long q0), .second, .val (.int p1), .val (.long q2), .second, .val (.long q3), .second, .val (.long st), .second, .val (.int nn), .val (.long (q2 &&& (9223372036854775807 : Int64))), .second, .val (.long (q3 &&& (9223372036854775807 : Int64))), .second, .val (.long t1), .second, .val (.long t2), .second, .val (.int e1), .val (.int e2), .val (.ref b10), .val (.ref (bs11.getD e1.toNatClampNeg 0)), .val (.ref (bs11.getD e2.toNatClampNeg 0)), .val (.int (1 : Int32)), .unset] [(.int (1 : Int32))])) _
    refine XS.istore X19.here hx rfl (hb hby at_182) rfl (l' := #[.val (.long q0), .second, .val (.int p1), .val (.long q2), .second, .val (.long q3), .second, .val (.long st), .second, .val (.int nn), .val (.long (q2 &&& (9223372036854775807 : Int64))), .second, .val (.long (q3 &&& (9223372036854775807 : Int64))), .second, .val (.long t1), .second, .val (.long t2), .second, .val (.int e1), .val (.int e2), .val (.ref b10), .val (.ref (bs11.getD e1.toNatClampNeg 0)), .val (.ref (bs11.getD e2.toNatClampNeg 0)), .val (.int (1 : Int32)), .val (.int (1 : Int32))]) rfl ?_
    show Steps p.tables e below (T19.setTop (mkF m 184 #[.val (.long q0), .second, .val (.int p1), .val (.long q2), .second, .val (.long q3), .second, .val (.long st), .second, .val (.int nn), .val (.long (q2 &&& (9223372036854775807 : Int64))), .second, .val (.long (q3 &&& (9223372036854775807 : Int64))), .second, .val (.long t1), .second, .val (.long t2), .second, .val (.int e1), .val (.int e2), .val (.ref b10), .val (.ref (bs11.getD e1.toNatClampNeg 0)), .val (.ref (bs11.getD e2.toNatClampNeg 0)), .val (.int (1 : Int32)), .val (.int (1 : Int32))] [])) _
    refine XS.iload X19.here hx rfl (hb hby at_184) rfl ?_
    show Steps p.tables e below (T19.setTop (mkF m 186 #[.val (.long q0), .second, .val (.int p1), .val (.long q2), .second, .val (.long q3), .second, .val (.long st), .second, .val (.int nn), .val (.long (q2 &&& (9223372036854775807 : Int64))), .second, .val (.long (q3 &&& (9223372036854775807 : Int64))), .second, .val (.long t1), .second, .val (.long t2), .second, .val (.int e1), .val (.int e2), .val (.ref b10), .val (.ref (bs11.getD e1.toNatClampNeg 0)), .val (.ref (bs11.getD e2.toNatClampNeg 0)), .val (.int (1 : Int32)), .val (.int (1 : Int32))] [(.int (1 : Int32))])) _
    refine XS.ifNo X19.here hx rfl (hb hby at_186) rfl ((if0 _ _).trans (feq hc186).1) ?_
    show Steps p.tables e below (T19.setTop (mkF m 189 #[.val (.long q0), .second, .val (.int p1), .val (.long q2), .second, .val (.long q3), .second, .val (.long st), .second, .val (.int nn), .val (.long (q2 &&& (9223372036854775807 : Int64))), .second, .val (.long (q3 &&& (9223372036854775807 : Int64))), .second, .val (.long t1), .second, .val (.long t2), .second, .val (.int e1), .val (.int e2), .val (.ref b10), .val (.ref (bs11.getD e1.toNatClampNeg 0)), .val (.ref (bs11.getD e2.toNatClampNeg 0)), .val (.int (1 : Int32)), .val (.int (1 : Int32))] [])) _
    refine XS.iload X19.here hx rfl (hb hby at_189) rfl ?_
    show Steps p.tables e below (T19.setTop (mkF m 191 #[.val (.long q0), .second, .val (.int p1), .val (.long q2), .second, .val (.long q3), .second, .val (.long st), .second, .val (.int nn), .val (.long (q2 &&& (9223372036854775807 : Int64))), .second, .val (.long (q3 &&& (9223372036854775807 : Int64))), .second, .val (.long t1), .second, .val (.long t2), .second, .val (.int e1), .val (.int e2), .val (.ref b10), .val (.ref (bs11.getD e1.toNatClampNeg 0)), .val (.ref (bs11.getD e2.toNatClampNeg 0)), .val (.int (1 : Int32)), .val (.int (1 : Int32))] [(.int (1 : Int32))])) _
    refine XS.ifNo X19.here hx rfl (hb hby at_191) rfl ((if0 _ _).trans (feq hc191).1) ?_
    show Steps p.tables e below (T19.setTop (mkF m 194 #[.val (.long q0), .second, .val (.int p1), .val (.long q2), .second, .val (.long q3), .second, .val (.long st), .second, .val (.int nn), .val (.long (q2 &&& (9223372036854775807 : Int64))), .second, .val (.long (q3 &&& (9223372036854775807 : Int64))), .second, .val (.long t1), .second, .val (.long t2), .second, .val (.int e1), .val (.int e2), .val (.ref b10), .val (.ref (bs11.getD e1.toNatClampNeg 0)), .val (.ref (bs11.getD e2.toNatClampNeg 0)), .val (.int (1 : Int32)), .val (.int (1 : Int32))] [])) _
    refine XS.iconst X19.here hx rfl (hb hby at_194) ?_
    show Steps p.tables e below (T19.setTop (mkF m 195 #[.val (.long q0), .second, .val (.int p1), .val (.long q2), .second, .val (.long q3), .second, .val (.long st), .second, .val (.int nn), .val (.long (q2 &&& (9223372036854775807 : Int64))), .second, .val (.long (q3 &&& (9223372036854775807 : Int64))), .second, .val (.long t1), .second, .val (.long t2), .second, .val (.int e1), .val (.int e2), .val (.ref b10), .val (.ref (bs11.getD e1.toNatClampNeg 0)), .val (.ref (bs11.getD e2.toNatClampNeg 0)), .val (.int (1 : Int32)), .val (.int (1 : Int32))] [(.int (1 : Int32))])) _
    refine XS.goto X19.here hx rfl (pc0 := 195) (pc' := 199) rfl (hb hby at_195) (by decide) (by decide) ?_
    show Steps p.tables e below (T19.setTop (mkF m 199 #[.val (.long q0), .second, .val (.int p1), .val (.long q2), .second, .val (.long q3), .second, .val (.long st), .second, .val (.int nn), .val (.long (q2 &&& (9223372036854775807 : Int64))), .second, .val (.long (q3 &&& (9223372036854775807 : Int64))), .second, .val (.long t1), .second, .val (.long t2), .second, .val (.int e1), .val (.int e2), .val (.ref b10), .val (.ref (bs11.getD e1.toNatClampNeg 0)), .val (.ref (bs11.getD e2.toNatClampNeg 0)), .val (.int (1 : Int32)), .val (.int (1 : Int32))] [(.int (1 : Int32))])) _
    exact retN X19 hx (t := .boolean) Bd.returns (by simp) (hb hby at_199) hr
  ·
    show Q_rm0 Z q0 p1 q2 q3 w_NONE h0 n0 _ T19.heap _
    rw [e19]
    exact ⟨rfl, N19⟩
set_option maxRecDepth 65536 in
set_option maxHeartbeats 40000000 in
theorem comes_1 {Post : Tables → Env → Array Value → State → Outcome → State → Prop} (hpost : ∀ tb e args s v u, (limb_1_1.after args s (.returned v) u = true ∧ limb_1_2.after args s (.returned v) u = true ∧ True) → FrameEnd s (.returned v) u (Jvm.fieldLocs frame_1_writes args s ++ Jvm.arrayLocs frame_1_arrays args s ++ Jvm.staticLocs frame_1_statics s) 80 448 → Post tb e args s (.returned v) u) :
    ArmFor flags0 classFile x code maxLocals ret World_1 tables_1 room_1 Calls_1 rest_1 Pre_1 Post := by
  intro l hfl _ _ p e ha hc hk s m args below hf hA hF happ hP
  obtain ⟨hcalls, hrest, hpre⟩ := hP
  obtain ⟨-, -, -, hnamed, -, -, -, hat⟩ := (Spec.applies_iff hf).mp happ
  obtain ⟨hg, hn⟩ := and_e (Cond.before_iff.mp (show (Jvm.Cond.and given_1 narrow_1).before args s = true from hpre))
  obtain ⟨hg0, hg⟩ := and_e hg
  obtain ⟨ga0, hg⟩ := and_e hg
  obtain ⟨ga1, hg⟩ := and_e hg
  obtain ⟨ga2, hg⟩ := and_e hg
  have ga3 := hg
  obtain ⟨w0, w1, w2, w3, rfl⟩ : ∃ w0 w1 w2 w3 : Value, args = #[w0, w1, w2, w3] := by
    have hs : args.size = 4 := by simpa [Cond.value, given_1] using hg0
    obtain ⟨L⟩ := args
    match L, hs with
    | [w0, w1, w2, w3], _ => exact ⟨w0, w1, w2, w3, rfl⟩
  have hw := fun d (hd : d ∈ tables_1) => atoms_spec (ws := Jvm.Cond.code x code maxLocals ret :: tables_1) hat d (List.mem_cons_of_mem _ hd)
  have hfit : Fit s := fun {y c} hc i hi => by
    obtain ⟨ha, rfl⟩ := Array.getElem?_eq_some_iff.mp hc
    have q := List.all_eq_true.mp ((Array.all_eq_true_iff_forall_mem.mp hF) _ (Array.getElem_mem ha)) i (List.mem_range.mpr hi)
    simpa [Array.getElem?_eq_getElem hi] using q
  obtain ⟨i0, ei0⟩ := isL_v ga0
  obtain rfl : w0 = (.long i0) := Option.some.inj ei0
  obtain ⟨i1, ei1⟩ := is_v ga1
  obtain rfl : w1 = (.int i1) := Option.some.inj ei1
  obtain ⟨i2, ei2⟩ := isL_v ga2
  obtain rfl : w2 = (.long i2) := Option.some.inj ei2
  obtain ⟨i3, ei3⟩ := isL_v ga3
  obtain rfl : w3 = (.long i3) := Option.some.inj ei3
  obtain ⟨cn0, hn⟩ := and_e hn
  obtain ⟨w_NONE, ev_NONE⟩ := arr_v cn0
  have S_NONE : Sta s s.heap "com/example/lachesis/lachesis/timer/Bucket" "NONE" "[Lcom/example/lachesis/lachesis/timer/TimerEntry;" (.ref w_NONE) := Sta.start ev_NONE (Or.inr ⟨(hw _ (List.mem_of_getElem? (i := 27) rfl)), (hw _ (List.mem_of_getElem? (i := 33) rfl))⟩)
  obtain ⟨n, o, h1, h2, h3, _, L, rfl, ⟨rfl, N⟩, hq⟩ := rm0 l s _ hw tables_1 i0 i1 i2 i3 w_NONE s.heap s.heap.size (Nat.le_refl _) S_NONE (Old.start s) p e ha hc hk s m _ below hf ((Spec.applies_iff_loose hf).mp happ).1 ⟨rfl, State.Warmed39.refl s, rfl⟩ trivial
  refine ⟨n, _, h1, h2, h3, hpost _ _ _ _ _ _ ⟨Cond.after_iff.mpr rfl, Cond.after_iff.mpr (eq_i res_at (Term.int_eval (1)) rfl), trivial⟩ ⟨hq.1, hq.2.1, (hq.2.2.sift fun y hy => Or.inr (N y hy)).mono (by decide) (by decide)⟩⟩
theorem main_1_1 : Claimed_1_1 := comes_1 fun _ _ _ _ _ _ h hF => ⟨h.1, hF⟩
theorem main_1_2 : Claimed_1_2 := comes_1 fun _ _ _ _ _ _ h hF => ⟨h.2.1, hF⟩
end Jvm.Pilot.@@N@@
namespace Jvm.Pilot.@@N@@
open Jvm Jvm.ClassFile Sem Op Lib Jvm.Free Jvm.Stand Jvm.Pilot.@@N@@.Jvm.D
/-! MADE BY PROGRAM (witnessworld.py) out of the Statement's table words and the real class files: 14 classes; the members and pool entries that the words name. The judged class is class 1, her method 1. -/
namespace start1
open Jvm.ClassFile
def u (s : String) : CpInfo := .utf8 (stringToUtf16 s)
/-- a pool by its gaps: so many unusable entries, then the entry; so many at the end -/
def gap : Nat → List CpInfo → List CpInfo
  | 0, r => r
  | n + 1, r => .unusable :: gap n r
def poolList (es : List (Nat × CpInfo)) (last : Nat) : List CpInfo := es.foldr (fun e r => gap e.1 (e.2 :: r)) (gap last [])
def pool (es : List (Nat × CpInfo)) (last : Nat) : Array CpInfo := ⟨poolList es last⟩
def fileOf (pool : Array CpInfo) (this : Nat) (attrs : Array Attribute := #[]) (ms : Array MethodInfo := #[]) (fl : Nat := 33) (sup : Nat := 0) (ifs : Array Nat := #[]) (fds : Array FieldInfo := #[]) : ClassFile where
  minorVersion := 0
  majorVersion := 65
  constantPool := pool
  accessFlags := fl
  thisClass := this
  superClass := sup
  interfaces := ifs
  fields := fds
  methods := ms
  attributes := attrs
def plain (name : String) (sup : Option ClassId) : Class where
  name := name
  kind := .ordinary
  loader := none
  accessFlags := 33
  super := sup
  interfaces := #[]
  cf := none
  fields := #[]
  methods := #[]
  instanceTypes := #[]
  staticTypes := #[]
  resolved := #[]
  callSites := []
  init := .initialized
  statics := none
  mirror := none

def pool0 : Array CpInfo := pool [(5, u "<init>"), (0, u "()V"), (1, .class_ 10), (1, u "java/lang/Object")] 113

def k0c0 : Code := { maxStack := 0, maxLocals := 1, code := object_method_1_code, exceptionTable := #[], attributes := #[] }
def k0m0 : Method := { name := "<init>", desc := "()V", sig := { parameters := [], returnType := none }, accessFlags := 1, code := some k0c0 }
/-- java/lang/Object -/
def k0 : Class := { plain "java/lang/Object" none with
  accessFlags := 33
  interfaces := #[]
  cf := some (fileOf pool0 8 #[] #[{ accessFlags := 1, nameIndex := 5, descriptorIndex := 6, attributes := #[] }] 33 0 #[] #[])
  fields := #[]
  methods := #[k0m0]
  instanceTypes := #[]
  staticTypes := #[]
  resolved := Array.replicate 124 none
  statics := none }

def pool1 : Array CpInfo := pool [(2, .class_ 4), (1, u "java/lang/Object"), (0, u "<init>"), (0, u "()V"), (2, .long 9223372036854775807), (1, .methodref 12 13), (0, .class_ 14), (0, .nameAndType 15 16), (0, u "java/lang/Math"), (0, u "max"), (0, u "(JJ)J"), (0, .methodref 12 18), (0, .nameAndType 19 16), (0, u "min"), (0, .class_ 21), (0, u "com/example/lachesis/lachesis/timer/Wheel"), (0, .methodref 20 23), (0, .nameAndType 5 24), (0, u "(JIJ)V"), (0, .methodref 20 26), (0, .nameAndType 27 28), (0, u "bucket"), (0, u "(J)Lcom/example/lachesis/lachesis/timer/Bucket;"), (0, .methodref 20 30), (0, .nameAndType 31 32), (0, u "moveTo"), (0, u "(J)V"), (0, .methodref 34 35), (0, .class_ 36), (0, .nameAndType 37 38), (0, u "com/example/lachesis/lachesis/timer/WheelMoveToPinLaw"), (0, u "standsAt"), (0, u "(Lcom/example/lachesis/lachesis/timer/Wheel;JJ)Z"), (0, .methodref 20 40), (0, .nameAndType 41 42), (0, u "fireTick"), (0, u "(J)J"), (2, u "law"), (0, u "(JIJJ)Z")] 5

def k1m0 : Method := { name := "<init>", desc := "()V", sig := { parameters := [], returnType := none }, accessFlags := 1, code := none }
def k1c1 : Code := { maxStack := 7, maxLocals := 25, code := code, exceptionTable := #[], attributes := #[] }
def k1m1 : Method := { name := "law", desc := "(JIJJ)Z", sig := { parameters := [.long, .int, .long, .long], returnType := some .boolean }, accessFlags := 9, code := some k1c1 }
def k1c2 : Code := { maxStack := 4, maxLocals := 7, code := method_3_code, exceptionTable := #[], attributes := #[] }
def k1m2 : Method := { name := "standsAt", desc := "(Lcom/example/lachesis/lachesis/timer/Wheel;JJ)Z", sig := { parameters := [(.object "com/example/lachesis/lachesis/timer/Wheel"), .long, .long], returnType := some .boolean }, accessFlags := 10, code := some k1c2 }
/-- com/example/lachesis/lachesis/timer/WheelMoveToPinLaw -/
def k1 : Class := { plain "com/example/lachesis/lachesis/timer/WheelMoveToPinLaw" (some 0) with
  accessFlags := 49
  interfaces := #[]
  cf := some (fileOf pool1 34 #[] #[{ accessFlags := 1, nameIndex := 5, descriptorIndex := 6, attributes := #[] }, { accessFlags := 9, nameIndex := 45, descriptorIndex := 46, attributes := #[] }, { accessFlags := 10, nameIndex := 37, descriptorIndex := 38, attributes := #[] }] 49 2 #[] #[])
  fields := #[]
  methods := #[k1m0, k1m1, k1m2]
  instanceTypes := #[]
  staticTypes := #[]
  resolved := Array.replicate 52 none
  statics := none }

def pool2 : Array CpInfo := pool [(1, .class_ 2), (0, u "java/lang/Math"), (1, .class_ 6), (1, u "java/lang/Object"), (0, u "<init>"), (0, u "()V"), (89, .class_ 100), (1, u "java/lang/Math$RandomNumberGeneratorHolder"), (20, u "(JJ)J"), (50, u "negativeZeroFloatBits"), (0, u "J"), (2, u "negativeZeroDoubleBits"), (21, u "max"), (2, u "min"), (43, u "$assertionsDisabled"), (0, u "Z"), (91, u "twoToTheDoubleScaleDown"), (0, u "D"), (4, u "twoToTheDoubleScaleUp"), (9, u "E"), (3, u "PI"), (2, u "TAU"), (2, u "DEGREES_TO_RADIANS"), (0, u "RADIANS_TO_DEGREES")] 94

def k2m0 : Method := { name := "<init>", desc := "()V", sig := { parameters := [], returnType := none }, accessFlags := 2, code := none }
def k2c1 : Code := { maxStack := 4, maxLocals := 4, code := jdk_29_method_66_code, exceptionTable := #[], attributes := #[] }
def k2m1 : Method := { name := "max", desc := "(JJ)J", sig := { parameters := [.long, .long], returnType := some .long }, accessFlags := 9, code := some k2c1 }
def k2c2 : Code := { maxStack := 4, maxLocals := 4, code := jdk_29_method_70_code, exceptionTable := #[], attributes := #[] }
def k2m2 : Method := { name := "min", desc := "(JJ)J", sig := { parameters := [.long, .long], returnType := some .long }, accessFlags := 9, code := some k2c2 }
/-- java/lang/Math -/
def k2 : Class := { plain "java/lang/Math" (some 0) with
  accessFlags := 49
  interfaces := #[]
  cf := some (fileOf pool2 1 #[.nestMembers #[98]] #[{ accessFlags := 2, nameIndex := 7, descriptorIndex := 8, attributes := #[] }, { accessFlags := 9, nameIndex := 198, descriptorIndex := 121, attributes := #[] }, { accessFlags := 9, nameIndex := 201, descriptorIndex := 121, attributes := #[] }] 49 4 #[] #[{ accessFlags := 25, nameIndex := 354, descriptorIndex := 339, attributes := #[] }, { accessFlags := 25, nameIndex := 358, descriptorIndex := 339, attributes := #[] }, { accessFlags := 25, nameIndex := 361, descriptorIndex := 339, attributes := #[] }, { accessFlags := 26, nameIndex := 364, descriptorIndex := 339, attributes := #[] }, { accessFlags := 26, nameIndex := 365, descriptorIndex := 339, attributes := #[] }, { accessFlags := 26, nameIndex := 172, descriptorIndex := 173, attributes := #[] }, { accessFlags := 26, nameIndex := 176, descriptorIndex := 173, attributes := #[] }, { accessFlags := 8, nameIndex := 344, descriptorIndex := 339, attributes := #[] }, { accessFlags := 8, nameIndex := 338, descriptorIndex := 339, attributes := #[] }, { accessFlags := 4120, nameIndex := 245, descriptorIndex := 246, attributes := #[] }])
  fields := #[{ name := "E", type := .double, accessFlags := 25, slot := 0, constantValue := 0 }, { name := "PI", type := .double, accessFlags := 25, slot := 1, constantValue := 0 }, { name := "TAU", type := .double, accessFlags := 25, slot := 2, constantValue := 0 }, { name := "DEGREES_TO_RADIANS", type := .double, accessFlags := 26, slot := 3, constantValue := 0 }, { name := "RADIANS_TO_DEGREES", type := .double, accessFlags := 26, slot := 4, constantValue := 0 }, { name := "negativeZeroFloatBits", type := .long, accessFlags := 26, slot := 5, constantValue := 0 }, { name := "negativeZeroDoubleBits", type := .long, accessFlags := 26, slot := 6, constantValue := 0 }, { name := "twoToTheDoubleScaleUp", type := .double, accessFlags := 8, slot := 7, constantValue := 0 }, { name := "twoToTheDoubleScaleDown", type := .double, accessFlags := 8, slot := 8, constantValue := 0 }, { name := "$assertionsDisabled", type := .boolean, accessFlags := 4120, slot := 9, constantValue := 0 }]
  methods := #[k2m0, k2m1, k2m2]
  instanceTypes := #[]
  staticTypes := #[.double, .double, .double, .double, .double, .long, .long, .double, .double, .boolean]
  resolved := Array.replicate 460 none
  statics := none }

def pool3 : Array CpInfo := pool [(1, .methodref 2 3), (0, .class_ 4), (0, .nameAndType 5 6), (0, u "java/lang/Object"), (0, u "<init>"), (0, u "()V"), (0, .fieldref 8 9), (0, .class_ 10), (0, .nameAndType 11 12), (0, u "com/example/lachesis/lachesis/timer/Wheel"), (0, u "slotTicks"), (0, u "J"), (2, .long 9223372036854775807), (1, .fieldref 8 18), (0, .nameAndType 19 12), (0, u "spanTicks"), (0, .class_ 21), (0, u "com/example/lachesis/lachesis/timer/Bucket"), (0, .fieldref 8 23), (0, .nameAndType 24 25), (0, u "buckets"), (0, u "[Lcom/example/lachesis/lachesis/timer/Bucket;"), (0, .methodref 20 3), (0, .methodref 8 28), (0, .nameAndType 29 30), (0, u "moveTo"), (0, u "(J)V"), (0, .fieldref 8 32), (0, .nameAndType 33 12), (0, u "slotStart"), (0, .fieldref 8 35), (0, .nameAndType 36 37), (0, u "slot"), (0, u "I"), (2, u "(JIJ)V"), (5, u "(J)J"), (0, u "bucket"), (0, u "(J)Lcom/example/lachesis/lachesis/timer/Bucket;"), (1, u "fireTick")] 2

def k3c0 : Code := { maxStack := 7, maxLocals := 7, code := prog_37_method_1_code, exceptionTable := #[], attributes := #[] }
def k3m0 : Method := { name := "<init>", desc := "(JIJ)V", sig := { parameters := [.long, .int, .long], returnType := none }, accessFlags := 0, code := some k3c0 }
def k3c1 : Code := { maxStack := 5, maxLocals := 5, code := prog_37_method_3_code, exceptionTable := #[], attributes := #[] }
def k3m1 : Method := { name := "moveTo", desc := "(J)V", sig := { parameters := [.long], returnType := none }, accessFlags := 0, code := some k3c1 }
def k3c2 : Code := { maxStack := 3, maxLocals := 4, code := prog_37_method_5_code, exceptionTable := #[], attributes := #[] }
def k3m2 : Method := { name := "bucket", desc := "(J)Lcom/example/lachesis/lachesis/timer/Bucket;", sig := { parameters := [.long], returnType := some (.object "com/example/lachesis/lachesis/timer/Bucket") }, accessFlags := 0, code := some k3c2 }
def k3c3 : Code := { maxStack := 6, maxLocals := 3, code := prog_37_method_6_code, exceptionTable := #[], attributes := #[] }
def k3m3 : Method := { name := "fireTick", desc := "(J)J", sig := { parameters := [.long], returnType := some .long }, accessFlags := 0, code := some k3c3 }
/-- com/example/lachesis/lachesis/timer/Wheel -/
def k3 : Class := { plain "com/example/lachesis/lachesis/timer/Wheel" (some 0) with
  accessFlags := 32
  interfaces := #[]
  cf := some (fileOf pool3 8 #[] #[{ accessFlags := 0, nameIndex := 5, descriptorIndex := 40, attributes := #[] }, { accessFlags := 0, nameIndex := 29, descriptorIndex := 30, attributes := #[] }, { accessFlags := 0, nameIndex := 47, descriptorIndex := 48, attributes := #[] }, { accessFlags := 0, nameIndex := 50, descriptorIndex := 46, attributes := #[] }] 32 2 #[] #[{ accessFlags := 18, nameIndex := 11, descriptorIndex := 12, attributes := #[] }, { accessFlags := 18, nameIndex := 19, descriptorIndex := 12, attributes := #[] }, { accessFlags := 18, nameIndex := 24, descriptorIndex := 25, attributes := #[] }, { accessFlags := 2, nameIndex := 33, descriptorIndex := 12, attributes := #[] }, { accessFlags := 2, nameIndex := 36, descriptorIndex := 37, attributes := #[] }])
  fields := #[{ name := "slotTicks", type := .long, accessFlags := 18, slot := 0, constantValue := 0 }, { name := "spanTicks", type := .long, accessFlags := 18, slot := 1, constantValue := 0 }, { name := "buckets", type := (.array (.object "com/example/lachesis/lachesis/timer/Bucket")), accessFlags := 18, slot := 2, constantValue := 0 }, { name := "slotStart", type := .long, accessFlags := 2, slot := 3, constantValue := 0 }, { name := "slot", type := .int, accessFlags := 2, slot := 4, constantValue := 0 }]
  methods := #[k3m0, k3m1, k3m2, k3m3]
  instanceTypes := #[.long, .long, (.array (.object "com/example/lachesis/lachesis/timer/Bucket")), .long, .int]
  staticTypes := #[]
  resolved := Array.replicate 53 none
  statics := none }

def pool4 : Array CpInfo := pool [(1, .methodref 2 3), (0, .class_ 4), (0, .nameAndType 5 6), (0, u "java/lang/Object"), (0, u "<init>"), (0, u "()V"), (0, .fieldref 8 9), (0, .class_ 10), (0, .nameAndType 11 12), (0, u "com/example/lachesis/lachesis/timer/Bucket"), (0, u "NONE"), (0, u "[Lcom/example/lachesis/lachesis/timer/TimerEntry;"), (0, .fieldref 8 14), (0, .nameAndType 15 12), (0, u "entries"), (2, u "size"), (0, u "I"), (23, u "SMALLEST"), (2, u "fireTick"), (0, u "J"), (0, u "queued"), (0, u "Z")] 13

def k4c0 : Code := { maxStack := 2, maxLocals := 1, code := prog_29_method_1_code, exceptionTable := #[], attributes := #[] }
def k4m0 : Method := { name := "<init>", desc := "()V", sig := { parameters := [], returnType := none }, accessFlags := 0, code := some k4c0 }
/-- com/example/lachesis/lachesis/timer/Bucket -/
def k4 : Class := { plain "com/example/lachesis/lachesis/timer/Bucket" (some 0) with
  accessFlags := 32
  interfaces := #[]
  cf := some (fileOf pool4 8 #[] #[{ accessFlags := 0, nameIndex := 5, descriptorIndex := 6, attributes := #[] }] 32 2 #[] #[{ accessFlags := 26, nameIndex := 11, descriptorIndex := 12, attributes := #[] }, { accessFlags := 26, nameIndex := 43, descriptorIndex := 19, attributes := #[] }, { accessFlags := 0, nameIndex := 46, descriptorIndex := 47, attributes := #[] }, { accessFlags := 0, nameIndex := 48, descriptorIndex := 49, attributes := #[] }, { accessFlags := 2, nameIndex := 15, descriptorIndex := 12, attributes := #[] }, { accessFlags := 2, nameIndex := 18, descriptorIndex := 19, attributes := #[] }])
  fields := #[{ name := "NONE", type := (.array (.object "com/example/lachesis/lachesis/timer/TimerEntry")), accessFlags := 26, slot := 0, constantValue := 0 }, { name := "SMALLEST", type := .int, accessFlags := 26, slot := 1, constantValue := 0 }, { name := "fireTick", type := .long, accessFlags := 0, slot := 0, constantValue := 0 }, { name := "queued", type := .boolean, accessFlags := 0, slot := 1, constantValue := 0 }, { name := "entries", type := (.array (.object "com/example/lachesis/lachesis/timer/TimerEntry")), accessFlags := 2, slot := 2, constantValue := 0 }, { name := "size", type := .int, accessFlags := 2, slot := 3, constantValue := 0 }]
  methods := #[k4m0]
  instanceTypes := #[.long, .boolean, (.array (.object "com/example/lachesis/lachesis/timer/TimerEntry")), .int]
  staticTypes := #[(.array (.object "com/example/lachesis/lachesis/timer/TimerEntry")), .int]
  resolved := Array.replicate 63 none
  statics := some 0 }

def pool5 : Array CpInfo := pool [(2, .class_ 4), (1, u "java/lang/Object"), (0, u "<init>"), (0, u "()V"), (1, .class_ 10), (1, u "com/example/lachesis/lachesis/timer/TimerEntry"), (0, u "state"), (0, u "I"), (2, u "STATE"), (0, u "Ljava/lang/invoke/VarHandle;"), (8, u "timer"), (0, u "Lcom/example/lachesis/lachesis/timer/Timer;"), (7, u "TIMER"), (37, u "NEW"), (2, u "PENDING"), (1, u "WITHDRAWN"), (1, u "RUN"), (1, u "dueTick"), (0, u "J"), (0, u "next"), (0, u "Lcom/example/lachesis/lachesis/timer/TimerEntry;")] 15

def k5m0 : Method := { name := "<init>", desc := "()V", sig := { parameters := [], returnType := none }, accessFlags := 4, code := none }
/-- com/example/lachesis/lachesis/timer/TimerEntry -/
def k5 : Class := { plain "com/example/lachesis/lachesis/timer/TimerEntry" (some 0) with
  accessFlags := 1057
  interfaces := #[]
  cf := some (fileOf pool5 8 #[] #[{ accessFlags := 4, nameIndex := 5, descriptorIndex := 6, attributes := #[] }] 1057 2 #[] #[{ accessFlags := 26, nameIndex := 72, descriptorIndex := 12, attributes := #[] }, { accessFlags := 26, nameIndex := 75, descriptorIndex := 12, attributes := #[] }, { accessFlags := 26, nameIndex := 77, descriptorIndex := 12, attributes := #[] }, { accessFlags := 26, nameIndex := 79, descriptorIndex := 12, attributes := #[] }, { accessFlags := 26, nameIndex := 15, descriptorIndex := 16, attributes := #[] }, { accessFlags := 26, nameIndex := 34, descriptorIndex := 16, attributes := #[] }, { accessFlags := 66, nameIndex := 11, descriptorIndex := 12, attributes := #[] }, { accessFlags := 66, nameIndex := 25, descriptorIndex := 26, attributes := #[] }, { accessFlags := 0, nameIndex := 81, descriptorIndex := 82, attributes := #[] }, { accessFlags := 0, nameIndex := 83, descriptorIndex := 84, attributes := #[] }])
  fields := #[{ name := "NEW", type := .int, accessFlags := 26, slot := 0, constantValue := 0 }, { name := "PENDING", type := .int, accessFlags := 26, slot := 1, constantValue := 0 }, { name := "WITHDRAWN", type := .int, accessFlags := 26, slot := 2, constantValue := 0 }, { name := "RUN", type := .int, accessFlags := 26, slot := 3, constantValue := 0 }, { name := "STATE", type := (.object "java/lang/invoke/VarHandle"), accessFlags := 26, slot := 4, constantValue := 0 }, { name := "TIMER", type := (.object "java/lang/invoke/VarHandle"), accessFlags := 26, slot := 5, constantValue := 0 }, { name := "state", type := .int, accessFlags := 66, slot := 0, constantValue := 0 }, { name := "timer", type := (.object "com/example/lachesis/lachesis/timer/Timer"), accessFlags := 66, slot := 1, constantValue := 0 }, { name := "dueTick", type := .long, accessFlags := 0, slot := 2, constantValue := 0 }, { name := "next", type := (.object "com/example/lachesis/lachesis/timer/TimerEntry"), accessFlags := 0, slot := 3, constantValue := 0 }]
  methods := #[k5m0]
  instanceTypes := #[.int, (.object "com/example/lachesis/lachesis/timer/Timer"), .long, (.object "com/example/lachesis/lachesis/timer/TimerEntry")]
  staticTypes := #[.int, .int, .int, .int, (.object "java/lang/invoke/VarHandle"), (.object "java/lang/invoke/VarHandle")]
  resolved := Array.replicate 100 none
  statics := none }

def pool6 : Array CpInfo := pool [(1, u "java/lang/Cloneable"), (0, .class_ 1), (0, u "java/lang/Object"), (0, .class_ 3)] 3

/-- java/lang/Cloneable -/
def k6 : Class := { plain "java/lang/Cloneable" (some 0) with
  accessFlags := 1537
  interfaces := #[]
  cf := some (fileOf pool6 2 #[] #[] 1537 4 #[] #[])
  fields := #[]
  methods := #[]
  instanceTypes := #[]
  staticTypes := #[]
  resolved := Array.replicate 8 none
  statics := none }

def pool7 : Array CpInfo := pool [(1, u "java/io/Serializable"), (0, .class_ 1), (0, u "java/lang/Object"), (0, .class_ 3)] 3

/-- java/io/Serializable -/
def k7 : Class := { plain "java/io/Serializable" (some 0) with
  accessFlags := 1537
  interfaces := #[]
  cf := some (fileOf pool7 2 #[] #[] 1537 4 #[] #[])
  fields := #[]
  methods := #[]
  instanceTypes := #[]
  staticTypes := #[]
  resolved := Array.replicate 8 none
  statics := none }

/-- the primitive byte -/
def k8 : Class := { plain "byte" none with kind := .primitive 'B', accessFlags := 0x411 }
/-- [B -/
def k9 : Class := { plain "[B" (some 0) with kind := .array 8 .byte, interfaces := #[6, 7], accessFlags := 1041 }

/-- the primitive int -/
def k10 : Class := { plain "int" none with kind := .primitive 'I', accessFlags := 0x411 }
/-- [I -/
def k11 : Class := { plain "[I" (some 0) with kind := .array 10 .int, interfaces := #[6, 7], accessFlags := 1041 }

/-- [Lcom/example/lachesis/lachesis/timer/Bucket; -/
def k12 : Class := { plain "[Lcom/example/lachesis/lachesis/timer/Bucket;" (some 0) with kind := .array 4 (.object "com/example/lachesis/lachesis/timer/Bucket"), interfaces := #[6, 7], accessFlags := 1041 }

/-- [Lcom/example/lachesis/lachesis/timer/TimerEntry; -/
def k13 : Class := { plain "[Lcom/example/lachesis/lachesis/timer/TimerEntry;" (some 0) with kind := .array 5 (.object "com/example/lachesis/lachesis/timer/TimerEntry"), interfaces := #[6, 7], accessFlags := 1041 }

def heap : Heap := #[{ cls := 4, slots := #[.ref 1, .int 0], vm := .statics 4 },
  { cls := 13, slots := #[], vm := .none }]
def classes : Array Class := #[k0, k1, k2, k3, k4, k5, k6, k7, k8, k9, k10, k11, k12, k13]
def interned : List (Array UInt16 × Addr) := []
def slotsUsed : Nat := 2
def theMethod : MethodId := ⟨1, 1⟩
def args0 : Array Value := #[.long 5, .int 7, .long 8, .long 9]
def aboutOver (below : List Frame) : State where
  vm := { classes := classes, interned := interned.toArray }
  heap := heap
  slotsUsed := slotsUsed
  threads := #[{ frames := .invoking theMethod args0 :: below }]
def below0 : List Frame := [.native { method := ⟨0, 0⟩, args := #[] }]
def about1 : State := aboutOver below0
def p0 : Program := .bare "" "" ""
def e0 : Env := launch0.env 0 0 0
theorem w_frames : about1.frames = Frame.invoking theMethod args0 :: below0 := rfl
set_option maxRecDepth 65536 in
theorem w_args : argsFit about1.vm theMethod args0 = true := by decide +kernel
set_option maxRecDepth 65536 in
theorem w_heap : heapFits about1 = true := by decide +kernel
set_option maxRecDepth 65536 in
theorem w_runnable : about1.curStatus? = some .runnable := by decide +kernel
set_option maxRecDepth 65536 in
theorem w_alone : about1.alone = true := by decide +kernel
set_option maxRecDepth 65536 in
theorem w_named : about1.methodNamed? x = some theMethod := by decide +kernel
set_option maxRecDepth 65536 in
theorem w_hears : about1.hears theMethod below0 = true := by decide +kernel
set_option maxRecDepth 65536 in
theorem w_ripe : about1.ripe theMethod args0 below0 = true := by decide +kernel
theorem w_running : about1.status = .running := rfl
set_option maxRecDepth 65536 in
theorem w_room : about1.hasRoom e0.platform room_1 = true :=
  launch0.hasRoom_least _ room_1 (by decide +kernel) (by decide +kernel) (by decide +kernel) (by decide +kernel) (by decide +kernel) (by decide +kernel)
theorem allAtoms_all (ts : List Jvm.Cond) (a : Array Jvm.Value) (st : Jvm.State) : (allAtoms ts).before a st = ts.all (fun c => c.before a st) := by
  induction ts with
  | nil => rfl
  | cons c t ih =>
    show (Jvm.Cond.and c (allAtoms t)).before a st = _
    rw [Jvm.Cond.before_and, ih, List.all_cons]
def words1 : List Jvm.Cond := Jvm.Cond.code x code maxLocals ret :: tables_1
/-- a 'code' word, met by the world's own term for the bytes: nothing is compared byte by byte -/
theorem code_word {y : MethodName} {bytes : ByteArray} {mx : Nat} {rt : Option FieldType} {a : Array Value} {s : State} {m : MethodId} {meth : Method} {c : Code} (h1 : s.methodNamed? y = some m) (h2 : s.vm.method? m = some meth) (h3 : meth.code = some c) (h4 : c.code = bytes)
    (h5 : (c.maxLocals == mx && c.exceptionTable.isEmpty && decide (c.maxStack ≤ mostOperands) && decide (meth.sig.returnType = rt) && !meth.locks && decide (parseMethodDescriptor y.desc = some meth.sig)) = true) : (Jvm.Cond.code y bytes mx rt).before a s = true := by
  simp only [Bool.and_eq_true, beq_iff_eq, Bool.not_eq_true', decide_eq_true_eq] at h5
  obtain ⟨⟨⟨⟨⟨g1, g2⟩, g3⟩, g4⟩, g5⟩, g6⟩ := h5
  simp [Cond.before, Cond.holds, Cond.value, h1, h2, h3, h4, g1, g2, g3, g4, g5, g6]
def isCode : Jvm.Cond → Bool
  | .code _ _ _ _ => true
  | _ => false
theorem all_split {L : List Jvm.Cond} {P : Jvm.Cond → Bool} (h1 : L.all (fun c => isCode c || P c) = true) (h2 : ∀ c ∈ L.filter isCode, P c = true) : L.all P = true := by
  refine List.all_eq_true.mpr fun c hc => ?_
  have h := List.all_eq_true.mp h1 c hc
  rcases Bool.eq_false_or_eq_true (isCode c) with hi | hi
  · exact h2 c (List.mem_filter.mpr ⟨hc, hi⟩)
  · simpa [hi] using h
set_option maxRecDepth 65536 in
theorem w_c0 : (Jvm.Cond.code x code maxLocals ret).before args0 about1 = true := code_word (m := ⟨1, 1⟩) (meth := k1m1) (c := k1c1) (by decide +kernel) rfl rfl rfl (by decide +kernel)
set_option maxRecDepth 65536 in
theorem w_c1 : (Jvm.Cond.code ({ cls := "java/lang/Math", name := "max", desc := "(JJ)J" } : Jvm.MethodName) jdk_29_method_66_code (4 : Nat) (Option.some Jvm.ClassFile.FieldType.long)).before args0 about1 = true := code_word (m := ⟨2, 1⟩) (meth := k2m1) (c := k2c1) (by decide +kernel) rfl rfl rfl (by decide +kernel)
set_option maxRecDepth 65536 in
theorem w_c2 : (Jvm.Cond.code ({ cls := "java/lang/Math", name := "min", desc := "(JJ)J" } : Jvm.MethodName) jdk_29_method_70_code (4 : Nat) (Option.some Jvm.ClassFile.FieldType.long)).before args0 about1 = true := code_word (m := ⟨2, 2⟩) (meth := k2m2) (c := k2c2) (by decide +kernel) rfl rfl rfl (by decide +kernel)
set_option maxRecDepth 65536 in
theorem w_c3 : (Jvm.Cond.code ({ cls := "com/example/lachesis/lachesis/timer/Wheel", name := "<init>", desc := "(JIJ)V" } : Jvm.MethodName) prog_37_method_1_code (7 : Nat) (Option.none : Option Jvm.ClassFile.FieldType)).before args0 about1 = true := code_word (m := ⟨3, 0⟩) (meth := k3m0) (c := k3c0) (by decide +kernel) rfl rfl rfl (by decide +kernel)
set_option maxRecDepth 65536 in
theorem w_c4 : (Jvm.Cond.code ({ cls := "java/lang/Object", name := "<init>", desc := "()V" } : Jvm.MethodName) object_method_1_code (1 : Nat) (Option.none : Option Jvm.ClassFile.FieldType)).before args0 about1 = true := code_word (m := ⟨0, 0⟩) (meth := k0m0) (c := k0c0) (by decide +kernel) rfl rfl rfl (by decide +kernel)
set_option maxRecDepth 65536 in
theorem w_c5 : (Jvm.Cond.code ({ cls := "com/example/lachesis/lachesis/timer/Bucket", name := "<init>", desc := "()V" } : Jvm.MethodName) prog_29_method_1_code (1 : Nat) (Option.none : Option Jvm.ClassFile.FieldType)).before args0 about1 = true := code_word (m := ⟨4, 0⟩) (meth := k4m0) (c := k4c0) (by decide +kernel) rfl rfl rfl (by decide +kernel)
set_option maxRecDepth 65536 in
theorem w_c6 : (Jvm.Cond.code ({ cls := "com/example/lachesis/lachesis/timer/Wheel", name := "moveTo", desc := "(J)V" } : Jvm.MethodName) prog_37_method_3_code (5 : Nat) (Option.none : Option Jvm.ClassFile.FieldType)).before args0 about1 = true := code_word (m := ⟨3, 1⟩) (meth := k3m1) (c := k3c1) (by decide +kernel) rfl rfl rfl (by decide +kernel)
set_option maxRecDepth 65536 in
theorem w_c7 : (Jvm.Cond.code ({ cls := "com/example/lachesis/lachesis/timer/Wheel", name := "bucket", desc := "(J)Lcom/example/lachesis/lachesis/timer/Bucket;" } : Jvm.MethodName) prog_37_method_5_code (4 : Nat) (Option.some (Jvm.ClassFile.FieldType.object "com/example/lachesis/lachesis/timer/Bucket"))).before args0 about1 = true := code_word (m := ⟨3, 2⟩) (meth := k3m2) (c := k3c2) (by decide +kernel) rfl rfl rfl (by decide +kernel)
set_option maxRecDepth 65536 in
theorem w_c8 : (Jvm.Cond.code ({ cls := "com/example/lachesis/lachesis/timer/WheelMoveToPinLaw", name := "standsAt", desc := "(Lcom/example/lachesis/lachesis/timer/Wheel;JJ)Z" } : Jvm.MethodName) method_3_code (7 : Nat) (Option.some Jvm.ClassFile.FieldType.boolean)).before args0 about1 = true := code_word (m := ⟨1, 2⟩) (meth := k1m2) (c := k1c2) (by decide +kernel) rfl rfl rfl (by decide +kernel)
set_option maxRecDepth 65536 in
theorem w_c9 : (Jvm.Cond.code ({ cls := "com/example/lachesis/lachesis/timer/Wheel", name := "fireTick", desc := "(J)J" } : Jvm.MethodName) prog_37_method_6_code (3 : Nat) (Option.some Jvm.ClassFile.FieldType.long)).before args0 about1 = true := code_word (m := ⟨3, 3⟩) (meth := k3m3) (c := k3c3) (by decide +kernel) rfl rfl rfl (by decide +kernel)
def codes1 : List Jvm.Cond := [Jvm.Cond.code x code maxLocals ret, Jvm.Cond.code ({ cls := "java/lang/Math", name := "max", desc := "(JJ)J" } : Jvm.MethodName) jdk_29_method_66_code (4 : Nat) (Option.some Jvm.ClassFile.FieldType.long), Jvm.Cond.code ({ cls := "java/lang/Math", name := "min", desc := "(JJ)J" } : Jvm.MethodName) jdk_29_method_70_code (4 : Nat) (Option.some Jvm.ClassFile.FieldType.long), Jvm.Cond.code ({ cls := "com/example/lachesis/lachesis/timer/Wheel", name := "<init>", desc := "(JIJ)V" } : Jvm.MethodName) prog_37_method_1_code (7 : Nat) (Option.none : Option Jvm.ClassFile.FieldType), Jvm.Cond.code ({ cls := "java/lang/Object", name := "<init>", desc := "()V" } : Jvm.MethodName) object_method_1_code (1 : Nat) (Option.none : Option Jvm.ClassFile.FieldType), Jvm.Cond.code ({ cls := "com/example/lachesis/lachesis/timer/Bucket", name := "<init>", desc := "()V" } : Jvm.MethodName) prog_29_method_1_code (1 : Nat) (Option.none : Option Jvm.ClassFile.FieldType), Jvm.Cond.code ({ cls := "com/example/lachesis/lachesis/timer/Wheel", name := "moveTo", desc := "(J)V" } : Jvm.MethodName) prog_37_method_3_code (5 : Nat) (Option.none : Option Jvm.ClassFile.FieldType), Jvm.Cond.code ({ cls := "com/example/lachesis/lachesis/timer/Wheel", name := "bucket", desc := "(J)Lcom/example/lachesis/lachesis/timer/Bucket;" } : Jvm.MethodName) prog_37_method_5_code (4 : Nat) (Option.some (Jvm.ClassFile.FieldType.object "com/example/lachesis/lachesis/timer/Bucket")), Jvm.Cond.code ({ cls := "com/example/lachesis/lachesis/timer/WheelMoveToPinLaw", name := "standsAt", desc := "(Lcom/example/lachesis/lachesis/timer/Wheel;JJ)Z" } : Jvm.MethodName) method_3_code (7 : Nat) (Option.some Jvm.ClassFile.FieldType.boolean), Jvm.Cond.code ({ cls := "com/example/lachesis/lachesis/timer/Wheel", name := "fireTick", desc := "(J)J" } : Jvm.MethodName) prog_37_method_6_code (3 : Nat) (Option.some Jvm.ClassFile.FieldType.long)]
set_option maxRecDepth 65536 in
theorem codes_eq : words1.filter isCode = codes1 := rfl
theorem w_codes : ∀ c ∈ words1.filter isCode, c.before args0 about1 = true := by
  rw [codes_eq]
  intro c hc
  simp only [codes1, List.mem_cons, List.not_mem_nil, or_false] at hc
  rcases hc with rfl | rfl | rfl | rfl | rfl | rfl | rfl | rfl | rfl | rfl
  · exact w_c0
  · exact w_c1
  · exact w_c2
  · exact w_c3
  · exact w_c4
  · exact w_c5
  · exact w_c6
  · exact w_c7
  · exact w_c8
  · exact w_c9
set_option maxRecDepth 65536 in
theorem w_t1 : (words1.take 24).all (fun c => isCode c || c.before args0 about1) = true := by decide +kernel
set_option maxRecDepth 65536 in
theorem w_t2 : ((words1.drop 24).take 24).all (fun c => isCode c || c.before args0 about1) = true := by decide +kernel
set_option maxRecDepth 65536 in
theorem w_t3 : ((words1.drop 24).drop 24).all (fun c => isCode c || c.before args0 about1) = true := by decide +kernel
theorem w_tables : (allAtoms (Jvm.Cond.code x code maxLocals ret :: tables_1)).before args0 about1 = true := by
  rw [allAtoms_all]
  show words1.all (fun c => c.before args0 about1) = true
  refine all_split ?_ w_codes
  rw [← List.take_append_drop 24 words1, List.all_append, w_t1, ← List.take_append_drop 24 (words1.drop 24), List.all_append, w_t2, w_t3]
  rfl
set_option maxRecDepth 65536 in
theorem w_case : (Jvm.Cond.and given_1 narrow_1).before args0 about1 = true := by decide +kernel
theorem w_applies : (headSpec (Jvm.Cond.code x code maxLocals ret :: tables_1) room_1).applies x e0.platform about1 = true :=
  (Spec.applies_iff w_frames).mpr ⟨w_running, w_runnable, w_alone, w_named, w_hears, w_ripe, w_room, w_tables⟩
theorem atStart : AtStart classFile x code maxLocals ret World_1 tables_1 room_1 Calls_1 rest_1 Pre_1 launch0 p0 e0 about1 theMethod args0 below0 :=
  ⟨lists_1, trivial, launch0.admits_env _ _ _, launch0.least_env, fairChoices_fair.cas, fairChoices_fair.clock, w_frames, w_args, w_heap, w_applies, trivial, trivial, w_case⟩
end start1
theorem witness_1 : WitnessClaimed_1 := ⟨start1.p0, start1.e0, start1.about1, start1.theMethod, start1.args0, start1.below0, start1.atStart⟩
end Jvm.Pilot.@@N@@
