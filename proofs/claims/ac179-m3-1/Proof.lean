import JvmDerived
import JvmDerived.Pilot.@@N@@Statement
import JvmDerived.Pilot.@@N@@Code
set_option linter.unusedVariables false
set_option linter.unusedSimpArgs false
namespace Jvm.RoadKit
open Sem ClassFile Op Lib Jvm.Stand Jvm.Free Jvm.LawKit
section New
variable {p : Program} {l : Launch} {e : Env} {R : Room} {s : State} {m : MethodId} {args : Array Value} {below : List Frame} {meth : Method} {c : Code} {T : State} {locs : List Loc} {cells slots : Nat}
theorem retI (X : Stand p l e R s m args below meth c T locs cells slots) (hx : p.tables.exec = Jvm.exec) {pc : Nat} {Ls : Array Slot} {z : Int32} {rest : List Value} (hret : meth.sig.returnType = some .int) (hd : decode c.code pc = .ok (.ireturn, 1)) {fs : List Frame}
    (hl : ∀ (f : JFrame) (acts : List Action), f.method = m → f.locked = none → f.entered = [] → (doReturn e (T.setTop f) acts (some (.int z))).1 = T.setFrames fs) : Steps p.tables e below (T.setTop (mkF m pc Ls (.int z :: rest))) (T.setFrames fs) := by
  have hm' : T.vm.method? m = some meth := X.method'
  have hn : narrow .int (.int z) = .int z := rfl
  show Steps p.tables e below (T.setTop { method := m, pc := pc, locals := Ls, stack := _ :: rest, locked := none }) _
  jvm_step X.here [X.here.top, hx, hd, hm', hret, hn]
  first | (intro acts; rw [hl _ acts rfl rfl rfl]) | rw [hl _ _ rfl rfl rfl]
  exact Steps.refl _
end New
end Jvm.RoadKit
namespace Jvm.Pilot.@@N@@
open Jvm Jvm.ClassFile Sem Op Lib Jvm.Free Jvm.Stand Jvm.LawKit Jvm.RoadKit Bundle Jvm.Pilot.@@N@@.Jvm.D
theorem own_eqv {args : Array Value} {first s : State} {o : Option Outcome} {idx : List Nat} {t : Term} {k : Int32} (h : (Cond.eq t (.int k)).value args first o s idx = some true) : t.eval args first o idx s = some (.int k) := by
  cases ht : t.eval args first o idx s with
  | none => simp [Cond.value, ht] at h
  | some v => cases v <;> simp [Cond.value, ht, Term.eval] at h ⊢ <;> exact h
def own_ord (Z : State) (a : Addr) : Int32 := match Z.fieldOf? a "java/lang/Enum" "ordinal" "I" with
  | some (.int k) => k
  | _ => -1
theorem own_ordv {Z : State} {a : Addr} {k : Int32} (h : Z.fieldOf? a "java/lang/Enum" "ordinal" "I" = some (.int k)) : own_ord Z a = k := by simp [own_ord, h]
theorem own_dis {Z : State} {a b : Addr} {i j : Int32} (h : own_ord Z a = i) (h' : own_ord Z b = j) (n : i ≠ j) : a ≠ b := fun e => n (by rw [← h, ← h', e])
def own_pick (p : Int32) (w_FALSE w_UNKNOWN w_TRUE : Addr) : Addr := if p = 0 then w_FALSE else if p = 1 then w_UNKNOWN else w_TRUE
def own_and (a b w_FALSE w_UNKNOWN w_TRUE : Addr) : Addr := if a = w_FALSE then w_FALSE else if b = w_FALSE then w_FALSE else if a = w_UNKNOWN then w_UNKNOWN else if b = w_UNKNOWN then w_UNKNOWN else w_TRUE
def own_or (a b w_FALSE w_UNKNOWN w_TRUE : Addr) : Addr := if a = w_TRUE then w_TRUE else if b = w_TRUE then w_TRUE else if a = w_UNKNOWN then w_UNKNOWN else if b = w_UNKNOWN then w_UNKNOWN else w_FALSE
def own_rank (a w_FALSE w_UNKNOWN w_TRUE : Addr) : Int32 := if a = w_FALSE then 0 else if a = w_UNKNOWN then 1 else if a = w_TRUE then 2 else -1
def own_min (p q : Int32) : Int32 := if q < p then q else p
def own_max (p q : Int32) : Int32 := if p < q then q else p
def own_m3 (p : Int32) : Int32 := (p &&& (2147483647 : Int32)) - ((p &&& (2147483647 : Int32)) / (3 : Int32)) * (3 : Int32)
def own_of (p : Int32) (w_FALSE w_TRUE : Addr) : Addr := if p = 0 then w_FALSE else w_TRUE
def own_not (k : Int32) (w_FALSE w_UNKNOWN w_TRUE : Addr) : Addr := if k = 0 then w_FALSE else if k = 1 then w_TRUE else w_UNKNOWN
theorem d_prog_37_method_4_code_0 : decode prog_37_method_4_code 0 = .ok (.iload_n 0, 1) := by decide +kernel
theorem d_prog_37_method_4_code_1 : decode prog_37_method_4_code 1 = .ok (.ifCond .eq 9, 3) := by decide +kernel
theorem d_prog_37_method_4_code_10 : decode prog_37_method_4_code 10 = .ok (.getstatic 7, 3) := by decide +kernel
theorem d_prog_37_method_4_code_13 : decode prog_37_method_4_code 13 = .ok (.areturn, 1) := by decide +kernel
theorem d_prog_37_method_4_code_4 : decode prog_37_method_4_code 4 = .ok (.getstatic 3, 3) := by decide +kernel
theorem d_prog_37_method_4_code_7 : decode prog_37_method_4_code 7 = .ok (.goto 6, 3) := by decide +kernel
theorem pn_0 : plainName "com/example/clearance_for_data/clearancefordata/expression/Truth" = true := by first | (simp [plainName, overriddenIn]; done) | decide +kernel
theorem ef_rm1 (m : MethodId) (x0 : Int32) : entryFrame m #[(.int x0)] 1 = mkF m 0 #[.val (.int x0)] [] := by first | (simp [entryFrame, mkF, argsToLocals, Value.category]; done) | rfl
def Q_rm1 (Z : State) (p0 : Int32) (w_FALSE : Addr) (w_TRUE : Addr) (h0 : Heap) (n0 : Nat) (v : Option Value) (h : Heap) (L : List Loc) : Prop := v = some (.ref (own_of p0 w_FALSE w_TRUE)) ∧ Fr n0 L ∧ h = h0
set_option maxRecDepth 65536 in
set_option maxHeartbeats 40000000 in
theorem rm1 (l : Launch) (Z : State) (a0 : Array Value) (hw : ∀ d ∈ tables_1, d.before a0 Z = true) (ws : List Jvm.Cond) (p0 : Int32) (w_FALSE : Addr) (w_TRUE : Addr) (h0 : Heap) (n0 : Nat) (Z0 : n0 ≤ h0.size) (S_FALSE : Sta Z h0 "com/example/clearance_for_data/clearancefordata/expression/Truth" "FALSE" "Lcom/example/clearance_for_data/clearancefordata/expression/Truth;" (.ref w_FALSE)) (S_TRUE : Sta Z h0 "com/example/clearance_for_data/clearancefordata/expression/Truth" "TRUE" "Lcom/example/clearance_for_data/clearancefordata/expression/Truth;" (.ref w_TRUE)) :
    MetFree l (⟨"com/example/clearance_for_data/clearancefordata/expression/Truth", "of", "(Z)Lcom/example/clearance_for_data/clearancefordata/expression/Truth;"⟩ : MethodName) (head1 (Jvm.Cond.code (⟨"com/example/clearance_for_data/clearancefordata/expression/Truth", "of", "(Z)Lcom/example/clearance_for_data/clearancefordata/expression/Truth;"⟩ : MethodName) prog_37_method_4_code 1 (some (.object "com/example/clearance_for_data/clearancefordata/expression/Truth")) :: ws) ({ frames := 0, cells := 0, slots := 0, locals := 0 } : Room)) (fun a U => a = #[(.int p0)] ∧ Z.Warmed39 U.vm ∧ U.heap = h0) (fun _ _ _ _ _ => True) (fun _ U o U' => ∃ v L, o = .returned v ∧ Q_rm1 Z p0 w_FALSE w_TRUE h0 n0 v U'.heap L ∧ FrameEnd U o U' L ({ frames := 0, cells := 0, slots := 0, locals := 0 } : Room).cells ({ frames := 0, cells := 0, slots := 0, locals := 0 } : Room).slots) := by
  refine MetFree.of_bodySF (plainFor_of_name pn_0) hisR ?_
  intro p e s m args below meth c s₁ Bd hml0 hP hK
  obtain ⟨rfl, hZ, hh⟩ := hP
  have hx := Bd.exec
  have hby := Bd.bytes
  have hml : c.maxLocals = 1 := hml0
  have hown : s.vm.findClass "com/example/clearance_for_data/clearancefordata/expression/Truth" = some m.cls := findClass_of_methodNamed Bd.named
  have hnm := (name_of_methodNamed Bd.named Bd.method).1
  have hlk : meth.locks = false := by first | exact BodyLoose.notSynchronized (by assumption) | exact Body.notSynchronized (by assumption) | assumption
  have X0 : Stand p l e ({ frames := 0, cells := 0, slots := 0, locals := 0 } : Room) s m #[(.int p0)] below meth c s₁ [] 0 0 := Stand.of_body Bd
  have e0 : s₁.heap = h0 := by rw [← hh, Bd.state]; rfl
  have N0 := Fr.nil n0
  have Zn := Z0
  have K0 : ∀ t, Steps p.tables e below (s₁.setTop (mkF m 0 #[.val (.int p0)] [])) t → Steps p.tables e below (s₁.setTop (entryFrame m #[(.int p0)] 1)) t := fun t k => castTop (ef_rm1 m p0) k
  have K1 : ∀ t, Steps p.tables e below (s₁.setTop (mkF m 1 #[.val (.int p0)] [(.int p0)])) t → Steps p.tables e below (s₁.setTop (entryFrame m #[(.int p0)] 1)) t := by
    intro t kt
    refine K0 t ?_
    show Steps p.tables e below (s₁.setTop (mkF m 0 #[.val (.int p0)] [])) _
    refine XS.iloadN X0.here hx rfl (hb hby d_prog_37_method_4_code_0) rfl ?_
    exact kt
  by_cases hc1 : p0 = (0 : Int32)
  ·
    obtain ⟨T2, X2, e2, st2⟩ := getS2 X0 hx hZ hown (host := "") (Or.inl (hw _ (List.mem_of_getElem? (i := 4) rfl))) Via.refl e0 S_FALSE (g := (mkF m 10 #[.val (.int p0)] [])) rfl (hb hby d_prog_37_method_4_code_10)
    obtain ⟨fs, hr, hrun, hended, hW, hsame⟩ := X2.leave (v := some (.ref w_FALSE)) (fun h => by rw [Bd.returns] at h; cases h) hlk
    refine ⟨_, _, K1 _ ?_, hrun, hended, _, _, rfl, ?_, ⟨_, rfl⟩, hW, hsame.mono (by decide) (by decide)⟩
    ·
      show Steps p.tables e below (s₁.setTop (mkF m 1 #[.val (.int p0)] [(.int p0)])) _
      refine XS.ifYes X0.here hx rfl (pc0 := 1) (pc' := 10) rfl (hb hby d_prog_37_method_4_code_1) rfl ((if0 _ _).trans (teq hc1).1) (by decide) (by decide) ?_
      show Steps p.tables e below (s₁.setTop (mkF m 10 #[.val (.int p0)] [])) _
      refine st2 _ ?_
      show Steps p.tables e below (T2.setTop (mkF m 13 #[.val (.int p0)] [(.ref w_FALSE)])) _
      exact retOut X2 hx Bd.returns rfl (Or.inr (Or.inr (Or.inr (Or.inr ⟨rfl, rfl, rfl⟩)))) (hb hby d_prog_37_method_4_code_13) hr
    ·
      show Q_rm1 Z p0 w_FALSE w_TRUE h0 n0 _ T2.heap _
      rw [e2]
      refine ⟨?_, N0, rfl⟩
      simp [own_of, hc1]
  ·
    obtain ⟨T3, X3, e3, st3⟩ := getS2 X0 hx hZ hown (host := "") (Or.inl (hw _ (List.mem_of_getElem? (i := 6) rfl))) Via.refl e0 S_TRUE (g := (mkF m 4 #[.val (.int p0)] [])) rfl (hb hby d_prog_37_method_4_code_4)
    obtain ⟨fs, hr, hrun, hended, hW, hsame⟩ := X3.leave (v := some (.ref w_TRUE)) (fun h => by rw [Bd.returns] at h; cases h) hlk
    refine ⟨_, _, K1 _ ?_, hrun, hended, _, _, rfl, ?_, ⟨_, rfl⟩, hW, hsame.mono (by decide) (by decide)⟩
    ·
      show Steps p.tables e below (s₁.setTop (mkF m 1 #[.val (.int p0)] [(.int p0)])) _
      refine XS.ifNo X0.here hx rfl (hb hby d_prog_37_method_4_code_1) rfl ((if0 _ _).trans (feq hc1).1) ?_
      show Steps p.tables e below (s₁.setTop (mkF m 4 #[.val (.int p0)] [])) _
      refine st3 _ ?_
      show Steps p.tables e below (T3.setTop (mkF m 7 #[.val (.int p0)] [(.ref w_TRUE)])) _
      refine XS.goto X3.here hx rfl (pc0 := 7) (pc' := 13) rfl (hb hby d_prog_37_method_4_code_7) (by decide) (by decide) ?_
      show Steps p.tables e below (T3.setTop (mkF m 13 #[.val (.int p0)] [(.ref w_TRUE)])) _
      exact retOut X3 hx Bd.returns rfl (Or.inr (Or.inr (Or.inr (Or.inr ⟨rfl, rfl, rfl⟩)))) (hb hby d_prog_37_method_4_code_13) hr
    ·
      show Q_rm1 Z p0 w_FALSE w_TRUE h0 n0 _ T3.heap _
      rw [e3]
      refine ⟨?_, N0, rfl⟩
      simp [own_of, hc1]
theorem d_prog_37_method_5_code_0 : decode prog_37_method_5_code 0 = .ok (.aload_n 0, 1) := by decide +kernel
theorem d_prog_37_method_5_code_1 : decode prog_37_method_5_code 1 = .ok (.getstatic 7, 3) := by decide +kernel
theorem d_prog_37_method_5_code_4 : decode prog_37_method_5_code 4 = .ok (.if_acmp .eq 10, 3) := by decide +kernel
theorem d_prog_37_method_5_code_14 : decode prog_37_method_5_code 14 = .ok (.getstatic 7, 3) := by decide +kernel
theorem d_prog_37_method_5_code_17 : decode prog_37_method_5_code 17 = .ok (.areturn, 1) := by decide +kernel
theorem d_prog_37_method_5_code_7 : decode prog_37_method_5_code 7 = .ok (.aload_n 1, 1) := by decide +kernel
theorem d_prog_37_method_5_code_8 : decode prog_37_method_5_code 8 = .ok (.getstatic 7, 3) := by decide +kernel
theorem d_prog_37_method_5_code_11 : decode prog_37_method_5_code 11 = .ok (.if_acmp .ne 7, 3) := by decide +kernel
theorem d_prog_37_method_5_code_18 : decode prog_37_method_5_code 18 = .ok (.aload_n 0, 1) := by decide +kernel
theorem d_prog_37_method_5_code_19 : decode prog_37_method_5_code 19 = .ok (.getstatic 10, 3) := by decide +kernel
theorem d_prog_37_method_5_code_22 : decode prog_37_method_5_code 22 = .ok (.if_acmp .eq 10, 3) := by decide +kernel
theorem d_prog_37_method_5_code_32 : decode prog_37_method_5_code 32 = .ok (.getstatic 10, 3) := by decide +kernel
theorem d_prog_37_method_5_code_35 : decode prog_37_method_5_code 35 = .ok (.goto 6, 3) := by decide +kernel
theorem d_prog_37_method_5_code_41 : decode prog_37_method_5_code 41 = .ok (.areturn, 1) := by decide +kernel
theorem d_prog_37_method_5_code_25 : decode prog_37_method_5_code 25 = .ok (.aload_n 1, 1) := by decide +kernel
theorem d_prog_37_method_5_code_26 : decode prog_37_method_5_code 26 = .ok (.getstatic 10, 3) := by decide +kernel
theorem d_prog_37_method_5_code_29 : decode prog_37_method_5_code 29 = .ok (.if_acmp .ne 9, 3) := by decide +kernel
theorem d_prog_37_method_5_code_38 : decode prog_37_method_5_code 38 = .ok (.getstatic 3, 3) := by decide +kernel
theorem ef_rm2 (m : MethodId) (x0 : Addr) (x1 : Addr) : entryFrame m #[(.ref x0), (.ref x1)] 2 = mkF m 0 #[.val (.ref x0), .val (.ref x1)] [] := by first | (simp [entryFrame, mkF, argsToLocals, Value.category]; done) | rfl
def Q_rm2 (Z : State) (r0 : Addr) (r1 : Addr) (w_FALSE : Addr) (w_UNKNOWN : Addr) (w_TRUE : Addr) (h0 : Heap) (n0 : Nat) (v : Option Value) (h : Heap) (L : List Loc) : Prop := v = some (.ref (own_and r0 r1 w_FALSE w_UNKNOWN w_TRUE)) ∧ Fr n0 L ∧ h = h0
set_option maxRecDepth 65536 in
set_option maxHeartbeats 40000000 in
theorem rm2 (l : Launch) (Z : State) (a0 : Array Value) (hw : ∀ d ∈ tables_1, d.before a0 Z = true) (ws : List Jvm.Cond) (r0 : Addr) (r1 : Addr) (w_FALSE : Addr) (w_UNKNOWN : Addr) (w_TRUE : Addr) (h0 : Heap) (n0 : Nat) (Z0 : n0 ≤ h0.size) (S_FALSE : Sta Z h0 "com/example/clearance_for_data/clearancefordata/expression/Truth" "FALSE" "Lcom/example/clearance_for_data/clearancefordata/expression/Truth;" (.ref w_FALSE)) (S_UNKNOWN : Sta Z h0 "com/example/clearance_for_data/clearancefordata/expression/Truth" "UNKNOWN" "Lcom/example/clearance_for_data/clearancefordata/expression/Truth;" (.ref w_UNKNOWN)) (S_TRUE : Sta Z h0 "com/example/clearance_for_data/clearancefordata/expression/Truth" "TRUE" "Lcom/example/clearance_for_data/clearancefordata/expression/Truth;" (.ref w_TRUE)) :
    MetFree l (⟨"com/example/clearance_for_data/clearancefordata/expression/Truth", "and", "(Lcom/example/clearance_for_data/clearancefordata/expression/Truth;)Lcom/example/clearance_for_data/clearancefordata/expression/Truth;"⟩ : MethodName) (head1 (Jvm.Cond.code (⟨"com/example/clearance_for_data/clearancefordata/expression/Truth", "and", "(Lcom/example/clearance_for_data/clearancefordata/expression/Truth;)Lcom/example/clearance_for_data/clearancefordata/expression/Truth;"⟩ : MethodName) prog_37_method_5_code 2 (some (.object "com/example/clearance_for_data/clearancefordata/expression/Truth")) :: ws) ({ frames := 0, cells := 0, slots := 0, locals := 0 } : Room)) (fun a U => a = #[(.ref r0), (.ref r1)] ∧ Z.Warmed39 U.vm ∧ U.heap = h0) (fun _ _ _ _ _ => True) (fun _ U o U' => ∃ v L, o = .returned v ∧ Q_rm2 Z r0 r1 w_FALSE w_UNKNOWN w_TRUE h0 n0 v U'.heap L ∧ FrameEnd U o U' L ({ frames := 0, cells := 0, slots := 0, locals := 0 } : Room).cells ({ frames := 0, cells := 0, slots := 0, locals := 0 } : Room).slots) := by
  refine MetFree.of_bodySF (plainFor_of_name pn_0) hisR ?_
  intro p e s m args below meth c s₁ Bd hml0 hP hK
  obtain ⟨rfl, hZ, hh⟩ := hP
  have hx := Bd.exec
  have hby := Bd.bytes
  have hml : c.maxLocals = 2 := hml0
  have hown : s.vm.findClass "com/example/clearance_for_data/clearancefordata/expression/Truth" = some m.cls := findClass_of_methodNamed Bd.named
  have hnm := (name_of_methodNamed Bd.named Bd.method).1
  have hlk : meth.locks = false := by first | exact BodyLoose.notSynchronized (by assumption) | exact Body.notSynchronized (by assumption) | assumption
  have X0 : Stand p l e ({ frames := 0, cells := 0, slots := 0, locals := 0 } : Room) s m #[(.ref r0), (.ref r1)] below meth c s₁ [] 0 0 := Stand.of_body Bd
  have e0 : s₁.heap = h0 := by rw [← hh, Bd.state]; rfl
  have N0 := Fr.nil n0
  have Zn := Z0
  have K0 : ∀ t, Steps p.tables e below (s₁.setTop (mkF m 0 #[.val (.ref r0), .val (.ref r1)] [])) t → Steps p.tables e below (s₁.setTop (entryFrame m #[(.ref r0), (.ref r1)] 2)) t := fun t k => castTop (ef_rm2 m r0 r1) k
  obtain ⟨T1, X1, e1, st1⟩ := getS2 X0 hx hZ hown (host := "") (Or.inl (hw _ (List.mem_of_getElem? (i := 4) rfl))) Via.refl e0 S_FALSE (g := (mkF m 1 #[.val (.ref r0), .val (.ref r1)] [(.ref r0)])) rfl (hb hby d_prog_37_method_5_code_1)
  have K2 : ∀ t, Steps p.tables e below (T1.setTop (mkF m 4 #[.val (.ref r0), .val (.ref r1)] [(.ref w_FALSE), (.ref r0)])) t → Steps p.tables e below (s₁.setTop (entryFrame m #[(.ref r0), (.ref r1)] 2)) t := by
    intro t kt
    refine K0 t ?_
    show Steps p.tables e below (s₁.setTop (mkF m 0 #[.val (.ref r0), .val (.ref r1)] [])) _
    refine XS.aloadN X0.here hx rfl (hb hby d_prog_37_method_5_code_0) rfl rfl ?_
    show Steps p.tables e below (s₁.setTop (mkF m 1 #[.val (.ref r0), .val (.ref r1)] [(.ref r0)])) _
    refine st1 _ ?_
    exact kt
  by_cases hc4 : r0 = w_FALSE
  ·
    obtain ⟨T3, X3, e3, st3⟩ := getS2 X1 hx hZ hown (host := "") (Or.inl (hw _ (List.mem_of_getElem? (i := 4) rfl))) Via.refl e1 S_FALSE (g := (mkF m 14 #[.val (.ref r0), .val (.ref r1)] [])) rfl (hb hby d_prog_37_method_5_code_14)
    obtain ⟨fs, hr, hrun, hended, hW, hsame⟩ := X3.leave (v := some (.ref w_FALSE)) (fun h => by rw [Bd.returns] at h; cases h) hlk
    refine ⟨_, _, K2 _ ?_, hrun, hended, _, _, rfl, ?_, ⟨_, rfl⟩, hW, hsame.mono (by decide) (by decide)⟩
    ·
      show Steps p.tables e below (T1.setTop (mkF m 4 #[.val (.ref r0), .val (.ref r1)] [(.ref w_FALSE), (.ref r0)])) _
      refine Jvm.RoadKit.acmp (g := (mkF m 4 #[.val (.ref r0), .val (.ref r1)] [(.ref w_FALSE), (.ref r0)])) X1 hx rfl rfl rfl (pc0 := 4) (pc' := 14) (same := true) rfl (hb hby d_prog_37_method_5_code_4) rfl (decide_eq_true (congrArg Value.ref hc4)) (by decide) (by decide) ?_
      show Steps p.tables e below (T1.setTop (mkF m 14 #[.val (.ref r0), .val (.ref r1)] [])) _
      refine st3 _ ?_
      show Steps p.tables e below (T3.setTop (mkF m 17 #[.val (.ref r0), .val (.ref r1)] [(.ref w_FALSE)])) _
      exact retOut X3 hx Bd.returns rfl (Or.inr (Or.inr (Or.inr (Or.inr ⟨rfl, rfl, rfl⟩)))) (hb hby d_prog_37_method_5_code_17) hr
    ·
      show Q_rm2 Z r0 r1 w_FALSE w_UNKNOWN w_TRUE h0 n0 _ T3.heap _
      rw [e3]
      refine ⟨?_, N0, rfl⟩
      simp [own_and, hc4]
  ·
    obtain ⟨T4, X4, e4, st4⟩ := getS2 X1 hx hZ hown (host := "") (Or.inl (hw _ (List.mem_of_getElem? (i := 4) rfl))) Via.refl e1 S_FALSE (g := (mkF m 8 #[.val (.ref r0), .val (.ref r1)] [(.ref r1)])) rfl (hb hby d_prog_37_method_5_code_8)
    have K5 : ∀ t, Steps p.tables e below (T4.setTop (mkF m 11 #[.val (.ref r0), .val (.ref r1)] [(.ref w_FALSE), (.ref r1)])) t → Steps p.tables e below (s₁.setTop (entryFrame m #[(.ref r0), (.ref r1)] 2)) t := by
      intro t kt
      refine K2 t ?_
      show Steps p.tables e below (T1.setTop (mkF m 4 #[.val (.ref r0), .val (.ref r1)] [(.ref w_FALSE), (.ref r0)])) _
      refine Jvm.RoadKit.acmp (g := (mkF m 4 #[.val (.ref r0), .val (.ref r1)] [(.ref w_FALSE), (.ref r0)])) X1 hx rfl rfl rfl (pc0 := 4) (pc' := 7) (same := false) rfl (hb hby d_prog_37_method_5_code_4) rfl (decide_eq_false fun q => hc4 (Value.ref.inj q)) (by decide) (by decide) ?_
      show Steps p.tables e below (T1.setTop (mkF m 7 #[.val (.ref r0), .val (.ref r1)] [])) _
      refine XS.aloadN X1.here hx rfl (hb hby d_prog_37_method_5_code_7) rfl rfl ?_
      show Steps p.tables e below (T1.setTop (mkF m 8 #[.val (.ref r0), .val (.ref r1)] [(.ref r1)])) _
      refine st4 _ ?_
      exact kt
    by_cases hc11 : r1 = w_FALSE
    ·
      obtain ⟨T6, X6, e6, st6⟩ := getS2 X4 hx hZ hown (host := "") (Or.inl (hw _ (List.mem_of_getElem? (i := 4) rfl))) Via.refl e4 S_FALSE (g := (mkF m 14 #[.val (.ref r0), .val (.ref r1)] [])) rfl (hb hby d_prog_37_method_5_code_14)
      obtain ⟨fs, hr, hrun, hended, hW, hsame⟩ := X6.leave (v := some (.ref w_FALSE)) (fun h => by rw [Bd.returns] at h; cases h) hlk
      refine ⟨_, _, K5 _ ?_, hrun, hended, _, _, rfl, ?_, ⟨_, rfl⟩, hW, hsame.mono (by decide) (by decide)⟩
      ·
        show Steps p.tables e below (T4.setTop (mkF m 11 #[.val (.ref r0), .val (.ref r1)] [(.ref w_FALSE), (.ref r1)])) _
        refine Jvm.RoadKit.acmp (g := (mkF m 11 #[.val (.ref r0), .val (.ref r1)] [(.ref w_FALSE), (.ref r1)])) X4 hx rfl rfl rfl (pc0 := 11) (pc' := 14) (same := true) rfl (hb hby d_prog_37_method_5_code_11) rfl (decide_eq_true (congrArg Value.ref hc11)) (by decide) (by decide) ?_
        show Steps p.tables e below (T4.setTop (mkF m 14 #[.val (.ref r0), .val (.ref r1)] [])) _
        refine st6 _ ?_
        show Steps p.tables e below (T6.setTop (mkF m 17 #[.val (.ref r0), .val (.ref r1)] [(.ref w_FALSE)])) _
        exact retOut X6 hx Bd.returns rfl (Or.inr (Or.inr (Or.inr (Or.inr ⟨rfl, rfl, rfl⟩)))) (hb hby d_prog_37_method_5_code_17) hr
      ·
        show Q_rm2 Z r0 r1 w_FALSE w_UNKNOWN w_TRUE h0 n0 _ T6.heap _
        rw [e6]
        refine ⟨?_, N0, rfl⟩
        simp [own_and, hc4, hc11]
    ·
      obtain ⟨T7, X7, e7, st7⟩ := getS2 X4 hx hZ hown (host := "") (Or.inl (hw _ (List.mem_of_getElem? (i := 33) rfl))) Via.refl e4 S_UNKNOWN (g := (mkF m 19 #[.val (.ref r0), .val (.ref r1)] [(.ref r0)])) rfl (hb hby d_prog_37_method_5_code_19)
      have K8 : ∀ t, Steps p.tables e below (T7.setTop (mkF m 22 #[.val (.ref r0), .val (.ref r1)] [(.ref w_UNKNOWN), (.ref r0)])) t → Steps p.tables e below (s₁.setTop (entryFrame m #[(.ref r0), (.ref r1)] 2)) t := by
        intro t kt
        refine K5 t ?_
        show Steps p.tables e below (T4.setTop (mkF m 11 #[.val (.ref r0), .val (.ref r1)] [(.ref w_FALSE), (.ref r1)])) _
        refine Jvm.RoadKit.acmp (g := (mkF m 11 #[.val (.ref r0), .val (.ref r1)] [(.ref w_FALSE), (.ref r1)])) X4 hx rfl rfl rfl (pc0 := 11) (pc' := 18) (same := false) rfl (hb hby d_prog_37_method_5_code_11) rfl (decide_eq_false fun q => hc11 (Value.ref.inj q)) (by decide) (by decide) ?_
        show Steps p.tables e below (T4.setTop (mkF m 18 #[.val (.ref r0), .val (.ref r1)] [])) _
        refine XS.aloadN X4.here hx rfl (hb hby d_prog_37_method_5_code_18) rfl rfl ?_
        show Steps p.tables e below (T4.setTop (mkF m 19 #[.val (.ref r0), .val (.ref r1)] [(.ref r0)])) _
        refine st7 _ ?_
        exact kt
      by_cases hc22 : r0 = w_UNKNOWN
      ·
        obtain ⟨T9, X9, e9, st9⟩ := getS2 X7 hx hZ hown (host := "") (Or.inl (hw _ (List.mem_of_getElem? (i := 33) rfl))) Via.refl e7 S_UNKNOWN (g := (mkF m 32 #[.val (.ref r0), .val (.ref r1)] [])) rfl (hb hby d_prog_37_method_5_code_32)
        obtain ⟨fs, hr, hrun, hended, hW, hsame⟩ := X9.leave (v := some (.ref w_UNKNOWN)) (fun h => by rw [Bd.returns] at h; cases h) hlk
        refine ⟨_, _, K8 _ ?_, hrun, hended, _, _, rfl, ?_, ⟨_, rfl⟩, hW, hsame.mono (by decide) (by decide)⟩
        ·
          show Steps p.tables e below (T7.setTop (mkF m 22 #[.val (.ref r0), .val (.ref r1)] [(.ref w_UNKNOWN), (.ref r0)])) _
          refine Jvm.RoadKit.acmp (g := (mkF m 22 #[.val (.ref r0), .val (.ref r1)] [(.ref w_UNKNOWN), (.ref r0)])) X7 hx rfl rfl rfl (pc0 := 22) (pc' := 32) (same := true) rfl (hb hby d_prog_37_method_5_code_22) rfl (decide_eq_true (congrArg Value.ref hc22)) (by decide) (by decide) ?_
          show Steps p.tables e below (T7.setTop (mkF m 32 #[.val (.ref r0), .val (.ref r1)] [])) _
          refine st9 _ ?_
          show Steps p.tables e below (T9.setTop (mkF m 35 #[.val (.ref r0), .val (.ref r1)] [(.ref w_UNKNOWN)])) _
          refine XS.goto X9.here hx rfl (pc0 := 35) (pc' := 41) rfl (hb hby d_prog_37_method_5_code_35) (by decide) (by decide) ?_
          show Steps p.tables e below (T9.setTop (mkF m 41 #[.val (.ref r0), .val (.ref r1)] [(.ref w_UNKNOWN)])) _
          exact retOut X9 hx Bd.returns rfl (Or.inr (Or.inr (Or.inr (Or.inr ⟨rfl, rfl, rfl⟩)))) (hb hby d_prog_37_method_5_code_41) hr
        ·
          show Q_rm2 Z r0 r1 w_FALSE w_UNKNOWN w_TRUE h0 n0 _ T9.heap _
          rw [e9]
          refine ⟨?_, N0, rfl⟩
          simp [own_and, hc4, hc11, hc22]
      ·
        obtain ⟨T10, X10, e10, st10⟩ := getS2 X7 hx hZ hown (host := "") (Or.inl (hw _ (List.mem_of_getElem? (i := 33) rfl))) Via.refl e7 S_UNKNOWN (g := (mkF m 26 #[.val (.ref r0), .val (.ref r1)] [(.ref r1)])) rfl (hb hby d_prog_37_method_5_code_26)
        have K11 : ∀ t, Steps p.tables e below (T10.setTop (mkF m 29 #[.val (.ref r0), .val (.ref r1)] [(.ref w_UNKNOWN), (.ref r1)])) t → Steps p.tables e below (s₁.setTop (entryFrame m #[(.ref r0), (.ref r1)] 2)) t := by
          intro t kt
          refine K8 t ?_
          show Steps p.tables e below (T7.setTop (mkF m 22 #[.val (.ref r0), .val (.ref r1)] [(.ref w_UNKNOWN), (.ref r0)])) _
          refine Jvm.RoadKit.acmp (g := (mkF m 22 #[.val (.ref r0), .val (.ref r1)] [(.ref w_UNKNOWN), (.ref r0)])) X7 hx rfl rfl rfl (pc0 := 22) (pc' := 25) (same := false) rfl (hb hby d_prog_37_method_5_code_22) rfl (decide_eq_false fun q => hc22 (Value.ref.inj q)) (by decide) (by decide) ?_
          show Steps p.tables e below (T7.setTop (mkF m 25 #[.val (.ref r0), .val (.ref r1)] [])) _
          refine XS.aloadN X7.here hx rfl (hb hby d_prog_37_method_5_code_25) rfl rfl ?_
          show Steps p.tables e below (T7.setTop (mkF m 26 #[.val (.ref r0), .val (.ref r1)] [(.ref r1)])) _
          refine st10 _ ?_
          exact kt
        by_cases hc29 : r1 = w_UNKNOWN
        ·
          obtain ⟨T12, X12, e12, st12⟩ := getS2 X10 hx hZ hown (host := "") (Or.inl (hw _ (List.mem_of_getElem? (i := 33) rfl))) Via.refl e10 S_UNKNOWN (g := (mkF m 32 #[.val (.ref r0), .val (.ref r1)] [])) rfl (hb hby d_prog_37_method_5_code_32)
          obtain ⟨fs, hr, hrun, hended, hW, hsame⟩ := X12.leave (v := some (.ref w_UNKNOWN)) (fun h => by rw [Bd.returns] at h; cases h) hlk
          refine ⟨_, _, K11 _ ?_, hrun, hended, _, _, rfl, ?_, ⟨_, rfl⟩, hW, hsame.mono (by decide) (by decide)⟩
          ·
            show Steps p.tables e below (T10.setTop (mkF m 29 #[.val (.ref r0), .val (.ref r1)] [(.ref w_UNKNOWN), (.ref r1)])) _
            refine Jvm.RoadKit.acmp (g := (mkF m 29 #[.val (.ref r0), .val (.ref r1)] [(.ref w_UNKNOWN), (.ref r1)])) X10 hx rfl rfl rfl (pc0 := 29) (pc' := 32) (same := true) rfl (hb hby d_prog_37_method_5_code_29) rfl (decide_eq_true (congrArg Value.ref hc29)) (by decide) (by decide) ?_
            show Steps p.tables e below (T10.setTop (mkF m 32 #[.val (.ref r0), .val (.ref r1)] [])) _
            refine st12 _ ?_
            show Steps p.tables e below (T12.setTop (mkF m 35 #[.val (.ref r0), .val (.ref r1)] [(.ref w_UNKNOWN)])) _
            refine XS.goto X12.here hx rfl (pc0 := 35) (pc' := 41) rfl (hb hby d_prog_37_method_5_code_35) (by decide) (by decide) ?_
            show Steps p.tables e below (T12.setTop (mkF m 41 #[.val (.ref r0), .val (.ref r1)] [(.ref w_UNKNOWN)])) _
            exact retOut X12 hx Bd.returns rfl (Or.inr (Or.inr (Or.inr (Or.inr ⟨rfl, rfl, rfl⟩)))) (hb hby d_prog_37_method_5_code_41) hr
          ·
            show Q_rm2 Z r0 r1 w_FALSE w_UNKNOWN w_TRUE h0 n0 _ T12.heap _
            rw [e12]
            refine ⟨?_, N0, rfl⟩
            simp [own_and, hc4, hc11, hc22, hc29]
        ·
          obtain ⟨T13, X13, e13, st13⟩ := getS2 X10 hx hZ hown (host := "") (Or.inl (hw _ (List.mem_of_getElem? (i := 6) rfl))) Via.refl e10 S_TRUE (g := (mkF m 38 #[.val (.ref r0), .val (.ref r1)] [])) rfl (hb hby d_prog_37_method_5_code_38)
          obtain ⟨fs, hr, hrun, hended, hW, hsame⟩ := X13.leave (v := some (.ref w_TRUE)) (fun h => by rw [Bd.returns] at h; cases h) hlk
          refine ⟨_, _, K11 _ ?_, hrun, hended, _, _, rfl, ?_, ⟨_, rfl⟩, hW, hsame.mono (by decide) (by decide)⟩
          ·
            show Steps p.tables e below (T10.setTop (mkF m 29 #[.val (.ref r0), .val (.ref r1)] [(.ref w_UNKNOWN), (.ref r1)])) _
            refine Jvm.RoadKit.acmp (g := (mkF m 29 #[.val (.ref r0), .val (.ref r1)] [(.ref w_UNKNOWN), (.ref r1)])) X10 hx rfl rfl rfl (pc0 := 29) (pc' := 38) (same := false) rfl (hb hby d_prog_37_method_5_code_29) rfl (decide_eq_false fun q => hc29 (Value.ref.inj q)) (by decide) (by decide) ?_
            show Steps p.tables e below (T10.setTop (mkF m 38 #[.val (.ref r0), .val (.ref r1)] [])) _
            refine st13 _ ?_
            show Steps p.tables e below (T13.setTop (mkF m 41 #[.val (.ref r0), .val (.ref r1)] [(.ref w_TRUE)])) _
            exact retOut X13 hx Bd.returns rfl (Or.inr (Or.inr (Or.inr (Or.inr ⟨rfl, rfl, rfl⟩)))) (hb hby d_prog_37_method_5_code_41) hr
          ·
            show Q_rm2 Z r0 r1 w_FALSE w_UNKNOWN w_TRUE h0 n0 _ T13.heap _
            rw [e13]
            refine ⟨?_, N0, rfl⟩
            simp [own_and, hc4, hc11, hc22, hc29]
theorem d_prog_37_method_6_code_0 : decode prog_37_method_6_code 0 = .ok (.aload_n 0, 1) := by decide +kernel
theorem d_prog_37_method_6_code_1 : decode prog_37_method_6_code 1 = .ok (.getstatic 3, 3) := by decide +kernel
theorem d_prog_37_method_6_code_4 : decode prog_37_method_6_code 4 = .ok (.if_acmp .eq 10, 3) := by decide +kernel
theorem d_prog_37_method_6_code_14 : decode prog_37_method_6_code 14 = .ok (.getstatic 3, 3) := by decide +kernel
theorem d_prog_37_method_6_code_17 : decode prog_37_method_6_code 17 = .ok (.areturn, 1) := by decide +kernel
theorem d_prog_37_method_6_code_7 : decode prog_37_method_6_code 7 = .ok (.aload_n 1, 1) := by decide +kernel
theorem d_prog_37_method_6_code_8 : decode prog_37_method_6_code 8 = .ok (.getstatic 3, 3) := by decide +kernel
theorem d_prog_37_method_6_code_11 : decode prog_37_method_6_code 11 = .ok (.if_acmp .ne 7, 3) := by decide +kernel
theorem d_prog_37_method_6_code_18 : decode prog_37_method_6_code 18 = .ok (.aload_n 0, 1) := by decide +kernel
theorem d_prog_37_method_6_code_19 : decode prog_37_method_6_code 19 = .ok (.getstatic 10, 3) := by decide +kernel
theorem d_prog_37_method_6_code_22 : decode prog_37_method_6_code 22 = .ok (.if_acmp .eq 10, 3) := by decide +kernel
theorem d_prog_37_method_6_code_32 : decode prog_37_method_6_code 32 = .ok (.getstatic 10, 3) := by decide +kernel
theorem d_prog_37_method_6_code_35 : decode prog_37_method_6_code 35 = .ok (.goto 6, 3) := by decide +kernel
theorem d_prog_37_method_6_code_41 : decode prog_37_method_6_code 41 = .ok (.areturn, 1) := by decide +kernel
theorem d_prog_37_method_6_code_25 : decode prog_37_method_6_code 25 = .ok (.aload_n 1, 1) := by decide +kernel
theorem d_prog_37_method_6_code_26 : decode prog_37_method_6_code 26 = .ok (.getstatic 10, 3) := by decide +kernel
theorem d_prog_37_method_6_code_29 : decode prog_37_method_6_code 29 = .ok (.if_acmp .ne 9, 3) := by decide +kernel
theorem d_prog_37_method_6_code_38 : decode prog_37_method_6_code 38 = .ok (.getstatic 7, 3) := by decide +kernel
theorem ef_rm3 (m : MethodId) (x0 : Addr) (x1 : Addr) : entryFrame m #[(.ref x0), (.ref x1)] 2 = mkF m 0 #[.val (.ref x0), .val (.ref x1)] [] := by first | (simp [entryFrame, mkF, argsToLocals, Value.category]; done) | rfl
def Q_rm3 (Z : State) (r0 : Addr) (r1 : Addr) (w_FALSE : Addr) (w_UNKNOWN : Addr) (w_TRUE : Addr) (h0 : Heap) (n0 : Nat) (v : Option Value) (h : Heap) (L : List Loc) : Prop := v = some (.ref (own_or r0 r1 w_FALSE w_UNKNOWN w_TRUE)) ∧ Fr n0 L ∧ h = h0
set_option maxRecDepth 65536 in
set_option maxHeartbeats 40000000 in
theorem rm3 (l : Launch) (Z : State) (a0 : Array Value) (hw : ∀ d ∈ tables_1, d.before a0 Z = true) (ws : List Jvm.Cond) (r0 : Addr) (r1 : Addr) (w_FALSE : Addr) (w_UNKNOWN : Addr) (w_TRUE : Addr) (h0 : Heap) (n0 : Nat) (Z0 : n0 ≤ h0.size) (S_FALSE : Sta Z h0 "com/example/clearance_for_data/clearancefordata/expression/Truth" "FALSE" "Lcom/example/clearance_for_data/clearancefordata/expression/Truth;" (.ref w_FALSE)) (S_UNKNOWN : Sta Z h0 "com/example/clearance_for_data/clearancefordata/expression/Truth" "UNKNOWN" "Lcom/example/clearance_for_data/clearancefordata/expression/Truth;" (.ref w_UNKNOWN)) (S_TRUE : Sta Z h0 "com/example/clearance_for_data/clearancefordata/expression/Truth" "TRUE" "Lcom/example/clearance_for_data/clearancefordata/expression/Truth;" (.ref w_TRUE)) :
    MetFree l (⟨"com/example/clearance_for_data/clearancefordata/expression/Truth", "or", "(Lcom/example/clearance_for_data/clearancefordata/expression/Truth;)Lcom/example/clearance_for_data/clearancefordata/expression/Truth;"⟩ : MethodName) (head1 (Jvm.Cond.code (⟨"com/example/clearance_for_data/clearancefordata/expression/Truth", "or", "(Lcom/example/clearance_for_data/clearancefordata/expression/Truth;)Lcom/example/clearance_for_data/clearancefordata/expression/Truth;"⟩ : MethodName) prog_37_method_6_code 2 (some (.object "com/example/clearance_for_data/clearancefordata/expression/Truth")) :: ws) ({ frames := 0, cells := 0, slots := 0, locals := 0 } : Room)) (fun a U => a = #[(.ref r0), (.ref r1)] ∧ Z.Warmed39 U.vm ∧ U.heap = h0) (fun _ _ _ _ _ => True) (fun _ U o U' => ∃ v L, o = .returned v ∧ Q_rm3 Z r0 r1 w_FALSE w_UNKNOWN w_TRUE h0 n0 v U'.heap L ∧ FrameEnd U o U' L ({ frames := 0, cells := 0, slots := 0, locals := 0 } : Room).cells ({ frames := 0, cells := 0, slots := 0, locals := 0 } : Room).slots) := by
  refine MetFree.of_bodySF (plainFor_of_name pn_0) hisR ?_
  intro p e s m args below meth c s₁ Bd hml0 hP hK
  obtain ⟨rfl, hZ, hh⟩ := hP
  have hx := Bd.exec
  have hby := Bd.bytes
  have hml : c.maxLocals = 2 := hml0
  have hown : s.vm.findClass "com/example/clearance_for_data/clearancefordata/expression/Truth" = some m.cls := findClass_of_methodNamed Bd.named
  have hnm := (name_of_methodNamed Bd.named Bd.method).1
  have hlk : meth.locks = false := by first | exact BodyLoose.notSynchronized (by assumption) | exact Body.notSynchronized (by assumption) | assumption
  have X0 : Stand p l e ({ frames := 0, cells := 0, slots := 0, locals := 0 } : Room) s m #[(.ref r0), (.ref r1)] below meth c s₁ [] 0 0 := Stand.of_body Bd
  have e0 : s₁.heap = h0 := by rw [← hh, Bd.state]; rfl
  have N0 := Fr.nil n0
  have Zn := Z0
  have K0 : ∀ t, Steps p.tables e below (s₁.setTop (mkF m 0 #[.val (.ref r0), .val (.ref r1)] [])) t → Steps p.tables e below (s₁.setTop (entryFrame m #[(.ref r0), (.ref r1)] 2)) t := fun t k => castTop (ef_rm3 m r0 r1) k
  obtain ⟨T1, X1, e1, st1⟩ := getS2 X0 hx hZ hown (host := "") (Or.inl (hw _ (List.mem_of_getElem? (i := 6) rfl))) Via.refl e0 S_TRUE (g := (mkF m 1 #[.val (.ref r0), .val (.ref r1)] [(.ref r0)])) rfl (hb hby d_prog_37_method_6_code_1)
  have K2 : ∀ t, Steps p.tables e below (T1.setTop (mkF m 4 #[.val (.ref r0), .val (.ref r1)] [(.ref w_TRUE), (.ref r0)])) t → Steps p.tables e below (s₁.setTop (entryFrame m #[(.ref r0), (.ref r1)] 2)) t := by
    intro t kt
    refine K0 t ?_
    show Steps p.tables e below (s₁.setTop (mkF m 0 #[.val (.ref r0), .val (.ref r1)] [])) _
    refine XS.aloadN X0.here hx rfl (hb hby d_prog_37_method_6_code_0) rfl rfl ?_
    show Steps p.tables e below (s₁.setTop (mkF m 1 #[.val (.ref r0), .val (.ref r1)] [(.ref r0)])) _
    refine st1 _ ?_
    exact kt
  by_cases hc4 : r0 = w_TRUE
  ·
    obtain ⟨T3, X3, e3, st3⟩ := getS2 X1 hx hZ hown (host := "") (Or.inl (hw _ (List.mem_of_getElem? (i := 6) rfl))) Via.refl e1 S_TRUE (g := (mkF m 14 #[.val (.ref r0), .val (.ref r1)] [])) rfl (hb hby d_prog_37_method_6_code_14)
    obtain ⟨fs, hr, hrun, hended, hW, hsame⟩ := X3.leave (v := some (.ref w_TRUE)) (fun h => by rw [Bd.returns] at h; cases h) hlk
    refine ⟨_, _, K2 _ ?_, hrun, hended, _, _, rfl, ?_, ⟨_, rfl⟩, hW, hsame.mono (by decide) (by decide)⟩
    ·
      show Steps p.tables e below (T1.setTop (mkF m 4 #[.val (.ref r0), .val (.ref r1)] [(.ref w_TRUE), (.ref r0)])) _
      refine Jvm.RoadKit.acmp (g := (mkF m 4 #[.val (.ref r0), .val (.ref r1)] [(.ref w_TRUE), (.ref r0)])) X1 hx rfl rfl rfl (pc0 := 4) (pc' := 14) (same := true) rfl (hb hby d_prog_37_method_6_code_4) rfl (decide_eq_true (congrArg Value.ref hc4)) (by decide) (by decide) ?_
      show Steps p.tables e below (T1.setTop (mkF m 14 #[.val (.ref r0), .val (.ref r1)] [])) _
      refine st3 _ ?_
      show Steps p.tables e below (T3.setTop (mkF m 17 #[.val (.ref r0), .val (.ref r1)] [(.ref w_TRUE)])) _
      exact retOut X3 hx Bd.returns rfl (Or.inr (Or.inr (Or.inr (Or.inr ⟨rfl, rfl, rfl⟩)))) (hb hby d_prog_37_method_6_code_17) hr
    ·
      show Q_rm3 Z r0 r1 w_FALSE w_UNKNOWN w_TRUE h0 n0 _ T3.heap _
      rw [e3]
      refine ⟨?_, N0, rfl⟩
      simp [own_or, hc4]
  ·
    obtain ⟨T4, X4, e4, st4⟩ := getS2 X1 hx hZ hown (host := "") (Or.inl (hw _ (List.mem_of_getElem? (i := 6) rfl))) Via.refl e1 S_TRUE (g := (mkF m 8 #[.val (.ref r0), .val (.ref r1)] [(.ref r1)])) rfl (hb hby d_prog_37_method_6_code_8)
    have K5 : ∀ t, Steps p.tables e below (T4.setTop (mkF m 11 #[.val (.ref r0), .val (.ref r1)] [(.ref w_TRUE), (.ref r1)])) t → Steps p.tables e below (s₁.setTop (entryFrame m #[(.ref r0), (.ref r1)] 2)) t := by
      intro t kt
      refine K2 t ?_
      show Steps p.tables e below (T1.setTop (mkF m 4 #[.val (.ref r0), .val (.ref r1)] [(.ref w_TRUE), (.ref r0)])) _
      refine Jvm.RoadKit.acmp (g := (mkF m 4 #[.val (.ref r0), .val (.ref r1)] [(.ref w_TRUE), (.ref r0)])) X1 hx rfl rfl rfl (pc0 := 4) (pc' := 7) (same := false) rfl (hb hby d_prog_37_method_6_code_4) rfl (decide_eq_false fun q => hc4 (Value.ref.inj q)) (by decide) (by decide) ?_
      show Steps p.tables e below (T1.setTop (mkF m 7 #[.val (.ref r0), .val (.ref r1)] [])) _
      refine XS.aloadN X1.here hx rfl (hb hby d_prog_37_method_6_code_7) rfl rfl ?_
      show Steps p.tables e below (T1.setTop (mkF m 8 #[.val (.ref r0), .val (.ref r1)] [(.ref r1)])) _
      refine st4 _ ?_
      exact kt
    by_cases hc11 : r1 = w_TRUE
    ·
      obtain ⟨T6, X6, e6, st6⟩ := getS2 X4 hx hZ hown (host := "") (Or.inl (hw _ (List.mem_of_getElem? (i := 6) rfl))) Via.refl e4 S_TRUE (g := (mkF m 14 #[.val (.ref r0), .val (.ref r1)] [])) rfl (hb hby d_prog_37_method_6_code_14)
      obtain ⟨fs, hr, hrun, hended, hW, hsame⟩ := X6.leave (v := some (.ref w_TRUE)) (fun h => by rw [Bd.returns] at h; cases h) hlk
      refine ⟨_, _, K5 _ ?_, hrun, hended, _, _, rfl, ?_, ⟨_, rfl⟩, hW, hsame.mono (by decide) (by decide)⟩
      ·
        show Steps p.tables e below (T4.setTop (mkF m 11 #[.val (.ref r0), .val (.ref r1)] [(.ref w_TRUE), (.ref r1)])) _
        refine Jvm.RoadKit.acmp (g := (mkF m 11 #[.val (.ref r0), .val (.ref r1)] [(.ref w_TRUE), (.ref r1)])) X4 hx rfl rfl rfl (pc0 := 11) (pc' := 14) (same := true) rfl (hb hby d_prog_37_method_6_code_11) rfl (decide_eq_true (congrArg Value.ref hc11)) (by decide) (by decide) ?_
        show Steps p.tables e below (T4.setTop (mkF m 14 #[.val (.ref r0), .val (.ref r1)] [])) _
        refine st6 _ ?_
        show Steps p.tables e below (T6.setTop (mkF m 17 #[.val (.ref r0), .val (.ref r1)] [(.ref w_TRUE)])) _
        exact retOut X6 hx Bd.returns rfl (Or.inr (Or.inr (Or.inr (Or.inr ⟨rfl, rfl, rfl⟩)))) (hb hby d_prog_37_method_6_code_17) hr
      ·
        show Q_rm3 Z r0 r1 w_FALSE w_UNKNOWN w_TRUE h0 n0 _ T6.heap _
        rw [e6]
        refine ⟨?_, N0, rfl⟩
        simp [own_or, hc4, hc11]
    ·
      obtain ⟨T7, X7, e7, st7⟩ := getS2 X4 hx hZ hown (host := "") (Or.inl (hw _ (List.mem_of_getElem? (i := 33) rfl))) Via.refl e4 S_UNKNOWN (g := (mkF m 19 #[.val (.ref r0), .val (.ref r1)] [(.ref r0)])) rfl (hb hby d_prog_37_method_6_code_19)
      have K8 : ∀ t, Steps p.tables e below (T7.setTop (mkF m 22 #[.val (.ref r0), .val (.ref r1)] [(.ref w_UNKNOWN), (.ref r0)])) t → Steps p.tables e below (s₁.setTop (entryFrame m #[(.ref r0), (.ref r1)] 2)) t := by
        intro t kt
        refine K5 t ?_
        show Steps p.tables e below (T4.setTop (mkF m 11 #[.val (.ref r0), .val (.ref r1)] [(.ref w_TRUE), (.ref r1)])) _
        refine Jvm.RoadKit.acmp (g := (mkF m 11 #[.val (.ref r0), .val (.ref r1)] [(.ref w_TRUE), (.ref r1)])) X4 hx rfl rfl rfl (pc0 := 11) (pc' := 18) (same := false) rfl (hb hby d_prog_37_method_6_code_11) rfl (decide_eq_false fun q => hc11 (Value.ref.inj q)) (by decide) (by decide) ?_
        show Steps p.tables e below (T4.setTop (mkF m 18 #[.val (.ref r0), .val (.ref r1)] [])) _
        refine XS.aloadN X4.here hx rfl (hb hby d_prog_37_method_6_code_18) rfl rfl ?_
        show Steps p.tables e below (T4.setTop (mkF m 19 #[.val (.ref r0), .val (.ref r1)] [(.ref r0)])) _
        refine st7 _ ?_
        exact kt
      by_cases hc22 : r0 = w_UNKNOWN
      ·
        obtain ⟨T9, X9, e9, st9⟩ := getS2 X7 hx hZ hown (host := "") (Or.inl (hw _ (List.mem_of_getElem? (i := 33) rfl))) Via.refl e7 S_UNKNOWN (g := (mkF m 32 #[.val (.ref r0), .val (.ref r1)] [])) rfl (hb hby d_prog_37_method_6_code_32)
        obtain ⟨fs, hr, hrun, hended, hW, hsame⟩ := X9.leave (v := some (.ref w_UNKNOWN)) (fun h => by rw [Bd.returns] at h; cases h) hlk
        refine ⟨_, _, K8 _ ?_, hrun, hended, _, _, rfl, ?_, ⟨_, rfl⟩, hW, hsame.mono (by decide) (by decide)⟩
        ·
          show Steps p.tables e below (T7.setTop (mkF m 22 #[.val (.ref r0), .val (.ref r1)] [(.ref w_UNKNOWN), (.ref r0)])) _
          refine Jvm.RoadKit.acmp (g := (mkF m 22 #[.val (.ref r0), .val (.ref r1)] [(.ref w_UNKNOWN), (.ref r0)])) X7 hx rfl rfl rfl (pc0 := 22) (pc' := 32) (same := true) rfl (hb hby d_prog_37_method_6_code_22) rfl (decide_eq_true (congrArg Value.ref hc22)) (by decide) (by decide) ?_
          show Steps p.tables e below (T7.setTop (mkF m 32 #[.val (.ref r0), .val (.ref r1)] [])) _
          refine st9 _ ?_
          show Steps p.tables e below (T9.setTop (mkF m 35 #[.val (.ref r0), .val (.ref r1)] [(.ref w_UNKNOWN)])) _
          refine XS.goto X9.here hx rfl (pc0 := 35) (pc' := 41) rfl (hb hby d_prog_37_method_6_code_35) (by decide) (by decide) ?_
          show Steps p.tables e below (T9.setTop (mkF m 41 #[.val (.ref r0), .val (.ref r1)] [(.ref w_UNKNOWN)])) _
          exact retOut X9 hx Bd.returns rfl (Or.inr (Or.inr (Or.inr (Or.inr ⟨rfl, rfl, rfl⟩)))) (hb hby d_prog_37_method_6_code_41) hr
        ·
          show Q_rm3 Z r0 r1 w_FALSE w_UNKNOWN w_TRUE h0 n0 _ T9.heap _
          rw [e9]
          refine ⟨?_, N0, rfl⟩
          simp [own_or, hc4, hc11, hc22]
      ·
        obtain ⟨T10, X10, e10, st10⟩ := getS2 X7 hx hZ hown (host := "") (Or.inl (hw _ (List.mem_of_getElem? (i := 33) rfl))) Via.refl e7 S_UNKNOWN (g := (mkF m 26 #[.val (.ref r0), .val (.ref r1)] [(.ref r1)])) rfl (hb hby d_prog_37_method_6_code_26)
        have K11 : ∀ t, Steps p.tables e below (T10.setTop (mkF m 29 #[.val (.ref r0), .val (.ref r1)] [(.ref w_UNKNOWN), (.ref r1)])) t → Steps p.tables e below (s₁.setTop (entryFrame m #[(.ref r0), (.ref r1)] 2)) t := by
          intro t kt
          refine K8 t ?_
          show Steps p.tables e below (T7.setTop (mkF m 22 #[.val (.ref r0), .val (.ref r1)] [(.ref w_UNKNOWN), (.ref r0)])) _
          refine Jvm.RoadKit.acmp (g := (mkF m 22 #[.val (.ref r0), .val (.ref r1)] [(.ref w_UNKNOWN), (.ref r0)])) X7 hx rfl rfl rfl (pc0 := 22) (pc' := 25) (same := false) rfl (hb hby d_prog_37_method_6_code_22) rfl (decide_eq_false fun q => hc22 (Value.ref.inj q)) (by decide) (by decide) ?_
          show Steps p.tables e below (T7.setTop (mkF m 25 #[.val (.ref r0), .val (.ref r1)] [])) _
          refine XS.aloadN X7.here hx rfl (hb hby d_prog_37_method_6_code_25) rfl rfl ?_
          show Steps p.tables e below (T7.setTop (mkF m 26 #[.val (.ref r0), .val (.ref r1)] [(.ref r1)])) _
          refine st10 _ ?_
          exact kt
        by_cases hc29 : r1 = w_UNKNOWN
        ·
          obtain ⟨T12, X12, e12, st12⟩ := getS2 X10 hx hZ hown (host := "") (Or.inl (hw _ (List.mem_of_getElem? (i := 33) rfl))) Via.refl e10 S_UNKNOWN (g := (mkF m 32 #[.val (.ref r0), .val (.ref r1)] [])) rfl (hb hby d_prog_37_method_6_code_32)
          obtain ⟨fs, hr, hrun, hended, hW, hsame⟩ := X12.leave (v := some (.ref w_UNKNOWN)) (fun h => by rw [Bd.returns] at h; cases h) hlk
          refine ⟨_, _, K11 _ ?_, hrun, hended, _, _, rfl, ?_, ⟨_, rfl⟩, hW, hsame.mono (by decide) (by decide)⟩
          ·
            show Steps p.tables e below (T10.setTop (mkF m 29 #[.val (.ref r0), .val (.ref r1)] [(.ref w_UNKNOWN), (.ref r1)])) _
            refine Jvm.RoadKit.acmp (g := (mkF m 29 #[.val (.ref r0), .val (.ref r1)] [(.ref w_UNKNOWN), (.ref r1)])) X10 hx rfl rfl rfl (pc0 := 29) (pc' := 32) (same := true) rfl (hb hby d_prog_37_method_6_code_29) rfl (decide_eq_true (congrArg Value.ref hc29)) (by decide) (by decide) ?_
            show Steps p.tables e below (T10.setTop (mkF m 32 #[.val (.ref r0), .val (.ref r1)] [])) _
            refine st12 _ ?_
            show Steps p.tables e below (T12.setTop (mkF m 35 #[.val (.ref r0), .val (.ref r1)] [(.ref w_UNKNOWN)])) _
            refine XS.goto X12.here hx rfl (pc0 := 35) (pc' := 41) rfl (hb hby d_prog_37_method_6_code_35) (by decide) (by decide) ?_
            show Steps p.tables e below (T12.setTop (mkF m 41 #[.val (.ref r0), .val (.ref r1)] [(.ref w_UNKNOWN)])) _
            exact retOut X12 hx Bd.returns rfl (Or.inr (Or.inr (Or.inr (Or.inr ⟨rfl, rfl, rfl⟩)))) (hb hby d_prog_37_method_6_code_41) hr
          ·
            show Q_rm3 Z r0 r1 w_FALSE w_UNKNOWN w_TRUE h0 n0 _ T12.heap _
            rw [e12]
            refine ⟨?_, N0, rfl⟩
            simp [own_or, hc4, hc11, hc22, hc29]
        ·
          obtain ⟨T13, X13, e13, st13⟩ := getS2 X10 hx hZ hown (host := "") (Or.inl (hw _ (List.mem_of_getElem? (i := 4) rfl))) Via.refl e10 S_FALSE (g := (mkF m 38 #[.val (.ref r0), .val (.ref r1)] [])) rfl (hb hby d_prog_37_method_6_code_38)
          obtain ⟨fs, hr, hrun, hended, hW, hsame⟩ := X13.leave (v := some (.ref w_FALSE)) (fun h => by rw [Bd.returns] at h; cases h) hlk
          refine ⟨_, _, K11 _ ?_, hrun, hended, _, _, rfl, ?_, ⟨_, rfl⟩, hW, hsame.mono (by decide) (by decide)⟩
          ·
            show Steps p.tables e below (T10.setTop (mkF m 29 #[.val (.ref r0), .val (.ref r1)] [(.ref w_UNKNOWN), (.ref r1)])) _
            refine Jvm.RoadKit.acmp (g := (mkF m 29 #[.val (.ref r0), .val (.ref r1)] [(.ref w_UNKNOWN), (.ref r1)])) X10 hx rfl rfl rfl (pc0 := 29) (pc' := 38) (same := false) rfl (hb hby d_prog_37_method_6_code_29) rfl (decide_eq_false fun q => hc29 (Value.ref.inj q)) (by decide) (by decide) ?_
            show Steps p.tables e below (T10.setTop (mkF m 38 #[.val (.ref r0), .val (.ref r1)] [])) _
            refine st13 _ ?_
            show Steps p.tables e below (T13.setTop (mkF m 41 #[.val (.ref r0), .val (.ref r1)] [(.ref w_FALSE)])) _
            exact retOut X13 hx Bd.returns rfl (Or.inr (Or.inr (Or.inr (Or.inr ⟨rfl, rfl, rfl⟩)))) (hb hby d_prog_37_method_6_code_41) hr
          ·
            show Q_rm3 Z r0 r1 w_FALSE w_UNKNOWN w_TRUE h0 n0 _ T13.heap _
            rw [e13]
            refine ⟨?_, N0, rfl⟩
            simp [own_or, hc4, hc11, hc22, hc29]
theorem d_jdk_37_method_2_code_0 : decode jdk_37_method_2_code 0 = .ok (.aload_n 0, 1) := by decide +kernel
theorem d_jdk_37_method_2_code_1 : decode jdk_37_method_2_code 1 = .ok (.getfield 7, 3) := by decide +kernel
theorem d_jdk_37_method_2_code_4 : decode jdk_37_method_2_code 4 = .ok (.ireturn, 1) := by decide +kernel
theorem pn_1 : plainName "java/lang/Enum" = true := by first | (simp [plainName, overriddenIn]; done) | decide +kernel
theorem ef_rm5 (m : MethodId) (x0 : Addr) : entryFrame m #[(.ref x0)] 1 = mkF m 0 #[.val (.ref x0)] [] := by first | (simp [entryFrame, mkF, argsToLocals, Value.category]; done) | rfl
def Q_rm5 (Z : State) (r0 : Addr) (k : Int32) (h0 : Heap) (n0 : Nat) (v : Option Value) (h : Heap) (L : List Loc) : Prop := v = some (.int k) ∧ Fr n0 L ∧ h = h0
set_option maxRecDepth 65536 in
set_option maxHeartbeats 40000000 in
theorem rm5 (l : Launch) (Z : State) (a0 : Array Value) (hw : ∀ d ∈ tables_1, d.before a0 Z = true) (ws : List Jvm.Cond) (r0 : Addr) (k : Int32) (h0 : Heap) (n0 : Nat) (Z0 : n0 ≤ h0.size) (F_ordinal_r0 : Fld Z h0 r0 "java/lang/Enum" "ordinal" "I" (.int k)) :
    MetFree l (⟨"java/lang/Enum", "ordinal", "()I"⟩ : MethodName) (head1 (Jvm.Cond.code (⟨"java/lang/Enum", "ordinal", "()I"⟩ : MethodName) jdk_37_method_2_code 1 (some .int) :: ws) ({ frames := 0, cells := 0, slots := 0, locals := 0 } : Room)) (fun a U => a = #[(.ref r0)] ∧ Z.Warmed39 U.vm ∧ U.heap = h0) (fun _ _ _ _ _ => True) (fun _ U o U' => ∃ v L, o = .returned v ∧ Q_rm5 Z r0 k h0 n0 v U'.heap L ∧ FrameEnd U o U' L ({ frames := 0, cells := 0, slots := 0, locals := 0 } : Room).cells ({ frames := 0, cells := 0, slots := 0, locals := 0 } : Room).slots) := by
  refine MetFree.of_bodySF (plainFor_of_name pn_1) hisR ?_
  intro p e s m args below meth c s₁ Bd hml0 hP hK
  obtain ⟨rfl, hZ, hh⟩ := hP
  have hx := Bd.exec
  have hby := Bd.bytes
  have hml : c.maxLocals = 1 := hml0
  have hown : s.vm.findClass "java/lang/Enum" = some m.cls := findClass_of_methodNamed Bd.named
  have hnm := (name_of_methodNamed Bd.named Bd.method).1
  have hlk : meth.locks = false := by first | exact BodyLoose.notSynchronized (by assumption) | exact Body.notSynchronized (by assumption) | assumption
  have X0 : Stand p l e ({ frames := 0, cells := 0, slots := 0, locals := 0 } : Room) s m #[(.ref r0)] below meth c s₁ [] 0 0 := Stand.of_body Bd
  have e0 : s₁.heap = h0 := by rw [← hh, Bd.state]; rfl
  have N0 := Fr.nil n0
  have Zn := Z0
  have K0 : ∀ t, Steps p.tables e below (s₁.setTop (mkF m 0 #[.val (.ref r0)] [])) t → Steps p.tables e below (s₁.setTop (entryFrame m #[(.ref r0)] 1)) t := fun t k => castTop (ef_rm5 m r0) k
  obtain ⟨T1, X1, e1, st1⟩ := getF X0 hx hZ hown (host := "") (Or.inl (hw _ (List.mem_of_getElem? (i := 31) rfl))) Via.refl e0 F_ordinal_r0 (g := (mkF m 1 #[.val (.ref r0)] [(.ref r0)])) rfl rfl (hb hby d_jdk_37_method_2_code_1)
  obtain ⟨fs, hr, hrun, hended, hW, hsame⟩ := X1.leave (v := some (.int k)) (fun h => by rw [Bd.returns] at h; cases h) hlk
  refine ⟨_, _, K0 _ ?_, hrun, hended, _, _, rfl, ?_, ⟨_, rfl⟩, hW, hsame.mono (by decide) (by decide)⟩
  ·
    show Steps p.tables e below (s₁.setTop (mkF m 0 #[.val (.ref r0)] [])) _
    refine XS.aloadN X0.here hx rfl (hb hby d_jdk_37_method_2_code_0) rfl rfl ?_
    show Steps p.tables e below (s₁.setTop (mkF m 1 #[.val (.ref r0)] [(.ref r0)])) _
    refine st1 _ ?_
    show Steps p.tables e below (T1.setTop (mkF m 4 #[.val (.ref r0)] [(.int k)])) _
    exact retI X1 hx Bd.returns (hb hby d_jdk_37_method_2_code_4) hr
  ·
    show Q_rm5 Z r0 k h0 n0 _ T1.heap _
    rw [e1]
    exact ⟨rfl, N0, rfl⟩
theorem d_prog_37_method_7_code_0 : decode prog_37_method_7_code 0 = .ok (.aload_n 0, 1) := by decide +kernel
theorem d_prog_37_method_7_code_1 : decode prog_37_method_7_code 1 = .ok (.invokevirtual 32, 3) := by decide +kernel
theorem pd_2 : parseMethodDescriptor "()I" = some ⟨[], some .int⟩ := by decide +kernel
theorem d_prog_37_method_7_code_4 : decode prog_37_method_7_code 4 = .ok (.tableswitch 28 0 2 #[38, 44, 50], 28) := by decide +kernel
theorem d_prog_37_method_7_code_42 : decode prog_37_method_7_code 42 = .ok (.getstatic 7, 3) := by decide +kernel
theorem d_prog_37_method_7_code_45 : decode prog_37_method_7_code 45 = .ok (.goto 12, 3) := by decide +kernel
theorem d_prog_37_method_7_code_57 : decode prog_37_method_7_code 57 = .ok (.areturn, 1) := by decide +kernel
theorem d_prog_37_method_7_code_48 : decode prog_37_method_7_code 48 = .ok (.getstatic 3, 3) := by decide +kernel
theorem d_prog_37_method_7_code_51 : decode prog_37_method_7_code 51 = .ok (.goto 6, 3) := by decide +kernel
theorem d_prog_37_method_7_code_54 : decode prog_37_method_7_code 54 = .ok (.getstatic 10, 3) := by decide +kernel
theorem ef_rm4 (m : MethodId) (x0 : Addr) : entryFrame m #[(.ref x0)] 1 = mkF m 0 #[.val (.ref x0)] [] := by first | (simp [entryFrame, mkF, argsToLocals, Value.category]; done) | rfl
def Q_rm4 (Z : State) (r0 : Addr) (k : Int32) (w_FALSE : Addr) (w_UNKNOWN : Addr) (w_TRUE : Addr) (h0 : Heap) (n0 : Nat) (v : Option Value) (h : Heap) (L : List Loc) : Prop := v = some (.ref (own_not k w_FALSE w_UNKNOWN w_TRUE)) ∧ Fr n0 L ∧ h = h0
set_option maxRecDepth 65536 in
set_option maxHeartbeats 40000000 in
theorem rm4 (l : Launch) (Z : State) (a0 : Array Value) (hw : ∀ d ∈ tables_1, d.before a0 Z = true) (ws : List Jvm.Cond) (r0 : Addr) (k : Int32) (w_FALSE : Addr) (w_UNKNOWN : Addr) (w_TRUE : Addr) (h0 : Heap) (n0 : Nat) (Z0 : n0 ≤ h0.size) (S_FALSE : Sta Z h0 "com/example/clearance_for_data/clearancefordata/expression/Truth" "FALSE" "Lcom/example/clearance_for_data/clearancefordata/expression/Truth;" (.ref w_FALSE)) (S_UNKNOWN : Sta Z h0 "com/example/clearance_for_data/clearancefordata/expression/Truth" "UNKNOWN" "Lcom/example/clearance_for_data/clearancefordata/expression/Truth;" (.ref w_UNKNOWN)) (S_TRUE : Sta Z h0 "com/example/clearance_for_data/clearancefordata/expression/Truth" "TRUE" "Lcom/example/clearance_for_data/clearancefordata/expression/Truth;" (.ref w_TRUE)) (E_r0 : Exa Z h0 r0 "com/example/clearance_for_data/clearancefordata/expression/Truth") (F_ordinal_r0 : Fld Z h0 r0 "java/lang/Enum" "ordinal" "I" (.int k)) (hk : ¬ (k.toInt < 0 ∨ k.toInt > 2)) :
    MetFree l (⟨"com/example/clearance_for_data/clearancefordata/expression/Truth", "not", "()Lcom/example/clearance_for_data/clearancefordata/expression/Truth;"⟩ : MethodName) (head1 (Jvm.Cond.code (⟨"com/example/clearance_for_data/clearancefordata/expression/Truth", "not", "()Lcom/example/clearance_for_data/clearancefordata/expression/Truth;"⟩ : MethodName) prog_37_method_7_code 1 (some (.object "com/example/clearance_for_data/clearancefordata/expression/Truth")) :: ws) ({ frames := 1, cells := 0, slots := 0, locals := 12 } : Room)) (fun a U => a = #[(.ref r0)] ∧ Z.Warmed39 U.vm ∧ U.heap = h0) (fun _ _ _ _ _ => True) (fun _ U o U' => ∃ v L, o = .returned v ∧ Q_rm4 Z r0 k w_FALSE w_UNKNOWN w_TRUE h0 n0 v U'.heap L ∧ FrameEnd U o U' L ({ frames := 1, cells := 0, slots := 0, locals := 12 } : Room).cells ({ frames := 1, cells := 0, slots := 0, locals := 12 } : Room).slots) := by
  refine MetFree.of_bodySF (plainFor_of_name pn_0) hisR ?_
  intro p e s m args below meth c s₁ Bd hml0 hP hK
  obtain ⟨rfl, hZ, hh⟩ := hP
  have hx := Bd.exec
  have hby := Bd.bytes
  have hml : c.maxLocals = 1 := hml0
  have hown : s.vm.findClass "com/example/clearance_for_data/clearancefordata/expression/Truth" = some m.cls := findClass_of_methodNamed Bd.named
  have hnm := (name_of_methodNamed Bd.named Bd.method).1
  have hlk : meth.locks = false := by first | exact BodyLoose.notSynchronized (by assumption) | exact Body.notSynchronized (by assumption) | assumption
  have X0 : Stand p l e ({ frames := 1, cells := 0, slots := 0, locals := 12 } : Room) s m #[(.ref r0)] below meth c s₁ [] 0 0 := Stand.of_body Bd
  have e0 : s₁.heap = h0 := by rw [← hh, Bd.state]; rfl
  have N0 := Fr.nil n0
  have Zn := Z0
  have K0 : ∀ t, Steps p.tables e below (s₁.setTop (mkF m 0 #[.val (.ref r0)] [])) t → Steps p.tables e below (s₁.setTop (entryFrame m #[(.ref r0)] 1)) t := fun t k => castTop (ef_rm4 m r0) k
  obtain ⟨cq1, kq1, q1a, q1b, q1c⟩ := isOf hZ e0 E_r0
  obtain ⟨_, _, ⟨T1, L1, k1, n1⟩, -, X1, ⟨Lc1, hQ1, l1, y1, z1⟩, st1⟩ := X0.virtualBackUp hx (x := (⟨"com/example/clearance_for_data/clearancefordata/expression/Truth", "ordinal", "()I"⟩ : MethodName)) (y := (⟨"java/lang/Enum", "ordinal", "()I"⟩ : MethodName)) (owner := "java/lang/Enum") hown (mvT hZ (hw _ (List.mem_of_getElem? (i := 24) rfl))) (mvT hZ (hw _ (List.mem_of_getElem? (i := 25) rfl))) (mvT hZ (hw _ (List.mem_of_getElem? (i := 26) rfl))) (by decide) (mvT hZ (hw _ (List.mem_of_getElem? (i := 28) rfl))) (mvT hZ (hw _ (List.mem_of_getElem? (i := 27) rfl))) (backOf (W := 0) (rm5 l Z a0 hw [] r0 k h0 n0 Zn F_ordinal_r0) hZ (hw _ (List.mem_of_getElem? (i := 30) rfl)) (hw _ (List.mem_of_getElem? (i := 29) rfl)) (by decide) (by decide)) q1a q1c (g := (mkF m 1 #[.val (.ref r0)] [(.ref r0)])) rfl (by rw [hml]; rfl) (Steps.refl _) (argsL := []) (rest := []) (lenOf pd_2 rfl) rfl (by show 2 * 0 + _ ≤ _; exact Nat.le_of_eq rfl) (hb hby d_prog_37_method_7_code_1) (fun _ _ => ⟨rfl, e0, (by decide : 0 + 0 ≤ _), (by decide : 0 + 0 ≤ _)⟩)
  dsimp only [Pt.U, Pt.locs, Pt.cells, Pt.slots] at X1 l1 y1 z1 st1 hQ1
  subst l1 y1 z1
  obtain ⟨rfl, N1q, e1q⟩ := hQ1
  have N1 := Fr.app N0 N1q
  have e1 : T1.heap = h0 := e1q
  have K2 : ∀ t, Steps p.tables e below (T1.setTop (mkF m 4 #[.val (.ref r0)] [(.int k)])) t → Steps p.tables e below (s₁.setTop (entryFrame m #[(.ref r0)] 1)) t := by
    intro t kt
    refine K0 t ?_
    show Steps p.tables e below (s₁.setTop (mkF m 0 #[.val (.ref r0)] [])) _
    refine XS.aloadN X0.here hx rfl (hb hby d_prog_37_method_7_code_0) rfl rfl ?_
    show Steps p.tables e below (s₁.setTop (mkF m 1 #[.val (.ref r0)] [(.ref r0)])) _
    refine st1.trans ?_
    exact kt
  by_cases hsw : (k).toInt = 0
  ·
    obtain ⟨T3, X3, e3, st3⟩ := getS2 X1 hx hZ hown (host := "") (Or.inl (hw _ (List.mem_of_getElem? (i := 4) rfl))) Via.refl e1 S_FALSE (g := (mkF m 42 #[.val (.ref r0)] [])) rfl (hb hby d_prog_37_method_7_code_42)
    obtain ⟨fs, hr, hrun, hended, hW, hsame⟩ := X3.leave (v := some (.ref w_FALSE)) (fun h => by rw [Bd.returns] at h; cases h) hlk
    refine ⟨_, _, K2 _ ?_, hrun, hended, _, _, rfl, ?_, ⟨_, rfl⟩, hW, hsame.mono (by decide) (by decide)⟩
    ·
      show Steps p.tables e below (T1.setTop (mkF m 4 #[.val (.ref r0)] [(.int k)])) _
      refine XS.tswIn X1.here hx rfl (pc0 := 4) (pc' := 42) (o := 38) rfl (hb hby d_prog_37_method_7_code_4) rfl (by rw [hsw]; decide) (by rw [hsw]; decide) (by decide) (by decide) ?_
      show Steps p.tables e below (T1.setTop (mkF m 42 #[.val (.ref r0)] [])) _
      refine st3 _ ?_
      show Steps p.tables e below (T3.setTop (mkF m 45 #[.val (.ref r0)] [(.ref w_FALSE)])) _
      refine XS.goto X3.here hx rfl (pc0 := 45) (pc' := 57) rfl (hb hby d_prog_37_method_7_code_45) (by decide) (by decide) ?_
      show Steps p.tables e below (T3.setTop (mkF m 57 #[.val (.ref r0)] [(.ref w_FALSE)])) _
      exact retOut X3 hx Bd.returns rfl (Or.inr (Or.inr (Or.inr (Or.inr ⟨rfl, rfl, rfl⟩)))) (hb hby d_prog_37_method_7_code_57) hr
    ·
      show Q_rm4 Z r0 k w_FALSE w_UNKNOWN w_TRUE h0 n0 _ T3.heap _
      rw [e3]
      have q : k = 0 := Int32.toInt_inj.mp hsw
      refine ⟨?_, N1, rfl⟩
      rw [q]; simp +decide [own_not]
  have hsw0 := hsw
  by_cases hsw : (k).toInt = 1
  ·
    obtain ⟨T4, X4, e4, st4⟩ := getS2 X1 hx hZ hown (host := "") (Or.inl (hw _ (List.mem_of_getElem? (i := 6) rfl))) Via.refl e1 S_TRUE (g := (mkF m 48 #[.val (.ref r0)] [])) rfl (hb hby d_prog_37_method_7_code_48)
    obtain ⟨fs, hr, hrun, hended, hW, hsame⟩ := X4.leave (v := some (.ref w_TRUE)) (fun h => by rw [Bd.returns] at h; cases h) hlk
    refine ⟨_, _, K2 _ ?_, hrun, hended, _, _, rfl, ?_, ⟨_, rfl⟩, hW, hsame.mono (by decide) (by decide)⟩
    ·
      show Steps p.tables e below (T1.setTop (mkF m 4 #[.val (.ref r0)] [(.int k)])) _
      refine XS.tswIn X1.here hx rfl (pc0 := 4) (pc' := 48) (o := 44) rfl (hb hby d_prog_37_method_7_code_4) rfl (by rw [hsw]; decide) (by rw [hsw]; decide) (by decide) (by decide) ?_
      show Steps p.tables e below (T1.setTop (mkF m 48 #[.val (.ref r0)] [])) _
      refine st4 _ ?_
      show Steps p.tables e below (T4.setTop (mkF m 51 #[.val (.ref r0)] [(.ref w_TRUE)])) _
      refine XS.goto X4.here hx rfl (pc0 := 51) (pc' := 57) rfl (hb hby d_prog_37_method_7_code_51) (by decide) (by decide) ?_
      show Steps p.tables e below (T4.setTop (mkF m 57 #[.val (.ref r0)] [(.ref w_TRUE)])) _
      exact retOut X4 hx Bd.returns rfl (Or.inr (Or.inr (Or.inr (Or.inr ⟨rfl, rfl, rfl⟩)))) (hb hby d_prog_37_method_7_code_57) hr
    ·
      show Q_rm4 Z r0 k w_FALSE w_UNKNOWN w_TRUE h0 n0 _ T4.heap _
      rw [e4]
      have q : k = 1 := Int32.toInt_inj.mp hsw
      refine ⟨?_, N1, rfl⟩
      rw [q]; simp +decide [own_not]
  have hsw1 := hsw
  by_cases hsw : (k).toInt = 2
  ·
    obtain ⟨T5, X5, e5, st5⟩ := getS2 X1 hx hZ hown (host := "") (Or.inl (hw _ (List.mem_of_getElem? (i := 33) rfl))) Via.refl e1 S_UNKNOWN (g := (mkF m 54 #[.val (.ref r0)] [])) rfl (hb hby d_prog_37_method_7_code_54)
    obtain ⟨fs, hr, hrun, hended, hW, hsame⟩ := X5.leave (v := some (.ref w_UNKNOWN)) (fun h => by rw [Bd.returns] at h; cases h) hlk
    refine ⟨_, _, K2 _ ?_, hrun, hended, _, _, rfl, ?_, ⟨_, rfl⟩, hW, hsame.mono (by decide) (by decide)⟩
    ·
      show Steps p.tables e below (T1.setTop (mkF m 4 #[.val (.ref r0)] [(.int k)])) _
      refine XS.tswIn X1.here hx rfl (pc0 := 4) (pc' := 54) (o := 50) rfl (hb hby d_prog_37_method_7_code_4) rfl (by rw [hsw]; decide) (by rw [hsw]; decide) (by decide) (by decide) ?_
      show Steps p.tables e below (T1.setTop (mkF m 54 #[.val (.ref r0)] [])) _
      refine st5 _ ?_
      show Steps p.tables e below (T5.setTop (mkF m 57 #[.val (.ref r0)] [(.ref w_UNKNOWN)])) _
      exact retOut X5 hx Bd.returns rfl (Or.inr (Or.inr (Or.inr (Or.inr ⟨rfl, rfl, rfl⟩)))) (hb hby d_prog_37_method_7_code_57) hr
    ·
      show Q_rm4 Z r0 k w_FALSE w_UNKNOWN w_TRUE h0 n0 _ T5.heap _
      rw [e5]
      have q : k = 2 := Int32.toInt_inj.mp hsw
      refine ⟨?_, N1, rfl⟩
      rw [q]; simp +decide [own_not]
  have hsw2 := hsw
  replace hsw : (k).toInt < 0 ∨ (k).toInt > 2 := by omega
  exact absurd hsw hk
theorem pd_3 : parseMethodDescriptor "(Z)Lcom/example/clearance_for_data/clearancefordata/expression/Truth;" = some ⟨[.boolean], some (.object "com/example/clearance_for_data/clearancefordata/expression/Truth")⟩ := by decide +kernel
theorem pd_4 : parseMethodDescriptor "(Lcom/example/clearance_for_data/clearancefordata/expression/Truth;)Lcom/example/clearance_for_data/clearancefordata/expression/Truth;" = some ⟨[(.object "com/example/clearance_for_data/clearancefordata/expression/Truth")], some (.object "com/example/clearance_for_data/clearancefordata/expression/Truth")⟩ := by decide +kernel
theorem pd_5 : parseMethodDescriptor "()Lcom/example/clearance_for_data/clearancefordata/expression/Truth;" = some ⟨[], some (.object "com/example/clearance_for_data/clearancefordata/expression/Truth")⟩ := by decide +kernel
theorem pn_6 : plainName "com/example/clearance_for_data/clearancefordata/expression/TruthOfPinLaw" = true := by first | (simp [plainName, overriddenIn]; done) | decide +kernel
theorem ef_rm0 (m : MethodId) (x0 : Int32) (x1 : Int32) : entryFrame m #[(.int x0), (.int x1)] maxLocals = mkF m 0 #[.val (.int x0), .val (.int x1), .unset, .unset, .unset, .unset, .unset, .unset, .unset, .unset] [] := by first | (simp [entryFrame, mkF, argsToLocals, Value.category, maxLocals]; done) | rfl
def Q_rm0 (Z : State) (p0 : Int32) (p1 : Int32) (w_FALSE : Addr) (w_UNKNOWN : Addr) (w_TRUE : Addr) (h0 : Heap) (n0 : Nat) (v : Option Value) (h : Heap) (L : List Loc) : Prop := v = some (.int 1) ∧ Fr n0 L
set_option maxRecDepth 65536 in
set_option maxHeartbeats 40000000 in
theorem rm0 (l : Launch) (Z : State) (a0 : Array Value) (hw : ∀ d ∈ tables_1, d.before a0 Z = true) (ws : List Jvm.Cond) (p0 : Int32) (p1 : Int32) (w_FALSE : Addr) (w_UNKNOWN : Addr) (w_TRUE : Addr) (h0 : Heap) (n0 : Nat) (Z0 : n0 ≤ h0.size) (S_FALSE : Sta Z h0 "com/example/clearance_for_data/clearancefordata/expression/Truth" "FALSE" "Lcom/example/clearance_for_data/clearancefordata/expression/Truth;" (.ref w_FALSE)) (S_UNKNOWN : Sta Z h0 "com/example/clearance_for_data/clearancefordata/expression/Truth" "UNKNOWN" "Lcom/example/clearance_for_data/clearancefordata/expression/Truth;" (.ref w_UNKNOWN)) (S_TRUE : Sta Z h0 "com/example/clearance_for_data/clearancefordata/expression/Truth" "TRUE" "Lcom/example/clearance_for_data/clearancefordata/expression/Truth;" (.ref w_TRUE)) (E_w_FALSE : Exa Z h0 w_FALSE "com/example/clearance_for_data/clearancefordata/expression/Truth") (E_w_UNKNOWN : Exa Z h0 w_UNKNOWN "com/example/clearance_for_data/clearancefordata/expression/Truth") (E_w_TRUE : Exa Z h0 w_TRUE "com/example/clearance_for_data/clearancefordata/expression/Truth") (o_FALSE : own_ord Z w_FALSE = 1) (o_UNKNOWN : own_ord Z w_UNKNOWN = 2) (o_TRUE : own_ord Z w_TRUE = 0) (F_w_FALSE : Fld Z h0 w_FALSE "java/lang/Enum" "ordinal" "I" (.int 1)) (F_w_TRUE : Fld Z h0 w_TRUE "java/lang/Enum" "ordinal" "I" (.int 0)) :
    MetFree l x (head1 (Jvm.Cond.code x code maxLocals ret :: ws) room_1) (fun a U => a = #[(.int p0), (.int p1)] ∧ Z.Warmed39 U.vm ∧ U.heap = h0) (fun _ _ _ _ _ => True) (fun _ U o U' => ∃ v L, o = .returned v ∧ Q_rm0 Z p0 p1 w_FALSE w_UNKNOWN w_TRUE h0 n0 v U'.heap L ∧ FrameEnd U o U' L room_1.cells room_1.slots) := by
  refine MetFree.of_bodySF (plainFor_of_name pn_6) hisR ?_
  intro p e s m args below meth c s₁ Bd hml0 hP hK
  obtain ⟨rfl, hZ, hh⟩ := hP
  have hx := Bd.exec
  have hby := Bd.bytes
  have hml : c.maxLocals = 10 := hml0
  have hown : s.vm.findClass "com/example/clearance_for_data/clearancefordata/expression/TruthOfPinLaw" = some m.cls := findClass_of_methodNamed Bd.named
  have hnm := (name_of_methodNamed Bd.named Bd.method).1
  have hlk : meth.locks = false := by first | exact BodyLoose.notSynchronized (by assumption) | exact Body.notSynchronized (by assumption) | assumption
  have X0 : Stand p l e room_1 s m #[(.int p0), (.int p1)] below meth c s₁ [] 0 0 := Stand.of_body Bd
  have e0 : s₁.heap = h0 := by rw [← hh, Bd.state]; rfl
  have N0 := Fr.nil n0
  have Zn := Z0
  have K0 : ∀ t, Steps p.tables e below (s₁.setTop (mkF m 0 #[.val (.int p0), .val (.int p1), .unset, .unset, .unset, .unset, .unset, .unset, .unset, .unset] [])) t → Steps p.tables e below (s₁.setTop (entryFrame m #[(.int p0), (.int p1)] maxLocals)) t := fun t k => castTop (ef_rm0 m p0 p1) k
  have K1 : ∀ t, Steps p.tables e below (s₁.setTop (mkF m 3 #[.val (.int p0), .val (.int p1), .unset, .unset, .unset, .unset, .unset, .unset, .unset, .unset] [(.int (p0 &&& (1 : Int32)))])) t → Steps p.tables e below (s₁.setTop (entryFrame m #[(.int p0), (.int p1)] maxLocals)) t := by
    intro t kt
    refine K0 t ?_
    show Steps p.tables e below (s₁.setTop (mkF m 0 #[.val (.int p0), .val (.int p1), .unset, .unset, .unset, .unset, .unset, .unset, .unset, .unset] [])) _
    refine XS.iloadN X0.here hx rfl (hb hby at_0) rfl ?_
    show Steps p.tables e below (s₁.setTop (mkF m 1 #[.val (.int p0), .val (.int p1), .unset, .unset, .unset, .unset, .unset, .unset, .unset, .unset] [(.int p0)])) _
    refine XS.iconst X0.here hx rfl (hb hby at_1) ?_
    show Steps p.tables e below (s₁.setTop (mkF m 2 #[.val (.int p0), .val (.int p1), .unset, .unset, .unset, .unset, .unset, .unset, .unset, .unset] [(.int (1 : Int32)), (.int p0)])) _
    refine XS.iand X0.here hx rfl (hb hby at_2) rfl ?_
    exact kt
  by_cases hc3 : (p0 &&& (1 : Int32)) = (0 : Int32)
  ·
    have K2 : ∀ t, Steps p.tables e below (s₁.setTop (mkF m 15 #[.val (.int p0), .val (.int p1), .val (.int (0 : Int32)), .unset, .unset, .unset, .unset, .unset, .unset, .unset] [(.int (p1 &&& (1 : Int32)))])) t → Steps p.tables e below (s₁.setTop (entryFrame m #[(.int p0), (.int p1)] maxLocals)) t := by
      intro t kt
      refine K1 t ?_
      show Steps p.tables e below (s₁.setTop (mkF m 3 #[.val (.int p0), .val (.int p1), .unset, .unset, .unset, .unset, .unset, .unset, .unset, .unset] [(.int (p0 &&& (1 : Int32)))])) _
      refine XS.ifYes X0.here hx rfl (pc0 := 3) (pc' := 10) rfl (hb hby at_3) rfl ((if0 _ _).trans (teq hc3).1) (by decide) (by decide) ?_
      show Steps p.tables e below (s₁.setTop (mkF m 10 #[.val (.int p0), .val (.int p1), .unset, .unset, .unset, .unset, .unset, .unset, .unset, .unset] [])) _
      refine XS.iconst X0.here hx rfl (hb hby at_10) ?_
      show Steps p.tables e below (s₁.setTop (mkF m 11 #[.val (.int p0), .val (.int p1), .unset, .unset, .unset, .unset, .unset, .unset, .unset, .unset] [(.int (0 : Int32))])) _
      refine XS.istoreN X0.here hx rfl (hb hby at_11) rfl (l' := #[.val (.int p0), .val (.int p1), .val (.int (0 : Int32)), .unset, .unset, .unset, .unset, .unset, .unset, .unset]) rfl ?_
      show Steps p.tables e below (s₁.setTop (mkF m 12 #[.val (.int p0), .val (.int p1), .val (.int (0 : Int32)), .unset, .unset, .unset, .unset, .unset, .unset, .unset] [])) _
      refine XS.iloadN X0.here hx rfl (hb hby at_12) rfl ?_
      show Steps p.tables e below (s₁.setTop (mkF m 13 #[.val (.int p0), .val (.int p1), .val (.int (0 : Int32)), .unset, .unset, .unset, .unset, .unset, .unset, .unset] [(.int p1)])) _
      refine XS.iconst X0.here hx rfl (hb hby at_13) ?_
      show Steps p.tables e below (s₁.setTop (mkF m 14 #[.val (.int p0), .val (.int p1), .val (.int (0 : Int32)), .unset, .unset, .unset, .unset, .unset, .unset, .unset] [(.int (1 : Int32)), (.int p1)])) _
      refine XS.iand X0.here hx rfl (hb hby at_14) rfl ?_
      exact kt
    by_cases hc15 : (p1 &&& (1 : Int32)) = (0 : Int32)
    ·
      obtain ⟨_, _, ⟨T3, L3, k3, n3⟩, -, X3, ⟨Lc3, hQ3, l3, y3, z3⟩, st3⟩ := Jvm.LawKit.callS X0 hx (y := (⟨"com/example/clearance_for_data/clearancefordata/expression/Truth", "of", "(Z)Lcom/example/clearance_for_data/clearancefordata/expression/Truth;"⟩ : MethodName)) hown (mvT hZ (hw _ (List.mem_of_getElem? (i := 0) rfl))) (mvT hZ (hw _ (List.mem_of_getElem? (i := 1) rfl))) (mvT hZ (hw _ (List.mem_of_getElem? (i := 2) rfl))) (mvT hZ (hw _ (List.mem_of_getElem? (i := 3) rfl))) (by decide) (backOf (W := 0) (rm1 l Z a0 hw [] (0 : Int32) w_FALSE w_TRUE h0 n0 Zn S_FALSE S_TRUE) hZ (hw _ (List.mem_of_getElem? (i := 3) rfl)) (hw _ (List.mem_of_getElem? (i := 2) rfl)) (by decide) (by decide)) (g := (mkF m 25 #[.val (.int p0), .val (.int p1), .val (.int (0 : Int32)), .val (.int (0 : Int32)), .unset, .unset, .unset, .unset, .unset, .unset] [(.int (0 : Int32))])) rfl (by rw [hml]; rfl) (argsL := [(.int (0 : Int32))]) (rest := []) (lenOf pd_3 rfl) rfl (by show 2 * 0 + _ ≤ _; exact Nat.le_of_eq rfl) (hb hby at_25) (fun _ _ => ⟨rfl, e0, (by decide : 0 + 0 ≤ _), (by decide : 0 + 0 ≤ _)⟩)
      dsimp only [Pt.U, Pt.locs, Pt.cells, Pt.slots] at X3 l3 y3 z3 st3 hQ3
      subst l3 y3 z3
      obtain ⟨hv3, N3q, e3q⟩ := hQ3
      obtain rfl := hv3.trans (show some (Value.ref (own_of (0 : Int32) w_FALSE w_TRUE)) = some (.ref w_FALSE) by simp +decide [own_of])
      have N3 := Fr.app N0 N3q
      have e3 : T3.heap = h0 := e3q
      obtain ⟨_, _, ⟨T4, L4, k4, n4⟩, -, X4, ⟨Lc4, hQ4, l4, y4, z4⟩, st4⟩ := Jvm.LawKit.callS X3 hx (y := (⟨"com/example/clearance_for_data/clearancefordata/expression/Truth", "of", "(Z)Lcom/example/clearance_for_data/clearancefordata/expression/Truth;"⟩ : MethodName)) hown (mvT hZ (hw _ (List.mem_of_getElem? (i := 0) rfl))) (mvT hZ (hw _ (List.mem_of_getElem? (i := 1) rfl))) (mvT hZ (hw _ (List.mem_of_getElem? (i := 2) rfl))) (mvT hZ (hw _ (List.mem_of_getElem? (i := 3) rfl))) (by decide) (backOf (W := 0) (rm1 l Z a0 hw [] (0 : Int32) w_FALSE w_TRUE h0 n0 Zn S_FALSE S_TRUE) hZ (hw _ (List.mem_of_getElem? (i := 3) rfl)) (hw _ (List.mem_of_getElem? (i := 2) rfl)) (by decide) (by decide)) (g := (mkF m 31 #[.val (.int p0), .val (.int p1), .val (.int (0 : Int32)), .val (.int (0 : Int32)), .val (.ref w_FALSE), .unset, .unset, .unset, .unset, .unset] [(.int (0 : Int32))])) rfl (by rw [hml]; rfl) (argsL := [(.int (0 : Int32))]) (rest := []) (lenOf pd_3 rfl) rfl (by show 2 * 0 + _ ≤ _; exact Nat.le_of_eq rfl) (hb hby at_31) (fun _ _ => ⟨rfl, e3, (by decide : 0 + 0 ≤ _), (by decide : 0 + 0 ≤ _)⟩)
      dsimp only [Pt.U, Pt.locs, Pt.cells, Pt.slots] at X4 l4 y4 z4 st4 hQ4
      subst l4 y4 z4
      obtain ⟨hv4, N4q, e4q⟩ := hQ4
      obtain rfl := hv4.trans (show some (Value.ref (own_of (0 : Int32) w_FALSE w_TRUE)) = some (.ref w_FALSE) by simp +decide [own_of])
      have N4 := Fr.app N3 N4q
      have e4 : T4.heap = h0 := e4q
      have hc37 : (0 : Int32) = (0 : Int32) := (by decide)
      obtain ⟨T5, X5, e5, st5⟩ := getS2 X4 hx hZ hown (host := "") (Or.inl (hw _ (List.mem_of_getElem? (i := 8) rfl))) Via.refl e4 S_FALSE (g := (mkF m 58 #[.val (.int p0), .val (.int p1), .val (.int (0 : Int32)), .val (.int (0 : Int32)), .val (.ref w_FALSE), .val (.ref w_FALSE), .unset, .unset, .unset, .unset] [(.ref w_FALSE)])) rfl (hb hby at_58)
      obtain ⟨cq6, kq6, q6a, q6b, q6c⟩ := isOf hZ e5 E_w_FALSE
      obtain ⟨_, _, ⟨T6, L6, k6, n6⟩, -, X6, ⟨Lc6, hQ6, l6, y6, z6⟩, st6⟩ := X5.virtualBack hx (y := (⟨"com/example/clearance_for_data/clearancefordata/expression/Truth", "and", "(Lcom/example/clearance_for_data/clearancefordata/expression/Truth;)Lcom/example/clearance_for_data/clearancefordata/expression/Truth;"⟩ : MethodName)) (z := (⟨"com/example/clearance_for_data/clearancefordata/expression/Truth", "and", "(Lcom/example/clearance_for_data/clearancefordata/expression/Truth;)Lcom/example/clearance_for_data/clearancefordata/expression/Truth;"⟩ : MethodName)) hown (mvT hZ (hw _ (List.mem_of_getElem? (i := 9) rfl))) (mvT hZ (hw _ (List.mem_of_getElem? (i := 10) rfl))) (notFace_of_selects (args := #[]) (mvT hZ (hw _ (List.mem_of_getElem? (i := 12) rfl)))) (mvT hZ (hw _ (List.mem_of_getElem? (i := 12) rfl))) (mvT hZ (hw _ (List.mem_of_getElem? (i := 11) rfl))) (by decide) (backOf (W := 0) (rm2 l Z a0 hw [] w_FALSE w_FALSE w_FALSE w_UNKNOWN w_TRUE h0 n0 Zn S_FALSE S_UNKNOWN S_TRUE) hZ (hw _ (List.mem_of_getElem? (i := 13) rfl)) (hw _ (List.mem_of_getElem? (i := 2) rfl)) (by decide) (by decide)) q6a q6c (g := (mkF m 75 #[.val (.int p0), .val (.int p1), .val (.int (0 : Int32)), .val (.int (0 : Int32)), .val (.ref w_FALSE), .val (.ref w_FALSE), .val (.int (1 : Int32)), .unset, .unset, .unset] [(.ref w_FALSE), (.ref w_FALSE)])) rfl (by rw [hml]; rfl) (Steps.refl _) (argsL := [(.ref w_FALSE)]) (rest := []) (lenOf pd_4 rfl) rfl (by show 2 * 0 + _ ≤ _; exact Nat.le_of_eq rfl) (hb hby at_75) (fun _ _ => ⟨rfl, e5, (by decide : 0 + 0 ≤ _), (by decide : 0 + 0 ≤ _)⟩)
      dsimp only [Pt.U, Pt.locs, Pt.cells, Pt.slots] at X6 l6 y6 z6 st6 hQ6
      subst l6 y6 z6
      obtain ⟨hv6, N6q, e6q⟩ := hQ6
      obtain rfl := hv6.trans (show some (Value.ref (own_and w_FALSE w_FALSE w_FALSE w_UNKNOWN w_TRUE)) = some (.ref w_FALSE) by simp +decide [own_and, (own_dis o_FALSE o_UNKNOWN (by decide)), (own_dis o_FALSE o_TRUE (by decide)), (own_dis o_UNKNOWN o_FALSE (by decide)), (own_dis o_UNKNOWN o_TRUE (by decide)), (own_dis o_TRUE o_FALSE (by decide)), (own_dis o_TRUE o_UNKNOWN (by decide))])
      have N6 := Fr.app N4 N6q
      have e6 : T6.heap = h0 := e6q
      have hc79 : (0 : Int32) = (0 : Int32) := (by decide)
      obtain ⟨_, _, ⟨T7, L7, k7, n7⟩, -, X7, ⟨Lc7, hQ7, l7, y7, z7⟩, st7⟩ := Jvm.LawKit.callS X6 hx (y := (⟨"com/example/clearance_for_data/clearancefordata/expression/Truth", "of", "(Z)Lcom/example/clearance_for_data/clearancefordata/expression/Truth;"⟩ : MethodName)) hown (mvT hZ (hw _ (List.mem_of_getElem? (i := 0) rfl))) (mvT hZ (hw _ (List.mem_of_getElem? (i := 1) rfl))) (mvT hZ (hw _ (List.mem_of_getElem? (i := 2) rfl))) (mvT hZ (hw _ (List.mem_of_getElem? (i := 3) rfl))) (by decide) (backOf (W := 1) (rm1 l Z a0 hw [] (0 : Int32) w_FALSE w_TRUE h0 n0 Zn S_FALSE S_TRUE) hZ (hw _ (List.mem_of_getElem? (i := 3) rfl)) (hw _ (List.mem_of_getElem? (i := 2) rfl)) (by decide) (by decide)) (g := (mkF m 91 #[.val (.int p0), .val (.int p1), .val (.int (0 : Int32)), .val (.int (0 : Int32)), .val (.ref w_FALSE), .val (.ref w_FALSE), .val (.int (1 : Int32)), .unset, .unset, .unset] [(.int (0 : Int32)), (.ref w_FALSE)])) rfl (by rw [hml]; rfl) (argsL := [(.int (0 : Int32))]) (rest := [(.ref w_FALSE)]) (lenOf pd_3 rfl) rfl (by show 2 * 0 + _ ≤ _; exact Nat.le_of_eq rfl) (hb hby at_91) (fun _ _ => ⟨rfl, e6, (by decide : 0 + 0 ≤ _), (by decide : 0 + 0 ≤ _)⟩)
      dsimp only [Pt.U, Pt.locs, Pt.cells, Pt.slots] at X7 l7 y7 z7 st7 hQ7
      subst l7 y7 z7
      obtain ⟨hv7, N7q, e7q⟩ := hQ7
      obtain rfl := hv7.trans (show some (Value.ref (own_of (0 : Int32) w_FALSE w_TRUE)) = some (.ref w_FALSE) by simp +decide [own_of])
      have N7 := Fr.app N6 N7q
      have e7 : T7.heap = h0 := e7q
      obtain ⟨cq8, kq8, q8a, q8b, q8c⟩ := isOf hZ e7 E_w_FALSE
      obtain ⟨_, _, ⟨T8, L8, k8, n8⟩, -, X8, ⟨Lc8, hQ8, l8, y8, z8⟩, st8⟩ := X7.virtualBack hx (y := (⟨"com/example/clearance_for_data/clearancefordata/expression/Truth", "or", "(Lcom/example/clearance_for_data/clearancefordata/expression/Truth;)Lcom/example/clearance_for_data/clearancefordata/expression/Truth;"⟩ : MethodName)) (z := (⟨"com/example/clearance_for_data/clearancefordata/expression/Truth", "or", "(Lcom/example/clearance_for_data/clearancefordata/expression/Truth;)Lcom/example/clearance_for_data/clearancefordata/expression/Truth;"⟩ : MethodName)) hown (mvT hZ (hw _ (List.mem_of_getElem? (i := 14) rfl))) (mvT hZ (hw _ (List.mem_of_getElem? (i := 15) rfl))) (notFace_of_selects (args := #[]) (mvT hZ (hw _ (List.mem_of_getElem? (i := 17) rfl)))) (mvT hZ (hw _ (List.mem_of_getElem? (i := 17) rfl))) (mvT hZ (hw _ (List.mem_of_getElem? (i := 16) rfl))) (by decide) (backOf (W := 0) (rm3 l Z a0 hw [] w_FALSE w_FALSE w_FALSE w_UNKNOWN w_TRUE h0 n0 Zn S_FALSE S_UNKNOWN S_TRUE) hZ (hw _ (List.mem_of_getElem? (i := 18) rfl)) (hw _ (List.mem_of_getElem? (i := 2) rfl)) (by decide) (by decide)) q8a q8c (g := (mkF m 108 #[.val (.int p0), .val (.int p1), .val (.int (0 : Int32)), .val (.int (0 : Int32)), .val (.ref w_FALSE), .val (.ref w_FALSE), .val (.int (1 : Int32)), .val (.int (1 : Int32)), .unset, .unset] [(.ref w_FALSE), (.ref w_FALSE)])) rfl (by rw [hml]; rfl) (Steps.refl _) (argsL := [(.ref w_FALSE)]) (rest := []) (lenOf pd_4 rfl) rfl (by show 2 * 0 + _ ≤ _; exact Nat.le_of_eq rfl) (hb hby at_108) (fun _ _ => ⟨rfl, e7, (by decide : 0 + 0 ≤ _), (by decide : 0 + 0 ≤ _)⟩)
      dsimp only [Pt.U, Pt.locs, Pt.cells, Pt.slots] at X8 l8 y8 z8 st8 hQ8
      subst l8 y8 z8
      obtain ⟨hv8, N8q, e8q⟩ := hQ8
      obtain rfl := hv8.trans (show some (Value.ref (own_or w_FALSE w_FALSE w_FALSE w_UNKNOWN w_TRUE)) = some (.ref w_FALSE) by simp +decide [own_or, (own_dis o_FALSE o_UNKNOWN (by decide)), (own_dis o_FALSE o_TRUE (by decide)), (own_dis o_UNKNOWN o_FALSE (by decide)), (own_dis o_UNKNOWN o_TRUE (by decide)), (own_dis o_TRUE o_FALSE (by decide)), (own_dis o_TRUE o_UNKNOWN (by decide))])
      have N8 := Fr.app N7 N8q
      have e8 : T8.heap = h0 := e8q
      have hc112 : (0 : Int32) = (0 : Int32) := (by decide)
      have hc116 : (0 : Int32) = (0 : Int32) := (by decide)
      obtain ⟨_, _, ⟨T9, L9, k9, n9⟩, -, X9, ⟨Lc9, hQ9, l9, y9, z9⟩, st9⟩ := Jvm.LawKit.callS X8 hx (y := (⟨"com/example/clearance_for_data/clearancefordata/expression/Truth", "of", "(Z)Lcom/example/clearance_for_data/clearancefordata/expression/Truth;"⟩ : MethodName)) hown (mvT hZ (hw _ (List.mem_of_getElem? (i := 0) rfl))) (mvT hZ (hw _ (List.mem_of_getElem? (i := 1) rfl))) (mvT hZ (hw _ (List.mem_of_getElem? (i := 2) rfl))) (mvT hZ (hw _ (List.mem_of_getElem? (i := 3) rfl))) (by decide) (backOf (W := 1) (rm1 l Z a0 hw [] (0 : Int32) w_FALSE w_TRUE h0 n0 Zn S_FALSE S_TRUE) hZ (hw _ (List.mem_of_getElem? (i := 3) rfl)) (hw _ (List.mem_of_getElem? (i := 2) rfl)) (by decide) (by decide)) (g := (mkF m 124 #[.val (.int p0), .val (.int p1), .val (.int (0 : Int32)), .val (.int (0 : Int32)), .val (.ref w_FALSE), .val (.ref w_FALSE), .val (.int (1 : Int32)), .val (.int (1 : Int32)), .unset, .unset] [(.int (0 : Int32)), (.ref w_FALSE)])) rfl (by rw [hml]; rfl) (argsL := [(.int (0 : Int32))]) (rest := [(.ref w_FALSE)]) (lenOf pd_3 rfl) rfl (by show 2 * 0 + _ ≤ _; exact Nat.le_of_eq rfl) (hb hby at_124) (fun _ _ => ⟨rfl, e8, (by decide : 0 + 0 ≤ _), (by decide : 0 + 0 ≤ _)⟩)
      dsimp only [Pt.U, Pt.locs, Pt.cells, Pt.slots] at X9 l9 y9 z9 st9 hQ9
      subst l9 y9 z9
      obtain ⟨hv9, N9q, e9q⟩ := hQ9
      obtain rfl := hv9.trans (show some (Value.ref (own_of (0 : Int32) w_FALSE w_TRUE)) = some (.ref w_FALSE) by simp +decide [own_of])
      have N9 := Fr.app N8 N9q
      have e9 : T9.heap = h0 := e9q
      obtain ⟨cq10, kq10, q10a, q10b, q10c⟩ := isOf hZ e9 E_w_FALSE
      obtain ⟨_, _, ⟨T10, L10, k10, n10⟩, -, X10, ⟨Lc10, hQ10, l10, y10, z10⟩, st10⟩ := X9.virtualBack hx (y := (⟨"com/example/clearance_for_data/clearancefordata/expression/Truth", "not", "()Lcom/example/clearance_for_data/clearancefordata/expression/Truth;"⟩ : MethodName)) (z := (⟨"com/example/clearance_for_data/clearancefordata/expression/Truth", "not", "()Lcom/example/clearance_for_data/clearancefordata/expression/Truth;"⟩ : MethodName)) hown (mvT hZ (hw _ (List.mem_of_getElem? (i := 19) rfl))) (mvT hZ (hw _ (List.mem_of_getElem? (i := 20) rfl))) (notFace_of_selects (args := #[]) (mvT hZ (hw _ (List.mem_of_getElem? (i := 22) rfl)))) (mvT hZ (hw _ (List.mem_of_getElem? (i := 22) rfl))) (mvT hZ (hw _ (List.mem_of_getElem? (i := 21) rfl))) (by decide) (backOf (W := 0) (rm4 l Z a0 hw [] w_FALSE 1 w_FALSE w_UNKNOWN w_TRUE h0 n0 Zn S_FALSE S_UNKNOWN S_TRUE E_w_FALSE F_w_FALSE (by decide)) hZ (hw _ (List.mem_of_getElem? (i := 23) rfl)) (hw _ (List.mem_of_getElem? (i := 2) rfl)) (by decide) (by decide)) q10a q10c (g := (mkF m 139 #[.val (.int p0), .val (.int p1), .val (.int (0 : Int32)), .val (.int (0 : Int32)), .val (.ref w_FALSE), .val (.ref w_FALSE), .val (.int (1 : Int32)), .val (.int (1 : Int32)), .val (.int (1 : Int32)), .unset] [(.ref w_FALSE)])) rfl (by rw [hml]; rfl) (Steps.refl _) (argsL := []) (rest := []) (lenOf pd_5 rfl) rfl (by show 2 * 0 + _ ≤ _; exact Nat.le_of_eq rfl) (hb hby at_139) (fun _ _ => ⟨rfl, e9, (by decide : 0 + 0 ≤ _), (by decide : 0 + 0 ≤ _)⟩)
      dsimp only [Pt.U, Pt.locs, Pt.cells, Pt.slots] at X10 l10 y10 z10 st10 hQ10
      subst l10 y10 z10
      obtain ⟨hv10, N10q, e10q⟩ := hQ10
      obtain rfl := hv10.trans (show some (Value.ref (own_not 1 w_FALSE w_UNKNOWN w_TRUE)) = some (.ref w_TRUE) by simp +decide [own_not])
      have N10 := Fr.app N9 N10q
      have e10 : T10.heap = h0 := e10q
      have hc143 : (0 : Int32) = (0 : Int32) := (by decide)
      obtain ⟨_, _, ⟨T11, L11, k11, n11⟩, -, X11, ⟨Lc11, hQ11, l11, y11, z11⟩, st11⟩ := Jvm.LawKit.callS X10 hx (y := (⟨"com/example/clearance_for_data/clearancefordata/expression/Truth", "of", "(Z)Lcom/example/clearance_for_data/clearancefordata/expression/Truth;"⟩ : MethodName)) hown (mvT hZ (hw _ (List.mem_of_getElem? (i := 0) rfl))) (mvT hZ (hw _ (List.mem_of_getElem? (i := 1) rfl))) (mvT hZ (hw _ (List.mem_of_getElem? (i := 2) rfl))) (mvT hZ (hw _ (List.mem_of_getElem? (i := 3) rfl))) (by decide) (backOf (W := 1) (rm1 l Z a0 hw [] (1 : Int32) w_FALSE w_TRUE h0 n0 Zn S_FALSE S_TRUE) hZ (hw _ (List.mem_of_getElem? (i := 3) rfl)) (hw _ (List.mem_of_getElem? (i := 2) rfl)) (by decide) (by decide)) (g := (mkF m 151 #[.val (.int p0), .val (.int p1), .val (.int (0 : Int32)), .val (.int (0 : Int32)), .val (.ref w_FALSE), .val (.ref w_FALSE), .val (.int (1 : Int32)), .val (.int (1 : Int32)), .val (.int (1 : Int32)), .unset] [(.int (1 : Int32)), (.ref w_TRUE)])) rfl (by rw [hml]; rfl) (argsL := [(.int (1 : Int32))]) (rest := [(.ref w_TRUE)]) (lenOf pd_3 rfl) rfl (by show 2 * 0 + _ ≤ _; exact Nat.le_of_eq rfl) (hb hby at_151) (fun _ _ => ⟨rfl, e10, (by decide : 0 + 0 ≤ _), (by decide : 0 + 0 ≤ _)⟩)
      dsimp only [Pt.U, Pt.locs, Pt.cells, Pt.slots] at X11 l11 y11 z11 st11 hQ11
      subst l11 y11 z11
      obtain ⟨hv11, N11q, e11q⟩ := hQ11
      obtain rfl := hv11.trans (show some (Value.ref (own_of (1 : Int32) w_FALSE w_TRUE)) = some (.ref w_TRUE) by simp +decide [own_of])
      have N11 := Fr.app N10 N11q
      have e11 : T11.heap = h0 := e11q
      have hc166 : ¬ ((1 : Int32) = (0 : Int32)) := (by decide)
      have hc171 : ¬ ((1 : Int32) = (0 : Int32)) := (by decide)
      have hc176 : ¬ ((1 : Int32) = (0 : Int32)) := (by decide)
      have hc181 : ¬ ((1 : Int32) = (0 : Int32)) := (by decide)
      obtain ⟨fs, hr, hrun, hended, hW, hsame⟩ := X11.leave (v := some (.int (1 : Int32))) (fun h => by rw [Bd.returns] at h; cases h) hlk
      refine ⟨_, _, K2 _ ?_, hrun, hended, _, _, rfl, ?_, ⟨_, rfl⟩, hW, hsame.mono (by decide) (by decide)⟩
      ·
        show Steps p.tables e below (s₁.setTop (mkF m 15 #[.val (.int p0), .val (.int p1), .val (.int (0 : Int32)), .unset, .unset, .unset, .unset, .unset, .unset, .unset] [(.int (p1 &&& (1 : Int32)))])) _
        refine XS.ifYes X0.here hx rfl (pc0 := 15) (pc' := 22) rfl (hb hby at_15) rfl ((if0 _ _).trans (teq hc15).1) (by decide) (by decide) ?_
        show Steps p.tables e below (s₁.setTop (mkF m 22 #[.val (.int p0), .val (.int p1), .val (.int (0 : Int32)), .unset, .unset, .unset, .unset, .unset, .unset, .unset] [])) _
        refine XS.iconst X0.here hx rfl (hb hby at_22) ?_
        show Steps p.tables e below (s₁.setTop (mkF m 23 #[.val (.int p0), .val (.int p1), .val (.int (0 : Int32)), .unset, .unset, .unset, .unset, .unset, .unset, .unset] [(.int (0 : Int32))])) _
        refine XS.istoreN X0.here hx rfl (hb hby at_23) rfl (l' := #[.val (.int p0), .val (.int p1), .val (.int (0 : Int32)), .val (.int (0 : Int32)), .unset, .unset, .unset, .unset, .unset, .unset]) rfl ?_
        show Steps p.tables e below (s₁.setTop (mkF m 24 #[.val (.int p0), .val (.int p1), .val (.int (0 : Int32)), .val (.int (0 : Int32)), .unset, .unset, .unset, .unset, .unset, .unset] [])) _
        refine XS.iloadN X0.here hx rfl (hb hby at_24) rfl ?_
        show Steps p.tables e below (s₁.setTop (mkF m 25 #[.val (.int p0), .val (.int p1), .val (.int (0 : Int32)), .val (.int (0 : Int32)), .unset, .unset, .unset, .unset, .unset, .unset] [(.int (0 : Int32))])) _
        refine st3 _ ?_
        show Steps p.tables e below (T3.setTop (mkF m 28 #[.val (.int p0), .val (.int p1), .val (.int (0 : Int32)), .val (.int (0 : Int32)), .unset, .unset, .unset, .unset, .unset, .unset] [(.ref w_FALSE)])) _
        refine XS.astore X3.here hx rfl (hb hby at_28) rfl rfl (l' := #[.val (.int p0), .val (.int p1), .val (.int (0 : Int32)), .val (.int (0 : Int32)), .val (.ref w_FALSE), .unset, .unset, .unset, .unset, .unset]) rfl ?_
        show Steps p.tables e below (T3.setTop (mkF m 30 #[.val (.int p0), .val (.int p1), .val (.int (0 : Int32)), .val (.int (0 : Int32)), .val (.ref w_FALSE), .unset, .unset, .unset, .unset, .unset] [])) _
        refine XS.iloadN X3.here hx rfl (hb hby at_30) rfl ?_
        show Steps p.tables e below (T3.setTop (mkF m 31 #[.val (.int p0), .val (.int p1), .val (.int (0 : Int32)), .val (.int (0 : Int32)), .val (.ref w_FALSE), .unset, .unset, .unset, .unset, .unset] [(.int (0 : Int32))])) _
        refine st4 _ ?_
        show Steps p.tables e below (T4.setTop (mkF m 34 #[.val (.int p0), .val (.int p1), .val (.int (0 : Int32)), .val (.int (0 : Int32)), .val (.ref w_FALSE), .unset, .unset, .unset, .unset, .unset] [(.ref w_FALSE)])) _
        refine XS.astore X4.here hx rfl (hb hby at_34) rfl rfl (l' := #[.val (.int p0), .val (.int p1), .val (.int (0 : Int32)), .val (.int (0 : Int32)), .val (.ref w_FALSE), .val (.ref w_FALSE), .unset, .unset, .unset, .unset]) rfl ?_
        show Steps p.tables e below (T4.setTop (mkF m 36 #[.val (.int p0), .val (.int p1), .val (.int (0 : Int32)), .val (.int (0 : Int32)), .val (.ref w_FALSE), .val (.ref w_FALSE), .unset, .unset, .unset, .unset] [])) _
        refine XS.iloadN X4.here hx rfl (hb hby at_36) rfl ?_
        show Steps p.tables e below (T4.setTop (mkF m 37 #[.val (.int p0), .val (.int p1), .val (.int (0 : Int32)), .val (.int (0 : Int32)), .val (.ref w_FALSE), .val (.ref w_FALSE), .unset, .unset, .unset, .unset] [(.int (0 : Int32))])) _
        refine XS.ifYes X4.here hx rfl (pc0 := 37) (pc' := 56) rfl (hb hby at_37) rfl ((if0 _ _).trans (teq hc37).1) (by decide) (by decide) ?_
        show Steps p.tables e below (T4.setTop (mkF m 56 #[.val (.int p0), .val (.int p1), .val (.int (0 : Int32)), .val (.int (0 : Int32)), .val (.ref w_FALSE), .val (.ref w_FALSE), .unset, .unset, .unset, .unset] [])) _
        refine XS.aload X4.here hx rfl (hb hby at_56) rfl rfl ?_
        show Steps p.tables e below (T4.setTop (mkF m 58 #[.val (.int p0), .val (.int p1), .val (.int (0 : Int32)), .val (.int (0 : Int32)), .val (.ref w_FALSE), .val (.ref w_FALSE), .unset, .unset, .unset, .unset] [(.ref w_FALSE)])) _
        refine st5 _ ?_
        show Steps p.tables e below (T5.setTop (mkF m 61 #[.val (.int p0), .val (.int p1), .val (.int (0 : Int32)), .val (.int (0 : Int32)), .val (.ref w_FALSE), .val (.ref w_FALSE), .unset, .unset, .unset, .unset] [(.ref w_FALSE), (.ref w_FALSE)])) _
        refine Jvm.RoadKit.acmp (g := (mkF m 61 #[.val (.int p0), .val (.int p1), .val (.int (0 : Int32)), .val (.int (0 : Int32)), .val (.ref w_FALSE), .val (.ref w_FALSE), .unset, .unset, .unset, .unset] [(.ref w_FALSE), (.ref w_FALSE)])) X5 hx rfl rfl rfl (pc0 := 61) (pc' := 64) (same := true) rfl (hb hby at_61) rfl (decide_eq_true rfl) (by decide) (by decide) ?_
        show Steps p.tables e below (T5.setTop (mkF m 64 #[.val (.int p0), .val (.int p1), .val (.int (0 : Int32)), .val (.int (0 : Int32)), .val (.ref w_FALSE), .val (.ref w_FALSE), .unset, .unset, .unset, .unset] [])) _
        refine XS.iconst X5.here hx rfl (hb hby at_64) ?_
        show Steps p.tables e below (T5.setTop (mkF m 65 #[.val (.int p0), .val (.int p1), .val (.int (0 : Int32)), .val (.int (0 : Int32)), .val (.ref w_FALSE), .val (.ref w_FALSE), .unset, .unset, .unset, .unset] [(.int (1 : Int32))])) _
        refine XS.goto X5.here hx rfl (pc0 := 65) (pc' := 69) rfl (hb hby at_65) (by decide) (by decide) ?_
        show Steps p.tables e below (T5.setTop (mkF m 69 #[.val (.int p0), .val (.int p1), .val (.int (0 : Int32)), .val (.int (0 : Int32)), .val (.ref w_FALSE), .val (.ref w_FALSE), .unset, .unset, .unset, .unset] [(.int (1 : Int32))])) _
        refine XS.istore X5.here hx rfl (hb hby at_69) rfl (l' := #[.val (.int p0), .val (.int p1), .val (.int (0 : Int32)), .val (.int (0 : Int32)), .val (.ref w_FALSE), .val (.ref w_FALSE), .val (.int (1 : Int32)), .unset, .unset, .unset]) rfl ?_
        show Steps p.tables e below (T5.setTop (mkF m 71 #[.val (.int p0), .val (.int p1), .val (.int (0 : Int32)), .val (.int (0 : Int32)), .val (.ref w_FALSE), .val (.ref w_FALSE), .val (.int (1 : Int32)), .unset, .unset, .unset] [])) _
        refine XS.aload X5.here hx rfl (hb hby at_71) rfl rfl ?_
        show Steps p.tables e below (T5.setTop (mkF m 73 #[.val (.int p0), .val (.int p1), .val (.int (0 : Int32)), .val (.int (0 : Int32)), .val (.ref w_FALSE), .val (.ref w_FALSE), .val (.int (1 : Int32)), .unset, .unset, .unset] [(.ref w_FALSE)])) _
        refine XS.aload X5.here hx rfl (hb hby at_73) rfl rfl ?_
        show Steps p.tables e below (T5.setTop (mkF m 75 #[.val (.int p0), .val (.int p1), .val (.int (0 : Int32)), .val (.int (0 : Int32)), .val (.ref w_FALSE), .val (.ref w_FALSE), .val (.int (1 : Int32)), .unset, .unset, .unset] [(.ref w_FALSE), (.ref w_FALSE)])) _
        refine st6.trans ?_
        show Steps p.tables e below (T6.setTop (mkF m 78 #[.val (.int p0), .val (.int p1), .val (.int (0 : Int32)), .val (.int (0 : Int32)), .val (.ref w_FALSE), .val (.ref w_FALSE), .val (.int (1 : Int32)), .unset, .unset, .unset] [(.ref w_FALSE)])) _
        refine XS.iloadN X6.here hx rfl (hb hby at_78) rfl ?_
        show Steps p.tables e below (T6.setTop (mkF m 79 #[.val (.int p0), .val (.int p1), .val (.int (0 : Int32)), .val (.int (0 : Int32)), .val (.ref w_FALSE), .val (.ref w_FALSE), .val (.int (1 : Int32)), .unset, .unset, .unset] [(.int (0 : Int32)), (.ref w_FALSE)])) _
        refine XS.ifYes X6.here hx rfl (pc0 := 79) (pc' := 90) rfl (hb hby at_79) rfl ((if0 _ _).trans (teq hc79).1) (by decide) (by decide) ?_
        show Steps p.tables e below (T6.setTop (mkF m 90 #[.val (.int p0), .val (.int p1), .val (.int (0 : Int32)), .val (.int (0 : Int32)), .val (.ref w_FALSE), .val (.ref w_FALSE), .val (.int (1 : Int32)), .unset, .unset, .unset] [(.ref w_FALSE)])) _
        refine XS.iconst X6.here hx rfl (hb hby at_90) ?_
        show Steps p.tables e below (T6.setTop (mkF m 91 #[.val (.int p0), .val (.int p1), .val (.int (0 : Int32)), .val (.int (0 : Int32)), .val (.ref w_FALSE), .val (.ref w_FALSE), .val (.int (1 : Int32)), .unset, .unset, .unset] [(.int (0 : Int32)), (.ref w_FALSE)])) _
        refine st7 _ ?_
        show Steps p.tables e below (T7.setTop (mkF m 94 #[.val (.int p0), .val (.int p1), .val (.int (0 : Int32)), .val (.int (0 : Int32)), .val (.ref w_FALSE), .val (.ref w_FALSE), .val (.int (1 : Int32)), .unset, .unset, .unset] [(.ref w_FALSE), (.ref w_FALSE)])) _
        refine Jvm.RoadKit.acmp (g := (mkF m 94 #[.val (.int p0), .val (.int p1), .val (.int (0 : Int32)), .val (.int (0 : Int32)), .val (.ref w_FALSE), .val (.ref w_FALSE), .val (.int (1 : Int32)), .unset, .unset, .unset] [(.ref w_FALSE), (.ref w_FALSE)])) X7 hx rfl rfl rfl (pc0 := 94) (pc' := 97) (same := true) rfl (hb hby at_94) rfl (decide_eq_true rfl) (by decide) (by decide) ?_
        show Steps p.tables e below (T7.setTop (mkF m 97 #[.val (.int p0), .val (.int p1), .val (.int (0 : Int32)), .val (.int (0 : Int32)), .val (.ref w_FALSE), .val (.ref w_FALSE), .val (.int (1 : Int32)), .unset, .unset, .unset] [])) _
        refine XS.iconst X7.here hx rfl (hb hby at_97) ?_
        show Steps p.tables e below (T7.setTop (mkF m 98 #[.val (.int p0), .val (.int p1), .val (.int (0 : Int32)), .val (.int (0 : Int32)), .val (.ref w_FALSE), .val (.ref w_FALSE), .val (.int (1 : Int32)), .unset, .unset, .unset] [(.int (1 : Int32))])) _
        refine XS.goto X7.here hx rfl (pc0 := 98) (pc' := 102) rfl (hb hby at_98) (by decide) (by decide) ?_
        show Steps p.tables e below (T7.setTop (mkF m 102 #[.val (.int p0), .val (.int p1), .val (.int (0 : Int32)), .val (.int (0 : Int32)), .val (.ref w_FALSE), .val (.ref w_FALSE), .val (.int (1 : Int32)), .unset, .unset, .unset] [(.int (1 : Int32))])) _
        refine XS.istore X7.here hx rfl (hb hby at_102) rfl (l' := #[.val (.int p0), .val (.int p1), .val (.int (0 : Int32)), .val (.int (0 : Int32)), .val (.ref w_FALSE), .val (.ref w_FALSE), .val (.int (1 : Int32)), .val (.int (1 : Int32)), .unset, .unset]) rfl ?_
        show Steps p.tables e below (T7.setTop (mkF m 104 #[.val (.int p0), .val (.int p1), .val (.int (0 : Int32)), .val (.int (0 : Int32)), .val (.ref w_FALSE), .val (.ref w_FALSE), .val (.int (1 : Int32)), .val (.int (1 : Int32)), .unset, .unset] [])) _
        refine XS.aload X7.here hx rfl (hb hby at_104) rfl rfl ?_
        show Steps p.tables e below (T7.setTop (mkF m 106 #[.val (.int p0), .val (.int p1), .val (.int (0 : Int32)), .val (.int (0 : Int32)), .val (.ref w_FALSE), .val (.ref w_FALSE), .val (.int (1 : Int32)), .val (.int (1 : Int32)), .unset, .unset] [(.ref w_FALSE)])) _
        refine XS.aload X7.here hx rfl (hb hby at_106) rfl rfl ?_
        show Steps p.tables e below (T7.setTop (mkF m 108 #[.val (.int p0), .val (.int p1), .val (.int (0 : Int32)), .val (.int (0 : Int32)), .val (.ref w_FALSE), .val (.ref w_FALSE), .val (.int (1 : Int32)), .val (.int (1 : Int32)), .unset, .unset] [(.ref w_FALSE), (.ref w_FALSE)])) _
        refine st8.trans ?_
        show Steps p.tables e below (T8.setTop (mkF m 111 #[.val (.int p0), .val (.int p1), .val (.int (0 : Int32)), .val (.int (0 : Int32)), .val (.ref w_FALSE), .val (.ref w_FALSE), .val (.int (1 : Int32)), .val (.int (1 : Int32)), .unset, .unset] [(.ref w_FALSE)])) _
        refine XS.iloadN X8.here hx rfl (hb hby at_111) rfl ?_
        show Steps p.tables e below (T8.setTop (mkF m 112 #[.val (.int p0), .val (.int p1), .val (.int (0 : Int32)), .val (.int (0 : Int32)), .val (.ref w_FALSE), .val (.ref w_FALSE), .val (.int (1 : Int32)), .val (.int (1 : Int32)), .unset, .unset] [(.int (0 : Int32)), (.ref w_FALSE)])) _
        refine XS.ifNo X8.here hx rfl (hb hby at_112) rfl ((if0 _ _).trans (teq hc112).2) ?_
        show Steps p.tables e below (T8.setTop (mkF m 115 #[.val (.int p0), .val (.int p1), .val (.int (0 : Int32)), .val (.int (0 : Int32)), .val (.ref w_FALSE), .val (.ref w_FALSE), .val (.int (1 : Int32)), .val (.int (1 : Int32)), .unset, .unset] [(.ref w_FALSE)])) _
        refine XS.iloadN X8.here hx rfl (hb hby at_115) rfl ?_
        show Steps p.tables e below (T8.setTop (mkF m 116 #[.val (.int p0), .val (.int p1), .val (.int (0 : Int32)), .val (.int (0 : Int32)), .val (.ref w_FALSE), .val (.ref w_FALSE), .val (.int (1 : Int32)), .val (.int (1 : Int32)), .unset, .unset] [(.int (0 : Int32)), (.ref w_FALSE)])) _
        refine XS.ifYes X8.here hx rfl (pc0 := 116) (pc' := 123) rfl (hb hby at_116) rfl ((if0 _ _).trans (teq hc116).1) (by decide) (by decide) ?_
        show Steps p.tables e below (T8.setTop (mkF m 123 #[.val (.int p0), .val (.int p1), .val (.int (0 : Int32)), .val (.int (0 : Int32)), .val (.ref w_FALSE), .val (.ref w_FALSE), .val (.int (1 : Int32)), .val (.int (1 : Int32)), .unset, .unset] [(.ref w_FALSE)])) _
        refine XS.iconst X8.here hx rfl (hb hby at_123) ?_
        show Steps p.tables e below (T8.setTop (mkF m 124 #[.val (.int p0), .val (.int p1), .val (.int (0 : Int32)), .val (.int (0 : Int32)), .val (.ref w_FALSE), .val (.ref w_FALSE), .val (.int (1 : Int32)), .val (.int (1 : Int32)), .unset, .unset] [(.int (0 : Int32)), (.ref w_FALSE)])) _
        refine st9 _ ?_
        show Steps p.tables e below (T9.setTop (mkF m 127 #[.val (.int p0), .val (.int p1), .val (.int (0 : Int32)), .val (.int (0 : Int32)), .val (.ref w_FALSE), .val (.ref w_FALSE), .val (.int (1 : Int32)), .val (.int (1 : Int32)), .unset, .unset] [(.ref w_FALSE), (.ref w_FALSE)])) _
        refine Jvm.RoadKit.acmp (g := (mkF m 127 #[.val (.int p0), .val (.int p1), .val (.int (0 : Int32)), .val (.int (0 : Int32)), .val (.ref w_FALSE), .val (.ref w_FALSE), .val (.int (1 : Int32)), .val (.int (1 : Int32)), .unset, .unset] [(.ref w_FALSE), (.ref w_FALSE)])) X9 hx rfl rfl rfl (pc0 := 127) (pc' := 130) (same := true) rfl (hb hby at_127) rfl (decide_eq_true rfl) (by decide) (by decide) ?_
        show Steps p.tables e below (T9.setTop (mkF m 130 #[.val (.int p0), .val (.int p1), .val (.int (0 : Int32)), .val (.int (0 : Int32)), .val (.ref w_FALSE), .val (.ref w_FALSE), .val (.int (1 : Int32)), .val (.int (1 : Int32)), .unset, .unset] [])) _
        refine XS.iconst X9.here hx rfl (hb hby at_130) ?_
        show Steps p.tables e below (T9.setTop (mkF m 131 #[.val (.int p0), .val (.int p1), .val (.int (0 : Int32)), .val (.int (0 : Int32)), .val (.ref w_FALSE), .val (.ref w_FALSE), .val (.int (1 : Int32)), .val (.int (1 : Int32)), .unset, .unset] [(.int (1 : Int32))])) _
        refine XS.goto X9.here hx rfl (pc0 := 131) (pc' := 135) rfl (hb hby at_131) (by decide) (by decide) ?_
        show Steps p.tables e below (T9.setTop (mkF m 135 #[.val (.int p0), .val (.int p1), .val (.int (0 : Int32)), .val (.int (0 : Int32)), .val (.ref w_FALSE), .val (.ref w_FALSE), .val (.int (1 : Int32)), .val (.int (1 : Int32)), .unset, .unset] [(.int (1 : Int32))])) _
        refine XS.istore X9.here hx rfl (hb hby at_135) rfl (l' := #[.val (.int p0), .val (.int p1), .val (.int (0 : Int32)), .val (.int (0 : Int32)), .val (.ref w_FALSE), .val (.ref w_FALSE), .val (.int (1 : Int32)), .val (.int (1 : Int32)), .val (.int (1 : Int32)), .unset]) rfl ?_
        show Steps p.tables e below (T9.setTop (mkF m 137 #[.val (.int p0), .val (.int p1), .val (.int (0 : Int32)), .val (.int (0 : Int32)), .val (.ref w_FALSE), .val (.ref w_FALSE), .val (.int (1 : Int32)), .val (.int (1 : Int32)), .val (.int (1 : Int32)), .unset] [])) _
        refine XS.aload X9.here hx rfl (hb hby at_137) rfl rfl ?_
        show Steps p.tables e below (T9.setTop (mkF m 139 #[.val (.int p0), .val (.int p1), .val (.int (0 : Int32)), .val (.int (0 : Int32)), .val (.ref w_FALSE), .val (.ref w_FALSE), .val (.int (1 : Int32)), .val (.int (1 : Int32)), .val (.int (1 : Int32)), .unset] [(.ref w_FALSE)])) _
        refine st10.trans ?_
        show Steps p.tables e below (T10.setTop (mkF m 142 #[.val (.int p0), .val (.int p1), .val (.int (0 : Int32)), .val (.int (0 : Int32)), .val (.ref w_FALSE), .val (.ref w_FALSE), .val (.int (1 : Int32)), .val (.int (1 : Int32)), .val (.int (1 : Int32)), .unset] [(.ref w_TRUE)])) _
        refine XS.iloadN X10.here hx rfl (hb hby at_142) rfl ?_
        show Steps p.tables e below (T10.setTop (mkF m 143 #[.val (.int p0), .val (.int p1), .val (.int (0 : Int32)), .val (.int (0 : Int32)), .val (.ref w_FALSE), .val (.ref w_FALSE), .val (.int (1 : Int32)), .val (.int (1 : Int32)), .val (.int (1 : Int32)), .unset] [(.int (0 : Int32)), (.ref w_TRUE)])) _
        refine XS.ifNo X10.here hx rfl (hb hby at_143) rfl ((if0 _ _).trans (teq hc143).2) ?_
        show Steps p.tables e below (T10.setTop (mkF m 146 #[.val (.int p0), .val (.int p1), .val (.int (0 : Int32)), .val (.int (0 : Int32)), .val (.ref w_FALSE), .val (.ref w_FALSE), .val (.int (1 : Int32)), .val (.int (1 : Int32)), .val (.int (1 : Int32)), .unset] [(.ref w_TRUE)])) _
        refine XS.iconst X10.here hx rfl (hb hby at_146) ?_
        show Steps p.tables e below (T10.setTop (mkF m 147 #[.val (.int p0), .val (.int p1), .val (.int (0 : Int32)), .val (.int (0 : Int32)), .val (.ref w_FALSE), .val (.ref w_FALSE), .val (.int (1 : Int32)), .val (.int (1 : Int32)), .val (.int (1 : Int32)), .unset] [(.int (1 : Int32)), (.ref w_TRUE)])) _
        refine XS.goto X10.here hx rfl (pc0 := 147) (pc' := 151) rfl (hb hby at_147) (by decide) (by decide) ?_
        show Steps p.tables e below (T10.setTop (mkF m 151 #[.val (.int p0), .val (.int p1), .val (.int (0 : Int32)), .val (.int (0 : Int32)), .val (.ref w_FALSE), .val (.ref w_FALSE), .val (.int (1 : Int32)), .val (.int (1 : Int32)), .val (.int (1 : Int32)), .unset] [(.int (1 : Int32)), (.ref w_TRUE)])) _
        refine st11 _ ?_
        show Steps p.tables e below (T11.setTop (mkF m 154 #[.val (.int p0), .val (.int p1), .val (.int (0 : Int32)), .val (.int (0 : Int32)), .val (.ref w_FALSE), .val (.ref w_FALSE), .val (.int (1 : Int32)), .val (.int (1 : Int32)), .val (.int (1 : Int32)), .unset] [(.ref w_TRUE), (.ref w_TRUE)])) _
        refine Jvm.RoadKit.acmp (g := (mkF m 154 #[.val (.int p0), .val (.int p1), .val (.int (0 : Int32)), .val (.int (0 : Int32)), .val (.ref w_FALSE), .val (.ref w_FALSE), .val (.int (1 : Int32)), .val (.int (1 : Int32)), .val (.int (1 : Int32)), .unset] [(.ref w_TRUE), (.ref w_TRUE)])) X11 hx rfl rfl rfl (pc0 := 154) (pc' := 157) (same := true) rfl (hb hby at_154) rfl (decide_eq_true rfl) (by decide) (by decide) ?_
        show Steps p.tables e below (T11.setTop (mkF m 157 #[.val (.int p0), .val (.int p1), .val (.int (0 : Int32)), .val (.int (0 : Int32)), .val (.ref w_FALSE), .val (.ref w_FALSE), .val (.int (1 : Int32)), .val (.int (1 : Int32)), .val (.int (1 : Int32)), .unset] [])) _
        refine XS.iconst X11.here hx rfl (hb hby at_157) ?_
        show Steps p.tables e below (T11.setTop (mkF m 158 #[.val (.int p0), .val (.int p1), .val (.int (0 : Int32)), .val (.int (0 : Int32)), .val (.ref w_FALSE), .val (.ref w_FALSE), .val (.int (1 : Int32)), .val (.int (1 : Int32)), .val (.int (1 : Int32)), .unset] [(.int (1 : Int32))])) _
        refine XS.goto X11.here hx rfl (pc0 := 158) (pc' := 162) rfl (hb hby at_158) (by decide) (by decide) ?_
        show Steps p.tables e below (T11.setTop (mkF m 162 #[.val (.int p0), .val (.int p1), .val (.int (0 : Int32)), .val (.int (0 : Int32)), .val (.ref w_FALSE), .val (.ref w_FALSE), .val (.int (1 : Int32)), .val (.int (1 : Int32)), .val (.int (1 : Int32)), .unset] [(.int (1 : Int32))])) _
        refine XS.istore X11.here hx rfl (hb hby at_162) rfl (l' := #[.val (.int p0), .val (.int p1), .val (.int (0 : Int32)), .val (.int (0 : Int32)), .val (.ref w_FALSE), .val (.ref w_FALSE), .val (.int (1 : Int32)), .val (.int (1 : Int32)), .val (.int (1 : Int32)), .val (.int (1 : Int32))]) rfl ?_
        show Steps p.tables e below (T11.setTop (mkF m 164 #[.val (.int p0), .val (.int p1), .val (.int (0 : Int32)), .val (.int (0 : Int32)), .val (.ref w_FALSE), .val (.ref w_FALSE), .val (.int (1 : Int32)), .val (.int (1 : Int32)), .val (.int (1 : Int32)), .val (.int (1 : Int32))] [])) _
        refine XS.iload X11.here hx rfl (hb hby at_164) rfl ?_
        show Steps p.tables e below (T11.setTop (mkF m 166 #[.val (.int p0), .val (.int p1), .val (.int (0 : Int32)), .val (.int (0 : Int32)), .val (.ref w_FALSE), .val (.ref w_FALSE), .val (.int (1 : Int32)), .val (.int (1 : Int32)), .val (.int (1 : Int32)), .val (.int (1 : Int32))] [(.int (1 : Int32))])) _
        refine XS.ifNo X11.here hx rfl (hb hby at_166) rfl ((if0 _ _).trans (feq hc166).1) ?_
        show Steps p.tables e below (T11.setTop (mkF m 169 #[.val (.int p0), .val (.int p1), .val (.int (0 : Int32)), .val (.int (0 : Int32)), .val (.ref w_FALSE), .val (.ref w_FALSE), .val (.int (1 : Int32)), .val (.int (1 : Int32)), .val (.int (1 : Int32)), .val (.int (1 : Int32))] [])) _
        refine XS.iload X11.here hx rfl (hb hby at_169) rfl ?_
        show Steps p.tables e below (T11.setTop (mkF m 171 #[.val (.int p0), .val (.int p1), .val (.int (0 : Int32)), .val (.int (0 : Int32)), .val (.ref w_FALSE), .val (.ref w_FALSE), .val (.int (1 : Int32)), .val (.int (1 : Int32)), .val (.int (1 : Int32)), .val (.int (1 : Int32))] [(.int (1 : Int32))])) _
        refine XS.ifNo X11.here hx rfl (hb hby at_171) rfl ((if0 _ _).trans (feq hc171).1) ?_
        show Steps p.tables e below (T11.setTop (mkF m 174 #[.val (.int p0), .val (.int p1), .val (.int (0 : Int32)), .val (.int (0 : Int32)), .val (.ref w_FALSE), .val (.ref w_FALSE), .val (.int (1 : Int32)), .val (.int (1 : Int32)), .val (.int (1 : Int32)), .val (.int (1 : Int32))] [])) _
        refine XS.iload X11.here hx rfl (hb hby at_174) rfl ?_
        show Steps p.tables e below (T11.setTop (mkF m 176 #[.val (.int p0), .val (.int p1), .val (.int (0 : Int32)), .val (.int (0 : Int32)), .val (.ref w_FALSE), .val (.ref w_FALSE), .val (.int (1 : Int32)), .val (.int (1 : Int32)), .val (.int (1 : Int32)), .val (.int (1 : Int32))] [(.int (1 : Int32))])) _
        refine XS.ifNo X11.here hx rfl (hb hby at_176) rfl ((if0 _ _).trans (feq hc176).1) ?_
        show Steps p.tables e below (T11.setTop (mkF m 179 #[.val (.int p0), .val (.int p1), .val (.int (0 : Int32)), .val (.int (0 : Int32)), .val (.ref w_FALSE), .val (.ref w_FALSE), .val (.int (1 : Int32)), .val (.int (1 : Int32)), .val (.int (1 : Int32)), .val (.int (1 : Int32))] [])) _
        refine XS.iload X11.here hx rfl (hb hby at_179) rfl ?_
        show Steps p.tables e below (T11.setTop (mkF m 181 #[.val (.int p0), .val (.int p1), .val (.int (0 : Int32)), .val (.int (0 : Int32)), .val (.ref w_FALSE), .val (.ref w_FALSE), .val (.int (1 : Int32)), .val (.int (1 : Int32)), .val (.int (1 : Int32)), .val (.int (1 : Int32))] [(.int (1 : Int32))])) _
        refine XS.ifNo X11.here hx rfl (hb hby at_181) rfl ((if0 _ _).trans (feq hc181).1) ?_
        show Steps p.tables e below (T11.setTop (mkF m 184 #[.val (.int p0), .val (.int p1), .val (.int (0 : Int32)), .val (.int (0 : Int32)), .val (.ref w_FALSE), .val (.ref w_FALSE), .val (.int (1 : Int32)), .val (.int (1 : Int32)), .val (.int (1 : Int32)), .val (.int (1 : Int32))] [])) _
        refine XS.iconst X11.here hx rfl (hb hby at_184) ?_
        show Steps p.tables e below (T11.setTop (mkF m 185 #[.val (.int p0), .val (.int p1), .val (.int (0 : Int32)), .val (.int (0 : Int32)), .val (.ref w_FALSE), .val (.ref w_FALSE), .val (.int (1 : Int32)), .val (.int (1 : Int32)), .val (.int (1 : Int32)), .val (.int (1 : Int32))] [(.int (1 : Int32))])) _
        refine XS.goto X11.here hx rfl (pc0 := 185) (pc' := 189) rfl (hb hby at_185) (by decide) (by decide) ?_
        show Steps p.tables e below (T11.setTop (mkF m 189 #[.val (.int p0), .val (.int p1), .val (.int (0 : Int32)), .val (.int (0 : Int32)), .val (.ref w_FALSE), .val (.ref w_FALSE), .val (.int (1 : Int32)), .val (.int (1 : Int32)), .val (.int (1 : Int32)), .val (.int (1 : Int32))] [(.int (1 : Int32))])) _
        exact retN X11 hx (t := .boolean) Bd.returns (by simp) (hb hby at_189) hr
      ·
        show Q_rm0 Z p0 p1 w_FALSE w_UNKNOWN w_TRUE h0 n0 _ T11.heap _
        rw [e11]
        exact ⟨rfl, N11⟩
    ·
      obtain ⟨_, _, ⟨T12, L12, k12, n12⟩, -, X12, ⟨Lc12, hQ12, l12, y12, z12⟩, st12⟩ := Jvm.LawKit.callS X0 hx (y := (⟨"com/example/clearance_for_data/clearancefordata/expression/Truth", "of", "(Z)Lcom/example/clearance_for_data/clearancefordata/expression/Truth;"⟩ : MethodName)) hown (mvT hZ (hw _ (List.mem_of_getElem? (i := 0) rfl))) (mvT hZ (hw _ (List.mem_of_getElem? (i := 1) rfl))) (mvT hZ (hw _ (List.mem_of_getElem? (i := 2) rfl))) (mvT hZ (hw _ (List.mem_of_getElem? (i := 3) rfl))) (by decide) (backOf (W := 0) (rm1 l Z a0 hw [] (0 : Int32) w_FALSE w_TRUE h0 n0 Zn S_FALSE S_TRUE) hZ (hw _ (List.mem_of_getElem? (i := 3) rfl)) (hw _ (List.mem_of_getElem? (i := 2) rfl)) (by decide) (by decide)) (g := (mkF m 25 #[.val (.int p0), .val (.int p1), .val (.int (0 : Int32)), .val (.int (1 : Int32)), .unset, .unset, .unset, .unset, .unset, .unset] [(.int (0 : Int32))])) rfl (by rw [hml]; rfl) (argsL := [(.int (0 : Int32))]) (rest := []) (lenOf pd_3 rfl) rfl (by show 2 * 0 + _ ≤ _; exact Nat.le_of_eq rfl) (hb hby at_25) (fun _ _ => ⟨rfl, e0, (by decide : 0 + 0 ≤ _), (by decide : 0 + 0 ≤ _)⟩)
      dsimp only [Pt.U, Pt.locs, Pt.cells, Pt.slots] at X12 l12 y12 z12 st12 hQ12
      subst l12 y12 z12
      obtain ⟨hv12, N12q, e12q⟩ := hQ12
      obtain rfl := hv12.trans (show some (Value.ref (own_of (0 : Int32) w_FALSE w_TRUE)) = some (.ref w_FALSE) by simp +decide [own_of])
      have N12 := Fr.app N0 N12q
      have e12 : T12.heap = h0 := e12q
      obtain ⟨_, _, ⟨T13, L13, k13, n13⟩, -, X13, ⟨Lc13, hQ13, l13, y13, z13⟩, st13⟩ := Jvm.LawKit.callS X12 hx (y := (⟨"com/example/clearance_for_data/clearancefordata/expression/Truth", "of", "(Z)Lcom/example/clearance_for_data/clearancefordata/expression/Truth;"⟩ : MethodName)) hown (mvT hZ (hw _ (List.mem_of_getElem? (i := 0) rfl))) (mvT hZ (hw _ (List.mem_of_getElem? (i := 1) rfl))) (mvT hZ (hw _ (List.mem_of_getElem? (i := 2) rfl))) (mvT hZ (hw _ (List.mem_of_getElem? (i := 3) rfl))) (by decide) (backOf (W := 0) (rm1 l Z a0 hw [] (1 : Int32) w_FALSE w_TRUE h0 n0 Zn S_FALSE S_TRUE) hZ (hw _ (List.mem_of_getElem? (i := 3) rfl)) (hw _ (List.mem_of_getElem? (i := 2) rfl)) (by decide) (by decide)) (g := (mkF m 31 #[.val (.int p0), .val (.int p1), .val (.int (0 : Int32)), .val (.int (1 : Int32)), .val (.ref w_FALSE), .unset, .unset, .unset, .unset, .unset] [(.int (1 : Int32))])) rfl (by rw [hml]; rfl) (argsL := [(.int (1 : Int32))]) (rest := []) (lenOf pd_3 rfl) rfl (by show 2 * 0 + _ ≤ _; exact Nat.le_of_eq rfl) (hb hby at_31) (fun _ _ => ⟨rfl, e12, (by decide : 0 + 0 ≤ _), (by decide : 0 + 0 ≤ _)⟩)
      dsimp only [Pt.U, Pt.locs, Pt.cells, Pt.slots] at X13 l13 y13 z13 st13 hQ13
      subst l13 y13 z13
      obtain ⟨hv13, N13q, e13q⟩ := hQ13
      obtain rfl := hv13.trans (show some (Value.ref (own_of (1 : Int32) w_FALSE w_TRUE)) = some (.ref w_TRUE) by simp +decide [own_of])
      have N13 := Fr.app N12 N13q
      have e13 : T13.heap = h0 := e13q
      have hc37 : (0 : Int32) = (0 : Int32) := (by decide)
      obtain ⟨T14, X14, e14, st14⟩ := getS2 X13 hx hZ hown (host := "") (Or.inl (hw _ (List.mem_of_getElem? (i := 8) rfl))) Via.refl e13 S_FALSE (g := (mkF m 58 #[.val (.int p0), .val (.int p1), .val (.int (0 : Int32)), .val (.int (1 : Int32)), .val (.ref w_FALSE), .val (.ref w_TRUE), .unset, .unset, .unset, .unset] [(.ref w_FALSE)])) rfl (hb hby at_58)
      obtain ⟨cq15, kq15, q15a, q15b, q15c⟩ := isOf hZ e14 E_w_FALSE
      obtain ⟨_, _, ⟨T15, L15, k15, n15⟩, -, X15, ⟨Lc15, hQ15, l15, y15, z15⟩, st15⟩ := X14.virtualBack hx (y := (⟨"com/example/clearance_for_data/clearancefordata/expression/Truth", "and", "(Lcom/example/clearance_for_data/clearancefordata/expression/Truth;)Lcom/example/clearance_for_data/clearancefordata/expression/Truth;"⟩ : MethodName)) (z := (⟨"com/example/clearance_for_data/clearancefordata/expression/Truth", "and", "(Lcom/example/clearance_for_data/clearancefordata/expression/Truth;)Lcom/example/clearance_for_data/clearancefordata/expression/Truth;"⟩ : MethodName)) hown (mvT hZ (hw _ (List.mem_of_getElem? (i := 9) rfl))) (mvT hZ (hw _ (List.mem_of_getElem? (i := 10) rfl))) (notFace_of_selects (args := #[]) (mvT hZ (hw _ (List.mem_of_getElem? (i := 12) rfl)))) (mvT hZ (hw _ (List.mem_of_getElem? (i := 12) rfl))) (mvT hZ (hw _ (List.mem_of_getElem? (i := 11) rfl))) (by decide) (backOf (W := 0) (rm2 l Z a0 hw [] w_FALSE w_TRUE w_FALSE w_UNKNOWN w_TRUE h0 n0 Zn S_FALSE S_UNKNOWN S_TRUE) hZ (hw _ (List.mem_of_getElem? (i := 13) rfl)) (hw _ (List.mem_of_getElem? (i := 2) rfl)) (by decide) (by decide)) q15a q15c (g := (mkF m 75 #[.val (.int p0), .val (.int p1), .val (.int (0 : Int32)), .val (.int (1 : Int32)), .val (.ref w_FALSE), .val (.ref w_TRUE), .val (.int (1 : Int32)), .unset, .unset, .unset] [(.ref w_TRUE), (.ref w_FALSE)])) rfl (by rw [hml]; rfl) (Steps.refl _) (argsL := [(.ref w_TRUE)]) (rest := []) (lenOf pd_4 rfl) rfl (by show 2 * 0 + _ ≤ _; exact Nat.le_of_eq rfl) (hb hby at_75) (fun _ _ => ⟨rfl, e14, (by decide : 0 + 0 ≤ _), (by decide : 0 + 0 ≤ _)⟩)
      dsimp only [Pt.U, Pt.locs, Pt.cells, Pt.slots] at X15 l15 y15 z15 st15 hQ15
      subst l15 y15 z15
      obtain ⟨hv15, N15q, e15q⟩ := hQ15
      obtain rfl := hv15.trans (show some (Value.ref (own_and w_FALSE w_TRUE w_FALSE w_UNKNOWN w_TRUE)) = some (.ref w_FALSE) by simp +decide [own_and, (own_dis o_FALSE o_UNKNOWN (by decide)), (own_dis o_FALSE o_TRUE (by decide)), (own_dis o_UNKNOWN o_FALSE (by decide)), (own_dis o_UNKNOWN o_TRUE (by decide)), (own_dis o_TRUE o_FALSE (by decide)), (own_dis o_TRUE o_UNKNOWN (by decide))])
      have N15 := Fr.app N13 N15q
      have e15 : T15.heap = h0 := e15q
      have hc79 : (0 : Int32) = (0 : Int32) := (by decide)
      obtain ⟨_, _, ⟨T16, L16, k16, n16⟩, -, X16, ⟨Lc16, hQ16, l16, y16, z16⟩, st16⟩ := Jvm.LawKit.callS X15 hx (y := (⟨"com/example/clearance_for_data/clearancefordata/expression/Truth", "of", "(Z)Lcom/example/clearance_for_data/clearancefordata/expression/Truth;"⟩ : MethodName)) hown (mvT hZ (hw _ (List.mem_of_getElem? (i := 0) rfl))) (mvT hZ (hw _ (List.mem_of_getElem? (i := 1) rfl))) (mvT hZ (hw _ (List.mem_of_getElem? (i := 2) rfl))) (mvT hZ (hw _ (List.mem_of_getElem? (i := 3) rfl))) (by decide) (backOf (W := 1) (rm1 l Z a0 hw [] (0 : Int32) w_FALSE w_TRUE h0 n0 Zn S_FALSE S_TRUE) hZ (hw _ (List.mem_of_getElem? (i := 3) rfl)) (hw _ (List.mem_of_getElem? (i := 2) rfl)) (by decide) (by decide)) (g := (mkF m 91 #[.val (.int p0), .val (.int p1), .val (.int (0 : Int32)), .val (.int (1 : Int32)), .val (.ref w_FALSE), .val (.ref w_TRUE), .val (.int (1 : Int32)), .unset, .unset, .unset] [(.int (0 : Int32)), (.ref w_FALSE)])) rfl (by rw [hml]; rfl) (argsL := [(.int (0 : Int32))]) (rest := [(.ref w_FALSE)]) (lenOf pd_3 rfl) rfl (by show 2 * 0 + _ ≤ _; exact Nat.le_of_eq rfl) (hb hby at_91) (fun _ _ => ⟨rfl, e15, (by decide : 0 + 0 ≤ _), (by decide : 0 + 0 ≤ _)⟩)
      dsimp only [Pt.U, Pt.locs, Pt.cells, Pt.slots] at X16 l16 y16 z16 st16 hQ16
      subst l16 y16 z16
      obtain ⟨hv16, N16q, e16q⟩ := hQ16
      obtain rfl := hv16.trans (show some (Value.ref (own_of (0 : Int32) w_FALSE w_TRUE)) = some (.ref w_FALSE) by simp +decide [own_of])
      have N16 := Fr.app N15 N16q
      have e16 : T16.heap = h0 := e16q
      obtain ⟨cq17, kq17, q17a, q17b, q17c⟩ := isOf hZ e16 E_w_FALSE
      obtain ⟨_, _, ⟨T17, L17, k17, n17⟩, -, X17, ⟨Lc17, hQ17, l17, y17, z17⟩, st17⟩ := X16.virtualBack hx (y := (⟨"com/example/clearance_for_data/clearancefordata/expression/Truth", "or", "(Lcom/example/clearance_for_data/clearancefordata/expression/Truth;)Lcom/example/clearance_for_data/clearancefordata/expression/Truth;"⟩ : MethodName)) (z := (⟨"com/example/clearance_for_data/clearancefordata/expression/Truth", "or", "(Lcom/example/clearance_for_data/clearancefordata/expression/Truth;)Lcom/example/clearance_for_data/clearancefordata/expression/Truth;"⟩ : MethodName)) hown (mvT hZ (hw _ (List.mem_of_getElem? (i := 14) rfl))) (mvT hZ (hw _ (List.mem_of_getElem? (i := 15) rfl))) (notFace_of_selects (args := #[]) (mvT hZ (hw _ (List.mem_of_getElem? (i := 17) rfl)))) (mvT hZ (hw _ (List.mem_of_getElem? (i := 17) rfl))) (mvT hZ (hw _ (List.mem_of_getElem? (i := 16) rfl))) (by decide) (backOf (W := 0) (rm3 l Z a0 hw [] w_FALSE w_TRUE w_FALSE w_UNKNOWN w_TRUE h0 n0 Zn S_FALSE S_UNKNOWN S_TRUE) hZ (hw _ (List.mem_of_getElem? (i := 18) rfl)) (hw _ (List.mem_of_getElem? (i := 2) rfl)) (by decide) (by decide)) q17a q17c (g := (mkF m 108 #[.val (.int p0), .val (.int p1), .val (.int (0 : Int32)), .val (.int (1 : Int32)), .val (.ref w_FALSE), .val (.ref w_TRUE), .val (.int (1 : Int32)), .val (.int (1 : Int32)), .unset, .unset] [(.ref w_TRUE), (.ref w_FALSE)])) rfl (by rw [hml]; rfl) (Steps.refl _) (argsL := [(.ref w_TRUE)]) (rest := []) (lenOf pd_4 rfl) rfl (by show 2 * 0 + _ ≤ _; exact Nat.le_of_eq rfl) (hb hby at_108) (fun _ _ => ⟨rfl, e16, (by decide : 0 + 0 ≤ _), (by decide : 0 + 0 ≤ _)⟩)
      dsimp only [Pt.U, Pt.locs, Pt.cells, Pt.slots] at X17 l17 y17 z17 st17 hQ17
      subst l17 y17 z17
      obtain ⟨hv17, N17q, e17q⟩ := hQ17
      obtain rfl := hv17.trans (show some (Value.ref (own_or w_FALSE w_TRUE w_FALSE w_UNKNOWN w_TRUE)) = some (.ref w_TRUE) by simp +decide [own_or, (own_dis o_FALSE o_UNKNOWN (by decide)), (own_dis o_FALSE o_TRUE (by decide)), (own_dis o_UNKNOWN o_FALSE (by decide)), (own_dis o_UNKNOWN o_TRUE (by decide)), (own_dis o_TRUE o_FALSE (by decide)), (own_dis o_TRUE o_UNKNOWN (by decide))])
      have N17 := Fr.app N16 N17q
      have e17 : T17.heap = h0 := e17q
      have hc112 : (0 : Int32) = (0 : Int32) := (by decide)
      have hc116 : ¬ ((1 : Int32) = (0 : Int32)) := (by decide)
      obtain ⟨_, _, ⟨T18, L18, k18, n18⟩, -, X18, ⟨Lc18, hQ18, l18, y18, z18⟩, st18⟩ := Jvm.LawKit.callS X17 hx (y := (⟨"com/example/clearance_for_data/clearancefordata/expression/Truth", "of", "(Z)Lcom/example/clearance_for_data/clearancefordata/expression/Truth;"⟩ : MethodName)) hown (mvT hZ (hw _ (List.mem_of_getElem? (i := 0) rfl))) (mvT hZ (hw _ (List.mem_of_getElem? (i := 1) rfl))) (mvT hZ (hw _ (List.mem_of_getElem? (i := 2) rfl))) (mvT hZ (hw _ (List.mem_of_getElem? (i := 3) rfl))) (by decide) (backOf (W := 1) (rm1 l Z a0 hw [] (1 : Int32) w_FALSE w_TRUE h0 n0 Zn S_FALSE S_TRUE) hZ (hw _ (List.mem_of_getElem? (i := 3) rfl)) (hw _ (List.mem_of_getElem? (i := 2) rfl)) (by decide) (by decide)) (g := (mkF m 124 #[.val (.int p0), .val (.int p1), .val (.int (0 : Int32)), .val (.int (1 : Int32)), .val (.ref w_FALSE), .val (.ref w_TRUE), .val (.int (1 : Int32)), .val (.int (1 : Int32)), .unset, .unset] [(.int (1 : Int32)), (.ref w_TRUE)])) rfl (by rw [hml]; rfl) (argsL := [(.int (1 : Int32))]) (rest := [(.ref w_TRUE)]) (lenOf pd_3 rfl) rfl (by show 2 * 0 + _ ≤ _; exact Nat.le_of_eq rfl) (hb hby at_124) (fun _ _ => ⟨rfl, e17, (by decide : 0 + 0 ≤ _), (by decide : 0 + 0 ≤ _)⟩)
      dsimp only [Pt.U, Pt.locs, Pt.cells, Pt.slots] at X18 l18 y18 z18 st18 hQ18
      subst l18 y18 z18
      obtain ⟨hv18, N18q, e18q⟩ := hQ18
      obtain rfl := hv18.trans (show some (Value.ref (own_of (1 : Int32) w_FALSE w_TRUE)) = some (.ref w_TRUE) by simp +decide [own_of])
      have N18 := Fr.app N17 N18q
      have e18 : T18.heap = h0 := e18q
      obtain ⟨cq19, kq19, q19a, q19b, q19c⟩ := isOf hZ e18 E_w_FALSE
      obtain ⟨_, _, ⟨T19, L19, k19, n19⟩, -, X19, ⟨Lc19, hQ19, l19, y19, z19⟩, st19⟩ := X18.virtualBack hx (y := (⟨"com/example/clearance_for_data/clearancefordata/expression/Truth", "not", "()Lcom/example/clearance_for_data/clearancefordata/expression/Truth;"⟩ : MethodName)) (z := (⟨"com/example/clearance_for_data/clearancefordata/expression/Truth", "not", "()Lcom/example/clearance_for_data/clearancefordata/expression/Truth;"⟩ : MethodName)) hown (mvT hZ (hw _ (List.mem_of_getElem? (i := 19) rfl))) (mvT hZ (hw _ (List.mem_of_getElem? (i := 20) rfl))) (notFace_of_selects (args := #[]) (mvT hZ (hw _ (List.mem_of_getElem? (i := 22) rfl)))) (mvT hZ (hw _ (List.mem_of_getElem? (i := 22) rfl))) (mvT hZ (hw _ (List.mem_of_getElem? (i := 21) rfl))) (by decide) (backOf (W := 0) (rm4 l Z a0 hw [] w_FALSE 1 w_FALSE w_UNKNOWN w_TRUE h0 n0 Zn S_FALSE S_UNKNOWN S_TRUE E_w_FALSE F_w_FALSE (by decide)) hZ (hw _ (List.mem_of_getElem? (i := 23) rfl)) (hw _ (List.mem_of_getElem? (i := 2) rfl)) (by decide) (by decide)) q19a q19c (g := (mkF m 139 #[.val (.int p0), .val (.int p1), .val (.int (0 : Int32)), .val (.int (1 : Int32)), .val (.ref w_FALSE), .val (.ref w_TRUE), .val (.int (1 : Int32)), .val (.int (1 : Int32)), .val (.int (1 : Int32)), .unset] [(.ref w_FALSE)])) rfl (by rw [hml]; rfl) (Steps.refl _) (argsL := []) (rest := []) (lenOf pd_5 rfl) rfl (by show 2 * 0 + _ ≤ _; exact Nat.le_of_eq rfl) (hb hby at_139) (fun _ _ => ⟨rfl, e18, (by decide : 0 + 0 ≤ _), (by decide : 0 + 0 ≤ _)⟩)
      dsimp only [Pt.U, Pt.locs, Pt.cells, Pt.slots] at X19 l19 y19 z19 st19 hQ19
      subst l19 y19 z19
      obtain ⟨hv19, N19q, e19q⟩ := hQ19
      obtain rfl := hv19.trans (show some (Value.ref (own_not 1 w_FALSE w_UNKNOWN w_TRUE)) = some (.ref w_TRUE) by simp +decide [own_not])
      have N19 := Fr.app N18 N19q
      have e19 : T19.heap = h0 := e19q
      have hc143 : (0 : Int32) = (0 : Int32) := (by decide)
      obtain ⟨_, _, ⟨T20, L20, k20, n20⟩, -, X20, ⟨Lc20, hQ20, l20, y20, z20⟩, st20⟩ := Jvm.LawKit.callS X19 hx (y := (⟨"com/example/clearance_for_data/clearancefordata/expression/Truth", "of", "(Z)Lcom/example/clearance_for_data/clearancefordata/expression/Truth;"⟩ : MethodName)) hown (mvT hZ (hw _ (List.mem_of_getElem? (i := 0) rfl))) (mvT hZ (hw _ (List.mem_of_getElem? (i := 1) rfl))) (mvT hZ (hw _ (List.mem_of_getElem? (i := 2) rfl))) (mvT hZ (hw _ (List.mem_of_getElem? (i := 3) rfl))) (by decide) (backOf (W := 1) (rm1 l Z a0 hw [] (1 : Int32) w_FALSE w_TRUE h0 n0 Zn S_FALSE S_TRUE) hZ (hw _ (List.mem_of_getElem? (i := 3) rfl)) (hw _ (List.mem_of_getElem? (i := 2) rfl)) (by decide) (by decide)) (g := (mkF m 151 #[.val (.int p0), .val (.int p1), .val (.int (0 : Int32)), .val (.int (1 : Int32)), .val (.ref w_FALSE), .val (.ref w_TRUE), .val (.int (1 : Int32)), .val (.int (1 : Int32)), .val (.int (1 : Int32)), .unset] [(.int (1 : Int32)), (.ref w_TRUE)])) rfl (by rw [hml]; rfl) (argsL := [(.int (1 : Int32))]) (rest := [(.ref w_TRUE)]) (lenOf pd_3 rfl) rfl (by show 2 * 0 + _ ≤ _; exact Nat.le_of_eq rfl) (hb hby at_151) (fun _ _ => ⟨rfl, e19, (by decide : 0 + 0 ≤ _), (by decide : 0 + 0 ≤ _)⟩)
      dsimp only [Pt.U, Pt.locs, Pt.cells, Pt.slots] at X20 l20 y20 z20 st20 hQ20
      subst l20 y20 z20
      obtain ⟨hv20, N20q, e20q⟩ := hQ20
      obtain rfl := hv20.trans (show some (Value.ref (own_of (1 : Int32) w_FALSE w_TRUE)) = some (.ref w_TRUE) by simp +decide [own_of])
      have N20 := Fr.app N19 N20q
      have e20 : T20.heap = h0 := e20q
      have hc166 : ¬ ((1 : Int32) = (0 : Int32)) := (by decide)
      have hc171 : ¬ ((1 : Int32) = (0 : Int32)) := (by decide)
      have hc176 : ¬ ((1 : Int32) = (0 : Int32)) := (by decide)
      have hc181 : ¬ ((1 : Int32) = (0 : Int32)) := (by decide)
      obtain ⟨fs, hr, hrun, hended, hW, hsame⟩ := X20.leave (v := some (.int (1 : Int32))) (fun h => by rw [Bd.returns] at h; cases h) hlk
      refine ⟨_, _, K2 _ ?_, hrun, hended, _, _, rfl, ?_, ⟨_, rfl⟩, hW, hsame.mono (by decide) (by decide)⟩
      ·
        show Steps p.tables e below (s₁.setTop (mkF m 15 #[.val (.int p0), .val (.int p1), .val (.int (0 : Int32)), .unset, .unset, .unset, .unset, .unset, .unset, .unset] [(.int (p1 &&& (1 : Int32)))])) _
        refine XS.ifNo X0.here hx rfl (hb hby at_15) rfl ((if0 _ _).trans (feq hc15).1) ?_
        show Steps p.tables e below (s₁.setTop (mkF m 18 #[.val (.int p0), .val (.int p1), .val (.int (0 : Int32)), .unset, .unset, .unset, .unset, .unset, .unset, .unset] [])) _
        refine XS.iconst X0.here hx rfl (hb hby at_18) ?_
        show Steps p.tables e below (s₁.setTop (mkF m 19 #[.val (.int p0), .val (.int p1), .val (.int (0 : Int32)), .unset, .unset, .unset, .unset, .unset, .unset, .unset] [(.int (1 : Int32))])) _
        refine XS.goto X0.here hx rfl (pc0 := 19) (pc' := 23) rfl (hb hby at_19) (by decide) (by decide) ?_
        show Steps p.tables e below (s₁.setTop (mkF m 23 #[.val (.int p0), .val (.int p1), .val (.int (0 : Int32)), .unset, .unset, .unset, .unset, .unset, .unset, .unset] [(.int (1 : Int32))])) _
        refine XS.istoreN X0.here hx rfl (hb hby at_23) rfl (l' := #[.val (.int p0), .val (.int p1), .val (.int (0 : Int32)), .val (.int (1 : Int32)), .unset, .unset, .unset, .unset, .unset, .unset]) rfl ?_
        show Steps p.tables e below (s₁.setTop (mkF m 24 #[.val (.int p0), .val (.int p1), .val (.int (0 : Int32)), .val (.int (1 : Int32)), .unset, .unset, .unset, .unset, .unset, .unset] [])) _
        refine XS.iloadN X0.here hx rfl (hb hby at_24) rfl ?_
        show Steps p.tables e below (s₁.setTop (mkF m 25 #[.val (.int p0), .val (.int p1), .val (.int (0 : Int32)), .val (.int (1 : Int32)), .unset, .unset, .unset, .unset, .unset, .unset] [(.int (0 : Int32))])) _
        refine st12 _ ?_
        show Steps p.tables e below (T12.setTop (mkF m 28 #[.val (.int p0), .val (.int p1), .val (.int (0 : Int32)), .val (.int (1 : Int32)), .unset, .unset, .unset, .unset, .unset, .unset] [(.ref w_FALSE)])) _
        refine XS.astore X12.here hx rfl (hb hby at_28) rfl rfl (l' := #[.val (.int p0), .val (.int p1), .val (.int (0 : Int32)), .val (.int (1 : Int32)), .val (.ref w_FALSE), .unset, .unset, .unset, .unset, .unset]) rfl ?_
        show Steps p.tables e below (T12.setTop (mkF m 30 #[.val (.int p0), .val (.int p1), .val (.int (0 : Int32)), .val (.int (1 : Int32)), .val (.ref w_FALSE), .unset, .unset, .unset, .unset, .unset] [])) _
        refine XS.iloadN X12.here hx rfl (hb hby at_30) rfl ?_
        show Steps p.tables e below (T12.setTop (mkF m 31 #[.val (.int p0), .val (.int p1), .val (.int (0 : Int32)), .val (.int (1 : Int32)), .val (.ref w_FALSE), .unset, .unset, .unset, .unset, .unset] [(.int (1 : Int32))])) _
        refine st13 _ ?_
        show Steps p.tables e below (T13.setTop (mkF m 34 #[.val (.int p0), .val (.int p1), .val (.int (0 : Int32)), .val (.int (1 : Int32)), .val (.ref w_FALSE), .unset, .unset, .unset, .unset, .unset] [(.ref w_TRUE)])) _
        refine XS.astore X13.here hx rfl (hb hby at_34) rfl rfl (l' := #[.val (.int p0), .val (.int p1), .val (.int (0 : Int32)), .val (.int (1 : Int32)), .val (.ref w_FALSE), .val (.ref w_TRUE), .unset, .unset, .unset, .unset]) rfl ?_
        show Steps p.tables e below (T13.setTop (mkF m 36 #[.val (.int p0), .val (.int p1), .val (.int (0 : Int32)), .val (.int (1 : Int32)), .val (.ref w_FALSE), .val (.ref w_TRUE), .unset, .unset, .unset, .unset] [])) _
        refine XS.iloadN X13.here hx rfl (hb hby at_36) rfl ?_
        show Steps p.tables e below (T13.setTop (mkF m 37 #[.val (.int p0), .val (.int p1), .val (.int (0 : Int32)), .val (.int (1 : Int32)), .val (.ref w_FALSE), .val (.ref w_TRUE), .unset, .unset, .unset, .unset] [(.int (0 : Int32))])) _
        refine XS.ifYes X13.here hx rfl (pc0 := 37) (pc' := 56) rfl (hb hby at_37) rfl ((if0 _ _).trans (teq hc37).1) (by decide) (by decide) ?_
        show Steps p.tables e below (T13.setTop (mkF m 56 #[.val (.int p0), .val (.int p1), .val (.int (0 : Int32)), .val (.int (1 : Int32)), .val (.ref w_FALSE), .val (.ref w_TRUE), .unset, .unset, .unset, .unset] [])) _
        refine XS.aload X13.here hx rfl (hb hby at_56) rfl rfl ?_
        show Steps p.tables e below (T13.setTop (mkF m 58 #[.val (.int p0), .val (.int p1), .val (.int (0 : Int32)), .val (.int (1 : Int32)), .val (.ref w_FALSE), .val (.ref w_TRUE), .unset, .unset, .unset, .unset] [(.ref w_FALSE)])) _
        refine st14 _ ?_
        show Steps p.tables e below (T14.setTop (mkF m 61 #[.val (.int p0), .val (.int p1), .val (.int (0 : Int32)), .val (.int (1 : Int32)), .val (.ref w_FALSE), .val (.ref w_TRUE), .unset, .unset, .unset, .unset] [(.ref w_FALSE), (.ref w_FALSE)])) _
        refine Jvm.RoadKit.acmp (g := (mkF m 61 #[.val (.int p0), .val (.int p1), .val (.int (0 : Int32)), .val (.int (1 : Int32)), .val (.ref w_FALSE), .val (.ref w_TRUE), .unset, .unset, .unset, .unset] [(.ref w_FALSE), (.ref w_FALSE)])) X14 hx rfl rfl rfl (pc0 := 61) (pc' := 64) (same := true) rfl (hb hby at_61) rfl (decide_eq_true rfl) (by decide) (by decide) ?_
        show Steps p.tables e below (T14.setTop (mkF m 64 #[.val (.int p0), .val (.int p1), .val (.int (0 : Int32)), .val (.int (1 : Int32)), .val (.ref w_FALSE), .val (.ref w_TRUE), .unset, .unset, .unset, .unset] [])) _
        refine XS.iconst X14.here hx rfl (hb hby at_64) ?_
        show Steps p.tables e below (T14.setTop (mkF m 65 #[.val (.int p0), .val (.int p1), .val (.int (0 : Int32)), .val (.int (1 : Int32)), .val (.ref w_FALSE), .val (.ref w_TRUE), .unset, .unset, .unset, .unset] [(.int (1 : Int32))])) _
        refine XS.goto X14.here hx rfl (pc0 := 65) (pc' := 69) rfl (hb hby at_65) (by decide) (by decide) ?_
        show Steps p.tables e below (T14.setTop (mkF m 69 #[.val (.int p0), .val (.int p1), .val (.int (0 : Int32)), .val (.int (1 : Int32)), .val (.ref w_FALSE), .val (.ref w_TRUE), .unset, .unset, .unset, .unset] [(.int (1 : Int32))])) _
        refine XS.istore X14.here hx rfl (hb hby at_69) rfl (l' := #[.val (.int p0), .val (.int p1), .val (.int (0 : Int32)), .val (.int (1 : Int32)), .val (.ref w_FALSE), .val (.ref w_TRUE), .val (.int (1 : Int32)), .unset, .unset, .unset]) rfl ?_
        show Steps p.tables e below (T14.setTop (mkF m 71 #[.val (.int p0), .val (.int p1), .val (.int (0 : Int32)), .val (.int (1 : Int32)), .val (.ref w_FALSE), .val (.ref w_TRUE), .val (.int (1 : Int32)), .unset, .unset, .unset] [])) _
        refine XS.aload X14.here hx rfl (hb hby at_71) rfl rfl ?_
        show Steps p.tables e below (T14.setTop (mkF m 73 #[.val (.int p0), .val (.int p1), .val (.int (0 : Int32)), .val (.int (1 : Int32)), .val (.ref w_FALSE), .val (.ref w_TRUE), .val (.int (1 : Int32)), .unset, .unset, .unset] [(.ref w_FALSE)])) _
        refine XS.aload X14.here hx rfl (hb hby at_73) rfl rfl ?_
        show Steps p.tables e below (T14.setTop (mkF m 75 #[.val (.int p0), .val (.int p1), .val (.int (0 : Int32)), .val (.int (1 : Int32)), .val (.ref w_FALSE), .val (.ref w_TRUE), .val (.int (1 : Int32)), .unset, .unset, .unset] [(.ref w_TRUE), (.ref w_FALSE)])) _
        refine st15.trans ?_
        show Steps p.tables e below (T15.setTop (mkF m 78 #[.val (.int p0), .val (.int p1), .val (.int (0 : Int32)), .val (.int (1 : Int32)), .val (.ref w_FALSE), .val (.ref w_TRUE), .val (.int (1 : Int32)), .unset, .unset, .unset] [(.ref w_FALSE)])) _
        refine XS.iloadN X15.here hx rfl (hb hby at_78) rfl ?_
        show Steps p.tables e below (T15.setTop (mkF m 79 #[.val (.int p0), .val (.int p1), .val (.int (0 : Int32)), .val (.int (1 : Int32)), .val (.ref w_FALSE), .val (.ref w_TRUE), .val (.int (1 : Int32)), .unset, .unset, .unset] [(.int (0 : Int32)), (.ref w_FALSE)])) _
        refine XS.ifYes X15.here hx rfl (pc0 := 79) (pc' := 90) rfl (hb hby at_79) rfl ((if0 _ _).trans (teq hc79).1) (by decide) (by decide) ?_
        show Steps p.tables e below (T15.setTop (mkF m 90 #[.val (.int p0), .val (.int p1), .val (.int (0 : Int32)), .val (.int (1 : Int32)), .val (.ref w_FALSE), .val (.ref w_TRUE), .val (.int (1 : Int32)), .unset, .unset, .unset] [(.ref w_FALSE)])) _
        refine XS.iconst X15.here hx rfl (hb hby at_90) ?_
        show Steps p.tables e below (T15.setTop (mkF m 91 #[.val (.int p0), .val (.int p1), .val (.int (0 : Int32)), .val (.int (1 : Int32)), .val (.ref w_FALSE), .val (.ref w_TRUE), .val (.int (1 : Int32)), .unset, .unset, .unset] [(.int (0 : Int32)), (.ref w_FALSE)])) _
        refine st16 _ ?_
        show Steps p.tables e below (T16.setTop (mkF m 94 #[.val (.int p0), .val (.int p1), .val (.int (0 : Int32)), .val (.int (1 : Int32)), .val (.ref w_FALSE), .val (.ref w_TRUE), .val (.int (1 : Int32)), .unset, .unset, .unset] [(.ref w_FALSE), (.ref w_FALSE)])) _
        refine Jvm.RoadKit.acmp (g := (mkF m 94 #[.val (.int p0), .val (.int p1), .val (.int (0 : Int32)), .val (.int (1 : Int32)), .val (.ref w_FALSE), .val (.ref w_TRUE), .val (.int (1 : Int32)), .unset, .unset, .unset] [(.ref w_FALSE), (.ref w_FALSE)])) X16 hx rfl rfl rfl (pc0 := 94) (pc' := 97) (same := true) rfl (hb hby at_94) rfl (decide_eq_true rfl) (by decide) (by decide) ?_
        show Steps p.tables e below (T16.setTop (mkF m 97 #[.val (.int p0), .val (.int p1), .val (.int (0 : Int32)), .val (.int (1 : Int32)), .val (.ref w_FALSE), .val (.ref w_TRUE), .val (.int (1 : Int32)), .unset, .unset, .unset] [])) _
        refine XS.iconst X16.here hx rfl (hb hby at_97) ?_
        show Steps p.tables e below (T16.setTop (mkF m 98 #[.val (.int p0), .val (.int p1), .val (.int (0 : Int32)), .val (.int (1 : Int32)), .val (.ref w_FALSE), .val (.ref w_TRUE), .val (.int (1 : Int32)), .unset, .unset, .unset] [(.int (1 : Int32))])) _
        refine XS.goto X16.here hx rfl (pc0 := 98) (pc' := 102) rfl (hb hby at_98) (by decide) (by decide) ?_
        show Steps p.tables e below (T16.setTop (mkF m 102 #[.val (.int p0), .val (.int p1), .val (.int (0 : Int32)), .val (.int (1 : Int32)), .val (.ref w_FALSE), .val (.ref w_TRUE), .val (.int (1 : Int32)), .unset, .unset, .unset] [(.int (1 : Int32))])) _
        refine XS.istore X16.here hx rfl (hb hby at_102) rfl (l' := #[.val (.int p0), .val (.int p1), .val (.int (0 : Int32)), .val (.int (1 : Int32)), .val (.ref w_FALSE), .val (.ref w_TRUE), .val (.int (1 : Int32)), .val (.int (1 : Int32)), .unset, .unset]) rfl ?_
        show Steps p.tables e below (T16.setTop (mkF m 104 #[.val (.int p0), .val (.int p1), .val (.int (0 : Int32)), .val (.int (1 : Int32)), .val (.ref w_FALSE), .val (.ref w_TRUE), .val (.int (1 : Int32)), .val (.int (1 : Int32)), .unset, .unset] [])) _
        refine XS.aload X16.here hx rfl (hb hby at_104) rfl rfl ?_
        show Steps p.tables e below (T16.setTop (mkF m 106 #[.val (.int p0), .val (.int p1), .val (.int (0 : Int32)), .val (.int (1 : Int32)), .val (.ref w_FALSE), .val (.ref w_TRUE), .val (.int (1 : Int32)), .val (.int (1 : Int32)), .unset, .unset] [(.ref w_FALSE)])) _
        refine XS.aload X16.here hx rfl (hb hby at_106) rfl rfl ?_
        show Steps p.tables e below (T16.setTop (mkF m 108 #[.val (.int p0), .val (.int p1), .val (.int (0 : Int32)), .val (.int (1 : Int32)), .val (.ref w_FALSE), .val (.ref w_TRUE), .val (.int (1 : Int32)), .val (.int (1 : Int32)), .unset, .unset] [(.ref w_TRUE), (.ref w_FALSE)])) _
        refine st17.trans ?_
        show Steps p.tables e below (T17.setTop (mkF m 111 #[.val (.int p0), .val (.int p1), .val (.int (0 : Int32)), .val (.int (1 : Int32)), .val (.ref w_FALSE), .val (.ref w_TRUE), .val (.int (1 : Int32)), .val (.int (1 : Int32)), .unset, .unset] [(.ref w_TRUE)])) _
        refine XS.iloadN X17.here hx rfl (hb hby at_111) rfl ?_
        show Steps p.tables e below (T17.setTop (mkF m 112 #[.val (.int p0), .val (.int p1), .val (.int (0 : Int32)), .val (.int (1 : Int32)), .val (.ref w_FALSE), .val (.ref w_TRUE), .val (.int (1 : Int32)), .val (.int (1 : Int32)), .unset, .unset] [(.int (0 : Int32)), (.ref w_TRUE)])) _
        refine XS.ifNo X17.here hx rfl (hb hby at_112) rfl ((if0 _ _).trans (teq hc112).2) ?_
        show Steps p.tables e below (T17.setTop (mkF m 115 #[.val (.int p0), .val (.int p1), .val (.int (0 : Int32)), .val (.int (1 : Int32)), .val (.ref w_FALSE), .val (.ref w_TRUE), .val (.int (1 : Int32)), .val (.int (1 : Int32)), .unset, .unset] [(.ref w_TRUE)])) _
        refine XS.iloadN X17.here hx rfl (hb hby at_115) rfl ?_
        show Steps p.tables e below (T17.setTop (mkF m 116 #[.val (.int p0), .val (.int p1), .val (.int (0 : Int32)), .val (.int (1 : Int32)), .val (.ref w_FALSE), .val (.ref w_TRUE), .val (.int (1 : Int32)), .val (.int (1 : Int32)), .unset, .unset] [(.int (1 : Int32)), (.ref w_TRUE)])) _
        refine XS.ifNo X17.here hx rfl (hb hby at_116) rfl ((if0 _ _).trans (feq hc116).1) ?_
        show Steps p.tables e below (T17.setTop (mkF m 119 #[.val (.int p0), .val (.int p1), .val (.int (0 : Int32)), .val (.int (1 : Int32)), .val (.ref w_FALSE), .val (.ref w_TRUE), .val (.int (1 : Int32)), .val (.int (1 : Int32)), .unset, .unset] [(.ref w_TRUE)])) _
        refine XS.iconst X17.here hx rfl (hb hby at_119) ?_
        show Steps p.tables e below (T17.setTop (mkF m 120 #[.val (.int p0), .val (.int p1), .val (.int (0 : Int32)), .val (.int (1 : Int32)), .val (.ref w_FALSE), .val (.ref w_TRUE), .val (.int (1 : Int32)), .val (.int (1 : Int32)), .unset, .unset] [(.int (1 : Int32)), (.ref w_TRUE)])) _
        refine XS.goto X17.here hx rfl (pc0 := 120) (pc' := 124) rfl (hb hby at_120) (by decide) (by decide) ?_
        show Steps p.tables e below (T17.setTop (mkF m 124 #[.val (.int p0), .val (.int p1), .val (.int (0 : Int32)), .val (.int (1 : Int32)), .val (.ref w_FALSE), .val (.ref w_TRUE), .val (.int (1 : Int32)), .val (.int (1 : Int32)), .unset, .unset] [(.int (1 : Int32)), (.ref w_TRUE)])) _
        refine st18 _ ?_
        show Steps p.tables e below (T18.setTop (mkF m 127 #[.val (.int p0), .val (.int p1), .val (.int (0 : Int32)), .val (.int (1 : Int32)), .val (.ref w_FALSE), .val (.ref w_TRUE), .val (.int (1 : Int32)), .val (.int (1 : Int32)), .unset, .unset] [(.ref w_TRUE), (.ref w_TRUE)])) _
        refine Jvm.RoadKit.acmp (g := (mkF m 127 #[.val (.int p0), .val (.int p1), .val (.int (0 : Int32)), .val (.int (1 : Int32)), .val (.ref w_FALSE), .val (.ref w_TRUE), .val (.int (1 : Int32)), .val (.int (1 : Int32)), .unset, .unset] [(.ref w_TRUE), (.ref w_TRUE)])) X18 hx rfl rfl rfl (pc0 := 127) (pc' := 130) (same := true) rfl (hb hby at_127) rfl (decide_eq_true rfl) (by decide) (by decide) ?_
        show Steps p.tables e below (T18.setTop (mkF m 130 #[.val (.int p0), .val (.int p1), .val (.int (0 : Int32)), .val (.int (1 : Int32)), .val (.ref w_FALSE), .val (.ref w_TRUE), .val (.int (1 : Int32)), .val (.int (1 : Int32)), .unset, .unset] [])) _
        refine XS.iconst X18.here hx rfl (hb hby at_130) ?_
        show Steps p.tables e below (T18.setTop (mkF m 131 #[.val (.int p0), .val (.int p1), .val (.int (0 : Int32)), .val (.int (1 : Int32)), .val (.ref w_FALSE), .val (.ref w_TRUE), .val (.int (1 : Int32)), .val (.int (1 : Int32)), .unset, .unset] [(.int (1 : Int32))])) _
        refine XS.goto X18.here hx rfl (pc0 := 131) (pc' := 135) rfl (hb hby at_131) (by decide) (by decide) ?_
        show Steps p.tables e below (T18.setTop (mkF m 135 #[.val (.int p0), .val (.int p1), .val (.int (0 : Int32)), .val (.int (1 : Int32)), .val (.ref w_FALSE), .val (.ref w_TRUE), .val (.int (1 : Int32)), .val (.int (1 : Int32)), .unset, .unset] [(.int (1 : Int32))])) _
        refine XS.istore X18.here hx rfl (hb hby at_135) rfl (l' := #[.val (.int p0), .val (.int p1), .val (.int (0 : Int32)), .val (.int (1 : Int32)), .val (.ref w_FALSE), .val (.ref w_TRUE), .val (.int (1 : Int32)), .val (.int (1 : Int32)), .val (.int (1 : Int32)), .unset]) rfl ?_
        show Steps p.tables e below (T18.setTop (mkF m 137 #[.val (.int p0), .val (.int p1), .val (.int (0 : Int32)), .val (.int (1 : Int32)), .val (.ref w_FALSE), .val (.ref w_TRUE), .val (.int (1 : Int32)), .val (.int (1 : Int32)), .val (.int (1 : Int32)), .unset] [])) _
        refine XS.aload X18.here hx rfl (hb hby at_137) rfl rfl ?_
        show Steps p.tables e below (T18.setTop (mkF m 139 #[.val (.int p0), .val (.int p1), .val (.int (0 : Int32)), .val (.int (1 : Int32)), .val (.ref w_FALSE), .val (.ref w_TRUE), .val (.int (1 : Int32)), .val (.int (1 : Int32)), .val (.int (1 : Int32)), .unset] [(.ref w_FALSE)])) _
        refine st19.trans ?_
        show Steps p.tables e below (T19.setTop (mkF m 142 #[.val (.int p0), .val (.int p1), .val (.int (0 : Int32)), .val (.int (1 : Int32)), .val (.ref w_FALSE), .val (.ref w_TRUE), .val (.int (1 : Int32)), .val (.int (1 : Int32)), .val (.int (1 : Int32)), .unset] [(.ref w_TRUE)])) _
        refine XS.iloadN X19.here hx rfl (hb hby at_142) rfl ?_
        show Steps p.tables e below (T19.setTop (mkF m 143 #[.val (.int p0), .val (.int p1), .val (.int (0 : Int32)), .val (.int (1 : Int32)), .val (.ref w_FALSE), .val (.ref w_TRUE), .val (.int (1 : Int32)), .val (.int (1 : Int32)), .val (.int (1 : Int32)), .unset] [(.int (0 : Int32)), (.ref w_TRUE)])) _
        refine XS.ifNo X19.here hx rfl (hb hby at_143) rfl ((if0 _ _).trans (teq hc143).2) ?_
        show Steps p.tables e below (T19.setTop (mkF m 146 #[.val (.int p0), .val (.int p1), .val (.int (0 : Int32)), .val (.int (1 : Int32)), .val (.ref w_FALSE), .val (.ref w_TRUE), .val (.int (1 : Int32)), .val (.int (1 : Int32)), .val (.int (1 : Int32)), .unset] [(.ref w_TRUE)])) _
        refine XS.iconst X19.here hx rfl (hb hby at_146) ?_
        show Steps p.tables e below (T19.setTop (mkF m 147 #[.val (.int p0), .val (.int p1), .val (.int (0 : Int32)), .val (.int (1 : Int32)), .val (.ref w_FALSE), .val (.ref w_TRUE), .val (.int (1 : Int32)), .val (.int (1 : Int32)), .val (.int (1 : Int32)), .unset] [(.int (1 : Int32)), (.ref w_TRUE)])) _
        refine XS.goto X19.here hx rfl (pc0 := 147) (pc' := 151) rfl (hb hby at_147) (by decide) (by decide) ?_
        show Steps p.tables e below (T19.setTop (mkF m 151 #[.val (.int p0), .val (.int p1), .val (.int (0 : Int32)), .val (.int (1 : Int32)), .val (.ref w_FALSE), .val (.ref w_TRUE), .val (.int (1 : Int32)), .val (.int (1 : Int32)), .val (.int (1 : Int32)), .unset] [(.int (1 : Int32)), (.ref w_TRUE)])) _
        refine st20 _ ?_
        show Steps p.tables e below (T20.setTop (mkF m 154 #[.val (.int p0), .val (.int p1), .val (.int (0 : Int32)), .val (.int (1 : Int32)), .val (.ref w_FALSE), .val (.ref w_TRUE), .val (.int (1 : Int32)), .val (.int (1 : Int32)), .val (.int (1 : Int32)), .unset] [(.ref w_TRUE), (.ref w_TRUE)])) _
        refine Jvm.RoadKit.acmp (g := (mkF m 154 #[.val (.int p0), .val (.int p1), .val (.int (0 : Int32)), .val (.int (1 : Int32)), .val (.ref w_FALSE), .val (.ref w_TRUE), .val (.int (1 : Int32)), .val (.int (1 : Int32)), .val (.int (1 : Int32)), .unset] [(.ref w_TRUE), (.ref w_TRUE)])) X20 hx rfl rfl rfl (pc0 := 154) (pc' := 157) (same := true) rfl (hb hby at_154) rfl (decide_eq_true rfl) (by decide) (by decide) ?_
        show Steps p.tables e below (T20.setTop (mkF m 157 #[.val (.int p0), .val (.int p1), .val (.int (0 : Int32)), .val (.int (1 : Int32)), .val (.ref w_FALSE), .val (.ref w_TRUE), .val (.int (1 : Int32)), .val (.int (1 : Int32)), .val (.int (1 : Int32)), .unset] [])) _
        refine XS.iconst X20.here hx rfl (hb hby at_157) ?_
        show Steps p.tables e below (T20.setTop (mkF m 158 #[.val (.int p0), .val (.int p1), .val (.int (0 : Int32)), .val (.int (1 : Int32)), .val (.ref w_FALSE), .val (.ref w_TRUE), .val (.int (1 : Int32)), .val (.int (1 : Int32)), .val (.int (1 : Int32)), .unset] [(.int (1 : Int32))])) _
        refine XS.goto X20.here hx rfl (pc0 := 158) (pc' := 162) rfl (hb hby at_158) (by decide) (by decide) ?_
        show Steps p.tables e below (T20.setTop (mkF m 162 #[.val (.int p0), .val (.int p1), .val (.int (0 : Int32)), .val (.int (1 : Int32)), .val (.ref w_FALSE), .val (.ref w_TRUE), .val (.int (1 : Int32)), .val (.int (1 : Int32)), .val (.int (1 : Int32)), .unset] [(.int (1 : Int32))])) _
        refine XS.istore X20.here hx rfl (hb hby at_162) rfl (l' := #[.val (.int p0), .val (.int p1), .val (.int (0 : Int32)), .val (.int (1 : Int32)), .val (.ref w_FALSE), .val (.ref w_TRUE), .val (.int (1 : Int32)), .val (.int (1 : Int32)), .val (.int (1 : Int32)), .val (.int (1 : Int32))]) rfl ?_
        show Steps p.tables e below (T20.setTop (mkF m 164 #[.val (.int p0), .val (.int p1), .val (.int (0 : Int32)), .val (.int (1 : Int32)), .val (.ref w_FALSE), .val (.ref w_TRUE), .val (.int (1 : Int32)), .val (.int (1 : Int32)), .val (.int (1 : Int32)), .val (.int (1 : Int32))] [])) _
        refine XS.iload X20.here hx rfl (hb hby at_164) rfl ?_
        show Steps p.tables e below (T20.setTop (mkF m 166 #[.val (.int p0), .val (.int p1), .val (.int (0 : Int32)), .val (.int (1 : Int32)), .val (.ref w_FALSE), .val (.ref w_TRUE), .val (.int (1 : Int32)), .val (.int (1 : Int32)), .val (.int (1 : Int32)), .val (.int (1 : Int32))] [(.int (1 : Int32))])) _
        refine XS.ifNo X20.here hx rfl (hb hby at_166) rfl ((if0 _ _).trans (feq hc166).1) ?_
        show Steps p.tables e below (T20.setTop (mkF m 169 #[.val (.int p0), .val (.int p1), .val (.int (0 : Int32)), .val (.int (1 : Int32)), .val (.ref w_FALSE), .val (.ref w_TRUE), .val (.int (1 : Int32)), .val (.int (1 : Int32)), .val (.int (1 : Int32)), .val (.int (1 : Int32))] [])) _
        refine XS.iload X20.here hx rfl (hb hby at_169) rfl ?_
        show Steps p.tables e below (T20.setTop (mkF m 171 #[.val (.int p0), .val (.int p1), .val (.int (0 : Int32)), .val (.int (1 : Int32)), .val (.ref w_FALSE), .val (.ref w_TRUE), .val (.int (1 : Int32)), .val (.int (1 : Int32)), .val (.int (1 : Int32)), .val (.int (1 : Int32))] [(.int (1 : Int32))])) _
        refine XS.ifNo X20.here hx rfl (hb hby at_171) rfl ((if0 _ _).trans (feq hc171).1) ?_
        show Steps p.tables e below (T20.setTop (mkF m 174 #[.val (.int p0), .val (.int p1), .val (.int (0 : Int32)), .val (.int (1 : Int32)), .val (.ref w_FALSE), .val (.ref w_TRUE), .val (.int (1 : Int32)), .val (.int (1 : Int32)), .val (.int (1 : Int32)), .val (.int (1 : Int32))] [])) _
        refine XS.iload X20.here hx rfl (hb hby at_174) rfl ?_
        show Steps p.tables e below (T20.setTop (mkF m 176 #[.val (.int p0), .val (.int p1), .val (.int (0 : Int32)), .val (.int (1 : Int32)), .val (.ref w_FALSE), .val (.ref w_TRUE), .val (.int (1 : Int32)), .val (.int (1 : Int32)), .val (.int (1 : Int32)), .val (.int (1 : Int32))] [(.int (1 : Int32))])) _
        refine XS.ifNo X20.here hx rfl (hb hby at_176) rfl ((if0 _ _).trans (feq hc176).1) ?_
        show Steps p.tables e below (T20.setTop (mkF m 179 #[.val (.int p0), .val (.int p1), .val (.int (0 : Int32)), .val (.int (1 : Int32)), .val (.ref w_FALSE), .val (.ref w_TRUE), .val (.int (1 : Int32)), .val (.int (1 : Int32)), .val (.int (1 : Int32)), .val (.int (1 : Int32))] [])) _
        refine XS.iload X20.here hx rfl (hb hby at_179) rfl ?_
        show Steps p.tables e below (T20.setTop (mkF m 181 #[.val (.int p0), .val (.int p1), .val (.int (0 : Int32)), .val (.int (1 : Int32)), .val (.ref w_FALSE), .val (.ref w_TRUE), .val (.int (1 : Int32)), .val (.int (1 : Int32)), .val (.int (1 : Int32)), .val (.int (1 : Int32))] [(.int (1 : Int32))])) _
        refine XS.ifNo X20.here hx rfl (hb hby at_181) rfl ((if0 _ _).trans (feq hc181).1) ?_
        show Steps p.tables e below (T20.setTop (mkF m 184 #[.val (.int p0), .val (.int p1), .val (.int (0 : Int32)), .val (.int (1 : Int32)), .val (.ref w_FALSE), .val (.ref w_TRUE), .val (.int (1 : Int32)), .val (.int (1 : Int32)), .val (.int (1 : Int32)), .val (.int (1 : Int32))] [])) _
        refine XS.iconst X20.here hx rfl (hb hby at_184) ?_
        show Steps p.tables e below (T20.setTop (mkF m 185 #[.val (.int p0), .val (.int p1), .val (.int (0 : Int32)), .val (.int (1 : Int32)), .val (.ref w_FALSE), .val (.ref w_TRUE), .val (.int (1 : Int32)), .val (.int (1 : Int32)), .val (.int (1 : Int32)), .val (.int (1 : Int32))] [(.int (1 : Int32))])) _
        refine XS.goto X20.here hx rfl (pc0 := 185) (pc' := 189) rfl (hb hby at_185) (by decide) (by decide) ?_
        show Steps p.tables e below (T20.setTop (mkF m 189 #[.val (.int p0), .val (.int p1), .val (.int (0 : Int32)), .val (.int (1 : Int32)), .val (.ref w_FALSE), .val (.ref w_TRUE), .val (.int (1 : Int32)), .val (.int (1 : Int32)), .val (.int (1 : Int32)), .val (.int (1 : Int32))] [(.int (1 : Int32))])) _
        exact retN X20 hx (t := .boolean) Bd.returns (by simp) (hb hby at_189) hr
      ·
        show Q_rm0 Z p0 p1 w_FALSE w_UNKNOWN w_TRUE h0 n0 _ T20.heap _
        rw [e20]
        exact ⟨rfl, N20⟩
  ·
    have K21 : ∀ t, Steps p.tables e below (s₁.setTop (mkF m 15 #[.val (.int p0), .val (.int p1), .val (.int (1 : Int32)), .unset, .unset, .unset, .unset, .unset, .unset, .unset] [(.int (p1 &&& (1 : Int32)))])) t → Steps p.tables e below (s₁.setTop (entryFrame m #[(.int p0), (.int p1)] maxLocals)) t := by
      intro t kt
      refine K1 t ?_
      show Steps p.tables e below (s₁.setTop (mkF m 3 #[.val (.int p0), .val (.int p1), .unset, .unset, .unset, .unset, .unset, .unset, .unset, .unset] [(.int (p0 &&& (1 : Int32)))])) _
      refine XS.ifNo X0.here hx rfl (hb hby at_3) rfl ((if0 _ _).trans (feq hc3).1) ?_
      show Steps p.tables e below (s₁.setTop (mkF m 6 #[.val (.int p0), .val (.int p1), .unset, .unset, .unset, .unset, .unset, .unset, .unset, .unset] [])) _
      refine XS.iconst X0.here hx rfl (hb hby at_6) ?_
      show Steps p.tables e below (s₁.setTop (mkF m 7 #[.val (.int p0), .val (.int p1), .unset, .unset, .unset, .unset, .unset, .unset, .unset, .unset] [(.int (1 : Int32))])) _
      refine XS.goto X0.here hx rfl (pc0 := 7) (pc' := 11) rfl (hb hby at_7) (by decide) (by decide) ?_
      show Steps p.tables e below (s₁.setTop (mkF m 11 #[.val (.int p0), .val (.int p1), .unset, .unset, .unset, .unset, .unset, .unset, .unset, .unset] [(.int (1 : Int32))])) _
      refine XS.istoreN X0.here hx rfl (hb hby at_11) rfl (l' := #[.val (.int p0), .val (.int p1), .val (.int (1 : Int32)), .unset, .unset, .unset, .unset, .unset, .unset, .unset]) rfl ?_
      show Steps p.tables e below (s₁.setTop (mkF m 12 #[.val (.int p0), .val (.int p1), .val (.int (1 : Int32)), .unset, .unset, .unset, .unset, .unset, .unset, .unset] [])) _
      refine XS.iloadN X0.here hx rfl (hb hby at_12) rfl ?_
      show Steps p.tables e below (s₁.setTop (mkF m 13 #[.val (.int p0), .val (.int p1), .val (.int (1 : Int32)), .unset, .unset, .unset, .unset, .unset, .unset, .unset] [(.int p1)])) _
      refine XS.iconst X0.here hx rfl (hb hby at_13) ?_
      show Steps p.tables e below (s₁.setTop (mkF m 14 #[.val (.int p0), .val (.int p1), .val (.int (1 : Int32)), .unset, .unset, .unset, .unset, .unset, .unset, .unset] [(.int (1 : Int32)), (.int p1)])) _
      refine XS.iand X0.here hx rfl (hb hby at_14) rfl ?_
      exact kt
    by_cases hc15 : (p1 &&& (1 : Int32)) = (0 : Int32)
    ·
      obtain ⟨_, _, ⟨T22, L22, k22, n22⟩, -, X22, ⟨Lc22, hQ22, l22, y22, z22⟩, st22⟩ := Jvm.LawKit.callS X0 hx (y := (⟨"com/example/clearance_for_data/clearancefordata/expression/Truth", "of", "(Z)Lcom/example/clearance_for_data/clearancefordata/expression/Truth;"⟩ : MethodName)) hown (mvT hZ (hw _ (List.mem_of_getElem? (i := 0) rfl))) (mvT hZ (hw _ (List.mem_of_getElem? (i := 1) rfl))) (mvT hZ (hw _ (List.mem_of_getElem? (i := 2) rfl))) (mvT hZ (hw _ (List.mem_of_getElem? (i := 3) rfl))) (by decide) (backOf (W := 0) (rm1 l Z a0 hw [] (1 : Int32) w_FALSE w_TRUE h0 n0 Zn S_FALSE S_TRUE) hZ (hw _ (List.mem_of_getElem? (i := 3) rfl)) (hw _ (List.mem_of_getElem? (i := 2) rfl)) (by decide) (by decide)) (g := (mkF m 25 #[.val (.int p0), .val (.int p1), .val (.int (1 : Int32)), .val (.int (0 : Int32)), .unset, .unset, .unset, .unset, .unset, .unset] [(.int (1 : Int32))])) rfl (by rw [hml]; rfl) (argsL := [(.int (1 : Int32))]) (rest := []) (lenOf pd_3 rfl) rfl (by show 2 * 0 + _ ≤ _; exact Nat.le_of_eq rfl) (hb hby at_25) (fun _ _ => ⟨rfl, e0, (by decide : 0 + 0 ≤ _), (by decide : 0 + 0 ≤ _)⟩)
      dsimp only [Pt.U, Pt.locs, Pt.cells, Pt.slots] at X22 l22 y22 z22 st22 hQ22
      subst l22 y22 z22
      obtain ⟨hv22, N22q, e22q⟩ := hQ22
      obtain rfl := hv22.trans (show some (Value.ref (own_of (1 : Int32) w_FALSE w_TRUE)) = some (.ref w_TRUE) by simp +decide [own_of])
      have N22 := Fr.app N0 N22q
      have e22 : T22.heap = h0 := e22q
      obtain ⟨_, _, ⟨T23, L23, k23, n23⟩, -, X23, ⟨Lc23, hQ23, l23, y23, z23⟩, st23⟩ := Jvm.LawKit.callS X22 hx (y := (⟨"com/example/clearance_for_data/clearancefordata/expression/Truth", "of", "(Z)Lcom/example/clearance_for_data/clearancefordata/expression/Truth;"⟩ : MethodName)) hown (mvT hZ (hw _ (List.mem_of_getElem? (i := 0) rfl))) (mvT hZ (hw _ (List.mem_of_getElem? (i := 1) rfl))) (mvT hZ (hw _ (List.mem_of_getElem? (i := 2) rfl))) (mvT hZ (hw _ (List.mem_of_getElem? (i := 3) rfl))) (by decide) (backOf (W := 0) (rm1 l Z a0 hw [] (0 : Int32) w_FALSE w_TRUE h0 n0 Zn S_FALSE S_TRUE) hZ (hw _ (List.mem_of_getElem? (i := 3) rfl)) (hw _ (List.mem_of_getElem? (i := 2) rfl)) (by decide) (by decide)) (g := (mkF m 31 #[.val (.int p0), .val (.int p1), .val (.int (1 : Int32)), .val (.int (0 : Int32)), .val (.ref w_TRUE), .unset, .unset, .unset, .unset, .unset] [(.int (0 : Int32))])) rfl (by rw [hml]; rfl) (argsL := [(.int (0 : Int32))]) (rest := []) (lenOf pd_3 rfl) rfl (by show 2 * 0 + _ ≤ _; exact Nat.le_of_eq rfl) (hb hby at_31) (fun _ _ => ⟨rfl, e22, (by decide : 0 + 0 ≤ _), (by decide : 0 + 0 ≤ _)⟩)
      dsimp only [Pt.U, Pt.locs, Pt.cells, Pt.slots] at X23 l23 y23 z23 st23 hQ23
      subst l23 y23 z23
      obtain ⟨hv23, N23q, e23q⟩ := hQ23
      obtain rfl := hv23.trans (show some (Value.ref (own_of (0 : Int32) w_FALSE w_TRUE)) = some (.ref w_FALSE) by simp +decide [own_of])
      have N23 := Fr.app N22 N23q
      have e23 : T23.heap = h0 := e23q
      have hc37 : ¬ ((1 : Int32) = (0 : Int32)) := (by decide)
      obtain ⟨T24, X24, e24, st24⟩ := getS2 X23 hx hZ hown (host := "") (Or.inl (hw _ (List.mem_of_getElem? (i := 35) rfl))) Via.refl e23 S_TRUE (g := (mkF m 42 #[.val (.int p0), .val (.int p1), .val (.int (1 : Int32)), .val (.int (0 : Int32)), .val (.ref w_TRUE), .val (.ref w_FALSE), .unset, .unset, .unset, .unset] [(.ref w_TRUE)])) rfl (hb hby at_42)
      obtain ⟨cq25, kq25, q25a, q25b, q25c⟩ := isOf hZ e24 E_w_TRUE
      obtain ⟨_, _, ⟨T25, L25, k25, n25⟩, -, X25, ⟨Lc25, hQ25, l25, y25, z25⟩, st25⟩ := X24.virtualBack hx (y := (⟨"com/example/clearance_for_data/clearancefordata/expression/Truth", "and", "(Lcom/example/clearance_for_data/clearancefordata/expression/Truth;)Lcom/example/clearance_for_data/clearancefordata/expression/Truth;"⟩ : MethodName)) (z := (⟨"com/example/clearance_for_data/clearancefordata/expression/Truth", "and", "(Lcom/example/clearance_for_data/clearancefordata/expression/Truth;)Lcom/example/clearance_for_data/clearancefordata/expression/Truth;"⟩ : MethodName)) hown (mvT hZ (hw _ (List.mem_of_getElem? (i := 9) rfl))) (mvT hZ (hw _ (List.mem_of_getElem? (i := 10) rfl))) (notFace_of_selects (args := #[]) (mvT hZ (hw _ (List.mem_of_getElem? (i := 12) rfl)))) (mvT hZ (hw _ (List.mem_of_getElem? (i := 12) rfl))) (mvT hZ (hw _ (List.mem_of_getElem? (i := 11) rfl))) (by decide) (backOf (W := 0) (rm2 l Z a0 hw [] w_TRUE w_FALSE w_FALSE w_UNKNOWN w_TRUE h0 n0 Zn S_FALSE S_UNKNOWN S_TRUE) hZ (hw _ (List.mem_of_getElem? (i := 13) rfl)) (hw _ (List.mem_of_getElem? (i := 2) rfl)) (by decide) (by decide)) q25a q25c (g := (mkF m 75 #[.val (.int p0), .val (.int p1), .val (.int (1 : Int32)), .val (.int (0 : Int32)), .val (.ref w_TRUE), .val (.ref w_FALSE), .val (.int (1 : Int32)), .unset, .unset, .unset] [(.ref w_FALSE), (.ref w_TRUE)])) rfl (by rw [hml]; rfl) (Steps.refl _) (argsL := [(.ref w_FALSE)]) (rest := []) (lenOf pd_4 rfl) rfl (by show 2 * 0 + _ ≤ _; exact Nat.le_of_eq rfl) (hb hby at_75) (fun _ _ => ⟨rfl, e24, (by decide : 0 + 0 ≤ _), (by decide : 0 + 0 ≤ _)⟩)
      dsimp only [Pt.U, Pt.locs, Pt.cells, Pt.slots] at X25 l25 y25 z25 st25 hQ25
      subst l25 y25 z25
      obtain ⟨hv25, N25q, e25q⟩ := hQ25
      obtain rfl := hv25.trans (show some (Value.ref (own_and w_TRUE w_FALSE w_FALSE w_UNKNOWN w_TRUE)) = some (.ref w_FALSE) by simp +decide [own_and, (own_dis o_FALSE o_UNKNOWN (by decide)), (own_dis o_FALSE o_TRUE (by decide)), (own_dis o_UNKNOWN o_FALSE (by decide)), (own_dis o_UNKNOWN o_TRUE (by decide)), (own_dis o_TRUE o_FALSE (by decide)), (own_dis o_TRUE o_UNKNOWN (by decide))])
      have N25 := Fr.app N23 N25q
      have e25 : T25.heap = h0 := e25q
      have hc79 : ¬ ((1 : Int32) = (0 : Int32)) := (by decide)
      have hc83 : (0 : Int32) = (0 : Int32) := (by decide)
      obtain ⟨_, _, ⟨T26, L26, k26, n26⟩, -, X26, ⟨Lc26, hQ26, l26, y26, z26⟩, st26⟩ := Jvm.LawKit.callS X25 hx (y := (⟨"com/example/clearance_for_data/clearancefordata/expression/Truth", "of", "(Z)Lcom/example/clearance_for_data/clearancefordata/expression/Truth;"⟩ : MethodName)) hown (mvT hZ (hw _ (List.mem_of_getElem? (i := 0) rfl))) (mvT hZ (hw _ (List.mem_of_getElem? (i := 1) rfl))) (mvT hZ (hw _ (List.mem_of_getElem? (i := 2) rfl))) (mvT hZ (hw _ (List.mem_of_getElem? (i := 3) rfl))) (by decide) (backOf (W := 1) (rm1 l Z a0 hw [] (0 : Int32) w_FALSE w_TRUE h0 n0 Zn S_FALSE S_TRUE) hZ (hw _ (List.mem_of_getElem? (i := 3) rfl)) (hw _ (List.mem_of_getElem? (i := 2) rfl)) (by decide) (by decide)) (g := (mkF m 91 #[.val (.int p0), .val (.int p1), .val (.int (1 : Int32)), .val (.int (0 : Int32)), .val (.ref w_TRUE), .val (.ref w_FALSE), .val (.int (1 : Int32)), .unset, .unset, .unset] [(.int (0 : Int32)), (.ref w_FALSE)])) rfl (by rw [hml]; rfl) (argsL := [(.int (0 : Int32))]) (rest := [(.ref w_FALSE)]) (lenOf pd_3 rfl) rfl (by show 2 * 0 + _ ≤ _; exact Nat.le_of_eq rfl) (hb hby at_91) (fun _ _ => ⟨rfl, e25, (by decide : 0 + 0 ≤ _), (by decide : 0 + 0 ≤ _)⟩)
      dsimp only [Pt.U, Pt.locs, Pt.cells, Pt.slots] at X26 l26 y26 z26 st26 hQ26
      subst l26 y26 z26
      obtain ⟨hv26, N26q, e26q⟩ := hQ26
      obtain rfl := hv26.trans (show some (Value.ref (own_of (0 : Int32) w_FALSE w_TRUE)) = some (.ref w_FALSE) by simp +decide [own_of])
      have N26 := Fr.app N25 N26q
      have e26 : T26.heap = h0 := e26q
      obtain ⟨cq27, kq27, q27a, q27b, q27c⟩ := isOf hZ e26 E_w_TRUE
      obtain ⟨_, _, ⟨T27, L27, k27, n27⟩, -, X27, ⟨Lc27, hQ27, l27, y27, z27⟩, st27⟩ := X26.virtualBack hx (y := (⟨"com/example/clearance_for_data/clearancefordata/expression/Truth", "or", "(Lcom/example/clearance_for_data/clearancefordata/expression/Truth;)Lcom/example/clearance_for_data/clearancefordata/expression/Truth;"⟩ : MethodName)) (z := (⟨"com/example/clearance_for_data/clearancefordata/expression/Truth", "or", "(Lcom/example/clearance_for_data/clearancefordata/expression/Truth;)Lcom/example/clearance_for_data/clearancefordata/expression/Truth;"⟩ : MethodName)) hown (mvT hZ (hw _ (List.mem_of_getElem? (i := 14) rfl))) (mvT hZ (hw _ (List.mem_of_getElem? (i := 15) rfl))) (notFace_of_selects (args := #[]) (mvT hZ (hw _ (List.mem_of_getElem? (i := 17) rfl)))) (mvT hZ (hw _ (List.mem_of_getElem? (i := 17) rfl))) (mvT hZ (hw _ (List.mem_of_getElem? (i := 16) rfl))) (by decide) (backOf (W := 0) (rm3 l Z a0 hw [] w_TRUE w_FALSE w_FALSE w_UNKNOWN w_TRUE h0 n0 Zn S_FALSE S_UNKNOWN S_TRUE) hZ (hw _ (List.mem_of_getElem? (i := 18) rfl)) (hw _ (List.mem_of_getElem? (i := 2) rfl)) (by decide) (by decide)) q27a q27c (g := (mkF m 108 #[.val (.int p0), .val (.int p1), .val (.int (1 : Int32)), .val (.int (0 : Int32)), .val (.ref w_TRUE), .val (.ref w_FALSE), .val (.int (1 : Int32)), .val (.int (1 : Int32)), .unset, .unset] [(.ref w_FALSE), (.ref w_TRUE)])) rfl (by rw [hml]; rfl) (Steps.refl _) (argsL := [(.ref w_FALSE)]) (rest := []) (lenOf pd_4 rfl) rfl (by show 2 * 0 + _ ≤ _; exact Nat.le_of_eq rfl) (hb hby at_108) (fun _ _ => ⟨rfl, e26, (by decide : 0 + 0 ≤ _), (by decide : 0 + 0 ≤ _)⟩)
      dsimp only [Pt.U, Pt.locs, Pt.cells, Pt.slots] at X27 l27 y27 z27 st27 hQ27
      subst l27 y27 z27
      obtain ⟨hv27, N27q, e27q⟩ := hQ27
      obtain rfl := hv27.trans (show some (Value.ref (own_or w_TRUE w_FALSE w_FALSE w_UNKNOWN w_TRUE)) = some (.ref w_TRUE) by simp +decide [own_or, (own_dis o_FALSE o_UNKNOWN (by decide)), (own_dis o_FALSE o_TRUE (by decide)), (own_dis o_UNKNOWN o_FALSE (by decide)), (own_dis o_UNKNOWN o_TRUE (by decide)), (own_dis o_TRUE o_FALSE (by decide)), (own_dis o_TRUE o_UNKNOWN (by decide))])
      have N27 := Fr.app N26 N27q
      have e27 : T27.heap = h0 := e27q
      have hc112 : ¬ ((1 : Int32) = (0 : Int32)) := (by decide)
      obtain ⟨_, _, ⟨T28, L28, k28, n28⟩, -, X28, ⟨Lc28, hQ28, l28, y28, z28⟩, st28⟩ := Jvm.LawKit.callS X27 hx (y := (⟨"com/example/clearance_for_data/clearancefordata/expression/Truth", "of", "(Z)Lcom/example/clearance_for_data/clearancefordata/expression/Truth;"⟩ : MethodName)) hown (mvT hZ (hw _ (List.mem_of_getElem? (i := 0) rfl))) (mvT hZ (hw _ (List.mem_of_getElem? (i := 1) rfl))) (mvT hZ (hw _ (List.mem_of_getElem? (i := 2) rfl))) (mvT hZ (hw _ (List.mem_of_getElem? (i := 3) rfl))) (by decide) (backOf (W := 1) (rm1 l Z a0 hw [] (1 : Int32) w_FALSE w_TRUE h0 n0 Zn S_FALSE S_TRUE) hZ (hw _ (List.mem_of_getElem? (i := 3) rfl)) (hw _ (List.mem_of_getElem? (i := 2) rfl)) (by decide) (by decide)) (g := (mkF m 124 #[.val (.int p0), .val (.int p1), .val (.int (1 : Int32)), .val (.int (0 : Int32)), .val (.ref w_TRUE), .val (.ref w_FALSE), .val (.int (1 : Int32)), .val (.int (1 : Int32)), .unset, .unset] [(.int (1 : Int32)), (.ref w_TRUE)])) rfl (by rw [hml]; rfl) (argsL := [(.int (1 : Int32))]) (rest := [(.ref w_TRUE)]) (lenOf pd_3 rfl) rfl (by show 2 * 0 + _ ≤ _; exact Nat.le_of_eq rfl) (hb hby at_124) (fun _ _ => ⟨rfl, e27, (by decide : 0 + 0 ≤ _), (by decide : 0 + 0 ≤ _)⟩)
      dsimp only [Pt.U, Pt.locs, Pt.cells, Pt.slots] at X28 l28 y28 z28 st28 hQ28
      subst l28 y28 z28
      obtain ⟨hv28, N28q, e28q⟩ := hQ28
      obtain rfl := hv28.trans (show some (Value.ref (own_of (1 : Int32) w_FALSE w_TRUE)) = some (.ref w_TRUE) by simp +decide [own_of])
      have N28 := Fr.app N27 N28q
      have e28 : T28.heap = h0 := e28q
      obtain ⟨cq29, kq29, q29a, q29b, q29c⟩ := isOf hZ e28 E_w_TRUE
      obtain ⟨_, _, ⟨T29, L29, k29, n29⟩, -, X29, ⟨Lc29, hQ29, l29, y29, z29⟩, st29⟩ := X28.virtualBack hx (y := (⟨"com/example/clearance_for_data/clearancefordata/expression/Truth", "not", "()Lcom/example/clearance_for_data/clearancefordata/expression/Truth;"⟩ : MethodName)) (z := (⟨"com/example/clearance_for_data/clearancefordata/expression/Truth", "not", "()Lcom/example/clearance_for_data/clearancefordata/expression/Truth;"⟩ : MethodName)) hown (mvT hZ (hw _ (List.mem_of_getElem? (i := 19) rfl))) (mvT hZ (hw _ (List.mem_of_getElem? (i := 20) rfl))) (notFace_of_selects (args := #[]) (mvT hZ (hw _ (List.mem_of_getElem? (i := 22) rfl)))) (mvT hZ (hw _ (List.mem_of_getElem? (i := 22) rfl))) (mvT hZ (hw _ (List.mem_of_getElem? (i := 21) rfl))) (by decide) (backOf (W := 0) (rm4 l Z a0 hw [] w_TRUE 0 w_FALSE w_UNKNOWN w_TRUE h0 n0 Zn S_FALSE S_UNKNOWN S_TRUE E_w_TRUE F_w_TRUE (by decide)) hZ (hw _ (List.mem_of_getElem? (i := 23) rfl)) (hw _ (List.mem_of_getElem? (i := 2) rfl)) (by decide) (by decide)) q29a q29c (g := (mkF m 139 #[.val (.int p0), .val (.int p1), .val (.int (1 : Int32)), .val (.int (0 : Int32)), .val (.ref w_TRUE), .val (.ref w_FALSE), .val (.int (1 : Int32)), .val (.int (1 : Int32)), .val (.int (1 : Int32)), .unset] [(.ref w_TRUE)])) rfl (by rw [hml]; rfl) (Steps.refl _) (argsL := []) (rest := []) (lenOf pd_5 rfl) rfl (by show 2 * 0 + _ ≤ _; exact Nat.le_of_eq rfl) (hb hby at_139) (fun _ _ => ⟨rfl, e28, (by decide : 0 + 0 ≤ _), (by decide : 0 + 0 ≤ _)⟩)
      dsimp only [Pt.U, Pt.locs, Pt.cells, Pt.slots] at X29 l29 y29 z29 st29 hQ29
      subst l29 y29 z29
      obtain ⟨hv29, N29q, e29q⟩ := hQ29
      obtain rfl := hv29.trans (show some (Value.ref (own_not 0 w_FALSE w_UNKNOWN w_TRUE)) = some (.ref w_FALSE) by simp +decide [own_not])
      have N29 := Fr.app N28 N29q
      have e29 : T29.heap = h0 := e29q
      have hc143 : ¬ ((1 : Int32) = (0 : Int32)) := (by decide)
      obtain ⟨_, _, ⟨T30, L30, k30, n30⟩, -, X30, ⟨Lc30, hQ30, l30, y30, z30⟩, st30⟩ := Jvm.LawKit.callS X29 hx (y := (⟨"com/example/clearance_for_data/clearancefordata/expression/Truth", "of", "(Z)Lcom/example/clearance_for_data/clearancefordata/expression/Truth;"⟩ : MethodName)) hown (mvT hZ (hw _ (List.mem_of_getElem? (i := 0) rfl))) (mvT hZ (hw _ (List.mem_of_getElem? (i := 1) rfl))) (mvT hZ (hw _ (List.mem_of_getElem? (i := 2) rfl))) (mvT hZ (hw _ (List.mem_of_getElem? (i := 3) rfl))) (by decide) (backOf (W := 1) (rm1 l Z a0 hw [] (0 : Int32) w_FALSE w_TRUE h0 n0 Zn S_FALSE S_TRUE) hZ (hw _ (List.mem_of_getElem? (i := 3) rfl)) (hw _ (List.mem_of_getElem? (i := 2) rfl)) (by decide) (by decide)) (g := (mkF m 151 #[.val (.int p0), .val (.int p1), .val (.int (1 : Int32)), .val (.int (0 : Int32)), .val (.ref w_TRUE), .val (.ref w_FALSE), .val (.int (1 : Int32)), .val (.int (1 : Int32)), .val (.int (1 : Int32)), .unset] [(.int (0 : Int32)), (.ref w_FALSE)])) rfl (by rw [hml]; rfl) (argsL := [(.int (0 : Int32))]) (rest := [(.ref w_FALSE)]) (lenOf pd_3 rfl) rfl (by show 2 * 0 + _ ≤ _; exact Nat.le_of_eq rfl) (hb hby at_151) (fun _ _ => ⟨rfl, e29, (by decide : 0 + 0 ≤ _), (by decide : 0 + 0 ≤ _)⟩)
      dsimp only [Pt.U, Pt.locs, Pt.cells, Pt.slots] at X30 l30 y30 z30 st30 hQ30
      subst l30 y30 z30
      obtain ⟨hv30, N30q, e30q⟩ := hQ30
      obtain rfl := hv30.trans (show some (Value.ref (own_of (0 : Int32) w_FALSE w_TRUE)) = some (.ref w_FALSE) by simp +decide [own_of])
      have N30 := Fr.app N29 N30q
      have e30 : T30.heap = h0 := e30q
      have hc166 : ¬ ((1 : Int32) = (0 : Int32)) := (by decide)
      have hc171 : ¬ ((1 : Int32) = (0 : Int32)) := (by decide)
      have hc176 : ¬ ((1 : Int32) = (0 : Int32)) := (by decide)
      have hc181 : ¬ ((1 : Int32) = (0 : Int32)) := (by decide)
      obtain ⟨fs, hr, hrun, hended, hW, hsame⟩ := X30.leave (v := some (.int (1 : Int32))) (fun h => by rw [Bd.returns] at h; cases h) hlk
      refine ⟨_, _, K21 _ ?_, hrun, hended, _, _, rfl, ?_, ⟨_, rfl⟩, hW, hsame.mono (by decide) (by decide)⟩
      ·
        show Steps p.tables e below (s₁.setTop (mkF m 15 #[.val (.int p0), .val (.int p1), .val (.int (1 : Int32)), .unset, .unset, .unset, .unset, .unset, .unset, .unset] [(.int (p1 &&& (1 : Int32)))])) _
        refine XS.ifYes X0.here hx rfl (pc0 := 15) (pc' := 22) rfl (hb hby at_15) rfl ((if0 _ _).trans (teq hc15).1) (by decide) (by decide) ?_
        show Steps p.tables e below (s₁.setTop (mkF m 22 #[.val (.int p0), .val (.int p1), .val (.int (1 : Int32)), .unset, .unset, .unset, .unset, .unset, .unset, .unset] [])) _
        refine XS.iconst X0.here hx rfl (hb hby at_22) ?_
        show Steps p.tables e below (s₁.setTop (mkF m 23 #[.val (.int p0), .val (.int p1), .val (.int (1 : Int32)), .unset, .unset, .unset, .unset, .unset, .unset, .unset] [(.int (0 : Int32))])) _
        refine XS.istoreN X0.here hx rfl (hb hby at_23) rfl (l' := #[.val (.int p0), .val (.int p1), .val (.int (1 : Int32)), .val (.int (0 : Int32)), .unset, .unset, .unset, .unset, .unset, .unset]) rfl ?_
        show Steps p.tables e below (s₁.setTop (mkF m 24 #[.val (.int p0), .val (.int p1), .val (.int (1 : Int32)), .val (.int (0 : Int32)), .unset, .unset, .unset, .unset, .unset, .unset] [])) _
        refine XS.iloadN X0.here hx rfl (hb hby at_24) rfl ?_
        show Steps p.tables e below (s₁.setTop (mkF m 25 #[.val (.int p0), .val (.int p1), .val (.int (1 : Int32)), .val (.int (0 : Int32)), .unset, .unset, .unset, .unset, .unset, .unset] [(.int (1 : Int32))])) _
        refine st22 _ ?_
        show Steps p.tables e below (T22.setTop (mkF m 28 #[.val (.int p0), .val (.int p1), .val (.int (1 : Int32)), .val (.int (0 : Int32)), .unset, .unset, .unset, .unset, .unset, .unset] [(.ref w_TRUE)])) _
        refine XS.astore X22.here hx rfl (hb hby at_28) rfl rfl (l' := #[.val (.int p0), .val (.int p1), .val (.int (1 : Int32)), .val (.int (0 : Int32)), .val (.ref w_TRUE), .unset, .unset, .unset, .unset, .unset]) rfl ?_
        show Steps p.tables e below (T22.setTop (mkF m 30 #[.val (.int p0), .val (.int p1), .val (.int (1 : Int32)), .val (.int (0 : Int32)), .val (.ref w_TRUE), .unset, .unset, .unset, .unset, .unset] [])) _
        refine XS.iloadN X22.here hx rfl (hb hby at_30) rfl ?_
        show Steps p.tables e below (T22.setTop (mkF m 31 #[.val (.int p0), .val (.int p1), .val (.int (1 : Int32)), .val (.int (0 : Int32)), .val (.ref w_TRUE), .unset, .unset, .unset, .unset, .unset] [(.int (0 : Int32))])) _
        refine st23 _ ?_
        show Steps p.tables e below (T23.setTop (mkF m 34 #[.val (.int p0), .val (.int p1), .val (.int (1 : Int32)), .val (.int (0 : Int32)), .val (.ref w_TRUE), .unset, .unset, .unset, .unset, .unset] [(.ref w_FALSE)])) _
        refine XS.astore X23.here hx rfl (hb hby at_34) rfl rfl (l' := #[.val (.int p0), .val (.int p1), .val (.int (1 : Int32)), .val (.int (0 : Int32)), .val (.ref w_TRUE), .val (.ref w_FALSE), .unset, .unset, .unset, .unset]) rfl ?_
        show Steps p.tables e below (T23.setTop (mkF m 36 #[.val (.int p0), .val (.int p1), .val (.int (1 : Int32)), .val (.int (0 : Int32)), .val (.ref w_TRUE), .val (.ref w_FALSE), .unset, .unset, .unset, .unset] [])) _
        refine XS.iloadN X23.here hx rfl (hb hby at_36) rfl ?_
        show Steps p.tables e below (T23.setTop (mkF m 37 #[.val (.int p0), .val (.int p1), .val (.int (1 : Int32)), .val (.int (0 : Int32)), .val (.ref w_TRUE), .val (.ref w_FALSE), .unset, .unset, .unset, .unset] [(.int (1 : Int32))])) _
        refine XS.ifNo X23.here hx rfl (hb hby at_37) rfl ((if0 _ _).trans (feq hc37).1) ?_
        show Steps p.tables e below (T23.setTop (mkF m 40 #[.val (.int p0), .val (.int p1), .val (.int (1 : Int32)), .val (.int (0 : Int32)), .val (.ref w_TRUE), .val (.ref w_FALSE), .unset, .unset, .unset, .unset] [])) _
        refine XS.aload X23.here hx rfl (hb hby at_40) rfl rfl ?_
        show Steps p.tables e below (T23.setTop (mkF m 42 #[.val (.int p0), .val (.int p1), .val (.int (1 : Int32)), .val (.int (0 : Int32)), .val (.ref w_TRUE), .val (.ref w_FALSE), .unset, .unset, .unset, .unset] [(.ref w_TRUE)])) _
        refine st24 _ ?_
        show Steps p.tables e below (T24.setTop (mkF m 45 #[.val (.int p0), .val (.int p1), .val (.int (1 : Int32)), .val (.int (0 : Int32)), .val (.ref w_TRUE), .val (.ref w_FALSE), .unset, .unset, .unset, .unset] [(.ref w_TRUE), (.ref w_TRUE)])) _
        refine Jvm.RoadKit.acmp (g := (mkF m 45 #[.val (.int p0), .val (.int p1), .val (.int (1 : Int32)), .val (.int (0 : Int32)), .val (.ref w_TRUE), .val (.ref w_FALSE), .unset, .unset, .unset, .unset] [(.ref w_TRUE), (.ref w_TRUE)])) X24 hx rfl rfl rfl (pc0 := 45) (pc' := 48) (same := true) rfl (hb hby at_45) rfl (decide_eq_true rfl) (by decide) (by decide) ?_
        show Steps p.tables e below (T24.setTop (mkF m 48 #[.val (.int p0), .val (.int p1), .val (.int (1 : Int32)), .val (.int (0 : Int32)), .val (.ref w_TRUE), .val (.ref w_FALSE), .unset, .unset, .unset, .unset] [])) _
        refine XS.iconst X24.here hx rfl (hb hby at_48) ?_
        show Steps p.tables e below (T24.setTop (mkF m 49 #[.val (.int p0), .val (.int p1), .val (.int (1 : Int32)), .val (.int (0 : Int32)), .val (.ref w_TRUE), .val (.ref w_FALSE), .unset, .unset, .unset, .unset] [(.int (1 : Int32))])) _
        refine XS.goto X24.here hx rfl (pc0 := 49) (pc' := 69) rfl (hb hby at_49) (by decide) (by decide) ?_
        show Steps p.tables e below (T24.setTop (mkF m 69 #[.val (.int p0), .val (.int p1), .val (.int (1 : Int32)), .val (.int (0 : Int32)), .val (.ref w_TRUE), .val (.ref w_FALSE), .unset, .unset, .unset, .unset] [(.int (1 : Int32))])) _
        refine XS.istore X24.here hx rfl (hb hby at_69) rfl (l' := #[.val (.int p0), .val (.int p1), .val (.int (1 : Int32)), .val (.int (0 : Int32)), .val (.ref w_TRUE), .val (.ref w_FALSE), .val (.int (1 : Int32)), .unset, .unset, .unset]) rfl ?_
        show Steps p.tables e below (T24.setTop (mkF m 71 #[.val (.int p0), .val (.int p1), .val (.int (1 : Int32)), .val (.int (0 : Int32)), .val (.ref w_TRUE), .val (.ref w_FALSE), .val (.int (1 : Int32)), .unset, .unset, .unset] [])) _
        refine XS.aload X24.here hx rfl (hb hby at_71) rfl rfl ?_
        show Steps p.tables e below (T24.setTop (mkF m 73 #[.val (.int p0), .val (.int p1), .val (.int (1 : Int32)), .val (.int (0 : Int32)), .val (.ref w_TRUE), .val (.ref w_FALSE), .val (.int (1 : Int32)), .unset, .unset, .unset] [(.ref w_TRUE)])) _
        refine XS.aload X24.here hx rfl (hb hby at_73) rfl rfl ?_
        show Steps p.tables e below (T24.setTop (mkF m 75 #[.val (.int p0), .val (.int p1), .val (.int (1 : Int32)), .val (.int (0 : Int32)), .val (.ref w_TRUE), .val (.ref w_FALSE), .val (.int (1 : Int32)), .unset, .unset, .unset] [(.ref w_FALSE), (.ref w_TRUE)])) _
        refine st25.trans ?_
        show Steps p.tables e below (T25.setTop (mkF m 78 #[.val (.int p0), .val (.int p1), .val (.int (1 : Int32)), .val (.int (0 : Int32)), .val (.ref w_TRUE), .val (.ref w_FALSE), .val (.int (1 : Int32)), .unset, .unset, .unset] [(.ref w_FALSE)])) _
        refine XS.iloadN X25.here hx rfl (hb hby at_78) rfl ?_
        show Steps p.tables e below (T25.setTop (mkF m 79 #[.val (.int p0), .val (.int p1), .val (.int (1 : Int32)), .val (.int (0 : Int32)), .val (.ref w_TRUE), .val (.ref w_FALSE), .val (.int (1 : Int32)), .unset, .unset, .unset] [(.int (1 : Int32)), (.ref w_FALSE)])) _
        refine XS.ifNo X25.here hx rfl (hb hby at_79) rfl ((if0 _ _).trans (feq hc79).1) ?_
        show Steps p.tables e below (T25.setTop (mkF m 82 #[.val (.int p0), .val (.int p1), .val (.int (1 : Int32)), .val (.int (0 : Int32)), .val (.ref w_TRUE), .val (.ref w_FALSE), .val (.int (1 : Int32)), .unset, .unset, .unset] [(.ref w_FALSE)])) _
        refine XS.iloadN X25.here hx rfl (hb hby at_82) rfl ?_
        show Steps p.tables e below (T25.setTop (mkF m 83 #[.val (.int p0), .val (.int p1), .val (.int (1 : Int32)), .val (.int (0 : Int32)), .val (.ref w_TRUE), .val (.ref w_FALSE), .val (.int (1 : Int32)), .unset, .unset, .unset] [(.int (0 : Int32)), (.ref w_FALSE)])) _
        refine XS.ifYes X25.here hx rfl (pc0 := 83) (pc' := 90) rfl (hb hby at_83) rfl ((if0 _ _).trans (teq hc83).1) (by decide) (by decide) ?_
        show Steps p.tables e below (T25.setTop (mkF m 90 #[.val (.int p0), .val (.int p1), .val (.int (1 : Int32)), .val (.int (0 : Int32)), .val (.ref w_TRUE), .val (.ref w_FALSE), .val (.int (1 : Int32)), .unset, .unset, .unset] [(.ref w_FALSE)])) _
        refine XS.iconst X25.here hx rfl (hb hby at_90) ?_
        show Steps p.tables e below (T25.setTop (mkF m 91 #[.val (.int p0), .val (.int p1), .val (.int (1 : Int32)), .val (.int (0 : Int32)), .val (.ref w_TRUE), .val (.ref w_FALSE), .val (.int (1 : Int32)), .unset, .unset, .unset] [(.int (0 : Int32)), (.ref w_FALSE)])) _
        refine st26 _ ?_
        show Steps p.tables e below (T26.setTop (mkF m 94 #[.val (.int p0), .val (.int p1), .val (.int (1 : Int32)), .val (.int (0 : Int32)), .val (.ref w_TRUE), .val (.ref w_FALSE), .val (.int (1 : Int32)), .unset, .unset, .unset] [(.ref w_FALSE), (.ref w_FALSE)])) _
        refine Jvm.RoadKit.acmp (g := (mkF m 94 #[.val (.int p0), .val (.int p1), .val (.int (1 : Int32)), .val (.int (0 : Int32)), .val (.ref w_TRUE), .val (.ref w_FALSE), .val (.int (1 : Int32)), .unset, .unset, .unset] [(.ref w_FALSE), (.ref w_FALSE)])) X26 hx rfl rfl rfl (pc0 := 94) (pc' := 97) (same := true) rfl (hb hby at_94) rfl (decide_eq_true rfl) (by decide) (by decide) ?_
        show Steps p.tables e below (T26.setTop (mkF m 97 #[.val (.int p0), .val (.int p1), .val (.int (1 : Int32)), .val (.int (0 : Int32)), .val (.ref w_TRUE), .val (.ref w_FALSE), .val (.int (1 : Int32)), .unset, .unset, .unset] [])) _
        refine XS.iconst X26.here hx rfl (hb hby at_97) ?_
        show Steps p.tables e below (T26.setTop (mkF m 98 #[.val (.int p0), .val (.int p1), .val (.int (1 : Int32)), .val (.int (0 : Int32)), .val (.ref w_TRUE), .val (.ref w_FALSE), .val (.int (1 : Int32)), .unset, .unset, .unset] [(.int (1 : Int32))])) _
        refine XS.goto X26.here hx rfl (pc0 := 98) (pc' := 102) rfl (hb hby at_98) (by decide) (by decide) ?_
        show Steps p.tables e below (T26.setTop (mkF m 102 #[.val (.int p0), .val (.int p1), .val (.int (1 : Int32)), .val (.int (0 : Int32)), .val (.ref w_TRUE), .val (.ref w_FALSE), .val (.int (1 : Int32)), .unset, .unset, .unset] [(.int (1 : Int32))])) _
        refine XS.istore X26.here hx rfl (hb hby at_102) rfl (l' := #[.val (.int p0), .val (.int p1), .val (.int (1 : Int32)), .val (.int (0 : Int32)), .val (.ref w_TRUE), .val (.ref w_FALSE), .val (.int (1 : Int32)), .val (.int (1 : Int32)), .unset, .unset]) rfl ?_
        show Steps p.tables e below (T26.setTop (mkF m 104 #[.val (.int p0), .val (.int p1), .val (.int (1 : Int32)), .val (.int (0 : Int32)), .val (.ref w_TRUE), .val (.ref w_FALSE), .val (.int (1 : Int32)), .val (.int (1 : Int32)), .unset, .unset] [])) _
        refine XS.aload X26.here hx rfl (hb hby at_104) rfl rfl ?_
        show Steps p.tables e below (T26.setTop (mkF m 106 #[.val (.int p0), .val (.int p1), .val (.int (1 : Int32)), .val (.int (0 : Int32)), .val (.ref w_TRUE), .val (.ref w_FALSE), .val (.int (1 : Int32)), .val (.int (1 : Int32)), .unset, .unset] [(.ref w_TRUE)])) _
        refine XS.aload X26.here hx rfl (hb hby at_106) rfl rfl ?_
        show Steps p.tables e below (T26.setTop (mkF m 108 #[.val (.int p0), .val (.int p1), .val (.int (1 : Int32)), .val (.int (0 : Int32)), .val (.ref w_TRUE), .val (.ref w_FALSE), .val (.int (1 : Int32)), .val (.int (1 : Int32)), .unset, .unset] [(.ref w_FALSE), (.ref w_TRUE)])) _
        refine st27.trans ?_
        show Steps p.tables e below (T27.setTop (mkF m 111 #[.val (.int p0), .val (.int p1), .val (.int (1 : Int32)), .val (.int (0 : Int32)), .val (.ref w_TRUE), .val (.ref w_FALSE), .val (.int (1 : Int32)), .val (.int (1 : Int32)), .unset, .unset] [(.ref w_TRUE)])) _
        refine XS.iloadN X27.here hx rfl (hb hby at_111) rfl ?_
        show Steps p.tables e below (T27.setTop (mkF m 112 #[.val (.int p0), .val (.int p1), .val (.int (1 : Int32)), .val (.int (0 : Int32)), .val (.ref w_TRUE), .val (.ref w_FALSE), .val (.int (1 : Int32)), .val (.int (1 : Int32)), .unset, .unset] [(.int (1 : Int32)), (.ref w_TRUE)])) _
        refine XS.ifYes X27.here hx rfl (pc0 := 112) (pc' := 119) rfl (hb hby at_112) rfl ((if0 _ _).trans (feq hc112).2) (by decide) (by decide) ?_
        show Steps p.tables e below (T27.setTop (mkF m 119 #[.val (.int p0), .val (.int p1), .val (.int (1 : Int32)), .val (.int (0 : Int32)), .val (.ref w_TRUE), .val (.ref w_FALSE), .val (.int (1 : Int32)), .val (.int (1 : Int32)), .unset, .unset] [(.ref w_TRUE)])) _
        refine XS.iconst X27.here hx rfl (hb hby at_119) ?_
        show Steps p.tables e below (T27.setTop (mkF m 120 #[.val (.int p0), .val (.int p1), .val (.int (1 : Int32)), .val (.int (0 : Int32)), .val (.ref w_TRUE), .val (.ref w_FALSE), .val (.int (1 : Int32)), .val (.int (1 : Int32)), .unset, .unset] [(.int (1 : Int32)), (.ref w_TRUE)])) _
        refine XS.goto X27.here hx rfl (pc0 := 120) (pc' := 124) rfl (hb hby at_120) (by decide) (by decide) ?_
        show Steps p.tables e below (T27.setTop (mkF m 124 #[.val (.int p0), .val (.int p1), .val (.int (1 : Int32)), .val (.int (0 : Int32)), .val (.ref w_TRUE), .val (.ref w_FALSE), .val (.int (1 : Int32)), .val (.int (1 : Int32)), .unset, .unset] [(.int (1 : Int32)), (.ref w_TRUE)])) _
        refine st28 _ ?_
        show Steps p.tables e below (T28.setTop (mkF m 127 #[.val (.int p0), .val (.int p1), .val (.int (1 : Int32)), .val (.int (0 : Int32)), .val (.ref w_TRUE), .val (.ref w_FALSE), .val (.int (1 : Int32)), .val (.int (1 : Int32)), .unset, .unset] [(.ref w_TRUE), (.ref w_TRUE)])) _
        refine Jvm.RoadKit.acmp (g := (mkF m 127 #[.val (.int p0), .val (.int p1), .val (.int (1 : Int32)), .val (.int (0 : Int32)), .val (.ref w_TRUE), .val (.ref w_FALSE), .val (.int (1 : Int32)), .val (.int (1 : Int32)), .unset, .unset] [(.ref w_TRUE), (.ref w_TRUE)])) X28 hx rfl rfl rfl (pc0 := 127) (pc' := 130) (same := true) rfl (hb hby at_127) rfl (decide_eq_true rfl) (by decide) (by decide) ?_
        show Steps p.tables e below (T28.setTop (mkF m 130 #[.val (.int p0), .val (.int p1), .val (.int (1 : Int32)), .val (.int (0 : Int32)), .val (.ref w_TRUE), .val (.ref w_FALSE), .val (.int (1 : Int32)), .val (.int (1 : Int32)), .unset, .unset] [])) _
        refine XS.iconst X28.here hx rfl (hb hby at_130) ?_
        show Steps p.tables e below (T28.setTop (mkF m 131 #[.val (.int p0), .val (.int p1), .val (.int (1 : Int32)), .val (.int (0 : Int32)), .val (.ref w_TRUE), .val (.ref w_FALSE), .val (.int (1 : Int32)), .val (.int (1 : Int32)), .unset, .unset] [(.int (1 : Int32))])) _
        refine XS.goto X28.here hx rfl (pc0 := 131) (pc' := 135) rfl (hb hby at_131) (by decide) (by decide) ?_
        show Steps p.tables e below (T28.setTop (mkF m 135 #[.val (.int p0), .val (.int p1), .val (.int (1 : Int32)), .val (.int (0 : Int32)), .val (.ref w_TRUE), .val (.ref w_FALSE), .val (.int (1 : Int32)), .val (.int (1 : Int32)), .unset, .unset] [(.int (1 : Int32))])) _
        refine XS.istore X28.here hx rfl (hb hby at_135) rfl (l' := #[.val (.int p0), .val (.int p1), .val (.int (1 : Int32)), .val (.int (0 : Int32)), .val (.ref w_TRUE), .val (.ref w_FALSE), .val (.int (1 : Int32)), .val (.int (1 : Int32)), .val (.int (1 : Int32)), .unset]) rfl ?_
        show Steps p.tables e below (T28.setTop (mkF m 137 #[.val (.int p0), .val (.int p1), .val (.int (1 : Int32)), .val (.int (0 : Int32)), .val (.ref w_TRUE), .val (.ref w_FALSE), .val (.int (1 : Int32)), .val (.int (1 : Int32)), .val (.int (1 : Int32)), .unset] [])) _
        refine XS.aload X28.here hx rfl (hb hby at_137) rfl rfl ?_
        show Steps p.tables e below (T28.setTop (mkF m 139 #[.val (.int p0), .val (.int p1), .val (.int (1 : Int32)), .val (.int (0 : Int32)), .val (.ref w_TRUE), .val (.ref w_FALSE), .val (.int (1 : Int32)), .val (.int (1 : Int32)), .val (.int (1 : Int32)), .unset] [(.ref w_TRUE)])) _
        refine st29.trans ?_
        show Steps p.tables e below (T29.setTop (mkF m 142 #[.val (.int p0), .val (.int p1), .val (.int (1 : Int32)), .val (.int (0 : Int32)), .val (.ref w_TRUE), .val (.ref w_FALSE), .val (.int (1 : Int32)), .val (.int (1 : Int32)), .val (.int (1 : Int32)), .unset] [(.ref w_FALSE)])) _
        refine XS.iloadN X29.here hx rfl (hb hby at_142) rfl ?_
        show Steps p.tables e below (T29.setTop (mkF m 143 #[.val (.int p0), .val (.int p1), .val (.int (1 : Int32)), .val (.int (0 : Int32)), .val (.ref w_TRUE), .val (.ref w_FALSE), .val (.int (1 : Int32)), .val (.int (1 : Int32)), .val (.int (1 : Int32)), .unset] [(.int (1 : Int32)), (.ref w_FALSE)])) _
        refine XS.ifYes X29.here hx rfl (pc0 := 143) (pc' := 150) rfl (hb hby at_143) rfl ((if0 _ _).trans (feq hc143).2) (by decide) (by decide) ?_
        show Steps p.tables e below (T29.setTop (mkF m 150 #[.val (.int p0), .val (.int p1), .val (.int (1 : Int32)), .val (.int (0 : Int32)), .val (.ref w_TRUE), .val (.ref w_FALSE), .val (.int (1 : Int32)), .val (.int (1 : Int32)), .val (.int (1 : Int32)), .unset] [(.ref w_FALSE)])) _
        refine XS.iconst X29.here hx rfl (hb hby at_150) ?_
        show Steps p.tables e below (T29.setTop (mkF m 151 #[.val (.int p0), .val (.int p1), .val (.int (1 : Int32)), .val (.int (0 : Int32)), .val (.ref w_TRUE), .val (.ref w_FALSE), .val (.int (1 : Int32)), .val (.int (1 : Int32)), .val (.int (1 : Int32)), .unset] [(.int (0 : Int32)), (.ref w_FALSE)])) _
        refine st30 _ ?_
        show Steps p.tables e below (T30.setTop (mkF m 154 #[.val (.int p0), .val (.int p1), .val (.int (1 : Int32)), .val (.int (0 : Int32)), .val (.ref w_TRUE), .val (.ref w_FALSE), .val (.int (1 : Int32)), .val (.int (1 : Int32)), .val (.int (1 : Int32)), .unset] [(.ref w_FALSE), (.ref w_FALSE)])) _
        refine Jvm.RoadKit.acmp (g := (mkF m 154 #[.val (.int p0), .val (.int p1), .val (.int (1 : Int32)), .val (.int (0 : Int32)), .val (.ref w_TRUE), .val (.ref w_FALSE), .val (.int (1 : Int32)), .val (.int (1 : Int32)), .val (.int (1 : Int32)), .unset] [(.ref w_FALSE), (.ref w_FALSE)])) X30 hx rfl rfl rfl (pc0 := 154) (pc' := 157) (same := true) rfl (hb hby at_154) rfl (decide_eq_true rfl) (by decide) (by decide) ?_
        show Steps p.tables e below (T30.setTop (mkF m 157 #[.val (.int p0), .val (.int p1), .val (.int (1 : Int32)), .val (.int (0 : Int32)), .val (.ref w_TRUE), .val (.ref w_FALSE), .val (.int (1 : Int32)), .val (.int (1 : Int32)), .val (.int (1 : Int32)), .unset] [])) _
        refine XS.iconst X30.here hx rfl (hb hby at_157) ?_
        show Steps p.tables e below (T30.setTop (mkF m 158 #[.val (.int p0), .val (.int p1), .val (.int (1 : Int32)), .val (.int (0 : Int32)), .val (.ref w_TRUE), .val (.ref w_FALSE), .val (.int (1 : Int32)), .val (.int (1 : Int32)), .val (.int (1 : Int32)), .unset] [(.int (1 : Int32))])) _
        refine XS.goto X30.here hx rfl (pc0 := 158) (pc' := 162) rfl (hb hby at_158) (by decide) (by decide) ?_
        show Steps p.tables e below (T30.setTop (mkF m 162 #[.val (.int p0), .val (.int p1), .val (.int (1 : Int32)), .val (.int (0 : Int32)), .val (.ref w_TRUE), .val (.ref w_FALSE), .val (.int (1 : Int32)), .val (.int (1 : Int32)), .val (.int (1 : Int32)), .unset] [(.int (1 : Int32))])) _
        refine XS.istore X30.here hx rfl (hb hby at_162) rfl (l' := #[.val (.int p0), .val (.int p1), .val (.int (1 : Int32)), .val (.int (0 : Int32)), .val (.ref w_TRUE), .val (.ref w_FALSE), .val (.int (1 : Int32)), .val (.int (1 : Int32)), .val (.int (1 : Int32)), .val (.int (1 : Int32))]) rfl ?_
        show Steps p.tables e below (T30.setTop (mkF m 164 #[.val (.int p0), .val (.int p1), .val (.int (1 : Int32)), .val (.int (0 : Int32)), .val (.ref w_TRUE), .val (.ref w_FALSE), .val (.int (1 : Int32)), .val (.int (1 : Int32)), .val (.int (1 : Int32)), .val (.int (1 : Int32))] [])) _
        refine XS.iload X30.here hx rfl (hb hby at_164) rfl ?_
        show Steps p.tables e below (T30.setTop (mkF m 166 #[.val (.int p0), .val (.int p1), .val (.int (1 : Int32)), .val (.int (0 : Int32)), .val (.ref w_TRUE), .val (.ref w_FALSE), .val (.int (1 : Int32)), .val (.int (1 : Int32)), .val (.int (1 : Int32)), .val (.int (1 : Int32))] [(.int (1 : Int32))])) _
        refine XS.ifNo X30.here hx rfl (hb hby at_166) rfl ((if0 _ _).trans (feq hc166).1) ?_
        show Steps p.tables e below (T30.setTop (mkF m 169 #[.val (.int p0), .val (.int p1), .val (.int (1 : Int32)), .val (.int (0 : Int32)), .val (.ref w_TRUE), .val (.ref w_FALSE), .val (.int (1 : Int32)), .val (.int (1 : Int32)), .val (.int (1 : Int32)), .val (.int (1 : Int32))] [])) _
        refine XS.iload X30.here hx rfl (hb hby at_169) rfl ?_
        show Steps p.tables e below (T30.setTop (mkF m 171 #[.val (.int p0), .val (.int p1), .val (.int (1 : Int32)), .val (.int (0 : Int32)), .val (.ref w_TRUE), .val (.ref w_FALSE), .val (.int (1 : Int32)), .val (.int (1 : Int32)), .val (.int (1 : Int32)), .val (.int (1 : Int32))] [(.int (1 : Int32))])) _
        refine XS.ifNo X30.here hx rfl (hb hby at_171) rfl ((if0 _ _).trans (feq hc171).1) ?_
        show Steps p.tables e below (T30.setTop (mkF m 174 #[.val (.int p0), .val (.int p1), .val (.int (1 : Int32)), .val (.int (0 : Int32)), .val (.ref w_TRUE), .val (.ref w_FALSE), .val (.int (1 : Int32)), .val (.int (1 : Int32)), .val (.int (1 : Int32)), .val (.int (1 : Int32))] [])) _
        refine XS.iload X30.here hx rfl (hb hby at_174) rfl ?_
        show Steps p.tables e below (T30.setTop (mkF m 176 #[.val (.int p0), .val (.int p1), .val (.int (1 : Int32)), .val (.int (0 : Int32)), .val (.ref w_TRUE), .val (.ref w_FALSE), .val (.int (1 : Int32)), .val (.int (1 : Int32)), .val (.int (1 : Int32)), .val (.int (1 : Int32))] [(.int (1 : Int32))])) _
        refine XS.ifNo X30.here hx rfl (hb hby at_176) rfl ((if0 _ _).trans (feq hc176).1) ?_
        show Steps p.tables e below (T30.setTop (mkF m 179 #[.val (.int p0), .val (.int p1), .val (.int (1 : Int32)), .val (.int (0 : Int32)), .val (.ref w_TRUE), .val (.ref w_FALSE), .val (.int (1 : Int32)), .val (.int (1 : Int32)), .val (.int (1 : Int32)), .val (.int (1 : Int32))] [])) _
        refine XS.iload X30.here hx rfl (hb hby at_179) rfl ?_
        show Steps p.tables e below (T30.setTop (mkF m 181 #[.val (.int p0), .val (.int p1), .val (.int (1 : Int32)), .val (.int (0 : Int32)), .val (.ref w_TRUE), .val (.ref w_FALSE), .val (.int (1 : Int32)), .val (.int (1 : Int32)), .val (.int (1 : Int32)), .val (.int (1 : Int32))] [(.int (1 : Int32))])) _
        refine XS.ifNo X30.here hx rfl (hb hby at_181) rfl ((if0 _ _).trans (feq hc181).1) ?_
        show Steps p.tables e below (T30.setTop (mkF m 184 #[.val (.int p0), .val (.int p1), .val (.int (1 : Int32)), .val (.int (0 : Int32)), .val (.ref w_TRUE), .val (.ref w_FALSE), .val (.int (1 : Int32)), .val (.int (1 : Int32)), .val (.int (1 : Int32)), .val (.int (1 : Int32))] [])) _
        refine XS.iconst X30.here hx rfl (hb hby at_184) ?_
        show Steps p.tables e below (T30.setTop (mkF m 185 #[.val (.int p0), .val (.int p1), .val (.int (1 : Int32)), .val (.int (0 : Int32)), .val (.ref w_TRUE), .val (.ref w_FALSE), .val (.int (1 : Int32)), .val (.int (1 : Int32)), .val (.int (1 : Int32)), .val (.int (1 : Int32))] [(.int (1 : Int32))])) _
        refine XS.goto X30.here hx rfl (pc0 := 185) (pc' := 189) rfl (hb hby at_185) (by decide) (by decide) ?_
        show Steps p.tables e below (T30.setTop (mkF m 189 #[.val (.int p0), .val (.int p1), .val (.int (1 : Int32)), .val (.int (0 : Int32)), .val (.ref w_TRUE), .val (.ref w_FALSE), .val (.int (1 : Int32)), .val (.int (1 : Int32)), .val (.int (1 : Int32)), .val (.int (1 : Int32))] [(.int (1 : Int32))])) _
        exact retN X30 hx (t := .boolean) Bd.returns (by simp) (hb hby at_189) hr
      ·
        show Q_rm0 Z p0 p1 w_FALSE w_UNKNOWN w_TRUE h0 n0 _ T30.heap _
        rw [e30]
        exact ⟨rfl, N30⟩
    ·
      obtain ⟨_, _, ⟨T31, L31, k31, n31⟩, -, X31, ⟨Lc31, hQ31, l31, y31, z31⟩, st31⟩ := Jvm.LawKit.callS X0 hx (y := (⟨"com/example/clearance_for_data/clearancefordata/expression/Truth", "of", "(Z)Lcom/example/clearance_for_data/clearancefordata/expression/Truth;"⟩ : MethodName)) hown (mvT hZ (hw _ (List.mem_of_getElem? (i := 0) rfl))) (mvT hZ (hw _ (List.mem_of_getElem? (i := 1) rfl))) (mvT hZ (hw _ (List.mem_of_getElem? (i := 2) rfl))) (mvT hZ (hw _ (List.mem_of_getElem? (i := 3) rfl))) (by decide) (backOf (W := 0) (rm1 l Z a0 hw [] (1 : Int32) w_FALSE w_TRUE h0 n0 Zn S_FALSE S_TRUE) hZ (hw _ (List.mem_of_getElem? (i := 3) rfl)) (hw _ (List.mem_of_getElem? (i := 2) rfl)) (by decide) (by decide)) (g := (mkF m 25 #[.val (.int p0), .val (.int p1), .val (.int (1 : Int32)), .val (.int (1 : Int32)), .unset, .unset, .unset, .unset, .unset, .unset] [(.int (1 : Int32))])) rfl (by rw [hml]; rfl) (argsL := [(.int (1 : Int32))]) (rest := []) (lenOf pd_3 rfl) rfl (by show 2 * 0 + _ ≤ _; exact Nat.le_of_eq rfl) (hb hby at_25) (fun _ _ => ⟨rfl, e0, (by decide : 0 + 0 ≤ _), (by decide : 0 + 0 ≤ _)⟩)
      dsimp only [Pt.U, Pt.locs, Pt.cells, Pt.slots] at X31 l31 y31 z31 st31 hQ31
      subst l31 y31 z31
      obtain ⟨hv31, N31q, e31q⟩ := hQ31
      obtain rfl := hv31.trans (show some (Value.ref (own_of (1 : Int32) w_FALSE w_TRUE)) = some (.ref w_TRUE) by simp +decide [own_of])
      have N31 := Fr.app N0 N31q
      have e31 : T31.heap = h0 := e31q
      obtain ⟨_, _, ⟨T32, L32, k32, n32⟩, -, X32, ⟨Lc32, hQ32, l32, y32, z32⟩, st32⟩ := Jvm.LawKit.callS X31 hx (y := (⟨"com/example/clearance_for_data/clearancefordata/expression/Truth", "of", "(Z)Lcom/example/clearance_for_data/clearancefordata/expression/Truth;"⟩ : MethodName)) hown (mvT hZ (hw _ (List.mem_of_getElem? (i := 0) rfl))) (mvT hZ (hw _ (List.mem_of_getElem? (i := 1) rfl))) (mvT hZ (hw _ (List.mem_of_getElem? (i := 2) rfl))) (mvT hZ (hw _ (List.mem_of_getElem? (i := 3) rfl))) (by decide) (backOf (W := 0) (rm1 l Z a0 hw [] (1 : Int32) w_FALSE w_TRUE h0 n0 Zn S_FALSE S_TRUE) hZ (hw _ (List.mem_of_getElem? (i := 3) rfl)) (hw _ (List.mem_of_getElem? (i := 2) rfl)) (by decide) (by decide)) (g := (mkF m 31 #[.val (.int p0), .val (.int p1), .val (.int (1 : Int32)), .val (.int (1 : Int32)), .val (.ref w_TRUE), .unset, .unset, .unset, .unset, .unset] [(.int (1 : Int32))])) rfl (by rw [hml]; rfl) (argsL := [(.int (1 : Int32))]) (rest := []) (lenOf pd_3 rfl) rfl (by show 2 * 0 + _ ≤ _; exact Nat.le_of_eq rfl) (hb hby at_31) (fun _ _ => ⟨rfl, e31, (by decide : 0 + 0 ≤ _), (by decide : 0 + 0 ≤ _)⟩)
      dsimp only [Pt.U, Pt.locs, Pt.cells, Pt.slots] at X32 l32 y32 z32 st32 hQ32
      subst l32 y32 z32
      obtain ⟨hv32, N32q, e32q⟩ := hQ32
      obtain rfl := hv32.trans (show some (Value.ref (own_of (1 : Int32) w_FALSE w_TRUE)) = some (.ref w_TRUE) by simp +decide [own_of])
      have N32 := Fr.app N31 N32q
      have e32 : T32.heap = h0 := e32q
      have hc37 : ¬ ((1 : Int32) = (0 : Int32)) := (by decide)
      obtain ⟨T33, X33, e33, st33⟩ := getS2 X32 hx hZ hown (host := "") (Or.inl (hw _ (List.mem_of_getElem? (i := 35) rfl))) Via.refl e32 S_TRUE (g := (mkF m 42 #[.val (.int p0), .val (.int p1), .val (.int (1 : Int32)), .val (.int (1 : Int32)), .val (.ref w_TRUE), .val (.ref w_TRUE), .unset, .unset, .unset, .unset] [(.ref w_TRUE)])) rfl (hb hby at_42)
      obtain ⟨cq34, kq34, q34a, q34b, q34c⟩ := isOf hZ e33 E_w_TRUE
      obtain ⟨_, _, ⟨T34, L34, k34, n34⟩, -, X34, ⟨Lc34, hQ34, l34, y34, z34⟩, st34⟩ := X33.virtualBack hx (y := (⟨"com/example/clearance_for_data/clearancefordata/expression/Truth", "and", "(Lcom/example/clearance_for_data/clearancefordata/expression/Truth;)Lcom/example/clearance_for_data/clearancefordata/expression/Truth;"⟩ : MethodName)) (z := (⟨"com/example/clearance_for_data/clearancefordata/expression/Truth", "and", "(Lcom/example/clearance_for_data/clearancefordata/expression/Truth;)Lcom/example/clearance_for_data/clearancefordata/expression/Truth;"⟩ : MethodName)) hown (mvT hZ (hw _ (List.mem_of_getElem? (i := 9) rfl))) (mvT hZ (hw _ (List.mem_of_getElem? (i := 10) rfl))) (notFace_of_selects (args := #[]) (mvT hZ (hw _ (List.mem_of_getElem? (i := 12) rfl)))) (mvT hZ (hw _ (List.mem_of_getElem? (i := 12) rfl))) (mvT hZ (hw _ (List.mem_of_getElem? (i := 11) rfl))) (by decide) (backOf (W := 0) (rm2 l Z a0 hw [] w_TRUE w_TRUE w_FALSE w_UNKNOWN w_TRUE h0 n0 Zn S_FALSE S_UNKNOWN S_TRUE) hZ (hw _ (List.mem_of_getElem? (i := 13) rfl)) (hw _ (List.mem_of_getElem? (i := 2) rfl)) (by decide) (by decide)) q34a q34c (g := (mkF m 75 #[.val (.int p0), .val (.int p1), .val (.int (1 : Int32)), .val (.int (1 : Int32)), .val (.ref w_TRUE), .val (.ref w_TRUE), .val (.int (1 : Int32)), .unset, .unset, .unset] [(.ref w_TRUE), (.ref w_TRUE)])) rfl (by rw [hml]; rfl) (Steps.refl _) (argsL := [(.ref w_TRUE)]) (rest := []) (lenOf pd_4 rfl) rfl (by show 2 * 0 + _ ≤ _; exact Nat.le_of_eq rfl) (hb hby at_75) (fun _ _ => ⟨rfl, e33, (by decide : 0 + 0 ≤ _), (by decide : 0 + 0 ≤ _)⟩)
      dsimp only [Pt.U, Pt.locs, Pt.cells, Pt.slots] at X34 l34 y34 z34 st34 hQ34
      subst l34 y34 z34
      obtain ⟨hv34, N34q, e34q⟩ := hQ34
      obtain rfl := hv34.trans (show some (Value.ref (own_and w_TRUE w_TRUE w_FALSE w_UNKNOWN w_TRUE)) = some (.ref w_TRUE) by simp +decide [own_and, (own_dis o_FALSE o_UNKNOWN (by decide)), (own_dis o_FALSE o_TRUE (by decide)), (own_dis o_UNKNOWN o_FALSE (by decide)), (own_dis o_UNKNOWN o_TRUE (by decide)), (own_dis o_TRUE o_FALSE (by decide)), (own_dis o_TRUE o_UNKNOWN (by decide))])
      have N34 := Fr.app N32 N34q
      have e34 : T34.heap = h0 := e34q
      have hc79 : ¬ ((1 : Int32) = (0 : Int32)) := (by decide)
      have hc83 : ¬ ((1 : Int32) = (0 : Int32)) := (by decide)
      obtain ⟨_, _, ⟨T35, L35, k35, n35⟩, -, X35, ⟨Lc35, hQ35, l35, y35, z35⟩, st35⟩ := Jvm.LawKit.callS X34 hx (y := (⟨"com/example/clearance_for_data/clearancefordata/expression/Truth", "of", "(Z)Lcom/example/clearance_for_data/clearancefordata/expression/Truth;"⟩ : MethodName)) hown (mvT hZ (hw _ (List.mem_of_getElem? (i := 0) rfl))) (mvT hZ (hw _ (List.mem_of_getElem? (i := 1) rfl))) (mvT hZ (hw _ (List.mem_of_getElem? (i := 2) rfl))) (mvT hZ (hw _ (List.mem_of_getElem? (i := 3) rfl))) (by decide) (backOf (W := 1) (rm1 l Z a0 hw [] (1 : Int32) w_FALSE w_TRUE h0 n0 Zn S_FALSE S_TRUE) hZ (hw _ (List.mem_of_getElem? (i := 3) rfl)) (hw _ (List.mem_of_getElem? (i := 2) rfl)) (by decide) (by decide)) (g := (mkF m 91 #[.val (.int p0), .val (.int p1), .val (.int (1 : Int32)), .val (.int (1 : Int32)), .val (.ref w_TRUE), .val (.ref w_TRUE), .val (.int (1 : Int32)), .unset, .unset, .unset] [(.int (1 : Int32)), (.ref w_TRUE)])) rfl (by rw [hml]; rfl) (argsL := [(.int (1 : Int32))]) (rest := [(.ref w_TRUE)]) (lenOf pd_3 rfl) rfl (by show 2 * 0 + _ ≤ _; exact Nat.le_of_eq rfl) (hb hby at_91) (fun _ _ => ⟨rfl, e34, (by decide : 0 + 0 ≤ _), (by decide : 0 + 0 ≤ _)⟩)
      dsimp only [Pt.U, Pt.locs, Pt.cells, Pt.slots] at X35 l35 y35 z35 st35 hQ35
      subst l35 y35 z35
      obtain ⟨hv35, N35q, e35q⟩ := hQ35
      obtain rfl := hv35.trans (show some (Value.ref (own_of (1 : Int32) w_FALSE w_TRUE)) = some (.ref w_TRUE) by simp +decide [own_of])
      have N35 := Fr.app N34 N35q
      have e35 : T35.heap = h0 := e35q
      obtain ⟨cq36, kq36, q36a, q36b, q36c⟩ := isOf hZ e35 E_w_TRUE
      obtain ⟨_, _, ⟨T36, L36, k36, n36⟩, -, X36, ⟨Lc36, hQ36, l36, y36, z36⟩, st36⟩ := X35.virtualBack hx (y := (⟨"com/example/clearance_for_data/clearancefordata/expression/Truth", "or", "(Lcom/example/clearance_for_data/clearancefordata/expression/Truth;)Lcom/example/clearance_for_data/clearancefordata/expression/Truth;"⟩ : MethodName)) (z := (⟨"com/example/clearance_for_data/clearancefordata/expression/Truth", "or", "(Lcom/example/clearance_for_data/clearancefordata/expression/Truth;)Lcom/example/clearance_for_data/clearancefordata/expression/Truth;"⟩ : MethodName)) hown (mvT hZ (hw _ (List.mem_of_getElem? (i := 14) rfl))) (mvT hZ (hw _ (List.mem_of_getElem? (i := 15) rfl))) (notFace_of_selects (args := #[]) (mvT hZ (hw _ (List.mem_of_getElem? (i := 17) rfl)))) (mvT hZ (hw _ (List.mem_of_getElem? (i := 17) rfl))) (mvT hZ (hw _ (List.mem_of_getElem? (i := 16) rfl))) (by decide) (backOf (W := 0) (rm3 l Z a0 hw [] w_TRUE w_TRUE w_FALSE w_UNKNOWN w_TRUE h0 n0 Zn S_FALSE S_UNKNOWN S_TRUE) hZ (hw _ (List.mem_of_getElem? (i := 18) rfl)) (hw _ (List.mem_of_getElem? (i := 2) rfl)) (by decide) (by decide)) q36a q36c (g := (mkF m 108 #[.val (.int p0), .val (.int p1), .val (.int (1 : Int32)), .val (.int (1 : Int32)), .val (.ref w_TRUE), .val (.ref w_TRUE), .val (.int (1 : Int32)), .val (.int (1 : Int32)), .unset, .unset] [(.ref w_TRUE), (.ref w_TRUE)])) rfl (by rw [hml]; rfl) (Steps.refl _) (argsL := [(.ref w_TRUE)]) (rest := []) (lenOf pd_4 rfl) rfl (by show 2 * 0 + _ ≤ _; exact Nat.le_of_eq rfl) (hb hby at_108) (fun _ _ => ⟨rfl, e35, (by decide : 0 + 0 ≤ _), (by decide : 0 + 0 ≤ _)⟩)
      dsimp only [Pt.U, Pt.locs, Pt.cells, Pt.slots] at X36 l36 y36 z36 st36 hQ36
      subst l36 y36 z36
      obtain ⟨hv36, N36q, e36q⟩ := hQ36
      obtain rfl := hv36.trans (show some (Value.ref (own_or w_TRUE w_TRUE w_FALSE w_UNKNOWN w_TRUE)) = some (.ref w_TRUE) by simp +decide [own_or, (own_dis o_FALSE o_UNKNOWN (by decide)), (own_dis o_FALSE o_TRUE (by decide)), (own_dis o_UNKNOWN o_FALSE (by decide)), (own_dis o_UNKNOWN o_TRUE (by decide)), (own_dis o_TRUE o_FALSE (by decide)), (own_dis o_TRUE o_UNKNOWN (by decide))])
      have N36 := Fr.app N35 N36q
      have e36 : T36.heap = h0 := e36q
      have hc112 : ¬ ((1 : Int32) = (0 : Int32)) := (by decide)
      obtain ⟨_, _, ⟨T37, L37, k37, n37⟩, -, X37, ⟨Lc37, hQ37, l37, y37, z37⟩, st37⟩ := Jvm.LawKit.callS X36 hx (y := (⟨"com/example/clearance_for_data/clearancefordata/expression/Truth", "of", "(Z)Lcom/example/clearance_for_data/clearancefordata/expression/Truth;"⟩ : MethodName)) hown (mvT hZ (hw _ (List.mem_of_getElem? (i := 0) rfl))) (mvT hZ (hw _ (List.mem_of_getElem? (i := 1) rfl))) (mvT hZ (hw _ (List.mem_of_getElem? (i := 2) rfl))) (mvT hZ (hw _ (List.mem_of_getElem? (i := 3) rfl))) (by decide) (backOf (W := 1) (rm1 l Z a0 hw [] (1 : Int32) w_FALSE w_TRUE h0 n0 Zn S_FALSE S_TRUE) hZ (hw _ (List.mem_of_getElem? (i := 3) rfl)) (hw _ (List.mem_of_getElem? (i := 2) rfl)) (by decide) (by decide)) (g := (mkF m 124 #[.val (.int p0), .val (.int p1), .val (.int (1 : Int32)), .val (.int (1 : Int32)), .val (.ref w_TRUE), .val (.ref w_TRUE), .val (.int (1 : Int32)), .val (.int (1 : Int32)), .unset, .unset] [(.int (1 : Int32)), (.ref w_TRUE)])) rfl (by rw [hml]; rfl) (argsL := [(.int (1 : Int32))]) (rest := [(.ref w_TRUE)]) (lenOf pd_3 rfl) rfl (by show 2 * 0 + _ ≤ _; exact Nat.le_of_eq rfl) (hb hby at_124) (fun _ _ => ⟨rfl, e36, (by decide : 0 + 0 ≤ _), (by decide : 0 + 0 ≤ _)⟩)
      dsimp only [Pt.U, Pt.locs, Pt.cells, Pt.slots] at X37 l37 y37 z37 st37 hQ37
      subst l37 y37 z37
      obtain ⟨hv37, N37q, e37q⟩ := hQ37
      obtain rfl := hv37.trans (show some (Value.ref (own_of (1 : Int32) w_FALSE w_TRUE)) = some (.ref w_TRUE) by simp +decide [own_of])
      have N37 := Fr.app N36 N37q
      have e37 : T37.heap = h0 := e37q
      obtain ⟨cq38, kq38, q38a, q38b, q38c⟩ := isOf hZ e37 E_w_TRUE
      obtain ⟨_, _, ⟨T38, L38, k38, n38⟩, -, X38, ⟨Lc38, hQ38, l38, y38, z38⟩, st38⟩ := X37.virtualBack hx (y := (⟨"com/example/clearance_for_data/clearancefordata/expression/Truth", "not", "()Lcom/example/clearance_for_data/clearancefordata/expression/Truth;"⟩ : MethodName)) (z := (⟨"com/example/clearance_for_data/clearancefordata/expression/Truth", "not", "()Lcom/example/clearance_for_data/clearancefordata/expression/Truth;"⟩ : MethodName)) hown (mvT hZ (hw _ (List.mem_of_getElem? (i := 19) rfl))) (mvT hZ (hw _ (List.mem_of_getElem? (i := 20) rfl))) (notFace_of_selects (args := #[]) (mvT hZ (hw _ (List.mem_of_getElem? (i := 22) rfl)))) (mvT hZ (hw _ (List.mem_of_getElem? (i := 22) rfl))) (mvT hZ (hw _ (List.mem_of_getElem? (i := 21) rfl))) (by decide) (backOf (W := 0) (rm4 l Z a0 hw [] w_TRUE 0 w_FALSE w_UNKNOWN w_TRUE h0 n0 Zn S_FALSE S_UNKNOWN S_TRUE E_w_TRUE F_w_TRUE (by decide)) hZ (hw _ (List.mem_of_getElem? (i := 23) rfl)) (hw _ (List.mem_of_getElem? (i := 2) rfl)) (by decide) (by decide)) q38a q38c (g := (mkF m 139 #[.val (.int p0), .val (.int p1), .val (.int (1 : Int32)), .val (.int (1 : Int32)), .val (.ref w_TRUE), .val (.ref w_TRUE), .val (.int (1 : Int32)), .val (.int (1 : Int32)), .val (.int (1 : Int32)), .unset] [(.ref w_TRUE)])) rfl (by rw [hml]; rfl) (Steps.refl _) (argsL := []) (rest := []) (lenOf pd_5 rfl) rfl (by show 2 * 0 + _ ≤ _; exact Nat.le_of_eq rfl) (hb hby at_139) (fun _ _ => ⟨rfl, e37, (by decide : 0 + 0 ≤ _), (by decide : 0 + 0 ≤ _)⟩)
      dsimp only [Pt.U, Pt.locs, Pt.cells, Pt.slots] at X38 l38 y38 z38 st38 hQ38
      subst l38 y38 z38
      obtain ⟨hv38, N38q, e38q⟩ := hQ38
      obtain rfl := hv38.trans (show some (Value.ref (own_not 0 w_FALSE w_UNKNOWN w_TRUE)) = some (.ref w_FALSE) by simp +decide [own_not])
      have N38 := Fr.app N37 N38q
      have e38 : T38.heap = h0 := e38q
      have hc143 : ¬ ((1 : Int32) = (0 : Int32)) := (by decide)
      obtain ⟨_, _, ⟨T39, L39, k39, n39⟩, -, X39, ⟨Lc39, hQ39, l39, y39, z39⟩, st39⟩ := Jvm.LawKit.callS X38 hx (y := (⟨"com/example/clearance_for_data/clearancefordata/expression/Truth", "of", "(Z)Lcom/example/clearance_for_data/clearancefordata/expression/Truth;"⟩ : MethodName)) hown (mvT hZ (hw _ (List.mem_of_getElem? (i := 0) rfl))) (mvT hZ (hw _ (List.mem_of_getElem? (i := 1) rfl))) (mvT hZ (hw _ (List.mem_of_getElem? (i := 2) rfl))) (mvT hZ (hw _ (List.mem_of_getElem? (i := 3) rfl))) (by decide) (backOf (W := 1) (rm1 l Z a0 hw [] (0 : Int32) w_FALSE w_TRUE h0 n0 Zn S_FALSE S_TRUE) hZ (hw _ (List.mem_of_getElem? (i := 3) rfl)) (hw _ (List.mem_of_getElem? (i := 2) rfl)) (by decide) (by decide)) (g := (mkF m 151 #[.val (.int p0), .val (.int p1), .val (.int (1 : Int32)), .val (.int (1 : Int32)), .val (.ref w_TRUE), .val (.ref w_TRUE), .val (.int (1 : Int32)), .val (.int (1 : Int32)), .val (.int (1 : Int32)), .unset] [(.int (0 : Int32)), (.ref w_FALSE)])) rfl (by rw [hml]; rfl) (argsL := [(.int (0 : Int32))]) (rest := [(.ref w_FALSE)]) (lenOf pd_3 rfl) rfl (by show 2 * 0 + _ ≤ _; exact Nat.le_of_eq rfl) (hb hby at_151) (fun _ _ => ⟨rfl, e38, (by decide : 0 + 0 ≤ _), (by decide : 0 + 0 ≤ _)⟩)
      dsimp only [Pt.U, Pt.locs, Pt.cells, Pt.slots] at X39 l39 y39 z39 st39 hQ39
      subst l39 y39 z39
      obtain ⟨hv39, N39q, e39q⟩ := hQ39
      obtain rfl := hv39.trans (show some (Value.ref (own_of (0 : Int32) w_FALSE w_TRUE)) = some (.ref w_FALSE) by simp +decide [own_of])
      have N39 := Fr.app N38 N39q
      have e39 : T39.heap = h0 := e39q
      have hc166 : ¬ ((1 : Int32) = (0 : Int32)) := (by decide)
      have hc171 : ¬ ((1 : Int32) = (0 : Int32)) := (by decide)
      have hc176 : ¬ ((1 : Int32) = (0 : Int32)) := (by decide)
      have hc181 : ¬ ((1 : Int32) = (0 : Int32)) := (by decide)
      obtain ⟨fs, hr, hrun, hended, hW, hsame⟩ := X39.leave (v := some (.int (1 : Int32))) (fun h => by rw [Bd.returns] at h; cases h) hlk
      refine ⟨_, _, K21 _ ?_, hrun, hended, _, _, rfl, ?_, ⟨_, rfl⟩, hW, hsame.mono (by decide) (by decide)⟩
      ·
        show Steps p.tables e below (s₁.setTop (mkF m 15 #[.val (.int p0), .val (.int p1), .val (.int (1 : Int32)), .unset, .unset, .unset, .unset, .unset, .unset, .unset] [(.int (p1 &&& (1 : Int32)))])) _
        refine XS.ifNo X0.here hx rfl (hb hby at_15) rfl ((if0 _ _).trans (feq hc15).1) ?_
        show Steps p.tables e below (s₁.setTop (mkF m 18 #[.val (.int p0), .val (.int p1), .val (.int (1 : Int32)), .unset, .unset, .unset, .unset, .unset, .unset, .unset] [])) _
        refine XS.iconst X0.here hx rfl (hb hby at_18) ?_
        show Steps p.tables e below (s₁.setTop (mkF m 19 #[.val (.int p0), .val (.int p1), .val (.int (1 : Int32)), .unset, .unset, .unset, .unset, .unset, .unset, .unset] [(.int (1 : Int32))])) _
        refine XS.goto X0.here hx rfl (pc0 := 19) (pc' := 23) rfl (hb hby at_19) (by decide) (by decide) ?_
        show Steps p.tables e below (s₁.setTop (mkF m 23 #[.val (.int p0), .val (.int p1), .val (.int (1 : Int32)), .unset, .unset, .unset, .unset, .unset, .unset, .unset] [(.int (1 : Int32))])) _
        refine XS.istoreN X0.here hx rfl (hb hby at_23) rfl (l' := #[.val (.int p0), .val (.int p1), .val (.int (1 : Int32)), .val (.int (1 : Int32)), .unset, .unset, .unset, .unset, .unset, .unset]) rfl ?_
        show Steps p.tables e below (s₁.setTop (mkF m 24 #[.val (.int p0), .val (.int p1), .val (.int (1 : Int32)), .val (.int (1 : Int32)), .unset, .unset, .unset, .unset, .unset, .unset] [])) _
        refine XS.iloadN X0.here hx rfl (hb hby at_24) rfl ?_
        show Steps p.tables e below (s₁.setTop (mkF m 25 #[.val (.int p0), .val (.int p1), .val (.int (1 : Int32)), .val (.int (1 : Int32)), .unset, .unset, .unset, .unset, .unset, .unset] [(.int (1 : Int32))])) _
        refine st31 _ ?_
        show Steps p.tables e below (T31.setTop (mkF m 28 #[.val (.int p0), .val (.int p1), .val (.int (1 : Int32)), .val (.int (1 : Int32)), .unset, .unset, .unset, .unset, .unset, .unset] [(.ref w_TRUE)])) _
        refine XS.astore X31.here hx rfl (hb hby at_28) rfl rfl (l' := #[.val (.int p0), .val (.int p1), .val (.int (1 : Int32)), .val (.int (1 : Int32)), .val (.ref w_TRUE), .unset, .unset, .unset, .unset, .unset]) rfl ?_
        show Steps p.tables e below (T31.setTop (mkF m 30 #[.val (.int p0), .val (.int p1), .val (.int (1 : Int32)), .val (.int (1 : Int32)), .val (.ref w_TRUE), .unset, .unset, .unset, .unset, .unset] [])) _
        refine XS.iloadN X31.here hx rfl (hb hby at_30) rfl ?_
        show Steps p.tables e below (T31.setTop (mkF m 31 #[.val (.int p0), .val (.int p1), .val (.int (1 : Int32)), .val (.int (1 : Int32)), .val (.ref w_TRUE), .unset, .unset, .unset, .unset, .unset] [(.int (1 : Int32))])) _
        refine st32 _ ?_
        show Steps p.tables e below (T32.setTop (mkF m 34 #[.val (.int p0), .val (.int p1), .val (.int (1 : Int32)), .val (.int (1 : Int32)), .val (.ref w_TRUE), .unset, .unset, .unset, .unset, .unset] [(.ref w_TRUE)])) _
        refine XS.astore X32.here hx rfl (hb hby at_34) rfl rfl (l' := #[.val (.int p0), .val (.int p1), .val (.int (1 : Int32)), .val (.int (1 : Int32)), .val (.ref w_TRUE), .val (.ref w_TRUE), .unset, .unset, .unset, .unset]) rfl ?_
        show Steps p.tables e below (T32.setTop (mkF m 36 #[.val (.int p0), .val (.int p1), .val (.int (1 : Int32)), .val (.int (1 : Int32)), .val (.ref w_TRUE), .val (.ref w_TRUE), .unset, .unset, .unset, .unset] [])) _
        refine XS.iloadN X32.here hx rfl (hb hby at_36) rfl ?_
        show Steps p.tables e below (T32.setTop (mkF m 37 #[.val (.int p0), .val (.int p1), .val (.int (1 : Int32)), .val (.int (1 : Int32)), .val (.ref w_TRUE), .val (.ref w_TRUE), .unset, .unset, .unset, .unset] [(.int (1 : Int32))])) _
        refine XS.ifNo X32.here hx rfl (hb hby at_37) rfl ((if0 _ _).trans (feq hc37).1) ?_
        show Steps p.tables e below (T32.setTop (mkF m 40 #[.val (.int p0), .val (.int p1), .val (.int (1 : Int32)), .val (.int (1 : Int32)), .val (.ref w_TRUE), .val (.ref w_TRUE), .unset, .unset, .unset, .unset] [])) _
        refine XS.aload X32.here hx rfl (hb hby at_40) rfl rfl ?_
        show Steps p.tables e below (T32.setTop (mkF m 42 #[.val (.int p0), .val (.int p1), .val (.int (1 : Int32)), .val (.int (1 : Int32)), .val (.ref w_TRUE), .val (.ref w_TRUE), .unset, .unset, .unset, .unset] [(.ref w_TRUE)])) _
        refine st33 _ ?_
        show Steps p.tables e below (T33.setTop (mkF m 45 #[.val (.int p0), .val (.int p1), .val (.int (1 : Int32)), .val (.int (1 : Int32)), .val (.ref w_TRUE), .val (.ref w_TRUE), .unset, .unset, .unset, .unset] [(.ref w_TRUE), (.ref w_TRUE)])) _
        refine Jvm.RoadKit.acmp (g := (mkF m 45 #[.val (.int p0), .val (.int p1), .val (.int (1 : Int32)), .val (.int (1 : Int32)), .val (.ref w_TRUE), .val (.ref w_TRUE), .unset, .unset, .unset, .unset] [(.ref w_TRUE), (.ref w_TRUE)])) X33 hx rfl rfl rfl (pc0 := 45) (pc' := 48) (same := true) rfl (hb hby at_45) rfl (decide_eq_true rfl) (by decide) (by decide) ?_
        show Steps p.tables e below (T33.setTop (mkF m 48 #[.val (.int p0), .val (.int p1), .val (.int (1 : Int32)), .val (.int (1 : Int32)), .val (.ref w_TRUE), .val (.ref w_TRUE), .unset, .unset, .unset, .unset] [])) _
        refine XS.iconst X33.here hx rfl (hb hby at_48) ?_
        show Steps p.tables e below (T33.setTop (mkF m 49 #[.val (.int p0), .val (.int p1), .val (.int (1 : Int32)), .val (.int (1 : Int32)), .val (.ref w_TRUE), .val (.ref w_TRUE), .unset, .unset, .unset, .unset] [(.int (1 : Int32))])) _
        refine XS.goto X33.here hx rfl (pc0 := 49) (pc' := 69) rfl (hb hby at_49) (by decide) (by decide) ?_
        show Steps p.tables e below (T33.setTop (mkF m 69 #[.val (.int p0), .val (.int p1), .val (.int (1 : Int32)), .val (.int (1 : Int32)), .val (.ref w_TRUE), .val (.ref w_TRUE), .unset, .unset, .unset, .unset] [(.int (1 : Int32))])) _
        refine XS.istore X33.here hx rfl (hb hby at_69) rfl (l' := #[.val (.int p0), .val (.int p1), .val (.int (1 : Int32)), .val (.int (1 : Int32)), .val (.ref w_TRUE), .val (.ref w_TRUE), .val (.int (1 : Int32)), .unset, .unset, .unset]) rfl ?_
        show Steps p.tables e below (T33.setTop (mkF m 71 #[.val (.int p0), .val (.int p1), .val (.int (1 : Int32)), .val (.int (1 : Int32)), .val (.ref w_TRUE), .val (.ref w_TRUE), .val (.int (1 : Int32)), .unset, .unset, .unset] [])) _
        refine XS.aload X33.here hx rfl (hb hby at_71) rfl rfl ?_
        show Steps p.tables e below (T33.setTop (mkF m 73 #[.val (.int p0), .val (.int p1), .val (.int (1 : Int32)), .val (.int (1 : Int32)), .val (.ref w_TRUE), .val (.ref w_TRUE), .val (.int (1 : Int32)), .unset, .unset, .unset] [(.ref w_TRUE)])) _
        refine XS.aload X33.here hx rfl (hb hby at_73) rfl rfl ?_
        show Steps p.tables e below (T33.setTop (mkF m 75 #[.val (.int p0), .val (.int p1), .val (.int (1 : Int32)), .val (.int (1 : Int32)), .val (.ref w_TRUE), .val (.ref w_TRUE), .val (.int (1 : Int32)), .unset, .unset, .unset] [(.ref w_TRUE), (.ref w_TRUE)])) _
        refine st34.trans ?_
        show Steps p.tables e below (T34.setTop (mkF m 78 #[.val (.int p0), .val (.int p1), .val (.int (1 : Int32)), .val (.int (1 : Int32)), .val (.ref w_TRUE), .val (.ref w_TRUE), .val (.int (1 : Int32)), .unset, .unset, .unset] [(.ref w_TRUE)])) _
        refine XS.iloadN X34.here hx rfl (hb hby at_78) rfl ?_
        show Steps p.tables e below (T34.setTop (mkF m 79 #[.val (.int p0), .val (.int p1), .val (.int (1 : Int32)), .val (.int (1 : Int32)), .val (.ref w_TRUE), .val (.ref w_TRUE), .val (.int (1 : Int32)), .unset, .unset, .unset] [(.int (1 : Int32)), (.ref w_TRUE)])) _
        refine XS.ifNo X34.here hx rfl (hb hby at_79) rfl ((if0 _ _).trans (feq hc79).1) ?_
        show Steps p.tables e below (T34.setTop (mkF m 82 #[.val (.int p0), .val (.int p1), .val (.int (1 : Int32)), .val (.int (1 : Int32)), .val (.ref w_TRUE), .val (.ref w_TRUE), .val (.int (1 : Int32)), .unset, .unset, .unset] [(.ref w_TRUE)])) _
        refine XS.iloadN X34.here hx rfl (hb hby at_82) rfl ?_
        show Steps p.tables e below (T34.setTop (mkF m 83 #[.val (.int p0), .val (.int p1), .val (.int (1 : Int32)), .val (.int (1 : Int32)), .val (.ref w_TRUE), .val (.ref w_TRUE), .val (.int (1 : Int32)), .unset, .unset, .unset] [(.int (1 : Int32)), (.ref w_TRUE)])) _
        refine XS.ifNo X34.here hx rfl (hb hby at_83) rfl ((if0 _ _).trans (feq hc83).1) ?_
        show Steps p.tables e below (T34.setTop (mkF m 86 #[.val (.int p0), .val (.int p1), .val (.int (1 : Int32)), .val (.int (1 : Int32)), .val (.ref w_TRUE), .val (.ref w_TRUE), .val (.int (1 : Int32)), .unset, .unset, .unset] [(.ref w_TRUE)])) _
        refine XS.iconst X34.here hx rfl (hb hby at_86) ?_
        show Steps p.tables e below (T34.setTop (mkF m 87 #[.val (.int p0), .val (.int p1), .val (.int (1 : Int32)), .val (.int (1 : Int32)), .val (.ref w_TRUE), .val (.ref w_TRUE), .val (.int (1 : Int32)), .unset, .unset, .unset] [(.int (1 : Int32)), (.ref w_TRUE)])) _
        refine XS.goto X34.here hx rfl (pc0 := 87) (pc' := 91) rfl (hb hby at_87) (by decide) (by decide) ?_
        show Steps p.tables e below (T34.setTop (mkF m 91 #[.val (.int p0), .val (.int p1), .val (.int (1 : Int32)), .val (.int (1 : Int32)), .val (.ref w_TRUE), .val (.ref w_TRUE), .val (.int (1 : Int32)), .unset, .unset, .unset] [(.int (1 : Int32)), (.ref w_TRUE)])) _
        refine st35 _ ?_
        show Steps p.tables e below (T35.setTop (mkF m 94 #[.val (.int p0), .val (.int p1), .val (.int (1 : Int32)), .val (.int (1 : Int32)), .val (.ref w_TRUE), .val (.ref w_TRUE), .val (.int (1 : Int32)), .unset, .unset, .unset] [(.ref w_TRUE), (.ref w_TRUE)])) _
        refine Jvm.RoadKit.acmp (g := (mkF m 94 #[.val (.int p0), .val (.int p1), .val (.int (1 : Int32)), .val (.int (1 : Int32)), .val (.ref w_TRUE), .val (.ref w_TRUE), .val (.int (1 : Int32)), .unset, .unset, .unset] [(.ref w_TRUE), (.ref w_TRUE)])) X35 hx rfl rfl rfl (pc0 := 94) (pc' := 97) (same := true) rfl (hb hby at_94) rfl (decide_eq_true rfl) (by decide) (by decide) ?_
        show Steps p.tables e below (T35.setTop (mkF m 97 #[.val (.int p0), .val (.int p1), .val (.int (1 : Int32)), .val (.int (1 : Int32)), .val (.ref w_TRUE), .val (.ref w_TRUE), .val (.int (1 : Int32)), .unset, .unset, .unset] [])) _
        refine XS.iconst X35.here hx rfl (hb hby at_97) ?_
        show Steps p.tables e below (T35.setTop (mkF m 98 #[.val (.int p0), .val (.int p1), .val (.int (1 : Int32)), .val (.int (1 : Int32)), .val (.ref w_TRUE), .val (.ref w_TRUE), .val (.int (1 : Int32)), .unset, .unset, .unset] [(.int (1 : Int32))])) _
        refine XS.goto X35.here hx rfl (pc0 := 98) (pc' := 102) rfl (hb hby at_98) (by decide) (by decide) ?_
        show Steps p.tables e below (T35.setTop (mkF m 102 #[.val (.int p0), .val (.int p1), .val (.int (1 : Int32)), .val (.int (1 : Int32)), .val (.ref w_TRUE), .val (.ref w_TRUE), .val (.int (1 : Int32)), .unset, .unset, .unset] [(.int (1 : Int32))])) _
        refine XS.istore X35.here hx rfl (hb hby at_102) rfl (l' := #[.val (.int p0), .val (.int p1), .val (.int (1 : Int32)), .val (.int (1 : Int32)), .val (.ref w_TRUE), .val (.ref w_TRUE), .val (.int (1 : Int32)), .val (.int (1 : Int32)), .unset, .unset]) rfl ?_
        show Steps p.tables e below (T35.setTop (mkF m 104 #[.val (.int p0), .val (.int p1), .val (.int (1 : Int32)), .val (.int (1 : Int32)), .val (.ref w_TRUE), .val (.ref w_TRUE), .val (.int (1 : Int32)), .val (.int (1 : Int32)), .unset, .unset] [])) _
        refine XS.aload X35.here hx rfl (hb hby at_104) rfl rfl ?_
        show Steps p.tables e below (T35.setTop (mkF m 106 #[.val (.int p0), .val (.int p1), .val (.int (1 : Int32)), .val (.int (1 : Int32)), .val (.ref w_TRUE), .val (.ref w_TRUE), .val (.int (1 : Int32)), .val (.int (1 : Int32)), .unset, .unset] [(.ref w_TRUE)])) _
        refine XS.aload X35.here hx rfl (hb hby at_106) rfl rfl ?_
        show Steps p.tables e below (T35.setTop (mkF m 108 #[.val (.int p0), .val (.int p1), .val (.int (1 : Int32)), .val (.int (1 : Int32)), .val (.ref w_TRUE), .val (.ref w_TRUE), .val (.int (1 : Int32)), .val (.int (1 : Int32)), .unset, .unset] [(.ref w_TRUE), (.ref w_TRUE)])) _
        refine st36.trans ?_
        show Steps p.tables e below (T36.setTop (mkF m 111 #[.val (.int p0), .val (.int p1), .val (.int (1 : Int32)), .val (.int (1 : Int32)), .val (.ref w_TRUE), .val (.ref w_TRUE), .val (.int (1 : Int32)), .val (.int (1 : Int32)), .unset, .unset] [(.ref w_TRUE)])) _
        refine XS.iloadN X36.here hx rfl (hb hby at_111) rfl ?_
        show Steps p.tables e below (T36.setTop (mkF m 112 #[.val (.int p0), .val (.int p1), .val (.int (1 : Int32)), .val (.int (1 : Int32)), .val (.ref w_TRUE), .val (.ref w_TRUE), .val (.int (1 : Int32)), .val (.int (1 : Int32)), .unset, .unset] [(.int (1 : Int32)), (.ref w_TRUE)])) _
        refine XS.ifYes X36.here hx rfl (pc0 := 112) (pc' := 119) rfl (hb hby at_112) rfl ((if0 _ _).trans (feq hc112).2) (by decide) (by decide) ?_
        show Steps p.tables e below (T36.setTop (mkF m 119 #[.val (.int p0), .val (.int p1), .val (.int (1 : Int32)), .val (.int (1 : Int32)), .val (.ref w_TRUE), .val (.ref w_TRUE), .val (.int (1 : Int32)), .val (.int (1 : Int32)), .unset, .unset] [(.ref w_TRUE)])) _
        refine XS.iconst X36.here hx rfl (hb hby at_119) ?_
        show Steps p.tables e below (T36.setTop (mkF m 120 #[.val (.int p0), .val (.int p1), .val (.int (1 : Int32)), .val (.int (1 : Int32)), .val (.ref w_TRUE), .val (.ref w_TRUE), .val (.int (1 : Int32)), .val (.int (1 : Int32)), .unset, .unset] [(.int (1 : Int32)), (.ref w_TRUE)])) _
        refine XS.goto X36.here hx rfl (pc0 := 120) (pc' := 124) rfl (hb hby at_120) (by decide) (by decide) ?_
        show Steps p.tables e below (T36.setTop (mkF m 124 #[.val (.int p0), .val (.int p1), .val (.int (1 : Int32)), .val (.int (1 : Int32)), .val (.ref w_TRUE), .val (.ref w_TRUE), .val (.int (1 : Int32)), .val (.int (1 : Int32)), .unset, .unset] [(.int (1 : Int32)), (.ref w_TRUE)])) _
        refine st37 _ ?_
        show Steps p.tables e below (T37.setTop (mkF m 127 #[.val (.int p0), .val (.int p1), .val (.int (1 : Int32)), .val (.int (1 : Int32)), .val (.ref w_TRUE), .val (.ref w_TRUE), .val (.int (1 : Int32)), .val (.int (1 : Int32)), .unset, .unset] [(.ref w_TRUE), (.ref w_TRUE)])) _
        refine Jvm.RoadKit.acmp (g := (mkF m 127 #[.val (.int p0), .val (.int p1), .val (.int (1 : Int32)), .val (.int (1 : Int32)), .val (.ref w_TRUE), .val (.ref w_TRUE), .val (.int (1 : Int32)), .val (.int (1 : Int32)), .unset, .unset] [(.ref w_TRUE), (.ref w_TRUE)])) X37 hx rfl rfl rfl (pc0 := 127) (pc' := 130) (same := true) rfl (hb hby at_127) rfl (decide_eq_true rfl) (by decide) (by decide) ?_
        show Steps p.tables e below (T37.setTop (mkF m 130 #[.val (.int p0), .val (.int p1), .val (.int (1 : Int32)), .val (.int (1 : Int32)), .val (.ref w_TRUE), .val (.ref w_TRUE), .val (.int (1 : Int32)), .val (.int (1 : Int32)), .unset, .unset] [])) _
        refine XS.iconst X37.here hx rfl (hb hby at_130) ?_
        show Steps p.tables e below (T37.setTop (mkF m 131 #[.val (.int p0), .val (.int p1), .val (.int (1 : Int32)), .val (.int (1 : Int32)), .val (.ref w_TRUE), .val (.ref w_TRUE), .val (.int (1 : Int32)), .val (.int (1 : Int32)), .unset, .unset] [(.int (1 : Int32))])) _
        refine XS.goto X37.here hx rfl (pc0 := 131) (pc' := 135) rfl (hb hby at_131) (by decide) (by decide) ?_
        show Steps p.tables e below (T37.setTop (mkF m 135 #[.val (.int p0), .val (.int p1), .val (.int (1 : Int32)), .val (.int (1 : Int32)), .val (.ref w_TRUE), .val (.ref w_TRUE), .val (.int (1 : Int32)), .val (.int (1 : Int32)), .unset, .unset] [(.int (1 : Int32))])) _
        refine XS.istore X37.here hx rfl (hb hby at_135) rfl (l' := #[.val (.int p0), .val (.int p1), .val (.int (1 : Int32)), .val (.int (1 : Int32)), .val (.ref w_TRUE), .val (.ref w_TRUE), .val (.int (1 : Int32)), .val (.int (1 : Int32)), .val (.int (1 : Int32)), .unset]) rfl ?_
        show Steps p.tables e below (T37.setTop (mkF m 137 #[.val (.int p0), .val (.int p1), .val (.int (1 : Int32)), .val (.int (1 : Int32)), .val (.ref w_TRUE), .val (.ref w_TRUE), .val (.int (1 : Int32)), .val (.int (1 : Int32)), .val (.int (1 : Int32)), .unset] [])) _
        refine XS.aload X37.here hx rfl (hb hby at_137) rfl rfl ?_
        show Steps p.tables e below (T37.setTop (mkF m 139 #[.val (.int p0), .val (.int p1), .val (.int (1 : Int32)), .val (.int (1 : Int32)), .val (.ref w_TRUE), .val (.ref w_TRUE), .val (.int (1 : Int32)), .val (.int (1 : Int32)), .val (.int (1 : Int32)), .unset] [(.ref w_TRUE)])) _
        refine st38.trans ?_
        show Steps p.tables e below (T38.setTop (mkF m 142 #[.val (.int p0), .val (.int p1), .val (.int (1 : Int32)), .val (.int (1 : Int32)), .val (.ref w_TRUE), .val (.ref w_TRUE), .val (.int (1 : Int32)), .val (.int (1 : Int32)), .val (.int (1 : Int32)), .unset] [(.ref w_FALSE)])) _
        refine XS.iloadN X38.here hx rfl (hb hby at_142) rfl ?_
        show Steps p.tables e below (T38.setTop (mkF m 143 #[.val (.int p0), .val (.int p1), .val (.int (1 : Int32)), .val (.int (1 : Int32)), .val (.ref w_TRUE), .val (.ref w_TRUE), .val (.int (1 : Int32)), .val (.int (1 : Int32)), .val (.int (1 : Int32)), .unset] [(.int (1 : Int32)), (.ref w_FALSE)])) _
        refine XS.ifYes X38.here hx rfl (pc0 := 143) (pc' := 150) rfl (hb hby at_143) rfl ((if0 _ _).trans (feq hc143).2) (by decide) (by decide) ?_
        show Steps p.tables e below (T38.setTop (mkF m 150 #[.val (.int p0), .val (.int p1), .val (.int (1 : Int32)), .val (.int (1 : Int32)), .val (.ref w_TRUE), .val (.ref w_TRUE), .val (.int (1 : Int32)), .val (.int (1 : Int32)), .val (.int (1 : Int32)), .unset] [(.ref w_FALSE)])) _
        refine XS.iconst X38.here hx rfl (hb hby at_150) ?_
        show Steps p.tables e below (T38.setTop (mkF m 151 #[.val (.int p0), .val (.int p1), .val (.int (1 : Int32)), .val (.int (1 : Int32)), .val (.ref w_TRUE), .val (.ref w_TRUE), .val (.int (1 : Int32)), .val (.int (1 : Int32)), .val (.int (1 : Int32)), .unset] [(.int (0 : Int32)), (.ref w_FALSE)])) _
        refine st39 _ ?_
        show Steps p.tables e below (T39.setTop (mkF m 154 #[.val (.int p0), .val (.int p1), .val (.int (1 : Int32)), .val (.int (1 : Int32)), .val (.ref w_TRUE), .val (.ref w_TRUE), .val (.int (1 : Int32)), .val (.int (1 : Int32)), .val (.int (1 : Int32)), .unset] [(.ref w_FALSE), (.ref w_FALSE)])) _
        refine Jvm.RoadKit.acmp (g := (mkF m 154 #[.val (.int p0), .val (.int p1), .val (.int (1 : Int32)), .val (.int (1 : Int32)), .val (.ref w_TRUE), .val (.ref w_TRUE), .val (.int (1 : Int32)), .val (.int (1 : Int32)), .val (.int (1 : Int32)), .unset] [(.ref w_FALSE), (.ref w_FALSE)])) X39 hx rfl rfl rfl (pc0 := 154) (pc' := 157) (same := true) rfl (hb hby at_154) rfl (decide_eq_true rfl) (by decide) (by decide) ?_
        show Steps p.tables e below (T39.setTop (mkF m 157 #[.val (.int p0), .val (.int p1), .val (.int (1 : Int32)), .val (.int (1 : Int32)), .val (.ref w_TRUE), .val (.ref w_TRUE), .val (.int (1 : Int32)), .val (.int (1 : Int32)), .val (.int (1 : Int32)), .unset] [])) _
        refine XS.iconst X39.here hx rfl (hb hby at_157) ?_
        show Steps p.tables e below (T39.setTop (mkF m 158 #[.val (.int p0), .val (.int p1), .val (.int (1 : Int32)), .val (.int (1 : Int32)), .val (.ref w_TRUE), .val (.ref w_TRUE), .val (.int (1 : Int32)), .val (.int (1 : Int32)), .val (.int (1 : Int32)), .unset] [(.int (1 : Int32))])) _
        refine XS.goto X39.here hx rfl (pc0 := 158) (pc' := 162) rfl (hb hby at_158) (by decide) (by decide) ?_
        show Steps p.tables e below (T39.setTop (mkF m 162 #[.val (.int p0), .val (.int p1), .val (.int (1 : Int32)), .val (.int (1 : Int32)), .val (.ref w_TRUE), .val (.ref w_TRUE), .val (.int (1 : Int32)), .val (.int (1 : Int32)), .val (.int (1 : Int32)), .unset] [(.int (1 : Int32))])) _
        refine XS.istore X39.here hx rfl (hb hby at_162) rfl (l' := #[.val (.int p0), .val (.int p1), .val (.int (1 : Int32)), .val (.int (1 : Int32)), .val (.ref w_TRUE), .val (.ref w_TRUE), .val (.int (1 : Int32)), .val (.int (1 : Int32)), .val (.int (1 : Int32)), .val (.int (1 : Int32))]) rfl ?_
        show Steps p.tables e below (T39.setTop (mkF m 164 #[.val (.int p0), .val (.int p1), .val (.int (1 : Int32)), .val (.int (1 : Int32)), .val (.ref w_TRUE), .val (.ref w_TRUE), .val (.int (1 : Int32)), .val (.int (1 : Int32)), .val (.int (1 : Int32)), .val (.int (1 : Int32))] [])) _
        refine XS.iload X39.here hx rfl (hb hby at_164) rfl ?_
        show Steps p.tables e below (T39.setTop (mkF m 166 #[.val (.int p0), .val (.int p1), .val (.int (1 : Int32)), .val (.int (1 : Int32)), .val (.ref w_TRUE), .val (.ref w_TRUE), .val (.int (1 : Int32)), .val (.int (1 : Int32)), .val (.int (1 : Int32)), .val (.int (1 : Int32))] [(.int (1 : Int32))])) _
        refine XS.ifNo X39.here hx rfl (hb hby at_166) rfl ((if0 _ _).trans (feq hc166).1) ?_
        show Steps p.tables e below (T39.setTop (mkF m 169 #[.val (.int p0), .val (.int p1), .val (.int (1 : Int32)), .val (.int (1 : Int32)), .val (.ref w_TRUE), .val (.ref w_TRUE), .val (.int (1 : Int32)), .val (.int (1 : Int32)), .val (.int (1 : Int32)), .val (.int (1 : Int32))] [])) _
        refine XS.iload X39.here hx rfl (hb hby at_169) rfl ?_
        show Steps p.tables e below (T39.setTop (mkF m 171 #[.val (.int p0), .val (.int p1), .val (.int (1 : Int32)), .val (.int (1 : Int32)), .val (.ref w_TRUE), .val (.ref w_TRUE), .val (.int (1 : Int32)), .val (.int (1 : Int32)), .val (.int (1 : Int32)), .val (.int (1 : Int32))] [(.int (1 : Int32))])) _
        refine XS.ifNo X39.here hx rfl (hb hby at_171) rfl ((if0 _ _).trans (feq hc171).1) ?_
        show Steps p.tables e below (T39.setTop (mkF m 174 #[.val (.int p0), .val (.int p1), .val (.int (1 : Int32)), .val (.int (1 : Int32)), .val (.ref w_TRUE), .val (.ref w_TRUE), .val (.int (1 : Int32)), .val (.int (1 : Int32)), .val (.int (1 : Int32)), .val (.int (1 : Int32))] [])) _
        refine XS.iload X39.here hx rfl (hb hby at_174) rfl ?_
        show Steps p.tables e below (T39.setTop (mkF m 176 #[.val (.int p0), .val (.int p1), .val (.int (1 : Int32)), .val (.int (1 : Int32)), .val (.ref w_TRUE), .val (.ref w_TRUE), .val (.int (1 : Int32)), .val (.int (1 : Int32)), .val (.int (1 : Int32)), .val (.int (1 : Int32))] [(.int (1 : Int32))])) _
        refine XS.ifNo X39.here hx rfl (hb hby at_176) rfl ((if0 _ _).trans (feq hc176).1) ?_
        show Steps p.tables e below (T39.setTop (mkF m 179 #[.val (.int p0), .val (.int p1), .val (.int (1 : Int32)), .val (.int (1 : Int32)), .val (.ref w_TRUE), .val (.ref w_TRUE), .val (.int (1 : Int32)), .val (.int (1 : Int32)), .val (.int (1 : Int32)), .val (.int (1 : Int32))] [])) _
        refine XS.iload X39.here hx rfl (hb hby at_179) rfl ?_
        show Steps p.tables e below (T39.setTop (mkF m 181 #[.val (.int p0), .val (.int p1), .val (.int (1 : Int32)), .val (.int (1 : Int32)), .val (.ref w_TRUE), .val (.ref w_TRUE), .val (.int (1 : Int32)), .val (.int (1 : Int32)), .val (.int (1 : Int32)), .val (.int (1 : Int32))] [(.int (1 : Int32))])) _
        refine XS.ifNo X39.here hx rfl (hb hby at_181) rfl ((if0 _ _).trans (feq hc181).1) ?_
        show Steps p.tables e below (T39.setTop (mkF m 184 #[.val (.int p0), .val (.int p1), .val (.int (1 : Int32)), .val (.int (1 : Int32)), .val (.ref w_TRUE), .val (.ref w_TRUE), .val (.int (1 : Int32)), .val (.int (1 : Int32)), .val (.int (1 : Int32)), .val (.int (1 : Int32))] [])) _
        refine XS.iconst X39.here hx rfl (hb hby at_184) ?_
        show Steps p.tables e below (T39.setTop (mkF m 185 #[.val (.int p0), .val (.int p1), .val (.int (1 : Int32)), .val (.int (1 : Int32)), .val (.ref w_TRUE), .val (.ref w_TRUE), .val (.int (1 : Int32)), .val (.int (1 : Int32)), .val (.int (1 : Int32)), .val (.int (1 : Int32))] [(.int (1 : Int32))])) _
        refine XS.goto X39.here hx rfl (pc0 := 185) (pc' := 189) rfl (hb hby at_185) (by decide) (by decide) ?_
        show Steps p.tables e below (T39.setTop (mkF m 189 #[.val (.int p0), .val (.int p1), .val (.int (1 : Int32)), .val (.int (1 : Int32)), .val (.ref w_TRUE), .val (.ref w_TRUE), .val (.int (1 : Int32)), .val (.int (1 : Int32)), .val (.int (1 : Int32)), .val (.int (1 : Int32))] [(.int (1 : Int32))])) _
        exact retN X39 hx (t := .boolean) Bd.returns (by simp) (hb hby at_189) hr
      ·
        show Q_rm0 Z p0 p1 w_FALSE w_UNKNOWN w_TRUE h0 n0 _ T39.heap _
        rw [e39]
        exact ⟨rfl, N39⟩
set_option maxRecDepth 65536 in
set_option maxHeartbeats 40000000 in
theorem comes_1 {Post : Tables → Env → Array Value → State → Outcome → State → Prop} (hpost : ∀ tb e args s v u, (limb_1_1.after args s (.returned v) u = true ∧ limb_1_2.after args s (.returned v) u = true ∧ True) → FrameEnd s (.returned v) u (Jvm.fieldLocs frame_1_writes args s ++ Jvm.arrayLocs frame_1_arrays args s ++ Jvm.staticLocs frame_1_statics s) 0 0 → Post tb e args s (.returned v) u) :
    ArmFor flags0 classFile x code maxLocals ret World_1 tables_1 room_1 Calls_1 rest_1 Pre_1 Post := by
  intro l hfl _ _ p e ha hc hk s m args below hf hA hF happ hP
  obtain ⟨hcalls, hrest, hpre⟩ := hP
  obtain ⟨-, -, -, hnamed, -, -, -, hat⟩ := (Spec.applies_iff hf).mp happ
  obtain ⟨hg, hn⟩ := and_e (Cond.before_iff.mp (show (Jvm.Cond.and given_1 narrow_1).before args s = true from hpre))
  obtain ⟨hg0, hg⟩ := and_e hg
  obtain ⟨ga0, hg⟩ := and_e hg
  have ga1 := hg
  obtain ⟨w0, w1, rfl⟩ : ∃ w0 w1 : Value, args = #[w0, w1] := by
    have hs : args.size = 2 := by simpa [Cond.value, given_1] using hg0
    obtain ⟨L⟩ := args
    match L, hs with
    | [w0, w1], _ => exact ⟨w0, w1, rfl⟩
  have hw := fun d (hd : d ∈ tables_1) => atoms_spec (ws := Jvm.Cond.code x code maxLocals ret :: tables_1) hat d (List.mem_cons_of_mem _ hd)
  have hfit : Fit s := fun {y c} hc i hi => by
    obtain ⟨ha, rfl⟩ := Array.getElem?_eq_some_iff.mp hc
    have q := List.all_eq_true.mp ((Array.all_eq_true_iff_forall_mem.mp hF) _ (Array.getElem_mem ha)) i (List.mem_range.mpr hi)
    simpa [Array.getElem?_eq_getElem hi] using q
  obtain ⟨i0, ei0⟩ := is_v ga0
  obtain rfl : w0 = (.int i0) := Option.some.inj ei0
  obtain ⟨i1, ei1⟩ := is_v ga1
  obtain rfl : w1 = (.int i1) := Option.some.inj ei1
  obtain ⟨cn0, hn⟩ := and_e hn
  obtain ⟨cn1, hn⟩ := and_e hn
  obtain ⟨cn2, hn⟩ := and_e hn
  obtain ⟨cn3, hn⟩ := and_e hn
  obtain ⟨cn4, hn⟩ := and_e hn
  have cn5 := hn
  obtain ⟨w_FALSE, ev_FALSE⟩ := exa_v cn0
  have S_FALSE : Sta s s.heap "com/example/clearance_for_data/clearancefordata/expression/Truth" "FALSE" "Lcom/example/clearance_for_data/clearancefordata/expression/Truth;" (.ref w_FALSE) := Sta.start ev_FALSE (Or.inr ⟨(hw _ (List.mem_of_getElem? (i := 2) rfl)), (hw _ (List.mem_of_getElem? (i := 5) rfl))⟩)
  have E_w_FALSE : Exa s s.heap w_FALSE "com/example/clearance_for_data/clearancefordata/expression/Truth" := Exa.start ev_FALSE cn0
  obtain ⟨w_TRUE, ev_TRUE⟩ := exa_v cn1
  have S_TRUE : Sta s s.heap "com/example/clearance_for_data/clearancefordata/expression/Truth" "TRUE" "Lcom/example/clearance_for_data/clearancefordata/expression/Truth;" (.ref w_TRUE) := Sta.start ev_TRUE (Or.inr ⟨(hw _ (List.mem_of_getElem? (i := 2) rfl)), (hw _ (List.mem_of_getElem? (i := 7) rfl))⟩)
  have E_w_TRUE : Exa s s.heap w_TRUE "com/example/clearance_for_data/clearancefordata/expression/Truth" := Exa.start ev_TRUE cn1
  obtain ⟨w_UNKNOWN, ev_UNKNOWN⟩ := exa_v cn4
  have S_UNKNOWN : Sta s s.heap "com/example/clearance_for_data/clearancefordata/expression/Truth" "UNKNOWN" "Lcom/example/clearance_for_data/clearancefordata/expression/Truth;" (.ref w_UNKNOWN) := Sta.start ev_UNKNOWN (Or.inr ⟨(hw _ (List.mem_of_getElem? (i := 2) rfl)), (hw _ (List.mem_of_getElem? (i := 34) rfl))⟩)
  have E_w_UNKNOWN : Exa s s.heap w_UNKNOWN "com/example/clearance_for_data/clearancefordata/expression/Truth" := Exa.start ev_UNKNOWN cn4
  have q_FALSE := (fld_at ev_FALSE).symm.trans (own_eqv cn2)
  have o_FALSE := own_ordv q_FALSE
  have q_TRUE := (fld_at ev_TRUE).symm.trans (own_eqv cn3)
  have o_TRUE := own_ordv q_TRUE
  have q_UNKNOWN := (fld_at ev_UNKNOWN).symm.trans (own_eqv cn5)
  have o_UNKNOWN := own_ordv q_UNKNOWN
  have F_w_FALSE := Fld.start q_FALSE
  have F_w_TRUE := Fld.start q_TRUE
  obtain ⟨n, o, h1, h2, h3, _, L, rfl, ⟨rfl, N⟩, hq⟩ := rm0 l s _ hw tables_1 i0 i1 w_FALSE w_UNKNOWN w_TRUE s.heap s.heap.size (Nat.le_refl _) S_FALSE S_UNKNOWN S_TRUE E_w_FALSE E_w_UNKNOWN E_w_TRUE o_FALSE o_UNKNOWN o_TRUE F_w_FALSE F_w_TRUE p e ha hc hk s m _ below hf ((Spec.applies_iff_loose hf).mp happ).1 ⟨rfl, State.Warmed39.refl s, rfl⟩ trivial
  refine ⟨n, _, h1, h2, h3, hpost _ _ _ _ _ _ ⟨Cond.after_iff.mpr rfl, Cond.after_iff.mpr (eq_i res_at (Term.int_eval (1)) rfl), trivial⟩ ⟨hq.1, hq.2.1, (hq.2.2.sift fun y hy => Or.inr (N y hy)).mono (by decide) (by decide)⟩⟩
theorem main_1_1 : Claimed_1_1 := comes_1 fun _ _ _ _ _ _ h hF => ⟨h.1, hF⟩
theorem main_1_2 : Claimed_1_2 := comes_1 fun _ _ _ _ _ _ h hF => ⟨h.2.1, hF⟩
end Jvm.Pilot.@@N@@
namespace Jvm.Pilot.@@N@@
open Jvm Jvm.ClassFile Sem Op Lib Jvm.Free Jvm.Stand Jvm.Pilot.@@N@@.Jvm.D
/-! MADE BY PROGRAM (witnessworld.py) out of the Statement's table words and the real class files: 12 classes; the members and pool entries that the words name. The judged class is class 1, her method 1. -/
namespace start1
open Jvm.ClassFile
def u (s : String) : CpInfo := .utf8 (stringToUtf16 s)
/-- a pool by its gaps: so many unusable entries, then the entry; so many at the end -/
def gap : Nat → List CpInfo → List CpInfo
  | 0, r => r
  | n + 1, r => .unusable :: gap n r
def poolList (es : List (Nat × CpInfo)) (last : Nat) : List CpInfo := es.foldr (fun e r => gap e.1 (e.2 :: r)) (gap last [])
def pool (es : List (Nat × CpInfo)) (last : Nat) : Array CpInfo := ⟨poolList es last⟩
def fileOf (pool : Array CpInfo) (this : Nat) (attrs : Array Attribute := #[]) (ms : Array MethodInfo := #[]) (fl : Nat := 33) (sup : Nat := 0) (ifs : Array Nat := #[]) (fds : Array FieldInfo := #[]) : ClassFile where
  minorVersion := 0
  majorVersion := 65
  constantPool := pool
  accessFlags := fl
  thisClass := this
  superClass := sup
  interfaces := ifs
  fields := fds
  methods := ms
  attributes := attrs
def plain (name : String) (sup : Option ClassId) : Class where
  name := name
  kind := .ordinary
  loader := none
  accessFlags := 33
  super := sup
  interfaces := #[]
  cf := none
  fields := #[]
  methods := #[]
  instanceTypes := #[]
  staticTypes := #[]
  resolved := #[]
  callSites := []
  init := .initialized
  statics := none
  mirror := none

def pool0 : Array CpInfo := pool [(5, u "<init>"), (0, u "()V"), (1, .class_ 10), (1, u "java/lang/Object")] 113

def k0m0 : Method := { name := "<init>", desc := "()V", sig := { parameters := [], returnType := none }, accessFlags := 1, code := none }
/-- java/lang/Object -/
def k0 : Class := { plain "java/lang/Object" none with
  accessFlags := 33
  interfaces := #[]
  cf := some (fileOf pool0 8 #[] #[{ accessFlags := 1, nameIndex := 5, descriptorIndex := 6, attributes := #[] }] 33 0 #[] #[])
  fields := #[]
  methods := #[k0m0]
  instanceTypes := #[]
  staticTypes := #[]
  resolved := Array.replicate 124 none
  statics := none }

def pool1 : Array CpInfo := pool [(2, .class_ 4), (1, u "java/lang/Object"), (0, u "<init>"), (0, u "()V"), (0, .methodref 8 9), (0, .class_ 10), (0, .nameAndType 11 12), (0, u "com/example/clearance_for_data/clearancefordata/expression/Truth"), (0, u "of"), (0, u "(Z)Lcom/example/clearance_for_data/clearancefordata/expression/Truth;"), (0, .fieldref 8 14), (0, .nameAndType 15 16), (0, u "TRUE"), (0, u "Lcom/example/clearance_for_data/clearancefordata/expression/Truth;"), (0, .fieldref 8 18), (0, .nameAndType 19 16), (0, u "FALSE"), (0, .methodref 8 21), (0, .nameAndType 22 23), (0, u "and"), (0, u "(Lcom/example/clearance_for_data/clearancefordata/expression/Truth;)Lcom/example/clearance_for_data/clearancefordata/expression/Truth;"), (0, .methodref 8 25), (0, .nameAndType 26 23), (0, u "or"), (0, .methodref 8 28), (0, .nameAndType 29 30), (0, u "not"), (0, u "()Lcom/example/clearance_for_data/clearancefordata/expression/Truth;"), (0, .class_ 32), (0, u "com/example/clearance_for_data/clearancefordata/expression/TruthOfPinLaw"), (2, u "law"), (0, u "(II)Z")] 3

def k1m0 : Method := { name := "<init>", desc := "()V", sig := { parameters := [], returnType := none }, accessFlags := 1, code := none }
def k1c1 : Code := { maxStack := 2, maxLocals := 10, code := code, exceptionTable := #[], attributes := #[] }
def k1m1 : Method := { name := "law", desc := "(II)Z", sig := { parameters := [.int, .int], returnType := some .boolean }, accessFlags := 9, code := some k1c1 }
/-- com/example/clearance_for_data/clearancefordata/expression/TruthOfPinLaw -/
def k1 : Class := { plain "com/example/clearance_for_data/clearancefordata/expression/TruthOfPinLaw" (some 0) with
  accessFlags := 49
  interfaces := #[]
  cf := some (fileOf pool1 31 #[] #[{ accessFlags := 1, nameIndex := 5, descriptorIndex := 6, attributes := #[] }, { accessFlags := 9, nameIndex := 35, descriptorIndex := 36, attributes := #[] }] 49 2 #[] #[])
  fields := #[]
  methods := #[k1m0, k1m1]
  instanceTypes := #[]
  staticTypes := #[]
  resolved := Array.replicate 40 none
  statics := none }

def pool2 : Array CpInfo := pool [(1, .class_ 2), (0, u "java/lang/constant/Constable"), (0, .class_ 4), (0, u "java/lang/Object")] 6

/-- java/lang/constant/Constable -/
def k2 : Class := { plain "java/lang/constant/Constable" (some 0) with
  accessFlags := 1537
  interfaces := #[]
  cf := some (fileOf pool2 1 #[] #[] 1537 3 #[] #[])
  fields := #[]
  methods := #[]
  instanceTypes := #[]
  staticTypes := #[]
  resolved := Array.replicate 11 none
  statics := none }

def pool3 : Array CpInfo := pool [(1, .class_ 2), (0, u "java/lang/Comparable"), (0, .class_ 4), (0, u "java/lang/Object")] 7

/-- java/lang/Comparable -/
def k3 : Class := { plain "java/lang/Comparable" (some 0) with
  accessFlags := 1537
  interfaces := #[]
  cf := some (fileOf pool3 1 #[] #[] 1537 3 #[] #[])
  fields := #[]
  methods := #[]
  instanceTypes := #[]
  staticTypes := #[]
  resolved := Array.replicate 12 none
  statics := none }

def pool4 : Array CpInfo := pool [(1, .class_ 2), (0, u "java/io/Serializable"), (0, .class_ 4), (0, u "java/lang/Object")] 2

/-- java/io/Serializable -/
def k4 : Class := { plain "java/io/Serializable" (some 0) with
  accessFlags := 1537
  interfaces := #[]
  cf := some (fileOf pool4 1 #[] #[] 1537 3 #[] #[])
  fields := #[]
  methods := #[]
  instanceTypes := #[]
  staticTypes := #[]
  resolved := Array.replicate 7 none
  statics := none }

def pool5 : Array CpInfo := pool [(2, .class_ 4), (1, u "java/lang/Enum"), (0, u "name"), (0, u "Ljava/lang/String;"), (0, .fieldref 2 8), (0, .nameAndType 9 10), (0, u "ordinal"), (0, u "I"), (1, .class_ 14), (1, u "java/lang/Object"), (4, u "hash"), (86, .class_ 108), (1, u "java/lang/Enum$EnumDesc"), (2, .class_ 112), (0, u "java/lang/constant/Constable"), (0, .class_ 114), (0, u "java/lang/Comparable"), (0, .class_ 116), (0, u "java/io/Serializable"), (9, u "()I")] 77

def k5c0 : Code := { maxStack := 1, maxLocals := 1, code := jdk_37_method_2_code, exceptionTable := #[], attributes := #[] }
def k5m0 : Method := { name := "ordinal", desc := "()I", sig := { parameters := [], returnType := some .int }, accessFlags := 17, code := some k5c0 }
/-- java/lang/Enum -/
def k5 : Class := { plain "java/lang/Enum" (some 0) with
  accessFlags := 1057
  interfaces := #[2, 3, 4]
  cf := some (fileOf pool5 2 #[.nestMembers #[106]] #[{ accessFlags := 17, nameIndex := 9, descriptorIndex := 126, attributes := #[] }] 1057 12 #[111, 113, 115] #[{ accessFlags := 18, nameIndex := 5, descriptorIndex := 6, attributes := #[] }, { accessFlags := 18, nameIndex := 9, descriptorIndex := 10, attributes := #[] }, { accessFlags := 2, nameIndex := 19, descriptorIndex := 10, attributes := #[] }])
  fields := #[{ name := "name", type := (.object "java/lang/String"), accessFlags := 18, slot := 0, constantValue := 0 }, { name := "ordinal", type := .int, accessFlags := 18, slot := 1, constantValue := 0 }, { name := "hash", type := .int, accessFlags := 2, slot := 2, constantValue := 0 }]
  methods := #[k5m0]
  instanceTypes := #[(.object "java/lang/String"), .int, .int]
  staticTypes := #[]
  resolved := Array.replicate 204 none
  statics := none }

def pool6 : Array CpInfo := pool [(1, .class_ 2), (0, u "com/example/clearance_for_data/clearancefordata/expression/Truth"), (0, .fieldref 1 4), (0, .nameAndType 5 6), (0, u "TRUE"), (0, u "Lcom/example/clearance_for_data/clearancefordata/expression/Truth;"), (0, .fieldref 1 8), (0, .nameAndType 9 6), (0, u "FALSE"), (0, .fieldref 1 11), (0, .nameAndType 12 6), (0, u "UNKNOWN"), (2, u "$VALUES"), (0, u "[Lcom/example/clearance_for_data/clearancefordata/expression/Truth;"), (6, .class_ 25), (1, u "java/lang/Enum"), (6, .methodref 1 33), (0, .nameAndType 34 35), (0, u "ordinal"), (0, u "()I"), (20, u "of"), (0, u "(Z)Lcom/example/clearance_for_data/clearancefordata/expression/Truth;"), (1, u "and"), (0, u "(Lcom/example/clearance_for_data/clearancefordata/expression/Truth;)Lcom/example/clearance_for_data/clearancefordata/expression/Truth;"), (0, u "or"), (0, u "not"), (0, u "()Lcom/example/clearance_for_data/clearancefordata/expression/Truth;")] 4

def k6c0 : Code := { maxStack := 1, maxLocals := 1, code := prog_37_method_4_code, exceptionTable := #[], attributes := #[] }
def k6m0 : Method := { name := "of", desc := "(Z)Lcom/example/clearance_for_data/clearancefordata/expression/Truth;", sig := { parameters := [.boolean], returnType := some (.object "com/example/clearance_for_data/clearancefordata/expression/Truth") }, accessFlags := 8, code := some k6c0 }
def k6c1 : Code := { maxStack := 2, maxLocals := 2, code := prog_37_method_5_code, exceptionTable := #[], attributes := #[] }
def k6m1 : Method := { name := "and", desc := "(Lcom/example/clearance_for_data/clearancefordata/expression/Truth;)Lcom/example/clearance_for_data/clearancefordata/expression/Truth;", sig := { parameters := [(.object "com/example/clearance_for_data/clearancefordata/expression/Truth")], returnType := some (.object "com/example/clearance_for_data/clearancefordata/expression/Truth") }, accessFlags := 0, code := some k6c1 }
def k6c2 : Code := { maxStack := 2, maxLocals := 2, code := prog_37_method_6_code, exceptionTable := #[], attributes := #[] }
def k6m2 : Method := { name := "or", desc := "(Lcom/example/clearance_for_data/clearancefordata/expression/Truth;)Lcom/example/clearance_for_data/clearancefordata/expression/Truth;", sig := { parameters := [(.object "com/example/clearance_for_data/clearancefordata/expression/Truth")], returnType := some (.object "com/example/clearance_for_data/clearancefordata/expression/Truth") }, accessFlags := 0, code := some k6c2 }
def k6c3 : Code := { maxStack := 4, maxLocals := 1, code := prog_37_method_7_code, exceptionTable := #[], attributes := #[] }
def k6m3 : Method := { name := "not", desc := "()Lcom/example/clearance_for_data/clearancefordata/expression/Truth;", sig := { parameters := [], returnType := some (.object "com/example/clearance_for_data/clearancefordata/expression/Truth") }, accessFlags := 0, code := some k6c3 }
/-- com/example/clearance_for_data/clearancefordata/expression/Truth -/
def k6 : Class := { plain "com/example/clearance_for_data/clearancefordata/expression/Truth" (some 5) with
  accessFlags := 16433
  interfaces := #[]
  cf := some (fileOf pool6 1 #[] #[{ accessFlags := 8, nameIndex := 56, descriptorIndex := 57, attributes := #[] }, { accessFlags := 0, nameIndex := 59, descriptorIndex := 60, attributes := #[] }, { accessFlags := 0, nameIndex := 61, descriptorIndex := 60, attributes := #[] }, { accessFlags := 0, nameIndex := 62, descriptorIndex := 63, attributes := #[] }] 16433 23 #[] #[{ accessFlags := 16409, nameIndex := 5, descriptorIndex := 6, attributes := #[] }, { accessFlags := 16409, nameIndex := 9, descriptorIndex := 6, attributes := #[] }, { accessFlags := 16409, nameIndex := 12, descriptorIndex := 6, attributes := #[] }, { accessFlags := 4122, nameIndex := 15, descriptorIndex := 16, attributes := #[] }])
  fields := #[{ name := "TRUE", type := (.object "com/example/clearance_for_data/clearancefordata/expression/Truth"), accessFlags := 16409, slot := 0, constantValue := 0 }, { name := "FALSE", type := (.object "com/example/clearance_for_data/clearancefordata/expression/Truth"), accessFlags := 16409, slot := 1, constantValue := 0 }, { name := "UNKNOWN", type := (.object "com/example/clearance_for_data/clearancefordata/expression/Truth"), accessFlags := 16409, slot := 2, constantValue := 0 }, { name := "$VALUES", type := (.array (.object "com/example/clearance_for_data/clearancefordata/expression/Truth")), accessFlags := 4122, slot := 3, constantValue := 0 }]
  methods := #[k6m0, k6m1, k6m2, k6m3]
  instanceTypes := #[(.object "java/lang/String"), .int, .int]
  staticTypes := #[(.object "com/example/clearance_for_data/clearancefordata/expression/Truth"), (.object "com/example/clearance_for_data/clearancefordata/expression/Truth"), (.object "com/example/clearance_for_data/clearancefordata/expression/Truth"), (.array (.object "com/example/clearance_for_data/clearancefordata/expression/Truth"))]
  resolved := Array.replicate 68 none
  statics := some 0 }

def pool7 : Array CpInfo := pool [(1, u "java/lang/Cloneable"), (0, .class_ 1), (0, u "java/lang/Object"), (0, .class_ 3)] 3

/-- java/lang/Cloneable -/
def k7 : Class := { plain "java/lang/Cloneable" (some 0) with
  accessFlags := 1537
  interfaces := #[]
  cf := some (fileOf pool7 2 #[] #[] 1537 4 #[] #[])
  fields := #[]
  methods := #[]
  instanceTypes := #[]
  staticTypes := #[]
  resolved := Array.replicate 8 none
  statics := none }

/-- the primitive byte -/
def k8 : Class := { plain "byte" none with kind := .primitive 'B', accessFlags := 0x411 }
/-- [B -/
def k9 : Class := { plain "[B" (some 0) with kind := .array 8 .byte, interfaces := #[7, 4], accessFlags := 1041 }

/-- the primitive int -/
def k10 : Class := { plain "int" none with kind := .primitive 'I', accessFlags := 0x411 }
/-- [I -/
def k11 : Class := { plain "[I" (some 0) with kind := .array 10 .int, interfaces := #[7, 4], accessFlags := 1041 }

def heap : Heap := #[{ cls := 6, slots := #[.ref 2, .ref 1, .ref 3, .null], vm := .statics 6 },
  { cls := 6, slots := #[.null, .int 1, .int 0], vm := .none },
  { cls := 6, slots := #[.null, .int 0, .int 0], vm := .none },
  { cls := 6, slots := #[.null, .int 2, .int 0], vm := .none }]
def classes : Array Class := #[k0, k1, k2, k3, k4, k5, k6, k7, k8, k9, k10, k11]
def interned : List (Array UInt16 × Addr) := []
def slotsUsed : Nat := 13
def theMethod : MethodId := ⟨1, 1⟩
def args0 : Array Value := #[.int 5, .int 7]
def aboutOver (below : List Frame) : State where
  vm := { classes := classes, interned := interned.toArray }
  heap := heap
  slotsUsed := slotsUsed
  threads := #[{ frames := .invoking theMethod args0 :: below }]
def below0 : List Frame := [.native { method := ⟨0, 0⟩, args := #[] }]
def about1 : State := aboutOver below0
def p0 : Program := .bare "" "" ""
def e0 : Env := launch0.env 0 0 0
theorem w_frames : about1.frames = Frame.invoking theMethod args0 :: below0 := rfl
set_option maxRecDepth 65536 in
theorem w_args : argsFit about1.vm theMethod args0 = true := by decide +kernel
set_option maxRecDepth 65536 in
theorem w_heap : heapFits about1 = true := by decide +kernel
set_option maxRecDepth 65536 in
theorem w_runnable : about1.curStatus? = some .runnable := by decide +kernel
set_option maxRecDepth 65536 in
theorem w_alone : about1.alone = true := by decide +kernel
set_option maxRecDepth 65536 in
theorem w_named : about1.methodNamed? x = some theMethod := by decide +kernel
set_option maxRecDepth 65536 in
theorem w_hears : about1.hears theMethod below0 = true := by decide +kernel
set_option maxRecDepth 65536 in
theorem w_ripe : about1.ripe theMethod args0 below0 = true := by decide +kernel
theorem w_running : about1.status = .running := rfl
set_option maxRecDepth 65536 in
theorem w_room : about1.hasRoom e0.platform room_1 = true :=
  launch0.hasRoom_least _ room_1 (by decide +kernel) (by decide +kernel) (by decide +kernel) (by decide +kernel) (by decide +kernel) (by decide +kernel)
theorem allAtoms_all (ts : List Jvm.Cond) (a : Array Jvm.Value) (st : Jvm.State) : (allAtoms ts).before a st = ts.all (fun c => c.before a st) := by
  induction ts with
  | nil => rfl
  | cons c t ih =>
    show (Jvm.Cond.and c (allAtoms t)).before a st = _
    rw [Jvm.Cond.before_and, ih, List.all_cons]
def words1 : List Jvm.Cond := Jvm.Cond.code x code maxLocals ret :: tables_1
/-- a 'code' word, met by the world's own term for the bytes: nothing is compared byte by byte -/
theorem code_word {y : MethodName} {bytes : ByteArray} {mx : Nat} {rt : Option FieldType} {a : Array Value} {s : State} {m : MethodId} {meth : Method} {c : Code} (h1 : s.methodNamed? y = some m) (h2 : s.vm.method? m = some meth) (h3 : meth.code = some c) (h4 : c.code = bytes)
    (h5 : (c.maxLocals == mx && c.exceptionTable.isEmpty && decide (c.maxStack ≤ mostOperands) && decide (meth.sig.returnType = rt) && !meth.locks && decide (parseMethodDescriptor y.desc = some meth.sig)) = true) : (Jvm.Cond.code y bytes mx rt).before a s = true := by
  simp only [Bool.and_eq_true, beq_iff_eq, Bool.not_eq_true', decide_eq_true_eq] at h5
  obtain ⟨⟨⟨⟨⟨g1, g2⟩, g3⟩, g4⟩, g5⟩, g6⟩ := h5
  simp [Cond.before, Cond.holds, Cond.value, h1, h2, h3, h4, g1, g2, g3, g4, g5, g6]
def isCode : Jvm.Cond → Bool
  | .code _ _ _ _ => true
  | _ => false
theorem all_split {L : List Jvm.Cond} {P : Jvm.Cond → Bool} (h1 : L.all (fun c => isCode c || P c) = true) (h2 : ∀ c ∈ L.filter isCode, P c = true) : L.all P = true := by
  refine List.all_eq_true.mpr fun c hc => ?_
  have h := List.all_eq_true.mp h1 c hc
  rcases Bool.eq_false_or_eq_true (isCode c) with hi | hi
  · exact h2 c (List.mem_filter.mpr ⟨hc, hi⟩)
  · simpa [hi] using h
set_option maxRecDepth 65536 in
theorem w_c0 : (Jvm.Cond.code x code maxLocals ret).before args0 about1 = true := code_word (m := ⟨1, 1⟩) (meth := k1m1) (c := k1c1) (by decide +kernel) rfl rfl rfl (by decide +kernel)
set_option maxRecDepth 65536 in
theorem w_c1 : (Jvm.Cond.code ({ cls := "com/example/clearance_for_data/clearancefordata/expression/Truth", name := "of", desc := "(Z)Lcom/example/clearance_for_data/clearancefordata/expression/Truth;" } : Jvm.MethodName) prog_37_method_4_code (1 : Nat) (Option.some (Jvm.ClassFile.FieldType.object "com/example/clearance_for_data/clearancefordata/expression/Truth"))).before args0 about1 = true := code_word (m := ⟨6, 0⟩) (meth := k6m0) (c := k6c0) (by decide +kernel) rfl rfl rfl (by decide +kernel)
set_option maxRecDepth 65536 in
theorem w_c2 : (Jvm.Cond.code ({ cls := "com/example/clearance_for_data/clearancefordata/expression/Truth", name := "and", desc := "(Lcom/example/clearance_for_data/clearancefordata/expression/Truth;)Lcom/example/clearance_for_data/clearancefordata/expression/Truth;" } : Jvm.MethodName) prog_37_method_5_code (2 : Nat) (Option.some (Jvm.ClassFile.FieldType.object "com/example/clearance_for_data/clearancefordata/expression/Truth"))).before args0 about1 = true := code_word (m := ⟨6, 1⟩) (meth := k6m1) (c := k6c1) (by decide +kernel) rfl rfl rfl (by decide +kernel)
set_option maxRecDepth 65536 in
theorem w_c3 : (Jvm.Cond.code ({ cls := "com/example/clearance_for_data/clearancefordata/expression/Truth", name := "or", desc := "(Lcom/example/clearance_for_data/clearancefordata/expression/Truth;)Lcom/example/clearance_for_data/clearancefordata/expression/Truth;" } : Jvm.MethodName) prog_37_method_6_code (2 : Nat) (Option.some (Jvm.ClassFile.FieldType.object "com/example/clearance_for_data/clearancefordata/expression/Truth"))).before args0 about1 = true := code_word (m := ⟨6, 2⟩) (meth := k6m2) (c := k6c2) (by decide +kernel) rfl rfl rfl (by decide +kernel)
set_option maxRecDepth 65536 in
theorem w_c4 : (Jvm.Cond.code ({ cls := "com/example/clearance_for_data/clearancefordata/expression/Truth", name := "not", desc := "()Lcom/example/clearance_for_data/clearancefordata/expression/Truth;" } : Jvm.MethodName) prog_37_method_7_code (1 : Nat) (Option.some (Jvm.ClassFile.FieldType.object "com/example/clearance_for_data/clearancefordata/expression/Truth"))).before args0 about1 = true := code_word (m := ⟨6, 3⟩) (meth := k6m3) (c := k6c3) (by decide +kernel) rfl rfl rfl (by decide +kernel)
set_option maxRecDepth 65536 in
theorem w_c5 : (Jvm.Cond.code ({ cls := "java/lang/Enum", name := "ordinal", desc := "()I" } : Jvm.MethodName) jdk_37_method_2_code (1 : Nat) (Option.some Jvm.ClassFile.FieldType.int)).before args0 about1 = true := code_word (m := ⟨5, 0⟩) (meth := k5m0) (c := k5c0) (by decide +kernel) rfl rfl rfl (by decide +kernel)
def codes1 : List Jvm.Cond := [Jvm.Cond.code x code maxLocals ret, Jvm.Cond.code ({ cls := "com/example/clearance_for_data/clearancefordata/expression/Truth", name := "of", desc := "(Z)Lcom/example/clearance_for_data/clearancefordata/expression/Truth;" } : Jvm.MethodName) prog_37_method_4_code (1 : Nat) (Option.some (Jvm.ClassFile.FieldType.object "com/example/clearance_for_data/clearancefordata/expression/Truth")), Jvm.Cond.code ({ cls := "com/example/clearance_for_data/clearancefordata/expression/Truth", name := "and", desc := "(Lcom/example/clearance_for_data/clearancefordata/expression/Truth;)Lcom/example/clearance_for_data/clearancefordata/expression/Truth;" } : Jvm.MethodName) prog_37_method_5_code (2 : Nat) (Option.some (Jvm.ClassFile.FieldType.object "com/example/clearance_for_data/clearancefordata/expression/Truth")), Jvm.Cond.code ({ cls := "com/example/clearance_for_data/clearancefordata/expression/Truth", name := "or", desc := "(Lcom/example/clearance_for_data/clearancefordata/expression/Truth;)Lcom/example/clearance_for_data/clearancefordata/expression/Truth;" } : Jvm.MethodName) prog_37_method_6_code (2 : Nat) (Option.some (Jvm.ClassFile.FieldType.object "com/example/clearance_for_data/clearancefordata/expression/Truth")), Jvm.Cond.code ({ cls := "com/example/clearance_for_data/clearancefordata/expression/Truth", name := "not", desc := "()Lcom/example/clearance_for_data/clearancefordata/expression/Truth;" } : Jvm.MethodName) prog_37_method_7_code (1 : Nat) (Option.some (Jvm.ClassFile.FieldType.object "com/example/clearance_for_data/clearancefordata/expression/Truth")), Jvm.Cond.code ({ cls := "java/lang/Enum", name := "ordinal", desc := "()I" } : Jvm.MethodName) jdk_37_method_2_code (1 : Nat) (Option.some Jvm.ClassFile.FieldType.int)]
set_option maxRecDepth 65536 in
theorem codes_eq : words1.filter isCode = codes1 := rfl
theorem w_codes : ∀ c ∈ words1.filter isCode, c.before args0 about1 = true := by
  rw [codes_eq]
  intro c hc
  simp only [codes1, List.mem_cons, List.not_mem_nil, or_false] at hc
  rcases hc with rfl | rfl | rfl | rfl | rfl | rfl
  · exact w_c0
  · exact w_c1
  · exact w_c2
  · exact w_c3
  · exact w_c4
  · exact w_c5
set_option maxRecDepth 65536 in
theorem w_t1 : (words1.take 24).all (fun c => isCode c || c.before args0 about1) = true := by decide +kernel
set_option maxRecDepth 65536 in
theorem w_t2 : (words1.drop 24).all (fun c => isCode c || c.before args0 about1) = true := by decide +kernel
theorem w_tables : (allAtoms (Jvm.Cond.code x code maxLocals ret :: tables_1)).before args0 about1 = true := by
  rw [allAtoms_all]
  show words1.all (fun c => c.before args0 about1) = true
  refine all_split ?_ w_codes
  rw [← List.take_append_drop 24 words1, List.all_append, w_t1, w_t2]
  rfl
set_option maxRecDepth 65536 in
theorem w_case : (Jvm.Cond.and given_1 narrow_1).before args0 about1 = true := by decide +kernel
theorem w_applies : (headSpec (Jvm.Cond.code x code maxLocals ret :: tables_1) room_1).applies x e0.platform about1 = true :=
  (Spec.applies_iff w_frames).mpr ⟨w_running, w_runnable, w_alone, w_named, w_hears, w_ripe, w_room, w_tables⟩
theorem atStart : AtStart classFile x code maxLocals ret World_1 tables_1 room_1 Calls_1 rest_1 Pre_1 launch0 p0 e0 about1 theMethod args0 below0 :=
  ⟨lists_1, trivial, launch0.admits_env _ _ _, launch0.least_env, fairChoices_fair.cas, fairChoices_fair.clock, w_frames, w_args, w_heap, w_applies, trivial, trivial, w_case⟩
end start1
theorem witness_1 : WitnessClaimed_1 := ⟨start1.p0, start1.e0, start1.about1, start1.theMethod, start1.args0, start1.below0, start1.atStart⟩
end Jvm.Pilot.@@N@@
