import JvmDerived
import JvmDerived.Pilot.@@N@@Statement
import JvmDerived.Pilot.@@N@@Code
set_option linter.unusedVariables false
set_option linter.unusedSimpArgs false
@@BLOCK:NumsL.lean.txt@@
namespace Jvm.RoadKit
open Sem ClassFile Op Lib Jvm.Stand Jvm.Free Jvm.LawKit
section New
variable {p : Program} {l : Launch} {e : Env} {R : Room} {s : State} {m : MethodId} {args : Array Value} {below : List Frame} {meth : Method} {c : Code} {T : State} {locs : List Loc} {cells slots : Nat}
theorem retI (X : Stand p l e R s m args below meth c T locs cells slots) (hx : p.tables.exec = Jvm.exec) {pc : Nat} {Ls : Array Slot} {z : Int32} {rest : List Value} (hret : meth.sig.returnType = some .int) (hd : decode c.code pc = .ok (.ireturn, 1)) {fs : List Frame}
    (hl : ∀ (f : JFrame) (acts : List Action), f.method = m → f.locked = none → f.entered = [] → (doReturn e (T.setTop f) acts (some (.int z))).1 = T.setFrames fs) : Steps p.tables e below (T.setTop (mkF m pc Ls (.int z :: rest))) (T.setFrames fs) := by
  have hm' : T.vm.method? m = some meth := X.method'
  have hn : narrow .int (.int z) = .int z := rfl
  show Steps p.tables e below (T.setTop { method := m, pc := pc, locals := Ls, stack := _ :: rest, locked := none }) _
  jvm_step X.here [X.here.top, hx, hd, hm', hret, hn]
  first | (intro acts; rw [hl _ acts rfl rfl rfl]) | rw [hl _ _ rfl rfl rfl]
  exact Steps.refl _
end New
end Jvm.RoadKit
namespace Jvm.Pilot.@@N@@
open Jvm Jvm.ClassFile Sem Op Lib Jvm.Free Jvm.Stand Jvm.LawKit Jvm.RoadKit Bundle Jvm.Pilot.@@N@@.Jvm.D
theorem own_eqv {args : Array Value} {first s : State} {o : Option Outcome} {idx : List Nat} {t : Term} {k : Int32} (h : (Cond.eq t (.int k)).value args first o s idx = some true) : t.eval args first o idx s = some (.int k) := by
  cases ht : t.eval args first o idx s with
  | none => simp [Cond.value, ht] at h
  | some v => cases v <;> simp [Cond.value, ht, Term.eval] at h ⊢ <;> exact h
def own_ord (Z : State) (a : Addr) : Int32 := match Z.fieldOf? a "java/lang/Enum" "ordinal" "I" with
  | some (.int k) => k
  | _ => -1
theorem own_ordv {Z : State} {a : Addr} {k : Int32} (h : Z.fieldOf? a "java/lang/Enum" "ordinal" "I" = some (.int k)) : own_ord Z a = k := by simp [own_ord, h]
theorem own_dis {Z : State} {a b : Addr} {i j : Int32} (h : own_ord Z a = i) (h' : own_ord Z b = j) (n : i ≠ j) : a ≠ b := fun e => n (by rw [← h, ← h', e])
def own_pick (p : Int32) (w_LOAD w_STORE w_LOCK w_UNLOCK w_SET w_BRANCH : Addr) : Addr := if p = 0 then w_LOAD else if p = 1 then w_STORE else if p = 2 then w_LOCK else if p = 3 then w_UNLOCK else if p = 4 then w_SET else w_BRANCH
def own_act (a x y : Addr) : Int32 := if a = x then 0 else if a = y then 0 else 1
theorem own_mod (p c : Int32) (hc : 0 < c.toInt) : 0 ≤ ((p &&& (2147483647 : Int32)) - ((p &&& (2147483647 : Int32)) / c) * c).toInt ∧ ((p &&& (2147483647 : Int32)) - ((p &&& (2147483647 : Int32)) / c) * c).toInt < c.toInt := by
  have e : (p &&& (2147483647 : Int32)).toInt = p.toInt % 2 ^ 31 := Jvm.Kit.i32_mask p 2147483647 (k := 31) (by decide) (by decide)
  rw [irem_eq_mod, Jvm.Kit.i32_rem_nonneg (by omega)]
  exact ⟨Int.emod_nonneg _ (by omega), Int.emod_lt_of_pos _ hc⟩
theorem own_kind {Z : State} {w_LOAD w_STORE w_LOCK w_UNLOCK w_SET w_BRANCH : Addr} (o_LOAD : own_ord Z w_LOAD = 0) (o_STORE : own_ord Z w_STORE = 1) (o_LOCK : own_ord Z w_LOCK = 2) (o_UNLOCK : own_ord Z w_UNLOCK = 3) (o_SET : own_ord Z w_SET = 4) (o_BRANCH : own_ord Z w_BRANCH = 5) (i : Int32) (hi : 0 ≤ i.toInt) : own_act (own_pick i w_LOAD w_STORE w_LOCK w_UNLOCK w_SET w_BRANCH) w_SET w_BRANCH = if (3 : Int32) < i then 0 else 1 := by
  by_cases h0 : i = 0
  · subst h0; simp [own_pick, own_act, (own_dis o_LOAD o_SET (by decide)), (own_dis o_LOAD o_BRANCH (by decide))]
  by_cases h1 : i = 1
  · subst h1; simp [own_pick, own_act, (own_dis o_STORE o_SET (by decide)), (own_dis o_STORE o_BRANCH (by decide))]
  by_cases h2 : i = 2
  · subst h2; simp [own_pick, own_act, (own_dis o_LOCK o_SET (by decide)), (own_dis o_LOCK o_BRANCH (by decide))]
  by_cases h3 : i = 3
  · subst h3; simp [own_pick, own_act, (own_dis o_UNLOCK o_SET (by decide)), (own_dis o_UNLOCK o_BRANCH (by decide))]
  have g : (3 : Int32) < i := by
    rw [Int32.lt_iff_toInt_lt]
    have c3 : (3 : Int32).toInt = 3 := by decide
    have e0 : i.toInt ≠ 0 := fun z => h0 (Int32.toInt_inj.mp z)
    have e1 : i.toInt ≠ 1 := fun z => h1 (Int32.toInt_inj.mp z)
    have e2 : i.toInt ≠ 2 := fun z => h2 (Int32.toInt_inj.mp z)
    have e3 : i.toInt ≠ 3 := fun z => h3 (Int32.toInt_inj.mp z)
    omega
  rw [if_pos g]
  by_cases h4 : i = 4
  · subst h4; simp [own_pick, own_act]
  · simp [own_pick, own_act, h0, h1, h2, h3, h4]
theorem d_method_3_code_0 : decode method_3_code 0 = .ok (.iload_n 0, 1) := by decide +kernel
theorem d_method_3_code_1 : decode method_3_code 1 = .ok (.ifCond .ne 7, 3) := by decide +kernel
theorem d_method_3_code_4 : decode method_3_code 4 = .ok (.getstatic 20, 3) := by decide +kernel
theorem d_method_3_code_7 : decode method_3_code 7 = .ok (.areturn, 1) := by decide +kernel
theorem d_method_3_code_8 : decode method_3_code 8 = .ok (.iload_n 0, 1) := by decide +kernel
theorem d_method_3_code_9 : decode method_3_code 9 = .ok (.iconst 1, 1) := by decide +kernel
theorem d_method_3_code_10 : decode method_3_code 10 = .ok (.if_icmp .ne 7, 3) := by decide +kernel
theorem d_method_3_code_13 : decode method_3_code 13 = .ok (.getstatic 24, 3) := by decide +kernel
theorem d_method_3_code_16 : decode method_3_code 16 = .ok (.areturn, 1) := by decide +kernel
theorem d_method_3_code_17 : decode method_3_code 17 = .ok (.iload_n 0, 1) := by decide +kernel
theorem d_method_3_code_18 : decode method_3_code 18 = .ok (.iconst 2, 1) := by decide +kernel
theorem d_method_3_code_19 : decode method_3_code 19 = .ok (.if_icmp .ne 7, 3) := by decide +kernel
theorem d_method_3_code_22 : decode method_3_code 22 = .ok (.getstatic 27, 3) := by decide +kernel
theorem d_method_3_code_25 : decode method_3_code 25 = .ok (.areturn, 1) := by decide +kernel
theorem d_method_3_code_26 : decode method_3_code 26 = .ok (.iload_n 0, 1) := by decide +kernel
theorem d_method_3_code_27 : decode method_3_code 27 = .ok (.iconst 3, 1) := by decide +kernel
theorem d_method_3_code_28 : decode method_3_code 28 = .ok (.if_icmp .ne 7, 3) := by decide +kernel
theorem d_method_3_code_31 : decode method_3_code 31 = .ok (.getstatic 30, 3) := by decide +kernel
theorem d_method_3_code_34 : decode method_3_code 34 = .ok (.areturn, 1) := by decide +kernel
theorem d_method_3_code_35 : decode method_3_code 35 = .ok (.iload_n 0, 1) := by decide +kernel
theorem d_method_3_code_36 : decode method_3_code 36 = .ok (.iconst 4, 1) := by decide +kernel
theorem d_method_3_code_37 : decode method_3_code 37 = .ok (.if_icmp .ne 7, 3) := by decide +kernel
theorem d_method_3_code_40 : decode method_3_code 40 = .ok (.getstatic 33, 3) := by decide +kernel
theorem d_method_3_code_43 : decode method_3_code 43 = .ok (.areturn, 1) := by decide +kernel
theorem d_method_3_code_44 : decode method_3_code 44 = .ok (.getstatic 36, 3) := by decide +kernel
theorem d_method_3_code_47 : decode method_3_code 47 = .ok (.areturn, 1) := by decide +kernel
theorem pn_0 : plainName "com/example/happenstance/happenstance/model/KindIsActionPinLaw" = true := by first | (simp [plainName, overriddenIn]; done) | decide +kernel
theorem ef_rm1 (m : MethodId) (x0 : Int32) : entryFrame m #[(.int x0)] 1 = mkF m 0 #[.val (.int x0)] [] := by first | (simp [entryFrame, mkF, argsToLocals, Value.category]; done) | rfl
def Q_rm1 (Z : State) (p0 : Int32) (w_LOAD : Addr) (w_STORE : Addr) (w_LOCK : Addr) (w_UNLOCK : Addr) (w_SET : Addr) (w_BRANCH : Addr) (h0 : Heap) (n0 : Nat) (v : Option Value) (h : Heap) (L : List Loc) : Prop := v = some (.ref (own_pick p0 w_LOAD w_STORE w_LOCK w_UNLOCK w_SET w_BRANCH)) ∧ Fr n0 L ∧ h = h0
set_option maxRecDepth 65536 in
set_option maxHeartbeats 40000000 in
theorem rm1 (l : Launch) (Z : State) (a0 : Array Value) (hw : ∀ d ∈ tables_1, d.before a0 Z = true) (ws : List Jvm.Cond) (p0 : Int32) (w_LOAD : Addr) (w_STORE : Addr) (w_LOCK : Addr) (w_UNLOCK : Addr) (w_SET : Addr) (w_BRANCH : Addr) (h0 : Heap) (n0 : Nat) (Z0 : n0 ≤ h0.size) (S_LOAD : Sta Z h0 "com/example/happenstance/happenstance/model/ThreadCode$Kind" "LOAD" "Lcom/example/happenstance/happenstance/model/ThreadCode$Kind;" (.ref w_LOAD)) (S_STORE : Sta Z h0 "com/example/happenstance/happenstance/model/ThreadCode$Kind" "STORE" "Lcom/example/happenstance/happenstance/model/ThreadCode$Kind;" (.ref w_STORE)) (S_LOCK : Sta Z h0 "com/example/happenstance/happenstance/model/ThreadCode$Kind" "LOCK" "Lcom/example/happenstance/happenstance/model/ThreadCode$Kind;" (.ref w_LOCK)) (S_UNLOCK : Sta Z h0 "com/example/happenstance/happenstance/model/ThreadCode$Kind" "UNLOCK" "Lcom/example/happenstance/happenstance/model/ThreadCode$Kind;" (.ref w_UNLOCK)) (S_SET : Sta Z h0 "com/example/happenstance/happenstance/model/ThreadCode$Kind" "SET" "Lcom/example/happenstance/happenstance/model/ThreadCode$Kind;" (.ref w_SET)) (S_BRANCH : Sta Z h0 "com/example/happenstance/happenstance/model/ThreadCode$Kind" "BRANCH" "Lcom/example/happenstance/happenstance/model/ThreadCode$Kind;" (.ref w_BRANCH)) :
    MetFree l (⟨"com/example/happenstance/happenstance/model/KindIsActionPinLaw", "pick", "(I)Lcom/example/happenstance/happenstance/model/ThreadCode$Kind;"⟩ : MethodName) (head1 (Jvm.Cond.code (⟨"com/example/happenstance/happenstance/model/KindIsActionPinLaw", "pick", "(I)Lcom/example/happenstance/happenstance/model/ThreadCode$Kind;"⟩ : MethodName) method_3_code 1 (some (.object "com/example/happenstance/happenstance/model/ThreadCode$Kind")) :: ws) ({ frames := 0, cells := 0, slots := 0, locals := 0 } : Room)) (fun a U => a = #[(.int p0)] ∧ Z.Warmed39 U.vm ∧ U.heap = h0) (fun _ _ _ _ _ => True) (fun _ U o U' => ∃ v L, o = .returned v ∧ Q_rm1 Z p0 w_LOAD w_STORE w_LOCK w_UNLOCK w_SET w_BRANCH h0 n0 v U'.heap L ∧ FrameEnd U o U' L ({ frames := 0, cells := 0, slots := 0, locals := 0 } : Room).cells ({ frames := 0, cells := 0, slots := 0, locals := 0 } : Room).slots) := by
  refine MetFree.of_bodySF (plainFor_of_name pn_0) hisR ?_
  intro p e s m args below meth c s₁ Bd hml0 hP hK
  obtain ⟨rfl, hZ, hh⟩ := hP
  have hx := Bd.exec
  have hby := Bd.bytes
  have hml : c.maxLocals = 1 := hml0
  have hown : s.vm.findClass "com/example/happenstance/happenstance/model/KindIsActionPinLaw" = some m.cls := findClass_of_methodNamed Bd.named
  have hnm := (name_of_methodNamed Bd.named Bd.method).1
  have hlk : meth.locks = false := by first | exact BodyLoose.notSynchronized (by assumption) | exact Body.notSynchronized (by assumption) | assumption
  have X0 : Stand p l e ({ frames := 0, cells := 0, slots := 0, locals := 0 } : Room) s m #[(.int p0)] below meth c s₁ [] 0 0 := Stand.of_body Bd
  have e0 : s₁.heap = h0 := by rw [← hh, Bd.state]; rfl
  have N0 := Fr.nil n0
  have Zn := Z0
  have K0 : ∀ t, Steps p.tables e below (s₁.setTop (mkF m 0 #[.val (.int p0)] [])) t → Steps p.tables e below (s₁.setTop (entryFrame m #[(.int p0)] 1)) t := fun t k => castTop (ef_rm1 m p0) k
  have K1 : ∀ t, Steps p.tables e below (s₁.setTop (mkF m 1 #[.val (.int p0)] [(.int p0)])) t → Steps p.tables e below (s₁.setTop (entryFrame m #[(.int p0)] 1)) t := by
    intro t kt
    refine K0 t ?_
    show Steps p.tables e below (s₁.setTop (mkF m 0 #[.val (.int p0)] [])) _
    refine XS.iloadN X0.here hx rfl (hb hby d_method_3_code_0) rfl ?_
    exact kt
  by_cases hc1 : p0 = (0 : Int32)
  ·
    obtain ⟨T2, X2, e2, st2⟩ := getS2 X0 hx hZ hown (host := "") (Or.inl (hw _ (List.mem_of_getElem? (i := 5) rfl))) Via.refl e0 S_LOAD (g := (mkF m 4 #[.val (.int p0)] [])) rfl (hb hby d_method_3_code_4)
    obtain ⟨fs, hr, hrun, hended, hW, hsame⟩ := X2.leave (v := some (.ref w_LOAD)) (fun h => by rw [Bd.returns] at h; cases h) hlk
    refine ⟨_, _, K1 _ ?_, hrun, hended, _, _, rfl, ?_, ⟨_, rfl⟩, hW, hsame.mono (by decide) (by decide)⟩
    ·
      show Steps p.tables e below (s₁.setTop (mkF m 1 #[.val (.int p0)] [(.int p0)])) _
      refine XS.ifNo X0.here hx rfl (hb hby d_method_3_code_1) rfl ((if0 _ _).trans (teq hc1).2) ?_
      show Steps p.tables e below (s₁.setTop (mkF m 4 #[.val (.int p0)] [])) _
      refine st2 _ ?_
      show Steps p.tables e below (T2.setTop (mkF m 7 #[.val (.int p0)] [(.ref w_LOAD)])) _
      exact retOut X2 hx Bd.returns rfl (Or.inr (Or.inr (Or.inr (Or.inr ⟨rfl, rfl, rfl⟩)))) (hb hby d_method_3_code_7) hr
    ·
      show Q_rm1 Z p0 w_LOAD w_STORE w_LOCK w_UNLOCK w_SET w_BRANCH h0 n0 _ T2.heap _
      rw [e2]
      refine ⟨?_, N0, rfl⟩
      simp [own_pick, hc1]
  ·
    have K3 : ∀ t, Steps p.tables e below (s₁.setTop (mkF m 10 #[.val (.int p0)] [(.int (1 : Int32)), (.int p0)])) t → Steps p.tables e below (s₁.setTop (entryFrame m #[(.int p0)] 1)) t := by
      intro t kt
      refine K1 t ?_
      show Steps p.tables e below (s₁.setTop (mkF m 1 #[.val (.int p0)] [(.int p0)])) _
      refine XS.ifYes X0.here hx rfl (pc0 := 1) (pc' := 8) rfl (hb hby d_method_3_code_1) rfl ((if0 _ _).trans (feq hc1).2) (by decide) (by decide) ?_
      show Steps p.tables e below (s₁.setTop (mkF m 8 #[.val (.int p0)] [])) _
      refine XS.iloadN X0.here hx rfl (hb hby d_method_3_code_8) rfl ?_
      show Steps p.tables e below (s₁.setTop (mkF m 9 #[.val (.int p0)] [(.int p0)])) _
      refine XS.iconst X0.here hx rfl (hb hby d_method_3_code_9) ?_
      exact kt
    by_cases hc10 : p0 = (1 : Int32)
    ·
      obtain ⟨T4, X4, e4, st4⟩ := getS2 X0 hx hZ hown (host := "") (Or.inl (hw _ (List.mem_of_getElem? (i := 21) rfl))) Via.refl e0 S_STORE (g := (mkF m 13 #[.val (.int p0)] [])) rfl (hb hby d_method_3_code_13)
      obtain ⟨fs, hr, hrun, hended, hW, hsame⟩ := X4.leave (v := some (.ref w_STORE)) (fun h => by rw [Bd.returns] at h; cases h) hlk
      refine ⟨_, _, K3 _ ?_, hrun, hended, _, _, rfl, ?_, ⟨_, rfl⟩, hW, hsame.mono (by decide) (by decide)⟩
      ·
        show Steps p.tables e below (s₁.setTop (mkF m 10 #[.val (.int p0)] [(.int (1 : Int32)), (.int p0)])) _
        refine XS.icmpNo X0.here hx rfl (hb hby d_method_3_code_10) rfl (teq hc10).2 ?_
        show Steps p.tables e below (s₁.setTop (mkF m 13 #[.val (.int p0)] [])) _
        refine st4 _ ?_
        show Steps p.tables e below (T4.setTop (mkF m 16 #[.val (.int p0)] [(.ref w_STORE)])) _
        exact retOut X4 hx Bd.returns rfl (Or.inr (Or.inr (Or.inr (Or.inr ⟨rfl, rfl, rfl⟩)))) (hb hby d_method_3_code_16) hr
      ·
        show Q_rm1 Z p0 w_LOAD w_STORE w_LOCK w_UNLOCK w_SET w_BRANCH h0 n0 _ T4.heap _
        rw [e4]
        refine ⟨?_, N0, rfl⟩
        simp [own_pick, hc1, hc10]
    ·
      have K5 : ∀ t, Steps p.tables e below (s₁.setTop (mkF m 19 #[.val (.int p0)] [(.int (2 : Int32)), (.int p0)])) t → Steps p.tables e below (s₁.setTop (entryFrame m #[(.int p0)] 1)) t := by
        intro t kt
        refine K3 t ?_
        show Steps p.tables e below (s₁.setTop (mkF m 10 #[.val (.int p0)] [(.int (1 : Int32)), (.int p0)])) _
        refine XS.icmpYes X0.here hx rfl (pc0 := 10) (pc' := 17) rfl (hb hby d_method_3_code_10) rfl (feq hc10).2 (by decide) (by decide) ?_
        show Steps p.tables e below (s₁.setTop (mkF m 17 #[.val (.int p0)] [])) _
        refine XS.iloadN X0.here hx rfl (hb hby d_method_3_code_17) rfl ?_
        show Steps p.tables e below (s₁.setTop (mkF m 18 #[.val (.int p0)] [(.int p0)])) _
        refine XS.iconst X0.here hx rfl (hb hby d_method_3_code_18) ?_
        exact kt
      by_cases hc19 : p0 = (2 : Int32)
      ·
        obtain ⟨T6, X6, e6, st6⟩ := getS2 X0 hx hZ hown (host := "") (Or.inl (hw _ (List.mem_of_getElem? (i := 19) rfl))) Via.refl e0 S_LOCK (g := (mkF m 22 #[.val (.int p0)] [])) rfl (hb hby d_method_3_code_22)
        obtain ⟨fs, hr, hrun, hended, hW, hsame⟩ := X6.leave (v := some (.ref w_LOCK)) (fun h => by rw [Bd.returns] at h; cases h) hlk
        refine ⟨_, _, K5 _ ?_, hrun, hended, _, _, rfl, ?_, ⟨_, rfl⟩, hW, hsame.mono (by decide) (by decide)⟩
        ·
          show Steps p.tables e below (s₁.setTop (mkF m 19 #[.val (.int p0)] [(.int (2 : Int32)), (.int p0)])) _
          refine XS.icmpNo X0.here hx rfl (hb hby d_method_3_code_19) rfl (teq hc19).2 ?_
          show Steps p.tables e below (s₁.setTop (mkF m 22 #[.val (.int p0)] [])) _
          refine st6 _ ?_
          show Steps p.tables e below (T6.setTop (mkF m 25 #[.val (.int p0)] [(.ref w_LOCK)])) _
          exact retOut X6 hx Bd.returns rfl (Or.inr (Or.inr (Or.inr (Or.inr ⟨rfl, rfl, rfl⟩)))) (hb hby d_method_3_code_25) hr
        ·
          show Q_rm1 Z p0 w_LOAD w_STORE w_LOCK w_UNLOCK w_SET w_BRANCH h0 n0 _ T6.heap _
          rw [e6]
          refine ⟨?_, N0, rfl⟩
          simp [own_pick, hc1, hc10, hc19]
      ·
        have K7 : ∀ t, Steps p.tables e below (s₁.setTop (mkF m 28 #[.val (.int p0)] [(.int (3 : Int32)), (.int p0)])) t → Steps p.tables e below (s₁.setTop (entryFrame m #[(.int p0)] 1)) t := by
          intro t kt
          refine K5 t ?_
          show Steps p.tables e below (s₁.setTop (mkF m 19 #[.val (.int p0)] [(.int (2 : Int32)), (.int p0)])) _
          refine XS.icmpYes X0.here hx rfl (pc0 := 19) (pc' := 26) rfl (hb hby d_method_3_code_19) rfl (feq hc19).2 (by decide) (by decide) ?_
          show Steps p.tables e below (s₁.setTop (mkF m 26 #[.val (.int p0)] [])) _
          refine XS.iloadN X0.here hx rfl (hb hby d_method_3_code_26) rfl ?_
          show Steps p.tables e below (s₁.setTop (mkF m 27 #[.val (.int p0)] [(.int p0)])) _
          refine XS.iconst X0.here hx rfl (hb hby d_method_3_code_27) ?_
          exact kt
        by_cases hc28 : p0 = (3 : Int32)
        ·
          obtain ⟨T8, X8, e8, st8⟩ := getS2 X0 hx hZ hown (host := "") (Or.inl (hw _ (List.mem_of_getElem? (i := 17) rfl))) Via.refl e0 S_UNLOCK (g := (mkF m 31 #[.val (.int p0)] [])) rfl (hb hby d_method_3_code_31)
          obtain ⟨fs, hr, hrun, hended, hW, hsame⟩ := X8.leave (v := some (.ref w_UNLOCK)) (fun h => by rw [Bd.returns] at h; cases h) hlk
          refine ⟨_, _, K7 _ ?_, hrun, hended, _, _, rfl, ?_, ⟨_, rfl⟩, hW, hsame.mono (by decide) (by decide)⟩
          ·
            show Steps p.tables e below (s₁.setTop (mkF m 28 #[.val (.int p0)] [(.int (3 : Int32)), (.int p0)])) _
            refine XS.icmpNo X0.here hx rfl (hb hby d_method_3_code_28) rfl (teq hc28).2 ?_
            show Steps p.tables e below (s₁.setTop (mkF m 31 #[.val (.int p0)] [])) _
            refine st8 _ ?_
            show Steps p.tables e below (T8.setTop (mkF m 34 #[.val (.int p0)] [(.ref w_UNLOCK)])) _
            exact retOut X8 hx Bd.returns rfl (Or.inr (Or.inr (Or.inr (Or.inr ⟨rfl, rfl, rfl⟩)))) (hb hby d_method_3_code_34) hr
          ·
            show Q_rm1 Z p0 w_LOAD w_STORE w_LOCK w_UNLOCK w_SET w_BRANCH h0 n0 _ T8.heap _
            rw [e8]
            refine ⟨?_, N0, rfl⟩
            simp [own_pick, hc1, hc10, hc19, hc28]
        ·
          have K9 : ∀ t, Steps p.tables e below (s₁.setTop (mkF m 37 #[.val (.int p0)] [(.int (4 : Int32)), (.int p0)])) t → Steps p.tables e below (s₁.setTop (entryFrame m #[(.int p0)] 1)) t := by
            intro t kt
            refine K7 t ?_
            show Steps p.tables e below (s₁.setTop (mkF m 28 #[.val (.int p0)] [(.int (3 : Int32)), (.int p0)])) _
            refine XS.icmpYes X0.here hx rfl (pc0 := 28) (pc' := 35) rfl (hb hby d_method_3_code_28) rfl (feq hc28).2 (by decide) (by decide) ?_
            show Steps p.tables e below (s₁.setTop (mkF m 35 #[.val (.int p0)] [])) _
            refine XS.iloadN X0.here hx rfl (hb hby d_method_3_code_35) rfl ?_
            show Steps p.tables e below (s₁.setTop (mkF m 36 #[.val (.int p0)] [(.int p0)])) _
            refine XS.iconst X0.here hx rfl (hb hby d_method_3_code_36) ?_
            exact kt
          by_cases hc37 : p0 = (4 : Int32)
          ·
            obtain ⟨T10, X10, e10, st10⟩ := getS2 X0 hx hZ hown (host := "") (Or.inl (hw _ (List.mem_of_getElem? (i := 24) rfl))) Via.refl e0 S_SET (g := (mkF m 40 #[.val (.int p0)] [])) rfl (hb hby d_method_3_code_40)
            obtain ⟨fs, hr, hrun, hended, hW, hsame⟩ := X10.leave (v := some (.ref w_SET)) (fun h => by rw [Bd.returns] at h; cases h) hlk
            refine ⟨_, _, K9 _ ?_, hrun, hended, _, _, rfl, ?_, ⟨_, rfl⟩, hW, hsame.mono (by decide) (by decide)⟩
            ·
              show Steps p.tables e below (s₁.setTop (mkF m 37 #[.val (.int p0)] [(.int (4 : Int32)), (.int p0)])) _
              refine XS.icmpNo X0.here hx rfl (hb hby d_method_3_code_37) rfl (teq hc37).2 ?_
              show Steps p.tables e below (s₁.setTop (mkF m 40 #[.val (.int p0)] [])) _
              refine st10 _ ?_
              show Steps p.tables e below (T10.setTop (mkF m 43 #[.val (.int p0)] [(.ref w_SET)])) _
              exact retOut X10 hx Bd.returns rfl (Or.inr (Or.inr (Or.inr (Or.inr ⟨rfl, rfl, rfl⟩)))) (hb hby d_method_3_code_43) hr
            ·
              show Q_rm1 Z p0 w_LOAD w_STORE w_LOCK w_UNLOCK w_SET w_BRANCH h0 n0 _ T10.heap _
              rw [e10]
              refine ⟨?_, N0, rfl⟩
              simp [own_pick, hc1, hc10, hc19, hc28, hc37]
          ·
            obtain ⟨T11, X11, e11, st11⟩ := getS2 X0 hx hZ hown (host := "") (Or.inl (hw _ (List.mem_of_getElem? (i := 23) rfl))) Via.refl e0 S_BRANCH (g := (mkF m 44 #[.val (.int p0)] [])) rfl (hb hby d_method_3_code_44)
            obtain ⟨fs, hr, hrun, hended, hW, hsame⟩ := X11.leave (v := some (.ref w_BRANCH)) (fun h => by rw [Bd.returns] at h; cases h) hlk
            refine ⟨_, _, K9 _ ?_, hrun, hended, _, _, rfl, ?_, ⟨_, rfl⟩, hW, hsame.mono (by decide) (by decide)⟩
            ·
              show Steps p.tables e below (s₁.setTop (mkF m 37 #[.val (.int p0)] [(.int (4 : Int32)), (.int p0)])) _
              refine XS.icmpYes X0.here hx rfl (pc0 := 37) (pc' := 44) rfl (hb hby d_method_3_code_37) rfl (feq hc37).2 (by decide) (by decide) ?_
              show Steps p.tables e below (s₁.setTop (mkF m 44 #[.val (.int p0)] [])) _
              refine st11 _ ?_
              show Steps p.tables e below (T11.setTop (mkF m 47 #[.val (.int p0)] [(.ref w_BRANCH)])) _
              exact retOut X11 hx Bd.returns rfl (Or.inr (Or.inr (Or.inr (Or.inr ⟨rfl, rfl, rfl⟩)))) (hb hby d_method_3_code_47) hr
            ·
              show Q_rm1 Z p0 w_LOAD w_STORE w_LOCK w_UNLOCK w_SET w_BRANCH h0 n0 _ T11.heap _
              rw [e11]
              refine ⟨?_, N0, rfl⟩
              simp [own_pick, hc1, hc10, hc19, hc28, hc37]
theorem d_prog_92_method_4_code_0 : decode prog_92_method_4_code 0 = .ok (.aload_n 0, 1) := by decide +kernel
theorem d_prog_92_method_4_code_1 : decode prog_92_method_4_code 1 = .ok (.getstatic 16, 3) := by decide +kernel
theorem d_prog_92_method_4_code_4 : decode prog_92_method_4_code 4 = .ok (.if_acmp .eq 14, 3) := by decide +kernel
theorem d_prog_92_method_4_code_18 : decode prog_92_method_4_code 18 = .ok (.iconst 0, 1) := by decide +kernel
theorem d_prog_92_method_4_code_19 : decode prog_92_method_4_code 19 = .ok (.ireturn, 1) := by decide +kernel
theorem d_prog_92_method_4_code_7 : decode prog_92_method_4_code 7 = .ok (.aload_n 0, 1) := by decide +kernel
theorem d_prog_92_method_4_code_8 : decode prog_92_method_4_code 8 = .ok (.getstatic 19, 3) := by decide +kernel
theorem d_prog_92_method_4_code_11 : decode prog_92_method_4_code 11 = .ok (.if_acmp .eq 7, 3) := by decide +kernel
theorem d_prog_92_method_4_code_14 : decode prog_92_method_4_code 14 = .ok (.iconst 1, 1) := by decide +kernel
theorem d_prog_92_method_4_code_15 : decode prog_92_method_4_code 15 = .ok (.goto 4, 3) := by decide +kernel
theorem pn_1 : plainName "com/example/happenstance/happenstance/model/ThreadCode$Kind" = true := by first | (simp [plainName, overriddenIn]; done) | decide +kernel
theorem ef_rm2 (m : MethodId) (x0 : Addr) : entryFrame m #[(.ref x0)] 1 = mkF m 0 #[.val (.ref x0)] [] := by first | (simp [entryFrame, mkF, argsToLocals, Value.category]; done) | rfl
def Q_rm2 (Z : State) (r0 : Addr) (w_SET : Addr) (w_BRANCH : Addr) (h0 : Heap) (n0 : Nat) (v : Option Value) (h : Heap) (L : List Loc) : Prop := v = some (.int (own_act r0 w_SET w_BRANCH)) ∧ Fr n0 L ∧ h = h0
set_option maxRecDepth 65536 in
set_option maxHeartbeats 40000000 in
theorem rm2 (l : Launch) (Z : State) (a0 : Array Value) (hw : ∀ d ∈ tables_1, d.before a0 Z = true) (ws : List Jvm.Cond) (r0 : Addr) (w_SET : Addr) (w_BRANCH : Addr) (h0 : Heap) (n0 : Nat) (Z0 : n0 ≤ h0.size) (S_SET : Sta Z h0 "com/example/happenstance/happenstance/model/ThreadCode$Kind" "SET" "Lcom/example/happenstance/happenstance/model/ThreadCode$Kind;" (.ref w_SET)) (S_BRANCH : Sta Z h0 "com/example/happenstance/happenstance/model/ThreadCode$Kind" "BRANCH" "Lcom/example/happenstance/happenstance/model/ThreadCode$Kind;" (.ref w_BRANCH)) :
    MetFree l (⟨"com/example/happenstance/happenstance/model/ThreadCode$Kind", "isAction", "()Z"⟩ : MethodName) (head1 (Jvm.Cond.code (⟨"com/example/happenstance/happenstance/model/ThreadCode$Kind", "isAction", "()Z"⟩ : MethodName) prog_92_method_4_code 1 (some .boolean) :: ws) ({ frames := 0, cells := 0, slots := 0, locals := 0 } : Room)) (fun a U => a = #[(.ref r0)] ∧ Z.Warmed39 U.vm ∧ U.heap = h0) (fun _ _ _ _ _ => True) (fun _ U o U' => ∃ v L, o = .returned v ∧ Q_rm2 Z r0 w_SET w_BRANCH h0 n0 v U'.heap L ∧ FrameEnd U o U' L ({ frames := 0, cells := 0, slots := 0, locals := 0 } : Room).cells ({ frames := 0, cells := 0, slots := 0, locals := 0 } : Room).slots) := by
  refine MetFree.of_bodySF (plainFor_of_name pn_1) hisR ?_
  intro p e s m args below meth c s₁ Bd hml0 hP hK
  obtain ⟨rfl, hZ, hh⟩ := hP
  have hx := Bd.exec
  have hby := Bd.bytes
  have hml : c.maxLocals = 1 := hml0
  have hown : s.vm.findClass "com/example/happenstance/happenstance/model/ThreadCode$Kind" = some m.cls := findClass_of_methodNamed Bd.named
  have hnm := (name_of_methodNamed Bd.named Bd.method).1
  have hlk : meth.locks = false := by first | exact BodyLoose.notSynchronized (by assumption) | exact Body.notSynchronized (by assumption) | assumption
  have X0 : Stand p l e ({ frames := 0, cells := 0, slots := 0, locals := 0 } : Room) s m #[(.ref r0)] below meth c s₁ [] 0 0 := Stand.of_body Bd
  have e0 : s₁.heap = h0 := by rw [← hh, Bd.state]; rfl
  have N0 := Fr.nil n0
  have Zn := Z0
  have K0 : ∀ t, Steps p.tables e below (s₁.setTop (mkF m 0 #[.val (.ref r0)] [])) t → Steps p.tables e below (s₁.setTop (entryFrame m #[(.ref r0)] 1)) t := fun t k => castTop (ef_rm2 m r0) k
  obtain ⟨T1, X1, e1, st1⟩ := getS2 X0 hx hZ hown (host := "") (Or.inl (hw _ (List.mem_of_getElem? (i := 13) rfl))) Via.refl e0 S_SET (g := (mkF m 1 #[.val (.ref r0)] [(.ref r0)])) rfl (hb hby d_prog_92_method_4_code_1)
  have K2 : ∀ t, Steps p.tables e below (T1.setTop (mkF m 4 #[.val (.ref r0)] [(.ref w_SET), (.ref r0)])) t → Steps p.tables e below (s₁.setTop (entryFrame m #[(.ref r0)] 1)) t := by
    intro t kt
    refine K0 t ?_
    show Steps p.tables e below (s₁.setTop (mkF m 0 #[.val (.ref r0)] [])) _
    refine XS.aloadN X0.here hx rfl (hb hby d_prog_92_method_4_code_0) rfl rfl ?_
    show Steps p.tables e below (s₁.setTop (mkF m 1 #[.val (.ref r0)] [(.ref r0)])) _
    refine st1 _ ?_
    exact kt
  by_cases hc4 : r0 = w_SET
  ·
    obtain ⟨fs, hr, hrun, hended, hW, hsame⟩ := X1.leave (v := some (.int (0 : Int32))) (fun h => by rw [Bd.returns] at h; cases h) hlk
    refine ⟨_, _, K2 _ ?_, hrun, hended, _, _, rfl, ?_, ⟨_, rfl⟩, hW, hsame.mono (by decide) (by decide)⟩
    ·
      show Steps p.tables e below (T1.setTop (mkF m 4 #[.val (.ref r0)] [(.ref w_SET), (.ref r0)])) _
      refine Jvm.RoadKit.acmp (g := (mkF m 4 #[.val (.ref r0)] [(.ref w_SET), (.ref r0)])) X1 hx rfl rfl rfl (pc0 := 4) (pc' := 18) (same := true) rfl (hb hby d_prog_92_method_4_code_4) rfl (decide_eq_true (congrArg Value.ref hc4)) (by decide) (by decide) ?_
      show Steps p.tables e below (T1.setTop (mkF m 18 #[.val (.ref r0)] [])) _
      refine XS.iconst X1.here hx rfl (hb hby d_prog_92_method_4_code_18) ?_
      show Steps p.tables e below (T1.setTop (mkF m 19 #[.val (.ref r0)] [(.int (0 : Int32))])) _
      exact retN X1 hx (t := .boolean) Bd.returns (by simp) (hb hby d_prog_92_method_4_code_19) hr
    ·
      show Q_rm2 Z r0 w_SET w_BRANCH h0 n0 _ T1.heap _
      rw [e1]
      refine ⟨?_, N0, rfl⟩
      simp [own_act, hc4]
  ·
    obtain ⟨T3, X3, e3, st3⟩ := getS2 X1 hx hZ hown (host := "") (Or.inl (hw _ (List.mem_of_getElem? (i := 15) rfl))) Via.refl e1 S_BRANCH (g := (mkF m 8 #[.val (.ref r0)] [(.ref r0)])) rfl (hb hby d_prog_92_method_4_code_8)
    have K4 : ∀ t, Steps p.tables e below (T3.setTop (mkF m 11 #[.val (.ref r0)] [(.ref w_BRANCH), (.ref r0)])) t → Steps p.tables e below (s₁.setTop (entryFrame m #[(.ref r0)] 1)) t := by
      intro t kt
      refine K2 t ?_
      show Steps p.tables e below (T1.setTop (mkF m 4 #[.val (.ref r0)] [(.ref w_SET), (.ref r0)])) _
      refine Jvm.RoadKit.acmp (g := (mkF m 4 #[.val (.ref r0)] [(.ref w_SET), (.ref r0)])) X1 hx rfl rfl rfl (pc0 := 4) (pc' := 7) (same := false) rfl (hb hby d_prog_92_method_4_code_4) rfl (decide_eq_false fun q => hc4 (Value.ref.inj q)) (by decide) (by decide) ?_
      show Steps p.tables e below (T1.setTop (mkF m 7 #[.val (.ref r0)] [])) _
      refine XS.aloadN X1.here hx rfl (hb hby d_prog_92_method_4_code_7) rfl rfl ?_
      show Steps p.tables e below (T1.setTop (mkF m 8 #[.val (.ref r0)] [(.ref r0)])) _
      refine st3 _ ?_
      exact kt
    by_cases hc11 : r0 = w_BRANCH
    ·
      obtain ⟨fs, hr, hrun, hended, hW, hsame⟩ := X3.leave (v := some (.int (0 : Int32))) (fun h => by rw [Bd.returns] at h; cases h) hlk
      refine ⟨_, _, K4 _ ?_, hrun, hended, _, _, rfl, ?_, ⟨_, rfl⟩, hW, hsame.mono (by decide) (by decide)⟩
      ·
        show Steps p.tables e below (T3.setTop (mkF m 11 #[.val (.ref r0)] [(.ref w_BRANCH), (.ref r0)])) _
        refine Jvm.RoadKit.acmp (g := (mkF m 11 #[.val (.ref r0)] [(.ref w_BRANCH), (.ref r0)])) X3 hx rfl rfl rfl (pc0 := 11) (pc' := 18) (same := true) rfl (hb hby d_prog_92_method_4_code_11) rfl (decide_eq_true (congrArg Value.ref hc11)) (by decide) (by decide) ?_
        show Steps p.tables e below (T3.setTop (mkF m 18 #[.val (.ref r0)] [])) _
        refine XS.iconst X3.here hx rfl (hb hby d_prog_92_method_4_code_18) ?_
        show Steps p.tables e below (T3.setTop (mkF m 19 #[.val (.ref r0)] [(.int (0 : Int32))])) _
        exact retN X3 hx (t := .boolean) Bd.returns (by simp) (hb hby d_prog_92_method_4_code_19) hr
      ·
        show Q_rm2 Z r0 w_SET w_BRANCH h0 n0 _ T3.heap _
        rw [e3]
        refine ⟨?_, N0, rfl⟩
        simp [own_act, hc4, hc11]
    ·
      obtain ⟨fs, hr, hrun, hended, hW, hsame⟩ := X3.leave (v := some (.int (1 : Int32))) (fun h => by rw [Bd.returns] at h; cases h) hlk
      refine ⟨_, _, K4 _ ?_, hrun, hended, _, _, rfl, ?_, ⟨_, rfl⟩, hW, hsame.mono (by decide) (by decide)⟩
      ·
        show Steps p.tables e below (T3.setTop (mkF m 11 #[.val (.ref r0)] [(.ref w_BRANCH), (.ref r0)])) _
        refine Jvm.RoadKit.acmp (g := (mkF m 11 #[.val (.ref r0)] [(.ref w_BRANCH), (.ref r0)])) X3 hx rfl rfl rfl (pc0 := 11) (pc' := 14) (same := false) rfl (hb hby d_prog_92_method_4_code_11) rfl (decide_eq_false fun q => hc11 (Value.ref.inj q)) (by decide) (by decide) ?_
        show Steps p.tables e below (T3.setTop (mkF m 14 #[.val (.ref r0)] [])) _
        refine XS.iconst X3.here hx rfl (hb hby d_prog_92_method_4_code_14) ?_
        show Steps p.tables e below (T3.setTop (mkF m 15 #[.val (.ref r0)] [(.int (1 : Int32))])) _
        refine XS.goto X3.here hx rfl (pc0 := 15) (pc' := 19) rfl (hb hby d_prog_92_method_4_code_15) (by decide) (by decide) ?_
        show Steps p.tables e below (T3.setTop (mkF m 19 #[.val (.ref r0)] [(.int (1 : Int32))])) _
        exact retN X3 hx (t := .boolean) Bd.returns (by simp) (hb hby d_prog_92_method_4_code_19) hr
      ·
        show Q_rm2 Z r0 w_SET w_BRANCH h0 n0 _ T3.heap _
        rw [e3]
        refine ⟨?_, N0, rfl⟩
        simp [own_act, hc4, hc11]
theorem pd_2 : parseMethodDescriptor "(I)Lcom/example/happenstance/happenstance/model/ThreadCode$Kind;" = some ⟨[.int], some (.object "com/example/happenstance/happenstance/model/ThreadCode$Kind")⟩ := by decide +kernel
theorem pd_3 : parseMethodDescriptor "()Z" = some ⟨[], some .boolean⟩ := by decide +kernel
theorem ef_rm0 (m : MethodId) (x0 : Int32) : entryFrame m #[(.int x0)] maxLocals = mkF m 0 #[.val (.int x0), .unset, .unset, .unset] [] := by first | (simp [entryFrame, mkF, argsToLocals, Value.category, maxLocals]; done) | rfl
def Q_rm0 (Z : State) (p0 : Int32) (w_LOAD : Addr) (w_STORE : Addr) (w_LOCK : Addr) (w_UNLOCK : Addr) (w_SET : Addr) (w_BRANCH : Addr) (h0 : Heap) (n0 : Nat) (v : Option Value) (h : Heap) (L : List Loc) : Prop := v = some (.int 1) ∧ Fr n0 L
set_option maxRecDepth 65536 in
set_option maxHeartbeats 40000000 in
theorem rm0 (l : Launch) (Z : State) (a0 : Array Value) (hw : ∀ d ∈ tables_1, d.before a0 Z = true) (ws : List Jvm.Cond) (p0 : Int32) (w_LOAD : Addr) (w_STORE : Addr) (w_LOCK : Addr) (w_UNLOCK : Addr) (w_SET : Addr) (w_BRANCH : Addr) (h0 : Heap) (n0 : Nat) (Z0 : n0 ≤ h0.size) (S_LOAD : Sta Z h0 "com/example/happenstance/happenstance/model/ThreadCode$Kind" "LOAD" "Lcom/example/happenstance/happenstance/model/ThreadCode$Kind;" (.ref w_LOAD)) (S_STORE : Sta Z h0 "com/example/happenstance/happenstance/model/ThreadCode$Kind" "STORE" "Lcom/example/happenstance/happenstance/model/ThreadCode$Kind;" (.ref w_STORE)) (S_LOCK : Sta Z h0 "com/example/happenstance/happenstance/model/ThreadCode$Kind" "LOCK" "Lcom/example/happenstance/happenstance/model/ThreadCode$Kind;" (.ref w_LOCK)) (S_UNLOCK : Sta Z h0 "com/example/happenstance/happenstance/model/ThreadCode$Kind" "UNLOCK" "Lcom/example/happenstance/happenstance/model/ThreadCode$Kind;" (.ref w_UNLOCK)) (S_SET : Sta Z h0 "com/example/happenstance/happenstance/model/ThreadCode$Kind" "SET" "Lcom/example/happenstance/happenstance/model/ThreadCode$Kind;" (.ref w_SET)) (S_BRANCH : Sta Z h0 "com/example/happenstance/happenstance/model/ThreadCode$Kind" "BRANCH" "Lcom/example/happenstance/happenstance/model/ThreadCode$Kind;" (.ref w_BRANCH)) (E_w_LOAD : Exa Z h0 w_LOAD "com/example/happenstance/happenstance/model/ThreadCode$Kind") (E_w_STORE : Exa Z h0 w_STORE "com/example/happenstance/happenstance/model/ThreadCode$Kind") (E_w_LOCK : Exa Z h0 w_LOCK "com/example/happenstance/happenstance/model/ThreadCode$Kind") (E_w_UNLOCK : Exa Z h0 w_UNLOCK "com/example/happenstance/happenstance/model/ThreadCode$Kind") (E_w_SET : Exa Z h0 w_SET "com/example/happenstance/happenstance/model/ThreadCode$Kind") (E_w_BRANCH : Exa Z h0 w_BRANCH "com/example/happenstance/happenstance/model/ThreadCode$Kind") (o_LOAD : own_ord Z w_LOAD = 0) (o_STORE : own_ord Z w_STORE = 1) (o_LOCK : own_ord Z w_LOCK = 2) (o_UNLOCK : own_ord Z w_UNLOCK = 3) (o_SET : own_ord Z w_SET = 4) (o_BRANCH : own_ord Z w_BRANCH = 5) :
    MetFree l x (head1 (Jvm.Cond.code x code maxLocals ret :: ws) room_1) (fun a U => a = #[(.int p0)] ∧ Z.Warmed39 U.vm ∧ U.heap = h0) (fun _ _ _ _ _ => True) (fun _ U o U' => ∃ v L, o = .returned v ∧ Q_rm0 Z p0 w_LOAD w_STORE w_LOCK w_UNLOCK w_SET w_BRANCH h0 n0 v U'.heap L ∧ FrameEnd U o U' L room_1.cells room_1.slots) := by
  refine MetFree.of_bodySF (plainFor_of_name pn_0) hisR ?_
  intro p e s m args below meth c s₁ Bd hml0 hP hK
  obtain ⟨rfl, hZ, hh⟩ := hP
  have hx := Bd.exec
  have hby := Bd.bytes
  have hml : c.maxLocals = 4 := hml0
  have hown : s.vm.findClass "com/example/happenstance/happenstance/model/KindIsActionPinLaw" = some m.cls := findClass_of_methodNamed Bd.named
  have hnm := (name_of_methodNamed Bd.named Bd.method).1
  have hlk : meth.locks = false := by first | exact BodyLoose.notSynchronized (by assumption) | exact Body.notSynchronized (by assumption) | assumption
  have X0 : Stand p l e room_1 s m #[(.int p0)] below meth c s₁ [] 0 0 := Stand.of_body Bd
  have e0 : s₁.heap = h0 := by rw [← hh, Bd.state]; rfl
  have N0 := Fr.nil n0
  have Zn := Z0
  have K0 : ∀ t, Steps p.tables e below (s₁.setTop (mkF m 0 #[.val (.int p0), .unset, .unset, .unset] [])) t → Steps p.tables e below (s₁.setTop (entryFrame m #[(.int p0)] maxLocals)) t := fun t k => castTop (ef_rm0 m p0) k
  have K1 : ∀ t, Steps p.tables e below (s₁.setTop (mkF m 8 #[.val (.int p0), .val (.int ((p0 &&& (2147483647 : Int32)) - ((p0 &&& (2147483647 : Int32)) / (6 : Int32)) * (6 : Int32))), .unset, .unset] [])) t → Steps p.tables e below (s₁.setTop (entryFrame m #[(.int p0)] maxLocals)) t := by
    intro t kt
    refine K0 t ?_
    show Steps p.tables e below (s₁.setTop (mkF m 0 #[.val (.int p0), .unset, .unset, .unset] [])) _
    refine XS.iloadN X0.here hx rfl (hb hby at_0) rfl ?_
    show Steps p.tables e below (s₁.setTop (mkF m 1 #[.val (.int p0), .unset, .unset, .unset] [(.int p0)])) _
    refine X0.ldcInt hx hown (mvT hZ (hw _ (List.mem_of_getElem? (i := 0) rfl))) (g := (mkF m 1 #[.val (.int p0), .unset, .unset, .unset] [(.int p0)])) rfl (hb hby at_1) _ ?_
    show Steps p.tables e below (s₁.setTop (mkF m 3 #[.val (.int p0), .unset, .unset, .unset] [(.int (2147483647 : Int32)), (.int p0)])) _
    refine XS.iand X0.here hx rfl (hb hby at_3) rfl ?_
    show Steps p.tables e below (s₁.setTop (mkF m 4 #[.val (.int p0), .unset, .unset, .unset] [(.int (p0 &&& (2147483647 : Int32)))])) _
    refine XS.bipush X0.here hx rfl (hb hby at_4) ?_
    show Steps p.tables e below (s₁.setTop (mkF m 6 #[.val (.int p0), .unset, .unset, .unset] [(.int (6 : Int32)), (.int (p0 &&& (2147483647 : Int32)))])) _
    refine XS.irem X0.here hx rfl (hb hby at_6) rfl (by decide) ?_
    show Steps p.tables e below (s₁.setTop (mkF m 7 #[.val (.int p0), .unset, .unset, .unset] [(.int ((p0 &&& (2147483647 : Int32)) - ((p0 &&& (2147483647 : Int32)) / (6 : Int32)) * (6 : Int32)))])) _
    refine XS.istoreN X0.here hx rfl (hb hby at_7) rfl (l' := #[.val (.int p0), .val (.int ((p0 &&& (2147483647 : Int32)) - ((p0 &&& (2147483647 : Int32)) / (6 : Int32)) * (6 : Int32))), .unset, .unset]) rfl ?_
    exact kt
  obtain ⟨i, hg_i⟩ : ∃ z, z = ((p0 &&& (2147483647 : Int32)) - ((p0 &&& (2147483647 : Int32)) / (6 : Int32)) * (6 : Int32)) := ⟨_, rfl⟩
  rw [← hg_i] at K1
  have hi : 0 ≤ i.toInt := by rw [hg_i]; exact (own_mod p0 6 (by decide)).1
  obtain ⟨_, _, ⟨T2, L2, k2, n2⟩, -, X2, ⟨Lc2, hQ2, l2, y2, z2⟩, st2⟩ := Jvm.LawKit.callS X0 hx (y := (⟨"com/example/happenstance/happenstance/model/KindIsActionPinLaw", "pick", "(I)Lcom/example/happenstance/happenstance/model/ThreadCode$Kind;"⟩ : MethodName)) hown (mvT hZ (hw _ (List.mem_of_getElem? (i := 1) rfl))) (mvT hZ (hw _ (List.mem_of_getElem? (i := 2) rfl))) (mvT hZ (hw _ (List.mem_of_getElem? (i := 3) rfl))) (mvT hZ (hw _ (List.mem_of_getElem? (i := 4) rfl))) (by decide) (backOf (W := 0) (rm1 l Z a0 hw [] i w_LOAD w_STORE w_LOCK w_UNLOCK w_SET w_BRANCH h0 n0 Zn S_LOAD S_STORE S_LOCK S_UNLOCK S_SET S_BRANCH) hZ (hw _ (List.mem_of_getElem? (i := 4) rfl)) (hw _ (List.mem_of_getElem? (i := 3) rfl)) (by decide) (by decide)) (g := (mkF m 9 #[.val (.int p0), .val (.int i), .unset, .unset] [(.int i)])) rfl (by rw [hml]; rfl) (argsL := [(.int i)]) (rest := []) (lenOf pd_2 rfl) rfl (by show 2 * 0 + _ ≤ _; exact Nat.le_of_eq rfl) (hb hby at_9) (fun _ _ => ⟨rfl, e0, (by decide : 0 + 0 ≤ _), (by decide : 0 + 0 ≤ _)⟩)
  dsimp only [Pt.U, Pt.locs, Pt.cells, Pt.slots] at X2 l2 y2 z2 st2 hQ2
  subst l2 y2 z2
  obtain ⟨rfl, N2q, e2q⟩ := hQ2
  have N2 := Fr.app N0 N2q
  have e2 : T2.heap = h0 := e2q
  have K3 : ∀ t, Steps p.tables e below (T2.setTop (mkF m 15 #[.val (.int p0), .val (.int i), .val (.ref (own_pick i w_LOAD w_STORE w_LOCK w_UNLOCK w_SET w_BRANCH)), .unset] [(.int (3 : Int32)), (.int i)])) t → Steps p.tables e below (s₁.setTop (entryFrame m #[(.int p0)] maxLocals)) t := by
    intro t kt
    refine K1 t ?_
    show Steps p.tables e below (s₁.setTop (mkF m 8 #[.val (.int p0), .val (.int i), .unset, .unset] [])) _
    refine XS.iloadN X0.here hx rfl (hb hby at_8) rfl ?_
    show Steps p.tables e below (s₁.setTop (mkF m 9 #[.val (.int p0), .val (.int i), .unset, .unset] [(.int i)])) _
    refine st2 _ ?_
    show Steps p.tables e below (T2.setTop (mkF m 12 #[.val (.int p0), .val (.int i), .unset, .unset] [(.ref (own_pick i w_LOAD w_STORE w_LOCK w_UNLOCK w_SET w_BRANCH))])) _
    refine XS.astoreN X2.here hx rfl (hb hby at_12) rfl rfl (l' := #[.val (.int p0), .val (.int i), .val (.ref (own_pick i w_LOAD w_STORE w_LOCK w_UNLOCK w_SET w_BRANCH)), .unset]) rfl ?_
    show Steps p.tables e below (T2.setTop (mkF m 13 #[.val (.int p0), .val (.int i), .val (.ref (own_pick i w_LOAD w_STORE w_LOCK w_UNLOCK w_SET w_BRANCH)), .unset] [])) _
    refine XS.iloadN X2.here hx rfl (hb hby at_13) rfl ?_
    show Steps p.tables e below (T2.setTop (mkF m 14 #[.val (.int p0), .val (.int i), .val (.ref (own_pick i w_LOAD w_STORE w_LOCK w_UNLOCK w_SET w_BRANCH)), .unset] [(.int i)])) _
    refine XS.iconst X2.here hx rfl (hb hby at_14) ?_
    exact kt
  by_cases hc15 : (3 : Int32) < i
  ·
    obtain ⟨cq4, kq4, q4a, q4b, q4c⟩ := isOf hZ e2 (show Exa Z h0 (own_pick i w_LOAD w_STORE w_LOCK w_UNLOCK w_SET w_BRANCH) "com/example/happenstance/happenstance/model/ThreadCode$Kind" by unfold own_pick; repeat' (split <;> try assumption))
    obtain ⟨_, _, ⟨T4, L4, k4, n4⟩, -, X4, ⟨Lc4, hQ4, l4, y4, z4⟩, st4⟩ := X2.virtualBack hx (y := (⟨"com/example/happenstance/happenstance/model/ThreadCode$Kind", "isAction", "()Z"⟩ : MethodName)) (z := (⟨"com/example/happenstance/happenstance/model/ThreadCode$Kind", "isAction", "()Z"⟩ : MethodName)) hown (mvT hZ (hw _ (List.mem_of_getElem? (i := 8) rfl))) (mvT hZ (hw _ (List.mem_of_getElem? (i := 9) rfl))) (notFace_of_selects (args := #[]) (mvT hZ (hw _ (List.mem_of_getElem? (i := 11) rfl)))) (mvT hZ (hw _ (List.mem_of_getElem? (i := 11) rfl))) (mvT hZ (hw _ (List.mem_of_getElem? (i := 10) rfl))) (by decide) (backOf (W := 0) (rm2 l Z a0 hw [] (own_pick i w_LOAD w_STORE w_LOCK w_UNLOCK w_SET w_BRANCH) w_SET w_BRANCH h0 n0 Zn S_SET S_BRANCH) hZ (hw _ (List.mem_of_getElem? (i := 12) rfl)) (hw _ (List.mem_of_getElem? (i := 6) rfl)) (by decide) (by decide)) q4a q4c (g := (mkF m 25 #[.val (.int p0), .val (.int i), .val (.ref (own_pick i w_LOAD w_STORE w_LOCK w_UNLOCK w_SET w_BRANCH)), .val (.int (0 : Int32))] [(.ref (own_pick i w_LOAD w_STORE w_LOCK w_UNLOCK w_SET w_BRANCH))])) rfl (by rw [hml]; rfl) (Steps.refl _) (argsL := []) (rest := []) (lenOf pd_3 rfl) rfl (by show 2 * 0 + _ ≤ _; exact Nat.le_of_eq rfl) (hb hby at_25) (fun _ _ => ⟨rfl, e2, (by decide : 0 + 0 ≤ _), (by decide : 0 + 0 ≤ _)⟩)
    dsimp only [Pt.U, Pt.locs, Pt.cells, Pt.slots] at X4 l4 y4 z4 st4 hQ4
    subst l4 y4 z4
    obtain ⟨rfl, N4q, e4q⟩ := hQ4
    have N4 := Fr.app N2 N4q
    have e4 : T4.heap = h0 := e4q
    have hc29 : (own_act (own_pick i w_LOAD w_STORE w_LOCK w_UNLOCK w_SET w_BRANCH) w_SET w_BRANCH) = (0 : Int32) := ((own_kind o_LOAD o_STORE o_LOCK o_UNLOCK o_SET o_BRANCH i hi).trans (if_pos hc15))
    obtain ⟨fs, hr, hrun, hended, hW, hsame⟩ := X4.leave (v := some (.int (1 : Int32))) (fun h => by rw [Bd.returns] at h; cases h) hlk
    refine ⟨_, _, K3 _ ?_, hrun, hended, _, _, rfl, ?_, ⟨_, rfl⟩, hW, hsame.mono (by decide) (by decide)⟩
    ·
      show Steps p.tables e below (T2.setTop (mkF m 15 #[.val (.int p0), .val (.int i), .val (.ref (own_pick i w_LOAD w_STORE w_LOCK w_UNLOCK w_SET w_BRANCH)), .unset] [(.int (3 : Int32)), (.int i)])) _
      refine XS.icmpYes X2.here hx rfl (pc0 := 15) (pc' := 22) rfl (hb hby at_15) rfl (tlt hc15).2.2.1 (by decide) (by decide) ?_
      show Steps p.tables e below (T2.setTop (mkF m 22 #[.val (.int p0), .val (.int i), .val (.ref (own_pick i w_LOAD w_STORE w_LOCK w_UNLOCK w_SET w_BRANCH)), .unset] [])) _
      refine XS.iconst X2.here hx rfl (hb hby at_22) ?_
      show Steps p.tables e below (T2.setTop (mkF m 23 #[.val (.int p0), .val (.int i), .val (.ref (own_pick i w_LOAD w_STORE w_LOCK w_UNLOCK w_SET w_BRANCH)), .unset] [(.int (0 : Int32))])) _
      refine XS.istoreN X2.here hx rfl (hb hby at_23) rfl (l' := #[.val (.int p0), .val (.int i), .val (.ref (own_pick i w_LOAD w_STORE w_LOCK w_UNLOCK w_SET w_BRANCH)), .val (.int (0 : Int32))]) rfl ?_
      show Steps p.tables e below (T2.setTop (mkF m 24 #[.val (.int p0), .val (.int i), .val (.ref (own_pick i w_LOAD w_STORE w_LOCK w_UNLOCK w_SET w_BRANCH)), .val (.int (0 : Int32))] [])) _
      refine XS.aloadN X2.here hx rfl (hb hby at_24) rfl rfl ?_
      show Steps p.tables e below (T2.setTop (mkF m 25 #[.val (.int p0), .val (.int i), .val (.ref (own_pick i w_LOAD w_STORE w_LOCK w_UNLOCK w_SET w_BRANCH)), .val (.int (0 : Int32))] [(.ref (own_pick i w_LOAD w_STORE w_LOCK w_UNLOCK w_SET w_BRANCH))])) _
      refine st4.trans ?_
      show Steps p.tables e below (T4.setTop (mkF m 28 #[.val (.int p0), .val (.int i), .val (.ref (own_pick i w_LOAD w_STORE w_LOCK w_UNLOCK w_SET w_BRANCH)), .val (.int (0 : Int32))] [(.int (own_act (own_pick i w_LOAD w_STORE w_LOCK w_UNLOCK w_SET w_BRANCH) w_SET w_BRANCH))])) _
      refine XS.iloadN X4.here hx rfl (hb hby at_28) rfl ?_
      show Steps p.tables e below (T4.setTop (mkF m 29 #[.val (.int p0), .val (.int i), .val (.ref (own_pick i w_LOAD w_STORE w_LOCK w_UNLOCK w_SET w_BRANCH)), .val (.int (0 : Int32))] [(.int (0 : Int32)), (.int (own_act (own_pick i w_LOAD w_STORE w_LOCK w_UNLOCK w_SET w_BRANCH) w_SET w_BRANCH))])) _
      refine XS.icmpNo X4.here hx rfl (hb hby at_29) rfl (teq hc29).2 ?_
      show Steps p.tables e below (T4.setTop (mkF m 32 #[.val (.int p0), .val (.int i), .val (.ref (own_pick i w_LOAD w_STORE w_LOCK w_UNLOCK w_SET w_BRANCH)), .val (.int (0 : Int32))] [])) _
      refine XS.iconst X4.here hx rfl (hb hby at_32) ?_
      show Steps p.tables e below (T4.setTop (mkF m 33 #[.val (.int p0), .val (.int i), .val (.ref (own_pick i w_LOAD w_STORE w_LOCK w_UNLOCK w_SET w_BRANCH)), .val (.int (0 : Int32))] [(.int (1 : Int32))])) _
      refine XS.goto X4.here hx rfl (pc0 := 33) (pc' := 37) rfl (hb hby at_33) (by decide) (by decide) ?_
      show Steps p.tables e below (T4.setTop (mkF m 37 #[.val (.int p0), .val (.int i), .val (.ref (own_pick i w_LOAD w_STORE w_LOCK w_UNLOCK w_SET w_BRANCH)), .val (.int (0 : Int32))] [(.int (1 : Int32))])) _
      exact retN X4 hx (t := .boolean) Bd.returns (by simp) (hb hby at_37) hr
    ·
      show Q_rm0 Z p0 w_LOAD w_STORE w_LOCK w_UNLOCK w_SET w_BRANCH h0 n0 _ T4.heap _
      rw [e4]
      exact ⟨rfl, N4⟩
  ·
    obtain ⟨cq5, kq5, q5a, q5b, q5c⟩ := isOf hZ e2 (show Exa Z h0 (own_pick i w_LOAD w_STORE w_LOCK w_UNLOCK w_SET w_BRANCH) "com/example/happenstance/happenstance/model/ThreadCode$Kind" by unfold own_pick; repeat' (split <;> try assumption))
    obtain ⟨_, _, ⟨T5, L5, k5, n5⟩, -, X5, ⟨Lc5, hQ5, l5, y5, z5⟩, st5⟩ := X2.virtualBack hx (y := (⟨"com/example/happenstance/happenstance/model/ThreadCode$Kind", "isAction", "()Z"⟩ : MethodName)) (z := (⟨"com/example/happenstance/happenstance/model/ThreadCode$Kind", "isAction", "()Z"⟩ : MethodName)) hown (mvT hZ (hw _ (List.mem_of_getElem? (i := 8) rfl))) (mvT hZ (hw _ (List.mem_of_getElem? (i := 9) rfl))) (notFace_of_selects (args := #[]) (mvT hZ (hw _ (List.mem_of_getElem? (i := 11) rfl)))) (mvT hZ (hw _ (List.mem_of_getElem? (i := 11) rfl))) (mvT hZ (hw _ (List.mem_of_getElem? (i := 10) rfl))) (by decide) (backOf (W := 0) (rm2 l Z a0 hw [] (own_pick i w_LOAD w_STORE w_LOCK w_UNLOCK w_SET w_BRANCH) w_SET w_BRANCH h0 n0 Zn S_SET S_BRANCH) hZ (hw _ (List.mem_of_getElem? (i := 12) rfl)) (hw _ (List.mem_of_getElem? (i := 6) rfl)) (by decide) (by decide)) q5a q5c (g := (mkF m 25 #[.val (.int p0), .val (.int i), .val (.ref (own_pick i w_LOAD w_STORE w_LOCK w_UNLOCK w_SET w_BRANCH)), .val (.int (1 : Int32))] [(.ref (own_pick i w_LOAD w_STORE w_LOCK w_UNLOCK w_SET w_BRANCH))])) rfl (by rw [hml]; rfl) (Steps.refl _) (argsL := []) (rest := []) (lenOf pd_3 rfl) rfl (by show 2 * 0 + _ ≤ _; exact Nat.le_of_eq rfl) (hb hby at_25) (fun _ _ => ⟨rfl, e2, (by decide : 0 + 0 ≤ _), (by decide : 0 + 0 ≤ _)⟩)
    dsimp only [Pt.U, Pt.locs, Pt.cells, Pt.slots] at X5 l5 y5 z5 st5 hQ5
    subst l5 y5 z5
    obtain ⟨rfl, N5q, e5q⟩ := hQ5
    have N5 := Fr.app N2 N5q
    have e5 : T5.heap = h0 := e5q
    have hc29 : (own_act (own_pick i w_LOAD w_STORE w_LOCK w_UNLOCK w_SET w_BRANCH) w_SET w_BRANCH) = (1 : Int32) := ((own_kind o_LOAD o_STORE o_LOCK o_UNLOCK o_SET o_BRANCH i hi).trans (if_neg hc15))
    obtain ⟨fs, hr, hrun, hended, hW, hsame⟩ := X5.leave (v := some (.int (1 : Int32))) (fun h => by rw [Bd.returns] at h; cases h) hlk
    refine ⟨_, _, K3 _ ?_, hrun, hended, _, _, rfl, ?_, ⟨_, rfl⟩, hW, hsame.mono (by decide) (by decide)⟩
    ·
      show Steps p.tables e below (T2.setTop (mkF m 15 #[.val (.int p0), .val (.int i), .val (.ref (own_pick i w_LOAD w_STORE w_LOCK w_UNLOCK w_SET w_BRANCH)), .unset] [(.int (3 : Int32)), (.int i)])) _
      refine XS.icmpNo X2.here hx rfl (hb hby at_15) rfl (flt hc15).2.2.1 ?_
      show Steps p.tables e below (T2.setTop (mkF m 18 #[.val (.int p0), .val (.int i), .val (.ref (own_pick i w_LOAD w_STORE w_LOCK w_UNLOCK w_SET w_BRANCH)), .unset] [])) _
      refine XS.iconst X2.here hx rfl (hb hby at_18) ?_
      show Steps p.tables e below (T2.setTop (mkF m 19 #[.val (.int p0), .val (.int i), .val (.ref (own_pick i w_LOAD w_STORE w_LOCK w_UNLOCK w_SET w_BRANCH)), .unset] [(.int (1 : Int32))])) _
      refine XS.goto X2.here hx rfl (pc0 := 19) (pc' := 23) rfl (hb hby at_19) (by decide) (by decide) ?_
      show Steps p.tables e below (T2.setTop (mkF m 23 #[.val (.int p0), .val (.int i), .val (.ref (own_pick i w_LOAD w_STORE w_LOCK w_UNLOCK w_SET w_BRANCH)), .unset] [(.int (1 : Int32))])) _
      refine XS.istoreN X2.here hx rfl (hb hby at_23) rfl (l' := #[.val (.int p0), .val (.int i), .val (.ref (own_pick i w_LOAD w_STORE w_LOCK w_UNLOCK w_SET w_BRANCH)), .val (.int (1 : Int32))]) rfl ?_
      show Steps p.tables e below (T2.setTop (mkF m 24 #[.val (.int p0), .val (.int i), .val (.ref (own_pick i w_LOAD w_STORE w_LOCK w_UNLOCK w_SET w_BRANCH)), .val (.int (1 : Int32))] [])) _
      refine XS.aloadN X2.here hx rfl (hb hby at_24) rfl rfl ?_
      show Steps p.tables e below (T2.setTop (mkF m 25 #[.val (.int p0), .val (.int i), .val (.ref (own_pick i w_LOAD w_STORE w_LOCK w_UNLOCK w_SET w_BRANCH)), .val (.int (1 : Int32))] [(.ref (own_pick i w_LOAD w_STORE w_LOCK w_UNLOCK w_SET w_BRANCH))])) _
      refine st5.trans ?_
      show Steps p.tables e below (T5.setTop (mkF m 28 #[.val (.int p0), .val (.int i), .val (.ref (own_pick i w_LOAD w_STORE w_LOCK w_UNLOCK w_SET w_BRANCH)), .val (.int (1 : Int32))] [(.int (own_act (own_pick i w_LOAD w_STORE w_LOCK w_UNLOCK w_SET w_BRANCH) w_SET w_BRANCH))])) _
      refine XS.iloadN X5.here hx rfl (hb hby at_28) rfl ?_
      show Steps p.tables e below (T5.setTop (mkF m 29 #[.val (.int p0), .val (.int i), .val (.ref (own_pick i w_LOAD w_STORE w_LOCK w_UNLOCK w_SET w_BRANCH)), .val (.int (1 : Int32))] [(.int (1 : Int32)), (.int (own_act (own_pick i w_LOAD w_STORE w_LOCK w_UNLOCK w_SET w_BRANCH) w_SET w_BRANCH))])) _
      refine XS.icmpNo X5.here hx rfl (hb hby at_29) rfl (teq hc29).2 ?_
      show Steps p.tables e below (T5.setTop (mkF m 32 #[.val (.int p0), .val (.int i), .val (.ref (own_pick i w_LOAD w_STORE w_LOCK w_UNLOCK w_SET w_BRANCH)), .val (.int (1 : Int32))] [])) _
      refine XS.iconst X5.here hx rfl (hb hby at_32) ?_
      show Steps p.tables e below (T5.setTop (mkF m 33 #[.val (.int p0), .val (.int i), .val (.ref (own_pick i w_LOAD w_STORE w_LOCK w_UNLOCK w_SET w_BRANCH)), .val (.int (1 : Int32))] [(.int (1 : Int32))])) _
      refine XS.goto X5.here hx rfl (pc0 := 33) (pc' := 37) rfl (hb hby at_33) (by decide) (by decide) ?_
      show Steps p.tables e below (T5.setTop (mkF m 37 #[.val (.int p0), .val (.int i), .val (.ref (own_pick i w_LOAD w_STORE w_LOCK w_UNLOCK w_SET w_BRANCH)), .val (.int (1 : Int32))] [(.int (1 : Int32))])) _
      exact retN X5 hx (t := .boolean) Bd.returns (by simp) (hb hby at_37) hr
    ·
      show Q_rm0 Z p0 w_LOAD w_STORE w_LOCK w_UNLOCK w_SET w_BRANCH h0 n0 _ T5.heap _
      rw [e5]
      exact ⟨rfl, N5⟩
set_option maxRecDepth 65536 in
set_option maxHeartbeats 40000000 in
theorem comes_1 {Post : Tables → Env → Array Value → State → Outcome → State → Prop} (hpost : ∀ tb e args s v u, (limb_1_1.after args s (.returned v) u = true ∧ limb_1_2.after args s (.returned v) u = true ∧ True) → FrameEnd s (.returned v) u (Jvm.fieldLocs frame_1_writes args s ++ Jvm.arrayLocs frame_1_arrays args s ++ Jvm.staticLocs frame_1_statics s) 0 0 → Post tb e args s (.returned v) u) :
    ArmFor flags0 classFile x code maxLocals ret World_1 tables_1 room_1 Calls_1 rest_1 Pre_1 Post := by
  intro l hfl _ _ p e ha hc hk s m args below hf hA hF happ hP
  obtain ⟨hcalls, hrest, hpre⟩ := hP
  obtain ⟨-, -, -, hnamed, -, -, -, hat⟩ := (Spec.applies_iff hf).mp happ
  obtain ⟨hg, hn⟩ := and_e (Cond.before_iff.mp (show (Jvm.Cond.and given_1 narrow_1).before args s = true from hpre))
  obtain ⟨hg0, hg⟩ := and_e hg
  have ga0 := hg
  obtain ⟨w0, rfl⟩ : ∃ w0 : Value, args = #[w0] := by
    have hs : args.size = 1 := by simpa [Cond.value, given_1] using hg0
    obtain ⟨L⟩ := args
    match L, hs with
    | [w0], _ => exact ⟨w0, rfl⟩
  have hw := fun d (hd : d ∈ tables_1) => atoms_spec (ws := Jvm.Cond.code x code maxLocals ret :: tables_1) hat d (List.mem_cons_of_mem _ hd)
  have hfit : Fit s := fun {y c} hc i hi => by
    obtain ⟨ha, rfl⟩ := Array.getElem?_eq_some_iff.mp hc
    have q := List.all_eq_true.mp ((Array.all_eq_true_iff_forall_mem.mp hF) _ (Array.getElem_mem ha)) i (List.mem_range.mpr hi)
    simpa [Array.getElem?_eq_getElem hi] using q
  obtain ⟨i0, ei0⟩ := is_v ga0
  obtain rfl : w0 = (.int i0) := Option.some.inj ei0
  obtain ⟨cn0, hn⟩ := and_e hn
  obtain ⟨cn1, hn⟩ := and_e hn
  obtain ⟨cn2, hn⟩ := and_e hn
  obtain ⟨cn3, hn⟩ := and_e hn
  obtain ⟨cn4, hn⟩ := and_e hn
  obtain ⟨cn5, hn⟩ := and_e hn
  obtain ⟨cn6, hn⟩ := and_e hn
  obtain ⟨cn7, hn⟩ := and_e hn
  obtain ⟨cn8, hn⟩ := and_e hn
  obtain ⟨cn9, hn⟩ := and_e hn
  obtain ⟨cn10, hn⟩ := and_e hn
  have cn11 := hn
  obtain ⟨w_LOAD, ev_LOAD⟩ := exa_v cn0
  have S_LOAD : Sta s s.heap "com/example/happenstance/happenstance/model/ThreadCode$Kind" "LOAD" "Lcom/example/happenstance/happenstance/model/ThreadCode$Kind;" (.ref w_LOAD) := Sta.start ev_LOAD (Or.inr ⟨(hw _ (List.mem_of_getElem? (i := 6) rfl)), (hw _ (List.mem_of_getElem? (i := 7) rfl))⟩)
  have E_w_LOAD : Exa s s.heap w_LOAD "com/example/happenstance/happenstance/model/ThreadCode$Kind" := Exa.start ev_LOAD cn0
  obtain ⟨w_SET, ev_SET⟩ := exa_v cn1
  have S_SET : Sta s s.heap "com/example/happenstance/happenstance/model/ThreadCode$Kind" "SET" "Lcom/example/happenstance/happenstance/model/ThreadCode$Kind;" (.ref w_SET) := Sta.start ev_SET (Or.inr ⟨(hw _ (List.mem_of_getElem? (i := 6) rfl)), (hw _ (List.mem_of_getElem? (i := 14) rfl))⟩)
  have E_w_SET : Exa s s.heap w_SET "com/example/happenstance/happenstance/model/ThreadCode$Kind" := Exa.start ev_SET cn1
  obtain ⟨w_BRANCH, ev_BRANCH⟩ := exa_v cn4
  have S_BRANCH : Sta s s.heap "com/example/happenstance/happenstance/model/ThreadCode$Kind" "BRANCH" "Lcom/example/happenstance/happenstance/model/ThreadCode$Kind;" (.ref w_BRANCH) := Sta.start ev_BRANCH (Or.inr ⟨(hw _ (List.mem_of_getElem? (i := 6) rfl)), (hw _ (List.mem_of_getElem? (i := 16) rfl))⟩)
  have E_w_BRANCH : Exa s s.heap w_BRANCH "com/example/happenstance/happenstance/model/ThreadCode$Kind" := Exa.start ev_BRANCH cn4
  obtain ⟨w_UNLOCK, ev_UNLOCK⟩ := exa_v cn6
  have S_UNLOCK : Sta s s.heap "com/example/happenstance/happenstance/model/ThreadCode$Kind" "UNLOCK" "Lcom/example/happenstance/happenstance/model/ThreadCode$Kind;" (.ref w_UNLOCK) := Sta.start ev_UNLOCK (Or.inr ⟨(hw _ (List.mem_of_getElem? (i := 6) rfl)), (hw _ (List.mem_of_getElem? (i := 18) rfl))⟩)
  have E_w_UNLOCK : Exa s s.heap w_UNLOCK "com/example/happenstance/happenstance/model/ThreadCode$Kind" := Exa.start ev_UNLOCK cn6
  obtain ⟨w_LOCK, ev_LOCK⟩ := exa_v cn8
  have S_LOCK : Sta s s.heap "com/example/happenstance/happenstance/model/ThreadCode$Kind" "LOCK" "Lcom/example/happenstance/happenstance/model/ThreadCode$Kind;" (.ref w_LOCK) := Sta.start ev_LOCK (Or.inr ⟨(hw _ (List.mem_of_getElem? (i := 6) rfl)), (hw _ (List.mem_of_getElem? (i := 20) rfl))⟩)
  have E_w_LOCK : Exa s s.heap w_LOCK "com/example/happenstance/happenstance/model/ThreadCode$Kind" := Exa.start ev_LOCK cn8
  obtain ⟨w_STORE, ev_STORE⟩ := exa_v cn10
  have S_STORE : Sta s s.heap "com/example/happenstance/happenstance/model/ThreadCode$Kind" "STORE" "Lcom/example/happenstance/happenstance/model/ThreadCode$Kind;" (.ref w_STORE) := Sta.start ev_STORE (Or.inr ⟨(hw _ (List.mem_of_getElem? (i := 6) rfl)), (hw _ (List.mem_of_getElem? (i := 22) rfl))⟩)
  have E_w_STORE : Exa s s.heap w_STORE "com/example/happenstance/happenstance/model/ThreadCode$Kind" := Exa.start ev_STORE cn10
  have q_LOAD := (fld_at ev_LOAD).symm.trans (own_eqv cn2)
  have o_LOAD := own_ordv q_LOAD
  have q_SET := (fld_at ev_SET).symm.trans (own_eqv cn3)
  have o_SET := own_ordv q_SET
  have q_BRANCH := (fld_at ev_BRANCH).symm.trans (own_eqv cn5)
  have o_BRANCH := own_ordv q_BRANCH
  have q_UNLOCK := (fld_at ev_UNLOCK).symm.trans (own_eqv cn7)
  have o_UNLOCK := own_ordv q_UNLOCK
  have q_LOCK := (fld_at ev_LOCK).symm.trans (own_eqv cn9)
  have o_LOCK := own_ordv q_LOCK
  have q_STORE := (fld_at ev_STORE).symm.trans (own_eqv cn11)
  have o_STORE := own_ordv q_STORE
  obtain ⟨n, o, h1, h2, h3, _, L, rfl, ⟨rfl, N⟩, hq⟩ := rm0 l s _ hw tables_1 i0 w_LOAD w_STORE w_LOCK w_UNLOCK w_SET w_BRANCH s.heap s.heap.size (Nat.le_refl _) S_LOAD S_STORE S_LOCK S_UNLOCK S_SET S_BRANCH E_w_LOAD E_w_STORE E_w_LOCK E_w_UNLOCK E_w_SET E_w_BRANCH o_LOAD o_STORE o_LOCK o_UNLOCK o_SET o_BRANCH p e ha hc hk s m _ below hf ((Spec.applies_iff_loose hf).mp happ).1 ⟨rfl, State.Warmed39.refl s, rfl⟩ trivial
  refine ⟨n, _, h1, h2, h3, hpost _ _ _ _ _ _ ⟨Cond.after_iff.mpr rfl, Cond.after_iff.mpr (eq_i res_at (Term.int_eval (1)) rfl), trivial⟩ ⟨hq.1, hq.2.1, (hq.2.2.sift fun y hy => Or.inr (N y hy)).mono (by decide) (by decide)⟩⟩
theorem main_1_1 : Claimed_1_1 := comes_1 fun _ _ _ _ _ _ h hF => ⟨h.1, hF⟩
theorem main_1_2 : Claimed_1_2 := comes_1 fun _ _ _ _ _ _ h hF => ⟨h.2.1, hF⟩
end Jvm.Pilot.@@N@@
namespace Jvm.Pilot.@@N@@
open Jvm Jvm.ClassFile Sem Op Lib Jvm.Free Jvm.Stand Jvm.Pilot.@@N@@.Jvm.D
/-! MADE BY PROGRAM (witnessworld.py) out of the Statement's table words and the real class files: 12 classes; the members and pool entries that the words name. The judged class is class 1, her method 1. -/
namespace start1
open Jvm.ClassFile
def u (s : String) : CpInfo := .utf8 (stringToUtf16 s)
/-- a pool by its gaps: so many unusable entries, then the entry; so many at the end -/
def gap : Nat → List CpInfo → List CpInfo
  | 0, r => r
  | n + 1, r => .unusable :: gap n r
def poolList (es : List (Nat × CpInfo)) (last : Nat) : List CpInfo := es.foldr (fun e r => gap e.1 (e.2 :: r)) (gap last [])
def pool (es : List (Nat × CpInfo)) (last : Nat) : Array CpInfo := ⟨poolList es last⟩
def fileOf (pool : Array CpInfo) (this : Nat) (attrs : Array Attribute := #[]) (ms : Array MethodInfo := #[]) (fl : Nat := 33) (sup : Nat := 0) (ifs : Array Nat := #[]) (fds : Array FieldInfo := #[]) : ClassFile where
  minorVersion := 0
  majorVersion := 65
  constantPool := pool
  accessFlags := fl
  thisClass := this
  superClass := sup
  interfaces := ifs
  fields := fds
  methods := ms
  attributes := attrs
def plain (name : String) (sup : Option ClassId) : Class where
  name := name
  kind := .ordinary
  loader := none
  accessFlags := 33
  super := sup
  interfaces := #[]
  cf := none
  fields := #[]
  methods := #[]
  instanceTypes := #[]
  staticTypes := #[]
  resolved := #[]
  callSites := []
  init := .initialized
  statics := none
  mirror := none

def pool0 : Array CpInfo := pool [(5, u "<init>"), (0, u "()V"), (1, .class_ 10), (1, u "java/lang/Object")] 113

def k0m0 : Method := { name := "<init>", desc := "()V", sig := { parameters := [], returnType := none }, accessFlags := 1, code := none }
/-- java/lang/Object -/
def k0 : Class := { plain "java/lang/Object" none with
  accessFlags := 33
  interfaces := #[]
  cf := some (fileOf pool0 8 #[] #[{ accessFlags := 1, nameIndex := 5, descriptorIndex := 6, attributes := #[] }] 33 0 #[] #[])
  fields := #[]
  methods := #[k0m0]
  instanceTypes := #[]
  staticTypes := #[]
  resolved := Array.replicate 124 none
  statics := none }

def pool1 : Array CpInfo := pool [(2, .class_ 4), (1, u "java/lang/Object"), (0, u "<init>"), (0, u "()V"), (0, .integer 2147483647), (0, .methodref 9 10), (0, .class_ 11), (0, .nameAndType 12 13), (0, u "com/example/happenstance/happenstance/model/KindIsActionPinLaw"), (0, u "pick"), (0, u "(I)Lcom/example/happenstance/happenstance/model/ThreadCode$Kind;"), (0, .methodref 15 16), (0, .class_ 17), (0, .nameAndType 18 19), (0, u "com/example/happenstance/happenstance/model/ThreadCode$Kind"), (0, u "isAction"), (0, u "()Z"), (0, .fieldref 15 21), (0, .nameAndType 22 23), (0, u "LOAD"), (0, u "Lcom/example/happenstance/happenstance/model/ThreadCode$Kind;"), (0, .fieldref 15 25), (0, .nameAndType 26 23), (0, u "STORE"), (0, .fieldref 15 28), (0, .nameAndType 29 23), (0, u "LOCK"), (0, .fieldref 15 31), (0, .nameAndType 32 23), (0, u "UNLOCK"), (0, .fieldref 15 34), (0, .nameAndType 35 23), (0, u "SET"), (0, .fieldref 15 37), (0, .nameAndType 38 23), (0, u "BRANCH"), (2, u "law"), (0, u "(I)Z")] 7

def k1m0 : Method := { name := "<init>", desc := "()V", sig := { parameters := [], returnType := none }, accessFlags := 1, code := none }
def k1c1 : Code := { maxStack := 2, maxLocals := 4, code := code, exceptionTable := #[], attributes := #[] }
def k1m1 : Method := { name := "law", desc := "(I)Z", sig := { parameters := [.int], returnType := some .boolean }, accessFlags := 9, code := some k1c1 }
def k1c2 : Code := { maxStack := 2, maxLocals := 1, code := method_3_code, exceptionTable := #[], attributes := #[] }
def k1m2 : Method := { name := "pick", desc := "(I)Lcom/example/happenstance/happenstance/model/ThreadCode$Kind;", sig := { parameters := [.int], returnType := some (.object "com/example/happenstance/happenstance/model/ThreadCode$Kind") }, accessFlags := 10, code := some k1c2 }
/-- com/example/happenstance/happenstance/model/KindIsActionPinLaw -/
def k1 : Class := { plain "com/example/happenstance/happenstance/model/KindIsActionPinLaw" (some 0) with
  accessFlags := 49
  interfaces := #[]
  cf := some (fileOf pool1 9 #[] #[{ accessFlags := 1, nameIndex := 5, descriptorIndex := 6, attributes := #[] }, { accessFlags := 9, nameIndex := 41, descriptorIndex := 42, attributes := #[] }, { accessFlags := 10, nameIndex := 12, descriptorIndex := 13, attributes := #[] }] 49 2 #[] #[])
  fields := #[]
  methods := #[k1m0, k1m1, k1m2]
  instanceTypes := #[]
  staticTypes := #[]
  resolved := Array.replicate 50 none
  statics := none }

def pool2 : Array CpInfo := pool [(1, .class_ 2), (0, u "java/lang/constant/Constable"), (0, .class_ 4), (0, u "java/lang/Object")] 6

/-- java/lang/constant/Constable -/
def k2 : Class := { plain "java/lang/constant/Constable" (some 0) with
  accessFlags := 1537
  interfaces := #[]
  cf := some (fileOf pool2 1 #[] #[] 1537 3 #[] #[])
  fields := #[]
  methods := #[]
  instanceTypes := #[]
  staticTypes := #[]
  resolved := Array.replicate 11 none
  statics := none }

def pool3 : Array CpInfo := pool [(1, .class_ 2), (0, u "java/lang/Comparable"), (0, .class_ 4), (0, u "java/lang/Object")] 7

/-- java/lang/Comparable -/
def k3 : Class := { plain "java/lang/Comparable" (some 0) with
  accessFlags := 1537
  interfaces := #[]
  cf := some (fileOf pool3 1 #[] #[] 1537 3 #[] #[])
  fields := #[]
  methods := #[]
  instanceTypes := #[]
  staticTypes := #[]
  resolved := Array.replicate 12 none
  statics := none }

def pool4 : Array CpInfo := pool [(1, .class_ 2), (0, u "java/io/Serializable"), (0, .class_ 4), (0, u "java/lang/Object")] 2

/-- java/io/Serializable -/
def k4 : Class := { plain "java/io/Serializable" (some 0) with
  accessFlags := 1537
  interfaces := #[]
  cf := some (fileOf pool4 1 #[] #[] 1537 3 #[] #[])
  fields := #[]
  methods := #[]
  instanceTypes := #[]
  staticTypes := #[]
  resolved := Array.replicate 7 none
  statics := none }

def pool5 : Array CpInfo := pool [(2, .class_ 4), (1, u "java/lang/Enum"), (0, u "name"), (0, u "Ljava/lang/String;"), (2, u "ordinal"), (0, u "I"), (1, .class_ 14), (1, u "java/lang/Object"), (4, u "hash"), (86, .class_ 108), (1, u "java/lang/Enum$EnumDesc"), (2, .class_ 112), (0, u "java/lang/constant/Constable"), (0, .class_ 114), (0, u "java/lang/Comparable"), (0, .class_ 116), (0, u "java/io/Serializable")] 87

/-- java/lang/Enum -/
def k5 : Class := { plain "java/lang/Enum" (some 0) with
  accessFlags := 1057
  interfaces := #[2, 3, 4]
  cf := some (fileOf pool5 2 #[.nestMembers #[106]] #[] 1057 12 #[111, 113, 115] #[{ accessFlags := 18, nameIndex := 5, descriptorIndex := 6, attributes := #[] }, { accessFlags := 18, nameIndex := 9, descriptorIndex := 10, attributes := #[] }, { accessFlags := 2, nameIndex := 19, descriptorIndex := 10, attributes := #[] }])
  fields := #[{ name := "name", type := (.object "java/lang/String"), accessFlags := 18, slot := 0, constantValue := 0 }, { name := "ordinal", type := .int, accessFlags := 18, slot := 1, constantValue := 0 }, { name := "hash", type := .int, accessFlags := 2, slot := 2, constantValue := 0 }]
  methods := #[]
  instanceTypes := #[(.object "java/lang/String"), .int, .int]
  staticTypes := #[]
  resolved := Array.replicate 204 none
  statics := none }

def pool6 : Array CpInfo := pool [(1, .class_ 2), (0, u "com/example/happenstance/happenstance/model/ThreadCode$Kind"), (2, u "LOAD"), (0, u "Lcom/example/happenstance/happenstance/model/ThreadCode$Kind;"), (2, u "STORE"), (2, u "LOCK"), (2, u "UNLOCK"), (0, .fieldref 1 17), (0, .nameAndType 18 6), (0, u "SET"), (0, .fieldref 1 20), (0, .nameAndType 21 6), (0, u "BRANCH"), (2, u "$VALUES"), (0, u "[Lcom/example/happenstance/happenstance/model/ThreadCode$Kind;"), (6, .class_ 34), (1, u "java/lang/Enum"), (24, u "isAction"), (0, u "()Z"), (6, .class_ 68), (0, u "com/example/happenstance/happenstance/model/ThreadCode")] 2

def k6c0 : Code := { maxStack := 2, maxLocals := 1, code := prog_92_method_4_code, exceptionTable := #[], attributes := #[] }
def k6m0 : Method := { name := "isAction", desc := "()Z", sig := { parameters := [], returnType := some .boolean }, accessFlags := 0, code := some k6c0 }
/-- com/example/happenstance/happenstance/model/ThreadCode$Kind -/
def k6 : Class := { plain "com/example/happenstance/happenstance/model/ThreadCode$Kind" (some 5) with
  accessFlags := 16432
  interfaces := #[]
  cf := some (fileOf pool6 1 #[.nestHost 67] #[{ accessFlags := 0, nameIndex := 59, descriptorIndex := 60, attributes := #[] }] 16432 32 #[] #[{ accessFlags := 16409, nameIndex := 5, descriptorIndex := 6, attributes := #[] }, { accessFlags := 16409, nameIndex := 9, descriptorIndex := 6, attributes := #[] }, { accessFlags := 16409, nameIndex := 12, descriptorIndex := 6, attributes := #[] }, { accessFlags := 16409, nameIndex := 15, descriptorIndex := 6, attributes := #[] }, { accessFlags := 16409, nameIndex := 18, descriptorIndex := 6, attributes := #[] }, { accessFlags := 16409, nameIndex := 21, descriptorIndex := 6, attributes := #[] }, { accessFlags := 4122, nameIndex := 24, descriptorIndex := 25, attributes := #[] }])
  fields := #[{ name := "LOAD", type := (.object "com/example/happenstance/happenstance/model/ThreadCode$Kind"), accessFlags := 16409, slot := 0, constantValue := 0 }, { name := "STORE", type := (.object "com/example/happenstance/happenstance/model/ThreadCode$Kind"), accessFlags := 16409, slot := 1, constantValue := 0 }, { name := "LOCK", type := (.object "com/example/happenstance/happenstance/model/ThreadCode$Kind"), accessFlags := 16409, slot := 2, constantValue := 0 }, { name := "UNLOCK", type := (.object "com/example/happenstance/happenstance/model/ThreadCode$Kind"), accessFlags := 16409, slot := 3, constantValue := 0 }, { name := "SET", type := (.object "com/example/happenstance/happenstance/model/ThreadCode$Kind"), accessFlags := 16409, slot := 4, constantValue := 0 }, { name := "BRANCH", type := (.object "com/example/happenstance/happenstance/model/ThreadCode$Kind"), accessFlags := 16409, slot := 5, constantValue := 0 }, { name := "$VALUES", type := (.array (.object "com/example/happenstance/happenstance/model/ThreadCode$Kind")), accessFlags := 4122, slot := 6, constantValue := 0 }]
  methods := #[k6m0]
  instanceTypes := #[(.object "java/lang/String"), .int, .int]
  staticTypes := #[(.object "com/example/happenstance/happenstance/model/ThreadCode$Kind"), (.object "com/example/happenstance/happenstance/model/ThreadCode$Kind"), (.object "com/example/happenstance/happenstance/model/ThreadCode$Kind"), (.object "com/example/happenstance/happenstance/model/ThreadCode$Kind"), (.object "com/example/happenstance/happenstance/model/ThreadCode$Kind"), (.object "com/example/happenstance/happenstance/model/ThreadCode$Kind"), (.array (.object "com/example/happenstance/happenstance/model/ThreadCode$Kind"))]
  resolved := Array.replicate 71 none
  statics := some 0 }

def pool7 : Array CpInfo := pool [(1, u "java/lang/Cloneable"), (0, .class_ 1), (0, u "java/lang/Object"), (0, .class_ 3)] 3

/-- java/lang/Cloneable -/
def k7 : Class := { plain "java/lang/Cloneable" (some 0) with
  accessFlags := 1537
  interfaces := #[]
  cf := some (fileOf pool7 2 #[] #[] 1537 4 #[] #[])
  fields := #[]
  methods := #[]
  instanceTypes := #[]
  staticTypes := #[]
  resolved := Array.replicate 8 none
  statics := none }

/-- the primitive byte -/
def k8 : Class := { plain "byte" none with kind := .primitive 'B', accessFlags := 0x411 }
/-- [B -/
def k9 : Class := { plain "[B" (some 0) with kind := .array 8 .byte, interfaces := #[7, 4], accessFlags := 1041 }

/-- the primitive int -/
def k10 : Class := { plain "int" none with kind := .primitive 'I', accessFlags := 0x411 }
/-- [I -/
def k11 : Class := { plain "[I" (some 0) with kind := .array 10 .int, interfaces := #[7, 4], accessFlags := 1041 }

def heap : Heap := #[{ cls := 6, slots := #[.ref 1, .ref 6, .ref 5, .ref 4, .ref 2, .ref 3, .null], vm := .statics 6 },
  { cls := 6, slots := #[.null, .int 0, .int 0], vm := .none },
  { cls := 6, slots := #[.null, .int 4, .int 0], vm := .none },
  { cls := 6, slots := #[.null, .int 5, .int 0], vm := .none },
  { cls := 6, slots := #[.null, .int 3, .int 0], vm := .none },
  { cls := 6, slots := #[.null, .int 2, .int 0], vm := .none },
  { cls := 6, slots := #[.null, .int 1, .int 0], vm := .none }]
def classes : Array Class := #[k0, k1, k2, k3, k4, k5, k6, k7, k8, k9, k10, k11]
def interned : List (Array UInt16 × Addr) := []
def slotsUsed : Nat := 25
def theMethod : MethodId := ⟨1, 1⟩
def args0 : Array Value := #[.int 5]
def aboutOver (below : List Frame) : State where
  vm := { classes := classes, interned := interned.toArray }
  heap := heap
  slotsUsed := slotsUsed
  threads := #[{ frames := .invoking theMethod args0 :: below }]
def below0 : List Frame := [.native { method := ⟨0, 0⟩, args := #[] }]
def about1 : State := aboutOver below0
def p0 : Program := .bare "" "" ""
def e0 : Env := launch0.env 0 0 0
theorem w_frames : about1.frames = Frame.invoking theMethod args0 :: below0 := rfl
set_option maxRecDepth 65536 in
theorem w_args : argsFit about1.vm theMethod args0 = true := by decide +kernel
set_option maxRecDepth 65536 in
theorem w_heap : heapFits about1 = true := by decide +kernel
set_option maxRecDepth 65536 in
theorem w_runnable : about1.curStatus? = some .runnable := by decide +kernel
set_option maxRecDepth 65536 in
theorem w_alone : about1.alone = true := by decide +kernel
set_option maxRecDepth 65536 in
theorem w_named : about1.methodNamed? x = some theMethod := by decide +kernel
set_option maxRecDepth 65536 in
theorem w_hears : about1.hears theMethod below0 = true := by decide +kernel
set_option maxRecDepth 65536 in
theorem w_ripe : about1.ripe theMethod args0 below0 = true := by decide +kernel
theorem w_running : about1.status = .running := rfl
set_option maxRecDepth 65536 in
theorem w_room : about1.hasRoom e0.platform room_1 = true :=
  launch0.hasRoom_least _ room_1 (by decide +kernel) (by decide +kernel) (by decide +kernel) (by decide +kernel) (by decide +kernel) (by decide +kernel)
theorem allAtoms_all (ts : List Jvm.Cond) (a : Array Jvm.Value) (st : Jvm.State) : (allAtoms ts).before a st = ts.all (fun c => c.before a st) := by
  induction ts with
  | nil => rfl
  | cons c t ih =>
    show (Jvm.Cond.and c (allAtoms t)).before a st = _
    rw [Jvm.Cond.before_and, ih, List.all_cons]
def words1 : List Jvm.Cond := Jvm.Cond.code x code maxLocals ret :: tables_1
/-- a 'code' word, met by the world's own term for the bytes: nothing is compared byte by byte -/
theorem code_word {y : MethodName} {bytes : ByteArray} {mx : Nat} {rt : Option FieldType} {a : Array Value} {s : State} {m : MethodId} {meth : Method} {c : Code} (h1 : s.methodNamed? y = some m) (h2 : s.vm.method? m = some meth) (h3 : meth.code = some c) (h4 : c.code = bytes)
    (h5 : (c.maxLocals == mx && c.exceptionTable.isEmpty && decide (c.maxStack ≤ mostOperands) && decide (meth.sig.returnType = rt) && !meth.locks && decide (parseMethodDescriptor y.desc = some meth.sig)) = true) : (Jvm.Cond.code y bytes mx rt).before a s = true := by
  simp only [Bool.and_eq_true, beq_iff_eq, Bool.not_eq_true', decide_eq_true_eq] at h5
  obtain ⟨⟨⟨⟨⟨g1, g2⟩, g3⟩, g4⟩, g5⟩, g6⟩ := h5
  simp [Cond.before, Cond.holds, Cond.value, h1, h2, h3, h4, g1, g2, g3, g4, g5, g6]
def isCode : Jvm.Cond → Bool
  | .code _ _ _ _ => true
  | _ => false
theorem all_split {L : List Jvm.Cond} {P : Jvm.Cond → Bool} (h1 : L.all (fun c => isCode c || P c) = true) (h2 : ∀ c ∈ L.filter isCode, P c = true) : L.all P = true := by
  refine List.all_eq_true.mpr fun c hc => ?_
  have h := List.all_eq_true.mp h1 c hc
  rcases Bool.eq_false_or_eq_true (isCode c) with hi | hi
  · exact h2 c (List.mem_filter.mpr ⟨hc, hi⟩)
  · simpa [hi] using h
set_option maxRecDepth 65536 in
theorem w_c0 : (Jvm.Cond.code x code maxLocals ret).before args0 about1 = true := code_word (m := ⟨1, 1⟩) (meth := k1m1) (c := k1c1) (by decide +kernel) rfl rfl rfl (by decide +kernel)
set_option maxRecDepth 65536 in
theorem w_c1 : (Jvm.Cond.code ({ cls := "com/example/happenstance/happenstance/model/KindIsActionPinLaw", name := "pick", desc := "(I)Lcom/example/happenstance/happenstance/model/ThreadCode$Kind;" } : Jvm.MethodName) method_3_code (1 : Nat) (Option.some (Jvm.ClassFile.FieldType.object "com/example/happenstance/happenstance/model/ThreadCode$Kind"))).before args0 about1 = true := code_word (m := ⟨1, 2⟩) (meth := k1m2) (c := k1c2) (by decide +kernel) rfl rfl rfl (by decide +kernel)
set_option maxRecDepth 65536 in
theorem w_c2 : (Jvm.Cond.code ({ cls := "com/example/happenstance/happenstance/model/ThreadCode$Kind", name := "isAction", desc := "()Z" } : Jvm.MethodName) prog_92_method_4_code (1 : Nat) (Option.some Jvm.ClassFile.FieldType.boolean)).before args0 about1 = true := code_word (m := ⟨6, 0⟩) (meth := k6m0) (c := k6c0) (by decide +kernel) rfl rfl rfl (by decide +kernel)
def codes1 : List Jvm.Cond := [Jvm.Cond.code x code maxLocals ret, Jvm.Cond.code ({ cls := "com/example/happenstance/happenstance/model/KindIsActionPinLaw", name := "pick", desc := "(I)Lcom/example/happenstance/happenstance/model/ThreadCode$Kind;" } : Jvm.MethodName) method_3_code (1 : Nat) (Option.some (Jvm.ClassFile.FieldType.object "com/example/happenstance/happenstance/model/ThreadCode$Kind")), Jvm.Cond.code ({ cls := "com/example/happenstance/happenstance/model/ThreadCode$Kind", name := "isAction", desc := "()Z" } : Jvm.MethodName) prog_92_method_4_code (1 : Nat) (Option.some Jvm.ClassFile.FieldType.boolean)]
set_option maxRecDepth 65536 in
theorem codes_eq : words1.filter isCode = codes1 := rfl
theorem w_codes : ∀ c ∈ words1.filter isCode, c.before args0 about1 = true := by
  rw [codes_eq]
  intro c hc
  simp only [codes1, List.mem_cons, List.not_mem_nil, or_false] at hc
  rcases hc with rfl | rfl | rfl
  · exact w_c0
  · exact w_c1
  · exact w_c2
set_option maxRecDepth 65536 in
theorem w_t1 : (words1.take 24).all (fun c => isCode c || c.before args0 about1) = true := by decide +kernel
set_option maxRecDepth 65536 in
theorem w_t2 : (words1.drop 24).all (fun c => isCode c || c.before args0 about1) = true := by decide +kernel
theorem w_tables : (allAtoms (Jvm.Cond.code x code maxLocals ret :: tables_1)).before args0 about1 = true := by
  rw [allAtoms_all]
  show words1.all (fun c => c.before args0 about1) = true
  refine all_split ?_ w_codes
  rw [← List.take_append_drop 24 words1, List.all_append, w_t1, w_t2]
  rfl
set_option maxRecDepth 65536 in
theorem w_case : (Jvm.Cond.and given_1 narrow_1).before args0 about1 = true := by decide +kernel
theorem w_applies : (headSpec (Jvm.Cond.code x code maxLocals ret :: tables_1) room_1).applies x e0.platform about1 = true :=
  (Spec.applies_iff w_frames).mpr ⟨w_running, w_runnable, w_alone, w_named, w_hears, w_ripe, w_room, w_tables⟩
theorem atStart : AtStart classFile x code maxLocals ret World_1 tables_1 room_1 Calls_1 rest_1 Pre_1 launch0 p0 e0 about1 theMethod args0 below0 :=
  ⟨lists_1, trivial, launch0.admits_env _ _ _, launch0.least_env, fairChoices_fair.cas, fairChoices_fair.clock, w_frames, w_args, w_heap, w_applies, trivial, trivial, w_case⟩
end start1
theorem witness_1 : WitnessClaimed_1 := ⟨start1.p0, start1.e0, start1.about1, start1.theMethod, start1.args0, start1.below0, start1.atStart⟩
end Jvm.Pilot.@@N@@
