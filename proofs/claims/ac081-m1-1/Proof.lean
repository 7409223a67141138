import JvmDerived
import JvmDerived.Pilot.@@N@@Statement
import JvmDerived.Pilot.@@N@@Code
set_option linter.unusedVariables false
set_option linter.unusedSimpArgs false
namespace Jvm.RoadKit
open Sem ClassFile Op Lib Jvm.Stand Jvm.Free Jvm.LawKit
section New
variable {p : Program} {l : Launch} {e : Env} {R : Room} {s : State} {m : MethodId} {args : Array Value} {below : List Frame} {meth : Method} {c : Code} {T : State} {locs : List Loc} {cells slots : Nat}
theorem retI (X : Stand p l e R s m args below meth c T locs cells slots) (hx : p.tables.exec = Jvm.exec) {pc : Nat} {Ls : Array Slot} {z : Int32} {rest : List Value} (hret : meth.sig.returnType = some .int) (hd : decode c.code pc = .ok (.ireturn, 1)) {fs : List Frame}
    (hl : ∀ (f : JFrame) (acts : List Action), f.method = m → f.locked = none → f.entered = [] → (doReturn e (T.setTop f) acts (some (.int z))).1 = T.setFrames fs) : Steps p.tables e below (T.setTop (mkF m pc Ls (.int z :: rest))) (T.setFrames fs) := by
  have hm' : T.vm.method? m = some meth := X.method'
  have hn : narrow .int (.int z) = .int z := rfl
  show Steps p.tables e below (T.setTop { method := m, pc := pc, locals := Ls, stack := _ :: rest, locked := none }) _
  jvm_step X.here [X.here.top, hx, hd, hm', hret, hn]
  first | (intro acts; rw [hl _ acts rfl rfl rfl]) | rw [hl _ _ rfl rfl rfl]
  exact Steps.refl _
end New
end Jvm.RoadKit
namespace Jvm.Pilot.@@N@@
open Jvm Jvm.ClassFile Sem Op Lib Jvm.Free Jvm.Stand Jvm.LawKit Jvm.RoadKit Bundle Jvm.Pilot.@@N@@.Jvm.D
theorem own_eqv {args : Array Value} {first s : State} {o : Option Outcome} {idx : List Nat} {t : Term} {k : Int32} (h : (Cond.eq t (.int k)).value args first o s idx = some true) : t.eval args first o idx s = some (.int k) := by
  cases ht : t.eval args first o idx s with
  | none => simp [Cond.value, ht] at h
  | some v => cases v <;> simp [Cond.value, ht, Term.eval] at h ⊢ <;> exact h
def own_ord (Z : State) (a : Addr) : Int32 := match Z.fieldOf? a "java/lang/Enum" "ordinal" "I" with
  | some (.int k) => k
  | _ => -1
theorem own_ordv {Z : State} {a : Addr} {k : Int32} (h : Z.fieldOf? a "java/lang/Enum" "ordinal" "I" = some (.int k)) : own_ord Z a = k := by simp [own_ord, h]
theorem own_dis {Z : State} {a b : Addr} {i j : Int32} (h : own_ord Z a = i) (h' : own_ord Z b = j) (n : i ≠ j) : a ≠ b := fun e => n (by rw [← h, ← h', e])
def own_allowed (a x y : Addr) : Int32 := if a = x then 1 else if a = y then 1 else 0
theorem d_prog_43_method_4_code_0 : decode prog_43_method_4_code 0 = .ok (.aload_n 0, 1) := by decide +kernel
theorem d_prog_43_method_4_code_1 : decode prog_43_method_4_code 1 = .ok (.getstatic 3, 3) := by decide +kernel
theorem d_prog_43_method_4_code_4 : decode prog_43_method_4_code 4 = .ok (.if_acmp .eq 10, 3) := by decide +kernel
theorem d_prog_43_method_4_code_14 : decode prog_43_method_4_code 14 = .ok (.iconst 1, 1) := by decide +kernel
theorem d_prog_43_method_4_code_15 : decode prog_43_method_4_code 15 = .ok (.goto 4, 3) := by decide +kernel
theorem d_prog_43_method_4_code_19 : decode prog_43_method_4_code 19 = .ok (.ireturn, 1) := by decide +kernel
theorem d_prog_43_method_4_code_7 : decode prog_43_method_4_code 7 = .ok (.aload_n 0, 1) := by decide +kernel
theorem d_prog_43_method_4_code_8 : decode prog_43_method_4_code 8 = .ok (.getstatic 7, 3) := by decide +kernel
theorem d_prog_43_method_4_code_11 : decode prog_43_method_4_code 11 = .ok (.if_acmp .ne 7, 3) := by decide +kernel
theorem d_prog_43_method_4_code_18 : decode prog_43_method_4_code 18 = .ok (.iconst 0, 1) := by decide +kernel
theorem pn_0 : plainName "com/example/happenstance/happenstance/model/Explanation$Verdict" = true := by first | (simp [plainName, overriddenIn]; done) | decide +kernel
theorem ef_rm1 (m : MethodId) (x0 : Addr) : entryFrame m #[(.ref x0)] 1 = mkF m 0 #[.val (.ref x0)] [] := by first | (simp [entryFrame, mkF, argsToLocals, Value.category]; done) | rfl
def Q_rm1 (Z : State) (r0 : Addr) (w_ALLOWED_SEQUENTIALLY_CONSISTENT : Addr) (w_ALLOWED_NOT_SEQUENTIALLY_CONSISTENT : Addr) (h0 : Heap) (n0 : Nat) (v : Option Value) (h : Heap) (L : List Loc) : Prop := v = some (.int (own_allowed r0 w_ALLOWED_SEQUENTIALLY_CONSISTENT w_ALLOWED_NOT_SEQUENTIALLY_CONSISTENT)) ∧ Fr n0 L ∧ h = h0
set_option maxRecDepth 65536 in
set_option maxHeartbeats 40000000 in
theorem rm1 (l : Launch) (Z : State) (a0 : Array Value) (hw : ∀ d ∈ tables_1, d.before a0 Z = true) (ws : List Jvm.Cond) (r0 : Addr) (w_ALLOWED_SEQUENTIALLY_CONSISTENT : Addr) (w_ALLOWED_NOT_SEQUENTIALLY_CONSISTENT : Addr) (h0 : Heap) (n0 : Nat) (Z0 : n0 ≤ h0.size) (S_ALLOWED_SEQUENTIALLY_CONSISTENT : Sta Z h0 "com/example/happenstance/happenstance/model/Explanation$Verdict" "ALLOWED_SEQUENTIALLY_CONSISTENT" "Lcom/example/happenstance/happenstance/model/Explanation$Verdict;" (.ref w_ALLOWED_SEQUENTIALLY_CONSISTENT)) (S_ALLOWED_NOT_SEQUENTIALLY_CONSISTENT : Sta Z h0 "com/example/happenstance/happenstance/model/Explanation$Verdict" "ALLOWED_NOT_SEQUENTIALLY_CONSISTENT" "Lcom/example/happenstance/happenstance/model/Explanation$Verdict;" (.ref w_ALLOWED_NOT_SEQUENTIALLY_CONSISTENT)) :
    MetFree l (⟨"com/example/happenstance/happenstance/model/Explanation$Verdict", "allowed", "()Z"⟩ : MethodName) (head1 (Jvm.Cond.code (⟨"com/example/happenstance/happenstance/model/Explanation$Verdict", "allowed", "()Z"⟩ : MethodName) prog_43_method_4_code 1 (some .boolean) :: ws) ({ frames := 0, cells := 0, slots := 0, locals := 0 } : Room)) (fun a U => a = #[(.ref r0)] ∧ Z.Warmed39 U.vm ∧ U.heap = h0) (fun _ _ _ _ _ => True) (fun _ U o U' => ∃ v L, o = .returned v ∧ Q_rm1 Z r0 w_ALLOWED_SEQUENTIALLY_CONSISTENT w_ALLOWED_NOT_SEQUENTIALLY_CONSISTENT h0 n0 v U'.heap L ∧ FrameEnd U o U' L ({ frames := 0, cells := 0, slots := 0, locals := 0 } : Room).cells ({ frames := 0, cells := 0, slots := 0, locals := 0 } : Room).slots) := by
  refine MetFree.of_bodySF (plainFor_of_name pn_0) hisR ?_
  intro p e s m args below meth c s₁ Bd hml0 hP hK
  obtain ⟨rfl, hZ, hh⟩ := hP
  have hx := Bd.exec
  have hby := Bd.bytes
  have hml : c.maxLocals = 1 := hml0
  have hown : s.vm.findClass "com/example/happenstance/happenstance/model/Explanation$Verdict" = some m.cls := findClass_of_methodNamed Bd.named
  have hnm := (name_of_methodNamed Bd.named Bd.method).1
  have hlk : meth.locks = false := by first | exact BodyLoose.notSynchronized (by assumption) | exact Body.notSynchronized (by assumption) | assumption
  have X0 : Stand p l e ({ frames := 0, cells := 0, slots := 0, locals := 0 } : Room) s m #[(.ref r0)] below meth c s₁ [] 0 0 := Stand.of_body Bd
  have e0 : s₁.heap = h0 := by rw [← hh, Bd.state]; rfl
  have N0 := Fr.nil n0
  have Zn := Z0
  have K0 : ∀ t, Steps p.tables e below (s₁.setTop (mkF m 0 #[.val (.ref r0)] [])) t → Steps p.tables e below (s₁.setTop (entryFrame m #[(.ref r0)] 1)) t := fun t k => castTop (ef_rm1 m r0) k
  obtain ⟨T1, X1, e1, st1⟩ := getS2 X0 hx hZ hown (host := "") (Or.inl (hw _ (List.mem_of_getElem? (i := 9) rfl))) Via.refl e0 S_ALLOWED_SEQUENTIALLY_CONSISTENT (g := (mkF m 1 #[.val (.ref r0)] [(.ref r0)])) rfl (hb hby d_prog_43_method_4_code_1)
  have K2 : ∀ t, Steps p.tables e below (T1.setTop (mkF m 4 #[.val (.ref r0)] [(.ref w_ALLOWED_SEQUENTIALLY_CONSISTENT), (.ref r0)])) t → Steps p.tables e below (s₁.setTop (entryFrame m #[(.ref r0)] 1)) t := by
    intro t kt
    refine K0 t ?_
    show Steps p.tables e below (s₁.setTop (mkF m 0 #[.val (.ref r0)] [])) _
    refine XS.aloadN X0.here hx rfl (hb hby d_prog_43_method_4_code_0) rfl rfl ?_
    show Steps p.tables e below (s₁.setTop (mkF m 1 #[.val (.ref r0)] [(.ref r0)])) _
    refine st1 _ ?_
    exact kt
  by_cases hc4 : r0 = w_ALLOWED_SEQUENTIALLY_CONSISTENT
  ·
    obtain ⟨fs, hr, hrun, hended, hW, hsame⟩ := X1.leave (v := some (.int (1 : Int32))) (fun h => by rw [Bd.returns] at h; cases h) hlk
    refine ⟨_, _, K2 _ ?_, hrun, hended, _, _, rfl, ?_, ⟨_, rfl⟩, hW, hsame.mono (by decide) (by decide)⟩
    ·
      show Steps p.tables e below (T1.setTop (mkF m 4 #[.val (.ref r0)] [(.ref w_ALLOWED_SEQUENTIALLY_CONSISTENT), (.ref r0)])) _
      refine Jvm.RoadKit.acmp (g := (mkF m 4 #[.val (.ref r0)] [(.ref w_ALLOWED_SEQUENTIALLY_CONSISTENT), (.ref r0)])) X1 hx rfl rfl rfl (pc0 := 4) (pc' := 14) (same := true) rfl (hb hby d_prog_43_method_4_code_4) rfl (decide_eq_true (congrArg Value.ref hc4)) (by decide) (by decide) ?_
      show Steps p.tables e below (T1.setTop (mkF m 14 #[.val (.ref r0)] [])) _
      refine XS.iconst X1.here hx rfl (hb hby d_prog_43_method_4_code_14) ?_
      show Steps p.tables e below (T1.setTop (mkF m 15 #[.val (.ref r0)] [(.int (1 : Int32))])) _
      refine XS.goto X1.here hx rfl (pc0 := 15) (pc' := 19) rfl (hb hby d_prog_43_method_4_code_15) (by decide) (by decide) ?_
      show Steps p.tables e below (T1.setTop (mkF m 19 #[.val (.ref r0)] [(.int (1 : Int32))])) _
      exact retN X1 hx (t := .boolean) Bd.returns (by simp) (hb hby d_prog_43_method_4_code_19) hr
    ·
      show Q_rm1 Z r0 w_ALLOWED_SEQUENTIALLY_CONSISTENT w_ALLOWED_NOT_SEQUENTIALLY_CONSISTENT h0 n0 _ T1.heap _
      rw [e1]
      refine ⟨?_, N0, rfl⟩
      simp [own_allowed, hc4]
  ·
    obtain ⟨T3, X3, e3, st3⟩ := getS2 X1 hx hZ hown (host := "") (Or.inl (hw _ (List.mem_of_getElem? (i := 12) rfl))) Via.refl e1 S_ALLOWED_NOT_SEQUENTIALLY_CONSISTENT (g := (mkF m 8 #[.val (.ref r0)] [(.ref r0)])) rfl (hb hby d_prog_43_method_4_code_8)
    have K4 : ∀ t, Steps p.tables e below (T3.setTop (mkF m 11 #[.val (.ref r0)] [(.ref w_ALLOWED_NOT_SEQUENTIALLY_CONSISTENT), (.ref r0)])) t → Steps p.tables e below (s₁.setTop (entryFrame m #[(.ref r0)] 1)) t := by
      intro t kt
      refine K2 t ?_
      show Steps p.tables e below (T1.setTop (mkF m 4 #[.val (.ref r0)] [(.ref w_ALLOWED_SEQUENTIALLY_CONSISTENT), (.ref r0)])) _
      refine Jvm.RoadKit.acmp (g := (mkF m 4 #[.val (.ref r0)] [(.ref w_ALLOWED_SEQUENTIALLY_CONSISTENT), (.ref r0)])) X1 hx rfl rfl rfl (pc0 := 4) (pc' := 7) (same := false) rfl (hb hby d_prog_43_method_4_code_4) rfl (decide_eq_false fun q => hc4 (Value.ref.inj q)) (by decide) (by decide) ?_
      show Steps p.tables e below (T1.setTop (mkF m 7 #[.val (.ref r0)] [])) _
      refine XS.aloadN X1.here hx rfl (hb hby d_prog_43_method_4_code_7) rfl rfl ?_
      show Steps p.tables e below (T1.setTop (mkF m 8 #[.val (.ref r0)] [(.ref r0)])) _
      refine st3 _ ?_
      exact kt
    by_cases hc11 : r0 = w_ALLOWED_NOT_SEQUENTIALLY_CONSISTENT
    ·
      obtain ⟨fs, hr, hrun, hended, hW, hsame⟩ := X3.leave (v := some (.int (1 : Int32))) (fun h => by rw [Bd.returns] at h; cases h) hlk
      refine ⟨_, _, K4 _ ?_, hrun, hended, _, _, rfl, ?_, ⟨_, rfl⟩, hW, hsame.mono (by decide) (by decide)⟩
      ·
        show Steps p.tables e below (T3.setTop (mkF m 11 #[.val (.ref r0)] [(.ref w_ALLOWED_NOT_SEQUENTIALLY_CONSISTENT), (.ref r0)])) _
        refine Jvm.RoadKit.acmp (g := (mkF m 11 #[.val (.ref r0)] [(.ref w_ALLOWED_NOT_SEQUENTIALLY_CONSISTENT), (.ref r0)])) X3 hx rfl rfl rfl (pc0 := 11) (pc' := 14) (same := true) rfl (hb hby d_prog_43_method_4_code_11) rfl (decide_eq_true (congrArg Value.ref hc11)) (by decide) (by decide) ?_
        show Steps p.tables e below (T3.setTop (mkF m 14 #[.val (.ref r0)] [])) _
        refine XS.iconst X3.here hx rfl (hb hby d_prog_43_method_4_code_14) ?_
        show Steps p.tables e below (T3.setTop (mkF m 15 #[.val (.ref r0)] [(.int (1 : Int32))])) _
        refine XS.goto X3.here hx rfl (pc0 := 15) (pc' := 19) rfl (hb hby d_prog_43_method_4_code_15) (by decide) (by decide) ?_
        show Steps p.tables e below (T3.setTop (mkF m 19 #[.val (.ref r0)] [(.int (1 : Int32))])) _
        exact retN X3 hx (t := .boolean) Bd.returns (by simp) (hb hby d_prog_43_method_4_code_19) hr
      ·
        show Q_rm1 Z r0 w_ALLOWED_SEQUENTIALLY_CONSISTENT w_ALLOWED_NOT_SEQUENTIALLY_CONSISTENT h0 n0 _ T3.heap _
        rw [e3]
        refine ⟨?_, N0, rfl⟩
        simp [own_allowed, hc4, hc11]
    ·
      obtain ⟨fs, hr, hrun, hended, hW, hsame⟩ := X3.leave (v := some (.int (0 : Int32))) (fun h => by rw [Bd.returns] at h; cases h) hlk
      refine ⟨_, _, K4 _ ?_, hrun, hended, _, _, rfl, ?_, ⟨_, rfl⟩, hW, hsame.mono (by decide) (by decide)⟩
      ·
        show Steps p.tables e below (T3.setTop (mkF m 11 #[.val (.ref r0)] [(.ref w_ALLOWED_NOT_SEQUENTIALLY_CONSISTENT), (.ref r0)])) _
        refine Jvm.RoadKit.acmp (g := (mkF m 11 #[.val (.ref r0)] [(.ref w_ALLOWED_NOT_SEQUENTIALLY_CONSISTENT), (.ref r0)])) X3 hx rfl rfl rfl (pc0 := 11) (pc' := 18) (same := false) rfl (hb hby d_prog_43_method_4_code_11) rfl (decide_eq_false fun q => hc11 (Value.ref.inj q)) (by decide) (by decide) ?_
        show Steps p.tables e below (T3.setTop (mkF m 18 #[.val (.ref r0)] [])) _
        refine XS.iconst X3.here hx rfl (hb hby d_prog_43_method_4_code_18) ?_
        show Steps p.tables e below (T3.setTop (mkF m 19 #[.val (.ref r0)] [(.int (0 : Int32))])) _
        exact retN X3 hx (t := .boolean) Bd.returns (by simp) (hb hby d_prog_43_method_4_code_19) hr
      ·
        show Q_rm1 Z r0 w_ALLOWED_SEQUENTIALLY_CONSISTENT w_ALLOWED_NOT_SEQUENTIALLY_CONSISTENT h0 n0 _ T3.heap _
        rw [e3]
        refine ⟨?_, N0, rfl⟩
        simp [own_allowed, hc4, hc11]
theorem pd_1 : parseMethodDescriptor "()Z" = some ⟨[], some .boolean⟩ := by decide +kernel
theorem pn_2 : plainName "com/example/happenstance/happenstance/model/VerdictAllowedPinLaw" = true := by first | (simp [plainName, overriddenIn]; done) | decide +kernel
theorem ef_rm0 (m : MethodId) (x0 : Int32) : entryFrame m #[(.int x0)] maxLocals = mkF m 0 #[.val (.int x0), .unset, .unset, .unset] [] := by first | (simp [entryFrame, mkF, argsToLocals, Value.category, maxLocals]; done) | rfl
def Q_rm0 (Z : State) (p0 : Int32) (w_ALLOWED_SEQUENTIALLY_CONSISTENT : Addr) (w_FORBIDDEN_NOT_HAPPENS_BEFORE_CONSISTENT : Addr) (w_ALLOWED_NOT_SEQUENTIALLY_CONSISTENT : Addr) (w_FORBIDDEN_NOT_JUSTIFIED : Addr) (w_FORBIDDEN_NOT_SEQUENTIALLY_CONSISTENT : Addr) (h0 : Heap) (n0 : Nat) (v : Option Value) (h : Heap) (L : List Loc) : Prop := v = some (.int 1) ∧ Fr n0 L
set_option maxRecDepth 65536 in
set_option maxHeartbeats 40000000 in
theorem rm0 (l : Launch) (Z : State) (a0 : Array Value) (hw : ∀ d ∈ tables_1, d.before a0 Z = true) (ws : List Jvm.Cond) (p0 : Int32) (w_ALLOWED_SEQUENTIALLY_CONSISTENT : Addr) (w_FORBIDDEN_NOT_HAPPENS_BEFORE_CONSISTENT : Addr) (w_ALLOWED_NOT_SEQUENTIALLY_CONSISTENT : Addr) (w_FORBIDDEN_NOT_JUSTIFIED : Addr) (w_FORBIDDEN_NOT_SEQUENTIALLY_CONSISTENT : Addr) (h0 : Heap) (n0 : Nat) (Z0 : n0 ≤ h0.size) (S_ALLOWED_SEQUENTIALLY_CONSISTENT : Sta Z h0 "com/example/happenstance/happenstance/model/Explanation$Verdict" "ALLOWED_SEQUENTIALLY_CONSISTENT" "Lcom/example/happenstance/happenstance/model/Explanation$Verdict;" (.ref w_ALLOWED_SEQUENTIALLY_CONSISTENT)) (S_FORBIDDEN_NOT_HAPPENS_BEFORE_CONSISTENT : Sta Z h0 "com/example/happenstance/happenstance/model/Explanation$Verdict" "FORBIDDEN_NOT_HAPPENS_BEFORE_CONSISTENT" "Lcom/example/happenstance/happenstance/model/Explanation$Verdict;" (.ref w_FORBIDDEN_NOT_HAPPENS_BEFORE_CONSISTENT)) (S_ALLOWED_NOT_SEQUENTIALLY_CONSISTENT : Sta Z h0 "com/example/happenstance/happenstance/model/Explanation$Verdict" "ALLOWED_NOT_SEQUENTIALLY_CONSISTENT" "Lcom/example/happenstance/happenstance/model/Explanation$Verdict;" (.ref w_ALLOWED_NOT_SEQUENTIALLY_CONSISTENT)) (S_FORBIDDEN_NOT_JUSTIFIED : Sta Z h0 "com/example/happenstance/happenstance/model/Explanation$Verdict" "FORBIDDEN_NOT_JUSTIFIED" "Lcom/example/happenstance/happenstance/model/Explanation$Verdict;" (.ref w_FORBIDDEN_NOT_JUSTIFIED)) (S_FORBIDDEN_NOT_SEQUENTIALLY_CONSISTENT : Sta Z h0 "com/example/happenstance/happenstance/model/Explanation$Verdict" "FORBIDDEN_NOT_SEQUENTIALLY_CONSISTENT" "Lcom/example/happenstance/happenstance/model/Explanation$Verdict;" (.ref w_FORBIDDEN_NOT_SEQUENTIALLY_CONSISTENT)) (E_w_ALLOWED_SEQUENTIALLY_CONSISTENT : Exa Z h0 w_ALLOWED_SEQUENTIALLY_CONSISTENT "com/example/happenstance/happenstance/model/Explanation$Verdict") (E_w_FORBIDDEN_NOT_HAPPENS_BEFORE_CONSISTENT : Exa Z h0 w_FORBIDDEN_NOT_HAPPENS_BEFORE_CONSISTENT "com/example/happenstance/happenstance/model/Explanation$Verdict") (E_w_ALLOWED_NOT_SEQUENTIALLY_CONSISTENT : Exa Z h0 w_ALLOWED_NOT_SEQUENTIALLY_CONSISTENT "com/example/happenstance/happenstance/model/Explanation$Verdict") (E_w_FORBIDDEN_NOT_JUSTIFIED : Exa Z h0 w_FORBIDDEN_NOT_JUSTIFIED "com/example/happenstance/happenstance/model/Explanation$Verdict") (E_w_FORBIDDEN_NOT_SEQUENTIALLY_CONSISTENT : Exa Z h0 w_FORBIDDEN_NOT_SEQUENTIALLY_CONSISTENT "com/example/happenstance/happenstance/model/Explanation$Verdict") (o_ALLOWED_SEQUENTIALLY_CONSISTENT : own_ord Z w_ALLOWED_SEQUENTIALLY_CONSISTENT = 0) (o_FORBIDDEN_NOT_HAPPENS_BEFORE_CONSISTENT : own_ord Z w_FORBIDDEN_NOT_HAPPENS_BEFORE_CONSISTENT = 3) (o_ALLOWED_NOT_SEQUENTIALLY_CONSISTENT : own_ord Z w_ALLOWED_NOT_SEQUENTIALLY_CONSISTENT = 1) (o_FORBIDDEN_NOT_JUSTIFIED : own_ord Z w_FORBIDDEN_NOT_JUSTIFIED = 4) (o_FORBIDDEN_NOT_SEQUENTIALLY_CONSISTENT : own_ord Z w_FORBIDDEN_NOT_SEQUENTIALLY_CONSISTENT = 2) :
    MetFree l x (head1 (Jvm.Cond.code x code maxLocals ret :: ws) room_1) (fun a U => a = #[(.int p0)] ∧ Z.Warmed39 U.vm ∧ U.heap = h0) (fun _ _ _ _ _ => True) (fun _ U o U' => ∃ v L, o = .returned v ∧ Q_rm0 Z p0 w_ALLOWED_SEQUENTIALLY_CONSISTENT w_FORBIDDEN_NOT_HAPPENS_BEFORE_CONSISTENT w_ALLOWED_NOT_SEQUENTIALLY_CONSISTENT w_FORBIDDEN_NOT_JUSTIFIED w_FORBIDDEN_NOT_SEQUENTIALLY_CONSISTENT h0 n0 v U'.heap L ∧ FrameEnd U o U' L room_1.cells room_1.slots) := by
  refine MetFree.of_bodySF (plainFor_of_name pn_2) hisR ?_
  intro p e s m args below meth c s₁ Bd hml0 hP hK
  obtain ⟨rfl, hZ, hh⟩ := hP
  have hx := Bd.exec
  have hby := Bd.bytes
  have hml : c.maxLocals = 4 := hml0
  have hown : s.vm.findClass "com/example/happenstance/happenstance/model/VerdictAllowedPinLaw" = some m.cls := findClass_of_methodNamed Bd.named
  have hnm := (name_of_methodNamed Bd.named Bd.method).1
  have hlk : meth.locks = false := by first | exact BodyLoose.notSynchronized (by assumption) | exact Body.notSynchronized (by assumption) | assumption
  have X0 : Stand p l e room_1 s m #[(.int p0)] below meth c s₁ [] 0 0 := Stand.of_body Bd
  have e0 : s₁.heap = h0 := by rw [← hh, Bd.state]; rfl
  have N0 := Fr.nil n0
  have Zn := Z0
  have K0 : ∀ t, Steps p.tables e below (s₁.setTop (mkF m 0 #[.val (.int p0), .unset, .unset, .unset] [])) t → Steps p.tables e below (s₁.setTop (entryFrame m #[(.int p0)] maxLocals)) t := fun t k => castTop (ef_rm0 m p0) k
  have K1 : ∀ t, Steps p.tables e below (s₁.setTop (mkF m 8 #[.val (.int p0), .val (.int ((p0 &&& (2147483647 : Int32)) - ((p0 &&& (2147483647 : Int32)) / (5 : Int32)) * (5 : Int32))), .unset, .unset] [(.int ((p0 &&& (2147483647 : Int32)) - ((p0 &&& (2147483647 : Int32)) / (5 : Int32)) * (5 : Int32)))])) t → Steps p.tables e below (s₁.setTop (entryFrame m #[(.int p0)] maxLocals)) t := by
    intro t kt
    refine K0 t ?_
    show Steps p.tables e below (s₁.setTop (mkF m 0 #[.val (.int p0), .unset, .unset, .unset] [])) _
    refine XS.iloadN X0.here hx rfl (hb hby at_0) rfl ?_
    show Steps p.tables e below (s₁.setTop (mkF m 1 #[.val (.int p0), .unset, .unset, .unset] [(.int p0)])) _
    refine X0.ldcInt hx hown (mvT hZ (hw _ (List.mem_of_getElem? (i := 0) rfl))) (g := (mkF m 1 #[.val (.int p0), .unset, .unset, .unset] [(.int p0)])) rfl (hb hby at_1) _ ?_
    show Steps p.tables e below (s₁.setTop (mkF m 3 #[.val (.int p0), .unset, .unset, .unset] [(.int (2147483647 : Int32)), (.int p0)])) _
    refine XS.iand X0.here hx rfl (hb hby at_3) rfl ?_
    show Steps p.tables e below (s₁.setTop (mkF m 4 #[.val (.int p0), .unset, .unset, .unset] [(.int (p0 &&& (2147483647 : Int32)))])) _
    refine XS.iconst X0.here hx rfl (hb hby at_4) ?_
    show Steps p.tables e below (s₁.setTop (mkF m 5 #[.val (.int p0), .unset, .unset, .unset] [(.int (5 : Int32)), (.int (p0 &&& (2147483647 : Int32)))])) _
    refine XS.irem X0.here hx rfl (hb hby at_5) rfl (by decide) ?_
    show Steps p.tables e below (s₁.setTop (mkF m 6 #[.val (.int p0), .unset, .unset, .unset] [(.int ((p0 &&& (2147483647 : Int32)) - ((p0 &&& (2147483647 : Int32)) / (5 : Int32)) * (5 : Int32)))])) _
    refine XS.istoreN X0.here hx rfl (hb hby at_6) rfl (l' := #[.val (.int p0), .val (.int ((p0 &&& (2147483647 : Int32)) - ((p0 &&& (2147483647 : Int32)) / (5 : Int32)) * (5 : Int32))), .unset, .unset]) rfl ?_
    show Steps p.tables e below (s₁.setTop (mkF m 7 #[.val (.int p0), .val (.int ((p0 &&& (2147483647 : Int32)) - ((p0 &&& (2147483647 : Int32)) / (5 : Int32)) * (5 : Int32))), .unset, .unset] [])) _
    refine XS.iloadN X0.here hx rfl (hb hby at_7) rfl ?_
    exact kt
  by_cases hc8 : ((p0 &&& (2147483647 : Int32)) - ((p0 &&& (2147483647 : Int32)) / (5 : Int32)) * (5 : Int32)) = (0 : Int32)
  ·
    obtain ⟨T2, X2, e2, st2⟩ := getS2 X0 hx hZ hown (host := "") (Or.inl (hw _ (List.mem_of_getElem? (i := 1) rfl))) Via.refl e0 S_ALLOWED_SEQUENTIALLY_CONSISTENT (g := (mkF m 11 #[.val (.int p0), .val (.int ((p0 &&& (2147483647 : Int32)) - ((p0 &&& (2147483647 : Int32)) / (5 : Int32)) * (5 : Int32))), .unset, .unset] [])) rfl (hb hby at_11)
    obtain ⟨cq3, kq3, q3a, q3b, q3c⟩ := isOf hZ e2 E_w_ALLOWED_SEQUENTIALLY_CONSISTENT
    obtain ⟨_, _, ⟨T3, L3, k3, n3⟩, -, X3, ⟨Lc3, hQ3, l3, y3, z3⟩, st3⟩ := X2.virtualBack hx (y := (⟨"com/example/happenstance/happenstance/model/Explanation$Verdict", "allowed", "()Z"⟩ : MethodName)) (z := (⟨"com/example/happenstance/happenstance/model/Explanation$Verdict", "allowed", "()Z"⟩ : MethodName)) hown (mvT hZ (hw _ (List.mem_of_getElem? (i := 4) rfl))) (mvT hZ (hw _ (List.mem_of_getElem? (i := 5) rfl))) (notFace_of_selects (args := #[]) (mvT hZ (hw _ (List.mem_of_getElem? (i := 7) rfl)))) (mvT hZ (hw _ (List.mem_of_getElem? (i := 7) rfl))) (mvT hZ (hw _ (List.mem_of_getElem? (i := 6) rfl))) (by decide) (backOf (W := 0) (rm1 l Z a0 hw [] w_ALLOWED_SEQUENTIALLY_CONSISTENT w_ALLOWED_SEQUENTIALLY_CONSISTENT w_ALLOWED_NOT_SEQUENTIALLY_CONSISTENT h0 n0 Zn S_ALLOWED_SEQUENTIALLY_CONSISTENT S_ALLOWED_NOT_SEQUENTIALLY_CONSISTENT) hZ (hw _ (List.mem_of_getElem? (i := 8) rfl)) (hw _ (List.mem_of_getElem? (i := 2) rfl)) (by decide) (by decide)) q3a q3c (g := (mkF m 69 #[.val (.int p0), .val (.int ((p0 &&& (2147483647 : Int32)) - ((p0 &&& (2147483647 : Int32)) / (5 : Int32)) * (5 : Int32))), .val (.ref w_ALLOWED_SEQUENTIALLY_CONSISTENT), .val (.int (1 : Int32))] [(.ref w_ALLOWED_SEQUENTIALLY_CONSISTENT)])) rfl (by rw [hml]; rfl) (Steps.refl _) (argsL := []) (rest := []) (lenOf pd_1 rfl) rfl (by show 2 * 0 + _ ≤ _; exact Nat.le_of_eq rfl) (hb hby at_69) (fun _ _ => ⟨rfl, e2, (by decide : 0 + 0 ≤ _), (by decide : 0 + 0 ≤ _)⟩)
    dsimp only [Pt.U, Pt.locs, Pt.cells, Pt.slots] at X3 l3 y3 z3 st3 hQ3
    subst l3 y3 z3
    obtain ⟨rfl, N3q, e3q⟩ := hQ3
    have N3 := Fr.app N0 N3q
    have e3 : T3.heap = h0 := e3q
    have hc73 : (own_allowed w_ALLOWED_SEQUENTIALLY_CONSISTENT w_ALLOWED_SEQUENTIALLY_CONSISTENT w_ALLOWED_NOT_SEQUENTIALLY_CONSISTENT) = (1 : Int32) := (by simp [own_allowed, (own_dis o_ALLOWED_SEQUENTIALLY_CONSISTENT o_ALLOWED_NOT_SEQUENTIALLY_CONSISTENT (by decide))])
    obtain ⟨fs, hr, hrun, hended, hW, hsame⟩ := X3.leave (v := some (.int (1 : Int32))) (fun h => by rw [Bd.returns] at h; cases h) hlk
    refine ⟨_, _, K1 _ ?_, hrun, hended, _, _, rfl, ?_, ⟨_, rfl⟩, hW, hsame.mono (by decide) (by decide)⟩
    ·
      show Steps p.tables e below (s₁.setTop (mkF m 8 #[.val (.int p0), .val (.int ((p0 &&& (2147483647 : Int32)) - ((p0 &&& (2147483647 : Int32)) / (5 : Int32)) * (5 : Int32))), .unset, .unset] [(.int ((p0 &&& (2147483647 : Int32)) - ((p0 &&& (2147483647 : Int32)) / (5 : Int32)) * (5 : Int32)))])) _
      refine XS.ifNo X0.here hx rfl (hb hby at_8) rfl ((if0 _ _).trans (teq hc8).2) ?_
      show Steps p.tables e below (s₁.setTop (mkF m 11 #[.val (.int p0), .val (.int ((p0 &&& (2147483647 : Int32)) - ((p0 &&& (2147483647 : Int32)) / (5 : Int32)) * (5 : Int32))), .unset, .unset] [])) _
      refine st2 _ ?_
      show Steps p.tables e below (T2.setTop (mkF m 14 #[.val (.int p0), .val (.int ((p0 &&& (2147483647 : Int32)) - ((p0 &&& (2147483647 : Int32)) / (5 : Int32)) * (5 : Int32))), .unset, .unset] [(.ref w_ALLOWED_SEQUENTIALLY_CONSISTENT)])) _
      refine XS.astoreN X2.here hx rfl (hb hby at_14) rfl rfl (l' := #[.val (.int p0), .val (.int ((p0 &&& (2147483647 : Int32)) - ((p0 &&& (2147483647 : Int32)) / (5 : Int32)) * (5 : Int32))), .val (.ref w_ALLOWED_SEQUENTIALLY_CONSISTENT), .unset]) rfl ?_
      show Steps p.tables e below (T2.setTop (mkF m 15 #[.val (.int p0), .val (.int ((p0 &&& (2147483647 : Int32)) - ((p0 &&& (2147483647 : Int32)) / (5 : Int32)) * (5 : Int32))), .val (.ref w_ALLOWED_SEQUENTIALLY_CONSISTENT), .unset] [])) _
      refine XS.iconst X2.here hx rfl (hb hby at_15) ?_
      show Steps p.tables e below (T2.setTop (mkF m 16 #[.val (.int p0), .val (.int ((p0 &&& (2147483647 : Int32)) - ((p0 &&& (2147483647 : Int32)) / (5 : Int32)) * (5 : Int32))), .val (.ref w_ALLOWED_SEQUENTIALLY_CONSISTENT), .unset] [(.int (1 : Int32))])) _
      refine XS.istoreN X2.here hx rfl (hb hby at_16) rfl (l' := #[.val (.int p0), .val (.int ((p0 &&& (2147483647 : Int32)) - ((p0 &&& (2147483647 : Int32)) / (5 : Int32)) * (5 : Int32))), .val (.ref w_ALLOWED_SEQUENTIALLY_CONSISTENT), .val (.int (1 : Int32))]) rfl ?_
      show Steps p.tables e below (T2.setTop (mkF m 17 #[.val (.int p0), .val (.int ((p0 &&& (2147483647 : Int32)) - ((p0 &&& (2147483647 : Int32)) / (5 : Int32)) * (5 : Int32))), .val (.ref w_ALLOWED_SEQUENTIALLY_CONSISTENT), .val (.int (1 : Int32))] [])) _
      refine XS.goto X2.here hx rfl (pc0 := 17) (pc' := 68) rfl (hb hby at_17) (by decide) (by decide) ?_
      show Steps p.tables e below (T2.setTop (mkF m 68 #[.val (.int p0), .val (.int ((p0 &&& (2147483647 : Int32)) - ((p0 &&& (2147483647 : Int32)) / (5 : Int32)) * (5 : Int32))), .val (.ref w_ALLOWED_SEQUENTIALLY_CONSISTENT), .val (.int (1 : Int32))] [])) _
      refine XS.aloadN X2.here hx rfl (hb hby at_68) rfl rfl ?_
      show Steps p.tables e below (T2.setTop (mkF m 69 #[.val (.int p0), .val (.int ((p0 &&& (2147483647 : Int32)) - ((p0 &&& (2147483647 : Int32)) / (5 : Int32)) * (5 : Int32))), .val (.ref w_ALLOWED_SEQUENTIALLY_CONSISTENT), .val (.int (1 : Int32))] [(.ref w_ALLOWED_SEQUENTIALLY_CONSISTENT)])) _
      refine st3.trans ?_
      show Steps p.tables e below (T3.setTop (mkF m 72 #[.val (.int p0), .val (.int ((p0 &&& (2147483647 : Int32)) - ((p0 &&& (2147483647 : Int32)) / (5 : Int32)) * (5 : Int32))), .val (.ref w_ALLOWED_SEQUENTIALLY_CONSISTENT), .val (.int (1 : Int32))] [(.int (own_allowed w_ALLOWED_SEQUENTIALLY_CONSISTENT w_ALLOWED_SEQUENTIALLY_CONSISTENT w_ALLOWED_NOT_SEQUENTIALLY_CONSISTENT))])) _
      refine XS.iloadN X3.here hx rfl (hb hby at_72) rfl ?_
      show Steps p.tables e below (T3.setTop (mkF m 73 #[.val (.int p0), .val (.int ((p0 &&& (2147483647 : Int32)) - ((p0 &&& (2147483647 : Int32)) / (5 : Int32)) * (5 : Int32))), .val (.ref w_ALLOWED_SEQUENTIALLY_CONSISTENT), .val (.int (1 : Int32))] [(.int (1 : Int32)), (.int (own_allowed w_ALLOWED_SEQUENTIALLY_CONSISTENT w_ALLOWED_SEQUENTIALLY_CONSISTENT w_ALLOWED_NOT_SEQUENTIALLY_CONSISTENT))])) _
      refine XS.icmpNo X3.here hx rfl (hb hby at_73) rfl (teq hc73).2 ?_
      show Steps p.tables e below (T3.setTop (mkF m 76 #[.val (.int p0), .val (.int ((p0 &&& (2147483647 : Int32)) - ((p0 &&& (2147483647 : Int32)) / (5 : Int32)) * (5 : Int32))), .val (.ref w_ALLOWED_SEQUENTIALLY_CONSISTENT), .val (.int (1 : Int32))] [])) _
      refine XS.iconst X3.here hx rfl (hb hby at_76) ?_
      show Steps p.tables e below (T3.setTop (mkF m 77 #[.val (.int p0), .val (.int ((p0 &&& (2147483647 : Int32)) - ((p0 &&& (2147483647 : Int32)) / (5 : Int32)) * (5 : Int32))), .val (.ref w_ALLOWED_SEQUENTIALLY_CONSISTENT), .val (.int (1 : Int32))] [(.int (1 : Int32))])) _
      refine XS.goto X3.here hx rfl (pc0 := 77) (pc' := 81) rfl (hb hby at_77) (by decide) (by decide) ?_
      show Steps p.tables e below (T3.setTop (mkF m 81 #[.val (.int p0), .val (.int ((p0 &&& (2147483647 : Int32)) - ((p0 &&& (2147483647 : Int32)) / (5 : Int32)) * (5 : Int32))), .val (.ref w_ALLOWED_SEQUENTIALLY_CONSISTENT), .val (.int (1 : Int32))] [(.int (1 : Int32))])) _
      exact retN X3 hx (t := .boolean) Bd.returns (by simp) (hb hby at_81) hr
    ·
      show Q_rm0 Z p0 w_ALLOWED_SEQUENTIALLY_CONSISTENT w_FORBIDDEN_NOT_HAPPENS_BEFORE_CONSISTENT w_ALLOWED_NOT_SEQUENTIALLY_CONSISTENT w_FORBIDDEN_NOT_JUSTIFIED w_FORBIDDEN_NOT_SEQUENTIALLY_CONSISTENT h0 n0 _ T3.heap _
      rw [e3]
      exact ⟨rfl, N3⟩
  ·
    have K4 : ∀ t, Steps p.tables e below (s₁.setTop (mkF m 22 #[.val (.int p0), .val (.int ((p0 &&& (2147483647 : Int32)) - ((p0 &&& (2147483647 : Int32)) / (5 : Int32)) * (5 : Int32))), .unset, .unset] [(.int (1 : Int32)), (.int ((p0 &&& (2147483647 : Int32)) - ((p0 &&& (2147483647 : Int32)) / (5 : Int32)) * (5 : Int32)))])) t → Steps p.tables e below (s₁.setTop (entryFrame m #[(.int p0)] maxLocals)) t := by
      intro t kt
      refine K1 t ?_
      show Steps p.tables e below (s₁.setTop (mkF m 8 #[.val (.int p0), .val (.int ((p0 &&& (2147483647 : Int32)) - ((p0 &&& (2147483647 : Int32)) / (5 : Int32)) * (5 : Int32))), .unset, .unset] [(.int ((p0 &&& (2147483647 : Int32)) - ((p0 &&& (2147483647 : Int32)) / (5 : Int32)) * (5 : Int32)))])) _
      refine XS.ifYes X0.here hx rfl (pc0 := 8) (pc' := 20) rfl (hb hby at_8) rfl ((if0 _ _).trans (feq hc8).2) (by decide) (by decide) ?_
      show Steps p.tables e below (s₁.setTop (mkF m 20 #[.val (.int p0), .val (.int ((p0 &&& (2147483647 : Int32)) - ((p0 &&& (2147483647 : Int32)) / (5 : Int32)) * (5 : Int32))), .unset, .unset] [])) _
      refine XS.iloadN X0.here hx rfl (hb hby at_20) rfl ?_
      show Steps p.tables e below (s₁.setTop (mkF m 21 #[.val (.int p0), .val (.int ((p0 &&& (2147483647 : Int32)) - ((p0 &&& (2147483647 : Int32)) / (5 : Int32)) * (5 : Int32))), .unset, .unset] [(.int ((p0 &&& (2147483647 : Int32)) - ((p0 &&& (2147483647 : Int32)) / (5 : Int32)) * (5 : Int32)))])) _
      refine XS.iconst X0.here hx rfl (hb hby at_21) ?_
      exact kt
    by_cases hc22 : ((p0 &&& (2147483647 : Int32)) - ((p0 &&& (2147483647 : Int32)) / (5 : Int32)) * (5 : Int32)) = (1 : Int32)
    ·
      obtain ⟨T5, X5, e5, st5⟩ := getS2 X0 hx hZ hown (host := "") (Or.inl (hw _ (List.mem_of_getElem? (i := 14) rfl))) Via.refl e0 S_ALLOWED_NOT_SEQUENTIALLY_CONSISTENT (g := (mkF m 25 #[.val (.int p0), .val (.int ((p0 &&& (2147483647 : Int32)) - ((p0 &&& (2147483647 : Int32)) / (5 : Int32)) * (5 : Int32))), .unset, .unset] [])) rfl (hb hby at_25)
      obtain ⟨cq6, kq6, q6a, q6b, q6c⟩ := isOf hZ e5 E_w_ALLOWED_NOT_SEQUENTIALLY_CONSISTENT
      obtain ⟨_, _, ⟨T6, L6, k6, n6⟩, -, X6, ⟨Lc6, hQ6, l6, y6, z6⟩, st6⟩ := X5.virtualBack hx (y := (⟨"com/example/happenstance/happenstance/model/Explanation$Verdict", "allowed", "()Z"⟩ : MethodName)) (z := (⟨"com/example/happenstance/happenstance/model/Explanation$Verdict", "allowed", "()Z"⟩ : MethodName)) hown (mvT hZ (hw _ (List.mem_of_getElem? (i := 4) rfl))) (mvT hZ (hw _ (List.mem_of_getElem? (i := 5) rfl))) (notFace_of_selects (args := #[]) (mvT hZ (hw _ (List.mem_of_getElem? (i := 7) rfl)))) (mvT hZ (hw _ (List.mem_of_getElem? (i := 7) rfl))) (mvT hZ (hw _ (List.mem_of_getElem? (i := 6) rfl))) (by decide) (backOf (W := 0) (rm1 l Z a0 hw [] w_ALLOWED_NOT_SEQUENTIALLY_CONSISTENT w_ALLOWED_SEQUENTIALLY_CONSISTENT w_ALLOWED_NOT_SEQUENTIALLY_CONSISTENT h0 n0 Zn S_ALLOWED_SEQUENTIALLY_CONSISTENT S_ALLOWED_NOT_SEQUENTIALLY_CONSISTENT) hZ (hw _ (List.mem_of_getElem? (i := 8) rfl)) (hw _ (List.mem_of_getElem? (i := 2) rfl)) (by decide) (by decide)) q6a q6c (g := (mkF m 69 #[.val (.int p0), .val (.int ((p0 &&& (2147483647 : Int32)) - ((p0 &&& (2147483647 : Int32)) / (5 : Int32)) * (5 : Int32))), .val (.ref w_ALLOWED_NOT_SEQUENTIALLY_CONSISTENT), .val (.int (1 : Int32))] [(.ref w_ALLOWED_NOT_SEQUENTIALLY_CONSISTENT)])) rfl (by rw [hml]; rfl) (Steps.refl _) (argsL := []) (rest := []) (lenOf pd_1 rfl) rfl (by show 2 * 0 + _ ≤ _; exact Nat.le_of_eq rfl) (hb hby at_69) (fun _ _ => ⟨rfl, e5, (by decide : 0 + 0 ≤ _), (by decide : 0 + 0 ≤ _)⟩)
      dsimp only [Pt.U, Pt.locs, Pt.cells, Pt.slots] at X6 l6 y6 z6 st6 hQ6
      subst l6 y6 z6
      obtain ⟨rfl, N6q, e6q⟩ := hQ6
      have N6 := Fr.app N0 N6q
      have e6 : T6.heap = h0 := e6q
      have hc73 : (own_allowed w_ALLOWED_NOT_SEQUENTIALLY_CONSISTENT w_ALLOWED_SEQUENTIALLY_CONSISTENT w_ALLOWED_NOT_SEQUENTIALLY_CONSISTENT) = (1 : Int32) := (by simp [own_allowed, (own_dis o_ALLOWED_NOT_SEQUENTIALLY_CONSISTENT o_ALLOWED_SEQUENTIALLY_CONSISTENT (by decide))])
      obtain ⟨fs, hr, hrun, hended, hW, hsame⟩ := X6.leave (v := some (.int (1 : Int32))) (fun h => by rw [Bd.returns] at h; cases h) hlk
      refine ⟨_, _, K4 _ ?_, hrun, hended, _, _, rfl, ?_, ⟨_, rfl⟩, hW, hsame.mono (by decide) (by decide)⟩
      ·
        show Steps p.tables e below (s₁.setTop (mkF m 22 #[.val (.int p0), .val (.int ((p0 &&& (2147483647 : Int32)) - ((p0 &&& (2147483647 : Int32)) / (5 : Int32)) * (5 : Int32))), .unset, .unset] [(.int (1 : Int32)), (.int ((p0 &&& (2147483647 : Int32)) - ((p0 &&& (2147483647 : Int32)) / (5 : Int32)) * (5 : Int32)))])) _
        refine XS.icmpNo X0.here hx rfl (hb hby at_22) rfl (teq hc22).2 ?_
        show Steps p.tables e below (s₁.setTop (mkF m 25 #[.val (.int p0), .val (.int ((p0 &&& (2147483647 : Int32)) - ((p0 &&& (2147483647 : Int32)) / (5 : Int32)) * (5 : Int32))), .unset, .unset] [])) _
        refine st5 _ ?_
        show Steps p.tables e below (T5.setTop (mkF m 28 #[.val (.int p0), .val (.int ((p0 &&& (2147483647 : Int32)) - ((p0 &&& (2147483647 : Int32)) / (5 : Int32)) * (5 : Int32))), .unset, .unset] [(.ref w_ALLOWED_NOT_SEQUENTIALLY_CONSISTENT)])) _
        refine XS.astoreN X5.here hx rfl (hb hby at_28) rfl rfl (l' := #[.val (.int p0), .val (.int ((p0 &&& (2147483647 : Int32)) - ((p0 &&& (2147483647 : Int32)) / (5 : Int32)) * (5 : Int32))), .val (.ref w_ALLOWED_NOT_SEQUENTIALLY_CONSISTENT), .unset]) rfl ?_
        show Steps p.tables e below (T5.setTop (mkF m 29 #[.val (.int p0), .val (.int ((p0 &&& (2147483647 : Int32)) - ((p0 &&& (2147483647 : Int32)) / (5 : Int32)) * (5 : Int32))), .val (.ref w_ALLOWED_NOT_SEQUENTIALLY_CONSISTENT), .unset] [])) _
        refine XS.iconst X5.here hx rfl (hb hby at_29) ?_
        show Steps p.tables e below (T5.setTop (mkF m 30 #[.val (.int p0), .val (.int ((p0 &&& (2147483647 : Int32)) - ((p0 &&& (2147483647 : Int32)) / (5 : Int32)) * (5 : Int32))), .val (.ref w_ALLOWED_NOT_SEQUENTIALLY_CONSISTENT), .unset] [(.int (1 : Int32))])) _
        refine XS.istoreN X5.here hx rfl (hb hby at_30) rfl (l' := #[.val (.int p0), .val (.int ((p0 &&& (2147483647 : Int32)) - ((p0 &&& (2147483647 : Int32)) / (5 : Int32)) * (5 : Int32))), .val (.ref w_ALLOWED_NOT_SEQUENTIALLY_CONSISTENT), .val (.int (1 : Int32))]) rfl ?_
        show Steps p.tables e below (T5.setTop (mkF m 31 #[.val (.int p0), .val (.int ((p0 &&& (2147483647 : Int32)) - ((p0 &&& (2147483647 : Int32)) / (5 : Int32)) * (5 : Int32))), .val (.ref w_ALLOWED_NOT_SEQUENTIALLY_CONSISTENT), .val (.int (1 : Int32))] [])) _
        refine XS.goto X5.here hx rfl (pc0 := 31) (pc' := 68) rfl (hb hby at_31) (by decide) (by decide) ?_
        show Steps p.tables e below (T5.setTop (mkF m 68 #[.val (.int p0), .val (.int ((p0 &&& (2147483647 : Int32)) - ((p0 &&& (2147483647 : Int32)) / (5 : Int32)) * (5 : Int32))), .val (.ref w_ALLOWED_NOT_SEQUENTIALLY_CONSISTENT), .val (.int (1 : Int32))] [])) _
        refine XS.aloadN X5.here hx rfl (hb hby at_68) rfl rfl ?_
        show Steps p.tables e below (T5.setTop (mkF m 69 #[.val (.int p0), .val (.int ((p0 &&& (2147483647 : Int32)) - ((p0 &&& (2147483647 : Int32)) / (5 : Int32)) * (5 : Int32))), .val (.ref w_ALLOWED_NOT_SEQUENTIALLY_CONSISTENT), .val (.int (1 : Int32))] [(.ref w_ALLOWED_NOT_SEQUENTIALLY_CONSISTENT)])) _
        refine st6.trans ?_
        show Steps p.tables e below (T6.setTop (mkF m 72 #[.val (.int p0), .val (.int ((p0 &&& (2147483647 : Int32)) - ((p0 &&& (2147483647 : Int32)) / (5 : Int32)) * (5 : Int32))), .val (.ref w_ALLOWED_NOT_SEQUENTIALLY_CONSISTENT), .val (.int (1 : Int32))] [(.int (own_allowed w_ALLOWED_NOT_SEQUENTIALLY_CONSISTENT w_ALLOWED_SEQUENTIALLY_CONSISTENT w_ALLOWED_NOT_SEQUENTIALLY_CONSISTENT))])) _
        refine XS.iloadN X6.here hx rfl (hb hby at_72) rfl ?_
        show Steps p.tables e below (T6.setTop (mkF m 73 #[.val (.int p0), .val (.int ((p0 &&& (2147483647 : Int32)) - ((p0 &&& (2147483647 : Int32)) / (5 : Int32)) * (5 : Int32))), .val (.ref w_ALLOWED_NOT_SEQUENTIALLY_CONSISTENT), .val (.int (1 : Int32))] [(.int (1 : Int32)), (.int (own_allowed w_ALLOWED_NOT_SEQUENTIALLY_CONSISTENT w_ALLOWED_SEQUENTIALLY_CONSISTENT w_ALLOWED_NOT_SEQUENTIALLY_CONSISTENT))])) _
        refine XS.icmpNo X6.here hx rfl (hb hby at_73) rfl (teq hc73).2 ?_
        show Steps p.tables e below (T6.setTop (mkF m 76 #[.val (.int p0), .val (.int ((p0 &&& (2147483647 : Int32)) - ((p0 &&& (2147483647 : Int32)) / (5 : Int32)) * (5 : Int32))), .val (.ref w_ALLOWED_NOT_SEQUENTIALLY_CONSISTENT), .val (.int (1 : Int32))] [])) _
        refine XS.iconst X6.here hx rfl (hb hby at_76) ?_
        show Steps p.tables e below (T6.setTop (mkF m 77 #[.val (.int p0), .val (.int ((p0 &&& (2147483647 : Int32)) - ((p0 &&& (2147483647 : Int32)) / (5 : Int32)) * (5 : Int32))), .val (.ref w_ALLOWED_NOT_SEQUENTIALLY_CONSISTENT), .val (.int (1 : Int32))] [(.int (1 : Int32))])) _
        refine XS.goto X6.here hx rfl (pc0 := 77) (pc' := 81) rfl (hb hby at_77) (by decide) (by decide) ?_
        show Steps p.tables e below (T6.setTop (mkF m 81 #[.val (.int p0), .val (.int ((p0 &&& (2147483647 : Int32)) - ((p0 &&& (2147483647 : Int32)) / (5 : Int32)) * (5 : Int32))), .val (.ref w_ALLOWED_NOT_SEQUENTIALLY_CONSISTENT), .val (.int (1 : Int32))] [(.int (1 : Int32))])) _
        exact retN X6 hx (t := .boolean) Bd.returns (by simp) (hb hby at_81) hr
      ·
        show Q_rm0 Z p0 w_ALLOWED_SEQUENTIALLY_CONSISTENT w_FORBIDDEN_NOT_HAPPENS_BEFORE_CONSISTENT w_ALLOWED_NOT_SEQUENTIALLY_CONSISTENT w_FORBIDDEN_NOT_JUSTIFIED w_FORBIDDEN_NOT_SEQUENTIALLY_CONSISTENT h0 n0 _ T6.heap _
        rw [e6]
        exact ⟨rfl, N6⟩
    ·
      have K7 : ∀ t, Steps p.tables e below (s₁.setTop (mkF m 36 #[.val (.int p0), .val (.int ((p0 &&& (2147483647 : Int32)) - ((p0 &&& (2147483647 : Int32)) / (5 : Int32)) * (5 : Int32))), .unset, .unset] [(.int (2 : Int32)), (.int ((p0 &&& (2147483647 : Int32)) - ((p0 &&& (2147483647 : Int32)) / (5 : Int32)) * (5 : Int32)))])) t → Steps p.tables e below (s₁.setTop (entryFrame m #[(.int p0)] maxLocals)) t := by
        intro t kt
        refine K4 t ?_
        show Steps p.tables e below (s₁.setTop (mkF m 22 #[.val (.int p0), .val (.int ((p0 &&& (2147483647 : Int32)) - ((p0 &&& (2147483647 : Int32)) / (5 : Int32)) * (5 : Int32))), .unset, .unset] [(.int (1 : Int32)), (.int ((p0 &&& (2147483647 : Int32)) - ((p0 &&& (2147483647 : Int32)) / (5 : Int32)) * (5 : Int32)))])) _
        refine XS.icmpYes X0.here hx rfl (pc0 := 22) (pc' := 34) rfl (hb hby at_22) rfl (feq hc22).2 (by decide) (by decide) ?_
        show Steps p.tables e below (s₁.setTop (mkF m 34 #[.val (.int p0), .val (.int ((p0 &&& (2147483647 : Int32)) - ((p0 &&& (2147483647 : Int32)) / (5 : Int32)) * (5 : Int32))), .unset, .unset] [])) _
        refine XS.iloadN X0.here hx rfl (hb hby at_34) rfl ?_
        show Steps p.tables e below (s₁.setTop (mkF m 35 #[.val (.int p0), .val (.int ((p0 &&& (2147483647 : Int32)) - ((p0 &&& (2147483647 : Int32)) / (5 : Int32)) * (5 : Int32))), .unset, .unset] [(.int ((p0 &&& (2147483647 : Int32)) - ((p0 &&& (2147483647 : Int32)) / (5 : Int32)) * (5 : Int32)))])) _
        refine XS.iconst X0.here hx rfl (hb hby at_35) ?_
        exact kt
      by_cases hc36 : ((p0 &&& (2147483647 : Int32)) - ((p0 &&& (2147483647 : Int32)) / (5 : Int32)) * (5 : Int32)) = (2 : Int32)
      ·
        obtain ⟨T8, X8, e8, st8⟩ := getS2 X0 hx hZ hown (host := "") (Or.inl (hw _ (List.mem_of_getElem? (i := 17) rfl))) Via.refl e0 S_FORBIDDEN_NOT_SEQUENTIALLY_CONSISTENT (g := (mkF m 39 #[.val (.int p0), .val (.int ((p0 &&& (2147483647 : Int32)) - ((p0 &&& (2147483647 : Int32)) / (5 : Int32)) * (5 : Int32))), .unset, .unset] [])) rfl (hb hby at_39)
        obtain ⟨cq9, kq9, q9a, q9b, q9c⟩ := isOf hZ e8 E_w_FORBIDDEN_NOT_SEQUENTIALLY_CONSISTENT
        obtain ⟨_, _, ⟨T9, L9, k9, n9⟩, -, X9, ⟨Lc9, hQ9, l9, y9, z9⟩, st9⟩ := X8.virtualBack hx (y := (⟨"com/example/happenstance/happenstance/model/Explanation$Verdict", "allowed", "()Z"⟩ : MethodName)) (z := (⟨"com/example/happenstance/happenstance/model/Explanation$Verdict", "allowed", "()Z"⟩ : MethodName)) hown (mvT hZ (hw _ (List.mem_of_getElem? (i := 4) rfl))) (mvT hZ (hw _ (List.mem_of_getElem? (i := 5) rfl))) (notFace_of_selects (args := #[]) (mvT hZ (hw _ (List.mem_of_getElem? (i := 7) rfl)))) (mvT hZ (hw _ (List.mem_of_getElem? (i := 7) rfl))) (mvT hZ (hw _ (List.mem_of_getElem? (i := 6) rfl))) (by decide) (backOf (W := 0) (rm1 l Z a0 hw [] w_FORBIDDEN_NOT_SEQUENTIALLY_CONSISTENT w_ALLOWED_SEQUENTIALLY_CONSISTENT w_ALLOWED_NOT_SEQUENTIALLY_CONSISTENT h0 n0 Zn S_ALLOWED_SEQUENTIALLY_CONSISTENT S_ALLOWED_NOT_SEQUENTIALLY_CONSISTENT) hZ (hw _ (List.mem_of_getElem? (i := 8) rfl)) (hw _ (List.mem_of_getElem? (i := 2) rfl)) (by decide) (by decide)) q9a q9c (g := (mkF m 69 #[.val (.int p0), .val (.int ((p0 &&& (2147483647 : Int32)) - ((p0 &&& (2147483647 : Int32)) / (5 : Int32)) * (5 : Int32))), .val (.ref w_FORBIDDEN_NOT_SEQUENTIALLY_CONSISTENT), .val (.int (0 : Int32))] [(.ref w_FORBIDDEN_NOT_SEQUENTIALLY_CONSISTENT)])) rfl (by rw [hml]; rfl) (Steps.refl _) (argsL := []) (rest := []) (lenOf pd_1 rfl) rfl (by show 2 * 0 + _ ≤ _; exact Nat.le_of_eq rfl) (hb hby at_69) (fun _ _ => ⟨rfl, e8, (by decide : 0 + 0 ≤ _), (by decide : 0 + 0 ≤ _)⟩)
        dsimp only [Pt.U, Pt.locs, Pt.cells, Pt.slots] at X9 l9 y9 z9 st9 hQ9
        subst l9 y9 z9
        obtain ⟨rfl, N9q, e9q⟩ := hQ9
        have N9 := Fr.app N0 N9q
        have e9 : T9.heap = h0 := e9q
        have hc73 : (own_allowed w_FORBIDDEN_NOT_SEQUENTIALLY_CONSISTENT w_ALLOWED_SEQUENTIALLY_CONSISTENT w_ALLOWED_NOT_SEQUENTIALLY_CONSISTENT) = (0 : Int32) := (by simp [own_allowed, (own_dis o_FORBIDDEN_NOT_SEQUENTIALLY_CONSISTENT o_ALLOWED_SEQUENTIALLY_CONSISTENT (by decide)), (own_dis o_FORBIDDEN_NOT_SEQUENTIALLY_CONSISTENT o_ALLOWED_NOT_SEQUENTIALLY_CONSISTENT (by decide))])
        obtain ⟨fs, hr, hrun, hended, hW, hsame⟩ := X9.leave (v := some (.int (1 : Int32))) (fun h => by rw [Bd.returns] at h; cases h) hlk
        refine ⟨_, _, K7 _ ?_, hrun, hended, _, _, rfl, ?_, ⟨_, rfl⟩, hW, hsame.mono (by decide) (by decide)⟩
        ·
          show Steps p.tables e below (s₁.setTop (mkF m 36 #[.val (.int p0), .val (.int ((p0 &&& (2147483647 : Int32)) - ((p0 &&& (2147483647 : Int32)) / (5 : Int32)) * (5 : Int32))), .unset, .unset] [(.int (2 : Int32)), (.int ((p0 &&& (2147483647 : Int32)) - ((p0 &&& (2147483647 : Int32)) / (5 : Int32)) * (5 : Int32)))])) _
          refine XS.icmpNo X0.here hx rfl (hb hby at_36) rfl (teq hc36).2 ?_
          show Steps p.tables e below (s₁.setTop (mkF m 39 #[.val (.int p0), .val (.int ((p0 &&& (2147483647 : Int32)) - ((p0 &&& (2147483647 : Int32)) / (5 : Int32)) * (5 : Int32))), .unset, .unset] [])) _
          refine st8 _ ?_
          show Steps p.tables e below (T8.setTop (mkF m 42 #[.val (.int p0), .val (.int ((p0 &&& (2147483647 : Int32)) - ((p0 &&& (2147483647 : Int32)) / (5 : Int32)) * (5 : Int32))), .unset, .unset] [(.ref w_FORBIDDEN_NOT_SEQUENTIALLY_CONSISTENT)])) _
          refine XS.astoreN X8.here hx rfl (hb hby at_42) rfl rfl (l' := #[.val (.int p0), .val (.int ((p0 &&& (2147483647 : Int32)) - ((p0 &&& (2147483647 : Int32)) / (5 : Int32)) * (5 : Int32))), .val (.ref w_FORBIDDEN_NOT_SEQUENTIALLY_CONSISTENT), .unset]) rfl ?_
          show Steps p.tables e below (T8.setTop (mkF m 43 #[.val (.int p0), .val (.int ((p0 &&& (2147483647 : Int32)) - ((p0 &&& (2147483647 : Int32)) / (5 : Int32)) * (5 : Int32))), .val (.ref w_FORBIDDEN_NOT_SEQUENTIALLY_CONSISTENT), .unset] [])) _
          refine XS.iconst X8.here hx rfl (hb hby at_43) ?_
          show Steps p.tables e below (T8.setTop (mkF m 44 #[.val (.int p0), .val (.int ((p0 &&& (2147483647 : Int32)) - ((p0 &&& (2147483647 : Int32)) / (5 : Int32)) * (5 : Int32))), .val (.ref w_FORBIDDEN_NOT_SEQUENTIALLY_CONSISTENT), .unset] [(.int (0 : Int32))])) _
          refine XS.istoreN X8.here hx rfl (hb hby at_44) rfl (l' := #[.val (.int p0), .val (.int ((p0 &&& (2147483647 : Int32)) - ((p0 &&& (2147483647 : Int32)) / (5 : Int32)) * (5 : Int32))), .val (.ref w_FORBIDDEN_NOT_SEQUENTIALLY_CONSISTENT), .val (.int (0 : Int32))]) rfl ?_
          show Steps p.tables e below (T8.setTop (mkF m 45 #[.val (.int p0), .val (.int ((p0 &&& (2147483647 : Int32)) - ((p0 &&& (2147483647 : Int32)) / (5 : Int32)) * (5 : Int32))), .val (.ref w_FORBIDDEN_NOT_SEQUENTIALLY_CONSISTENT), .val (.int (0 : Int32))] [])) _
          refine XS.goto X8.here hx rfl (pc0 := 45) (pc' := 68) rfl (hb hby at_45) (by decide) (by decide) ?_
          show Steps p.tables e below (T8.setTop (mkF m 68 #[.val (.int p0), .val (.int ((p0 &&& (2147483647 : Int32)) - ((p0 &&& (2147483647 : Int32)) / (5 : Int32)) * (5 : Int32))), .val (.ref w_FORBIDDEN_NOT_SEQUENTIALLY_CONSISTENT), .val (.int (0 : Int32))] [])) _
          refine XS.aloadN X8.here hx rfl (hb hby at_68) rfl rfl ?_
          show Steps p.tables e below (T8.setTop (mkF m 69 #[.val (.int p0), .val (.int ((p0 &&& (2147483647 : Int32)) - ((p0 &&& (2147483647 : Int32)) / (5 : Int32)) * (5 : Int32))), .val (.ref w_FORBIDDEN_NOT_SEQUENTIALLY_CONSISTENT), .val (.int (0 : Int32))] [(.ref w_FORBIDDEN_NOT_SEQUENTIALLY_CONSISTENT)])) _
          refine st9.trans ?_
          show Steps p.tables e below (T9.setTop (mkF m 72 #[.val (.int p0), .val (.int ((p0 &&& (2147483647 : Int32)) - ((p0 &&& (2147483647 : Int32)) / (5 : Int32)) * (5 : Int32))), .val (.ref w_FORBIDDEN_NOT_SEQUENTIALLY_CONSISTENT), .val (.int (0 : Int32))] [(.int (own_allowed w_FORBIDDEN_NOT_SEQUENTIALLY_CONSISTENT w_ALLOWED_SEQUENTIALLY_CONSISTENT w_ALLOWED_NOT_SEQUENTIALLY_CONSISTENT))])) _
          refine XS.iloadN X9.here hx rfl (hb hby at_72) rfl ?_
          show Steps p.tables e below (T9.setTop (mkF m 73 #[.val (.int p0), .val (.int ((p0 &&& (2147483647 : Int32)) - ((p0 &&& (2147483647 : Int32)) / (5 : Int32)) * (5 : Int32))), .val (.ref w_FORBIDDEN_NOT_SEQUENTIALLY_CONSISTENT), .val (.int (0 : Int32))] [(.int (0 : Int32)), (.int (own_allowed w_FORBIDDEN_NOT_SEQUENTIALLY_CONSISTENT w_ALLOWED_SEQUENTIALLY_CONSISTENT w_ALLOWED_NOT_SEQUENTIALLY_CONSISTENT))])) _
          refine XS.icmpNo X9.here hx rfl (hb hby at_73) rfl (teq hc73).2 ?_
          show Steps p.tables e below (T9.setTop (mkF m 76 #[.val (.int p0), .val (.int ((p0 &&& (2147483647 : Int32)) - ((p0 &&& (2147483647 : Int32)) / (5 : Int32)) * (5 : Int32))), .val (.ref w_FORBIDDEN_NOT_SEQUENTIALLY_CONSISTENT), .val (.int (0 : Int32))] [])) _
          refine XS.iconst X9.here hx rfl (hb hby at_76) ?_
          show Steps p.tables e below (T9.setTop (mkF m 77 #[.val (.int p0), .val (.int ((p0 &&& (2147483647 : Int32)) - ((p0 &&& (2147483647 : Int32)) / (5 : Int32)) * (5 : Int32))), .val (.ref w_FORBIDDEN_NOT_SEQUENTIALLY_CONSISTENT), .val (.int (0 : Int32))] [(.int (1 : Int32))])) _
          refine XS.goto X9.here hx rfl (pc0 := 77) (pc' := 81) rfl (hb hby at_77) (by decide) (by decide) ?_
          show Steps p.tables e below (T9.setTop (mkF m 81 #[.val (.int p0), .val (.int ((p0 &&& (2147483647 : Int32)) - ((p0 &&& (2147483647 : Int32)) / (5 : Int32)) * (5 : Int32))), .val (.ref w_FORBIDDEN_NOT_SEQUENTIALLY_CONSISTENT), .val (.int (0 : Int32))] [(.int (1 : Int32))])) _
          exact retN X9 hx (t := .boolean) Bd.returns (by simp) (hb hby at_81) hr
        ·
          show Q_rm0 Z p0 w_ALLOWED_SEQUENTIALLY_CONSISTENT w_FORBIDDEN_NOT_HAPPENS_BEFORE_CONSISTENT w_ALLOWED_NOT_SEQUENTIALLY_CONSISTENT w_FORBIDDEN_NOT_JUSTIFIED w_FORBIDDEN_NOT_SEQUENTIALLY_CONSISTENT h0 n0 _ T9.heap _
          rw [e9]
          exact ⟨rfl, N9⟩
      ·
        have K10 : ∀ t, Steps p.tables e below (s₁.setTop (mkF m 50 #[.val (.int p0), .val (.int ((p0 &&& (2147483647 : Int32)) - ((p0 &&& (2147483647 : Int32)) / (5 : Int32)) * (5 : Int32))), .unset, .unset] [(.int (3 : Int32)), (.int ((p0 &&& (2147483647 : Int32)) - ((p0 &&& (2147483647 : Int32)) / (5 : Int32)) * (5 : Int32)))])) t → Steps p.tables e below (s₁.setTop (entryFrame m #[(.int p0)] maxLocals)) t := by
          intro t kt
          refine K7 t ?_
          show Steps p.tables e below (s₁.setTop (mkF m 36 #[.val (.int p0), .val (.int ((p0 &&& (2147483647 : Int32)) - ((p0 &&& (2147483647 : Int32)) / (5 : Int32)) * (5 : Int32))), .unset, .unset] [(.int (2 : Int32)), (.int ((p0 &&& (2147483647 : Int32)) - ((p0 &&& (2147483647 : Int32)) / (5 : Int32)) * (5 : Int32)))])) _
          refine XS.icmpYes X0.here hx rfl (pc0 := 36) (pc' := 48) rfl (hb hby at_36) rfl (feq hc36).2 (by decide) (by decide) ?_
          show Steps p.tables e below (s₁.setTop (mkF m 48 #[.val (.int p0), .val (.int ((p0 &&& (2147483647 : Int32)) - ((p0 &&& (2147483647 : Int32)) / (5 : Int32)) * (5 : Int32))), .unset, .unset] [])) _
          refine XS.iloadN X0.here hx rfl (hb hby at_48) rfl ?_
          show Steps p.tables e below (s₁.setTop (mkF m 49 #[.val (.int p0), .val (.int ((p0 &&& (2147483647 : Int32)) - ((p0 &&& (2147483647 : Int32)) / (5 : Int32)) * (5 : Int32))), .unset, .unset] [(.int ((p0 &&& (2147483647 : Int32)) - ((p0 &&& (2147483647 : Int32)) / (5 : Int32)) * (5 : Int32)))])) _
          refine XS.iconst X0.here hx rfl (hb hby at_49) ?_
          exact kt
        by_cases hc50 : ((p0 &&& (2147483647 : Int32)) - ((p0 &&& (2147483647 : Int32)) / (5 : Int32)) * (5 : Int32)) = (3 : Int32)
        ·
          obtain ⟨T11, X11, e11, st11⟩ := getS2 X0 hx hZ hown (host := "") (Or.inl (hw _ (List.mem_of_getElem? (i := 10) rfl))) Via.refl e0 S_FORBIDDEN_NOT_HAPPENS_BEFORE_CONSISTENT (g := (mkF m 53 #[.val (.int p0), .val (.int ((p0 &&& (2147483647 : Int32)) - ((p0 &&& (2147483647 : Int32)) / (5 : Int32)) * (5 : Int32))), .unset, .unset] [])) rfl (hb hby at_53)
          obtain ⟨cq12, kq12, q12a, q12b, q12c⟩ := isOf hZ e11 E_w_FORBIDDEN_NOT_HAPPENS_BEFORE_CONSISTENT
          obtain ⟨_, _, ⟨T12, L12, k12, n12⟩, -, X12, ⟨Lc12, hQ12, l12, y12, z12⟩, st12⟩ := X11.virtualBack hx (y := (⟨"com/example/happenstance/happenstance/model/Explanation$Verdict", "allowed", "()Z"⟩ : MethodName)) (z := (⟨"com/example/happenstance/happenstance/model/Explanation$Verdict", "allowed", "()Z"⟩ : MethodName)) hown (mvT hZ (hw _ (List.mem_of_getElem? (i := 4) rfl))) (mvT hZ (hw _ (List.mem_of_getElem? (i := 5) rfl))) (notFace_of_selects (args := #[]) (mvT hZ (hw _ (List.mem_of_getElem? (i := 7) rfl)))) (mvT hZ (hw _ (List.mem_of_getElem? (i := 7) rfl))) (mvT hZ (hw _ (List.mem_of_getElem? (i := 6) rfl))) (by decide) (backOf (W := 0) (rm1 l Z a0 hw [] w_FORBIDDEN_NOT_HAPPENS_BEFORE_CONSISTENT w_ALLOWED_SEQUENTIALLY_CONSISTENT w_ALLOWED_NOT_SEQUENTIALLY_CONSISTENT h0 n0 Zn S_ALLOWED_SEQUENTIALLY_CONSISTENT S_ALLOWED_NOT_SEQUENTIALLY_CONSISTENT) hZ (hw _ (List.mem_of_getElem? (i := 8) rfl)) (hw _ (List.mem_of_getElem? (i := 2) rfl)) (by decide) (by decide)) q12a q12c (g := (mkF m 69 #[.val (.int p0), .val (.int ((p0 &&& (2147483647 : Int32)) - ((p0 &&& (2147483647 : Int32)) / (5 : Int32)) * (5 : Int32))), .val (.ref w_FORBIDDEN_NOT_HAPPENS_BEFORE_CONSISTENT), .val (.int (0 : Int32))] [(.ref w_FORBIDDEN_NOT_HAPPENS_BEFORE_CONSISTENT)])) rfl (by rw [hml]; rfl) (Steps.refl _) (argsL := []) (rest := []) (lenOf pd_1 rfl) rfl (by show 2 * 0 + _ ≤ _; exact Nat.le_of_eq rfl) (hb hby at_69) (fun _ _ => ⟨rfl, e11, (by decide : 0 + 0 ≤ _), (by decide : 0 + 0 ≤ _)⟩)
          dsimp only [Pt.U, Pt.locs, Pt.cells, Pt.slots] at X12 l12 y12 z12 st12 hQ12
          subst l12 y12 z12
          obtain ⟨rfl, N12q, e12q⟩ := hQ12
          have N12 := Fr.app N0 N12q
          have e12 : T12.heap = h0 := e12q
          have hc73 : (own_allowed w_FORBIDDEN_NOT_HAPPENS_BEFORE_CONSISTENT w_ALLOWED_SEQUENTIALLY_CONSISTENT w_ALLOWED_NOT_SEQUENTIALLY_CONSISTENT) = (0 : Int32) := (by simp [own_allowed, (own_dis o_FORBIDDEN_NOT_HAPPENS_BEFORE_CONSISTENT o_ALLOWED_SEQUENTIALLY_CONSISTENT (by decide)), (own_dis o_FORBIDDEN_NOT_HAPPENS_BEFORE_CONSISTENT o_ALLOWED_NOT_SEQUENTIALLY_CONSISTENT (by decide))])
          obtain ⟨fs, hr, hrun, hended, hW, hsame⟩ := X12.leave (v := some (.int (1 : Int32))) (fun h => by rw [Bd.returns] at h; cases h) hlk
          refine ⟨_, _, K10 _ ?_, hrun, hended, _, _, rfl, ?_, ⟨_, rfl⟩, hW, hsame.mono (by decide) (by decide)⟩
          ·
            show Steps p.tables e below (s₁.setTop (mkF m 50 #[.val (.int p0), .val (.int ((p0 &&& (2147483647 : Int32)) - ((p0 &&& (2147483647 : Int32)) / (5 : Int32)) * (5 : Int32))), .unset, .unset] [(.int (3 : Int32)), (.int ((p0 &&& (2147483647 : Int32)) - ((p0 &&& (2147483647 : Int32)) / (5 : Int32)) * (5 : Int32)))])) _
            refine XS.icmpNo X0.here hx rfl (hb hby at_50) rfl (teq hc50).2 ?_
            show Steps p.tables e below (s₁.setTop (mkF m 53 #[.val (.int p0), .val (.int ((p0 &&& (2147483647 : Int32)) - ((p0 &&& (2147483647 : Int32)) / (5 : Int32)) * (5 : Int32))), .unset, .unset] [])) _
            refine st11 _ ?_
            show Steps p.tables e below (T11.setTop (mkF m 56 #[.val (.int p0), .val (.int ((p0 &&& (2147483647 : Int32)) - ((p0 &&& (2147483647 : Int32)) / (5 : Int32)) * (5 : Int32))), .unset, .unset] [(.ref w_FORBIDDEN_NOT_HAPPENS_BEFORE_CONSISTENT)])) _
            refine XS.astoreN X11.here hx rfl (hb hby at_56) rfl rfl (l' := #[.val (.int p0), .val (.int ((p0 &&& (2147483647 : Int32)) - ((p0 &&& (2147483647 : Int32)) / (5 : Int32)) * (5 : Int32))), .val (.ref w_FORBIDDEN_NOT_HAPPENS_BEFORE_CONSISTENT), .unset]) rfl ?_
            show Steps p.tables e below (T11.setTop (mkF m 57 #[.val (.int p0), .val (.int ((p0 &&& (2147483647 : Int32)) - ((p0 &&& (2147483647 : Int32)) / (5 : Int32)) * (5 : Int32))), .val (.ref w_FORBIDDEN_NOT_HAPPENS_BEFORE_CONSISTENT), .unset] [])) _
            refine XS.iconst X11.here hx rfl (hb hby at_57) ?_
            show Steps p.tables e below (T11.setTop (mkF m 58 #[.val (.int p0), .val (.int ((p0 &&& (2147483647 : Int32)) - ((p0 &&& (2147483647 : Int32)) / (5 : Int32)) * (5 : Int32))), .val (.ref w_FORBIDDEN_NOT_HAPPENS_BEFORE_CONSISTENT), .unset] [(.int (0 : Int32))])) _
            refine XS.istoreN X11.here hx rfl (hb hby at_58) rfl (l' := #[.val (.int p0), .val (.int ((p0 &&& (2147483647 : Int32)) - ((p0 &&& (2147483647 : Int32)) / (5 : Int32)) * (5 : Int32))), .val (.ref w_FORBIDDEN_NOT_HAPPENS_BEFORE_CONSISTENT), .val (.int (0 : Int32))]) rfl ?_
            show Steps p.tables e below (T11.setTop (mkF m 59 #[.val (.int p0), .val (.int ((p0 &&& (2147483647 : Int32)) - ((p0 &&& (2147483647 : Int32)) / (5 : Int32)) * (5 : Int32))), .val (.ref w_FORBIDDEN_NOT_HAPPENS_BEFORE_CONSISTENT), .val (.int (0 : Int32))] [])) _
            refine XS.goto X11.here hx rfl (pc0 := 59) (pc' := 68) rfl (hb hby at_59) (by decide) (by decide) ?_
            show Steps p.tables e below (T11.setTop (mkF m 68 #[.val (.int p0), .val (.int ((p0 &&& (2147483647 : Int32)) - ((p0 &&& (2147483647 : Int32)) / (5 : Int32)) * (5 : Int32))), .val (.ref w_FORBIDDEN_NOT_HAPPENS_BEFORE_CONSISTENT), .val (.int (0 : Int32))] [])) _
            refine XS.aloadN X11.here hx rfl (hb hby at_68) rfl rfl ?_
            show Steps p.tables e below (T11.setTop (mkF m 69 #[.val (.int p0), .val (.int ((p0 &&& (2147483647 : Int32)) - ((p0 &&& (2147483647 : Int32)) / (5 : Int32)) * (5 : Int32))), .val (.ref w_FORBIDDEN_NOT_HAPPENS_BEFORE_CONSISTENT), .val (.int (0 : Int32))] [(.ref w_FORBIDDEN_NOT_HAPPENS_BEFORE_CONSISTENT)])) _
            refine st12.trans ?_
            show Steps p.tables e below (T12.setTop (mkF m 72 #[.val (.int p0), .val (.int ((p0 &&& (2147483647 : Int32)) - ((p0 &&& (2147483647 : Int32)) / (5 : Int32)) * (5 : Int32))), .val (.ref w_FORBIDDEN_NOT_HAPPENS_BEFORE_CONSISTENT), .val (.int (0 : Int32))] [(.int (own_allowed w_FORBIDDEN_NOT_HAPPENS_BEFORE_CONSISTENT w_ALLOWED_SEQUENTIALLY_CONSISTENT w_ALLOWED_NOT_SEQUENTIALLY_CONSISTENT))])) _
            refine XS.iloadN X12.here hx rfl (hb hby at_72) rfl ?_
            show Steps p.tables e below (T12.setTop (mkF m 73 #[.val (.int p0), .val (.int ((p0 &&& (2147483647 : Int32)) - ((p0 &&& (2147483647 : Int32)) / (5 : Int32)) * (5 : Int32))), .val (.ref w_FORBIDDEN_NOT_HAPPENS_BEFORE_CONSISTENT), .val (.int (0 : Int32))] [(.int (0 : Int32)), (.int (own_allowed w_FORBIDDEN_NOT_HAPPENS_BEFORE_CONSISTENT w_ALLOWED_SEQUENTIALLY_CONSISTENT w_ALLOWED_NOT_SEQUENTIALLY_CONSISTENT))])) _
            refine XS.icmpNo X12.here hx rfl (hb hby at_73) rfl (teq hc73).2 ?_
            show Steps p.tables e below (T12.setTop (mkF m 76 #[.val (.int p0), .val (.int ((p0 &&& (2147483647 : Int32)) - ((p0 &&& (2147483647 : Int32)) / (5 : Int32)) * (5 : Int32))), .val (.ref w_FORBIDDEN_NOT_HAPPENS_BEFORE_CONSISTENT), .val (.int (0 : Int32))] [])) _
            refine XS.iconst X12.here hx rfl (hb hby at_76) ?_
            show Steps p.tables e below (T12.setTop (mkF m 77 #[.val (.int p0), .val (.int ((p0 &&& (2147483647 : Int32)) - ((p0 &&& (2147483647 : Int32)) / (5 : Int32)) * (5 : Int32))), .val (.ref w_FORBIDDEN_NOT_HAPPENS_BEFORE_CONSISTENT), .val (.int (0 : Int32))] [(.int (1 : Int32))])) _
            refine XS.goto X12.here hx rfl (pc0 := 77) (pc' := 81) rfl (hb hby at_77) (by decide) (by decide) ?_
            show Steps p.tables e below (T12.setTop (mkF m 81 #[.val (.int p0), .val (.int ((p0 &&& (2147483647 : Int32)) - ((p0 &&& (2147483647 : Int32)) / (5 : Int32)) * (5 : Int32))), .val (.ref w_FORBIDDEN_NOT_HAPPENS_BEFORE_CONSISTENT), .val (.int (0 : Int32))] [(.int (1 : Int32))])) _
            exact retN X12 hx (t := .boolean) Bd.returns (by simp) (hb hby at_81) hr
          ·
            show Q_rm0 Z p0 w_ALLOWED_SEQUENTIALLY_CONSISTENT w_FORBIDDEN_NOT_HAPPENS_BEFORE_CONSISTENT w_ALLOWED_NOT_SEQUENTIALLY_CONSISTENT w_FORBIDDEN_NOT_JUSTIFIED w_FORBIDDEN_NOT_SEQUENTIALLY_CONSISTENT h0 n0 _ T12.heap _
            rw [e12]
            exact ⟨rfl, N12⟩
        ·
          obtain ⟨T13, X13, e13, st13⟩ := getS2 X0 hx hZ hown (host := "") (Or.inl (hw _ (List.mem_of_getElem? (i := 15) rfl))) Via.refl e0 S_FORBIDDEN_NOT_JUSTIFIED (g := (mkF m 62 #[.val (.int p0), .val (.int ((p0 &&& (2147483647 : Int32)) - ((p0 &&& (2147483647 : Int32)) / (5 : Int32)) * (5 : Int32))), .unset, .unset] [])) rfl (hb hby at_62)
          obtain ⟨cq14, kq14, q14a, q14b, q14c⟩ := isOf hZ e13 E_w_FORBIDDEN_NOT_JUSTIFIED
          obtain ⟨_, _, ⟨T14, L14, k14, n14⟩, -, X14, ⟨Lc14, hQ14, l14, y14, z14⟩, st14⟩ := X13.virtualBack hx (y := (⟨"com/example/happenstance/happenstance/model/Explanation$Verdict", "allowed", "()Z"⟩ : MethodName)) (z := (⟨"com/example/happenstance/happenstance/model/Explanation$Verdict", "allowed", "()Z"⟩ : MethodName)) hown (mvT hZ (hw _ (List.mem_of_getElem? (i := 4) rfl))) (mvT hZ (hw _ (List.mem_of_getElem? (i := 5) rfl))) (notFace_of_selects (args := #[]) (mvT hZ (hw _ (List.mem_of_getElem? (i := 7) rfl)))) (mvT hZ (hw _ (List.mem_of_getElem? (i := 7) rfl))) (mvT hZ (hw _ (List.mem_of_getElem? (i := 6) rfl))) (by decide) (backOf (W := 0) (rm1 l Z a0 hw [] w_FORBIDDEN_NOT_JUSTIFIED w_ALLOWED_SEQUENTIALLY_CONSISTENT w_ALLOWED_NOT_SEQUENTIALLY_CONSISTENT h0 n0 Zn S_ALLOWED_SEQUENTIALLY_CONSISTENT S_ALLOWED_NOT_SEQUENTIALLY_CONSISTENT) hZ (hw _ (List.mem_of_getElem? (i := 8) rfl)) (hw _ (List.mem_of_getElem? (i := 2) rfl)) (by decide) (by decide)) q14a q14c (g := (mkF m 69 #[.val (.int p0), .val (.int ((p0 &&& (2147483647 : Int32)) - ((p0 &&& (2147483647 : Int32)) / (5 : Int32)) * (5 : Int32))), .val (.ref w_FORBIDDEN_NOT_JUSTIFIED), .val (.int (0 : Int32))] [(.ref w_FORBIDDEN_NOT_JUSTIFIED)])) rfl (by rw [hml]; rfl) (Steps.refl _) (argsL := []) (rest := []) (lenOf pd_1 rfl) rfl (by show 2 * 0 + _ ≤ _; exact Nat.le_of_eq rfl) (hb hby at_69) (fun _ _ => ⟨rfl, e13, (by decide : 0 + 0 ≤ _), (by decide : 0 + 0 ≤ _)⟩)
          dsimp only [Pt.U, Pt.locs, Pt.cells, Pt.slots] at X14 l14 y14 z14 st14 hQ14
          subst l14 y14 z14
          obtain ⟨rfl, N14q, e14q⟩ := hQ14
          have N14 := Fr.app N0 N14q
          have e14 : T14.heap = h0 := e14q
          have hc73 : (own_allowed w_FORBIDDEN_NOT_JUSTIFIED w_ALLOWED_SEQUENTIALLY_CONSISTENT w_ALLOWED_NOT_SEQUENTIALLY_CONSISTENT) = (0 : Int32) := (by simp [own_allowed, (own_dis o_FORBIDDEN_NOT_JUSTIFIED o_ALLOWED_SEQUENTIALLY_CONSISTENT (by decide)), (own_dis o_FORBIDDEN_NOT_JUSTIFIED o_ALLOWED_NOT_SEQUENTIALLY_CONSISTENT (by decide))])
          obtain ⟨fs, hr, hrun, hended, hW, hsame⟩ := X14.leave (v := some (.int (1 : Int32))) (fun h => by rw [Bd.returns] at h; cases h) hlk
          refine ⟨_, _, K10 _ ?_, hrun, hended, _, _, rfl, ?_, ⟨_, rfl⟩, hW, hsame.mono (by decide) (by decide)⟩
          ·
            show Steps p.tables e below (s₁.setTop (mkF m 50 #[.val (.int p0), .val (.int ((p0 &&& (2147483647 : Int32)) - ((p0 &&& (2147483647 : Int32)) / (5 : Int32)) * (5 : Int32))), .unset, .unset] [(.int (3 : Int32)), (.int ((p0 &&& (2147483647 : Int32)) - ((p0 &&& (2147483647 : Int32)) / (5 : Int32)) * (5 : Int32)))])) _
            refine XS.icmpYes X0.here hx rfl (pc0 := 50) (pc' := 62) rfl (hb hby at_50) rfl (feq hc50).2 (by decide) (by decide) ?_
            show Steps p.tables e below (s₁.setTop (mkF m 62 #[.val (.int p0), .val (.int ((p0 &&& (2147483647 : Int32)) - ((p0 &&& (2147483647 : Int32)) / (5 : Int32)) * (5 : Int32))), .unset, .unset] [])) _
            refine st13 _ ?_
            show Steps p.tables e below (T13.setTop (mkF m 65 #[.val (.int p0), .val (.int ((p0 &&& (2147483647 : Int32)) - ((p0 &&& (2147483647 : Int32)) / (5 : Int32)) * (5 : Int32))), .unset, .unset] [(.ref w_FORBIDDEN_NOT_JUSTIFIED)])) _
            refine XS.astoreN X13.here hx rfl (hb hby at_65) rfl rfl (l' := #[.val (.int p0), .val (.int ((p0 &&& (2147483647 : Int32)) - ((p0 &&& (2147483647 : Int32)) / (5 : Int32)) * (5 : Int32))), .val (.ref w_FORBIDDEN_NOT_JUSTIFIED), .unset]) rfl ?_
            show Steps p.tables e below (T13.setTop (mkF m 66 #[.val (.int p0), .val (.int ((p0 &&& (2147483647 : Int32)) - ((p0 &&& (2147483647 : Int32)) / (5 : Int32)) * (5 : Int32))), .val (.ref w_FORBIDDEN_NOT_JUSTIFIED), .unset] [])) _
            refine XS.iconst X13.here hx rfl (hb hby at_66) ?_
            show Steps p.tables e below (T13.setTop (mkF m 67 #[.val (.int p0), .val (.int ((p0 &&& (2147483647 : Int32)) - ((p0 &&& (2147483647 : Int32)) / (5 : Int32)) * (5 : Int32))), .val (.ref w_FORBIDDEN_NOT_JUSTIFIED), .unset] [(.int (0 : Int32))])) _
            refine XS.istoreN X13.here hx rfl (hb hby at_67) rfl (l' := #[.val (.int p0), .val (.int ((p0 &&& (2147483647 : Int32)) - ((p0 &&& (2147483647 : Int32)) / (5 : Int32)) * (5 : Int32))), .val (.ref w_FORBIDDEN_NOT_JUSTIFIED), .val (.int (0 : Int32))]) rfl ?_
            show Steps p.tables e below (T13.setTop (mkF m 68 #[.val (.int p0), .val (.int ((p0 &&& (2147483647 : Int32)) - ((p0 &&& (2147483647 : Int32)) / (5 : Int32)) * (5 : Int32))), .val (.ref w_FORBIDDEN_NOT_JUSTIFIED), .val (.int (0 : Int32))] [])) _
            refine XS.aloadN X13.here hx rfl (hb hby at_68) rfl rfl ?_
            show Steps p.tables e below (T13.setTop (mkF m 69 #[.val (.int p0), .val (.int ((p0 &&& (2147483647 : Int32)) - ((p0 &&& (2147483647 : Int32)) / (5 : Int32)) * (5 : Int32))), .val (.ref w_FORBIDDEN_NOT_JUSTIFIED), .val (.int (0 : Int32))] [(.ref w_FORBIDDEN_NOT_JUSTIFIED)])) _
            refine st14.trans ?_
            show Steps p.tables e below (T14.setTop (mkF m 72 #[.val (.int p0), .val (.int ((p0 &&& (2147483647 : Int32)) - ((p0 &&& (2147483647 : Int32)) / (5 : Int32)) * (5 : Int32))), .val (.ref w_FORBIDDEN_NOT_JUSTIFIED), .val (.int (0 : Int32))] [(.int (own_allowed w_FORBIDDEN_NOT_JUSTIFIED w_ALLOWED_SEQUENTIALLY_CONSISTENT w_ALLOWED_NOT_SEQUENTIALLY_CONSISTENT))])) _
            refine XS.iloadN X14.here hx rfl (hb hby at_72) rfl ?_
            show Steps p.tables e below (T14.setTop (mkF m 73 #[.val (.int p0), .val (.int ((p0 &&& (2147483647 : Int32)) - ((p0 &&& (2147483647 : Int32)) / (5 : Int32)) * (5 : Int32))), .val (.ref w_FORBIDDEN_NOT_JUSTIFIED), .val (.int (0 : Int32))] [(.int (0 : Int32)), (.int (own_allowed w_FORBIDDEN_NOT_JUSTIFIED w_ALLOWED_SEQUENTIALLY_CONSISTENT w_ALLOWED_NOT_SEQUENTIALLY_CONSISTENT))])) _
            refine XS.icmpNo X14.here hx rfl (hb hby at_73) rfl (teq hc73).2 ?_
            show Steps p.tables e below (T14.setTop (mkF m 76 #[.val (.int p0), .val (.int ((p0 &&& (2147483647 : Int32)) - ((p0 &&& (2147483647 : Int32)) / (5 : Int32)) * (5 : Int32))), .val (.ref w_FORBIDDEN_NOT_JUSTIFIED), .val (.int (0 : Int32))] [])) _
            refine XS.iconst X14.here hx rfl (hb hby at_76) ?_
            show Steps p.tables e below (T14.setTop (mkF m 77 #[.val (.int p0), .val (.int ((p0 &&& (2147483647 : Int32)) - ((p0 &&& (2147483647 : Int32)) / (5 : Int32)) * (5 : Int32))), .val (.ref w_FORBIDDEN_NOT_JUSTIFIED), .val (.int (0 : Int32))] [(.int (1 : Int32))])) _
            refine XS.goto X14.here hx rfl (pc0 := 77) (pc' := 81) rfl (hb hby at_77) (by decide) (by decide) ?_
            show Steps p.tables e below (T14.setTop (mkF m 81 #[.val (.int p0), .val (.int ((p0 &&& (2147483647 : Int32)) - ((p0 &&& (2147483647 : Int32)) / (5 : Int32)) * (5 : Int32))), .val (.ref w_FORBIDDEN_NOT_JUSTIFIED), .val (.int (0 : Int32))] [(.int (1 : Int32))])) _
            exact retN X14 hx (t := .boolean) Bd.returns (by simp) (hb hby at_81) hr
          ·
            show Q_rm0 Z p0 w_ALLOWED_SEQUENTIALLY_CONSISTENT w_FORBIDDEN_NOT_HAPPENS_BEFORE_CONSISTENT w_ALLOWED_NOT_SEQUENTIALLY_CONSISTENT w_FORBIDDEN_NOT_JUSTIFIED w_FORBIDDEN_NOT_SEQUENTIALLY_CONSISTENT h0 n0 _ T14.heap _
            rw [e14]
            exact ⟨rfl, N14⟩
set_option maxRecDepth 65536 in
set_option maxHeartbeats 40000000 in
theorem comes_1 {Post : Tables → Env → Array Value → State → Outcome → State → Prop} (hpost : ∀ tb e args s v u, (limb_1_1.after args s (.returned v) u = true ∧ limb_1_2.after args s (.returned v) u = true ∧ True) → FrameEnd s (.returned v) u (Jvm.fieldLocs frame_1_writes args s ++ Jvm.arrayLocs frame_1_arrays args s ++ Jvm.staticLocs frame_1_statics s) 0 0 → Post tb e args s (.returned v) u) :
    ArmFor flags0 classFile x code maxLocals ret World_1 tables_1 room_1 Calls_1 rest_1 Pre_1 Post := by
  intro l hfl _ _ p e ha hc hk s m args below hf hA hF happ hP
  obtain ⟨hcalls, hrest, hpre⟩ := hP
  obtain ⟨-, -, -, hnamed, -, -, -, hat⟩ := (Spec.applies_iff hf).mp happ
  obtain ⟨hg, hn⟩ := and_e (Cond.before_iff.mp (show (Jvm.Cond.and given_1 narrow_1).before args s = true from hpre))
  obtain ⟨hg0, hg⟩ := and_e hg
  have ga0 := hg
  obtain ⟨w0, rfl⟩ : ∃ w0 : Value, args = #[w0] := by
    have hs : args.size = 1 := by simpa [Cond.value, given_1] using hg0
    obtain ⟨L⟩ := args
    match L, hs with
    | [w0], _ => exact ⟨w0, rfl⟩
  have hw := fun d (hd : d ∈ tables_1) => atoms_spec (ws := Jvm.Cond.code x code maxLocals ret :: tables_1) hat d (List.mem_cons_of_mem _ hd)
  have hfit : Fit s := fun {y c} hc i hi => by
    obtain ⟨ha, rfl⟩ := Array.getElem?_eq_some_iff.mp hc
    have q := List.all_eq_true.mp ((Array.all_eq_true_iff_forall_mem.mp hF) _ (Array.getElem_mem ha)) i (List.mem_range.mpr hi)
    simpa [Array.getElem?_eq_getElem hi] using q
  obtain ⟨i0, ei0⟩ := is_v ga0
  obtain rfl : w0 = (.int i0) := Option.some.inj ei0
  obtain ⟨cn0, hn⟩ := and_e hn
  obtain ⟨cn1, hn⟩ := and_e hn
  obtain ⟨cn2, hn⟩ := and_e hn
  obtain ⟨cn3, hn⟩ := and_e hn
  obtain ⟨cn4, hn⟩ := and_e hn
  obtain ⟨cn5, hn⟩ := and_e hn
  obtain ⟨cn6, hn⟩ := and_e hn
  obtain ⟨cn7, hn⟩ := and_e hn
  obtain ⟨cn8, hn⟩ := and_e hn
  have cn9 := hn
  obtain ⟨w_ALLOWED_SEQUENTIALLY_CONSISTENT, ev_ALLOWED_SEQUENTIALLY_CONSISTENT⟩ := exa_v cn0
  have S_ALLOWED_SEQUENTIALLY_CONSISTENT : Sta s s.heap "com/example/happenstance/happenstance/model/Explanation$Verdict" "ALLOWED_SEQUENTIALLY_CONSISTENT" "Lcom/example/happenstance/happenstance/model/Explanation$Verdict;" (.ref w_ALLOWED_SEQUENTIALLY_CONSISTENT) := Sta.start ev_ALLOWED_SEQUENTIALLY_CONSISTENT (Or.inr ⟨(hw _ (List.mem_of_getElem? (i := 2) rfl)), (hw _ (List.mem_of_getElem? (i := 3) rfl))⟩)
  have E_w_ALLOWED_SEQUENTIALLY_CONSISTENT : Exa s s.heap w_ALLOWED_SEQUENTIALLY_CONSISTENT "com/example/happenstance/happenstance/model/Explanation$Verdict" := Exa.start ev_ALLOWED_SEQUENTIALLY_CONSISTENT cn0
  obtain ⟨w_FORBIDDEN_NOT_HAPPENS_BEFORE_CONSISTENT, ev_FORBIDDEN_NOT_HAPPENS_BEFORE_CONSISTENT⟩ := exa_v cn1
  have S_FORBIDDEN_NOT_HAPPENS_BEFORE_CONSISTENT : Sta s s.heap "com/example/happenstance/happenstance/model/Explanation$Verdict" "FORBIDDEN_NOT_HAPPENS_BEFORE_CONSISTENT" "Lcom/example/happenstance/happenstance/model/Explanation$Verdict;" (.ref w_FORBIDDEN_NOT_HAPPENS_BEFORE_CONSISTENT) := Sta.start ev_FORBIDDEN_NOT_HAPPENS_BEFORE_CONSISTENT (Or.inr ⟨(hw _ (List.mem_of_getElem? (i := 2) rfl)), (hw _ (List.mem_of_getElem? (i := 11) rfl))⟩)
  have E_w_FORBIDDEN_NOT_HAPPENS_BEFORE_CONSISTENT : Exa s s.heap w_FORBIDDEN_NOT_HAPPENS_BEFORE_CONSISTENT "com/example/happenstance/happenstance/model/Explanation$Verdict" := Exa.start ev_FORBIDDEN_NOT_HAPPENS_BEFORE_CONSISTENT cn1
  obtain ⟨w_ALLOWED_NOT_SEQUENTIALLY_CONSISTENT, ev_ALLOWED_NOT_SEQUENTIALLY_CONSISTENT⟩ := exa_v cn4
  have S_ALLOWED_NOT_SEQUENTIALLY_CONSISTENT : Sta s s.heap "com/example/happenstance/happenstance/model/Explanation$Verdict" "ALLOWED_NOT_SEQUENTIALLY_CONSISTENT" "Lcom/example/happenstance/happenstance/model/Explanation$Verdict;" (.ref w_ALLOWED_NOT_SEQUENTIALLY_CONSISTENT) := Sta.start ev_ALLOWED_NOT_SEQUENTIALLY_CONSISTENT (Or.inr ⟨(hw _ (List.mem_of_getElem? (i := 2) rfl)), (hw _ (List.mem_of_getElem? (i := 13) rfl))⟩)
  have E_w_ALLOWED_NOT_SEQUENTIALLY_CONSISTENT : Exa s s.heap w_ALLOWED_NOT_SEQUENTIALLY_CONSISTENT "com/example/happenstance/happenstance/model/Explanation$Verdict" := Exa.start ev_ALLOWED_NOT_SEQUENTIALLY_CONSISTENT cn4
  obtain ⟨w_FORBIDDEN_NOT_JUSTIFIED, ev_FORBIDDEN_NOT_JUSTIFIED⟩ := exa_v cn6
  have S_FORBIDDEN_NOT_JUSTIFIED : Sta s s.heap "com/example/happenstance/happenstance/model/Explanation$Verdict" "FORBIDDEN_NOT_JUSTIFIED" "Lcom/example/happenstance/happenstance/model/Explanation$Verdict;" (.ref w_FORBIDDEN_NOT_JUSTIFIED) := Sta.start ev_FORBIDDEN_NOT_JUSTIFIED (Or.inr ⟨(hw _ (List.mem_of_getElem? (i := 2) rfl)), (hw _ (List.mem_of_getElem? (i := 16) rfl))⟩)
  have E_w_FORBIDDEN_NOT_JUSTIFIED : Exa s s.heap w_FORBIDDEN_NOT_JUSTIFIED "com/example/happenstance/happenstance/model/Explanation$Verdict" := Exa.start ev_FORBIDDEN_NOT_JUSTIFIED cn6
  obtain ⟨w_FORBIDDEN_NOT_SEQUENTIALLY_CONSISTENT, ev_FORBIDDEN_NOT_SEQUENTIALLY_CONSISTENT⟩ := exa_v cn8
  have S_FORBIDDEN_NOT_SEQUENTIALLY_CONSISTENT : Sta s s.heap "com/example/happenstance/happenstance/model/Explanation$Verdict" "FORBIDDEN_NOT_SEQUENTIALLY_CONSISTENT" "Lcom/example/happenstance/happenstance/model/Explanation$Verdict;" (.ref w_FORBIDDEN_NOT_SEQUENTIALLY_CONSISTENT) := Sta.start ev_FORBIDDEN_NOT_SEQUENTIALLY_CONSISTENT (Or.inr ⟨(hw _ (List.mem_of_getElem? (i := 2) rfl)), (hw _ (List.mem_of_getElem? (i := 18) rfl))⟩)
  have E_w_FORBIDDEN_NOT_SEQUENTIALLY_CONSISTENT : Exa s s.heap w_FORBIDDEN_NOT_SEQUENTIALLY_CONSISTENT "com/example/happenstance/happenstance/model/Explanation$Verdict" := Exa.start ev_FORBIDDEN_NOT_SEQUENTIALLY_CONSISTENT cn8
  have q_FORBIDDEN_NOT_HAPPENS_BEFORE_CONSISTENT := (fld_at ev_FORBIDDEN_NOT_HAPPENS_BEFORE_CONSISTENT).symm.trans (own_eqv cn2)
  have o_FORBIDDEN_NOT_HAPPENS_BEFORE_CONSISTENT := own_ordv q_FORBIDDEN_NOT_HAPPENS_BEFORE_CONSISTENT
  have q_ALLOWED_SEQUENTIALLY_CONSISTENT := (fld_at ev_ALLOWED_SEQUENTIALLY_CONSISTENT).symm.trans (own_eqv cn3)
  have o_ALLOWED_SEQUENTIALLY_CONSISTENT := own_ordv q_ALLOWED_SEQUENTIALLY_CONSISTENT
  have q_ALLOWED_NOT_SEQUENTIALLY_CONSISTENT := (fld_at ev_ALLOWED_NOT_SEQUENTIALLY_CONSISTENT).symm.trans (own_eqv cn5)
  have o_ALLOWED_NOT_SEQUENTIALLY_CONSISTENT := own_ordv q_ALLOWED_NOT_SEQUENTIALLY_CONSISTENT
  have q_FORBIDDEN_NOT_JUSTIFIED := (fld_at ev_FORBIDDEN_NOT_JUSTIFIED).symm.trans (own_eqv cn7)
  have o_FORBIDDEN_NOT_JUSTIFIED := own_ordv q_FORBIDDEN_NOT_JUSTIFIED
  have q_FORBIDDEN_NOT_SEQUENTIALLY_CONSISTENT := (fld_at ev_FORBIDDEN_NOT_SEQUENTIALLY_CONSISTENT).symm.trans (own_eqv cn9)
  have o_FORBIDDEN_NOT_SEQUENTIALLY_CONSISTENT := own_ordv q_FORBIDDEN_NOT_SEQUENTIALLY_CONSISTENT
  obtain ⟨n, o, h1, h2, h3, _, L, rfl, ⟨rfl, N⟩, hq⟩ := rm0 l s _ hw tables_1 i0 w_ALLOWED_SEQUENTIALLY_CONSISTENT w_FORBIDDEN_NOT_HAPPENS_BEFORE_CONSISTENT w_ALLOWED_NOT_SEQUENTIALLY_CONSISTENT w_FORBIDDEN_NOT_JUSTIFIED w_FORBIDDEN_NOT_SEQUENTIALLY_CONSISTENT s.heap s.heap.size (Nat.le_refl _) S_ALLOWED_SEQUENTIALLY_CONSISTENT S_FORBIDDEN_NOT_HAPPENS_BEFORE_CONSISTENT S_ALLOWED_NOT_SEQUENTIALLY_CONSISTENT S_FORBIDDEN_NOT_JUSTIFIED S_FORBIDDEN_NOT_SEQUENTIALLY_CONSISTENT E_w_ALLOWED_SEQUENTIALLY_CONSISTENT E_w_FORBIDDEN_NOT_HAPPENS_BEFORE_CONSISTENT E_w_ALLOWED_NOT_SEQUENTIALLY_CONSISTENT E_w_FORBIDDEN_NOT_JUSTIFIED E_w_FORBIDDEN_NOT_SEQUENTIALLY_CONSISTENT o_ALLOWED_SEQUENTIALLY_CONSISTENT o_FORBIDDEN_NOT_HAPPENS_BEFORE_CONSISTENT o_ALLOWED_NOT_SEQUENTIALLY_CONSISTENT o_FORBIDDEN_NOT_JUSTIFIED o_FORBIDDEN_NOT_SEQUENTIALLY_CONSISTENT p e ha hc hk s m _ below hf ((Spec.applies_iff_loose hf).mp happ).1 ⟨rfl, State.Warmed39.refl s, rfl⟩ trivial
  refine ⟨n, _, h1, h2, h3, hpost _ _ _ _ _ _ ⟨Cond.after_iff.mpr rfl, Cond.after_iff.mpr (eq_i res_at (Term.int_eval (1)) rfl), trivial⟩ ⟨hq.1, hq.2.1, (hq.2.2.sift fun y hy => Or.inr (N y hy)).mono (by decide) (by decide)⟩⟩
theorem main_1_1 : Claimed_1_1 := comes_1 fun _ _ _ _ _ _ h hF => ⟨h.1, hF⟩
theorem main_1_2 : Claimed_1_2 := comes_1 fun _ _ _ _ _ _ h hF => ⟨h.2.1, hF⟩
end Jvm.Pilot.@@N@@
namespace Jvm.Pilot.@@N@@
open Jvm Jvm.ClassFile Sem Op Lib Jvm.Free Jvm.Stand Jvm.Pilot.@@N@@.Jvm.D
/-! MADE BY PROGRAM (witnessworld.py) out of the Statement's table words and the real class files: 12 classes; the members and pool entries that the words name. The judged class is class 1, her method 1. -/
namespace start1
open Jvm.ClassFile
def u (s : String) : CpInfo := .utf8 (stringToUtf16 s)
/-- a pool by its gaps: so many unusable entries, then the entry; so many at the end -/
def gap : Nat → List CpInfo → List CpInfo
  | 0, r => r
  | n + 1, r => .unusable :: gap n r
def poolList (es : List (Nat × CpInfo)) (last : Nat) : List CpInfo := es.foldr (fun e r => gap e.1 (e.2 :: r)) (gap last [])
def pool (es : List (Nat × CpInfo)) (last : Nat) : Array CpInfo := ⟨poolList es last⟩
def fileOf (pool : Array CpInfo) (this : Nat) (attrs : Array Attribute := #[]) (ms : Array MethodInfo := #[]) (fl : Nat := 33) (sup : Nat := 0) (ifs : Array Nat := #[]) (fds : Array FieldInfo := #[]) : ClassFile where
  minorVersion := 0
  majorVersion := 65
  constantPool := pool
  accessFlags := fl
  thisClass := this
  superClass := sup
  interfaces := ifs
  fields := fds
  methods := ms
  attributes := attrs
def plain (name : String) (sup : Option ClassId) : Class where
  name := name
  kind := .ordinary
  loader := none
  accessFlags := 33
  super := sup
  interfaces := #[]
  cf := none
  fields := #[]
  methods := #[]
  instanceTypes := #[]
  staticTypes := #[]
  resolved := #[]
  callSites := []
  init := .initialized
  statics := none
  mirror := none

def pool0 : Array CpInfo := pool [(5, u "<init>"), (0, u "()V"), (1, .class_ 10), (1, u "java/lang/Object")] 113

def k0m0 : Method := { name := "<init>", desc := "()V", sig := { parameters := [], returnType := none }, accessFlags := 1, code := none }
/-- java/lang/Object -/
def k0 : Class := { plain "java/lang/Object" none with
  accessFlags := 33
  interfaces := #[]
  cf := some (fileOf pool0 8 #[] #[{ accessFlags := 1, nameIndex := 5, descriptorIndex := 6, attributes := #[] }] 33 0 #[] #[])
  fields := #[]
  methods := #[k0m0]
  instanceTypes := #[]
  staticTypes := #[]
  resolved := Array.replicate 124 none
  statics := none }

def pool1 : Array CpInfo := pool [(2, .class_ 4), (1, u "java/lang/Object"), (0, u "<init>"), (0, u "()V"), (0, .integer 2147483647), (0, .fieldref 9 10), (0, .class_ 11), (0, .nameAndType 12 13), (0, u "com/example/happenstance/happenstance/model/Explanation$Verdict"), (0, u "ALLOWED_SEQUENTIALLY_CONSISTENT"), (0, u "Lcom/example/happenstance/happenstance/model/Explanation$Verdict;"), (0, .fieldref 9 15), (0, .nameAndType 16 13), (0, u "ALLOWED_NOT_SEQUENTIALLY_CONSISTENT"), (0, .fieldref 9 18), (0, .nameAndType 19 13), (0, u "FORBIDDEN_NOT_SEQUENTIALLY_CONSISTENT"), (0, .fieldref 9 21), (0, .nameAndType 22 13), (0, u "FORBIDDEN_NOT_HAPPENS_BEFORE_CONSISTENT"), (0, .fieldref 9 24), (0, .nameAndType 25 13), (0, u "FORBIDDEN_NOT_JUSTIFIED"), (0, .methodref 9 27), (0, .nameAndType 28 29), (0, u "allowed"), (0, u "()Z"), (0, .class_ 31), (0, u "com/example/happenstance/happenstance/model/VerdictAllowedPinLaw"), (2, u "law"), (0, u "(I)Z")] 7

def k1m0 : Method := { name := "<init>", desc := "()V", sig := { parameters := [], returnType := none }, accessFlags := 2, code := none }
def k1c1 : Code := { maxStack := 2, maxLocals := 4, code := code, exceptionTable := #[], attributes := #[] }
def k1m1 : Method := { name := "law", desc := "(I)Z", sig := { parameters := [.int], returnType := some .boolean }, accessFlags := 9, code := some k1c1 }
/-- com/example/happenstance/happenstance/model/VerdictAllowedPinLaw -/
def k1 : Class := { plain "com/example/happenstance/happenstance/model/VerdictAllowedPinLaw" (some 0) with
  accessFlags := 49
  interfaces := #[]
  cf := some (fileOf pool1 30 #[] #[{ accessFlags := 2, nameIndex := 5, descriptorIndex := 6, attributes := #[] }, { accessFlags := 9, nameIndex := 34, descriptorIndex := 35, attributes := #[] }] 49 2 #[] #[])
  fields := #[]
  methods := #[k1m0, k1m1]
  instanceTypes := #[]
  staticTypes := #[]
  resolved := Array.replicate 43 none
  statics := none }

def pool2 : Array CpInfo := pool [(1, .class_ 2), (0, u "java/lang/constant/Constable"), (0, .class_ 4), (0, u "java/lang/Object")] 6

/-- java/lang/constant/Constable -/
def k2 : Class := { plain "java/lang/constant/Constable" (some 0) with
  accessFlags := 1537
  interfaces := #[]
  cf := some (fileOf pool2 1 #[] #[] 1537 3 #[] #[])
  fields := #[]
  methods := #[]
  instanceTypes := #[]
  staticTypes := #[]
  resolved := Array.replicate 11 none
  statics := none }

def pool3 : Array CpInfo := pool [(1, .class_ 2), (0, u "java/lang/Comparable"), (0, .class_ 4), (0, u "java/lang/Object")] 7

/-- java/lang/Comparable -/
def k3 : Class := { plain "java/lang/Comparable" (some 0) with
  accessFlags := 1537
  interfaces := #[]
  cf := some (fileOf pool3 1 #[] #[] 1537 3 #[] #[])
  fields := #[]
  methods := #[]
  instanceTypes := #[]
  staticTypes := #[]
  resolved := Array.replicate 12 none
  statics := none }

def pool4 : Array CpInfo := pool [(1, .class_ 2), (0, u "java/io/Serializable"), (0, .class_ 4), (0, u "java/lang/Object")] 2

/-- java/io/Serializable -/
def k4 : Class := { plain "java/io/Serializable" (some 0) with
  accessFlags := 1537
  interfaces := #[]
  cf := some (fileOf pool4 1 #[] #[] 1537 3 #[] #[])
  fields := #[]
  methods := #[]
  instanceTypes := #[]
  staticTypes := #[]
  resolved := Array.replicate 7 none
  statics := none }

def pool5 : Array CpInfo := pool [(2, .class_ 4), (1, u "java/lang/Enum"), (0, u "name"), (0, u "Ljava/lang/String;"), (2, u "ordinal"), (0, u "I"), (1, .class_ 14), (1, u "java/lang/Object"), (4, u "hash"), (86, .class_ 108), (1, u "java/lang/Enum$EnumDesc"), (2, .class_ 112), (0, u "java/lang/constant/Constable"), (0, .class_ 114), (0, u "java/lang/Comparable"), (0, .class_ 116), (0, u "java/io/Serializable")] 87

/-- java/lang/Enum -/
def k5 : Class := { plain "java/lang/Enum" (some 0) with
  accessFlags := 1057
  interfaces := #[2, 3, 4]
  cf := some (fileOf pool5 2 #[.nestMembers #[106]] #[] 1057 12 #[111, 113, 115] #[{ accessFlags := 18, nameIndex := 5, descriptorIndex := 6, attributes := #[] }, { accessFlags := 18, nameIndex := 9, descriptorIndex := 10, attributes := #[] }, { accessFlags := 2, nameIndex := 19, descriptorIndex := 10, attributes := #[] }])
  fields := #[{ name := "name", type := (.object "java/lang/String"), accessFlags := 18, slot := 0, constantValue := 0 }, { name := "ordinal", type := .int, accessFlags := 18, slot := 1, constantValue := 0 }, { name := "hash", type := .int, accessFlags := 2, slot := 2, constantValue := 0 }]
  methods := #[]
  instanceTypes := #[(.object "java/lang/String"), .int, .int]
  staticTypes := #[]
  resolved := Array.replicate 204 none
  statics := none }

def pool6 : Array CpInfo := pool [(1, .class_ 2), (0, u "com/example/happenstance/happenstance/model/Explanation$Verdict"), (0, .fieldref 1 4), (0, .nameAndType 5 6), (0, u "ALLOWED_SEQUENTIALLY_CONSISTENT"), (0, u "Lcom/example/happenstance/happenstance/model/Explanation$Verdict;"), (0, .fieldref 1 8), (0, .nameAndType 9 6), (0, u "ALLOWED_NOT_SEQUENTIALLY_CONSISTENT"), (2, u "FORBIDDEN_NOT_SEQUENTIALLY_CONSISTENT"), (2, u "FORBIDDEN_NOT_HAPPENS_BEFORE_CONSISTENT"), (2, u "FORBIDDEN_NOT_JUSTIFIED"), (2, u "$VALUES"), (0, u "[Lcom/example/happenstance/happenstance/model/Explanation$Verdict;"), (6, .class_ 31), (1, u "java/lang/Enum"), (23, u "allowed"), (0, u "()Z"), (6, .class_ 64), (0, u "com/example/happenstance/happenstance/model/Explanation")] 2

def k6c0 : Code := { maxStack := 2, maxLocals := 1, code := prog_43_method_4_code, exceptionTable := #[], attributes := #[] }
def k6m0 : Method := { name := "allowed", desc := "()Z", sig := { parameters := [], returnType := some .boolean }, accessFlags := 1, code := some k6c0 }
/-- com/example/happenstance/happenstance/model/Explanation$Verdict -/
def k6 : Class := { plain "com/example/happenstance/happenstance/model/Explanation$Verdict" (some 5) with
  accessFlags := 16433
  interfaces := #[]
  cf := some (fileOf pool6 1 #[.nestHost 63] #[{ accessFlags := 1, nameIndex := 55, descriptorIndex := 56, attributes := #[] }] 16433 29 #[] #[{ accessFlags := 16409, nameIndex := 5, descriptorIndex := 6, attributes := #[] }, { accessFlags := 16409, nameIndex := 9, descriptorIndex := 6, attributes := #[] }, { accessFlags := 16409, nameIndex := 12, descriptorIndex := 6, attributes := #[] }, { accessFlags := 16409, nameIndex := 15, descriptorIndex := 6, attributes := #[] }, { accessFlags := 16409, nameIndex := 18, descriptorIndex := 6, attributes := #[] }, { accessFlags := 4122, nameIndex := 21, descriptorIndex := 22, attributes := #[] }])
  fields := #[{ name := "ALLOWED_SEQUENTIALLY_CONSISTENT", type := (.object "com/example/happenstance/happenstance/model/Explanation$Verdict"), accessFlags := 16409, slot := 0, constantValue := 0 }, { name := "ALLOWED_NOT_SEQUENTIALLY_CONSISTENT", type := (.object "com/example/happenstance/happenstance/model/Explanation$Verdict"), accessFlags := 16409, slot := 1, constantValue := 0 }, { name := "FORBIDDEN_NOT_SEQUENTIALLY_CONSISTENT", type := (.object "com/example/happenstance/happenstance/model/Explanation$Verdict"), accessFlags := 16409, slot := 2, constantValue := 0 }, { name := "FORBIDDEN_NOT_HAPPENS_BEFORE_CONSISTENT", type := (.object "com/example/happenstance/happenstance/model/Explanation$Verdict"), accessFlags := 16409, slot := 3, constantValue := 0 }, { name := "FORBIDDEN_NOT_JUSTIFIED", type := (.object "com/example/happenstance/happenstance/model/Explanation$Verdict"), accessFlags := 16409, slot := 4, constantValue := 0 }, { name := "$VALUES", type := (.array (.object "com/example/happenstance/happenstance/model/Explanation$Verdict")), accessFlags := 4122, slot := 5, constantValue := 0 }]
  methods := #[k6m0]
  instanceTypes := #[(.object "java/lang/String"), .int, .int]
  staticTypes := #[(.object "com/example/happenstance/happenstance/model/Explanation$Verdict"), (.object "com/example/happenstance/happenstance/model/Explanation$Verdict"), (.object "com/example/happenstance/happenstance/model/Explanation$Verdict"), (.object "com/example/happenstance/happenstance/model/Explanation$Verdict"), (.object "com/example/happenstance/happenstance/model/Explanation$Verdict"), (.array (.object "com/example/happenstance/happenstance/model/Explanation$Verdict"))]
  resolved := Array.replicate 67 none
  statics := some 0 }

def pool7 : Array CpInfo := pool [(1, u "java/lang/Cloneable"), (0, .class_ 1), (0, u "java/lang/Object"), (0, .class_ 3)] 3

/-- java/lang/Cloneable -/
def k7 : Class := { plain "java/lang/Cloneable" (some 0) with
  accessFlags := 1537
  interfaces := #[]
  cf := some (fileOf pool7 2 #[] #[] 1537 4 #[] #[])
  fields := #[]
  methods := #[]
  instanceTypes := #[]
  staticTypes := #[]
  resolved := Array.replicate 8 none
  statics := none }

/-- the primitive byte -/
def k8 : Class := { plain "byte" none with kind := .primitive 'B', accessFlags := 0x411 }
/-- [B -/
def k9 : Class := { plain "[B" (some 0) with kind := .array 8 .byte, interfaces := #[7, 4], accessFlags := 1041 }

/-- the primitive int -/
def k10 : Class := { plain "int" none with kind := .primitive 'I', accessFlags := 0x411 }
/-- [I -/
def k11 : Class := { plain "[I" (some 0) with kind := .array 10 .int, interfaces := #[7, 4], accessFlags := 1041 }

def heap : Heap := #[{ cls := 6, slots := #[.ref 1, .ref 3, .ref 5, .ref 2, .ref 4, .null], vm := .statics 6 },
  { cls := 6, slots := #[.null, .int 0, .int 0], vm := .none },
  { cls := 6, slots := #[.null, .int 3, .int 0], vm := .none },
  { cls := 6, slots := #[.null, .int 1, .int 0], vm := .none },
  { cls := 6, slots := #[.null, .int 4, .int 0], vm := .none },
  { cls := 6, slots := #[.null, .int 2, .int 0], vm := .none }]
def classes : Array Class := #[k0, k1, k2, k3, k4, k5, k6, k7, k8, k9, k10, k11]
def interned : List (Array UInt16 × Addr) := []
def slotsUsed : Nat := 21
def theMethod : MethodId := ⟨1, 1⟩
def args0 : Array Value := #[.int 5]
def aboutOver (below : List Frame) : State where
  vm := { classes := classes, interned := interned.toArray }
  heap := heap
  slotsUsed := slotsUsed
  threads := #[{ frames := .invoking theMethod args0 :: below }]
def below0 : List Frame := [.native { method := ⟨0, 0⟩, args := #[] }]
def about1 : State := aboutOver below0
def p0 : Program := .bare "" "" ""
def e0 : Env := launch0.env 0 0 0
theorem w_frames : about1.frames = Frame.invoking theMethod args0 :: below0 := rfl
set_option maxRecDepth 65536 in
theorem w_args : argsFit about1.vm theMethod args0 = true := by decide +kernel
set_option maxRecDepth 65536 in
theorem w_heap : heapFits about1 = true := by decide +kernel
set_option maxRecDepth 65536 in
theorem w_runnable : about1.curStatus? = some .runnable := by decide +kernel
set_option maxRecDepth 65536 in
theorem w_alone : about1.alone = true := by decide +kernel
set_option maxRecDepth 65536 in
theorem w_named : about1.methodNamed? x = some theMethod := by decide +kernel
set_option maxRecDepth 65536 in
theorem w_hears : about1.hears theMethod below0 = true := by decide +kernel
set_option maxRecDepth 65536 in
theorem w_ripe : about1.ripe theMethod args0 below0 = true := by decide +kernel
theorem w_running : about1.status = .running := rfl
set_option maxRecDepth 65536 in
theorem w_room : about1.hasRoom e0.platform room_1 = true :=
  launch0.hasRoom_least _ room_1 (by decide +kernel) (by decide +kernel) (by decide +kernel) (by decide +kernel) (by decide +kernel) (by decide +kernel)
theorem allAtoms_all (ts : List Jvm.Cond) (a : Array Jvm.Value) (st : Jvm.State) : (allAtoms ts).before a st = ts.all (fun c => c.before a st) := by
  induction ts with
  | nil => rfl
  | cons c t ih =>
    show (Jvm.Cond.and c (allAtoms t)).before a st = _
    rw [Jvm.Cond.before_and, ih, List.all_cons]
def words1 : List Jvm.Cond := Jvm.Cond.code x code maxLocals ret :: tables_1
/-- a 'code' word, met by the world's own term for the bytes: nothing is compared byte by byte -/
theorem code_word {y : MethodName} {bytes : ByteArray} {mx : Nat} {rt : Option FieldType} {a : Array Value} {s : State} {m : MethodId} {meth : Method} {c : Code} (h1 : s.methodNamed? y = some m) (h2 : s.vm.method? m = some meth) (h3 : meth.code = some c) (h4 : c.code = bytes)
    (h5 : (c.maxLocals == mx && c.exceptionTable.isEmpty && decide (c.maxStack ≤ mostOperands) && decide (meth.sig.returnType = rt) && !meth.locks && decide (parseMethodDescriptor y.desc = some meth.sig)) = true) : (Jvm.Cond.code y bytes mx rt).before a s = true := by
  simp only [Bool.and_eq_true, beq_iff_eq, Bool.not_eq_true', decide_eq_true_eq] at h5
  obtain ⟨⟨⟨⟨⟨g1, g2⟩, g3⟩, g4⟩, g5⟩, g6⟩ := h5
  simp [Cond.before, Cond.holds, Cond.value, h1, h2, h3, h4, g1, g2, g3, g4, g5, g6]
def isCode : Jvm.Cond → Bool
  | .code _ _ _ _ => true
  | _ => false
theorem all_split {L : List Jvm.Cond} {P : Jvm.Cond → Bool} (h1 : L.all (fun c => isCode c || P c) = true) (h2 : ∀ c ∈ L.filter isCode, P c = true) : L.all P = true := by
  refine List.all_eq_true.mpr fun c hc => ?_
  have h := List.all_eq_true.mp h1 c hc
  rcases Bool.eq_false_or_eq_true (isCode c) with hi | hi
  · exact h2 c (List.mem_filter.mpr ⟨hc, hi⟩)
  · simpa [hi] using h
set_option maxRecDepth 65536 in
theorem w_c0 : (Jvm.Cond.code x code maxLocals ret).before args0 about1 = true := code_word (m := ⟨1, 1⟩) (meth := k1m1) (c := k1c1) (by decide +kernel) rfl rfl rfl (by decide +kernel)
set_option maxRecDepth 65536 in
theorem w_c1 : (Jvm.Cond.code ({ cls := "com/example/happenstance/happenstance/model/Explanation$Verdict", name := "allowed", desc := "()Z" } : Jvm.MethodName) prog_43_method_4_code (1 : Nat) (Option.some Jvm.ClassFile.FieldType.boolean)).before args0 about1 = true := code_word (m := ⟨6, 0⟩) (meth := k6m0) (c := k6c0) (by decide +kernel) rfl rfl rfl (by decide +kernel)
def codes1 : List Jvm.Cond := [Jvm.Cond.code x code maxLocals ret, Jvm.Cond.code ({ cls := "com/example/happenstance/happenstance/model/Explanation$Verdict", name := "allowed", desc := "()Z" } : Jvm.MethodName) prog_43_method_4_code (1 : Nat) (Option.some Jvm.ClassFile.FieldType.boolean)]
set_option maxRecDepth 65536 in
theorem codes_eq : words1.filter isCode = codes1 := rfl
theorem w_codes : ∀ c ∈ words1.filter isCode, c.before args0 about1 = true := by
  rw [codes_eq]
  intro c hc
  simp only [codes1, List.mem_cons, List.not_mem_nil, or_false] at hc
  rcases hc with rfl | rfl
  · exact w_c0
  · exact w_c1
set_option maxRecDepth 65536 in
theorem w_t1 : words1.all (fun c => isCode c || c.before args0 about1) = true := by decide +kernel
theorem w_tables : (allAtoms (Jvm.Cond.code x code maxLocals ret :: tables_1)).before args0 about1 = true := by
  rw [allAtoms_all]
  show words1.all (fun c => c.before args0 about1) = true
  refine all_split ?_ w_codes
  rw [w_t1]
set_option maxRecDepth 65536 in
theorem w_case : (Jvm.Cond.and given_1 narrow_1).before args0 about1 = true := by decide +kernel
theorem w_applies : (headSpec (Jvm.Cond.code x code maxLocals ret :: tables_1) room_1).applies x e0.platform about1 = true :=
  (Spec.applies_iff w_frames).mpr ⟨w_running, w_runnable, w_alone, w_named, w_hears, w_ripe, w_room, w_tables⟩
theorem atStart : AtStart classFile x code maxLocals ret World_1 tables_1 room_1 Calls_1 rest_1 Pre_1 launch0 p0 e0 about1 theMethod args0 below0 :=
  ⟨lists_1, trivial, launch0.admits_env _ _ _, launch0.least_env, fairChoices_fair.cas, fairChoices_fair.clock, w_frames, w_args, w_heap, w_applies, trivial, trivial, w_case⟩
end start1
theorem witness_1 : WitnessClaimed_1 := ⟨start1.p0, start1.e0, start1.about1, start1.theMethod, start1.args0, start1.below0, start1.atStart⟩
end Jvm.Pilot.@@N@@
