import JvmDerived
import JvmDerived.Pilot.@@N@@Statement
import JvmDerived.Pilot.@@N@@Code
set_option linter.unusedVariables false
set_option linter.unusedSimpArgs false
@@BLOCK:NumsL.lean.txt@@
namespace Jvm.RoadKit
open Sem ClassFile Op Lib Jvm.Stand Jvm.Free Jvm.LawKit
section New
variable {p : Program} {l : Launch} {e : Env} {R : Room} {s : State} {m : MethodId} {args : Array Value} {below : List Frame} {meth : Method} {c : Code} {T : State} {locs : List Loc} {cells slots : Nat}
theorem retI (X : Stand p l e R s m args below meth c T locs cells slots) (hx : p.tables.exec = Jvm.exec) {pc : Nat} {Ls : Array Slot} {z : Int32} {rest : List Value} (hret : meth.sig.returnType = some .int) (hd : decode c.code pc = .ok (.ireturn, 1)) {fs : List Frame}
    (hl : ∀ (f : JFrame) (acts : List Action), f.method = m → f.locked = none → f.entered = [] → (doReturn e (T.setTop f) acts (some (.int z))).1 = T.setFrames fs) : Steps p.tables e below (T.setTop (mkF m pc Ls (.int z :: rest))) (T.setFrames fs) := by
  have hm' : T.vm.method? m = some meth := X.method'
  have hn : narrow .int (.int z) = .int z := rfl
  show Steps p.tables e below (T.setTop { method := m, pc := pc, locals := Ls, stack := _ :: rest, locked := none }) _
  jvm_step X.here [X.here.top, hx, hd, hm', hret, hn]
  first | (intro acts; rw [hl _ acts rfl rfl rfl]) | rw [hl _ _ rfl rfl rfl]
  exact Steps.refl _
end New
end Jvm.RoadKit
namespace Jvm.Pilot.@@N@@
open Jvm Jvm.ClassFile Sem Op Lib Jvm.Free Jvm.Stand Jvm.LawKit Jvm.RoadKit Bundle Jvm.Pilot.@@N@@.Jvm.D
theorem own_eqv {args : Array Value} {first s : State} {o : Option Outcome} {idx : List Nat} {t : Term} {k : Int32} (h : (Cond.eq t (.int k)).value args first o s idx = some true) : t.eval args first o idx s = some (.int k) := by
  cases ht : t.eval args first o idx s with
  | none => simp [Cond.value, ht] at h
  | some v => cases v <;> simp [Cond.value, ht, Term.eval] at h ⊢ <;> exact h
def own_ord (Z : State) (a : Addr) : Int32 := match Z.fieldOf? a "java/lang/Enum" "ordinal" "I" with
  | some (.int k) => k
  | _ => -1
theorem own_ordv {Z : State} {a : Addr} {k : Int32} (h : Z.fieldOf? a "java/lang/Enum" "ordinal" "I" = some (.int k)) : own_ord Z a = k := by simp [own_ord, h]
theorem own_dis {Z : State} {a b : Addr} {i j : Int32} (h : own_ord Z a = i) (h' : own_ord Z b = j) (n : i ≠ j) : a ≠ b := fun e => n (by rw [← h, ← h', e])
def own_pick (p : Int32) (w_FALSE w_UNKNOWN w_TRUE : Addr) : Addr := if p = 0 then w_FALSE else if p = 1 then w_UNKNOWN else w_TRUE
def own_and (a b w_FALSE w_UNKNOWN w_TRUE : Addr) : Addr := if a = w_FALSE then w_FALSE else if b = w_FALSE then w_FALSE else if a = w_UNKNOWN then w_UNKNOWN else if b = w_UNKNOWN then w_UNKNOWN else w_TRUE
def own_or (a b w_FALSE w_UNKNOWN w_TRUE : Addr) : Addr := if a = w_TRUE then w_TRUE else if b = w_TRUE then w_TRUE else if a = w_UNKNOWN then w_UNKNOWN else if b = w_UNKNOWN then w_UNKNOWN else w_FALSE
def own_rank (a w_FALSE w_UNKNOWN w_TRUE : Addr) : Int32 := if a = w_FALSE then 0 else if a = w_UNKNOWN then 1 else if a = w_TRUE then 2 else -1
def own_min (p q : Int32) : Int32 := if q < p then q else p
def own_max (p q : Int32) : Int32 := if p < q then q else p
def own_m3 (p : Int32) : Int32 := (p &&& (2147483647 : Int32)) - ((p &&& (2147483647 : Int32)) / (3 : Int32)) * (3 : Int32)
theorem own_mod (p c : Int32) (hc : 0 < c.toInt) : 0 ≤ ((p &&& (2147483647 : Int32)) - ((p &&& (2147483647 : Int32)) / c) * c).toInt ∧ ((p &&& (2147483647 : Int32)) - ((p &&& (2147483647 : Int32)) / c) * c).toInt < c.toInt := by
  have e : (p &&& (2147483647 : Int32)).toInt = p.toInt % 2 ^ 31 := Jvm.Kit.i32_mask p 2147483647 (k := 31) (by decide) (by decide)
  rw [irem_eq_mod, Jvm.Kit.i32_rem_nonneg (by omega)]
  exact ⟨Int.emod_nonneg _ (by omega), Int.emod_lt_of_pos _ hc⟩
theorem own_three (p : Int32) : own_m3 p = 0 ∨ own_m3 p = 1 ∨ own_m3 p = 2 := by
  have h := own_mod p 3 (by decide)
  have c3 : (3 : Int32).toInt = 3 := by decide
  have g : (own_m3 p).toInt = 0 ∨ (own_m3 p).toInt = 1 ∨ (own_m3 p).toInt = 2 := by unfold own_m3; omega
  rcases g with g | g | g
  · exact Or.inl (Int32.toInt_inj.mp g)
  · exact Or.inr (Or.inl (Int32.toInt_inj.mp g))
  · exact Or.inr (Or.inr (Int32.toInt_inj.mp g))
theorem own_law {Z : State} {w_FALSE w_UNKNOWN w_TRUE : Addr} (o_FALSE : own_ord Z w_FALSE = 1) (o_UNKNOWN : own_ord Z w_UNKNOWN = 2) (o_TRUE : own_ord Z w_TRUE = 0) (p q : Int32) : own_rank (own_or (own_pick (own_m3 p) w_FALSE w_UNKNOWN w_TRUE) (own_pick (own_m3 q) w_FALSE w_UNKNOWN w_TRUE) w_FALSE w_UNKNOWN w_TRUE) w_FALSE w_UNKNOWN w_TRUE = own_max (own_rank (own_pick (own_m3 p) w_FALSE w_UNKNOWN w_TRUE) w_FALSE w_UNKNOWN w_TRUE) (own_rank (own_pick (own_m3 q) w_FALSE w_UNKNOWN w_TRUE) w_FALSE w_UNKNOWN w_TRUE) := by
  rcases own_three p with h | h | h <;> rcases own_three q with g | g | g <;> rw [h, g] <;> simp +decide [own_pick, own_or, own_max, own_rank, (own_dis o_FALSE o_UNKNOWN (by decide)), (own_dis o_FALSE o_TRUE (by decide)), (own_dis o_UNKNOWN o_FALSE (by decide)), (own_dis o_UNKNOWN o_TRUE (by decide)), (own_dis o_TRUE o_FALSE (by decide)), (own_dis o_TRUE o_UNKNOWN (by decide))]
theorem d_method_2_code_0 : decode method_2_code 0 = .ok (.iload_n 0, 1) := by decide +kernel
theorem d_method_2_code_1 : decode method_2_code 1 = .ok (.ldc 7, 2) := by decide +kernel
theorem d_method_2_code_3 : decode method_2_code 3 = .ok (.iand, 1) := by decide +kernel
theorem d_method_2_code_4 : decode method_2_code 4 = .ok (.iconst 3, 1) := by decide +kernel
theorem d_method_2_code_5 : decode method_2_code 5 = .ok (.irem, 1) := by decide +kernel
theorem d_method_2_code_6 : decode method_2_code 6 = .ok (.istore_n 1, 1) := by decide +kernel
theorem d_method_2_code_7 : decode method_2_code 7 = .ok (.iload_n 1, 1) := by decide +kernel
theorem d_method_2_code_8 : decode method_2_code 8 = .ok (.ifCond .ne 7, 3) := by decide +kernel
theorem d_method_2_code_11 : decode method_2_code 11 = .ok (.getstatic 8, 3) := by decide +kernel
theorem d_method_2_code_14 : decode method_2_code 14 = .ok (.areturn, 1) := by decide +kernel
theorem d_method_2_code_15 : decode method_2_code 15 = .ok (.iload_n 1, 1) := by decide +kernel
theorem d_method_2_code_16 : decode method_2_code 16 = .ok (.iconst 1, 1) := by decide +kernel
theorem d_method_2_code_17 : decode method_2_code 17 = .ok (.if_icmp .ne 7, 3) := by decide +kernel
theorem d_method_2_code_20 : decode method_2_code 20 = .ok (.getstatic 14, 3) := by decide +kernel
theorem d_method_2_code_23 : decode method_2_code 23 = .ok (.areturn, 1) := by decide +kernel
theorem d_method_2_code_24 : decode method_2_code 24 = .ok (.getstatic 17, 3) := by decide +kernel
theorem d_method_2_code_27 : decode method_2_code 27 = .ok (.areturn, 1) := by decide +kernel
theorem pn_0 : plainName "com/example/clearance_for_data/clearancefordata/expression/TruthOrPinLaw" = true := by first | (simp [plainName, overriddenIn]; done) | decide +kernel
theorem ef_rm1 (m : MethodId) (x0 : Int32) : entryFrame m #[(.int x0)] 2 = mkF m 0 #[.val (.int x0), .unset] [] := by first | (simp [entryFrame, mkF, argsToLocals, Value.category]; done) | rfl
def Q_rm1 (Z : State) (p0 : Int32) (w_FALSE : Addr) (w_UNKNOWN : Addr) (w_TRUE : Addr) (h0 : Heap) (n0 : Nat) (v : Option Value) (h : Heap) (L : List Loc) : Prop := v = some (.ref (own_pick (own_m3 p0) w_FALSE w_UNKNOWN w_TRUE)) ∧ Fr n0 L ∧ h = h0
set_option maxRecDepth 65536 in
set_option maxHeartbeats 40000000 in
theorem rm1 (l : Launch) (Z : State) (a0 : Array Value) (hw : ∀ d ∈ tables_1, d.before a0 Z = true) (ws : List Jvm.Cond) (p0 : Int32) (w_FALSE : Addr) (w_UNKNOWN : Addr) (w_TRUE : Addr) (h0 : Heap) (n0 : Nat) (Z0 : n0 ≤ h0.size) (S_FALSE : Sta Z h0 "com/example/clearance_for_data/clearancefordata/expression/Truth" "FALSE" "Lcom/example/clearance_for_data/clearancefordata/expression/Truth;" (.ref w_FALSE)) (S_UNKNOWN : Sta Z h0 "com/example/clearance_for_data/clearancefordata/expression/Truth" "UNKNOWN" "Lcom/example/clearance_for_data/clearancefordata/expression/Truth;" (.ref w_UNKNOWN)) (S_TRUE : Sta Z h0 "com/example/clearance_for_data/clearancefordata/expression/Truth" "TRUE" "Lcom/example/clearance_for_data/clearancefordata/expression/Truth;" (.ref w_TRUE)) :
    MetFree l (⟨"com/example/clearance_for_data/clearancefordata/expression/TruthOrPinLaw", "pick", "(I)Lcom/example/clearance_for_data/clearancefordata/expression/Truth;"⟩ : MethodName) (head1 (Jvm.Cond.code (⟨"com/example/clearance_for_data/clearancefordata/expression/TruthOrPinLaw", "pick", "(I)Lcom/example/clearance_for_data/clearancefordata/expression/Truth;"⟩ : MethodName) method_2_code 2 (some (.object "com/example/clearance_for_data/clearancefordata/expression/Truth")) :: ws) ({ frames := 0, cells := 0, slots := 0, locals := 0 } : Room)) (fun a U => a = #[(.int p0)] ∧ Z.Warmed39 U.vm ∧ U.heap = h0) (fun _ _ _ _ _ => True) (fun _ U o U' => ∃ v L, o = .returned v ∧ Q_rm1 Z p0 w_FALSE w_UNKNOWN w_TRUE h0 n0 v U'.heap L ∧ FrameEnd U o U' L ({ frames := 0, cells := 0, slots := 0, locals := 0 } : Room).cells ({ frames := 0, cells := 0, slots := 0, locals := 0 } : Room).slots) := by
  refine MetFree.of_bodySF (plainFor_of_name pn_0) hisR ?_
  intro p e s m args below meth c s₁ Bd hml0 hP hK
  obtain ⟨rfl, hZ, hh⟩ := hP
  have hx := Bd.exec
  have hby := Bd.bytes
  have hml : c.maxLocals = 2 := hml0
  have hown : s.vm.findClass "com/example/clearance_for_data/clearancefordata/expression/TruthOrPinLaw" = some m.cls := findClass_of_methodNamed Bd.named
  have hnm := (name_of_methodNamed Bd.named Bd.method).1
  have hlk : meth.locks = false := by first | exact BodyLoose.notSynchronized (by assumption) | exact Body.notSynchronized (by assumption) | assumption
  have X0 : Stand p l e ({ frames := 0, cells := 0, slots := 0, locals := 0 } : Room) s m #[(.int p0)] below meth c s₁ [] 0 0 := Stand.of_body Bd
  have e0 : s₁.heap = h0 := by rw [← hh, Bd.state]; rfl
  have N0 := Fr.nil n0
  have Zn := Z0
  have K0 : ∀ t, Steps p.tables e below (s₁.setTop (mkF m 0 #[.val (.int p0), .unset] [])) t → Steps p.tables e below (s₁.setTop (entryFrame m #[(.int p0)] 2)) t := fun t k => castTop (ef_rm1 m p0) k
  have K1 : ∀ t, Steps p.tables e below (s₁.setTop (mkF m 8 #[.val (.int p0), .val (.int ((p0 &&& (2147483647 : Int32)) - ((p0 &&& (2147483647 : Int32)) / (3 : Int32)) * (3 : Int32)))] [(.int ((p0 &&& (2147483647 : Int32)) - ((p0 &&& (2147483647 : Int32)) / (3 : Int32)) * (3 : Int32)))])) t → Steps p.tables e below (s₁.setTop (entryFrame m #[(.int p0)] 2)) t := by
    intro t kt
    refine K0 t ?_
    show Steps p.tables e below (s₁.setTop (mkF m 0 #[.val (.int p0), .unset] [])) _
    refine XS.iloadN X0.here hx rfl (hb hby d_method_2_code_0) rfl ?_
    show Steps p.tables e below (s₁.setTop (mkF m 1 #[.val (.int p0), .unset] [(.int p0)])) _
    refine X0.ldcInt hx hown (mvT hZ (hw _ (List.mem_of_getElem? (i := 4) rfl))) (g := (mkF m 1 #[.val (.int p0), .unset] [(.int p0)])) rfl (hb hby d_method_2_code_1) _ ?_
    show Steps p.tables e below (s₁.setTop (mkF m 3 #[.val (.int p0), .unset] [(.int (2147483647 : Int32)), (.int p0)])) _
    refine XS.iand X0.here hx rfl (hb hby d_method_2_code_3) rfl ?_
    show Steps p.tables e below (s₁.setTop (mkF m 4 #[.val (.int p0), .unset] [(.int (p0 &&& (2147483647 : Int32)))])) _
    refine XS.iconst X0.here hx rfl (hb hby d_method_2_code_4) ?_
    show Steps p.tables e below (s₁.setTop (mkF m 5 #[.val (.int p0), .unset] [(.int (3 : Int32)), (.int (p0 &&& (2147483647 : Int32)))])) _
    refine XS.irem X0.here hx rfl (hb hby d_method_2_code_5) rfl (by decide) ?_
    show Steps p.tables e below (s₁.setTop (mkF m 6 #[.val (.int p0), .unset] [(.int ((p0 &&& (2147483647 : Int32)) - ((p0 &&& (2147483647 : Int32)) / (3 : Int32)) * (3 : Int32)))])) _
    refine XS.istoreN X0.here hx rfl (hb hby d_method_2_code_6) rfl (l' := #[.val (.int p0), .val (.int ((p0 &&& (2147483647 : Int32)) - ((p0 &&& (2147483647 : Int32)) / (3 : Int32)) * (3 : Int32)))]) rfl ?_
    show Steps p.tables e below (s₁.setTop (mkF m 7 #[.val (.int p0), .val (.int ((p0 &&& (2147483647 : Int32)) - ((p0 &&& (2147483647 : Int32)) / (3 : Int32)) * (3 : Int32)))] [])) _
    refine XS.iloadN X0.here hx rfl (hb hby d_method_2_code_7) rfl ?_
    exact kt
  by_cases hc8 : ((p0 &&& (2147483647 : Int32)) - ((p0 &&& (2147483647 : Int32)) / (3 : Int32)) * (3 : Int32)) = (0 : Int32)
  ·
    obtain ⟨T2, X2, e2, st2⟩ := getS2 X0 hx hZ hown (host := "") (Or.inl (hw _ (List.mem_of_getElem? (i := 5) rfl))) Via.refl e0 S_FALSE (g := (mkF m 11 #[.val (.int p0), .val (.int ((p0 &&& (2147483647 : Int32)) - ((p0 &&& (2147483647 : Int32)) / (3 : Int32)) * (3 : Int32)))] [])) rfl (hb hby d_method_2_code_11)
    obtain ⟨fs, hr, hrun, hended, hW, hsame⟩ := X2.leave (v := some (.ref w_FALSE)) (fun h => by rw [Bd.returns] at h; cases h) hlk
    refine ⟨_, _, K1 _ ?_, hrun, hended, _, _, rfl, ?_, ⟨_, rfl⟩, hW, hsame.mono (by decide) (by decide)⟩
    ·
      show Steps p.tables e below (s₁.setTop (mkF m 8 #[.val (.int p0), .val (.int ((p0 &&& (2147483647 : Int32)) - ((p0 &&& (2147483647 : Int32)) / (3 : Int32)) * (3 : Int32)))] [(.int ((p0 &&& (2147483647 : Int32)) - ((p0 &&& (2147483647 : Int32)) / (3 : Int32)) * (3 : Int32)))])) _
      refine XS.ifNo X0.here hx rfl (hb hby d_method_2_code_8) rfl ((if0 _ _).trans (teq hc8).2) ?_
      show Steps p.tables e below (s₁.setTop (mkF m 11 #[.val (.int p0), .val (.int ((p0 &&& (2147483647 : Int32)) - ((p0 &&& (2147483647 : Int32)) / (3 : Int32)) * (3 : Int32)))] [])) _
      refine st2 _ ?_
      show Steps p.tables e below (T2.setTop (mkF m 14 #[.val (.int p0), .val (.int ((p0 &&& (2147483647 : Int32)) - ((p0 &&& (2147483647 : Int32)) / (3 : Int32)) * (3 : Int32)))] [(.ref w_FALSE)])) _
      exact retOut X2 hx Bd.returns rfl (Or.inr (Or.inr (Or.inr (Or.inr ⟨rfl, rfl, rfl⟩)))) (hb hby d_method_2_code_14) hr
    ·
      show Q_rm1 Z p0 w_FALSE w_UNKNOWN w_TRUE h0 n0 _ T2.heap _
      rw [e2]
      refine ⟨?_, N0, rfl⟩
      have hc8 : (own_m3 p0) = (0 : Int32) := hc8
      simp [own_pick, hc8]
  ·
    have K3 : ∀ t, Steps p.tables e below (s₁.setTop (mkF m 17 #[.val (.int p0), .val (.int ((p0 &&& (2147483647 : Int32)) - ((p0 &&& (2147483647 : Int32)) / (3 : Int32)) * (3 : Int32)))] [(.int (1 : Int32)), (.int ((p0 &&& (2147483647 : Int32)) - ((p0 &&& (2147483647 : Int32)) / (3 : Int32)) * (3 : Int32)))])) t → Steps p.tables e below (s₁.setTop (entryFrame m #[(.int p0)] 2)) t := by
      intro t kt
      refine K1 t ?_
      show Steps p.tables e below (s₁.setTop (mkF m 8 #[.val (.int p0), .val (.int ((p0 &&& (2147483647 : Int32)) - ((p0 &&& (2147483647 : Int32)) / (3 : Int32)) * (3 : Int32)))] [(.int ((p0 &&& (2147483647 : Int32)) - ((p0 &&& (2147483647 : Int32)) / (3 : Int32)) * (3 : Int32)))])) _
      refine XS.ifYes X0.here hx rfl (pc0 := 8) (pc' := 15) rfl (hb hby d_method_2_code_8) rfl ((if0 _ _).trans (feq hc8).2) (by decide) (by decide) ?_
      show Steps p.tables e below (s₁.setTop (mkF m 15 #[.val (.int p0), .val (.int ((p0 &&& (2147483647 : Int32)) - ((p0 &&& (2147483647 : Int32)) / (3 : Int32)) * (3 : Int32)))] [])) _
      refine XS.iloadN X0.here hx rfl (hb hby d_method_2_code_15) rfl ?_
      show Steps p.tables e below (s₁.setTop (mkF m 16 #[.val (.int p0), .val (.int ((p0 &&& (2147483647 : Int32)) - ((p0 &&& (2147483647 : Int32)) / (3 : Int32)) * (3 : Int32)))] [(.int ((p0 &&& (2147483647 : Int32)) - ((p0 &&& (2147483647 : Int32)) / (3 : Int32)) * (3 : Int32)))])) _
      refine XS.iconst X0.here hx rfl (hb hby d_method_2_code_16) ?_
      exact kt
    by_cases hc17 : ((p0 &&& (2147483647 : Int32)) - ((p0 &&& (2147483647 : Int32)) / (3 : Int32)) * (3 : Int32)) = (1 : Int32)
    ·
      obtain ⟨T4, X4, e4, st4⟩ := getS2 X0 hx hZ hown (host := "") (Or.inl (hw _ (List.mem_of_getElem? (i := 26) rfl))) Via.refl e0 S_UNKNOWN (g := (mkF m 20 #[.val (.int p0), .val (.int ((p0 &&& (2147483647 : Int32)) - ((p0 &&& (2147483647 : Int32)) / (3 : Int32)) * (3 : Int32)))] [])) rfl (hb hby d_method_2_code_20)
      obtain ⟨fs, hr, hrun, hended, hW, hsame⟩ := X4.leave (v := some (.ref w_UNKNOWN)) (fun h => by rw [Bd.returns] at h; cases h) hlk
      refine ⟨_, _, K3 _ ?_, hrun, hended, _, _, rfl, ?_, ⟨_, rfl⟩, hW, hsame.mono (by decide) (by decide)⟩
      ·
        show Steps p.tables e below (s₁.setTop (mkF m 17 #[.val (.int p0), .val (.int ((p0 &&& (2147483647 : Int32)) - ((p0 &&& (2147483647 : Int32)) / (3 : Int32)) * (3 : Int32)))] [(.int (1 : Int32)), (.int ((p0 &&& (2147483647 : Int32)) - ((p0 &&& (2147483647 : Int32)) / (3 : Int32)) * (3 : Int32)))])) _
        refine XS.icmpNo X0.here hx rfl (hb hby d_method_2_code_17) rfl (teq hc17).2 ?_
        show Steps p.tables e below (s₁.setTop (mkF m 20 #[.val (.int p0), .val (.int ((p0 &&& (2147483647 : Int32)) - ((p0 &&& (2147483647 : Int32)) / (3 : Int32)) * (3 : Int32)))] [])) _
        refine st4 _ ?_
        show Steps p.tables e below (T4.setTop (mkF m 23 #[.val (.int p0), .val (.int ((p0 &&& (2147483647 : Int32)) - ((p0 &&& (2147483647 : Int32)) / (3 : Int32)) * (3 : Int32)))] [(.ref w_UNKNOWN)])) _
        exact retOut X4 hx Bd.returns rfl (Or.inr (Or.inr (Or.inr (Or.inr ⟨rfl, rfl, rfl⟩)))) (hb hby d_method_2_code_23) hr
      ·
        show Q_rm1 Z p0 w_FALSE w_UNKNOWN w_TRUE h0 n0 _ T4.heap _
        rw [e4]
        refine ⟨?_, N0, rfl⟩
        have hc8 : ¬ ((own_m3 p0) = (0 : Int32)) := hc8
        have hc17 : (own_m3 p0) = (1 : Int32) := hc17
        simp [own_pick, hc8, hc17]
    ·
      obtain ⟨T5, X5, e5, st5⟩ := getS2 X0 hx hZ hown (host := "") (Or.inl (hw _ (List.mem_of_getElem? (i := 25) rfl))) Via.refl e0 S_TRUE (g := (mkF m 24 #[.val (.int p0), .val (.int ((p0 &&& (2147483647 : Int32)) - ((p0 &&& (2147483647 : Int32)) / (3 : Int32)) * (3 : Int32)))] [])) rfl (hb hby d_method_2_code_24)
      obtain ⟨fs, hr, hrun, hended, hW, hsame⟩ := X5.leave (v := some (.ref w_TRUE)) (fun h => by rw [Bd.returns] at h; cases h) hlk
      refine ⟨_, _, K3 _ ?_, hrun, hended, _, _, rfl, ?_, ⟨_, rfl⟩, hW, hsame.mono (by decide) (by decide)⟩
      ·
        show Steps p.tables e below (s₁.setTop (mkF m 17 #[.val (.int p0), .val (.int ((p0 &&& (2147483647 : Int32)) - ((p0 &&& (2147483647 : Int32)) / (3 : Int32)) * (3 : Int32)))] [(.int (1 : Int32)), (.int ((p0 &&& (2147483647 : Int32)) - ((p0 &&& (2147483647 : Int32)) / (3 : Int32)) * (3 : Int32)))])) _
        refine XS.icmpYes X0.here hx rfl (pc0 := 17) (pc' := 24) rfl (hb hby d_method_2_code_17) rfl (feq hc17).2 (by decide) (by decide) ?_
        show Steps p.tables e below (s₁.setTop (mkF m 24 #[.val (.int p0), .val (.int ((p0 &&& (2147483647 : Int32)) - ((p0 &&& (2147483647 : Int32)) / (3 : Int32)) * (3 : Int32)))] [])) _
        refine st5 _ ?_
        show Steps p.tables e below (T5.setTop (mkF m 27 #[.val (.int p0), .val (.int ((p0 &&& (2147483647 : Int32)) - ((p0 &&& (2147483647 : Int32)) / (3 : Int32)) * (3 : Int32)))] [(.ref w_TRUE)])) _
        exact retOut X5 hx Bd.returns rfl (Or.inr (Or.inr (Or.inr (Or.inr ⟨rfl, rfl, rfl⟩)))) (hb hby d_method_2_code_27) hr
      ·
        show Q_rm1 Z p0 w_FALSE w_UNKNOWN w_TRUE h0 n0 _ T5.heap _
        rw [e5]
        refine ⟨?_, N0, rfl⟩
        have hc8 : ¬ ((own_m3 p0) = (0 : Int32)) := hc8
        have hc17 : ¬ ((own_m3 p0) = (1 : Int32)) := hc17
        simp [own_pick, hc8, hc17]
theorem d_prog_37_method_6_code_0 : decode prog_37_method_6_code 0 = .ok (.aload_n 0, 1) := by decide +kernel
theorem d_prog_37_method_6_code_1 : decode prog_37_method_6_code 1 = .ok (.getstatic 3, 3) := by decide +kernel
theorem d_prog_37_method_6_code_4 : decode prog_37_method_6_code 4 = .ok (.if_acmp .eq 10, 3) := by decide +kernel
theorem d_prog_37_method_6_code_14 : decode prog_37_method_6_code 14 = .ok (.getstatic 3, 3) := by decide +kernel
theorem d_prog_37_method_6_code_17 : decode prog_37_method_6_code 17 = .ok (.areturn, 1) := by decide +kernel
theorem d_prog_37_method_6_code_7 : decode prog_37_method_6_code 7 = .ok (.aload_n 1, 1) := by decide +kernel
theorem d_prog_37_method_6_code_8 : decode prog_37_method_6_code 8 = .ok (.getstatic 3, 3) := by decide +kernel
theorem d_prog_37_method_6_code_11 : decode prog_37_method_6_code 11 = .ok (.if_acmp .ne 7, 3) := by decide +kernel
theorem d_prog_37_method_6_code_18 : decode prog_37_method_6_code 18 = .ok (.aload_n 0, 1) := by decide +kernel
theorem d_prog_37_method_6_code_19 : decode prog_37_method_6_code 19 = .ok (.getstatic 10, 3) := by decide +kernel
theorem d_prog_37_method_6_code_22 : decode prog_37_method_6_code 22 = .ok (.if_acmp .eq 10, 3) := by decide +kernel
theorem d_prog_37_method_6_code_32 : decode prog_37_method_6_code 32 = .ok (.getstatic 10, 3) := by decide +kernel
theorem d_prog_37_method_6_code_35 : decode prog_37_method_6_code 35 = .ok (.goto 6, 3) := by decide +kernel
theorem d_prog_37_method_6_code_41 : decode prog_37_method_6_code 41 = .ok (.areturn, 1) := by decide +kernel
theorem d_prog_37_method_6_code_25 : decode prog_37_method_6_code 25 = .ok (.aload_n 1, 1) := by decide +kernel
theorem d_prog_37_method_6_code_26 : decode prog_37_method_6_code 26 = .ok (.getstatic 10, 3) := by decide +kernel
theorem d_prog_37_method_6_code_29 : decode prog_37_method_6_code 29 = .ok (.if_acmp .ne 9, 3) := by decide +kernel
theorem d_prog_37_method_6_code_38 : decode prog_37_method_6_code 38 = .ok (.getstatic 7, 3) := by decide +kernel
theorem pn_1 : plainName "com/example/clearance_for_data/clearancefordata/expression/Truth" = true := by first | (simp [plainName, overriddenIn]; done) | decide +kernel
theorem ef_rm2 (m : MethodId) (x0 : Addr) (x1 : Addr) : entryFrame m #[(.ref x0), (.ref x1)] 2 = mkF m 0 #[.val (.ref x0), .val (.ref x1)] [] := by first | (simp [entryFrame, mkF, argsToLocals, Value.category]; done) | rfl
def Q_rm2 (Z : State) (r0 : Addr) (r1 : Addr) (w_FALSE : Addr) (w_UNKNOWN : Addr) (w_TRUE : Addr) (h0 : Heap) (n0 : Nat) (v : Option Value) (h : Heap) (L : List Loc) : Prop := v = some (.ref (own_or r0 r1 w_FALSE w_UNKNOWN w_TRUE)) ∧ Fr n0 L ∧ h = h0
set_option maxRecDepth 65536 in
set_option maxHeartbeats 40000000 in
theorem rm2 (l : Launch) (Z : State) (a0 : Array Value) (hw : ∀ d ∈ tables_1, d.before a0 Z = true) (ws : List Jvm.Cond) (r0 : Addr) (r1 : Addr) (w_FALSE : Addr) (w_UNKNOWN : Addr) (w_TRUE : Addr) (h0 : Heap) (n0 : Nat) (Z0 : n0 ≤ h0.size) (S_FALSE : Sta Z h0 "com/example/clearance_for_data/clearancefordata/expression/Truth" "FALSE" "Lcom/example/clearance_for_data/clearancefordata/expression/Truth;" (.ref w_FALSE)) (S_UNKNOWN : Sta Z h0 "com/example/clearance_for_data/clearancefordata/expression/Truth" "UNKNOWN" "Lcom/example/clearance_for_data/clearancefordata/expression/Truth;" (.ref w_UNKNOWN)) (S_TRUE : Sta Z h0 "com/example/clearance_for_data/clearancefordata/expression/Truth" "TRUE" "Lcom/example/clearance_for_data/clearancefordata/expression/Truth;" (.ref w_TRUE)) :
    MetFree l (⟨"com/example/clearance_for_data/clearancefordata/expression/Truth", "or", "(Lcom/example/clearance_for_data/clearancefordata/expression/Truth;)Lcom/example/clearance_for_data/clearancefordata/expression/Truth;"⟩ : MethodName) (head1 (Jvm.Cond.code (⟨"com/example/clearance_for_data/clearancefordata/expression/Truth", "or", "(Lcom/example/clearance_for_data/clearancefordata/expression/Truth;)Lcom/example/clearance_for_data/clearancefordata/expression/Truth;"⟩ : MethodName) prog_37_method_6_code 2 (some (.object "com/example/clearance_for_data/clearancefordata/expression/Truth")) :: ws) ({ frames := 0, cells := 0, slots := 0, locals := 0 } : Room)) (fun a U => a = #[(.ref r0), (.ref r1)] ∧ Z.Warmed39 U.vm ∧ U.heap = h0) (fun _ _ _ _ _ => True) (fun _ U o U' => ∃ v L, o = .returned v ∧ Q_rm2 Z r0 r1 w_FALSE w_UNKNOWN w_TRUE h0 n0 v U'.heap L ∧ FrameEnd U o U' L ({ frames := 0, cells := 0, slots := 0, locals := 0 } : Room).cells ({ frames := 0, cells := 0, slots := 0, locals := 0 } : Room).slots) := by
  refine MetFree.of_bodySF (plainFor_of_name pn_1) hisR ?_
  intro p e s m args below meth c s₁ Bd hml0 hP hK
  obtain ⟨rfl, hZ, hh⟩ := hP
  have hx := Bd.exec
  have hby := Bd.bytes
  have hml : c.maxLocals = 2 := hml0
  have hown : s.vm.findClass "com/example/clearance_for_data/clearancefordata/expression/Truth" = some m.cls := findClass_of_methodNamed Bd.named
  have hnm := (name_of_methodNamed Bd.named Bd.method).1
  have hlk : meth.locks = false := by first | exact BodyLoose.notSynchronized (by assumption) | exact Body.notSynchronized (by assumption) | assumption
  have X0 : Stand p l e ({ frames := 0, cells := 0, slots := 0, locals := 0 } : Room) s m #[(.ref r0), (.ref r1)] below meth c s₁ [] 0 0 := Stand.of_body Bd
  have e0 : s₁.heap = h0 := by rw [← hh, Bd.state]; rfl
  have N0 := Fr.nil n0
  have Zn := Z0
  have K0 : ∀ t, Steps p.tables e below (s₁.setTop (mkF m 0 #[.val (.ref r0), .val (.ref r1)] [])) t → Steps p.tables e below (s₁.setTop (entryFrame m #[(.ref r0), (.ref r1)] 2)) t := fun t k => castTop (ef_rm2 m r0 r1) k
  obtain ⟨T1, X1, e1, st1⟩ := getS2 X0 hx hZ hown (host := "") (Or.inl (hw _ (List.mem_of_getElem? (i := 13) rfl))) Via.refl e0 S_TRUE (g := (mkF m 1 #[.val (.ref r0), .val (.ref r1)] [(.ref r0)])) rfl (hb hby d_prog_37_method_6_code_1)
  have K2 : ∀ t, Steps p.tables e below (T1.setTop (mkF m 4 #[.val (.ref r0), .val (.ref r1)] [(.ref w_TRUE), (.ref r0)])) t → Steps p.tables e below (s₁.setTop (entryFrame m #[(.ref r0), (.ref r1)] 2)) t := by
    intro t kt
    refine K0 t ?_
    show Steps p.tables e below (s₁.setTop (mkF m 0 #[.val (.ref r0), .val (.ref r1)] [])) _
    refine XS.aloadN X0.here hx rfl (hb hby d_prog_37_method_6_code_0) rfl rfl ?_
    show Steps p.tables e below (s₁.setTop (mkF m 1 #[.val (.ref r0), .val (.ref r1)] [(.ref r0)])) _
    refine st1 _ ?_
    exact kt
  by_cases hc4 : r0 = w_TRUE
  ·
    obtain ⟨T3, X3, e3, st3⟩ := getS2 X1 hx hZ hown (host := "") (Or.inl (hw _ (List.mem_of_getElem? (i := 13) rfl))) Via.refl e1 S_TRUE (g := (mkF m 14 #[.val (.ref r0), .val (.ref r1)] [])) rfl (hb hby d_prog_37_method_6_code_14)
    obtain ⟨fs, hr, hrun, hended, hW, hsame⟩ := X3.leave (v := some (.ref w_TRUE)) (fun h => by rw [Bd.returns] at h; cases h) hlk
    refine ⟨_, _, K2 _ ?_, hrun, hended, _, _, rfl, ?_, ⟨_, rfl⟩, hW, hsame.mono (by decide) (by decide)⟩
    ·
      show Steps p.tables e below (T1.setTop (mkF m 4 #[.val (.ref r0), .val (.ref r1)] [(.ref w_TRUE), (.ref r0)])) _
      refine Jvm.RoadKit.acmp (g := (mkF m 4 #[.val (.ref r0), .val (.ref r1)] [(.ref w_TRUE), (.ref r0)])) X1 hx rfl rfl rfl (pc0 := 4) (pc' := 14) (same := true) rfl (hb hby d_prog_37_method_6_code_4) rfl (decide_eq_true (congrArg Value.ref hc4)) (by decide) (by decide) ?_
      show Steps p.tables e below (T1.setTop (mkF m 14 #[.val (.ref r0), .val (.ref r1)] [])) _
      refine st3 _ ?_
      show Steps p.tables e below (T3.setTop (mkF m 17 #[.val (.ref r0), .val (.ref r1)] [(.ref w_TRUE)])) _
      exact retOut X3 hx Bd.returns rfl (Or.inr (Or.inr (Or.inr (Or.inr ⟨rfl, rfl, rfl⟩)))) (hb hby d_prog_37_method_6_code_17) hr
    ·
      show Q_rm2 Z r0 r1 w_FALSE w_UNKNOWN w_TRUE h0 n0 _ T3.heap _
      rw [e3]
      refine ⟨?_, N0, rfl⟩
      simp [own_or, hc4]
  ·
    obtain ⟨T4, X4, e4, st4⟩ := getS2 X1 hx hZ hown (host := "") (Or.inl (hw _ (List.mem_of_getElem? (i := 13) rfl))) Via.refl e1 S_TRUE (g := (mkF m 8 #[.val (.ref r0), .val (.ref r1)] [(.ref r1)])) rfl (hb hby d_prog_37_method_6_code_8)
    have K5 : ∀ t, Steps p.tables e below (T4.setTop (mkF m 11 #[.val (.ref r0), .val (.ref r1)] [(.ref w_TRUE), (.ref r1)])) t → Steps p.tables e below (s₁.setTop (entryFrame m #[(.ref r0), (.ref r1)] 2)) t := by
      intro t kt
      refine K2 t ?_
      show Steps p.tables e below (T1.setTop (mkF m 4 #[.val (.ref r0), .val (.ref r1)] [(.ref w_TRUE), (.ref r0)])) _
      refine Jvm.RoadKit.acmp (g := (mkF m 4 #[.val (.ref r0), .val (.ref r1)] [(.ref w_TRUE), (.ref r0)])) X1 hx rfl rfl rfl (pc0 := 4) (pc' := 7) (same := false) rfl (hb hby d_prog_37_method_6_code_4) rfl (decide_eq_false fun q => hc4 (Value.ref.inj q)) (by decide) (by decide) ?_
      show Steps p.tables e below (T1.setTop (mkF m 7 #[.val (.ref r0), .val (.ref r1)] [])) _
      refine XS.aloadN X1.here hx rfl (hb hby d_prog_37_method_6_code_7) rfl rfl ?_
      show Steps p.tables e below (T1.setTop (mkF m 8 #[.val (.ref r0), .val (.ref r1)] [(.ref r1)])) _
      refine st4 _ ?_
      exact kt
    by_cases hc11 : r1 = w_TRUE
    ·
      obtain ⟨T6, X6, e6, st6⟩ := getS2 X4 hx hZ hown (host := "") (Or.inl (hw _ (List.mem_of_getElem? (i := 13) rfl))) Via.refl e4 S_TRUE (g := (mkF m 14 #[.val (.ref r0), .val (.ref r1)] [])) rfl (hb hby d_prog_37_method_6_code_14)
      obtain ⟨fs, hr, hrun, hended, hW, hsame⟩ := X6.leave (v := some (.ref w_TRUE)) (fun h => by rw [Bd.returns] at h; cases h) hlk
      refine ⟨_, _, K5 _ ?_, hrun, hended, _, _, rfl, ?_, ⟨_, rfl⟩, hW, hsame.mono (by decide) (by decide)⟩
      ·
        show Steps p.tables e below (T4.setTop (mkF m 11 #[.val (.ref r0), .val (.ref r1)] [(.ref w_TRUE), (.ref r1)])) _
        refine Jvm.RoadKit.acmp (g := (mkF m 11 #[.val (.ref r0), .val (.ref r1)] [(.ref w_TRUE), (.ref r1)])) X4 hx rfl rfl rfl (pc0 := 11) (pc' := 14) (same := true) rfl (hb hby d_prog_37_method_6_code_11) rfl (decide_eq_true (congrArg Value.ref hc11)) (by decide) (by decide) ?_
        show Steps p.tables e below (T4.setTop (mkF m 14 #[.val (.ref r0), .val (.ref r1)] [])) _
        refine st6 _ ?_
        show Steps p.tables e below (T6.setTop (mkF m 17 #[.val (.ref r0), .val (.ref r1)] [(.ref w_TRUE)])) _
        exact retOut X6 hx Bd.returns rfl (Or.inr (Or.inr (Or.inr (Or.inr ⟨rfl, rfl, rfl⟩)))) (hb hby d_prog_37_method_6_code_17) hr
      ·
        show Q_rm2 Z r0 r1 w_FALSE w_UNKNOWN w_TRUE h0 n0 _ T6.heap _
        rw [e6]
        refine ⟨?_, N0, rfl⟩
        simp [own_or, hc4, hc11]
    ·
      obtain ⟨T7, X7, e7, st7⟩ := getS2 X4 hx hZ hown (host := "") (Or.inl (hw _ (List.mem_of_getElem? (i := 15) rfl))) Via.refl e4 S_UNKNOWN (g := (mkF m 19 #[.val (.ref r0), .val (.ref r1)] [(.ref r0)])) rfl (hb hby d_prog_37_method_6_code_19)
      have K8 : ∀ t, Steps p.tables e below (T7.setTop (mkF m 22 #[.val (.ref r0), .val (.ref r1)] [(.ref w_UNKNOWN), (.ref r0)])) t → Steps p.tables e below (s₁.setTop (entryFrame m #[(.ref r0), (.ref r1)] 2)) t := by
        intro t kt
        refine K5 t ?_
        show Steps p.tables e below (T4.setTop (mkF m 11 #[.val (.ref r0), .val (.ref r1)] [(.ref w_TRUE), (.ref r1)])) _
        refine Jvm.RoadKit.acmp (g := (mkF m 11 #[.val (.ref r0), .val (.ref r1)] [(.ref w_TRUE), (.ref r1)])) X4 hx rfl rfl rfl (pc0 := 11) (pc' := 18) (same := false) rfl (hb hby d_prog_37_method_6_code_11) rfl (decide_eq_false fun q => hc11 (Value.ref.inj q)) (by decide) (by decide) ?_
        show Steps p.tables e below (T4.setTop (mkF m 18 #[.val (.ref r0), .val (.ref r1)] [])) _
        refine XS.aloadN X4.here hx rfl (hb hby d_prog_37_method_6_code_18) rfl rfl ?_
        show Steps p.tables e below (T4.setTop (mkF m 19 #[.val (.ref r0), .val (.ref r1)] [(.ref r0)])) _
        refine st7 _ ?_
        exact kt
      by_cases hc22 : r0 = w_UNKNOWN
      ·
        obtain ⟨T9, X9, e9, st9⟩ := getS2 X7 hx hZ hown (host := "") (Or.inl (hw _ (List.mem_of_getElem? (i := 15) rfl))) Via.refl e7 S_UNKNOWN (g := (mkF m 32 #[.val (.ref r0), .val (.ref r1)] [])) rfl (hb hby d_prog_37_method_6_code_32)
        obtain ⟨fs, hr, hrun, hended, hW, hsame⟩ := X9.leave (v := some (.ref w_UNKNOWN)) (fun h => by rw [Bd.returns] at h; cases h) hlk
        refine ⟨_, _, K8 _ ?_, hrun, hended, _, _, rfl, ?_, ⟨_, rfl⟩, hW, hsame.mono (by decide) (by decide)⟩
        ·
          show Steps p.tables e below (T7.setTop (mkF m 22 #[.val (.ref r0), .val (.ref r1)] [(.ref w_UNKNOWN), (.ref r0)])) _
          refine Jvm.RoadKit.acmp (g := (mkF m 22 #[.val (.ref r0), .val (.ref r1)] [(.ref w_UNKNOWN), (.ref r0)])) X7 hx rfl rfl rfl (pc0 := 22) (pc' := 32) (same := true) rfl (hb hby d_prog_37_method_6_code_22) rfl (decide_eq_true (congrArg Value.ref hc22)) (by decide) (by decide) ?_
          show Steps p.tables e below (T7.setTop (mkF m 32 #[.val (.ref r0), .val (.ref r1)] [])) _
          refine st9 _ ?_
          show Steps p.tables e below (T9.setTop (mkF m 35 #[.val (.ref r0), .val (.ref r1)] [(.ref w_UNKNOWN)])) _
          refine XS.goto X9.here hx rfl (pc0 := 35) (pc' := 41) rfl (hb hby d_prog_37_method_6_code_35) (by decide) (by decide) ?_
          show Steps p.tables e below (T9.setTop (mkF m 41 #[.val (.ref r0), .val (.ref r1)] [(.ref w_UNKNOWN)])) _
          exact retOut X9 hx Bd.returns rfl (Or.inr (Or.inr (Or.inr (Or.inr ⟨rfl, rfl, rfl⟩)))) (hb hby d_prog_37_method_6_code_41) hr
        ·
          show Q_rm2 Z r0 r1 w_FALSE w_UNKNOWN w_TRUE h0 n0 _ T9.heap _
          rw [e9]
          refine ⟨?_, N0, rfl⟩
          simp [own_or, hc4, hc11, hc22]
      ·
        obtain ⟨T10, X10, e10, st10⟩ := getS2 X7 hx hZ hown (host := "") (Or.inl (hw _ (List.mem_of_getElem? (i := 15) rfl))) Via.refl e7 S_UNKNOWN (g := (mkF m 26 #[.val (.ref r0), .val (.ref r1)] [(.ref r1)])) rfl (hb hby d_prog_37_method_6_code_26)
        have K11 : ∀ t, Steps p.tables e below (T10.setTop (mkF m 29 #[.val (.ref r0), .val (.ref r1)] [(.ref w_UNKNOWN), (.ref r1)])) t → Steps p.tables e below (s₁.setTop (entryFrame m #[(.ref r0), (.ref r1)] 2)) t := by
          intro t kt
          refine K8 t ?_
          show Steps p.tables e below (T7.setTop (mkF m 22 #[.val (.ref r0), .val (.ref r1)] [(.ref w_UNKNOWN), (.ref r0)])) _
          refine Jvm.RoadKit.acmp (g := (mkF m 22 #[.val (.ref r0), .val (.ref r1)] [(.ref w_UNKNOWN), (.ref r0)])) X7 hx rfl rfl rfl (pc0 := 22) (pc' := 25) (same := false) rfl (hb hby d_prog_37_method_6_code_22) rfl (decide_eq_false fun q => hc22 (Value.ref.inj q)) (by decide) (by decide) ?_
          show Steps p.tables e below (T7.setTop (mkF m 25 #[.val (.ref r0), .val (.ref r1)] [])) _
          refine XS.aloadN X7.here hx rfl (hb hby d_prog_37_method_6_code_25) rfl rfl ?_
          show Steps p.tables e below (T7.setTop (mkF m 26 #[.val (.ref r0), .val (.ref r1)] [(.ref r1)])) _
          refine st10 _ ?_
          exact kt
        by_cases hc29 : r1 = w_UNKNOWN
        ·
          obtain ⟨T12, X12, e12, st12⟩ := getS2 X10 hx hZ hown (host := "") (Or.inl (hw _ (List.mem_of_getElem? (i := 15) rfl))) Via.refl e10 S_UNKNOWN (g := (mkF m 32 #[.val (.ref r0), .val (.ref r1)] [])) rfl (hb hby d_prog_37_method_6_code_32)
          obtain ⟨fs, hr, hrun, hended, hW, hsame⟩ := X12.leave (v := some (.ref w_UNKNOWN)) (fun h => by rw [Bd.returns] at h; cases h) hlk
          refine ⟨_, _, K11 _ ?_, hrun, hended, _, _, rfl, ?_, ⟨_, rfl⟩, hW, hsame.mono (by decide) (by decide)⟩
          ·
            show Steps p.tables e below (T10.setTop (mkF m 29 #[.val (.ref r0), .val (.ref r1)] [(.ref w_UNKNOWN), (.ref r1)])) _
            refine Jvm.RoadKit.acmp (g := (mkF m 29 #[.val (.ref r0), .val (.ref r1)] [(.ref w_UNKNOWN), (.ref r1)])) X10 hx rfl rfl rfl (pc0 := 29) (pc' := 32) (same := true) rfl (hb hby d_prog_37_method_6_code_29) rfl (decide_eq_true (congrArg Value.ref hc29)) (by decide) (by decide) ?_
            show Steps p.tables e below (T10.setTop (mkF m 32 #[.val (.ref r0), .val (.ref r1)] [])) _
            refine st12 _ ?_
            show Steps p.tables e below (T12.setTop (mkF m 35 #[.val (.ref r0), .val (.ref r1)] [(.ref w_UNKNOWN)])) _
            refine XS.goto X12.here hx rfl (pc0 := 35) (pc' := 41) rfl (hb hby d_prog_37_method_6_code_35) (by decide) (by decide) ?_
            show Steps p.tables e below (T12.setTop (mkF m 41 #[.val (.ref r0), .val (.ref r1)] [(.ref w_UNKNOWN)])) _
            exact retOut X12 hx Bd.returns rfl (Or.inr (Or.inr (Or.inr (Or.inr ⟨rfl, rfl, rfl⟩)))) (hb hby d_prog_37_method_6_code_41) hr
          ·
            show Q_rm2 Z r0 r1 w_FALSE w_UNKNOWN w_TRUE h0 n0 _ T12.heap _
            rw [e12]
            refine ⟨?_, N0, rfl⟩
            simp [own_or, hc4, hc11, hc22, hc29]
        ·
          obtain ⟨T13, X13, e13, st13⟩ := getS2 X10 hx hZ hown (host := "") (Or.inl (hw _ (List.mem_of_getElem? (i := 17) rfl))) Via.refl e10 S_FALSE (g := (mkF m 38 #[.val (.ref r0), .val (.ref r1)] [])) rfl (hb hby d_prog_37_method_6_code_38)
          obtain ⟨fs, hr, hrun, hended, hW, hsame⟩ := X13.leave (v := some (.ref w_FALSE)) (fun h => by rw [Bd.returns] at h; cases h) hlk
          refine ⟨_, _, K11 _ ?_, hrun, hended, _, _, rfl, ?_, ⟨_, rfl⟩, hW, hsame.mono (by decide) (by decide)⟩
          ·
            show Steps p.tables e below (T10.setTop (mkF m 29 #[.val (.ref r0), .val (.ref r1)] [(.ref w_UNKNOWN), (.ref r1)])) _
            refine Jvm.RoadKit.acmp (g := (mkF m 29 #[.val (.ref r0), .val (.ref r1)] [(.ref w_UNKNOWN), (.ref r1)])) X10 hx rfl rfl rfl (pc0 := 29) (pc' := 38) (same := false) rfl (hb hby d_prog_37_method_6_code_29) rfl (decide_eq_false fun q => hc29 (Value.ref.inj q)) (by decide) (by decide) ?_
            show Steps p.tables e below (T10.setTop (mkF m 38 #[.val (.ref r0), .val (.ref r1)] [])) _
            refine st13 _ ?_
            show Steps p.tables e below (T13.setTop (mkF m 41 #[.val (.ref r0), .val (.ref r1)] [(.ref w_FALSE)])) _
            exact retOut X13 hx Bd.returns rfl (Or.inr (Or.inr (Or.inr (Or.inr ⟨rfl, rfl, rfl⟩)))) (hb hby d_prog_37_method_6_code_41) hr
          ·
            show Q_rm2 Z r0 r1 w_FALSE w_UNKNOWN w_TRUE h0 n0 _ T13.heap _
            rw [e13]
            refine ⟨?_, N0, rfl⟩
            simp [own_or, hc4, hc11, hc22, hc29]
theorem d_method_3_code_0 : decode method_3_code 0 = .ok (.aload_n 0, 1) := by decide +kernel
theorem d_method_3_code_1 : decode method_3_code 1 = .ok (.getstatic 8, 3) := by decide +kernel
theorem d_method_3_code_4 : decode method_3_code 4 = .ok (.if_acmp .ne 5, 3) := by decide +kernel
theorem d_method_3_code_7 : decode method_3_code 7 = .ok (.iconst 0, 1) := by decide +kernel
theorem d_method_3_code_8 : decode method_3_code 8 = .ok (.ireturn, 1) := by decide +kernel
theorem d_method_3_code_9 : decode method_3_code 9 = .ok (.aload_n 0, 1) := by decide +kernel
theorem d_method_3_code_10 : decode method_3_code 10 = .ok (.getstatic 14, 3) := by decide +kernel
theorem d_method_3_code_13 : decode method_3_code 13 = .ok (.if_acmp .ne 5, 3) := by decide +kernel
theorem d_method_3_code_16 : decode method_3_code 16 = .ok (.iconst 1, 1) := by decide +kernel
theorem d_method_3_code_17 : decode method_3_code 17 = .ok (.ireturn, 1) := by decide +kernel
theorem d_method_3_code_18 : decode method_3_code 18 = .ok (.aload_n 0, 1) := by decide +kernel
theorem d_method_3_code_19 : decode method_3_code 19 = .ok (.getstatic 17, 3) := by decide +kernel
theorem d_method_3_code_22 : decode method_3_code 22 = .ok (.if_acmp .ne 5, 3) := by decide +kernel
theorem d_method_3_code_25 : decode method_3_code 25 = .ok (.iconst 2, 1) := by decide +kernel
theorem d_method_3_code_26 : decode method_3_code 26 = .ok (.ireturn, 1) := by decide +kernel
theorem d_method_3_code_27 : decode method_3_code 27 = .ok (.iconst (-1), 1) := by decide +kernel
theorem d_method_3_code_28 : decode method_3_code 28 = .ok (.ireturn, 1) := by decide +kernel
theorem ef_rm4 (m : MethodId) (x0 : Addr) : entryFrame m #[(.ref x0)] 1 = mkF m 0 #[.val (.ref x0)] [] := by first | (simp [entryFrame, mkF, argsToLocals, Value.category]; done) | rfl
def Q_rm4 (Z : State) (r0 : Addr) (w_FALSE : Addr) (w_UNKNOWN : Addr) (w_TRUE : Addr) (h0 : Heap) (n0 : Nat) (v : Option Value) (h : Heap) (L : List Loc) : Prop := v = some (.int (own_rank r0 w_FALSE w_UNKNOWN w_TRUE)) ∧ Fr n0 L ∧ h = h0
set_option maxRecDepth 65536 in
set_option maxHeartbeats 40000000 in
theorem rm4 (l : Launch) (Z : State) (a0 : Array Value) (hw : ∀ d ∈ tables_1, d.before a0 Z = true) (ws : List Jvm.Cond) (r0 : Addr) (w_FALSE : Addr) (w_UNKNOWN : Addr) (w_TRUE : Addr) (h0 : Heap) (n0 : Nat) (Z0 : n0 ≤ h0.size) (S_FALSE : Sta Z h0 "com/example/clearance_for_data/clearancefordata/expression/Truth" "FALSE" "Lcom/example/clearance_for_data/clearancefordata/expression/Truth;" (.ref w_FALSE)) (S_UNKNOWN : Sta Z h0 "com/example/clearance_for_data/clearancefordata/expression/Truth" "UNKNOWN" "Lcom/example/clearance_for_data/clearancefordata/expression/Truth;" (.ref w_UNKNOWN)) (S_TRUE : Sta Z h0 "com/example/clearance_for_data/clearancefordata/expression/Truth" "TRUE" "Lcom/example/clearance_for_data/clearancefordata/expression/Truth;" (.ref w_TRUE)) :
    MetFree l (⟨"com/example/clearance_for_data/clearancefordata/expression/TruthOrPinLaw", "rank", "(Lcom/example/clearance_for_data/clearancefordata/expression/Truth;)I"⟩ : MethodName) (head1 (Jvm.Cond.code (⟨"com/example/clearance_for_data/clearancefordata/expression/TruthOrPinLaw", "rank", "(Lcom/example/clearance_for_data/clearancefordata/expression/Truth;)I"⟩ : MethodName) method_3_code 1 (some .int) :: ws) ({ frames := 0, cells := 0, slots := 0, locals := 0 } : Room)) (fun a U => a = #[(.ref r0)] ∧ Z.Warmed39 U.vm ∧ U.heap = h0) (fun _ _ _ _ _ => True) (fun _ U o U' => ∃ v L, o = .returned v ∧ Q_rm4 Z r0 w_FALSE w_UNKNOWN w_TRUE h0 n0 v U'.heap L ∧ FrameEnd U o U' L ({ frames := 0, cells := 0, slots := 0, locals := 0 } : Room).cells ({ frames := 0, cells := 0, slots := 0, locals := 0 } : Room).slots) := by
  refine MetFree.of_bodySF (plainFor_of_name pn_0) hisR ?_
  intro p e s m args below meth c s₁ Bd hml0 hP hK
  obtain ⟨rfl, hZ, hh⟩ := hP
  have hx := Bd.exec
  have hby := Bd.bytes
  have hml : c.maxLocals = 1 := hml0
  have hown : s.vm.findClass "com/example/clearance_for_data/clearancefordata/expression/TruthOrPinLaw" = some m.cls := findClass_of_methodNamed Bd.named
  have hnm := (name_of_methodNamed Bd.named Bd.method).1
  have hlk : meth.locks = false := by first | exact BodyLoose.notSynchronized (by assumption) | exact Body.notSynchronized (by assumption) | assumption
  have X0 : Stand p l e ({ frames := 0, cells := 0, slots := 0, locals := 0 } : Room) s m #[(.ref r0)] below meth c s₁ [] 0 0 := Stand.of_body Bd
  have e0 : s₁.heap = h0 := by rw [← hh, Bd.state]; rfl
  have N0 := Fr.nil n0
  have Zn := Z0
  have K0 : ∀ t, Steps p.tables e below (s₁.setTop (mkF m 0 #[.val (.ref r0)] [])) t → Steps p.tables e below (s₁.setTop (entryFrame m #[(.ref r0)] 1)) t := fun t k => castTop (ef_rm4 m r0) k
  obtain ⟨T1, X1, e1, st1⟩ := getS2 X0 hx hZ hown (host := "") (Or.inl (hw _ (List.mem_of_getElem? (i := 5) rfl))) Via.refl e0 S_FALSE (g := (mkF m 1 #[.val (.ref r0)] [(.ref r0)])) rfl (hb hby d_method_3_code_1)
  have K2 : ∀ t, Steps p.tables e below (T1.setTop (mkF m 4 #[.val (.ref r0)] [(.ref w_FALSE), (.ref r0)])) t → Steps p.tables e below (s₁.setTop (entryFrame m #[(.ref r0)] 1)) t := by
    intro t kt
    refine K0 t ?_
    show Steps p.tables e below (s₁.setTop (mkF m 0 #[.val (.ref r0)] [])) _
    refine XS.aloadN X0.here hx rfl (hb hby d_method_3_code_0) rfl rfl ?_
    show Steps p.tables e below (s₁.setTop (mkF m 1 #[.val (.ref r0)] [(.ref r0)])) _
    refine st1 _ ?_
    exact kt
  by_cases hc4 : r0 = w_FALSE
  ·
    obtain ⟨fs, hr, hrun, hended, hW, hsame⟩ := X1.leave (v := some (.int (0 : Int32))) (fun h => by rw [Bd.returns] at h; cases h) hlk
    refine ⟨_, _, K2 _ ?_, hrun, hended, _, _, rfl, ?_, ⟨_, rfl⟩, hW, hsame.mono (by decide) (by decide)⟩
    ·
      show Steps p.tables e below (T1.setTop (mkF m 4 #[.val (.ref r0)] [(.ref w_FALSE), (.ref r0)])) _
      refine Jvm.RoadKit.acmp (g := (mkF m 4 #[.val (.ref r0)] [(.ref w_FALSE), (.ref r0)])) X1 hx rfl rfl rfl (pc0 := 4) (pc' := 7) (same := true) rfl (hb hby d_method_3_code_4) rfl (decide_eq_true (congrArg Value.ref hc4)) (by decide) (by decide) ?_
      show Steps p.tables e below (T1.setTop (mkF m 7 #[.val (.ref r0)] [])) _
      refine XS.iconst X1.here hx rfl (hb hby d_method_3_code_7) ?_
      show Steps p.tables e below (T1.setTop (mkF m 8 #[.val (.ref r0)] [(.int (0 : Int32))])) _
      exact retI X1 hx Bd.returns (hb hby d_method_3_code_8) hr
    ·
      show Q_rm4 Z r0 w_FALSE w_UNKNOWN w_TRUE h0 n0 _ T1.heap _
      rw [e1]
      refine ⟨?_, N0, rfl⟩
      unfold own_rank
      rw [if_pos hc4]
  ·
    obtain ⟨T3, X3, e3, st3⟩ := getS2 X1 hx hZ hown (host := "") (Or.inl (hw _ (List.mem_of_getElem? (i := 26) rfl))) Via.refl e1 S_UNKNOWN (g := (mkF m 10 #[.val (.ref r0)] [(.ref r0)])) rfl (hb hby d_method_3_code_10)
    have K4 : ∀ t, Steps p.tables e below (T3.setTop (mkF m 13 #[.val (.ref r0)] [(.ref w_UNKNOWN), (.ref r0)])) t → Steps p.tables e below (s₁.setTop (entryFrame m #[(.ref r0)] 1)) t := by
      intro t kt
      refine K2 t ?_
      show Steps p.tables e below (T1.setTop (mkF m 4 #[.val (.ref r0)] [(.ref w_FALSE), (.ref r0)])) _
      refine Jvm.RoadKit.acmp (g := (mkF m 4 #[.val (.ref r0)] [(.ref w_FALSE), (.ref r0)])) X1 hx rfl rfl rfl (pc0 := 4) (pc' := 9) (same := false) rfl (hb hby d_method_3_code_4) rfl (decide_eq_false fun q => hc4 (Value.ref.inj q)) (by decide) (by decide) ?_
      show Steps p.tables e below (T1.setTop (mkF m 9 #[.val (.ref r0)] [])) _
      refine XS.aloadN X1.here hx rfl (hb hby d_method_3_code_9) rfl rfl ?_
      show Steps p.tables e below (T1.setTop (mkF m 10 #[.val (.ref r0)] [(.ref r0)])) _
      refine st3 _ ?_
      exact kt
    by_cases hc13 : r0 = w_UNKNOWN
    ·
      obtain ⟨fs, hr, hrun, hended, hW, hsame⟩ := X3.leave (v := some (.int (1 : Int32))) (fun h => by rw [Bd.returns] at h; cases h) hlk
      refine ⟨_, _, K4 _ ?_, hrun, hended, _, _, rfl, ?_, ⟨_, rfl⟩, hW, hsame.mono (by decide) (by decide)⟩
      ·
        show Steps p.tables e below (T3.setTop (mkF m 13 #[.val (.ref r0)] [(.ref w_UNKNOWN), (.ref r0)])) _
        refine Jvm.RoadKit.acmp (g := (mkF m 13 #[.val (.ref r0)] [(.ref w_UNKNOWN), (.ref r0)])) X3 hx rfl rfl rfl (pc0 := 13) (pc' := 16) (same := true) rfl (hb hby d_method_3_code_13) rfl (decide_eq_true (congrArg Value.ref hc13)) (by decide) (by decide) ?_
        show Steps p.tables e below (T3.setTop (mkF m 16 #[.val (.ref r0)] [])) _
        refine XS.iconst X3.here hx rfl (hb hby d_method_3_code_16) ?_
        show Steps p.tables e below (T3.setTop (mkF m 17 #[.val (.ref r0)] [(.int (1 : Int32))])) _
        exact retI X3 hx Bd.returns (hb hby d_method_3_code_17) hr
      ·
        show Q_rm4 Z r0 w_FALSE w_UNKNOWN w_TRUE h0 n0 _ T3.heap _
        rw [e3]
        refine ⟨?_, N0, rfl⟩
        unfold own_rank
        rw [if_neg hc4, if_pos hc13]
    ·
      obtain ⟨T5, X5, e5, st5⟩ := getS2 X3 hx hZ hown (host := "") (Or.inl (hw _ (List.mem_of_getElem? (i := 25) rfl))) Via.refl e3 S_TRUE (g := (mkF m 19 #[.val (.ref r0)] [(.ref r0)])) rfl (hb hby d_method_3_code_19)
      have K6 : ∀ t, Steps p.tables e below (T5.setTop (mkF m 22 #[.val (.ref r0)] [(.ref w_TRUE), (.ref r0)])) t → Steps p.tables e below (s₁.setTop (entryFrame m #[(.ref r0)] 1)) t := by
        intro t kt
        refine K4 t ?_
        show Steps p.tables e below (T3.setTop (mkF m 13 #[.val (.ref r0)] [(.ref w_UNKNOWN), (.ref r0)])) _
        refine Jvm.RoadKit.acmp (g := (mkF m 13 #[.val (.ref r0)] [(.ref w_UNKNOWN), (.ref r0)])) X3 hx rfl rfl rfl (pc0 := 13) (pc' := 18) (same := false) rfl (hb hby d_method_3_code_13) rfl (decide_eq_false fun q => hc13 (Value.ref.inj q)) (by decide) (by decide) ?_
        show Steps p.tables e below (T3.setTop (mkF m 18 #[.val (.ref r0)] [])) _
        refine XS.aloadN X3.here hx rfl (hb hby d_method_3_code_18) rfl rfl ?_
        show Steps p.tables e below (T3.setTop (mkF m 19 #[.val (.ref r0)] [(.ref r0)])) _
        refine st5 _ ?_
        exact kt
      by_cases hc22 : r0 = w_TRUE
      ·
        obtain ⟨fs, hr, hrun, hended, hW, hsame⟩ := X5.leave (v := some (.int (2 : Int32))) (fun h => by rw [Bd.returns] at h; cases h) hlk
        refine ⟨_, _, K6 _ ?_, hrun, hended, _, _, rfl, ?_, ⟨_, rfl⟩, hW, hsame.mono (by decide) (by decide)⟩
        ·
          show Steps p.tables e below (T5.setTop (mkF m 22 #[.val (.ref r0)] [(.ref w_TRUE), (.ref r0)])) _
          refine Jvm.RoadKit.acmp (g := (mkF m 22 #[.val (.ref r0)] [(.ref w_TRUE), (.ref r0)])) X5 hx rfl rfl rfl (pc0 := 22) (pc' := 25) (same := true) rfl (hb hby d_method_3_code_22) rfl (decide_eq_true (congrArg Value.ref hc22)) (by decide) (by decide) ?_
          show Steps p.tables e below (T5.setTop (mkF m 25 #[.val (.ref r0)] [])) _
          refine XS.iconst X5.here hx rfl (hb hby d_method_3_code_25) ?_
          show Steps p.tables e below (T5.setTop (mkF m 26 #[.val (.ref r0)] [(.int (2 : Int32))])) _
          exact retI X5 hx Bd.returns (hb hby d_method_3_code_26) hr
        ·
          show Q_rm4 Z r0 w_FALSE w_UNKNOWN w_TRUE h0 n0 _ T5.heap _
          rw [e5]
          refine ⟨?_, N0, rfl⟩
          unfold own_rank
          rw [if_neg hc4, if_neg hc13, if_pos hc22]
      ·
        obtain ⟨fs, hr, hrun, hended, hW, hsame⟩ := X5.leave (v := some (.int (-1 : Int32))) (fun h => by rw [Bd.returns] at h; cases h) hlk
        refine ⟨_, _, K6 _ ?_, hrun, hended, _, _, rfl, ?_, ⟨_, rfl⟩, hW, hsame.mono (by decide) (by decide)⟩
        ·
          show Steps p.tables e below (T5.setTop (mkF m 22 #[.val (.ref r0)] [(.ref w_TRUE), (.ref r0)])) _
          refine Jvm.RoadKit.acmp (g := (mkF m 22 #[.val (.ref r0)] [(.ref w_TRUE), (.ref r0)])) X5 hx rfl rfl rfl (pc0 := 22) (pc' := 27) (same := false) rfl (hb hby d_method_3_code_22) rfl (decide_eq_false fun q => hc22 (Value.ref.inj q)) (by decide) (by decide) ?_
          show Steps p.tables e below (T5.setTop (mkF m 27 #[.val (.ref r0)] [])) _
          refine XS.iconst X5.here hx rfl (hb hby d_method_3_code_27) ?_
          show Steps p.tables e below (T5.setTop (mkF m 28 #[.val (.ref r0)] [(.int (-1 : Int32))])) _
          exact retI X5 hx Bd.returns (hb hby d_method_3_code_28) hr
        ·
          show Q_rm4 Z r0 w_FALSE w_UNKNOWN w_TRUE h0 n0 _ T5.heap _
          rw [e5]
          refine ⟨?_, N0, rfl⟩
          unfold own_rank
          rw [if_neg hc4, if_neg hc13, if_neg hc22]
theorem d_jdk_29_method_65_code_0 : decode jdk_29_method_65_code 0 = .ok (.iload_n 0, 1) := by decide +kernel
theorem d_jdk_29_method_65_code_1 : decode jdk_29_method_65_code 1 = .ok (.iload_n 1, 1) := by decide +kernel
theorem d_jdk_29_method_65_code_2 : decode jdk_29_method_65_code 2 = .ok (.if_icmp .lt 7, 3) := by decide +kernel
theorem d_jdk_29_method_65_code_9 : decode jdk_29_method_65_code 9 = .ok (.iload_n 1, 1) := by decide +kernel
theorem d_jdk_29_method_65_code_10 : decode jdk_29_method_65_code 10 = .ok (.ireturn, 1) := by decide +kernel
theorem d_jdk_29_method_65_code_5 : decode jdk_29_method_65_code 5 = .ok (.iload_n 0, 1) := by decide +kernel
theorem d_jdk_29_method_65_code_6 : decode jdk_29_method_65_code 6 = .ok (.goto 4, 3) := by decide +kernel
theorem ef_rm3 (m : MethodId) (x0 : Int32) (x1 : Int32) : entryFrame m #[(.int x0), (.int x1)] 2 = mkF m 0 #[.val (.int x0), .val (.int x1)] [] := by first | (simp [entryFrame, mkF, argsToLocals, Value.category]; done) | rfl
def Q_rm3 (Z : State) (p0 : Int32) (p1 : Int32) (h0 : Heap) (n0 : Nat) (v : Option Value) (h : Heap) (L : List Loc) : Prop := v = some (.int (own_max p0 p1)) ∧ Fr n0 L ∧ h = h0
set_option maxRecDepth 65536 in
set_option maxHeartbeats 40000000 in
theorem rm3 (l : Launch) (Z : State) (a0 : Array Value) (hw : ∀ d ∈ tables_1, d.before a0 Z = true) (ws : List Jvm.Cond) (p0 : Int32) (p1 : Int32) (h0 : Heap) (n0 : Nat) (Z0 : n0 ≤ h0.size) :
    MetFree l (⟨"java/lang/Math", "max", "(II)I"⟩ : MethodName) (head1 (Jvm.Cond.code (⟨"java/lang/Math", "max", "(II)I"⟩ : MethodName) jdk_29_method_65_code 2 (some .int) :: ws) ({ frames := 0, cells := 0, slots := 0, locals := 0 } : Room)) (fun a U => a = #[(.int p0), (.int p1)] ∧ Z.Warmed39 U.vm ∧ U.heap = h0) (fun _ _ _ _ _ => True) (fun _ U o U' => ∃ v L, o = .returned v ∧ Q_rm3 Z p0 p1 h0 n0 v U'.heap L ∧ FrameEnd U o U' L ({ frames := 0, cells := 0, slots := 0, locals := 0 } : Room).cells ({ frames := 0, cells := 0, slots := 0, locals := 0 } : Room).slots) := by
  refine MetFree.of_bodySF (Jvm.Free.JP.mathPlain rfl (by decide +kernel)) hisR ?_
  intro p e s m args below meth c s₁ Bd hml0 hP hK
  obtain ⟨rfl, hZ, hh⟩ := hP
  have hx := Bd.exec
  have hby := Bd.bytes
  have hml : c.maxLocals = 2 := hml0
  have hown : s.vm.findClass "java/lang/Math" = some m.cls := findClass_of_methodNamed Bd.named
  have hnm := (name_of_methodNamed Bd.named Bd.method).1
  have hlk : meth.locks = false := by first | exact BodyLoose.notSynchronized (by assumption) | exact Body.notSynchronized (by assumption) | assumption
  have X0 : Stand p l e ({ frames := 0, cells := 0, slots := 0, locals := 0 } : Room) s m #[(.int p0), (.int p1)] below meth c s₁ [] 0 0 := Stand.of_body Bd
  have e0 : s₁.heap = h0 := by rw [← hh, Bd.state]; rfl
  have N0 := Fr.nil n0
  have Zn := Z0
  have K0 : ∀ t, Steps p.tables e below (s₁.setTop (mkF m 0 #[.val (.int p0), .val (.int p1)] [])) t → Steps p.tables e below (s₁.setTop (entryFrame m #[(.int p0), (.int p1)] 2)) t := fun t k => castTop (ef_rm3 m p0 p1) k
  have K1 : ∀ t, Steps p.tables e below (s₁.setTop (mkF m 2 #[.val (.int p0), .val (.int p1)] [(.int p1), (.int p0)])) t → Steps p.tables e below (s₁.setTop (entryFrame m #[(.int p0), (.int p1)] 2)) t := by
    intro t kt
    refine K0 t ?_
    show Steps p.tables e below (s₁.setTop (mkF m 0 #[.val (.int p0), .val (.int p1)] [])) _
    refine XS.iloadN X0.here hx rfl (hb hby d_jdk_29_method_65_code_0) rfl ?_
    show Steps p.tables e below (s₁.setTop (mkF m 1 #[.val (.int p0), .val (.int p1)] [(.int p0)])) _
    refine XS.iloadN X0.here hx rfl (hb hby d_jdk_29_method_65_code_1) rfl ?_
    exact kt
  by_cases hc2 : p0 < p1
  ·
    obtain ⟨fs, hr, hrun, hended, hW, hsame⟩ := X0.leave (v := some (.int p1)) (fun h => by rw [Bd.returns] at h; cases h) hlk
    refine ⟨_, _, K1 _ ?_, hrun, hended, _, _, rfl, ?_, ⟨_, rfl⟩, hW, hsame.mono (by decide) (by decide)⟩
    ·
      show Steps p.tables e below (s₁.setTop (mkF m 2 #[.val (.int p0), .val (.int p1)] [(.int p1), (.int p0)])) _
      refine XS.icmpYes X0.here hx rfl (pc0 := 2) (pc' := 9) rfl (hb hby d_jdk_29_method_65_code_2) rfl (tlt hc2).1 (by decide) (by decide) ?_
      show Steps p.tables e below (s₁.setTop (mkF m 9 #[.val (.int p0), .val (.int p1)] [])) _
      refine XS.iloadN X0.here hx rfl (hb hby d_jdk_29_method_65_code_9) rfl ?_
      show Steps p.tables e below (s₁.setTop (mkF m 10 #[.val (.int p0), .val (.int p1)] [(.int p1)])) _
      exact retI X0 hx Bd.returns (hb hby d_jdk_29_method_65_code_10) hr
    ·
      show Q_rm3 Z p0 p1 h0 n0 _ s₁.heap _
      rw [e0]
      refine ⟨?_, N0, rfl⟩
      simp [own_max, hc2]
  ·
    obtain ⟨fs, hr, hrun, hended, hW, hsame⟩ := X0.leave (v := some (.int p0)) (fun h => by rw [Bd.returns] at h; cases h) hlk
    refine ⟨_, _, K1 _ ?_, hrun, hended, _, _, rfl, ?_, ⟨_, rfl⟩, hW, hsame.mono (by decide) (by decide)⟩
    ·
      show Steps p.tables e below (s₁.setTop (mkF m 2 #[.val (.int p0), .val (.int p1)] [(.int p1), (.int p0)])) _
      refine XS.icmpNo X0.here hx rfl (hb hby d_jdk_29_method_65_code_2) rfl (flt hc2).1 ?_
      show Steps p.tables e below (s₁.setTop (mkF m 5 #[.val (.int p0), .val (.int p1)] [])) _
      refine XS.iloadN X0.here hx rfl (hb hby d_jdk_29_method_65_code_5) rfl ?_
      show Steps p.tables e below (s₁.setTop (mkF m 6 #[.val (.int p0), .val (.int p1)] [(.int p0)])) _
      refine XS.goto X0.here hx rfl (pc0 := 6) (pc' := 10) rfl (hb hby d_jdk_29_method_65_code_6) (by decide) (by decide) ?_
      show Steps p.tables e below (s₁.setTop (mkF m 10 #[.val (.int p0), .val (.int p1)] [(.int p0)])) _
      exact retI X0 hx Bd.returns (hb hby d_jdk_29_method_65_code_10) hr
    ·
      show Q_rm3 Z p0 p1 h0 n0 _ s₁.heap _
      rw [e0]
      refine ⟨?_, N0, rfl⟩
      simp [own_max, hc2]
theorem pd_2 : parseMethodDescriptor "(I)Lcom/example/clearance_for_data/clearancefordata/expression/Truth;" = some ⟨[.int], some (.object "com/example/clearance_for_data/clearancefordata/expression/Truth")⟩ := by decide +kernel
theorem pd_3 : parseMethodDescriptor "(Lcom/example/clearance_for_data/clearancefordata/expression/Truth;)Lcom/example/clearance_for_data/clearancefordata/expression/Truth;" = some ⟨[(.object "com/example/clearance_for_data/clearancefordata/expression/Truth")], some (.object "com/example/clearance_for_data/clearancefordata/expression/Truth")⟩ := by decide +kernel
theorem pd_4 : parseMethodDescriptor "(Lcom/example/clearance_for_data/clearancefordata/expression/Truth;)I" = some ⟨[(.object "com/example/clearance_for_data/clearancefordata/expression/Truth")], some .int⟩ := by decide +kernel
theorem pd_5 : parseMethodDescriptor "(II)I" = some ⟨[.int, .int], some .int⟩ := by decide +kernel
theorem ef_rm0 (m : MethodId) (x0 : Int32) (x1 : Int32) : entryFrame m #[(.int x0), (.int x1)] maxLocals = mkF m 0 #[.val (.int x0), .val (.int x1), .unset, .unset, .unset, .unset] [] := by first | (simp [entryFrame, mkF, argsToLocals, Value.category, maxLocals]; done) | rfl
def Q_rm0 (Z : State) (p0 : Int32) (p1 : Int32) (w_FALSE : Addr) (w_UNKNOWN : Addr) (w_TRUE : Addr) (h0 : Heap) (n0 : Nat) (v : Option Value) (h : Heap) (L : List Loc) : Prop := v = some (.int 1) ∧ Fr n0 L
set_option maxRecDepth 65536 in
set_option maxHeartbeats 40000000 in
theorem rm0 (l : Launch) (Z : State) (a0 : Array Value) (hw : ∀ d ∈ tables_1, d.before a0 Z = true) (ws : List Jvm.Cond) (p0 : Int32) (p1 : Int32) (w_FALSE : Addr) (w_UNKNOWN : Addr) (w_TRUE : Addr) (h0 : Heap) (n0 : Nat) (Z0 : n0 ≤ h0.size) (S_FALSE : Sta Z h0 "com/example/clearance_for_data/clearancefordata/expression/Truth" "FALSE" "Lcom/example/clearance_for_data/clearancefordata/expression/Truth;" (.ref w_FALSE)) (S_UNKNOWN : Sta Z h0 "com/example/clearance_for_data/clearancefordata/expression/Truth" "UNKNOWN" "Lcom/example/clearance_for_data/clearancefordata/expression/Truth;" (.ref w_UNKNOWN)) (S_TRUE : Sta Z h0 "com/example/clearance_for_data/clearancefordata/expression/Truth" "TRUE" "Lcom/example/clearance_for_data/clearancefordata/expression/Truth;" (.ref w_TRUE)) (E_w_FALSE : Exa Z h0 w_FALSE "com/example/clearance_for_data/clearancefordata/expression/Truth") (E_w_UNKNOWN : Exa Z h0 w_UNKNOWN "com/example/clearance_for_data/clearancefordata/expression/Truth") (E_w_TRUE : Exa Z h0 w_TRUE "com/example/clearance_for_data/clearancefordata/expression/Truth") (o_FALSE : own_ord Z w_FALSE = 1) (o_UNKNOWN : own_ord Z w_UNKNOWN = 2) (o_TRUE : own_ord Z w_TRUE = 0) :
    MetFree l x (head1 (Jvm.Cond.code x code maxLocals ret :: ws) room_1) (fun a U => a = #[(.int p0), (.int p1)] ∧ Z.Warmed39 U.vm ∧ U.heap = h0) (fun _ _ _ _ _ => True) (fun _ U o U' => ∃ v L, o = .returned v ∧ Q_rm0 Z p0 p1 w_FALSE w_UNKNOWN w_TRUE h0 n0 v U'.heap L ∧ FrameEnd U o U' L room_1.cells room_1.slots) := by
  refine MetFree.of_bodySF (plainFor_of_name pn_0) hisR ?_
  intro p e s m args below meth c s₁ Bd hml0 hP hK
  obtain ⟨rfl, hZ, hh⟩ := hP
  have hx := Bd.exec
  have hby := Bd.bytes
  have hml : c.maxLocals = 6 := hml0
  have hown : s.vm.findClass "com/example/clearance_for_data/clearancefordata/expression/TruthOrPinLaw" = some m.cls := findClass_of_methodNamed Bd.named
  have hnm := (name_of_methodNamed Bd.named Bd.method).1
  have hlk : meth.locks = false := by first | exact BodyLoose.notSynchronized (by assumption) | exact Body.notSynchronized (by assumption) | assumption
  have X0 : Stand p l e room_1 s m #[(.int p0), (.int p1)] below meth c s₁ [] 0 0 := Stand.of_body Bd
  have e0 : s₁.heap = h0 := by rw [← hh, Bd.state]; rfl
  have N0 := Fr.nil n0
  have Zn := Z0
  have K0 : ∀ t, Steps p.tables e below (s₁.setTop (mkF m 0 #[.val (.int p0), .val (.int p1), .unset, .unset, .unset, .unset] [])) t → Steps p.tables e below (s₁.setTop (entryFrame m #[(.int p0), (.int p1)] maxLocals)) t := fun t k => castTop (ef_rm0 m p0 p1) k
  obtain ⟨_, _, ⟨T1, L1, k1, n1⟩, -, X1, ⟨Lc1, hQ1, l1, y1, z1⟩, st1⟩ := Jvm.LawKit.callS X0 hx (y := (⟨"com/example/clearance_for_data/clearancefordata/expression/TruthOrPinLaw", "pick", "(I)Lcom/example/clearance_for_data/clearancefordata/expression/Truth;"⟩ : MethodName)) hown (mvT hZ (hw _ (List.mem_of_getElem? (i := 0) rfl))) (mvT hZ (hw _ (List.mem_of_getElem? (i := 1) rfl))) (mvT hZ (hw _ (List.mem_of_getElem? (i := 2) rfl))) (mvT hZ (hw _ (List.mem_of_getElem? (i := 3) rfl))) (by decide) (backOf (W := 0) (rm1 l Z a0 hw [] p0 w_FALSE w_UNKNOWN w_TRUE h0 n0 Zn S_FALSE S_UNKNOWN S_TRUE) hZ (hw _ (List.mem_of_getElem? (i := 3) rfl)) (hw _ (List.mem_of_getElem? (i := 2) rfl)) (by decide) (by decide)) (g := (mkF m 1 #[.val (.int p0), .val (.int p1), .unset, .unset, .unset, .unset] [(.int p0)])) rfl (by rw [hml]; rfl) (argsL := [(.int p0)]) (rest := []) (lenOf pd_2 rfl) rfl (by show 2 * 0 + _ ≤ _; exact Nat.le_of_eq rfl) (hb hby at_1) (fun _ _ => ⟨rfl, e0, (by decide : 0 + 0 ≤ _), (by decide : 0 + 0 ≤ _)⟩)
  dsimp only [Pt.U, Pt.locs, Pt.cells, Pt.slots] at X1 l1 y1 z1 st1 hQ1
  subst l1 y1 z1
  obtain ⟨rfl, N1q, e1q⟩ := hQ1
  have N1 := Fr.app N0 N1q
  have e1 : T1.heap = h0 := e1q
  obtain ⟨_, _, ⟨T2, L2, k2, n2⟩, -, X2, ⟨Lc2, hQ2, l2, y2, z2⟩, st2⟩ := Jvm.LawKit.callS X1 hx (y := (⟨"com/example/clearance_for_data/clearancefordata/expression/TruthOrPinLaw", "pick", "(I)Lcom/example/clearance_for_data/clearancefordata/expression/Truth;"⟩ : MethodName)) hown (mvT hZ (hw _ (List.mem_of_getElem? (i := 0) rfl))) (mvT hZ (hw _ (List.mem_of_getElem? (i := 1) rfl))) (mvT hZ (hw _ (List.mem_of_getElem? (i := 2) rfl))) (mvT hZ (hw _ (List.mem_of_getElem? (i := 3) rfl))) (by decide) (backOf (W := 0) (rm1 l Z a0 hw [] p1 w_FALSE w_UNKNOWN w_TRUE h0 n0 Zn S_FALSE S_UNKNOWN S_TRUE) hZ (hw _ (List.mem_of_getElem? (i := 3) rfl)) (hw _ (List.mem_of_getElem? (i := 2) rfl)) (by decide) (by decide)) (g := (mkF m 6 #[.val (.int p0), .val (.int p1), .val (.ref (own_pick (own_m3 p0) w_FALSE w_UNKNOWN w_TRUE)), .unset, .unset, .unset] [(.int p1)])) rfl (by rw [hml]; rfl) (argsL := [(.int p1)]) (rest := []) (lenOf pd_2 rfl) rfl (by show 2 * 0 + _ ≤ _; exact Nat.le_of_eq rfl) (hb hby at_6) (fun _ _ => ⟨rfl, e1, (by decide : 0 + 0 ≤ _), (by decide : 0 + 0 ≤ _)⟩)
  dsimp only [Pt.U, Pt.locs, Pt.cells, Pt.slots] at X2 l2 y2 z2 st2 hQ2
  subst l2 y2 z2
  obtain ⟨rfl, N2q, e2q⟩ := hQ2
  have N2 := Fr.app N1 N2q
  have e2 : T2.heap = h0 := e2q
  obtain ⟨cq3, kq3, q3a, q3b, q3c⟩ := isOf hZ e2 (show Exa Z h0 (own_pick (own_m3 p0) w_FALSE w_UNKNOWN w_TRUE) "com/example/clearance_for_data/clearancefordata/expression/Truth" by unfold own_pick; repeat' (split <;> try assumption))
  obtain ⟨_, _, ⟨T3, L3, k3, n3⟩, -, X3, ⟨Lc3, hQ3, l3, y3, z3⟩, st3⟩ := X2.virtualBack hx (y := (⟨"com/example/clearance_for_data/clearancefordata/expression/Truth", "or", "(Lcom/example/clearance_for_data/clearancefordata/expression/Truth;)Lcom/example/clearance_for_data/clearancefordata/expression/Truth;"⟩ : MethodName)) (z := (⟨"com/example/clearance_for_data/clearancefordata/expression/Truth", "or", "(Lcom/example/clearance_for_data/clearancefordata/expression/Truth;)Lcom/example/clearance_for_data/clearancefordata/expression/Truth;"⟩ : MethodName)) hown (mvT hZ (hw _ (List.mem_of_getElem? (i := 8) rfl))) (mvT hZ (hw _ (List.mem_of_getElem? (i := 9) rfl))) (notFace_of_selects (args := #[]) (mvT hZ (hw _ (List.mem_of_getElem? (i := 11) rfl)))) (mvT hZ (hw _ (List.mem_of_getElem? (i := 11) rfl))) (mvT hZ (hw _ (List.mem_of_getElem? (i := 10) rfl))) (by decide) (backOf (W := 0) (rm2 l Z a0 hw [] (own_pick (own_m3 p0) w_FALSE w_UNKNOWN w_TRUE) (own_pick (own_m3 p1) w_FALSE w_UNKNOWN w_TRUE) w_FALSE w_UNKNOWN w_TRUE h0 n0 Zn S_FALSE S_UNKNOWN S_TRUE) hZ (hw _ (List.mem_of_getElem? (i := 12) rfl)) (hw _ (List.mem_of_getElem? (i := 6) rfl)) (by decide) (by decide)) q3a q3c (g := (mkF m 12 #[.val (.int p0), .val (.int p1), .val (.ref (own_pick (own_m3 p0) w_FALSE w_UNKNOWN w_TRUE)), .val (.ref (own_pick (own_m3 p1) w_FALSE w_UNKNOWN w_TRUE)), .unset, .unset] [(.ref (own_pick (own_m3 p1) w_FALSE w_UNKNOWN w_TRUE)), (.ref (own_pick (own_m3 p0) w_FALSE w_UNKNOWN w_TRUE))])) rfl (by rw [hml]; rfl) (Steps.refl _) (argsL := [(.ref (own_pick (own_m3 p1) w_FALSE w_UNKNOWN w_TRUE))]) (rest := []) (lenOf pd_3 rfl) rfl (by show 2 * 0 + _ ≤ _; exact Nat.le_of_eq rfl) (hb hby at_12) (fun _ _ => ⟨rfl, e2, (by decide : 0 + 0 ≤ _), (by decide : 0 + 0 ≤ _)⟩)
  dsimp only [Pt.U, Pt.locs, Pt.cells, Pt.slots] at X3 l3 y3 z3 st3 hQ3
  subst l3 y3 z3
  obtain ⟨rfl, N3q, e3q⟩ := hQ3
  have N3 := Fr.app N2 N3q
  have e3 : T3.heap = h0 := e3q
  obtain ⟨_, _, ⟨T4, L4, k4, n4⟩, -, X4, ⟨Lc4, hQ4, l4, y4, z4⟩, st4⟩ := Jvm.LawKit.callS X3 hx (y := (⟨"com/example/clearance_for_data/clearancefordata/expression/TruthOrPinLaw", "rank", "(Lcom/example/clearance_for_data/clearancefordata/expression/Truth;)I"⟩ : MethodName)) hown (mvT hZ (hw _ (List.mem_of_getElem? (i := 18) rfl))) (mvT hZ (hw _ (List.mem_of_getElem? (i := 19) rfl))) (mvT hZ (hw _ (List.mem_of_getElem? (i := 2) rfl))) (mvT hZ (hw _ (List.mem_of_getElem? (i := 20) rfl))) (by decide) (backOf (W := 0) (rm4 l Z a0 hw [] (own_pick (own_m3 p0) w_FALSE w_UNKNOWN w_TRUE) w_FALSE w_UNKNOWN w_TRUE h0 n0 Zn S_FALSE S_UNKNOWN S_TRUE) hZ (hw _ (List.mem_of_getElem? (i := 20) rfl)) (hw _ (List.mem_of_getElem? (i := 2) rfl)) (by decide) (by decide)) (g := (mkF m 18 #[.val (.int p0), .val (.int p1), .val (.ref (own_pick (own_m3 p0) w_FALSE w_UNKNOWN w_TRUE)), .val (.ref (own_pick (own_m3 p1) w_FALSE w_UNKNOWN w_TRUE)), .val (.ref (own_or (own_pick (own_m3 p0) w_FALSE w_UNKNOWN w_TRUE) (own_pick (own_m3 p1) w_FALSE w_UNKNOWN w_TRUE) w_FALSE w_UNKNOWN w_TRUE)), .unset] [(.ref (own_pick (own_m3 p0) w_FALSE w_UNKNOWN w_TRUE))])) rfl (by rw [hml]; rfl) (argsL := [(.ref (own_pick (own_m3 p0) w_FALSE w_UNKNOWN w_TRUE))]) (rest := []) (lenOf pd_4 rfl) rfl (by show 2 * 0 + _ ≤ _; exact Nat.le_of_eq rfl) (hb hby at_18) (fun _ _ => ⟨rfl, e3, (by decide : 0 + 0 ≤ _), (by decide : 0 + 0 ≤ _)⟩)
  dsimp only [Pt.U, Pt.locs, Pt.cells, Pt.slots] at X4 l4 y4 z4 st4 hQ4
  subst l4 y4 z4
  obtain ⟨rfl, N4q, e4q⟩ := hQ4
  have N4 := Fr.app N3 N4q
  have e4 : T4.heap = h0 := e4q
  obtain ⟨_, _, ⟨T5, L5, k5, n5⟩, -, X5, ⟨Lc5, hQ5, l5, y5, z5⟩, st5⟩ := Jvm.LawKit.callS X4 hx (y := (⟨"com/example/clearance_for_data/clearancefordata/expression/TruthOrPinLaw", "rank", "(Lcom/example/clearance_for_data/clearancefordata/expression/Truth;)I"⟩ : MethodName)) hown (mvT hZ (hw _ (List.mem_of_getElem? (i := 18) rfl))) (mvT hZ (hw _ (List.mem_of_getElem? (i := 19) rfl))) (mvT hZ (hw _ (List.mem_of_getElem? (i := 2) rfl))) (mvT hZ (hw _ (List.mem_of_getElem? (i := 20) rfl))) (by decide) (backOf (W := 1) (rm4 l Z a0 hw [] (own_pick (own_m3 p1) w_FALSE w_UNKNOWN w_TRUE) w_FALSE w_UNKNOWN w_TRUE h0 n0 Zn S_FALSE S_UNKNOWN S_TRUE) hZ (hw _ (List.mem_of_getElem? (i := 20) rfl)) (hw _ (List.mem_of_getElem? (i := 2) rfl)) (by decide) (by decide)) (g := (mkF m 22 #[.val (.int p0), .val (.int p1), .val (.ref (own_pick (own_m3 p0) w_FALSE w_UNKNOWN w_TRUE)), .val (.ref (own_pick (own_m3 p1) w_FALSE w_UNKNOWN w_TRUE)), .val (.ref (own_or (own_pick (own_m3 p0) w_FALSE w_UNKNOWN w_TRUE) (own_pick (own_m3 p1) w_FALSE w_UNKNOWN w_TRUE) w_FALSE w_UNKNOWN w_TRUE)), .unset] [(.ref (own_pick (own_m3 p1) w_FALSE w_UNKNOWN w_TRUE)), (.int (own_rank (own_pick (own_m3 p0) w_FALSE w_UNKNOWN w_TRUE) w_FALSE w_UNKNOWN w_TRUE))])) rfl (by rw [hml]; rfl) (argsL := [(.ref (own_pick (own_m3 p1) w_FALSE w_UNKNOWN w_TRUE))]) (rest := [(.int (own_rank (own_pick (own_m3 p0) w_FALSE w_UNKNOWN w_TRUE) w_FALSE w_UNKNOWN w_TRUE))]) (lenOf pd_4 rfl) rfl (by show 2 * 0 + _ ≤ _; exact Nat.le_of_eq rfl) (hb hby at_22) (fun _ _ => ⟨rfl, e4, (by decide : 0 + 0 ≤ _), (by decide : 0 + 0 ≤ _)⟩)
  dsimp only [Pt.U, Pt.locs, Pt.cells, Pt.slots] at X5 l5 y5 z5 st5 hQ5
  subst l5 y5 z5
  obtain ⟨rfl, N5q, e5q⟩ := hQ5
  have N5 := Fr.app N4 N5q
  have e5 : T5.heap = h0 := e5q
  obtain ⟨_, _, ⟨T6, L6, k6, n6⟩, -, X6, ⟨Lc6, hQ6, l6, y6, z6⟩, st6⟩ := Jvm.LawKit.callS X5 hx (y := (⟨"java/lang/Math", "max", "(II)I"⟩ : MethodName)) hown (mvT hZ (hw _ (List.mem_of_getElem? (i := 21) rfl))) (mvT hZ (hw _ (List.mem_of_getElem? (i := 22) rfl))) (mvT hZ (hw _ (List.mem_of_getElem? (i := 23) rfl))) (mvT hZ (hw _ (List.mem_of_getElem? (i := 24) rfl))) (by decide) (backOf (W := 0) (rm3 l Z a0 hw [] (own_rank (own_pick (own_m3 p0) w_FALSE w_UNKNOWN w_TRUE) w_FALSE w_UNKNOWN w_TRUE) (own_rank (own_pick (own_m3 p1) w_FALSE w_UNKNOWN w_TRUE) w_FALSE w_UNKNOWN w_TRUE)  h0 n0 Zn ) hZ (hw _ (List.mem_of_getElem? (i := 24) rfl)) (hw _ (List.mem_of_getElem? (i := 23) rfl)) (by decide) (by decide)) (g := (mkF m 25 #[.val (.int p0), .val (.int p1), .val (.ref (own_pick (own_m3 p0) w_FALSE w_UNKNOWN w_TRUE)), .val (.ref (own_pick (own_m3 p1) w_FALSE w_UNKNOWN w_TRUE)), .val (.ref (own_or (own_pick (own_m3 p0) w_FALSE w_UNKNOWN w_TRUE) (own_pick (own_m3 p1) w_FALSE w_UNKNOWN w_TRUE) w_FALSE w_UNKNOWN w_TRUE)), .unset] [(.int (own_rank (own_pick (own_m3 p1) w_FALSE w_UNKNOWN w_TRUE) w_FALSE w_UNKNOWN w_TRUE)), (.int (own_rank (own_pick (own_m3 p0) w_FALSE w_UNKNOWN w_TRUE) w_FALSE w_UNKNOWN w_TRUE))])) rfl (by rw [hml]; rfl) (argsL := [(.int (own_rank (own_pick (own_m3 p0) w_FALSE w_UNKNOWN w_TRUE) w_FALSE w_UNKNOWN w_TRUE)), (.int (own_rank (own_pick (own_m3 p1) w_FALSE w_UNKNOWN w_TRUE) w_FALSE w_UNKNOWN w_TRUE))]) (rest := []) (lenOf pd_5 rfl) rfl (by show 2 * 0 + _ ≤ _; exact Nat.le_of_eq rfl) (hb hby at_25) (fun _ _ => ⟨rfl, e5, (by decide : 0 + 0 ≤ _), (by decide : 0 + 0 ≤ _)⟩)
  dsimp only [Pt.U, Pt.locs, Pt.cells, Pt.slots] at X6 l6 y6 z6 st6 hQ6
  subst l6 y6 z6
  obtain ⟨rfl, N6q, e6q⟩ := hQ6
  have N6 := Fr.app N5 N6q
  have e6 : T6.heap = h0 := e6q
  obtain ⟨_, _, ⟨T7, L7, k7, n7⟩, -, X7, ⟨Lc7, hQ7, l7, y7, z7⟩, st7⟩ := Jvm.LawKit.callS X6 hx (y := (⟨"com/example/clearance_for_data/clearancefordata/expression/TruthOrPinLaw", "rank", "(Lcom/example/clearance_for_data/clearancefordata/expression/Truth;)I"⟩ : MethodName)) hown (mvT hZ (hw _ (List.mem_of_getElem? (i := 18) rfl))) (mvT hZ (hw _ (List.mem_of_getElem? (i := 19) rfl))) (mvT hZ (hw _ (List.mem_of_getElem? (i := 2) rfl))) (mvT hZ (hw _ (List.mem_of_getElem? (i := 20) rfl))) (by decide) (backOf (W := 0) (rm4 l Z a0 hw [] (own_or (own_pick (own_m3 p0) w_FALSE w_UNKNOWN w_TRUE) (own_pick (own_m3 p1) w_FALSE w_UNKNOWN w_TRUE) w_FALSE w_UNKNOWN w_TRUE) w_FALSE w_UNKNOWN w_TRUE h0 n0 Zn S_FALSE S_UNKNOWN S_TRUE) hZ (hw _ (List.mem_of_getElem? (i := 20) rfl)) (hw _ (List.mem_of_getElem? (i := 2) rfl)) (by decide) (by decide)) (g := (mkF m 32 #[.val (.int p0), .val (.int p1), .val (.ref (own_pick (own_m3 p0) w_FALSE w_UNKNOWN w_TRUE)), .val (.ref (own_pick (own_m3 p1) w_FALSE w_UNKNOWN w_TRUE)), .val (.ref (own_or (own_pick (own_m3 p0) w_FALSE w_UNKNOWN w_TRUE) (own_pick (own_m3 p1) w_FALSE w_UNKNOWN w_TRUE) w_FALSE w_UNKNOWN w_TRUE)), .val (.int (own_max (own_rank (own_pick (own_m3 p0) w_FALSE w_UNKNOWN w_TRUE) w_FALSE w_UNKNOWN w_TRUE) (own_rank (own_pick (own_m3 p1) w_FALSE w_UNKNOWN w_TRUE) w_FALSE w_UNKNOWN w_TRUE)))] [(.ref (own_or (own_pick (own_m3 p0) w_FALSE w_UNKNOWN w_TRUE) (own_pick (own_m3 p1) w_FALSE w_UNKNOWN w_TRUE) w_FALSE w_UNKNOWN w_TRUE))])) rfl (by rw [hml]; rfl) (argsL := [(.ref (own_or (own_pick (own_m3 p0) w_FALSE w_UNKNOWN w_TRUE) (own_pick (own_m3 p1) w_FALSE w_UNKNOWN w_TRUE) w_FALSE w_UNKNOWN w_TRUE))]) (rest := []) (lenOf pd_4 rfl) rfl (by show 2 * 0 + _ ≤ _; exact Nat.le_of_eq rfl) (hb hby at_32) (fun _ _ => ⟨rfl, e6, (by decide : 0 + 0 ≤ _), (by decide : 0 + 0 ≤ _)⟩)
  dsimp only [Pt.U, Pt.locs, Pt.cells, Pt.slots] at X7 l7 y7 z7 st7 hQ7
  subst l7 y7 z7
  obtain ⟨rfl, N7q, e7q⟩ := hQ7
  have N7 := Fr.app N6 N7q
  have e7 : T7.heap = h0 := e7q
  have hc37 : (own_rank (own_or (own_pick (own_m3 p0) w_FALSE w_UNKNOWN w_TRUE) (own_pick (own_m3 p1) w_FALSE w_UNKNOWN w_TRUE) w_FALSE w_UNKNOWN w_TRUE) w_FALSE w_UNKNOWN w_TRUE) = (own_max (own_rank (own_pick (own_m3 p0) w_FALSE w_UNKNOWN w_TRUE) w_FALSE w_UNKNOWN w_TRUE) (own_rank (own_pick (own_m3 p1) w_FALSE w_UNKNOWN w_TRUE) w_FALSE w_UNKNOWN w_TRUE)) := (own_law o_FALSE o_UNKNOWN o_TRUE p0 p1)
  obtain ⟨fs, hr, hrun, hended, hW, hsame⟩ := X7.leave (v := some (.int (1 : Int32))) (fun h => by rw [Bd.returns] at h; cases h) hlk
  refine ⟨_, _, K0 _ ?_, hrun, hended, _, _, rfl, ?_, ⟨_, rfl⟩, hW, hsame.mono (by decide) (by decide)⟩
  ·
    show Steps p.tables e below (s₁.setTop (mkF m 0 #[.val (.int p0), .val (.int p1), .unset, .unset, .unset, .unset] [])) _
    refine XS.iloadN X0.here hx rfl (hb hby at_0) rfl ?_
    show Steps p.tables e below (s₁.setTop (mkF m 1 #[.val (.int p0), .val (.int p1), .unset, .unset, .unset, .unset] [(.int p0)])) _
    refine st1 _ ?_
    show Steps p.tables e below (T1.setTop (mkF m 4 #[.val (.int p0), .val (.int p1), .unset, .unset, .unset, .unset] [(.ref (own_pick (own_m3 p0) w_FALSE w_UNKNOWN w_TRUE))])) _
    refine XS.astoreN X1.here hx rfl (hb hby at_4) rfl rfl (l' := #[.val (.int p0), .val (.int p1), .val (.ref (own_pick (own_m3 p0) w_FALSE w_UNKNOWN w_TRUE)), .unset, .unset, .unset]) rfl ?_
    show Steps p.tables e below (T1.setTop (mkF m 5 #[.val (.int p0), .val (.int p1), .val (.ref (own_pick (own_m3 p0) w_FALSE w_UNKNOWN w_TRUE)), .unset, .unset, .unset] [])) _
    refine XS.iloadN X1.here hx rfl (hb hby at_5) rfl ?_
    show Steps p.tables e below (T1.setTop (mkF m 6 #[.val (.int p0), .val (.int p1), .val (.ref (own_pick (own_m3 p0) w_FALSE w_UNKNOWN w_TRUE)), .unset, .unset, .unset] [(.int p1)])) _
    refine st2 _ ?_
    show Steps p.tables e below (T2.setTop (mkF m 9 #[.val (.int p0), .val (.int p1), .val (.ref (own_pick (own_m3 p0) w_FALSE w_UNKNOWN w_TRUE)), .unset, .unset, .unset] [(.ref (own_pick (own_m3 p1) w_FALSE w_UNKNOWN w_TRUE))])) _
    refine XS.astoreN X2.here hx rfl (hb hby at_9) rfl rfl (l' := #[.val (.int p0), .val (.int p1), .val (.ref (own_pick (own_m3 p0) w_FALSE w_UNKNOWN w_TRUE)), .val (.ref (own_pick (own_m3 p1) w_FALSE w_UNKNOWN w_TRUE)), .unset, .unset]) rfl ?_
    show Steps p.tables e below (T2.setTop (mkF m 10 #[.val (.int p0), .val (.int p1), .val (.ref (own_pick (own_m3 p0) w_FALSE w_UNKNOWN w_TRUE)), .val (.ref (own_pick (own_m3 p1) w_FALSE w_UNKNOWN w_TRUE)), .unset, .unset] [])) _
    refine XS.aloadN X2.here hx rfl (hb hby at_10) rfl rfl ?_
    show Steps p.tables e below (T2.setTop (mkF m 11 #[.val (.int p0), .val (.int p1), .val (.ref (own_pick (own_m3 p0) w_FALSE w_UNKNOWN w_TRUE)), .val (.ref (own_pick (own_m3 p1) w_FALSE w_UNKNOWN w_TRUE)), .unset, .unset] [(.ref (own_pick (own_m3 p0) w_FALSE w_UNKNOWN w_TRUE))])) _
    refine XS.aloadN X2.here hx rfl (hb hby at_11) rfl rfl ?_
    show Steps p.tables e below (T2.setTop (mkF m 12 #[.val (.int p0), .val (.int p1), .val (.ref (own_pick (own_m3 p0) w_FALSE w_UNKNOWN w_TRUE)), .val (.ref (own_pick (own_m3 p1) w_FALSE w_UNKNOWN w_TRUE)), .unset, .unset] [(.ref (own_pick (own_m3 p1) w_FALSE w_UNKNOWN w_TRUE)), (.ref (own_pick (own_m3 p0) w_FALSE w_UNKNOWN w_TRUE))])) _
    refine st3.trans ?_
    show Steps p.tables e below (T3.setTop (mkF m 15 #[.val (.int p0), .val (.int p1), .val (.ref (own_pick (own_m3 p0) w_FALSE w_UNKNOWN w_TRUE)), .val (.ref (own_pick (own_m3 p1) w_FALSE w_UNKNOWN w_TRUE)), .unset, .unset] [(.ref (own_or (own_pick (own_m3 p0) w_FALSE w_UNKNOWN w_TRUE) (own_pick (own_m3 p1) w_FALSE w_UNKNOWN w_TRUE) w_FALSE w_UNKNOWN w_TRUE))])) _
    refine XS.astore X3.here hx rfl (hb hby at_15) rfl rfl (l' := #[.val (.int p0), .val (.int p1), .val (.ref (own_pick (own_m3 p0) w_FALSE w_UNKNOWN w_TRUE)), .val (.ref (own_pick (own_m3 p1) w_FALSE w_UNKNOWN w_TRUE)), .val (.ref (own_or (own_pick (own_m3 p0) w_FALSE w_UNKNOWN w_TRUE) (own_pick (own_m3 p1) w_FALSE w_UNKNOWN w_TRUE) w_FALSE w_UNKNOWN w_TRUE)), .unset]) rfl ?_
    show Steps p.tables e below (T3.setTop (mkF m 17 #[.val (.int p0), .val (.int p1), .val (.ref (own_pick (own_m3 p0) w_FALSE w_UNKNOWN w_TRUE)), .val (.ref (own_pick (own_m3 p1) w_FALSE w_UNKNOWN w_TRUE)), .val (.ref (own_or (own_pick (own_m3 p0) w_FALSE w_UNKNOWN w_TRUE) (own_pick (own_m3 p1) w_FALSE w_UNKNOWN w_TRUE) w_FALSE w_UNKNOWN w_TRUE)), .unset] [])) _
    refine XS.aloadN X3.here hx rfl (hb hby at_17) rfl rfl ?_
    show Steps p.tables e below (T3.setTop (mkF m 18 #[.val (.int p0), .val (.int p1), .val (.ref (own_pick (own_m3 p0) w_FALSE w_UNKNOWN w_TRUE)), .val (.ref (own_pick (own_m3 p1) w_FALSE w_UNKNOWN w_TRUE)), .val (.ref (own_or (own_pick (own_m3 p0) w_FALSE w_UNKNOWN w_TRUE) (own_pick (own_m3 p1) w_FALSE w_UNKNOWN w_TRUE) w_FALSE w_UNKNOWN w_TRUE)), .unset] [(.ref (own_pick (own_m3 p0) w_FALSE w_UNKNOWN w_TRUE))])) _
    refine st4 _ ?_
    show Steps p.tables e below (T4.setTop (mkF m 21 #[.val (.int p0), .val (.int p1), .val (.ref (own_pick (own_m3 p0) w_FALSE w_UNKNOWN w_TRUE)), .val (.ref (own_pick (own_m3 p1) w_FALSE w_UNKNOWN w_TRUE)), .val (.ref (own_or (own_pick (own_m3 p0) w_FALSE w_UNKNOWN w_TRUE) (own_pick (own_m3 p1) w_FALSE w_UNKNOWN w_TRUE) w_FALSE w_UNKNOWN w_TRUE)), .unset] [(.int (own_rank (own_pick (own_m3 p0) w_FALSE w_UNKNOWN w_TRUE) w_FALSE w_UNKNOWN w_TRUE))])) _
    refine XS.aloadN X4.here hx rfl (hb hby at_21) rfl rfl ?_
    show Steps p.tables e below (T4.setTop (mkF m 22 #[.val (.int p0), .val (.int p1), .val (.ref (own_pick (own_m3 p0) w_FALSE w_UNKNOWN w_TRUE)), .val (.ref (own_pick (own_m3 p1) w_FALSE w_UNKNOWN w_TRUE)), .val (.ref (own_or (own_pick (own_m3 p0) w_FALSE w_UNKNOWN w_TRUE) (own_pick (own_m3 p1) w_FALSE w_UNKNOWN w_TRUE) w_FALSE w_UNKNOWN w_TRUE)), .unset] [(.ref (own_pick (own_m3 p1) w_FALSE w_UNKNOWN w_TRUE)), (.int (own_rank (own_pick (own_m3 p0) w_FALSE w_UNKNOWN w_TRUE) w_FALSE w_UNKNOWN w_TRUE))])) _
    refine st5 _ ?_
    show Steps p.tables e below (T5.setTop (mkF m 25 #[.val (.int p0), .val (.int p1), .val (.ref (own_pick (own_m3 p0) w_FALSE w_UNKNOWN w_TRUE)), .val (.ref (own_pick (own_m3 p1) w_FALSE w_UNKNOWN w_TRUE)), .val (.ref (own_or (own_pick (own_m3 p0) w_FALSE w_UNKNOWN w_TRUE) (own_pick (own_m3 p1) w_FALSE w_UNKNOWN w_TRUE) w_FALSE w_UNKNOWN w_TRUE)), .unset] [(.int (own_rank (own_pick (own_m3 p1) w_FALSE w_UNKNOWN w_TRUE) w_FALSE w_UNKNOWN w_TRUE)), (.int (own_rank (own_pick (own_m3 p0) w_FALSE w_UNKNOWN w_TRUE) w_FALSE w_UNKNOWN w_TRUE))])) _
    refine st6 _ ?_
    show Steps p.tables e below (T6.setTop (mkF m 28 #[.val (.int p0), .val (.int p1), .val (.ref (own_pick (own_m3 p0) w_FALSE w_UNKNOWN w_TRUE)), .val (.ref (own_pick (own_m3 p1) w_FALSE w_UNKNOWN w_TRUE)), .val (.ref (own_or (own_pick (own_m3 p0) w_FALSE w_UNKNOWN w_TRUE) (own_pick (own_m3 p1) w_FALSE w_UNKNOWN w_TRUE) w_FALSE w_UNKNOWN w_TRUE)), .unset] [(.int (own_max (own_rank (own_pick (own_m3 p0) w_FALSE w_UNKNOWN w_TRUE) w_FALSE w_UNKNOWN w_TRUE) (own_rank (own_pick (own_m3 p1) w_FALSE w_UNKNOWN w_TRUE) w_FALSE w_UNKNOWN w_TRUE)))])) _
    refine XS.istore X6.here hx rfl (hb hby at_28) rfl (l' := #[.val (.int p0), .val (.int p1), .val (.ref (own_pick (own_m3 p0) w_FALSE w_UNKNOWN w_TRUE)), .val (.ref (own_pick (own_m3 p1) w_FALSE w_UNKNOWN w_TRUE)), .val (.ref (own_or (own_pick (own_m3 p0) w_FALSE w_UNKNOWN w_TRUE) (own_pick (own_m3 p1) w_FALSE w_UNKNOWN w_TRUE) w_FALSE w_UNKNOWN w_TRUE)), .val (.int (own_max (own_rank (own_pick (own_m3 p0) w_FALSE w_UNKNOWN w_TRUE) w_FALSE w_UNKNOWN w_TRUE) (own_rank (own_pick (own_m3 p1) w_FALSE w_UNKNOWN w_TRUE) w_FALSE w_UNKNOWN w_TRUE)))]) rfl ?_
    show Steps p.tables e below (T6.setTop (mkF m 30 #[.val (.int p0), .val (.int p1), .val (.ref (own_pick (own_m3 p0) w_FALSE w_UNKNOWN w_TRUE)), .val (.ref (own_pick (own_m3 p1) w_FALSE w_UNKNOWN w_TRUE)), .val (.ref (own_or (own_pick (own_m3 p0) w_FALSE w_UNKNOWN w_TRUE) (own_pick (own_m3 p1) w_FALSE w_UNKNOWN w_TRUE) w_FALSE w_UNKNOWN w_TRUE)), .val (.int (own_max (own_rank (own_pick (own_m3 p0) w_FALSE w_UNKNOWN w_TRUE) w_FALSE w_UNKNOWN w_TRUE) (own_rank (own_pick (own_m3 p1) w_FALSE w_UNKNOWN w_TRUE) w_FALSE w_UNKNOWN w_TRUE)))] [])) _
    refine XS.aload X6.here hx rfl (hb hby at_30) rfl rfl ?_
    show Steps p.tables e below (T6.setTop (mkF m 32 #[.val (.int p0), .val (.int p1), .val (.ref (own_pick (own_m3 p0) w_FALSE w_UNKNOWN w_TRUE)), .val (.ref (own_pick (own_m3 p1) w_FALSE w_UNKNOWN w_TRUE)), .val (.ref (own_or (own_pick (own_m3 p0) w_FALSE w_UNKNOWN w_TRUE) (own_pick (own_m3 p1) w_FALSE w_UNKNOWN w_TRUE) w_FALSE w_UNKNOWN w_TRUE)), .val (.int (own_max (own_rank (own_pick (own_m3 p0) w_FALSE w_UNKNOWN w_TRUE) w_FALSE w_UNKNOWN w_TRUE) (own_rank (own_pick (own_m3 p1) w_FALSE w_UNKNOWN w_TRUE) w_FALSE w_UNKNOWN w_TRUE)))] [(.ref (own_or (own_pick (own_m3 p0) w_FALSE w_UNKNOWN w_TRUE) (own_pick (own_m3 p1) w_FALSE w_UNKNOWN w_TRUE) w_FALSE w_UNKNOWN w_TRUE))])) _
    refine st7 _ ?_
    show Steps p.tables e below (T7.setTop (mkF m 35 #[.val (.int p0), .val (.int p1), .val (.ref (own_pick (own_m3 p0) w_FALSE w_UNKNOWN w_TRUE)), .val (.ref (own_pick (own_m3 p1) w_FALSE w_UNKNOWN w_TRUE)), .val (.ref (own_or (own_pick (own_m3 p0) w_FALSE w_UNKNOWN w_TRUE) (own_pick (own_m3 p1) w_FALSE w_UNKNOWN w_TRUE) w_FALSE w_UNKNOWN w_TRUE)), .val (.int (own_max (own_rank (own_pick (own_m3 p0) w_FALSE w_UNKNOWN w_TRUE) w_FALSE w_UNKNOWN w_TRUE) (own_rank (own_pick (own_m3 p1) w_FALSE w_UNKNOWN w_TRUE) w_FALSE w_UNKNOWN w_TRUE)))] [(.int (own_rank (own_or (own_pick (own_m3 p0) w_FALSE w_UNKNOWN w_TRUE) (own_pick (own_m3 p1) w_FALSE w_UNKNOWN w_TRUE) w_FALSE w_UNKNOWN w_TRUE) w_FALSE w_UNKNOWN w_TRUE))])) _
    refine XS.iload X7.here hx rfl (hb hby at_35) rfl ?_
    show Steps p.tables e below (T7.setTop (mkF m 37 #[.val (.int p0), .val (.int p1), .val (.ref (own_pick (own_m3 p0) w_FALSE w_UNKNOWN w_TRUE)), .val (.ref (own_pick (own_m3 p1) w_FALSE w_UNKNOWN w_TRUE)), .val (.ref (own_or (own_pick (own_m3 p0) w_FALSE w_UNKNOWN w_TRUE) (own_pick (own_m3 p1) w_FALSE w_UNKNOWN w_TRUE) w_FALSE w_UNKNOWN w_TRUE)), .val (.int (own_max (own_rank (own_pick (own_m3 p0) w_FALSE w_UNKNOWN w_TRUE) w_FALSE w_UNKNOWN w_TRUE) (own_rank (own_pick (own_m3 p1) w_FALSE w_UNKNOWN w_TRUE) w_FALSE w_UNKNOWN w_TRUE)))] [(.int (own_max (own_rank (own_pick (own_m3 p0) w_FALSE w_UNKNOWN w_TRUE) w_FALSE w_UNKNOWN w_TRUE) (own_rank (own_pick (own_m3 p1) w_FALSE w_UNKNOWN w_TRUE) w_FALSE w_UNKNOWN w_TRUE))), (.int (own_rank (own_or (own_pick (own_m3 p0) w_FALSE w_UNKNOWN w_TRUE) (own_pick (own_m3 p1) w_FALSE w_UNKNOWN w_TRUE) w_FALSE w_UNKNOWN w_TRUE) w_FALSE w_UNKNOWN w_TRUE))])) _
    refine XS.icmpNo X7.here hx rfl (hb hby at_37) rfl (teq hc37).2 ?_
    show Steps p.tables e below (T7.setTop (mkF m 40 #[.val (.int p0), .val (.int p1), .val (.ref (own_pick (own_m3 p0) w_FALSE w_UNKNOWN w_TRUE)), .val (.ref (own_pick (own_m3 p1) w_FALSE w_UNKNOWN w_TRUE)), .val (.ref (own_or (own_pick (own_m3 p0) w_FALSE w_UNKNOWN w_TRUE) (own_pick (own_m3 p1) w_FALSE w_UNKNOWN w_TRUE) w_FALSE w_UNKNOWN w_TRUE)), .val (.int (own_max (own_rank (own_pick (own_m3 p0) w_FALSE w_UNKNOWN w_TRUE) w_FALSE w_UNKNOWN w_TRUE) (own_rank (own_pick (own_m3 p1) w_FALSE w_UNKNOWN w_TRUE) w_FALSE w_UNKNOWN w_TRUE)))] [])) _
    refine XS.iconst X7.here hx rfl (hb hby at_40) ?_
    show Steps p.tables e below (T7.setTop (mkF m 41 #[.val (.int p0), .val (.int p1), .val (.ref (own_pick (own_m3 p0) w_FALSE w_UNKNOWN w_TRUE)), .val (.ref (own_pick (own_m3 p1) w_FALSE w_UNKNOWN w_TRUE)), .val (.ref (own_or (own_pick (own_m3 p0) w_FALSE w_UNKNOWN w_TRUE) (own_pick (own_m3 p1) w_FALSE w_UNKNOWN w_TRUE) w_FALSE w_UNKNOWN w_TRUE)), .val (.int (own_max (own_rank (own_pick (own_m3 p0) w_FALSE w_UNKNOWN w_TRUE) w_FALSE w_UNKNOWN w_TRUE) (own_rank (own_pick (own_m3 p1) w_FALSE w_UNKNOWN w_TRUE) w_FALSE w_UNKNOWN w_TRUE)))] [(.int (1 : Int32))])) _
    refine XS.goto X7.here hx rfl (pc0 := 41) (pc' := 45) rfl (hb hby at_41) (by decide) (by decide) ?_
    show Steps p.tables e below (T7.setTop (mkF m 45 #[.val (.int p0), .val (.int p1), .val (.ref (own_pick (own_m3 p0) w_FALSE w_UNKNOWN w_TRUE)), .val (.ref (own_pick (own_m3 p1) w_FALSE w_UNKNOWN w_TRUE)), .val (.ref (own_or (own_pick (own_m3 p0) w_FALSE w_UNKNOWN w_TRUE) (own_pick (own_m3 p1) w_FALSE w_UNKNOWN w_TRUE) w_FALSE w_UNKNOWN w_TRUE)), .val (.int (own_max (own_rank (own_pick (own_m3 p0) w_FALSE w_UNKNOWN w_TRUE) w_FALSE w_UNKNOWN w_TRUE) (own_rank (own_pick (own_m3 p1) w_FALSE w_UNKNOWN w_TRUE) w_FALSE w_UNKNOWN w_TRUE)))] [(.int (1 : Int32))])) _
    exact retN X7 hx (t := .boolean) Bd.returns (by simp) (hb hby at_45) hr
  ·
    show Q_rm0 Z p0 p1 w_FALSE w_UNKNOWN w_TRUE h0 n0 _ T7.heap _
    rw [e7]
    exact ⟨rfl, N7⟩
set_option maxRecDepth 65536 in
set_option maxHeartbeats 40000000 in
theorem comes_1 {Post : Tables → Env → Array Value → State → Outcome → State → Prop} (hpost : ∀ tb e args s v u, (limb_1_1.after args s (.returned v) u = true ∧ limb_1_2.after args s (.returned v) u = true ∧ True) → FrameEnd s (.returned v) u (Jvm.fieldLocs frame_1_writes args s ++ Jvm.arrayLocs frame_1_arrays args s ++ Jvm.staticLocs frame_1_statics s) 0 0 → Post tb e args s (.returned v) u) :
    ArmFor flags0 classFile x code maxLocals ret World_1 tables_1 room_1 Calls_1 rest_1 Pre_1 Post := by
  intro l hfl _ _ p e ha hc hk s m args below hf hA hF happ hP
  obtain ⟨hcalls, hrest, hpre⟩ := hP
  obtain ⟨-, -, -, hnamed, -, -, -, hat⟩ := (Spec.applies_iff hf).mp happ
  obtain ⟨hg, hn⟩ := and_e (Cond.before_iff.mp (show (Jvm.Cond.and given_1 narrow_1).before args s = true from hpre))
  obtain ⟨hg0, hg⟩ := and_e hg
  obtain ⟨ga0, hg⟩ := and_e hg
  have ga1 := hg
  obtain ⟨w0, w1, rfl⟩ : ∃ w0 w1 : Value, args = #[w0, w1] := by
    have hs : args.size = 2 := by simpa [Cond.value, given_1] using hg0
    obtain ⟨L⟩ := args
    match L, hs with
    | [w0, w1], _ => exact ⟨w0, w1, rfl⟩
  have hw := fun d (hd : d ∈ tables_1) => atoms_spec (ws := Jvm.Cond.code x code maxLocals ret :: tables_1) hat d (List.mem_cons_of_mem _ hd)
  have hfit : Fit s := fun {y c} hc i hi => by
    obtain ⟨ha, rfl⟩ := Array.getElem?_eq_some_iff.mp hc
    have q := List.all_eq_true.mp ((Array.all_eq_true_iff_forall_mem.mp hF) _ (Array.getElem_mem ha)) i (List.mem_range.mpr hi)
    simpa [Array.getElem?_eq_getElem hi] using q
  obtain ⟨i0, ei0⟩ := is_v ga0
  obtain rfl : w0 = (.int i0) := Option.some.inj ei0
  obtain ⟨i1, ei1⟩ := is_v ga1
  obtain rfl : w1 = (.int i1) := Option.some.inj ei1
  obtain ⟨cn0, hn⟩ := and_e hn
  obtain ⟨cn1, hn⟩ := and_e hn
  obtain ⟨cn2, hn⟩ := and_e hn
  obtain ⟨cn3, hn⟩ := and_e hn
  obtain ⟨cn4, hn⟩ := and_e hn
  have cn5 := hn
  obtain ⟨w_FALSE, ev_FALSE⟩ := exa_v cn0
  have S_FALSE : Sta s s.heap "com/example/clearance_for_data/clearancefordata/expression/Truth" "FALSE" "Lcom/example/clearance_for_data/clearancefordata/expression/Truth;" (.ref w_FALSE) := Sta.start ev_FALSE (Or.inr ⟨(hw _ (List.mem_of_getElem? (i := 6) rfl)), (hw _ (List.mem_of_getElem? (i := 7) rfl))⟩)
  have E_w_FALSE : Exa s s.heap w_FALSE "com/example/clearance_for_data/clearancefordata/expression/Truth" := Exa.start ev_FALSE cn0
  obtain ⟨w_TRUE, ev_TRUE⟩ := exa_v cn1
  have S_TRUE : Sta s s.heap "com/example/clearance_for_data/clearancefordata/expression/Truth" "TRUE" "Lcom/example/clearance_for_data/clearancefordata/expression/Truth;" (.ref w_TRUE) := Sta.start ev_TRUE (Or.inr ⟨(hw _ (List.mem_of_getElem? (i := 6) rfl)), (hw _ (List.mem_of_getElem? (i := 14) rfl))⟩)
  have E_w_TRUE : Exa s s.heap w_TRUE "com/example/clearance_for_data/clearancefordata/expression/Truth" := Exa.start ev_TRUE cn1
  obtain ⟨w_UNKNOWN, ev_UNKNOWN⟩ := exa_v cn4
  have S_UNKNOWN : Sta s s.heap "com/example/clearance_for_data/clearancefordata/expression/Truth" "UNKNOWN" "Lcom/example/clearance_for_data/clearancefordata/expression/Truth;" (.ref w_UNKNOWN) := Sta.start ev_UNKNOWN (Or.inr ⟨(hw _ (List.mem_of_getElem? (i := 6) rfl)), (hw _ (List.mem_of_getElem? (i := 16) rfl))⟩)
  have E_w_UNKNOWN : Exa s s.heap w_UNKNOWN "com/example/clearance_for_data/clearancefordata/expression/Truth" := Exa.start ev_UNKNOWN cn4
  have q_FALSE := (fld_at ev_FALSE).symm.trans (own_eqv cn2)
  have o_FALSE := own_ordv q_FALSE
  have q_TRUE := (fld_at ev_TRUE).symm.trans (own_eqv cn3)
  have o_TRUE := own_ordv q_TRUE
  have q_UNKNOWN := (fld_at ev_UNKNOWN).symm.trans (own_eqv cn5)
  have o_UNKNOWN := own_ordv q_UNKNOWN
  obtain ⟨n, o, h1, h2, h3, _, L, rfl, ⟨rfl, N⟩, hq⟩ := rm0 l s _ hw tables_1 i0 i1 w_FALSE w_UNKNOWN w_TRUE s.heap s.heap.size (Nat.le_refl _) S_FALSE S_UNKNOWN S_TRUE E_w_FALSE E_w_UNKNOWN E_w_TRUE o_FALSE o_UNKNOWN o_TRUE p e ha hc hk s m _ below hf ((Spec.applies_iff_loose hf).mp happ).1 ⟨rfl, State.Warmed39.refl s, rfl⟩ trivial
  refine ⟨n, _, h1, h2, h3, hpost _ _ _ _ _ _ ⟨Cond.after_iff.mpr rfl, Cond.after_iff.mpr (eq_i res_at (Term.int_eval (1)) rfl), trivial⟩ ⟨hq.1, hq.2.1, (hq.2.2.sift fun y hy => Or.inr (N y hy)).mono (by decide) (by decide)⟩⟩
theorem main_1_1 : Claimed_1_1 := comes_1 fun _ _ _ _ _ _ h hF => ⟨h.1, hF⟩
theorem main_1_2 : Claimed_1_2 := comes_1 fun _ _ _ _ _ _ h hF => ⟨h.2.1, hF⟩
end Jvm.Pilot.@@N@@
namespace Jvm.Pilot.@@N@@
open Jvm Jvm.ClassFile Sem Op Lib Jvm.Free Jvm.Stand Jvm.Pilot.@@N@@.Jvm.D
/-! MADE BY PROGRAM (witnessworld.py) out of the Statement's table words and the real class files: 13 classes; the members and pool entries that the words name. The judged class is class 1, her method 3. -/
namespace start1
open Jvm.ClassFile
def u (s : String) : CpInfo := .utf8 (stringToUtf16 s)
/-- a pool by its gaps: so many unusable entries, then the entry; so many at the end -/
def gap : Nat → List CpInfo → List CpInfo
  | 0, r => r
  | n + 1, r => .unusable :: gap n r
def poolList (es : List (Nat × CpInfo)) (last : Nat) : List CpInfo := es.foldr (fun e r => gap e.1 (e.2 :: r)) (gap last [])
def pool (es : List (Nat × CpInfo)) (last : Nat) : Array CpInfo := ⟨poolList es last⟩
def fileOf (pool : Array CpInfo) (this : Nat) (attrs : Array Attribute := #[]) (ms : Array MethodInfo := #[]) (fl : Nat := 33) (sup : Nat := 0) (ifs : Array Nat := #[]) (fds : Array FieldInfo := #[]) : ClassFile where
  minorVersion := 0
  majorVersion := 65
  constantPool := pool
  accessFlags := fl
  thisClass := this
  superClass := sup
  interfaces := ifs
  fields := fds
  methods := ms
  attributes := attrs
def plain (name : String) (sup : Option ClassId) : Class where
  name := name
  kind := .ordinary
  loader := none
  accessFlags := 33
  super := sup
  interfaces := #[]
  cf := none
  fields := #[]
  methods := #[]
  instanceTypes := #[]
  staticTypes := #[]
  resolved := #[]
  callSites := []
  init := .initialized
  statics := none
  mirror := none

def pool0 : Array CpInfo := pool [(5, u "<init>"), (0, u "()V"), (1, .class_ 10), (1, u "java/lang/Object")] 113

def k0m0 : Method := { name := "<init>", desc := "()V", sig := { parameters := [], returnType := none }, accessFlags := 1, code := none }
/-- java/lang/Object -/
def k0 : Class := { plain "java/lang/Object" none with
  accessFlags := 33
  interfaces := #[]
  cf := some (fileOf pool0 8 #[] #[{ accessFlags := 1, nameIndex := 5, descriptorIndex := 6, attributes := #[] }] 33 0 #[] #[])
  fields := #[]
  methods := #[k0m0]
  instanceTypes := #[]
  staticTypes := #[]
  resolved := Array.replicate 124 none
  statics := none }

def pool1 : Array CpInfo := pool [(2, .class_ 4), (1, u "java/lang/Object"), (0, u "<init>"), (0, u "()V"), (0, .integer 2147483647), (0, .fieldref 9 10), (0, .class_ 11), (0, .nameAndType 12 13), (0, u "com/example/clearance_for_data/clearancefordata/expression/Truth"), (0, u "FALSE"), (0, u "Lcom/example/clearance_for_data/clearancefordata/expression/Truth;"), (0, .fieldref 9 15), (0, .nameAndType 16 13), (0, u "UNKNOWN"), (0, .fieldref 9 18), (0, .nameAndType 19 13), (0, u "TRUE"), (0, .methodref 21 22), (0, .class_ 23), (0, .nameAndType 24 25), (0, u "com/example/clearance_for_data/clearancefordata/expression/TruthOrPinLaw"), (0, u "pick"), (0, u "(I)Lcom/example/clearance_for_data/clearancefordata/expression/Truth;"), (0, .methodref 9 27), (0, .nameAndType 28 29), (0, u "or"), (0, u "(Lcom/example/clearance_for_data/clearancefordata/expression/Truth;)Lcom/example/clearance_for_data/clearancefordata/expression/Truth;"), (0, .methodref 21 31), (0, .nameAndType 32 33), (0, u "rank"), (0, u "(Lcom/example/clearance_for_data/clearancefordata/expression/Truth;)I"), (0, .methodref 35 36), (0, .class_ 37), (0, .nameAndType 38 39), (0, u "java/lang/Math"), (0, u "max"), (0, u "(II)I"), (3, u "law"), (0, u "(II)Z")] 2

def k1m0 : Method := { name := "<init>", desc := "()V", sig := { parameters := [], returnType := none }, accessFlags := 1, code := none }
def k1c1 : Code := { maxStack := 2, maxLocals := 2, code := method_2_code, exceptionTable := #[], attributes := #[] }
def k1m1 : Method := { name := "pick", desc := "(I)Lcom/example/clearance_for_data/clearancefordata/expression/Truth;", sig := { parameters := [.int], returnType := some (.object "com/example/clearance_for_data/clearancefordata/expression/Truth") }, accessFlags := 10, code := some k1c1 }
def k1c2 : Code := { maxStack := 2, maxLocals := 1, code := method_3_code, exceptionTable := #[], attributes := #[] }
def k1m2 : Method := { name := "rank", desc := "(Lcom/example/clearance_for_data/clearancefordata/expression/Truth;)I", sig := { parameters := [(.object "com/example/clearance_for_data/clearancefordata/expression/Truth")], returnType := some .int }, accessFlags := 10, code := some k1c2 }
def k1c3 : Code := { maxStack := 2, maxLocals := 6, code := code, exceptionTable := #[], attributes := #[] }
def k1m3 : Method := { name := "law", desc := "(II)Z", sig := { parameters := [.int, .int], returnType := some .boolean }, accessFlags := 9, code := some k1c3 }
/-- com/example/clearance_for_data/clearancefordata/expression/TruthOrPinLaw -/
def k1 : Class := { plain "com/example/clearance_for_data/clearancefordata/expression/TruthOrPinLaw" (some 0) with
  accessFlags := 49
  interfaces := #[]
  cf := some (fileOf pool1 21 #[] #[{ accessFlags := 1, nameIndex := 5, descriptorIndex := 6, attributes := #[] }, { accessFlags := 10, nameIndex := 24, descriptorIndex := 25, attributes := #[] }, { accessFlags := 10, nameIndex := 32, descriptorIndex := 33, attributes := #[] }, { accessFlags := 9, nameIndex := 43, descriptorIndex := 44, attributes := #[] }] 49 2 #[] #[])
  fields := #[]
  methods := #[k1m0, k1m1, k1m2, k1m3]
  instanceTypes := #[]
  staticTypes := #[]
  resolved := Array.replicate 47 none
  statics := none }

def pool2 : Array CpInfo := pool [(1, .class_ 2), (0, u "java/lang/constant/Constable"), (0, .class_ 4), (0, u "java/lang/Object")] 6

/-- java/lang/constant/Constable -/
def k2 : Class := { plain "java/lang/constant/Constable" (some 0) with
  accessFlags := 1537
  interfaces := #[]
  cf := some (fileOf pool2 1 #[] #[] 1537 3 #[] #[])
  fields := #[]
  methods := #[]
  instanceTypes := #[]
  staticTypes := #[]
  resolved := Array.replicate 11 none
  statics := none }

def pool3 : Array CpInfo := pool [(1, .class_ 2), (0, u "java/lang/Comparable"), (0, .class_ 4), (0, u "java/lang/Object")] 7

/-- java/lang/Comparable -/
def k3 : Class := { plain "java/lang/Comparable" (some 0) with
  accessFlags := 1537
  interfaces := #[]
  cf := some (fileOf pool3 1 #[] #[] 1537 3 #[] #[])
  fields := #[]
  methods := #[]
  instanceTypes := #[]
  staticTypes := #[]
  resolved := Array.replicate 12 none
  statics := none }

def pool4 : Array CpInfo := pool [(1, .class_ 2), (0, u "java/io/Serializable"), (0, .class_ 4), (0, u "java/lang/Object")] 2

/-- java/io/Serializable -/
def k4 : Class := { plain "java/io/Serializable" (some 0) with
  accessFlags := 1537
  interfaces := #[]
  cf := some (fileOf pool4 1 #[] #[] 1537 3 #[] #[])
  fields := #[]
  methods := #[]
  instanceTypes := #[]
  staticTypes := #[]
  resolved := Array.replicate 7 none
  statics := none }

def pool5 : Array CpInfo := pool [(2, .class_ 4), (1, u "java/lang/Enum"), (0, u "name"), (0, u "Ljava/lang/String;"), (2, u "ordinal"), (0, u "I"), (1, .class_ 14), (1, u "java/lang/Object"), (4, u "hash"), (86, .class_ 108), (1, u "java/lang/Enum$EnumDesc"), (2, .class_ 112), (0, u "java/lang/constant/Constable"), (0, .class_ 114), (0, u "java/lang/Comparable"), (0, .class_ 116), (0, u "java/io/Serializable")] 87

/-- java/lang/Enum -/
def k5 : Class := { plain "java/lang/Enum" (some 0) with
  accessFlags := 1057
  interfaces := #[2, 3, 4]
  cf := some (fileOf pool5 2 #[.nestMembers #[106]] #[] 1057 12 #[111, 113, 115] #[{ accessFlags := 18, nameIndex := 5, descriptorIndex := 6, attributes := #[] }, { accessFlags := 18, nameIndex := 9, descriptorIndex := 10, attributes := #[] }, { accessFlags := 2, nameIndex := 19, descriptorIndex := 10, attributes := #[] }])
  fields := #[{ name := "name", type := (.object "java/lang/String"), accessFlags := 18, slot := 0, constantValue := 0 }, { name := "ordinal", type := .int, accessFlags := 18, slot := 1, constantValue := 0 }, { name := "hash", type := .int, accessFlags := 2, slot := 2, constantValue := 0 }]
  methods := #[]
  instanceTypes := #[(.object "java/lang/String"), .int, .int]
  staticTypes := #[]
  resolved := Array.replicate 204 none
  statics := none }

def pool6 : Array CpInfo := pool [(1, .class_ 2), (0, u "com/example/clearance_for_data/clearancefordata/expression/Truth"), (0, .fieldref 1 4), (0, .nameAndType 5 6), (0, u "TRUE"), (0, u "Lcom/example/clearance_for_data/clearancefordata/expression/Truth;"), (0, .fieldref 1 8), (0, .nameAndType 9 6), (0, u "FALSE"), (0, .fieldref 1 11), (0, .nameAndType 12 6), (0, u "UNKNOWN"), (2, u "$VALUES"), (0, u "[Lcom/example/clearance_for_data/clearancefordata/expression/Truth;"), (6, .class_ 25), (1, u "java/lang/Enum"), (34, u "(Lcom/example/clearance_for_data/clearancefordata/expression/Truth;)Lcom/example/clearance_for_data/clearancefordata/expression/Truth;"), (0, u "or")] 6

def k6c0 : Code := { maxStack := 2, maxLocals := 2, code := prog_37_method_6_code, exceptionTable := #[], attributes := #[] }
def k6m0 : Method := { name := "or", desc := "(Lcom/example/clearance_for_data/clearancefordata/expression/Truth;)Lcom/example/clearance_for_data/clearancefordata/expression/Truth;", sig := { parameters := [(.object "com/example/clearance_for_data/clearancefordata/expression/Truth")], returnType := some (.object "com/example/clearance_for_data/clearancefordata/expression/Truth") }, accessFlags := 0, code := some k6c0 }
/-- com/example/clearance_for_data/clearancefordata/expression/Truth -/
def k6 : Class := { plain "com/example/clearance_for_data/clearancefordata/expression/Truth" (some 5) with
  accessFlags := 16433
  interfaces := #[]
  cf := some (fileOf pool6 1 #[] #[{ accessFlags := 0, nameIndex := 61, descriptorIndex := 60, attributes := #[] }] 16433 23 #[] #[{ accessFlags := 16409, nameIndex := 5, descriptorIndex := 6, attributes := #[] }, { accessFlags := 16409, nameIndex := 9, descriptorIndex := 6, attributes := #[] }, { accessFlags := 16409, nameIndex := 12, descriptorIndex := 6, attributes := #[] }, { accessFlags := 4122, nameIndex := 15, descriptorIndex := 16, attributes := #[] }])
  fields := #[{ name := "TRUE", type := (.object "com/example/clearance_for_data/clearancefordata/expression/Truth"), accessFlags := 16409, slot := 0, constantValue := 0 }, { name := "FALSE", type := (.object "com/example/clearance_for_data/clearancefordata/expression/Truth"), accessFlags := 16409, slot := 1, constantValue := 0 }, { name := "UNKNOWN", type := (.object "com/example/clearance_for_data/clearancefordata/expression/Truth"), accessFlags := 16409, slot := 2, constantValue := 0 }, { name := "$VALUES", type := (.array (.object "com/example/clearance_for_data/clearancefordata/expression/Truth")), accessFlags := 4122, slot := 3, constantValue := 0 }]
  methods := #[k6m0]
  instanceTypes := #[(.object "java/lang/String"), .int, .int]
  staticTypes := #[(.object "com/example/clearance_for_data/clearancefordata/expression/Truth"), (.object "com/example/clearance_for_data/clearancefordata/expression/Truth"), (.object "com/example/clearance_for_data/clearancefordata/expression/Truth"), (.array (.object "com/example/clearance_for_data/clearancefordata/expression/Truth"))]
  resolved := Array.replicate 68 none
  statics := some 0 }

def pool7 : Array CpInfo := pool [(1, .class_ 2), (0, u "java/lang/Math"), (1, .class_ 6), (1, u "java/lang/Object"), (0, u "<init>"), (0, u "()V"), (89, .class_ 100), (1, u "java/lang/Math$RandomNumberGeneratorHolder"), (71, u "negativeZeroFloatBits"), (0, u "J"), (2, u "negativeZeroDoubleBits"), (21, u "max"), (46, u "$assertionsDisabled"), (0, u "Z"), (88, u "(II)I"), (2, u "twoToTheDoubleScaleDown"), (0, u "D"), (4, u "twoToTheDoubleScaleUp"), (9, u "E"), (3, u "PI"), (2, u "TAU"), (2, u "DEGREES_TO_RADIANS"), (0, u "RADIANS_TO_DEGREES")] 94

def k7m0 : Method := { name := "<init>", desc := "()V", sig := { parameters := [], returnType := none }, accessFlags := 2, code := none }
def k7c1 : Code := { maxStack := 2, maxLocals := 2, code := jdk_29_method_65_code, exceptionTable := #[], attributes := #[] }
def k7m1 : Method := { name := "max", desc := "(II)I", sig := { parameters := [.int, .int], returnType := some .int }, accessFlags := 9, code := some k7c1 }
/-- java/lang/Math -/
def k7 : Class := { plain "java/lang/Math" (some 0) with
  accessFlags := 49
  interfaces := #[]
  cf := some (fileOf pool7 1 #[.nestMembers #[98]] #[{ accessFlags := 2, nameIndex := 7, descriptorIndex := 8, attributes := #[] }, { accessFlags := 9, nameIndex := 198, descriptorIndex := 335, attributes := #[] }] 49 4 #[] #[{ accessFlags := 25, nameIndex := 354, descriptorIndex := 339, attributes := #[] }, { accessFlags := 25, nameIndex := 358, descriptorIndex := 339, attributes := #[] }, { accessFlags := 25, nameIndex := 361, descriptorIndex := 339, attributes := #[] }, { accessFlags := 26, nameIndex := 364, descriptorIndex := 339, attributes := #[] }, { accessFlags := 26, nameIndex := 365, descriptorIndex := 339, attributes := #[] }, { accessFlags := 26, nameIndex := 172, descriptorIndex := 173, attributes := #[] }, { accessFlags := 26, nameIndex := 176, descriptorIndex := 173, attributes := #[] }, { accessFlags := 8, nameIndex := 344, descriptorIndex := 339, attributes := #[] }, { accessFlags := 8, nameIndex := 338, descriptorIndex := 339, attributes := #[] }, { accessFlags := 4120, nameIndex := 245, descriptorIndex := 246, attributes := #[] }])
  fields := #[{ name := "E", type := .double, accessFlags := 25, slot := 0, constantValue := 0 }, { name := "PI", type := .double, accessFlags := 25, slot := 1, constantValue := 0 }, { name := "TAU", type := .double, accessFlags := 25, slot := 2, constantValue := 0 }, { name := "DEGREES_TO_RADIANS", type := .double, accessFlags := 26, slot := 3, constantValue := 0 }, { name := "RADIANS_TO_DEGREES", type := .double, accessFlags := 26, slot := 4, constantValue := 0 }, { name := "negativeZeroFloatBits", type := .long, accessFlags := 26, slot := 5, constantValue := 0 }, { name := "negativeZeroDoubleBits", type := .long, accessFlags := 26, slot := 6, constantValue := 0 }, { name := "twoToTheDoubleScaleUp", type := .double, accessFlags := 8, slot := 7, constantValue := 0 }, { name := "twoToTheDoubleScaleDown", type := .double, accessFlags := 8, slot := 8, constantValue := 0 }, { name := "$assertionsDisabled", type := .boolean, accessFlags := 4120, slot := 9, constantValue := 0 }]
  methods := #[k7m0, k7m1]
  instanceTypes := #[]
  staticTypes := #[.double, .double, .double, .double, .double, .long, .long, .double, .double, .boolean]
  resolved := Array.replicate 460 none
  statics := none }

def pool8 : Array CpInfo := pool [(1, u "java/lang/Cloneable"), (0, .class_ 1), (0, u "java/lang/Object"), (0, .class_ 3)] 3

/-- java/lang/Cloneable -/
def k8 : Class := { plain "java/lang/Cloneable" (some 0) with
  accessFlags := 1537
  interfaces := #[]
  cf := some (fileOf pool8 2 #[] #[] 1537 4 #[] #[])
  fields := #[]
  methods := #[]
  instanceTypes := #[]
  staticTypes := #[]
  resolved := Array.replicate 8 none
  statics := none }

/-- the primitive byte -/
def k9 : Class := { plain "byte" none with kind := .primitive 'B', accessFlags := 0x411 }
/-- [B -/
def k10 : Class := { plain "[B" (some 0) with kind := .array 9 .byte, interfaces := #[8, 4], accessFlags := 1041 }

/-- the primitive int -/
def k11 : Class := { plain "int" none with kind := .primitive 'I', accessFlags := 0x411 }
/-- [I -/
def k12 : Class := { plain "[I" (some 0) with kind := .array 11 .int, interfaces := #[8, 4], accessFlags := 1041 }

def heap : Heap := #[{ cls := 6, slots := #[.ref 2, .ref 1, .ref 3, .null], vm := .statics 6 },
  { cls := 6, slots := #[.null, .int 1, .int 0], vm := .none },
  { cls := 6, slots := #[.null, .int 0, .int 0], vm := .none },
  { cls := 6, slots := #[.null, .int 2, .int 0], vm := .none }]
def classes : Array Class := #[k0, k1, k2, k3, k4, k5, k6, k7, k8, k9, k10, k11, k12]
def interned : List (Array UInt16 × Addr) := []
def slotsUsed : Nat := 13
def theMethod : MethodId := ⟨1, 3⟩
def args0 : Array Value := #[.int 5, .int 7]
def aboutOver (below : List Frame) : State where
  vm := { classes := classes, interned := interned.toArray }
  heap := heap
  slotsUsed := slotsUsed
  threads := #[{ frames := .invoking theMethod args0 :: below }]
def below0 : List Frame := [.native { method := ⟨0, 0⟩, args := #[] }]
def about1 : State := aboutOver below0
def p0 : Program := .bare "" "" ""
def e0 : Env := launch0.env 0 0 0
theorem w_frames : about1.frames = Frame.invoking theMethod args0 :: below0 := rfl
set_option maxRecDepth 65536 in
theorem w_args : argsFit about1.vm theMethod args0 = true := by decide +kernel
set_option maxRecDepth 65536 in
theorem w_heap : heapFits about1 = true := by decide +kernel
set_option maxRecDepth 65536 in
theorem w_runnable : about1.curStatus? = some .runnable := by decide +kernel
set_option maxRecDepth 65536 in
theorem w_alone : about1.alone = true := by decide +kernel
set_option maxRecDepth 65536 in
theorem w_named : about1.methodNamed? x = some theMethod := by decide +kernel
set_option maxRecDepth 65536 in
theorem w_hears : about1.hears theMethod below0 = true := by decide +kernel
set_option maxRecDepth 65536 in
theorem w_ripe : about1.ripe theMethod args0 below0 = true := by decide +kernel
theorem w_running : about1.status = .running := rfl
set_option maxRecDepth 65536 in
theorem w_room : about1.hasRoom e0.platform room_1 = true :=
  launch0.hasRoom_least _ room_1 (by decide +kernel) (by decide +kernel) (by decide +kernel) (by decide +kernel) (by decide +kernel) (by decide +kernel)
theorem allAtoms_all (ts : List Jvm.Cond) (a : Array Jvm.Value) (st : Jvm.State) : (allAtoms ts).before a st = ts.all (fun c => c.before a st) := by
  induction ts with
  | nil => rfl
  | cons c t ih =>
    show (Jvm.Cond.and c (allAtoms t)).before a st = _
    rw [Jvm.Cond.before_and, ih, List.all_cons]
def words1 : List Jvm.Cond := Jvm.Cond.code x code maxLocals ret :: tables_1
/-- a 'code' word, met by the world's own term for the bytes: nothing is compared byte by byte -/
theorem code_word {y : MethodName} {bytes : ByteArray} {mx : Nat} {rt : Option FieldType} {a : Array Value} {s : State} {m : MethodId} {meth : Method} {c : Code} (h1 : s.methodNamed? y = some m) (h2 : s.vm.method? m = some meth) (h3 : meth.code = some c) (h4 : c.code = bytes)
    (h5 : (c.maxLocals == mx && c.exceptionTable.isEmpty && decide (c.maxStack ≤ mostOperands) && decide (meth.sig.returnType = rt) && !meth.locks && decide (parseMethodDescriptor y.desc = some meth.sig)) = true) : (Jvm.Cond.code y bytes mx rt).before a s = true := by
  simp only [Bool.and_eq_true, beq_iff_eq, Bool.not_eq_true', decide_eq_true_eq] at h5
  obtain ⟨⟨⟨⟨⟨g1, g2⟩, g3⟩, g4⟩, g5⟩, g6⟩ := h5
  simp [Cond.before, Cond.holds, Cond.value, h1, h2, h3, h4, g1, g2, g3, g4, g5, g6]
def isCode : Jvm.Cond → Bool
  | .code _ _ _ _ => true
  | _ => false
theorem all_split {L : List Jvm.Cond} {P : Jvm.Cond → Bool} (h1 : L.all (fun c => isCode c || P c) = true) (h2 : ∀ c ∈ L.filter isCode, P c = true) : L.all P = true := by
  refine List.all_eq_true.mpr fun c hc => ?_
  have h := List.all_eq_true.mp h1 c hc
  rcases Bool.eq_false_or_eq_true (isCode c) with hi | hi
  · exact h2 c (List.mem_filter.mpr ⟨hc, hi⟩)
  · simpa [hi] using h
set_option maxRecDepth 65536 in
theorem w_c0 : (Jvm.Cond.code x code maxLocals ret).before args0 about1 = true := code_word (m := ⟨1, 3⟩) (meth := k1m3) (c := k1c3) (by decide +kernel) rfl rfl rfl (by decide +kernel)
set_option maxRecDepth 65536 in
theorem w_c1 : (Jvm.Cond.code ({ cls := "com/example/clearance_for_data/clearancefordata/expression/TruthOrPinLaw", name := "pick", desc := "(I)Lcom/example/clearance_for_data/clearancefordata/expression/Truth;" } : Jvm.MethodName) method_2_code (2 : Nat) (Option.some (Jvm.ClassFile.FieldType.object "com/example/clearance_for_data/clearancefordata/expression/Truth"))).before args0 about1 = true := code_word (m := ⟨1, 1⟩) (meth := k1m1) (c := k1c1) (by decide +kernel) rfl rfl rfl (by decide +kernel)
set_option maxRecDepth 65536 in
theorem w_c2 : (Jvm.Cond.code ({ cls := "com/example/clearance_for_data/clearancefordata/expression/Truth", name := "or", desc := "(Lcom/example/clearance_for_data/clearancefordata/expression/Truth;)Lcom/example/clearance_for_data/clearancefordata/expression/Truth;" } : Jvm.MethodName) prog_37_method_6_code (2 : Nat) (Option.some (Jvm.ClassFile.FieldType.object "com/example/clearance_for_data/clearancefordata/expression/Truth"))).before args0 about1 = true := code_word (m := ⟨6, 0⟩) (meth := k6m0) (c := k6c0) (by decide +kernel) rfl rfl rfl (by decide +kernel)
set_option maxRecDepth 65536 in
theorem w_c3 : (Jvm.Cond.code ({ cls := "com/example/clearance_for_data/clearancefordata/expression/TruthOrPinLaw", name := "rank", desc := "(Lcom/example/clearance_for_data/clearancefordata/expression/Truth;)I" } : Jvm.MethodName) method_3_code (1 : Nat) (Option.some Jvm.ClassFile.FieldType.int)).before args0 about1 = true := code_word (m := ⟨1, 2⟩) (meth := k1m2) (c := k1c2) (by decide +kernel) rfl rfl rfl (by decide +kernel)
set_option maxRecDepth 65536 in
theorem w_c4 : (Jvm.Cond.code ({ cls := "java/lang/Math", name := "max", desc := "(II)I" } : Jvm.MethodName) jdk_29_method_65_code (2 : Nat) (Option.some Jvm.ClassFile.FieldType.int)).before args0 about1 = true := code_word (m := ⟨7, 1⟩) (meth := k7m1) (c := k7c1) (by decide +kernel) rfl rfl rfl (by decide +kernel)
def codes1 : List Jvm.Cond := [Jvm.Cond.code x code maxLocals ret, Jvm.Cond.code ({ cls := "com/example/clearance_for_data/clearancefordata/expression/TruthOrPinLaw", name := "pick", desc := "(I)Lcom/example/clearance_for_data/clearancefordata/expression/Truth;" } : Jvm.MethodName) method_2_code (2 : Nat) (Option.some (Jvm.ClassFile.FieldType.object "com/example/clearance_for_data/clearancefordata/expression/Truth")), Jvm.Cond.code ({ cls := "com/example/clearance_for_data/clearancefordata/expression/Truth", name := "or", desc := "(Lcom/example/clearance_for_data/clearancefordata/expression/Truth;)Lcom/example/clearance_for_data/clearancefordata/expression/Truth;" } : Jvm.MethodName) prog_37_method_6_code (2 : Nat) (Option.some (Jvm.ClassFile.FieldType.object "com/example/clearance_for_data/clearancefordata/expression/Truth")), Jvm.Cond.code ({ cls := "com/example/clearance_for_data/clearancefordata/expression/TruthOrPinLaw", name := "rank", desc := "(Lcom/example/clearance_for_data/clearancefordata/expression/Truth;)I" } : Jvm.MethodName) method_3_code (1 : Nat) (Option.some Jvm.ClassFile.FieldType.int), Jvm.Cond.code ({ cls := "java/lang/Math", name := "max", desc := "(II)I" } : Jvm.MethodName) jdk_29_method_65_code (2 : Nat) (Option.some Jvm.ClassFile.FieldType.int)]
set_option maxRecDepth 65536 in
theorem codes_eq : words1.filter isCode = codes1 := rfl
theorem w_codes : ∀ c ∈ words1.filter isCode, c.before args0 about1 = true := by
  rw [codes_eq]
  intro c hc
  simp only [codes1, List.mem_cons, List.not_mem_nil, or_false] at hc
  rcases hc with rfl | rfl | rfl | rfl | rfl
  · exact w_c0
  · exact w_c1
  · exact w_c2
  · exact w_c3
  · exact w_c4
set_option maxRecDepth 65536 in
theorem w_t1 : (words1.take 24).all (fun c => isCode c || c.before args0 about1) = true := by decide +kernel
set_option maxRecDepth 65536 in
theorem w_t2 : (words1.drop 24).all (fun c => isCode c || c.before args0 about1) = true := by decide +kernel
theorem w_tables : (allAtoms (Jvm.Cond.code x code maxLocals ret :: tables_1)).before args0 about1 = true := by
  rw [allAtoms_all]
  show words1.all (fun c => c.before args0 about1) = true
  refine all_split ?_ w_codes
  rw [← List.take_append_drop 24 words1, List.all_append, w_t1, w_t2]
  rfl
set_option maxRecDepth 65536 in
theorem w_case : (Jvm.Cond.and given_1 narrow_1).before args0 about1 = true := by decide +kernel
theorem w_applies : (headSpec (Jvm.Cond.code x code maxLocals ret :: tables_1) room_1).applies x e0.platform about1 = true :=
  (Spec.applies_iff w_frames).mpr ⟨w_running, w_runnable, w_alone, w_named, w_hears, w_ripe, w_room, w_tables⟩
theorem atStart : AtStart classFile x code maxLocals ret World_1 tables_1 room_1 Calls_1 rest_1 Pre_1 launch0 p0 e0 about1 theMethod args0 below0 :=
  ⟨lists_1, trivial, launch0.admits_env _ _ _, launch0.least_env, fairChoices_fair.cas, fairChoices_fair.clock, w_frames, w_args, w_heap, w_applies, trivial, trivial, w_case⟩
end start1
theorem witness_1 : WitnessClaimed_1 := ⟨start1.p0, start1.e0, start1.about1, start1.theMethod, start1.args0, start1.below0, start1.atStart⟩
end Jvm.Pilot.@@N@@
