import JvmDerived
import JvmDerived.Pilot.@@N@@Statement
import JvmDerived.Pilot.@@N@@Code
set_option linter.unusedVariables false
set_option linter.unusedSimpArgs false
@@BLOCK:NumsL.lean.txt@@
namespace Jvm.RoadKit
open Sem ClassFile Op Lib Jvm.Stand Jvm.Free Jvm.LawKit
section New
variable {p : Program} {l : Launch} {e : Env} {R : Room} {s : State} {m : MethodId} {args : Array Value} {below : List Frame} {meth : Method} {c : Code} {T : State} {locs : List Loc} {cells slots : Nat}
theorem retI (X : Stand p l e R s m args below meth c T locs cells slots) (hx : p.tables.exec = Jvm.exec) {pc : Nat} {Ls : Array Slot} {z : Int32} {rest : List Value} (hret : meth.sig.returnType = some .int) (hd : decode c.code pc = .ok (.ireturn, 1)) {fs : List Frame}
    (hl : ∀ (f : JFrame) (acts : List Action), f.method = m → f.locked = none → f.entered = [] → (doReturn e (T.setTop f) acts (some (.int z))).1 = T.setFrames fs) : Steps p.tables e below (T.setTop (mkF m pc Ls (.int z :: rest))) (T.setFrames fs) := by
  have hm' : T.vm.method? m = some meth := X.method'
  have hn : narrow .int (.int z) = .int z := rfl
  show Steps p.tables e below (T.setTop { method := m, pc := pc, locals := Ls, stack := _ :: rest, locked := none }) _
  jvm_step X.here [X.here.top, hx, hd, hm', hret, hn]
  first | (intro acts; rw [hl _ acts rfl rfl rfl]) | rw [hl _ _ rfl rfl rfl]
  exact Steps.refl _
end New
end Jvm.RoadKit
namespace Jvm.Pilot.@@N@@
open Jvm Jvm.ClassFile Sem Op Lib Jvm.Free Jvm.Stand Jvm.LawKit Jvm.RoadKit Bundle Jvm.Pilot.@@N@@.Jvm.D
theorem own_eqv {args : Array Value} {first s : State} {o : Option Outcome} {idx : List Nat} {t : Term} {k : Int32} (h : (Cond.eq t (.int k)).value args first o s idx = some true) : t.eval args first o idx s = some (.int k) := by
  cases ht : t.eval args first o idx s with
  | none => simp [Cond.value, ht] at h
  | some v => cases v <;> simp [Cond.value, ht, Term.eval] at h ⊢ <;> exact h
def own_ord (Z : State) (a : Addr) : Int32 := match Z.fieldOf? a "java/lang/Enum" "ordinal" "I" with
  | some (.int k) => k
  | _ => -1
theorem own_ordv {Z : State} {a : Addr} {k : Int32} (h : Z.fieldOf? a "java/lang/Enum" "ordinal" "I" = some (.int k)) : own_ord Z a = k := by simp [own_ord, h]
theorem own_dis {Z : State} {a b : Addr} {i j : Int32} (h : own_ord Z a = i) (h' : own_ord Z b = j) (n : i ≠ j) : a ≠ b := fun e => n (by rw [← h, ← h', e])
theorem own_mod (p c : Int32) (hc : 0 < c.toInt) : 0 ≤ ((p &&& (2147483647 : Int32)) - ((p &&& (2147483647 : Int32)) / c) * c).toInt ∧ ((p &&& (2147483647 : Int32)) - ((p &&& (2147483647 : Int32)) / c) * c).toInt < c.toInt := by
  have e : (p &&& (2147483647 : Int32)).toInt = p.toInt % 2 ^ 31 := Jvm.Kit.i32_mask p 2147483647 (k := 31) (by decide) (by decide)
  rw [irem_eq_mod, Jvm.Kit.i32_rem_nonneg (by omega)]
  exact ⟨Int.emod_nonneg _ (by omega), Int.emod_lt_of_pos _ hc⟩
def own_st (p : Int32) (w_CLIENT_DELETE_PROHIBITED w_CLIENT_HOLD w_CLIENT_RENEW_PROHIBITED w_CLIENT_TRANSFER_PROHIBITED w_CLIENT_UPDATE_PROHIBITED w_SERVER_DELETE_PROHIBITED w_SERVER_HOLD w_SERVER_RENEW_PROHIBITED w_SERVER_TRANSFER_PROHIBITED w_SERVER_UPDATE_PROHIBITED : Addr) : Addr := if p = 0 then w_CLIENT_DELETE_PROHIBITED else if p = 1 then w_CLIENT_HOLD else if p = 2 then w_CLIENT_RENEW_PROHIBITED else if p = 3 then w_CLIENT_TRANSFER_PROHIBITED else if p = 4 then w_CLIENT_UPDATE_PROHIBITED else if p = 5 then w_SERVER_DELETE_PROHIBITED else if p = 6 then w_SERVER_HOLD else if p = 7 then w_SERVER_RENEW_PROHIBITED else if p = 8 then w_SERVER_TRANSFER_PROHIBITED else w_SERVER_UPDATE_PROHIBITED
def own_cmd (p : Int32) (w_DELETE w_RENEW w_TRANSFER w_UPDATE : Addr) : Addr := if p = 0 then w_DELETE else if p = 1 then w_RENEW else if p = 2 then w_TRANSFER else w_UPDATE
def own_pvi (p : Int32) (w_DELETE w_RENEW w_TRANSFER w_UPDATE : Addr) : Value := if p = 0 then Value.ref w_DELETE else if p = 1 then Value.null else if p = 2 then Value.ref w_RENEW else if p = 3 then Value.ref w_TRANSFER else if p = 4 then Value.ref w_UPDATE else if p = 5 then Value.ref w_DELETE else if p = 6 then Value.null else if p = 7 then Value.ref w_RENEW else if p = 8 then Value.ref w_TRANSFER else Value.ref w_UPDATE
def own_pro (v : Value) (r : Addr) : Int32 := if v = Value.ref r then 1 else 0
theorem own_isref (p : Int32) (w_DELETE w_RENEW w_TRANSFER w_UPDATE : Addr) : (own_pvi p w_DELETE w_RENEW w_TRANSFER w_UPDATE).isRef = true := by unfold own_pvi; repeat' (split <;> try rfl)
theorem own_ten (p i : Int32) (h : i = (p &&& (2147483647 : Int32)) - ((p &&& (2147483647 : Int32)) / (10 : Int32)) * (10 : Int32)) : i = 0 ∨ i = 1 ∨ i = 2 ∨ i = 3 ∨ i = 4 ∨ i = 5 ∨ i = 6 ∨ i = 7 ∨ i = 8 ∨ i = 9 := by
  have g := own_mod p 10 (by decide)
  rw [← h] at g
  have c10 : (10 : Int32).toInt = 10 := by decide
  have e : i.toInt = 0 ∨ i.toInt = 1 ∨ i.toInt = 2 ∨ i.toInt = 3 ∨ i.toInt = 4 ∨ i.toInt = 5 ∨ i.toInt = 6 ∨ i.toInt = 7 ∨ i.toInt = 8 ∨ i.toInt = 9 := by omega
  rcases e with e | e | e | e | e | e | e | e | e | e
  · exact Or.inl (Int32.toInt_inj.mp e)
  · exact Or.inr (Or.inl (Int32.toInt_inj.mp e))
  · exact Or.inr (Or.inr (Or.inl (Int32.toInt_inj.mp e)))
  · exact Or.inr (Or.inr (Or.inr (Or.inl (Int32.toInt_inj.mp e))))
  · exact Or.inr (Or.inr (Or.inr (Or.inr (Or.inl (Int32.toInt_inj.mp e)))))
  · exact Or.inr (Or.inr (Or.inr (Or.inr (Or.inr (Or.inl (Int32.toInt_inj.mp e))))))
  · exact Or.inr (Or.inr (Or.inr (Or.inr (Or.inr (Or.inr (Or.inl (Int32.toInt_inj.mp e)))))))
  · exact Or.inr (Or.inr (Or.inr (Or.inr (Or.inr (Or.inr (Or.inr (Or.inl (Int32.toInt_inj.mp e))))))))
  · exact Or.inr (Or.inr (Or.inr (Or.inr (Or.inr (Or.inr (Or.inr (Or.inr (Or.inl (Int32.toInt_inj.mp e)))))))))
  · exact Or.inr (Or.inr (Or.inr (Or.inr (Or.inr (Or.inr (Or.inr (Or.inr (Or.inr ((Int32.toInt_inj.mp e))))))))))
theorem own_four (p j : Int32) (h : j = p &&& (3 : Int32)) : j = 0 ∨ j = 1 ∨ j = 2 ∨ j = 3 := by
  have g : (p &&& (3 : Int32)).toInt = p.toInt % 2 ^ 2 := Jvm.Kit.i32_mask p 3 (k := 2) (by decide) (by decide)
  rw [← h] at g
  have e : j.toInt = 0 ∨ j.toInt = 1 ∨ j.toInt = 2 ∨ j.toInt = 3 := by omega
  rcases e with e | e | e | e
  · exact Or.inl (Int32.toInt_inj.mp e)
  · exact Or.inr (Or.inl (Int32.toInt_inj.mp e))
  · exact Or.inr (Or.inr (Or.inl (Int32.toInt_inj.mp e)))
  · exact Or.inr (Or.inr (Or.inr (Int32.toInt_inj.mp e)))
set_option maxHeartbeats 4000000 in
theorem own_law {Z : State} {w_DELETE w_RENEW w_TRANSFER w_UPDATE : Addr} (o_DELETE : own_ord Z w_DELETE = 0) (o_RENEW : own_ord Z w_RENEW = 1) (o_TRANSFER : own_ord Z w_TRANSFER = 2) (o_UPDATE : own_ord Z w_UPDATE = 3) (i j k : Int32) (hi : i = 0 ∨ i = 1 ∨ i = 2 ∨ i = 3 ∨ i = 4 ∨ i = 5 ∨ i = 6 ∨ i = 7 ∨ i = 8 ∨ i = 9) (hj : j = 0 ∨ j = 1 ∨ j = 2 ∨ j = 3) (hk : k = i - (i / (5 : Int32)) * (5 : Int32)) : own_pro (own_pvi i w_DELETE w_RENEW w_TRANSFER w_UPDATE) (own_cmd j w_DELETE w_RENEW w_TRANSFER w_UPDATE) = if k = 1 then 0 else if k = 0 then (if j = 0 then 1 else 0) else if k = 2 then (if j = 1 then 1 else 0) else if k = 3 then (if j = 2 then 1 else 0) else (if j = 3 then 1 else 0) := by
  subst hk
  rcases hi with rfl | rfl | rfl | rfl | rfl | rfl | rfl | rfl | rfl | rfl <;> rcases hj with rfl | rfl | rfl | rfl <;> simp +decide [own_pro, own_pvi, own_cmd, (own_dis o_DELETE o_RENEW (by decide)), (own_dis o_DELETE o_TRANSFER (by decide)), (own_dis o_DELETE o_UPDATE (by decide)), (own_dis o_RENEW o_DELETE (by decide)), (own_dis o_RENEW o_TRANSFER (by decide)), (own_dis o_RENEW o_UPDATE (by decide)), (own_dis o_TRANSFER o_DELETE (by decide)), (own_dis o_TRANSFER o_RENEW (by decide)), (own_dis o_TRANSFER o_UPDATE (by decide)), (own_dis o_UPDATE o_DELETE (by decide)), (own_dis o_UPDATE o_RENEW (by decide)), (own_dis o_UPDATE o_TRANSFER (by decide))]
theorem d_method_2_code_0 : decode method_2_code 0 = .ok (.iload_n 0, 1) := by decide +kernel
theorem d_method_2_code_1 : decode method_2_code 1 = .ok (.ifCond .ne 7, 3) := by decide +kernel
theorem d_method_2_code_4 : decode method_2_code 4 = .ok (.getstatic 7, 3) := by decide +kernel
theorem d_method_2_code_7 : decode method_2_code 7 = .ok (.areturn, 1) := by decide +kernel
theorem d_method_2_code_8 : decode method_2_code 8 = .ok (.iload_n 0, 1) := by decide +kernel
theorem d_method_2_code_9 : decode method_2_code 9 = .ok (.iconst 1, 1) := by decide +kernel
theorem d_method_2_code_10 : decode method_2_code 10 = .ok (.if_icmp .ne 7, 3) := by decide +kernel
theorem d_method_2_code_13 : decode method_2_code 13 = .ok (.getstatic 13, 3) := by decide +kernel
theorem d_method_2_code_16 : decode method_2_code 16 = .ok (.areturn, 1) := by decide +kernel
theorem d_method_2_code_17 : decode method_2_code 17 = .ok (.iload_n 0, 1) := by decide +kernel
theorem d_method_2_code_18 : decode method_2_code 18 = .ok (.iconst 2, 1) := by decide +kernel
theorem d_method_2_code_19 : decode method_2_code 19 = .ok (.if_icmp .ne 7, 3) := by decide +kernel
theorem d_method_2_code_22 : decode method_2_code 22 = .ok (.getstatic 16, 3) := by decide +kernel
theorem d_method_2_code_25 : decode method_2_code 25 = .ok (.areturn, 1) := by decide +kernel
theorem d_method_2_code_26 : decode method_2_code 26 = .ok (.iload_n 0, 1) := by decide +kernel
theorem d_method_2_code_27 : decode method_2_code 27 = .ok (.iconst 3, 1) := by decide +kernel
theorem d_method_2_code_28 : decode method_2_code 28 = .ok (.if_icmp .ne 7, 3) := by decide +kernel
theorem d_method_2_code_31 : decode method_2_code 31 = .ok (.getstatic 19, 3) := by decide +kernel
theorem d_method_2_code_34 : decode method_2_code 34 = .ok (.areturn, 1) := by decide +kernel
theorem d_method_2_code_35 : decode method_2_code 35 = .ok (.iload_n 0, 1) := by decide +kernel
theorem d_method_2_code_36 : decode method_2_code 36 = .ok (.iconst 4, 1) := by decide +kernel
theorem d_method_2_code_37 : decode method_2_code 37 = .ok (.if_icmp .ne 7, 3) := by decide +kernel
theorem d_method_2_code_40 : decode method_2_code 40 = .ok (.getstatic 22, 3) := by decide +kernel
theorem d_method_2_code_43 : decode method_2_code 43 = .ok (.areturn, 1) := by decide +kernel
theorem d_method_2_code_44 : decode method_2_code 44 = .ok (.iload_n 0, 1) := by decide +kernel
theorem d_method_2_code_45 : decode method_2_code 45 = .ok (.iconst 5, 1) := by decide +kernel
theorem d_method_2_code_46 : decode method_2_code 46 = .ok (.if_icmp .ne 7, 3) := by decide +kernel
theorem d_method_2_code_49 : decode method_2_code 49 = .ok (.getstatic 25, 3) := by decide +kernel
theorem d_method_2_code_52 : decode method_2_code 52 = .ok (.areturn, 1) := by decide +kernel
theorem d_method_2_code_53 : decode method_2_code 53 = .ok (.iload_n 0, 1) := by decide +kernel
theorem d_method_2_code_54 : decode method_2_code 54 = .ok (.bipush 6, 2) := by decide +kernel
theorem d_method_2_code_56 : decode method_2_code 56 = .ok (.if_icmp .ne 7, 3) := by decide +kernel
theorem d_method_2_code_59 : decode method_2_code 59 = .ok (.getstatic 28, 3) := by decide +kernel
theorem d_method_2_code_62 : decode method_2_code 62 = .ok (.areturn, 1) := by decide +kernel
theorem d_method_2_code_63 : decode method_2_code 63 = .ok (.iload_n 0, 1) := by decide +kernel
theorem d_method_2_code_64 : decode method_2_code 64 = .ok (.bipush 7, 2) := by decide +kernel
theorem d_method_2_code_66 : decode method_2_code 66 = .ok (.if_icmp .ne 7, 3) := by decide +kernel
theorem d_method_2_code_69 : decode method_2_code 69 = .ok (.getstatic 31, 3) := by decide +kernel
theorem d_method_2_code_72 : decode method_2_code 72 = .ok (.areturn, 1) := by decide +kernel
theorem d_method_2_code_73 : decode method_2_code 73 = .ok (.iload_n 0, 1) := by decide +kernel
theorem d_method_2_code_74 : decode method_2_code 74 = .ok (.bipush 8, 2) := by decide +kernel
theorem d_method_2_code_76 : decode method_2_code 76 = .ok (.if_icmp .ne 7, 3) := by decide +kernel
theorem d_method_2_code_79 : decode method_2_code 79 = .ok (.getstatic 34, 3) := by decide +kernel
theorem d_method_2_code_82 : decode method_2_code 82 = .ok (.areturn, 1) := by decide +kernel
theorem d_method_2_code_83 : decode method_2_code 83 = .ok (.getstatic 37, 3) := by decide +kernel
theorem d_method_2_code_86 : decode method_2_code 86 = .ok (.areturn, 1) := by decide +kernel
theorem pn_0 : plainName "com/example/nameward/nameward/registry/StatusProhibitsPinLaw" = true := by first | (simp [plainName, overriddenIn]; done) | decide +kernel
theorem ef_rm1 (m : MethodId) (x0 : Int32) : entryFrame m #[(.int x0)] 1 = mkF m 0 #[.val (.int x0)] [] := by first | (simp [entryFrame, mkF, argsToLocals, Value.category]; done) | rfl
def Q_rm1 (Z : State) (p0 : Int32) (w_CLIENT_DELETE_PROHIBITED : Addr) (w_CLIENT_HOLD : Addr) (w_CLIENT_RENEW_PROHIBITED : Addr) (w_CLIENT_TRANSFER_PROHIBITED : Addr) (w_CLIENT_UPDATE_PROHIBITED : Addr) (w_SERVER_DELETE_PROHIBITED : Addr) (w_SERVER_HOLD : Addr) (w_SERVER_RENEW_PROHIBITED : Addr) (w_SERVER_TRANSFER_PROHIBITED : Addr) (w_SERVER_UPDATE_PROHIBITED : Addr) (h0 : Heap) (n0 : Nat) (v : Option Value) (h : Heap) (L : List Loc) : Prop := v = some (.ref (own_st p0 w_CLIENT_DELETE_PROHIBITED w_CLIENT_HOLD w_CLIENT_RENEW_PROHIBITED w_CLIENT_TRANSFER_PROHIBITED w_CLIENT_UPDATE_PROHIBITED w_SERVER_DELETE_PROHIBITED w_SERVER_HOLD w_SERVER_RENEW_PROHIBITED w_SERVER_TRANSFER_PROHIBITED w_SERVER_UPDATE_PROHIBITED)) ∧ Fr n0 L ∧ h = h0
set_option maxRecDepth 65536 in
set_option maxHeartbeats 40000000 in
theorem rm1 (l : Launch) (Z : State) (a0 : Array Value) (hw : ∀ d ∈ tables_1, d.before a0 Z = true) (ws : List Jvm.Cond) (p0 : Int32) (w_CLIENT_DELETE_PROHIBITED : Addr) (w_CLIENT_HOLD : Addr) (w_CLIENT_RENEW_PROHIBITED : Addr) (w_CLIENT_TRANSFER_PROHIBITED : Addr) (w_CLIENT_UPDATE_PROHIBITED : Addr) (w_SERVER_DELETE_PROHIBITED : Addr) (w_SERVER_HOLD : Addr) (w_SERVER_RENEW_PROHIBITED : Addr) (w_SERVER_TRANSFER_PROHIBITED : Addr) (w_SERVER_UPDATE_PROHIBITED : Addr) (h0 : Heap) (n0 : Nat) (Z0 : n0 ≤ h0.size) (S_CLIENT_DELETE_PROHIBITED : Sta Z h0 "com/example/nameward/nameward/registry/Status" "CLIENT_DELETE_PROHIBITED" "Lcom/example/nameward/nameward/registry/Status;" (.ref w_CLIENT_DELETE_PROHIBITED)) (S_CLIENT_HOLD : Sta Z h0 "com/example/nameward/nameward/registry/Status" "CLIENT_HOLD" "Lcom/example/nameward/nameward/registry/Status;" (.ref w_CLIENT_HOLD)) (S_CLIENT_RENEW_PROHIBITED : Sta Z h0 "com/example/nameward/nameward/registry/Status" "CLIENT_RENEW_PROHIBITED" "Lcom/example/nameward/nameward/registry/Status;" (.ref w_CLIENT_RENEW_PROHIBITED)) (S_CLIENT_TRANSFER_PROHIBITED : Sta Z h0 "com/example/nameward/nameward/registry/Status" "CLIENT_TRANSFER_PROHIBITED" "Lcom/example/nameward/nameward/registry/Status;" (.ref w_CLIENT_TRANSFER_PROHIBITED)) (S_CLIENT_UPDATE_PROHIBITED : Sta Z h0 "com/example/nameward/nameward/registry/Status" "CLIENT_UPDATE_PROHIBITED" "Lcom/example/nameward/nameward/registry/Status;" (.ref w_CLIENT_UPDATE_PROHIBITED)) (S_SERVER_DELETE_PROHIBITED : Sta Z h0 "com/example/nameward/nameward/registry/Status" "SERVER_DELETE_PROHIBITED" "Lcom/example/nameward/nameward/registry/Status;" (.ref w_SERVER_DELETE_PROHIBITED)) (S_SERVER_HOLD : Sta Z h0 "com/example/nameward/nameward/registry/Status" "SERVER_HOLD" "Lcom/example/nameward/nameward/registry/Status;" (.ref w_SERVER_HOLD)) (S_SERVER_RENEW_PROHIBITED : Sta Z h0 "com/example/nameward/nameward/registry/Status" "SERVER_RENEW_PROHIBITED" "Lcom/example/nameward/nameward/registry/Status;" (.ref w_SERVER_RENEW_PROHIBITED)) (S_SERVER_TRANSFER_PROHIBITED : Sta Z h0 "com/example/nameward/nameward/registry/Status" "SERVER_TRANSFER_PROHIBITED" "Lcom/example/nameward/nameward/registry/Status;" (.ref w_SERVER_TRANSFER_PROHIBITED)) (S_SERVER_UPDATE_PROHIBITED : Sta Z h0 "com/example/nameward/nameward/registry/Status" "SERVER_UPDATE_PROHIBITED" "Lcom/example/nameward/nameward/registry/Status;" (.ref w_SERVER_UPDATE_PROHIBITED)) :
    MetFree l (⟨"com/example/nameward/nameward/registry/StatusProhibitsPinLaw", "status", "(I)Lcom/example/nameward/nameward/registry/Status;"⟩ : MethodName) (head1 (Jvm.Cond.code (⟨"com/example/nameward/nameward/registry/StatusProhibitsPinLaw", "status", "(I)Lcom/example/nameward/nameward/registry/Status;"⟩ : MethodName) method_2_code 1 (some (.object "com/example/nameward/nameward/registry/Status")) :: ws) ({ frames := 0, cells := 0, slots := 0, locals := 0 } : Room)) (fun a U => a = #[(.int p0)] ∧ Z.Warmed39 U.vm ∧ U.heap = h0) (fun _ _ _ _ _ => True) (fun _ U o U' => ∃ v L, o = .returned v ∧ Q_rm1 Z p0 w_CLIENT_DELETE_PROHIBITED w_CLIENT_HOLD w_CLIENT_RENEW_PROHIBITED w_CLIENT_TRANSFER_PROHIBITED w_CLIENT_UPDATE_PROHIBITED w_SERVER_DELETE_PROHIBITED w_SERVER_HOLD w_SERVER_RENEW_PROHIBITED w_SERVER_TRANSFER_PROHIBITED w_SERVER_UPDATE_PROHIBITED h0 n0 v U'.heap L ∧ FrameEnd U o U' L ({ frames := 0, cells := 0, slots := 0, locals := 0 } : Room).cells ({ frames := 0, cells := 0, slots := 0, locals := 0 } : Room).slots) := by
  refine MetFree.of_bodySF (plainFor_of_name pn_0) hisR ?_
  intro p e s m args below meth c s₁ Bd hml0 hP hK
  obtain ⟨rfl, hZ, hh⟩ := hP
  have hx := Bd.exec
  have hby := Bd.bytes
  have hml : c.maxLocals = 1 := hml0
  have hown : s.vm.findClass "com/example/nameward/nameward/registry/StatusProhibitsPinLaw" = some m.cls := findClass_of_methodNamed Bd.named
  have hnm := (name_of_methodNamed Bd.named Bd.method).1
  have hlk : meth.locks = false := by first | exact BodyLoose.notSynchronized (by assumption) | exact Body.notSynchronized (by assumption) | assumption
  have X0 : Stand p l e ({ frames := 0, cells := 0, slots := 0, locals := 0 } : Room) s m #[(.int p0)] below meth c s₁ [] 0 0 := Stand.of_body Bd
  have e0 : s₁.heap = h0 := by rw [← hh, Bd.state]; rfl
  have N0 := Fr.nil n0
  have Zn := Z0
  have K0 : ∀ t, Steps p.tables e below (s₁.setTop (mkF m 0 #[.val (.int p0)] [])) t → Steps p.tables e below (s₁.setTop (entryFrame m #[(.int p0)] 1)) t := fun t k => castTop (ef_rm1 m p0) k
  have K1 : ∀ t, Steps p.tables e below (s₁.setTop (mkF m 1 #[.val (.int p0)] [(.int p0)])) t → Steps p.tables e below (s₁.setTop (entryFrame m #[(.int p0)] 1)) t := by
    intro t kt
    refine K0 t ?_
    show Steps p.tables e below (s₁.setTop (mkF m 0 #[.val (.int p0)] [])) _
    refine XS.iloadN X0.here hx rfl (hb hby d_method_2_code_0) rfl ?_
    exact kt
  by_cases hc1 : p0 = (0 : Int32)
  ·
    obtain ⟨T2, X2, e2, st2⟩ := getS2 X0 hx hZ hown (host := "") (Or.inl (hw _ (List.mem_of_getElem? (i := 5) rfl))) Via.refl e0 S_CLIENT_DELETE_PROHIBITED (g := (mkF m 4 #[.val (.int p0)] [])) rfl (hb hby d_method_2_code_4)
    obtain ⟨fs, hr, hrun, hended, hW, hsame⟩ := X2.leave (v := some (.ref w_CLIENT_DELETE_PROHIBITED)) (fun h => by rw [Bd.returns] at h; cases h) hlk
    refine ⟨_, _, K1 _ ?_, hrun, hended, _, _, rfl, ?_, ⟨_, rfl⟩, hW, hsame.mono (by decide) (by decide)⟩
    ·
      show Steps p.tables e below (s₁.setTop (mkF m 1 #[.val (.int p0)] [(.int p0)])) _
      refine XS.ifNo X0.here hx rfl (hb hby d_method_2_code_1) rfl ((if0 _ _).trans (teq hc1).2) ?_
      show Steps p.tables e below (s₁.setTop (mkF m 4 #[.val (.int p0)] [])) _
      refine st2 _ ?_
      show Steps p.tables e below (T2.setTop (mkF m 7 #[.val (.int p0)] [(.ref w_CLIENT_DELETE_PROHIBITED)])) _
      exact retOut X2 hx Bd.returns rfl (Or.inr (Or.inr (Or.inr (Or.inr ⟨rfl, rfl, rfl⟩)))) (hb hby d_method_2_code_7) hr
    ·
      show Q_rm1 Z p0 w_CLIENT_DELETE_PROHIBITED w_CLIENT_HOLD w_CLIENT_RENEW_PROHIBITED w_CLIENT_TRANSFER_PROHIBITED w_CLIENT_UPDATE_PROHIBITED w_SERVER_DELETE_PROHIBITED w_SERVER_HOLD w_SERVER_RENEW_PROHIBITED w_SERVER_TRANSFER_PROHIBITED w_SERVER_UPDATE_PROHIBITED h0 n0 _ T2.heap _
      rw [e2]
      refine ⟨?_, N0, rfl⟩
      simp [own_st, hc1]
  ·
    have K3 : ∀ t, Steps p.tables e below (s₁.setTop (mkF m 10 #[.val (.int p0)] [(.int (1 : Int32)), (.int p0)])) t → Steps p.tables e below (s₁.setTop (entryFrame m #[(.int p0)] 1)) t := by
      intro t kt
      refine K1 t ?_
      show Steps p.tables e below (s₁.setTop (mkF m 1 #[.val (.int p0)] [(.int p0)])) _
      refine XS.ifYes X0.here hx rfl (pc0 := 1) (pc' := 8) rfl (hb hby d_method_2_code_1) rfl ((if0 _ _).trans (feq hc1).2) (by decide) (by decide) ?_
      show Steps p.tables e below (s₁.setTop (mkF m 8 #[.val (.int p0)] [])) _
      refine XS.iloadN X0.here hx rfl (hb hby d_method_2_code_8) rfl ?_
      show Steps p.tables e below (s₁.setTop (mkF m 9 #[.val (.int p0)] [(.int p0)])) _
      refine XS.iconst X0.here hx rfl (hb hby d_method_2_code_9) ?_
      exact kt
    by_cases hc10 : p0 = (1 : Int32)
    ·
      obtain ⟨T4, X4, e4, st4⟩ := getS2 X0 hx hZ hown (host := "") (Or.inl (hw _ (List.mem_of_getElem? (i := 39) rfl))) Via.refl e0 S_CLIENT_HOLD (g := (mkF m 13 #[.val (.int p0)] [])) rfl (hb hby d_method_2_code_13)
      obtain ⟨fs, hr, hrun, hended, hW, hsame⟩ := X4.leave (v := some (.ref w_CLIENT_HOLD)) (fun h => by rw [Bd.returns] at h; cases h) hlk
      refine ⟨_, _, K3 _ ?_, hrun, hended, _, _, rfl, ?_, ⟨_, rfl⟩, hW, hsame.mono (by decide) (by decide)⟩
      ·
        show Steps p.tables e below (s₁.setTop (mkF m 10 #[.val (.int p0)] [(.int (1 : Int32)), (.int p0)])) _
        refine XS.icmpNo X0.here hx rfl (hb hby d_method_2_code_10) rfl (teq hc10).2 ?_
        show Steps p.tables e below (s₁.setTop (mkF m 13 #[.val (.int p0)] [])) _
        refine st4 _ ?_
        show Steps p.tables e below (T4.setTop (mkF m 16 #[.val (.int p0)] [(.ref w_CLIENT_HOLD)])) _
        exact retOut X4 hx Bd.returns rfl (Or.inr (Or.inr (Or.inr (Or.inr ⟨rfl, rfl, rfl⟩)))) (hb hby d_method_2_code_16) hr
      ·
        show Q_rm1 Z p0 w_CLIENT_DELETE_PROHIBITED w_CLIENT_HOLD w_CLIENT_RENEW_PROHIBITED w_CLIENT_TRANSFER_PROHIBITED w_CLIENT_UPDATE_PROHIBITED w_SERVER_DELETE_PROHIBITED w_SERVER_HOLD w_SERVER_RENEW_PROHIBITED w_SERVER_TRANSFER_PROHIBITED w_SERVER_UPDATE_PROHIBITED h0 n0 _ T4.heap _
        rw [e4]
        refine ⟨?_, N0, rfl⟩
        simp [own_st, hc1, hc10]
    ·
      have K5 : ∀ t, Steps p.tables e below (s₁.setTop (mkF m 19 #[.val (.int p0)] [(.int (2 : Int32)), (.int p0)])) t → Steps p.tables e below (s₁.setTop (entryFrame m #[(.int p0)] 1)) t := by
        intro t kt
        refine K3 t ?_
        show Steps p.tables e below (s₁.setTop (mkF m 10 #[.val (.int p0)] [(.int (1 : Int32)), (.int p0)])) _
        refine XS.icmpYes X0.here hx rfl (pc0 := 10) (pc' := 17) rfl (hb hby d_method_2_code_10) rfl (feq hc10).2 (by decide) (by decide) ?_
        show Steps p.tables e below (s₁.setTop (mkF m 17 #[.val (.int p0)] [])) _
        refine XS.iloadN X0.here hx rfl (hb hby d_method_2_code_17) rfl ?_
        show Steps p.tables e below (s₁.setTop (mkF m 18 #[.val (.int p0)] [(.int p0)])) _
        refine XS.iconst X0.here hx rfl (hb hby d_method_2_code_18) ?_
        exact kt
      by_cases hc19 : p0 = (2 : Int32)
      ·
        obtain ⟨T6, X6, e6, st6⟩ := getS2 X0 hx hZ hown (host := "") (Or.inl (hw _ (List.mem_of_getElem? (i := 34) rfl))) Via.refl e0 S_CLIENT_RENEW_PROHIBITED (g := (mkF m 22 #[.val (.int p0)] [])) rfl (hb hby d_method_2_code_22)
        obtain ⟨fs, hr, hrun, hended, hW, hsame⟩ := X6.leave (v := some (.ref w_CLIENT_RENEW_PROHIBITED)) (fun h => by rw [Bd.returns] at h; cases h) hlk
        refine ⟨_, _, K5 _ ?_, hrun, hended, _, _, rfl, ?_, ⟨_, rfl⟩, hW, hsame.mono (by decide) (by decide)⟩
        ·
          show Steps p.tables e below (s₁.setTop (mkF m 19 #[.val (.int p0)] [(.int (2 : Int32)), (.int p0)])) _
          refine XS.icmpNo X0.here hx rfl (hb hby d_method_2_code_19) rfl (teq hc19).2 ?_
          show Steps p.tables e below (s₁.setTop (mkF m 22 #[.val (.int p0)] [])) _
          refine st6 _ ?_
          show Steps p.tables e below (T6.setTop (mkF m 25 #[.val (.int p0)] [(.ref w_CLIENT_RENEW_PROHIBITED)])) _
          exact retOut X6 hx Bd.returns rfl (Or.inr (Or.inr (Or.inr (Or.inr ⟨rfl, rfl, rfl⟩)))) (hb hby d_method_2_code_25) hr
        ·
          show Q_rm1 Z p0 w_CLIENT_DELETE_PROHIBITED w_CLIENT_HOLD w_CLIENT_RENEW_PROHIBITED w_CLIENT_TRANSFER_PROHIBITED w_CLIENT_UPDATE_PROHIBITED w_SERVER_DELETE_PROHIBITED w_SERVER_HOLD w_SERVER_RENEW_PROHIBITED w_SERVER_TRANSFER_PROHIBITED w_SERVER_UPDATE_PROHIBITED h0 n0 _ T6.heap _
          rw [e6]
          refine ⟨?_, N0, rfl⟩
          simp [own_st, hc1, hc10, hc19]
      ·
        have K7 : ∀ t, Steps p.tables e below (s₁.setTop (mkF m 28 #[.val (.int p0)] [(.int (3 : Int32)), (.int p0)])) t → Steps p.tables e below (s₁.setTop (entryFrame m #[(.int p0)] 1)) t := by
          intro t kt
          refine K5 t ?_
          show Steps p.tables e below (s₁.setTop (mkF m 19 #[.val (.int p0)] [(.int (2 : Int32)), (.int p0)])) _
          refine XS.icmpYes X0.here hx rfl (pc0 := 19) (pc' := 26) rfl (hb hby d_method_2_code_19) rfl (feq hc19).2 (by decide) (by decide) ?_
          show Steps p.tables e below (s₁.setTop (mkF m 26 #[.val (.int p0)] [])) _
          refine XS.iloadN X0.here hx rfl (hb hby d_method_2_code_26) rfl ?_
          show Steps p.tables e below (s₁.setTop (mkF m 27 #[.val (.int p0)] [(.int p0)])) _
          refine XS.iconst X0.here hx rfl (hb hby d_method_2_code_27) ?_
          exact kt
        by_cases hc28 : p0 = (3 : Int32)
        ·
          obtain ⟨T8, X8, e8, st8⟩ := getS2 X0 hx hZ hown (host := "") (Or.inl (hw _ (List.mem_of_getElem? (i := 37) rfl))) Via.refl e0 S_CLIENT_TRANSFER_PROHIBITED (g := (mkF m 31 #[.val (.int p0)] [])) rfl (hb hby d_method_2_code_31)
          obtain ⟨fs, hr, hrun, hended, hW, hsame⟩ := X8.leave (v := some (.ref w_CLIENT_TRANSFER_PROHIBITED)) (fun h => by rw [Bd.returns] at h; cases h) hlk
          refine ⟨_, _, K7 _ ?_, hrun, hended, _, _, rfl, ?_, ⟨_, rfl⟩, hW, hsame.mono (by decide) (by decide)⟩
          ·
            show Steps p.tables e below (s₁.setTop (mkF m 28 #[.val (.int p0)] [(.int (3 : Int32)), (.int p0)])) _
            refine XS.icmpNo X0.here hx rfl (hb hby d_method_2_code_28) rfl (teq hc28).2 ?_
            show Steps p.tables e below (s₁.setTop (mkF m 31 #[.val (.int p0)] [])) _
            refine st8 _ ?_
            show Steps p.tables e below (T8.setTop (mkF m 34 #[.val (.int p0)] [(.ref w_CLIENT_TRANSFER_PROHIBITED)])) _
            exact retOut X8 hx Bd.returns rfl (Or.inr (Or.inr (Or.inr (Or.inr ⟨rfl, rfl, rfl⟩)))) (hb hby d_method_2_code_34) hr
          ·
            show Q_rm1 Z p0 w_CLIENT_DELETE_PROHIBITED w_CLIENT_HOLD w_CLIENT_RENEW_PROHIBITED w_CLIENT_TRANSFER_PROHIBITED w_CLIENT_UPDATE_PROHIBITED w_SERVER_DELETE_PROHIBITED w_SERVER_HOLD w_SERVER_RENEW_PROHIBITED w_SERVER_TRANSFER_PROHIBITED w_SERVER_UPDATE_PROHIBITED h0 n0 _ T8.heap _
            rw [e8]
            refine ⟨?_, N0, rfl⟩
            simp [own_st, hc1, hc10, hc19, hc28]
        ·
          have K9 : ∀ t, Steps p.tables e below (s₁.setTop (mkF m 37 #[.val (.int p0)] [(.int (4 : Int32)), (.int p0)])) t → Steps p.tables e below (s₁.setTop (entryFrame m #[(.int p0)] 1)) t := by
            intro t kt
            refine K7 t ?_
            show Steps p.tables e below (s₁.setTop (mkF m 28 #[.val (.int p0)] [(.int (3 : Int32)), (.int p0)])) _
            refine XS.icmpYes X0.here hx rfl (pc0 := 28) (pc' := 35) rfl (hb hby d_method_2_code_28) rfl (feq hc28).2 (by decide) (by decide) ?_
            show Steps p.tables e below (s₁.setTop (mkF m 35 #[.val (.int p0)] [])) _
            refine XS.iloadN X0.here hx rfl (hb hby d_method_2_code_35) rfl ?_
            show Steps p.tables e below (s₁.setTop (mkF m 36 #[.val (.int p0)] [(.int p0)])) _
            refine XS.iconst X0.here hx rfl (hb hby d_method_2_code_36) ?_
            exact kt
          by_cases hc37 : p0 = (4 : Int32)
          ·
            obtain ⟨T10, X10, e10, st10⟩ := getS2 X0 hx hZ hown (host := "") (Or.inl (hw _ (List.mem_of_getElem? (i := 22) rfl))) Via.refl e0 S_CLIENT_UPDATE_PROHIBITED (g := (mkF m 40 #[.val (.int p0)] [])) rfl (hb hby d_method_2_code_40)
            obtain ⟨fs, hr, hrun, hended, hW, hsame⟩ := X10.leave (v := some (.ref w_CLIENT_UPDATE_PROHIBITED)) (fun h => by rw [Bd.returns] at h; cases h) hlk
            refine ⟨_, _, K9 _ ?_, hrun, hended, _, _, rfl, ?_, ⟨_, rfl⟩, hW, hsame.mono (by decide) (by decide)⟩
            ·
              show Steps p.tables e below (s₁.setTop (mkF m 37 #[.val (.int p0)] [(.int (4 : Int32)), (.int p0)])) _
              refine XS.icmpNo X0.here hx rfl (hb hby d_method_2_code_37) rfl (teq hc37).2 ?_
              show Steps p.tables e below (s₁.setTop (mkF m 40 #[.val (.int p0)] [])) _
              refine st10 _ ?_
              show Steps p.tables e below (T10.setTop (mkF m 43 #[.val (.int p0)] [(.ref w_CLIENT_UPDATE_PROHIBITED)])) _
              exact retOut X10 hx Bd.returns rfl (Or.inr (Or.inr (Or.inr (Or.inr ⟨rfl, rfl, rfl⟩)))) (hb hby d_method_2_code_43) hr
            ·
              show Q_rm1 Z p0 w_CLIENT_DELETE_PROHIBITED w_CLIENT_HOLD w_CLIENT_RENEW_PROHIBITED w_CLIENT_TRANSFER_PROHIBITED w_CLIENT_UPDATE_PROHIBITED w_SERVER_DELETE_PROHIBITED w_SERVER_HOLD w_SERVER_RENEW_PROHIBITED w_SERVER_TRANSFER_PROHIBITED w_SERVER_UPDATE_PROHIBITED h0 n0 _ T10.heap _
              rw [e10]
              refine ⟨?_, N0, rfl⟩
              simp [own_st, hc1, hc10, hc19, hc28, hc37]
          ·
            have K11 : ∀ t, Steps p.tables e below (s₁.setTop (mkF m 46 #[.val (.int p0)] [(.int (5 : Int32)), (.int p0)])) t → Steps p.tables e below (s₁.setTop (entryFrame m #[(.int p0)] 1)) t := by
              intro t kt
              refine K9 t ?_
              show Steps p.tables e below (s₁.setTop (mkF m 37 #[.val (.int p0)] [(.int (4 : Int32)), (.int p0)])) _
              refine XS.icmpYes X0.here hx rfl (pc0 := 37) (pc' := 44) rfl (hb hby d_method_2_code_37) rfl (feq hc37).2 (by decide) (by decide) ?_
              show Steps p.tables e below (s₁.setTop (mkF m 44 #[.val (.int p0)] [])) _
              refine XS.iloadN X0.here hx rfl (hb hby d_method_2_code_44) rfl ?_
              show Steps p.tables e below (s₁.setTop (mkF m 45 #[.val (.int p0)] [(.int p0)])) _
              refine XS.iconst X0.here hx rfl (hb hby d_method_2_code_45) ?_
              exact kt
            by_cases hc46 : p0 = (5 : Int32)
            ·
              obtain ⟨T12, X12, e12, st12⟩ := getS2 X0 hx hZ hown (host := "") (Or.inl (hw _ (List.mem_of_getElem? (i := 41) rfl))) Via.refl e0 S_SERVER_DELETE_PROHIBITED (g := (mkF m 49 #[.val (.int p0)] [])) rfl (hb hby d_method_2_code_49)
              obtain ⟨fs, hr, hrun, hended, hW, hsame⟩ := X12.leave (v := some (.ref w_SERVER_DELETE_PROHIBITED)) (fun h => by rw [Bd.returns] at h; cases h) hlk
              refine ⟨_, _, K11 _ ?_, hrun, hended, _, _, rfl, ?_, ⟨_, rfl⟩, hW, hsame.mono (by decide) (by decide)⟩
              ·
                show Steps p.tables e below (s₁.setTop (mkF m 46 #[.val (.int p0)] [(.int (5 : Int32)), (.int p0)])) _
                refine XS.icmpNo X0.here hx rfl (hb hby d_method_2_code_46) rfl (teq hc46).2 ?_
                show Steps p.tables e below (s₁.setTop (mkF m 49 #[.val (.int p0)] [])) _
                refine st12 _ ?_
                show Steps p.tables e below (T12.setTop (mkF m 52 #[.val (.int p0)] [(.ref w_SERVER_DELETE_PROHIBITED)])) _
                exact retOut X12 hx Bd.returns rfl (Or.inr (Or.inr (Or.inr (Or.inr ⟨rfl, rfl, rfl⟩)))) (hb hby d_method_2_code_52) hr
              ·
                show Q_rm1 Z p0 w_CLIENT_DELETE_PROHIBITED w_CLIENT_HOLD w_CLIENT_RENEW_PROHIBITED w_CLIENT_TRANSFER_PROHIBITED w_CLIENT_UPDATE_PROHIBITED w_SERVER_DELETE_PROHIBITED w_SERVER_HOLD w_SERVER_RENEW_PROHIBITED w_SERVER_TRANSFER_PROHIBITED w_SERVER_UPDATE_PROHIBITED h0 n0 _ T12.heap _
                rw [e12]
                refine ⟨?_, N0, rfl⟩
                simp [own_st, hc1, hc10, hc19, hc28, hc37, hc46]
            ·
              have K13 : ∀ t, Steps p.tables e below (s₁.setTop (mkF m 56 #[.val (.int p0)] [(.int (6 : Int32)), (.int p0)])) t → Steps p.tables e below (s₁.setTop (entryFrame m #[(.int p0)] 1)) t := by
                intro t kt
                refine K11 t ?_
                show Steps p.tables e below (s₁.setTop (mkF m 46 #[.val (.int p0)] [(.int (5 : Int32)), (.int p0)])) _
                refine XS.icmpYes X0.here hx rfl (pc0 := 46) (pc' := 53) rfl (hb hby d_method_2_code_46) rfl (feq hc46).2 (by decide) (by decide) ?_
                show Steps p.tables e below (s₁.setTop (mkF m 53 #[.val (.int p0)] [])) _
                refine XS.iloadN X0.here hx rfl (hb hby d_method_2_code_53) rfl ?_
                show Steps p.tables e below (s₁.setTop (mkF m 54 #[.val (.int p0)] [(.int p0)])) _
                refine XS.bipush X0.here hx rfl (hb hby d_method_2_code_54) ?_
                exact kt
              by_cases hc56 : p0 = (6 : Int32)
              ·
                obtain ⟨T14, X14, e14, st14⟩ := getS2 X0 hx hZ hown (host := "") (Or.inl (hw _ (List.mem_of_getElem? (i := 29) rfl))) Via.refl e0 S_SERVER_HOLD (g := (mkF m 59 #[.val (.int p0)] [])) rfl (hb hby d_method_2_code_59)
                obtain ⟨fs, hr, hrun, hended, hW, hsame⟩ := X14.leave (v := some (.ref w_SERVER_HOLD)) (fun h => by rw [Bd.returns] at h; cases h) hlk
                refine ⟨_, _, K13 _ ?_, hrun, hended, _, _, rfl, ?_, ⟨_, rfl⟩, hW, hsame.mono (by decide) (by decide)⟩
                ·
                  show Steps p.tables e below (s₁.setTop (mkF m 56 #[.val (.int p0)] [(.int (6 : Int32)), (.int p0)])) _
                  refine XS.icmpNo X0.here hx rfl (hb hby d_method_2_code_56) rfl (teq hc56).2 ?_
                  show Steps p.tables e below (s₁.setTop (mkF m 59 #[.val (.int p0)] [])) _
                  refine st14 _ ?_
                  show Steps p.tables e below (T14.setTop (mkF m 62 #[.val (.int p0)] [(.ref w_SERVER_HOLD)])) _
                  exact retOut X14 hx Bd.returns rfl (Or.inr (Or.inr (Or.inr (Or.inr ⟨rfl, rfl, rfl⟩)))) (hb hby d_method_2_code_62) hr
                ·
                  show Q_rm1 Z p0 w_CLIENT_DELETE_PROHIBITED w_CLIENT_HOLD w_CLIENT_RENEW_PROHIBITED w_CLIENT_TRANSFER_PROHIBITED w_CLIENT_UPDATE_PROHIBITED w_SERVER_DELETE_PROHIBITED w_SERVER_HOLD w_SERVER_RENEW_PROHIBITED w_SERVER_TRANSFER_PROHIBITED w_SERVER_UPDATE_PROHIBITED h0 n0 _ T14.heap _
                  rw [e14]
                  refine ⟨?_, N0, rfl⟩
                  simp [own_st, hc1, hc10, hc19, hc28, hc37, hc46, hc56]
              ·
                have K15 : ∀ t, Steps p.tables e below (s₁.setTop (mkF m 66 #[.val (.int p0)] [(.int (7 : Int32)), (.int p0)])) t → Steps p.tables e below (s₁.setTop (entryFrame m #[(.int p0)] 1)) t := by
                  intro t kt
                  refine K13 t ?_
                  show Steps p.tables e below (s₁.setTop (mkF m 56 #[.val (.int p0)] [(.int (6 : Int32)), (.int p0)])) _
                  refine XS.icmpYes X0.here hx rfl (pc0 := 56) (pc' := 63) rfl (hb hby d_method_2_code_56) rfl (feq hc56).2 (by decide) (by decide) ?_
                  show Steps p.tables e below (s₁.setTop (mkF m 63 #[.val (.int p0)] [])) _
                  refine XS.iloadN X0.here hx rfl (hb hby d_method_2_code_63) rfl ?_
                  show Steps p.tables e below (s₁.setTop (mkF m 64 #[.val (.int p0)] [(.int p0)])) _
                  refine XS.bipush X0.here hx rfl (hb hby d_method_2_code_64) ?_
                  exact kt
                by_cases hc66 : p0 = (7 : Int32)
                ·
                  obtain ⟨T16, X16, e16, st16⟩ := getS2 X0 hx hZ hown (host := "") (Or.inl (hw _ (List.mem_of_getElem? (i := 43) rfl))) Via.refl e0 S_SERVER_RENEW_PROHIBITED (g := (mkF m 69 #[.val (.int p0)] [])) rfl (hb hby d_method_2_code_69)
                  obtain ⟨fs, hr, hrun, hended, hW, hsame⟩ := X16.leave (v := some (.ref w_SERVER_RENEW_PROHIBITED)) (fun h => by rw [Bd.returns] at h; cases h) hlk
                  refine ⟨_, _, K15 _ ?_, hrun, hended, _, _, rfl, ?_, ⟨_, rfl⟩, hW, hsame.mono (by decide) (by decide)⟩
                  ·
                    show Steps p.tables e below (s₁.setTop (mkF m 66 #[.val (.int p0)] [(.int (7 : Int32)), (.int p0)])) _
                    refine XS.icmpNo X0.here hx rfl (hb hby d_method_2_code_66) rfl (teq hc66).2 ?_
                    show Steps p.tables e below (s₁.setTop (mkF m 69 #[.val (.int p0)] [])) _
                    refine st16 _ ?_
                    show Steps p.tables e below (T16.setTop (mkF m 72 #[.val (.int p0)] [(.ref w_SERVER_RENEW_PROHIBITED)])) _
                    exact retOut X16 hx Bd.returns rfl (Or.inr (Or.inr (Or.inr (Or.inr ⟨rfl, rfl, rfl⟩)))) (hb hby d_method_2_code_72) hr
                  ·
                    show Q_rm1 Z p0 w_CLIENT_DELETE_PROHIBITED w_CLIENT_HOLD w_CLIENT_RENEW_PROHIBITED w_CLIENT_TRANSFER_PROHIBITED w_CLIENT_UPDATE_PROHIBITED w_SERVER_DELETE_PROHIBITED w_SERVER_HOLD w_SERVER_RENEW_PROHIBITED w_SERVER_TRANSFER_PROHIBITED w_SERVER_UPDATE_PROHIBITED h0 n0 _ T16.heap _
                    rw [e16]
                    refine ⟨?_, N0, rfl⟩
                    simp [own_st, hc1, hc10, hc19, hc28, hc37, hc46, hc56, hc66]
                ·
                  have K17 : ∀ t, Steps p.tables e below (s₁.setTop (mkF m 76 #[.val (.int p0)] [(.int (8 : Int32)), (.int p0)])) t → Steps p.tables e below (s₁.setTop (entryFrame m #[(.int p0)] 1)) t := by
                    intro t kt
                    refine K15 t ?_
                    show Steps p.tables e below (s₁.setTop (mkF m 66 #[.val (.int p0)] [(.int (7 : Int32)), (.int p0)])) _
                    refine XS.icmpYes X0.here hx rfl (pc0 := 66) (pc' := 73) rfl (hb hby d_method_2_code_66) rfl (feq hc66).2 (by decide) (by decide) ?_
                    show Steps p.tables e below (s₁.setTop (mkF m 73 #[.val (.int p0)] [])) _
                    refine XS.iloadN X0.here hx rfl (hb hby d_method_2_code_73) rfl ?_
                    show Steps p.tables e below (s₁.setTop (mkF m 74 #[.val (.int p0)] [(.int p0)])) _
                    refine XS.bipush X0.here hx rfl (hb hby d_method_2_code_74) ?_
                    exact kt
                  by_cases hc76 : p0 = (8 : Int32)
                  ·
                    obtain ⟨T18, X18, e18, st18⟩ := getS2 X0 hx hZ hown (host := "") (Or.inl (hw _ (List.mem_of_getElem? (i := 26) rfl))) Via.refl e0 S_SERVER_TRANSFER_PROHIBITED (g := (mkF m 79 #[.val (.int p0)] [])) rfl (hb hby d_method_2_code_79)
                    obtain ⟨fs, hr, hrun, hended, hW, hsame⟩ := X18.leave (v := some (.ref w_SERVER_TRANSFER_PROHIBITED)) (fun h => by rw [Bd.returns] at h; cases h) hlk
                    refine ⟨_, _, K17 _ ?_, hrun, hended, _, _, rfl, ?_, ⟨_, rfl⟩, hW, hsame.mono (by decide) (by decide)⟩
                    ·
                      show Steps p.tables e below (s₁.setTop (mkF m 76 #[.val (.int p0)] [(.int (8 : Int32)), (.int p0)])) _
                      refine XS.icmpNo X0.here hx rfl (hb hby d_method_2_code_76) rfl (teq hc76).2 ?_
                      show Steps p.tables e below (s₁.setTop (mkF m 79 #[.val (.int p0)] [])) _
                      refine st18 _ ?_
                      show Steps p.tables e below (T18.setTop (mkF m 82 #[.val (.int p0)] [(.ref w_SERVER_TRANSFER_PROHIBITED)])) _
                      exact retOut X18 hx Bd.returns rfl (Or.inr (Or.inr (Or.inr (Or.inr ⟨rfl, rfl, rfl⟩)))) (hb hby d_method_2_code_82) hr
                    ·
                      show Q_rm1 Z p0 w_CLIENT_DELETE_PROHIBITED w_CLIENT_HOLD w_CLIENT_RENEW_PROHIBITED w_CLIENT_TRANSFER_PROHIBITED w_CLIENT_UPDATE_PROHIBITED w_SERVER_DELETE_PROHIBITED w_SERVER_HOLD w_SERVER_RENEW_PROHIBITED w_SERVER_TRANSFER_PROHIBITED w_SERVER_UPDATE_PROHIBITED h0 n0 _ T18.heap _
                      rw [e18]
                      refine ⟨?_, N0, rfl⟩
                      simp [own_st, hc1, hc10, hc19, hc28, hc37, hc46, hc56, hc66, hc76]
                  ·
                    obtain ⟨T19, X19, e19, st19⟩ := getS2 X0 hx hZ hown (host := "") (Or.inl (hw _ (List.mem_of_getElem? (i := 32) rfl))) Via.refl e0 S_SERVER_UPDATE_PROHIBITED (g := (mkF m 83 #[.val (.int p0)] [])) rfl (hb hby d_method_2_code_83)
                    obtain ⟨fs, hr, hrun, hended, hW, hsame⟩ := X19.leave (v := some (.ref w_SERVER_UPDATE_PROHIBITED)) (fun h => by rw [Bd.returns] at h; cases h) hlk
                    refine ⟨_, _, K17 _ ?_, hrun, hended, _, _, rfl, ?_, ⟨_, rfl⟩, hW, hsame.mono (by decide) (by decide)⟩
                    ·
                      show Steps p.tables e below (s₁.setTop (mkF m 76 #[.val (.int p0)] [(.int (8 : Int32)), (.int p0)])) _
                      refine XS.icmpYes X0.here hx rfl (pc0 := 76) (pc' := 83) rfl (hb hby d_method_2_code_76) rfl (feq hc76).2 (by decide) (by decide) ?_
                      show Steps p.tables e below (s₁.setTop (mkF m 83 #[.val (.int p0)] [])) _
                      refine st19 _ ?_
                      show Steps p.tables e below (T19.setTop (mkF m 86 #[.val (.int p0)] [(.ref w_SERVER_UPDATE_PROHIBITED)])) _
                      exact retOut X19 hx Bd.returns rfl (Or.inr (Or.inr (Or.inr (Or.inr ⟨rfl, rfl, rfl⟩)))) (hb hby d_method_2_code_86) hr
                    ·
                      show Q_rm1 Z p0 w_CLIENT_DELETE_PROHIBITED w_CLIENT_HOLD w_CLIENT_RENEW_PROHIBITED w_CLIENT_TRANSFER_PROHIBITED w_CLIENT_UPDATE_PROHIBITED w_SERVER_DELETE_PROHIBITED w_SERVER_HOLD w_SERVER_RENEW_PROHIBITED w_SERVER_TRANSFER_PROHIBITED w_SERVER_UPDATE_PROHIBITED h0 n0 _ T19.heap _
                      rw [e19]
                      refine ⟨?_, N0, rfl⟩
                      simp [own_st, hc1, hc10, hc19, hc28, hc37, hc46, hc56, hc66, hc76]
theorem d_method_3_code_0 : decode method_3_code 0 = .ok (.iload_n 0, 1) := by decide +kernel
theorem d_method_3_code_1 : decode method_3_code 1 = .ok (.ifCond .ne 7, 3) := by decide +kernel
theorem d_method_3_code_4 : decode method_3_code 4 = .ok (.getstatic 40, 3) := by decide +kernel
theorem d_method_3_code_7 : decode method_3_code 7 = .ok (.areturn, 1) := by decide +kernel
theorem d_method_3_code_8 : decode method_3_code 8 = .ok (.iload_n 0, 1) := by decide +kernel
theorem d_method_3_code_9 : decode method_3_code 9 = .ok (.iconst 1, 1) := by decide +kernel
theorem d_method_3_code_10 : decode method_3_code 10 = .ok (.if_icmp .ne 7, 3) := by decide +kernel
theorem d_method_3_code_13 : decode method_3_code 13 = .ok (.getstatic 46, 3) := by decide +kernel
theorem d_method_3_code_16 : decode method_3_code 16 = .ok (.areturn, 1) := by decide +kernel
theorem d_method_3_code_17 : decode method_3_code 17 = .ok (.iload_n 0, 1) := by decide +kernel
theorem d_method_3_code_18 : decode method_3_code 18 = .ok (.iconst 2, 1) := by decide +kernel
theorem d_method_3_code_19 : decode method_3_code 19 = .ok (.if_icmp .ne 7, 3) := by decide +kernel
theorem d_method_3_code_22 : decode method_3_code 22 = .ok (.getstatic 49, 3) := by decide +kernel
theorem d_method_3_code_25 : decode method_3_code 25 = .ok (.areturn, 1) := by decide +kernel
theorem d_method_3_code_26 : decode method_3_code 26 = .ok (.getstatic 52, 3) := by decide +kernel
theorem d_method_3_code_29 : decode method_3_code 29 = .ok (.areturn, 1) := by decide +kernel
theorem ef_rm2 (m : MethodId) (x0 : Int32) : entryFrame m #[(.int x0)] 1 = mkF m 0 #[.val (.int x0)] [] := by first | (simp [entryFrame, mkF, argsToLocals, Value.category]; done) | rfl
def Q_rm2 (Z : State) (p0 : Int32) (w_DELETE : Addr) (w_RENEW : Addr) (w_TRANSFER : Addr) (w_UPDATE : Addr) (h0 : Heap) (n0 : Nat) (v : Option Value) (h : Heap) (L : List Loc) : Prop := v = some (.ref (own_cmd p0 w_DELETE w_RENEW w_TRANSFER w_UPDATE)) ∧ Fr n0 L ∧ h = h0
set_option maxRecDepth 65536 in
set_option maxHeartbeats 40000000 in
theorem rm2 (l : Launch) (Z : State) (a0 : Array Value) (hw : ∀ d ∈ tables_1, d.before a0 Z = true) (ws : List Jvm.Cond) (p0 : Int32) (w_DELETE : Addr) (w_RENEW : Addr) (w_TRANSFER : Addr) (w_UPDATE : Addr) (h0 : Heap) (n0 : Nat) (Z0 : n0 ≤ h0.size) (S_DELETE : Sta Z h0 "com/example/nameward/nameward/registry/Status$Command" "DELETE" "Lcom/example/nameward/nameward/registry/Status$Command;" (.ref w_DELETE)) (S_RENEW : Sta Z h0 "com/example/nameward/nameward/registry/Status$Command" "RENEW" "Lcom/example/nameward/nameward/registry/Status$Command;" (.ref w_RENEW)) (S_TRANSFER : Sta Z h0 "com/example/nameward/nameward/registry/Status$Command" "TRANSFER" "Lcom/example/nameward/nameward/registry/Status$Command;" (.ref w_TRANSFER)) (S_UPDATE : Sta Z h0 "com/example/nameward/nameward/registry/Status$Command" "UPDATE" "Lcom/example/nameward/nameward/registry/Status$Command;" (.ref w_UPDATE)) :
    MetFree l (⟨"com/example/nameward/nameward/registry/StatusProhibitsPinLaw", "command", "(I)Lcom/example/nameward/nameward/registry/Status$Command;"⟩ : MethodName) (head1 (Jvm.Cond.code (⟨"com/example/nameward/nameward/registry/StatusProhibitsPinLaw", "command", "(I)Lcom/example/nameward/nameward/registry/Status$Command;"⟩ : MethodName) method_3_code 1 (some (.object "com/example/nameward/nameward/registry/Status$Command")) :: ws) ({ frames := 0, cells := 0, slots := 0, locals := 0 } : Room)) (fun a U => a = #[(.int p0)] ∧ Z.Warmed39 U.vm ∧ U.heap = h0) (fun _ _ _ _ _ => True) (fun _ U o U' => ∃ v L, o = .returned v ∧ Q_rm2 Z p0 w_DELETE w_RENEW w_TRANSFER w_UPDATE h0 n0 v U'.heap L ∧ FrameEnd U o U' L ({ frames := 0, cells := 0, slots := 0, locals := 0 } : Room).cells ({ frames := 0, cells := 0, slots := 0, locals := 0 } : Room).slots) := by
  refine MetFree.of_bodySF (plainFor_of_name pn_0) hisR ?_
  intro p e s m args below meth c s₁ Bd hml0 hP hK
  obtain ⟨rfl, hZ, hh⟩ := hP
  have hx := Bd.exec
  have hby := Bd.bytes
  have hml : c.maxLocals = 1 := hml0
  have hown : s.vm.findClass "com/example/nameward/nameward/registry/StatusProhibitsPinLaw" = some m.cls := findClass_of_methodNamed Bd.named
  have hnm := (name_of_methodNamed Bd.named Bd.method).1
  have hlk : meth.locks = false := by first | exact BodyLoose.notSynchronized (by assumption) | exact Body.notSynchronized (by assumption) | assumption
  have X0 : Stand p l e ({ frames := 0, cells := 0, slots := 0, locals := 0 } : Room) s m #[(.int p0)] below meth c s₁ [] 0 0 := Stand.of_body Bd
  have e0 : s₁.heap = h0 := by rw [← hh, Bd.state]; rfl
  have N0 := Fr.nil n0
  have Zn := Z0
  have K0 : ∀ t, Steps p.tables e below (s₁.setTop (mkF m 0 #[.val (.int p0)] [])) t → Steps p.tables e below (s₁.setTop (entryFrame m #[(.int p0)] 1)) t := fun t k => castTop (ef_rm2 m p0) k
  have K1 : ∀ t, Steps p.tables e below (s₁.setTop (mkF m 1 #[.val (.int p0)] [(.int p0)])) t → Steps p.tables e below (s₁.setTop (entryFrame m #[(.int p0)] 1)) t := by
    intro t kt
    refine K0 t ?_
    show Steps p.tables e below (s₁.setTop (mkF m 0 #[.val (.int p0)] [])) _
    refine XS.iloadN X0.here hx rfl (hb hby d_method_3_code_0) rfl ?_
    exact kt
  by_cases hc1 : p0 = (0 : Int32)
  ·
    obtain ⟨T2, X2, e2, st2⟩ := getS2 X0 hx hZ hown (host := "") (Or.inl (hw _ (List.mem_of_getElem? (i := 31) rfl))) Via.refl e0 S_DELETE (g := (mkF m 4 #[.val (.int p0)] [])) rfl (hb hby d_method_3_code_4)
    obtain ⟨fs, hr, hrun, hended, hW, hsame⟩ := X2.leave (v := some (.ref w_DELETE)) (fun h => by rw [Bd.returns] at h; cases h) hlk
    refine ⟨_, _, K1 _ ?_, hrun, hended, _, _, rfl, ?_, ⟨_, rfl⟩, hW, hsame.mono (by decide) (by decide)⟩
    ·
      show Steps p.tables e below (s₁.setTop (mkF m 1 #[.val (.int p0)] [(.int p0)])) _
      refine XS.ifNo X0.here hx rfl (hb hby d_method_3_code_1) rfl ((if0 _ _).trans (teq hc1).2) ?_
      show Steps p.tables e below (s₁.setTop (mkF m 4 #[.val (.int p0)] [])) _
      refine st2 _ ?_
      show Steps p.tables e below (T2.setTop (mkF m 7 #[.val (.int p0)] [(.ref w_DELETE)])) _
      exact retOut X2 hx Bd.returns rfl (Or.inr (Or.inr (Or.inr (Or.inr ⟨rfl, rfl, rfl⟩)))) (hb hby d_method_3_code_7) hr
    ·
      show Q_rm2 Z p0 w_DELETE w_RENEW w_TRANSFER w_UPDATE h0 n0 _ T2.heap _
      rw [e2]
      refine ⟨?_, N0, rfl⟩
      simp [own_cmd, hc1]
  ·
    have K3 : ∀ t, Steps p.tables e below (s₁.setTop (mkF m 10 #[.val (.int p0)] [(.int (1 : Int32)), (.int p0)])) t → Steps p.tables e below (s₁.setTop (entryFrame m #[(.int p0)] 1)) t := by
      intro t kt
      refine K1 t ?_
      show Steps p.tables e below (s₁.setTop (mkF m 1 #[.val (.int p0)] [(.int p0)])) _
      refine XS.ifYes X0.here hx rfl (pc0 := 1) (pc' := 8) rfl (hb hby d_method_3_code_1) rfl ((if0 _ _).trans (feq hc1).2) (by decide) (by decide) ?_
      show Steps p.tables e below (s₁.setTop (mkF m 8 #[.val (.int p0)] [])) _
      refine XS.iloadN X0.here hx rfl (hb hby d_method_3_code_8) rfl ?_
      show Steps p.tables e below (s₁.setTop (mkF m 9 #[.val (.int p0)] [(.int p0)])) _
      refine XS.iconst X0.here hx rfl (hb hby d_method_3_code_9) ?_
      exact kt
    by_cases hc10 : p0 = (1 : Int32)
    ·
      obtain ⟨T4, X4, e4, st4⟩ := getS2 X0 hx hZ hown (host := "") (Or.inl (hw _ (List.mem_of_getElem? (i := 24) rfl))) Via.refl e0 S_RENEW (g := (mkF m 13 #[.val (.int p0)] [])) rfl (hb hby d_method_3_code_13)
      obtain ⟨fs, hr, hrun, hended, hW, hsame⟩ := X4.leave (v := some (.ref w_RENEW)) (fun h => by rw [Bd.returns] at h; cases h) hlk
      refine ⟨_, _, K3 _ ?_, hrun, hended, _, _, rfl, ?_, ⟨_, rfl⟩, hW, hsame.mono (by decide) (by decide)⟩
      ·
        show Steps p.tables e below (s₁.setTop (mkF m 10 #[.val (.int p0)] [(.int (1 : Int32)), (.int p0)])) _
        refine XS.icmpNo X0.here hx rfl (hb hby d_method_3_code_10) rfl (teq hc10).2 ?_
        show Steps p.tables e below (s₁.setTop (mkF m 13 #[.val (.int p0)] [])) _
        refine st4 _ ?_
        show Steps p.tables e below (T4.setTop (mkF m 16 #[.val (.int p0)] [(.ref w_RENEW)])) _
        exact retOut X4 hx Bd.returns rfl (Or.inr (Or.inr (Or.inr (Or.inr ⟨rfl, rfl, rfl⟩)))) (hb hby d_method_3_code_16) hr
      ·
        show Q_rm2 Z p0 w_DELETE w_RENEW w_TRANSFER w_UPDATE h0 n0 _ T4.heap _
        rw [e4]
        refine ⟨?_, N0, rfl⟩
        simp [own_cmd, hc1, hc10]
    ·
      have K5 : ∀ t, Steps p.tables e below (s₁.setTop (mkF m 19 #[.val (.int p0)] [(.int (2 : Int32)), (.int p0)])) t → Steps p.tables e below (s₁.setTop (entryFrame m #[(.int p0)] 1)) t := by
        intro t kt
        refine K3 t ?_
        show Steps p.tables e below (s₁.setTop (mkF m 10 #[.val (.int p0)] [(.int (1 : Int32)), (.int p0)])) _
        refine XS.icmpYes X0.here hx rfl (pc0 := 10) (pc' := 17) rfl (hb hby d_method_3_code_10) rfl (feq hc10).2 (by decide) (by decide) ?_
        show Steps p.tables e below (s₁.setTop (mkF m 17 #[.val (.int p0)] [])) _
        refine XS.iloadN X0.here hx rfl (hb hby d_method_3_code_17) rfl ?_
        show Steps p.tables e below (s₁.setTop (mkF m 18 #[.val (.int p0)] [(.int p0)])) _
        refine XS.iconst X0.here hx rfl (hb hby d_method_3_code_18) ?_
        exact kt
      by_cases hc19 : p0 = (2 : Int32)
      ·
        obtain ⟨T6, X6, e6, st6⟩ := getS2 X0 hx hZ hown (host := "") (Or.inl (hw _ (List.mem_of_getElem? (i := 36) rfl))) Via.refl e0 S_TRANSFER (g := (mkF m 22 #[.val (.int p0)] [])) rfl (hb hby d_method_3_code_22)
        obtain ⟨fs, hr, hrun, hended, hW, hsame⟩ := X6.leave (v := some (.ref w_TRANSFER)) (fun h => by rw [Bd.returns] at h; cases h) hlk
        refine ⟨_, _, K5 _ ?_, hrun, hended, _, _, rfl, ?_, ⟨_, rfl⟩, hW, hsame.mono (by decide) (by decide)⟩
        ·
          show Steps p.tables e below (s₁.setTop (mkF m 19 #[.val (.int p0)] [(.int (2 : Int32)), (.int p0)])) _
          refine XS.icmpNo X0.here hx rfl (hb hby d_method_3_code_19) rfl (teq hc19).2 ?_
          show Steps p.tables e below (s₁.setTop (mkF m 22 #[.val (.int p0)] [])) _
          refine st6 _ ?_
          show Steps p.tables e below (T6.setTop (mkF m 25 #[.val (.int p0)] [(.ref w_TRANSFER)])) _
          exact retOut X6 hx Bd.returns rfl (Or.inr (Or.inr (Or.inr (Or.inr ⟨rfl, rfl, rfl⟩)))) (hb hby d_method_3_code_25) hr
        ·
          show Q_rm2 Z p0 w_DELETE w_RENEW w_TRANSFER w_UPDATE h0 n0 _ T6.heap _
          rw [e6]
          refine ⟨?_, N0, rfl⟩
          simp [own_cmd, hc1, hc10, hc19]
      ·
        obtain ⟨T7, X7, e7, st7⟩ := getS2 X0 hx hZ hown (host := "") (Or.inl (hw _ (List.mem_of_getElem? (i := 11) rfl))) Via.refl e0 S_UPDATE (g := (mkF m 26 #[.val (.int p0)] [])) rfl (hb hby d_method_3_code_26)
        obtain ⟨fs, hr, hrun, hended, hW, hsame⟩ := X7.leave (v := some (.ref w_UPDATE)) (fun h => by rw [Bd.returns] at h; cases h) hlk
        refine ⟨_, _, K5 _ ?_, hrun, hended, _, _, rfl, ?_, ⟨_, rfl⟩, hW, hsame.mono (by decide) (by decide)⟩
        ·
          show Steps p.tables e below (s₁.setTop (mkF m 19 #[.val (.int p0)] [(.int (2 : Int32)), (.int p0)])) _
          refine XS.icmpYes X0.here hx rfl (pc0 := 19) (pc' := 26) rfl (hb hby d_method_3_code_19) rfl (feq hc19).2 (by decide) (by decide) ?_
          show Steps p.tables e below (s₁.setTop (mkF m 26 #[.val (.int p0)] [])) _
          refine st7 _ ?_
          show Steps p.tables e below (T7.setTop (mkF m 29 #[.val (.int p0)] [(.ref w_UPDATE)])) _
          exact retOut X7 hx Bd.returns rfl (Or.inr (Or.inr (Or.inr (Or.inr ⟨rfl, rfl, rfl⟩)))) (hb hby d_method_3_code_29) hr
        ·
          show Q_rm2 Z p0 w_DELETE w_RENEW w_TRANSFER w_UPDATE h0 n0 _ T7.heap _
          rw [e7]
          refine ⟨?_, N0, rfl⟩
          simp [own_cmd, hc1, hc10, hc19]
theorem d_prog_119_method_7_code_0 : decode prog_119_method_7_code 0 = .ok (.aload_n 0, 1) := by decide +kernel
theorem d_prog_119_method_7_code_1 : decode prog_119_method_7_code 1 = .ok (.getfield 57, 3) := by decide +kernel
theorem d_prog_119_method_7_code_4 : decode prog_119_method_7_code 4 = .ok (.aload_n 1, 1) := by decide +kernel
theorem d_prog_119_method_7_code_5 : decode prog_119_method_7_code 5 = .ok (.if_acmp .ne 7, 3) := by decide +kernel
theorem d_prog_119_method_7_code_8 : decode prog_119_method_7_code 8 = .ok (.iconst 1, 1) := by decide +kernel
theorem d_prog_119_method_7_code_9 : decode prog_119_method_7_code 9 = .ok (.goto 4, 3) := by decide +kernel
theorem d_prog_119_method_7_code_13 : decode prog_119_method_7_code 13 = .ok (.ireturn, 1) := by decide +kernel
theorem d_prog_119_method_7_code_12 : decode prog_119_method_7_code 12 = .ok (.iconst 0, 1) := by decide +kernel
theorem pn_1 : plainName "com/example/nameward/nameward/registry/Status" = true := by first | (simp [plainName, overriddenIn]; done) | decide +kernel
theorem ef_rm3 (m : MethodId) (x0 : Addr) (x1 : Addr) : entryFrame m #[(.ref x0), (.ref x1)] 2 = mkF m 0 #[.val (.ref x0), .val (.ref x1)] [] := by first | (simp [entryFrame, mkF, argsToLocals, Value.category]; done) | rfl
def Q_rm3 (Z : State) (r0 : Addr) (r1 : Addr) (pv : Value) (h0 : Heap) (n0 : Nat) (v : Option Value) (h : Heap) (L : List Loc) : Prop := v = some (.int (own_pro pv r1)) ∧ Fr n0 L ∧ h = h0
set_option maxRecDepth 65536 in
set_option maxHeartbeats 40000000 in
theorem rm3 (l : Launch) (Z : State) (a0 : Array Value) (hw : ∀ d ∈ tables_1, d.before a0 Z = true) (ws : List Jvm.Cond) (r0 : Addr) (r1 : Addr) (pv : Value) (h0 : Heap) (n0 : Nat) (Z0 : n0 ≤ h0.size) (F_prohibited_r0 : Fld Z h0 r0 "com/example/nameward/nameward/registry/Status" "prohibited" "Lcom/example/nameward/nameward/registry/Status$Command;" pv) (hpv : pv.isRef = true) :
    MetFree l (⟨"com/example/nameward/nameward/registry/Status", "prohibits", "(Lcom/example/nameward/nameward/registry/Status$Command;)Z"⟩ : MethodName) (head1 (Jvm.Cond.code (⟨"com/example/nameward/nameward/registry/Status", "prohibits", "(Lcom/example/nameward/nameward/registry/Status$Command;)Z"⟩ : MethodName) prog_119_method_7_code 2 (some .boolean) :: ws) ({ frames := 0, cells := 0, slots := 0, locals := 0 } : Room)) (fun a U => a = #[(.ref r0), (.ref r1)] ∧ Z.Warmed39 U.vm ∧ U.heap = h0) (fun _ _ _ _ _ => True) (fun _ U o U' => ∃ v L, o = .returned v ∧ Q_rm3 Z r0 r1 pv h0 n0 v U'.heap L ∧ FrameEnd U o U' L ({ frames := 0, cells := 0, slots := 0, locals := 0 } : Room).cells ({ frames := 0, cells := 0, slots := 0, locals := 0 } : Room).slots) := by
  refine MetFree.of_bodySF (plainFor_of_name pn_1) hisR ?_
  intro p e s m args below meth c s₁ Bd hml0 hP hK
  obtain ⟨rfl, hZ, hh⟩ := hP
  have hx := Bd.exec
  have hby := Bd.bytes
  have hml : c.maxLocals = 2 := hml0
  have hown : s.vm.findClass "com/example/nameward/nameward/registry/Status" = some m.cls := findClass_of_methodNamed Bd.named
  have hnm := (name_of_methodNamed Bd.named Bd.method).1
  have hlk : meth.locks = false := by first | exact BodyLoose.notSynchronized (by assumption) | exact Body.notSynchronized (by assumption) | assumption
  have X0 : Stand p l e ({ frames := 0, cells := 0, slots := 0, locals := 0 } : Room) s m #[(.ref r0), (.ref r1)] below meth c s₁ [] 0 0 := Stand.of_body Bd
  have e0 : s₁.heap = h0 := by rw [← hh, Bd.state]; rfl
  have N0 := Fr.nil n0
  have Zn := Z0
  have K0 : ∀ t, Steps p.tables e below (s₁.setTop (mkF m 0 #[.val (.ref r0), .val (.ref r1)] [])) t → Steps p.tables e below (s₁.setTop (entryFrame m #[(.ref r0), (.ref r1)] 2)) t := fun t k => castTop (ef_rm3 m r0 r1) k
  obtain ⟨T1, X1, e1, st1⟩ := getF X0 hx hZ hown (host := "") (Or.inl (hw _ (List.mem_of_getElem? (i := 19) rfl))) Via.refl e0 F_prohibited_r0 (g := (mkF m 1 #[.val (.ref r0), .val (.ref r1)] [(.ref r0)])) rfl rfl (hb hby d_prog_119_method_7_code_1)
  have K2 : ∀ t, Steps p.tables e below (T1.setTop (mkF m 5 #[.val (.ref r0), .val (.ref r1)] [(.ref r1), pv])) t → Steps p.tables e below (s₁.setTop (entryFrame m #[(.ref r0), (.ref r1)] 2)) t := by
    intro t kt
    refine K0 t ?_
    show Steps p.tables e below (s₁.setTop (mkF m 0 #[.val (.ref r0), .val (.ref r1)] [])) _
    refine XS.aloadN X0.here hx rfl (hb hby d_prog_119_method_7_code_0) rfl rfl ?_
    show Steps p.tables e below (s₁.setTop (mkF m 1 #[.val (.ref r0), .val (.ref r1)] [(.ref r0)])) _
    refine st1 _ ?_
    show Steps p.tables e below (T1.setTop (mkF m 4 #[.val (.ref r0), .val (.ref r1)] [pv])) _
    refine XS.aloadN X1.here hx rfl (hb hby d_prog_119_method_7_code_4) rfl rfl ?_
    exact kt
  by_cases hc5 : (pv : Value) = (.ref r1)
  ·
    obtain ⟨fs, hr, hrun, hended, hW, hsame⟩ := X1.leave (v := some (.int (1 : Int32))) (fun h => by rw [Bd.returns] at h; cases h) hlk
    refine ⟨_, _, K2 _ ?_, hrun, hended, _, _, rfl, ?_, ⟨_, rfl⟩, hW, hsame.mono (by decide) (by decide)⟩
    ·
      show Steps p.tables e below (T1.setTop (mkF m 5 #[.val (.ref r0), .val (.ref r1)] [(.ref r1), pv])) _
      refine Jvm.RoadKit.acmp (g := (mkF m 5 #[.val (.ref r0), .val (.ref r1)] [(.ref r1), pv])) X1 hx rfl hpv rfl (pc0 := 5) (pc' := 8) (same := true) rfl (hb hby d_prog_119_method_7_code_5) rfl (decide_eq_true hc5) (by decide) (by decide) ?_
      show Steps p.tables e below (T1.setTop (mkF m 8 #[.val (.ref r0), .val (.ref r1)] [])) _
      refine XS.iconst X1.here hx rfl (hb hby d_prog_119_method_7_code_8) ?_
      show Steps p.tables e below (T1.setTop (mkF m 9 #[.val (.ref r0), .val (.ref r1)] [(.int (1 : Int32))])) _
      refine XS.goto X1.here hx rfl (pc0 := 9) (pc' := 13) rfl (hb hby d_prog_119_method_7_code_9) (by decide) (by decide) ?_
      show Steps p.tables e below (T1.setTop (mkF m 13 #[.val (.ref r0), .val (.ref r1)] [(.int (1 : Int32))])) _
      exact retN X1 hx (t := .boolean) Bd.returns (by simp) (hb hby d_prog_119_method_7_code_13) hr
    ·
      show Q_rm3 Z r0 r1 pv h0 n0 _ T1.heap _
      rw [e1]
      refine ⟨?_, N0, rfl⟩
      simp [own_pro, hc5]
  ·
    obtain ⟨fs, hr, hrun, hended, hW, hsame⟩ := X1.leave (v := some (.int (0 : Int32))) (fun h => by rw [Bd.returns] at h; cases h) hlk
    refine ⟨_, _, K2 _ ?_, hrun, hended, _, _, rfl, ?_, ⟨_, rfl⟩, hW, hsame.mono (by decide) (by decide)⟩
    ·
      show Steps p.tables e below (T1.setTop (mkF m 5 #[.val (.ref r0), .val (.ref r1)] [(.ref r1), pv])) _
      refine Jvm.RoadKit.acmp (g := (mkF m 5 #[.val (.ref r0), .val (.ref r1)] [(.ref r1), pv])) X1 hx rfl hpv rfl (pc0 := 5) (pc' := 12) (same := false) rfl (hb hby d_prog_119_method_7_code_5) rfl (decide_eq_false hc5) (by decide) (by decide) ?_
      show Steps p.tables e below (T1.setTop (mkF m 12 #[.val (.ref r0), .val (.ref r1)] [])) _
      refine XS.iconst X1.here hx rfl (hb hby d_prog_119_method_7_code_12) ?_
      show Steps p.tables e below (T1.setTop (mkF m 13 #[.val (.ref r0), .val (.ref r1)] [(.int (0 : Int32))])) _
      exact retN X1 hx (t := .boolean) Bd.returns (by simp) (hb hby d_prog_119_method_7_code_13) hr
    ·
      show Q_rm3 Z r0 r1 pv h0 n0 _ T1.heap _
      rw [e1]
      refine ⟨?_, N0, rfl⟩
      simp [own_pro, hc5]
theorem pd_2 : parseMethodDescriptor "(I)Lcom/example/nameward/nameward/registry/Status;" = some ⟨[.int], some (.object "com/example/nameward/nameward/registry/Status")⟩ := by decide +kernel
theorem pd_3 : parseMethodDescriptor "(I)Lcom/example/nameward/nameward/registry/Status$Command;" = some ⟨[.int], some (.object "com/example/nameward/nameward/registry/Status$Command")⟩ := by decide +kernel
theorem pd_4 : parseMethodDescriptor "(Lcom/example/nameward/nameward/registry/Status$Command;)Z" = some ⟨[(.object "com/example/nameward/nameward/registry/Status$Command")], some .boolean⟩ := by decide +kernel
theorem ef_rm0 (m : MethodId) (x0 : Int32) (x1 : Int32) : entryFrame m #[(.int x0), (.int x1)] maxLocals = mkF m 0 #[.val (.int x0), .val (.int x1), .unset, .unset, .unset, .unset] [] := by first | (simp [entryFrame, mkF, argsToLocals, Value.category, maxLocals]; done) | rfl
def Q_rm0 (Z : State) (p0 : Int32) (p1 : Int32) (w_CLIENT_DELETE_PROHIBITED : Addr) (w_CLIENT_HOLD : Addr) (w_CLIENT_RENEW_PROHIBITED : Addr) (w_CLIENT_TRANSFER_PROHIBITED : Addr) (w_CLIENT_UPDATE_PROHIBITED : Addr) (w_SERVER_DELETE_PROHIBITED : Addr) (w_SERVER_HOLD : Addr) (w_SERVER_RENEW_PROHIBITED : Addr) (w_SERVER_TRANSFER_PROHIBITED : Addr) (w_SERVER_UPDATE_PROHIBITED : Addr) (w_DELETE : Addr) (w_RENEW : Addr) (w_TRANSFER : Addr) (w_UPDATE : Addr) (h0 : Heap) (n0 : Nat) (v : Option Value) (h : Heap) (L : List Loc) : Prop := v = some (.int 1) ∧ Fr n0 L
set_option maxRecDepth 65536 in
set_option maxHeartbeats 40000000 in
theorem rm0 (l : Launch) (Z : State) (a0 : Array Value) (hw : ∀ d ∈ tables_1, d.before a0 Z = true) (ws : List Jvm.Cond) (p0 : Int32) (p1 : Int32) (w_CLIENT_DELETE_PROHIBITED : Addr) (w_CLIENT_HOLD : Addr) (w_CLIENT_RENEW_PROHIBITED : Addr) (w_CLIENT_TRANSFER_PROHIBITED : Addr) (w_CLIENT_UPDATE_PROHIBITED : Addr) (w_SERVER_DELETE_PROHIBITED : Addr) (w_SERVER_HOLD : Addr) (w_SERVER_RENEW_PROHIBITED : Addr) (w_SERVER_TRANSFER_PROHIBITED : Addr) (w_SERVER_UPDATE_PROHIBITED : Addr) (w_DELETE : Addr) (w_RENEW : Addr) (w_TRANSFER : Addr) (w_UPDATE : Addr) (h0 : Heap) (n0 : Nat) (Z0 : n0 ≤ h0.size) (S_CLIENT_DELETE_PROHIBITED : Sta Z h0 "com/example/nameward/nameward/registry/Status" "CLIENT_DELETE_PROHIBITED" "Lcom/example/nameward/nameward/registry/Status;" (.ref w_CLIENT_DELETE_PROHIBITED)) (S_CLIENT_HOLD : Sta Z h0 "com/example/nameward/nameward/registry/Status" "CLIENT_HOLD" "Lcom/example/nameward/nameward/registry/Status;" (.ref w_CLIENT_HOLD)) (S_CLIENT_RENEW_PROHIBITED : Sta Z h0 "com/example/nameward/nameward/registry/Status" "CLIENT_RENEW_PROHIBITED" "Lcom/example/nameward/nameward/registry/Status;" (.ref w_CLIENT_RENEW_PROHIBITED)) (S_CLIENT_TRANSFER_PROHIBITED : Sta Z h0 "com/example/nameward/nameward/registry/Status" "CLIENT_TRANSFER_PROHIBITED" "Lcom/example/nameward/nameward/registry/Status;" (.ref w_CLIENT_TRANSFER_PROHIBITED)) (S_CLIENT_UPDATE_PROHIBITED : Sta Z h0 "com/example/nameward/nameward/registry/Status" "CLIENT_UPDATE_PROHIBITED" "Lcom/example/nameward/nameward/registry/Status;" (.ref w_CLIENT_UPDATE_PROHIBITED)) (S_SERVER_DELETE_PROHIBITED : Sta Z h0 "com/example/nameward/nameward/registry/Status" "SERVER_DELETE_PROHIBITED" "Lcom/example/nameward/nameward/registry/Status;" (.ref w_SERVER_DELETE_PROHIBITED)) (S_SERVER_HOLD : Sta Z h0 "com/example/nameward/nameward/registry/Status" "SERVER_HOLD" "Lcom/example/nameward/nameward/registry/Status;" (.ref w_SERVER_HOLD)) (S_SERVER_RENEW_PROHIBITED : Sta Z h0 "com/example/nameward/nameward/registry/Status" "SERVER_RENEW_PROHIBITED" "Lcom/example/nameward/nameward/registry/Status;" (.ref w_SERVER_RENEW_PROHIBITED)) (S_SERVER_TRANSFER_PROHIBITED : Sta Z h0 "com/example/nameward/nameward/registry/Status" "SERVER_TRANSFER_PROHIBITED" "Lcom/example/nameward/nameward/registry/Status;" (.ref w_SERVER_TRANSFER_PROHIBITED)) (S_SERVER_UPDATE_PROHIBITED : Sta Z h0 "com/example/nameward/nameward/registry/Status" "SERVER_UPDATE_PROHIBITED" "Lcom/example/nameward/nameward/registry/Status;" (.ref w_SERVER_UPDATE_PROHIBITED)) (S_DELETE : Sta Z h0 "com/example/nameward/nameward/registry/Status$Command" "DELETE" "Lcom/example/nameward/nameward/registry/Status$Command;" (.ref w_DELETE)) (S_RENEW : Sta Z h0 "com/example/nameward/nameward/registry/Status$Command" "RENEW" "Lcom/example/nameward/nameward/registry/Status$Command;" (.ref w_RENEW)) (S_TRANSFER : Sta Z h0 "com/example/nameward/nameward/registry/Status$Command" "TRANSFER" "Lcom/example/nameward/nameward/registry/Status$Command;" (.ref w_TRANSFER)) (S_UPDATE : Sta Z h0 "com/example/nameward/nameward/registry/Status$Command" "UPDATE" "Lcom/example/nameward/nameward/registry/Status$Command;" (.ref w_UPDATE)) (E_w_CLIENT_DELETE_PROHIBITED : Exa Z h0 w_CLIENT_DELETE_PROHIBITED "com/example/nameward/nameward/registry/Status") (E_w_CLIENT_HOLD : Exa Z h0 w_CLIENT_HOLD "com/example/nameward/nameward/registry/Status") (E_w_CLIENT_RENEW_PROHIBITED : Exa Z h0 w_CLIENT_RENEW_PROHIBITED "com/example/nameward/nameward/registry/Status") (E_w_CLIENT_TRANSFER_PROHIBITED : Exa Z h0 w_CLIENT_TRANSFER_PROHIBITED "com/example/nameward/nameward/registry/Status") (E_w_CLIENT_UPDATE_PROHIBITED : Exa Z h0 w_CLIENT_UPDATE_PROHIBITED "com/example/nameward/nameward/registry/Status") (E_w_SERVER_DELETE_PROHIBITED : Exa Z h0 w_SERVER_DELETE_PROHIBITED "com/example/nameward/nameward/registry/Status") (E_w_SERVER_HOLD : Exa Z h0 w_SERVER_HOLD "com/example/nameward/nameward/registry/Status") (E_w_SERVER_RENEW_PROHIBITED : Exa Z h0 w_SERVER_RENEW_PROHIBITED "com/example/nameward/nameward/registry/Status") (E_w_SERVER_TRANSFER_PROHIBITED : Exa Z h0 w_SERVER_TRANSFER_PROHIBITED "com/example/nameward/nameward/registry/Status") (E_w_SERVER_UPDATE_PROHIBITED : Exa Z h0 w_SERVER_UPDATE_PROHIBITED "com/example/nameward/nameward/registry/Status") (o_DELETE : own_ord Z w_DELETE = 0) (o_RENEW : own_ord Z w_RENEW = 1) (o_TRANSFER : own_ord Z w_TRANSFER = 2) (o_UPDATE : own_ord Z w_UPDATE = 3) (FX : ∀ i : Int32, (i = 0 ∨ i = 1 ∨ i = 2 ∨ i = 3 ∨ i = 4 ∨ i = 5 ∨ i = 6 ∨ i = 7 ∨ i = 8 ∨ i = 9) → Fld Z h0 (own_st i w_CLIENT_DELETE_PROHIBITED w_CLIENT_HOLD w_CLIENT_RENEW_PROHIBITED w_CLIENT_TRANSFER_PROHIBITED w_CLIENT_UPDATE_PROHIBITED w_SERVER_DELETE_PROHIBITED w_SERVER_HOLD w_SERVER_RENEW_PROHIBITED w_SERVER_TRANSFER_PROHIBITED w_SERVER_UPDATE_PROHIBITED) "com/example/nameward/nameward/registry/Status" "prohibited" "Lcom/example/nameward/nameward/registry/Status$Command;" (own_pvi i w_DELETE w_RENEW w_TRANSFER w_UPDATE)) :
    MetFree l x (head1 (Jvm.Cond.code x code maxLocals ret :: ws) room_1) (fun a U => a = #[(.int p0), (.int p1)] ∧ Z.Warmed39 U.vm ∧ U.heap = h0) (fun _ _ _ _ _ => True) (fun _ U o U' => ∃ v L, o = .returned v ∧ Q_rm0 Z p0 p1 w_CLIENT_DELETE_PROHIBITED w_CLIENT_HOLD w_CLIENT_RENEW_PROHIBITED w_CLIENT_TRANSFER_PROHIBITED w_CLIENT_UPDATE_PROHIBITED w_SERVER_DELETE_PROHIBITED w_SERVER_HOLD w_SERVER_RENEW_PROHIBITED w_SERVER_TRANSFER_PROHIBITED w_SERVER_UPDATE_PROHIBITED w_DELETE w_RENEW w_TRANSFER w_UPDATE h0 n0 v U'.heap L ∧ FrameEnd U o U' L room_1.cells room_1.slots) := by
  refine MetFree.of_bodySF (plainFor_of_name pn_0) hisR ?_
  intro p e s m args below meth c s₁ Bd hml0 hP hK
  obtain ⟨rfl, hZ, hh⟩ := hP
  have hx := Bd.exec
  have hby := Bd.bytes
  have hml : c.maxLocals = 6 := hml0
  have hown : s.vm.findClass "com/example/nameward/nameward/registry/StatusProhibitsPinLaw" = some m.cls := findClass_of_methodNamed Bd.named
  have hnm := (name_of_methodNamed Bd.named Bd.method).1
  have hlk : meth.locks = false := by first | exact BodyLoose.notSynchronized (by assumption) | exact Body.notSynchronized (by assumption) | assumption
  have X0 : Stand p l e room_1 s m #[(.int p0), (.int p1)] below meth c s₁ [] 0 0 := Stand.of_body Bd
  have e0 : s₁.heap = h0 := by rw [← hh, Bd.state]; rfl
  have N0 := Fr.nil n0
  have Zn := Z0
  have K0 : ∀ t, Steps p.tables e below (s₁.setTop (mkF m 0 #[.val (.int p0), .val (.int p1), .unset, .unset, .unset, .unset] [])) t → Steps p.tables e below (s₁.setTop (entryFrame m #[(.int p0), (.int p1)] maxLocals)) t := fun t k => castTop (ef_rm0 m p0 p1) k
  have K1 : ∀ t, Steps p.tables e below (s₁.setTop (mkF m 8 #[.val (.int p0), .val (.int p1), .val (.int ((p0 &&& (2147483647 : Int32)) - ((p0 &&& (2147483647 : Int32)) / (10 : Int32)) * (10 : Int32))), .unset, .unset, .unset] [])) t → Steps p.tables e below (s₁.setTop (entryFrame m #[(.int p0), (.int p1)] maxLocals)) t := by
    intro t kt
    refine K0 t ?_
    show Steps p.tables e below (s₁.setTop (mkF m 0 #[.val (.int p0), .val (.int p1), .unset, .unset, .unset, .unset] [])) _
    refine XS.iloadN X0.here hx rfl (hb hby at_0) rfl ?_
    show Steps p.tables e below (s₁.setTop (mkF m 1 #[.val (.int p0), .val (.int p1), .unset, .unset, .unset, .unset] [(.int p0)])) _
    refine X0.ldcInt hx hown (mvT hZ (hw _ (List.mem_of_getElem? (i := 0) rfl))) (g := (mkF m 1 #[.val (.int p0), .val (.int p1), .unset, .unset, .unset, .unset] [(.int p0)])) rfl (hb hby at_1) _ ?_
    show Steps p.tables e below (s₁.setTop (mkF m 3 #[.val (.int p0), .val (.int p1), .unset, .unset, .unset, .unset] [(.int (2147483647 : Int32)), (.int p0)])) _
    refine XS.iand X0.here hx rfl (hb hby at_3) rfl ?_
    show Steps p.tables e below (s₁.setTop (mkF m 4 #[.val (.int p0), .val (.int p1), .unset, .unset, .unset, .unset] [(.int (p0 &&& (2147483647 : Int32)))])) _
    refine XS.bipush X0.here hx rfl (hb hby at_4) ?_
    show Steps p.tables e below (s₁.setTop (mkF m 6 #[.val (.int p0), .val (.int p1), .unset, .unset, .unset, .unset] [(.int (10 : Int32)), (.int (p0 &&& (2147483647 : Int32)))])) _
    refine XS.irem X0.here hx rfl (hb hby at_6) rfl (by decide) ?_
    show Steps p.tables e below (s₁.setTop (mkF m 7 #[.val (.int p0), .val (.int p1), .unset, .unset, .unset, .unset] [(.int ((p0 &&& (2147483647 : Int32)) - ((p0 &&& (2147483647 : Int32)) / (10 : Int32)) * (10 : Int32)))])) _
    refine XS.istoreN X0.here hx rfl (hb hby at_7) rfl (l' := #[.val (.int p0), .val (.int p1), .val (.int ((p0 &&& (2147483647 : Int32)) - ((p0 &&& (2147483647 : Int32)) / (10 : Int32)) * (10 : Int32))), .unset, .unset, .unset]) rfl ?_
    exact kt
  obtain ⟨i, hg_i⟩ : ∃ z, z = ((p0 &&& (2147483647 : Int32)) - ((p0 &&& (2147483647 : Int32)) / (10 : Int32)) * (10 : Int32)) := ⟨_, rfl⟩
  rw [← hg_i] at K1
  have hi := own_ten p0 i hg_i
  have K2 : ∀ t, Steps p.tables e below (s₁.setTop (mkF m 12 #[.val (.int p0), .val (.int p1), .val (.int i), .val (.int (p1 &&& (3 : Int32))), .unset, .unset] [])) t → Steps p.tables e below (s₁.setTop (entryFrame m #[(.int p0), (.int p1)] maxLocals)) t := by
    intro t kt
    refine K1 t ?_
    show Steps p.tables e below (s₁.setTop (mkF m 8 #[.val (.int p0), .val (.int p1), .val (.int i), .unset, .unset, .unset] [])) _
    refine XS.iloadN X0.here hx rfl (hb hby at_8) rfl ?_
    show Steps p.tables e below (s₁.setTop (mkF m 9 #[.val (.int p0), .val (.int p1), .val (.int i), .unset, .unset, .unset] [(.int p1)])) _
    refine XS.iconst X0.here hx rfl (hb hby at_9) ?_
    show Steps p.tables e below (s₁.setTop (mkF m 10 #[.val (.int p0), .val (.int p1), .val (.int i), .unset, .unset, .unset] [(.int (3 : Int32)), (.int p1)])) _
    refine XS.iand X0.here hx rfl (hb hby at_10) rfl ?_
    show Steps p.tables e below (s₁.setTop (mkF m 11 #[.val (.int p0), .val (.int p1), .val (.int i), .unset, .unset, .unset] [(.int (p1 &&& (3 : Int32)))])) _
    refine XS.istoreN X0.here hx rfl (hb hby at_11) rfl (l' := #[.val (.int p0), .val (.int p1), .val (.int i), .val (.int (p1 &&& (3 : Int32))), .unset, .unset]) rfl ?_
    exact kt
  obtain ⟨j, hg_j⟩ : ∃ z, z = (p1 &&& (3 : Int32)) := ⟨_, rfl⟩
  rw [← hg_j] at K2
  have hj := own_four p1 j hg_j
  have K3 : ∀ t, Steps p.tables e below (s₁.setTop (mkF m 17 #[.val (.int p0), .val (.int p1), .val (.int i), .val (.int j), .val (.int (i - (i / (5 : Int32)) * (5 : Int32))), .unset] [])) t → Steps p.tables e below (s₁.setTop (entryFrame m #[(.int p0), (.int p1)] maxLocals)) t := by
    intro t kt
    refine K2 t ?_
    show Steps p.tables e below (s₁.setTop (mkF m 12 #[.val (.int p0), .val (.int p1), .val (.int i), .val (.int j), .unset, .unset] [])) _
    refine XS.iloadN X0.here hx rfl (hb hby at_12) rfl ?_
    show Steps p.tables e below (s₁.setTop (mkF m 13 #[.val (.int p0), .val (.int p1), .val (.int i), .val (.int j), .unset, .unset] [(.int i)])) _
    refine XS.iconst X0.here hx rfl (hb hby at_13) ?_
    show Steps p.tables e below (s₁.setTop (mkF m 14 #[.val (.int p0), .val (.int p1), .val (.int i), .val (.int j), .unset, .unset] [(.int (5 : Int32)), (.int i)])) _
    refine XS.irem X0.here hx rfl (hb hby at_14) rfl (by decide) ?_
    show Steps p.tables e below (s₁.setTop (mkF m 15 #[.val (.int p0), .val (.int p1), .val (.int i), .val (.int j), .unset, .unset] [(.int (i - (i / (5 : Int32)) * (5 : Int32)))])) _
    refine XS.istore X0.here hx rfl (hb hby at_15) rfl (l' := #[.val (.int p0), .val (.int p1), .val (.int i), .val (.int j), .val (.int (i - (i / (5 : Int32)) * (5 : Int32))), .unset]) rfl ?_
    exact kt
  obtain ⟨k, hg_k⟩ : ∃ z, z = (i - (i / (5 : Int32)) * (5 : Int32)) := ⟨_, rfl⟩
  rw [← hg_k] at K3
  have K4 : ∀ t, Steps p.tables e below (s₁.setTop (mkF m 20 #[.val (.int p0), .val (.int p1), .val (.int i), .val (.int j), .val (.int k), .unset] [(.int (1 : Int32)), (.int k)])) t → Steps p.tables e below (s₁.setTop (entryFrame m #[(.int p0), (.int p1)] maxLocals)) t := by
    intro t kt
    refine K3 t ?_
    show Steps p.tables e below (s₁.setTop (mkF m 17 #[.val (.int p0), .val (.int p1), .val (.int i), .val (.int j), .val (.int k), .unset] [])) _
    refine XS.iload X0.here hx rfl (hb hby at_17) rfl ?_
    show Steps p.tables e below (s₁.setTop (mkF m 19 #[.val (.int p0), .val (.int p1), .val (.int i), .val (.int j), .val (.int k), .unset] [(.int k)])) _
    refine XS.iconst X0.here hx rfl (hb hby at_19) ?_
    exact kt
  by_cases hc20 : k = (1 : Int32)
  ·
    obtain ⟨_, _, ⟨T5, L5, k5, n5⟩, -, X5, ⟨Lc5, hQ5, l5, y5, z5⟩, st5⟩ := Jvm.LawKit.callS X0 hx (y := (⟨"com/example/nameward/nameward/registry/StatusProhibitsPinLaw", "status", "(I)Lcom/example/nameward/nameward/registry/Status;"⟩ : MethodName)) hown (mvT hZ (hw _ (List.mem_of_getElem? (i := 1) rfl))) (mvT hZ (hw _ (List.mem_of_getElem? (i := 2) rfl))) (mvT hZ (hw _ (List.mem_of_getElem? (i := 3) rfl))) (mvT hZ (hw _ (List.mem_of_getElem? (i := 4) rfl))) (by decide) (backOf (W := 0) (rm1 l Z a0 hw [] i w_CLIENT_DELETE_PROHIBITED w_CLIENT_HOLD w_CLIENT_RENEW_PROHIBITED w_CLIENT_TRANSFER_PROHIBITED w_CLIENT_UPDATE_PROHIBITED w_SERVER_DELETE_PROHIBITED w_SERVER_HOLD w_SERVER_RENEW_PROHIBITED w_SERVER_TRANSFER_PROHIBITED w_SERVER_UPDATE_PROHIBITED h0 n0 Zn S_CLIENT_DELETE_PROHIBITED S_CLIENT_HOLD S_CLIENT_RENEW_PROHIBITED S_CLIENT_TRANSFER_PROHIBITED S_CLIENT_UPDATE_PROHIBITED S_SERVER_DELETE_PROHIBITED S_SERVER_HOLD S_SERVER_RENEW_PROHIBITED S_SERVER_TRANSFER_PROHIBITED S_SERVER_UPDATE_PROHIBITED) hZ (hw _ (List.mem_of_getElem? (i := 4) rfl)) (hw _ (List.mem_of_getElem? (i := 3) rfl)) (by decide) (by decide)) (g := (mkF m 103 #[.val (.int p0), .val (.int p1), .val (.int i), .val (.int j), .val (.int k), .val (.int (0 : Int32))] [(.int i)])) rfl (by rw [hml]; rfl) (argsL := [(.int i)]) (rest := []) (lenOf pd_2 rfl) rfl (by show 2 * 0 + _ ≤ _; exact Nat.le_of_eq rfl) (hb hby at_103) (fun _ _ => ⟨rfl, e0, (by decide : 0 + 0 ≤ _), (by decide : 0 + 0 ≤ _)⟩)
    dsimp only [Pt.U, Pt.locs, Pt.cells, Pt.slots] at X5 l5 y5 z5 st5 hQ5
    subst l5 y5 z5
    obtain ⟨rfl, N5q, e5q⟩ := hQ5
    have N5 := Fr.app N0 N5q
    have e5 : T5.heap = h0 := e5q
    obtain ⟨_, _, ⟨T6, L6, k6, n6⟩, -, X6, ⟨Lc6, hQ6, l6, y6, z6⟩, st6⟩ := Jvm.LawKit.callS X5 hx (y := (⟨"com/example/nameward/nameward/registry/StatusProhibitsPinLaw", "command", "(I)Lcom/example/nameward/nameward/registry/Status$Command;"⟩ : MethodName)) hown (mvT hZ (hw _ (List.mem_of_getElem? (i := 8) rfl))) (mvT hZ (hw _ (List.mem_of_getElem? (i := 9) rfl))) (mvT hZ (hw _ (List.mem_of_getElem? (i := 3) rfl))) (mvT hZ (hw _ (List.mem_of_getElem? (i := 10) rfl))) (by decide) (backOf (W := 1) (rm2 l Z a0 hw [] j w_DELETE w_RENEW w_TRANSFER w_UPDATE h0 n0 Zn S_DELETE S_RENEW S_TRANSFER S_UPDATE) hZ (hw _ (List.mem_of_getElem? (i := 10) rfl)) (hw _ (List.mem_of_getElem? (i := 3) rfl)) (by decide) (by decide)) (g := (mkF m 107 #[.val (.int p0), .val (.int p1), .val (.int i), .val (.int j), .val (.int k), .val (.int (0 : Int32))] [(.int j), (.ref (own_st i w_CLIENT_DELETE_PROHIBITED w_CLIENT_HOLD w_CLIENT_RENEW_PROHIBITED w_CLIENT_TRANSFER_PROHIBITED w_CLIENT_UPDATE_PROHIBITED w_SERVER_DELETE_PROHIBITED w_SERVER_HOLD w_SERVER_RENEW_PROHIBITED w_SERVER_TRANSFER_PROHIBITED w_SERVER_UPDATE_PROHIBITED))])) rfl (by rw [hml]; rfl) (argsL := [(.int j)]) (rest := [(.ref (own_st i w_CLIENT_DELETE_PROHIBITED w_CLIENT_HOLD w_CLIENT_RENEW_PROHIBITED w_CLIENT_TRANSFER_PROHIBITED w_CLIENT_UPDATE_PROHIBITED w_SERVER_DELETE_PROHIBITED w_SERVER_HOLD w_SERVER_RENEW_PROHIBITED w_SERVER_TRANSFER_PROHIBITED w_SERVER_UPDATE_PROHIBITED))]) (lenOf pd_3 rfl) rfl (by show 2 * 0 + _ ≤ _; exact Nat.le_of_eq rfl) (hb hby at_107) (fun _ _ => ⟨rfl, e5, (by decide : 0 + 0 ≤ _), (by decide : 0 + 0 ≤ _)⟩)
    dsimp only [Pt.U, Pt.locs, Pt.cells, Pt.slots] at X6 l6 y6 z6 st6 hQ6
    subst l6 y6 z6
    obtain ⟨rfl, N6q, e6q⟩ := hQ6
    have N6 := Fr.app N5 N6q
    have e6 : T6.heap = h0 := e6q
    obtain ⟨cq7, kq7, q7a, q7b, q7c⟩ := isOf hZ e6 (show Exa Z h0 (own_st i w_CLIENT_DELETE_PROHIBITED w_CLIENT_HOLD w_CLIENT_RENEW_PROHIBITED w_CLIENT_TRANSFER_PROHIBITED w_CLIENT_UPDATE_PROHIBITED w_SERVER_DELETE_PROHIBITED w_SERVER_HOLD w_SERVER_RENEW_PROHIBITED w_SERVER_TRANSFER_PROHIBITED w_SERVER_UPDATE_PROHIBITED) "com/example/nameward/nameward/registry/Status" by unfold own_st; repeat' (split <;> try assumption))
    obtain ⟨_, _, ⟨T7, L7, k7, n7⟩, -, X7, ⟨Lc7, hQ7, l7, y7, z7⟩, st7⟩ := X6.virtualBack hx (y := (⟨"com/example/nameward/nameward/registry/Status", "prohibits", "(Lcom/example/nameward/nameward/registry/Status$Command;)Z"⟩ : MethodName)) (z := (⟨"com/example/nameward/nameward/registry/Status", "prohibits", "(Lcom/example/nameward/nameward/registry/Status$Command;)Z"⟩ : MethodName)) hown (mvT hZ (hw _ (List.mem_of_getElem? (i := 14) rfl))) (mvT hZ (hw _ (List.mem_of_getElem? (i := 15) rfl))) (notFace_of_selects (args := #[]) (mvT hZ (hw _ (List.mem_of_getElem? (i := 17) rfl)))) (mvT hZ (hw _ (List.mem_of_getElem? (i := 17) rfl))) (mvT hZ (hw _ (List.mem_of_getElem? (i := 16) rfl))) (by decide) (backOf (W := 0) (rm3 l Z a0 hw [] (own_st i w_CLIENT_DELETE_PROHIBITED w_CLIENT_HOLD w_CLIENT_RENEW_PROHIBITED w_CLIENT_TRANSFER_PROHIBITED w_CLIENT_UPDATE_PROHIBITED w_SERVER_DELETE_PROHIBITED w_SERVER_HOLD w_SERVER_RENEW_PROHIBITED w_SERVER_TRANSFER_PROHIBITED w_SERVER_UPDATE_PROHIBITED) (own_cmd j w_DELETE w_RENEW w_TRANSFER w_UPDATE) (own_pvi i w_DELETE w_RENEW w_TRANSFER w_UPDATE) h0 n0 Zn (FX i hi) (own_isref i w_DELETE w_RENEW w_TRANSFER w_UPDATE)) hZ (hw _ (List.mem_of_getElem? (i := 18) rfl)) (hw _ (List.mem_of_getElem? (i := 6) rfl)) (by decide) (by decide)) q7a q7c (g := (mkF m 110 #[.val (.int p0), .val (.int p1), .val (.int i), .val (.int j), .val (.int k), .val (.int (0 : Int32))] [(.ref (own_cmd j w_DELETE w_RENEW w_TRANSFER w_UPDATE)), (.ref (own_st i w_CLIENT_DELETE_PROHIBITED w_CLIENT_HOLD w_CLIENT_RENEW_PROHIBITED w_CLIENT_TRANSFER_PROHIBITED w_CLIENT_UPDATE_PROHIBITED w_SERVER_DELETE_PROHIBITED w_SERVER_HOLD w_SERVER_RENEW_PROHIBITED w_SERVER_TRANSFER_PROHIBITED w_SERVER_UPDATE_PROHIBITED))])) rfl (by rw [hml]; rfl) (Steps.refl _) (argsL := [(.ref (own_cmd j w_DELETE w_RENEW w_TRANSFER w_UPDATE))]) (rest := []) (lenOf pd_4 rfl) rfl (by show 2 * 0 + _ ≤ _; exact Nat.le_of_eq rfl) (hb hby at_110) (fun _ _ => ⟨rfl, e6, (by decide : 0 + 0 ≤ _), (by decide : 0 + 0 ≤ _)⟩)
    dsimp only [Pt.U, Pt.locs, Pt.cells, Pt.slots] at X7 l7 y7 z7 st7 hQ7
    subst l7 y7 z7
    obtain ⟨rfl, N7q, e7q⟩ := hQ7
    have N7 := Fr.app N6 N7q
    have e7 : T7.heap = h0 := e7q
    have hc115 : (own_pro (own_pvi i w_DELETE w_RENEW w_TRANSFER w_UPDATE) (own_cmd j w_DELETE w_RENEW w_TRANSFER w_UPDATE)) = (0 : Int32) := ((own_law o_DELETE o_RENEW o_TRANSFER o_UPDATE i j k hi hj hg_k).trans (by rw [if_pos hc20]))
    obtain ⟨fs, hr, hrun, hended, hW, hsame⟩ := X7.leave (v := some (.int (1 : Int32))) (fun h => by rw [Bd.returns] at h; cases h) hlk
    refine ⟨_, _, K4 _ ?_, hrun, hended, _, _, rfl, ?_, ⟨_, rfl⟩, hW, hsame.mono (by decide) (by decide)⟩
    ·
      show Steps p.tables e below (s₁.setTop (mkF m 20 #[.val (.int p0), .val (.int p1), .val (.int i), .val (.int j), .val (.int k), .unset] [(.int (1 : Int32)), (.int k)])) _
      refine XS.icmpNo X0.here hx rfl (hb hby at_20) rfl (teq hc20).2 ?_
      show Steps p.tables e below (s₁.setTop (mkF m 23 #[.val (.int p0), .val (.int p1), .val (.int i), .val (.int j), .val (.int k), .unset] [])) _
      refine XS.iconst X0.here hx rfl (hb hby at_23) ?_
      show Steps p.tables e below (s₁.setTop (mkF m 24 #[.val (.int p0), .val (.int p1), .val (.int i), .val (.int j), .val (.int k), .unset] [(.int (0 : Int32))])) _
      refine XS.istore X0.here hx rfl (hb hby at_24) rfl (l' := #[.val (.int p0), .val (.int p1), .val (.int i), .val (.int j), .val (.int k), .val (.int (0 : Int32))]) rfl ?_
      show Steps p.tables e below (s₁.setTop (mkF m 26 #[.val (.int p0), .val (.int p1), .val (.int i), .val (.int j), .val (.int k), .val (.int (0 : Int32))] [])) _
      refine XS.goto X0.here hx rfl (pc0 := 26) (pc' := 102) rfl (hb hby at_26) (by decide) (by decide) ?_
      show Steps p.tables e below (s₁.setTop (mkF m 102 #[.val (.int p0), .val (.int p1), .val (.int i), .val (.int j), .val (.int k), .val (.int (0 : Int32))] [])) _
      refine XS.iloadN X0.here hx rfl (hb hby at_102) rfl ?_
      show Steps p.tables e below (s₁.setTop (mkF m 103 #[.val (.int p0), .val (.int p1), .val (.int i), .val (.int j), .val (.int k), .val (.int (0 : Int32))] [(.int i)])) _
      refine st5 _ ?_
      show Steps p.tables e below (T5.setTop (mkF m 106 #[.val (.int p0), .val (.int p1), .val (.int i), .val (.int j), .val (.int k), .val (.int (0 : Int32))] [(.ref (own_st i w_CLIENT_DELETE_PROHIBITED w_CLIENT_HOLD w_CLIENT_RENEW_PROHIBITED w_CLIENT_TRANSFER_PROHIBITED w_CLIENT_UPDATE_PROHIBITED w_SERVER_DELETE_PROHIBITED w_SERVER_HOLD w_SERVER_RENEW_PROHIBITED w_SERVER_TRANSFER_PROHIBITED w_SERVER_UPDATE_PROHIBITED))])) _
      refine XS.iloadN X5.here hx rfl (hb hby at_106) rfl ?_
      show Steps p.tables e below (T5.setTop (mkF m 107 #[.val (.int p0), .val (.int p1), .val (.int i), .val (.int j), .val (.int k), .val (.int (0 : Int32))] [(.int j), (.ref (own_st i w_CLIENT_DELETE_PROHIBITED w_CLIENT_HOLD w_CLIENT_RENEW_PROHIBITED w_CLIENT_TRANSFER_PROHIBITED w_CLIENT_UPDATE_PROHIBITED w_SERVER_DELETE_PROHIBITED w_SERVER_HOLD w_SERVER_RENEW_PROHIBITED w_SERVER_TRANSFER_PROHIBITED w_SERVER_UPDATE_PROHIBITED))])) _
      refine st6 _ ?_
      show Steps p.tables e below (T6.setTop (mkF m 110 #[.val (.int p0), .val (.int p1), .val (.int i), .val (.int j), .val (.int k), .val (.int (0 : Int32))] [(.ref (own_cmd j w_DELETE w_RENEW w_TRANSFER w_UPDATE)), (.ref (own_st i w_CLIENT_DELETE_PROHIBITED w_CLIENT_HOLD w_CLIENT_RENEW_PROHIBITED w_CLIENT_TRANSFER_PROHIBITED w_CLIENT_UPDATE_PROHIBITED w_SERVER_DELETE_PROHIBITED w_SERVER_HOLD w_SERVER_RENEW_PROHIBITED w_SERVER_TRANSFER_PROHIBITED w_SERVER_UPDATE_PROHIBITED))])) _
      refine st7.trans ?_
      show Steps p.tables e below (T7.setTop (mkF m 113 #[.val (.int p0), .val (.int p1), .val (.int i), .val (.int j), .val (.int k), .val (.int (0 : Int32))] [(.int (own_pro (own_pvi i w_DELETE w_RENEW w_TRANSFER w_UPDATE) (own_cmd j w_DELETE w_RENEW w_TRANSFER w_UPDATE)))])) _
      refine XS.iload X7.here hx rfl (hb hby at_113) rfl ?_
      show Steps p.tables e below (T7.setTop (mkF m 115 #[.val (.int p0), .val (.int p1), .val (.int i), .val (.int j), .val (.int k), .val (.int (0 : Int32))] [(.int (0 : Int32)), (.int (own_pro (own_pvi i w_DELETE w_RENEW w_TRANSFER w_UPDATE) (own_cmd j w_DELETE w_RENEW w_TRANSFER w_UPDATE)))])) _
      refine XS.icmpNo X7.here hx rfl (hb hby at_115) rfl (teq hc115).2 ?_
      show Steps p.tables e below (T7.setTop (mkF m 118 #[.val (.int p0), .val (.int p1), .val (.int i), .val (.int j), .val (.int k), .val (.int (0 : Int32))] [])) _
      refine XS.iconst X7.here hx rfl (hb hby at_118) ?_
      show Steps p.tables e below (T7.setTop (mkF m 119 #[.val (.int p0), .val (.int p1), .val (.int i), .val (.int j), .val (.int k), .val (.int (0 : Int32))] [(.int (1 : Int32))])) _
      refine XS.goto X7.here hx rfl (pc0 := 119) (pc' := 123) rfl (hb hby at_119) (by decide) (by decide) ?_
      show Steps p.tables e below (T7.setTop (mkF m 123 #[.val (.int p0), .val (.int p1), .val (.int i), .val (.int j), .val (.int k), .val (.int (0 : Int32))] [(.int (1 : Int32))])) _
      exact retN X7 hx (t := .boolean) Bd.returns (by simp) (hb hby at_123) hr
    ·
      show Q_rm0 Z p0 p1 w_CLIENT_DELETE_PROHIBITED w_CLIENT_HOLD w_CLIENT_RENEW_PROHIBITED w_CLIENT_TRANSFER_PROHIBITED w_CLIENT_UPDATE_PROHIBITED w_SERVER_DELETE_PROHIBITED w_SERVER_HOLD w_SERVER_RENEW_PROHIBITED w_SERVER_TRANSFER_PROHIBITED w_SERVER_UPDATE_PROHIBITED w_DELETE w_RENEW w_TRANSFER w_UPDATE h0 n0 _ T7.heap _
      rw [e7]
      exact ⟨rfl, N7⟩
  ·
    have K8 : ∀ t, Steps p.tables e below (s₁.setTop (mkF m 31 #[.val (.int p0), .val (.int p1), .val (.int i), .val (.int j), .val (.int k), .unset] [(.int k)])) t → Steps p.tables e below (s₁.setTop (entryFrame m #[(.int p0), (.int p1)] maxLocals)) t := by
      intro t kt
      refine K4 t ?_
      show Steps p.tables e below (s₁.setTop (mkF m 20 #[.val (.int p0), .val (.int p1), .val (.int i), .val (.int j), .val (.int k), .unset] [(.int (1 : Int32)), (.int k)])) _
      refine XS.icmpYes X0.here hx rfl (pc0 := 20) (pc' := 29) rfl (hb hby at_20) rfl (feq hc20).2 (by decide) (by decide) ?_
      show Steps p.tables e below (s₁.setTop (mkF m 29 #[.val (.int p0), .val (.int p1), .val (.int i), .val (.int j), .val (.int k), .unset] [])) _
      refine XS.iload X0.here hx rfl (hb hby at_29) rfl ?_
      exact kt
    by_cases hc31 : k = (0 : Int32)
    ·
      have K9 : ∀ t, Steps p.tables e below (s₁.setTop (mkF m 35 #[.val (.int p0), .val (.int p1), .val (.int i), .val (.int j), .val (.int k), .unset] [(.int j)])) t → Steps p.tables e below (s₁.setTop (entryFrame m #[(.int p0), (.int p1)] maxLocals)) t := by
        intro t kt
        refine K8 t ?_
        show Steps p.tables e below (s₁.setTop (mkF m 31 #[.val (.int p0), .val (.int p1), .val (.int i), .val (.int j), .val (.int k), .unset] [(.int k)])) _
        refine XS.ifNo X0.here hx rfl (hb hby at_31) rfl ((if0 _ _).trans (teq hc31).2) ?_
        show Steps p.tables e below (s₁.setTop (mkF m 34 #[.val (.int p0), .val (.int p1), .val (.int i), .val (.int j), .val (.int k), .unset] [])) _
        refine XS.iloadN X0.here hx rfl (hb hby at_34) rfl ?_
        exact kt
      by_cases hc35 : j = (0 : Int32)
      ·
        obtain ⟨_, _, ⟨T10, L10, k10, n10⟩, -, X10, ⟨Lc10, hQ10, l10, y10, z10⟩, st10⟩ := Jvm.LawKit.callS X0 hx (y := (⟨"com/example/nameward/nameward/registry/StatusProhibitsPinLaw", "status", "(I)Lcom/example/nameward/nameward/registry/Status;"⟩ : MethodName)) hown (mvT hZ (hw _ (List.mem_of_getElem? (i := 1) rfl))) (mvT hZ (hw _ (List.mem_of_getElem? (i := 2) rfl))) (mvT hZ (hw _ (List.mem_of_getElem? (i := 3) rfl))) (mvT hZ (hw _ (List.mem_of_getElem? (i := 4) rfl))) (by decide) (backOf (W := 0) (rm1 l Z a0 hw [] i w_CLIENT_DELETE_PROHIBITED w_CLIENT_HOLD w_CLIENT_RENEW_PROHIBITED w_CLIENT_TRANSFER_PROHIBITED w_CLIENT_UPDATE_PROHIBITED w_SERVER_DELETE_PROHIBITED w_SERVER_HOLD w_SERVER_RENEW_PROHIBITED w_SERVER_TRANSFER_PROHIBITED w_SERVER_UPDATE_PROHIBITED h0 n0 Zn S_CLIENT_DELETE_PROHIBITED S_CLIENT_HOLD S_CLIENT_RENEW_PROHIBITED S_CLIENT_TRANSFER_PROHIBITED S_CLIENT_UPDATE_PROHIBITED S_SERVER_DELETE_PROHIBITED S_SERVER_HOLD S_SERVER_RENEW_PROHIBITED S_SERVER_TRANSFER_PROHIBITED S_SERVER_UPDATE_PROHIBITED) hZ (hw _ (List.mem_of_getElem? (i := 4) rfl)) (hw _ (List.mem_of_getElem? (i := 3) rfl)) (by decide) (by decide)) (g := (mkF m 103 #[.val (.int p0), .val (.int p1), .val (.int i), .val (.int j), .val (.int k), .val (.int (1 : Int32))] [(.int i)])) rfl (by rw [hml]; rfl) (argsL := [(.int i)]) (rest := []) (lenOf pd_2 rfl) rfl (by show 2 * 0 + _ ≤ _; exact Nat.le_of_eq rfl) (hb hby at_103) (fun _ _ => ⟨rfl, e0, (by decide : 0 + 0 ≤ _), (by decide : 0 + 0 ≤ _)⟩)
        dsimp only [Pt.U, Pt.locs, Pt.cells, Pt.slots] at X10 l10 y10 z10 st10 hQ10
        subst l10 y10 z10
        obtain ⟨rfl, N10q, e10q⟩ := hQ10
        have N10 := Fr.app N0 N10q
        have e10 : T10.heap = h0 := e10q
        obtain ⟨_, _, ⟨T11, L11, k11, n11⟩, -, X11, ⟨Lc11, hQ11, l11, y11, z11⟩, st11⟩ := Jvm.LawKit.callS X10 hx (y := (⟨"com/example/nameward/nameward/registry/StatusProhibitsPinLaw", "command", "(I)Lcom/example/nameward/nameward/registry/Status$Command;"⟩ : MethodName)) hown (mvT hZ (hw _ (List.mem_of_getElem? (i := 8) rfl))) (mvT hZ (hw _ (List.mem_of_getElem? (i := 9) rfl))) (mvT hZ (hw _ (List.mem_of_getElem? (i := 3) rfl))) (mvT hZ (hw _ (List.mem_of_getElem? (i := 10) rfl))) (by decide) (backOf (W := 1) (rm2 l Z a0 hw [] j w_DELETE w_RENEW w_TRANSFER w_UPDATE h0 n0 Zn S_DELETE S_RENEW S_TRANSFER S_UPDATE) hZ (hw _ (List.mem_of_getElem? (i := 10) rfl)) (hw _ (List.mem_of_getElem? (i := 3) rfl)) (by decide) (by decide)) (g := (mkF m 107 #[.val (.int p0), .val (.int p1), .val (.int i), .val (.int j), .val (.int k), .val (.int (1 : Int32))] [(.int j), (.ref (own_st i w_CLIENT_DELETE_PROHIBITED w_CLIENT_HOLD w_CLIENT_RENEW_PROHIBITED w_CLIENT_TRANSFER_PROHIBITED w_CLIENT_UPDATE_PROHIBITED w_SERVER_DELETE_PROHIBITED w_SERVER_HOLD w_SERVER_RENEW_PROHIBITED w_SERVER_TRANSFER_PROHIBITED w_SERVER_UPDATE_PROHIBITED))])) rfl (by rw [hml]; rfl) (argsL := [(.int j)]) (rest := [(.ref (own_st i w_CLIENT_DELETE_PROHIBITED w_CLIENT_HOLD w_CLIENT_RENEW_PROHIBITED w_CLIENT_TRANSFER_PROHIBITED w_CLIENT_UPDATE_PROHIBITED w_SERVER_DELETE_PROHIBITED w_SERVER_HOLD w_SERVER_RENEW_PROHIBITED w_SERVER_TRANSFER_PROHIBITED w_SERVER_UPDATE_PROHIBITED))]) (lenOf pd_3 rfl) rfl (by show 2 * 0 + _ ≤ _; exact Nat.le_of_eq rfl) (hb hby at_107) (fun _ _ => ⟨rfl, e10, (by decide : 0 + 0 ≤ _), (by decide : 0 + 0 ≤ _)⟩)
        dsimp only [Pt.U, Pt.locs, Pt.cells, Pt.slots] at X11 l11 y11 z11 st11 hQ11
        subst l11 y11 z11
        obtain ⟨rfl, N11q, e11q⟩ := hQ11
        have N11 := Fr.app N10 N11q
        have e11 : T11.heap = h0 := e11q
        obtain ⟨cq12, kq12, q12a, q12b, q12c⟩ := isOf hZ e11 (show Exa Z h0 (own_st i w_CLIENT_DELETE_PROHIBITED w_CLIENT_HOLD w_CLIENT_RENEW_PROHIBITED w_CLIENT_TRANSFER_PROHIBITED w_CLIENT_UPDATE_PROHIBITED w_SERVER_DELETE_PROHIBITED w_SERVER_HOLD w_SERVER_RENEW_PROHIBITED w_SERVER_TRANSFER_PROHIBITED w_SERVER_UPDATE_PROHIBITED) "com/example/nameward/nameward/registry/Status" by unfold own_st; repeat' (split <;> try assumption))
        obtain ⟨_, _, ⟨T12, L12, k12, n12⟩, -, X12, ⟨Lc12, hQ12, l12, y12, z12⟩, st12⟩ := X11.virtualBack hx (y := (⟨"com/example/nameward/nameward/registry/Status", "prohibits", "(Lcom/example/nameward/nameward/registry/Status$Command;)Z"⟩ : MethodName)) (z := (⟨"com/example/nameward/nameward/registry/Status", "prohibits", "(Lcom/example/nameward/nameward/registry/Status$Command;)Z"⟩ : MethodName)) hown (mvT hZ (hw _ (List.mem_of_getElem? (i := 14) rfl))) (mvT hZ (hw _ (List.mem_of_getElem? (i := 15) rfl))) (notFace_of_selects (args := #[]) (mvT hZ (hw _ (List.mem_of_getElem? (i := 17) rfl)))) (mvT hZ (hw _ (List.mem_of_getElem? (i := 17) rfl))) (mvT hZ (hw _ (List.mem_of_getElem? (i := 16) rfl))) (by decide) (backOf (W := 0) (rm3 l Z a0 hw [] (own_st i w_CLIENT_DELETE_PROHIBITED w_CLIENT_HOLD w_CLIENT_RENEW_PROHIBITED w_CLIENT_TRANSFER_PROHIBITED w_CLIENT_UPDATE_PROHIBITED w_SERVER_DELETE_PROHIBITED w_SERVER_HOLD w_SERVER_RENEW_PROHIBITED w_SERVER_TRANSFER_PROHIBITED w_SERVER_UPDATE_PROHIBITED) (own_cmd j w_DELETE w_RENEW w_TRANSFER w_UPDATE) (own_pvi i w_DELETE w_RENEW w_TRANSFER w_UPDATE) h0 n0 Zn (FX i hi) (own_isref i w_DELETE w_RENEW w_TRANSFER w_UPDATE)) hZ (hw _ (List.mem_of_getElem? (i := 18) rfl)) (hw _ (List.mem_of_getElem? (i := 6) rfl)) (by decide) (by decide)) q12a q12c (g := (mkF m 110 #[.val (.int p0), .val (.int p1), .val (.int i), .val (.int j), .val (.int k), .val (.int (1 : Int32))] [(.ref (own_cmd j w_DELETE w_RENEW w_TRANSFER w_UPDATE)), (.ref (own_st i w_CLIENT_DELETE_PROHIBITED w_CLIENT_HOLD w_CLIENT_RENEW_PROHIBITED w_CLIENT_TRANSFER_PROHIBITED w_CLIENT_UPDATE_PROHIBITED w_SERVER_DELETE_PROHIBITED w_SERVER_HOLD w_SERVER_RENEW_PROHIBITED w_SERVER_TRANSFER_PROHIBITED w_SERVER_UPDATE_PROHIBITED))])) rfl (by rw [hml]; rfl) (Steps.refl _) (argsL := [(.ref (own_cmd j w_DELETE w_RENEW w_TRANSFER w_UPDATE))]) (rest := []) (lenOf pd_4 rfl) rfl (by show 2 * 0 + _ ≤ _; exact Nat.le_of_eq rfl) (hb hby at_110) (fun _ _ => ⟨rfl, e11, (by decide : 0 + 0 ≤ _), (by decide : 0 + 0 ≤ _)⟩)
        dsimp only [Pt.U, Pt.locs, Pt.cells, Pt.slots] at X12 l12 y12 z12 st12 hQ12
        subst l12 y12 z12
        obtain ⟨rfl, N12q, e12q⟩ := hQ12
        have N12 := Fr.app N11 N12q
        have e12 : T12.heap = h0 := e12q
        have hc115 : (own_pro (own_pvi i w_DELETE w_RENEW w_TRANSFER w_UPDATE) (own_cmd j w_DELETE w_RENEW w_TRANSFER w_UPDATE)) = (1 : Int32) := ((own_law o_DELETE o_RENEW o_TRANSFER o_UPDATE i j k hi hj hg_k).trans (by rw [if_neg hc20, if_pos hc31, if_pos hc35]))
        obtain ⟨fs, hr, hrun, hended, hW, hsame⟩ := X12.leave (v := some (.int (1 : Int32))) (fun h => by rw [Bd.returns] at h; cases h) hlk
        refine ⟨_, _, K9 _ ?_, hrun, hended, _, _, rfl, ?_, ⟨_, rfl⟩, hW, hsame.mono (by decide) (by decide)⟩
        ·
          show Steps p.tables e below (s₁.setTop (mkF m 35 #[.val (.int p0), .val (.int p1), .val (.int i), .val (.int j), .val (.int k), .unset] [(.int j)])) _
          refine XS.ifNo X0.here hx rfl (hb hby at_35) rfl ((if0 _ _).trans (teq hc35).2) ?_
          show Steps p.tables e below (s₁.setTop (mkF m 38 #[.val (.int p0), .val (.int p1), .val (.int i), .val (.int j), .val (.int k), .unset] [])) _
          refine XS.iconst X0.here hx rfl (hb hby at_38) ?_
          show Steps p.tables e below (s₁.setTop (mkF m 39 #[.val (.int p0), .val (.int p1), .val (.int i), .val (.int j), .val (.int k), .unset] [(.int (1 : Int32))])) _
          refine XS.goto X0.here hx rfl (pc0 := 39) (pc' := 43) rfl (hb hby at_39) (by decide) (by decide) ?_
          show Steps p.tables e below (s₁.setTop (mkF m 43 #[.val (.int p0), .val (.int p1), .val (.int i), .val (.int j), .val (.int k), .unset] [(.int (1 : Int32))])) _
          refine XS.istore X0.here hx rfl (hb hby at_43) rfl (l' := #[.val (.int p0), .val (.int p1), .val (.int i), .val (.int j), .val (.int k), .val (.int (1 : Int32))]) rfl ?_
          show Steps p.tables e below (s₁.setTop (mkF m 45 #[.val (.int p0), .val (.int p1), .val (.int i), .val (.int j), .val (.int k), .val (.int (1 : Int32))] [])) _
          refine XS.goto X0.here hx rfl (pc0 := 45) (pc' := 102) rfl (hb hby at_45) (by decide) (by decide) ?_
          show Steps p.tables e below (s₁.setTop (mkF m 102 #[.val (.int p0), .val (.int p1), .val (.int i), .val (.int j), .val (.int k), .val (.int (1 : Int32))] [])) _
          refine XS.iloadN X0.here hx rfl (hb hby at_102) rfl ?_
          show Steps p.tables e below (s₁.setTop (mkF m 103 #[.val (.int p0), .val (.int p1), .val (.int i), .val (.int j), .val (.int k), .val (.int (1 : Int32))] [(.int i)])) _
          refine st10 _ ?_
          show Steps p.tables e below (T10.setTop (mkF m 106 #[.val (.int p0), .val (.int p1), .val (.int i), .val (.int j), .val (.int k), .val (.int (1 : Int32))] [(.ref (own_st i w_CLIENT_DELETE_PROHIBITED w_CLIENT_HOLD w_CLIENT_RENEW_PROHIBITED w_CLIENT_TRANSFER_PROHIBITED w_CLIENT_UPDATE_PROHIBITED w_SERVER_DELETE_PROHIBITED w_SERVER_HOLD w_SERVER_RENEW_PROHIBITED w_SERVER_TRANSFER_PROHIBITED w_SERVER_UPDATE_PROHIBITED))])) _
          refine XS.iloadN X10.here hx rfl (hb hby at_106) rfl ?_
          show Steps p.tables e below (T10.setTop (mkF m 107 #[.val (.int p0), .val (.int p1), .val (.int i), .val (.int j), .val (.int k), .val (.int (1 : Int32))] [(.int j), (.ref (own_st i w_CLIENT_DELETE_PROHIBITED w_CLIENT_HOLD w_CLIENT_RENEW_PROHIBITED w_CLIENT_TRANSFER_PROHIBITED w_CLIENT_UPDATE_PROHIBITED w_SERVER_DELETE_PROHIBITED w_SERVER_HOLD w_SERVER_RENEW_PROHIBITED w_SERVER_TRANSFER_PROHIBITED w_SERVER_UPDATE_PROHIBITED))])) _
          refine st11 _ ?_
          show Steps p.tables e below (T11.setTop (mkF m 110 #[.val (.int p0), .val (.int p1), .val (.int i), .val (.int j), .val (.int k), .val (.int (1 : Int32))] [(.ref (own_cmd j w_DELETE w_RENEW w_TRANSFER w_UPDATE)), (.ref (own_st i w_CLIENT_DELETE_PROHIBITED w_CLIENT_HOLD w_CLIENT_RENEW_PROHIBITED w_CLIENT_TRANSFER_PROHIBITED w_CLIENT_UPDATE_PROHIBITED w_SERVER_DELETE_PROHIBITED w_SERVER_HOLD w_SERVER_RENEW_PROHIBITED w_SERVER_TRANSFER_PROHIBITED w_SERVER_UPDATE_PROHIBITED))])) _
          refine st12.trans ?_
          show Steps p.tables e below (T12.setTop (mkF m 113 #[.val (.int p0), .val (.int p1), .val (.int i), .val (.int j), .val (.int k), .val (.int (1 : Int32))] [(.int (own_pro (own_pvi i w_DELETE w_RENEW w_TRANSFER w_UPDATE) (own_cmd j w_DELETE w_RENEW w_TRANSFER w_UPDATE)))])) _
          refine XS.iload X12.here hx rfl (hb hby at_113) rfl ?_
          show Steps p.tables e below (T12.setTop (mkF m 115 #[.val (.int p0), .val (.int p1), .val (.int i), .val (.int j), .val (.int k), .val (.int (1 : Int32))] [(.int (1 : Int32)), (.int (own_pro (own_pvi i w_DELETE w_RENEW w_TRANSFER w_UPDATE) (own_cmd j w_DELETE w_RENEW w_TRANSFER w_UPDATE)))])) _
          refine XS.icmpNo X12.here hx rfl (hb hby at_115) rfl (teq hc115).2 ?_
          show Steps p.tables e below (T12.setTop (mkF m 118 #[.val (.int p0), .val (.int p1), .val (.int i), .val (.int j), .val (.int k), .val (.int (1 : Int32))] [])) _
          refine XS.iconst X12.here hx rfl (hb hby at_118) ?_
          show Steps p.tables e below (T12.setTop (mkF m 119 #[.val (.int p0), .val (.int p1), .val (.int i), .val (.int j), .val (.int k), .val (.int (1 : Int32))] [(.int (1 : Int32))])) _
          refine XS.goto X12.here hx rfl (pc0 := 119) (pc' := 123) rfl (hb hby at_119) (by decide) (by decide) ?_
          show Steps p.tables e below (T12.setTop (mkF m 123 #[.val (.int p0), .val (.int p1), .val (.int i), .val (.int j), .val (.int k), .val (.int (1 : Int32))] [(.int (1 : Int32))])) _
          exact retN X12 hx (t := .boolean) Bd.returns (by simp) (hb hby at_123) hr
        ·
          show Q_rm0 Z p0 p1 w_CLIENT_DELETE_PROHIBITED w_CLIENT_HOLD w_CLIENT_RENEW_PROHIBITED w_CLIENT_TRANSFER_PROHIBITED w_CLIENT_UPDATE_PROHIBITED w_SERVER_DELETE_PROHIBITED w_SERVER_HOLD w_SERVER_RENEW_PROHIBITED w_SERVER_TRANSFER_PROHIBITED w_SERVER_UPDATE_PROHIBITED w_DELETE w_RENEW w_TRANSFER w_UPDATE h0 n0 _ T12.heap _
          rw [e12]
          exact ⟨rfl, N12⟩
      ·
        obtain ⟨_, _, ⟨T13, L13, k13, n13⟩, -, X13, ⟨Lc13, hQ13, l13, y13, z13⟩, st13⟩ := Jvm.LawKit.callS X0 hx (y := (⟨"com/example/nameward/nameward/registry/StatusProhibitsPinLaw", "status", "(I)Lcom/example/nameward/nameward/registry/Status;"⟩ : MethodName)) hown (mvT hZ (hw _ (List.mem_of_getElem? (i := 1) rfl))) (mvT hZ (hw _ (List.mem_of_getElem? (i := 2) rfl))) (mvT hZ (hw _ (List.mem_of_getElem? (i := 3) rfl))) (mvT hZ (hw _ (List.mem_of_getElem? (i := 4) rfl))) (by decide) (backOf (W := 0) (rm1 l Z a0 hw [] i w_CLIENT_DELETE_PROHIBITED w_CLIENT_HOLD w_CLIENT_RENEW_PROHIBITED w_CLIENT_TRANSFER_PROHIBITED w_CLIENT_UPDATE_PROHIBITED w_SERVER_DELETE_PROHIBITED w_SERVER_HOLD w_SERVER_RENEW_PROHIBITED w_SERVER_TRANSFER_PROHIBITED w_SERVER_UPDATE_PROHIBITED h0 n0 Zn S_CLIENT_DELETE_PROHIBITED S_CLIENT_HOLD S_CLIENT_RENEW_PROHIBITED S_CLIENT_TRANSFER_PROHIBITED S_CLIENT_UPDATE_PROHIBITED S_SERVER_DELETE_PROHIBITED S_SERVER_HOLD S_SERVER_RENEW_PROHIBITED S_SERVER_TRANSFER_PROHIBITED S_SERVER_UPDATE_PROHIBITED) hZ (hw _ (List.mem_of_getElem? (i := 4) rfl)) (hw _ (List.mem_of_getElem? (i := 3) rfl)) (by decide) (by decide)) (g := (mkF m 103 #[.val (.int p0), .val (.int p1), .val (.int i), .val (.int j), .val (.int k), .val (.int (0 : Int32))] [(.int i)])) rfl (by rw [hml]; rfl) (argsL := [(.int i)]) (rest := []) (lenOf pd_2 rfl) rfl (by show 2 * 0 + _ ≤ _; exact Nat.le_of_eq rfl) (hb hby at_103) (fun _ _ => ⟨rfl, e0, (by decide : 0 + 0 ≤ _), (by decide : 0 + 0 ≤ _)⟩)
        dsimp only [Pt.U, Pt.locs, Pt.cells, Pt.slots] at X13 l13 y13 z13 st13 hQ13
        subst l13 y13 z13
        obtain ⟨rfl, N13q, e13q⟩ := hQ13
        have N13 := Fr.app N0 N13q
        have e13 : T13.heap = h0 := e13q
        obtain ⟨_, _, ⟨T14, L14, k14, n14⟩, -, X14, ⟨Lc14, hQ14, l14, y14, z14⟩, st14⟩ := Jvm.LawKit.callS X13 hx (y := (⟨"com/example/nameward/nameward/registry/StatusProhibitsPinLaw", "command", "(I)Lcom/example/nameward/nameward/registry/Status$Command;"⟩ : MethodName)) hown (mvT hZ (hw _ (List.mem_of_getElem? (i := 8) rfl))) (mvT hZ (hw _ (List.mem_of_getElem? (i := 9) rfl))) (mvT hZ (hw _ (List.mem_of_getElem? (i := 3) rfl))) (mvT hZ (hw _ (List.mem_of_getElem? (i := 10) rfl))) (by decide) (backOf (W := 1) (rm2 l Z a0 hw [] j w_DELETE w_RENEW w_TRANSFER w_UPDATE h0 n0 Zn S_DELETE S_RENEW S_TRANSFER S_UPDATE) hZ (hw _ (List.mem_of_getElem? (i := 10) rfl)) (hw _ (List.mem_of_getElem? (i := 3) rfl)) (by decide) (by decide)) (g := (mkF m 107 #[.val (.int p0), .val (.int p1), .val (.int i), .val (.int j), .val (.int k), .val (.int (0 : Int32))] [(.int j), (.ref (own_st i w_CLIENT_DELETE_PROHIBITED w_CLIENT_HOLD w_CLIENT_RENEW_PROHIBITED w_CLIENT_TRANSFER_PROHIBITED w_CLIENT_UPDATE_PROHIBITED w_SERVER_DELETE_PROHIBITED w_SERVER_HOLD w_SERVER_RENEW_PROHIBITED w_SERVER_TRANSFER_PROHIBITED w_SERVER_UPDATE_PROHIBITED))])) rfl (by rw [hml]; rfl) (argsL := [(.int j)]) (rest := [(.ref (own_st i w_CLIENT_DELETE_PROHIBITED w_CLIENT_HOLD w_CLIENT_RENEW_PROHIBITED w_CLIENT_TRANSFER_PROHIBITED w_CLIENT_UPDATE_PROHIBITED w_SERVER_DELETE_PROHIBITED w_SERVER_HOLD w_SERVER_RENEW_PROHIBITED w_SERVER_TRANSFER_PROHIBITED w_SERVER_UPDATE_PROHIBITED))]) (lenOf pd_3 rfl) rfl (by show 2 * 0 + _ ≤ _; exact Nat.le_of_eq rfl) (hb hby at_107) (fun _ _ => ⟨rfl, e13, (by decide : 0 + 0 ≤ _), (by decide : 0 + 0 ≤ _)⟩)
        dsimp only [Pt.U, Pt.locs, Pt.cells, Pt.slots] at X14 l14 y14 z14 st14 hQ14
        subst l14 y14 z14
        obtain ⟨rfl, N14q, e14q⟩ := hQ14
        have N14 := Fr.app N13 N14q
        have e14 : T14.heap = h0 := e14q
        obtain ⟨cq15, kq15, q15a, q15b, q15c⟩ := isOf hZ e14 (show Exa Z h0 (own_st i w_CLIENT_DELETE_PROHIBITED w_CLIENT_HOLD w_CLIENT_RENEW_PROHIBITED w_CLIENT_TRANSFER_PROHIBITED w_CLIENT_UPDATE_PROHIBITED w_SERVER_DELETE_PROHIBITED w_SERVER_HOLD w_SERVER_RENEW_PROHIBITED w_SERVER_TRANSFER_PROHIBITED w_SERVER_UPDATE_PROHIBITED) "com/example/nameward/nameward/registry/Status" by unfold own_st; repeat' (split <;> try assumption))
        obtain ⟨_, _, ⟨T15, L15, k15, n15⟩, -, X15, ⟨Lc15, hQ15, l15, y15, z15⟩, st15⟩ := X14.virtualBack hx (y := (⟨"com/example/nameward/nameward/registry/Status", "prohibits", "(Lcom/example/nameward/nameward/registry/Status$Command;)Z"⟩ : MethodName)) (z := (⟨"com/example/nameward/nameward/registry/Status", "prohibits", "(Lcom/example/nameward/nameward/registry/Status$Command;)Z"⟩ : MethodName)) hown (mvT hZ (hw _ (List.mem_of_getElem? (i := 14) rfl))) (mvT hZ (hw _ (List.mem_of_getElem? (i := 15) rfl))) (notFace_of_selects (args := #[]) (mvT hZ (hw _ (List.mem_of_getElem? (i := 17) rfl)))) (mvT hZ (hw _ (List.mem_of_getElem? (i := 17) rfl))) (mvT hZ (hw _ (List.mem_of_getElem? (i := 16) rfl))) (by decide) (backOf (W := 0) (rm3 l Z a0 hw [] (own_st i w_CLIENT_DELETE_PROHIBITED w_CLIENT_HOLD w_CLIENT_RENEW_PROHIBITED w_CLIENT_TRANSFER_PROHIBITED w_CLIENT_UPDATE_PROHIBITED w_SERVER_DELETE_PROHIBITED w_SERVER_HOLD w_SERVER_RENEW_PROHIBITED w_SERVER_TRANSFER_PROHIBITED w_SERVER_UPDATE_PROHIBITED) (own_cmd j w_DELETE w_RENEW w_TRANSFER w_UPDATE) (own_pvi i w_DELETE w_RENEW w_TRANSFER w_UPDATE) h0 n0 Zn (FX i hi) (own_isref i w_DELETE w_RENEW w_TRANSFER w_UPDATE)) hZ (hw _ (List.mem_of_getElem? (i := 18) rfl)) (hw _ (List.mem_of_getElem? (i := 6) rfl)) (by decide) (by decide)) q15a q15c (g := (mkF m 110 #[.val (.int p0), .val (.int p1), .val (.int i), .val (.int j), .val (.int k), .val (.int (0 : Int32))] [(.ref (own_cmd j w_DELETE w_RENEW w_TRANSFER w_UPDATE)), (.ref (own_st i w_CLIENT_DELETE_PROHIBITED w_CLIENT_HOLD w_CLIENT_RENEW_PROHIBITED w_CLIENT_TRANSFER_PROHIBITED w_CLIENT_UPDATE_PROHIBITED w_SERVER_DELETE_PROHIBITED w_SERVER_HOLD w_SERVER_RENEW_PROHIBITED w_SERVER_TRANSFER_PROHIBITED w_SERVER_UPDATE_PROHIBITED))])) rfl (by rw [hml]; rfl) (Steps.refl _) (argsL := [(.ref (own_cmd j w_DELETE w_RENEW w_TRANSFER w_UPDATE))]) (rest := []) (lenOf pd_4 rfl) rfl (by show 2 * 0 + _ ≤ _; exact Nat.le_of_eq rfl) (hb hby at_110) (fun _ _ => ⟨rfl, e14, (by decide : 0 + 0 ≤ _), (by decide : 0 + 0 ≤ _)⟩)
        dsimp only [Pt.U, Pt.locs, Pt.cells, Pt.slots] at X15 l15 y15 z15 st15 hQ15
        subst l15 y15 z15
        obtain ⟨rfl, N15q, e15q⟩ := hQ15
        have N15 := Fr.app N14 N15q
        have e15 : T15.heap = h0 := e15q
        have hc115 : (own_pro (own_pvi i w_DELETE w_RENEW w_TRANSFER w_UPDATE) (own_cmd j w_DELETE w_RENEW w_TRANSFER w_UPDATE)) = (0 : Int32) := ((own_law o_DELETE o_RENEW o_TRANSFER o_UPDATE i j k hi hj hg_k).trans (by rw [if_neg hc20, if_pos hc31, if_neg hc35]))
        obtain ⟨fs, hr, hrun, hended, hW, hsame⟩ := X15.leave (v := some (.int (1 : Int32))) (fun h => by rw [Bd.returns] at h; cases h) hlk
        refine ⟨_, _, K9 _ ?_, hrun, hended, _, _, rfl, ?_, ⟨_, rfl⟩, hW, hsame.mono (by decide) (by decide)⟩
        ·
          show Steps p.tables e below (s₁.setTop (mkF m 35 #[.val (.int p0), .val (.int p1), .val (.int i), .val (.int j), .val (.int k), .unset] [(.int j)])) _
          refine XS.ifYes X0.here hx rfl (pc0 := 35) (pc' := 42) rfl (hb hby at_35) rfl ((if0 _ _).trans (feq hc35).2) (by decide) (by decide) ?_
          show Steps p.tables e below (s₁.setTop (mkF m 42 #[.val (.int p0), .val (.int p1), .val (.int i), .val (.int j), .val (.int k), .unset] [])) _
          refine XS.iconst X0.here hx rfl (hb hby at_42) ?_
          show Steps p.tables e below (s₁.setTop (mkF m 43 #[.val (.int p0), .val (.int p1), .val (.int i), .val (.int j), .val (.int k), .unset] [(.int (0 : Int32))])) _
          refine XS.istore X0.here hx rfl (hb hby at_43) rfl (l' := #[.val (.int p0), .val (.int p1), .val (.int i), .val (.int j), .val (.int k), .val (.int (0 : Int32))]) rfl ?_
          show Steps p.tables e below (s₁.setTop (mkF m 45 #[.val (.int p0), .val (.int p1), .val (.int i), .val (.int j), .val (.int k), .val (.int (0 : Int32))] [])) _
          refine XS.goto X0.here hx rfl (pc0 := 45) (pc' := 102) rfl (hb hby at_45) (by decide) (by decide) ?_
          show Steps p.tables e below (s₁.setTop (mkF m 102 #[.val (.int p0), .val (.int p1), .val (.int i), .val (.int j), .val (.int k), .val (.int (0 : Int32))] [])) _
          refine XS.iloadN X0.here hx rfl (hb hby at_102) rfl ?_
          show Steps p.tables e below (s₁.setTop (mkF m 103 #[.val (.int p0), .val (.int p1), .val (.int i), .val (.int j), .val (.int k), .val (.int (0 : Int32))] [(.int i)])) _
          refine st13 _ ?_
          show Steps p.tables e below (T13.setTop (mkF m 106 #[.val (.int p0), .val (.int p1), .val (.int i), .val (.int j), .val (.int k), .val (.int (0 : Int32))] [(.ref (own_st i w_CLIENT_DELETE_PROHIBITED w_CLIENT_HOLD w_CLIENT_RENEW_PROHIBITED w_CLIENT_TRANSFER_PROHIBITED w_CLIENT_UPDATE_PROHIBITED w_SERVER_DELETE_PROHIBITED w_SERVER_HOLD w_SERVER_RENEW_PROHIBITED w_SERVER_TRANSFER_PROHIBITED w_SERVER_UPDATE_PROHIBITED))])) _
          refine XS.iloadN X13.here hx rfl (hb hby at_106) rfl ?_
          show Steps p.tables e below (T13.setTop (mkF m 107 #[.val (.int p0), .val (.int p1), .val (.int i), .val (.int j), .val (.int k), .val (.int (0 : Int32))] [(.int j), (.ref (own_st i w_CLIENT_DELETE_PROHIBITED w_CLIENT_HOLD w_CLIENT_RENEW_PROHIBITED w_CLIENT_TRANSFER_PROHIBITED w_CLIENT_UPDATE_PROHIBITED w_SERVER_DELETE_PROHIBITED w_SERVER_HOLD w_SERVER_RENEW_PROHIBITED w_SERVER_TRANSFER_PROHIBITED w_SERVER_UPDATE_PROHIBITED))])) _
          refine st14 _ ?_
          show Steps p.tables e below (T14.setTop (mkF m 110 #[.val (.int p0), .val (.int p1), .val (.int i), .val (.int j), .val (.int k), .val (.int (0 : Int32))] [(.ref (own_cmd j w_DELETE w_RENEW w_TRANSFER w_UPDATE)), (.ref (own_st i w_CLIENT_DELETE_PROHIBITED w_CLIENT_HOLD w_CLIENT_RENEW_PROHIBITED w_CLIENT_TRANSFER_PROHIBITED w_CLIENT_UPDATE_PROHIBITED w_SERVER_DELETE_PROHIBITED w_SERVER_HOLD w_SERVER_RENEW_PROHIBITED w_SERVER_TRANSFER_PROHIBITED w_SERVER_UPDATE_PROHIBITED))])) _
          refine st15.trans ?_
          show Steps p.tables e below (T15.setTop (mkF m 113 #[.val (.int p0), .val (.int p1), .val (.int i), .val (.int j), .val (.int k), .val (.int (0 : Int32))] [(.int (own_pro (own_pvi i w_DELETE w_RENEW w_TRANSFER w_UPDATE) (own_cmd j w_DELETE w_RENEW w_TRANSFER w_UPDATE)))])) _
          refine XS.iload X15.here hx rfl (hb hby at_113) rfl ?_
          show Steps p.tables e below (T15.setTop (mkF m 115 #[.val (.int p0), .val (.int p1), .val (.int i), .val (.int j), .val (.int k), .val (.int (0 : Int32))] [(.int (0 : Int32)), (.int (own_pro (own_pvi i w_DELETE w_RENEW w_TRANSFER w_UPDATE) (own_cmd j w_DELETE w_RENEW w_TRANSFER w_UPDATE)))])) _
          refine XS.icmpNo X15.here hx rfl (hb hby at_115) rfl (teq hc115).2 ?_
          show Steps p.tables e below (T15.setTop (mkF m 118 #[.val (.int p0), .val (.int p1), .val (.int i), .val (.int j), .val (.int k), .val (.int (0 : Int32))] [])) _
          refine XS.iconst X15.here hx rfl (hb hby at_118) ?_
          show Steps p.tables e below (T15.setTop (mkF m 119 #[.val (.int p0), .val (.int p1), .val (.int i), .val (.int j), .val (.int k), .val (.int (0 : Int32))] [(.int (1 : Int32))])) _
          refine XS.goto X15.here hx rfl (pc0 := 119) (pc' := 123) rfl (hb hby at_119) (by decide) (by decide) ?_
          show Steps p.tables e below (T15.setTop (mkF m 123 #[.val (.int p0), .val (.int p1), .val (.int i), .val (.int j), .val (.int k), .val (.int (0 : Int32))] [(.int (1 : Int32))])) _
          exact retN X15 hx (t := .boolean) Bd.returns (by simp) (hb hby at_123) hr
        ·
          show Q_rm0 Z p0 p1 w_CLIENT_DELETE_PROHIBITED w_CLIENT_HOLD w_CLIENT_RENEW_PROHIBITED w_CLIENT_TRANSFER_PROHIBITED w_CLIENT_UPDATE_PROHIBITED w_SERVER_DELETE_PROHIBITED w_SERVER_HOLD w_SERVER_RENEW_PROHIBITED w_SERVER_TRANSFER_PROHIBITED w_SERVER_UPDATE_PROHIBITED w_DELETE w_RENEW w_TRANSFER w_UPDATE h0 n0 _ T15.heap _
          rw [e15]
          exact ⟨rfl, N15⟩
    ·
      have K16 : ∀ t, Steps p.tables e below (s₁.setTop (mkF m 51 #[.val (.int p0), .val (.int p1), .val (.int i), .val (.int j), .val (.int k), .unset] [(.int (2 : Int32)), (.int k)])) t → Steps p.tables e below (s₁.setTop (entryFrame m #[(.int p0), (.int p1)] maxLocals)) t := by
        intro t kt
        refine K8 t ?_
        show Steps p.tables e below (s₁.setTop (mkF m 31 #[.val (.int p0), .val (.int p1), .val (.int i), .val (.int j), .val (.int k), .unset] [(.int k)])) _
        refine XS.ifYes X0.here hx rfl (pc0 := 31) (pc' := 48) rfl (hb hby at_31) rfl ((if0 _ _).trans (feq hc31).2) (by decide) (by decide) ?_
        show Steps p.tables e below (s₁.setTop (mkF m 48 #[.val (.int p0), .val (.int p1), .val (.int i), .val (.int j), .val (.int k), .unset] [])) _
        refine XS.iload X0.here hx rfl (hb hby at_48) rfl ?_
        show Steps p.tables e below (s₁.setTop (mkF m 50 #[.val (.int p0), .val (.int p1), .val (.int i), .val (.int j), .val (.int k), .unset] [(.int k)])) _
        refine XS.iconst X0.here hx rfl (hb hby at_50) ?_
        exact kt
      by_cases hc51 : k = (2 : Int32)
      ·
        have K17 : ∀ t, Steps p.tables e below (s₁.setTop (mkF m 56 #[.val (.int p0), .val (.int p1), .val (.int i), .val (.int j), .val (.int k), .unset] [(.int (1 : Int32)), (.int j)])) t → Steps p.tables e below (s₁.setTop (entryFrame m #[(.int p0), (.int p1)] maxLocals)) t := by
          intro t kt
          refine K16 t ?_
          show Steps p.tables e below (s₁.setTop (mkF m 51 #[.val (.int p0), .val (.int p1), .val (.int i), .val (.int j), .val (.int k), .unset] [(.int (2 : Int32)), (.int k)])) _
          refine XS.icmpNo X0.here hx rfl (hb hby at_51) rfl (teq hc51).2 ?_
          show Steps p.tables e below (s₁.setTop (mkF m 54 #[.val (.int p0), .val (.int p1), .val (.int i), .val (.int j), .val (.int k), .unset] [])) _
          refine XS.iloadN X0.here hx rfl (hb hby at_54) rfl ?_
          show Steps p.tables e below (s₁.setTop (mkF m 55 #[.val (.int p0), .val (.int p1), .val (.int i), .val (.int j), .val (.int k), .unset] [(.int j)])) _
          refine XS.iconst X0.here hx rfl (hb hby at_55) ?_
          exact kt
        by_cases hc56 : j = (1 : Int32)
        ·
          obtain ⟨_, _, ⟨T18, L18, k18, n18⟩, -, X18, ⟨Lc18, hQ18, l18, y18, z18⟩, st18⟩ := Jvm.LawKit.callS X0 hx (y := (⟨"com/example/nameward/nameward/registry/StatusProhibitsPinLaw", "status", "(I)Lcom/example/nameward/nameward/registry/Status;"⟩ : MethodName)) hown (mvT hZ (hw _ (List.mem_of_getElem? (i := 1) rfl))) (mvT hZ (hw _ (List.mem_of_getElem? (i := 2) rfl))) (mvT hZ (hw _ (List.mem_of_getElem? (i := 3) rfl))) (mvT hZ (hw _ (List.mem_of_getElem? (i := 4) rfl))) (by decide) (backOf (W := 0) (rm1 l Z a0 hw [] i w_CLIENT_DELETE_PROHIBITED w_CLIENT_HOLD w_CLIENT_RENEW_PROHIBITED w_CLIENT_TRANSFER_PROHIBITED w_CLIENT_UPDATE_PROHIBITED w_SERVER_DELETE_PROHIBITED w_SERVER_HOLD w_SERVER_RENEW_PROHIBITED w_SERVER_TRANSFER_PROHIBITED w_SERVER_UPDATE_PROHIBITED h0 n0 Zn S_CLIENT_DELETE_PROHIBITED S_CLIENT_HOLD S_CLIENT_RENEW_PROHIBITED S_CLIENT_TRANSFER_PROHIBITED S_CLIENT_UPDATE_PROHIBITED S_SERVER_DELETE_PROHIBITED S_SERVER_HOLD S_SERVER_RENEW_PROHIBITED S_SERVER_TRANSFER_PROHIBITED S_SERVER_UPDATE_PROHIBITED) hZ (hw _ (List.mem_of_getElem? (i := 4) rfl)) (hw _ (List.mem_of_getElem? (i := 3) rfl)) (by decide) (by decide)) (g := (mkF m 103 #[.val (.int p0), .val (.int p1), .val (.int i), .val (.int j), .val (.int k), .val (.int (1 : Int32))] [(.int i)])) rfl (by rw [hml]; rfl) (argsL := [(.int i)]) (rest := []) (lenOf pd_2 rfl) rfl (by show 2 * 0 + _ ≤ _; exact Nat.le_of_eq rfl) (hb hby at_103) (fun _ _ => ⟨rfl, e0, (by decide : 0 + 0 ≤ _), (by decide : 0 + 0 ≤ _)⟩)
          dsimp only [Pt.U, Pt.locs, Pt.cells, Pt.slots] at X18 l18 y18 z18 st18 hQ18
          subst l18 y18 z18
          obtain ⟨rfl, N18q, e18q⟩ := hQ18
          have N18 := Fr.app N0 N18q
          have e18 : T18.heap = h0 := e18q
          obtain ⟨_, _, ⟨T19, L19, k19, n19⟩, -, X19, ⟨Lc19, hQ19, l19, y19, z19⟩, st19⟩ := Jvm.LawKit.callS X18 hx (y := (⟨"com/example/nameward/nameward/registry/StatusProhibitsPinLaw", "command", "(I)Lcom/example/nameward/nameward/registry/Status$Command;"⟩ : MethodName)) hown (mvT hZ (hw _ (List.mem_of_getElem? (i := 8) rfl))) (mvT hZ (hw _ (List.mem_of_getElem? (i := 9) rfl))) (mvT hZ (hw _ (List.mem_of_getElem? (i := 3) rfl))) (mvT hZ (hw _ (List.mem_of_getElem? (i := 10) rfl))) (by decide) (backOf (W := 1) (rm2 l Z a0 hw [] j w_DELETE w_RENEW w_TRANSFER w_UPDATE h0 n0 Zn S_DELETE S_RENEW S_TRANSFER S_UPDATE) hZ (hw _ (List.mem_of_getElem? (i := 10) rfl)) (hw _ (List.mem_of_getElem? (i := 3) rfl)) (by decide) (by decide)) (g := (mkF m 107 #[.val (.int p0), .val (.int p1), .val (.int i), .val (.int j), .val (.int k), .val (.int (1 : Int32))] [(.int j), (.ref (own_st i w_CLIENT_DELETE_PROHIBITED w_CLIENT_HOLD w_CLIENT_RENEW_PROHIBITED w_CLIENT_TRANSFER_PROHIBITED w_CLIENT_UPDATE_PROHIBITED w_SERVER_DELETE_PROHIBITED w_SERVER_HOLD w_SERVER_RENEW_PROHIBITED w_SERVER_TRANSFER_PROHIBITED w_SERVER_UPDATE_PROHIBITED))])) rfl (by rw [hml]; rfl) (argsL := [(.int j)]) (rest := [(.ref (own_st i w_CLIENT_DELETE_PROHIBITED w_CLIENT_HOLD w_CLIENT_RENEW_PROHIBITED w_CLIENT_TRANSFER_PROHIBITED w_CLIENT_UPDATE_PROHIBITED w_SERVER_DELETE_PROHIBITED w_SERVER_HOLD w_SERVER_RENEW_PROHIBITED w_SERVER_TRANSFER_PROHIBITED w_SERVER_UPDATE_PROHIBITED))]) (lenOf pd_3 rfl) rfl (by show 2 * 0 + _ ≤ _; exact Nat.le_of_eq rfl) (hb hby at_107) (fun _ _ => ⟨rfl, e18, (by decide : 0 + 0 ≤ _), (by decide : 0 + 0 ≤ _)⟩)
          dsimp only [Pt.U, Pt.locs, Pt.cells, Pt.slots] at X19 l19 y19 z19 st19 hQ19
          subst l19 y19 z19
          obtain ⟨rfl, N19q, e19q⟩ := hQ19
          have N19 := Fr.app N18 N19q
          have e19 : T19.heap = h0 := e19q
          obtain ⟨cq20, kq20, q20a, q20b, q20c⟩ := isOf hZ e19 (show Exa Z h0 (own_st i w_CLIENT_DELETE_PROHIBITED w_CLIENT_HOLD w_CLIENT_RENEW_PROHIBITED w_CLIENT_TRANSFER_PROHIBITED w_CLIENT_UPDATE_PROHIBITED w_SERVER_DELETE_PROHIBITED w_SERVER_HOLD w_SERVER_RENEW_PROHIBITED w_SERVER_TRANSFER_PROHIBITED w_SERVER_UPDATE_PROHIBITED) "com/example/nameward/nameward/registry/Status" by unfold own_st; repeat' (split <;> try assumption))
          obtain ⟨_, _, ⟨T20, L20, k20, n20⟩, -, X20, ⟨Lc20, hQ20, l20, y20, z20⟩, st20⟩ := X19.virtualBack hx (y := (⟨"com/example/nameward/nameward/registry/Status", "prohibits", "(Lcom/example/nameward/nameward/registry/Status$Command;)Z"⟩ : MethodName)) (z := (⟨"com/example/nameward/nameward/registry/Status", "prohibits", "(Lcom/example/nameward/nameward/registry/Status$Command;)Z"⟩ : MethodName)) hown (mvT hZ (hw _ (List.mem_of_getElem? (i := 14) rfl))) (mvT hZ (hw _ (List.mem_of_getElem? (i := 15) rfl))) (notFace_of_selects (args := #[]) (mvT hZ (hw _ (List.mem_of_getElem? (i := 17) rfl)))) (mvT hZ (hw _ (List.mem_of_getElem? (i := 17) rfl))) (mvT hZ (hw _ (List.mem_of_getElem? (i := 16) rfl))) (by decide) (backOf (W := 0) (rm3 l Z a0 hw [] (own_st i w_CLIENT_DELETE_PROHIBITED w_CLIENT_HOLD w_CLIENT_RENEW_PROHIBITED w_CLIENT_TRANSFER_PROHIBITED w_CLIENT_UPDATE_PROHIBITED w_SERVER_DELETE_PROHIBITED w_SERVER_HOLD w_SERVER_RENEW_PROHIBITED w_SERVER_TRANSFER_PROHIBITED w_SERVER_UPDATE_PROHIBITED) (own_cmd j w_DELETE w_RENEW w_TRANSFER w_UPDATE) (own_pvi i w_DELETE w_RENEW w_TRANSFER w_UPDATE) h0 n0 Zn (FX i hi) (own_isref i w_DELETE w_RENEW w_TRANSFER w_UPDATE)) hZ (hw _ (List.mem_of_getElem? (i := 18) rfl)) (hw _ (List.mem_of_getElem? (i := 6) rfl)) (by decide) (by decide)) q20a q20c (g := (mkF m 110 #[.val (.int p0), .val (.int p1), .val (.int i), .val (.int j), .val (.int k), .val (.int (1 : Int32))] [(.ref (own_cmd j w_DELETE w_RENEW w_TRANSFER w_UPDATE)), (.ref (own_st i w_CLIENT_DELETE_PROHIBITED w_CLIENT_HOLD w_CLIENT_RENEW_PROHIBITED w_CLIENT_TRANSFER_PROHIBITED w_CLIENT_UPDATE_PROHIBITED w_SERVER_DELETE_PROHIBITED w_SERVER_HOLD w_SERVER_RENEW_PROHIBITED w_SERVER_TRANSFER_PROHIBITED w_SERVER_UPDATE_PROHIBITED))])) rfl (by rw [hml]; rfl) (Steps.refl _) (argsL := [(.ref (own_cmd j w_DELETE w_RENEW w_TRANSFER w_UPDATE))]) (rest := []) (lenOf pd_4 rfl) rfl (by show 2 * 0 + _ ≤ _; exact Nat.le_of_eq rfl) (hb hby at_110) (fun _ _ => ⟨rfl, e19, (by decide : 0 + 0 ≤ _), (by decide : 0 + 0 ≤ _)⟩)
          dsimp only [Pt.U, Pt.locs, Pt.cells, Pt.slots] at X20 l20 y20 z20 st20 hQ20
          subst l20 y20 z20
          obtain ⟨rfl, N20q, e20q⟩ := hQ20
          have N20 := Fr.app N19 N20q
          have e20 : T20.heap = h0 := e20q
          have hc115 : (own_pro (own_pvi i w_DELETE w_RENEW w_TRANSFER w_UPDATE) (own_cmd j w_DELETE w_RENEW w_TRANSFER w_UPDATE)) = (1 : Int32) := ((own_law o_DELETE o_RENEW o_TRANSFER o_UPDATE i j k hi hj hg_k).trans (by rw [if_neg hc20, if_neg hc31, if_pos hc51, if_pos hc56]))
          obtain ⟨fs, hr, hrun, hended, hW, hsame⟩ := X20.leave (v := some (.int (1 : Int32))) (fun h => by rw [Bd.returns] at h; cases h) hlk
          refine ⟨_, _, K17 _ ?_, hrun, hended, _, _, rfl, ?_, ⟨_, rfl⟩, hW, hsame.mono (by decide) (by decide)⟩
          ·
            show Steps p.tables e below (s₁.setTop (mkF m 56 #[.val (.int p0), .val (.int p1), .val (.int i), .val (.int j), .val (.int k), .unset] [(.int (1 : Int32)), (.int j)])) _
            refine XS.icmpNo X0.here hx rfl (hb hby at_56) rfl (teq hc56).2 ?_
            show Steps p.tables e below (s₁.setTop (mkF m 59 #[.val (.int p0), .val (.int p1), .val (.int i), .val (.int j), .val (.int k), .unset] [])) _
            refine XS.iconst X0.here hx rfl (hb hby at_59) ?_
            show Steps p.tables e below (s₁.setTop (mkF m 60 #[.val (.int p0), .val (.int p1), .val (.int i), .val (.int j), .val (.int k), .unset] [(.int (1 : Int32))])) _
            refine XS.goto X0.here hx rfl (pc0 := 60) (pc' := 64) rfl (hb hby at_60) (by decide) (by decide) ?_
            show Steps p.tables e below (s₁.setTop (mkF m 64 #[.val (.int p0), .val (.int p1), .val (.int i), .val (.int j), .val (.int k), .unset] [(.int (1 : Int32))])) _
            refine XS.istore X0.here hx rfl (hb hby at_64) rfl (l' := #[.val (.int p0), .val (.int p1), .val (.int i), .val (.int j), .val (.int k), .val (.int (1 : Int32))]) rfl ?_
            show Steps p.tables e below (s₁.setTop (mkF m 66 #[.val (.int p0), .val (.int p1), .val (.int i), .val (.int j), .val (.int k), .val (.int (1 : Int32))] [])) _
            refine XS.goto X0.here hx rfl (pc0 := 66) (pc' := 102) rfl (hb hby at_66) (by decide) (by decide) ?_
            show Steps p.tables e below (s₁.setTop (mkF m 102 #[.val (.int p0), .val (.int p1), .val (.int i), .val (.int j), .val (.int k), .val (.int (1 : Int32))] [])) _
            refine XS.iloadN X0.here hx rfl (hb hby at_102) rfl ?_
            show Steps p.tables e below (s₁.setTop (mkF m 103 #[.val (.int p0), .val (.int p1), .val (.int i), .val (.int j), .val (.int k), .val (.int (1 : Int32))] [(.int i)])) _
            refine st18 _ ?_
            show Steps p.tables e below (T18.setTop (mkF m 106 #[.val (.int p0), .val (.int p1), .val (.int i), .val (.int j), .val (.int k), .val (.int (1 : Int32))] [(.ref (own_st i w_CLIENT_DELETE_PROHIBITED w_CLIENT_HOLD w_CLIENT_RENEW_PROHIBITED w_CLIENT_TRANSFER_PROHIBITED w_CLIENT_UPDATE_PROHIBITED w_SERVER_DELETE_PROHIBITED w_SERVER_HOLD w_SERVER_RENEW_PROHIBITED w_SERVER_TRANSFER_PROHIBITED w_SERVER_UPDATE_PROHIBITED))])) _
            refine XS.iloadN X18.here hx rfl (hb hby at_106) rfl ?_
            show Steps p.tables e below (T18.setTop (mkF m 107 #[.val (.int p0), .val (.int p1), .val (.int i), .val (.int j), .val (.int k), .val (.int (1 : Int32))] [(.int j), (.ref (own_st i w_CLIENT_DELETE_PROHIBITED w_CLIENT_HOLD w_CLIENT_RENEW_PROHIBITED w_CLIENT_TRANSFER_PROHIBITED w_CLIENT_UPDATE_PROHIBITED w_SERVER_DELETE_PROHIBITED w_SERVER_HOLD w_SERVER_RENEW_PROHIBITED w_SERVER_TRANSFER_PROHIBITED w_SERVER_UPDATE_PROHIBITED))])) _
            refine st19 _ ?_
            show Steps p.tables e below (T19.setTop (mkF m 110 #[.val (.int p0), .val (.int p1), .val (.int i), .val (.int j), .val (.int k), .val (.int (1 : Int32))] [(.ref (own_cmd j w_DELETE w_RENEW w_TRANSFER w_UPDATE)), (.ref (own_st i w_CLIENT_DELETE_PROHIBITED w_CLIENT_HOLD w_CLIENT_RENEW_PROHIBITED w_CLIENT_TRANSFER_PROHIBITED w_CLIENT_UPDATE_PROHIBITED w_SERVER_DELETE_PROHIBITED w_SERVER_HOLD w_SERVER_RENEW_PROHIBITED w_SERVER_TRANSFER_PROHIBITED w_SERVER_UPDATE_PROHIBITED))])) _
            refine st20.trans ?_
            show Steps p.tables e below (T20.setTop (mkF m 113 #[.val (.int p0), .val (.int p1), .val (.int i), .val (.int j), .val (.int k), .val (.int (1 : Int32))] [(.int (own_pro (own_pvi i w_DELETE w_RENEW w_TRANSFER w_UPDATE) (own_cmd j w_DELETE w_RENEW w_TRANSFER w_UPDATE)))])) _
            refine XS.iload X20.here hx rfl (hb hby at_113) rfl ?_
            show Steps p.tables e below (T20.setTop (mkF m 115 #[.val (.int p0), .val (.int p1), .val (.int i), .val (.int j), .val (.int k), .val (.int (1 : Int32))] [(.int (1 : Int32)), (.int (own_pro (own_pvi i w_DELETE w_RENEW w_TRANSFER w_UPDATE) (own_cmd j w_DELETE w_RENEW w_TRANSFER w_UPDATE)))])) _
            refine XS.icmpNo X20.here hx rfl (hb hby at_115) rfl (teq hc115).2 ?_
            show Steps p.tables e below (T20.setTop (mkF m 118 #[.val (.int p0), .val (.int p1), .val (.int i), .val (.int j), .val (.int k), .val (.int (1 : Int32))] [])) _
            refine XS.iconst X20.here hx rfl (hb hby at_118) ?_
            show Steps p.tables e below (T20.setTop (mkF m 119 #[.val (.int p0), .val (.int p1), .val (.int i), .val (.int j), .val (.int k), .val (.int (1 : Int32))] [(.int (1 : Int32))])) _
            refine XS.goto X20.here hx rfl (pc0 := 119) (pc' := 123) rfl (hb hby at_119) (by decide) (by decide) ?_
            show Steps p.tables e below (T20.setTop (mkF m 123 #[.val (.int p0), .val (.int p1), .val (.int i), .val (.int j), .val (.int k), .val (.int (1 : Int32))] [(.int (1 : Int32))])) _
            exact retN X20 hx (t := .boolean) Bd.returns (by simp) (hb hby at_123) hr
          ·
            show Q_rm0 Z p0 p1 w_CLIENT_DELETE_PROHIBITED w_CLIENT_HOLD w_CLIENT_RENEW_PROHIBITED w_CLIENT_TRANSFER_PROHIBITED w_CLIENT_UPDATE_PROHIBITED w_SERVER_DELETE_PROHIBITED w_SERVER_HOLD w_SERVER_RENEW_PROHIBITED w_SERVER_TRANSFER_PROHIBITED w_SERVER_UPDATE_PROHIBITED w_DELETE w_RENEW w_TRANSFER w_UPDATE h0 n0 _ T20.heap _
            rw [e20]
            exact ⟨rfl, N20⟩
        ·
          obtain ⟨_, _, ⟨T21, L21, k21, n21⟩, -, X21, ⟨Lc21, hQ21, l21, y21, z21⟩, st21⟩ := Jvm.LawKit.callS X0 hx (y := (⟨"com/example/nameward/nameward/registry/StatusProhibitsPinLaw", "status", "(I)Lcom/example/nameward/nameward/registry/Status;"⟩ : MethodName)) hown (mvT hZ (hw _ (List.mem_of_getElem? (i := 1) rfl))) (mvT hZ (hw _ (List.mem_of_getElem? (i := 2) rfl))) (mvT hZ (hw _ (List.mem_of_getElem? (i := 3) rfl))) (mvT hZ (hw _ (List.mem_of_getElem? (i := 4) rfl))) (by decide) (backOf (W := 0) (rm1 l Z a0 hw [] i w_CLIENT_DELETE_PROHIBITED w_CLIENT_HOLD w_CLIENT_RENEW_PROHIBITED w_CLIENT_TRANSFER_PROHIBITED w_CLIENT_UPDATE_PROHIBITED w_SERVER_DELETE_PROHIBITED w_SERVER_HOLD w_SERVER_RENEW_PROHIBITED w_SERVER_TRANSFER_PROHIBITED w_SERVER_UPDATE_PROHIBITED h0 n0 Zn S_CLIENT_DELETE_PROHIBITED S_CLIENT_HOLD S_CLIENT_RENEW_PROHIBITED S_CLIENT_TRANSFER_PROHIBITED S_CLIENT_UPDATE_PROHIBITED S_SERVER_DELETE_PROHIBITED S_SERVER_HOLD S_SERVER_RENEW_PROHIBITED S_SERVER_TRANSFER_PROHIBITED S_SERVER_UPDATE_PROHIBITED) hZ (hw _ (List.mem_of_getElem? (i := 4) rfl)) (hw _ (List.mem_of_getElem? (i := 3) rfl)) (by decide) (by decide)) (g := (mkF m 103 #[.val (.int p0), .val (.int p1), .val (.int i), .val (.int j), .val (.int k), .val (.int (0 : Int32))] [(.int i)])) rfl (by rw [hml]; rfl) (argsL := [(.int i)]) (rest := []) (lenOf pd_2 rfl) rfl (by show 2 * 0 + _ ≤ _; exact Nat.le_of_eq rfl) (hb hby at_103) (fun _ _ => ⟨rfl, e0, (by decide : 0 + 0 ≤ _), (by decide : 0 + 0 ≤ _)⟩)
          dsimp only [Pt.U, Pt.locs, Pt.cells, Pt.slots] at X21 l21 y21 z21 st21 hQ21
          subst l21 y21 z21
          obtain ⟨rfl, N21q, e21q⟩ := hQ21
          have N21 := Fr.app N0 N21q
          have e21 : T21.heap = h0 := e21q
          obtain ⟨_, _, ⟨T22, L22, k22, n22⟩, -, X22, ⟨Lc22, hQ22, l22, y22, z22⟩, st22⟩ := Jvm.LawKit.callS X21 hx (y := (⟨"com/example/nameward/nameward/registry/StatusProhibitsPinLaw", "command", "(I)Lcom/example/nameward/nameward/registry/Status$Command;"⟩ : MethodName)) hown (mvT hZ (hw _ (List.mem_of_getElem? (i := 8) rfl))) (mvT hZ (hw _ (List.mem_of_getElem? (i := 9) rfl))) (mvT hZ (hw _ (List.mem_of_getElem? (i := 3) rfl))) (mvT hZ (hw _ (List.mem_of_getElem? (i := 10) rfl))) (by decide) (backOf (W := 1) (rm2 l Z a0 hw [] j w_DELETE w_RENEW w_TRANSFER w_UPDATE h0 n0 Zn S_DELETE S_RENEW S_TRANSFER S_UPDATE) hZ (hw _ (List.mem_of_getElem? (i := 10) rfl)) (hw _ (List.mem_of_getElem? (i := 3) rfl)) (by decide) (by decide)) (g := (mkF m 107 #[.val (.int p0), .val (.int p1), .val (.int i), .val (.int j), .val (.int k), .val (.int (0 : Int32))] [(.int j), (.ref (own_st i w_CLIENT_DELETE_PROHIBITED w_CLIENT_HOLD w_CLIENT_RENEW_PROHIBITED w_CLIENT_TRANSFER_PROHIBITED w_CLIENT_UPDATE_PROHIBITED w_SERVER_DELETE_PROHIBITED w_SERVER_HOLD w_SERVER_RENEW_PROHIBITED w_SERVER_TRANSFER_PROHIBITED w_SERVER_UPDATE_PROHIBITED))])) rfl (by rw [hml]; rfl) (argsL := [(.int j)]) (rest := [(.ref (own_st i w_CLIENT_DELETE_PROHIBITED w_CLIENT_HOLD w_CLIENT_RENEW_PROHIBITED w_CLIENT_TRANSFER_PROHIBITED w_CLIENT_UPDATE_PROHIBITED w_SERVER_DELETE_PROHIBITED w_SERVER_HOLD w_SERVER_RENEW_PROHIBITED w_SERVER_TRANSFER_PROHIBITED w_SERVER_UPDATE_PROHIBITED))]) (lenOf pd_3 rfl) rfl (by show 2 * 0 + _ ≤ _; exact Nat.le_of_eq rfl) (hb hby at_107) (fun _ _ => ⟨rfl, e21, (by decide : 0 + 0 ≤ _), (by decide : 0 + 0 ≤ _)⟩)
          dsimp only [Pt.U, Pt.locs, Pt.cells, Pt.slots] at X22 l22 y22 z22 st22 hQ22
          subst l22 y22 z22
          obtain ⟨rfl, N22q, e22q⟩ := hQ22
          have N22 := Fr.app N21 N22q
          have e22 : T22.heap = h0 := e22q
          obtain ⟨cq23, kq23, q23a, q23b, q23c⟩ := isOf hZ e22 (show Exa Z h0 (own_st i w_CLIENT_DELETE_PROHIBITED w_CLIENT_HOLD w_CLIENT_RENEW_PROHIBITED w_CLIENT_TRANSFER_PROHIBITED w_CLIENT_UPDATE_PROHIBITED w_SERVER_DELETE_PROHIBITED w_SERVER_HOLD w_SERVER_RENEW_PROHIBITED w_SERVER_TRANSFER_PROHIBITED w_SERVER_UPDATE_PROHIBITED) "com/example/nameward/nameward/registry/Status" by unfold own_st; repeat' (split <;> try assumption))
          obtain ⟨_, _, ⟨T23, L23, k23, n23⟩, -, X23, ⟨Lc23, hQ23, l23, y23, z23⟩, st23⟩ := X22.virtualBack hx (y := (⟨"com/example/nameward/nameward/registry/Status", "prohibits", "(Lcom/example/nameward/nameward/registry/Status$Command;)Z"⟩ : MethodName)) (z := (⟨"com/example/nameward/nameward/registry/Status", "prohibits", "(Lcom/example/nameward/nameward/registry/Status$Command;)Z"⟩ : MethodName)) hown (mvT hZ (hw _ (List.mem_of_getElem? (i := 14) rfl))) (mvT hZ (hw _ (List.mem_of_getElem? (i := 15) rfl))) (notFace_of_selects (args := #[]) (mvT hZ (hw _ (List.mem_of_getElem? (i := 17) rfl)))) (mvT hZ (hw _ (List.mem_of_getElem? (i := 17) rfl))) (mvT hZ (hw _ (List.mem_of_getElem? (i := 16) rfl))) (by decide) (backOf (W := 0) (rm3 l Z a0 hw [] (own_st i w_CLIENT_DELETE_PROHIBITED w_CLIENT_HOLD w_CLIENT_RENEW_PROHIBITED w_CLIENT_TRANSFER_PROHIBITED w_CLIENT_UPDATE_PROHIBITED w_SERVER_DELETE_PROHIBITED w_SERVER_HOLD w_SERVER_RENEW_PROHIBITED w_SERVER_TRANSFER_PROHIBITED w_SERVER_UPDATE_PROHIBITED) (own_cmd j w_DELETE w_RENEW w_TRANSFER w_UPDATE) (own_pvi i w_DELETE w_RENEW w_TRANSFER w_UPDATE) h0 n0 Zn (FX i hi) (own_isref i w_DELETE w_RENEW w_TRANSFER w_UPDATE)) hZ (hw _ (List.mem_of_getElem? (i := 18) rfl)) (hw _ (List.mem_of_getElem? (i := 6) rfl)) (by decide) (by decide)) q23a q23c (g := (mkF m 110 #[.val (.int p0), .val (.int p1), .val (.int i), .val (.int j), .val (.int k), .val (.int (0 : Int32))] [(.ref (own_cmd j w_DELETE w_RENEW w_TRANSFER w_UPDATE)), (.ref (own_st i w_CLIENT_DELETE_PROHIBITED w_CLIENT_HOLD w_CLIENT_RENEW_PROHIBITED w_CLIENT_TRANSFER_PROHIBITED w_CLIENT_UPDATE_PROHIBITED w_SERVER_DELETE_PROHIBITED w_SERVER_HOLD w_SERVER_RENEW_PROHIBITED w_SERVER_TRANSFER_PROHIBITED w_SERVER_UPDATE_PROHIBITED))])) rfl (by rw [hml]; rfl) (Steps.refl _) (argsL := [(.ref (own_cmd j w_DELETE w_RENEW w_TRANSFER w_UPDATE))]) (rest := []) (lenOf pd_4 rfl) rfl (by show 2 * 0 + _ ≤ _; exact Nat.le_of_eq rfl) (hb hby at_110) (fun _ _ => ⟨rfl, e22, (by decide : 0 + 0 ≤ _), (by decide : 0 + 0 ≤ _)⟩)
          dsimp only [Pt.U, Pt.locs, Pt.cells, Pt.slots] at X23 l23 y23 z23 st23 hQ23
          subst l23 y23 z23
          obtain ⟨rfl, N23q, e23q⟩ := hQ23
          have N23 := Fr.app N22 N23q
          have e23 : T23.heap = h0 := e23q
          have hc115 : (own_pro (own_pvi i w_DELETE w_RENEW w_TRANSFER w_UPDATE) (own_cmd j w_DELETE w_RENEW w_TRANSFER w_UPDATE)) = (0 : Int32) := ((own_law o_DELETE o_RENEW o_TRANSFER o_UPDATE i j k hi hj hg_k).trans (by rw [if_neg hc20, if_neg hc31, if_pos hc51, if_neg hc56]))
          obtain ⟨fs, hr, hrun, hended, hW, hsame⟩ := X23.leave (v := some (.int (1 : Int32))) (fun h => by rw [Bd.returns] at h; cases h) hlk
          refine ⟨_, _, K17 _ ?_, hrun, hended, _, _, rfl, ?_, ⟨_, rfl⟩, hW, hsame.mono (by decide) (by decide)⟩
          ·
            show Steps p.tables e below (s₁.setTop (mkF m 56 #[.val (.int p0), .val (.int p1), .val (.int i), .val (.int j), .val (.int k), .unset] [(.int (1 : Int32)), (.int j)])) _
            refine XS.icmpYes X0.here hx rfl (pc0 := 56) (pc' := 63) rfl (hb hby at_56) rfl (feq hc56).2 (by decide) (by decide) ?_
            show Steps p.tables e below (s₁.setTop (mkF m 63 #[.val (.int p0), .val (.int p1), .val (.int i), .val (.int j), .val (.int k), .unset] [])) _
            refine XS.iconst X0.here hx rfl (hb hby at_63) ?_
            show Steps p.tables e below (s₁.setTop (mkF m 64 #[.val (.int p0), .val (.int p1), .val (.int i), .val (.int j), .val (.int k), .unset] [(.int (0 : Int32))])) _
            refine XS.istore X0.here hx rfl (hb hby at_64) rfl (l' := #[.val (.int p0), .val (.int p1), .val (.int i), .val (.int j), .val (.int k), .val (.int (0 : Int32))]) rfl ?_
            show Steps p.tables e below (s₁.setTop (mkF m 66 #[.val (.int p0), .val (.int p1), .val (.int i), .val (.int j), .val (.int k), .val (.int (0 : Int32))] [])) _
            refine XS.goto X0.here hx rfl (pc0 := 66) (pc' := 102) rfl (hb hby at_66) (by decide) (by decide) ?_
            show Steps p.tables e below (s₁.setTop (mkF m 102 #[.val (.int p0), .val (.int p1), .val (.int i), .val (.int j), .val (.int k), .val (.int (0 : Int32))] [])) _
            refine XS.iloadN X0.here hx rfl (hb hby at_102) rfl ?_
            show Steps p.tables e below (s₁.setTop (mkF m 103 #[.val (.int p0), .val (.int p1), .val (.int i), .val (.int j), .val (.int k), .val (.int (0 : Int32))] [(.int i)])) _
            refine st21 _ ?_
            show Steps p.tables e below (T21.setTop (mkF m 106 #[.val (.int p0), .val (.int p1), .val (.int i), .val (.int j), .val (.int k), .val (.int (0 : Int32))] [(.ref (own_st i w_CLIENT_DELETE_PROHIBITED w_CLIENT_HOLD w_CLIENT_RENEW_PROHIBITED w_CLIENT_TRANSFER_PROHIBITED w_CLIENT_UPDATE_PROHIBITED w_SERVER_DELETE_PROHIBITED w_SERVER_HOLD w_SERVER_RENEW_PROHIBITED w_SERVER_TRANSFER_PROHIBITED w_SERVER_UPDATE_PROHIBITED))])) _
            refine XS.iloadN X21.here hx rfl (hb hby at_106) rfl ?_
            show Steps p.tables e below (T21.setTop (mkF m 107 #[.val (.int p0), .val (.int p1), .val (.int i), .val (.int j), .val (.int k), .val (.int (0 : Int32))] [(.int j), (.ref (own_st i w_CLIENT_DELETE_PROHIBITED w_CLIENT_HOLD w_CLIENT_RENEW_PROHIBITED w_CLIENT_TRANSFER_PROHIBITED w_CLIENT_UPDATE_PROHIBITED w_SERVER_DELETE_PROHIBITED w_SERVER_HOLD w_SERVER_RENEW_PROHIBITED w_SERVER_TRANSFER_PROHIBITED w_SERVER_UPDATE_PROHIBITED))])) _
            refine st22 _ ?_
            show Steps p.tables e below (T22.setTop (mkF m 110 #[.val (.int p0), .val (.int p1), .val (.int i), .val (.int j), .val (.int k), .val (.int (0 : Int32))] [(.ref (own_cmd j w_DELETE w_RENEW w_TRANSFER w_UPDATE)), (.ref (own_st i w_CLIENT_DELETE_PROHIBITED w_CLIENT_HOLD w_CLIENT_RENEW_PROHIBITED w_CLIENT_TRANSFER_PROHIBITED w_CLIENT_UPDATE_PROHIBITED w_SERVER_DELETE_PROHIBITED w_SERVER_HOLD w_SERVER_RENEW_PROHIBITED w_SERVER_TRANSFER_PROHIBITED w_SERVER_UPDATE_PROHIBITED))])) _
            refine st23.trans ?_
            show Steps p.tables e below (T23.setTop (mkF m 113 #[.val (.int p0), .val (.int p1), .val (.int i), .val (.int j), .val (.int k), .val (.int (0 : Int32))] [(.int (own_pro (own_pvi i w_DELETE w_RENEW w_TRANSFER w_UPDATE) (own_cmd j w_DELETE w_RENEW w_TRANSFER w_UPDATE)))])) _
            refine XS.iload X23.here hx rfl (hb hby at_113) rfl ?_
            show Steps p.tables e below (T23.setTop (mkF m 115 #[.val (.int p0), .val (.int p1), .val (.int i), .val (.int j), .val (.int k), .val (.int (0 : Int32))] [(.int (0 : Int32)), (.int (own_pro (own_pvi i w_DELETE w_RENEW w_TRANSFER w_UPDATE) (own_cmd j w_DELETE w_RENEW w_TRANSFER w_UPDATE)))])) _
            refine XS.icmpNo X23.here hx rfl (hb hby at_115) rfl (teq hc115).2 ?_
            show Steps p.tables e below (T23.setTop (mkF m 118 #[.val (.int p0), .val (.int p1), .val (.int i), .val (.int j), .val (.int k), .val (.int (0 : Int32))] [])) _
            refine XS.iconst X23.here hx rfl (hb hby at_118) ?_
            show Steps p.tables e below (T23.setTop (mkF m 119 #[.val (.int p0), .val (.int p1), .val (.int i), .val (.int j), .val (.int k), .val (.int (0 : Int32))] [(.int (1 : Int32))])) _
            refine XS.goto X23.here hx rfl (pc0 := 119) (pc' := 123) rfl (hb hby at_119) (by decide) (by decide) ?_
            show Steps p.tables e below (T23.setTop (mkF m 123 #[.val (.int p0), .val (.int p1), .val (.int i), .val (.int j), .val (.int k), .val (.int (0 : Int32))] [(.int (1 : Int32))])) _
            exact retN X23 hx (t := .boolean) Bd.returns (by simp) (hb hby at_123) hr
          ·
            show Q_rm0 Z p0 p1 w_CLIENT_DELETE_PROHIBITED w_CLIENT_HOLD w_CLIENT_RENEW_PROHIBITED w_CLIENT_TRANSFER_PROHIBITED w_CLIENT_UPDATE_PROHIBITED w_SERVER_DELETE_PROHIBITED w_SERVER_HOLD w_SERVER_RENEW_PROHIBITED w_SERVER_TRANSFER_PROHIBITED w_SERVER_UPDATE_PROHIBITED w_DELETE w_RENEW w_TRANSFER w_UPDATE h0 n0 _ T23.heap _
            rw [e23]
            exact ⟨rfl, N23⟩
      ·
        have K24 : ∀ t, Steps p.tables e below (s₁.setTop (mkF m 72 #[.val (.int p0), .val (.int p1), .val (.int i), .val (.int j), .val (.int k), .unset] [(.int (3 : Int32)), (.int k)])) t → Steps p.tables e below (s₁.setTop (entryFrame m #[(.int p0), (.int p1)] maxLocals)) t := by
          intro t kt
          refine K16 t ?_
          show Steps p.tables e below (s₁.setTop (mkF m 51 #[.val (.int p0), .val (.int p1), .val (.int i), .val (.int j), .val (.int k), .unset] [(.int (2 : Int32)), (.int k)])) _
          refine XS.icmpYes X0.here hx rfl (pc0 := 51) (pc' := 69) rfl (hb hby at_51) rfl (feq hc51).2 (by decide) (by decide) ?_
          show Steps p.tables e below (s₁.setTop (mkF m 69 #[.val (.int p0), .val (.int p1), .val (.int i), .val (.int j), .val (.int k), .unset] [])) _
          refine XS.iload X0.here hx rfl (hb hby at_69) rfl ?_
          show Steps p.tables e below (s₁.setTop (mkF m 71 #[.val (.int p0), .val (.int p1), .val (.int i), .val (.int j), .val (.int k), .unset] [(.int k)])) _
          refine XS.iconst X0.here hx rfl (hb hby at_71) ?_
          exact kt
        by_cases hc72 : k = (3 : Int32)
        ·
          have K25 : ∀ t, Steps p.tables e below (s₁.setTop (mkF m 77 #[.val (.int p0), .val (.int p1), .val (.int i), .val (.int j), .val (.int k), .unset] [(.int (2 : Int32)), (.int j)])) t → Steps p.tables e below (s₁.setTop (entryFrame m #[(.int p0), (.int p1)] maxLocals)) t := by
            intro t kt
            refine K24 t ?_
            show Steps p.tables e below (s₁.setTop (mkF m 72 #[.val (.int p0), .val (.int p1), .val (.int i), .val (.int j), .val (.int k), .unset] [(.int (3 : Int32)), (.int k)])) _
            refine XS.icmpNo X0.here hx rfl (hb hby at_72) rfl (teq hc72).2 ?_
            show Steps p.tables e below (s₁.setTop (mkF m 75 #[.val (.int p0), .val (.int p1), .val (.int i), .val (.int j), .val (.int k), .unset] [])) _
            refine XS.iloadN X0.here hx rfl (hb hby at_75) rfl ?_
            show Steps p.tables e below (s₁.setTop (mkF m 76 #[.val (.int p0), .val (.int p1), .val (.int i), .val (.int j), .val (.int k), .unset] [(.int j)])) _
            refine XS.iconst X0.here hx rfl (hb hby at_76) ?_
            exact kt
          by_cases hc77 : j = (2 : Int32)
          ·
            obtain ⟨_, _, ⟨T26, L26, k26, n26⟩, -, X26, ⟨Lc26, hQ26, l26, y26, z26⟩, st26⟩ := Jvm.LawKit.callS X0 hx (y := (⟨"com/example/nameward/nameward/registry/StatusProhibitsPinLaw", "status", "(I)Lcom/example/nameward/nameward/registry/Status;"⟩ : MethodName)) hown (mvT hZ (hw _ (List.mem_of_getElem? (i := 1) rfl))) (mvT hZ (hw _ (List.mem_of_getElem? (i := 2) rfl))) (mvT hZ (hw _ (List.mem_of_getElem? (i := 3) rfl))) (mvT hZ (hw _ (List.mem_of_getElem? (i := 4) rfl))) (by decide) (backOf (W := 0) (rm1 l Z a0 hw [] i w_CLIENT_DELETE_PROHIBITED w_CLIENT_HOLD w_CLIENT_RENEW_PROHIBITED w_CLIENT_TRANSFER_PROHIBITED w_CLIENT_UPDATE_PROHIBITED w_SERVER_DELETE_PROHIBITED w_SERVER_HOLD w_SERVER_RENEW_PROHIBITED w_SERVER_TRANSFER_PROHIBITED w_SERVER_UPDATE_PROHIBITED h0 n0 Zn S_CLIENT_DELETE_PROHIBITED S_CLIENT_HOLD S_CLIENT_RENEW_PROHIBITED S_CLIENT_TRANSFER_PROHIBITED S_CLIENT_UPDATE_PROHIBITED S_SERVER_DELETE_PROHIBITED S_SERVER_HOLD S_SERVER_RENEW_PROHIBITED S_SERVER_TRANSFER_PROHIBITED S_SERVER_UPDATE_PROHIBITED) hZ (hw _ (List.mem_of_getElem? (i := 4) rfl)) (hw _ (List.mem_of_getElem? (i := 3) rfl)) (by decide) (by decide)) (g := (mkF m 103 #[.val (.int p0), .val (.int p1), .val (.int i), .val (.int j), .val (.int k), .val (.int (1 : Int32))] [(.int i)])) rfl (by rw [hml]; rfl) (argsL := [(.int i)]) (rest := []) (lenOf pd_2 rfl) rfl (by show 2 * 0 + _ ≤ _; exact Nat.le_of_eq rfl) (hb hby at_103) (fun _ _ => ⟨rfl, e0, (by decide : 0 + 0 ≤ _), (by decide : 0 + 0 ≤ _)⟩)
            dsimp only [Pt.U, Pt.locs, Pt.cells, Pt.slots] at X26 l26 y26 z26 st26 hQ26
            subst l26 y26 z26
            obtain ⟨rfl, N26q, e26q⟩ := hQ26
            have N26 := Fr.app N0 N26q
            have e26 : T26.heap = h0 := e26q
            obtain ⟨_, _, ⟨T27, L27, k27, n27⟩, -, X27, ⟨Lc27, hQ27, l27, y27, z27⟩, st27⟩ := Jvm.LawKit.callS X26 hx (y := (⟨"com/example/nameward/nameward/registry/StatusProhibitsPinLaw", "command", "(I)Lcom/example/nameward/nameward/registry/Status$Command;"⟩ : MethodName)) hown (mvT hZ (hw _ (List.mem_of_getElem? (i := 8) rfl))) (mvT hZ (hw _ (List.mem_of_getElem? (i := 9) rfl))) (mvT hZ (hw _ (List.mem_of_getElem? (i := 3) rfl))) (mvT hZ (hw _ (List.mem_of_getElem? (i := 10) rfl))) (by decide) (backOf (W := 1) (rm2 l Z a0 hw [] j w_DELETE w_RENEW w_TRANSFER w_UPDATE h0 n0 Zn S_DELETE S_RENEW S_TRANSFER S_UPDATE) hZ (hw _ (List.mem_of_getElem? (i := 10) rfl)) (hw _ (List.mem_of_getElem? (i := 3) rfl)) (by decide) (by decide)) (g := (mkF m 107 #[.val (.int p0), .val (.int p1), .val (.int i), .val (.int j), .val (.int k), .val (.int (1 : Int32))] [(.int j), (.ref (own_st i w_CLIENT_DELETE_PROHIBITED w_CLIENT_HOLD w_CLIENT_RENEW_PROHIBITED w_CLIENT_TRANSFER_PROHIBITED w_CLIENT_UPDATE_PROHIBITED w_SERVER_DELETE_PROHIBITED w_SERVER_HOLD w_SERVER_RENEW_PROHIBITED w_SERVER_TRANSFER_PROHIBITED w_SERVER_UPDATE_PROHIBITED))])) rfl (by rw [hml]; rfl) (argsL := [(.int j)]) (rest := [(.ref (own_st i w_CLIENT_DELETE_PROHIBITED w_CLIENT_HOLD w_CLIENT_RENEW_PROHIBITED w_CLIENT_TRANSFER_PROHIBITED w_CLIENT_UPDATE_PROHIBITED w_SERVER_DELETE_PROHIBITED w_SERVER_HOLD w_SERVER_RENEW_PROHIBITED w_SERVER_TRANSFER_PROHIBITED w_SERVER_UPDATE_PROHIBITED))]) (lenOf pd_3 rfl) rfl (by show 2 * 0 + _ ≤ _; exact Nat.le_of_eq rfl) (hb hby at_107) (fun _ _ => ⟨rfl, e26, (by decide : 0 + 0 ≤ _), (by decide : 0 + 0 ≤ _)⟩)
            dsimp only [Pt.U, Pt.locs, Pt.cells, Pt.slots] at X27 l27 y27 z27 st27 hQ27
            subst l27 y27 z27
            obtain ⟨rfl, N27q, e27q⟩ := hQ27
            have N27 := Fr.app N26 N27q
            have e27 : T27.heap = h0 := e27q
            obtain ⟨cq28, kq28, q28a, q28b, q28c⟩ := isOf hZ e27 (show Exa Z h0 (own_st i w_CLIENT_DELETE_PROHIBITED w_CLIENT_HOLD w_CLIENT_RENEW_PROHIBITED w_CLIENT_TRANSFER_PROHIBITED w_CLIENT_UPDATE_PROHIBITED w_SERVER_DELETE_PROHIBITED w_SERVER_HOLD w_SERVER_RENEW_PROHIBITED w_SERVER_TRANSFER_PROHIBITED w_SERVER_UPDATE_PROHIBITED) "com/example/nameward/nameward/registry/Status" by unfold own_st; repeat' (split <;> try assumption))
            obtain ⟨_, _, ⟨T28, L28, k28, n28⟩, -, X28, ⟨Lc28, hQ28, l28, y28, z28⟩, st28⟩ := X27.virtualBack hx (y := (⟨"com/example/nameward/nameward/registry/Status", "prohibits", "(Lcom/example/nameward/nameward/registry/Status$Command;)Z"⟩ : MethodName)) (z := (⟨"com/example/nameward/nameward/registry/Status", "prohibits", "(Lcom/example/nameward/nameward/registry/Status$Command;)Z"⟩ : MethodName)) hown (mvT hZ (hw _ (List.mem_of_getElem? (i := 14) rfl))) (mvT hZ (hw _ (List.mem_of_getElem? (i := 15) rfl))) (notFace_of_selects (args := #[]) (mvT hZ (hw _ (List.mem_of_getElem? (i := 17) rfl)))) (mvT hZ (hw _ (List.mem_of_getElem? (i := 17) rfl))) (mvT hZ (hw _ (List.mem_of_getElem? (i := 16) rfl))) (by decide) (backOf (W := 0) (rm3 l Z a0 hw [] (own_st i w_CLIENT_DELETE_PROHIBITED w_CLIENT_HOLD w_CLIENT_RENEW_PROHIBITED w_CLIENT_TRANSFER_PROHIBITED w_CLIENT_UPDATE_PROHIBITED w_SERVER_DELETE_PROHIBITED w_SERVER_HOLD w_SERVER_RENEW_PROHIBITED w_SERVER_TRANSFER_PROHIBITED w_SERVER_UPDATE_PROHIBITED) (own_cmd j w_DELETE w_RENEW w_TRANSFER w_UPDATE) (own_pvi i w_DELETE w_RENEW w_TRANSFER w_UPDATE) h0 n0 Zn (FX i hi) (own_isref i w_DELETE w_RENEW w_TRANSFER w_UPDATE)) hZ (hw _ (List.mem_of_getElem? (i := 18) rfl)) (hw _ (List.mem_of_getElem? (i := 6) rfl)) (by decide) (by decide)) q28a q28c (g := (mkF m 110 #[.val (.int p0), .val (.int p1), .val (.int i), .val (.int j), .val (.int k), .val (.int (1 : Int32))] [(.ref (own_cmd j w_DELETE w_RENEW w_TRANSFER w_UPDATE)), (.ref (own_st i w_CLIENT_DELETE_PROHIBITED w_CLIENT_HOLD w_CLIENT_RENEW_PROHIBITED w_CLIENT_TRANSFER_PROHIBITED w_CLIENT_UPDATE_PROHIBITED w_SERVER_DELETE_PROHIBITED w_SERVER_HOLD w_SERVER_RENEW_PROHIBITED w_SERVER_TRANSFER_PROHIBITED w_SERVER_UPDATE_PROHIBITED))])) rfl (by rw [hml]; rfl) (Steps.refl _) (argsL := [(.ref (own_cmd j w_DELETE w_RENEW w_TRANSFER w_UPDATE))]) (rest := []) (lenOf pd_4 rfl) rfl (by show 2 * 0 + _ ≤ _; exact Nat.le_of_eq rfl) (hb hby at_110) (fun _ _ => ⟨rfl, e27, (by decide : 0 + 0 ≤ _), (by decide : 0 + 0 ≤ _)⟩)
            dsimp only [Pt.U, Pt.locs, Pt.cells, Pt.slots] at X28 l28 y28 z28 st28 hQ28
            subst l28 y28 z28
            obtain ⟨rfl, N28q, e28q⟩ := hQ28
            have N28 := Fr.app N27 N28q
            have e28 : T28.heap = h0 := e28q
            have hc115 : (own_pro (own_pvi i w_DELETE w_RENEW w_TRANSFER w_UPDATE) (own_cmd j w_DELETE w_RENEW w_TRANSFER w_UPDATE)) = (1 : Int32) := ((own_law o_DELETE o_RENEW o_TRANSFER o_UPDATE i j k hi hj hg_k).trans (by rw [if_neg hc20, if_neg hc31, if_neg hc51, if_pos hc72, if_pos hc77]))
            obtain ⟨fs, hr, hrun, hended, hW, hsame⟩ := X28.leave (v := some (.int (1 : Int32))) (fun h => by rw [Bd.returns] at h; cases h) hlk
            refine ⟨_, _, K25 _ ?_, hrun, hended, _, _, rfl, ?_, ⟨_, rfl⟩, hW, hsame.mono (by decide) (by decide)⟩
            ·
              show Steps p.tables e below (s₁.setTop (mkF m 77 #[.val (.int p0), .val (.int p1), .val (.int i), .val (.int j), .val (.int k), .unset] [(.int (2 : Int32)), (.int j)])) _
              refine XS.icmpNo X0.here hx rfl (hb hby at_77) rfl (teq hc77).2 ?_
              show Steps p.tables e below (s₁.setTop (mkF m 80 #[.val (.int p0), .val (.int p1), .val (.int i), .val (.int j), .val (.int k), .unset] [])) _
              refine XS.iconst X0.here hx rfl (hb hby at_80) ?_
              show Steps p.tables e below (s₁.setTop (mkF m 81 #[.val (.int p0), .val (.int p1), .val (.int i), .val (.int j), .val (.int k), .unset] [(.int (1 : Int32))])) _
              refine XS.goto X0.here hx rfl (pc0 := 81) (pc' := 85) rfl (hb hby at_81) (by decide) (by decide) ?_
              show Steps p.tables e below (s₁.setTop (mkF m 85 #[.val (.int p0), .val (.int p1), .val (.int i), .val (.int j), .val (.int k), .unset] [(.int (1 : Int32))])) _
              refine XS.istore X0.here hx rfl (hb hby at_85) rfl (l' := #[.val (.int p0), .val (.int p1), .val (.int i), .val (.int j), .val (.int k), .val (.int (1 : Int32))]) rfl ?_
              show Steps p.tables e below (s₁.setTop (mkF m 87 #[.val (.int p0), .val (.int p1), .val (.int i), .val (.int j), .val (.int k), .val (.int (1 : Int32))] [])) _
              refine XS.goto X0.here hx rfl (pc0 := 87) (pc' := 102) rfl (hb hby at_87) (by decide) (by decide) ?_
              show Steps p.tables e below (s₁.setTop (mkF m 102 #[.val (.int p0), .val (.int p1), .val (.int i), .val (.int j), .val (.int k), .val (.int (1 : Int32))] [])) _
              refine XS.iloadN X0.here hx rfl (hb hby at_102) rfl ?_
              show Steps p.tables e below (s₁.setTop (mkF m 103 #[.val (.int p0), .val (.int p1), .val (.int i), .val (.int j), .val (.int k), .val (.int (1 : Int32))] [(.int i)])) _
              refine st26 _ ?_
              show Steps p.tables e below (T26.setTop (mkF m 106 #[.val (.int p0), .val (.int p1), .val (.int i), .val (.int j), .val (.int k), .val (.int (1 : Int32))] [(.ref (own_st i w_CLIENT_DELETE_PROHIBITED w_CLIENT_HOLD w_CLIENT_RENEW_PROHIBITED w_CLIENT_TRANSFER_PROHIBITED w_CLIENT_UPDATE_PROHIBITED w_SERVER_DELETE_PROHIBITED w_SERVER_HOLD w_SERVER_RENEW_PROHIBITED w_SERVER_TRANSFER_PROHIBITED w_SERVER_UPDATE_PROHIBITED))])) _
              refine XS.iloadN X26.here hx rfl (hb hby at_106) rfl ?_
              show Steps p.tables e below (T26.setTop (mkF m 107 #[.val (.int p0), .val (.int p1), .val (.int i), .val (.int j), .val (.int k), .val (.int (1 : Int32))] [(.int j), (.ref (own_st i w_CLIENT_DELETE_PROHIBITED w_CLIENT_HOLD w_CLIENT_RENEW_PROHIBITED w_CLIENT_TRANSFER_PROHIBITED w_CLIENT_UPDATE_PROHIBITED w_SERVER_DELETE_PROHIBITED w_SERVER_HOLD w_SERVER_RENEW_PROHIBITED w_SERVER_TRANSFER_PROHIBITED w_SERVER_UPDATE_PROHIBITED))])) _
              refine st27 _ ?_
              show Steps p.tables e below (T27.setTop (mkF m 110 #[.val (.int p0), .val (.int p1), .val (.int i), .val (.int j), .val (.int k), .val (.int (1 : Int32))] [(.ref (own_cmd j w_DELETE w_RENEW w_TRANSFER w_UPDATE)), (.ref (own_st i w_CLIENT_DELETE_PROHIBITED w_CLIENT_HOLD w_CLIENT_RENEW_PROHIBITED w_CLIENT_TRANSFER_PROHIBITED w_CLIENT_UPDATE_PROHIBITED w_SERVER_DELETE_PROHIBITED w_SERVER_HOLD w_SERVER_RENEW_PROHIBITED w_SERVER_TRANSFER_PROHIBITED w_SERVER_UPDATE_PROHIBITED))])) _
              refine st28.trans ?_
              show Steps p.tables e below (T28.setTop (mkF m 113 #[.val (.int p0), .val (.int p1), .val (.int i), .val (.int j), .val (.int k), .val (.int (1 : Int32))] [(.int (own_pro (own_pvi i w_DELETE w_RENEW w_TRANSFER w_UPDATE) (own_cmd j w_DELETE w_RENEW w_TRANSFER w_UPDATE)))])) _
              refine XS.iload X28.here hx rfl (hb hby at_113) rfl ?_
              show Steps p.tables e below (T28.setTop (mkF m 115 #[.val (.int p0), .val (.int p1), .val (.int i), .val (.int j), .val (.int k), .val (.int (1 : Int32))] [(.int (1 : Int32)), (.int (own_pro (own_pvi i w_DELETE w_RENEW w_TRANSFER w_UPDATE) (own_cmd j w_DELETE w_RENEW w_TRANSFER w_UPDATE)))])) _
              refine XS.icmpNo X28.here hx rfl (hb hby at_115) rfl (teq hc115).2 ?_
              show Steps p.tables e below (T28.setTop (mkF m 118 #[.val (.int p0), .val (.int p1), .val (.int i), .val (.int j), .val (.int k), .val (.int (1 : Int32))] [])) _
              refine XS.iconst X28.here hx rfl (hb hby at_118) ?_
              show Steps p.tables e below (T28.setTop (mkF m 119 #[.val (.int p0), .val (.int p1), .val (.int i), .val (.int j), .val (.int k), .val (.int (1 : Int32))] [(.int (1 : Int32))])) _
              refine XS.goto X28.here hx rfl (pc0 := 119) (pc' := 123) rfl (hb hby at_119) (by decide) (by decide) ?_
              show Steps p.tables e below (T28.setTop (mkF m 123 #[.val (.int p0), .val (.int p1), .val (.int i), .val (.int j), .val (.int k), .val (.int (1 : Int32))] [(.int (1 : Int32))])) _
              exact retN X28 hx (t := .boolean) Bd.returns (by simp) (hb hby at_123) hr
            ·
              show Q_rm0 Z p0 p1 w_CLIENT_DELETE_PROHIBITED w_CLIENT_HOLD w_CLIENT_RENEW_PROHIBITED w_CLIENT_TRANSFER_PROHIBITED w_CLIENT_UPDATE_PROHIBITED w_SERVER_DELETE_PROHIBITED w_SERVER_HOLD w_SERVER_RENEW_PROHIBITED w_SERVER_TRANSFER_PROHIBITED w_SERVER_UPDATE_PROHIBITED w_DELETE w_RENEW w_TRANSFER w_UPDATE h0 n0 _ T28.heap _
              rw [e28]
              exact ⟨rfl, N28⟩
          ·
            obtain ⟨_, _, ⟨T29, L29, k29, n29⟩, -, X29, ⟨Lc29, hQ29, l29, y29, z29⟩, st29⟩ := Jvm.LawKit.callS X0 hx (y := (⟨"com/example/nameward/nameward/registry/StatusProhibitsPinLaw", "status", "(I)Lcom/example/nameward/nameward/registry/Status;"⟩ : MethodName)) hown (mvT hZ (hw _ (List.mem_of_getElem? (i := 1) rfl))) (mvT hZ (hw _ (List.mem_of_getElem? (i := 2) rfl))) (mvT hZ (hw _ (List.mem_of_getElem? (i := 3) rfl))) (mvT hZ (hw _ (List.mem_of_getElem? (i := 4) rfl))) (by decide) (backOf (W := 0) (rm1 l Z a0 hw [] i w_CLIENT_DELETE_PROHIBITED w_CLIENT_HOLD w_CLIENT_RENEW_PROHIBITED w_CLIENT_TRANSFER_PROHIBITED w_CLIENT_UPDATE_PROHIBITED w_SERVER_DELETE_PROHIBITED w_SERVER_HOLD w_SERVER_RENEW_PROHIBITED w_SERVER_TRANSFER_PROHIBITED w_SERVER_UPDATE_PROHIBITED h0 n0 Zn S_CLIENT_DELETE_PROHIBITED S_CLIENT_HOLD S_CLIENT_RENEW_PROHIBITED S_CLIENT_TRANSFER_PROHIBITED S_CLIENT_UPDATE_PROHIBITED S_SERVER_DELETE_PROHIBITED S_SERVER_HOLD S_SERVER_RENEW_PROHIBITED S_SERVER_TRANSFER_PROHIBITED S_SERVER_UPDATE_PROHIBITED) hZ (hw _ (List.mem_of_getElem? (i := 4) rfl)) (hw _ (List.mem_of_getElem? (i := 3) rfl)) (by decide) (by decide)) (g := (mkF m 103 #[.val (.int p0), .val (.int p1), .val (.int i), .val (.int j), .val (.int k), .val (.int (0 : Int32))] [(.int i)])) rfl (by rw [hml]; rfl) (argsL := [(.int i)]) (rest := []) (lenOf pd_2 rfl) rfl (by show 2 * 0 + _ ≤ _; exact Nat.le_of_eq rfl) (hb hby at_103) (fun _ _ => ⟨rfl, e0, (by decide : 0 + 0 ≤ _), (by decide : 0 + 0 ≤ _)⟩)
            dsimp only [Pt.U, Pt.locs, Pt.cells, Pt.slots] at X29 l29 y29 z29 st29 hQ29
            subst l29 y29 z29
            obtain ⟨rfl, N29q, e29q⟩ := hQ29
            have N29 := Fr.app N0 N29q
            have e29 : T29.heap = h0 := e29q
            obtain ⟨_, _, ⟨T30, L30, k30, n30⟩, -, X30, ⟨Lc30, hQ30, l30, y30, z30⟩, st30⟩ := Jvm.LawKit.callS X29 hx (y := (⟨"com/example/nameward/nameward/registry/StatusProhibitsPinLaw", "command", "(I)Lcom/example/nameward/nameward/registry/Status$Command;"⟩ : MethodName)) hown (mvT hZ (hw _ (List.mem_of_getElem? (i := 8) rfl))) (mvT hZ (hw _ (List.mem_of_getElem? (i := 9) rfl))) (mvT hZ (hw _ (List.mem_of_getElem? (i := 3) rfl))) (mvT hZ (hw _ (List.mem_of_getElem? (i := 10) rfl))) (by decide) (backOf (W := 1) (rm2 l Z a0 hw [] j w_DELETE w_RENEW w_TRANSFER w_UPDATE h0 n0 Zn S_DELETE S_RENEW S_TRANSFER S_UPDATE) hZ (hw _ (List.mem_of_getElem? (i := 10) rfl)) (hw _ (List.mem_of_getElem? (i := 3) rfl)) (by decide) (by decide)) (g := (mkF m 107 #[.val (.int p0), .val (.int p1), .val (.int i), .val (.int j), .val (.int k), .val (.int (0 : Int32))] [(.int j), (.ref (own_st i w_CLIENT_DELETE_PROHIBITED w_CLIENT_HOLD w_CLIENT_RENEW_PROHIBITED w_CLIENT_TRANSFER_PROHIBITED w_CLIENT_UPDATE_PROHIBITED w_SERVER_DELETE_PROHIBITED w_SERVER_HOLD w_SERVER_RENEW_PROHIBITED w_SERVER_TRANSFER_PROHIBITED w_SERVER_UPDATE_PROHIBITED))])) rfl (by rw [hml]; rfl) (argsL := [(.int j)]) (rest := [(.ref (own_st i w_CLIENT_DELETE_PROHIBITED w_CLIENT_HOLD w_CLIENT_RENEW_PROHIBITED w_CLIENT_TRANSFER_PROHIBITED w_CLIENT_UPDATE_PROHIBITED w_SERVER_DELETE_PROHIBITED w_SERVER_HOLD w_SERVER_RENEW_PROHIBITED w_SERVER_TRANSFER_PROHIBITED w_SERVER_UPDATE_PROHIBITED))]) (lenOf pd_3 rfl) rfl (by show 2 * 0 + _ ≤ _; exact Nat.le_of_eq rfl) (hb hby at_107) (fun _ _ => ⟨rfl, e29, (by decide : 0 + 0 ≤ _), (by decide : 0 + 0 ≤ _)⟩)
            dsimp only [Pt.U, Pt.locs, Pt.cells, Pt.slots] at X30 l30 y30 z30 st30 hQ30
            subst l30 y30 z30
            obtain ⟨rfl, N30q, e30q⟩ := hQ30
            have N30 := Fr.app N29 N30q
            have e30 : T30.heap = h0 := e30q
            obtain ⟨cq31, kq31, q31a, q31b, q31c⟩ := isOf hZ e30 (show Exa Z h0 (own_st i w_CLIENT_DELETE_PROHIBITED w_CLIENT_HOLD w_CLIENT_RENEW_PROHIBITED w_CLIENT_TRANSFER_PROHIBITED w_CLIENT_UPDATE_PROHIBITED w_SERVER_DELETE_PROHIBITED w_SERVER_HOLD w_SERVER_RENEW_PROHIBITED w_SERVER_TRANSFER_PROHIBITED w_SERVER_UPDATE_PROHIBITED) "com/example/nameward/nameward/registry/Status" by unfold own_st; repeat' (split <;> try assumption))
            obtain ⟨_, _, ⟨T31, L31, k31, n31⟩, -, X31, ⟨Lc31, hQ31, l31, y31, z31⟩, st31⟩ := X30.virtualBack hx (y := (⟨"com/example/nameward/nameward/registry/Status", "prohibits", "(Lcom/example/nameward/nameward/registry/Status$Command;)Z"⟩ : MethodName)) (z := (⟨"com/example/nameward/nameward/registry/Status", "prohibits", "(Lcom/example/nameward/nameward/registry/Status$Command;)Z"⟩ : MethodName)) hown (mvT hZ (hw _ (List.mem_of_getElem? (i := 14) rfl))) (mvT hZ (hw _ (List.mem_of_getElem? (i := 15) rfl))) (notFace_of_selects (args := #[]) (mvT hZ (hw _ (List.mem_of_getElem? (i := 17) rfl)))) (mvT hZ (hw _ (List.mem_of_getElem? (i := 17) rfl))) (mvT hZ (hw _ (List.mem_of_getElem? (i := 16) rfl))) (by decide) (backOf (W := 0) (rm3 l Z a0 hw [] (own_st i w_CLIENT_DELETE_PROHIBITED w_CLIENT_HOLD w_CLIENT_RENEW_PROHIBITED w_CLIENT_TRANSFER_PROHIBITED w_CLIENT_UPDATE_PROHIBITED w_SERVER_DELETE_PROHIBITED w_SERVER_HOLD w_SERVER_RENEW_PROHIBITED w_SERVER_TRANSFER_PROHIBITED w_SERVER_UPDATE_PROHIBITED) (own_cmd j w_DELETE w_RENEW w_TRANSFER w_UPDATE) (own_pvi i w_DELETE w_RENEW w_TRANSFER w_UPDATE) h0 n0 Zn (FX i hi) (own_isref i w_DELETE w_RENEW w_TRANSFER w_UPDATE)) hZ (hw _ (List.mem_of_getElem? (i := 18) rfl)) (hw _ (List.mem_of_getElem? (i := 6) rfl)) (by decide) (by decide)) q31a q31c (g := (mkF m 110 #[.val (.int p0), .val (.int p1), .val (.int i), .val (.int j), .val (.int k), .val (.int (0 : Int32))] [(.ref (own_cmd j w_DELETE w_RENEW w_TRANSFER w_UPDATE)), (.ref (own_st i w_CLIENT_DELETE_PROHIBITED w_CLIENT_HOLD w_CLIENT_RENEW_PROHIBITED w_CLIENT_TRANSFER_PROHIBITED w_CLIENT_UPDATE_PROHIBITED w_SERVER_DELETE_PROHIBITED w_SERVER_HOLD w_SERVER_RENEW_PROHIBITED w_SERVER_TRANSFER_PROHIBITED w_SERVER_UPDATE_PROHIBITED))])) rfl (by rw [hml]; rfl) (Steps.refl _) (argsL := [(.ref (own_cmd j w_DELETE w_RENEW w_TRANSFER w_UPDATE))]) (rest := []) (lenOf pd_4 rfl) rfl (by show 2 * 0 + _ ≤ _; exact Nat.le_of_eq rfl) (hb hby at_110) (fun _ _ => ⟨rfl, e30, (by decide : 0 + 0 ≤ _), (by decide : 0 + 0 ≤ _)⟩)
            dsimp only [Pt.U, Pt.locs, Pt.cells, Pt.slots] at X31 l31 y31 z31 st31 hQ31
            subst l31 y31 z31
            obtain ⟨rfl, N31q, e31q⟩ := hQ31
            have N31 := Fr.app N30 N31q
            have e31 : T31.heap = h0 := e31q
            have hc115 : (own_pro (own_pvi i w_DELETE w_RENEW w_TRANSFER w_UPDATE) (own_cmd j w_DELETE w_RENEW w_TRANSFER w_UPDATE)) = (0 : Int32) := ((own_law o_DELETE o_RENEW o_TRANSFER o_UPDATE i j k hi hj hg_k).trans (by rw [if_neg hc20, if_neg hc31, if_neg hc51, if_pos hc72, if_neg hc77]))
            obtain ⟨fs, hr, hrun, hended, hW, hsame⟩ := X31.leave (v := some (.int (1 : Int32))) (fun h => by rw [Bd.returns] at h; cases h) hlk
            refine ⟨_, _, K25 _ ?_, hrun, hended, _, _, rfl, ?_, ⟨_, rfl⟩, hW, hsame.mono (by decide) (by decide)⟩
            ·
              show Steps p.tables e below (s₁.setTop (mkF m 77 #[.val (.int p0), .val (.int p1), .val (.int i), .val (.int j), .val (.int k), .unset] [(.int (2 : Int32)), (.int j)])) _
              refine XS.icmpYes X0.here hx rfl (pc0 := 77) (pc' := 84) rfl (hb hby at_77) rfl (feq hc77).2 (by decide) (by decide) ?_
              show Steps p.tables e below (s₁.setTop (mkF m 84 #[.val (.int p0), .val (.int p1), .val (.int i), .val (.int j), .val (.int k), .unset] [])) _
              refine XS.iconst X0.here hx rfl (hb hby at_84) ?_
              show Steps p.tables e below (s₁.setTop (mkF m 85 #[.val (.int p0), .val (.int p1), .val (.int i), .val (.int j), .val (.int k), .unset] [(.int (0 : Int32))])) _
              refine XS.istore X0.here hx rfl (hb hby at_85) rfl (l' := #[.val (.int p0), .val (.int p1), .val (.int i), .val (.int j), .val (.int k), .val (.int (0 : Int32))]) rfl ?_
              show Steps p.tables e below (s₁.setTop (mkF m 87 #[.val (.int p0), .val (.int p1), .val (.int i), .val (.int j), .val (.int k), .val (.int (0 : Int32))] [])) _
              refine XS.goto X0.here hx rfl (pc0 := 87) (pc' := 102) rfl (hb hby at_87) (by decide) (by decide) ?_
              show Steps p.tables e below (s₁.setTop (mkF m 102 #[.val (.int p0), .val (.int p1), .val (.int i), .val (.int j), .val (.int k), .val (.int (0 : Int32))] [])) _
              refine XS.iloadN X0.here hx rfl (hb hby at_102) rfl ?_
              show Steps p.tables e below (s₁.setTop (mkF m 103 #[.val (.int p0), .val (.int p1), .val (.int i), .val (.int j), .val (.int k), .val (.int (0 : Int32))] [(.int i)])) _
              refine st29 _ ?_
              show Steps p.tables e below (T29.setTop (mkF m 106 #[.val (.int p0), .val (.int p1), .val (.int i), .val (.int j), .val (.int k), .val (.int (0 : Int32))] [(.ref (own_st i w_CLIENT_DELETE_PROHIBITED w_CLIENT_HOLD w_CLIENT_RENEW_PROHIBITED w_CLIENT_TRANSFER_PROHIBITED w_CLIENT_UPDATE_PROHIBITED w_SERVER_DELETE_PROHIBITED w_SERVER_HOLD w_SERVER_RENEW_PROHIBITED w_SERVER_TRANSFER_PROHIBITED w_SERVER_UPDATE_PROHIBITED))])) _
              refine XS.iloadN X29.here hx rfl (hb hby at_106) rfl ?_
              show Steps p.tables e below (T29.setTop (mkF m 107 #[.val (.int p0), .val (.int p1), .val (.int i), .val (.int j), .val (.int k), .val (.int (0 : Int32))] [(.int j), (.ref (own_st i w_CLIENT_DELETE_PROHIBITED w_CLIENT_HOLD w_CLIENT_RENEW_PROHIBITED w_CLIENT_TRANSFER_PROHIBITED w_CLIENT_UPDATE_PROHIBITED w_SERVER_DELETE_PROHIBITED w_SERVER_HOLD w_SERVER_RENEW_PROHIBITED w_SERVER_TRANSFER_PROHIBITED w_SERVER_UPDATE_PROHIBITED))])) _
              refine st30 _ ?_
              show Steps p.tables e below (T30.setTop (mkF m 110 #[.val (.int p0), .val (.int p1), .val (.int i), .val (.int j), .val (.int k), .val (.int (0 : Int32))] [(.ref (own_cmd j w_DELETE w_RENEW w_TRANSFER w_UPDATE)), (.ref (own_st i w_CLIENT_DELETE_PROHIBITED w_CLIENT_HOLD w_CLIENT_RENEW_PROHIBITED w_CLIENT_TRANSFER_PROHIBITED w_CLIENT_UPDATE_PROHIBITED w_SERVER_DELETE_PROHIBITED w_SERVER_HOLD w_SERVER_RENEW_PROHIBITED w_SERVER_TRANSFER_PROHIBITED w_SERVER_UPDATE_PROHIBITED))])) _
              refine st31.trans ?_
              show Steps p.tables e below (T31.setTop (mkF m 113 #[.val (.int p0), .val (.int p1), .val (.int i), .val (.int j), .val (.int k), .val (.int (0 : Int32))] [(.int (own_pro (own_pvi i w_DELETE w_RENEW w_TRANSFER w_UPDATE) (own_cmd j w_DELETE w_RENEW w_TRANSFER w_UPDATE)))])) _
              refine XS.iload X31.here hx rfl (hb hby at_113) rfl ?_
              show Steps p.tables e below (T31.setTop (mkF m 115 #[.val (.int p0), .val (.int p1), .val (.int i), .val (.int j), .val (.int k), .val (.int (0 : Int32))] [(.int (0 : Int32)), (.int (own_pro (own_pvi i w_DELETE w_RENEW w_TRANSFER w_UPDATE) (own_cmd j w_DELETE w_RENEW w_TRANSFER w_UPDATE)))])) _
              refine XS.icmpNo X31.here hx rfl (hb hby at_115) rfl (teq hc115).2 ?_
              show Steps p.tables e below (T31.setTop (mkF m 118 #[.val (.int p0), .val (.int p1), .val (.int i), .val (.int j), .val (.int k), .val (.int (0 : Int32))] [])) _
              refine XS.iconst X31.here hx rfl (hb hby at_118) ?_
              show Steps p.tables e below (T31.setTop (mkF m 119 #[.val (.int p0), .val (.int p1), .val (.int i), .val (.int j), .val (.int k), .val (.int (0 : Int32))] [(.int (1 : Int32))])) _
              refine XS.goto X31.here hx rfl (pc0 := 119) (pc' := 123) rfl (hb hby at_119) (by decide) (by decide) ?_
              show Steps p.tables e below (T31.setTop (mkF m 123 #[.val (.int p0), .val (.int p1), .val (.int i), .val (.int j), .val (.int k), .val (.int (0 : Int32))] [(.int (1 : Int32))])) _
              exact retN X31 hx (t := .boolean) Bd.returns (by simp) (hb hby at_123) hr
            ·
              show Q_rm0 Z p0 p1 w_CLIENT_DELETE_PROHIBITED w_CLIENT_HOLD w_CLIENT_RENEW_PROHIBITED w_CLIENT_TRANSFER_PROHIBITED w_CLIENT_UPDATE_PROHIBITED w_SERVER_DELETE_PROHIBITED w_SERVER_HOLD w_SERVER_RENEW_PROHIBITED w_SERVER_TRANSFER_PROHIBITED w_SERVER_UPDATE_PROHIBITED w_DELETE w_RENEW w_TRANSFER w_UPDATE h0 n0 _ T31.heap _
              rw [e31]
              exact ⟨rfl, N31⟩
        ·
          have K32 : ∀ t, Steps p.tables e below (s₁.setTop (mkF m 92 #[.val (.int p0), .val (.int p1), .val (.int i), .val (.int j), .val (.int k), .unset] [(.int (3 : Int32)), (.int j)])) t → Steps p.tables e below (s₁.setTop (entryFrame m #[(.int p0), (.int p1)] maxLocals)) t := by
            intro t kt
            refine K24 t ?_
            show Steps p.tables e below (s₁.setTop (mkF m 72 #[.val (.int p0), .val (.int p1), .val (.int i), .val (.int j), .val (.int k), .unset] [(.int (3 : Int32)), (.int k)])) _
            refine XS.icmpYes X0.here hx rfl (pc0 := 72) (pc' := 90) rfl (hb hby at_72) rfl (feq hc72).2 (by decide) (by decide) ?_
            show Steps p.tables e below (s₁.setTop (mkF m 90 #[.val (.int p0), .val (.int p1), .val (.int i), .val (.int j), .val (.int k), .unset] [])) _
            refine XS.iloadN X0.here hx rfl (hb hby at_90) rfl ?_
            show Steps p.tables e below (s₁.setTop (mkF m 91 #[.val (.int p0), .val (.int p1), .val (.int i), .val (.int j), .val (.int k), .unset] [(.int j)])) _
            refine XS.iconst X0.here hx rfl (hb hby at_91) ?_
            exact kt
          by_cases hc92 : j = (3 : Int32)
          ·
            obtain ⟨_, _, ⟨T33, L33, k33, n33⟩, -, X33, ⟨Lc33, hQ33, l33, y33, z33⟩, st33⟩ := Jvm.LawKit.callS X0 hx (y := (⟨"com/example/nameward/nameward/registry/StatusProhibitsPinLaw", "status", "(I)Lcom/example/nameward/nameward/registry/Status;"⟩ : MethodName)) hown (mvT hZ (hw _ (List.mem_of_getElem? (i := 1) rfl))) (mvT hZ (hw _ (List.mem_of_getElem? (i := 2) rfl))) (mvT hZ (hw _ (List.mem_of_getElem? (i := 3) rfl))) (mvT hZ (hw _ (List.mem_of_getElem? (i := 4) rfl))) (by decide) (backOf (W := 0) (rm1 l Z a0 hw [] i w_CLIENT_DELETE_PROHIBITED w_CLIENT_HOLD w_CLIENT_RENEW_PROHIBITED w_CLIENT_TRANSFER_PROHIBITED w_CLIENT_UPDATE_PROHIBITED w_SERVER_DELETE_PROHIBITED w_SERVER_HOLD w_SERVER_RENEW_PROHIBITED w_SERVER_TRANSFER_PROHIBITED w_SERVER_UPDATE_PROHIBITED h0 n0 Zn S_CLIENT_DELETE_PROHIBITED S_CLIENT_HOLD S_CLIENT_RENEW_PROHIBITED S_CLIENT_TRANSFER_PROHIBITED S_CLIENT_UPDATE_PROHIBITED S_SERVER_DELETE_PROHIBITED S_SERVER_HOLD S_SERVER_RENEW_PROHIBITED S_SERVER_TRANSFER_PROHIBITED S_SERVER_UPDATE_PROHIBITED) hZ (hw _ (List.mem_of_getElem? (i := 4) rfl)) (hw _ (List.mem_of_getElem? (i := 3) rfl)) (by decide) (by decide)) (g := (mkF m 103 #[.val (.int p0), .val (.int p1), .val (.int i), .val (.int j), .val (.int k), .val (.int (1 : Int32))] [(.int i)])) rfl (by rw [hml]; rfl) (argsL := [(.int i)]) (rest := []) (lenOf pd_2 rfl) rfl (by show 2 * 0 + _ ≤ _; exact Nat.le_of_eq rfl) (hb hby at_103) (fun _ _ => ⟨rfl, e0, (by decide : 0 + 0 ≤ _), (by decide : 0 + 0 ≤ _)⟩)
            dsimp only [Pt.U, Pt.locs, Pt.cells, Pt.slots] at X33 l33 y33 z33 st33 hQ33
            subst l33 y33 z33
            obtain ⟨rfl, N33q, e33q⟩ := hQ33
            have N33 := Fr.app N0 N33q
            have e33 : T33.heap = h0 := e33q
            obtain ⟨_, _, ⟨T34, L34, k34, n34⟩, -, X34, ⟨Lc34, hQ34, l34, y34, z34⟩, st34⟩ := Jvm.LawKit.callS X33 hx (y := (⟨"com/example/nameward/nameward/registry/StatusProhibitsPinLaw", "command", "(I)Lcom/example/nameward/nameward/registry/Status$Command;"⟩ : MethodName)) hown (mvT hZ (hw _ (List.mem_of_getElem? (i := 8) rfl))) (mvT hZ (hw _ (List.mem_of_getElem? (i := 9) rfl))) (mvT hZ (hw _ (List.mem_of_getElem? (i := 3) rfl))) (mvT hZ (hw _ (List.mem_of_getElem? (i := 10) rfl))) (by decide) (backOf (W := 1) (rm2 l Z a0 hw [] j w_DELETE w_RENEW w_TRANSFER w_UPDATE h0 n0 Zn S_DELETE S_RENEW S_TRANSFER S_UPDATE) hZ (hw _ (List.mem_of_getElem? (i := 10) rfl)) (hw _ (List.mem_of_getElem? (i := 3) rfl)) (by decide) (by decide)) (g := (mkF m 107 #[.val (.int p0), .val (.int p1), .val (.int i), .val (.int j), .val (.int k), .val (.int (1 : Int32))] [(.int j), (.ref (own_st i w_CLIENT_DELETE_PROHIBITED w_CLIENT_HOLD w_CLIENT_RENEW_PROHIBITED w_CLIENT_TRANSFER_PROHIBITED w_CLIENT_UPDATE_PROHIBITED w_SERVER_DELETE_PROHIBITED w_SERVER_HOLD w_SERVER_RENEW_PROHIBITED w_SERVER_TRANSFER_PROHIBITED w_SERVER_UPDATE_PROHIBITED))])) rfl (by rw [hml]; rfl) (argsL := [(.int j)]) (rest := [(.ref (own_st i w_CLIENT_DELETE_PROHIBITED w_CLIENT_HOLD w_CLIENT_RENEW_PROHIBITED w_CLIENT_TRANSFER_PROHIBITED w_CLIENT_UPDATE_PROHIBITED w_SERVER_DELETE_PROHIBITED w_SERVER_HOLD w_SERVER_RENEW_PROHIBITED w_SERVER_TRANSFER_PROHIBITED w_SERVER_UPDATE_PROHIBITED))]) (lenOf pd_3 rfl) rfl (by show 2 * 0 + _ ≤ _; exact Nat.le_of_eq rfl) (hb hby at_107) (fun _ _ => ⟨rfl, e33, (by decide : 0 + 0 ≤ _), (by decide : 0 + 0 ≤ _)⟩)
            dsimp only [Pt.U, Pt.locs, Pt.cells, Pt.slots] at X34 l34 y34 z34 st34 hQ34
            subst l34 y34 z34
            obtain ⟨rfl, N34q, e34q⟩ := hQ34
            have N34 := Fr.app N33 N34q
            have e34 : T34.heap = h0 := e34q
            obtain ⟨cq35, kq35, q35a, q35b, q35c⟩ := isOf hZ e34 (show Exa Z h0 (own_st i w_CLIENT_DELETE_PROHIBITED w_CLIENT_HOLD w_CLIENT_RENEW_PROHIBITED w_CLIENT_TRANSFER_PROHIBITED w_CLIENT_UPDATE_PROHIBITED w_SERVER_DELETE_PROHIBITED w_SERVER_HOLD w_SERVER_RENEW_PROHIBITED w_SERVER_TRANSFER_PROHIBITED w_SERVER_UPDATE_PROHIBITED) "com/example/nameward/nameward/registry/Status" by unfold own_st; repeat' (split <;> try assumption))
            obtain ⟨_, _, ⟨T35, L35, k35, n35⟩, -, X35, ⟨Lc35, hQ35, l35, y35, z35⟩, st35⟩ := X34.virtualBack hx (y := (⟨"com/example/nameward/nameward/registry/Status", "prohibits", "(Lcom/example/nameward/nameward/registry/Status$Command;)Z"⟩ : MethodName)) (z := (⟨"com/example/nameward/nameward/registry/Status", "prohibits", "(Lcom/example/nameward/nameward/registry/Status$Command;)Z"⟩ : MethodName)) hown (mvT hZ (hw _ (List.mem_of_getElem? (i := 14) rfl))) (mvT hZ (hw _ (List.mem_of_getElem? (i := 15) rfl))) (notFace_of_selects (args := #[]) (mvT hZ (hw _ (List.mem_of_getElem? (i := 17) rfl)))) (mvT hZ (hw _ (List.mem_of_getElem? (i := 17) rfl))) (mvT hZ (hw _ (List.mem_of_getElem? (i := 16) rfl))) (by decide) (backOf (W := 0) (rm3 l Z a0 hw [] (own_st i w_CLIENT_DELETE_PROHIBITED w_CLIENT_HOLD w_CLIENT_RENEW_PROHIBITED w_CLIENT_TRANSFER_PROHIBITED w_CLIENT_UPDATE_PROHIBITED w_SERVER_DELETE_PROHIBITED w_SERVER_HOLD w_SERVER_RENEW_PROHIBITED w_SERVER_TRANSFER_PROHIBITED w_SERVER_UPDATE_PROHIBITED) (own_cmd j w_DELETE w_RENEW w_TRANSFER w_UPDATE) (own_pvi i w_DELETE w_RENEW w_TRANSFER w_UPDATE) h0 n0 Zn (FX i hi) (own_isref i w_DELETE w_RENEW w_TRANSFER w_UPDATE)) hZ (hw _ (List.mem_of_getElem? (i := 18) rfl)) (hw _ (List.mem_of_getElem? (i := 6) rfl)) (by decide) (by decide)) q35a q35c (g := (mkF m 110 #[.val (.int p0), .val (.int p1), .val (.int i), .val (.int j), .val (.int k), .val (.int (1 : Int32))] [(.ref (own_cmd j w_DELETE w_RENEW w_TRANSFER w_UPDATE)), (.ref (own_st i w_CLIENT_DELETE_PROHIBITED w_CLIENT_HOLD w_CLIENT_RENEW_PROHIBITED w_CLIENT_TRANSFER_PROHIBITED w_CLIENT_UPDATE_PROHIBITED w_SERVER_DELETE_PROHIBITED w_SERVER_HOLD w_SERVER_RENEW_PROHIBITED w_SERVER_TRANSFER_PROHIBITED w_SERVER_UPDATE_PROHIBITED))])) rfl (by rw [hml]; rfl) (Steps.refl _) (argsL := [(.ref (own_cmd j w_DELETE w_RENEW w_TRANSFER w_UPDATE))]) (rest := []) (lenOf pd_4 rfl) rfl (by show 2 * 0 + _ ≤ _; exact Nat.le_of_eq rfl) (hb hby at_110) (fun _ _ => ⟨rfl, e34, (by decide : 0 + 0 ≤ _), (by decide : 0 + 0 ≤ _)⟩)
            dsimp only [Pt.U, Pt.locs, Pt.cells, Pt.slots] at X35 l35 y35 z35 st35 hQ35
            subst l35 y35 z35
            obtain ⟨rfl, N35q, e35q⟩ := hQ35
            have N35 := Fr.app N34 N35q
            have e35 : T35.heap = h0 := e35q
            have hc115 : (own_pro (own_pvi i w_DELETE w_RENEW w_TRANSFER w_UPDATE) (own_cmd j w_DELETE w_RENEW w_TRANSFER w_UPDATE)) = (1 : Int32) := ((own_law o_DELETE o_RENEW o_TRANSFER o_UPDATE i j k hi hj hg_k).trans (by rw [if_neg hc20, if_neg hc31, if_neg hc51, if_neg hc72, if_pos hc92]))
            obtain ⟨fs, hr, hrun, hended, hW, hsame⟩ := X35.leave (v := some (.int (1 : Int32))) (fun h => by rw [Bd.returns] at h; cases h) hlk
            refine ⟨_, _, K32 _ ?_, hrun, hended, _, _, rfl, ?_, ⟨_, rfl⟩, hW, hsame.mono (by decide) (by decide)⟩
            ·
              show Steps p.tables e below (s₁.setTop (mkF m 92 #[.val (.int p0), .val (.int p1), .val (.int i), .val (.int j), .val (.int k), .unset] [(.int (3 : Int32)), (.int j)])) _
              refine XS.icmpNo X0.here hx rfl (hb hby at_92) rfl (teq hc92).2 ?_
              show Steps p.tables e below (s₁.setTop (mkF m 95 #[.val (.int p0), .val (.int p1), .val (.int i), .val (.int j), .val (.int k), .unset] [])) _
              refine XS.iconst X0.here hx rfl (hb hby at_95) ?_
              show Steps p.tables e below (s₁.setTop (mkF m 96 #[.val (.int p0), .val (.int p1), .val (.int i), .val (.int j), .val (.int k), .unset] [(.int (1 : Int32))])) _
              refine XS.goto X0.here hx rfl (pc0 := 96) (pc' := 100) rfl (hb hby at_96) (by decide) (by decide) ?_
              show Steps p.tables e below (s₁.setTop (mkF m 100 #[.val (.int p0), .val (.int p1), .val (.int i), .val (.int j), .val (.int k), .unset] [(.int (1 : Int32))])) _
              refine XS.istore X0.here hx rfl (hb hby at_100) rfl (l' := #[.val (.int p0), .val (.int p1), .val (.int i), .val (.int j), .val (.int k), .val (.int (1 : Int32))]) rfl ?_
              show Steps p.tables e below (s₁.setTop (mkF m 102 #[.val (.int p0), .val (.int p1), .val (.int i), .val (.int j), .val (.int k), .val (.int (1 : Int32))] [])) _
              refine XS.iloadN X0.here hx rfl (hb hby at_102) rfl ?_
              show Steps p.tables e below (s₁.setTop (mkF m 103 #[.val (.int p0), .val (.int p1), .val (.int i), .val (.int j), .val (.int k), .val (.int (1 : Int32))] [(.int i)])) _
              refine st33 _ ?_
              show Steps p.tables e below (T33.setTop (mkF m 106 #[.val (.int p0), .val (.int p1), .val (.int i), .val (.int j), .val (.int k), .val (.int (1 : Int32))] [(.ref (own_st i w_CLIENT_DELETE_PROHIBITED w_CLIENT_HOLD w_CLIENT_RENEW_PROHIBITED w_CLIENT_TRANSFER_PROHIBITED w_CLIENT_UPDATE_PROHIBITED w_SERVER_DELETE_PROHIBITED w_SERVER_HOLD w_SERVER_RENEW_PROHIBITED w_SERVER_TRANSFER_PROHIBITED w_SERVER_UPDATE_PROHIBITED))])) _
              refine XS.iloadN X33.here hx rfl (hb hby at_106) rfl ?_
              show Steps p.tables e below (T33.setTop (mkF m 107 #[.val (.int p0), .val (.int p1), .val (.int i), .val (.int j), .val (.int k), .val (.int (1 : Int32))] [(.int j), (.ref (own_st i w_CLIENT_DELETE_PROHIBITED w_CLIENT_HOLD w_CLIENT_RENEW_PROHIBITED w_CLIENT_TRANSFER_PROHIBITED w_CLIENT_UPDATE_PROHIBITED w_SERVER_DELETE_PROHIBITED w_SERVER_HOLD w_SERVER_RENEW_PROHIBITED w_SERVER_TRANSFER_PROHIBITED w_SERVER_UPDATE_PROHIBITED))])) _
              refine st34 _ ?_
              show Steps p.tables e below (T34.setTop (mkF m 110 #[.val (.int p0), .val (.int p1), .val (.int i), .val (.int j), .val (.int k), .val (.int (1 : Int32))] [(.ref (own_cmd j w_DELETE w_RENEW w_TRANSFER w_UPDATE)), (.ref (own_st i w_CLIENT_DELETE_PROHIBITED w_CLIENT_HOLD w_CLIENT_RENEW_PROHIBITED w_CLIENT_TRANSFER_PROHIBITED w_CLIENT_UPDATE_PROHIBITED w_SERVER_DELETE_PROHIBITED w_SERVER_HOLD w_SERVER_RENEW_PROHIBITED w_SERVER_TRANSFER_PROHIBITED w_SERVER_UPDATE_PROHIBITED))])) _
              refine st35.trans ?_
              show Steps p.tables e below (T35.setTop (mkF m 113 #[.val (.int p0), .val (.int p1), .val (.int i), .val (.int j), .val (.int k), .val (.int (1 : Int32))] [(.int (own_pro (own_pvi i w_DELETE w_RENEW w_TRANSFER w_UPDATE) (own_cmd j w_DELETE w_RENEW w_TRANSFER w_UPDATE)))])) _
              refine XS.iload X35.here hx rfl (hb hby at_113) rfl ?_
              show Steps p.tables e below (T35.setTop (mkF m 115 #[.val (.int p0), .val (.int p1), .val (.int i), .val (.int j), .val (.int k), .val (.int (1 : Int32))] [(.int (1 : Int32)), (.int (own_pro (own_pvi i w_DELETE w_RENEW w_TRANSFER w_UPDATE) (own_cmd j w_DELETE w_RENEW w_TRANSFER w_UPDATE)))])) _
              refine XS.icmpNo X35.here hx rfl (hb hby at_115) rfl (teq hc115).2 ?_
              show Steps p.tables e below (T35.setTop (mkF m 118 #[.val (.int p0), .val (.int p1), .val (.int i), .val (.int j), .val (.int k), .val (.int (1 : Int32))] [])) _
              refine XS.iconst X35.here hx rfl (hb hby at_118) ?_
              show Steps p.tables e below (T35.setTop (mkF m 119 #[.val (.int p0), .val (.int p1), .val (.int i), .val (.int j), .val (.int k), .val (.int (1 : Int32))] [(.int (1 : Int32))])) _
              refine XS.goto X35.here hx rfl (pc0 := 119) (pc' := 123) rfl (hb hby at_119) (by decide) (by decide) ?_
              show Steps p.tables e below (T35.setTop (mkF m 123 #[.val (.int p0), .val (.int p1), .val (.int i), .val (.int j), .val (.int k), .val (.int (1 : Int32))] [(.int (1 : Int32))])) _
              exact retN X35 hx (t := .boolean) Bd.returns (by simp) (hb hby at_123) hr
            ·
              show Q_rm0 Z p0 p1 w_CLIENT_DELETE_PROHIBITED w_CLIENT_HOLD w_CLIENT_RENEW_PROHIBITED w_CLIENT_TRANSFER_PROHIBITED w_CLIENT_UPDATE_PROHIBITED w_SERVER_DELETE_PROHIBITED w_SERVER_HOLD w_SERVER_RENEW_PROHIBITED w_SERVER_TRANSFER_PROHIBITED w_SERVER_UPDATE_PROHIBITED w_DELETE w_RENEW w_TRANSFER w_UPDATE h0 n0 _ T35.heap _
              rw [e35]
              exact ⟨rfl, N35⟩
          ·
            obtain ⟨_, _, ⟨T36, L36, k36, n36⟩, -, X36, ⟨Lc36, hQ36, l36, y36, z36⟩, st36⟩ := Jvm.LawKit.callS X0 hx (y := (⟨"com/example/nameward/nameward/registry/StatusProhibitsPinLaw", "status", "(I)Lcom/example/nameward/nameward/registry/Status;"⟩ : MethodName)) hown (mvT hZ (hw _ (List.mem_of_getElem? (i := 1) rfl))) (mvT hZ (hw _ (List.mem_of_getElem? (i := 2) rfl))) (mvT hZ (hw _ (List.mem_of_getElem? (i := 3) rfl))) (mvT hZ (hw _ (List.mem_of_getElem? (i := 4) rfl))) (by decide) (backOf (W := 0) (rm1 l Z a0 hw [] i w_CLIENT_DELETE_PROHIBITED w_CLIENT_HOLD w_CLIENT_RENEW_PROHIBITED w_CLIENT_TRANSFER_PROHIBITED w_CLIENT_UPDATE_PROHIBITED w_SERVER_DELETE_PROHIBITED w_SERVER_HOLD w_SERVER_RENEW_PROHIBITED w_SERVER_TRANSFER_PROHIBITED w_SERVER_UPDATE_PROHIBITED h0 n0 Zn S_CLIENT_DELETE_PROHIBITED S_CLIENT_HOLD S_CLIENT_RENEW_PROHIBITED S_CLIENT_TRANSFER_PROHIBITED S_CLIENT_UPDATE_PROHIBITED S_SERVER_DELETE_PROHIBITED S_SERVER_HOLD S_SERVER_RENEW_PROHIBITED S_SERVER_TRANSFER_PROHIBITED S_SERVER_UPDATE_PROHIBITED) hZ (hw _ (List.mem_of_getElem? (i := 4) rfl)) (hw _ (List.mem_of_getElem? (i := 3) rfl)) (by decide) (by decide)) (g := (mkF m 103 #[.val (.int p0), .val (.int p1), .val (.int i), .val (.int j), .val (.int k), .val (.int (0 : Int32))] [(.int i)])) rfl (by rw [hml]; rfl) (argsL := [(.int i)]) (rest := []) (lenOf pd_2 rfl) rfl (by show 2 * 0 + _ ≤ _; exact Nat.le_of_eq rfl) (hb hby at_103) (fun _ _ => ⟨rfl, e0, (by decide : 0 + 0 ≤ _), (by decide : 0 + 0 ≤ _)⟩)
            dsimp only [Pt.U, Pt.locs, Pt.cells, Pt.slots] at X36 l36 y36 z36 st36 hQ36
            subst l36 y36 z36
            obtain ⟨rfl, N36q, e36q⟩ := hQ36
            have N36 := Fr.app N0 N36q
            have e36 : T36.heap = h0 := e36q
            obtain ⟨_, _, ⟨T37, L37, k37, n37⟩, -, X37, ⟨Lc37, hQ37, l37, y37, z37⟩, st37⟩ := Jvm.LawKit.callS X36 hx (y := (⟨"com/example/nameward/nameward/registry/StatusProhibitsPinLaw", "command", "(I)Lcom/example/nameward/nameward/registry/Status$Command;"⟩ : MethodName)) hown (mvT hZ (hw _ (List.mem_of_getElem? (i := 8) rfl))) (mvT hZ (hw _ (List.mem_of_getElem? (i := 9) rfl))) (mvT hZ (hw _ (List.mem_of_getElem? (i := 3) rfl))) (mvT hZ (hw _ (List.mem_of_getElem? (i := 10) rfl))) (by decide) (backOf (W := 1) (rm2 l Z a0 hw [] j w_DELETE w_RENEW w_TRANSFER w_UPDATE h0 n0 Zn S_DELETE S_RENEW S_TRANSFER S_UPDATE) hZ (hw _ (List.mem_of_getElem? (i := 10) rfl)) (hw _ (List.mem_of_getElem? (i := 3) rfl)) (by decide) (by decide)) (g := (mkF m 107 #[.val (.int p0), .val (.int p1), .val (.int i), .val (.int j), .val (.int k), .val (.int (0 : Int32))] [(.int j), (.ref (own_st i w_CLIENT_DELETE_PROHIBITED w_CLIENT_HOLD w_CLIENT_RENEW_PROHIBITED w_CLIENT_TRANSFER_PROHIBITED w_CLIENT_UPDATE_PROHIBITED w_SERVER_DELETE_PROHIBITED w_SERVER_HOLD w_SERVER_RENEW_PROHIBITED w_SERVER_TRANSFER_PROHIBITED w_SERVER_UPDATE_PROHIBITED))])) rfl (by rw [hml]; rfl) (argsL := [(.int j)]) (rest := [(.ref (own_st i w_CLIENT_DELETE_PROHIBITED w_CLIENT_HOLD w_CLIENT_RENEW_PROHIBITED w_CLIENT_TRANSFER_PROHIBITED w_CLIENT_UPDATE_PROHIBITED w_SERVER_DELETE_PROHIBITED w_SERVER_HOLD w_SERVER_RENEW_PROHIBITED w_SERVER_TRANSFER_PROHIBITED w_SERVER_UPDATE_PROHIBITED))]) (lenOf pd_3 rfl) rfl (by show 2 * 0 + _ ≤ _; exact Nat.le_of_eq rfl) (hb hby at_107) (fun _ _ => ⟨rfl, e36, (by decide : 0 + 0 ≤ _), (by decide : 0 + 0 ≤ _)⟩)
            dsimp only [Pt.U, Pt.locs, Pt.cells, Pt.slots] at X37 l37 y37 z37 st37 hQ37
            subst l37 y37 z37
            obtain ⟨rfl, N37q, e37q⟩ := hQ37
            have N37 := Fr.app N36 N37q
            have e37 : T37.heap = h0 := e37q
            obtain ⟨cq38, kq38, q38a, q38b, q38c⟩ := isOf hZ e37 (show Exa Z h0 (own_st i w_CLIENT_DELETE_PROHIBITED w_CLIENT_HOLD w_CLIENT_RENEW_PROHIBITED w_CLIENT_TRANSFER_PROHIBITED w_CLIENT_UPDATE_PROHIBITED w_SERVER_DELETE_PROHIBITED w_SERVER_HOLD w_SERVER_RENEW_PROHIBITED w_SERVER_TRANSFER_PROHIBITED w_SERVER_UPDATE_PROHIBITED) "com/example/nameward/nameward/registry/Status" by unfold own_st; repeat' (split <;> try assumption))
            obtain ⟨_, _, ⟨T38, L38, k38, n38⟩, -, X38, ⟨Lc38, hQ38, l38, y38, z38⟩, st38⟩ := X37.virtualBack hx (y := (⟨"com/example/nameward/nameward/registry/Status", "prohibits", "(Lcom/example/nameward/nameward/registry/Status$Command;)Z"⟩ : MethodName)) (z := (⟨"com/example/nameward/nameward/registry/Status", "prohibits", "(Lcom/example/nameward/nameward/registry/Status$Command;)Z"⟩ : MethodName)) hown (mvT hZ (hw _ (List.mem_of_getElem? (i := 14) rfl))) (mvT hZ (hw _ (List.mem_of_getElem? (i := 15) rfl))) (notFace_of_selects (args := #[]) (mvT hZ (hw _ (List.mem_of_getElem? (i := 17) rfl)))) (mvT hZ (hw _ (List.mem_of_getElem? (i := 17) rfl))) (mvT hZ (hw _ (List.mem_of_getElem? (i := 16) rfl))) (by decide) (backOf (W := 0) (rm3 l Z a0 hw [] (own_st i w_CLIENT_DELETE_PROHIBITED w_CLIENT_HOLD w_CLIENT_RENEW_PROHIBITED w_CLIENT_TRANSFER_PROHIBITED w_CLIENT_UPDATE_PROHIBITED w_SERVER_DELETE_PROHIBITED w_SERVER_HOLD w_SERVER_RENEW_PROHIBITED w_SERVER_TRANSFER_PROHIBITED w_SERVER_UPDATE_PROHIBITED) (own_cmd j w_DELETE w_RENEW w_TRANSFER w_UPDATE) (own_pvi i w_DELETE w_RENEW w_TRANSFER w_UPDATE) h0 n0 Zn (FX i hi) (own_isref i w_DELETE w_RENEW w_TRANSFER w_UPDATE)) hZ (hw _ (List.mem_of_getElem? (i := 18) rfl)) (hw _ (List.mem_of_getElem? (i := 6) rfl)) (by decide) (by decide)) q38a q38c (g := (mkF m 110 #[.val (.int p0), .val (.int p1), .val (.int i), .val (.int j), .val (.int k), .val (.int (0 : Int32))] [(.ref (own_cmd j w_DELETE w_RENEW w_TRANSFER w_UPDATE)), (.ref (own_st i w_CLIENT_DELETE_PROHIBITED w_CLIENT_HOLD w_CLIENT_RENEW_PROHIBITED w_CLIENT_TRANSFER_PROHIBITED w_CLIENT_UPDATE_PROHIBITED w_SERVER_DELETE_PROHIBITED w_SERVER_HOLD w_SERVER_RENEW_PROHIBITED w_SERVER_TRANSFER_PROHIBITED w_SERVER_UPDATE_PROHIBITED))])) rfl (by rw [hml]; rfl) (Steps.refl _) (argsL := [(.ref (own_cmd j w_DELETE w_RENEW w_TRANSFER w_UPDATE))]) (rest := []) (lenOf pd_4 rfl) rfl (by show 2 * 0 + _ ≤ _; exact Nat.le_of_eq rfl) (hb hby at_110) (fun _ _ => ⟨rfl, e37, (by decide : 0 + 0 ≤ _), (by decide : 0 + 0 ≤ _)⟩)
            dsimp only [Pt.U, Pt.locs, Pt.cells, Pt.slots] at X38 l38 y38 z38 st38 hQ38
            subst l38 y38 z38
            obtain ⟨rfl, N38q, e38q⟩ := hQ38
            have N38 := Fr.app N37 N38q
            have e38 : T38.heap = h0 := e38q
            have hc115 : (own_pro (own_pvi i w_DELETE w_RENEW w_TRANSFER w_UPDATE) (own_cmd j w_DELETE w_RENEW w_TRANSFER w_UPDATE)) = (0 : Int32) := ((own_law o_DELETE o_RENEW o_TRANSFER o_UPDATE i j k hi hj hg_k).trans (by rw [if_neg hc20, if_neg hc31, if_neg hc51, if_neg hc72, if_neg hc92]))
            obtain ⟨fs, hr, hrun, hended, hW, hsame⟩ := X38.leave (v := some (.int (1 : Int32))) (fun h => by rw [Bd.returns] at h; cases h) hlk
            refine ⟨_, _, K32 _ ?_, hrun, hended, _, _, rfl, ?_, ⟨_, rfl⟩, hW, hsame.mono (by decide) (by decide)⟩
            ·
              show Steps p.tables e below (s₁.setTop (mkF m 92 #[.val (.int p0), .val (.int p1), .val (.int i), .val (.int j), .val (.int k), .unset] [(.int (3 : Int32)), (.int j)])) _
              refine XS.icmpYes X0.here hx rfl (pc0 := 92) (pc' := 99) rfl (hb hby at_92) rfl (feq hc92).2 (by decide) (by decide) ?_
              show Steps p.tables e below (s₁.setTop (mkF m 99 #[.val (.int p0), .val (.int p1), .val (.int i), .val (.int j), .val (.int k), .unset] [])) _
              refine XS.iconst X0.here hx rfl (hb hby at_99) ?_
              show Steps p.tables e below (s₁.setTop (mkF m 100 #[.val (.int p0), .val (.int p1), .val (.int i), .val (.int j), .val (.int k), .unset] [(.int (0 : Int32))])) _
              refine XS.istore X0.here hx rfl (hb hby at_100) rfl (l' := #[.val (.int p0), .val (.int p1), .val (.int i), .val (.int j), .val (.int k), .val (.int (0 : Int32))]) rfl ?_
              show Steps p.tables e below (s₁.setTop (mkF m 102 #[.val (.int p0), .val (.int p1), .val (.int i), .val (.int j), .val (.int k), .val (.int (0 : Int32))] [])) _
              refine XS.iloadN X0.here hx rfl (hb hby at_102) rfl ?_
              show Steps p.tables e below (s₁.setTop (mkF m 103 #[.val (.int p0), .val (.int p1), .val (.int i), .val (.int j), .val (.int k), .val (.int (0 : Int32))] [(.int i)])) _
              refine st36 _ ?_
              show Steps p.tables e below (T36.setTop (mkF m 106 #[.val (.int p0), .val (.int p1), .val (.int i), .val (.int j), .val (.int k), .val (.int (0 : Int32))] [(.ref (own_st i w_CLIENT_DELETE_PROHIBITED w_CLIENT_HOLD w_CLIENT_RENEW_PROHIBITED w_CLIENT_TRANSFER_PROHIBITED w_CLIENT_UPDATE_PROHIBITED w_SERVER_DELETE_PROHIBITED w_SERVER_HOLD w_SERVER_RENEW_PROHIBITED w_SERVER_TRANSFER_PROHIBITED w_SERVER_UPDATE_PROHIBITED))])) _
              refine XS.iloadN X36.here hx rfl (hb hby at_106) rfl ?_
              show Steps p.tables e below (T36.setTop (mkF m 107 #[.val (.int p0), .val (.int p1), .val (.int i), .val (.int j), .val (.int k), .val (.int (0 : Int32))] [(.int j), (.ref (own_st i w_CLIENT_DELETE_PROHIBITED w_CLIENT_HOLD w_CLIENT_RENEW_PROHIBITED w_CLIENT_TRANSFER_PROHIBITED w_CLIENT_UPDATE_PROHIBITED w_SERVER_DELETE_PROHIBITED w_SERVER_HOLD w_SERVER_RENEW_PROHIBITED w_SERVER_TRANSFER_PROHIBITED w_SERVER_UPDATE_PROHIBITED))])) _
              refine st37 _ ?_
              show Steps p.tables e below (T37.setTop (mkF m 110 #[.val (.int p0), .val (.int p1), .val (.int i), .val (.int j), .val (.int k), .val (.int (0 : Int32))] [(.ref (own_cmd j w_DELETE w_RENEW w_TRANSFER w_UPDATE)), (.ref (own_st i w_CLIENT_DELETE_PROHIBITED w_CLIENT_HOLD w_CLIENT_RENEW_PROHIBITED w_CLIENT_TRANSFER_PROHIBITED w_CLIENT_UPDATE_PROHIBITED w_SERVER_DELETE_PROHIBITED w_SERVER_HOLD w_SERVER_RENEW_PROHIBITED w_SERVER_TRANSFER_PROHIBITED w_SERVER_UPDATE_PROHIBITED))])) _
              refine st38.trans ?_
              show Steps p.tables e below (T38.setTop (mkF m 113 #[.val (.int p0), .val (.int p1), .val (.int i), .val (.int j), .val (.int k), .val (.int (0 : Int32))] [(.int (own_pro (own_pvi i w_DELETE w_RENEW w_TRANSFER w_UPDATE) (own_cmd j w_DELETE w_RENEW w_TRANSFER w_UPDATE)))])) _
              refine XS.iload X38.here hx rfl (hb hby at_113) rfl ?_
              show Steps p.tables e below (T38.setTop (mkF m 115 #[.val (.int p0), .val (.int p1), .val (.int i), .val (.int j), .val (.int k), .val (.int (0 : Int32))] [(.int (0 : Int32)), (.int (own_pro (own_pvi i w_DELETE w_RENEW w_TRANSFER w_UPDATE) (own_cmd j w_DELETE w_RENEW w_TRANSFER w_UPDATE)))])) _
              refine XS.icmpNo X38.here hx rfl (hb hby at_115) rfl (teq hc115).2 ?_
              show Steps p.tables e below (T38.setTop (mkF m 118 #[.val (.int p0), .val (.int p1), .val (.int i), .val (.int j), .val (.int k), .val (.int (0 : Int32))] [])) _
              refine XS.iconst X38.here hx rfl (hb hby at_118) ?_
              show Steps p.tables e below (T38.setTop (mkF m 119 #[.val (.int p0), .val (.int p1), .val (.int i), .val (.int j), .val (.int k), .val (.int (0 : Int32))] [(.int (1 : Int32))])) _
              refine XS.goto X38.here hx rfl (pc0 := 119) (pc' := 123) rfl (hb hby at_119) (by decide) (by decide) ?_
              show Steps p.tables e below (T38.setTop (mkF m 123 #[.val (.int p0), .val (.int p1), .val (.int i), .val (.int j), .val (.int k), .val (.int (0 : Int32))] [(.int (1 : Int32))])) _
              exact retN X38 hx (t := .boolean) Bd.returns (by simp) (hb hby at_123) hr
            ·
              show Q_rm0 Z p0 p1 w_CLIENT_DELETE_PROHIBITED w_CLIENT_HOLD w_CLIENT_RENEW_PROHIBITED w_CLIENT_TRANSFER_PROHIBITED w_CLIENT_UPDATE_PROHIBITED w_SERVER_DELETE_PROHIBITED w_SERVER_HOLD w_SERVER_RENEW_PROHIBITED w_SERVER_TRANSFER_PROHIBITED w_SERVER_UPDATE_PROHIBITED w_DELETE w_RENEW w_TRANSFER w_UPDATE h0 n0 _ T38.heap _
              rw [e38]
              exact ⟨rfl, N38⟩
theorem own_feq {args : Array Value} {s : State} {t u : Term} {a : Addr} {C n d : String} {v : Value} (ht : t.eval args s none [] s = some (.ref a)) (hu : u.eval args s none [] s = some v) (h : (Cond.eq (.field t C n d) u).value args s none s [] = some true) : s.fieldOf? a C n d = some v := by
  rw [← fld_at (C := C) (n := n) (dd := d) ht]
  cases hf : (Term.field t C n d).eval args s none [] s with
  | none => simp [Cond.value, hf] at h
  | some w => cases w <;> cases v <;> simp [Cond.value, hf, hu] at h ⊢ <;> exact h
set_option maxRecDepth 65536 in
set_option maxHeartbeats 40000000 in
theorem comes_1 {Post : Tables → Env → Array Value → State → Outcome → State → Prop} (hpost : ∀ tb e args s v u, (limb_1_1.after args s (.returned v) u = true ∧ limb_1_2.after args s (.returned v) u = true ∧ True) → FrameEnd s (.returned v) u (Jvm.fieldLocs frame_1_writes args s ++ Jvm.arrayLocs frame_1_arrays args s ++ Jvm.staticLocs frame_1_statics s) 0 0 → Post tb e args s (.returned v) u) :
    ArmFor flags0 classFile x code maxLocals ret World_1 tables_1 room_1 Calls_1 rest_1 Pre_1 Post := by
  intro l hfl _ _ p e ha hc hk s m args below hf hA hF happ hP
  obtain ⟨hcalls, hrest, hpre⟩ := hP
  obtain ⟨-, -, -, hnamed, -, -, -, hat⟩ := (Spec.applies_iff hf).mp happ
  obtain ⟨hg, hn⟩ := and_e (Cond.before_iff.mp (show (Jvm.Cond.and given_1 narrow_1).before args s = true from hpre))
  obtain ⟨hg0, hg⟩ := and_e hg
  obtain ⟨ga0, hg⟩ := and_e hg
  have ga1 := hg
  obtain ⟨w0, w1, rfl⟩ : ∃ w0 w1 : Value, args = #[w0, w1] := by
    have hs : args.size = 2 := by simpa [Cond.value, given_1] using hg0
    obtain ⟨L⟩ := args
    match L, hs with
    | [w0, w1], _ => exact ⟨w0, w1, rfl⟩
  have hw := fun d (hd : d ∈ tables_1) => atoms_spec (ws := Jvm.Cond.code x code maxLocals ret :: tables_1) hat d (List.mem_cons_of_mem _ hd)
  have hfit : Fit s := fun {y c} hc i hi => by
    obtain ⟨ha, rfl⟩ := Array.getElem?_eq_some_iff.mp hc
    have q := List.all_eq_true.mp ((Array.all_eq_true_iff_forall_mem.mp hF) _ (Array.getElem_mem ha)) i (List.mem_range.mpr hi)
    simpa [Array.getElem?_eq_getElem hi] using q
  obtain ⟨i0, ei0⟩ := is_v ga0
  obtain rfl : w0 = (.int i0) := Option.some.inj ei0
  obtain ⟨i1, ei1⟩ := is_v ga1
  obtain rfl : w1 = (.int i1) := Option.some.inj ei1
  obtain ⟨cn0, hn⟩ := and_e hn
  obtain ⟨cn1, hn⟩ := and_e hn
  obtain ⟨cn2, hn⟩ := and_e hn
  obtain ⟨cn3, hn⟩ := and_e hn
  obtain ⟨cn4, hn⟩ := and_e hn
  obtain ⟨cn5, hn⟩ := and_e hn
  obtain ⟨cn6, hn⟩ := and_e hn
  obtain ⟨cn7, hn⟩ := and_e hn
  obtain ⟨cn8, hn⟩ := and_e hn
  obtain ⟨cn9, hn⟩ := and_e hn
  obtain ⟨cn10, hn⟩ := and_e hn
  obtain ⟨cn11, hn⟩ := and_e hn
  obtain ⟨cn12, hn⟩ := and_e hn
  obtain ⟨cn13, hn⟩ := and_e hn
  obtain ⟨cn14, hn⟩ := and_e hn
  obtain ⟨cn15, hn⟩ := and_e hn
  obtain ⟨cn16, hn⟩ := and_e hn
  obtain ⟨cn17, hn⟩ := and_e hn
  obtain ⟨cn18, hn⟩ := and_e hn
  obtain ⟨cn19, hn⟩ := and_e hn
  obtain ⟨cn20, hn⟩ := and_e hn
  obtain ⟨cn21, hn⟩ := and_e hn
  obtain ⟨cn22, hn⟩ := and_e hn
  obtain ⟨cn23, hn⟩ := and_e hn
  obtain ⟨cn24, hn⟩ := and_e hn
  obtain ⟨cn25, hn⟩ := and_e hn
  obtain ⟨cn26, hn⟩ := and_e hn
  have cn27 := hn
  obtain ⟨w_CLIENT_DELETE_PROHIBITED, ev_CLIENT_DELETE_PROHIBITED⟩ := exa_v cn0
  have S_CLIENT_DELETE_PROHIBITED : Sta s s.heap "com/example/nameward/nameward/registry/Status" "CLIENT_DELETE_PROHIBITED" "Lcom/example/nameward/nameward/registry/Status;" (.ref w_CLIENT_DELETE_PROHIBITED) := Sta.start ev_CLIENT_DELETE_PROHIBITED (Or.inr ⟨(hw _ (List.mem_of_getElem? (i := 6) rfl)), (hw _ (List.mem_of_getElem? (i := 7) rfl))⟩)
  have E_w_CLIENT_DELETE_PROHIBITED : Exa s s.heap w_CLIENT_DELETE_PROHIBITED "com/example/nameward/nameward/registry/Status" := Exa.start ev_CLIENT_DELETE_PROHIBITED cn0
  obtain ⟨w_UPDATE, ev_UPDATE⟩ := exa_v cn1
  have S_UPDATE : Sta s s.heap "com/example/nameward/nameward/registry/Status$Command" "UPDATE" "Lcom/example/nameward/nameward/registry/Status$Command;" (.ref w_UPDATE) := Sta.start ev_UPDATE (Or.inr ⟨(hw _ (List.mem_of_getElem? (i := 12) rfl)), (hw _ (List.mem_of_getElem? (i := 13) rfl))⟩)
  have E_w_UPDATE : Exa s s.heap w_UPDATE "com/example/nameward/nameward/registry/Status$Command" := Exa.start ev_UPDATE cn1
  obtain ⟨w_DELETE, ev_DELETE⟩ := exa_v cn2
  have S_DELETE : Sta s s.heap "com/example/nameward/nameward/registry/Status$Command" "DELETE" "Lcom/example/nameward/nameward/registry/Status$Command;" (.ref w_DELETE) := Sta.start ev_DELETE (Or.inr ⟨(hw _ (List.mem_of_getElem? (i := 12) rfl)), (hw _ (List.mem_of_getElem? (i := 21) rfl))⟩)
  have E_w_DELETE : Exa s s.heap w_DELETE "com/example/nameward/nameward/registry/Status$Command" := Exa.start ev_DELETE cn2
  obtain ⟨w_CLIENT_UPDATE_PROHIBITED, ev_CLIENT_UPDATE_PROHIBITED⟩ := exa_v cn6
  have S_CLIENT_UPDATE_PROHIBITED : Sta s s.heap "com/example/nameward/nameward/registry/Status" "CLIENT_UPDATE_PROHIBITED" "Lcom/example/nameward/nameward/registry/Status;" (.ref w_CLIENT_UPDATE_PROHIBITED) := Sta.start ev_CLIENT_UPDATE_PROHIBITED (Or.inr ⟨(hw _ (List.mem_of_getElem? (i := 6) rfl)), (hw _ (List.mem_of_getElem? (i := 23) rfl))⟩)
  have E_w_CLIENT_UPDATE_PROHIBITED : Exa s s.heap w_CLIENT_UPDATE_PROHIBITED "com/example/nameward/nameward/registry/Status" := Exa.start ev_CLIENT_UPDATE_PROHIBITED cn6
  obtain ⟨w_RENEW, ev_RENEW⟩ := exa_v cn7
  have S_RENEW : Sta s s.heap "com/example/nameward/nameward/registry/Status$Command" "RENEW" "Lcom/example/nameward/nameward/registry/Status$Command;" (.ref w_RENEW) := Sta.start ev_RENEW (Or.inr ⟨(hw _ (List.mem_of_getElem? (i := 12) rfl)), (hw _ (List.mem_of_getElem? (i := 25) rfl))⟩)
  have E_w_RENEW : Exa s s.heap w_RENEW "com/example/nameward/nameward/registry/Status$Command" := Exa.start ev_RENEW cn7
  obtain ⟨w_SERVER_TRANSFER_PROHIBITED, ev_SERVER_TRANSFER_PROHIBITED⟩ := exa_v cn10
  have S_SERVER_TRANSFER_PROHIBITED : Sta s s.heap "com/example/nameward/nameward/registry/Status" "SERVER_TRANSFER_PROHIBITED" "Lcom/example/nameward/nameward/registry/Status;" (.ref w_SERVER_TRANSFER_PROHIBITED) := Sta.start ev_SERVER_TRANSFER_PROHIBITED (Or.inr ⟨(hw _ (List.mem_of_getElem? (i := 6) rfl)), (hw _ (List.mem_of_getElem? (i := 27) rfl))⟩)
  have E_w_SERVER_TRANSFER_PROHIBITED : Exa s s.heap w_SERVER_TRANSFER_PROHIBITED "com/example/nameward/nameward/registry/Status" := Exa.start ev_SERVER_TRANSFER_PROHIBITED cn10
  obtain ⟨w_TRANSFER, ev_TRANSFER⟩ := exa_v cn11
  have S_TRANSFER : Sta s s.heap "com/example/nameward/nameward/registry/Status$Command" "TRANSFER" "Lcom/example/nameward/nameward/registry/Status$Command;" (.ref w_TRANSFER) := Sta.start ev_TRANSFER (Or.inr ⟨(hw _ (List.mem_of_getElem? (i := 12) rfl)), (hw _ (List.mem_of_getElem? (i := 28) rfl))⟩)
  have E_w_TRANSFER : Exa s s.heap w_TRANSFER "com/example/nameward/nameward/registry/Status$Command" := Exa.start ev_TRANSFER cn11
  obtain ⟨w_SERVER_HOLD, ev_SERVER_HOLD⟩ := exa_v cn14
  have S_SERVER_HOLD : Sta s s.heap "com/example/nameward/nameward/registry/Status" "SERVER_HOLD" "Lcom/example/nameward/nameward/registry/Status;" (.ref w_SERVER_HOLD) := Sta.start ev_SERVER_HOLD (Or.inr ⟨(hw _ (List.mem_of_getElem? (i := 6) rfl)), (hw _ (List.mem_of_getElem? (i := 30) rfl))⟩)
  have E_w_SERVER_HOLD : Exa s s.heap w_SERVER_HOLD "com/example/nameward/nameward/registry/Status" := Exa.start ev_SERVER_HOLD cn14
  obtain ⟨w_SERVER_UPDATE_PROHIBITED, ev_SERVER_UPDATE_PROHIBITED⟩ := exa_v cn16
  have S_SERVER_UPDATE_PROHIBITED : Sta s s.heap "com/example/nameward/nameward/registry/Status" "SERVER_UPDATE_PROHIBITED" "Lcom/example/nameward/nameward/registry/Status;" (.ref w_SERVER_UPDATE_PROHIBITED) := Sta.start ev_SERVER_UPDATE_PROHIBITED (Or.inr ⟨(hw _ (List.mem_of_getElem? (i := 6) rfl)), (hw _ (List.mem_of_getElem? (i := 33) rfl))⟩)
  have E_w_SERVER_UPDATE_PROHIBITED : Exa s s.heap w_SERVER_UPDATE_PROHIBITED "com/example/nameward/nameward/registry/Status" := Exa.start ev_SERVER_UPDATE_PROHIBITED cn16
  obtain ⟨w_CLIENT_RENEW_PROHIBITED, ev_CLIENT_RENEW_PROHIBITED⟩ := exa_v cn18
  have S_CLIENT_RENEW_PROHIBITED : Sta s s.heap "com/example/nameward/nameward/registry/Status" "CLIENT_RENEW_PROHIBITED" "Lcom/example/nameward/nameward/registry/Status;" (.ref w_CLIENT_RENEW_PROHIBITED) := Sta.start ev_CLIENT_RENEW_PROHIBITED (Or.inr ⟨(hw _ (List.mem_of_getElem? (i := 6) rfl)), (hw _ (List.mem_of_getElem? (i := 35) rfl))⟩)
  have E_w_CLIENT_RENEW_PROHIBITED : Exa s s.heap w_CLIENT_RENEW_PROHIBITED "com/example/nameward/nameward/registry/Status" := Exa.start ev_CLIENT_RENEW_PROHIBITED cn18
  obtain ⟨w_CLIENT_TRANSFER_PROHIBITED, ev_CLIENT_TRANSFER_PROHIBITED⟩ := exa_v cn20
  have S_CLIENT_TRANSFER_PROHIBITED : Sta s s.heap "com/example/nameward/nameward/registry/Status" "CLIENT_TRANSFER_PROHIBITED" "Lcom/example/nameward/nameward/registry/Status;" (.ref w_CLIENT_TRANSFER_PROHIBITED) := Sta.start ev_CLIENT_TRANSFER_PROHIBITED (Or.inr ⟨(hw _ (List.mem_of_getElem? (i := 6) rfl)), (hw _ (List.mem_of_getElem? (i := 38) rfl))⟩)
  have E_w_CLIENT_TRANSFER_PROHIBITED : Exa s s.heap w_CLIENT_TRANSFER_PROHIBITED "com/example/nameward/nameward/registry/Status" := Exa.start ev_CLIENT_TRANSFER_PROHIBITED cn20
  obtain ⟨w_CLIENT_HOLD, ev_CLIENT_HOLD⟩ := exa_v cn22
  have S_CLIENT_HOLD : Sta s s.heap "com/example/nameward/nameward/registry/Status" "CLIENT_HOLD" "Lcom/example/nameward/nameward/registry/Status;" (.ref w_CLIENT_HOLD) := Sta.start ev_CLIENT_HOLD (Or.inr ⟨(hw _ (List.mem_of_getElem? (i := 6) rfl)), (hw _ (List.mem_of_getElem? (i := 40) rfl))⟩)
  have E_w_CLIENT_HOLD : Exa s s.heap w_CLIENT_HOLD "com/example/nameward/nameward/registry/Status" := Exa.start ev_CLIENT_HOLD cn22
  obtain ⟨w_SERVER_DELETE_PROHIBITED, ev_SERVER_DELETE_PROHIBITED⟩ := exa_v cn24
  have S_SERVER_DELETE_PROHIBITED : Sta s s.heap "com/example/nameward/nameward/registry/Status" "SERVER_DELETE_PROHIBITED" "Lcom/example/nameward/nameward/registry/Status;" (.ref w_SERVER_DELETE_PROHIBITED) := Sta.start ev_SERVER_DELETE_PROHIBITED (Or.inr ⟨(hw _ (List.mem_of_getElem? (i := 6) rfl)), (hw _ (List.mem_of_getElem? (i := 42) rfl))⟩)
  have E_w_SERVER_DELETE_PROHIBITED : Exa s s.heap w_SERVER_DELETE_PROHIBITED "com/example/nameward/nameward/registry/Status" := Exa.start ev_SERVER_DELETE_PROHIBITED cn24
  obtain ⟨w_SERVER_RENEW_PROHIBITED, ev_SERVER_RENEW_PROHIBITED⟩ := exa_v cn26
  have S_SERVER_RENEW_PROHIBITED : Sta s s.heap "com/example/nameward/nameward/registry/Status" "SERVER_RENEW_PROHIBITED" "Lcom/example/nameward/nameward/registry/Status;" (.ref w_SERVER_RENEW_PROHIBITED) := Sta.start ev_SERVER_RENEW_PROHIBITED (Or.inr ⟨(hw _ (List.mem_of_getElem? (i := 6) rfl)), (hw _ (List.mem_of_getElem? (i := 44) rfl))⟩)
  have E_w_SERVER_RENEW_PROHIBITED : Exa s s.heap w_SERVER_RENEW_PROHIBITED "com/example/nameward/nameward/registry/Status" := Exa.start ev_SERVER_RENEW_PROHIBITED cn26
  have q_DELETE := (fld_at ev_DELETE).symm.trans (own_eqv cn4)
  have o_DELETE := own_ordv q_DELETE
  have q_UPDATE := (fld_at ev_UPDATE).symm.trans (own_eqv cn5)
  have o_UPDATE := own_ordv q_UPDATE
  have q_RENEW := (fld_at ev_RENEW).symm.trans (own_eqv cn9)
  have o_RENEW := own_ordv q_RENEW
  have q_TRANSFER := (fld_at ev_TRANSFER).symm.trans (own_eqv cn13)
  have o_TRANSFER := own_ordv q_TRANSFER
  have F_CLIENT_DELETE_PROHIBITED : Fld s s.heap w_CLIENT_DELETE_PROHIBITED "com/example/nameward/nameward/registry/Status" "prohibited" "Lcom/example/nameward/nameward/registry/Status$Command;" (.ref w_DELETE) := Fld.start (own_feq ev_CLIENT_DELETE_PROHIBITED ev_DELETE cn3)
  have F_CLIENT_HOLD : Fld s s.heap w_CLIENT_HOLD "com/example/nameward/nameward/registry/Status" "prohibited" "Lcom/example/nameward/nameward/registry/Status$Command;" .null := Fld.start (own_feq ev_CLIENT_HOLD rfl cn23)
  have F_CLIENT_RENEW_PROHIBITED : Fld s s.heap w_CLIENT_RENEW_PROHIBITED "com/example/nameward/nameward/registry/Status" "prohibited" "Lcom/example/nameward/nameward/registry/Status$Command;" (.ref w_RENEW) := Fld.start (own_feq ev_CLIENT_RENEW_PROHIBITED ev_RENEW cn19)
  have F_CLIENT_TRANSFER_PROHIBITED : Fld s s.heap w_CLIENT_TRANSFER_PROHIBITED "com/example/nameward/nameward/registry/Status" "prohibited" "Lcom/example/nameward/nameward/registry/Status$Command;" (.ref w_TRANSFER) := Fld.start (own_feq ev_CLIENT_TRANSFER_PROHIBITED ev_TRANSFER cn21)
  have F_CLIENT_UPDATE_PROHIBITED : Fld s s.heap w_CLIENT_UPDATE_PROHIBITED "com/example/nameward/nameward/registry/Status" "prohibited" "Lcom/example/nameward/nameward/registry/Status$Command;" (.ref w_UPDATE) := Fld.start (own_feq ev_CLIENT_UPDATE_PROHIBITED ev_UPDATE cn8)
  have F_SERVER_DELETE_PROHIBITED : Fld s s.heap w_SERVER_DELETE_PROHIBITED "com/example/nameward/nameward/registry/Status" "prohibited" "Lcom/example/nameward/nameward/registry/Status$Command;" (.ref w_DELETE) := Fld.start (own_feq ev_SERVER_DELETE_PROHIBITED ev_DELETE cn25)
  have F_SERVER_HOLD : Fld s s.heap w_SERVER_HOLD "com/example/nameward/nameward/registry/Status" "prohibited" "Lcom/example/nameward/nameward/registry/Status$Command;" .null := Fld.start (own_feq ev_SERVER_HOLD rfl cn15)
  have F_SERVER_RENEW_PROHIBITED : Fld s s.heap w_SERVER_RENEW_PROHIBITED "com/example/nameward/nameward/registry/Status" "prohibited" "Lcom/example/nameward/nameward/registry/Status$Command;" (.ref w_RENEW) := Fld.start (own_feq ev_SERVER_RENEW_PROHIBITED ev_RENEW cn27)
  have F_SERVER_TRANSFER_PROHIBITED : Fld s s.heap w_SERVER_TRANSFER_PROHIBITED "com/example/nameward/nameward/registry/Status" "prohibited" "Lcom/example/nameward/nameward/registry/Status$Command;" (.ref w_TRANSFER) := Fld.start (own_feq ev_SERVER_TRANSFER_PROHIBITED ev_TRANSFER cn12)
  have F_SERVER_UPDATE_PROHIBITED : Fld s s.heap w_SERVER_UPDATE_PROHIBITED "com/example/nameward/nameward/registry/Status" "prohibited" "Lcom/example/nameward/nameward/registry/Status$Command;" (.ref w_UPDATE) := Fld.start (own_feq ev_SERVER_UPDATE_PROHIBITED ev_UPDATE cn17)
  have FX : ∀ i : Int32, (i = 0 ∨ i = 1 ∨ i = 2 ∨ i = 3 ∨ i = 4 ∨ i = 5 ∨ i = 6 ∨ i = 7 ∨ i = 8 ∨ i = 9) → Fld s s.heap (own_st i w_CLIENT_DELETE_PROHIBITED w_CLIENT_HOLD w_CLIENT_RENEW_PROHIBITED w_CLIENT_TRANSFER_PROHIBITED w_CLIENT_UPDATE_PROHIBITED w_SERVER_DELETE_PROHIBITED w_SERVER_HOLD w_SERVER_RENEW_PROHIBITED w_SERVER_TRANSFER_PROHIBITED w_SERVER_UPDATE_PROHIBITED) "com/example/nameward/nameward/registry/Status" "prohibited" "Lcom/example/nameward/nameward/registry/Status$Command;" (own_pvi i w_DELETE w_RENEW w_TRANSFER w_UPDATE) := by
    intro i hi
    rcases hi with rfl | rfl | rfl | rfl | rfl | rfl | rfl | rfl | rfl | rfl
    · rw [show own_st 0 w_CLIENT_DELETE_PROHIBITED w_CLIENT_HOLD w_CLIENT_RENEW_PROHIBITED w_CLIENT_TRANSFER_PROHIBITED w_CLIENT_UPDATE_PROHIBITED w_SERVER_DELETE_PROHIBITED w_SERVER_HOLD w_SERVER_RENEW_PROHIBITED w_SERVER_TRANSFER_PROHIBITED w_SERVER_UPDATE_PROHIBITED = w_CLIENT_DELETE_PROHIBITED by simp +decide [own_st], show own_pvi 0 w_DELETE w_RENEW w_TRANSFER w_UPDATE = Value.ref w_DELETE by simp +decide [own_pvi]]; exact F_CLIENT_DELETE_PROHIBITED
    · rw [show own_st 1 w_CLIENT_DELETE_PROHIBITED w_CLIENT_HOLD w_CLIENT_RENEW_PROHIBITED w_CLIENT_TRANSFER_PROHIBITED w_CLIENT_UPDATE_PROHIBITED w_SERVER_DELETE_PROHIBITED w_SERVER_HOLD w_SERVER_RENEW_PROHIBITED w_SERVER_TRANSFER_PROHIBITED w_SERVER_UPDATE_PROHIBITED = w_CLIENT_HOLD by simp +decide [own_st], show own_pvi 1 w_DELETE w_RENEW w_TRANSFER w_UPDATE = Value.null by simp +decide [own_pvi]]; exact F_CLIENT_HOLD
    · rw [show own_st 2 w_CLIENT_DELETE_PROHIBITED w_CLIENT_HOLD w_CLIENT_RENEW_PROHIBITED w_CLIENT_TRANSFER_PROHIBITED w_CLIENT_UPDATE_PROHIBITED w_SERVER_DELETE_PROHIBITED w_SERVER_HOLD w_SERVER_RENEW_PROHIBITED w_SERVER_TRANSFER_PROHIBITED w_SERVER_UPDATE_PROHIBITED = w_CLIENT_RENEW_PROHIBITED by simp +decide [own_st], show own_pvi 2 w_DELETE w_RENEW w_TRANSFER w_UPDATE = Value.ref w_RENEW by simp +decide [own_pvi]]; exact F_CLIENT_RENEW_PROHIBITED
    · rw [show own_st 3 w_CLIENT_DELETE_PROHIBITED w_CLIENT_HOLD w_CLIENT_RENEW_PROHIBITED w_CLIENT_TRANSFER_PROHIBITED w_CLIENT_UPDATE_PROHIBITED w_SERVER_DELETE_PROHIBITED w_SERVER_HOLD w_SERVER_RENEW_PROHIBITED w_SERVER_TRANSFER_PROHIBITED w_SERVER_UPDATE_PROHIBITED = w_CLIENT_TRANSFER_PROHIBITED by simp +decide [own_st], show own_pvi 3 w_DELETE w_RENEW w_TRANSFER w_UPDATE = Value.ref w_TRANSFER by simp +decide [own_pvi]]; exact F_CLIENT_TRANSFER_PROHIBITED
    · rw [show own_st 4 w_CLIENT_DELETE_PROHIBITED w_CLIENT_HOLD w_CLIENT_RENEW_PROHIBITED w_CLIENT_TRANSFER_PROHIBITED w_CLIENT_UPDATE_PROHIBITED w_SERVER_DELETE_PROHIBITED w_SERVER_HOLD w_SERVER_RENEW_PROHIBITED w_SERVER_TRANSFER_PROHIBITED w_SERVER_UPDATE_PROHIBITED = w_CLIENT_UPDATE_PROHIBITED by simp +decide [own_st], show own_pvi 4 w_DELETE w_RENEW w_TRANSFER w_UPDATE = Value.ref w_UPDATE by simp +decide [own_pvi]]; exact F_CLIENT_UPDATE_PROHIBITED
    · rw [show own_st 5 w_CLIENT_DELETE_PROHIBITED w_CLIENT_HOLD w_CLIENT_RENEW_PROHIBITED w_CLIENT_TRANSFER_PROHIBITED w_CLIENT_UPDATE_PROHIBITED w_SERVER_DELETE_PROHIBITED w_SERVER_HOLD w_SERVER_RENEW_PROHIBITED w_SERVER_TRANSFER_PROHIBITED w_SERVER_UPDATE_PROHIBITED = w_SERVER_DELETE_PROHIBITED by simp +decide [own_st], show own_pvi 5 w_DELETE w_RENEW w_TRANSFER w_UPDATE = Value.ref w_DELETE by simp +decide [own_pvi]]; exact F_SERVER_DELETE_PROHIBITED
    · rw [show own_st 6 w_CLIENT_DELETE_PROHIBITED w_CLIENT_HOLD w_CLIENT_RENEW_PROHIBITED w_CLIENT_TRANSFER_PROHIBITED w_CLIENT_UPDATE_PROHIBITED w_SERVER_DELETE_PROHIBITED w_SERVER_HOLD w_SERVER_RENEW_PROHIBITED w_SERVER_TRANSFER_PROHIBITED w_SERVER_UPDATE_PROHIBITED = w_SERVER_HOLD by simp +decide [own_st], show own_pvi 6 w_DELETE w_RENEW w_TRANSFER w_UPDATE = Value.null by simp +decide [own_pvi]]; exact F_SERVER_HOLD
    · rw [show own_st 7 w_CLIENT_DELETE_PROHIBITED w_CLIENT_HOLD w_CLIENT_RENEW_PROHIBITED w_CLIENT_TRANSFER_PROHIBITED w_CLIENT_UPDATE_PROHIBITED w_SERVER_DELETE_PROHIBITED w_SERVER_HOLD w_SERVER_RENEW_PROHIBITED w_SERVER_TRANSFER_PROHIBITED w_SERVER_UPDATE_PROHIBITED = w_SERVER_RENEW_PROHIBITED by simp +decide [own_st], show own_pvi 7 w_DELETE w_RENEW w_TRANSFER w_UPDATE = Value.ref w_RENEW by simp +decide [own_pvi]]; exact F_SERVER_RENEW_PROHIBITED
    · rw [show own_st 8 w_CLIENT_DELETE_PROHIBITED w_CLIENT_HOLD w_CLIENT_RENEW_PROHIBITED w_CLIENT_TRANSFER_PROHIBITED w_CLIENT_UPDATE_PROHIBITED w_SERVER_DELETE_PROHIBITED w_SERVER_HOLD w_SERVER_RENEW_PROHIBITED w_SERVER_TRANSFER_PROHIBITED w_SERVER_UPDATE_PROHIBITED = w_SERVER_TRANSFER_PROHIBITED by simp +decide [own_st], show own_pvi 8 w_DELETE w_RENEW w_TRANSFER w_UPDATE = Value.ref w_TRANSFER by simp +decide [own_pvi]]; exact F_SERVER_TRANSFER_PROHIBITED
    · rw [show own_st 9 w_CLIENT_DELETE_PROHIBITED w_CLIENT_HOLD w_CLIENT_RENEW_PROHIBITED w_CLIENT_TRANSFER_PROHIBITED w_CLIENT_UPDATE_PROHIBITED w_SERVER_DELETE_PROHIBITED w_SERVER_HOLD w_SERVER_RENEW_PROHIBITED w_SERVER_TRANSFER_PROHIBITED w_SERVER_UPDATE_PROHIBITED = w_SERVER_UPDATE_PROHIBITED by simp +decide [own_st], show own_pvi 9 w_DELETE w_RENEW w_TRANSFER w_UPDATE = Value.ref w_UPDATE by simp +decide [own_pvi]]; exact F_SERVER_UPDATE_PROHIBITED
  obtain ⟨n, o, h1, h2, h3, _, L, rfl, ⟨rfl, N⟩, hq⟩ := rm0 l s _ hw tables_1 i0 i1 w_CLIENT_DELETE_PROHIBITED w_CLIENT_HOLD w_CLIENT_RENEW_PROHIBITED w_CLIENT_TRANSFER_PROHIBITED w_CLIENT_UPDATE_PROHIBITED w_SERVER_DELETE_PROHIBITED w_SERVER_HOLD w_SERVER_RENEW_PROHIBITED w_SERVER_TRANSFER_PROHIBITED w_SERVER_UPDATE_PROHIBITED w_DELETE w_RENEW w_TRANSFER w_UPDATE s.heap s.heap.size (Nat.le_refl _) S_CLIENT_DELETE_PROHIBITED S_CLIENT_HOLD S_CLIENT_RENEW_PROHIBITED S_CLIENT_TRANSFER_PROHIBITED S_CLIENT_UPDATE_PROHIBITED S_SERVER_DELETE_PROHIBITED S_SERVER_HOLD S_SERVER_RENEW_PROHIBITED S_SERVER_TRANSFER_PROHIBITED S_SERVER_UPDATE_PROHIBITED S_DELETE S_RENEW S_TRANSFER S_UPDATE E_w_CLIENT_DELETE_PROHIBITED E_w_CLIENT_HOLD E_w_CLIENT_RENEW_PROHIBITED E_w_CLIENT_TRANSFER_PROHIBITED E_w_CLIENT_UPDATE_PROHIBITED E_w_SERVER_DELETE_PROHIBITED E_w_SERVER_HOLD E_w_SERVER_RENEW_PROHIBITED E_w_SERVER_TRANSFER_PROHIBITED E_w_SERVER_UPDATE_PROHIBITED o_DELETE o_RENEW o_TRANSFER o_UPDATE FX p e ha hc hk s m _ below hf ((Spec.applies_iff_loose hf).mp happ).1 ⟨rfl, State.Warmed39.refl s, rfl⟩ trivial
  refine ⟨n, _, h1, h2, h3, hpost _ _ _ _ _ _ ⟨Cond.after_iff.mpr rfl, Cond.after_iff.mpr (eq_i res_at (Term.int_eval (1)) rfl), trivial⟩ ⟨hq.1, hq.2.1, (hq.2.2.sift fun y hy => Or.inr (N y hy)).mono (by decide) (by decide)⟩⟩
theorem main_1_1 : Claimed_1_1 := comes_1 fun _ _ _ _ _ _ h hF => ⟨h.1, hF⟩
theorem main_1_2 : Claimed_1_2 := comes_1 fun _ _ _ _ _ _ h hF => ⟨h.2.1, hF⟩
end Jvm.Pilot.@@N@@
namespace Jvm.Pilot.@@N@@
open Jvm Jvm.ClassFile Sem Op Lib Jvm.Free Jvm.Stand Jvm.Pilot.@@N@@.Jvm.D
/-! MADE BY PROGRAM (witnessworld.py) out of the Statement's table words and the real class files: 13 classes; the members and pool entries that the words name. The judged class is class 1, her method 3. -/
namespace start1
open Jvm.ClassFile
def u (s : String) : CpInfo := .utf8 (stringToUtf16 s)
/-- a pool by its gaps: so many unusable entries, then the entry; so many at the end -/
def gap : Nat → List CpInfo → List CpInfo
  | 0, r => r
  | n + 1, r => .unusable :: gap n r
def poolList (es : List (Nat × CpInfo)) (last : Nat) : List CpInfo := es.foldr (fun e r => gap e.1 (e.2 :: r)) (gap last [])
def pool (es : List (Nat × CpInfo)) (last : Nat) : Array CpInfo := ⟨poolList es last⟩
def fileOf (pool : Array CpInfo) (this : Nat) (attrs : Array Attribute := #[]) (ms : Array MethodInfo := #[]) (fl : Nat := 33) (sup : Nat := 0) (ifs : Array Nat := #[]) (fds : Array FieldInfo := #[]) : ClassFile where
  minorVersion := 0
  majorVersion := 65
  constantPool := pool
  accessFlags := fl
  thisClass := this
  superClass := sup
  interfaces := ifs
  fields := fds
  methods := ms
  attributes := attrs
def plain (name : String) (sup : Option ClassId) : Class where
  name := name
  kind := .ordinary
  loader := none
  accessFlags := 33
  super := sup
  interfaces := #[]
  cf := none
  fields := #[]
  methods := #[]
  instanceTypes := #[]
  staticTypes := #[]
  resolved := #[]
  callSites := []
  init := .initialized
  statics := none
  mirror := none

def pool0 : Array CpInfo := pool [(5, u "<init>"), (0, u "()V"), (1, .class_ 10), (1, u "java/lang/Object")] 113

def k0m0 : Method := { name := "<init>", desc := "()V", sig := { parameters := [], returnType := none }, accessFlags := 1, code := none }
/-- java/lang/Object -/
def k0 : Class := { plain "java/lang/Object" none with
  accessFlags := 33
  interfaces := #[]
  cf := some (fileOf pool0 8 #[] #[{ accessFlags := 1, nameIndex := 5, descriptorIndex := 6, attributes := #[] }] 33 0 #[] #[])
  fields := #[]
  methods := #[k0m0]
  instanceTypes := #[]
  staticTypes := #[]
  resolved := Array.replicate 124 none
  statics := none }

def pool1 : Array CpInfo := pool [(2, .class_ 4), (1, u "java/lang/Object"), (0, u "<init>"), (0, u "()V"), (0, .fieldref 8 9), (0, .class_ 10), (0, .nameAndType 11 12), (0, u "com/example/nameward/nameward/registry/Status"), (0, u "CLIENT_DELETE_PROHIBITED"), (0, u "Lcom/example/nameward/nameward/registry/Status;"), (0, .fieldref 8 14), (0, .nameAndType 15 12), (0, u "CLIENT_HOLD"), (0, .fieldref 8 17), (0, .nameAndType 18 12), (0, u "CLIENT_RENEW_PROHIBITED"), (0, .fieldref 8 20), (0, .nameAndType 21 12), (0, u "CLIENT_TRANSFER_PROHIBITED"), (0, .fieldref 8 23), (0, .nameAndType 24 12), (0, u "CLIENT_UPDATE_PROHIBITED"), (0, .fieldref 8 26), (0, .nameAndType 27 12), (0, u "SERVER_DELETE_PROHIBITED"), (0, .fieldref 8 29), (0, .nameAndType 30 12), (0, u "SERVER_HOLD"), (0, .fieldref 8 32), (0, .nameAndType 33 12), (0, u "SERVER_RENEW_PROHIBITED"), (0, .fieldref 8 35), (0, .nameAndType 36 12), (0, u "SERVER_TRANSFER_PROHIBITED"), (0, .fieldref 8 38), (0, .nameAndType 39 12), (0, u "SERVER_UPDATE_PROHIBITED"), (0, .fieldref 41 42), (0, .class_ 43), (0, .nameAndType 44 45), (0, u "com/example/nameward/nameward/registry/Status$Command"), (0, u "DELETE"), (0, u "Lcom/example/nameward/nameward/registry/Status$Command;"), (0, .fieldref 41 47), (0, .nameAndType 48 45), (0, u "RENEW"), (0, .fieldref 41 50), (0, .nameAndType 51 45), (0, u "TRANSFER"), (0, .fieldref 41 53), (0, .nameAndType 54 45), (0, u "UPDATE"), (0, .integer 2147483647), (0, .methodref 57 58), (0, .class_ 59), (0, .nameAndType 60 61), (0, u "com/example/nameward/nameward/registry/StatusProhibitsPinLaw"), (0, u "status"), (0, u "(I)Lcom/example/nameward/nameward/registry/Status;"), (0, .methodref 57 63), (0, .nameAndType 64 65), (0, u "command"), (0, u "(I)Lcom/example/nameward/nameward/registry/Status$Command;"), (0, .methodref 8 67), (0, .nameAndType 68 69), (0, u "prohibits"), (0, u "(Lcom/example/nameward/nameward/registry/Status$Command;)Z"), (3, u "law"), (0, u "(II)Z")] 4

def k1m0 : Method := { name := "<init>", desc := "()V", sig := { parameters := [], returnType := none }, accessFlags := 1, code := none }
def k1c1 : Code := { maxStack := 2, maxLocals := 1, code := method_2_code, exceptionTable := #[], attributes := #[] }
def k1m1 : Method := { name := "status", desc := "(I)Lcom/example/nameward/nameward/registry/Status;", sig := { parameters := [.int], returnType := some (.object "com/example/nameward/nameward/registry/Status") }, accessFlags := 10, code := some k1c1 }
def k1c2 : Code := { maxStack := 2, maxLocals := 1, code := method_3_code, exceptionTable := #[], attributes := #[] }
def k1m2 : Method := { name := "command", desc := "(I)Lcom/example/nameward/nameward/registry/Status$Command;", sig := { parameters := [.int], returnType := some (.object "com/example/nameward/nameward/registry/Status$Command") }, accessFlags := 10, code := some k1c2 }
def k1c3 : Code := { maxStack := 2, maxLocals := 6, code := code, exceptionTable := #[], attributes := #[] }
def k1m3 : Method := { name := "law", desc := "(II)Z", sig := { parameters := [.int, .int], returnType := some .boolean }, accessFlags := 9, code := some k1c3 }
/-- com/example/nameward/nameward/registry/StatusProhibitsPinLaw -/
def k1 : Class := { plain "com/example/nameward/nameward/registry/StatusProhibitsPinLaw" (some 0) with
  accessFlags := 49
  interfaces := #[]
  cf := some (fileOf pool1 57 #[] #[{ accessFlags := 1, nameIndex := 5, descriptorIndex := 6, attributes := #[] }, { accessFlags := 10, nameIndex := 60, descriptorIndex := 61, attributes := #[] }, { accessFlags := 10, nameIndex := 64, descriptorIndex := 65, attributes := #[] }, { accessFlags := 9, nameIndex := 73, descriptorIndex := 74, attributes := #[] }] 49 2 #[] #[])
  fields := #[]
  methods := #[k1m0, k1m1, k1m2, k1m3]
  instanceTypes := #[]
  staticTypes := #[]
  resolved := Array.replicate 79 none
  statics := none }

def pool2 : Array CpInfo := pool [(1, .class_ 2), (0, u "java/lang/constant/Constable"), (0, .class_ 4), (0, u "java/lang/Object")] 6

/-- java/lang/constant/Constable -/
def k2 : Class := { plain "java/lang/constant/Constable" (some 0) with
  accessFlags := 1537
  interfaces := #[]
  cf := some (fileOf pool2 1 #[] #[] 1537 3 #[] #[])
  fields := #[]
  methods := #[]
  instanceTypes := #[]
  staticTypes := #[]
  resolved := Array.replicate 11 none
  statics := none }

def pool3 : Array CpInfo := pool [(1, .class_ 2), (0, u "java/lang/Comparable"), (0, .class_ 4), (0, u "java/lang/Object")] 7

/-- java/lang/Comparable -/
def k3 : Class := { plain "java/lang/Comparable" (some 0) with
  accessFlags := 1537
  interfaces := #[]
  cf := some (fileOf pool3 1 #[] #[] 1537 3 #[] #[])
  fields := #[]
  methods := #[]
  instanceTypes := #[]
  staticTypes := #[]
  resolved := Array.replicate 12 none
  statics := none }

def pool4 : Array CpInfo := pool [(1, .class_ 2), (0, u "java/io/Serializable"), (0, .class_ 4), (0, u "java/lang/Object")] 2

/-- java/io/Serializable -/
def k4 : Class := { plain "java/io/Serializable" (some 0) with
  accessFlags := 1537
  interfaces := #[]
  cf := some (fileOf pool4 1 #[] #[] 1537 3 #[] #[])
  fields := #[]
  methods := #[]
  instanceTypes := #[]
  staticTypes := #[]
  resolved := Array.replicate 7 none
  statics := none }

def pool5 : Array CpInfo := pool [(2, .class_ 4), (1, u "java/lang/Enum"), (0, u "name"), (0, u "Ljava/lang/String;"), (2, u "ordinal"), (0, u "I"), (1, .class_ 14), (1, u "java/lang/Object"), (4, u "hash"), (86, .class_ 108), (1, u "java/lang/Enum$EnumDesc"), (2, .class_ 112), (0, u "java/lang/constant/Constable"), (0, .class_ 114), (0, u "java/lang/Comparable"), (0, .class_ 116), (0, u "java/io/Serializable")] 87

/-- java/lang/Enum -/
def k5 : Class := { plain "java/lang/Enum" (some 0) with
  accessFlags := 1057
  interfaces := #[2, 3, 4]
  cf := some (fileOf pool5 2 #[.nestMembers #[106]] #[] 1057 12 #[111, 113, 115] #[{ accessFlags := 18, nameIndex := 5, descriptorIndex := 6, attributes := #[] }, { accessFlags := 18, nameIndex := 9, descriptorIndex := 10, attributes := #[] }, { accessFlags := 2, nameIndex := 19, descriptorIndex := 10, attributes := #[] }])
  fields := #[{ name := "name", type := (.object "java/lang/String"), accessFlags := 18, slot := 0, constantValue := 0 }, { name := "ordinal", type := .int, accessFlags := 18, slot := 1, constantValue := 0 }, { name := "hash", type := .int, accessFlags := 2, slot := 2, constantValue := 0 }]
  methods := #[]
  instanceTypes := #[(.object "java/lang/String"), .int, .int]
  staticTypes := #[]
  resolved := Array.replicate 204 none
  statics := none }

def pool6 : Array CpInfo := pool [(1, .class_ 2), (0, u "com/example/nameward/nameward/registry/Status"), (2, u "CLIENT_DELETE_PROHIBITED"), (0, u "Lcom/example/nameward/nameward/registry/Status;"), (2, u "CLIENT_HOLD"), (2, u "CLIENT_RENEW_PROHIBITED"), (2, u "CLIENT_TRANSFER_PROHIBITED"), (2, u "CLIENT_UPDATE_PROHIBITED"), (2, u "SERVER_DELETE_PROHIBITED"), (2, u "SERVER_HOLD"), (2, u "SERVER_RENEW_PROHIBITED"), (2, u "SERVER_TRANSFER_PROHIBITED"), (2, u "SERVER_UPDATE_PROHIBITED"), (2, u "$VALUES"), (0, u "[Lcom/example/nameward/nameward/registry/Status;"), (6, .class_ 46), (1, u "java/lang/Enum"), (8, u "value"), (0, u "Ljava/lang/String;"), (0, .fieldref 1 58), (0, .nameAndType 59 60), (0, u "prohibited"), (0, u "Lcom/example/nameward/nameward/registry/Status$Command;"), (92, .class_ 155), (1, u "com/example/nameward/nameward/registry/Status$Command"), (3, u "prohibits"), (0, u "(Lcom/example/nameward/nameward/registry/Status$Command;)Z"), (49, u "OK")] 75

def k6c0 : Code := { maxStack := 2, maxLocals := 2, code := prog_119_method_7_code, exceptionTable := #[], attributes := #[] }
def k6m0 : Method := { name := "prohibits", desc := "(Lcom/example/nameward/nameward/registry/Status$Command;)Z", sig := { parameters := [(.object "com/example/nameward/nameward/registry/Status$Command")], returnType := some .boolean }, accessFlags := 1, code := some k6c0 }
/-- com/example/nameward/nameward/registry/Status -/
def k6 : Class := { plain "com/example/nameward/nameward/registry/Status" (some 5) with
  accessFlags := 16433
  interfaces := #[]
  cf := some (fileOf pool6 1 #[.nestMembers #[153]] #[{ accessFlags := 1, nameIndex := 159, descriptorIndex := 160, attributes := #[] }] 16433 44 #[] #[{ accessFlags := 16409, nameIndex := 5, descriptorIndex := 6, attributes := #[] }, { accessFlags := 16409, nameIndex := 9, descriptorIndex := 6, attributes := #[] }, { accessFlags := 16409, nameIndex := 12, descriptorIndex := 6, attributes := #[] }, { accessFlags := 16409, nameIndex := 15, descriptorIndex := 6, attributes := #[] }, { accessFlags := 16409, nameIndex := 18, descriptorIndex := 6, attributes := #[] }, { accessFlags := 16409, nameIndex := 21, descriptorIndex := 6, attributes := #[] }, { accessFlags := 16409, nameIndex := 24, descriptorIndex := 6, attributes := #[] }, { accessFlags := 16409, nameIndex := 27, descriptorIndex := 6, attributes := #[] }, { accessFlags := 16409, nameIndex := 30, descriptorIndex := 6, attributes := #[] }, { accessFlags := 16409, nameIndex := 33, descriptorIndex := 6, attributes := #[] }, { accessFlags := 25, nameIndex := 210, descriptorIndex := 56, attributes := #[] }, { accessFlags := 17, nameIndex := 55, descriptorIndex := 56, attributes := #[] }, { accessFlags := 18, nameIndex := 59, descriptorIndex := 60, attributes := #[] }, { accessFlags := 4122, nameIndex := 36, descriptorIndex := 37, attributes := #[] }])
  fields := #[{ name := "CLIENT_DELETE_PROHIBITED", type := (.object "com/example/nameward/nameward/registry/Status"), accessFlags := 16409, slot := 0, constantValue := 0 }, { name := "CLIENT_HOLD", type := (.object "com/example/nameward/nameward/registry/Status"), accessFlags := 16409, slot := 1, constantValue := 0 }, { name := "CLIENT_RENEW_PROHIBITED", type := (.object "com/example/nameward/nameward/registry/Status"), accessFlags := 16409, slot := 2, constantValue := 0 }, { name := "CLIENT_TRANSFER_PROHIBITED", type := (.object "com/example/nameward/nameward/registry/Status"), accessFlags := 16409, slot := 3, constantValue := 0 }, { name := "CLIENT_UPDATE_PROHIBITED", type := (.object "com/example/nameward/nameward/registry/Status"), accessFlags := 16409, slot := 4, constantValue := 0 }, { name := "SERVER_DELETE_PROHIBITED", type := (.object "com/example/nameward/nameward/registry/Status"), accessFlags := 16409, slot := 5, constantValue := 0 }, { name := "SERVER_HOLD", type := (.object "com/example/nameward/nameward/registry/Status"), accessFlags := 16409, slot := 6, constantValue := 0 }, { name := "SERVER_RENEW_PROHIBITED", type := (.object "com/example/nameward/nameward/registry/Status"), accessFlags := 16409, slot := 7, constantValue := 0 }, { name := "SERVER_TRANSFER_PROHIBITED", type := (.object "com/example/nameward/nameward/registry/Status"), accessFlags := 16409, slot := 8, constantValue := 0 }, { name := "SERVER_UPDATE_PROHIBITED", type := (.object "com/example/nameward/nameward/registry/Status"), accessFlags := 16409, slot := 9, constantValue := 0 }, { name := "OK", type := (.object "java/lang/String"), accessFlags := 25, slot := 10, constantValue := 0 }, { name := "value", type := (.object "java/lang/String"), accessFlags := 17, slot := 3, constantValue := 0 }, { name := "prohibited", type := (.object "com/example/nameward/nameward/registry/Status$Command"), accessFlags := 18, slot := 4, constantValue := 0 }, { name := "$VALUES", type := (.array (.object "com/example/nameward/nameward/registry/Status")), accessFlags := 4122, slot := 11, constantValue := 0 }]
  methods := #[k6m0]
  instanceTypes := #[(.object "java/lang/String"), .int, .int, (.object "java/lang/String"), (.object "com/example/nameward/nameward/registry/Status$Command")]
  staticTypes := #[(.object "com/example/nameward/nameward/registry/Status"), (.object "com/example/nameward/nameward/registry/Status"), (.object "com/example/nameward/nameward/registry/Status"), (.object "com/example/nameward/nameward/registry/Status"), (.object "com/example/nameward/nameward/registry/Status"), (.object "com/example/nameward/nameward/registry/Status"), (.object "com/example/nameward/nameward/registry/Status"), (.object "com/example/nameward/nameward/registry/Status"), (.object "com/example/nameward/nameward/registry/Status"), (.object "com/example/nameward/nameward/registry/Status"), (.object "java/lang/String"), (.array (.object "com/example/nameward/nameward/registry/Status"))]
  resolved := Array.replicate 286 none
  statics := some 0 }

def pool7 : Array CpInfo := pool [(1, .class_ 2), (0, u "com/example/nameward/nameward/registry/Status$Command"), (2, u "DELETE"), (0, u "Lcom/example/nameward/nameward/registry/Status$Command;"), (2, u "RENEW"), (2, u "TRANSFER"), (2, u "UPDATE"), (2, u "$VALUES"), (0, u "[Lcom/example/nameward/nameward/registry/Status$Command;"), (6, .class_ 28), (1, u "java/lang/Enum"), (27, .class_ 57), (0, u "com/example/nameward/nameward/registry/Status")] 2

/-- com/example/nameward/nameward/registry/Status$Command -/
def k7 : Class := { plain "com/example/nameward/nameward/registry/Status$Command" (some 5) with
  accessFlags := 16433
  interfaces := #[]
  cf := some (fileOf pool7 1 #[.nestHost 56] #[] 16433 26 #[] #[{ accessFlags := 16409, nameIndex := 5, descriptorIndex := 6, attributes := #[] }, { accessFlags := 16409, nameIndex := 9, descriptorIndex := 6, attributes := #[] }, { accessFlags := 16409, nameIndex := 12, descriptorIndex := 6, attributes := #[] }, { accessFlags := 16409, nameIndex := 15, descriptorIndex := 6, attributes := #[] }, { accessFlags := 4122, nameIndex := 18, descriptorIndex := 19, attributes := #[] }])
  fields := #[{ name := "DELETE", type := (.object "com/example/nameward/nameward/registry/Status$Command"), accessFlags := 16409, slot := 0, constantValue := 0 }, { name := "RENEW", type := (.object "com/example/nameward/nameward/registry/Status$Command"), accessFlags := 16409, slot := 1, constantValue := 0 }, { name := "TRANSFER", type := (.object "com/example/nameward/nameward/registry/Status$Command"), accessFlags := 16409, slot := 2, constantValue := 0 }, { name := "UPDATE", type := (.object "com/example/nameward/nameward/registry/Status$Command"), accessFlags := 16409, slot := 3, constantValue := 0 }, { name := "$VALUES", type := (.array (.object "com/example/nameward/nameward/registry/Status$Command")), accessFlags := 4122, slot := 4, constantValue := 0 }]
  methods := #[]
  instanceTypes := #[(.object "java/lang/String"), .int, .int]
  staticTypes := #[(.object "com/example/nameward/nameward/registry/Status$Command"), (.object "com/example/nameward/nameward/registry/Status$Command"), (.object "com/example/nameward/nameward/registry/Status$Command"), (.object "com/example/nameward/nameward/registry/Status$Command"), (.array (.object "com/example/nameward/nameward/registry/Status$Command"))]
  resolved := Array.replicate 60 none
  statics := some 1 }

def pool8 : Array CpInfo := pool [(1, u "java/lang/Cloneable"), (0, .class_ 1), (0, u "java/lang/Object"), (0, .class_ 3)] 3

/-- java/lang/Cloneable -/
def k8 : Class := { plain "java/lang/Cloneable" (some 0) with
  accessFlags := 1537
  interfaces := #[]
  cf := some (fileOf pool8 2 #[] #[] 1537 4 #[] #[])
  fields := #[]
  methods := #[]
  instanceTypes := #[]
  staticTypes := #[]
  resolved := Array.replicate 8 none
  statics := none }

/-- the primitive byte -/
def k9 : Class := { plain "byte" none with kind := .primitive 'B', accessFlags := 0x411 }
/-- [B -/
def k10 : Class := { plain "[B" (some 0) with kind := .array 9 .byte, interfaces := #[8, 4], accessFlags := 1041 }

/-- the primitive int -/
def k11 : Class := { plain "int" none with kind := .primitive 'I', accessFlags := 0x411 }
/-- [I -/
def k12 : Class := { plain "[I" (some 0) with kind := .array 11 .int, interfaces := #[8, 4], accessFlags := 1041 }

def heap : Heap := #[{ cls := 6, slots := #[.ref 2, .ref 13, .ref 11, .ref 12, .ref 5, .ref 14, .ref 9, .ref 15, .ref 7, .ref 10, .null, .null], vm := .statics 6 },
  { cls := 7, slots := #[.ref 4, .ref 6, .ref 8, .ref 3, .null], vm := .statics 7 },
  { cls := 6, slots := #[.null, .int 0, .int 0, .null, .ref 4], vm := .none },
  { cls := 7, slots := #[.null, .int 3, .int 0], vm := .none },
  { cls := 7, slots := #[.null, .int 0, .int 0], vm := .none },
  { cls := 6, slots := #[.null, .int 0, .int 0, .null, .ref 3], vm := .none },
  { cls := 7, slots := #[.null, .int 1, .int 0], vm := .none },
  { cls := 6, slots := #[.null, .int 0, .int 0, .null, .ref 8], vm := .none },
  { cls := 7, slots := #[.null, .int 2, .int 0], vm := .none },
  { cls := 6, slots := #[.null, .int 0, .int 0, .null, .null], vm := .none },
  { cls := 6, slots := #[.null, .int 0, .int 0, .null, .ref 3], vm := .none },
  { cls := 6, slots := #[.null, .int 0, .int 0, .null, .ref 6], vm := .none },
  { cls := 6, slots := #[.null, .int 0, .int 0, .null, .ref 8], vm := .none },
  { cls := 6, slots := #[.null, .int 0, .int 0, .null, .null], vm := .none },
  { cls := 6, slots := #[.null, .int 0, .int 0, .null, .ref 4], vm := .none },
  { cls := 6, slots := #[.null, .int 0, .int 0, .null, .ref 6], vm := .none }]
def classes : Array Class := #[k0, k1, k2, k3, k4, k5, k6, k7, k8, k9, k10, k11, k12]
def interned : List (Array UInt16 × Addr) := []
def slotsUsed : Nat := 79
def theMethod : MethodId := ⟨1, 3⟩
def args0 : Array Value := #[.int 5, .int 7]
def aboutOver (below : List Frame) : State where
  vm := { classes := classes, interned := interned.toArray }
  heap := heap
  slotsUsed := slotsUsed
  threads := #[{ frames := .invoking theMethod args0 :: below }]
def below0 : List Frame := [.native { method := ⟨0, 0⟩, args := #[] }]
def about1 : State := aboutOver below0
def p0 : Program := .bare "" "" ""
def e0 : Env := launch0.env 0 0 0
theorem w_frames : about1.frames = Frame.invoking theMethod args0 :: below0 := rfl
set_option maxRecDepth 65536 in
theorem w_args : argsFit about1.vm theMethod args0 = true := by decide +kernel
set_option maxRecDepth 65536 in
theorem w_heap : heapFits about1 = true := by decide +kernel
set_option maxRecDepth 65536 in
theorem w_runnable : about1.curStatus? = some .runnable := by decide +kernel
set_option maxRecDepth 65536 in
theorem w_alone : about1.alone = true := by decide +kernel
set_option maxRecDepth 65536 in
theorem w_named : about1.methodNamed? x = some theMethod := by decide +kernel
set_option maxRecDepth 65536 in
theorem w_hears : about1.hears theMethod below0 = true := by decide +kernel
set_option maxRecDepth 65536 in
theorem w_ripe : about1.ripe theMethod args0 below0 = true := by decide +kernel
theorem w_running : about1.status = .running := rfl
set_option maxRecDepth 65536 in
theorem w_room : about1.hasRoom e0.platform room_1 = true :=
  launch0.hasRoom_least _ room_1 (by decide +kernel) (by decide +kernel) (by decide +kernel) (by decide +kernel) (by decide +kernel) (by decide +kernel)
theorem allAtoms_all (ts : List Jvm.Cond) (a : Array Jvm.Value) (st : Jvm.State) : (allAtoms ts).before a st = ts.all (fun c => c.before a st) := by
  induction ts with
  | nil => rfl
  | cons c t ih =>
    show (Jvm.Cond.and c (allAtoms t)).before a st = _
    rw [Jvm.Cond.before_and, ih, List.all_cons]
def words1 : List Jvm.Cond := Jvm.Cond.code x code maxLocals ret :: tables_1
/-- a 'code' word, met by the world's own term for the bytes: nothing is compared byte by byte -/
theorem code_word {y : MethodName} {bytes : ByteArray} {mx : Nat} {rt : Option FieldType} {a : Array Value} {s : State} {m : MethodId} {meth : Method} {c : Code} (h1 : s.methodNamed? y = some m) (h2 : s.vm.method? m = some meth) (h3 : meth.code = some c) (h4 : c.code = bytes)
    (h5 : (c.maxLocals == mx && c.exceptionTable.isEmpty && decide (c.maxStack ≤ mostOperands) && decide (meth.sig.returnType = rt) && !meth.locks && decide (parseMethodDescriptor y.desc = some meth.sig)) = true) : (Jvm.Cond.code y bytes mx rt).before a s = true := by
  simp only [Bool.and_eq_true, beq_iff_eq, Bool.not_eq_true', decide_eq_true_eq] at h5
  obtain ⟨⟨⟨⟨⟨g1, g2⟩, g3⟩, g4⟩, g5⟩, g6⟩ := h5
  simp [Cond.before, Cond.holds, Cond.value, h1, h2, h3, h4, g1, g2, g3, g4, g5, g6]
def isCode : Jvm.Cond → Bool
  | .code _ _ _ _ => true
  | _ => false
theorem all_split {L : List Jvm.Cond} {P : Jvm.Cond → Bool} (h1 : L.all (fun c => isCode c || P c) = true) (h2 : ∀ c ∈ L.filter isCode, P c = true) : L.all P = true := by
  refine List.all_eq_true.mpr fun c hc => ?_
  have h := List.all_eq_true.mp h1 c hc
  rcases Bool.eq_false_or_eq_true (isCode c) with hi | hi
  · exact h2 c (List.mem_filter.mpr ⟨hc, hi⟩)
  · simpa [hi] using h
set_option maxRecDepth 65536 in
theorem w_c0 : (Jvm.Cond.code x code maxLocals ret).before args0 about1 = true := code_word (m := ⟨1, 3⟩) (meth := k1m3) (c := k1c3) (by decide +kernel) rfl rfl rfl (by decide +kernel)
set_option maxRecDepth 65536 in
theorem w_c1 : (Jvm.Cond.code ({ cls := "com/example/nameward/nameward/registry/StatusProhibitsPinLaw", name := "status", desc := "(I)Lcom/example/nameward/nameward/registry/Status;" } : Jvm.MethodName) method_2_code (1 : Nat) (Option.some (Jvm.ClassFile.FieldType.object "com/example/nameward/nameward/registry/Status"))).before args0 about1 = true := code_word (m := ⟨1, 1⟩) (meth := k1m1) (c := k1c1) (by decide +kernel) rfl rfl rfl (by decide +kernel)
set_option maxRecDepth 65536 in
theorem w_c2 : (Jvm.Cond.code ({ cls := "com/example/nameward/nameward/registry/StatusProhibitsPinLaw", name := "command", desc := "(I)Lcom/example/nameward/nameward/registry/Status$Command;" } : Jvm.MethodName) method_3_code (1 : Nat) (Option.some (Jvm.ClassFile.FieldType.object "com/example/nameward/nameward/registry/Status$Command"))).before args0 about1 = true := code_word (m := ⟨1, 2⟩) (meth := k1m2) (c := k1c2) (by decide +kernel) rfl rfl rfl (by decide +kernel)
set_option maxRecDepth 65536 in
theorem w_c3 : (Jvm.Cond.code ({ cls := "com/example/nameward/nameward/registry/Status", name := "prohibits", desc := "(Lcom/example/nameward/nameward/registry/Status$Command;)Z" } : Jvm.MethodName) prog_119_method_7_code (2 : Nat) (Option.some Jvm.ClassFile.FieldType.boolean)).before args0 about1 = true := code_word (m := ⟨6, 0⟩) (meth := k6m0) (c := k6c0) (by decide +kernel) rfl rfl rfl (by decide +kernel)
def codes1 : List Jvm.Cond := [Jvm.Cond.code x code maxLocals ret, Jvm.Cond.code ({ cls := "com/example/nameward/nameward/registry/StatusProhibitsPinLaw", name := "status", desc := "(I)Lcom/example/nameward/nameward/registry/Status;" } : Jvm.MethodName) method_2_code (1 : Nat) (Option.some (Jvm.ClassFile.FieldType.object "com/example/nameward/nameward/registry/Status")), Jvm.Cond.code ({ cls := "com/example/nameward/nameward/registry/StatusProhibitsPinLaw", name := "command", desc := "(I)Lcom/example/nameward/nameward/registry/Status$Command;" } : Jvm.MethodName) method_3_code (1 : Nat) (Option.some (Jvm.ClassFile.FieldType.object "com/example/nameward/nameward/registry/Status$Command")), Jvm.Cond.code ({ cls := "com/example/nameward/nameward/registry/Status", name := "prohibits", desc := "(Lcom/example/nameward/nameward/registry/Status$Command;)Z" } : Jvm.MethodName) prog_119_method_7_code (2 : Nat) (Option.some Jvm.ClassFile.FieldType.boolean)]
set_option maxRecDepth 65536 in
theorem codes_eq : words1.filter isCode = codes1 := rfl
theorem w_codes : ∀ c ∈ words1.filter isCode, c.before args0 about1 = true := by
  rw [codes_eq]
  intro c hc
  simp only [codes1, List.mem_cons, List.not_mem_nil, or_false] at hc
  rcases hc with rfl | rfl | rfl | rfl
  · exact w_c0
  · exact w_c1
  · exact w_c2
  · exact w_c3
set_option maxRecDepth 65536 in
theorem w_t1 : (words1.take 24).all (fun c => isCode c || c.before args0 about1) = true := by decide +kernel
set_option maxRecDepth 65536 in
theorem w_t2 : (words1.drop 24).all (fun c => isCode c || c.before args0 about1) = true := by decide +kernel
theorem w_tables : (allAtoms (Jvm.Cond.code x code maxLocals ret :: tables_1)).before args0 about1 = true := by
  rw [allAtoms_all]
  show words1.all (fun c => c.before args0 about1) = true
  refine all_split ?_ w_codes
  rw [← List.take_append_drop 24 words1, List.all_append, w_t1, w_t2]
  rfl
set_option maxRecDepth 65536 in
theorem w_case : (Jvm.Cond.and given_1 narrow_1).before args0 about1 = true := by decide +kernel
theorem w_applies : (headSpec (Jvm.Cond.code x code maxLocals ret :: tables_1) room_1).applies x e0.platform about1 = true :=
  (Spec.applies_iff w_frames).mpr ⟨w_running, w_runnable, w_alone, w_named, w_hears, w_ripe, w_room, w_tables⟩
theorem atStart : AtStart classFile x code maxLocals ret World_1 tables_1 room_1 Calls_1 rest_1 Pre_1 launch0 p0 e0 about1 theMethod args0 below0 :=
  ⟨lists_1, trivial, launch0.admits_env _ _ _, launch0.least_env, fairChoices_fair.cas, fairChoices_fair.clock, w_frames, w_args, w_heap, w_applies, trivial, trivial, w_case⟩
end start1
theorem witness_1 : WitnessClaimed_1 := ⟨start1.p0, start1.e0, start1.about1, start1.theMethod, start1.args0, start1.below0, start1.atStart⟩
end Jvm.Pilot.@@N@@
