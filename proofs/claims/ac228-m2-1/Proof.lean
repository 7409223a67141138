import JvmDerived
import JvmDerived.Pilot.@@N@@Statement
import JvmDerived.Pilot.@@N@@Code
set_option linter.unusedVariables false
set_option linter.unusedSimpArgs false
@@BLOCK:NumsL.lean.txt@@
namespace Jvm.RoadKit
open Sem ClassFile Op Lib Jvm.Stand Jvm.Free Jvm.LawKit
section New
variable {p : Program} {l : Launch} {e : Env} {R : Room} {s : State} {m : MethodId} {args : Array Value} {below : List Frame} {meth : Method} {c : Code} {T : State} {locs : List Loc} {cells slots : Nat}
theorem retI (X : Stand p l e R s m args below meth c T locs cells slots) (hx : p.tables.exec = Jvm.exec) {pc : Nat} {Ls : Array Slot} {z : Int32} {rest : List Value} (hret : meth.sig.returnType = some .int) (hd : decode c.code pc = .ok (.ireturn, 1)) {fs : List Frame}
    (hl : ∀ (f : JFrame) (acts : List Action), f.method = m → f.locked = none → f.entered = [] → (doReturn e (T.setTop f) acts (some (.int z))).1 = T.setFrames fs) : Steps p.tables e below (T.setTop (mkF m pc Ls (.int z :: rest))) (T.setFrames fs) := by
  have hm' : T.vm.method? m = some meth := X.method'
  have hn : narrow .int (.int z) = .int z := rfl
  show Steps p.tables e below (T.setTop { method := m, pc := pc, locals := Ls, stack := _ :: rest, locked := none }) _
  jvm_step X.here [X.here.top, hx, hd, hm', hret, hn]
  first | (intro acts; rw [hl _ acts rfl rfl rfl]) | rw [hl _ _ rfl rfl rfl]
  exact Steps.refl _
end New
end Jvm.RoadKit
namespace Jvm.Pilot.@@N@@
open Jvm Jvm.ClassFile Sem Op Lib Jvm.Free Jvm.Stand Jvm.LawKit Jvm.RoadKit Bundle Jvm.Pilot.@@N@@.Jvm.D
theorem own_eqv {args : Array Value} {first s : State} {o : Option Outcome} {idx : List Nat} {t : Term} {k : Int32} (h : (Cond.eq t (.int k)).value args first o s idx = some true) : t.eval args first o idx s = some (.int k) := by
  cases ht : t.eval args first o idx s with
  | none => simp [Cond.value, ht] at h
  | some v => cases v <;> simp [Cond.value, ht, Term.eval] at h ⊢ <;> exact h
def own_ord (Z : State) (a : Addr) : Int32 := match Z.fieldOf? a "java/lang/Enum" "ordinal" "I" with
  | some (.int k) => k
  | _ => -1
theorem own_ordv {Z : State} {a : Addr} {k : Int32} (h : Z.fieldOf? a "java/lang/Enum" "ordinal" "I" = some (.int k)) : own_ord Z a = k := by simp [own_ord, h]
theorem own_dis {Z : State} {a b : Addr} {i j : Int32} (h : own_ord Z a = i) (h' : own_ord Z b = j) (n : i ≠ j) : a ≠ b := fun e => n (by rw [← h, ← h', e])
theorem own_mod (p c : Int32) (hc : 0 < c.toInt) : 0 ≤ ((p &&& (2147483647 : Int32)) - ((p &&& (2147483647 : Int32)) / c) * c).toInt ∧ ((p &&& (2147483647 : Int32)) - ((p &&& (2147483647 : Int32)) / c) * c).toInt < c.toInt := by
  have e : (p &&& (2147483647 : Int32)).toInt = p.toInt % 2 ^ 31 := Jvm.Kit.i32_mask p 2147483647 (k := 31) (by decide) (by decide)
  rw [irem_eq_mod, Jvm.Kit.i32_rem_nonneg (by omega)]
  exact ⟨Int.emod_nonneg _ (by omega), Int.emod_lt_of_pos _ hc⟩
theorem own_getref (ws : List Addr) (n : Nat) (h : n < ws.length) : (ws.map Value.ref).getD n .null = .ref (ws.getD n 0) := by
  simp [List.getD_eq_getElem?_getD, List.getElem?_map, h]
theorem own_exal {Z : State} {h : Heap} {C : String} {ws : List Addr} (H : ∀ a ∈ ws, Exa Z h a C) (n : Nat) (hn : n < ws.length) : Exa Z h (ws.getD n 0) C := by
  rw [List.getD_eq_getElem?_getD, List.getElem?_eq_getElem hn]
  exact H _ (List.getElem_mem hn)
theorem own_nat {i : Int32} {k : Int} (h : 0 ≤ i.toInt ∧ i.toInt < k) : (i.toNatClampNeg : Int) = i.toInt ∧ ¬ i < 0 := by
  have n : ¬ i < 0 := by rw [Int32.lt_iff_toInt_lt]; have : (0 : Int32).toInt = 0 := by decide
                         omega
  exact ⟨(nat_of n).symm, n⟩
def own_end (a : Addr) (c : Int32) (x : Addr) : Int32 := if a = x then 1 else if c / 100 = 25 then 1 else 0
set_option maxHeartbeats 4000000 in
theorem own_law {Z : State} {w_SUCCESS w_SUCCESS_ACTION_PENDING w_SUCCESS_NO_MESSAGES w_SUCCESS_ACK_TO_DEQUEUE w_SUCCESS_ENDING_SESSION w_SYNTAX_ERROR w_USE_ERROR w_REQUIRED_PARAMETER_MISSING w_PARAMETER_VALUE_SYNTAX_ERROR w_UNIMPLEMENTED_COMMAND w_UNIMPLEMENTED_OPTION w_UNIMPLEMENTED_EXTENSION w_BILLING_FAILURE w_NOT_ELIGIBLE_FOR_TRANSFER w_AUTHENTICATION_ERROR w_AUTHORIZATION_ERROR w_INVALID_AUTHORIZATION_INFORMATION w_OBJECT_PENDING_TRANSFER w_OBJECT_NOT_PENDING_TRANSFER w_OBJECT_EXISTS w_OBJECT_DOES_NOT_EXIST w_OBJECT_STATUS_PROHIBITS_OPERATION w_OBJECT_ASSOCIATION_PROHIBITS_OPERATION w_PARAMETER_VALUE_POLICY_ERROR w_UNIMPLEMENTED_OBJECT_SERVICE w_DATA_MANAGEMENT_POLICY_VIOLATION w_COMMAND_FAILED w_AUTHENTICATION_ERROR_CLOSING w_SESSION_LIMIT_EXCEEDED : Addr} (o_SUCCESS : own_ord Z w_SUCCESS = 0) (o_SUCCESS_ACTION_PENDING : own_ord Z w_SUCCESS_ACTION_PENDING = 1) (o_SUCCESS_NO_MESSAGES : own_ord Z w_SUCCESS_NO_MESSAGES = 2) (o_SUCCESS_ACK_TO_DEQUEUE : own_ord Z w_SUCCESS_ACK_TO_DEQUEUE = 3) (o_SUCCESS_ENDING_SESSION : own_ord Z w_SUCCESS_ENDING_SESSION = 4) (o_SYNTAX_ERROR : own_ord Z w_SYNTAX_ERROR = 5) (o_USE_ERROR : own_ord Z w_USE_ERROR = 6) (o_REQUIRED_PARAMETER_MISSING : own_ord Z w_REQUIRED_PARAMETER_MISSING = 7) (o_PARAMETER_VALUE_SYNTAX_ERROR : own_ord Z w_PARAMETER_VALUE_SYNTAX_ERROR = 8) (o_UNIMPLEMENTED_COMMAND : own_ord Z w_UNIMPLEMENTED_COMMAND = 9) (o_UNIMPLEMENTED_OPTION : own_ord Z w_UNIMPLEMENTED_OPTION = 10) (o_UNIMPLEMENTED_EXTENSION : own_ord Z w_UNIMPLEMENTED_EXTENSION = 11) (o_BILLING_FAILURE : own_ord Z w_BILLING_FAILURE = 12) (o_NOT_ELIGIBLE_FOR_TRANSFER : own_ord Z w_NOT_ELIGIBLE_FOR_TRANSFER = 13) (o_AUTHENTICATION_ERROR : own_ord Z w_AUTHENTICATION_ERROR = 14) (o_AUTHORIZATION_ERROR : own_ord Z w_AUTHORIZATION_ERROR = 15) (o_INVALID_AUTHORIZATION_INFORMATION : own_ord Z w_INVALID_AUTHORIZATION_INFORMATION = 16) (o_OBJECT_PENDING_TRANSFER : own_ord Z w_OBJECT_PENDING_TRANSFER = 17) (o_OBJECT_NOT_PENDING_TRANSFER : own_ord Z w_OBJECT_NOT_PENDING_TRANSFER = 18) (o_OBJECT_EXISTS : own_ord Z w_OBJECT_EXISTS = 19) (o_OBJECT_DOES_NOT_EXIST : own_ord Z w_OBJECT_DOES_NOT_EXIST = 20) (o_OBJECT_STATUS_PROHIBITS_OPERATION : own_ord Z w_OBJECT_STATUS_PROHIBITS_OPERATION = 21) (o_OBJECT_ASSOCIATION_PROHIBITS_OPERATION : own_ord Z w_OBJECT_ASSOCIATION_PROHIBITS_OPERATION = 22) (o_PARAMETER_VALUE_POLICY_ERROR : own_ord Z w_PARAMETER_VALUE_POLICY_ERROR = 23) (o_UNIMPLEMENTED_OBJECT_SERVICE : own_ord Z w_UNIMPLEMENTED_OBJECT_SERVICE = 24) (o_DATA_MANAGEMENT_POLICY_VIOLATION : own_ord Z w_DATA_MANAGEMENT_POLICY_VIOLATION = 25) (o_COMMAND_FAILED : own_ord Z w_COMMAND_FAILED = 26) (o_AUTHENTICATION_ERROR_CLOSING : own_ord Z w_AUTHENTICATION_ERROR_CLOSING = 27) (o_SESSION_LIMIT_EXCEEDED : own_ord Z w_SESSION_LIMIT_EXCEEDED = 28) (n : Nat) (hn : n < 29) : own_end ([w_SUCCESS, w_SUCCESS_ACTION_PENDING, w_SUCCESS_NO_MESSAGES, w_SUCCESS_ACK_TO_DEQUEUE, w_SUCCESS_ENDING_SESSION, w_SYNTAX_ERROR, w_USE_ERROR, w_REQUIRED_PARAMETER_MISSING, w_PARAMETER_VALUE_SYNTAX_ERROR, w_UNIMPLEMENTED_COMMAND, w_UNIMPLEMENTED_OPTION, w_UNIMPLEMENTED_EXTENSION, w_BILLING_FAILURE, w_NOT_ELIGIBLE_FOR_TRANSFER, w_AUTHENTICATION_ERROR, w_AUTHORIZATION_ERROR, w_INVALID_AUTHORIZATION_INFORMATION, w_OBJECT_PENDING_TRANSFER, w_OBJECT_NOT_PENDING_TRANSFER, w_OBJECT_EXISTS, w_OBJECT_DOES_NOT_EXIST, w_OBJECT_STATUS_PROHIBITS_OPERATION, w_OBJECT_ASSOCIATION_PROHIBITS_OPERATION, w_PARAMETER_VALUE_POLICY_ERROR, w_UNIMPLEMENTED_OBJECT_SERVICE, w_DATA_MANAGEMENT_POLICY_VIOLATION, w_COMMAND_FAILED, w_AUTHENTICATION_ERROR_CLOSING, w_SESSION_LIMIT_EXCEEDED].getD n 0) ([(1000 : Int32), (1001 : Int32), (1300 : Int32), (1301 : Int32), (1500 : Int32), (2001 : Int32), (2002 : Int32), (2003 : Int32), (2005 : Int32), (2101 : Int32), (2102 : Int32), (2103 : Int32), (2104 : Int32), (2106 : Int32), (2200 : Int32), (2201 : Int32), (2202 : Int32), (2300 : Int32), (2301 : Int32), (2302 : Int32), (2303 : Int32), (2304 : Int32), (2305 : Int32), (2306 : Int32), (2307 : Int32), (2308 : Int32), (2400 : Int32), (2501 : Int32), (2502 : Int32)].getD n 0) w_SUCCESS_ENDING_SESSION = if n = 4 ∨ n = 27 ∨ n = 28 then 1 else 0 := by
  have hc : n = 0 ∨ n = 1 ∨ n = 2 ∨ n = 3 ∨ n = 4 ∨ n = 5 ∨ n = 6 ∨ n = 7 ∨ n = 8 ∨ n = 9 ∨ n = 10 ∨ n = 11 ∨ n = 12 ∨ n = 13 ∨ n = 14 ∨ n = 15 ∨ n = 16 ∨ n = 17 ∨ n = 18 ∨ n = 19 ∨ n = 20 ∨ n = 21 ∨ n = 22 ∨ n = 23 ∨ n = 24 ∨ n = 25 ∨ n = 26 ∨ n = 27 ∨ n = 28 := by omega
  rcases hc with rfl | rfl | rfl | rfl | rfl | rfl | rfl | rfl | rfl | rfl | rfl | rfl | rfl | rfl | rfl | rfl | rfl | rfl | rfl | rfl | rfl | rfl | rfl | rfl | rfl | rfl | rfl | rfl | rfl
  · show own_end w_SUCCESS 1000 w_SUCCESS_ENDING_SESSION = _
    simp +decide [own_end, (own_dis o_SUCCESS o_SUCCESS_ENDING_SESSION (by decide))]
  · show own_end w_SUCCESS_ACTION_PENDING 1001 w_SUCCESS_ENDING_SESSION = _
    simp +decide [own_end, (own_dis o_SUCCESS_ACTION_PENDING o_SUCCESS_ENDING_SESSION (by decide))]
  · show own_end w_SUCCESS_NO_MESSAGES 1300 w_SUCCESS_ENDING_SESSION = _
    simp +decide [own_end, (own_dis o_SUCCESS_NO_MESSAGES o_SUCCESS_ENDING_SESSION (by decide))]
  · show own_end w_SUCCESS_ACK_TO_DEQUEUE 1301 w_SUCCESS_ENDING_SESSION = _
    simp +decide [own_end, (own_dis o_SUCCESS_ACK_TO_DEQUEUE o_SUCCESS_ENDING_SESSION (by decide))]
  · show own_end w_SUCCESS_ENDING_SESSION 1500 w_SUCCESS_ENDING_SESSION = _
    simp +decide [own_end]
  · show own_end w_SYNTAX_ERROR 2001 w_SUCCESS_ENDING_SESSION = _
    simp +decide [own_end, (own_dis o_SYNTAX_ERROR o_SUCCESS_ENDING_SESSION (by decide))]
  · show own_end w_USE_ERROR 2002 w_SUCCESS_ENDING_SESSION = _
    simp +decide [own_end, (own_dis o_USE_ERROR o_SUCCESS_ENDING_SESSION (by decide))]
  · show own_end w_REQUIRED_PARAMETER_MISSING 2003 w_SUCCESS_ENDING_SESSION = _
    simp +decide [own_end, (own_dis o_REQUIRED_PARAMETER_MISSING o_SUCCESS_ENDING_SESSION (by decide))]
  · show own_end w_PARAMETER_VALUE_SYNTAX_ERROR 2005 w_SUCCESS_ENDING_SESSION = _
    simp +decide [own_end, (own_dis o_PARAMETER_VALUE_SYNTAX_ERROR o_SUCCESS_ENDING_SESSION (by decide))]
  · show own_end w_UNIMPLEMENTED_COMMAND 2101 w_SUCCESS_ENDING_SESSION = _
    simp +decide [own_end, (own_dis o_UNIMPLEMENTED_COMMAND o_SUCCESS_ENDING_SESSION (by decide))]
  · show own_end w_UNIMPLEMENTED_OPTION 2102 w_SUCCESS_ENDING_SESSION = _
    simp +decide [own_end, (own_dis o_UNIMPLEMENTED_OPTION o_SUCCESS_ENDING_SESSION (by decide))]
  · show own_end w_UNIMPLEMENTED_EXTENSION 2103 w_SUCCESS_ENDING_SESSION = _
    simp +decide [own_end, (own_dis o_UNIMPLEMENTED_EXTENSION o_SUCCESS_ENDING_SESSION (by decide))]
  · show own_end w_BILLING_FAILURE 2104 w_SUCCESS_ENDING_SESSION = _
    simp +decide [own_end, (own_dis o_BILLING_FAILURE o_SUCCESS_ENDING_SESSION (by decide))]
  · show own_end w_NOT_ELIGIBLE_FOR_TRANSFER 2106 w_SUCCESS_ENDING_SESSION = _
    simp +decide [own_end, (own_dis o_NOT_ELIGIBLE_FOR_TRANSFER o_SUCCESS_ENDING_SESSION (by decide))]
  · show own_end w_AUTHENTICATION_ERROR 2200 w_SUCCESS_ENDING_SESSION = _
    simp +decide [own_end, (own_dis o_AUTHENTICATION_ERROR o_SUCCESS_ENDING_SESSION (by decide))]
  · show own_end w_AUTHORIZATION_ERROR 2201 w_SUCCESS_ENDING_SESSION = _
    simp +decide [own_end, (own_dis o_AUTHORIZATION_ERROR o_SUCCESS_ENDING_SESSION (by decide))]
  · show own_end w_INVALID_AUTHORIZATION_INFORMATION 2202 w_SUCCESS_ENDING_SESSION = _
    simp +decide [own_end, (own_dis o_INVALID_AUTHORIZATION_INFORMATION o_SUCCESS_ENDING_SESSION (by decide))]
  · show own_end w_OBJECT_PENDING_TRANSFER 2300 w_SUCCESS_ENDING_SESSION = _
    simp +decide [own_end, (own_dis o_OBJECT_PENDING_TRANSFER o_SUCCESS_ENDING_SESSION (by decide))]
  · show own_end w_OBJECT_NOT_PENDING_TRANSFER 2301 w_SUCCESS_ENDING_SESSION = _
    simp +decide [own_end, (own_dis o_OBJECT_NOT_PENDING_TRANSFER o_SUCCESS_ENDING_SESSION (by decide))]
  · show own_end w_OBJECT_EXISTS 2302 w_SUCCESS_ENDING_SESSION = _
    simp +decide [own_end, (own_dis o_OBJECT_EXISTS o_SUCCESS_ENDING_SESSION (by decide))]
  · show own_end w_OBJECT_DOES_NOT_EXIST 2303 w_SUCCESS_ENDING_SESSION = _
    simp +decide [own_end, (own_dis o_OBJECT_DOES_NOT_EXIST o_SUCCESS_ENDING_SESSION (by decide))]
  · show own_end w_OBJECT_STATUS_PROHIBITS_OPERATION 2304 w_SUCCESS_ENDING_SESSION = _
    simp +decide [own_end, (own_dis o_OBJECT_STATUS_PROHIBITS_OPERATION o_SUCCESS_ENDING_SESSION (by decide))]
  · show own_end w_OBJECT_ASSOCIATION_PROHIBITS_OPERATION 2305 w_SUCCESS_ENDING_SESSION = _
    simp +decide [own_end, (own_dis o_OBJECT_ASSOCIATION_PROHIBITS_OPERATION o_SUCCESS_ENDING_SESSION (by decide))]
  · show own_end w_PARAMETER_VALUE_POLICY_ERROR 2306 w_SUCCESS_ENDING_SESSION = _
    simp +decide [own_end, (own_dis o_PARAMETER_VALUE_POLICY_ERROR o_SUCCESS_ENDING_SESSION (by decide))]
  · show own_end w_UNIMPLEMENTED_OBJECT_SERVICE 2307 w_SUCCESS_ENDING_SESSION = _
    simp +decide [own_end, (own_dis o_UNIMPLEMENTED_OBJECT_SERVICE o_SUCCESS_ENDING_SESSION (by decide))]
  · show own_end w_DATA_MANAGEMENT_POLICY_VIOLATION 2308 w_SUCCESS_ENDING_SESSION = _
    simp +decide [own_end, (own_dis o_DATA_MANAGEMENT_POLICY_VIOLATION o_SUCCESS_ENDING_SESSION (by decide))]
  · show own_end w_COMMAND_FAILED 2400 w_SUCCESS_ENDING_SESSION = _
    simp +decide [own_end, (own_dis o_COMMAND_FAILED o_SUCCESS_ENDING_SESSION (by decide))]
  · show own_end w_AUTHENTICATION_ERROR_CLOSING 2501 w_SUCCESS_ENDING_SESSION = _
    simp +decide [own_end, (own_dis o_AUTHENTICATION_ERROR_CLOSING o_SUCCESS_ENDING_SESSION (by decide))]
  · show own_end w_SESSION_LIMIT_EXCEEDED 2502 w_SUCCESS_ENDING_SESSION = _
    simp +decide [own_end, (own_dis o_SESSION_LIMIT_EXCEEDED o_SUCCESS_ENDING_SESSION (by decide))]
theorem d_prog_87_method_4_code_0 : decode prog_87_method_4_code 0 = .ok (.aload_n 0, 1) := by decide +kernel
theorem d_prog_87_method_4_code_1 : decode prog_87_method_4_code 1 = .ok (.getstatic 16, 3) := by decide +kernel
theorem d_prog_87_method_4_code_4 : decode prog_87_method_4_code 4 = .ok (.if_acmp .eq 15, 3) := by decide +kernel
theorem d_prog_87_method_4_code_19 : decode prog_87_method_4_code 19 = .ok (.iconst 1, 1) := by decide +kernel
theorem d_prog_87_method_4_code_20 : decode prog_87_method_4_code 20 = .ok (.goto 4, 3) := by decide +kernel
theorem d_prog_87_method_4_code_24 : decode prog_87_method_4_code 24 = .ok (.ireturn, 1) := by decide +kernel
theorem d_prog_87_method_4_code_7 : decode prog_87_method_4_code 7 = .ok (.aload_n 0, 1) := by decide +kernel
theorem d_prog_87_method_4_code_8 : decode prog_87_method_4_code 8 = .ok (.getfield 110, 3) := by decide +kernel
theorem d_prog_87_method_4_code_11 : decode prog_87_method_4_code 11 = .ok (.bipush 100, 2) := by decide +kernel
theorem d_prog_87_method_4_code_13 : decode prog_87_method_4_code 13 = .ok (.idiv, 1) := by decide +kernel
theorem d_prog_87_method_4_code_14 : decode prog_87_method_4_code 14 = .ok (.bipush 25, 2) := by decide +kernel
theorem d_prog_87_method_4_code_16 : decode prog_87_method_4_code 16 = .ok (.if_icmp .ne 7, 3) := by decide +kernel
theorem d_prog_87_method_4_code_23 : decode prog_87_method_4_code 23 = .ok (.iconst 0, 1) := by decide +kernel
theorem pn_0 : plainName "com/example/nameward/nameward/epp/ResultCode" = true := by first | (simp [plainName, overriddenIn]; done) | decide +kernel
theorem ef_rm1 (m : MethodId) (x0 : Addr) : entryFrame m #[(.ref x0)] 1 = mkF m 0 #[.val (.ref x0)] [] := by first | (simp [entryFrame, mkF, argsToLocals, Value.category]; done) | rfl
def Q_rm1 (Z : State) (r0 : Addr) (cc : Int32) (w_SUCCESS_ENDING_SESSION : Addr) (h0 : Heap) (n0 : Nat) (v : Option Value) (h : Heap) (L : List Loc) : Prop := v = some (.int (own_end r0 cc w_SUCCESS_ENDING_SESSION)) ∧ Fr n0 L ∧ h = h0
set_option maxRecDepth 65536 in
set_option maxHeartbeats 40000000 in
theorem rm1 (l : Launch) (Z : State) (a0 : Array Value) (hw : ∀ d ∈ tables_1, d.before a0 Z = true) (ws : List Jvm.Cond) (r0 : Addr) (cc : Int32) (w_SUCCESS_ENDING_SESSION : Addr) (h0 : Heap) (n0 : Nat) (Z0 : n0 ≤ h0.size) (S_SUCCESS_ENDING_SESSION : Sta Z h0 "com/example/nameward/nameward/epp/ResultCode" "SUCCESS_ENDING_SESSION" "Lcom/example/nameward/nameward/epp/ResultCode;" (.ref w_SUCCESS_ENDING_SESSION)) (F_code_r0 : Fld Z h0 r0 "com/example/nameward/nameward/epp/ResultCode" "code" "I" (.int cc)) :
    MetFree l (⟨"com/example/nameward/nameward/epp/ResultCode", "endsSession", "()Z"⟩ : MethodName) (head1 (Jvm.Cond.code (⟨"com/example/nameward/nameward/epp/ResultCode", "endsSession", "()Z"⟩ : MethodName) prog_87_method_4_code 1 (some .boolean) :: ws) ({ frames := 0, cells := 0, slots := 0, locals := 0 } : Room)) (fun a U => a = #[(.ref r0)] ∧ Z.Warmed39 U.vm ∧ U.heap = h0) (fun _ _ _ _ _ => True) (fun _ U o U' => ∃ v L, o = .returned v ∧ Q_rm1 Z r0 cc w_SUCCESS_ENDING_SESSION h0 n0 v U'.heap L ∧ FrameEnd U o U' L ({ frames := 0, cells := 0, slots := 0, locals := 0 } : Room).cells ({ frames := 0, cells := 0, slots := 0, locals := 0 } : Room).slots) := by
  refine MetFree.of_bodySF (plainFor_of_name pn_0) hisR ?_
  intro p e s m args below meth c s₁ Bd hml0 hP hK
  obtain ⟨rfl, hZ, hh⟩ := hP
  have hx := Bd.exec
  have hby := Bd.bytes
  have hml : c.maxLocals = 1 := hml0
  have hown : s.vm.findClass "com/example/nameward/nameward/epp/ResultCode" = some m.cls := findClass_of_methodNamed Bd.named
  have hnm := (name_of_methodNamed Bd.named Bd.method).1
  have hlk : meth.locks = false := by first | exact BodyLoose.notSynchronized (by assumption) | exact Body.notSynchronized (by assumption) | assumption
  have X0 : Stand p l e ({ frames := 0, cells := 0, slots := 0, locals := 0 } : Room) s m #[(.ref r0)] below meth c s₁ [] 0 0 := Stand.of_body Bd
  have e0 : s₁.heap = h0 := by rw [← hh, Bd.state]; rfl
  have N0 := Fr.nil n0
  have Zn := Z0
  have K0 : ∀ t, Steps p.tables e below (s₁.setTop (mkF m 0 #[.val (.ref r0)] [])) t → Steps p.tables e below (s₁.setTop (entryFrame m #[(.ref r0)] 1)) t := fun t k => castTop (ef_rm1 m r0) k
  obtain ⟨T1, X1, e1, st1⟩ := getS2 X0 hx hZ hown (host := "") (Or.inl (hw _ (List.mem_of_getElem? (i := 68) rfl))) Via.refl e0 S_SUCCESS_ENDING_SESSION (g := (mkF m 1 #[.val (.ref r0)] [(.ref r0)])) rfl (hb hby d_prog_87_method_4_code_1)
  have K2 : ∀ t, Steps p.tables e below (T1.setTop (mkF m 4 #[.val (.ref r0)] [(.ref w_SUCCESS_ENDING_SESSION), (.ref r0)])) t → Steps p.tables e below (s₁.setTop (entryFrame m #[(.ref r0)] 1)) t := by
    intro t kt
    refine K0 t ?_
    show Steps p.tables e below (s₁.setTop (mkF m 0 #[.val (.ref r0)] [])) _
    refine XS.aloadN X0.here hx rfl (hb hby d_prog_87_method_4_code_0) rfl rfl ?_
    show Steps p.tables e below (s₁.setTop (mkF m 1 #[.val (.ref r0)] [(.ref r0)])) _
    refine st1 _ ?_
    exact kt
  by_cases hc4 : r0 = w_SUCCESS_ENDING_SESSION
  ·
    obtain ⟨fs, hr, hrun, hended, hW, hsame⟩ := X1.leave (v := some (.int (1 : Int32))) (fun h => by rw [Bd.returns] at h; cases h) hlk
    refine ⟨_, _, K2 _ ?_, hrun, hended, _, _, rfl, ?_, ⟨_, rfl⟩, hW, hsame.mono (by decide) (by decide)⟩
    ·
      show Steps p.tables e below (T1.setTop (mkF m 4 #[.val (.ref r0)] [(.ref w_SUCCESS_ENDING_SESSION), (.ref r0)])) _
      refine Jvm.RoadKit.acmp (g := (mkF m 4 #[.val (.ref r0)] [(.ref w_SUCCESS_ENDING_SESSION), (.ref r0)])) X1 hx rfl rfl rfl (pc0 := 4) (pc' := 19) (same := true) rfl (hb hby d_prog_87_method_4_code_4) rfl (decide_eq_true (congrArg Value.ref hc4)) (by decide) (by decide) ?_
      show Steps p.tables e below (T1.setTop (mkF m 19 #[.val (.ref r0)] [])) _
      refine XS.iconst X1.here hx rfl (hb hby d_prog_87_method_4_code_19) ?_
      show Steps p.tables e below (T1.setTop (mkF m 20 #[.val (.ref r0)] [(.int (1 : Int32))])) _
      refine XS.goto X1.here hx rfl (pc0 := 20) (pc' := 24) rfl (hb hby d_prog_87_method_4_code_20) (by decide) (by decide) ?_
      show Steps p.tables e below (T1.setTop (mkF m 24 #[.val (.ref r0)] [(.int (1 : Int32))])) _
      exact retN X1 hx (t := .boolean) Bd.returns (by simp) (hb hby d_prog_87_method_4_code_24) hr
    ·
      show Q_rm1 Z r0 cc w_SUCCESS_ENDING_SESSION h0 n0 _ T1.heap _
      rw [e1]
      refine ⟨?_, N0, rfl⟩
      simp [own_end, hc4]
  ·
    obtain ⟨T3, X3, e3, st3⟩ := getF X1 hx hZ hown (host := "") (Or.inl (hw _ (List.mem_of_getElem? (i := 69) rfl))) Via.refl e1 F_code_r0 (g := (mkF m 8 #[.val (.ref r0)] [(.ref r0)])) rfl rfl (hb hby d_prog_87_method_4_code_8)
    have K4 : ∀ t, Steps p.tables e below (T3.setTop (mkF m 16 #[.val (.ref r0)] [(.int (25 : Int32)), (.int (cc / (100 : Int32)))])) t → Steps p.tables e below (s₁.setTop (entryFrame m #[(.ref r0)] 1)) t := by
      intro t kt
      refine K2 t ?_
      show Steps p.tables e below (T1.setTop (mkF m 4 #[.val (.ref r0)] [(.ref w_SUCCESS_ENDING_SESSION), (.ref r0)])) _
      refine Jvm.RoadKit.acmp (g := (mkF m 4 #[.val (.ref r0)] [(.ref w_SUCCESS_ENDING_SESSION), (.ref r0)])) X1 hx rfl rfl rfl (pc0 := 4) (pc' := 7) (same := false) rfl (hb hby d_prog_87_method_4_code_4) rfl (decide_eq_false fun q => hc4 (Value.ref.inj q)) (by decide) (by decide) ?_
      show Steps p.tables e below (T1.setTop (mkF m 7 #[.val (.ref r0)] [])) _
      refine XS.aloadN X1.here hx rfl (hb hby d_prog_87_method_4_code_7) rfl rfl ?_
      show Steps p.tables e below (T1.setTop (mkF m 8 #[.val (.ref r0)] [(.ref r0)])) _
      refine st3 _ ?_
      show Steps p.tables e below (T3.setTop (mkF m 11 #[.val (.ref r0)] [(.int cc)])) _
      refine XS.bipush X3.here hx rfl (hb hby d_prog_87_method_4_code_11) ?_
      show Steps p.tables e below (T3.setTop (mkF m 13 #[.val (.ref r0)] [(.int (100 : Int32)), (.int cc)])) _
      refine XS.idiv X3.here hx rfl (hb hby d_prog_87_method_4_code_13) rfl (by decide) ?_
      show Steps p.tables e below (T3.setTop (mkF m 14 #[.val (.ref r0)] [(.int (cc / (100 : Int32)))])) _
      refine XS.bipush X3.here hx rfl (hb hby d_prog_87_method_4_code_14) ?_
      exact kt
    by_cases hc16 : (cc / (100 : Int32)) = (25 : Int32)
    ·
      obtain ⟨fs, hr, hrun, hended, hW, hsame⟩ := X3.leave (v := some (.int (1 : Int32))) (fun h => by rw [Bd.returns] at h; cases h) hlk
      refine ⟨_, _, K4 _ ?_, hrun, hended, _, _, rfl, ?_, ⟨_, rfl⟩, hW, hsame.mono (by decide) (by decide)⟩
      ·
        show Steps p.tables e below (T3.setTop (mkF m 16 #[.val (.ref r0)] [(.int (25 : Int32)), (.int (cc / (100 : Int32)))])) _
        refine XS.icmpNo X3.here hx rfl (hb hby d_prog_87_method_4_code_16) rfl (teq hc16).2 ?_
        show Steps p.tables e below (T3.setTop (mkF m 19 #[.val (.ref r0)] [])) _
        refine XS.iconst X3.here hx rfl (hb hby d_prog_87_method_4_code_19) ?_
        show Steps p.tables e below (T3.setTop (mkF m 20 #[.val (.ref r0)] [(.int (1 : Int32))])) _
        refine XS.goto X3.here hx rfl (pc0 := 20) (pc' := 24) rfl (hb hby d_prog_87_method_4_code_20) (by decide) (by decide) ?_
        show Steps p.tables e below (T3.setTop (mkF m 24 #[.val (.ref r0)] [(.int (1 : Int32))])) _
        exact retN X3 hx (t := .boolean) Bd.returns (by simp) (hb hby d_prog_87_method_4_code_24) hr
      ·
        show Q_rm1 Z r0 cc w_SUCCESS_ENDING_SESSION h0 n0 _ T3.heap _
        rw [e3]
        refine ⟨?_, N0, rfl⟩
        simp [own_end, hc4, hc16]
    ·
      obtain ⟨fs, hr, hrun, hended, hW, hsame⟩ := X3.leave (v := some (.int (0 : Int32))) (fun h => by rw [Bd.returns] at h; cases h) hlk
      refine ⟨_, _, K4 _ ?_, hrun, hended, _, _, rfl, ?_, ⟨_, rfl⟩, hW, hsame.mono (by decide) (by decide)⟩
      ·
        show Steps p.tables e below (T3.setTop (mkF m 16 #[.val (.ref r0)] [(.int (25 : Int32)), (.int (cc / (100 : Int32)))])) _
        refine XS.icmpYes X3.here hx rfl (pc0 := 16) (pc' := 23) rfl (hb hby d_prog_87_method_4_code_16) rfl (feq hc16).2 (by decide) (by decide) ?_
        show Steps p.tables e below (T3.setTop (mkF m 23 #[.val (.ref r0)] [])) _
        refine XS.iconst X3.here hx rfl (hb hby d_prog_87_method_4_code_23) ?_
        show Steps p.tables e below (T3.setTop (mkF m 24 #[.val (.ref r0)] [(.int (0 : Int32))])) _
        exact retN X3 hx (t := .boolean) Bd.returns (by simp) (hb hby d_prog_87_method_4_code_24) hr
      ·
        show Q_rm1 Z r0 cc w_SUCCESS_ENDING_SESSION h0 n0 _ T3.heap _
        rw [e3]
        refine ⟨?_, N0, rfl⟩
        simp [own_end, hc4, hc16]
theorem pd_1 : parseMethodDescriptor "()Z" = some ⟨[], some .boolean⟩ := by decide +kernel
theorem pn_2 : plainName "com/example/nameward/nameward/epp/ResultCodeEndsSessionPinLaw" = true := by first | (simp [plainName, overriddenIn]; done) | decide +kernel
theorem ef_rm0 (m : MethodId) (x0 : Int32) : entryFrame m #[(.int x0)] maxLocals = mkF m 0 #[.val (.int x0), .unset, .unset, .unset, .unset] [] := by first | (simp [entryFrame, mkF, argsToLocals, Value.category, maxLocals]; done) | rfl
def Q_rm0 (Z : State) (p0 : Int32) (w_SUCCESS : Addr) (w_SUCCESS_ACTION_PENDING : Addr) (w_SUCCESS_NO_MESSAGES : Addr) (w_SUCCESS_ACK_TO_DEQUEUE : Addr) (w_SUCCESS_ENDING_SESSION : Addr) (w_SYNTAX_ERROR : Addr) (w_USE_ERROR : Addr) (w_REQUIRED_PARAMETER_MISSING : Addr) (w_PARAMETER_VALUE_SYNTAX_ERROR : Addr) (w_UNIMPLEMENTED_COMMAND : Addr) (w_UNIMPLEMENTED_OPTION : Addr) (w_UNIMPLEMENTED_EXTENSION : Addr) (w_BILLING_FAILURE : Addr) (w_NOT_ELIGIBLE_FOR_TRANSFER : Addr) (w_AUTHENTICATION_ERROR : Addr) (w_AUTHORIZATION_ERROR : Addr) (w_INVALID_AUTHORIZATION_INFORMATION : Addr) (w_OBJECT_PENDING_TRANSFER : Addr) (w_OBJECT_NOT_PENDING_TRANSFER : Addr) (w_OBJECT_EXISTS : Addr) (w_OBJECT_DOES_NOT_EXIST : Addr) (w_OBJECT_STATUS_PROHIBITS_OPERATION : Addr) (w_OBJECT_ASSOCIATION_PROHIBITS_OPERATION : Addr) (w_PARAMETER_VALUE_POLICY_ERROR : Addr) (w_UNIMPLEMENTED_OBJECT_SERVICE : Addr) (w_DATA_MANAGEMENT_POLICY_VIOLATION : Addr) (w_COMMAND_FAILED : Addr) (w_AUTHENTICATION_ERROR_CLOSING : Addr) (w_SESSION_LIMIT_EXCEEDED : Addr) (h0 : Heap) (n0 : Nat) (v : Option Value) (h : Heap) (L : List Loc) : Prop := v = some (.int 1) ∧ Fr n0 L
set_option maxRecDepth 65536 in
set_option maxHeartbeats 40000000 in
theorem rm0 (l : Launch) (Z : State) (a0 : Array Value) (hw : ∀ d ∈ tables_1, d.before a0 Z = true) (ws : List Jvm.Cond) (p0 : Int32) (w_SUCCESS : Addr) (w_SUCCESS_ACTION_PENDING : Addr) (w_SUCCESS_NO_MESSAGES : Addr) (w_SUCCESS_ACK_TO_DEQUEUE : Addr) (w_SUCCESS_ENDING_SESSION : Addr) (w_SYNTAX_ERROR : Addr) (w_USE_ERROR : Addr) (w_REQUIRED_PARAMETER_MISSING : Addr) (w_PARAMETER_VALUE_SYNTAX_ERROR : Addr) (w_UNIMPLEMENTED_COMMAND : Addr) (w_UNIMPLEMENTED_OPTION : Addr) (w_UNIMPLEMENTED_EXTENSION : Addr) (w_BILLING_FAILURE : Addr) (w_NOT_ELIGIBLE_FOR_TRANSFER : Addr) (w_AUTHENTICATION_ERROR : Addr) (w_AUTHORIZATION_ERROR : Addr) (w_INVALID_AUTHORIZATION_INFORMATION : Addr) (w_OBJECT_PENDING_TRANSFER : Addr) (w_OBJECT_NOT_PENDING_TRANSFER : Addr) (w_OBJECT_EXISTS : Addr) (w_OBJECT_DOES_NOT_EXIST : Addr) (w_OBJECT_STATUS_PROHIBITS_OPERATION : Addr) (w_OBJECT_ASSOCIATION_PROHIBITS_OPERATION : Addr) (w_PARAMETER_VALUE_POLICY_ERROR : Addr) (w_UNIMPLEMENTED_OBJECT_SERVICE : Addr) (w_DATA_MANAGEMENT_POLICY_VIOLATION : Addr) (w_COMMAND_FAILED : Addr) (w_AUTHENTICATION_ERROR_CLOSING : Addr) (w_SESSION_LIMIT_EXCEEDED : Addr) (h0 : Heap) (n0 : Nat) (Z0 : n0 ≤ h0.size) (S_SUCCESS : Sta Z Z.heap "com/example/nameward/nameward/epp/ResultCode" "SUCCESS" "Lcom/example/nameward/nameward/epp/ResultCode;" (.ref w_SUCCESS)) (S_SUCCESS_ACTION_PENDING : Sta Z Z.heap "com/example/nameward/nameward/epp/ResultCode" "SUCCESS_ACTION_PENDING" "Lcom/example/nameward/nameward/epp/ResultCode;" (.ref w_SUCCESS_ACTION_PENDING)) (S_SUCCESS_NO_MESSAGES : Sta Z Z.heap "com/example/nameward/nameward/epp/ResultCode" "SUCCESS_NO_MESSAGES" "Lcom/example/nameward/nameward/epp/ResultCode;" (.ref w_SUCCESS_NO_MESSAGES)) (S_SUCCESS_ACK_TO_DEQUEUE : Sta Z Z.heap "com/example/nameward/nameward/epp/ResultCode" "SUCCESS_ACK_TO_DEQUEUE" "Lcom/example/nameward/nameward/epp/ResultCode;" (.ref w_SUCCESS_ACK_TO_DEQUEUE)) (S_SUCCESS_ENDING_SESSION : Sta Z Z.heap "com/example/nameward/nameward/epp/ResultCode" "SUCCESS_ENDING_SESSION" "Lcom/example/nameward/nameward/epp/ResultCode;" (.ref w_SUCCESS_ENDING_SESSION)) (S_SYNTAX_ERROR : Sta Z Z.heap "com/example/nameward/nameward/epp/ResultCode" "SYNTAX_ERROR" "Lcom/example/nameward/nameward/epp/ResultCode;" (.ref w_SYNTAX_ERROR)) (S_USE_ERROR : Sta Z Z.heap "com/example/nameward/nameward/epp/ResultCode" "USE_ERROR" "Lcom/example/nameward/nameward/epp/ResultCode;" (.ref w_USE_ERROR)) (S_REQUIRED_PARAMETER_MISSING : Sta Z Z.heap "com/example/nameward/nameward/epp/ResultCode" "REQUIRED_PARAMETER_MISSING" "Lcom/example/nameward/nameward/epp/ResultCode;" (.ref w_REQUIRED_PARAMETER_MISSING)) (S_PARAMETER_VALUE_SYNTAX_ERROR : Sta Z Z.heap "com/example/nameward/nameward/epp/ResultCode" "PARAMETER_VALUE_SYNTAX_ERROR" "Lcom/example/nameward/nameward/epp/ResultCode;" (.ref w_PARAMETER_VALUE_SYNTAX_ERROR)) (S_UNIMPLEMENTED_COMMAND : Sta Z Z.heap "com/example/nameward/nameward/epp/ResultCode" "UNIMPLEMENTED_COMMAND" "Lcom/example/nameward/nameward/epp/ResultCode;" (.ref w_UNIMPLEMENTED_COMMAND)) (S_UNIMPLEMENTED_OPTION : Sta Z Z.heap "com/example/nameward/nameward/epp/ResultCode" "UNIMPLEMENTED_OPTION" "Lcom/example/nameward/nameward/epp/ResultCode;" (.ref w_UNIMPLEMENTED_OPTION)) (S_UNIMPLEMENTED_EXTENSION : Sta Z Z.heap "com/example/nameward/nameward/epp/ResultCode" "UNIMPLEMENTED_EXTENSION" "Lcom/example/nameward/nameward/epp/ResultCode;" (.ref w_UNIMPLEMENTED_EXTENSION)) (S_BILLING_FAILURE : Sta Z Z.heap "com/example/nameward/nameward/epp/ResultCode" "BILLING_FAILURE" "Lcom/example/nameward/nameward/epp/ResultCode;" (.ref w_BILLING_FAILURE)) (S_NOT_ELIGIBLE_FOR_TRANSFER : Sta Z Z.heap "com/example/nameward/nameward/epp/ResultCode" "NOT_ELIGIBLE_FOR_TRANSFER" "Lcom/example/nameward/nameward/epp/ResultCode;" (.ref w_NOT_ELIGIBLE_FOR_TRANSFER)) (S_AUTHENTICATION_ERROR : Sta Z Z.heap "com/example/nameward/nameward/epp/ResultCode" "AUTHENTICATION_ERROR" "Lcom/example/nameward/nameward/epp/ResultCode;" (.ref w_AUTHENTICATION_ERROR)) (S_AUTHORIZATION_ERROR : Sta Z Z.heap "com/example/nameward/nameward/epp/ResultCode" "AUTHORIZATION_ERROR" "Lcom/example/nameward/nameward/epp/ResultCode;" (.ref w_AUTHORIZATION_ERROR)) (S_INVALID_AUTHORIZATION_INFORMATION : Sta Z Z.heap "com/example/nameward/nameward/epp/ResultCode" "INVALID_AUTHORIZATION_INFORMATION" "Lcom/example/nameward/nameward/epp/ResultCode;" (.ref w_INVALID_AUTHORIZATION_INFORMATION)) (S_OBJECT_PENDING_TRANSFER : Sta Z Z.heap "com/example/nameward/nameward/epp/ResultCode" "OBJECT_PENDING_TRANSFER" "Lcom/example/nameward/nameward/epp/ResultCode;" (.ref w_OBJECT_PENDING_TRANSFER)) (S_OBJECT_NOT_PENDING_TRANSFER : Sta Z Z.heap "com/example/nameward/nameward/epp/ResultCode" "OBJECT_NOT_PENDING_TRANSFER" "Lcom/example/nameward/nameward/epp/ResultCode;" (.ref w_OBJECT_NOT_PENDING_TRANSFER)) (S_OBJECT_EXISTS : Sta Z Z.heap "com/example/nameward/nameward/epp/ResultCode" "OBJECT_EXISTS" "Lcom/example/nameward/nameward/epp/ResultCode;" (.ref w_OBJECT_EXISTS)) (S_OBJECT_DOES_NOT_EXIST : Sta Z Z.heap "com/example/nameward/nameward/epp/ResultCode" "OBJECT_DOES_NOT_EXIST" "Lcom/example/nameward/nameward/epp/ResultCode;" (.ref w_OBJECT_DOES_NOT_EXIST)) (S_OBJECT_STATUS_PROHIBITS_OPERATION : Sta Z Z.heap "com/example/nameward/nameward/epp/ResultCode" "OBJECT_STATUS_PROHIBITS_OPERATION" "Lcom/example/nameward/nameward/epp/ResultCode;" (.ref w_OBJECT_STATUS_PROHIBITS_OPERATION)) (S_OBJECT_ASSOCIATION_PROHIBITS_OPERATION : Sta Z Z.heap "com/example/nameward/nameward/epp/ResultCode" "OBJECT_ASSOCIATION_PROHIBITS_OPERATION" "Lcom/example/nameward/nameward/epp/ResultCode;" (.ref w_OBJECT_ASSOCIATION_PROHIBITS_OPERATION)) (S_PARAMETER_VALUE_POLICY_ERROR : Sta Z Z.heap "com/example/nameward/nameward/epp/ResultCode" "PARAMETER_VALUE_POLICY_ERROR" "Lcom/example/nameward/nameward/epp/ResultCode;" (.ref w_PARAMETER_VALUE_POLICY_ERROR)) (S_UNIMPLEMENTED_OBJECT_SERVICE : Sta Z Z.heap "com/example/nameward/nameward/epp/ResultCode" "UNIMPLEMENTED_OBJECT_SERVICE" "Lcom/example/nameward/nameward/epp/ResultCode;" (.ref w_UNIMPLEMENTED_OBJECT_SERVICE)) (S_DATA_MANAGEMENT_POLICY_VIOLATION : Sta Z Z.heap "com/example/nameward/nameward/epp/ResultCode" "DATA_MANAGEMENT_POLICY_VIOLATION" "Lcom/example/nameward/nameward/epp/ResultCode;" (.ref w_DATA_MANAGEMENT_POLICY_VIOLATION)) (S_COMMAND_FAILED : Sta Z Z.heap "com/example/nameward/nameward/epp/ResultCode" "COMMAND_FAILED" "Lcom/example/nameward/nameward/epp/ResultCode;" (.ref w_COMMAND_FAILED)) (S_AUTHENTICATION_ERROR_CLOSING : Sta Z Z.heap "com/example/nameward/nameward/epp/ResultCode" "AUTHENTICATION_ERROR_CLOSING" "Lcom/example/nameward/nameward/epp/ResultCode;" (.ref w_AUTHENTICATION_ERROR_CLOSING)) (S_SESSION_LIMIT_EXCEEDED : Sta Z Z.heap "com/example/nameward/nameward/epp/ResultCode" "SESSION_LIMIT_EXCEEDED" "Lcom/example/nameward/nameward/epp/ResultCode;" (.ref w_SESSION_LIMIT_EXCEEDED)) (E_w_SUCCESS : Exa Z Z.heap w_SUCCESS "com/example/nameward/nameward/epp/ResultCode") (E_w_SUCCESS_ACTION_PENDING : Exa Z Z.heap w_SUCCESS_ACTION_PENDING "com/example/nameward/nameward/epp/ResultCode") (E_w_SUCCESS_NO_MESSAGES : Exa Z Z.heap w_SUCCESS_NO_MESSAGES "com/example/nameward/nameward/epp/ResultCode") (E_w_SUCCESS_ACK_TO_DEQUEUE : Exa Z Z.heap w_SUCCESS_ACK_TO_DEQUEUE "com/example/nameward/nameward/epp/ResultCode") (E_w_SUCCESS_ENDING_SESSION : Exa Z Z.heap w_SUCCESS_ENDING_SESSION "com/example/nameward/nameward/epp/ResultCode") (E_w_SYNTAX_ERROR : Exa Z Z.heap w_SYNTAX_ERROR "com/example/nameward/nameward/epp/ResultCode") (E_w_USE_ERROR : Exa Z Z.heap w_USE_ERROR "com/example/nameward/nameward/epp/ResultCode") (E_w_REQUIRED_PARAMETER_MISSING : Exa Z Z.heap w_REQUIRED_PARAMETER_MISSING "com/example/nameward/nameward/epp/ResultCode") (E_w_PARAMETER_VALUE_SYNTAX_ERROR : Exa Z Z.heap w_PARAMETER_VALUE_SYNTAX_ERROR "com/example/nameward/nameward/epp/ResultCode") (E_w_UNIMPLEMENTED_COMMAND : Exa Z Z.heap w_UNIMPLEMENTED_COMMAND "com/example/nameward/nameward/epp/ResultCode") (E_w_UNIMPLEMENTED_OPTION : Exa Z Z.heap w_UNIMPLEMENTED_OPTION "com/example/nameward/nameward/epp/ResultCode") (E_w_UNIMPLEMENTED_EXTENSION : Exa Z Z.heap w_UNIMPLEMENTED_EXTENSION "com/example/nameward/nameward/epp/ResultCode") (E_w_BILLING_FAILURE : Exa Z Z.heap w_BILLING_FAILURE "com/example/nameward/nameward/epp/ResultCode") (E_w_NOT_ELIGIBLE_FOR_TRANSFER : Exa Z Z.heap w_NOT_ELIGIBLE_FOR_TRANSFER "com/example/nameward/nameward/epp/ResultCode") (E_w_AUTHENTICATION_ERROR : Exa Z Z.heap w_AUTHENTICATION_ERROR "com/example/nameward/nameward/epp/ResultCode") (E_w_AUTHORIZATION_ERROR : Exa Z Z.heap w_AUTHORIZATION_ERROR "com/example/nameward/nameward/epp/ResultCode") (E_w_INVALID_AUTHORIZATION_INFORMATION : Exa Z Z.heap w_INVALID_AUTHORIZATION_INFORMATION "com/example/nameward/nameward/epp/ResultCode") (E_w_OBJECT_PENDING_TRANSFER : Exa Z Z.heap w_OBJECT_PENDING_TRANSFER "com/example/nameward/nameward/epp/ResultCode") (E_w_OBJECT_NOT_PENDING_TRANSFER : Exa Z Z.heap w_OBJECT_NOT_PENDING_TRANSFER "com/example/nameward/nameward/epp/ResultCode") (E_w_OBJECT_EXISTS : Exa Z Z.heap w_OBJECT_EXISTS "com/example/nameward/nameward/epp/ResultCode") (E_w_OBJECT_DOES_NOT_EXIST : Exa Z Z.heap w_OBJECT_DOES_NOT_EXIST "com/example/nameward/nameward/epp/ResultCode") (E_w_OBJECT_STATUS_PROHIBITS_OPERATION : Exa Z Z.heap w_OBJECT_STATUS_PROHIBITS_OPERATION "com/example/nameward/nameward/epp/ResultCode") (E_w_OBJECT_ASSOCIATION_PROHIBITS_OPERATION : Exa Z Z.heap w_OBJECT_ASSOCIATION_PROHIBITS_OPERATION "com/example/nameward/nameward/epp/ResultCode") (E_w_PARAMETER_VALUE_POLICY_ERROR : Exa Z Z.heap w_PARAMETER_VALUE_POLICY_ERROR "com/example/nameward/nameward/epp/ResultCode") (E_w_UNIMPLEMENTED_OBJECT_SERVICE : Exa Z Z.heap w_UNIMPLEMENTED_OBJECT_SERVICE "com/example/nameward/nameward/epp/ResultCode") (E_w_DATA_MANAGEMENT_POLICY_VIOLATION : Exa Z Z.heap w_DATA_MANAGEMENT_POLICY_VIOLATION "com/example/nameward/nameward/epp/ResultCode") (E_w_COMMAND_FAILED : Exa Z Z.heap w_COMMAND_FAILED "com/example/nameward/nameward/epp/ResultCode") (E_w_AUTHENTICATION_ERROR_CLOSING : Exa Z Z.heap w_AUTHENTICATION_ERROR_CLOSING "com/example/nameward/nameward/epp/ResultCode") (E_w_SESSION_LIMIT_EXCEEDED : Exa Z Z.heap w_SESSION_LIMIT_EXCEEDED "com/example/nameward/nameward/epp/ResultCode") (EX : ∀ a ∈ [w_SUCCESS, w_SUCCESS_ACTION_PENDING, w_SUCCESS_NO_MESSAGES, w_SUCCESS_ACK_TO_DEQUEUE, w_SUCCESS_ENDING_SESSION, w_SYNTAX_ERROR, w_USE_ERROR, w_REQUIRED_PARAMETER_MISSING, w_PARAMETER_VALUE_SYNTAX_ERROR, w_UNIMPLEMENTED_COMMAND, w_UNIMPLEMENTED_OPTION, w_UNIMPLEMENTED_EXTENSION, w_BILLING_FAILURE, w_NOT_ELIGIBLE_FOR_TRANSFER, w_AUTHENTICATION_ERROR, w_AUTHORIZATION_ERROR, w_INVALID_AUTHORIZATION_INFORMATION, w_OBJECT_PENDING_TRANSFER, w_OBJECT_NOT_PENDING_TRANSFER, w_OBJECT_EXISTS, w_OBJECT_DOES_NOT_EXIST, w_OBJECT_STATUS_PROHIBITS_OPERATION, w_OBJECT_ASSOCIATION_PROHIBITS_OPERATION, w_PARAMETER_VALUE_POLICY_ERROR, w_UNIMPLEMENTED_OBJECT_SERVICE, w_DATA_MANAGEMENT_POLICY_VIOLATION, w_COMMAND_FAILED, w_AUTHENTICATION_ERROR_CLOSING, w_SESSION_LIMIT_EXCEEDED], Exa Z Z.heap a "com/example/nameward/nameward/epp/ResultCode") (FX : ∀ n, n < 29 → Fld Z Z.heap ([w_SUCCESS, w_SUCCESS_ACTION_PENDING, w_SUCCESS_NO_MESSAGES, w_SUCCESS_ACK_TO_DEQUEUE, w_SUCCESS_ENDING_SESSION, w_SYNTAX_ERROR, w_USE_ERROR, w_REQUIRED_PARAMETER_MISSING, w_PARAMETER_VALUE_SYNTAX_ERROR, w_UNIMPLEMENTED_COMMAND, w_UNIMPLEMENTED_OPTION, w_UNIMPLEMENTED_EXTENSION, w_BILLING_FAILURE, w_NOT_ELIGIBLE_FOR_TRANSFER, w_AUTHENTICATION_ERROR, w_AUTHORIZATION_ERROR, w_INVALID_AUTHORIZATION_INFORMATION, w_OBJECT_PENDING_TRANSFER, w_OBJECT_NOT_PENDING_TRANSFER, w_OBJECT_EXISTS, w_OBJECT_DOES_NOT_EXIST, w_OBJECT_STATUS_PROHIBITS_OPERATION, w_OBJECT_ASSOCIATION_PROHIBITS_OPERATION, w_PARAMETER_VALUE_POLICY_ERROR, w_UNIMPLEMENTED_OBJECT_SERVICE, w_DATA_MANAGEMENT_POLICY_VIOLATION, w_COMMAND_FAILED, w_AUTHENTICATION_ERROR_CLOSING, w_SESSION_LIMIT_EXCEEDED].getD n 0) "com/example/nameward/nameward/epp/ResultCode" "code" "I" (.int ([(1000 : Int32), (1001 : Int32), (1300 : Int32), (1301 : Int32), (1500 : Int32), (2001 : Int32), (2002 : Int32), (2003 : Int32), (2005 : Int32), (2101 : Int32), (2102 : Int32), (2103 : Int32), (2104 : Int32), (2106 : Int32), (2200 : Int32), (2201 : Int32), (2202 : Int32), (2300 : Int32), (2301 : Int32), (2302 : Int32), (2303 : Int32), (2304 : Int32), (2305 : Int32), (2306 : Int32), (2307 : Int32), (2308 : Int32), (2400 : Int32), (2501 : Int32), (2502 : Int32)].getD n 0))) (OLD : Old Z n0 h0) (o_SUCCESS : own_ord Z w_SUCCESS = 0) (o_SUCCESS_ACTION_PENDING : own_ord Z w_SUCCESS_ACTION_PENDING = 1) (o_SUCCESS_NO_MESSAGES : own_ord Z w_SUCCESS_NO_MESSAGES = 2) (o_SUCCESS_ACK_TO_DEQUEUE : own_ord Z w_SUCCESS_ACK_TO_DEQUEUE = 3) (o_SUCCESS_ENDING_SESSION : own_ord Z w_SUCCESS_ENDING_SESSION = 4) (o_SYNTAX_ERROR : own_ord Z w_SYNTAX_ERROR = 5) (o_USE_ERROR : own_ord Z w_USE_ERROR = 6) (o_REQUIRED_PARAMETER_MISSING : own_ord Z w_REQUIRED_PARAMETER_MISSING = 7) (o_PARAMETER_VALUE_SYNTAX_ERROR : own_ord Z w_PARAMETER_VALUE_SYNTAX_ERROR = 8) (o_UNIMPLEMENTED_COMMAND : own_ord Z w_UNIMPLEMENTED_COMMAND = 9) (o_UNIMPLEMENTED_OPTION : own_ord Z w_UNIMPLEMENTED_OPTION = 10) (o_UNIMPLEMENTED_EXTENSION : own_ord Z w_UNIMPLEMENTED_EXTENSION = 11) (o_BILLING_FAILURE : own_ord Z w_BILLING_FAILURE = 12) (o_NOT_ELIGIBLE_FOR_TRANSFER : own_ord Z w_NOT_ELIGIBLE_FOR_TRANSFER = 13) (o_AUTHENTICATION_ERROR : own_ord Z w_AUTHENTICATION_ERROR = 14) (o_AUTHORIZATION_ERROR : own_ord Z w_AUTHORIZATION_ERROR = 15) (o_INVALID_AUTHORIZATION_INFORMATION : own_ord Z w_INVALID_AUTHORIZATION_INFORMATION = 16) (o_OBJECT_PENDING_TRANSFER : own_ord Z w_OBJECT_PENDING_TRANSFER = 17) (o_OBJECT_NOT_PENDING_TRANSFER : own_ord Z w_OBJECT_NOT_PENDING_TRANSFER = 18) (o_OBJECT_EXISTS : own_ord Z w_OBJECT_EXISTS = 19) (o_OBJECT_DOES_NOT_EXIST : own_ord Z w_OBJECT_DOES_NOT_EXIST = 20) (o_OBJECT_STATUS_PROHIBITS_OPERATION : own_ord Z w_OBJECT_STATUS_PROHIBITS_OPERATION = 21) (o_OBJECT_ASSOCIATION_PROHIBITS_OPERATION : own_ord Z w_OBJECT_ASSOCIATION_PROHIBITS_OPERATION = 22) (o_PARAMETER_VALUE_POLICY_ERROR : own_ord Z w_PARAMETER_VALUE_POLICY_ERROR = 23) (o_UNIMPLEMENTED_OBJECT_SERVICE : own_ord Z w_UNIMPLEMENTED_OBJECT_SERVICE = 24) (o_DATA_MANAGEMENT_POLICY_VIOLATION : own_ord Z w_DATA_MANAGEMENT_POLICY_VIOLATION = 25) (o_COMMAND_FAILED : own_ord Z w_COMMAND_FAILED = 26) (o_AUTHENTICATION_ERROR_CLOSING : own_ord Z w_AUTHENTICATION_ERROR_CLOSING = 27) (o_SESSION_LIMIT_EXCEEDED : own_ord Z w_SESSION_LIMIT_EXCEEDED = 28) :
    MetFree l x (head1 (Jvm.Cond.code x code maxLocals ret :: ws) room_1) (fun a U => a = #[(.int p0)] ∧ Z.Warmed39 U.vm ∧ U.heap = h0) (fun _ _ _ _ _ => True) (fun _ U o U' => ∃ v L, o = .returned v ∧ Q_rm0 Z p0 w_SUCCESS w_SUCCESS_ACTION_PENDING w_SUCCESS_NO_MESSAGES w_SUCCESS_ACK_TO_DEQUEUE w_SUCCESS_ENDING_SESSION w_SYNTAX_ERROR w_USE_ERROR w_REQUIRED_PARAMETER_MISSING w_PARAMETER_VALUE_SYNTAX_ERROR w_UNIMPLEMENTED_COMMAND w_UNIMPLEMENTED_OPTION w_UNIMPLEMENTED_EXTENSION w_BILLING_FAILURE w_NOT_ELIGIBLE_FOR_TRANSFER w_AUTHENTICATION_ERROR w_AUTHORIZATION_ERROR w_INVALID_AUTHORIZATION_INFORMATION w_OBJECT_PENDING_TRANSFER w_OBJECT_NOT_PENDING_TRANSFER w_OBJECT_EXISTS w_OBJECT_DOES_NOT_EXIST w_OBJECT_STATUS_PROHIBITS_OPERATION w_OBJECT_ASSOCIATION_PROHIBITS_OPERATION w_PARAMETER_VALUE_POLICY_ERROR w_UNIMPLEMENTED_OBJECT_SERVICE w_DATA_MANAGEMENT_POLICY_VIOLATION w_COMMAND_FAILED w_AUTHENTICATION_ERROR_CLOSING w_SESSION_LIMIT_EXCEEDED h0 n0 v U'.heap L ∧ FrameEnd U o U' L room_1.cells room_1.slots) := by
  refine MetFree.of_bodySF (plainFor_of_name pn_2) hisR ?_
  intro p e s m args below meth c s₁ Bd hml0 hP hK
  obtain ⟨rfl, hZ, hh⟩ := hP
  have hx := Bd.exec
  have hby := Bd.bytes
  have hml : c.maxLocals = 5 := hml0
  have hown : s.vm.findClass "com/example/nameward/nameward/epp/ResultCodeEndsSessionPinLaw" = some m.cls := findClass_of_methodNamed Bd.named
  have hnm := (name_of_methodNamed Bd.named Bd.method).1
  have hlk : meth.locks = false := by first | exact BodyLoose.notSynchronized (by assumption) | exact Body.notSynchronized (by assumption) | assumption
  have X0 : Stand p l e room_1 s m #[(.int p0)] below meth c s₁ [] 0 0 := Stand.of_body Bd
  have e0 : s₁.heap = h0 := by rw [← hh, Bd.state]; rfl
  have N0 := Fr.nil n0
  have Zn := Z0
  have K0 : ∀ t, Steps p.tables e below (s₁.setTop (mkF m 0 #[.val (.int p0), .unset, .unset, .unset, .unset] [])) t → Steps p.tables e below (s₁.setTop (entryFrame m #[(.int p0)] maxLocals)) t := fun t k => castTop (ef_rm0 m p0) k
  obtain ⟨T1, h1, k1, X1, e1, E1, A1, O1, st1⟩ := newR X0 hx hZ hown (hw _ (List.mem_of_getElem? (i := 0) rfl)) (hw _ (List.mem_of_getElem? (i := 1) rfl)) e0 (g := (mkF m 2 #[.val (.int p0), .unset, .unset, .unset, .unset] [(.int (29 : Int32))])) rfl (hb hby at_2) rfl (by decide) (cap := 29) (by decide) (by decide) (by decide) (by decide)
  obtain ⟨b1, g1⟩ : ∃ z, z = h0.size := ⟨_, rfl⟩
  rw [← g1] at A1 st1
  have g_b1 : n0 ≤ b1 := Nat.le_trans Zn (Nat.le_of_eq g1.symm)
  replace OLD := OLD.ext E1
  replace Zn := Nat.le_trans Zn E1.1
  have V_b1 : Arv Z h1 b1 k1 (.object "com/example/nameward/nameward/epp/ResultCode") (29 : Int32) [.null, .null, .null, .null, .null, .null, .null, .null, .null, .null, .null, .null, .null, .null, .null, .null, .null, .null, .null, .null, .null, .null, .null, .null, .null, .null, .null, .null, .null] .null := (Arv.new A1 (by decide)).pad (pad_rep [] .null 29)
  obtain ⟨T2, X2, e2, st2⟩ := getS2 X1 hx hZ hown (host := "") (Or.inl (hw _ (List.mem_of_getElem? (i := 2) rfl))) Via.refl e1 (S_SUCCESS.ext OLD.2) (g := (mkF m 7 #[.val (.int p0), .unset, .unset, .unset, .unset] [(.int (0 : Int32)), (.ref b1), (.ref b1)])) rfl (hb hby at_7)
  obtain ⟨cl3, Ar3, q3, S3, N3z, H3, G3⟩ := V_b1
  have hin3 : ¬ ((0 : Int32) < 0 ∨ cl3.slots.size ≤ ((0 : Int32)).toNatClampNeg) := inb_of S3 ⟨by decide, by decide⟩
  obtain ⟨T3, h3, X3, e3, W3, st3⟩ := stR X2 hx hZ e2 Ar3 (j := (0 : Int32)) hin3 rfl (Sto.ofV Ar3 q3 O1 (Ins.self (E_w_SUCCESS.ext OLD.2))) (g := (mkF m 10 #[.val (.int p0), .unset, .unset, .unset, .unset] [(.ref w_SUCCESS), (.int (0 : Int32)), (.ref b1), (.ref b1)])) rfl rfl (hb hby at_10)
  replace OLD := OLD.wr W3 g_b1
  have V_b1 : Arv Z h3 b1 k1 (.object "com/example/nameward/nameward/epp/ResultCode") (29 : Int32) [(.ref w_SUCCESS), .null, .null, .null, .null, .null, .null, .null, .null, .null, .null, .null, .null, .null, .null, .null, .null, .null, .null, .null, .null, .null, .null, .null, .null, .null, .null, .null, .null] .null := Arv.set Ar3 q3 S3 N3z H3 G3 rfl W3 0 rfl (Nat.le_of_ble_eq_true rfl)
  replace Zn := Nat.le_trans Zn (Keep.of_wr W3).1
  have N3 := Fr.snoc X3 N0 g_b1
  have K4 : ∀ t, Steps p.tables e below (T3.setTop (mkF m 11 #[.val (.int p0), .unset, .unset, .unset, .unset] [(.ref b1)])) t → Steps p.tables e below (s₁.setTop (entryFrame m #[(.int p0)] maxLocals)) t := by
    intro t kt
    refine K0 t ?_
    show Steps p.tables e below (s₁.setTop (mkF m 0 #[.val (.int p0), .unset, .unset, .unset, .unset] [])) _
    refine XS.bipush X0.here hx rfl (hb hby at_0) ?_
    show Steps p.tables e below (s₁.setTop (mkF m 2 #[.val (.int p0), .unset, .unset, .unset, .unset] [(.int (29 : Int32))])) _
    refine st1 _ ?_
    show Steps p.tables e below (T1.setTop (mkF m 5 #[.val (.int p0), .unset, .unset, .unset, .unset] [(.ref b1)])) _
    refine XS.dup X1.here hx rfl (hb hby at_5) rfl rfl ?_
    show Steps p.tables e below (T1.setTop (mkF m 6 #[.val (.int p0), .unset, .unset, .unset, .unset] [(.ref b1), (.ref b1)])) _
    refine XS.iconst X1.here hx rfl (hb hby at_6) ?_
    show Steps p.tables e below (T1.setTop (mkF m 7 #[.val (.int p0), .unset, .unset, .unset, .unset] [(.int (0 : Int32)), (.ref b1), (.ref b1)])) _
    refine st2 _ ?_
    show Steps p.tables e below (T2.setTop (mkF m 10 #[.val (.int p0), .unset, .unset, .unset, .unset] [(.ref w_SUCCESS), (.int (0 : Int32)), (.ref b1), (.ref b1)])) _
    refine st3 _ ?_
    exact kt
  obtain ⟨lc5, X5, N5⟩ : ∃ lc, Stand p l e room_1 s m #[(.int p0)] below meth c T3 lc 1 29 ∧ Fr n0 lc := ⟨_, X3, N3⟩
  clear st1 e1 X1 T1 h1 E1 A1 g1 st2 e2 X2 T2 cl3 Ar3 q3 S3 N3z H3 G3 hin3 X3 W3 st3 N3
  obtain ⟨T6, X6, e6, st6⟩ := getS2 X5 hx hZ hown (host := "") (Or.inl (hw _ (List.mem_of_getElem? (i := 6) rfl))) Via.refl e3 (S_SUCCESS_ACTION_PENDING.ext OLD.2) (g := (mkF m 13 #[.val (.int p0), .unset, .unset, .unset, .unset] [(.int (1 : Int32)), (.ref b1), (.ref b1)])) rfl (hb hby at_13)
  obtain ⟨cl7, Ar7, q7, S7, N7z, H7, G7⟩ := V_b1
  have hin7 : ¬ ((1 : Int32) < 0 ∨ cl7.slots.size ≤ ((1 : Int32)).toNatClampNeg) := inb_of S7 ⟨by decide, by decide⟩
  obtain ⟨T7, h7, X7, e7, W7, st7⟩ := stR X6 hx hZ e6 Ar7 (j := (1 : Int32)) hin7 rfl (Sto.ofV Ar7 q7 O1 (Ins.self (E_w_SUCCESS_ACTION_PENDING.ext OLD.2))) (g := (mkF m 16 #[.val (.int p0), .unset, .unset, .unset, .unset] [(.ref w_SUCCESS_ACTION_PENDING), (.int (1 : Int32)), (.ref b1), (.ref b1)])) rfl rfl (hb hby at_16)
  replace OLD := OLD.wr W7 g_b1
  have V_b1 : Arv Z h7 b1 k1 (.object "com/example/nameward/nameward/epp/ResultCode") (29 : Int32) [(.ref w_SUCCESS), (.ref w_SUCCESS_ACTION_PENDING), .null, .null, .null, .null, .null, .null, .null, .null, .null, .null, .null, .null, .null, .null, .null, .null, .null, .null, .null, .null, .null, .null, .null, .null, .null, .null, .null] .null := Arv.set Ar7 q7 S7 N7z H7 G7 rfl W7 1 rfl (Nat.le_of_ble_eq_true rfl)
  replace Zn := Nat.le_trans Zn (Keep.of_wr W7).1
  have N7 := Fr.snoc X7 N5 g_b1
  have K8 : ∀ t, Steps p.tables e below (T7.setTop (mkF m 17 #[.val (.int p0), .unset, .unset, .unset, .unset] [(.ref b1)])) t → Steps p.tables e below (s₁.setTop (entryFrame m #[(.int p0)] maxLocals)) t := by
    intro t kt
    refine K4 t ?_
    show Steps p.tables e below (T3.setTop (mkF m 11 #[.val (.int p0), .unset, .unset, .unset, .unset] [(.ref b1)])) _
    refine XS.dup X5.here hx rfl (hb hby at_11) rfl rfl ?_
    show Steps p.tables e below (T3.setTop (mkF m 12 #[.val (.int p0), .unset, .unset, .unset, .unset] [(.ref b1), (.ref b1)])) _
    refine XS.iconst X5.here hx rfl (hb hby at_12) ?_
    show Steps p.tables e below (T3.setTop (mkF m 13 #[.val (.int p0), .unset, .unset, .unset, .unset] [(.int (1 : Int32)), (.ref b1), (.ref b1)])) _
    refine st6 _ ?_
    show Steps p.tables e below (T6.setTop (mkF m 16 #[.val (.int p0), .unset, .unset, .unset, .unset] [(.ref w_SUCCESS_ACTION_PENDING), (.int (1 : Int32)), (.ref b1), (.ref b1)])) _
    refine st7 _ ?_
    exact kt
  obtain ⟨lc9, X9, N9⟩ : ∃ lc, Stand p l e room_1 s m #[(.int p0)] below meth c T7 lc 1 29 ∧ Fr n0 lc := ⟨_, X7, N7⟩
  clear T3 h3 e3 K4 lc5 X5 N5 st6 e6 X6 T6 cl7 Ar7 q7 S7 N7z H7 G7 hin7 X7 W7 st7 N7
  obtain ⟨T10, X10, e10, st10⟩ := getS2 X9 hx hZ hown (host := "") (Or.inl (hw _ (List.mem_of_getElem? (i := 8) rfl))) Via.refl e7 (S_SUCCESS_NO_MESSAGES.ext OLD.2) (g := (mkF m 19 #[.val (.int p0), .unset, .unset, .unset, .unset] [(.int (2 : Int32)), (.ref b1), (.ref b1)])) rfl (hb hby at_19)
  obtain ⟨cl11, Ar11, q11, S11, N11z, H11, G11⟩ := V_b1
  have hin11 : ¬ ((2 : Int32) < 0 ∨ cl11.slots.size ≤ ((2 : Int32)).toNatClampNeg) := inb_of S11 ⟨by decide, by decide⟩
  obtain ⟨T11, h11, X11, e11, W11, st11⟩ := stR X10 hx hZ e10 Ar11 (j := (2 : Int32)) hin11 rfl (Sto.ofV Ar11 q11 O1 (Ins.self (E_w_SUCCESS_NO_MESSAGES.ext OLD.2))) (g := (mkF m 22 #[.val (.int p0), .unset, .unset, .unset, .unset] [(.ref w_SUCCESS_NO_MESSAGES), (.int (2 : Int32)), (.ref b1), (.ref b1)])) rfl rfl (hb hby at_22)
  replace OLD := OLD.wr W11 g_b1
  have V_b1 : Arv Z h11 b1 k1 (.object "com/example/nameward/nameward/epp/ResultCode") (29 : Int32) [(.ref w_SUCCESS), (.ref w_SUCCESS_ACTION_PENDING), (.ref w_SUCCESS_NO_MESSAGES), .null, .null, .null, .null, .null, .null, .null, .null, .null, .null, .null, .null, .null, .null, .null, .null, .null, .null, .null, .null, .null, .null, .null, .null, .null, .null] .null := Arv.set Ar11 q11 S11 N11z H11 G11 rfl W11 2 rfl (Nat.le_of_ble_eq_true rfl)
  replace Zn := Nat.le_trans Zn (Keep.of_wr W11).1
  have N11 := Fr.snoc X11 N9 g_b1
  have K12 : ∀ t, Steps p.tables e below (T11.setTop (mkF m 23 #[.val (.int p0), .unset, .unset, .unset, .unset] [(.ref b1)])) t → Steps p.tables e below (s₁.setTop (entryFrame m #[(.int p0)] maxLocals)) t := by
    intro t kt
    refine K8 t ?_
    show Steps p.tables e below (T7.setTop (mkF m 17 #[.val (.int p0), .unset, .unset, .unset, .unset] [(.ref b1)])) _
    refine XS.dup X9.here hx rfl (hb hby at_17) rfl rfl ?_
    show Steps p.tables e below (T7.setTop (mkF m 18 #[.val (.int p0), .unset, .unset, .unset, .unset] [(.ref b1), (.ref b1)])) _
    refine XS.iconst X9.here hx rfl (hb hby at_18) ?_
    show Steps p.tables e below (T7.setTop (mkF m 19 #[.val (.int p0), .unset, .unset, .unset, .unset] [(.int (2 : Int32)), (.ref b1), (.ref b1)])) _
    refine st10 _ ?_
    show Steps p.tables e below (T10.setTop (mkF m 22 #[.val (.int p0), .unset, .unset, .unset, .unset] [(.ref w_SUCCESS_NO_MESSAGES), (.int (2 : Int32)), (.ref b1), (.ref b1)])) _
    refine st11 _ ?_
    exact kt
  obtain ⟨lc13, X13, N13⟩ : ∃ lc, Stand p l e room_1 s m #[(.int p0)] below meth c T11 lc 1 29 ∧ Fr n0 lc := ⟨_, X11, N11⟩
  clear T7 h7 e7 K8 lc9 X9 N9 st10 e10 X10 T10 cl11 Ar11 q11 S11 N11z H11 G11 hin11 X11 W11 st11 N11
  obtain ⟨T14, X14, e14, st14⟩ := getS2 X13 hx hZ hown (host := "") (Or.inl (hw _ (List.mem_of_getElem? (i := 10) rfl))) Via.refl e11 (S_SUCCESS_ACK_TO_DEQUEUE.ext OLD.2) (g := (mkF m 25 #[.val (.int p0), .unset, .unset, .unset, .unset] [(.int (3 : Int32)), (.ref b1), (.ref b1)])) rfl (hb hby at_25)
  obtain ⟨cl15, Ar15, q15, S15, N15z, H15, G15⟩ := V_b1
  have hin15 : ¬ ((3 : Int32) < 0 ∨ cl15.slots.size ≤ ((3 : Int32)).toNatClampNeg) := inb_of S15 ⟨by decide, by decide⟩
  obtain ⟨T15, h15, X15, e15, W15, st15⟩ := stR X14 hx hZ e14 Ar15 (j := (3 : Int32)) hin15 rfl (Sto.ofV Ar15 q15 O1 (Ins.self (E_w_SUCCESS_ACK_TO_DEQUEUE.ext OLD.2))) (g := (mkF m 28 #[.val (.int p0), .unset, .unset, .unset, .unset] [(.ref w_SUCCESS_ACK_TO_DEQUEUE), (.int (3 : Int32)), (.ref b1), (.ref b1)])) rfl rfl (hb hby at_28)
  replace OLD := OLD.wr W15 g_b1
  have V_b1 : Arv Z h15 b1 k1 (.object "com/example/nameward/nameward/epp/ResultCode") (29 : Int32) [(.ref w_SUCCESS), (.ref w_SUCCESS_ACTION_PENDING), (.ref w_SUCCESS_NO_MESSAGES), (.ref w_SUCCESS_ACK_TO_DEQUEUE), .null, .null, .null, .null, .null, .null, .null, .null, .null, .null, .null, .null, .null, .null, .null, .null, .null, .null, .null, .null, .null, .null, .null, .null, .null] .null := Arv.set Ar15 q15 S15 N15z H15 G15 rfl W15 3 rfl (Nat.le_of_ble_eq_true rfl)
  replace Zn := Nat.le_trans Zn (Keep.of_wr W15).1
  have N15 := Fr.snoc X15 N13 g_b1
  have K16 : ∀ t, Steps p.tables e below (T15.setTop (mkF m 29 #[.val (.int p0), .unset, .unset, .unset, .unset] [(.ref b1)])) t → Steps p.tables e below (s₁.setTop (entryFrame m #[(.int p0)] maxLocals)) t := by
    intro t kt
    refine K12 t ?_
    show Steps p.tables e below (T11.setTop (mkF m 23 #[.val (.int p0), .unset, .unset, .unset, .unset] [(.ref b1)])) _
    refine XS.dup X13.here hx rfl (hb hby at_23) rfl rfl ?_
    show Steps p.tables e below (T11.setTop (mkF m 24 #[.val (.int p0), .unset, .unset, .unset, .unset] [(.ref b1), (.ref b1)])) _
    refine XS.iconst X13.here hx rfl (hb hby at_24) ?_
    show Steps p.tables e below (T11.setTop (mkF m 25 #[.val (.int p0), .unset, .unset, .unset, .unset] [(.int (3 : Int32)), (.ref b1), (.ref b1)])) _
    refine st14 _ ?_
    show Steps p.tables e below (T14.setTop (mkF m 28 #[.val (.int p0), .unset, .unset, .unset, .unset] [(.ref w_SUCCESS_ACK_TO_DEQUEUE), (.int (3 : Int32)), (.ref b1), (.ref b1)])) _
    refine st15 _ ?_
    exact kt
  obtain ⟨lc17, X17, N17⟩ : ∃ lc, Stand p l e room_1 s m #[(.int p0)] below meth c T15 lc 1 29 ∧ Fr n0 lc := ⟨_, X15, N15⟩
  clear T11 h11 e11 K12 lc13 X13 N13 st14 e14 X14 T14 cl15 Ar15 q15 S15 N15z H15 G15 hin15 X15 W15 st15 N15
  obtain ⟨T18, X18, e18, st18⟩ := getS2 X17 hx hZ hown (host := "") (Or.inl (hw _ (List.mem_of_getElem? (i := 12) rfl))) Via.refl e15 (S_SUCCESS_ENDING_SESSION.ext OLD.2) (g := (mkF m 31 #[.val (.int p0), .unset, .unset, .unset, .unset] [(.int (4 : Int32)), (.ref b1), (.ref b1)])) rfl (hb hby at_31)
  obtain ⟨cl19, Ar19, q19, S19, N19z, H19, G19⟩ := V_b1
  have hin19 : ¬ ((4 : Int32) < 0 ∨ cl19.slots.size ≤ ((4 : Int32)).toNatClampNeg) := inb_of S19 ⟨by decide, by decide⟩
  obtain ⟨T19, h19, X19, e19, W19, st19⟩ := stR X18 hx hZ e18 Ar19 (j := (4 : Int32)) hin19 rfl (Sto.ofV Ar19 q19 O1 (Ins.self (E_w_SUCCESS_ENDING_SESSION.ext OLD.2))) (g := (mkF m 34 #[.val (.int p0), .unset, .unset, .unset, .unset] [(.ref w_SUCCESS_ENDING_SESSION), (.int (4 : Int32)), (.ref b1), (.ref b1)])) rfl rfl (hb hby at_34)
  replace OLD := OLD.wr W19 g_b1
  have V_b1 : Arv Z h19 b1 k1 (.object "com/example/nameward/nameward/epp/ResultCode") (29 : Int32) [(.ref w_SUCCESS), (.ref w_SUCCESS_ACTION_PENDING), (.ref w_SUCCESS_NO_MESSAGES), (.ref w_SUCCESS_ACK_TO_DEQUEUE), (.ref w_SUCCESS_ENDING_SESSION), .null, .null, .null, .null, .null, .null, .null, .null, .null, .null, .null, .null, .null, .null, .null, .null, .null, .null, .null, .null, .null, .null, .null, .null] .null := Arv.set Ar19 q19 S19 N19z H19 G19 rfl W19 4 rfl (Nat.le_of_ble_eq_true rfl)
  replace Zn := Nat.le_trans Zn (Keep.of_wr W19).1
  have N19 := Fr.snoc X19 N17 g_b1
  have K20 : ∀ t, Steps p.tables e below (T19.setTop (mkF m 35 #[.val (.int p0), .unset, .unset, .unset, .unset] [(.ref b1)])) t → Steps p.tables e below (s₁.setTop (entryFrame m #[(.int p0)] maxLocals)) t := by
    intro t kt
    refine K16 t ?_
    show Steps p.tables e below (T15.setTop (mkF m 29 #[.val (.int p0), .unset, .unset, .unset, .unset] [(.ref b1)])) _
    refine XS.dup X17.here hx rfl (hb hby at_29) rfl rfl ?_
    show Steps p.tables e below (T15.setTop (mkF m 30 #[.val (.int p0), .unset, .unset, .unset, .unset] [(.ref b1), (.ref b1)])) _
    refine XS.iconst X17.here hx rfl (hb hby at_30) ?_
    show Steps p.tables e below (T15.setTop (mkF m 31 #[.val (.int p0), .unset, .unset, .unset, .unset] [(.int (4 : Int32)), (.ref b1), (.ref b1)])) _
    refine st18 _ ?_
    show Steps p.tables e below (T18.setTop (mkF m 34 #[.val (.int p0), .unset, .unset, .unset, .unset] [(.ref w_SUCCESS_ENDING_SESSION), (.int (4 : Int32)), (.ref b1), (.ref b1)])) _
    refine st19 _ ?_
    exact kt
  obtain ⟨lc21, X21, N21⟩ : ∃ lc, Stand p l e room_1 s m #[(.int p0)] below meth c T19 lc 1 29 ∧ Fr n0 lc := ⟨_, X19, N19⟩
  clear T15 h15 e15 K16 lc17 X17 N17 st18 e18 X18 T18 cl19 Ar19 q19 S19 N19z H19 G19 hin19 X19 W19 st19 N19
  obtain ⟨T22, X22, e22, st22⟩ := getS2 X21 hx hZ hown (host := "") (Or.inl (hw _ (List.mem_of_getElem? (i := 14) rfl))) Via.refl e19 (S_SYNTAX_ERROR.ext OLD.2) (g := (mkF m 37 #[.val (.int p0), .unset, .unset, .unset, .unset] [(.int (5 : Int32)), (.ref b1), (.ref b1)])) rfl (hb hby at_37)
  obtain ⟨cl23, Ar23, q23, S23, N23z, H23, G23⟩ := V_b1
  have hin23 : ¬ ((5 : Int32) < 0 ∨ cl23.slots.size ≤ ((5 : Int32)).toNatClampNeg) := inb_of S23 ⟨by decide, by decide⟩
  obtain ⟨T23, h23, X23, e23, W23, st23⟩ := stR X22 hx hZ e22 Ar23 (j := (5 : Int32)) hin23 rfl (Sto.ofV Ar23 q23 O1 (Ins.self (E_w_SYNTAX_ERROR.ext OLD.2))) (g := (mkF m 40 #[.val (.int p0), .unset, .unset, .unset, .unset] [(.ref w_SYNTAX_ERROR), (.int (5 : Int32)), (.ref b1), (.ref b1)])) rfl rfl (hb hby at_40)
  replace OLD := OLD.wr W23 g_b1
  have V_b1 : Arv Z h23 b1 k1 (.object "com/example/nameward/nameward/epp/ResultCode") (29 : Int32) [(.ref w_SUCCESS), (.ref w_SUCCESS_ACTION_PENDING), (.ref w_SUCCESS_NO_MESSAGES), (.ref w_SUCCESS_ACK_TO_DEQUEUE), (.ref w_SUCCESS_ENDING_SESSION), (.ref w_SYNTAX_ERROR), .null, .null, .null, .null, .null, .null, .null, .null, .null, .null, .null, .null, .null, .null, .null, .null, .null, .null, .null, .null, .null, .null, .null] .null := Arv.set Ar23 q23 S23 N23z H23 G23 rfl W23 5 rfl (Nat.le_of_ble_eq_true rfl)
  replace Zn := Nat.le_trans Zn (Keep.of_wr W23).1
  have N23 := Fr.snoc X23 N21 g_b1
  have K24 : ∀ t, Steps p.tables e below (T23.setTop (mkF m 41 #[.val (.int p0), .unset, .unset, .unset, .unset] [(.ref b1)])) t → Steps p.tables e below (s₁.setTop (entryFrame m #[(.int p0)] maxLocals)) t := by
    intro t kt
    refine K20 t ?_
    show Steps p.tables e below (T19.setTop (mkF m 35 #[.val (.int p0), .unset, .unset, .unset, .unset] [(.ref b1)])) _
    refine XS.dup X21.here hx rfl (hb hby at_35) rfl rfl ?_
    show Steps p.tables e below (T19.setTop (mkF m 36 #[.val (.int p0), .unset, .unset, .unset, .unset] [(.ref b1), (.ref b1)])) _
    refine XS.iconst X21.here hx rfl (hb hby at_36) ?_
    show Steps p.tables e below (T19.setTop (mkF m 37 #[.val (.int p0), .unset, .unset, .unset, .unset] [(.int (5 : Int32)), (.ref b1), (.ref b1)])) _
    refine st22 _ ?_
    show Steps p.tables e below (T22.setTop (mkF m 40 #[.val (.int p0), .unset, .unset, .unset, .unset] [(.ref w_SYNTAX_ERROR), (.int (5 : Int32)), (.ref b1), (.ref b1)])) _
    refine st23 _ ?_
    exact kt
  obtain ⟨lc25, X25, N25⟩ : ∃ lc, Stand p l e room_1 s m #[(.int p0)] below meth c T23 lc 1 29 ∧ Fr n0 lc := ⟨_, X23, N23⟩
  clear T19 h19 e19 K20 lc21 X21 N21 st22 e22 X22 T22 cl23 Ar23 q23 S23 N23z H23 G23 hin23 X23 W23 st23 N23
  obtain ⟨T26, X26, e26, st26⟩ := getS2 X25 hx hZ hown (host := "") (Or.inl (hw _ (List.mem_of_getElem? (i := 16) rfl))) Via.refl e23 (S_USE_ERROR.ext OLD.2) (g := (mkF m 44 #[.val (.int p0), .unset, .unset, .unset, .unset] [(.int (6 : Int32)), (.ref b1), (.ref b1)])) rfl (hb hby at_44)
  obtain ⟨cl27, Ar27, q27, S27, N27z, H27, G27⟩ := V_b1
  have hin27 : ¬ ((6 : Int32) < 0 ∨ cl27.slots.size ≤ ((6 : Int32)).toNatClampNeg) := inb_of S27 ⟨by decide, by decide⟩
  obtain ⟨T27, h27, X27, e27, W27, st27⟩ := stR X26 hx hZ e26 Ar27 (j := (6 : Int32)) hin27 rfl (Sto.ofV Ar27 q27 O1 (Ins.self (E_w_USE_ERROR.ext OLD.2))) (g := (mkF m 47 #[.val (.int p0), .unset, .unset, .unset, .unset] [(.ref w_USE_ERROR), (.int (6 : Int32)), (.ref b1), (.ref b1)])) rfl rfl (hb hby at_47)
  replace OLD := OLD.wr W27 g_b1
  have V_b1 : Arv Z h27 b1 k1 (.object "com/example/nameward/nameward/epp/ResultCode") (29 : Int32) [(.ref w_SUCCESS), (.ref w_SUCCESS_ACTION_PENDING), (.ref w_SUCCESS_NO_MESSAGES), (.ref w_SUCCESS_ACK_TO_DEQUEUE), (.ref w_SUCCESS_ENDING_SESSION), (.ref w_SYNTAX_ERROR), (.ref w_USE_ERROR), .null, .null, .null, .null, .null, .null, .null, .null, .null, .null, .null, .null, .null, .null, .null, .null, .null, .null, .null, .null, .null, .null] .null := Arv.set Ar27 q27 S27 N27z H27 G27 rfl W27 6 rfl (Nat.le_of_ble_eq_true rfl)
  replace Zn := Nat.le_trans Zn (Keep.of_wr W27).1
  have N27 := Fr.snoc X27 N25 g_b1
  have K28 : ∀ t, Steps p.tables e below (T27.setTop (mkF m 48 #[.val (.int p0), .unset, .unset, .unset, .unset] [(.ref b1)])) t → Steps p.tables e below (s₁.setTop (entryFrame m #[(.int p0)] maxLocals)) t := by
    intro t kt
    refine K24 t ?_
    show Steps p.tables e below (T23.setTop (mkF m 41 #[.val (.int p0), .unset, .unset, .unset, .unset] [(.ref b1)])) _
    refine XS.dup X25.here hx rfl (hb hby at_41) rfl rfl ?_
    show Steps p.tables e below (T23.setTop (mkF m 42 #[.val (.int p0), .unset, .unset, .unset, .unset] [(.ref b1), (.ref b1)])) _
    refine XS.bipush X25.here hx rfl (hb hby at_42) ?_
    show Steps p.tables e below (T23.setTop (mkF m 44 #[.val (.int p0), .unset, .unset, .unset, .unset] [(.int (6 : Int32)), (.ref b1), (.ref b1)])) _
    refine st26 _ ?_
    show Steps p.tables e below (T26.setTop (mkF m 47 #[.val (.int p0), .unset, .unset, .unset, .unset] [(.ref w_USE_ERROR), (.int (6 : Int32)), (.ref b1), (.ref b1)])) _
    refine st27 _ ?_
    exact kt
  obtain ⟨lc29, X29, N29⟩ : ∃ lc, Stand p l e room_1 s m #[(.int p0)] below meth c T27 lc 1 29 ∧ Fr n0 lc := ⟨_, X27, N27⟩
  clear T23 h23 e23 K24 lc25 X25 N25 st26 e26 X26 T26 cl27 Ar27 q27 S27 N27z H27 G27 hin27 X27 W27 st27 N27
  obtain ⟨T30, X30, e30, st30⟩ := getS2 X29 hx hZ hown (host := "") (Or.inl (hw _ (List.mem_of_getElem? (i := 18) rfl))) Via.refl e27 (S_REQUIRED_PARAMETER_MISSING.ext OLD.2) (g := (mkF m 51 #[.val (.int p0), .unset, .unset, .unset, .unset] [(.int (7 : Int32)), (.ref b1), (.ref b1)])) rfl (hb hby at_51)
  obtain ⟨cl31, Ar31, q31, S31, N31z, H31, G31⟩ := V_b1
  have hin31 : ¬ ((7 : Int32) < 0 ∨ cl31.slots.size ≤ ((7 : Int32)).toNatClampNeg) := inb_of S31 ⟨by decide, by decide⟩
  obtain ⟨T31, h31, X31, e31, W31, st31⟩ := stR X30 hx hZ e30 Ar31 (j := (7 : Int32)) hin31 rfl (Sto.ofV Ar31 q31 O1 (Ins.self (E_w_REQUIRED_PARAMETER_MISSING.ext OLD.2))) (g := (mkF m 54 #[.val (.int p0), .unset, .unset, .unset, .unset] [(.ref w_REQUIRED_PARAMETER_MISSING), (.int (7 : Int32)), (.ref b1), (.ref b1)])) rfl rfl (hb hby at_54)
  replace OLD := OLD.wr W31 g_b1
  have V_b1 : Arv Z h31 b1 k1 (.object "com/example/nameward/nameward/epp/ResultCode") (29 : Int32) [(.ref w_SUCCESS), (.ref w_SUCCESS_ACTION_PENDING), (.ref w_SUCCESS_NO_MESSAGES), (.ref w_SUCCESS_ACK_TO_DEQUEUE), (.ref w_SUCCESS_ENDING_SESSION), (.ref w_SYNTAX_ERROR), (.ref w_USE_ERROR), (.ref w_REQUIRED_PARAMETER_MISSING), .null, .null, .null, .null, .null, .null, .null, .null, .null, .null, .null, .null, .null, .null, .null, .null, .null, .null, .null, .null, .null] .null := Arv.set Ar31 q31 S31 N31z H31 G31 rfl W31 7 rfl (Nat.le_of_ble_eq_true rfl)
  replace Zn := Nat.le_trans Zn (Keep.of_wr W31).1
  have N31 := Fr.snoc X31 N29 g_b1
  have K32 : ∀ t, Steps p.tables e below (T31.setTop (mkF m 55 #[.val (.int p0), .unset, .unset, .unset, .unset] [(.ref b1)])) t → Steps p.tables e below (s₁.setTop (entryFrame m #[(.int p0)] maxLocals)) t := by
    intro t kt
    refine K28 t ?_
    show Steps p.tables e below (T27.setTop (mkF m 48 #[.val (.int p0), .unset, .unset, .unset, .unset] [(.ref b1)])) _
    refine XS.dup X29.here hx rfl (hb hby at_48) rfl rfl ?_
    show Steps p.tables e below (T27.setTop (mkF m 49 #[.val (.int p0), .unset, .unset, .unset, .unset] [(.ref b1), (.ref b1)])) _
    refine XS.bipush X29.here hx rfl (hb hby at_49) ?_
    show Steps p.tables e below (T27.setTop (mkF m 51 #[.val (.int p0), .unset, .unset, .unset, .unset] [(.int (7 : Int32)), (.ref b1), (.ref b1)])) _
    refine st30 _ ?_
    show Steps p.tables e below (T30.setTop (mkF m 54 #[.val (.int p0), .unset, .unset, .unset, .unset] [(.ref w_REQUIRED_PARAMETER_MISSING), (.int (7 : Int32)), (.ref b1), (.ref b1)])) _
    refine st31 _ ?_
    exact kt
  obtain ⟨lc33, X33, N33⟩ : ∃ lc, Stand p l e room_1 s m #[(.int p0)] below meth c T31 lc 1 29 ∧ Fr n0 lc := ⟨_, X31, N31⟩
  clear T27 h27 e27 K28 lc29 X29 N29 st30 e30 X30 T30 cl31 Ar31 q31 S31 N31z H31 G31 hin31 X31 W31 st31 N31
  obtain ⟨T34, X34, e34, st34⟩ := getS2 X33 hx hZ hown (host := "") (Or.inl (hw _ (List.mem_of_getElem? (i := 20) rfl))) Via.refl e31 (S_PARAMETER_VALUE_SYNTAX_ERROR.ext OLD.2) (g := (mkF m 58 #[.val (.int p0), .unset, .unset, .unset, .unset] [(.int (8 : Int32)), (.ref b1), (.ref b1)])) rfl (hb hby at_58)
  obtain ⟨cl35, Ar35, q35, S35, N35z, H35, G35⟩ := V_b1
  have hin35 : ¬ ((8 : Int32) < 0 ∨ cl35.slots.size ≤ ((8 : Int32)).toNatClampNeg) := inb_of S35 ⟨by decide, by decide⟩
  obtain ⟨T35, h35, X35, e35, W35, st35⟩ := stR X34 hx hZ e34 Ar35 (j := (8 : Int32)) hin35 rfl (Sto.ofV Ar35 q35 O1 (Ins.self (E_w_PARAMETER_VALUE_SYNTAX_ERROR.ext OLD.2))) (g := (mkF m 61 #[.val (.int p0), .unset, .unset, .unset, .unset] [(.ref w_PARAMETER_VALUE_SYNTAX_ERROR), (.int (8 : Int32)), (.ref b1), (.ref b1)])) rfl rfl (hb hby at_61)
  replace OLD := OLD.wr W35 g_b1
  have V_b1 : Arv Z h35 b1 k1 (.object "com/example/nameward/nameward/epp/ResultCode") (29 : Int32) [(.ref w_SUCCESS), (.ref w_SUCCESS_ACTION_PENDING), (.ref w_SUCCESS_NO_MESSAGES), (.ref w_SUCCESS_ACK_TO_DEQUEUE), (.ref w_SUCCESS_ENDING_SESSION), (.ref w_SYNTAX_ERROR), (.ref w_USE_ERROR), (.ref w_REQUIRED_PARAMETER_MISSING), (.ref w_PARAMETER_VALUE_SYNTAX_ERROR), .null, .null, .null, .null, .null, .null, .null, .null, .null, .null, .null, .null, .null, .null, .null, .null, .null, .null, .null, .null] .null := Arv.set Ar35 q35 S35 N35z H35 G35 rfl W35 8 rfl (Nat.le_of_ble_eq_true rfl)
  replace Zn := Nat.le_trans Zn (Keep.of_wr W35).1
  have N35 := Fr.snoc X35 N33 g_b1
  have K36 : ∀ t, Steps p.tables e below (T35.setTop (mkF m 62 #[.val (.int p0), .unset, .unset, .unset, .unset] [(.ref b1)])) t → Steps p.tables e below (s₁.setTop (entryFrame m #[(.int p0)] maxLocals)) t := by
    intro t kt
    refine K32 t ?_
    show Steps p.tables e below (T31.setTop (mkF m 55 #[.val (.int p0), .unset, .unset, .unset, .unset] [(.ref b1)])) _
    refine XS.dup X33.here hx rfl (hb hby at_55) rfl rfl ?_
    show Steps p.tables e below (T31.setTop (mkF m 56 #[.val (.int p0), .unset, .unset, .unset, .unset] [(.ref b1), (.ref b1)])) _
    refine XS.bipush X33.here hx rfl (hb hby at_56) ?_
    show Steps p.tables e below (T31.setTop (mkF m 58 #[.val (.int p0), .unset, .unset, .unset, .unset] [(.int (8 : Int32)), (.ref b1), (.ref b1)])) _
    refine st34 _ ?_
    show Steps p.tables e below (T34.setTop (mkF m 61 #[.val (.int p0), .unset, .unset, .unset, .unset] [(.ref w_PARAMETER_VALUE_SYNTAX_ERROR), (.int (8 : Int32)), (.ref b1), (.ref b1)])) _
    refine st35 _ ?_
    exact kt
  obtain ⟨lc37, X37, N37⟩ : ∃ lc, Stand p l e room_1 s m #[(.int p0)] below meth c T35 lc 1 29 ∧ Fr n0 lc := ⟨_, X35, N35⟩
  clear T31 h31 e31 K32 lc33 X33 N33 st34 e34 X34 T34 cl35 Ar35 q35 S35 N35z H35 G35 hin35 X35 W35 st35 N35
  obtain ⟨T38, X38, e38, st38⟩ := getS2 X37 hx hZ hown (host := "") (Or.inl (hw _ (List.mem_of_getElem? (i := 22) rfl))) Via.refl e35 (S_UNIMPLEMENTED_COMMAND.ext OLD.2) (g := (mkF m 65 #[.val (.int p0), .unset, .unset, .unset, .unset] [(.int (9 : Int32)), (.ref b1), (.ref b1)])) rfl (hb hby at_65)
  obtain ⟨cl39, Ar39, q39, S39, N39z, H39, G39⟩ := V_b1
  have hin39 : ¬ ((9 : Int32) < 0 ∨ cl39.slots.size ≤ ((9 : Int32)).toNatClampNeg) := inb_of S39 ⟨by decide, by decide⟩
  obtain ⟨T39, h39, X39, e39, W39, st39⟩ := stR X38 hx hZ e38 Ar39 (j := (9 : Int32)) hin39 rfl (Sto.ofV Ar39 q39 O1 (Ins.self (E_w_UNIMPLEMENTED_COMMAND.ext OLD.2))) (g := (mkF m 68 #[.val (.int p0), .unset, .unset, .unset, .unset] [(.ref w_UNIMPLEMENTED_COMMAND), (.int (9 : Int32)), (.ref b1), (.ref b1)])) rfl rfl (hb hby at_68)
  replace OLD := OLD.wr W39 g_b1
  have V_b1 : Arv Z h39 b1 k1 (.object "com/example/nameward/nameward/epp/ResultCode") (29 : Int32) [(.ref w_SUCCESS), (.ref w_SUCCESS_ACTION_PENDING), (.ref w_SUCCESS_NO_MESSAGES), (.ref w_SUCCESS_ACK_TO_DEQUEUE), (.ref w_SUCCESS_ENDING_SESSION), (.ref w_SYNTAX_ERROR), (.ref w_USE_ERROR), (.ref w_REQUIRED_PARAMETER_MISSING), (.ref w_PARAMETER_VALUE_SYNTAX_ERROR), (.ref w_UNIMPLEMENTED_COMMAND), .null, .null, .null, .null, .null, .null, .null, .null, .null, .null, .null, .null, .null, .null, .null, .null, .null, .null, .null] .null := Arv.set Ar39 q39 S39 N39z H39 G39 rfl W39 9 rfl (Nat.le_of_ble_eq_true rfl)
  replace Zn := Nat.le_trans Zn (Keep.of_wr W39).1
  have N39 := Fr.snoc X39 N37 g_b1
  have K40 : ∀ t, Steps p.tables e below (T39.setTop (mkF m 69 #[.val (.int p0), .unset, .unset, .unset, .unset] [(.ref b1)])) t → Steps p.tables e below (s₁.setTop (entryFrame m #[(.int p0)] maxLocals)) t := by
    intro t kt
    refine K36 t ?_
    show Steps p.tables e below (T35.setTop (mkF m 62 #[.val (.int p0), .unset, .unset, .unset, .unset] [(.ref b1)])) _
    refine XS.dup X37.here hx rfl (hb hby at_62) rfl rfl ?_
    show Steps p.tables e below (T35.setTop (mkF m 63 #[.val (.int p0), .unset, .unset, .unset, .unset] [(.ref b1), (.ref b1)])) _
    refine XS.bipush X37.here hx rfl (hb hby at_63) ?_
    show Steps p.tables e below (T35.setTop (mkF m 65 #[.val (.int p0), .unset, .unset, .unset, .unset] [(.int (9 : Int32)), (.ref b1), (.ref b1)])) _
    refine st38 _ ?_
    show Steps p.tables e below (T38.setTop (mkF m 68 #[.val (.int p0), .unset, .unset, .unset, .unset] [(.ref w_UNIMPLEMENTED_COMMAND), (.int (9 : Int32)), (.ref b1), (.ref b1)])) _
    refine st39 _ ?_
    exact kt
  obtain ⟨lc41, X41, N41⟩ : ∃ lc, Stand p l e room_1 s m #[(.int p0)] below meth c T39 lc 1 29 ∧ Fr n0 lc := ⟨_, X39, N39⟩
  clear T35 h35 e35 K36 lc37 X37 N37 st38 e38 X38 T38 cl39 Ar39 q39 S39 N39z H39 G39 hin39 X39 W39 st39 N39
  obtain ⟨T42, X42, e42, st42⟩ := getS2 X41 hx hZ hown (host := "") (Or.inl (hw _ (List.mem_of_getElem? (i := 24) rfl))) Via.refl e39 (S_UNIMPLEMENTED_OPTION.ext OLD.2) (g := (mkF m 72 #[.val (.int p0), .unset, .unset, .unset, .unset] [(.int (10 : Int32)), (.ref b1), (.ref b1)])) rfl (hb hby at_72)
  obtain ⟨cl43, Ar43, q43, S43, N43z, H43, G43⟩ := V_b1
  have hin43 : ¬ ((10 : Int32) < 0 ∨ cl43.slots.size ≤ ((10 : Int32)).toNatClampNeg) := inb_of S43 ⟨by decide, by decide⟩
  obtain ⟨T43, h43, X43, e43, W43, st43⟩ := stR X42 hx hZ e42 Ar43 (j := (10 : Int32)) hin43 rfl (Sto.ofV Ar43 q43 O1 (Ins.self (E_w_UNIMPLEMENTED_OPTION.ext OLD.2))) (g := (mkF m 75 #[.val (.int p0), .unset, .unset, .unset, .unset] [(.ref w_UNIMPLEMENTED_OPTION), (.int (10 : Int32)), (.ref b1), (.ref b1)])) rfl rfl (hb hby at_75)
  replace OLD := OLD.wr W43 g_b1
  have V_b1 : Arv Z h43 b1 k1 (.object "com/example/nameward/nameward/epp/ResultCode") (29 : Int32) [(.ref w_SUCCESS), (.ref w_SUCCESS_ACTION_PENDING), (.ref w_SUCCESS_NO_MESSAGES), (.ref w_SUCCESS_ACK_TO_DEQUEUE), (.ref w_SUCCESS_ENDING_SESSION), (.ref w_SYNTAX_ERROR), (.ref w_USE_ERROR), (.ref w_REQUIRED_PARAMETER_MISSING), (.ref w_PARAMETER_VALUE_SYNTAX_ERROR), (.ref w_UNIMPLEMENTED_COMMAND), (.ref w_UNIMPLEMENTED_OPTION), .null, .null, .null, .null, .null, .null, .null, .null, .null, .null, .null, .null, .null, .null, .null, .null, .null, .null] .null := Arv.set Ar43 q43 S43 N43z H43 G43 rfl W43 10 rfl (Nat.le_of_ble_eq_true rfl)
  replace Zn := Nat.le_trans Zn (Keep.of_wr W43).1
  have N43 := Fr.snoc X43 N41 g_b1
  have K44 : ∀ t, Steps p.tables e below (T43.setTop (mkF m 76 #[.val (.int p0), .unset, .unset, .unset, .unset] [(.ref b1)])) t → Steps p.tables e below (s₁.setTop (entryFrame m #[(.int p0)] maxLocals)) t := by
    intro t kt
    refine K40 t ?_
    show Steps p.tables e below (T39.setTop (mkF m 69 #[.val (.int p0), .unset, .unset, .unset, .unset] [(.ref b1)])) _
    refine XS.dup X41.here hx rfl (hb hby at_69) rfl rfl ?_
    show Steps p.tables e below (T39.setTop (mkF m 70 #[.val (.int p0), .unset, .unset, .unset, .unset] [(.ref b1), (.ref b1)])) _
    refine XS.bipush X41.here hx rfl (hb hby at_70) ?_
    show Steps p.tables e below (T39.setTop (mkF m 72 #[.val (.int p0), .unset, .unset, .unset, .unset] [(.int (10 : Int32)), (.ref b1), (.ref b1)])) _
    refine st42 _ ?_
    show Steps p.tables e below (T42.setTop (mkF m 75 #[.val (.int p0), .unset, .unset, .unset, .unset] [(.ref w_UNIMPLEMENTED_OPTION), (.int (10 : Int32)), (.ref b1), (.ref b1)])) _
    refine st43 _ ?_
    exact kt
  obtain ⟨lc45, X45, N45⟩ : ∃ lc, Stand p l e room_1 s m #[(.int p0)] below meth c T43 lc 1 29 ∧ Fr n0 lc := ⟨_, X43, N43⟩
  clear T39 h39 e39 K40 lc41 X41 N41 st42 e42 X42 T42 cl43 Ar43 q43 S43 N43z H43 G43 hin43 X43 W43 st43 N43
  obtain ⟨T46, X46, e46, st46⟩ := getS2 X45 hx hZ hown (host := "") (Or.inl (hw _ (List.mem_of_getElem? (i := 26) rfl))) Via.refl e43 (S_UNIMPLEMENTED_EXTENSION.ext OLD.2) (g := (mkF m 79 #[.val (.int p0), .unset, .unset, .unset, .unset] [(.int (11 : Int32)), (.ref b1), (.ref b1)])) rfl (hb hby at_79)
  obtain ⟨cl47, Ar47, q47, S47, N47z, H47, G47⟩ := V_b1
  have hin47 : ¬ ((11 : Int32) < 0 ∨ cl47.slots.size ≤ ((11 : Int32)).toNatClampNeg) := inb_of S47 ⟨by decide, by decide⟩
  obtain ⟨T47, h47, X47, e47, W47, st47⟩ := stR X46 hx hZ e46 Ar47 (j := (11 : Int32)) hin47 rfl (Sto.ofV Ar47 q47 O1 (Ins.self (E_w_UNIMPLEMENTED_EXTENSION.ext OLD.2))) (g := (mkF m 82 #[.val (.int p0), .unset, .unset, .unset, .unset] [(.ref w_UNIMPLEMENTED_EXTENSION), (.int (11 : Int32)), (.ref b1), (.ref b1)])) rfl rfl (hb hby at_82)
  replace OLD := OLD.wr W47 g_b1
  have V_b1 : Arv Z h47 b1 k1 (.object "com/example/nameward/nameward/epp/ResultCode") (29 : Int32) [(.ref w_SUCCESS), (.ref w_SUCCESS_ACTION_PENDING), (.ref w_SUCCESS_NO_MESSAGES), (.ref w_SUCCESS_ACK_TO_DEQUEUE), (.ref w_SUCCESS_ENDING_SESSION), (.ref w_SYNTAX_ERROR), (.ref w_USE_ERROR), (.ref w_REQUIRED_PARAMETER_MISSING), (.ref w_PARAMETER_VALUE_SYNTAX_ERROR), (.ref w_UNIMPLEMENTED_COMMAND), (.ref w_UNIMPLEMENTED_OPTION), (.ref w_UNIMPLEMENTED_EXTENSION), .null, .null, .null, .null, .null, .null, .null, .null, .null, .null, .null, .null, .null, .null, .null, .null, .null] .null := Arv.set Ar47 q47 S47 N47z H47 G47 rfl W47 11 rfl (Nat.le_of_ble_eq_true rfl)
  replace Zn := Nat.le_trans Zn (Keep.of_wr W47).1
  have N47 := Fr.snoc X47 N45 g_b1
  have K48 : ∀ t, Steps p.tables e below (T47.setTop (mkF m 83 #[.val (.int p0), .unset, .unset, .unset, .unset] [(.ref b1)])) t → Steps p.tables e below (s₁.setTop (entryFrame m #[(.int p0)] maxLocals)) t := by
    intro t kt
    refine K44 t ?_
    show Steps p.tables e below (T43.setTop (mkF m 76 #[.val (.int p0), .unset, .unset, .unset, .unset] [(.ref b1)])) _
    refine XS.dup X45.here hx rfl (hb hby at_76) rfl rfl ?_
    show Steps p.tables e below (T43.setTop (mkF m 77 #[.val (.int p0), .unset, .unset, .unset, .unset] [(.ref b1), (.ref b1)])) _
    refine XS.bipush X45.here hx rfl (hb hby at_77) ?_
    show Steps p.tables e below (T43.setTop (mkF m 79 #[.val (.int p0), .unset, .unset, .unset, .unset] [(.int (11 : Int32)), (.ref b1), (.ref b1)])) _
    refine st46 _ ?_
    show Steps p.tables e below (T46.setTop (mkF m 82 #[.val (.int p0), .unset, .unset, .unset, .unset] [(.ref w_UNIMPLEMENTED_EXTENSION), (.int (11 : Int32)), (.ref b1), (.ref b1)])) _
    refine st47 _ ?_
    exact kt
  obtain ⟨lc49, X49, N49⟩ : ∃ lc, Stand p l e room_1 s m #[(.int p0)] below meth c T47 lc 1 29 ∧ Fr n0 lc := ⟨_, X47, N47⟩
  clear T43 h43 e43 K44 lc45 X45 N45 st46 e46 X46 T46 cl47 Ar47 q47 S47 N47z H47 G47 hin47 X47 W47 st47 N47
  obtain ⟨T50, X50, e50, st50⟩ := getS2 X49 hx hZ hown (host := "") (Or.inl (hw _ (List.mem_of_getElem? (i := 28) rfl))) Via.refl e47 (S_BILLING_FAILURE.ext OLD.2) (g := (mkF m 86 #[.val (.int p0), .unset, .unset, .unset, .unset] [(.int (12 : Int32)), (.ref b1), (.ref b1)])) rfl (hb hby at_86)
  obtain ⟨cl51, Ar51, q51, S51, N51z, H51, G51⟩ := V_b1
  have hin51 : ¬ ((12 : Int32) < 0 ∨ cl51.slots.size ≤ ((12 : Int32)).toNatClampNeg) := inb_of S51 ⟨by decide, by decide⟩
  obtain ⟨T51, h51, X51, e51, W51, st51⟩ := stR X50 hx hZ e50 Ar51 (j := (12 : Int32)) hin51 rfl (Sto.ofV Ar51 q51 O1 (Ins.self (E_w_BILLING_FAILURE.ext OLD.2))) (g := (mkF m 89 #[.val (.int p0), .unset, .unset, .unset, .unset] [(.ref w_BILLING_FAILURE), (.int (12 : Int32)), (.ref b1), (.ref b1)])) rfl rfl (hb hby at_89)
  replace OLD := OLD.wr W51 g_b1
  have V_b1 : Arv Z h51 b1 k1 (.object "com/example/nameward/nameward/epp/ResultCode") (29 : Int32) [(.ref w_SUCCESS), (.ref w_SUCCESS_ACTION_PENDING), (.ref w_SUCCESS_NO_MESSAGES), (.ref w_SUCCESS_ACK_TO_DEQUEUE), (.ref w_SUCCESS_ENDING_SESSION), (.ref w_SYNTAX_ERROR), (.ref w_USE_ERROR), (.ref w_REQUIRED_PARAMETER_MISSING), (.ref w_PARAMETER_VALUE_SYNTAX_ERROR), (.ref w_UNIMPLEMENTED_COMMAND), (.ref w_UNIMPLEMENTED_OPTION), (.ref w_UNIMPLEMENTED_EXTENSION), (.ref w_BILLING_FAILURE), .null, .null, .null, .null, .null, .null, .null, .null, .null, .null, .null, .null, .null, .null, .null, .null] .null := Arv.set Ar51 q51 S51 N51z H51 G51 rfl W51 12 rfl (Nat.le_of_ble_eq_true rfl)
  replace Zn := Nat.le_trans Zn (Keep.of_wr W51).1
  have N51 := Fr.snoc X51 N49 g_b1
  have K52 : ∀ t, Steps p.tables e below (T51.setTop (mkF m 90 #[.val (.int p0), .unset, .unset, .unset, .unset] [(.ref b1)])) t → Steps p.tables e below (s₁.setTop (entryFrame m #[(.int p0)] maxLocals)) t := by
    intro t kt
    refine K48 t ?_
    show Steps p.tables e below (T47.setTop (mkF m 83 #[.val (.int p0), .unset, .unset, .unset, .unset] [(.ref b1)])) _
    refine XS.dup X49.here hx rfl (hb hby at_83) rfl rfl ?_
    show Steps p.tables e below (T47.setTop (mkF m 84 #[.val (.int p0), .unset, .unset, .unset, .unset] [(.ref b1), (.ref b1)])) _
    refine XS.bipush X49.here hx rfl (hb hby at_84) ?_
    show Steps p.tables e below (T47.setTop (mkF m 86 #[.val (.int p0), .unset, .unset, .unset, .unset] [(.int (12 : Int32)), (.ref b1), (.ref b1)])) _
    refine st50 _ ?_
    show Steps p.tables e below (T50.setTop (mkF m 89 #[.val (.int p0), .unset, .unset, .unset, .unset] [(.ref w_BILLING_FAILURE), (.int (12 : Int32)), (.ref b1), (.ref b1)])) _
    refine st51 _ ?_
    exact kt
  obtain ⟨lc53, X53, N53⟩ : ∃ lc, Stand p l e room_1 s m #[(.int p0)] below meth c T51 lc 1 29 ∧ Fr n0 lc := ⟨_, X51, N51⟩
  clear T47 h47 e47 K48 lc49 X49 N49 st50 e50 X50 T50 cl51 Ar51 q51 S51 N51z H51 G51 hin51 X51 W51 st51 N51
  obtain ⟨T54, X54, e54, st54⟩ := getS2 X53 hx hZ hown (host := "") (Or.inl (hw _ (List.mem_of_getElem? (i := 30) rfl))) Via.refl e51 (S_NOT_ELIGIBLE_FOR_TRANSFER.ext OLD.2) (g := (mkF m 93 #[.val (.int p0), .unset, .unset, .unset, .unset] [(.int (13 : Int32)), (.ref b1), (.ref b1)])) rfl (hb hby at_93)
  obtain ⟨cl55, Ar55, q55, S55, N55z, H55, G55⟩ := V_b1
  have hin55 : ¬ ((13 : Int32) < 0 ∨ cl55.slots.size ≤ ((13 : Int32)).toNatClampNeg) := inb_of S55 ⟨by decide, by decide⟩
  obtain ⟨T55, h55, X55, e55, W55, st55⟩ := stR X54 hx hZ e54 Ar55 (j := (13 : Int32)) hin55 rfl (Sto.ofV Ar55 q55 O1 (Ins.self (E_w_NOT_ELIGIBLE_FOR_TRANSFER.ext OLD.2))) (g := (mkF m 96 #[.val (.int p0), .unset, .unset, .unset, .unset] [(.ref w_NOT_ELIGIBLE_FOR_TRANSFER), (.int (13 : Int32)), (.ref b1), (.ref b1)])) rfl rfl (hb hby at_96)
  replace OLD := OLD.wr W55 g_b1
  have V_b1 : Arv Z h55 b1 k1 (.object "com/example/nameward/nameward/epp/ResultCode") (29 : Int32) [(.ref w_SUCCESS), (.ref w_SUCCESS_ACTION_PENDING), (.ref w_SUCCESS_NO_MESSAGES), (.ref w_SUCCESS_ACK_TO_DEQUEUE), (.ref w_SUCCESS_ENDING_SESSION), (.ref w_SYNTAX_ERROR), (.ref w_USE_ERROR), (.ref w_REQUIRED_PARAMETER_MISSING), (.ref w_PARAMETER_VALUE_SYNTAX_ERROR), (.ref w_UNIMPLEMENTED_COMMAND), (.ref w_UNIMPLEMENTED_OPTION), (.ref w_UNIMPLEMENTED_EXTENSION), (.ref w_BILLING_FAILURE), (.ref w_NOT_ELIGIBLE_FOR_TRANSFER), .null, .null, .null, .null, .null, .null, .null, .null, .null, .null, .null, .null, .null, .null, .null] .null := Arv.set Ar55 q55 S55 N55z H55 G55 rfl W55 13 rfl (Nat.le_of_ble_eq_true rfl)
  replace Zn := Nat.le_trans Zn (Keep.of_wr W55).1
  have N55 := Fr.snoc X55 N53 g_b1
  have K56 : ∀ t, Steps p.tables e below (T55.setTop (mkF m 97 #[.val (.int p0), .unset, .unset, .unset, .unset] [(.ref b1)])) t → Steps p.tables e below (s₁.setTop (entryFrame m #[(.int p0)] maxLocals)) t := by
    intro t kt
    refine K52 t ?_
    show Steps p.tables e below (T51.setTop (mkF m 90 #[.val (.int p0), .unset, .unset, .unset, .unset] [(.ref b1)])) _
    refine XS.dup X53.here hx rfl (hb hby at_90) rfl rfl ?_
    show Steps p.tables e below (T51.setTop (mkF m 91 #[.val (.int p0), .unset, .unset, .unset, .unset] [(.ref b1), (.ref b1)])) _
    refine XS.bipush X53.here hx rfl (hb hby at_91) ?_
    show Steps p.tables e below (T51.setTop (mkF m 93 #[.val (.int p0), .unset, .unset, .unset, .unset] [(.int (13 : Int32)), (.ref b1), (.ref b1)])) _
    refine st54 _ ?_
    show Steps p.tables e below (T54.setTop (mkF m 96 #[.val (.int p0), .unset, .unset, .unset, .unset] [(.ref w_NOT_ELIGIBLE_FOR_TRANSFER), (.int (13 : Int32)), (.ref b1), (.ref b1)])) _
    refine st55 _ ?_
    exact kt
  obtain ⟨lc57, X57, N57⟩ : ∃ lc, Stand p l e room_1 s m #[(.int p0)] below meth c T55 lc 1 29 ∧ Fr n0 lc := ⟨_, X55, N55⟩
  clear T51 h51 e51 K52 lc53 X53 N53 st54 e54 X54 T54 cl55 Ar55 q55 S55 N55z H55 G55 hin55 X55 W55 st55 N55
  obtain ⟨T58, X58, e58, st58⟩ := getS2 X57 hx hZ hown (host := "") (Or.inl (hw _ (List.mem_of_getElem? (i := 32) rfl))) Via.refl e55 (S_AUTHENTICATION_ERROR.ext OLD.2) (g := (mkF m 100 #[.val (.int p0), .unset, .unset, .unset, .unset] [(.int (14 : Int32)), (.ref b1), (.ref b1)])) rfl (hb hby at_100)
  obtain ⟨cl59, Ar59, q59, S59, N59z, H59, G59⟩ := V_b1
  have hin59 : ¬ ((14 : Int32) < 0 ∨ cl59.slots.size ≤ ((14 : Int32)).toNatClampNeg) := inb_of S59 ⟨by decide, by decide⟩
  obtain ⟨T59, h59, X59, e59, W59, st59⟩ := stR X58 hx hZ e58 Ar59 (j := (14 : Int32)) hin59 rfl (Sto.ofV Ar59 q59 O1 (Ins.self (E_w_AUTHENTICATION_ERROR.ext OLD.2))) (g := (mkF m 103 #[.val (.int p0), .unset, .unset, .unset, .unset] [(.ref w_AUTHENTICATION_ERROR), (.int (14 : Int32)), (.ref b1), (.ref b1)])) rfl rfl (hb hby at_103)
  replace OLD := OLD.wr W59 g_b1
  have V_b1 : Arv Z h59 b1 k1 (.object "com/example/nameward/nameward/epp/ResultCode") (29 : Int32) [(.ref w_SUCCESS), (.ref w_SUCCESS_ACTION_PENDING), (.ref w_SUCCESS_NO_MESSAGES), (.ref w_SUCCESS_ACK_TO_DEQUEUE), (.ref w_SUCCESS_ENDING_SESSION), (.ref w_SYNTAX_ERROR), (.ref w_USE_ERROR), (.ref w_REQUIRED_PARAMETER_MISSING), (.ref w_PARAMETER_VALUE_SYNTAX_ERROR), (.ref w_UNIMPLEMENTED_COMMAND), (.ref w_UNIMPLEMENTED_OPTION), (.ref w_UNIMPLEMENTED_EXTENSION), (.ref w_BILLING_FAILURE), (.ref w_NOT_ELIGIBLE_FOR_TRANSFER), (.ref w_AUTHENTICATION_ERROR), .null, .null, .null, .null, .null, .null, .null, .null, .null, .null, .null, .null, .null, .null] .null := Arv.set Ar59 q59 S59 N59z H59 G59 rfl W59 14 rfl (Nat.le_of_ble_eq_true rfl)
  replace Zn := Nat.le_trans Zn (Keep.of_wr W59).1
  have N59 := Fr.snoc X59 N57 g_b1
  have K60 : ∀ t, Steps p.tables e below (T59.setTop (mkF m 104 #[.val (.int p0), .unset, .unset, .unset, .unset] [(.ref b1)])) t → Steps p.tables e below (s₁.setTop (entryFrame m #[(.int p0)] maxLocals)) t := by
    intro t kt
    refine K56 t ?_
    show Steps p.tables e below (T55.setTop (mkF m 97 #[.val (.int p0), .unset, .unset, .unset, .unset] [(.ref b1)])) _
    refine XS.dup X57.here hx rfl (hb hby at_97) rfl rfl ?_
    show Steps p.tables e below (T55.setTop (mkF m 98 #[.val (.int p0), .unset, .unset, .unset, .unset] [(.ref b1), (.ref b1)])) _
    refine XS.bipush X57.here hx rfl (hb hby at_98) ?_
    show Steps p.tables e below (T55.setTop (mkF m 100 #[.val (.int p0), .unset, .unset, .unset, .unset] [(.int (14 : Int32)), (.ref b1), (.ref b1)])) _
    refine st58 _ ?_
    show Steps p.tables e below (T58.setTop (mkF m 103 #[.val (.int p0), .unset, .unset, .unset, .unset] [(.ref w_AUTHENTICATION_ERROR), (.int (14 : Int32)), (.ref b1), (.ref b1)])) _
    refine st59 _ ?_
    exact kt
  obtain ⟨lc61, X61, N61⟩ : ∃ lc, Stand p l e room_1 s m #[(.int p0)] below meth c T59 lc 1 29 ∧ Fr n0 lc := ⟨_, X59, N59⟩
  clear T55 h55 e55 K56 lc57 X57 N57 st58 e58 X58 T58 cl59 Ar59 q59 S59 N59z H59 G59 hin59 X59 W59 st59 N59
  obtain ⟨T62, X62, e62, st62⟩ := getS2 X61 hx hZ hown (host := "") (Or.inl (hw _ (List.mem_of_getElem? (i := 34) rfl))) Via.refl e59 (S_AUTHORIZATION_ERROR.ext OLD.2) (g := (mkF m 107 #[.val (.int p0), .unset, .unset, .unset, .unset] [(.int (15 : Int32)), (.ref b1), (.ref b1)])) rfl (hb hby at_107)
  obtain ⟨cl63, Ar63, q63, S63, N63z, H63, G63⟩ := V_b1
  have hin63 : ¬ ((15 : Int32) < 0 ∨ cl63.slots.size ≤ ((15 : Int32)).toNatClampNeg) := inb_of S63 ⟨by decide, by decide⟩
  obtain ⟨T63, h63, X63, e63, W63, st63⟩ := stR X62 hx hZ e62 Ar63 (j := (15 : Int32)) hin63 rfl (Sto.ofV Ar63 q63 O1 (Ins.self (E_w_AUTHORIZATION_ERROR.ext OLD.2))) (g := (mkF m 110 #[.val (.int p0), .unset, .unset, .unset, .unset] [(.ref w_AUTHORIZATION_ERROR), (.int (15 : Int32)), (.ref b1), (.ref b1)])) rfl rfl (hb hby at_110)
  replace OLD := OLD.wr W63 g_b1
  have V_b1 : Arv Z h63 b1 k1 (.object "com/example/nameward/nameward/epp/ResultCode") (29 : Int32) [(.ref w_SUCCESS), (.ref w_SUCCESS_ACTION_PENDING), (.ref w_SUCCESS_NO_MESSAGES), (.ref w_SUCCESS_ACK_TO_DEQUEUE), (.ref w_SUCCESS_ENDING_SESSION), (.ref w_SYNTAX_ERROR), (.ref w_USE_ERROR), (.ref w_REQUIRED_PARAMETER_MISSING), (.ref w_PARAMETER_VALUE_SYNTAX_ERROR), (.ref w_UNIMPLEMENTED_COMMAND), (.ref w_UNIMPLEMENTED_OPTION), (.ref w_UNIMPLEMENTED_EXTENSION), (.ref w_BILLING_FAILURE), (.ref w_NOT_ELIGIBLE_FOR_TRANSFER), (.ref w_AUTHENTICATION_ERROR), (.ref w_AUTHORIZATION_ERROR), .null, .null, .null, .null, .null, .null, .null, .null, .null, .null, .null, .null, .null] .null := Arv.set Ar63 q63 S63 N63z H63 G63 rfl W63 15 rfl (Nat.le_of_ble_eq_true rfl)
  replace Zn := Nat.le_trans Zn (Keep.of_wr W63).1
  have N63 := Fr.snoc X63 N61 g_b1
  have K64 : ∀ t, Steps p.tables e below (T63.setTop (mkF m 111 #[.val (.int p0), .unset, .unset, .unset, .unset] [(.ref b1)])) t → Steps p.tables e below (s₁.setTop (entryFrame m #[(.int p0)] maxLocals)) t := by
    intro t kt
    refine K60 t ?_
    show Steps p.tables e below (T59.setTop (mkF m 104 #[.val (.int p0), .unset, .unset, .unset, .unset] [(.ref b1)])) _
    refine XS.dup X61.here hx rfl (hb hby at_104) rfl rfl ?_
    show Steps p.tables e below (T59.setTop (mkF m 105 #[.val (.int p0), .unset, .unset, .unset, .unset] [(.ref b1), (.ref b1)])) _
    refine XS.bipush X61.here hx rfl (hb hby at_105) ?_
    show Steps p.tables e below (T59.setTop (mkF m 107 #[.val (.int p0), .unset, .unset, .unset, .unset] [(.int (15 : Int32)), (.ref b1), (.ref b1)])) _
    refine st62 _ ?_
    show Steps p.tables e below (T62.setTop (mkF m 110 #[.val (.int p0), .unset, .unset, .unset, .unset] [(.ref w_AUTHORIZATION_ERROR), (.int (15 : Int32)), (.ref b1), (.ref b1)])) _
    refine st63 _ ?_
    exact kt
  obtain ⟨lc65, X65, N65⟩ : ∃ lc, Stand p l e room_1 s m #[(.int p0)] below meth c T63 lc 1 29 ∧ Fr n0 lc := ⟨_, X63, N63⟩
  clear T59 h59 e59 K60 lc61 X61 N61 st62 e62 X62 T62 cl63 Ar63 q63 S63 N63z H63 G63 hin63 X63 W63 st63 N63
  obtain ⟨T66, X66, e66, st66⟩ := getS2 X65 hx hZ hown (host := "") (Or.inl (hw _ (List.mem_of_getElem? (i := 36) rfl))) Via.refl e63 (S_INVALID_AUTHORIZATION_INFORMATION.ext OLD.2) (g := (mkF m 114 #[.val (.int p0), .unset, .unset, .unset, .unset] [(.int (16 : Int32)), (.ref b1), (.ref b1)])) rfl (hb hby at_114)
  obtain ⟨cl67, Ar67, q67, S67, N67z, H67, G67⟩ := V_b1
  have hin67 : ¬ ((16 : Int32) < 0 ∨ cl67.slots.size ≤ ((16 : Int32)).toNatClampNeg) := inb_of S67 ⟨by decide, by decide⟩
  obtain ⟨T67, h67, X67, e67, W67, st67⟩ := stR X66 hx hZ e66 Ar67 (j := (16 : Int32)) hin67 rfl (Sto.ofV Ar67 q67 O1 (Ins.self (E_w_INVALID_AUTHORIZATION_INFORMATION.ext OLD.2))) (g := (mkF m 117 #[.val (.int p0), .unset, .unset, .unset, .unset] [(.ref w_INVALID_AUTHORIZATION_INFORMATION), (.int (16 : Int32)), (.ref b1), (.ref b1)])) rfl rfl (hb hby at_117)
  replace OLD := OLD.wr W67 g_b1
  have V_b1 : Arv Z h67 b1 k1 (.object "com/example/nameward/nameward/epp/ResultCode") (29 : Int32) [(.ref w_SUCCESS), (.ref w_SUCCESS_ACTION_PENDING), (.ref w_SUCCESS_NO_MESSAGES), (.ref w_SUCCESS_ACK_TO_DEQUEUE), (.ref w_SUCCESS_ENDING_SESSION), (.ref w_SYNTAX_ERROR), (.ref w_USE_ERROR), (.ref w_REQUIRED_PARAMETER_MISSING), (.ref w_PARAMETER_VALUE_SYNTAX_ERROR), (.ref w_UNIMPLEMENTED_COMMAND), (.ref w_UNIMPLEMENTED_OPTION), (.ref w_UNIMPLEMENTED_EXTENSION), (.ref w_BILLING_FAILURE), (.ref w_NOT_ELIGIBLE_FOR_TRANSFER), (.ref w_AUTHENTICATION_ERROR), (.ref w_AUTHORIZATION_ERROR), (.ref w_INVALID_AUTHORIZATION_INFORMATION), .null, .null, .null, .null, .null, .null, .null, .null, .null, .null, .null, .null] .null := Arv.set Ar67 q67 S67 N67z H67 G67 rfl W67 16 rfl (Nat.le_of_ble_eq_true rfl)
  replace Zn := Nat.le_trans Zn (Keep.of_wr W67).1
  have N67 := Fr.snoc X67 N65 g_b1
  have K68 : ∀ t, Steps p.tables e below (T67.setTop (mkF m 118 #[.val (.int p0), .unset, .unset, .unset, .unset] [(.ref b1)])) t → Steps p.tables e below (s₁.setTop (entryFrame m #[(.int p0)] maxLocals)) t := by
    intro t kt
    refine K64 t ?_
    show Steps p.tables e below (T63.setTop (mkF m 111 #[.val (.int p0), .unset, .unset, .unset, .unset] [(.ref b1)])) _
    refine XS.dup X65.here hx rfl (hb hby at_111) rfl rfl ?_
    show Steps p.tables e below (T63.setTop (mkF m 112 #[.val (.int p0), .unset, .unset, .unset, .unset] [(.ref b1), (.ref b1)])) _
    refine XS.bipush X65.here hx rfl (hb hby at_112) ?_
    show Steps p.tables e below (T63.setTop (mkF m 114 #[.val (.int p0), .unset, .unset, .unset, .unset] [(.int (16 : Int32)), (.ref b1), (.ref b1)])) _
    refine st66 _ ?_
    show Steps p.tables e below (T66.setTop (mkF m 117 #[.val (.int p0), .unset, .unset, .unset, .unset] [(.ref w_INVALID_AUTHORIZATION_INFORMATION), (.int (16 : Int32)), (.ref b1), (.ref b1)])) _
    refine st67 _ ?_
    exact kt
  obtain ⟨lc69, X69, N69⟩ : ∃ lc, Stand p l e room_1 s m #[(.int p0)] below meth c T67 lc 1 29 ∧ Fr n0 lc := ⟨_, X67, N67⟩
  clear T63 h63 e63 K64 lc65 X65 N65 st66 e66 X66 T66 cl67 Ar67 q67 S67 N67z H67 G67 hin67 X67 W67 st67 N67
  obtain ⟨T70, X70, e70, st70⟩ := getS2 X69 hx hZ hown (host := "") (Or.inl (hw _ (List.mem_of_getElem? (i := 38) rfl))) Via.refl e67 (S_OBJECT_PENDING_TRANSFER.ext OLD.2) (g := (mkF m 121 #[.val (.int p0), .unset, .unset, .unset, .unset] [(.int (17 : Int32)), (.ref b1), (.ref b1)])) rfl (hb hby at_121)
  obtain ⟨cl71, Ar71, q71, S71, N71z, H71, G71⟩ := V_b1
  have hin71 : ¬ ((17 : Int32) < 0 ∨ cl71.slots.size ≤ ((17 : Int32)).toNatClampNeg) := inb_of S71 ⟨by decide, by decide⟩
  obtain ⟨T71, h71, X71, e71, W71, st71⟩ := stR X70 hx hZ e70 Ar71 (j := (17 : Int32)) hin71 rfl (Sto.ofV Ar71 q71 O1 (Ins.self (E_w_OBJECT_PENDING_TRANSFER.ext OLD.2))) (g := (mkF m 124 #[.val (.int p0), .unset, .unset, .unset, .unset] [(.ref w_OBJECT_PENDING_TRANSFER), (.int (17 : Int32)), (.ref b1), (.ref b1)])) rfl rfl (hb hby at_124)
  replace OLD := OLD.wr W71 g_b1
  have V_b1 : Arv Z h71 b1 k1 (.object "com/example/nameward/nameward/epp/ResultCode") (29 : Int32) [(.ref w_SUCCESS), (.ref w_SUCCESS_ACTION_PENDING), (.ref w_SUCCESS_NO_MESSAGES), (.ref w_SUCCESS_ACK_TO_DEQUEUE), (.ref w_SUCCESS_ENDING_SESSION), (.ref w_SYNTAX_ERROR), (.ref w_USE_ERROR), (.ref w_REQUIRED_PARAMETER_MISSING), (.ref w_PARAMETER_VALUE_SYNTAX_ERROR), (.ref w_UNIMPLEMENTED_COMMAND), (.ref w_UNIMPLEMENTED_OPTION), (.ref w_UNIMPLEMENTED_EXTENSION), (.ref w_BILLING_FAILURE), (.ref w_NOT_ELIGIBLE_FOR_TRANSFER), (.ref w_AUTHENTICATION_ERROR), (.ref w_AUTHORIZATION_ERROR), (.ref w_INVALID_AUTHORIZATION_INFORMATION), (.ref w_OBJECT_PENDING_TRANSFER), .null, .null, .null, .null, .null, .null, .null, .null, .null, .null, .null] .null := Arv.set Ar71 q71 S71 N71z H71 G71 rfl W71 17 rfl (Nat.le_of_ble_eq_true rfl)
  replace Zn := Nat.le_trans Zn (Keep.of_wr W71).1
  have N71 := Fr.snoc X71 N69 g_b1
  have K72 : ∀ t, Steps p.tables e below (T71.setTop (mkF m 125 #[.val (.int p0), .unset, .unset, .unset, .unset] [(.ref b1)])) t → Steps p.tables e below (s₁.setTop (entryFrame m #[(.int p0)] maxLocals)) t := by
    intro t kt
    refine K68 t ?_
    show Steps p.tables e below (T67.setTop (mkF m 118 #[.val (.int p0), .unset, .unset, .unset, .unset] [(.ref b1)])) _
    refine XS.dup X69.here hx rfl (hb hby at_118) rfl rfl ?_
    show Steps p.tables e below (T67.setTop (mkF m 119 #[.val (.int p0), .unset, .unset, .unset, .unset] [(.ref b1), (.ref b1)])) _
    refine XS.bipush X69.here hx rfl (hb hby at_119) ?_
    show Steps p.tables e below (T67.setTop (mkF m 121 #[.val (.int p0), .unset, .unset, .unset, .unset] [(.int (17 : Int32)), (.ref b1), (.ref b1)])) _
    refine st70 _ ?_
    show Steps p.tables e below (T70.setTop (mkF m 124 #[.val (.int p0), .unset, .unset, .unset, .unset] [(.ref w_OBJECT_PENDING_TRANSFER), (.int (17 : Int32)), (.ref b1), (.ref b1)])) _
    refine st71 _ ?_
    exact kt
  obtain ⟨lc73, X73, N73⟩ : ∃ lc, Stand p l e room_1 s m #[(.int p0)] below meth c T71 lc 1 29 ∧ Fr n0 lc := ⟨_, X71, N71⟩
  clear T67 h67 e67 K68 lc69 X69 N69 st70 e70 X70 T70 cl71 Ar71 q71 S71 N71z H71 G71 hin71 X71 W71 st71 N71
  obtain ⟨T74, X74, e74, st74⟩ := getS2 X73 hx hZ hown (host := "") (Or.inl (hw _ (List.mem_of_getElem? (i := 40) rfl))) Via.refl e71 (S_OBJECT_NOT_PENDING_TRANSFER.ext OLD.2) (g := (mkF m 128 #[.val (.int p0), .unset, .unset, .unset, .unset] [(.int (18 : Int32)), (.ref b1), (.ref b1)])) rfl (hb hby at_128)
  obtain ⟨cl75, Ar75, q75, S75, N75z, H75, G75⟩ := V_b1
  have hin75 : ¬ ((18 : Int32) < 0 ∨ cl75.slots.size ≤ ((18 : Int32)).toNatClampNeg) := inb_of S75 ⟨by decide, by decide⟩
  obtain ⟨T75, h75, X75, e75, W75, st75⟩ := stR X74 hx hZ e74 Ar75 (j := (18 : Int32)) hin75 rfl (Sto.ofV Ar75 q75 O1 (Ins.self (E_w_OBJECT_NOT_PENDING_TRANSFER.ext OLD.2))) (g := (mkF m 131 #[.val (.int p0), .unset, .unset, .unset, .unset] [(.ref w_OBJECT_NOT_PENDING_TRANSFER), (.int (18 : Int32)), (.ref b1), (.ref b1)])) rfl rfl (hb hby at_131)
  replace OLD := OLD.wr W75 g_b1
  have V_b1 : Arv Z h75 b1 k1 (.object "com/example/nameward/nameward/epp/ResultCode") (29 : Int32) [(.ref w_SUCCESS), (.ref w_SUCCESS_ACTION_PENDING), (.ref w_SUCCESS_NO_MESSAGES), (.ref w_SUCCESS_ACK_TO_DEQUEUE), (.ref w_SUCCESS_ENDING_SESSION), (.ref w_SYNTAX_ERROR), (.ref w_USE_ERROR), (.ref w_REQUIRED_PARAMETER_MISSING), (.ref w_PARAMETER_VALUE_SYNTAX_ERROR), (.ref w_UNIMPLEMENTED_COMMAND), (.ref w_UNIMPLEMENTED_OPTION), (.ref w_UNIMPLEMENTED_EXTENSION), (.ref w_BILLING_FAILURE), (.ref w_NOT_ELIGIBLE_FOR_TRANSFER), (.ref w_AUTHENTICATION_ERROR), (.ref w_AUTHORIZATION_ERROR), (.ref w_INVALID_AUTHORIZATION_INFORMATION), (.ref w_OBJECT_PENDING_TRANSFER), (.ref w_OBJECT_NOT_PENDING_TRANSFER), .null, .null, .null, .null, .null, .null, .null, .null, .null, .null] .null := Arv.set Ar75 q75 S75 N75z H75 G75 rfl W75 18 rfl (Nat.le_of_ble_eq_true rfl)
  replace Zn := Nat.le_trans Zn (Keep.of_wr W75).1
  have N75 := Fr.snoc X75 N73 g_b1
  have K76 : ∀ t, Steps p.tables e below (T75.setTop (mkF m 132 #[.val (.int p0), .unset, .unset, .unset, .unset] [(.ref b1)])) t → Steps p.tables e below (s₁.setTop (entryFrame m #[(.int p0)] maxLocals)) t := by
    intro t kt
    refine K72 t ?_
    show Steps p.tables e below (T71.setTop (mkF m 125 #[.val (.int p0), .unset, .unset, .unset, .unset] [(.ref b1)])) _
    refine XS.dup X73.here hx rfl (hb hby at_125) rfl rfl ?_
    show Steps p.tables e below (T71.setTop (mkF m 126 #[.val (.int p0), .unset, .unset, .unset, .unset] [(.ref b1), (.ref b1)])) _
    refine XS.bipush X73.here hx rfl (hb hby at_126) ?_
    show Steps p.tables e below (T71.setTop (mkF m 128 #[.val (.int p0), .unset, .unset, .unset, .unset] [(.int (18 : Int32)), (.ref b1), (.ref b1)])) _
    refine st74 _ ?_
    show Steps p.tables e below (T74.setTop (mkF m 131 #[.val (.int p0), .unset, .unset, .unset, .unset] [(.ref w_OBJECT_NOT_PENDING_TRANSFER), (.int (18 : Int32)), (.ref b1), (.ref b1)])) _
    refine st75 _ ?_
    exact kt
  obtain ⟨lc77, X77, N77⟩ : ∃ lc, Stand p l e room_1 s m #[(.int p0)] below meth c T75 lc 1 29 ∧ Fr n0 lc := ⟨_, X75, N75⟩
  clear T71 h71 e71 K72 lc73 X73 N73 st74 e74 X74 T74 cl75 Ar75 q75 S75 N75z H75 G75 hin75 X75 W75 st75 N75
  obtain ⟨T78, X78, e78, st78⟩ := getS2 X77 hx hZ hown (host := "") (Or.inl (hw _ (List.mem_of_getElem? (i := 42) rfl))) Via.refl e75 (S_OBJECT_EXISTS.ext OLD.2) (g := (mkF m 135 #[.val (.int p0), .unset, .unset, .unset, .unset] [(.int (19 : Int32)), (.ref b1), (.ref b1)])) rfl (hb hby at_135)
  obtain ⟨cl79, Ar79, q79, S79, N79z, H79, G79⟩ := V_b1
  have hin79 : ¬ ((19 : Int32) < 0 ∨ cl79.slots.size ≤ ((19 : Int32)).toNatClampNeg) := inb_of S79 ⟨by decide, by decide⟩
  obtain ⟨T79, h79, X79, e79, W79, st79⟩ := stR X78 hx hZ e78 Ar79 (j := (19 : Int32)) hin79 rfl (Sto.ofV Ar79 q79 O1 (Ins.self (E_w_OBJECT_EXISTS.ext OLD.2))) (g := (mkF m 138 #[.val (.int p0), .unset, .unset, .unset, .unset] [(.ref w_OBJECT_EXISTS), (.int (19 : Int32)), (.ref b1), (.ref b1)])) rfl rfl (hb hby at_138)
  replace OLD := OLD.wr W79 g_b1
  have V_b1 : Arv Z h79 b1 k1 (.object "com/example/nameward/nameward/epp/ResultCode") (29 : Int32) [(.ref w_SUCCESS), (.ref w_SUCCESS_ACTION_PENDING), (.ref w_SUCCESS_NO_MESSAGES), (.ref w_SUCCESS_ACK_TO_DEQUEUE), (.ref w_SUCCESS_ENDING_SESSION), (.ref w_SYNTAX_ERROR), (.ref w_USE_ERROR), (.ref w_REQUIRED_PARAMETER_MISSING), (.ref w_PARAMETER_VALUE_SYNTAX_ERROR), (.ref w_UNIMPLEMENTED_COMMAND), (.ref w_UNIMPLEMENTED_OPTION), (.ref w_UNIMPLEMENTED_EXTENSION), (.ref w_BILLING_FAILURE), (.ref w_NOT_ELIGIBLE_FOR_TRANSFER), (.ref w_AUTHENTICATION_ERROR), (.ref w_AUTHORIZATION_ERROR), (.ref w_INVALID_AUTHORIZATION_INFORMATION), (.ref w_OBJECT_PENDING_TRANSFER), (.ref w_OBJECT_NOT_PENDING_TRANSFER), (.ref w_OBJECT_EXISTS), .null, .null, .null, .null, .null, .null, .null, .null, .null] .null := Arv.set Ar79 q79 S79 N79z H79 G79 rfl W79 19 rfl (Nat.le_of_ble_eq_true rfl)
  replace Zn := Nat.le_trans Zn (Keep.of_wr W79).1
  have N79 := Fr.snoc X79 N77 g_b1
  have K80 : ∀ t, Steps p.tables e below (T79.setTop (mkF m 139 #[.val (.int p0), .unset, .unset, .unset, .unset] [(.ref b1)])) t → Steps p.tables e below (s₁.setTop (entryFrame m #[(.int p0)] maxLocals)) t := by
    intro t kt
    refine K76 t ?_
    show Steps p.tables e below (T75.setTop (mkF m 132 #[.val (.int p0), .unset, .unset, .unset, .unset] [(.ref b1)])) _
    refine XS.dup X77.here hx rfl (hb hby at_132) rfl rfl ?_
    show Steps p.tables e below (T75.setTop (mkF m 133 #[.val (.int p0), .unset, .unset, .unset, .unset] [(.ref b1), (.ref b1)])) _
    refine XS.bipush X77.here hx rfl (hb hby at_133) ?_
    show Steps p.tables e below (T75.setTop (mkF m 135 #[.val (.int p0), .unset, .unset, .unset, .unset] [(.int (19 : Int32)), (.ref b1), (.ref b1)])) _
    refine st78 _ ?_
    show Steps p.tables e below (T78.setTop (mkF m 138 #[.val (.int p0), .unset, .unset, .unset, .unset] [(.ref w_OBJECT_EXISTS), (.int (19 : Int32)), (.ref b1), (.ref b1)])) _
    refine st79 _ ?_
    exact kt
  obtain ⟨lc81, X81, N81⟩ : ∃ lc, Stand p l e room_1 s m #[(.int p0)] below meth c T79 lc 1 29 ∧ Fr n0 lc := ⟨_, X79, N79⟩
  clear T75 h75 e75 K76 lc77 X77 N77 st78 e78 X78 T78 cl79 Ar79 q79 S79 N79z H79 G79 hin79 X79 W79 st79 N79
  obtain ⟨T82, X82, e82, st82⟩ := getS2 X81 hx hZ hown (host := "") (Or.inl (hw _ (List.mem_of_getElem? (i := 44) rfl))) Via.refl e79 (S_OBJECT_DOES_NOT_EXIST.ext OLD.2) (g := (mkF m 142 #[.val (.int p0), .unset, .unset, .unset, .unset] [(.int (20 : Int32)), (.ref b1), (.ref b1)])) rfl (hb hby at_142)
  obtain ⟨cl83, Ar83, q83, S83, N83z, H83, G83⟩ := V_b1
  have hin83 : ¬ ((20 : Int32) < 0 ∨ cl83.slots.size ≤ ((20 : Int32)).toNatClampNeg) := inb_of S83 ⟨by decide, by decide⟩
  obtain ⟨T83, h83, X83, e83, W83, st83⟩ := stR X82 hx hZ e82 Ar83 (j := (20 : Int32)) hin83 rfl (Sto.ofV Ar83 q83 O1 (Ins.self (E_w_OBJECT_DOES_NOT_EXIST.ext OLD.2))) (g := (mkF m 145 #[.val (.int p0), .unset, .unset, .unset, .unset] [(.ref w_OBJECT_DOES_NOT_EXIST), (.int (20 : Int32)), (.ref b1), (.ref b1)])) rfl rfl (hb hby at_145)
  replace OLD := OLD.wr W83 g_b1
  have V_b1 : Arv Z h83 b1 k1 (.object "com/example/nameward/nameward/epp/ResultCode") (29 : Int32) [(.ref w_SUCCESS), (.ref w_SUCCESS_ACTION_PENDING), (.ref w_SUCCESS_NO_MESSAGES), (.ref w_SUCCESS_ACK_TO_DEQUEUE), (.ref w_SUCCESS_ENDING_SESSION), (.ref w_SYNTAX_ERROR), (.ref w_USE_ERROR), (.ref w_REQUIRED_PARAMETER_MISSING), (.ref w_PARAMETER_VALUE_SYNTAX_ERROR), (.ref w_UNIMPLEMENTED_COMMAND), (.ref w_UNIMPLEMENTED_OPTION), (.ref w_UNIMPLEMENTED_EXTENSION), (.ref w_BILLING_FAILURE), (.ref w_NOT_ELIGIBLE_FOR_TRANSFER), (.ref w_AUTHENTICATION_ERROR), (.ref w_AUTHORIZATION_ERROR), (.ref w_INVALID_AUTHORIZATION_INFORMATION), (.ref w_OBJECT_PENDING_TRANSFER), (.ref w_OBJECT_NOT_PENDING_TRANSFER), (.ref w_OBJECT_EXISTS), (.ref w_OBJECT_DOES_NOT_EXIST), .null, .null, .null, .null, .null, .null, .null, .null] .null := Arv.set Ar83 q83 S83 N83z H83 G83 rfl W83 20 rfl (Nat.le_of_ble_eq_true rfl)
  replace Zn := Nat.le_trans Zn (Keep.of_wr W83).1
  have N83 := Fr.snoc X83 N81 g_b1
  have K84 : ∀ t, Steps p.tables e below (T83.setTop (mkF m 146 #[.val (.int p0), .unset, .unset, .unset, .unset] [(.ref b1)])) t → Steps p.tables e below (s₁.setTop (entryFrame m #[(.int p0)] maxLocals)) t := by
    intro t kt
    refine K80 t ?_
    show Steps p.tables e below (T79.setTop (mkF m 139 #[.val (.int p0), .unset, .unset, .unset, .unset] [(.ref b1)])) _
    refine XS.dup X81.here hx rfl (hb hby at_139) rfl rfl ?_
    show Steps p.tables e below (T79.setTop (mkF m 140 #[.val (.int p0), .unset, .unset, .unset, .unset] [(.ref b1), (.ref b1)])) _
    refine XS.bipush X81.here hx rfl (hb hby at_140) ?_
    show Steps p.tables e below (T79.setTop (mkF m 142 #[.val (.int p0), .unset, .unset, .unset, .unset] [(.int (20 : Int32)), (.ref b1), (.ref b1)])) _
    refine st82 _ ?_
    show Steps p.tables e below (T82.setTop (mkF m 145 #[.val (.int p0), .unset, .unset, .unset, .unset] [(.ref w_OBJECT_DOES_NOT_EXIST), (.int (20 : Int32)), (.ref b1), (.ref b1)])) _
    refine st83 _ ?_
    exact kt
  obtain ⟨lc85, X85, N85⟩ : ∃ lc, Stand p l e room_1 s m #[(.int p0)] below meth c T83 lc 1 29 ∧ Fr n0 lc := ⟨_, X83, N83⟩
  clear T79 h79 e79 K80 lc81 X81 N81 st82 e82 X82 T82 cl83 Ar83 q83 S83 N83z H83 G83 hin83 X83 W83 st83 N83
  obtain ⟨T86, X86, e86, st86⟩ := getS2 X85 hx hZ hown (host := "") (Or.inl (hw _ (List.mem_of_getElem? (i := 46) rfl))) Via.refl e83 (S_OBJECT_STATUS_PROHIBITS_OPERATION.ext OLD.2) (g := (mkF m 149 #[.val (.int p0), .unset, .unset, .unset, .unset] [(.int (21 : Int32)), (.ref b1), (.ref b1)])) rfl (hb hby at_149)
  obtain ⟨cl87, Ar87, q87, S87, N87z, H87, G87⟩ := V_b1
  have hin87 : ¬ ((21 : Int32) < 0 ∨ cl87.slots.size ≤ ((21 : Int32)).toNatClampNeg) := inb_of S87 ⟨by decide, by decide⟩
  obtain ⟨T87, h87, X87, e87, W87, st87⟩ := stR X86 hx hZ e86 Ar87 (j := (21 : Int32)) hin87 rfl (Sto.ofV Ar87 q87 O1 (Ins.self (E_w_OBJECT_STATUS_PROHIBITS_OPERATION.ext OLD.2))) (g := (mkF m 152 #[.val (.int p0), .unset, .unset, .unset, .unset] [(.ref w_OBJECT_STATUS_PROHIBITS_OPERATION), (.int (21 : Int32)), (.ref b1), (.ref b1)])) rfl rfl (hb hby at_152)
  replace OLD := OLD.wr W87 g_b1
  have V_b1 : Arv Z h87 b1 k1 (.object "com/example/nameward/nameward/epp/ResultCode") (29 : Int32) [(.ref w_SUCCESS), (.ref w_SUCCESS_ACTION_PENDING), (.ref w_SUCCESS_NO_MESSAGES), (.ref w_SUCCESS_ACK_TO_DEQUEUE), (.ref w_SUCCESS_ENDING_SESSION), (.ref w_SYNTAX_ERROR), (.ref w_USE_ERROR), (.ref w_REQUIRED_PARAMETER_MISSING), (.ref w_PARAMETER_VALUE_SYNTAX_ERROR), (.ref w_UNIMPLEMENTED_COMMAND), (.ref w_UNIMPLEMENTED_OPTION), (.ref w_UNIMPLEMENTED_EXTENSION), (.ref w_BILLING_FAILURE), (.ref w_NOT_ELIGIBLE_FOR_TRANSFER), (.ref w_AUTHENTICATION_ERROR), (.ref w_AUTHORIZATION_ERROR), (.ref w_INVALID_AUTHORIZATION_INFORMATION), (.ref w_OBJECT_PENDING_TRANSFER), (.ref w_OBJECT_NOT_PENDING_TRANSFER), (.ref w_OBJECT_EXISTS), (.ref w_OBJECT_DOES_NOT_EXIST), (.ref w_OBJECT_STATUS_PROHIBITS_OPERATION), .null, .null, .null, .null, .null, .null, .null] .null := Arv.set Ar87 q87 S87 N87z H87 G87 rfl W87 21 rfl (Nat.le_of_ble_eq_true rfl)
  replace Zn := Nat.le_trans Zn (Keep.of_wr W87).1
  have N87 := Fr.snoc X87 N85 g_b1
  have K88 : ∀ t, Steps p.tables e below (T87.setTop (mkF m 153 #[.val (.int p0), .unset, .unset, .unset, .unset] [(.ref b1)])) t → Steps p.tables e below (s₁.setTop (entryFrame m #[(.int p0)] maxLocals)) t := by
    intro t kt
    refine K84 t ?_
    show Steps p.tables e below (T83.setTop (mkF m 146 #[.val (.int p0), .unset, .unset, .unset, .unset] [(.ref b1)])) _
    refine XS.dup X85.here hx rfl (hb hby at_146) rfl rfl ?_
    show Steps p.tables e below (T83.setTop (mkF m 147 #[.val (.int p0), .unset, .unset, .unset, .unset] [(.ref b1), (.ref b1)])) _
    refine XS.bipush X85.here hx rfl (hb hby at_147) ?_
    show Steps p.tables e below (T83.setTop (mkF m 149 #[.val (.int p0), .unset, .unset, .unset, .unset] [(.int (21 : Int32)), (.ref b1), (.ref b1)])) _
    refine st86 _ ?_
    show Steps p.tables e below (T86.setTop (mkF m 152 #[.val (.int p0), .unset, .unset, .unset, .unset] [(.ref w_OBJECT_STATUS_PROHIBITS_OPERATION), (.int (21 : Int32)), (.ref b1), (.ref b1)])) _
    refine st87 _ ?_
    exact kt
  obtain ⟨lc89, X89, N89⟩ : ∃ lc, Stand p l e room_1 s m #[(.int p0)] below meth c T87 lc 1 29 ∧ Fr n0 lc := ⟨_, X87, N87⟩
  clear T83 h83 e83 K84 lc85 X85 N85 st86 e86 X86 T86 cl87 Ar87 q87 S87 N87z H87 G87 hin87 X87 W87 st87 N87
  obtain ⟨T90, X90, e90, st90⟩ := getS2 X89 hx hZ hown (host := "") (Or.inl (hw _ (List.mem_of_getElem? (i := 48) rfl))) Via.refl e87 (S_OBJECT_ASSOCIATION_PROHIBITS_OPERATION.ext OLD.2) (g := (mkF m 156 #[.val (.int p0), .unset, .unset, .unset, .unset] [(.int (22 : Int32)), (.ref b1), (.ref b1)])) rfl (hb hby at_156)
  obtain ⟨cl91, Ar91, q91, S91, N91z, H91, G91⟩ := V_b1
  have hin91 : ¬ ((22 : Int32) < 0 ∨ cl91.slots.size ≤ ((22 : Int32)).toNatClampNeg) := inb_of S91 ⟨by decide, by decide⟩
  obtain ⟨T91, h91, X91, e91, W91, st91⟩ := stR X90 hx hZ e90 Ar91 (j := (22 : Int32)) hin91 rfl (Sto.ofV Ar91 q91 O1 (Ins.self (E_w_OBJECT_ASSOCIATION_PROHIBITS_OPERATION.ext OLD.2))) (g := (mkF m 159 #[.val (.int p0), .unset, .unset, .unset, .unset] [(.ref w_OBJECT_ASSOCIATION_PROHIBITS_OPERATION), (.int (22 : Int32)), (.ref b1), (.ref b1)])) rfl rfl (hb hby at_159)
  replace OLD := OLD.wr W91 g_b1
  have V_b1 : Arv Z h91 b1 k1 (.object "com/example/nameward/nameward/epp/ResultCode") (29 : Int32) [(.ref w_SUCCESS), (.ref w_SUCCESS_ACTION_PENDING), (.ref w_SUCCESS_NO_MESSAGES), (.ref w_SUCCESS_ACK_TO_DEQUEUE), (.ref w_SUCCESS_ENDING_SESSION), (.ref w_SYNTAX_ERROR), (.ref w_USE_ERROR), (.ref w_REQUIRED_PARAMETER_MISSING), (.ref w_PARAMETER_VALUE_SYNTAX_ERROR), (.ref w_UNIMPLEMENTED_COMMAND), (.ref w_UNIMPLEMENTED_OPTION), (.ref w_UNIMPLEMENTED_EXTENSION), (.ref w_BILLING_FAILURE), (.ref w_NOT_ELIGIBLE_FOR_TRANSFER), (.ref w_AUTHENTICATION_ERROR), (.ref w_AUTHORIZATION_ERROR), (.ref w_INVALID_AUTHORIZATION_INFORMATION), (.ref w_OBJECT_PENDING_TRANSFER), (.ref w_OBJECT_NOT_PENDING_TRANSFER), (.ref w_OBJECT_EXISTS), (.ref w_OBJECT_DOES_NOT_EXIST), (.ref w_OBJECT_STATUS_PROHIBITS_OPERATION), (.ref w_OBJECT_ASSOCIATION_PROHIBITS_OPERATION), .null, .null, .null, .null, .null, .null] .null := Arv.set Ar91 q91 S91 N91z H91 G91 rfl W91 22 rfl (Nat.le_of_ble_eq_true rfl)
  replace Zn := Nat.le_trans Zn (Keep.of_wr W91).1
  have N91 := Fr.snoc X91 N89 g_b1
  have K92 : ∀ t, Steps p.tables e below (T91.setTop (mkF m 160 #[.val (.int p0), .unset, .unset, .unset, .unset] [(.ref b1)])) t → Steps p.tables e below (s₁.setTop (entryFrame m #[(.int p0)] maxLocals)) t := by
    intro t kt
    refine K88 t ?_
    show Steps p.tables e below (T87.setTop (mkF m 153 #[.val (.int p0), .unset, .unset, .unset, .unset] [(.ref b1)])) _
    refine XS.dup X89.here hx rfl (hb hby at_153) rfl rfl ?_
    show Steps p.tables e below (T87.setTop (mkF m 154 #[.val (.int p0), .unset, .unset, .unset, .unset] [(.ref b1), (.ref b1)])) _
    refine XS.bipush X89.here hx rfl (hb hby at_154) ?_
    show Steps p.tables e below (T87.setTop (mkF m 156 #[.val (.int p0), .unset, .unset, .unset, .unset] [(.int (22 : Int32)), (.ref b1), (.ref b1)])) _
    refine st90 _ ?_
    show Steps p.tables e below (T90.setTop (mkF m 159 #[.val (.int p0), .unset, .unset, .unset, .unset] [(.ref w_OBJECT_ASSOCIATION_PROHIBITS_OPERATION), (.int (22 : Int32)), (.ref b1), (.ref b1)])) _
    refine st91 _ ?_
    exact kt
  obtain ⟨lc93, X93, N93⟩ : ∃ lc, Stand p l e room_1 s m #[(.int p0)] below meth c T91 lc 1 29 ∧ Fr n0 lc := ⟨_, X91, N91⟩
  clear T87 h87 e87 K88 lc89 X89 N89 st90 e90 X90 T90 cl91 Ar91 q91 S91 N91z H91 G91 hin91 X91 W91 st91 N91
  obtain ⟨T94, X94, e94, st94⟩ := getS2 X93 hx hZ hown (host := "") (Or.inl (hw _ (List.mem_of_getElem? (i := 50) rfl))) Via.refl e91 (S_PARAMETER_VALUE_POLICY_ERROR.ext OLD.2) (g := (mkF m 163 #[.val (.int p0), .unset, .unset, .unset, .unset] [(.int (23 : Int32)), (.ref b1), (.ref b1)])) rfl (hb hby at_163)
  obtain ⟨cl95, Ar95, q95, S95, N95z, H95, G95⟩ := V_b1
  have hin95 : ¬ ((23 : Int32) < 0 ∨ cl95.slots.size ≤ ((23 : Int32)).toNatClampNeg) := inb_of S95 ⟨by decide, by decide⟩
  obtain ⟨T95, h95, X95, e95, W95, st95⟩ := stR X94 hx hZ e94 Ar95 (j := (23 : Int32)) hin95 rfl (Sto.ofV Ar95 q95 O1 (Ins.self (E_w_PARAMETER_VALUE_POLICY_ERROR.ext OLD.2))) (g := (mkF m 166 #[.val (.int p0), .unset, .unset, .unset, .unset] [(.ref w_PARAMETER_VALUE_POLICY_ERROR), (.int (23 : Int32)), (.ref b1), (.ref b1)])) rfl rfl (hb hby at_166)
  replace OLD := OLD.wr W95 g_b1
  have V_b1 : Arv Z h95 b1 k1 (.object "com/example/nameward/nameward/epp/ResultCode") (29 : Int32) [(.ref w_SUCCESS), (.ref w_SUCCESS_ACTION_PENDING), (.ref w_SUCCESS_NO_MESSAGES), (.ref w_SUCCESS_ACK_TO_DEQUEUE), (.ref w_SUCCESS_ENDING_SESSION), (.ref w_SYNTAX_ERROR), (.ref w_USE_ERROR), (.ref w_REQUIRED_PARAMETER_MISSING), (.ref w_PARAMETER_VALUE_SYNTAX_ERROR), (.ref w_UNIMPLEMENTED_COMMAND), (.ref w_UNIMPLEMENTED_OPTION), (.ref w_UNIMPLEMENTED_EXTENSION), (.ref w_BILLING_FAILURE), (.ref w_NOT_ELIGIBLE_FOR_TRANSFER), (.ref w_AUTHENTICATION_ERROR), (.ref w_AUTHORIZATION_ERROR), (.ref w_INVALID_AUTHORIZATION_INFORMATION), (.ref w_OBJECT_PENDING_TRANSFER), (.ref w_OBJECT_NOT_PENDING_TRANSFER), (.ref w_OBJECT_EXISTS), (.ref w_OBJECT_DOES_NOT_EXIST), (.ref w_OBJECT_STATUS_PROHIBITS_OPERATION), (.ref w_OBJECT_ASSOCIATION_PROHIBITS_OPERATION), (.ref w_PARAMETER_VALUE_POLICY_ERROR), .null, .null, .null, .null, .null] .null := Arv.set Ar95 q95 S95 N95z H95 G95 rfl W95 23 rfl (Nat.le_of_ble_eq_true rfl)
  replace Zn := Nat.le_trans Zn (Keep.of_wr W95).1
  have N95 := Fr.snoc X95 N93 g_b1
  have K96 : ∀ t, Steps p.tables e below (T95.setTop (mkF m 167 #[.val (.int p0), .unset, .unset, .unset, .unset] [(.ref b1)])) t → Steps p.tables e below (s₁.setTop (entryFrame m #[(.int p0)] maxLocals)) t := by
    intro t kt
    refine K92 t ?_
    show Steps p.tables e below (T91.setTop (mkF m 160 #[.val (.int p0), .unset, .unset, .unset, .unset] [(.ref b1)])) _
    refine XS.dup X93.here hx rfl (hb hby at_160) rfl rfl ?_
    show Steps p.tables e below (T91.setTop (mkF m 161 #[.val (.int p0), .unset, .unset, .unset, .unset] [(.ref b1), (.ref b1)])) _
    refine XS.bipush X93.here hx rfl (hb hby at_161) ?_
    show Steps p.tables e below (T91.setTop (mkF m 163 #[.val (.int p0), .unset, .unset, .unset, .unset] [(.int (23 : Int32)), (.ref b1), (.ref b1)])) _
    refine st94 _ ?_
    show Steps p.tables e below (T94.setTop (mkF m 166 #[.val (.int p0), .unset, .unset, .unset, .unset] [(.ref w_PARAMETER_VALUE_POLICY_ERROR), (.int (23 : Int32)), (.ref b1), (.ref b1)])) _
    refine st95 _ ?_
    exact kt
  obtain ⟨lc97, X97, N97⟩ : ∃ lc, Stand p l e room_1 s m #[(.int p0)] below meth c T95 lc 1 29 ∧ Fr n0 lc := ⟨_, X95, N95⟩
  clear T91 h91 e91 K92 lc93 X93 N93 st94 e94 X94 T94 cl95 Ar95 q95 S95 N95z H95 G95 hin95 X95 W95 st95 N95
  obtain ⟨T98, X98, e98, st98⟩ := getS2 X97 hx hZ hown (host := "") (Or.inl (hw _ (List.mem_of_getElem? (i := 52) rfl))) Via.refl e95 (S_UNIMPLEMENTED_OBJECT_SERVICE.ext OLD.2) (g := (mkF m 170 #[.val (.int p0), .unset, .unset, .unset, .unset] [(.int (24 : Int32)), (.ref b1), (.ref b1)])) rfl (hb hby at_170)
  obtain ⟨cl99, Ar99, q99, S99, N99z, H99, G99⟩ := V_b1
  have hin99 : ¬ ((24 : Int32) < 0 ∨ cl99.slots.size ≤ ((24 : Int32)).toNatClampNeg) := inb_of S99 ⟨by decide, by decide⟩
  obtain ⟨T99, h99, X99, e99, W99, st99⟩ := stR X98 hx hZ e98 Ar99 (j := (24 : Int32)) hin99 rfl (Sto.ofV Ar99 q99 O1 (Ins.self (E_w_UNIMPLEMENTED_OBJECT_SERVICE.ext OLD.2))) (g := (mkF m 173 #[.val (.int p0), .unset, .unset, .unset, .unset] [(.ref w_UNIMPLEMENTED_OBJECT_SERVICE), (.int (24 : Int32)), (.ref b1), (.ref b1)])) rfl rfl (hb hby at_173)
  replace OLD := OLD.wr W99 g_b1
  have V_b1 : Arv Z h99 b1 k1 (.object "com/example/nameward/nameward/epp/ResultCode") (29 : Int32) [(.ref w_SUCCESS), (.ref w_SUCCESS_ACTION_PENDING), (.ref w_SUCCESS_NO_MESSAGES), (.ref w_SUCCESS_ACK_TO_DEQUEUE), (.ref w_SUCCESS_ENDING_SESSION), (.ref w_SYNTAX_ERROR), (.ref w_USE_ERROR), (.ref w_REQUIRED_PARAMETER_MISSING), (.ref w_PARAMETER_VALUE_SYNTAX_ERROR), (.ref w_UNIMPLEMENTED_COMMAND), (.ref w_UNIMPLEMENTED_OPTION), (.ref w_UNIMPLEMENTED_EXTENSION), (.ref w_BILLING_FAILURE), (.ref w_NOT_ELIGIBLE_FOR_TRANSFER), (.ref w_AUTHENTICATION_ERROR), (.ref w_AUTHORIZATION_ERROR), (.ref w_INVALID_AUTHORIZATION_INFORMATION), (.ref w_OBJECT_PENDING_TRANSFER), (.ref w_OBJECT_NOT_PENDING_TRANSFER), (.ref w_OBJECT_EXISTS), (.ref w_OBJECT_DOES_NOT_EXIST), (.ref w_OBJECT_STATUS_PROHIBITS_OPERATION), (.ref w_OBJECT_ASSOCIATION_PROHIBITS_OPERATION), (.ref w_PARAMETER_VALUE_POLICY_ERROR), (.ref w_UNIMPLEMENTED_OBJECT_SERVICE), .null, .null, .null, .null] .null := Arv.set Ar99 q99 S99 N99z H99 G99 rfl W99 24 rfl (Nat.le_of_ble_eq_true rfl)
  replace Zn := Nat.le_trans Zn (Keep.of_wr W99).1
  have N99 := Fr.snoc X99 N97 g_b1
  have K100 : ∀ t, Steps p.tables e below (T99.setTop (mkF m 174 #[.val (.int p0), .unset, .unset, .unset, .unset] [(.ref b1)])) t → Steps p.tables e below (s₁.setTop (entryFrame m #[(.int p0)] maxLocals)) t := by
    intro t kt
    refine K96 t ?_
    show Steps p.tables e below (T95.setTop (mkF m 167 #[.val (.int p0), .unset, .unset, .unset, .unset] [(.ref b1)])) _
    refine XS.dup X97.here hx rfl (hb hby at_167) rfl rfl ?_
    show Steps p.tables e below (T95.setTop (mkF m 168 #[.val (.int p0), .unset, .unset, .unset, .unset] [(.ref b1), (.ref b1)])) _
    refine XS.bipush X97.here hx rfl (hb hby at_168) ?_
    show Steps p.tables e below (T95.setTop (mkF m 170 #[.val (.int p0), .unset, .unset, .unset, .unset] [(.int (24 : Int32)), (.ref b1), (.ref b1)])) _
    refine st98 _ ?_
    show Steps p.tables e below (T98.setTop (mkF m 173 #[.val (.int p0), .unset, .unset, .unset, .unset] [(.ref w_UNIMPLEMENTED_OBJECT_SERVICE), (.int (24 : Int32)), (.ref b1), (.ref b1)])) _
    refine st99 _ ?_
    exact kt
  obtain ⟨lc101, X101, N101⟩ : ∃ lc, Stand p l e room_1 s m #[(.int p0)] below meth c T99 lc 1 29 ∧ Fr n0 lc := ⟨_, X99, N99⟩
  clear T95 h95 e95 K96 lc97 X97 N97 st98 e98 X98 T98 cl99 Ar99 q99 S99 N99z H99 G99 hin99 X99 W99 st99 N99
  obtain ⟨T102, X102, e102, st102⟩ := getS2 X101 hx hZ hown (host := "") (Or.inl (hw _ (List.mem_of_getElem? (i := 54) rfl))) Via.refl e99 (S_DATA_MANAGEMENT_POLICY_VIOLATION.ext OLD.2) (g := (mkF m 177 #[.val (.int p0), .unset, .unset, .unset, .unset] [(.int (25 : Int32)), (.ref b1), (.ref b1)])) rfl (hb hby at_177)
  obtain ⟨cl103, Ar103, q103, S103, N103z, H103, G103⟩ := V_b1
  have hin103 : ¬ ((25 : Int32) < 0 ∨ cl103.slots.size ≤ ((25 : Int32)).toNatClampNeg) := inb_of S103 ⟨by decide, by decide⟩
  obtain ⟨T103, h103, X103, e103, W103, st103⟩ := stR X102 hx hZ e102 Ar103 (j := (25 : Int32)) hin103 rfl (Sto.ofV Ar103 q103 O1 (Ins.self (E_w_DATA_MANAGEMENT_POLICY_VIOLATION.ext OLD.2))) (g := (mkF m 180 #[.val (.int p0), .unset, .unset, .unset, .unset] [(.ref w_DATA_MANAGEMENT_POLICY_VIOLATION), (.int (25 : Int32)), (.ref b1), (.ref b1)])) rfl rfl (hb hby at_180)
  replace OLD := OLD.wr W103 g_b1
  have V_b1 : Arv Z h103 b1 k1 (.object "com/example/nameward/nameward/epp/ResultCode") (29 : Int32) [(.ref w_SUCCESS), (.ref w_SUCCESS_ACTION_PENDING), (.ref w_SUCCESS_NO_MESSAGES), (.ref w_SUCCESS_ACK_TO_DEQUEUE), (.ref w_SUCCESS_ENDING_SESSION), (.ref w_SYNTAX_ERROR), (.ref w_USE_ERROR), (.ref w_REQUIRED_PARAMETER_MISSING), (.ref w_PARAMETER_VALUE_SYNTAX_ERROR), (.ref w_UNIMPLEMENTED_COMMAND), (.ref w_UNIMPLEMENTED_OPTION), (.ref w_UNIMPLEMENTED_EXTENSION), (.ref w_BILLING_FAILURE), (.ref w_NOT_ELIGIBLE_FOR_TRANSFER), (.ref w_AUTHENTICATION_ERROR), (.ref w_AUTHORIZATION_ERROR), (.ref w_INVALID_AUTHORIZATION_INFORMATION), (.ref w_OBJECT_PENDING_TRANSFER), (.ref w_OBJECT_NOT_PENDING_TRANSFER), (.ref w_OBJECT_EXISTS), (.ref w_OBJECT_DOES_NOT_EXIST), (.ref w_OBJECT_STATUS_PROHIBITS_OPERATION), (.ref w_OBJECT_ASSOCIATION_PROHIBITS_OPERATION), (.ref w_PARAMETER_VALUE_POLICY_ERROR), (.ref w_UNIMPLEMENTED_OBJECT_SERVICE), (.ref w_DATA_MANAGEMENT_POLICY_VIOLATION), .null, .null, .null] .null := Arv.set Ar103 q103 S103 N103z H103 G103 rfl W103 25 rfl (Nat.le_of_ble_eq_true rfl)
  replace Zn := Nat.le_trans Zn (Keep.of_wr W103).1
  have N103 := Fr.snoc X103 N101 g_b1
  have K104 : ∀ t, Steps p.tables e below (T103.setTop (mkF m 181 #[.val (.int p0), .unset, .unset, .unset, .unset] [(.ref b1)])) t → Steps p.tables e below (s₁.setTop (entryFrame m #[(.int p0)] maxLocals)) t := by
    intro t kt
    refine K100 t ?_
    show Steps p.tables e below (T99.setTop (mkF m 174 #[.val (.int p0), .unset, .unset, .unset, .unset] [(.ref b1)])) _
    refine XS.dup X101.here hx rfl (hb hby at_174) rfl rfl ?_
    show Steps p.tables e below (T99.setTop (mkF m 175 #[.val (.int p0), .unset, .unset, .unset, .unset] [(.ref b1), (.ref b1)])) _
    refine XS.bipush X101.here hx rfl (hb hby at_175) ?_
    show Steps p.tables e below (T99.setTop (mkF m 177 #[.val (.int p0), .unset, .unset, .unset, .unset] [(.int (25 : Int32)), (.ref b1), (.ref b1)])) _
    refine st102 _ ?_
    show Steps p.tables e below (T102.setTop (mkF m 180 #[.val (.int p0), .unset, .unset, .unset, .unset] [(.ref w_DATA_MANAGEMENT_POLICY_VIOLATION), (.int (25 : Int32)), (.ref b1), (.ref b1)])) _
    refine st103 _ ?_
    exact kt
  obtain ⟨lc105, X105, N105⟩ : ∃ lc, Stand p l e room_1 s m #[(.int p0)] below meth c T103 lc 1 29 ∧ Fr n0 lc := ⟨_, X103, N103⟩
  clear T99 h99 e99 K100 lc101 X101 N101 st102 e102 X102 T102 cl103 Ar103 q103 S103 N103z H103 G103 hin103 X103 W103 st103 N103
  obtain ⟨T106, X106, e106, st106⟩ := getS2 X105 hx hZ hown (host := "") (Or.inl (hw _ (List.mem_of_getElem? (i := 56) rfl))) Via.refl e103 (S_COMMAND_FAILED.ext OLD.2) (g := (mkF m 184 #[.val (.int p0), .unset, .unset, .unset, .unset] [(.int (26 : Int32)), (.ref b1), (.ref b1)])) rfl (hb hby at_184)
  obtain ⟨cl107, Ar107, q107, S107, N107z, H107, G107⟩ := V_b1
  have hin107 : ¬ ((26 : Int32) < 0 ∨ cl107.slots.size ≤ ((26 : Int32)).toNatClampNeg) := inb_of S107 ⟨by decide, by decide⟩
  obtain ⟨T107, h107, X107, e107, W107, st107⟩ := stR X106 hx hZ e106 Ar107 (j := (26 : Int32)) hin107 rfl (Sto.ofV Ar107 q107 O1 (Ins.self (E_w_COMMAND_FAILED.ext OLD.2))) (g := (mkF m 187 #[.val (.int p0), .unset, .unset, .unset, .unset] [(.ref w_COMMAND_FAILED), (.int (26 : Int32)), (.ref b1), (.ref b1)])) rfl rfl (hb hby at_187)
  replace OLD := OLD.wr W107 g_b1
  have V_b1 : Arv Z h107 b1 k1 (.object "com/example/nameward/nameward/epp/ResultCode") (29 : Int32) [(.ref w_SUCCESS), (.ref w_SUCCESS_ACTION_PENDING), (.ref w_SUCCESS_NO_MESSAGES), (.ref w_SUCCESS_ACK_TO_DEQUEUE), (.ref w_SUCCESS_ENDING_SESSION), (.ref w_SYNTAX_ERROR), (.ref w_USE_ERROR), (.ref w_REQUIRED_PARAMETER_MISSING), (.ref w_PARAMETER_VALUE_SYNTAX_ERROR), (.ref w_UNIMPLEMENTED_COMMAND), (.ref w_UNIMPLEMENTED_OPTION), (.ref w_UNIMPLEMENTED_EXTENSION), (.ref w_BILLING_FAILURE), (.ref w_NOT_ELIGIBLE_FOR_TRANSFER), (.ref w_AUTHENTICATION_ERROR), (.ref w_AUTHORIZATION_ERROR), (.ref w_INVALID_AUTHORIZATION_INFORMATION), (.ref w_OBJECT_PENDING_TRANSFER), (.ref w_OBJECT_NOT_PENDING_TRANSFER), (.ref w_OBJECT_EXISTS), (.ref w_OBJECT_DOES_NOT_EXIST), (.ref w_OBJECT_STATUS_PROHIBITS_OPERATION), (.ref w_OBJECT_ASSOCIATION_PROHIBITS_OPERATION), (.ref w_PARAMETER_VALUE_POLICY_ERROR), (.ref w_UNIMPLEMENTED_OBJECT_SERVICE), (.ref w_DATA_MANAGEMENT_POLICY_VIOLATION), (.ref w_COMMAND_FAILED), .null, .null] .null := Arv.set Ar107 q107 S107 N107z H107 G107 rfl W107 26 rfl (Nat.le_of_ble_eq_true rfl)
  replace Zn := Nat.le_trans Zn (Keep.of_wr W107).1
  have N107 := Fr.snoc X107 N105 g_b1
  have K108 : ∀ t, Steps p.tables e below (T107.setTop (mkF m 188 #[.val (.int p0), .unset, .unset, .unset, .unset] [(.ref b1)])) t → Steps p.tables e below (s₁.setTop (entryFrame m #[(.int p0)] maxLocals)) t := by
    intro t kt
    refine K104 t ?_
    show Steps p.tables e below (T103.setTop (mkF m 181 #[.val (.int p0), .unset, .unset, .unset, .unset] [(.ref b1)])) _
    refine XS.dup X105.here hx rfl (hb hby at_181) rfl rfl ?_
    show Steps p.tables e below (T103.setTop (mkF m 182 #[.val (.int p0), .unset, .unset, .unset, .unset] [(.ref b1), (.ref b1)])) _
    refine XS.bipush X105.here hx rfl (hb hby at_182) ?_
    show Steps p.tables e below (T103.setTop (mkF m 184 #[.val (.int p0), .unset, .unset, .unset, .unset] [(.int (26 : Int32)), (.ref b1), (.ref b1)])) _
    refine st106 _ ?_
    show Steps p.tables e below (T106.setTop (mkF m 187 #[.val (.int p0), .unset, .unset, .unset, .unset] [(.ref w_COMMAND_FAILED), (.int (26 : Int32)), (.ref b1), (.ref b1)])) _
    refine st107 _ ?_
    exact kt
  obtain ⟨lc109, X109, N109⟩ : ∃ lc, Stand p l e room_1 s m #[(.int p0)] below meth c T107 lc 1 29 ∧ Fr n0 lc := ⟨_, X107, N107⟩
  clear T103 h103 e103 K104 lc105 X105 N105 st106 e106 X106 T106 cl107 Ar107 q107 S107 N107z H107 G107 hin107 X107 W107 st107 N107
  obtain ⟨T110, X110, e110, st110⟩ := getS2 X109 hx hZ hown (host := "") (Or.inl (hw _ (List.mem_of_getElem? (i := 58) rfl))) Via.refl e107 (S_AUTHENTICATION_ERROR_CLOSING.ext OLD.2) (g := (mkF m 191 #[.val (.int p0), .unset, .unset, .unset, .unset] [(.int (27 : Int32)), (.ref b1), (.ref b1)])) rfl (hb hby at_191)
  obtain ⟨cl111, Ar111, q111, S111, N111z, H111, G111⟩ := V_b1
  have hin111 : ¬ ((27 : Int32) < 0 ∨ cl111.slots.size ≤ ((27 : Int32)).toNatClampNeg) := inb_of S111 ⟨by decide, by decide⟩
  obtain ⟨T111, h111, X111, e111, W111, st111⟩ := stR X110 hx hZ e110 Ar111 (j := (27 : Int32)) hin111 rfl (Sto.ofV Ar111 q111 O1 (Ins.self (E_w_AUTHENTICATION_ERROR_CLOSING.ext OLD.2))) (g := (mkF m 194 #[.val (.int p0), .unset, .unset, .unset, .unset] [(.ref w_AUTHENTICATION_ERROR_CLOSING), (.int (27 : Int32)), (.ref b1), (.ref b1)])) rfl rfl (hb hby at_194)
  replace OLD := OLD.wr W111 g_b1
  have V_b1 : Arv Z h111 b1 k1 (.object "com/example/nameward/nameward/epp/ResultCode") (29 : Int32) [(.ref w_SUCCESS), (.ref w_SUCCESS_ACTION_PENDING), (.ref w_SUCCESS_NO_MESSAGES), (.ref w_SUCCESS_ACK_TO_DEQUEUE), (.ref w_SUCCESS_ENDING_SESSION), (.ref w_SYNTAX_ERROR), (.ref w_USE_ERROR), (.ref w_REQUIRED_PARAMETER_MISSING), (.ref w_PARAMETER_VALUE_SYNTAX_ERROR), (.ref w_UNIMPLEMENTED_COMMAND), (.ref w_UNIMPLEMENTED_OPTION), (.ref w_UNIMPLEMENTED_EXTENSION), (.ref w_BILLING_FAILURE), (.ref w_NOT_ELIGIBLE_FOR_TRANSFER), (.ref w_AUTHENTICATION_ERROR), (.ref w_AUTHORIZATION_ERROR), (.ref w_INVALID_AUTHORIZATION_INFORMATION), (.ref w_OBJECT_PENDING_TRANSFER), (.ref w_OBJECT_NOT_PENDING_TRANSFER), (.ref w_OBJECT_EXISTS), (.ref w_OBJECT_DOES_NOT_EXIST), (.ref w_OBJECT_STATUS_PROHIBITS_OPERATION), (.ref w_OBJECT_ASSOCIATION_PROHIBITS_OPERATION), (.ref w_PARAMETER_VALUE_POLICY_ERROR), (.ref w_UNIMPLEMENTED_OBJECT_SERVICE), (.ref w_DATA_MANAGEMENT_POLICY_VIOLATION), (.ref w_COMMAND_FAILED), (.ref w_AUTHENTICATION_ERROR_CLOSING), .null] .null := Arv.set Ar111 q111 S111 N111z H111 G111 rfl W111 27 rfl (Nat.le_of_ble_eq_true rfl)
  replace Zn := Nat.le_trans Zn (Keep.of_wr W111).1
  have N111 := Fr.snoc X111 N109 g_b1
  have K112 : ∀ t, Steps p.tables e below (T111.setTop (mkF m 195 #[.val (.int p0), .unset, .unset, .unset, .unset] [(.ref b1)])) t → Steps p.tables e below (s₁.setTop (entryFrame m #[(.int p0)] maxLocals)) t := by
    intro t kt
    refine K108 t ?_
    show Steps p.tables e below (T107.setTop (mkF m 188 #[.val (.int p0), .unset, .unset, .unset, .unset] [(.ref b1)])) _
    refine XS.dup X109.here hx rfl (hb hby at_188) rfl rfl ?_
    show Steps p.tables e below (T107.setTop (mkF m 189 #[.val (.int p0), .unset, .unset, .unset, .unset] [(.ref b1), (.ref b1)])) _
    refine XS.bipush X109.here hx rfl (hb hby at_189) ?_
    show Steps p.tables e below (T107.setTop (mkF m 191 #[.val (.int p0), .unset, .unset, .unset, .unset] [(.int (27 : Int32)), (.ref b1), (.ref b1)])) _
    refine st110 _ ?_
    show Steps p.tables e below (T110.setTop (mkF m 194 #[.val (.int p0), .unset, .unset, .unset, .unset] [(.ref w_AUTHENTICATION_ERROR_CLOSING), (.int (27 : Int32)), (.ref b1), (.ref b1)])) _
    refine st111 _ ?_
    exact kt
  obtain ⟨lc113, X113, N113⟩ : ∃ lc, Stand p l e room_1 s m #[(.int p0)] below meth c T111 lc 1 29 ∧ Fr n0 lc := ⟨_, X111, N111⟩
  clear T107 h107 e107 K108 lc109 X109 N109 st110 e110 X110 T110 cl111 Ar111 q111 S111 N111z H111 G111 hin111 X111 W111 st111 N111
  obtain ⟨T114, X114, e114, st114⟩ := getS2 X113 hx hZ hown (host := "") (Or.inl (hw _ (List.mem_of_getElem? (i := 60) rfl))) Via.refl e111 (S_SESSION_LIMIT_EXCEEDED.ext OLD.2) (g := (mkF m 198 #[.val (.int p0), .unset, .unset, .unset, .unset] [(.int (28 : Int32)), (.ref b1), (.ref b1)])) rfl (hb hby at_198)
  obtain ⟨cl115, Ar115, q115, S115, N115z, H115, G115⟩ := V_b1
  have hin115 : ¬ ((28 : Int32) < 0 ∨ cl115.slots.size ≤ ((28 : Int32)).toNatClampNeg) := inb_of S115 ⟨by decide, by decide⟩
  obtain ⟨T115, h115, X115, e115, W115, st115⟩ := stR X114 hx hZ e114 Ar115 (j := (28 : Int32)) hin115 rfl (Sto.ofV Ar115 q115 O1 (Ins.self (E_w_SESSION_LIMIT_EXCEEDED.ext OLD.2))) (g := (mkF m 201 #[.val (.int p0), .unset, .unset, .unset, .unset] [(.ref w_SESSION_LIMIT_EXCEEDED), (.int (28 : Int32)), (.ref b1), (.ref b1)])) rfl rfl (hb hby at_201)
  replace OLD := OLD.wr W115 g_b1
  have V_b1 : Arv Z h115 b1 k1 (.object "com/example/nameward/nameward/epp/ResultCode") (29 : Int32) [(.ref w_SUCCESS), (.ref w_SUCCESS_ACTION_PENDING), (.ref w_SUCCESS_NO_MESSAGES), (.ref w_SUCCESS_ACK_TO_DEQUEUE), (.ref w_SUCCESS_ENDING_SESSION), (.ref w_SYNTAX_ERROR), (.ref w_USE_ERROR), (.ref w_REQUIRED_PARAMETER_MISSING), (.ref w_PARAMETER_VALUE_SYNTAX_ERROR), (.ref w_UNIMPLEMENTED_COMMAND), (.ref w_UNIMPLEMENTED_OPTION), (.ref w_UNIMPLEMENTED_EXTENSION), (.ref w_BILLING_FAILURE), (.ref w_NOT_ELIGIBLE_FOR_TRANSFER), (.ref w_AUTHENTICATION_ERROR), (.ref w_AUTHORIZATION_ERROR), (.ref w_INVALID_AUTHORIZATION_INFORMATION), (.ref w_OBJECT_PENDING_TRANSFER), (.ref w_OBJECT_NOT_PENDING_TRANSFER), (.ref w_OBJECT_EXISTS), (.ref w_OBJECT_DOES_NOT_EXIST), (.ref w_OBJECT_STATUS_PROHIBITS_OPERATION), (.ref w_OBJECT_ASSOCIATION_PROHIBITS_OPERATION), (.ref w_PARAMETER_VALUE_POLICY_ERROR), (.ref w_UNIMPLEMENTED_OBJECT_SERVICE), (.ref w_DATA_MANAGEMENT_POLICY_VIOLATION), (.ref w_COMMAND_FAILED), (.ref w_AUTHENTICATION_ERROR_CLOSING), (.ref w_SESSION_LIMIT_EXCEEDED)] .null := Arv.set Ar115 q115 S115 N115z H115 G115 rfl W115 28 rfl (Nat.le_of_ble_eq_true rfl)
  replace Zn := Nat.le_trans Zn (Keep.of_wr W115).1
  have N115 := Fr.snoc X115 N113 g_b1
  have K116 : ∀ t, Steps p.tables e below (T115.setTop (mkF m 202 #[.val (.int p0), .unset, .unset, .unset, .unset] [(.ref b1)])) t → Steps p.tables e below (s₁.setTop (entryFrame m #[(.int p0)] maxLocals)) t := by
    intro t kt
    refine K112 t ?_
    show Steps p.tables e below (T111.setTop (mkF m 195 #[.val (.int p0), .unset, .unset, .unset, .unset] [(.ref b1)])) _
    refine XS.dup X113.here hx rfl (hb hby at_195) rfl rfl ?_
    show Steps p.tables e below (T111.setTop (mkF m 196 #[.val (.int p0), .unset, .unset, .unset, .unset] [(.ref b1), (.ref b1)])) _
    refine XS.bipush X113.here hx rfl (hb hby at_196) ?_
    show Steps p.tables e below (T111.setTop (mkF m 198 #[.val (.int p0), .unset, .unset, .unset, .unset] [(.int (28 : Int32)), (.ref b1), (.ref b1)])) _
    refine st114 _ ?_
    show Steps p.tables e below (T114.setTop (mkF m 201 #[.val (.int p0), .unset, .unset, .unset, .unset] [(.ref w_SESSION_LIMIT_EXCEEDED), (.int (28 : Int32)), (.ref b1), (.ref b1)])) _
    refine st115 _ ?_
    exact kt
  obtain ⟨lc117, X117, N117⟩ : ∃ lc, Stand p l e room_1 s m #[(.int p0)] below meth c T115 lc 1 29 ∧ Fr n0 lc := ⟨_, X115, N115⟩
  clear T111 h111 e111 K112 lc113 X113 N113 st114 e114 X114 T114 cl115 Ar115 q115 S115 N115z H115 G115 hin115 X115 W115 st115 N115
  have K118 : ∀ t, Steps p.tables e below (T115.setTop (mkF m 211 #[.val (.int p0), .val (.ref b1), .val (.int ((p0 &&& (2147483647 : Int32)) - ((p0 &&& (2147483647 : Int32)) / (29 : Int32)) * (29 : Int32))), .unset, .unset] [])) t → Steps p.tables e below (s₁.setTop (entryFrame m #[(.int p0)] maxLocals)) t := by
    intro t kt
    refine K116 t ?_
    show Steps p.tables e below (T115.setTop (mkF m 202 #[.val (.int p0), .unset, .unset, .unset, .unset] [(.ref b1)])) _
    refine XS.astoreN X117.here hx rfl (hb hby at_202) rfl rfl (l' := #[.val (.int p0), .val (.ref b1), .unset, .unset, .unset]) rfl ?_
    show Steps p.tables e below (T115.setTop (mkF m 203 #[.val (.int p0), .val (.ref b1), .unset, .unset, .unset] [])) _
    refine XS.iloadN X117.here hx rfl (hb hby at_203) rfl ?_
    show Steps p.tables e below (T115.setTop (mkF m 204 #[.val (.int p0), .val (.ref b1), .unset, .unset, .unset] [(.int p0)])) _
    refine X117.ldcInt hx hown (mvT hZ (hw _ (List.mem_of_getElem? (i := 62) rfl))) (g := (mkF m 204 #[.val (.int p0), .val (.ref b1), .unset, .unset, .unset] [(.int p0)])) rfl (hb hby at_204) _ ?_
    show Steps p.tables e below (T115.setTop (mkF m 206 #[.val (.int p0), .val (.ref b1), .unset, .unset, .unset] [(.int (2147483647 : Int32)), (.int p0)])) _
    refine XS.iand X117.here hx rfl (hb hby at_206) rfl ?_
    show Steps p.tables e below (T115.setTop (mkF m 207 #[.val (.int p0), .val (.ref b1), .unset, .unset, .unset] [(.int (p0 &&& (2147483647 : Int32)))])) _
    refine XS.bipush X117.here hx rfl (hb hby at_207) ?_
    show Steps p.tables e below (T115.setTop (mkF m 209 #[.val (.int p0), .val (.ref b1), .unset, .unset, .unset] [(.int (29 : Int32)), (.int (p0 &&& (2147483647 : Int32)))])) _
    refine XS.irem X117.here hx rfl (hb hby at_209) rfl (by decide) ?_
    show Steps p.tables e below (T115.setTop (mkF m 210 #[.val (.int p0), .val (.ref b1), .unset, .unset, .unset] [(.int ((p0 &&& (2147483647 : Int32)) - ((p0 &&& (2147483647 : Int32)) / (29 : Int32)) * (29 : Int32)))])) _
    refine XS.istoreN X117.here hx rfl (hb hby at_210) rfl (l' := #[.val (.int p0), .val (.ref b1), .val (.int ((p0 &&& (2147483647 : Int32)) - ((p0 &&& (2147483647 : Int32)) / (29 : Int32)) * (29 : Int32))), .unset, .unset]) rfl ?_
    exact kt
  obtain ⟨i, hg_i⟩ : ∃ z, z = ((p0 &&& (2147483647 : Int32)) - ((p0 &&& (2147483647 : Int32)) / (29 : Int32)) * (29 : Int32)) := ⟨_, rfl⟩
  rw [← hg_i] at K118
  have hi := own_mod p0 29 (by decide)
  rw [← hg_i] at hi
  have c19 : (29 : Int32).toInt = 29 := by decide
  obtain ⟨hnat, hneg⟩ := own_nat hi
  have hlt : i.toNatClampNeg < 29 := by omega
  obtain ⟨el, hel⟩ : ∃ z, z = [w_SUCCESS, w_SUCCESS_ACTION_PENDING, w_SUCCESS_NO_MESSAGES, w_SUCCESS_ACK_TO_DEQUEUE, w_SUCCESS_ENDING_SESSION, w_SYNTAX_ERROR, w_USE_ERROR, w_REQUIRED_PARAMETER_MISSING, w_PARAMETER_VALUE_SYNTAX_ERROR, w_UNIMPLEMENTED_COMMAND, w_UNIMPLEMENTED_OPTION, w_UNIMPLEMENTED_EXTENSION, w_BILLING_FAILURE, w_NOT_ELIGIBLE_FOR_TRANSFER, w_AUTHENTICATION_ERROR, w_AUTHORIZATION_ERROR, w_INVALID_AUTHORIZATION_INFORMATION, w_OBJECT_PENDING_TRANSFER, w_OBJECT_NOT_PENDING_TRANSFER, w_OBJECT_EXISTS, w_OBJECT_DOES_NOT_EXIST, w_OBJECT_STATUS_PROHIBITS_OPERATION, w_OBJECT_ASSOCIATION_PROHIBITS_OPERATION, w_PARAMETER_VALUE_POLICY_ERROR, w_UNIMPLEMENTED_OBJECT_SERVICE, w_DATA_MANAGEMENT_POLICY_VIOLATION, w_COMMAND_FAILED, w_AUTHENTICATION_ERROR_CLOSING, w_SESSION_LIMIT_EXCEEDED].getD i.toNatClampNeg 0 := ⟨_, rfl⟩
  obtain ⟨cv, hcv⟩ : ∃ z, z = [(1000 : Int32), (1001 : Int32), (1300 : Int32), (1301 : Int32), (1500 : Int32), (2001 : Int32), (2002 : Int32), (2003 : Int32), (2005 : Int32), (2101 : Int32), (2102 : Int32), (2103 : Int32), (2104 : Int32), (2106 : Int32), (2200 : Int32), (2201 : Int32), (2202 : Int32), (2300 : Int32), (2301 : Int32), (2302 : Int32), (2303 : Int32), (2304 : Int32), (2305 : Int32), (2306 : Int32), (2307 : Int32), (2308 : Int32), (2400 : Int32), (2501 : Int32), (2502 : Int32)].getD i.toNatClampNeg 0 := ⟨_, rfl⟩
  have Vq119 := V_b1
  obtain ⟨cl119, Ar119, q119, S119, N119z, H119, G119⟩ := Vq119
  have hin119 : ¬ (i < 0 ∨ cl119.slots.size ≤ (i).toNatClampNeg) := inb_of S119 ⟨hneg, by rw [Int32.lt_iff_toInt_lt]; omega⟩
  have hat119 : cl119.slots[(i).toNatClampNeg]? = some (.ref el) := Has.at H119 hin119 (by rw [hel]; exact own_getref [w_SUCCESS, w_SUCCESS_ACTION_PENDING, w_SUCCESS_NO_MESSAGES, w_SUCCESS_ACK_TO_DEQUEUE, w_SUCCESS_ENDING_SESSION, w_SYNTAX_ERROR, w_USE_ERROR, w_REQUIRED_PARAMETER_MISSING, w_PARAMETER_VALUE_SYNTAX_ERROR, w_UNIMPLEMENTED_COMMAND, w_UNIMPLEMENTED_OPTION, w_UNIMPLEMENTED_EXTENSION, w_BILLING_FAILURE, w_NOT_ELIGIBLE_FOR_TRANSFER, w_AUTHENTICATION_ERROR, w_AUTHORIZATION_ERROR, w_INVALID_AUTHORIZATION_INFORMATION, w_OBJECT_PENDING_TRANSFER, w_OBJECT_NOT_PENDING_TRANSFER, w_OBJECT_EXISTS, w_OBJECT_DOES_NOT_EXIST, w_OBJECT_STATUS_PROHIBITS_OPERATION, w_OBJECT_ASSOCIATION_PROHIBITS_OPERATION, w_PARAMETER_VALUE_POLICY_ERROR, w_UNIMPLEMENTED_OBJECT_SERVICE, w_DATA_MANAGEMENT_POLICY_VIOLATION, w_COMMAND_FAILED, w_AUTHENTICATION_ERROR_CLOSING, w_SESSION_LIMIT_EXCEEDED] _ hlt)
  have K120 : ∀ t, Steps p.tables e below (T115.setTop (mkF m 217 #[.val (.int p0), .val (.ref b1), .val (.int i), .val (.ref el), .unset] [(.int (4 : Int32)), (.int i)])) t → Steps p.tables e below (s₁.setTop (entryFrame m #[(.int p0)] maxLocals)) t := by
    intro t kt
    refine K118 t ?_
    show Steps p.tables e below (T115.setTop (mkF m 211 #[.val (.int p0), .val (.ref b1), .val (.int i), .unset, .unset] [])) _
    refine XS.aloadN X117.here hx rfl (hb hby at_211) rfl rfl ?_
    show Steps p.tables e below (T115.setTop (mkF m 212 #[.val (.int p0), .val (.ref b1), .val (.int i), .unset, .unset] [(.ref b1)])) _
    refine XS.iloadN X117.here hx rfl (hb hby at_212) rfl ?_
    show Steps p.tables e below (T115.setTop (mkF m 213 #[.val (.int p0), .val (.ref b1), .val (.int i), .unset, .unset] [(.int i), (.ref b1)])) _
    refine X117.aaload hx (j := i) (v := (.ref el)) (by rw [e115]; exact Ar119.1) (State.isArrayOf_alike hZ.alike Ar119.2.1) rfl Ar119.2.2 hin119 hat119 (g := (mkF m 213 #[.val (.int p0), .val (.ref b1), .val (.int i), .unset, .unset] [(.int i), (.ref b1)])) rfl rfl (hb hby at_213) _ ?_
    show Steps p.tables e below (T115.setTop (mkF m 214 #[.val (.int p0), .val (.ref b1), .val (.int i), .unset, .unset] [(.ref el)])) _
    refine XS.astoreN X117.here hx rfl (hb hby at_214) rfl rfl (l' := #[.val (.int p0), .val (.ref b1), .val (.int i), .val (.ref el), .unset]) rfl ?_
    show Steps p.tables e below (T115.setTop (mkF m 215 #[.val (.int p0), .val (.ref b1), .val (.int i), .val (.ref el), .unset] [])) _
    refine XS.iloadN X117.here hx rfl (hb hby at_215) rfl ?_
    show Steps p.tables e below (T115.setTop (mkF m 216 #[.val (.int p0), .val (.ref b1), .val (.int i), .val (.ref el), .unset] [(.int i)])) _
    refine XS.iconst X117.here hx rfl (hb hby at_216) ?_
    exact kt
  by_cases hc217 : i = (4 : Int32)
  ·
    obtain ⟨cq121, kq121, q121a, q121b, q121c⟩ := isOf hZ e115 ((hel ▸ own_exal EX _ hlt : Exa Z Z.heap el "com/example/nameward/nameward/epp/ResultCode").ext OLD.2)
    obtain ⟨_, _, ⟨T121, L121, k121, n121⟩, -, X121, ⟨Lc121, hQ121, l121, y121, z121⟩, st121⟩ := X117.virtualBack hx (y := (⟨"com/example/nameward/nameward/epp/ResultCode", "endsSession", "()Z"⟩ : MethodName)) (z := (⟨"com/example/nameward/nameward/epp/ResultCode", "endsSession", "()Z"⟩ : MethodName)) hown (mvT hZ (hw _ (List.mem_of_getElem? (i := 63) rfl))) (mvT hZ (hw _ (List.mem_of_getElem? (i := 64) rfl))) (notFace_of_selects (args := #[]) (mvT hZ (hw _ (List.mem_of_getElem? (i := 66) rfl)))) (mvT hZ (hw _ (List.mem_of_getElem? (i := 66) rfl))) (mvT hZ (hw _ (List.mem_of_getElem? (i := 65) rfl))) (by decide) (backOf (W := 0) (rm1 l Z a0 hw [] el cv w_SUCCESS_ENDING_SESSION h115 n0 Zn (S_SUCCESS_ENDING_SESSION.ext OLD.2) ((show Fld Z Z.heap el "com/example/nameward/nameward/epp/ResultCode" "code" "I" (.int cv) by rw [hel, hcv]; exact FX _ hlt).ext OLD.2)) hZ (hw _ (List.mem_of_getElem? (i := 67) rfl)) (hw _ (List.mem_of_getElem? (i := 3) rfl)) (by decide) (by decide)) q121a q121c (g := (mkF m 240 #[.val (.int p0), .val (.ref b1), .val (.int i), .val (.ref el), .val (.int (1 : Int32))] [(.ref el)])) rfl (by rw [hml]; rfl) (Steps.refl _) (argsL := []) (rest := []) (lenOf pd_1 rfl) rfl (by show 2 * 0 + _ ≤ _; exact Nat.le_of_eq rfl) (hb hby at_240) (fun _ _ => ⟨rfl, e115, (by decide : 1 + 0 ≤ _), (by decide : 29 + 0 ≤ _)⟩)
    dsimp only [Pt.U, Pt.locs, Pt.cells, Pt.slots] at X121 l121 y121 z121 st121 hQ121
    subst l121 y121 z121
    obtain ⟨rfl, N121q, e121q⟩ := hQ121
    have N121 := Fr.app N117 N121q
    have e121 : T121.heap = h115 := e121q
    have hc245 : (own_end el cv w_SUCCESS_ENDING_SESSION) = (1 : Int32) := by
        have c4 : (4 : Int32).toInt = 4 := by decide
        have c27 : (27 : Int32).toInt = 27 := by decide
        have c28 : (28 : Int32).toInt = 28 := by decide
        have qhc217 := hc217
        rw [← Int32.toInt_inj] at qhc217
        rw [hel, hcv]
        refine (own_law o_SUCCESS o_SUCCESS_ACTION_PENDING o_SUCCESS_NO_MESSAGES o_SUCCESS_ACK_TO_DEQUEUE o_SUCCESS_ENDING_SESSION o_SYNTAX_ERROR o_USE_ERROR o_REQUIRED_PARAMETER_MISSING o_PARAMETER_VALUE_SYNTAX_ERROR o_UNIMPLEMENTED_COMMAND o_UNIMPLEMENTED_OPTION o_UNIMPLEMENTED_EXTENSION o_BILLING_FAILURE o_NOT_ELIGIBLE_FOR_TRANSFER o_AUTHENTICATION_ERROR o_AUTHORIZATION_ERROR o_INVALID_AUTHORIZATION_INFORMATION o_OBJECT_PENDING_TRANSFER o_OBJECT_NOT_PENDING_TRANSFER o_OBJECT_EXISTS o_OBJECT_DOES_NOT_EXIST o_OBJECT_STATUS_PROHIBITS_OPERATION o_OBJECT_ASSOCIATION_PROHIBITS_OPERATION o_PARAMETER_VALUE_POLICY_ERROR o_UNIMPLEMENTED_OBJECT_SERVICE o_DATA_MANAGEMENT_POLICY_VIOLATION o_COMMAND_FAILED o_AUTHENTICATION_ERROR_CLOSING o_SESSION_LIMIT_EXCEEDED _ hlt).trans ?_
        rw [if_pos (by omega)]
    obtain ⟨fs, hr, hrun, hended, hW, hsame⟩ := X121.leave (v := some (.int (1 : Int32))) (fun h => by rw [Bd.returns] at h; cases h) hlk
    refine ⟨_, _, K120 _ ?_, hrun, hended, _, _, rfl, ?_, ⟨_, rfl⟩, hW, hsame.mono (by decide) (by decide)⟩
    ·
      show Steps p.tables e below (T115.setTop (mkF m 217 #[.val (.int p0), .val (.ref b1), .val (.int i), .val (.ref el), .unset] [(.int (4 : Int32)), (.int i)])) _
      refine XS.icmpYes X117.here hx rfl (pc0 := 217) (pc' := 232) rfl (hb hby at_217) rfl (teq hc217).1 (by decide) (by decide) ?_
      show Steps p.tables e below (T115.setTop (mkF m 232 #[.val (.int p0), .val (.ref b1), .val (.int i), .val (.ref el), .unset] [])) _
      refine XS.iconst X117.here hx rfl (hb hby at_232) ?_
      show Steps p.tables e below (T115.setTop (mkF m 233 #[.val (.int p0), .val (.ref b1), .val (.int i), .val (.ref el), .unset] [(.int (1 : Int32))])) _
      refine XS.goto X117.here hx rfl (pc0 := 233) (pc' := 237) rfl (hb hby at_233) (by decide) (by decide) ?_
      show Steps p.tables e below (T115.setTop (mkF m 237 #[.val (.int p0), .val (.ref b1), .val (.int i), .val (.ref el), .unset] [(.int (1 : Int32))])) _
      refine XS.istore X117.here hx rfl (hb hby at_237) rfl (l' := #[.val (.int p0), .val (.ref b1), .val (.int i), .val (.ref el), .val (.int (1 : Int32))]) rfl ?_
      show Steps p.tables e below (T115.setTop (mkF m 239 #[.val (.int p0), .val (.ref b1), .val (.int i), .val (.ref el), .val (.int (1 : Int32))] [])) _
      refine XS.aloadN X117.here hx rfl (hb hby at_239) rfl rfl ?_
      show Steps p.tables e below (T115.setTop (mkF m 240 #[.val (.int p0), .val (.ref b1), .val (.int i), .val (.ref el), .val (.int (1 : Int32))] [(.ref el)])) _
      refine st121.trans ?_
      show Steps p.tables e below (T121.setTop (mkF m 243 #[.val (.int p0), .val (.ref b1), .val (.int i), .val (.ref el), .val (.int (1 : Int32))] [(.int (own_end el cv w_SUCCESS_ENDING_SESSION))])) _
      refine XS.iload X121.here hx rfl (hb hby at_243) rfl ?_
      show Steps p.tables e below (T121.setTop (mkF m 245 #[.val (.int p0), .val (.ref b1), .val (.int i), .val (.ref el), .val (.int (1 : Int32))] [(.int (1 : Int32)), (.int (own_end el cv w_SUCCESS_ENDING_SESSION))])) _
      refine XS.icmpNo X121.here hx rfl (hb hby at_245) rfl (teq hc245).2 ?_
      show Steps p.tables e below (T121.setTop (mkF m 248 #[.val (.int p0), .val (.ref b1), .val (.int i), .val (.ref el), .val (.int (1 : Int32))] [])) _
      refine XS.iconst X121.here hx rfl (hb hby at_248) ?_
      show Steps p.tables e below (T121.setTop (mkF m 249 #[.val (.int p0), .val (.ref b1), .val (.int i), .val (.ref el), .val (.int (1 : Int32))] [(.int (1 : Int32))])) _
      refine XS.goto X121.here hx rfl (pc0 := 249) (pc' := 253) rfl (hb hby at_249) (by decide) (by decide) ?_
      show Steps p.tables e below (T121.setTop (mkF m 253 #[.val (.int p0), .val (.ref b1), .val (.int i), .val (.ref el), .val (.int (1 : Int32))] [(.int (1 : Int32))])) _
      exact retN X121 hx (t := .boolean) Bd.returns (by simp) (hb hby at_253) hr
    ·
      show Q_rm0 Z p0 w_SUCCESS w_SUCCESS_ACTION_PENDING w_SUCCESS_NO_MESSAGES w_SUCCESS_ACK_TO_DEQUEUE w_SUCCESS_ENDING_SESSION w_SYNTAX_ERROR w_USE_ERROR w_REQUIRED_PARAMETER_MISSING w_PARAMETER_VALUE_SYNTAX_ERROR w_UNIMPLEMENTED_COMMAND w_UNIMPLEMENTED_OPTION w_UNIMPLEMENTED_EXTENSION w_BILLING_FAILURE w_NOT_ELIGIBLE_FOR_TRANSFER w_AUTHENTICATION_ERROR w_AUTHORIZATION_ERROR w_INVALID_AUTHORIZATION_INFORMATION w_OBJECT_PENDING_TRANSFER w_OBJECT_NOT_PENDING_TRANSFER w_OBJECT_EXISTS w_OBJECT_DOES_NOT_EXIST w_OBJECT_STATUS_PROHIBITS_OPERATION w_OBJECT_ASSOCIATION_PROHIBITS_OPERATION w_PARAMETER_VALUE_POLICY_ERROR w_UNIMPLEMENTED_OBJECT_SERVICE w_DATA_MANAGEMENT_POLICY_VIOLATION w_COMMAND_FAILED w_AUTHENTICATION_ERROR_CLOSING w_SESSION_LIMIT_EXCEEDED h0 n0 _ T121.heap _
      rw [e121]
      exact ⟨rfl, N121⟩
  ·
    have K122 : ∀ t, Steps p.tables e below (T115.setTop (mkF m 223 #[.val (.int p0), .val (.ref b1), .val (.int i), .val (.ref el), .unset] [(.int (27 : Int32)), (.int i)])) t → Steps p.tables e below (s₁.setTop (entryFrame m #[(.int p0)] maxLocals)) t := by
      intro t kt
      refine K120 t ?_
      show Steps p.tables e below (T115.setTop (mkF m 217 #[.val (.int p0), .val (.ref b1), .val (.int i), .val (.ref el), .unset] [(.int (4 : Int32)), (.int i)])) _
      refine XS.icmpNo X117.here hx rfl (hb hby at_217) rfl (feq hc217).1 ?_
      show Steps p.tables e below (T115.setTop (mkF m 220 #[.val (.int p0), .val (.ref b1), .val (.int i), .val (.ref el), .unset] [])) _
      refine XS.iloadN X117.here hx rfl (hb hby at_220) rfl ?_
      show Steps p.tables e below (T115.setTop (mkF m 221 #[.val (.int p0), .val (.ref b1), .val (.int i), .val (.ref el), .unset] [(.int i)])) _
      refine XS.bipush X117.here hx rfl (hb hby at_221) ?_
      exact kt
    by_cases hc223 : i = (27 : Int32)
    ·
      obtain ⟨cq123, kq123, q123a, q123b, q123c⟩ := isOf hZ e115 ((hel ▸ own_exal EX _ hlt : Exa Z Z.heap el "com/example/nameward/nameward/epp/ResultCode").ext OLD.2)
      obtain ⟨_, _, ⟨T123, L123, k123, n123⟩, -, X123, ⟨Lc123, hQ123, l123, y123, z123⟩, st123⟩ := X117.virtualBack hx (y := (⟨"com/example/nameward/nameward/epp/ResultCode", "endsSession", "()Z"⟩ : MethodName)) (z := (⟨"com/example/nameward/nameward/epp/ResultCode", "endsSession", "()Z"⟩ : MethodName)) hown (mvT hZ (hw _ (List.mem_of_getElem? (i := 63) rfl))) (mvT hZ (hw _ (List.mem_of_getElem? (i := 64) rfl))) (notFace_of_selects (args := #[]) (mvT hZ (hw _ (List.mem_of_getElem? (i := 66) rfl)))) (mvT hZ (hw _ (List.mem_of_getElem? (i := 66) rfl))) (mvT hZ (hw _ (List.mem_of_getElem? (i := 65) rfl))) (by decide) (backOf (W := 0) (rm1 l Z a0 hw [] el cv w_SUCCESS_ENDING_SESSION h115 n0 Zn (S_SUCCESS_ENDING_SESSION.ext OLD.2) ((show Fld Z Z.heap el "com/example/nameward/nameward/epp/ResultCode" "code" "I" (.int cv) by rw [hel, hcv]; exact FX _ hlt).ext OLD.2)) hZ (hw _ (List.mem_of_getElem? (i := 67) rfl)) (hw _ (List.mem_of_getElem? (i := 3) rfl)) (by decide) (by decide)) q123a q123c (g := (mkF m 240 #[.val (.int p0), .val (.ref b1), .val (.int i), .val (.ref el), .val (.int (1 : Int32))] [(.ref el)])) rfl (by rw [hml]; rfl) (Steps.refl _) (argsL := []) (rest := []) (lenOf pd_1 rfl) rfl (by show 2 * 0 + _ ≤ _; exact Nat.le_of_eq rfl) (hb hby at_240) (fun _ _ => ⟨rfl, e115, (by decide : 1 + 0 ≤ _), (by decide : 29 + 0 ≤ _)⟩)
      dsimp only [Pt.U, Pt.locs, Pt.cells, Pt.slots] at X123 l123 y123 z123 st123 hQ123
      subst l123 y123 z123
      obtain ⟨rfl, N123q, e123q⟩ := hQ123
      have N123 := Fr.app N117 N123q
      have e123 : T123.heap = h115 := e123q
      have hc245 : (own_end el cv w_SUCCESS_ENDING_SESSION) = (1 : Int32) := by
          have c4 : (4 : Int32).toInt = 4 := by decide
          have c27 : (27 : Int32).toInt = 27 := by decide
          have c28 : (28 : Int32).toInt = 28 := by decide
          have qhc217 := hc217
          rw [← Int32.toInt_inj] at qhc217
          have qhc223 := hc223
          rw [← Int32.toInt_inj] at qhc223
          rw [hel, hcv]
          refine (own_law o_SUCCESS o_SUCCESS_ACTION_PENDING o_SUCCESS_NO_MESSAGES o_SUCCESS_ACK_TO_DEQUEUE o_SUCCESS_ENDING_SESSION o_SYNTAX_ERROR o_USE_ERROR o_REQUIRED_PARAMETER_MISSING o_PARAMETER_VALUE_SYNTAX_ERROR o_UNIMPLEMENTED_COMMAND o_UNIMPLEMENTED_OPTION o_UNIMPLEMENTED_EXTENSION o_BILLING_FAILURE o_NOT_ELIGIBLE_FOR_TRANSFER o_AUTHENTICATION_ERROR o_AUTHORIZATION_ERROR o_INVALID_AUTHORIZATION_INFORMATION o_OBJECT_PENDING_TRANSFER o_OBJECT_NOT_PENDING_TRANSFER o_OBJECT_EXISTS o_OBJECT_DOES_NOT_EXIST o_OBJECT_STATUS_PROHIBITS_OPERATION o_OBJECT_ASSOCIATION_PROHIBITS_OPERATION o_PARAMETER_VALUE_POLICY_ERROR o_UNIMPLEMENTED_OBJECT_SERVICE o_DATA_MANAGEMENT_POLICY_VIOLATION o_COMMAND_FAILED o_AUTHENTICATION_ERROR_CLOSING o_SESSION_LIMIT_EXCEEDED _ hlt).trans ?_
          rw [if_pos (by omega)]
      obtain ⟨fs, hr, hrun, hended, hW, hsame⟩ := X123.leave (v := some (.int (1 : Int32))) (fun h => by rw [Bd.returns] at h; cases h) hlk
      refine ⟨_, _, K122 _ ?_, hrun, hended, _, _, rfl, ?_, ⟨_, rfl⟩, hW, hsame.mono (by decide) (by decide)⟩
      ·
        show Steps p.tables e below (T115.setTop (mkF m 223 #[.val (.int p0), .val (.ref b1), .val (.int i), .val (.ref el), .unset] [(.int (27 : Int32)), (.int i)])) _
        refine XS.icmpYes X117.here hx rfl (pc0 := 223) (pc' := 232) rfl (hb hby at_223) rfl (teq hc223).1 (by decide) (by decide) ?_
        show Steps p.tables e below (T115.setTop (mkF m 232 #[.val (.int p0), .val (.ref b1), .val (.int i), .val (.ref el), .unset] [])) _
        refine XS.iconst X117.here hx rfl (hb hby at_232) ?_
        show Steps p.tables e below (T115.setTop (mkF m 233 #[.val (.int p0), .val (.ref b1), .val (.int i), .val (.ref el), .unset] [(.int (1 : Int32))])) _
        refine XS.goto X117.here hx rfl (pc0 := 233) (pc' := 237) rfl (hb hby at_233) (by decide) (by decide) ?_
        show Steps p.tables e below (T115.setTop (mkF m 237 #[.val (.int p0), .val (.ref b1), .val (.int i), .val (.ref el), .unset] [(.int (1 : Int32))])) _
        refine XS.istore X117.here hx rfl (hb hby at_237) rfl (l' := #[.val (.int p0), .val (.ref b1), .val (.int i), .val (.ref el), .val (.int (1 : Int32))]) rfl ?_
        show Steps p.tables e below (T115.setTop (mkF m 239 #[.val (.int p0), .val (.ref b1), .val (.int i), .val (.ref el), .val (.int (1 : Int32))] [])) _
        refine XS.aloadN X117.here hx rfl (hb hby at_239) rfl rfl ?_
        show Steps p.tables e below (T115.setTop (mkF m 240 #[.val (.int p0), .val (.ref b1), .val (.int i), .val (.ref el), .val (.int (1 : Int32))] [(.ref el)])) _
        refine st123.trans ?_
        show Steps p.tables e below (T123.setTop (mkF m 243 #[.val (.int p0), .val (.ref b1), .val (.int i), .val (.ref el), .val (.int (1 : Int32))] [(.int (own_end el cv w_SUCCESS_ENDING_SESSION))])) _
        refine XS.iload X123.here hx rfl (hb hby at_243) rfl ?_
        show Steps p.tables e below (T123.setTop (mkF m 245 #[.val (.int p0), .val (.ref b1), .val (.int i), .val (.ref el), .val (.int (1 : Int32))] [(.int (1 : Int32)), (.int (own_end el cv w_SUCCESS_ENDING_SESSION))])) _
        refine XS.icmpNo X123.here hx rfl (hb hby at_245) rfl (teq hc245).2 ?_
        show Steps p.tables e below (T123.setTop (mkF m 248 #[.val (.int p0), .val (.ref b1), .val (.int i), .val (.ref el), .val (.int (1 : Int32))] [])) _
        refine XS.iconst X123.here hx rfl (hb hby at_248) ?_
        show Steps p.tables e below (T123.setTop (mkF m 249 #[.val (.int p0), .val (.ref b1), .val (.int i), .val (.ref el), .val (.int (1 : Int32))] [(.int (1 : Int32))])) _
        refine XS.goto X123.here hx rfl (pc0 := 249) (pc' := 253) rfl (hb hby at_249) (by decide) (by decide) ?_
        show Steps p.tables e below (T123.setTop (mkF m 253 #[.val (.int p0), .val (.ref b1), .val (.int i), .val (.ref el), .val (.int (1 : Int32))] [(.int (1 : Int32))])) _
        exact retN X123 hx (t := .boolean) Bd.returns (by simp) (hb hby at_253) hr
      ·
        show Q_rm0 Z p0 w_SUCCESS w_SUCCESS_ACTION_PENDING w_SUCCESS_NO_MESSAGES w_SUCCESS_ACK_TO_DEQUEUE w_SUCCESS_ENDING_SESSION w_SYNTAX_ERROR w_USE_ERROR w_REQUIRED_PARAMETER_MISSING w_PARAMETER_VALUE_SYNTAX_ERROR w_UNIMPLEMENTED_COMMAND w_UNIMPLEMENTED_OPTION w_UNIMPLEMENTED_EXTENSION w_BILLING_FAILURE w_NOT_ELIGIBLE_FOR_TRANSFER w_AUTHENTICATION_ERROR w_AUTHORIZATION_ERROR w_INVALID_AUTHORIZATION_INFORMATION w_OBJECT_PENDING_TRANSFER w_OBJECT_NOT_PENDING_TRANSFER w_OBJECT_EXISTS w_OBJECT_DOES_NOT_EXIST w_OBJECT_STATUS_PROHIBITS_OPERATION w_OBJECT_ASSOCIATION_PROHIBITS_OPERATION w_PARAMETER_VALUE_POLICY_ERROR w_UNIMPLEMENTED_OBJECT_SERVICE w_DATA_MANAGEMENT_POLICY_VIOLATION w_COMMAND_FAILED w_AUTHENTICATION_ERROR_CLOSING w_SESSION_LIMIT_EXCEEDED h0 n0 _ T123.heap _
        rw [e123]
        exact ⟨rfl, N123⟩
    ·
      have K124 : ∀ t, Steps p.tables e below (T115.setTop (mkF m 229 #[.val (.int p0), .val (.ref b1), .val (.int i), .val (.ref el), .unset] [(.int (28 : Int32)), (.int i)])) t → Steps p.tables e below (s₁.setTop (entryFrame m #[(.int p0)] maxLocals)) t := by
        intro t kt
        refine K122 t ?_
        show Steps p.tables e below (T115.setTop (mkF m 223 #[.val (.int p0), .val (.ref b1), .val (.int i), .val (.ref el), .unset] [(.int (27 : Int32)), (.int i)])) _
        refine XS.icmpNo X117.here hx rfl (hb hby at_223) rfl (feq hc223).1 ?_
        show Steps p.tables e below (T115.setTop (mkF m 226 #[.val (.int p0), .val (.ref b1), .val (.int i), .val (.ref el), .unset] [])) _
        refine XS.iloadN X117.here hx rfl (hb hby at_226) rfl ?_
        show Steps p.tables e below (T115.setTop (mkF m 227 #[.val (.int p0), .val (.ref b1), .val (.int i), .val (.ref el), .unset] [(.int i)])) _
        refine XS.bipush X117.here hx rfl (hb hby at_227) ?_
        exact kt
      by_cases hc229 : i = (28 : Int32)
      ·
        obtain ⟨cq125, kq125, q125a, q125b, q125c⟩ := isOf hZ e115 ((hel ▸ own_exal EX _ hlt : Exa Z Z.heap el "com/example/nameward/nameward/epp/ResultCode").ext OLD.2)
        obtain ⟨_, _, ⟨T125, L125, k125, n125⟩, -, X125, ⟨Lc125, hQ125, l125, y125, z125⟩, st125⟩ := X117.virtualBack hx (y := (⟨"com/example/nameward/nameward/epp/ResultCode", "endsSession", "()Z"⟩ : MethodName)) (z := (⟨"com/example/nameward/nameward/epp/ResultCode", "endsSession", "()Z"⟩ : MethodName)) hown (mvT hZ (hw _ (List.mem_of_getElem? (i := 63) rfl))) (mvT hZ (hw _ (List.mem_of_getElem? (i := 64) rfl))) (notFace_of_selects (args := #[]) (mvT hZ (hw _ (List.mem_of_getElem? (i := 66) rfl)))) (mvT hZ (hw _ (List.mem_of_getElem? (i := 66) rfl))) (mvT hZ (hw _ (List.mem_of_getElem? (i := 65) rfl))) (by decide) (backOf (W := 0) (rm1 l Z a0 hw [] el cv w_SUCCESS_ENDING_SESSION h115 n0 Zn (S_SUCCESS_ENDING_SESSION.ext OLD.2) ((show Fld Z Z.heap el "com/example/nameward/nameward/epp/ResultCode" "code" "I" (.int cv) by rw [hel, hcv]; exact FX _ hlt).ext OLD.2)) hZ (hw _ (List.mem_of_getElem? (i := 67) rfl)) (hw _ (List.mem_of_getElem? (i := 3) rfl)) (by decide) (by decide)) q125a q125c (g := (mkF m 240 #[.val (.int p0), .val (.ref b1), .val (.int i), .val (.ref el), .val (.int (1 : Int32))] [(.ref el)])) rfl (by rw [hml]; rfl) (Steps.refl _) (argsL := []) (rest := []) (lenOf pd_1 rfl) rfl (by show 2 * 0 + _ ≤ _; exact Nat.le_of_eq rfl) (hb hby at_240) (fun _ _ => ⟨rfl, e115, (by decide : 1 + 0 ≤ _), (by decide : 29 + 0 ≤ _)⟩)
        dsimp only [Pt.U, Pt.locs, Pt.cells, Pt.slots] at X125 l125 y125 z125 st125 hQ125
        subst l125 y125 z125
        obtain ⟨rfl, N125q, e125q⟩ := hQ125
        have N125 := Fr.app N117 N125q
        have e125 : T125.heap = h115 := e125q
        have hc245 : (own_end el cv w_SUCCESS_ENDING_SESSION) = (1 : Int32) := by
            have c4 : (4 : Int32).toInt = 4 := by decide
            have c27 : (27 : Int32).toInt = 27 := by decide
            have c28 : (28 : Int32).toInt = 28 := by decide
            have qhc217 := hc217
            rw [← Int32.toInt_inj] at qhc217
            have qhc223 := hc223
            rw [← Int32.toInt_inj] at qhc223
            have qhc229 := hc229
            rw [← Int32.toInt_inj] at qhc229
            rw [hel, hcv]
            refine (own_law o_SUCCESS o_SUCCESS_ACTION_PENDING o_SUCCESS_NO_MESSAGES o_SUCCESS_ACK_TO_DEQUEUE o_SUCCESS_ENDING_SESSION o_SYNTAX_ERROR o_USE_ERROR o_REQUIRED_PARAMETER_MISSING o_PARAMETER_VALUE_SYNTAX_ERROR o_UNIMPLEMENTED_COMMAND o_UNIMPLEMENTED_OPTION o_UNIMPLEMENTED_EXTENSION o_BILLING_FAILURE o_NOT_ELIGIBLE_FOR_TRANSFER o_AUTHENTICATION_ERROR o_AUTHORIZATION_ERROR o_INVALID_AUTHORIZATION_INFORMATION o_OBJECT_PENDING_TRANSFER o_OBJECT_NOT_PENDING_TRANSFER o_OBJECT_EXISTS o_OBJECT_DOES_NOT_EXIST o_OBJECT_STATUS_PROHIBITS_OPERATION o_OBJECT_ASSOCIATION_PROHIBITS_OPERATION o_PARAMETER_VALUE_POLICY_ERROR o_UNIMPLEMENTED_OBJECT_SERVICE o_DATA_MANAGEMENT_POLICY_VIOLATION o_COMMAND_FAILED o_AUTHENTICATION_ERROR_CLOSING o_SESSION_LIMIT_EXCEEDED _ hlt).trans ?_
            rw [if_pos (by omega)]
        obtain ⟨fs, hr, hrun, hended, hW, hsame⟩ := X125.leave (v := some (.int (1 : Int32))) (fun h => by rw [Bd.returns] at h; cases h) hlk
        refine ⟨_, _, K124 _ ?_, hrun, hended, _, _, rfl, ?_, ⟨_, rfl⟩, hW, hsame.mono (by decide) (by decide)⟩
        ·
          show Steps p.tables e below (T115.setTop (mkF m 229 #[.val (.int p0), .val (.ref b1), .val (.int i), .val (.ref el), .unset] [(.int (28 : Int32)), (.int i)])) _
          refine XS.icmpNo X117.here hx rfl (hb hby at_229) rfl (teq hc229).2 ?_
          show Steps p.tables e below (T115.setTop (mkF m 232 #[.val (.int p0), .val (.ref b1), .val (.int i), .val (.ref el), .unset] [])) _
          refine XS.iconst X117.here hx rfl (hb hby at_232) ?_
          show Steps p.tables e below (T115.setTop (mkF m 233 #[.val (.int p0), .val (.ref b1), .val (.int i), .val (.ref el), .unset] [(.int (1 : Int32))])) _
          refine XS.goto X117.here hx rfl (pc0 := 233) (pc' := 237) rfl (hb hby at_233) (by decide) (by decide) ?_
          show Steps p.tables e below (T115.setTop (mkF m 237 #[.val (.int p0), .val (.ref b1), .val (.int i), .val (.ref el), .unset] [(.int (1 : Int32))])) _
          refine XS.istore X117.here hx rfl (hb hby at_237) rfl (l' := #[.val (.int p0), .val (.ref b1), .val (.int i), .val (.ref el), .val (.int (1 : Int32))]) rfl ?_
          show Steps p.tables e below (T115.setTop (mkF m 239 #[.val (.int p0), .val (.ref b1), .val (.int i), .val (.ref el), .val (.int (1 : Int32))] [])) _
          refine XS.aloadN X117.here hx rfl (hb hby at_239) rfl rfl ?_
          show Steps p.tables e below (T115.setTop (mkF m 240 #[.val (.int p0), .val (.ref b1), .val (.int i), .val (.ref el), .val (.int (1 : Int32))] [(.ref el)])) _
          refine st125.trans ?_
          show Steps p.tables e below (T125.setTop (mkF m 243 #[.val (.int p0), .val (.ref b1), .val (.int i), .val (.ref el), .val (.int (1 : Int32))] [(.int (own_end el cv w_SUCCESS_ENDING_SESSION))])) _
          refine XS.iload X125.here hx rfl (hb hby at_243) rfl ?_
          show Steps p.tables e below (T125.setTop (mkF m 245 #[.val (.int p0), .val (.ref b1), .val (.int i), .val (.ref el), .val (.int (1 : Int32))] [(.int (1 : Int32)), (.int (own_end el cv w_SUCCESS_ENDING_SESSION))])) _
          refine XS.icmpNo X125.here hx rfl (hb hby at_245) rfl (teq hc245).2 ?_
          show Steps p.tables e below (T125.setTop (mkF m 248 #[.val (.int p0), .val (.ref b1), .val (.int i), .val (.ref el), .val (.int (1 : Int32))] [])) _
          refine XS.iconst X125.here hx rfl (hb hby at_248) ?_
          show Steps p.tables e below (T125.setTop (mkF m 249 #[.val (.int p0), .val (.ref b1), .val (.int i), .val (.ref el), .val (.int (1 : Int32))] [(.int (1 : Int32))])) _
          refine XS.goto X125.here hx rfl (pc0 := 249) (pc' := 253) rfl (hb hby at_249) (by decide) (by decide) ?_
          show Steps p.tables e below (T125.setTop (mkF m 253 #[.val (.int p0), .val (.ref b1), .val (.int i), .val (.ref el), .val (.int (1 : Int32))] [(.int (1 : Int32))])) _
          exact retN X125 hx (t := .boolean) Bd.returns (by simp) (hb hby at_253) hr
        ·
          show Q_rm0 Z p0 w_SUCCESS w_SUCCESS_ACTION_PENDING w_SUCCESS_NO_MESSAGES w_SUCCESS_ACK_TO_DEQUEUE w_SUCCESS_ENDING_SESSION w_SYNTAX_ERROR w_USE_ERROR w_REQUIRED_PARAMETER_MISSING w_PARAMETER_VALUE_SYNTAX_ERROR w_UNIMPLEMENTED_COMMAND w_UNIMPLEMENTED_OPTION w_UNIMPLEMENTED_EXTENSION w_BILLING_FAILURE w_NOT_ELIGIBLE_FOR_TRANSFER w_AUTHENTICATION_ERROR w_AUTHORIZATION_ERROR w_INVALID_AUTHORIZATION_INFORMATION w_OBJECT_PENDING_TRANSFER w_OBJECT_NOT_PENDING_TRANSFER w_OBJECT_EXISTS w_OBJECT_DOES_NOT_EXIST w_OBJECT_STATUS_PROHIBITS_OPERATION w_OBJECT_ASSOCIATION_PROHIBITS_OPERATION w_PARAMETER_VALUE_POLICY_ERROR w_UNIMPLEMENTED_OBJECT_SERVICE w_DATA_MANAGEMENT_POLICY_VIOLATION w_COMMAND_FAILED w_AUTHENTICATION_ERROR_CLOSING w_SESSION_LIMIT_EXCEEDED h0 n0 _ T125.heap _
          rw [e125]
          exact ⟨rfl, N125⟩
      ·
        obtain ⟨cq126, kq126, q126a, q126b, q126c⟩ := isOf hZ e115 ((hel ▸ own_exal EX _ hlt : Exa Z Z.heap el "com/example/nameward/nameward/epp/ResultCode").ext OLD.2)
        obtain ⟨_, _, ⟨T126, L126, k126, n126⟩, -, X126, ⟨Lc126, hQ126, l126, y126, z126⟩, st126⟩ := X117.virtualBack hx (y := (⟨"com/example/nameward/nameward/epp/ResultCode", "endsSession", "()Z"⟩ : MethodName)) (z := (⟨"com/example/nameward/nameward/epp/ResultCode", "endsSession", "()Z"⟩ : MethodName)) hown (mvT hZ (hw _ (List.mem_of_getElem? (i := 63) rfl))) (mvT hZ (hw _ (List.mem_of_getElem? (i := 64) rfl))) (notFace_of_selects (args := #[]) (mvT hZ (hw _ (List.mem_of_getElem? (i := 66) rfl)))) (mvT hZ (hw _ (List.mem_of_getElem? (i := 66) rfl))) (mvT hZ (hw _ (List.mem_of_getElem? (i := 65) rfl))) (by decide) (backOf (W := 0) (rm1 l Z a0 hw [] el cv w_SUCCESS_ENDING_SESSION h115 n0 Zn (S_SUCCESS_ENDING_SESSION.ext OLD.2) ((show Fld Z Z.heap el "com/example/nameward/nameward/epp/ResultCode" "code" "I" (.int cv) by rw [hel, hcv]; exact FX _ hlt).ext OLD.2)) hZ (hw _ (List.mem_of_getElem? (i := 67) rfl)) (hw _ (List.mem_of_getElem? (i := 3) rfl)) (by decide) (by decide)) q126a q126c (g := (mkF m 240 #[.val (.int p0), .val (.ref b1), .val (.int i), .val (.ref el), .val (.int (0 : Int32))] [(.ref el)])) rfl (by rw [hml]; rfl) (Steps.refl _) (argsL := []) (rest := []) (lenOf pd_1 rfl) rfl (by show 2 * 0 + _ ≤ _; exact Nat.le_of_eq rfl) (hb hby at_240) (fun _ _ => ⟨rfl, e115, (by decide : 1 + 0 ≤ _), (by decide : 29 + 0 ≤ _)⟩)
        dsimp only [Pt.U, Pt.locs, Pt.cells, Pt.slots] at X126 l126 y126 z126 st126 hQ126
        subst l126 y126 z126
        obtain ⟨rfl, N126q, e126q⟩ := hQ126
        have N126 := Fr.app N117 N126q
        have e126 : T126.heap = h115 := e126q
        have hc245 : (own_end el cv w_SUCCESS_ENDING_SESSION) = (0 : Int32) := by
            have c4 : (4 : Int32).toInt = 4 := by decide
            have c27 : (27 : Int32).toInt = 27 := by decide
            have c28 : (28 : Int32).toInt = 28 := by decide
            have qhc217 := hc217
            rw [← Int32.toInt_inj] at qhc217
            have qhc223 := hc223
            rw [← Int32.toInt_inj] at qhc223
            have qhc229 := hc229
            rw [← Int32.toInt_inj] at qhc229
            rw [hel, hcv]
            refine (own_law o_SUCCESS o_SUCCESS_ACTION_PENDING o_SUCCESS_NO_MESSAGES o_SUCCESS_ACK_TO_DEQUEUE o_SUCCESS_ENDING_SESSION o_SYNTAX_ERROR o_USE_ERROR o_REQUIRED_PARAMETER_MISSING o_PARAMETER_VALUE_SYNTAX_ERROR o_UNIMPLEMENTED_COMMAND o_UNIMPLEMENTED_OPTION o_UNIMPLEMENTED_EXTENSION o_BILLING_FAILURE o_NOT_ELIGIBLE_FOR_TRANSFER o_AUTHENTICATION_ERROR o_AUTHORIZATION_ERROR o_INVALID_AUTHORIZATION_INFORMATION o_OBJECT_PENDING_TRANSFER o_OBJECT_NOT_PENDING_TRANSFER o_OBJECT_EXISTS o_OBJECT_DOES_NOT_EXIST o_OBJECT_STATUS_PROHIBITS_OPERATION o_OBJECT_ASSOCIATION_PROHIBITS_OPERATION o_PARAMETER_VALUE_POLICY_ERROR o_UNIMPLEMENTED_OBJECT_SERVICE o_DATA_MANAGEMENT_POLICY_VIOLATION o_COMMAND_FAILED o_AUTHENTICATION_ERROR_CLOSING o_SESSION_LIMIT_EXCEEDED _ hlt).trans ?_
            rw [if_neg (by omega)]
        obtain ⟨fs, hr, hrun, hended, hW, hsame⟩ := X126.leave (v := some (.int (1 : Int32))) (fun h => by rw [Bd.returns] at h; cases h) hlk
        refine ⟨_, _, K124 _ ?_, hrun, hended, _, _, rfl, ?_, ⟨_, rfl⟩, hW, hsame.mono (by decide) (by decide)⟩
        ·
          show Steps p.tables e below (T115.setTop (mkF m 229 #[.val (.int p0), .val (.ref b1), .val (.int i), .val (.ref el), .unset] [(.int (28 : Int32)), (.int i)])) _
          refine XS.icmpYes X117.here hx rfl (pc0 := 229) (pc' := 236) rfl (hb hby at_229) rfl (feq hc229).2 (by decide) (by decide) ?_
          show Steps p.tables e below (T115.setTop (mkF m 236 #[.val (.int p0), .val (.ref b1), .val (.int i), .val (.ref el), .unset] [])) _
          refine XS.iconst X117.here hx rfl (hb hby at_236) ?_
          show Steps p.tables e below (T115.setTop (mkF m 237 #[.val (.int p0), .val (.ref b1), .val (.int i), .val (.ref el), .unset] [(.int (0 : Int32))])) _
          refine XS.istore X117.here hx rfl (hb hby at_237) rfl (l' := #[.val (.int p0), .val (.ref b1), .val (.int i), .val (.ref el), .val (.int (0 : Int32))]) rfl ?_
          show Steps p.tables e below (T115.setTop (mkF m 239 #[.val (.int p0), .val (.ref b1), .val (.int i), .val (.ref el), .val (.int (0 : Int32))] [])) _
          refine XS.aloadN X117.here hx rfl (hb hby at_239) rfl rfl ?_
          show Steps p.tables e below (T115.setTop (mkF m 240 #[.val (.int p0), .val (.ref b1), .val (.int i), .val (.ref el), .val (.int (0 : Int32))] [(.ref el)])) _
          refine st126.trans ?_
          show Steps p.tables e below (T126.setTop (mkF m 243 #[.val (.int p0), .val (.ref b1), .val (.int i), .val (.ref el), .val (.int (0 : Int32))] [(.int (own_end el cv w_SUCCESS_ENDING_SESSION))])) _
          refine XS.iload X126.here hx rfl (hb hby at_243) rfl ?_
          show Steps p.tables e below (T126.setTop (mkF m 245 #[.val (.int p0), .val (.ref b1), .val (.int i), .val (.ref el), .val (.int (0 : Int32))] [(.int (0 : Int32)), (.int (own_end el cv w_SUCCESS_ENDING_SESSION))])) _
          refine XS.icmpNo X126.here hx rfl (hb hby at_245) rfl (teq hc245).2 ?_
          show Steps p.tables e below (T126.setTop (mkF m 248 #[.val (.int p0), .val (.ref b1), .val (.int i), .val (.ref el), .val (.int (0 : Int32))] [])) _
          refine XS.iconst X126.here hx rfl (hb hby at_248) ?_
          show Steps p.tables e below (T126.setTop (mkF m 249 #[.val (.int p0), .val (.ref b1), .val (.int i), .val (.ref el), .val (.int (0 : Int32))] [(.int (1 : Int32))])) _
          refine XS.goto X126.here hx rfl (pc0 := 249) (pc' := 253) rfl (hb hby at_249) (by decide) (by decide) ?_
          show Steps p.tables e below (T126.setTop (mkF m 253 #[.val (.int p0), .val (.ref b1), .val (.int i), .val (.ref el), .val (.int (0 : Int32))] [(.int (1 : Int32))])) _
          exact retN X126 hx (t := .boolean) Bd.returns (by simp) (hb hby at_253) hr
        ·
          show Q_rm0 Z p0 w_SUCCESS w_SUCCESS_ACTION_PENDING w_SUCCESS_NO_MESSAGES w_SUCCESS_ACK_TO_DEQUEUE w_SUCCESS_ENDING_SESSION w_SYNTAX_ERROR w_USE_ERROR w_REQUIRED_PARAMETER_MISSING w_PARAMETER_VALUE_SYNTAX_ERROR w_UNIMPLEMENTED_COMMAND w_UNIMPLEMENTED_OPTION w_UNIMPLEMENTED_EXTENSION w_BILLING_FAILURE w_NOT_ELIGIBLE_FOR_TRANSFER w_AUTHENTICATION_ERROR w_AUTHORIZATION_ERROR w_INVALID_AUTHORIZATION_INFORMATION w_OBJECT_PENDING_TRANSFER w_OBJECT_NOT_PENDING_TRANSFER w_OBJECT_EXISTS w_OBJECT_DOES_NOT_EXIST w_OBJECT_STATUS_PROHIBITS_OPERATION w_OBJECT_ASSOCIATION_PROHIBITS_OPERATION w_PARAMETER_VALUE_POLICY_ERROR w_UNIMPLEMENTED_OBJECT_SERVICE w_DATA_MANAGEMENT_POLICY_VIOLATION w_COMMAND_FAILED w_AUTHENTICATION_ERROR_CLOSING w_SESSION_LIMIT_EXCEEDED h0 n0 _ T126.heap _
          rw [e126]
          exact ⟨rfl, N126⟩
set_option maxRecDepth 65536 in
set_option maxHeartbeats 40000000 in
theorem comes_1 {Post : Tables → Env → Array Value → State → Outcome → State → Prop} (hpost : ∀ tb e args s v u, (limb_1_1.after args s (.returned v) u = true ∧ limb_1_2.after args s (.returned v) u = true ∧ True) → FrameEnd s (.returned v) u (Jvm.fieldLocs frame_1_writes args s ++ Jvm.arrayLocs frame_1_arrays args s ++ Jvm.staticLocs frame_1_statics s) 16 128 → Post tb e args s (.returned v) u) :
    ArmFor flags0 classFile x code maxLocals ret World_1 tables_1 room_1 Calls_1 rest_1 Pre_1 Post := by
  intro l hfl _ _ p e ha hc hk s m args below hf hA hF happ hP
  obtain ⟨hcalls, hrest, hpre⟩ := hP
  obtain ⟨-, -, -, hnamed, -, -, -, hat⟩ := (Spec.applies_iff hf).mp happ
  obtain ⟨hg, hn⟩ := and_e (Cond.before_iff.mp (show (Jvm.Cond.and given_1 narrow_1).before args s = true from hpre))
  obtain ⟨hg0, hg⟩ := and_e hg
  have ga0 := hg
  obtain ⟨w0, rfl⟩ : ∃ w0 : Value, args = #[w0] := by
    have hs : args.size = 1 := by simpa [Cond.value, given_1] using hg0
    obtain ⟨L⟩ := args
    match L, hs with
    | [w0], _ => exact ⟨w0, rfl⟩
  have hw := fun d (hd : d ∈ tables_1) => atoms_spec (ws := Jvm.Cond.code x code maxLocals ret :: tables_1) hat d (List.mem_cons_of_mem _ hd)
  have hfit : Fit s := fun {y c} hc i hi => by
    obtain ⟨ha, rfl⟩ := Array.getElem?_eq_some_iff.mp hc
    have q := List.all_eq_true.mp ((Array.all_eq_true_iff_forall_mem.mp hF) _ (Array.getElem_mem ha)) i (List.mem_range.mpr hi)
    simpa [Array.getElem?_eq_getElem hi] using q
  obtain ⟨i0, ei0⟩ := is_v ga0
  obtain rfl : w0 = (.int i0) := Option.some.inj ei0
  obtain ⟨cn0, hn⟩ := and_e hn
  obtain ⟨cn1, hn⟩ := and_e hn
  obtain ⟨cn2, hn⟩ := and_e hn
  obtain ⟨cn3, hn⟩ := and_e hn
  obtain ⟨cn4, hn⟩ := and_e hn
  obtain ⟨cn5, hn⟩ := and_e hn
  obtain ⟨cn6, hn⟩ := and_e hn
  obtain ⟨cn7, hn⟩ := and_e hn
  obtain ⟨cn8, hn⟩ := and_e hn
  obtain ⟨cn9, hn⟩ := and_e hn
  obtain ⟨cn10, hn⟩ := and_e hn
  obtain ⟨cn11, hn⟩ := and_e hn
  obtain ⟨cn12, hn⟩ := and_e hn
  obtain ⟨cn13, hn⟩ := and_e hn
  obtain ⟨cn14, hn⟩ := and_e hn
  obtain ⟨cn15, hn⟩ := and_e hn
  obtain ⟨cn16, hn⟩ := and_e hn
  obtain ⟨cn17, hn⟩ := and_e hn
  obtain ⟨cn18, hn⟩ := and_e hn
  obtain ⟨cn19, hn⟩ := and_e hn
  obtain ⟨cn20, hn⟩ := and_e hn
  obtain ⟨cn21, hn⟩ := and_e hn
  obtain ⟨cn22, hn⟩ := and_e hn
  obtain ⟨cn23, hn⟩ := and_e hn
  obtain ⟨cn24, hn⟩ := and_e hn
  obtain ⟨cn25, hn⟩ := and_e hn
  obtain ⟨cn26, hn⟩ := and_e hn
  obtain ⟨cn27, hn⟩ := and_e hn
  obtain ⟨cn28, hn⟩ := and_e hn
  obtain ⟨cn29, hn⟩ := and_e hn
  obtain ⟨cn30, hn⟩ := and_e hn
  obtain ⟨cn31, hn⟩ := and_e hn
  obtain ⟨cn32, hn⟩ := and_e hn
  obtain ⟨cn33, hn⟩ := and_e hn
  obtain ⟨cn34, hn⟩ := and_e hn
  obtain ⟨cn35, hn⟩ := and_e hn
  obtain ⟨cn36, hn⟩ := and_e hn
  obtain ⟨cn37, hn⟩ := and_e hn
  obtain ⟨cn38, hn⟩ := and_e hn
  obtain ⟨cn39, hn⟩ := and_e hn
  obtain ⟨cn40, hn⟩ := and_e hn
  obtain ⟨cn41, hn⟩ := and_e hn
  obtain ⟨cn42, hn⟩ := and_e hn
  obtain ⟨cn43, hn⟩ := and_e hn
  obtain ⟨cn44, hn⟩ := and_e hn
  obtain ⟨cn45, hn⟩ := and_e hn
  obtain ⟨cn46, hn⟩ := and_e hn
  obtain ⟨cn47, hn⟩ := and_e hn
  obtain ⟨cn48, hn⟩ := and_e hn
  obtain ⟨cn49, hn⟩ := and_e hn
  obtain ⟨cn50, hn⟩ := and_e hn
  obtain ⟨cn51, hn⟩ := and_e hn
  obtain ⟨cn52, hn⟩ := and_e hn
  obtain ⟨cn53, hn⟩ := and_e hn
  obtain ⟨cn54, hn⟩ := and_e hn
  obtain ⟨cn55, hn⟩ := and_e hn
  obtain ⟨cn56, hn⟩ := and_e hn
  obtain ⟨cn57, hn⟩ := and_e hn
  obtain ⟨cn58, hn⟩ := and_e hn
  obtain ⟨cn59, hn⟩ := and_e hn
  obtain ⟨cn60, hn⟩ := and_e hn
  obtain ⟨cn61, hn⟩ := and_e hn
  obtain ⟨cn62, hn⟩ := and_e hn
  obtain ⟨cn63, hn⟩ := and_e hn
  obtain ⟨cn64, hn⟩ := and_e hn
  obtain ⟨cn65, hn⟩ := and_e hn
  obtain ⟨cn66, hn⟩ := and_e hn
  obtain ⟨cn67, hn⟩ := and_e hn
  obtain ⟨cn68, hn⟩ := and_e hn
  obtain ⟨cn69, hn⟩ := and_e hn
  obtain ⟨cn70, hn⟩ := and_e hn
  obtain ⟨cn71, hn⟩ := and_e hn
  obtain ⟨cn72, hn⟩ := and_e hn
  obtain ⟨cn73, hn⟩ := and_e hn
  obtain ⟨cn74, hn⟩ := and_e hn
  obtain ⟨cn75, hn⟩ := and_e hn
  obtain ⟨cn76, hn⟩ := and_e hn
  obtain ⟨cn77, hn⟩ := and_e hn
  obtain ⟨cn78, hn⟩ := and_e hn
  obtain ⟨cn79, hn⟩ := and_e hn
  obtain ⟨cn80, hn⟩ := and_e hn
  obtain ⟨cn81, hn⟩ := and_e hn
  obtain ⟨cn82, hn⟩ := and_e hn
  obtain ⟨cn83, hn⟩ := and_e hn
  obtain ⟨cn84, hn⟩ := and_e hn
  obtain ⟨cn85, hn⟩ := and_e hn
  have cn86 := hn
  obtain ⟨w_SUCCESS, ev_SUCCESS⟩ := exa_v cn0
  have S_SUCCESS : Sta s s.heap "com/example/nameward/nameward/epp/ResultCode" "SUCCESS" "Lcom/example/nameward/nameward/epp/ResultCode;" (.ref w_SUCCESS) := Sta.start ev_SUCCESS (Or.inr ⟨(hw _ (List.mem_of_getElem? (i := 3) rfl)), (hw _ (List.mem_of_getElem? (i := 4) rfl))⟩)
  have E_w_SUCCESS : Exa s s.heap w_SUCCESS "com/example/nameward/nameward/epp/ResultCode" := Exa.start ev_SUCCESS cn0
  obtain ⟨w_SUCCESS_ACTION_PENDING, ev_SUCCESS_ACTION_PENDING⟩ := exa_v cn1
  have S_SUCCESS_ACTION_PENDING : Sta s s.heap "com/example/nameward/nameward/epp/ResultCode" "SUCCESS_ACTION_PENDING" "Lcom/example/nameward/nameward/epp/ResultCode;" (.ref w_SUCCESS_ACTION_PENDING) := Sta.start ev_SUCCESS_ACTION_PENDING (Or.inr ⟨(hw _ (List.mem_of_getElem? (i := 3) rfl)), (hw _ (List.mem_of_getElem? (i := 7) rfl))⟩)
  have E_w_SUCCESS_ACTION_PENDING : Exa s s.heap w_SUCCESS_ACTION_PENDING "com/example/nameward/nameward/epp/ResultCode" := Exa.start ev_SUCCESS_ACTION_PENDING cn1
  obtain ⟨w_SUCCESS_NO_MESSAGES, ev_SUCCESS_NO_MESSAGES⟩ := exa_v cn2
  have S_SUCCESS_NO_MESSAGES : Sta s s.heap "com/example/nameward/nameward/epp/ResultCode" "SUCCESS_NO_MESSAGES" "Lcom/example/nameward/nameward/epp/ResultCode;" (.ref w_SUCCESS_NO_MESSAGES) := Sta.start ev_SUCCESS_NO_MESSAGES (Or.inr ⟨(hw _ (List.mem_of_getElem? (i := 3) rfl)), (hw _ (List.mem_of_getElem? (i := 9) rfl))⟩)
  have E_w_SUCCESS_NO_MESSAGES : Exa s s.heap w_SUCCESS_NO_MESSAGES "com/example/nameward/nameward/epp/ResultCode" := Exa.start ev_SUCCESS_NO_MESSAGES cn2
  obtain ⟨w_SUCCESS_ACK_TO_DEQUEUE, ev_SUCCESS_ACK_TO_DEQUEUE⟩ := exa_v cn3
  have S_SUCCESS_ACK_TO_DEQUEUE : Sta s s.heap "com/example/nameward/nameward/epp/ResultCode" "SUCCESS_ACK_TO_DEQUEUE" "Lcom/example/nameward/nameward/epp/ResultCode;" (.ref w_SUCCESS_ACK_TO_DEQUEUE) := Sta.start ev_SUCCESS_ACK_TO_DEQUEUE (Or.inr ⟨(hw _ (List.mem_of_getElem? (i := 3) rfl)), (hw _ (List.mem_of_getElem? (i := 11) rfl))⟩)
  have E_w_SUCCESS_ACK_TO_DEQUEUE : Exa s s.heap w_SUCCESS_ACK_TO_DEQUEUE "com/example/nameward/nameward/epp/ResultCode" := Exa.start ev_SUCCESS_ACK_TO_DEQUEUE cn3
  obtain ⟨w_SUCCESS_ENDING_SESSION, ev_SUCCESS_ENDING_SESSION⟩ := exa_v cn4
  have S_SUCCESS_ENDING_SESSION : Sta s s.heap "com/example/nameward/nameward/epp/ResultCode" "SUCCESS_ENDING_SESSION" "Lcom/example/nameward/nameward/epp/ResultCode;" (.ref w_SUCCESS_ENDING_SESSION) := Sta.start ev_SUCCESS_ENDING_SESSION (Or.inr ⟨(hw _ (List.mem_of_getElem? (i := 3) rfl)), (hw _ (List.mem_of_getElem? (i := 13) rfl))⟩)
  have E_w_SUCCESS_ENDING_SESSION : Exa s s.heap w_SUCCESS_ENDING_SESSION "com/example/nameward/nameward/epp/ResultCode" := Exa.start ev_SUCCESS_ENDING_SESSION cn4
  obtain ⟨w_SYNTAX_ERROR, ev_SYNTAX_ERROR⟩ := exa_v cn5
  have S_SYNTAX_ERROR : Sta s s.heap "com/example/nameward/nameward/epp/ResultCode" "SYNTAX_ERROR" "Lcom/example/nameward/nameward/epp/ResultCode;" (.ref w_SYNTAX_ERROR) := Sta.start ev_SYNTAX_ERROR (Or.inr ⟨(hw _ (List.mem_of_getElem? (i := 3) rfl)), (hw _ (List.mem_of_getElem? (i := 15) rfl))⟩)
  have E_w_SYNTAX_ERROR : Exa s s.heap w_SYNTAX_ERROR "com/example/nameward/nameward/epp/ResultCode" := Exa.start ev_SYNTAX_ERROR cn5
  obtain ⟨w_USE_ERROR, ev_USE_ERROR⟩ := exa_v cn6
  have S_USE_ERROR : Sta s s.heap "com/example/nameward/nameward/epp/ResultCode" "USE_ERROR" "Lcom/example/nameward/nameward/epp/ResultCode;" (.ref w_USE_ERROR) := Sta.start ev_USE_ERROR (Or.inr ⟨(hw _ (List.mem_of_getElem? (i := 3) rfl)), (hw _ (List.mem_of_getElem? (i := 17) rfl))⟩)
  have E_w_USE_ERROR : Exa s s.heap w_USE_ERROR "com/example/nameward/nameward/epp/ResultCode" := Exa.start ev_USE_ERROR cn6
  obtain ⟨w_REQUIRED_PARAMETER_MISSING, ev_REQUIRED_PARAMETER_MISSING⟩ := exa_v cn7
  have S_REQUIRED_PARAMETER_MISSING : Sta s s.heap "com/example/nameward/nameward/epp/ResultCode" "REQUIRED_PARAMETER_MISSING" "Lcom/example/nameward/nameward/epp/ResultCode;" (.ref w_REQUIRED_PARAMETER_MISSING) := Sta.start ev_REQUIRED_PARAMETER_MISSING (Or.inr ⟨(hw _ (List.mem_of_getElem? (i := 3) rfl)), (hw _ (List.mem_of_getElem? (i := 19) rfl))⟩)
  have E_w_REQUIRED_PARAMETER_MISSING : Exa s s.heap w_REQUIRED_PARAMETER_MISSING "com/example/nameward/nameward/epp/ResultCode" := Exa.start ev_REQUIRED_PARAMETER_MISSING cn7
  obtain ⟨w_PARAMETER_VALUE_SYNTAX_ERROR, ev_PARAMETER_VALUE_SYNTAX_ERROR⟩ := exa_v cn8
  have S_PARAMETER_VALUE_SYNTAX_ERROR : Sta s s.heap "com/example/nameward/nameward/epp/ResultCode" "PARAMETER_VALUE_SYNTAX_ERROR" "Lcom/example/nameward/nameward/epp/ResultCode;" (.ref w_PARAMETER_VALUE_SYNTAX_ERROR) := Sta.start ev_PARAMETER_VALUE_SYNTAX_ERROR (Or.inr ⟨(hw _ (List.mem_of_getElem? (i := 3) rfl)), (hw _ (List.mem_of_getElem? (i := 21) rfl))⟩)
  have E_w_PARAMETER_VALUE_SYNTAX_ERROR : Exa s s.heap w_PARAMETER_VALUE_SYNTAX_ERROR "com/example/nameward/nameward/epp/ResultCode" := Exa.start ev_PARAMETER_VALUE_SYNTAX_ERROR cn8
  obtain ⟨w_UNIMPLEMENTED_COMMAND, ev_UNIMPLEMENTED_COMMAND⟩ := exa_v cn9
  have S_UNIMPLEMENTED_COMMAND : Sta s s.heap "com/example/nameward/nameward/epp/ResultCode" "UNIMPLEMENTED_COMMAND" "Lcom/example/nameward/nameward/epp/ResultCode;" (.ref w_UNIMPLEMENTED_COMMAND) := Sta.start ev_UNIMPLEMENTED_COMMAND (Or.inr ⟨(hw _ (List.mem_of_getElem? (i := 3) rfl)), (hw _ (List.mem_of_getElem? (i := 23) rfl))⟩)
  have E_w_UNIMPLEMENTED_COMMAND : Exa s s.heap w_UNIMPLEMENTED_COMMAND "com/example/nameward/nameward/epp/ResultCode" := Exa.start ev_UNIMPLEMENTED_COMMAND cn9
  obtain ⟨w_UNIMPLEMENTED_OPTION, ev_UNIMPLEMENTED_OPTION⟩ := exa_v cn10
  have S_UNIMPLEMENTED_OPTION : Sta s s.heap "com/example/nameward/nameward/epp/ResultCode" "UNIMPLEMENTED_OPTION" "Lcom/example/nameward/nameward/epp/ResultCode;" (.ref w_UNIMPLEMENTED_OPTION) := Sta.start ev_UNIMPLEMENTED_OPTION (Or.inr ⟨(hw _ (List.mem_of_getElem? (i := 3) rfl)), (hw _ (List.mem_of_getElem? (i := 25) rfl))⟩)
  have E_w_UNIMPLEMENTED_OPTION : Exa s s.heap w_UNIMPLEMENTED_OPTION "com/example/nameward/nameward/epp/ResultCode" := Exa.start ev_UNIMPLEMENTED_OPTION cn10
  obtain ⟨w_UNIMPLEMENTED_EXTENSION, ev_UNIMPLEMENTED_EXTENSION⟩ := exa_v cn11
  have S_UNIMPLEMENTED_EXTENSION : Sta s s.heap "com/example/nameward/nameward/epp/ResultCode" "UNIMPLEMENTED_EXTENSION" "Lcom/example/nameward/nameward/epp/ResultCode;" (.ref w_UNIMPLEMENTED_EXTENSION) := Sta.start ev_UNIMPLEMENTED_EXTENSION (Or.inr ⟨(hw _ (List.mem_of_getElem? (i := 3) rfl)), (hw _ (List.mem_of_getElem? (i := 27) rfl))⟩)
  have E_w_UNIMPLEMENTED_EXTENSION : Exa s s.heap w_UNIMPLEMENTED_EXTENSION "com/example/nameward/nameward/epp/ResultCode" := Exa.start ev_UNIMPLEMENTED_EXTENSION cn11
  obtain ⟨w_BILLING_FAILURE, ev_BILLING_FAILURE⟩ := exa_v cn12
  have S_BILLING_FAILURE : Sta s s.heap "com/example/nameward/nameward/epp/ResultCode" "BILLING_FAILURE" "Lcom/example/nameward/nameward/epp/ResultCode;" (.ref w_BILLING_FAILURE) := Sta.start ev_BILLING_FAILURE (Or.inr ⟨(hw _ (List.mem_of_getElem? (i := 3) rfl)), (hw _ (List.mem_of_getElem? (i := 29) rfl))⟩)
  have E_w_BILLING_FAILURE : Exa s s.heap w_BILLING_FAILURE "com/example/nameward/nameward/epp/ResultCode" := Exa.start ev_BILLING_FAILURE cn12
  obtain ⟨w_NOT_ELIGIBLE_FOR_TRANSFER, ev_NOT_ELIGIBLE_FOR_TRANSFER⟩ := exa_v cn13
  have S_NOT_ELIGIBLE_FOR_TRANSFER : Sta s s.heap "com/example/nameward/nameward/epp/ResultCode" "NOT_ELIGIBLE_FOR_TRANSFER" "Lcom/example/nameward/nameward/epp/ResultCode;" (.ref w_NOT_ELIGIBLE_FOR_TRANSFER) := Sta.start ev_NOT_ELIGIBLE_FOR_TRANSFER (Or.inr ⟨(hw _ (List.mem_of_getElem? (i := 3) rfl)), (hw _ (List.mem_of_getElem? (i := 31) rfl))⟩)
  have E_w_NOT_ELIGIBLE_FOR_TRANSFER : Exa s s.heap w_NOT_ELIGIBLE_FOR_TRANSFER "com/example/nameward/nameward/epp/ResultCode" := Exa.start ev_NOT_ELIGIBLE_FOR_TRANSFER cn13
  obtain ⟨w_AUTHENTICATION_ERROR, ev_AUTHENTICATION_ERROR⟩ := exa_v cn14
  have S_AUTHENTICATION_ERROR : Sta s s.heap "com/example/nameward/nameward/epp/ResultCode" "AUTHENTICATION_ERROR" "Lcom/example/nameward/nameward/epp/ResultCode;" (.ref w_AUTHENTICATION_ERROR) := Sta.start ev_AUTHENTICATION_ERROR (Or.inr ⟨(hw _ (List.mem_of_getElem? (i := 3) rfl)), (hw _ (List.mem_of_getElem? (i := 33) rfl))⟩)
  have E_w_AUTHENTICATION_ERROR : Exa s s.heap w_AUTHENTICATION_ERROR "com/example/nameward/nameward/epp/ResultCode" := Exa.start ev_AUTHENTICATION_ERROR cn14
  obtain ⟨w_AUTHORIZATION_ERROR, ev_AUTHORIZATION_ERROR⟩ := exa_v cn15
  have S_AUTHORIZATION_ERROR : Sta s s.heap "com/example/nameward/nameward/epp/ResultCode" "AUTHORIZATION_ERROR" "Lcom/example/nameward/nameward/epp/ResultCode;" (.ref w_AUTHORIZATION_ERROR) := Sta.start ev_AUTHORIZATION_ERROR (Or.inr ⟨(hw _ (List.mem_of_getElem? (i := 3) rfl)), (hw _ (List.mem_of_getElem? (i := 35) rfl))⟩)
  have E_w_AUTHORIZATION_ERROR : Exa s s.heap w_AUTHORIZATION_ERROR "com/example/nameward/nameward/epp/ResultCode" := Exa.start ev_AUTHORIZATION_ERROR cn15
  obtain ⟨w_INVALID_AUTHORIZATION_INFORMATION, ev_INVALID_AUTHORIZATION_INFORMATION⟩ := exa_v cn16
  have S_INVALID_AUTHORIZATION_INFORMATION : Sta s s.heap "com/example/nameward/nameward/epp/ResultCode" "INVALID_AUTHORIZATION_INFORMATION" "Lcom/example/nameward/nameward/epp/ResultCode;" (.ref w_INVALID_AUTHORIZATION_INFORMATION) := Sta.start ev_INVALID_AUTHORIZATION_INFORMATION (Or.inr ⟨(hw _ (List.mem_of_getElem? (i := 3) rfl)), (hw _ (List.mem_of_getElem? (i := 37) rfl))⟩)
  have E_w_INVALID_AUTHORIZATION_INFORMATION : Exa s s.heap w_INVALID_AUTHORIZATION_INFORMATION "com/example/nameward/nameward/epp/ResultCode" := Exa.start ev_INVALID_AUTHORIZATION_INFORMATION cn16
  obtain ⟨w_OBJECT_PENDING_TRANSFER, ev_OBJECT_PENDING_TRANSFER⟩ := exa_v cn17
  have S_OBJECT_PENDING_TRANSFER : Sta s s.heap "com/example/nameward/nameward/epp/ResultCode" "OBJECT_PENDING_TRANSFER" "Lcom/example/nameward/nameward/epp/ResultCode;" (.ref w_OBJECT_PENDING_TRANSFER) := Sta.start ev_OBJECT_PENDING_TRANSFER (Or.inr ⟨(hw _ (List.mem_of_getElem? (i := 3) rfl)), (hw _ (List.mem_of_getElem? (i := 39) rfl))⟩)
  have E_w_OBJECT_PENDING_TRANSFER : Exa s s.heap w_OBJECT_PENDING_TRANSFER "com/example/nameward/nameward/epp/ResultCode" := Exa.start ev_OBJECT_PENDING_TRANSFER cn17
  obtain ⟨w_OBJECT_NOT_PENDING_TRANSFER, ev_OBJECT_NOT_PENDING_TRANSFER⟩ := exa_v cn18
  have S_OBJECT_NOT_PENDING_TRANSFER : Sta s s.heap "com/example/nameward/nameward/epp/ResultCode" "OBJECT_NOT_PENDING_TRANSFER" "Lcom/example/nameward/nameward/epp/ResultCode;" (.ref w_OBJECT_NOT_PENDING_TRANSFER) := Sta.start ev_OBJECT_NOT_PENDING_TRANSFER (Or.inr ⟨(hw _ (List.mem_of_getElem? (i := 3) rfl)), (hw _ (List.mem_of_getElem? (i := 41) rfl))⟩)
  have E_w_OBJECT_NOT_PENDING_TRANSFER : Exa s s.heap w_OBJECT_NOT_PENDING_TRANSFER "com/example/nameward/nameward/epp/ResultCode" := Exa.start ev_OBJECT_NOT_PENDING_TRANSFER cn18
  obtain ⟨w_OBJECT_EXISTS, ev_OBJECT_EXISTS⟩ := exa_v cn19
  have S_OBJECT_EXISTS : Sta s s.heap "com/example/nameward/nameward/epp/ResultCode" "OBJECT_EXISTS" "Lcom/example/nameward/nameward/epp/ResultCode;" (.ref w_OBJECT_EXISTS) := Sta.start ev_OBJECT_EXISTS (Or.inr ⟨(hw _ (List.mem_of_getElem? (i := 3) rfl)), (hw _ (List.mem_of_getElem? (i := 43) rfl))⟩)
  have E_w_OBJECT_EXISTS : Exa s s.heap w_OBJECT_EXISTS "com/example/nameward/nameward/epp/ResultCode" := Exa.start ev_OBJECT_EXISTS cn19
  obtain ⟨w_OBJECT_DOES_NOT_EXIST, ev_OBJECT_DOES_NOT_EXIST⟩ := exa_v cn20
  have S_OBJECT_DOES_NOT_EXIST : Sta s s.heap "com/example/nameward/nameward/epp/ResultCode" "OBJECT_DOES_NOT_EXIST" "Lcom/example/nameward/nameward/epp/ResultCode;" (.ref w_OBJECT_DOES_NOT_EXIST) := Sta.start ev_OBJECT_DOES_NOT_EXIST (Or.inr ⟨(hw _ (List.mem_of_getElem? (i := 3) rfl)), (hw _ (List.mem_of_getElem? (i := 45) rfl))⟩)
  have E_w_OBJECT_DOES_NOT_EXIST : Exa s s.heap w_OBJECT_DOES_NOT_EXIST "com/example/nameward/nameward/epp/ResultCode" := Exa.start ev_OBJECT_DOES_NOT_EXIST cn20
  obtain ⟨w_OBJECT_STATUS_PROHIBITS_OPERATION, ev_OBJECT_STATUS_PROHIBITS_OPERATION⟩ := exa_v cn21
  have S_OBJECT_STATUS_PROHIBITS_OPERATION : Sta s s.heap "com/example/nameward/nameward/epp/ResultCode" "OBJECT_STATUS_PROHIBITS_OPERATION" "Lcom/example/nameward/nameward/epp/ResultCode;" (.ref w_OBJECT_STATUS_PROHIBITS_OPERATION) := Sta.start ev_OBJECT_STATUS_PROHIBITS_OPERATION (Or.inr ⟨(hw _ (List.mem_of_getElem? (i := 3) rfl)), (hw _ (List.mem_of_getElem? (i := 47) rfl))⟩)
  have E_w_OBJECT_STATUS_PROHIBITS_OPERATION : Exa s s.heap w_OBJECT_STATUS_PROHIBITS_OPERATION "com/example/nameward/nameward/epp/ResultCode" := Exa.start ev_OBJECT_STATUS_PROHIBITS_OPERATION cn21
  obtain ⟨w_OBJECT_ASSOCIATION_PROHIBITS_OPERATION, ev_OBJECT_ASSOCIATION_PROHIBITS_OPERATION⟩ := exa_v cn22
  have S_OBJECT_ASSOCIATION_PROHIBITS_OPERATION : Sta s s.heap "com/example/nameward/nameward/epp/ResultCode" "OBJECT_ASSOCIATION_PROHIBITS_OPERATION" "Lcom/example/nameward/nameward/epp/ResultCode;" (.ref w_OBJECT_ASSOCIATION_PROHIBITS_OPERATION) := Sta.start ev_OBJECT_ASSOCIATION_PROHIBITS_OPERATION (Or.inr ⟨(hw _ (List.mem_of_getElem? (i := 3) rfl)), (hw _ (List.mem_of_getElem? (i := 49) rfl))⟩)
  have E_w_OBJECT_ASSOCIATION_PROHIBITS_OPERATION : Exa s s.heap w_OBJECT_ASSOCIATION_PROHIBITS_OPERATION "com/example/nameward/nameward/epp/ResultCode" := Exa.start ev_OBJECT_ASSOCIATION_PROHIBITS_OPERATION cn22
  obtain ⟨w_PARAMETER_VALUE_POLICY_ERROR, ev_PARAMETER_VALUE_POLICY_ERROR⟩ := exa_v cn23
  have S_PARAMETER_VALUE_POLICY_ERROR : Sta s s.heap "com/example/nameward/nameward/epp/ResultCode" "PARAMETER_VALUE_POLICY_ERROR" "Lcom/example/nameward/nameward/epp/ResultCode;" (.ref w_PARAMETER_VALUE_POLICY_ERROR) := Sta.start ev_PARAMETER_VALUE_POLICY_ERROR (Or.inr ⟨(hw _ (List.mem_of_getElem? (i := 3) rfl)), (hw _ (List.mem_of_getElem? (i := 51) rfl))⟩)
  have E_w_PARAMETER_VALUE_POLICY_ERROR : Exa s s.heap w_PARAMETER_VALUE_POLICY_ERROR "com/example/nameward/nameward/epp/ResultCode" := Exa.start ev_PARAMETER_VALUE_POLICY_ERROR cn23
  obtain ⟨w_UNIMPLEMENTED_OBJECT_SERVICE, ev_UNIMPLEMENTED_OBJECT_SERVICE⟩ := exa_v cn24
  have S_UNIMPLEMENTED_OBJECT_SERVICE : Sta s s.heap "com/example/nameward/nameward/epp/ResultCode" "UNIMPLEMENTED_OBJECT_SERVICE" "Lcom/example/nameward/nameward/epp/ResultCode;" (.ref w_UNIMPLEMENTED_OBJECT_SERVICE) := Sta.start ev_UNIMPLEMENTED_OBJECT_SERVICE (Or.inr ⟨(hw _ (List.mem_of_getElem? (i := 3) rfl)), (hw _ (List.mem_of_getElem? (i := 53) rfl))⟩)
  have E_w_UNIMPLEMENTED_OBJECT_SERVICE : Exa s s.heap w_UNIMPLEMENTED_OBJECT_SERVICE "com/example/nameward/nameward/epp/ResultCode" := Exa.start ev_UNIMPLEMENTED_OBJECT_SERVICE cn24
  obtain ⟨w_DATA_MANAGEMENT_POLICY_VIOLATION, ev_DATA_MANAGEMENT_POLICY_VIOLATION⟩ := exa_v cn25
  have S_DATA_MANAGEMENT_POLICY_VIOLATION : Sta s s.heap "com/example/nameward/nameward/epp/ResultCode" "DATA_MANAGEMENT_POLICY_VIOLATION" "Lcom/example/nameward/nameward/epp/ResultCode;" (.ref w_DATA_MANAGEMENT_POLICY_VIOLATION) := Sta.start ev_DATA_MANAGEMENT_POLICY_VIOLATION (Or.inr ⟨(hw _ (List.mem_of_getElem? (i := 3) rfl)), (hw _ (List.mem_of_getElem? (i := 55) rfl))⟩)
  have E_w_DATA_MANAGEMENT_POLICY_VIOLATION : Exa s s.heap w_DATA_MANAGEMENT_POLICY_VIOLATION "com/example/nameward/nameward/epp/ResultCode" := Exa.start ev_DATA_MANAGEMENT_POLICY_VIOLATION cn25
  obtain ⟨w_COMMAND_FAILED, ev_COMMAND_FAILED⟩ := exa_v cn26
  have S_COMMAND_FAILED : Sta s s.heap "com/example/nameward/nameward/epp/ResultCode" "COMMAND_FAILED" "Lcom/example/nameward/nameward/epp/ResultCode;" (.ref w_COMMAND_FAILED) := Sta.start ev_COMMAND_FAILED (Or.inr ⟨(hw _ (List.mem_of_getElem? (i := 3) rfl)), (hw _ (List.mem_of_getElem? (i := 57) rfl))⟩)
  have E_w_COMMAND_FAILED : Exa s s.heap w_COMMAND_FAILED "com/example/nameward/nameward/epp/ResultCode" := Exa.start ev_COMMAND_FAILED cn26
  obtain ⟨w_AUTHENTICATION_ERROR_CLOSING, ev_AUTHENTICATION_ERROR_CLOSING⟩ := exa_v cn27
  have S_AUTHENTICATION_ERROR_CLOSING : Sta s s.heap "com/example/nameward/nameward/epp/ResultCode" "AUTHENTICATION_ERROR_CLOSING" "Lcom/example/nameward/nameward/epp/ResultCode;" (.ref w_AUTHENTICATION_ERROR_CLOSING) := Sta.start ev_AUTHENTICATION_ERROR_CLOSING (Or.inr ⟨(hw _ (List.mem_of_getElem? (i := 3) rfl)), (hw _ (List.mem_of_getElem? (i := 59) rfl))⟩)
  have E_w_AUTHENTICATION_ERROR_CLOSING : Exa s s.heap w_AUTHENTICATION_ERROR_CLOSING "com/example/nameward/nameward/epp/ResultCode" := Exa.start ev_AUTHENTICATION_ERROR_CLOSING cn27
  obtain ⟨w_SESSION_LIMIT_EXCEEDED, ev_SESSION_LIMIT_EXCEEDED⟩ := exa_v cn28
  have S_SESSION_LIMIT_EXCEEDED : Sta s s.heap "com/example/nameward/nameward/epp/ResultCode" "SESSION_LIMIT_EXCEEDED" "Lcom/example/nameward/nameward/epp/ResultCode;" (.ref w_SESSION_LIMIT_EXCEEDED) := Sta.start ev_SESSION_LIMIT_EXCEEDED (Or.inr ⟨(hw _ (List.mem_of_getElem? (i := 3) rfl)), (hw _ (List.mem_of_getElem? (i := 61) rfl))⟩)
  have E_w_SESSION_LIMIT_EXCEEDED : Exa s s.heap w_SESSION_LIMIT_EXCEEDED "com/example/nameward/nameward/epp/ResultCode" := Exa.start ev_SESSION_LIMIT_EXCEEDED cn28
  have q_SUCCESS := (fld_at ev_SUCCESS).symm.trans (own_eqv cn29)
  have o_SUCCESS := own_ordv q_SUCCESS
  have q_SUCCESS_ENDING_SESSION := (fld_at ev_SUCCESS_ENDING_SESSION).symm.trans (own_eqv cn30)
  have o_SUCCESS_ENDING_SESSION := own_ordv q_SUCCESS_ENDING_SESSION
  have q_SUCCESS_ACK_TO_DEQUEUE := (fld_at ev_SUCCESS_ACK_TO_DEQUEUE).symm.trans (own_eqv cn32)
  have o_SUCCESS_ACK_TO_DEQUEUE := own_ordv q_SUCCESS_ACK_TO_DEQUEUE
  have q_PARAMETER_VALUE_POLICY_ERROR := (fld_at ev_PARAMETER_VALUE_POLICY_ERROR).symm.trans (own_eqv cn34)
  have o_PARAMETER_VALUE_POLICY_ERROR := own_ordv q_PARAMETER_VALUE_POLICY_ERROR
  have q_OBJECT_DOES_NOT_EXIST := (fld_at ev_OBJECT_DOES_NOT_EXIST).symm.trans (own_eqv cn36)
  have o_OBJECT_DOES_NOT_EXIST := own_ordv q_OBJECT_DOES_NOT_EXIST
  have q_INVALID_AUTHORIZATION_INFORMATION := (fld_at ev_INVALID_AUTHORIZATION_INFORMATION).symm.trans (own_eqv cn38)
  have o_INVALID_AUTHORIZATION_INFORMATION := own_ordv q_INVALID_AUTHORIZATION_INFORMATION
  have q_REQUIRED_PARAMETER_MISSING := (fld_at ev_REQUIRED_PARAMETER_MISSING).symm.trans (own_eqv cn40)
  have o_REQUIRED_PARAMETER_MISSING := own_ordv q_REQUIRED_PARAMETER_MISSING
  have q_SUCCESS_NO_MESSAGES := (fld_at ev_SUCCESS_NO_MESSAGES).symm.trans (own_eqv cn42)
  have o_SUCCESS_NO_MESSAGES := own_ordv q_SUCCESS_NO_MESSAGES
  have q_UNIMPLEMENTED_EXTENSION := (fld_at ev_UNIMPLEMENTED_EXTENSION).symm.trans (own_eqv cn44)
  have o_UNIMPLEMENTED_EXTENSION := own_ordv q_UNIMPLEMENTED_EXTENSION
  have q_AUTHENTICATION_ERROR_CLOSING := (fld_at ev_AUTHENTICATION_ERROR_CLOSING).symm.trans (own_eqv cn46)
  have o_AUTHENTICATION_ERROR_CLOSING := own_ordv q_AUTHENTICATION_ERROR_CLOSING
  have q_PARAMETER_VALUE_SYNTAX_ERROR := (fld_at ev_PARAMETER_VALUE_SYNTAX_ERROR).symm.trans (own_eqv cn48)
  have o_PARAMETER_VALUE_SYNTAX_ERROR := own_ordv q_PARAMETER_VALUE_SYNTAX_ERROR
  have q_SUCCESS_ACTION_PENDING := (fld_at ev_SUCCESS_ACTION_PENDING).symm.trans (own_eqv cn50)
  have o_SUCCESS_ACTION_PENDING := own_ordv q_SUCCESS_ACTION_PENDING
  have q_SESSION_LIMIT_EXCEEDED := (fld_at ev_SESSION_LIMIT_EXCEEDED).symm.trans (own_eqv cn52)
  have o_SESSION_LIMIT_EXCEEDED := own_ordv q_SESSION_LIMIT_EXCEEDED
  have q_DATA_MANAGEMENT_POLICY_VIOLATION := (fld_at ev_DATA_MANAGEMENT_POLICY_VIOLATION).symm.trans (own_eqv cn54)
  have o_DATA_MANAGEMENT_POLICY_VIOLATION := own_ordv q_DATA_MANAGEMENT_POLICY_VIOLATION
  have q_UNIMPLEMENTED_OPTION := (fld_at ev_UNIMPLEMENTED_OPTION).symm.trans (own_eqv cn56)
  have o_UNIMPLEMENTED_OPTION := own_ordv q_UNIMPLEMENTED_OPTION
  have q_UNIMPLEMENTED_OBJECT_SERVICE := (fld_at ev_UNIMPLEMENTED_OBJECT_SERVICE).symm.trans (own_eqv cn58)
  have o_UNIMPLEMENTED_OBJECT_SERVICE := own_ordv q_UNIMPLEMENTED_OBJECT_SERVICE
  have q_OBJECT_EXISTS := (fld_at ev_OBJECT_EXISTS).symm.trans (own_eqv cn60)
  have o_OBJECT_EXISTS := own_ordv q_OBJECT_EXISTS
  have q_AUTHORIZATION_ERROR := (fld_at ev_AUTHORIZATION_ERROR).symm.trans (own_eqv cn62)
  have o_AUTHORIZATION_ERROR := own_ordv q_AUTHORIZATION_ERROR
  have q_SYNTAX_ERROR := (fld_at ev_SYNTAX_ERROR).symm.trans (own_eqv cn64)
  have o_SYNTAX_ERROR := own_ordv q_SYNTAX_ERROR
  have q_AUTHENTICATION_ERROR := (fld_at ev_AUTHENTICATION_ERROR).symm.trans (own_eqv cn66)
  have o_AUTHENTICATION_ERROR := own_ordv q_AUTHENTICATION_ERROR
  have q_OBJECT_NOT_PENDING_TRANSFER := (fld_at ev_OBJECT_NOT_PENDING_TRANSFER).symm.trans (own_eqv cn68)
  have o_OBJECT_NOT_PENDING_TRANSFER := own_ordv q_OBJECT_NOT_PENDING_TRANSFER
  have q_OBJECT_ASSOCIATION_PROHIBITS_OPERATION := (fld_at ev_OBJECT_ASSOCIATION_PROHIBITS_OPERATION).symm.trans (own_eqv cn70)
  have o_OBJECT_ASSOCIATION_PROHIBITS_OPERATION := own_ordv q_OBJECT_ASSOCIATION_PROHIBITS_OPERATION
  have q_USE_ERROR := (fld_at ev_USE_ERROR).symm.trans (own_eqv cn72)
  have o_USE_ERROR := own_ordv q_USE_ERROR
  have q_UNIMPLEMENTED_COMMAND := (fld_at ev_UNIMPLEMENTED_COMMAND).symm.trans (own_eqv cn74)
  have o_UNIMPLEMENTED_COMMAND := own_ordv q_UNIMPLEMENTED_COMMAND
  have q_BILLING_FAILURE := (fld_at ev_BILLING_FAILURE).symm.trans (own_eqv cn76)
  have o_BILLING_FAILURE := own_ordv q_BILLING_FAILURE
  have q_OBJECT_PENDING_TRANSFER := (fld_at ev_OBJECT_PENDING_TRANSFER).symm.trans (own_eqv cn78)
  have o_OBJECT_PENDING_TRANSFER := own_ordv q_OBJECT_PENDING_TRANSFER
  have q_NOT_ELIGIBLE_FOR_TRANSFER := (fld_at ev_NOT_ELIGIBLE_FOR_TRANSFER).symm.trans (own_eqv cn80)
  have o_NOT_ELIGIBLE_FOR_TRANSFER := own_ordv q_NOT_ELIGIBLE_FOR_TRANSFER
  have q_OBJECT_STATUS_PROHIBITS_OPERATION := (fld_at ev_OBJECT_STATUS_PROHIBITS_OPERATION).symm.trans (own_eqv cn82)
  have o_OBJECT_STATUS_PROHIBITS_OPERATION := own_ordv q_OBJECT_STATUS_PROHIBITS_OPERATION
  have q_COMMAND_FAILED := (fld_at ev_COMMAND_FAILED).symm.trans (own_eqv cn84)
  have o_COMMAND_FAILED := own_ordv q_COMMAND_FAILED
  have EX : ∀ a ∈ [w_SUCCESS, w_SUCCESS_ACTION_PENDING, w_SUCCESS_NO_MESSAGES, w_SUCCESS_ACK_TO_DEQUEUE, w_SUCCESS_ENDING_SESSION, w_SYNTAX_ERROR, w_USE_ERROR, w_REQUIRED_PARAMETER_MISSING, w_PARAMETER_VALUE_SYNTAX_ERROR, w_UNIMPLEMENTED_COMMAND, w_UNIMPLEMENTED_OPTION, w_UNIMPLEMENTED_EXTENSION, w_BILLING_FAILURE, w_NOT_ELIGIBLE_FOR_TRANSFER, w_AUTHENTICATION_ERROR, w_AUTHORIZATION_ERROR, w_INVALID_AUTHORIZATION_INFORMATION, w_OBJECT_PENDING_TRANSFER, w_OBJECT_NOT_PENDING_TRANSFER, w_OBJECT_EXISTS, w_OBJECT_DOES_NOT_EXIST, w_OBJECT_STATUS_PROHIBITS_OPERATION, w_OBJECT_ASSOCIATION_PROHIBITS_OPERATION, w_PARAMETER_VALUE_POLICY_ERROR, w_UNIMPLEMENTED_OBJECT_SERVICE, w_DATA_MANAGEMENT_POLICY_VIOLATION, w_COMMAND_FAILED, w_AUTHENTICATION_ERROR_CLOSING, w_SESSION_LIMIT_EXCEEDED], Exa s s.heap a "com/example/nameward/nameward/epp/ResultCode" := (allS E_w_SUCCESS (allS E_w_SUCCESS_ACTION_PENDING (allS E_w_SUCCESS_NO_MESSAGES (allS E_w_SUCCESS_ACK_TO_DEQUEUE (allS E_w_SUCCESS_ENDING_SESSION (allS E_w_SYNTAX_ERROR (allS E_w_USE_ERROR (allS E_w_REQUIRED_PARAMETER_MISSING (allS E_w_PARAMETER_VALUE_SYNTAX_ERROR (allS E_w_UNIMPLEMENTED_COMMAND (allS E_w_UNIMPLEMENTED_OPTION (allS E_w_UNIMPLEMENTED_EXTENSION (allS E_w_BILLING_FAILURE (allS E_w_NOT_ELIGIBLE_FOR_TRANSFER (allS E_w_AUTHENTICATION_ERROR (allS E_w_AUTHORIZATION_ERROR (allS E_w_INVALID_AUTHORIZATION_INFORMATION (allS E_w_OBJECT_PENDING_TRANSFER (allS E_w_OBJECT_NOT_PENDING_TRANSFER (allS E_w_OBJECT_EXISTS (allS E_w_OBJECT_DOES_NOT_EXIST (allS E_w_OBJECT_STATUS_PROHIBITS_OPERATION (allS E_w_OBJECT_ASSOCIATION_PROHIBITS_OPERATION (allS E_w_PARAMETER_VALUE_POLICY_ERROR (allS E_w_UNIMPLEMENTED_OBJECT_SERVICE (allS E_w_DATA_MANAGEMENT_POLICY_VIOLATION (allS E_w_COMMAND_FAILED (allS E_w_AUTHENTICATION_ERROR_CLOSING (allS E_w_SESSION_LIMIT_EXCEEDED all0)))))))))))))))))))))))))))))
  have FC_SUCCESS := Fld.start ((fld_at ev_SUCCESS).symm.trans (own_eqv cn31))
  have FC_SUCCESS_ACTION_PENDING := Fld.start ((fld_at ev_SUCCESS_ACTION_PENDING).symm.trans (own_eqv cn51))
  have FC_SUCCESS_NO_MESSAGES := Fld.start ((fld_at ev_SUCCESS_NO_MESSAGES).symm.trans (own_eqv cn43))
  have FC_SUCCESS_ACK_TO_DEQUEUE := Fld.start ((fld_at ev_SUCCESS_ACK_TO_DEQUEUE).symm.trans (own_eqv cn33))
  have FC_SUCCESS_ENDING_SESSION := Fld.start ((fld_at ev_SUCCESS_ENDING_SESSION).symm.trans (own_eqv cn86))
  have FC_SYNTAX_ERROR := Fld.start ((fld_at ev_SYNTAX_ERROR).symm.trans (own_eqv cn65))
  have FC_USE_ERROR := Fld.start ((fld_at ev_USE_ERROR).symm.trans (own_eqv cn73))
  have FC_REQUIRED_PARAMETER_MISSING := Fld.start ((fld_at ev_REQUIRED_PARAMETER_MISSING).symm.trans (own_eqv cn41))
  have FC_PARAMETER_VALUE_SYNTAX_ERROR := Fld.start ((fld_at ev_PARAMETER_VALUE_SYNTAX_ERROR).symm.trans (own_eqv cn49))
  have FC_UNIMPLEMENTED_COMMAND := Fld.start ((fld_at ev_UNIMPLEMENTED_COMMAND).symm.trans (own_eqv cn75))
  have FC_UNIMPLEMENTED_OPTION := Fld.start ((fld_at ev_UNIMPLEMENTED_OPTION).symm.trans (own_eqv cn57))
  have FC_UNIMPLEMENTED_EXTENSION := Fld.start ((fld_at ev_UNIMPLEMENTED_EXTENSION).symm.trans (own_eqv cn45))
  have FC_BILLING_FAILURE := Fld.start ((fld_at ev_BILLING_FAILURE).symm.trans (own_eqv cn77))
  have FC_NOT_ELIGIBLE_FOR_TRANSFER := Fld.start ((fld_at ev_NOT_ELIGIBLE_FOR_TRANSFER).symm.trans (own_eqv cn81))
  have FC_AUTHENTICATION_ERROR := Fld.start ((fld_at ev_AUTHENTICATION_ERROR).symm.trans (own_eqv cn67))
  have FC_AUTHORIZATION_ERROR := Fld.start ((fld_at ev_AUTHORIZATION_ERROR).symm.trans (own_eqv cn63))
  have FC_INVALID_AUTHORIZATION_INFORMATION := Fld.start ((fld_at ev_INVALID_AUTHORIZATION_INFORMATION).symm.trans (own_eqv cn39))
  have FC_OBJECT_PENDING_TRANSFER := Fld.start ((fld_at ev_OBJECT_PENDING_TRANSFER).symm.trans (own_eqv cn79))
  have FC_OBJECT_NOT_PENDING_TRANSFER := Fld.start ((fld_at ev_OBJECT_NOT_PENDING_TRANSFER).symm.trans (own_eqv cn69))
  have FC_OBJECT_EXISTS := Fld.start ((fld_at ev_OBJECT_EXISTS).symm.trans (own_eqv cn61))
  have FC_OBJECT_DOES_NOT_EXIST := Fld.start ((fld_at ev_OBJECT_DOES_NOT_EXIST).symm.trans (own_eqv cn37))
  have FC_OBJECT_STATUS_PROHIBITS_OPERATION := Fld.start ((fld_at ev_OBJECT_STATUS_PROHIBITS_OPERATION).symm.trans (own_eqv cn83))
  have FC_OBJECT_ASSOCIATION_PROHIBITS_OPERATION := Fld.start ((fld_at ev_OBJECT_ASSOCIATION_PROHIBITS_OPERATION).symm.trans (own_eqv cn71))
  have FC_PARAMETER_VALUE_POLICY_ERROR := Fld.start ((fld_at ev_PARAMETER_VALUE_POLICY_ERROR).symm.trans (own_eqv cn35))
  have FC_UNIMPLEMENTED_OBJECT_SERVICE := Fld.start ((fld_at ev_UNIMPLEMENTED_OBJECT_SERVICE).symm.trans (own_eqv cn59))
  have FC_DATA_MANAGEMENT_POLICY_VIOLATION := Fld.start ((fld_at ev_DATA_MANAGEMENT_POLICY_VIOLATION).symm.trans (own_eqv cn55))
  have FC_COMMAND_FAILED := Fld.start ((fld_at ev_COMMAND_FAILED).symm.trans (own_eqv cn85))
  have FC_AUTHENTICATION_ERROR_CLOSING := Fld.start ((fld_at ev_AUTHENTICATION_ERROR_CLOSING).symm.trans (own_eqv cn47))
  have FC_SESSION_LIMIT_EXCEEDED := Fld.start ((fld_at ev_SESSION_LIMIT_EXCEEDED).symm.trans (own_eqv cn53))
  have FX : ∀ n, n < 29 → Fld s s.heap ([w_SUCCESS, w_SUCCESS_ACTION_PENDING, w_SUCCESS_NO_MESSAGES, w_SUCCESS_ACK_TO_DEQUEUE, w_SUCCESS_ENDING_SESSION, w_SYNTAX_ERROR, w_USE_ERROR, w_REQUIRED_PARAMETER_MISSING, w_PARAMETER_VALUE_SYNTAX_ERROR, w_UNIMPLEMENTED_COMMAND, w_UNIMPLEMENTED_OPTION, w_UNIMPLEMENTED_EXTENSION, w_BILLING_FAILURE, w_NOT_ELIGIBLE_FOR_TRANSFER, w_AUTHENTICATION_ERROR, w_AUTHORIZATION_ERROR, w_INVALID_AUTHORIZATION_INFORMATION, w_OBJECT_PENDING_TRANSFER, w_OBJECT_NOT_PENDING_TRANSFER, w_OBJECT_EXISTS, w_OBJECT_DOES_NOT_EXIST, w_OBJECT_STATUS_PROHIBITS_OPERATION, w_OBJECT_ASSOCIATION_PROHIBITS_OPERATION, w_PARAMETER_VALUE_POLICY_ERROR, w_UNIMPLEMENTED_OBJECT_SERVICE, w_DATA_MANAGEMENT_POLICY_VIOLATION, w_COMMAND_FAILED, w_AUTHENTICATION_ERROR_CLOSING, w_SESSION_LIMIT_EXCEEDED].getD n 0) "com/example/nameward/nameward/epp/ResultCode" "code" "I" (.int ([(1000 : Int32), (1001 : Int32), (1300 : Int32), (1301 : Int32), (1500 : Int32), (2001 : Int32), (2002 : Int32), (2003 : Int32), (2005 : Int32), (2101 : Int32), (2102 : Int32), (2103 : Int32), (2104 : Int32), (2106 : Int32), (2200 : Int32), (2201 : Int32), (2202 : Int32), (2300 : Int32), (2301 : Int32), (2302 : Int32), (2303 : Int32), (2304 : Int32), (2305 : Int32), (2306 : Int32), (2307 : Int32), (2308 : Int32), (2400 : Int32), (2501 : Int32), (2502 : Int32)].getD n 0)) := by
    intro n hn
    have hc : n = 0 ∨ n = 1 ∨ n = 2 ∨ n = 3 ∨ n = 4 ∨ n = 5 ∨ n = 6 ∨ n = 7 ∨ n = 8 ∨ n = 9 ∨ n = 10 ∨ n = 11 ∨ n = 12 ∨ n = 13 ∨ n = 14 ∨ n = 15 ∨ n = 16 ∨ n = 17 ∨ n = 18 ∨ n = 19 ∨ n = 20 ∨ n = 21 ∨ n = 22 ∨ n = 23 ∨ n = 24 ∨ n = 25 ∨ n = 26 ∨ n = 27 ∨ n = 28 := by omega
    rcases hc with rfl | rfl | rfl | rfl | rfl | rfl | rfl | rfl | rfl | rfl | rfl | rfl | rfl | rfl | rfl | rfl | rfl | rfl | rfl | rfl | rfl | rfl | rfl | rfl | rfl | rfl | rfl | rfl | rfl
    · exact FC_SUCCESS
    · exact FC_SUCCESS_ACTION_PENDING
    · exact FC_SUCCESS_NO_MESSAGES
    · exact FC_SUCCESS_ACK_TO_DEQUEUE
    · exact FC_SUCCESS_ENDING_SESSION
    · exact FC_SYNTAX_ERROR
    · exact FC_USE_ERROR
    · exact FC_REQUIRED_PARAMETER_MISSING
    · exact FC_PARAMETER_VALUE_SYNTAX_ERROR
    · exact FC_UNIMPLEMENTED_COMMAND
    · exact FC_UNIMPLEMENTED_OPTION
    · exact FC_UNIMPLEMENTED_EXTENSION
    · exact FC_BILLING_FAILURE
    · exact FC_NOT_ELIGIBLE_FOR_TRANSFER
    · exact FC_AUTHENTICATION_ERROR
    · exact FC_AUTHORIZATION_ERROR
    · exact FC_INVALID_AUTHORIZATION_INFORMATION
    · exact FC_OBJECT_PENDING_TRANSFER
    · exact FC_OBJECT_NOT_PENDING_TRANSFER
    · exact FC_OBJECT_EXISTS
    · exact FC_OBJECT_DOES_NOT_EXIST
    · exact FC_OBJECT_STATUS_PROHIBITS_OPERATION
    · exact FC_OBJECT_ASSOCIATION_PROHIBITS_OPERATION
    · exact FC_PARAMETER_VALUE_POLICY_ERROR
    · exact FC_UNIMPLEMENTED_OBJECT_SERVICE
    · exact FC_DATA_MANAGEMENT_POLICY_VIOLATION
    · exact FC_COMMAND_FAILED
    · exact FC_AUTHENTICATION_ERROR_CLOSING
    · exact FC_SESSION_LIMIT_EXCEEDED
  obtain ⟨n, o, h1, h2, h3, _, L, rfl, ⟨rfl, N⟩, hq⟩ := rm0 l s _ hw tables_1 i0 w_SUCCESS w_SUCCESS_ACTION_PENDING w_SUCCESS_NO_MESSAGES w_SUCCESS_ACK_TO_DEQUEUE w_SUCCESS_ENDING_SESSION w_SYNTAX_ERROR w_USE_ERROR w_REQUIRED_PARAMETER_MISSING w_PARAMETER_VALUE_SYNTAX_ERROR w_UNIMPLEMENTED_COMMAND w_UNIMPLEMENTED_OPTION w_UNIMPLEMENTED_EXTENSION w_BILLING_FAILURE w_NOT_ELIGIBLE_FOR_TRANSFER w_AUTHENTICATION_ERROR w_AUTHORIZATION_ERROR w_INVALID_AUTHORIZATION_INFORMATION w_OBJECT_PENDING_TRANSFER w_OBJECT_NOT_PENDING_TRANSFER w_OBJECT_EXISTS w_OBJECT_DOES_NOT_EXIST w_OBJECT_STATUS_PROHIBITS_OPERATION w_OBJECT_ASSOCIATION_PROHIBITS_OPERATION w_PARAMETER_VALUE_POLICY_ERROR w_UNIMPLEMENTED_OBJECT_SERVICE w_DATA_MANAGEMENT_POLICY_VIOLATION w_COMMAND_FAILED w_AUTHENTICATION_ERROR_CLOSING w_SESSION_LIMIT_EXCEEDED s.heap s.heap.size (Nat.le_refl _) S_SUCCESS S_SUCCESS_ACTION_PENDING S_SUCCESS_NO_MESSAGES S_SUCCESS_ACK_TO_DEQUEUE S_SUCCESS_ENDING_SESSION S_SYNTAX_ERROR S_USE_ERROR S_REQUIRED_PARAMETER_MISSING S_PARAMETER_VALUE_SYNTAX_ERROR S_UNIMPLEMENTED_COMMAND S_UNIMPLEMENTED_OPTION S_UNIMPLEMENTED_EXTENSION S_BILLING_FAILURE S_NOT_ELIGIBLE_FOR_TRANSFER S_AUTHENTICATION_ERROR S_AUTHORIZATION_ERROR S_INVALID_AUTHORIZATION_INFORMATION S_OBJECT_PENDING_TRANSFER S_OBJECT_NOT_PENDING_TRANSFER S_OBJECT_EXISTS S_OBJECT_DOES_NOT_EXIST S_OBJECT_STATUS_PROHIBITS_OPERATION S_OBJECT_ASSOCIATION_PROHIBITS_OPERATION S_PARAMETER_VALUE_POLICY_ERROR S_UNIMPLEMENTED_OBJECT_SERVICE S_DATA_MANAGEMENT_POLICY_VIOLATION S_COMMAND_FAILED S_AUTHENTICATION_ERROR_CLOSING S_SESSION_LIMIT_EXCEEDED E_w_SUCCESS E_w_SUCCESS_ACTION_PENDING E_w_SUCCESS_NO_MESSAGES E_w_SUCCESS_ACK_TO_DEQUEUE E_w_SUCCESS_ENDING_SESSION E_w_SYNTAX_ERROR E_w_USE_ERROR E_w_REQUIRED_PARAMETER_MISSING E_w_PARAMETER_VALUE_SYNTAX_ERROR E_w_UNIMPLEMENTED_COMMAND E_w_UNIMPLEMENTED_OPTION E_w_UNIMPLEMENTED_EXTENSION E_w_BILLING_FAILURE E_w_NOT_ELIGIBLE_FOR_TRANSFER E_w_AUTHENTICATION_ERROR E_w_AUTHORIZATION_ERROR E_w_INVALID_AUTHORIZATION_INFORMATION E_w_OBJECT_PENDING_TRANSFER E_w_OBJECT_NOT_PENDING_TRANSFER E_w_OBJECT_EXISTS E_w_OBJECT_DOES_NOT_EXIST E_w_OBJECT_STATUS_PROHIBITS_OPERATION E_w_OBJECT_ASSOCIATION_PROHIBITS_OPERATION E_w_PARAMETER_VALUE_POLICY_ERROR E_w_UNIMPLEMENTED_OBJECT_SERVICE E_w_DATA_MANAGEMENT_POLICY_VIOLATION E_w_COMMAND_FAILED E_w_AUTHENTICATION_ERROR_CLOSING E_w_SESSION_LIMIT_EXCEEDED EX FX (Old.start s) o_SUCCESS o_SUCCESS_ACTION_PENDING o_SUCCESS_NO_MESSAGES o_SUCCESS_ACK_TO_DEQUEUE o_SUCCESS_ENDING_SESSION o_SYNTAX_ERROR o_USE_ERROR o_REQUIRED_PARAMETER_MISSING o_PARAMETER_VALUE_SYNTAX_ERROR o_UNIMPLEMENTED_COMMAND o_UNIMPLEMENTED_OPTION o_UNIMPLEMENTED_EXTENSION o_BILLING_FAILURE o_NOT_ELIGIBLE_FOR_TRANSFER o_AUTHENTICATION_ERROR o_AUTHORIZATION_ERROR o_INVALID_AUTHORIZATION_INFORMATION o_OBJECT_PENDING_TRANSFER o_OBJECT_NOT_PENDING_TRANSFER o_OBJECT_EXISTS o_OBJECT_DOES_NOT_EXIST o_OBJECT_STATUS_PROHIBITS_OPERATION o_OBJECT_ASSOCIATION_PROHIBITS_OPERATION o_PARAMETER_VALUE_POLICY_ERROR o_UNIMPLEMENTED_OBJECT_SERVICE o_DATA_MANAGEMENT_POLICY_VIOLATION o_COMMAND_FAILED o_AUTHENTICATION_ERROR_CLOSING o_SESSION_LIMIT_EXCEEDED p e ha hc hk s m _ below hf ((Spec.applies_iff_loose hf).mp happ).1 ⟨rfl, State.Warmed39.refl s, rfl⟩ trivial
  refine ⟨n, _, h1, h2, h3, hpost _ _ _ _ _ _ ⟨Cond.after_iff.mpr rfl, Cond.after_iff.mpr (eq_i res_at (Term.int_eval (1)) rfl), trivial⟩ ⟨hq.1, hq.2.1, (hq.2.2.sift fun y hy => Or.inr (N y hy)).mono (by decide) (by decide)⟩⟩
theorem main_1_1 : Claimed_1_1 := comes_1 fun _ _ _ _ _ _ h hF => ⟨h.1, hF⟩
theorem main_1_2 : Claimed_1_2 := comes_1 fun _ _ _ _ _ _ h hF => ⟨h.2.1, hF⟩
end Jvm.Pilot.@@N@@
namespace Jvm.Pilot.@@N@@
open Jvm Jvm.ClassFile Sem Op Lib Jvm.Free Jvm.Stand Jvm.Pilot.@@N@@.Jvm.D
/-! MADE BY PROGRAM (witnessworld.py) out of the Statement's table words and the real class files: 13 classes; the members and pool entries that the words name. The judged class is class 1, her method 1. -/
namespace start1
open Jvm.ClassFile
def u (s : String) : CpInfo := .utf8 (stringToUtf16 s)
/-- a pool by its gaps: so many unusable entries, then the entry; so many at the end -/
def gap : Nat → List CpInfo → List CpInfo
  | 0, r => r
  | n + 1, r => .unusable :: gap n r
def poolList (es : List (Nat × CpInfo)) (last : Nat) : List CpInfo := es.foldr (fun e r => gap e.1 (e.2 :: r)) (gap last [])
def pool (es : List (Nat × CpInfo)) (last : Nat) : Array CpInfo := ⟨poolList es last⟩
def fileOf (pool : Array CpInfo) (this : Nat) (attrs : Array Attribute := #[]) (ms : Array MethodInfo := #[]) (fl : Nat := 33) (sup : Nat := 0) (ifs : Array Nat := #[]) (fds : Array FieldInfo := #[]) : ClassFile where
  minorVersion := 0
  majorVersion := 65
  constantPool := pool
  accessFlags := fl
  thisClass := this
  superClass := sup
  interfaces := ifs
  fields := fds
  methods := ms
  attributes := attrs
def plain (name : String) (sup : Option ClassId) : Class where
  name := name
  kind := .ordinary
  loader := none
  accessFlags := 33
  super := sup
  interfaces := #[]
  cf := none
  fields := #[]
  methods := #[]
  instanceTypes := #[]
  staticTypes := #[]
  resolved := #[]
  callSites := []
  init := .initialized
  statics := none
  mirror := none

def pool0 : Array CpInfo := pool [(5, u "<init>"), (0, u "()V"), (1, .class_ 10), (1, u "java/lang/Object")] 113

def k0m0 : Method := { name := "<init>", desc := "()V", sig := { parameters := [], returnType := none }, accessFlags := 1, code := none }
/-- java/lang/Object -/
def k0 : Class := { plain "java/lang/Object" none with
  accessFlags := 33
  interfaces := #[]
  cf := some (fileOf pool0 8 #[] #[{ accessFlags := 1, nameIndex := 5, descriptorIndex := 6, attributes := #[] }] 33 0 #[] #[])
  fields := #[]
  methods := #[k0m0]
  instanceTypes := #[]
  staticTypes := #[]
  resolved := Array.replicate 124 none
  statics := none }

def pool1 : Array CpInfo := pool [(2, .class_ 4), (1, u "java/lang/Object"), (0, u "<init>"), (0, u "()V"), (0, .class_ 8), (0, u "com/example/nameward/nameward/epp/ResultCode"), (0, .fieldref 7 10), (0, .nameAndType 11 12), (0, u "SUCCESS"), (0, u "Lcom/example/nameward/nameward/epp/ResultCode;"), (0, .fieldref 7 14), (0, .nameAndType 15 12), (0, u "SUCCESS_ACTION_PENDING"), (0, .fieldref 7 17), (0, .nameAndType 18 12), (0, u "SUCCESS_NO_MESSAGES"), (0, .fieldref 7 20), (0, .nameAndType 21 12), (0, u "SUCCESS_ACK_TO_DEQUEUE"), (0, .fieldref 7 23), (0, .nameAndType 24 12), (0, u "SUCCESS_ENDING_SESSION"), (0, .fieldref 7 26), (0, .nameAndType 27 12), (0, u "SYNTAX_ERROR"), (0, .fieldref 7 29), (0, .nameAndType 30 12), (0, u "USE_ERROR"), (0, .fieldref 7 32), (0, .nameAndType 33 12), (0, u "REQUIRED_PARAMETER_MISSING"), (0, .fieldref 7 35), (0, .nameAndType 36 12), (0, u "PARAMETER_VALUE_SYNTAX_ERROR"), (0, .fieldref 7 38), (0, .nameAndType 39 12), (0, u "UNIMPLEMENTED_COMMAND"), (0, .fieldref 7 41), (0, .nameAndType 42 12), (0, u "UNIMPLEMENTED_OPTION"), (0, .fieldref 7 44), (0, .nameAndType 45 12), (0, u "UNIMPLEMENTED_EXTENSION"), (0, .fieldref 7 47), (0, .nameAndType 48 12), (0, u "BILLING_FAILURE"), (0, .fieldref 7 50), (0, .nameAndType 51 12), (0, u "NOT_ELIGIBLE_FOR_TRANSFER"), (0, .fieldref 7 53), (0, .nameAndType 54 12), (0, u "AUTHENTICATION_ERROR"), (0, .fieldref 7 56), (0, .nameAndType 57 12), (0, u "AUTHORIZATION_ERROR"), (0, .fieldref 7 59), (0, .nameAndType 60 12), (0, u "INVALID_AUTHORIZATION_INFORMATION"), (0, .fieldref 7 62), (0, .nameAndType 63 12), (0, u "OBJECT_PENDING_TRANSFER"), (0, .fieldref 7 65), (0, .nameAndType 66 12), (0, u "OBJECT_NOT_PENDING_TRANSFER"), (0, .fieldref 7 68), (0, .nameAndType 69 12), (0, u "OBJECT_EXISTS"), (0, .fieldref 7 71), (0, .nameAndType 72 12), (0, u "OBJECT_DOES_NOT_EXIST"), (0, .fieldref 7 74), (0, .nameAndType 75 12), (0, u "OBJECT_STATUS_PROHIBITS_OPERATION"), (0, .fieldref 7 77), (0, .nameAndType 78 12), (0, u "OBJECT_ASSOCIATION_PROHIBITS_OPERATION"), (0, .fieldref 7 80), (0, .nameAndType 81 12), (0, u "PARAMETER_VALUE_POLICY_ERROR"), (0, .fieldref 7 83), (0, .nameAndType 84 12), (0, u "UNIMPLEMENTED_OBJECT_SERVICE"), (0, .fieldref 7 86), (0, .nameAndType 87 12), (0, u "DATA_MANAGEMENT_POLICY_VIOLATION"), (0, .fieldref 7 89), (0, .nameAndType 90 12), (0, u "COMMAND_FAILED"), (0, .fieldref 7 92), (0, .nameAndType 93 12), (0, u "AUTHENTICATION_ERROR_CLOSING"), (0, .fieldref 7 95), (0, .nameAndType 96 12), (0, u "SESSION_LIMIT_EXCEEDED"), (0, .integer 2147483647), (0, .methodref 7 99), (0, .nameAndType 100 101), (0, u "endsSession"), (0, u "()Z"), (0, .class_ 103), (0, u "com/example/nameward/nameward/epp/ResultCodeEndsSessionPinLaw"), (2, u "law"), (0, u "(I)Z")] 5

def k1m0 : Method := { name := "<init>", desc := "()V", sig := { parameters := [], returnType := none }, accessFlags := 1, code := none }
def k1c1 : Code := { maxStack := 4, maxLocals := 5, code := code, exceptionTable := #[], attributes := #[] }
def k1m1 : Method := { name := "law", desc := "(I)Z", sig := { parameters := [.int], returnType := some .boolean }, accessFlags := 9, code := some k1c1 }
/-- com/example/nameward/nameward/epp/ResultCodeEndsSessionPinLaw -/
def k1 : Class := { plain "com/example/nameward/nameward/epp/ResultCodeEndsSessionPinLaw" (some 0) with
  accessFlags := 49
  interfaces := #[]
  cf := some (fileOf pool1 102 #[] #[{ accessFlags := 1, nameIndex := 5, descriptorIndex := 6, attributes := #[] }, { accessFlags := 9, nameIndex := 106, descriptorIndex := 107, attributes := #[] }] 49 2 #[] #[])
  fields := #[]
  methods := #[k1m0, k1m1]
  instanceTypes := #[]
  staticTypes := #[]
  resolved := Array.replicate 113 none
  statics := none }

def pool2 : Array CpInfo := pool [(1, .class_ 2), (0, u "java/lang/constant/Constable"), (0, .class_ 4), (0, u "java/lang/Object")] 6

/-- java/lang/constant/Constable -/
def k2 : Class := { plain "java/lang/constant/Constable" (some 0) with
  accessFlags := 1537
  interfaces := #[]
  cf := some (fileOf pool2 1 #[] #[] 1537 3 #[] #[])
  fields := #[]
  methods := #[]
  instanceTypes := #[]
  staticTypes := #[]
  resolved := Array.replicate 11 none
  statics := none }

def pool3 : Array CpInfo := pool [(1, .class_ 2), (0, u "java/lang/Comparable"), (0, .class_ 4), (0, u "java/lang/Object")] 7

/-- java/lang/Comparable -/
def k3 : Class := { plain "java/lang/Comparable" (some 0) with
  accessFlags := 1537
  interfaces := #[]
  cf := some (fileOf pool3 1 #[] #[] 1537 3 #[] #[])
  fields := #[]
  methods := #[]
  instanceTypes := #[]
  staticTypes := #[]
  resolved := Array.replicate 12 none
  statics := none }

def pool4 : Array CpInfo := pool [(1, .class_ 2), (0, u "java/io/Serializable"), (0, .class_ 4), (0, u "java/lang/Object")] 2

/-- java/io/Serializable -/
def k4 : Class := { plain "java/io/Serializable" (some 0) with
  accessFlags := 1537
  interfaces := #[]
  cf := some (fileOf pool4 1 #[] #[] 1537 3 #[] #[])
  fields := #[]
  methods := #[]
  instanceTypes := #[]
  staticTypes := #[]
  resolved := Array.replicate 7 none
  statics := none }

def pool5 : Array CpInfo := pool [(2, .class_ 4), (1, u "java/lang/Enum"), (0, u "name"), (0, u "Ljava/lang/String;"), (2, u "ordinal"), (0, u "I"), (1, .class_ 14), (1, u "java/lang/Object"), (4, u "hash"), (86, .class_ 108), (1, u "java/lang/Enum$EnumDesc"), (2, .class_ 112), (0, u "java/lang/constant/Constable"), (0, .class_ 114), (0, u "java/lang/Comparable"), (0, .class_ 116), (0, u "java/io/Serializable")] 87

/-- java/lang/Enum -/
def k5 : Class := { plain "java/lang/Enum" (some 0) with
  accessFlags := 1057
  interfaces := #[2, 3, 4]
  cf := some (fileOf pool5 2 #[.nestMembers #[106]] #[] 1057 12 #[111, 113, 115] #[{ accessFlags := 18, nameIndex := 5, descriptorIndex := 6, attributes := #[] }, { accessFlags := 18, nameIndex := 9, descriptorIndex := 10, attributes := #[] }, { accessFlags := 2, nameIndex := 19, descriptorIndex := 10, attributes := #[] }])
  fields := #[{ name := "name", type := (.object "java/lang/String"), accessFlags := 18, slot := 0, constantValue := 0 }, { name := "ordinal", type := .int, accessFlags := 18, slot := 1, constantValue := 0 }, { name := "hash", type := .int, accessFlags := 2, slot := 2, constantValue := 0 }]
  methods := #[]
  instanceTypes := #[(.object "java/lang/String"), .int, .int]
  staticTypes := #[]
  resolved := Array.replicate 204 none
  statics := none }

def pool6 : Array CpInfo := pool [(1, .class_ 2), (0, u "com/example/nameward/nameward/epp/ResultCode"), (2, u "SUCCESS"), (0, u "Lcom/example/nameward/nameward/epp/ResultCode;"), (2, u "SUCCESS_ACTION_PENDING"), (2, u "SUCCESS_NO_MESSAGES"), (2, u "SUCCESS_ACK_TO_DEQUEUE"), (0, .fieldref 1 17), (0, .nameAndType 18 6), (0, u "SUCCESS_ENDING_SESSION"), (2, u "SYNTAX_ERROR"), (2, u "USE_ERROR"), (2, u "REQUIRED_PARAMETER_MISSING"), (2, u "PARAMETER_VALUE_SYNTAX_ERROR"), (2, u "UNIMPLEMENTED_COMMAND"), (2, u "UNIMPLEMENTED_OPTION"), (2, u "UNIMPLEMENTED_EXTENSION"), (2, u "BILLING_FAILURE"), (2, u "NOT_ELIGIBLE_FOR_TRANSFER"), (2, u "AUTHENTICATION_ERROR"), (2, u "AUTHORIZATION_ERROR"), (2, u "INVALID_AUTHORIZATION_INFORMATION"), (2, u "OBJECT_PENDING_TRANSFER"), (2, u "OBJECT_NOT_PENDING_TRANSFER"), (2, u "OBJECT_EXISTS"), (2, u "OBJECT_DOES_NOT_EXIST"), (2, u "OBJECT_STATUS_PROHIBITS_OPERATION"), (2, u "OBJECT_ASSOCIATION_PROHIBITS_OPERATION"), (2, u "PARAMETER_VALUE_POLICY_ERROR"), (2, u "UNIMPLEMENTED_OBJECT_SERVICE"), (2, u "DATA_MANAGEMENT_POLICY_VIOLATION"), (2, u "COMMAND_FAILED"), (2, u "AUTHENTICATION_ERROR_CLOSING"), (2, u "SESSION_LIMIT_EXCEEDED"), (2, u "$VALUES"), (0, u "[Lcom/example/nameward/nameward/epp/ResultCode;"), (6, .class_ 103), (1, u "java/lang/Enum"), (6, .fieldref 1 111), (0, .nameAndType 112 113), (0, u "code"), (0, u "I"), (2, u "message"), (0, u "Ljava/lang/String;"), (101, u "endsSession"), (0, u "()Z")] 6

def k6c0 : Code := { maxStack := 2, maxLocals := 1, code := prog_87_method_4_code, exceptionTable := #[], attributes := #[] }
def k6m0 : Method := { name := "endsSession", desc := "()Z", sig := { parameters := [], returnType := some .boolean }, accessFlags := 0, code := some k6c0 }
/-- com/example/nameward/nameward/epp/ResultCode -/
def k6 : Class := { plain "com/example/nameward/nameward/epp/ResultCode" (some 5) with
  accessFlags := 16432
  interfaces := #[]
  cf := some (fileOf pool6 1 #[] #[{ accessFlags := 0, nameIndex := 219, descriptorIndex := 220, attributes := #[] }] 16432 101 #[] #[{ accessFlags := 16409, nameIndex := 5, descriptorIndex := 6, attributes := #[] }, { accessFlags := 16409, nameIndex := 9, descriptorIndex := 6, attributes := #[] }, { accessFlags := 16409, nameIndex := 12, descriptorIndex := 6, attributes := #[] }, { accessFlags := 16409, nameIndex := 15, descriptorIndex := 6, attributes := #[] }, { accessFlags := 16409, nameIndex := 18, descriptorIndex := 6, attributes := #[] }, { accessFlags := 16409, nameIndex := 21, descriptorIndex := 6, attributes := #[] }, { accessFlags := 16409, nameIndex := 24, descriptorIndex := 6, attributes := #[] }, { accessFlags := 16409, nameIndex := 27, descriptorIndex := 6, attributes := #[] }, { accessFlags := 16409, nameIndex := 30, descriptorIndex := 6, attributes := #[] }, { accessFlags := 16409, nameIndex := 33, descriptorIndex := 6, attributes := #[] }, { accessFlags := 16409, nameIndex := 36, descriptorIndex := 6, attributes := #[] }, { accessFlags := 16409, nameIndex := 39, descriptorIndex := 6, attributes := #[] }, { accessFlags := 16409, nameIndex := 42, descriptorIndex := 6, attributes := #[] }, { accessFlags := 16409, nameIndex := 45, descriptorIndex := 6, attributes := #[] }, { accessFlags := 16409, nameIndex := 48, descriptorIndex := 6, attributes := #[] }, { accessFlags := 16409, nameIndex := 51, descriptorIndex := 6, attributes := #[] }, { accessFlags := 16409, nameIndex := 54, descriptorIndex := 6, attributes := #[] }, { accessFlags := 16409, nameIndex := 57, descriptorIndex := 6, attributes := #[] }, { accessFlags := 16409, nameIndex := 60, descriptorIndex := 6, attributes := #[] }, { accessFlags := 16409, nameIndex := 63, descriptorIndex := 6, attributes := #[] }, { accessFlags := 16409, nameIndex := 66, descriptorIndex := 6, attributes := #[] }, { accessFlags := 16409, nameIndex := 69, descriptorIndex := 6, attributes := #[] }, { accessFlags := 16409, nameIndex := 72, descriptorIndex := 6, attributes := #[] }, { accessFlags := 16409, nameIndex := 75, descriptorIndex := 6, attributes := #[] }, { accessFlags := 16409, nameIndex := 78, descriptorIndex := 6, attributes := #[] }, { accessFlags := 16409, nameIndex := 81, descriptorIndex := 6, attributes := #[] }, { accessFlags := 16409, nameIndex := 84, descriptorIndex := 6, attributes := #[] }, { accessFlags := 16409, nameIndex := 87, descriptorIndex := 6, attributes := #[] }, { accessFlags := 16409, nameIndex := 90, descriptorIndex := 6, attributes := #[] }, { accessFlags := 16, nameIndex := 112, descriptorIndex := 113, attributes := #[] }, { accessFlags := 16, nameIndex := 116, descriptorIndex := 117, attributes := #[] }, { accessFlags := 4122, nameIndex := 93, descriptorIndex := 94, attributes := #[] }])
  fields := #[{ name := "SUCCESS", type := (.object "com/example/nameward/nameward/epp/ResultCode"), accessFlags := 16409, slot := 0, constantValue := 0 }, { name := "SUCCESS_ACTION_PENDING", type := (.object "com/example/nameward/nameward/epp/ResultCode"), accessFlags := 16409, slot := 1, constantValue := 0 }, { name := "SUCCESS_NO_MESSAGES", type := (.object "com/example/nameward/nameward/epp/ResultCode"), accessFlags := 16409, slot := 2, constantValue := 0 }, { name := "SUCCESS_ACK_TO_DEQUEUE", type := (.object "com/example/nameward/nameward/epp/ResultCode"), accessFlags := 16409, slot := 3, constantValue := 0 }, { name := "SUCCESS_ENDING_SESSION", type := (.object "com/example/nameward/nameward/epp/ResultCode"), accessFlags := 16409, slot := 4, constantValue := 0 }, { name := "SYNTAX_ERROR", type := (.object "com/example/nameward/nameward/epp/ResultCode"), accessFlags := 16409, slot := 5, constantValue := 0 }, { name := "USE_ERROR", type := (.object "com/example/nameward/nameward/epp/ResultCode"), accessFlags := 16409, slot := 6, constantValue := 0 }, { name := "REQUIRED_PARAMETER_MISSING", type := (.object "com/example/nameward/nameward/epp/ResultCode"), accessFlags := 16409, slot := 7, constantValue := 0 }, { name := "PARAMETER_VALUE_SYNTAX_ERROR", type := (.object "com/example/nameward/nameward/epp/ResultCode"), accessFlags := 16409, slot := 8, constantValue := 0 }, { name := "UNIMPLEMENTED_COMMAND", type := (.object "com/example/nameward/nameward/epp/ResultCode"), accessFlags := 16409, slot := 9, constantValue := 0 }, { name := "UNIMPLEMENTED_OPTION", type := (.object "com/example/nameward/nameward/epp/ResultCode"), accessFlags := 16409, slot := 10, constantValue := 0 }, { name := "UNIMPLEMENTED_EXTENSION", type := (.object "com/example/nameward/nameward/epp/ResultCode"), accessFlags := 16409, slot := 11, constantValue := 0 }, { name := "BILLING_FAILURE", type := (.object "com/example/nameward/nameward/epp/ResultCode"), accessFlags := 16409, slot := 12, constantValue := 0 }, { name := "NOT_ELIGIBLE_FOR_TRANSFER", type := (.object "com/example/nameward/nameward/epp/ResultCode"), accessFlags := 16409, slot := 13, constantValue := 0 }, { name := "AUTHENTICATION_ERROR", type := (.object "com/example/nameward/nameward/epp/ResultCode"), accessFlags := 16409, slot := 14, constantValue := 0 }, { name := "AUTHORIZATION_ERROR", type := (.object "com/example/nameward/nameward/epp/ResultCode"), accessFlags := 16409, slot := 15, constantValue := 0 }, { name := "INVALID_AUTHORIZATION_INFORMATION", type := (.object "com/example/nameward/nameward/epp/ResultCode"), accessFlags := 16409, slot := 16, constantValue := 0 }, { name := "OBJECT_PENDING_TRANSFER", type := (.object "com/example/nameward/nameward/epp/ResultCode"), accessFlags := 16409, slot := 17, constantValue := 0 }, { name := "OBJECT_NOT_PENDING_TRANSFER", type := (.object "com/example/nameward/nameward/epp/ResultCode"), accessFlags := 16409, slot := 18, constantValue := 0 }, { name := "OBJECT_EXISTS", type := (.object "com/example/nameward/nameward/epp/ResultCode"), accessFlags := 16409, slot := 19, constantValue := 0 }, { name := "OBJECT_DOES_NOT_EXIST", type := (.object "com/example/nameward/nameward/epp/ResultCode"), accessFlags := 16409, slot := 20, constantValue := 0 }, { name := "OBJECT_STATUS_PROHIBITS_OPERATION", type := (.object "com/example/nameward/nameward/epp/ResultCode"), accessFlags := 16409, slot := 21, constantValue := 0 }, { name := "OBJECT_ASSOCIATION_PROHIBITS_OPERATION", type := (.object "com/example/nameward/nameward/epp/ResultCode"), accessFlags := 16409, slot := 22, constantValue := 0 }, { name := "PARAMETER_VALUE_POLICY_ERROR", type := (.object "com/example/nameward/nameward/epp/ResultCode"), accessFlags := 16409, slot := 23, constantValue := 0 }, { name := "UNIMPLEMENTED_OBJECT_SERVICE", type := (.object "com/example/nameward/nameward/epp/ResultCode"), accessFlags := 16409, slot := 24, constantValue := 0 }, { name := "DATA_MANAGEMENT_POLICY_VIOLATION", type := (.object "com/example/nameward/nameward/epp/ResultCode"), accessFlags := 16409, slot := 25, constantValue := 0 }, { name := "COMMAND_FAILED", type := (.object "com/example/nameward/nameward/epp/ResultCode"), accessFlags := 16409, slot := 26, constantValue := 0 }, { name := "AUTHENTICATION_ERROR_CLOSING", type := (.object "com/example/nameward/nameward/epp/ResultCode"), accessFlags := 16409, slot := 27, constantValue := 0 }, { name := "SESSION_LIMIT_EXCEEDED", type := (.object "com/example/nameward/nameward/epp/ResultCode"), accessFlags := 16409, slot := 28, constantValue := 0 }, { name := "code", type := .int, accessFlags := 16, slot := 3, constantValue := 0 }, { name := "message", type := (.object "java/lang/String"), accessFlags := 16, slot := 4, constantValue := 0 }, { name := "$VALUES", type := (.array (.object "com/example/nameward/nameward/epp/ResultCode")), accessFlags := 4122, slot := 29, constantValue := 0 }]
  methods := #[k6m0]
  instanceTypes := #[(.object "java/lang/String"), .int, .int, .int, (.object "java/lang/String")]
  staticTypes := #[(.object "com/example/nameward/nameward/epp/ResultCode"), (.object "com/example/nameward/nameward/epp/ResultCode"), (.object "com/example/nameward/nameward/epp/ResultCode"), (.object "com/example/nameward/nameward/epp/ResultCode"), (.object "com/example/nameward/nameward/epp/ResultCode"), (.object "com/example/nameward/nameward/epp/ResultCode"), (.object "com/example/nameward/nameward/epp/ResultCode"), (.object "com/example/nameward/nameward/epp/ResultCode"), (.object "com/example/nameward/nameward/epp/ResultCode"), (.object "com/example/nameward/nameward/epp/ResultCode"), (.object "com/example/nameward/nameward/epp/ResultCode"), (.object "com/example/nameward/nameward/epp/ResultCode"), (.object "com/example/nameward/nameward/epp/ResultCode"), (.object "com/example/nameward/nameward/epp/ResultCode"), (.object "com/example/nameward/nameward/epp/ResultCode"), (.object "com/example/nameward/nameward/epp/ResultCode"), (.object "com/example/nameward/nameward/epp/ResultCode"), (.object "com/example/nameward/nameward/epp/ResultCode"), (.object "com/example/nameward/nameward/epp/ResultCode"), (.object "com/example/nameward/nameward/epp/ResultCode"), (.object "com/example/nameward/nameward/epp/ResultCode"), (.object "com/example/nameward/nameward/epp/ResultCode"), (.object "com/example/nameward/nameward/epp/ResultCode"), (.object "com/example/nameward/nameward/epp/ResultCode"), (.object "com/example/nameward/nameward/epp/ResultCode"), (.object "com/example/nameward/nameward/epp/ResultCode"), (.object "com/example/nameward/nameward/epp/ResultCode"), (.object "com/example/nameward/nameward/epp/ResultCode"), (.object "com/example/nameward/nameward/epp/ResultCode"), (.array (.object "com/example/nameward/nameward/epp/ResultCode"))]
  resolved := Array.replicate 227 none
  statics := some 0 }

def pool7 : Array CpInfo := pool [(1, u "java/lang/Cloneable"), (0, .class_ 1), (0, u "java/lang/Object"), (0, .class_ 3)] 3

/-- java/lang/Cloneable -/
def k7 : Class := { plain "java/lang/Cloneable" (some 0) with
  accessFlags := 1537
  interfaces := #[]
  cf := some (fileOf pool7 2 #[] #[] 1537 4 #[] #[])
  fields := #[]
  methods := #[]
  instanceTypes := #[]
  staticTypes := #[]
  resolved := Array.replicate 8 none
  statics := none }

/-- the primitive byte -/
def k8 : Class := { plain "byte" none with kind := .primitive 'B', accessFlags := 0x411 }
/-- [B -/
def k9 : Class := { plain "[B" (some 0) with kind := .array 8 .byte, interfaces := #[7, 4], accessFlags := 1041 }

/-- the primitive int -/
def k10 : Class := { plain "int" none with kind := .primitive 'I', accessFlags := 0x411 }
/-- [I -/
def k11 : Class := { plain "[I" (some 0) with kind := .array 10 .int, interfaces := #[7, 4], accessFlags := 1041 }

/-- [Lcom/example/nameward/nameward/epp/ResultCode; -/
def k12 : Class := { plain "[Lcom/example/nameward/nameward/epp/ResultCode;" (some 0) with kind := .array 6 (.object "com/example/nameward/nameward/epp/ResultCode"), interfaces := #[7, 4], accessFlags := 1041 }

def heap : Heap := #[{ cls := 6, slots := #[.ref 1, .ref 2, .ref 3, .ref 4, .ref 5, .ref 6, .ref 7, .ref 8, .ref 9, .ref 10, .ref 11, .ref 12, .ref 13, .ref 14, .ref 15, .ref 16, .ref 17, .ref 18, .ref 19, .ref 20, .ref 21, .ref 22, .ref 23, .ref 24, .ref 25, .ref 26, .ref 27, .ref 28, .ref 29, .null], vm := .statics 6 },
  { cls := 6, slots := #[.null, .int 0, .int 0, .int 1000, .null], vm := .none },
  { cls := 6, slots := #[.null, .int 1, .int 0, .int 1001, .null], vm := .none },
  { cls := 6, slots := #[.null, .int 2, .int 0, .int 1300, .null], vm := .none },
  { cls := 6, slots := #[.null, .int 3, .int 0, .int 1301, .null], vm := .none },
  { cls := 6, slots := #[.null, .int 4, .int 0, .int 1500, .null], vm := .none },
  { cls := 6, slots := #[.null, .int 5, .int 0, .int 2001, .null], vm := .none },
  { cls := 6, slots := #[.null, .int 6, .int 0, .int 2002, .null], vm := .none },
  { cls := 6, slots := #[.null, .int 7, .int 0, .int 2003, .null], vm := .none },
  { cls := 6, slots := #[.null, .int 8, .int 0, .int 2005, .null], vm := .none },
  { cls := 6, slots := #[.null, .int 9, .int 0, .int 2101, .null], vm := .none },
  { cls := 6, slots := #[.null, .int 10, .int 0, .int 2102, .null], vm := .none },
  { cls := 6, slots := #[.null, .int 11, .int 0, .int 2103, .null], vm := .none },
  { cls := 6, slots := #[.null, .int 12, .int 0, .int 2104, .null], vm := .none },
  { cls := 6, slots := #[.null, .int 13, .int 0, .int 2106, .null], vm := .none },
  { cls := 6, slots := #[.null, .int 14, .int 0, .int 2200, .null], vm := .none },
  { cls := 6, slots := #[.null, .int 15, .int 0, .int 2201, .null], vm := .none },
  { cls := 6, slots := #[.null, .int 16, .int 0, .int 2202, .null], vm := .none },
  { cls := 6, slots := #[.null, .int 17, .int 0, .int 2300, .null], vm := .none },
  { cls := 6, slots := #[.null, .int 18, .int 0, .int 2301, .null], vm := .none },
  { cls := 6, slots := #[.null, .int 19, .int 0, .int 2302, .null], vm := .none },
  { cls := 6, slots := #[.null, .int 20, .int 0, .int 2303, .null], vm := .none },
  { cls := 6, slots := #[.null, .int 21, .int 0, .int 2304, .null], vm := .none },
  { cls := 6, slots := #[.null, .int 22, .int 0, .int 2305, .null], vm := .none },
  { cls := 6, slots := #[.null, .int 23, .int 0, .int 2306, .null], vm := .none },
  { cls := 6, slots := #[.null, .int 24, .int 0, .int 2307, .null], vm := .none },
  { cls := 6, slots := #[.null, .int 25, .int 0, .int 2308, .null], vm := .none },
  { cls := 6, slots := #[.null, .int 26, .int 0, .int 2400, .null], vm := .none },
  { cls := 6, slots := #[.null, .int 27, .int 0, .int 2501, .null], vm := .none },
  { cls := 6, slots := #[.null, .int 28, .int 0, .int 2502, .null], vm := .none }]
def classes : Array Class := #[k0, k1, k2, k3, k4, k5, k6, k7, k8, k9, k10, k11, k12]
def interned : List (Array UInt16 × Addr) := []
def slotsUsed : Nat := 175
def theMethod : MethodId := ⟨1, 1⟩
def args0 : Array Value := #[.int 5]
def aboutOver (below : List Frame) : State where
  vm := { classes := classes, interned := interned.toArray }
  heap := heap
  slotsUsed := slotsUsed
  threads := #[{ frames := .invoking theMethod args0 :: below }]
def below0 : List Frame := [.native { method := ⟨0, 0⟩, args := #[] }]
def about1 : State := aboutOver below0
def p0 : Program := .bare "" "" ""
def e0 : Env := launch0.env 0 0 0
theorem w_frames : about1.frames = Frame.invoking theMethod args0 :: below0 := rfl
set_option maxRecDepth 65536 in
theorem w_args : argsFit about1.vm theMethod args0 = true := by decide +kernel
set_option maxRecDepth 65536 in
theorem w_heap : heapFits about1 = true := by decide +kernel
set_option maxRecDepth 65536 in
theorem w_runnable : about1.curStatus? = some .runnable := by decide +kernel
set_option maxRecDepth 65536 in
theorem w_alone : about1.alone = true := by decide +kernel
set_option maxRecDepth 65536 in
theorem w_named : about1.methodNamed? x = some theMethod := by decide +kernel
set_option maxRecDepth 65536 in
theorem w_hears : about1.hears theMethod below0 = true := by decide +kernel
set_option maxRecDepth 65536 in
theorem w_ripe : about1.ripe theMethod args0 below0 = true := by decide +kernel
theorem w_running : about1.status = .running := rfl
set_option maxRecDepth 65536 in
theorem w_room : about1.hasRoom e0.platform room_1 = true :=
  launch0.hasRoom_least _ room_1 (by decide +kernel) (by decide +kernel) (by decide +kernel) (by decide +kernel) (by decide +kernel) (by decide +kernel)
theorem allAtoms_all (ts : List Jvm.Cond) (a : Array Jvm.Value) (st : Jvm.State) : (allAtoms ts).before a st = ts.all (fun c => c.before a st) := by
  induction ts with
  | nil => rfl
  | cons c t ih =>
    show (Jvm.Cond.and c (allAtoms t)).before a st = _
    rw [Jvm.Cond.before_and, ih, List.all_cons]
def words1 : List Jvm.Cond := Jvm.Cond.code x code maxLocals ret :: tables_1
/-- a 'code' word, met by the world's own term for the bytes: nothing is compared byte by byte -/
theorem code_word {y : MethodName} {bytes : ByteArray} {mx : Nat} {rt : Option FieldType} {a : Array Value} {s : State} {m : MethodId} {meth : Method} {c : Code} (h1 : s.methodNamed? y = some m) (h2 : s.vm.method? m = some meth) (h3 : meth.code = some c) (h4 : c.code = bytes)
    (h5 : (c.maxLocals == mx && c.exceptionTable.isEmpty && decide (c.maxStack ≤ mostOperands) && decide (meth.sig.returnType = rt) && !meth.locks && decide (parseMethodDescriptor y.desc = some meth.sig)) = true) : (Jvm.Cond.code y bytes mx rt).before a s = true := by
  simp only [Bool.and_eq_true, beq_iff_eq, Bool.not_eq_true', decide_eq_true_eq] at h5
  obtain ⟨⟨⟨⟨⟨g1, g2⟩, g3⟩, g4⟩, g5⟩, g6⟩ := h5
  simp [Cond.before, Cond.holds, Cond.value, h1, h2, h3, h4, g1, g2, g3, g4, g5, g6]
def isCode : Jvm.Cond → Bool
  | .code _ _ _ _ => true
  | _ => false
theorem all_split {L : List Jvm.Cond} {P : Jvm.Cond → Bool} (h1 : L.all (fun c => isCode c || P c) = true) (h2 : ∀ c ∈ L.filter isCode, P c = true) : L.all P = true := by
  refine List.all_eq_true.mpr fun c hc => ?_
  have h := List.all_eq_true.mp h1 c hc
  rcases Bool.eq_false_or_eq_true (isCode c) with hi | hi
  · exact h2 c (List.mem_filter.mpr ⟨hc, hi⟩)
  · simpa [hi] using h
set_option maxRecDepth 65536 in
theorem w_c0 : (Jvm.Cond.code x code maxLocals ret).before args0 about1 = true := code_word (m := ⟨1, 1⟩) (meth := k1m1) (c := k1c1) (by decide +kernel) rfl rfl rfl (by decide +kernel)
set_option maxRecDepth 65536 in
theorem w_c1 : (Jvm.Cond.code ({ cls := "com/example/nameward/nameward/epp/ResultCode", name := "endsSession", desc := "()Z" } : Jvm.MethodName) prog_87_method_4_code (1 : Nat) (Option.some Jvm.ClassFile.FieldType.boolean)).before args0 about1 = true := code_word (m := ⟨6, 0⟩) (meth := k6m0) (c := k6c0) (by decide +kernel) rfl rfl rfl (by decide +kernel)
def codes1 : List Jvm.Cond := [Jvm.Cond.code x code maxLocals ret, Jvm.Cond.code ({ cls := "com/example/nameward/nameward/epp/ResultCode", name := "endsSession", desc := "()Z" } : Jvm.MethodName) prog_87_method_4_code (1 : Nat) (Option.some Jvm.ClassFile.FieldType.boolean)]
set_option maxRecDepth 65536 in
theorem codes_eq : words1.filter isCode = codes1 := rfl
theorem w_codes : ∀ c ∈ words1.filter isCode, c.before args0 about1 = true := by
  rw [codes_eq]
  intro c hc
  simp only [codes1, List.mem_cons, List.not_mem_nil, or_false] at hc
  rcases hc with rfl | rfl
  · exact w_c0
  · exact w_c1
set_option maxRecDepth 65536 in
theorem w_t1 : (words1.take 24).all (fun c => isCode c || c.before args0 about1) = true := by decide +kernel
set_option maxRecDepth 65536 in
theorem w_t2 : ((words1.drop 24).take 24).all (fun c => isCode c || c.before args0 about1) = true := by decide +kernel
set_option maxRecDepth 65536 in
theorem w_t3 : ((words1.drop 24).drop 24).all (fun c => isCode c || c.before args0 about1) = true := by decide +kernel
theorem w_tables : (allAtoms (Jvm.Cond.code x code maxLocals ret :: tables_1)).before args0 about1 = true := by
  rw [allAtoms_all]
  show words1.all (fun c => c.before args0 about1) = true
  refine all_split ?_ w_codes
  rw [← List.take_append_drop 24 words1, List.all_append, w_t1, ← List.take_append_drop 24 (words1.drop 24), List.all_append, w_t2, w_t3]
  rfl
set_option maxRecDepth 65536 in
theorem w_case : (Jvm.Cond.and given_1 narrow_1).before args0 about1 = true := by decide +kernel
theorem w_applies : (headSpec (Jvm.Cond.code x code maxLocals ret :: tables_1) room_1).applies x e0.platform about1 = true :=
  (Spec.applies_iff w_frames).mpr ⟨w_running, w_runnable, w_alone, w_named, w_hears, w_ripe, w_room, w_tables⟩
theorem atStart : AtStart classFile x code maxLocals ret World_1 tables_1 room_1 Calls_1 rest_1 Pre_1 launch0 p0 e0 about1 theMethod args0 below0 :=
  ⟨lists_1, trivial, launch0.admits_env _ _ _, launch0.least_env, fairChoices_fair.cas, fairChoices_fair.clock, w_frames, w_args, w_heap, w_applies, trivial, trivial, w_case⟩
end start1
theorem witness_1 : WitnessClaimed_1 := ⟨start1.p0, start1.e0, start1.about1, start1.theMethod, start1.args0, start1.below0, start1.atStart⟩
end Jvm.Pilot.@@N@@
