import JvmDerived
import JvmDerived.Pilot.@@N@@Statement
import JvmDerived.Pilot.@@N@@Code
set_option linter.unusedVariables false
set_option linter.unusedSimpArgs false
@@BLOCK:NumsL.lean.txt@@
namespace Jvm.RoadKit
open Sem ClassFile Op Lib Jvm.Stand Jvm.Free Jvm.LawKit
section New
variable {p : Program} {l : Launch} {e : Env} {R : Room} {s : State} {m : MethodId} {args : Array Value} {below : List Frame} {meth : Method} {c : Code} {T : State} {locs : List Loc} {cells slots : Nat}
theorem retI (X : Stand p l e R s m args below meth c T locs cells slots) (hx : p.tables.exec = Jvm.exec) {pc : Nat} {Ls : Array Slot} {z : Int32} {rest : List Value} (hret : meth.sig.returnType = some .int) (hd : decode c.code pc = .ok (.ireturn, 1)) {fs : List Frame}
    (hl : ∀ (f : JFrame) (acts : List Action), f.method = m → f.locked = none → f.entered = [] → (doReturn e (T.setTop f) acts (some (.int z))).1 = T.setFrames fs) : Steps p.tables e below (T.setTop (mkF m pc Ls (.int z :: rest))) (T.setFrames fs) := by
  have hm' : T.vm.method? m = some meth := X.method'
  have hn : narrow .int (.int z) = .int z := rfl
  show Steps p.tables e below (T.setTop { method := m, pc := pc, locals := Ls, stack := _ :: rest, locked := none }) _
  jvm_step X.here [X.here.top, hx, hd, hm', hret, hn]
  first | (intro acts; rw [hl _ acts rfl rfl rfl]) | rw [hl _ _ rfl rfl rfl]
  exact Steps.refl _
end New
end Jvm.RoadKit
namespace Jvm.Pilot.@@N@@
open Jvm Jvm.ClassFile Sem Op Lib Jvm.Free Jvm.Stand Jvm.LawKit Jvm.RoadKit Bundle Jvm.Pilot.@@N@@.Jvm.D
theorem own_eqv {args : Array Value} {first s : State} {o : Option Outcome} {idx : List Nat} {t : Term} {k : Int32} (h : (Cond.eq t (.int k)).value args first o s idx = some true) : t.eval args first o idx s = some (.int k) := by
  cases ht : t.eval args first o idx s with
  | none => simp [Cond.value, ht] at h
  | some v => cases v <;> simp [Cond.value, ht, Term.eval] at h ⊢ <;> exact h
def own_ord (Z : State) (a : Addr) : Int32 := match Z.fieldOf? a "java/lang/Enum" "ordinal" "I" with
  | some (.int k) => k
  | _ => -1
theorem own_ordv {Z : State} {a : Addr} {k : Int32} (h : Z.fieldOf? a "java/lang/Enum" "ordinal" "I" = some (.int k)) : own_ord Z a = k := by simp [own_ord, h]
theorem own_dis {Z : State} {a b : Addr} {i j : Int32} (h : own_ord Z a = i) (h' : own_ord Z b = j) (n : i ≠ j) : a ≠ b := fun e => n (by rw [← h, ← h', e])
theorem own_mod (p c : Int32) (hc : 0 < c.toInt) : 0 ≤ ((p &&& (2147483647 : Int32)) - ((p &&& (2147483647 : Int32)) / c) * c).toInt ∧ ((p &&& (2147483647 : Int32)) - ((p &&& (2147483647 : Int32)) / c) * c).toInt < c.toInt := by
  have e : (p &&& (2147483647 : Int32)).toInt = p.toInt % 2 ^ 31 := Jvm.Kit.i32_mask p 2147483647 (k := 31) (by decide) (by decide)
  rw [irem_eq_mod, Jvm.Kit.i32_rem_nonneg (by omega)]
  exact ⟨Int.emod_nonneg _ (by omega), Int.emod_lt_of_pos _ hc⟩
theorem own_getref (ws : List Addr) (n : Nat) (h : n < ws.length) : (ws.map Value.ref).getD n .null = .ref (ws.getD n 0) := by
  simp [List.getD_eq_getElem?_getD, List.getElem?_map, h]
theorem own_exal {Z : State} {h : Heap} {C : String} {ws : List Addr} (H : ∀ a ∈ ws, Exa Z h a C) (n : Nat) (hn : n < ws.length) : Exa Z h (ws.getD n 0) C := by
  rw [List.getD_eq_getElem?_getD, List.getElem?_eq_getElem hn]
  exact H _ (List.getElem_mem hn)
theorem own_nat {i : Int32} {k : Int} (h : 0 ≤ i.toInt ∧ i.toInt < k) : (i.toNatClampNeg : Int) = i.toInt ∧ ¬ i < 0 := by
  have n : ¬ i < 0 := by rw [Int32.lt_iff_toInt_lt]; have : (0 : Int32).toInt = 0 := by decide
                         omega
  exact ⟨(nat_of n).symm, n⟩
def own_in (a x0 x1 x2 x3 : Addr) : Int32 := if a = x0 then 1 else if a = x1 then 1 else if a = x2 then 1 else if a = x3 then 1 else 0
set_option maxHeartbeats 4000000 in
theorem own_law {Z : State} {w_TINYINT w_SMALLINT w_INT w_INTEGER w_BIGINT w_FLOAT w_DOUBLE w_DECIMAL w_BOOLEAN w_DATE w_TIME w_TIMESTAMP w_DATETIME w_CHAR w_VARCHAR w_BINARY w_VARBINARY w_JSON w_OTHER : Addr} (o_TINYINT : own_ord Z w_TINYINT = 0) (o_SMALLINT : own_ord Z w_SMALLINT = 1) (o_INT : own_ord Z w_INT = 2) (o_INTEGER : own_ord Z w_INTEGER = 3) (o_BIGINT : own_ord Z w_BIGINT = 4) (o_FLOAT : own_ord Z w_FLOAT = 5) (o_DOUBLE : own_ord Z w_DOUBLE = 6) (o_DECIMAL : own_ord Z w_DECIMAL = 7) (o_BOOLEAN : own_ord Z w_BOOLEAN = 8) (o_DATE : own_ord Z w_DATE = 9) (o_TIME : own_ord Z w_TIME = 10) (o_TIMESTAMP : own_ord Z w_TIMESTAMP = 11) (o_DATETIME : own_ord Z w_DATETIME = 12) (o_CHAR : own_ord Z w_CHAR = 13) (o_VARCHAR : own_ord Z w_VARCHAR = 14) (o_BINARY : own_ord Z w_BINARY = 15) (o_VARBINARY : own_ord Z w_VARBINARY = 16) (o_JSON : own_ord Z w_JSON = 17) (o_OTHER : own_ord Z w_OTHER = 18) (n : Nat) (hn : n < 19) : own_in ([w_TINYINT, w_SMALLINT, w_INT, w_INTEGER, w_BIGINT, w_FLOAT, w_DOUBLE, w_DECIMAL, w_BOOLEAN, w_DATE, w_TIME, w_TIMESTAMP, w_DATETIME, w_CHAR, w_VARCHAR, w_BINARY, w_VARBINARY, w_JSON, w_OTHER].getD n 0) w_DATE w_TIME w_TIMESTAMP w_DATETIME = if n = 9 ∨ n = 10 ∨ n = 11 ∨ n = 12 then 1 else 0 := by
  have hc : n = 0 ∨ n = 1 ∨ n = 2 ∨ n = 3 ∨ n = 4 ∨ n = 5 ∨ n = 6 ∨ n = 7 ∨ n = 8 ∨ n = 9 ∨ n = 10 ∨ n = 11 ∨ n = 12 ∨ n = 13 ∨ n = 14 ∨ n = 15 ∨ n = 16 ∨ n = 17 ∨ n = 18 := by omega
  rcases hc with rfl | rfl | rfl | rfl | rfl | rfl | rfl | rfl | rfl | rfl | rfl | rfl | rfl | rfl | rfl | rfl | rfl | rfl | rfl
  · show own_in w_TINYINT w_DATE w_TIME w_TIMESTAMP w_DATETIME = _
    simp [own_in, (own_dis o_TINYINT o_DATE (by decide)), (own_dis o_TINYINT o_TIME (by decide)), (own_dis o_TINYINT o_TIMESTAMP (by decide)), (own_dis o_TINYINT o_DATETIME (by decide))]
  · show own_in w_SMALLINT w_DATE w_TIME w_TIMESTAMP w_DATETIME = _
    simp [own_in, (own_dis o_SMALLINT o_DATE (by decide)), (own_dis o_SMALLINT o_TIME (by decide)), (own_dis o_SMALLINT o_TIMESTAMP (by decide)), (own_dis o_SMALLINT o_DATETIME (by decide))]
  · show own_in w_INT w_DATE w_TIME w_TIMESTAMP w_DATETIME = _
    simp [own_in, (own_dis o_INT o_DATE (by decide)), (own_dis o_INT o_TIME (by decide)), (own_dis o_INT o_TIMESTAMP (by decide)), (own_dis o_INT o_DATETIME (by decide))]
  · show own_in w_INTEGER w_DATE w_TIME w_TIMESTAMP w_DATETIME = _
    simp [own_in, (own_dis o_INTEGER o_DATE (by decide)), (own_dis o_INTEGER o_TIME (by decide)), (own_dis o_INTEGER o_TIMESTAMP (by decide)), (own_dis o_INTEGER o_DATETIME (by decide))]
  · show own_in w_BIGINT w_DATE w_TIME w_TIMESTAMP w_DATETIME = _
    simp [own_in, (own_dis o_BIGINT o_DATE (by decide)), (own_dis o_BIGINT o_TIME (by decide)), (own_dis o_BIGINT o_TIMESTAMP (by decide)), (own_dis o_BIGINT o_DATETIME (by decide))]
  · show own_in w_FLOAT w_DATE w_TIME w_TIMESTAMP w_DATETIME = _
    simp [own_in, (own_dis o_FLOAT o_DATE (by decide)), (own_dis o_FLOAT o_TIME (by decide)), (own_dis o_FLOAT o_TIMESTAMP (by decide)), (own_dis o_FLOAT o_DATETIME (by decide))]
  · show own_in w_DOUBLE w_DATE w_TIME w_TIMESTAMP w_DATETIME = _
    simp [own_in, (own_dis o_DOUBLE o_DATE (by decide)), (own_dis o_DOUBLE o_TIME (by decide)), (own_dis o_DOUBLE o_TIMESTAMP (by decide)), (own_dis o_DOUBLE o_DATETIME (by decide))]
  · show own_in w_DECIMAL w_DATE w_TIME w_TIMESTAMP w_DATETIME = _
    simp [own_in, (own_dis o_DECIMAL o_DATE (by decide)), (own_dis o_DECIMAL o_TIME (by decide)), (own_dis o_DECIMAL o_TIMESTAMP (by decide)), (own_dis o_DECIMAL o_DATETIME (by decide))]
  · show own_in w_BOOLEAN w_DATE w_TIME w_TIMESTAMP w_DATETIME = _
    simp [own_in, (own_dis o_BOOLEAN o_DATE (by decide)), (own_dis o_BOOLEAN o_TIME (by decide)), (own_dis o_BOOLEAN o_TIMESTAMP (by decide)), (own_dis o_BOOLEAN o_DATETIME (by decide))]
  · show own_in w_DATE w_DATE w_TIME w_TIMESTAMP w_DATETIME = _
    simp [own_in, (own_dis o_DATE o_TIME (by decide)), (own_dis o_DATE o_TIMESTAMP (by decide)), (own_dis o_DATE o_DATETIME (by decide))]
  · show own_in w_TIME w_DATE w_TIME w_TIMESTAMP w_DATETIME = _
    simp [own_in, (own_dis o_TIME o_DATE (by decide)), (own_dis o_TIME o_TIMESTAMP (by decide)), (own_dis o_TIME o_DATETIME (by decide))]
  · show own_in w_TIMESTAMP w_DATE w_TIME w_TIMESTAMP w_DATETIME = _
    simp [own_in, (own_dis o_TIMESTAMP o_DATE (by decide)), (own_dis o_TIMESTAMP o_TIME (by decide)), (own_dis o_TIMESTAMP o_DATETIME (by decide))]
  · show own_in w_DATETIME w_DATE w_TIME w_TIMESTAMP w_DATETIME = _
    simp [own_in, (own_dis o_DATETIME o_DATE (by decide)), (own_dis o_DATETIME o_TIME (by decide)), (own_dis o_DATETIME o_TIMESTAMP (by decide))]
  · show own_in w_CHAR w_DATE w_TIME w_TIMESTAMP w_DATETIME = _
    simp [own_in, (own_dis o_CHAR o_DATE (by decide)), (own_dis o_CHAR o_TIME (by decide)), (own_dis o_CHAR o_TIMESTAMP (by decide)), (own_dis o_CHAR o_DATETIME (by decide))]
  · show own_in w_VARCHAR w_DATE w_TIME w_TIMESTAMP w_DATETIME = _
    simp [own_in, (own_dis o_VARCHAR o_DATE (by decide)), (own_dis o_VARCHAR o_TIME (by decide)), (own_dis o_VARCHAR o_TIMESTAMP (by decide)), (own_dis o_VARCHAR o_DATETIME (by decide))]
  · show own_in w_BINARY w_DATE w_TIME w_TIMESTAMP w_DATETIME = _
    simp [own_in, (own_dis o_BINARY o_DATE (by decide)), (own_dis o_BINARY o_TIME (by decide)), (own_dis o_BINARY o_TIMESTAMP (by decide)), (own_dis o_BINARY o_DATETIME (by decide))]
  · show own_in w_VARBINARY w_DATE w_TIME w_TIMESTAMP w_DATETIME = _
    simp [own_in, (own_dis o_VARBINARY o_DATE (by decide)), (own_dis o_VARBINARY o_TIME (by decide)), (own_dis o_VARBINARY o_TIMESTAMP (by decide)), (own_dis o_VARBINARY o_DATETIME (by decide))]
  · show own_in w_JSON w_DATE w_TIME w_TIMESTAMP w_DATETIME = _
    simp [own_in, (own_dis o_JSON o_DATE (by decide)), (own_dis o_JSON o_TIME (by decide)), (own_dis o_JSON o_TIMESTAMP (by decide)), (own_dis o_JSON o_DATETIME (by decide))]
  · show own_in w_OTHER w_DATE w_TIME w_TIMESTAMP w_DATETIME = _
    simp [own_in, (own_dis o_OTHER o_DATE (by decide)), (own_dis o_OTHER o_TIME (by decide)), (own_dis o_OTHER o_TIMESTAMP (by decide)), (own_dis o_OTHER o_DATETIME (by decide))]
theorem d_prog_69_method_6_code_0 : decode prog_69_method_6_code 0 = .ok (.aload_n 0, 1) := by decide +kernel
theorem d_prog_69_method_6_code_1 : decode prog_69_method_6_code 1 = .ok (.getstatic 31, 3) := by decide +kernel
theorem d_prog_69_method_6_code_4 : decode prog_69_method_6_code 4 = .ok (.if_acmp .eq 24, 3) := by decide +kernel
theorem d_prog_69_method_6_code_28 : decode prog_69_method_6_code 28 = .ok (.iconst 1, 1) := by decide +kernel
theorem d_prog_69_method_6_code_29 : decode prog_69_method_6_code 29 = .ok (.goto 4, 3) := by decide +kernel
theorem d_prog_69_method_6_code_33 : decode prog_69_method_6_code 33 = .ok (.ireturn, 1) := by decide +kernel
theorem d_prog_69_method_6_code_7 : decode prog_69_method_6_code 7 = .ok (.aload_n 0, 1) := by decide +kernel
theorem d_prog_69_method_6_code_8 : decode prog_69_method_6_code 8 = .ok (.getstatic 34, 3) := by decide +kernel
theorem d_prog_69_method_6_code_11 : decode prog_69_method_6_code 11 = .ok (.if_acmp .eq 17, 3) := by decide +kernel
theorem d_prog_69_method_6_code_14 : decode prog_69_method_6_code 14 = .ok (.aload_n 0, 1) := by decide +kernel
theorem d_prog_69_method_6_code_15 : decode prog_69_method_6_code 15 = .ok (.getstatic 37, 3) := by decide +kernel
theorem d_prog_69_method_6_code_18 : decode prog_69_method_6_code 18 = .ok (.if_acmp .eq 10, 3) := by decide +kernel
theorem d_prog_69_method_6_code_21 : decode prog_69_method_6_code 21 = .ok (.aload_n 0, 1) := by decide +kernel
theorem d_prog_69_method_6_code_22 : decode prog_69_method_6_code 22 = .ok (.getstatic 40, 3) := by decide +kernel
theorem d_prog_69_method_6_code_25 : decode prog_69_method_6_code 25 = .ok (.if_acmp .ne 7, 3) := by decide +kernel
theorem d_prog_69_method_6_code_32 : decode prog_69_method_6_code 32 = .ok (.iconst 0, 1) := by decide +kernel
theorem pn_0 : plainName "com/example/keylint/keylint/SqlType" = true := by first | (simp [plainName, overriddenIn]; done) | decide +kernel
theorem ef_rm1 (m : MethodId) (x0 : Addr) : entryFrame m #[(.ref x0)] 1 = mkF m 0 #[.val (.ref x0)] [] := by first | (simp [entryFrame, mkF, argsToLocals, Value.category]; done) | rfl
def Q_rm1 (Z : State) (r0 : Addr) (w_DATE : Addr) (w_TIME : Addr) (w_TIMESTAMP : Addr) (w_DATETIME : Addr) (h0 : Heap) (n0 : Nat) (v : Option Value) (h : Heap) (L : List Loc) : Prop := v = some (.int (own_in r0 w_DATE w_TIME w_TIMESTAMP w_DATETIME)) ∧ Fr n0 L ∧ h = h0
set_option maxRecDepth 65536 in
set_option maxHeartbeats 40000000 in
theorem rm1 (l : Launch) (Z : State) (a0 : Array Value) (hw : ∀ d ∈ tables_1, d.before a0 Z = true) (ws : List Jvm.Cond) (r0 : Addr) (w_DATE : Addr) (w_TIME : Addr) (w_TIMESTAMP : Addr) (w_DATETIME : Addr) (h0 : Heap) (n0 : Nat) (Z0 : n0 ≤ h0.size) (S_DATE : Sta Z h0 "com/example/keylint/keylint/SqlType" "DATE" "Lcom/example/keylint/keylint/SqlType;" (.ref w_DATE)) (S_TIME : Sta Z h0 "com/example/keylint/keylint/SqlType" "TIME" "Lcom/example/keylint/keylint/SqlType;" (.ref w_TIME)) (S_TIMESTAMP : Sta Z h0 "com/example/keylint/keylint/SqlType" "TIMESTAMP" "Lcom/example/keylint/keylint/SqlType;" (.ref w_TIMESTAMP)) (S_DATETIME : Sta Z h0 "com/example/keylint/keylint/SqlType" "DATETIME" "Lcom/example/keylint/keylint/SqlType;" (.ref w_DATETIME)) :
    MetFree l (⟨"com/example/keylint/keylint/SqlType", "isTime", "()Z"⟩ : MethodName) (head1 (Jvm.Cond.code (⟨"com/example/keylint/keylint/SqlType", "isTime", "()Z"⟩ : MethodName) prog_69_method_6_code 1 (some .boolean) :: ws) ({ frames := 0, cells := 0, slots := 0, locals := 0 } : Room)) (fun a U => a = #[(.ref r0)] ∧ Z.Warmed39 U.vm ∧ U.heap = h0) (fun _ _ _ _ _ => True) (fun _ U o U' => ∃ v L, o = .returned v ∧ Q_rm1 Z r0 w_DATE w_TIME w_TIMESTAMP w_DATETIME h0 n0 v U'.heap L ∧ FrameEnd U o U' L ({ frames := 0, cells := 0, slots := 0, locals := 0 } : Room).cells ({ frames := 0, cells := 0, slots := 0, locals := 0 } : Room).slots) := by
  refine MetFree.of_bodySF (plainFor_of_name pn_0) hisR ?_
  intro p e s m args below meth c s₁ Bd hml0 hP hK
  obtain ⟨rfl, hZ, hh⟩ := hP
  have hx := Bd.exec
  have hby := Bd.bytes
  have hml : c.maxLocals = 1 := hml0
  have hown : s.vm.findClass "com/example/keylint/keylint/SqlType" = some m.cls := findClass_of_methodNamed Bd.named
  have hnm := (name_of_methodNamed Bd.named Bd.method).1
  have X0 : Stand p l e ({ frames := 0, cells := 0, slots := 0, locals := 0 } : Room) s m #[(.ref r0)] below meth c s₁ [] 0 0 := Stand.of_body Bd
  have e0 : s₁.heap = h0 := by rw [← hh, Bd.state]; rfl
  have N0 := Fr.nil n0
  have Zn := Z0
  have K0 : ∀ t, Steps p.tables e below (s₁.setTop (mkF m 0 #[.val (.ref r0)] [])) t → Steps p.tables e below (s₁.setTop (entryFrame m #[(.ref r0)] 1)) t := fun t k => castTop (ef_rm1 m r0) k
  obtain ⟨T1, X1, e1, st1⟩ := getS2 X0 hx hZ hown (host := "") (Or.inl (hw _ (List.mem_of_getElem? (i := 48) rfl))) Via.refl e0 S_DATE (g := (mkF m 1 #[.val (.ref r0)] [(.ref r0)])) rfl (hb hby d_prog_69_method_6_code_1)
  have K2 : ∀ t, Steps p.tables e below (T1.setTop (mkF m 4 #[.val (.ref r0)] [(.ref w_DATE), (.ref r0)])) t → Steps p.tables e below (s₁.setTop (entryFrame m #[(.ref r0)] 1)) t := by
    intro t kt
    refine K0 t ?_
    show Steps p.tables e below (s₁.setTop (mkF m 0 #[.val (.ref r0)] [])) _
    refine XS.aloadN X0.here hx rfl (hb hby d_prog_69_method_6_code_0) rfl rfl ?_
    show Steps p.tables e below (s₁.setTop (mkF m 1 #[.val (.ref r0)] [(.ref r0)])) _
    refine st1 _ ?_
    exact kt
  by_cases hc4 : r0 = w_DATE
  ·
    obtain ⟨fs, hr, hrun, hended, hW, hsame⟩ := X1.leave (v := some (.int (1 : Int32))) (fun h => by rw [Bd.returns] at h; cases h)
    refine ⟨_, _, K2 _ ?_, hrun, hended, _, _, rfl, ?_, ⟨_, rfl⟩, hW, hsame.mono (by decide) (by decide)⟩
    ·
      show Steps p.tables e below (T1.setTop (mkF m 4 #[.val (.ref r0)] [(.ref w_DATE), (.ref r0)])) _
      refine Jvm.RoadKit.acmp (g := (mkF m 4 #[.val (.ref r0)] [(.ref w_DATE), (.ref r0)])) X1 hx rfl rfl rfl (pc0 := 4) (pc' := 28) (same := true) rfl (hb hby d_prog_69_method_6_code_4) rfl (decide_eq_true (congrArg Value.ref hc4)) (by decide) (by decide) ?_
      show Steps p.tables e below (T1.setTop (mkF m 28 #[.val (.ref r0)] [])) _
      refine XS.iconst X1.here hx rfl (hb hby d_prog_69_method_6_code_28) ?_
      show Steps p.tables e below (T1.setTop (mkF m 29 #[.val (.ref r0)] [(.int (1 : Int32))])) _
      refine XS.goto X1.here hx rfl (pc0 := 29) (pc' := 33) rfl (hb hby d_prog_69_method_6_code_29) (by decide) (by decide) ?_
      show Steps p.tables e below (T1.setTop (mkF m 33 #[.val (.ref r0)] [(.int (1 : Int32))])) _
      exact retN X1 hx (t := .boolean) Bd.returns (by simp) (hb hby d_prog_69_method_6_code_33) hr
    ·
      show Q_rm1 Z r0 w_DATE w_TIME w_TIMESTAMP w_DATETIME h0 n0 _ T1.heap _
      rw [e1]
      refine ⟨?_, N0, rfl⟩
      simp [own_in, hc4]
  ·
    obtain ⟨T3, X3, e3, st3⟩ := getS2 X1 hx hZ hown (host := "") (Or.inl (hw _ (List.mem_of_getElem? (i := 49) rfl))) Via.refl e1 S_TIME (g := (mkF m 8 #[.val (.ref r0)] [(.ref r0)])) rfl (hb hby d_prog_69_method_6_code_8)
    have K4 : ∀ t, Steps p.tables e below (T3.setTop (mkF m 11 #[.val (.ref r0)] [(.ref w_TIME), (.ref r0)])) t → Steps p.tables e below (s₁.setTop (entryFrame m #[(.ref r0)] 1)) t := by
      intro t kt
      refine K2 t ?_
      show Steps p.tables e below (T1.setTop (mkF m 4 #[.val (.ref r0)] [(.ref w_DATE), (.ref r0)])) _
      refine Jvm.RoadKit.acmp (g := (mkF m 4 #[.val (.ref r0)] [(.ref w_DATE), (.ref r0)])) X1 hx rfl rfl rfl (pc0 := 4) (pc' := 7) (same := false) rfl (hb hby d_prog_69_method_6_code_4) rfl (decide_eq_false fun q => hc4 (Value.ref.inj q)) (by decide) (by decide) ?_
      show Steps p.tables e below (T1.setTop (mkF m 7 #[.val (.ref r0)] [])) _
      refine XS.aloadN X1.here hx rfl (hb hby d_prog_69_method_6_code_7) rfl rfl ?_
      show Steps p.tables e below (T1.setTop (mkF m 8 #[.val (.ref r0)] [(.ref r0)])) _
      refine st3 _ ?_
      exact kt
    by_cases hc11 : r0 = w_TIME
    ·
      obtain ⟨fs, hr, hrun, hended, hW, hsame⟩ := X3.leave (v := some (.int (1 : Int32))) (fun h => by rw [Bd.returns] at h; cases h)
      refine ⟨_, _, K4 _ ?_, hrun, hended, _, _, rfl, ?_, ⟨_, rfl⟩, hW, hsame.mono (by decide) (by decide)⟩
      ·
        show Steps p.tables e below (T3.setTop (mkF m 11 #[.val (.ref r0)] [(.ref w_TIME), (.ref r0)])) _
        refine Jvm.RoadKit.acmp (g := (mkF m 11 #[.val (.ref r0)] [(.ref w_TIME), (.ref r0)])) X3 hx rfl rfl rfl (pc0 := 11) (pc' := 28) (same := true) rfl (hb hby d_prog_69_method_6_code_11) rfl (decide_eq_true (congrArg Value.ref hc11)) (by decide) (by decide) ?_
        show Steps p.tables e below (T3.setTop (mkF m 28 #[.val (.ref r0)] [])) _
        refine XS.iconst X3.here hx rfl (hb hby d_prog_69_method_6_code_28) ?_
        show Steps p.tables e below (T3.setTop (mkF m 29 #[.val (.ref r0)] [(.int (1 : Int32))])) _
        refine XS.goto X3.here hx rfl (pc0 := 29) (pc' := 33) rfl (hb hby d_prog_69_method_6_code_29) (by decide) (by decide) ?_
        show Steps p.tables e below (T3.setTop (mkF m 33 #[.val (.ref r0)] [(.int (1 : Int32))])) _
        exact retN X3 hx (t := .boolean) Bd.returns (by simp) (hb hby d_prog_69_method_6_code_33) hr
      ·
        show Q_rm1 Z r0 w_DATE w_TIME w_TIMESTAMP w_DATETIME h0 n0 _ T3.heap _
        rw [e3]
        refine ⟨?_, N0, rfl⟩
        simp [own_in, hc4, hc11]
    ·
      obtain ⟨T5, X5, e5, st5⟩ := getS2 X3 hx hZ hown (host := "") (Or.inl (hw _ (List.mem_of_getElem? (i := 50) rfl))) Via.refl e3 S_TIMESTAMP (g := (mkF m 15 #[.val (.ref r0)] [(.ref r0)])) rfl (hb hby d_prog_69_method_6_code_15)
      have K6 : ∀ t, Steps p.tables e below (T5.setTop (mkF m 18 #[.val (.ref r0)] [(.ref w_TIMESTAMP), (.ref r0)])) t → Steps p.tables e below (s₁.setTop (entryFrame m #[(.ref r0)] 1)) t := by
        intro t kt
        refine K4 t ?_
        show Steps p.tables e below (T3.setTop (mkF m 11 #[.val (.ref r0)] [(.ref w_TIME), (.ref r0)])) _
        refine Jvm.RoadKit.acmp (g := (mkF m 11 #[.val (.ref r0)] [(.ref w_TIME), (.ref r0)])) X3 hx rfl rfl rfl (pc0 := 11) (pc' := 14) (same := false) rfl (hb hby d_prog_69_method_6_code_11) rfl (decide_eq_false fun q => hc11 (Value.ref.inj q)) (by decide) (by decide) ?_
        show Steps p.tables e below (T3.setTop (mkF m 14 #[.val (.ref r0)] [])) _
        refine XS.aloadN X3.here hx rfl (hb hby d_prog_69_method_6_code_14) rfl rfl ?_
        show Steps p.tables e below (T3.setTop (mkF m 15 #[.val (.ref r0)] [(.ref r0)])) _
        refine st5 _ ?_
        exact kt
      by_cases hc18 : r0 = w_TIMESTAMP
      ·
        obtain ⟨fs, hr, hrun, hended, hW, hsame⟩ := X5.leave (v := some (.int (1 : Int32))) (fun h => by rw [Bd.returns] at h; cases h)
        refine ⟨_, _, K6 _ ?_, hrun, hended, _, _, rfl, ?_, ⟨_, rfl⟩, hW, hsame.mono (by decide) (by decide)⟩
        ·
          show Steps p.tables e below (T5.setTop (mkF m 18 #[.val (.ref r0)] [(.ref w_TIMESTAMP), (.ref r0)])) _
          refine Jvm.RoadKit.acmp (g := (mkF m 18 #[.val (.ref r0)] [(.ref w_TIMESTAMP), (.ref r0)])) X5 hx rfl rfl rfl (pc0 := 18) (pc' := 28) (same := true) rfl (hb hby d_prog_69_method_6_code_18) rfl (decide_eq_true (congrArg Value.ref hc18)) (by decide) (by decide) ?_
          show Steps p.tables e below (T5.setTop (mkF m 28 #[.val (.ref r0)] [])) _
          refine XS.iconst X5.here hx rfl (hb hby d_prog_69_method_6_code_28) ?_
          show Steps p.tables e below (T5.setTop (mkF m 29 #[.val (.ref r0)] [(.int (1 : Int32))])) _
          refine XS.goto X5.here hx rfl (pc0 := 29) (pc' := 33) rfl (hb hby d_prog_69_method_6_code_29) (by decide) (by decide) ?_
          show Steps p.tables e below (T5.setTop (mkF m 33 #[.val (.ref r0)] [(.int (1 : Int32))])) _
          exact retN X5 hx (t := .boolean) Bd.returns (by simp) (hb hby d_prog_69_method_6_code_33) hr
        ·
          show Q_rm1 Z r0 w_DATE w_TIME w_TIMESTAMP w_DATETIME h0 n0 _ T5.heap _
          rw [e5]
          refine ⟨?_, N0, rfl⟩
          simp [own_in, hc4, hc11, hc18]
      ·
        obtain ⟨T7, X7, e7, st7⟩ := getS2 X5 hx hZ hown (host := "") (Or.inl (hw _ (List.mem_of_getElem? (i := 51) rfl))) Via.refl e5 S_DATETIME (g := (mkF m 22 #[.val (.ref r0)] [(.ref r0)])) rfl (hb hby d_prog_69_method_6_code_22)
        have K8 : ∀ t, Steps p.tables e below (T7.setTop (mkF m 25 #[.val (.ref r0)] [(.ref w_DATETIME), (.ref r0)])) t → Steps p.tables e below (s₁.setTop (entryFrame m #[(.ref r0)] 1)) t := by
          intro t kt
          refine K6 t ?_
          show Steps p.tables e below (T5.setTop (mkF m 18 #[.val (.ref r0)] [(.ref w_TIMESTAMP), (.ref r0)])) _
          refine Jvm.RoadKit.acmp (g := (mkF m 18 #[.val (.ref r0)] [(.ref w_TIMESTAMP), (.ref r0)])) X5 hx rfl rfl rfl (pc0 := 18) (pc' := 21) (same := false) rfl (hb hby d_prog_69_method_6_code_18) rfl (decide_eq_false fun q => hc18 (Value.ref.inj q)) (by decide) (by decide) ?_
          show Steps p.tables e below (T5.setTop (mkF m 21 #[.val (.ref r0)] [])) _
          refine XS.aloadN X5.here hx rfl (hb hby d_prog_69_method_6_code_21) rfl rfl ?_
          show Steps p.tables e below (T5.setTop (mkF m 22 #[.val (.ref r0)] [(.ref r0)])) _
          refine st7 _ ?_
          exact kt
        by_cases hc25 : r0 = w_DATETIME
        ·
          obtain ⟨fs, hr, hrun, hended, hW, hsame⟩ := X7.leave (v := some (.int (1 : Int32))) (fun h => by rw [Bd.returns] at h; cases h)
          refine ⟨_, _, K8 _ ?_, hrun, hended, _, _, rfl, ?_, ⟨_, rfl⟩, hW, hsame.mono (by decide) (by decide)⟩
          ·
            show Steps p.tables e below (T7.setTop (mkF m 25 #[.val (.ref r0)] [(.ref w_DATETIME), (.ref r0)])) _
            refine Jvm.RoadKit.acmp (g := (mkF m 25 #[.val (.ref r0)] [(.ref w_DATETIME), (.ref r0)])) X7 hx rfl rfl rfl (pc0 := 25) (pc' := 28) (same := true) rfl (hb hby d_prog_69_method_6_code_25) rfl (decide_eq_true (congrArg Value.ref hc25)) (by decide) (by decide) ?_
            show Steps p.tables e below (T7.setTop (mkF m 28 #[.val (.ref r0)] [])) _
            refine XS.iconst X7.here hx rfl (hb hby d_prog_69_method_6_code_28) ?_
            show Steps p.tables e below (T7.setTop (mkF m 29 #[.val (.ref r0)] [(.int (1 : Int32))])) _
            refine XS.goto X7.here hx rfl (pc0 := 29) (pc' := 33) rfl (hb hby d_prog_69_method_6_code_29) (by decide) (by decide) ?_
            show Steps p.tables e below (T7.setTop (mkF m 33 #[.val (.ref r0)] [(.int (1 : Int32))])) _
            exact retN X7 hx (t := .boolean) Bd.returns (by simp) (hb hby d_prog_69_method_6_code_33) hr
          ·
            show Q_rm1 Z r0 w_DATE w_TIME w_TIMESTAMP w_DATETIME h0 n0 _ T7.heap _
            rw [e7]
            refine ⟨?_, N0, rfl⟩
            simp [own_in, hc4, hc11, hc18, hc25]
        ·
          obtain ⟨fs, hr, hrun, hended, hW, hsame⟩ := X7.leave (v := some (.int (0 : Int32))) (fun h => by rw [Bd.returns] at h; cases h)
          refine ⟨_, _, K8 _ ?_, hrun, hended, _, _, rfl, ?_, ⟨_, rfl⟩, hW, hsame.mono (by decide) (by decide)⟩
          ·
            show Steps p.tables e below (T7.setTop (mkF m 25 #[.val (.ref r0)] [(.ref w_DATETIME), (.ref r0)])) _
            refine Jvm.RoadKit.acmp (g := (mkF m 25 #[.val (.ref r0)] [(.ref w_DATETIME), (.ref r0)])) X7 hx rfl rfl rfl (pc0 := 25) (pc' := 32) (same := false) rfl (hb hby d_prog_69_method_6_code_25) rfl (decide_eq_false fun q => hc25 (Value.ref.inj q)) (by decide) (by decide) ?_
            show Steps p.tables e below (T7.setTop (mkF m 32 #[.val (.ref r0)] [])) _
            refine XS.iconst X7.here hx rfl (hb hby d_prog_69_method_6_code_32) ?_
            show Steps p.tables e below (T7.setTop (mkF m 33 #[.val (.ref r0)] [(.int (0 : Int32))])) _
            exact retN X7 hx (t := .boolean) Bd.returns (by simp) (hb hby d_prog_69_method_6_code_33) hr
          ·
            show Q_rm1 Z r0 w_DATE w_TIME w_TIMESTAMP w_DATETIME h0 n0 _ T7.heap _
            rw [e7]
            refine ⟨?_, N0, rfl⟩
            simp [own_in, hc4, hc11, hc18, hc25]
theorem pd_1 : parseMethodDescriptor "()Z" = some ⟨[], some .boolean⟩ := by decide +kernel
theorem pn_2 : plainName "com/example/keylint/keylint/SqlTypeIsTimePinLaw" = true := by first | (simp [plainName, overriddenIn]; done) | decide +kernel
theorem ef_rm0 (m : MethodId) (x0 : Int32) : entryFrame m #[(.int x0)] maxLocals = mkF m 0 #[.val (.int x0), .unset, .unset, .unset] [] := by first | (simp [entryFrame, mkF, argsToLocals, Value.category, maxLocals]; done) | rfl
def Q_rm0 (Z : State) (p0 : Int32) (w_TINYINT : Addr) (w_SMALLINT : Addr) (w_INT : Addr) (w_INTEGER : Addr) (w_BIGINT : Addr) (w_FLOAT : Addr) (w_DOUBLE : Addr) (w_DECIMAL : Addr) (w_BOOLEAN : Addr) (w_DATE : Addr) (w_TIME : Addr) (w_TIMESTAMP : Addr) (w_DATETIME : Addr) (w_CHAR : Addr) (w_VARCHAR : Addr) (w_BINARY : Addr) (w_VARBINARY : Addr) (w_JSON : Addr) (w_OTHER : Addr) (h0 : Heap) (n0 : Nat) (v : Option Value) (h : Heap) (L : List Loc) : Prop := v = some (.int 1) ∧ Fr n0 L
set_option maxRecDepth 65536 in
set_option maxHeartbeats 40000000 in
theorem rm0 (l : Launch) (Z : State) (a0 : Array Value) (hw : ∀ d ∈ tables_1, d.before a0 Z = true) (ws : List Jvm.Cond) (p0 : Int32) (w_TINYINT : Addr) (w_SMALLINT : Addr) (w_INT : Addr) (w_INTEGER : Addr) (w_BIGINT : Addr) (w_FLOAT : Addr) (w_DOUBLE : Addr) (w_DECIMAL : Addr) (w_BOOLEAN : Addr) (w_DATE : Addr) (w_TIME : Addr) (w_TIMESTAMP : Addr) (w_DATETIME : Addr) (w_CHAR : Addr) (w_VARCHAR : Addr) (w_BINARY : Addr) (w_VARBINARY : Addr) (w_JSON : Addr) (w_OTHER : Addr) (h0 : Heap) (n0 : Nat) (Z0 : n0 ≤ h0.size) (S_TINYINT : Sta Z Z.heap "com/example/keylint/keylint/SqlType" "TINYINT" "Lcom/example/keylint/keylint/SqlType;" (.ref w_TINYINT)) (S_SMALLINT : Sta Z Z.heap "com/example/keylint/keylint/SqlType" "SMALLINT" "Lcom/example/keylint/keylint/SqlType;" (.ref w_SMALLINT)) (S_INT : Sta Z Z.heap "com/example/keylint/keylint/SqlType" "INT" "Lcom/example/keylint/keylint/SqlType;" (.ref w_INT)) (S_INTEGER : Sta Z Z.heap "com/example/keylint/keylint/SqlType" "INTEGER" "Lcom/example/keylint/keylint/SqlType;" (.ref w_INTEGER)) (S_BIGINT : Sta Z Z.heap "com/example/keylint/keylint/SqlType" "BIGINT" "Lcom/example/keylint/keylint/SqlType;" (.ref w_BIGINT)) (S_FLOAT : Sta Z Z.heap "com/example/keylint/keylint/SqlType" "FLOAT" "Lcom/example/keylint/keylint/SqlType;" (.ref w_FLOAT)) (S_DOUBLE : Sta Z Z.heap "com/example/keylint/keylint/SqlType" "DOUBLE" "Lcom/example/keylint/keylint/SqlType;" (.ref w_DOUBLE)) (S_DECIMAL : Sta Z Z.heap "com/example/keylint/keylint/SqlType" "DECIMAL" "Lcom/example/keylint/keylint/SqlType;" (.ref w_DECIMAL)) (S_BOOLEAN : Sta Z Z.heap "com/example/keylint/keylint/SqlType" "BOOLEAN" "Lcom/example/keylint/keylint/SqlType;" (.ref w_BOOLEAN)) (S_DATE : Sta Z Z.heap "com/example/keylint/keylint/SqlType" "DATE" "Lcom/example/keylint/keylint/SqlType;" (.ref w_DATE)) (S_TIME : Sta Z Z.heap "com/example/keylint/keylint/SqlType" "TIME" "Lcom/example/keylint/keylint/SqlType;" (.ref w_TIME)) (S_TIMESTAMP : Sta Z Z.heap "com/example/keylint/keylint/SqlType" "TIMESTAMP" "Lcom/example/keylint/keylint/SqlType;" (.ref w_TIMESTAMP)) (S_DATETIME : Sta Z Z.heap "com/example/keylint/keylint/SqlType" "DATETIME" "Lcom/example/keylint/keylint/SqlType;" (.ref w_DATETIME)) (S_CHAR : Sta Z Z.heap "com/example/keylint/keylint/SqlType" "CHAR" "Lcom/example/keylint/keylint/SqlType;" (.ref w_CHAR)) (S_VARCHAR : Sta Z Z.heap "com/example/keylint/keylint/SqlType" "VARCHAR" "Lcom/example/keylint/keylint/SqlType;" (.ref w_VARCHAR)) (S_BINARY : Sta Z Z.heap "com/example/keylint/keylint/SqlType" "BINARY" "Lcom/example/keylint/keylint/SqlType;" (.ref w_BINARY)) (S_VARBINARY : Sta Z Z.heap "com/example/keylint/keylint/SqlType" "VARBINARY" "Lcom/example/keylint/keylint/SqlType;" (.ref w_VARBINARY)) (S_JSON : Sta Z Z.heap "com/example/keylint/keylint/SqlType" "JSON" "Lcom/example/keylint/keylint/SqlType;" (.ref w_JSON)) (S_OTHER : Sta Z Z.heap "com/example/keylint/keylint/SqlType" "OTHER" "Lcom/example/keylint/keylint/SqlType;" (.ref w_OTHER)) (E_w_TINYINT : Exa Z Z.heap w_TINYINT "com/example/keylint/keylint/SqlType") (E_w_SMALLINT : Exa Z Z.heap w_SMALLINT "com/example/keylint/keylint/SqlType") (E_w_INT : Exa Z Z.heap w_INT "com/example/keylint/keylint/SqlType") (E_w_INTEGER : Exa Z Z.heap w_INTEGER "com/example/keylint/keylint/SqlType") (E_w_BIGINT : Exa Z Z.heap w_BIGINT "com/example/keylint/keylint/SqlType") (E_w_FLOAT : Exa Z Z.heap w_FLOAT "com/example/keylint/keylint/SqlType") (E_w_DOUBLE : Exa Z Z.heap w_DOUBLE "com/example/keylint/keylint/SqlType") (E_w_DECIMAL : Exa Z Z.heap w_DECIMAL "com/example/keylint/keylint/SqlType") (E_w_BOOLEAN : Exa Z Z.heap w_BOOLEAN "com/example/keylint/keylint/SqlType") (E_w_DATE : Exa Z Z.heap w_DATE "com/example/keylint/keylint/SqlType") (E_w_TIME : Exa Z Z.heap w_TIME "com/example/keylint/keylint/SqlType") (E_w_TIMESTAMP : Exa Z Z.heap w_TIMESTAMP "com/example/keylint/keylint/SqlType") (E_w_DATETIME : Exa Z Z.heap w_DATETIME "com/example/keylint/keylint/SqlType") (E_w_CHAR : Exa Z Z.heap w_CHAR "com/example/keylint/keylint/SqlType") (E_w_VARCHAR : Exa Z Z.heap w_VARCHAR "com/example/keylint/keylint/SqlType") (E_w_BINARY : Exa Z Z.heap w_BINARY "com/example/keylint/keylint/SqlType") (E_w_VARBINARY : Exa Z Z.heap w_VARBINARY "com/example/keylint/keylint/SqlType") (E_w_JSON : Exa Z Z.heap w_JSON "com/example/keylint/keylint/SqlType") (E_w_OTHER : Exa Z Z.heap w_OTHER "com/example/keylint/keylint/SqlType") (EX : ∀ a ∈ [w_TINYINT, w_SMALLINT, w_INT, w_INTEGER, w_BIGINT, w_FLOAT, w_DOUBLE, w_DECIMAL, w_BOOLEAN, w_DATE, w_TIME, w_TIMESTAMP, w_DATETIME, w_CHAR, w_VARCHAR, w_BINARY, w_VARBINARY, w_JSON, w_OTHER], Exa Z Z.heap a "com/example/keylint/keylint/SqlType") (OLD : Old Z n0 h0) (o_TINYINT : own_ord Z w_TINYINT = 0) (o_SMALLINT : own_ord Z w_SMALLINT = 1) (o_INT : own_ord Z w_INT = 2) (o_INTEGER : own_ord Z w_INTEGER = 3) (o_BIGINT : own_ord Z w_BIGINT = 4) (o_FLOAT : own_ord Z w_FLOAT = 5) (o_DOUBLE : own_ord Z w_DOUBLE = 6) (o_DECIMAL : own_ord Z w_DECIMAL = 7) (o_BOOLEAN : own_ord Z w_BOOLEAN = 8) (o_DATE : own_ord Z w_DATE = 9) (o_TIME : own_ord Z w_TIME = 10) (o_TIMESTAMP : own_ord Z w_TIMESTAMP = 11) (o_DATETIME : own_ord Z w_DATETIME = 12) (o_CHAR : own_ord Z w_CHAR = 13) (o_VARCHAR : own_ord Z w_VARCHAR = 14) (o_BINARY : own_ord Z w_BINARY = 15) (o_VARBINARY : own_ord Z w_VARBINARY = 16) (o_JSON : own_ord Z w_JSON = 17) (o_OTHER : own_ord Z w_OTHER = 18) :
    MetFree l x (head1 (Jvm.Cond.code x code maxLocals ret :: ws) room_1) (fun a U => a = #[(.int p0)] ∧ Z.Warmed39 U.vm ∧ U.heap = h0) (fun _ _ _ _ _ => True) (fun _ U o U' => ∃ v L, o = .returned v ∧ Q_rm0 Z p0 w_TINYINT w_SMALLINT w_INT w_INTEGER w_BIGINT w_FLOAT w_DOUBLE w_DECIMAL w_BOOLEAN w_DATE w_TIME w_TIMESTAMP w_DATETIME w_CHAR w_VARCHAR w_BINARY w_VARBINARY w_JSON w_OTHER h0 n0 v U'.heap L ∧ FrameEnd U o U' L room_1.cells room_1.slots) := by
  refine MetFree.of_bodySF (plainFor_of_name pn_2) hisR ?_
  intro p e s m args below meth c s₁ Bd hml0 hP hK
  obtain ⟨rfl, hZ, hh⟩ := hP
  have hx := Bd.exec
  have hby := Bd.bytes
  have hml : c.maxLocals = 4 := hml0
  have hown : s.vm.findClass "com/example/keylint/keylint/SqlTypeIsTimePinLaw" = some m.cls := findClass_of_methodNamed Bd.named
  have hnm := (name_of_methodNamed Bd.named Bd.method).1
  have X0 : Stand p l e room_1 s m #[(.int p0)] below meth c s₁ [] 0 0 := Stand.of_body Bd
  have e0 : s₁.heap = h0 := by rw [← hh, Bd.state]; rfl
  have N0 := Fr.nil n0
  have Zn := Z0
  have K0 : ∀ t, Steps p.tables e below (s₁.setTop (mkF m 0 #[.val (.int p0), .unset, .unset, .unset] [])) t → Steps p.tables e below (s₁.setTop (entryFrame m #[(.int p0)] maxLocals)) t := fun t k => castTop (ef_rm0 m p0) k
  obtain ⟨T1, h1, k1, X1, e1, E1, A1, O1, st1⟩ := newR X0 hx hZ hown (hw _ (List.mem_of_getElem? (i := 0) rfl)) (hw _ (List.mem_of_getElem? (i := 1) rfl)) e0 (g := (mkF m 2 #[.val (.int p0), .unset, .unset, .unset] [(.int (19 : Int32))])) rfl (hb hby at_2) rfl (by decide) (cap := 19) (by decide) (by decide) (by decide) (by decide)
  obtain ⟨b1, g1⟩ : ∃ z, z = h0.size := ⟨_, rfl⟩
  rw [← g1] at A1 st1
  have g_b1 : n0 ≤ b1 := Nat.le_trans Zn (Nat.le_of_eq g1.symm)
  have OLD := OLD.ext E1
  have Zn := Nat.le_trans Zn E1.1
  have V_b1 : Arv Z h1 b1 k1 (.object "com/example/keylint/keylint/SqlType") (19 : Int32) [.null, .null, .null, .null, .null, .null, .null, .null, .null, .null, .null, .null, .null, .null, .null, .null, .null, .null, .null] .null := (Arv.new A1 (by decide)).pad (pad_rep [] .null 19)
  obtain ⟨T2, X2, e2, st2⟩ := getS2 X1 hx hZ hown (host := "") (Or.inl (hw _ (List.mem_of_getElem? (i := 2) rfl))) Via.refl e1 (S_TINYINT.ext OLD.2) (g := (mkF m 7 #[.val (.int p0), .unset, .unset, .unset] [(.int (0 : Int32)), (.ref b1), (.ref b1)])) rfl (hb hby at_7)
  obtain ⟨cl3, Ar3, q3, S3, N3z, H3, G3⟩ := V_b1
  have hin3 : ¬ ((0 : Int32) < 0 ∨ cl3.slots.size ≤ ((0 : Int32)).toNatClampNeg) := inb_of S3 ⟨by decide, by decide⟩
  obtain ⟨T3, h3, X3, e3, W3, st3⟩ := stR X2 hx hZ e2 Ar3 (j := (0 : Int32)) hin3 rfl (Sto.ofV Ar3 q3 O1 (Ins.self (E_w_TINYINT.ext OLD.2))) (g := (mkF m 10 #[.val (.int p0), .unset, .unset, .unset] [(.ref w_TINYINT), (.int (0 : Int32)), (.ref b1), (.ref b1)])) rfl rfl (hb hby at_10)
  have OLD := OLD.wr W3 g_b1
  have V_b1 : Arv Z h3 b1 k1 (.object "com/example/keylint/keylint/SqlType") (19 : Int32) [(.ref w_TINYINT), .null, .null, .null, .null, .null, .null, .null, .null, .null, .null, .null, .null, .null, .null, .null, .null, .null, .null] .null := Arv.set Ar3 q3 S3 N3z H3 G3 rfl W3 0 rfl (Nat.le_of_ble_eq_true rfl)
  have Zn := Nat.le_trans Zn (Keep.of_wr W3).1
  have N3 := Fr.snoc X3 N0 g_b1
  obtain ⟨T4, X4, e4, st4⟩ := getS2 X3 hx hZ hown (host := "") (Or.inl (hw _ (List.mem_of_getElem? (i := 6) rfl))) Via.refl e3 (S_SMALLINT.ext OLD.2) (g := (mkF m 13 #[.val (.int p0), .unset, .unset, .unset] [(.int (1 : Int32)), (.ref b1), (.ref b1)])) rfl (hb hby at_13)
  obtain ⟨cl5, Ar5, q5, S5, N5z, H5, G5⟩ := V_b1
  have hin5 : ¬ ((1 : Int32) < 0 ∨ cl5.slots.size ≤ ((1 : Int32)).toNatClampNeg) := inb_of S5 ⟨by decide, by decide⟩
  obtain ⟨T5, h5, X5, e5, W5, st5⟩ := stR X4 hx hZ e4 Ar5 (j := (1 : Int32)) hin5 rfl (Sto.ofV Ar5 q5 O1 (Ins.self (E_w_SMALLINT.ext OLD.2))) (g := (mkF m 16 #[.val (.int p0), .unset, .unset, .unset] [(.ref w_SMALLINT), (.int (1 : Int32)), (.ref b1), (.ref b1)])) rfl rfl (hb hby at_16)
  have OLD := OLD.wr W5 g_b1
  have V_b1 : Arv Z h5 b1 k1 (.object "com/example/keylint/keylint/SqlType") (19 : Int32) [(.ref w_TINYINT), (.ref w_SMALLINT), .null, .null, .null, .null, .null, .null, .null, .null, .null, .null, .null, .null, .null, .null, .null, .null, .null] .null := Arv.set Ar5 q5 S5 N5z H5 G5 rfl W5 1 rfl (Nat.le_of_ble_eq_true rfl)
  have Zn := Nat.le_trans Zn (Keep.of_wr W5).1
  have N5 := Fr.snoc X5 N3 g_b1
  obtain ⟨T6, X6, e6, st6⟩ := getS2 X5 hx hZ hown (host := "") (Or.inl (hw _ (List.mem_of_getElem? (i := 8) rfl))) Via.refl e5 (S_INT.ext OLD.2) (g := (mkF m 19 #[.val (.int p0), .unset, .unset, .unset] [(.int (2 : Int32)), (.ref b1), (.ref b1)])) rfl (hb hby at_19)
  obtain ⟨cl7, Ar7, q7, S7, N7z, H7, G7⟩ := V_b1
  have hin7 : ¬ ((2 : Int32) < 0 ∨ cl7.slots.size ≤ ((2 : Int32)).toNatClampNeg) := inb_of S7 ⟨by decide, by decide⟩
  obtain ⟨T7, h7, X7, e7, W7, st7⟩ := stR X6 hx hZ e6 Ar7 (j := (2 : Int32)) hin7 rfl (Sto.ofV Ar7 q7 O1 (Ins.self (E_w_INT.ext OLD.2))) (g := (mkF m 22 #[.val (.int p0), .unset, .unset, .unset] [(.ref w_INT), (.int (2 : Int32)), (.ref b1), (.ref b1)])) rfl rfl (hb hby at_22)
  have OLD := OLD.wr W7 g_b1
  have V_b1 : Arv Z h7 b1 k1 (.object "com/example/keylint/keylint/SqlType") (19 : Int32) [(.ref w_TINYINT), (.ref w_SMALLINT), (.ref w_INT), .null, .null, .null, .null, .null, .null, .null, .null, .null, .null, .null, .null, .null, .null, .null, .null] .null := Arv.set Ar7 q7 S7 N7z H7 G7 rfl W7 2 rfl (Nat.le_of_ble_eq_true rfl)
  have Zn := Nat.le_trans Zn (Keep.of_wr W7).1
  have N7 := Fr.snoc X7 N5 g_b1
  obtain ⟨T8, X8, e8, st8⟩ := getS2 X7 hx hZ hown (host := "") (Or.inl (hw _ (List.mem_of_getElem? (i := 10) rfl))) Via.refl e7 (S_INTEGER.ext OLD.2) (g := (mkF m 25 #[.val (.int p0), .unset, .unset, .unset] [(.int (3 : Int32)), (.ref b1), (.ref b1)])) rfl (hb hby at_25)
  obtain ⟨cl9, Ar9, q9, S9, N9z, H9, G9⟩ := V_b1
  have hin9 : ¬ ((3 : Int32) < 0 ∨ cl9.slots.size ≤ ((3 : Int32)).toNatClampNeg) := inb_of S9 ⟨by decide, by decide⟩
  obtain ⟨T9, h9, X9, e9, W9, st9⟩ := stR X8 hx hZ e8 Ar9 (j := (3 : Int32)) hin9 rfl (Sto.ofV Ar9 q9 O1 (Ins.self (E_w_INTEGER.ext OLD.2))) (g := (mkF m 28 #[.val (.int p0), .unset, .unset, .unset] [(.ref w_INTEGER), (.int (3 : Int32)), (.ref b1), (.ref b1)])) rfl rfl (hb hby at_28)
  have OLD := OLD.wr W9 g_b1
  have V_b1 : Arv Z h9 b1 k1 (.object "com/example/keylint/keylint/SqlType") (19 : Int32) [(.ref w_TINYINT), (.ref w_SMALLINT), (.ref w_INT), (.ref w_INTEGER), .null, .null, .null, .null, .null, .null, .null, .null, .null, .null, .null, .null, .null, .null, .null] .null := Arv.set Ar9 q9 S9 N9z H9 G9 rfl W9 3 rfl (Nat.le_of_ble_eq_true rfl)
  have Zn := Nat.le_trans Zn (Keep.of_wr W9).1
  have N9 := Fr.snoc X9 N7 g_b1
  obtain ⟨T10, X10, e10, st10⟩ := getS2 X9 hx hZ hown (host := "") (Or.inl (hw _ (List.mem_of_getElem? (i := 12) rfl))) Via.refl e9 (S_BIGINT.ext OLD.2) (g := (mkF m 31 #[.val (.int p0), .unset, .unset, .unset] [(.int (4 : Int32)), (.ref b1), (.ref b1)])) rfl (hb hby at_31)
  obtain ⟨cl11, Ar11, q11, S11, N11z, H11, G11⟩ := V_b1
  have hin11 : ¬ ((4 : Int32) < 0 ∨ cl11.slots.size ≤ ((4 : Int32)).toNatClampNeg) := inb_of S11 ⟨by decide, by decide⟩
  obtain ⟨T11, h11, X11, e11, W11, st11⟩ := stR X10 hx hZ e10 Ar11 (j := (4 : Int32)) hin11 rfl (Sto.ofV Ar11 q11 O1 (Ins.self (E_w_BIGINT.ext OLD.2))) (g := (mkF m 34 #[.val (.int p0), .unset, .unset, .unset] [(.ref w_BIGINT), (.int (4 : Int32)), (.ref b1), (.ref b1)])) rfl rfl (hb hby at_34)
  have OLD := OLD.wr W11 g_b1
  have V_b1 : Arv Z h11 b1 k1 (.object "com/example/keylint/keylint/SqlType") (19 : Int32) [(.ref w_TINYINT), (.ref w_SMALLINT), (.ref w_INT), (.ref w_INTEGER), (.ref w_BIGINT), .null, .null, .null, .null, .null, .null, .null, .null, .null, .null, .null, .null, .null, .null] .null := Arv.set Ar11 q11 S11 N11z H11 G11 rfl W11 4 rfl (Nat.le_of_ble_eq_true rfl)
  have Zn := Nat.le_trans Zn (Keep.of_wr W11).1
  have N11 := Fr.snoc X11 N9 g_b1
  obtain ⟨T12, X12, e12, st12⟩ := getS2 X11 hx hZ hown (host := "") (Or.inl (hw _ (List.mem_of_getElem? (i := 14) rfl))) Via.refl e11 (S_FLOAT.ext OLD.2) (g := (mkF m 37 #[.val (.int p0), .unset, .unset, .unset] [(.int (5 : Int32)), (.ref b1), (.ref b1)])) rfl (hb hby at_37)
  obtain ⟨cl13, Ar13, q13, S13, N13z, H13, G13⟩ := V_b1
  have hin13 : ¬ ((5 : Int32) < 0 ∨ cl13.slots.size ≤ ((5 : Int32)).toNatClampNeg) := inb_of S13 ⟨by decide, by decide⟩
  obtain ⟨T13, h13, X13, e13, W13, st13⟩ := stR X12 hx hZ e12 Ar13 (j := (5 : Int32)) hin13 rfl (Sto.ofV Ar13 q13 O1 (Ins.self (E_w_FLOAT.ext OLD.2))) (g := (mkF m 40 #[.val (.int p0), .unset, .unset, .unset] [(.ref w_FLOAT), (.int (5 : Int32)), (.ref b1), (.ref b1)])) rfl rfl (hb hby at_40)
  have OLD := OLD.wr W13 g_b1
  have V_b1 : Arv Z h13 b1 k1 (.object "com/example/keylint/keylint/SqlType") (19 : Int32) [(.ref w_TINYINT), (.ref w_SMALLINT), (.ref w_INT), (.ref w_INTEGER), (.ref w_BIGINT), (.ref w_FLOAT), .null, .null, .null, .null, .null, .null, .null, .null, .null, .null, .null, .null, .null] .null := Arv.set Ar13 q13 S13 N13z H13 G13 rfl W13 5 rfl (Nat.le_of_ble_eq_true rfl)
  have Zn := Nat.le_trans Zn (Keep.of_wr W13).1
  have N13 := Fr.snoc X13 N11 g_b1
  obtain ⟨T14, X14, e14, st14⟩ := getS2 X13 hx hZ hown (host := "") (Or.inl (hw _ (List.mem_of_getElem? (i := 16) rfl))) Via.refl e13 (S_DOUBLE.ext OLD.2) (g := (mkF m 44 #[.val (.int p0), .unset, .unset, .unset] [(.int (6 : Int32)), (.ref b1), (.ref b1)])) rfl (hb hby at_44)
  obtain ⟨cl15, Ar15, q15, S15, N15z, H15, G15⟩ := V_b1
  have hin15 : ¬ ((6 : Int32) < 0 ∨ cl15.slots.size ≤ ((6 : Int32)).toNatClampNeg) := inb_of S15 ⟨by decide, by decide⟩
  obtain ⟨T15, h15, X15, e15, W15, st15⟩ := stR X14 hx hZ e14 Ar15 (j := (6 : Int32)) hin15 rfl (Sto.ofV Ar15 q15 O1 (Ins.self (E_w_DOUBLE.ext OLD.2))) (g := (mkF m 47 #[.val (.int p0), .unset, .unset, .unset] [(.ref w_DOUBLE), (.int (6 : Int32)), (.ref b1), (.ref b1)])) rfl rfl (hb hby at_47)
  have OLD := OLD.wr W15 g_b1
  have V_b1 : Arv Z h15 b1 k1 (.object "com/example/keylint/keylint/SqlType") (19 : Int32) [(.ref w_TINYINT), (.ref w_SMALLINT), (.ref w_INT), (.ref w_INTEGER), (.ref w_BIGINT), (.ref w_FLOAT), (.ref w_DOUBLE), .null, .null, .null, .null, .null, .null, .null, .null, .null, .null, .null, .null] .null := Arv.set Ar15 q15 S15 N15z H15 G15 rfl W15 6 rfl (Nat.le_of_ble_eq_true rfl)
  have Zn := Nat.le_trans Zn (Keep.of_wr W15).1
  have N15 := Fr.snoc X15 N13 g_b1
  obtain ⟨T16, X16, e16, st16⟩ := getS2 X15 hx hZ hown (host := "") (Or.inl (hw _ (List.mem_of_getElem? (i := 18) rfl))) Via.refl e15 (S_DECIMAL.ext OLD.2) (g := (mkF m 51 #[.val (.int p0), .unset, .unset, .unset] [(.int (7 : Int32)), (.ref b1), (.ref b1)])) rfl (hb hby at_51)
  obtain ⟨cl17, Ar17, q17, S17, N17z, H17, G17⟩ := V_b1
  have hin17 : ¬ ((7 : Int32) < 0 ∨ cl17.slots.size ≤ ((7 : Int32)).toNatClampNeg) := inb_of S17 ⟨by decide, by decide⟩
  obtain ⟨T17, h17, X17, e17, W17, st17⟩ := stR X16 hx hZ e16 Ar17 (j := (7 : Int32)) hin17 rfl (Sto.ofV Ar17 q17 O1 (Ins.self (E_w_DECIMAL.ext OLD.2))) (g := (mkF m 54 #[.val (.int p0), .unset, .unset, .unset] [(.ref w_DECIMAL), (.int (7 : Int32)), (.ref b1), (.ref b1)])) rfl rfl (hb hby at_54)
  have OLD := OLD.wr W17 g_b1
  have V_b1 : Arv Z h17 b1 k1 (.object "com/example/keylint/keylint/SqlType") (19 : Int32) [(.ref w_TINYINT), (.ref w_SMALLINT), (.ref w_INT), (.ref w_INTEGER), (.ref w_BIGINT), (.ref w_FLOAT), (.ref w_DOUBLE), (.ref w_DECIMAL), .null, .null, .null, .null, .null, .null, .null, .null, .null, .null, .null] .null := Arv.set Ar17 q17 S17 N17z H17 G17 rfl W17 7 rfl (Nat.le_of_ble_eq_true rfl)
  have Zn := Nat.le_trans Zn (Keep.of_wr W17).1
  have N17 := Fr.snoc X17 N15 g_b1
  obtain ⟨T18, X18, e18, st18⟩ := getS2 X17 hx hZ hown (host := "") (Or.inl (hw _ (List.mem_of_getElem? (i := 20) rfl))) Via.refl e17 (S_BOOLEAN.ext OLD.2) (g := (mkF m 58 #[.val (.int p0), .unset, .unset, .unset] [(.int (8 : Int32)), (.ref b1), (.ref b1)])) rfl (hb hby at_58)
  obtain ⟨cl19, Ar19, q19, S19, N19z, H19, G19⟩ := V_b1
  have hin19 : ¬ ((8 : Int32) < 0 ∨ cl19.slots.size ≤ ((8 : Int32)).toNatClampNeg) := inb_of S19 ⟨by decide, by decide⟩
  obtain ⟨T19, h19, X19, e19, W19, st19⟩ := stR X18 hx hZ e18 Ar19 (j := (8 : Int32)) hin19 rfl (Sto.ofV Ar19 q19 O1 (Ins.self (E_w_BOOLEAN.ext OLD.2))) (g := (mkF m 61 #[.val (.int p0), .unset, .unset, .unset] [(.ref w_BOOLEAN), (.int (8 : Int32)), (.ref b1), (.ref b1)])) rfl rfl (hb hby at_61)
  have OLD := OLD.wr W19 g_b1
  have V_b1 : Arv Z h19 b1 k1 (.object "com/example/keylint/keylint/SqlType") (19 : Int32) [(.ref w_TINYINT), (.ref w_SMALLINT), (.ref w_INT), (.ref w_INTEGER), (.ref w_BIGINT), (.ref w_FLOAT), (.ref w_DOUBLE), (.ref w_DECIMAL), (.ref w_BOOLEAN), .null, .null, .null, .null, .null, .null, .null, .null, .null, .null] .null := Arv.set Ar19 q19 S19 N19z H19 G19 rfl W19 8 rfl (Nat.le_of_ble_eq_true rfl)
  have Zn := Nat.le_trans Zn (Keep.of_wr W19).1
  have N19 := Fr.snoc X19 N17 g_b1
  obtain ⟨T20, X20, e20, st20⟩ := getS2 X19 hx hZ hown (host := "") (Or.inl (hw _ (List.mem_of_getElem? (i := 22) rfl))) Via.refl e19 (S_DATE.ext OLD.2) (g := (mkF m 65 #[.val (.int p0), .unset, .unset, .unset] [(.int (9 : Int32)), (.ref b1), (.ref b1)])) rfl (hb hby at_65)
  obtain ⟨cl21, Ar21, q21, S21, N21z, H21, G21⟩ := V_b1
  have hin21 : ¬ ((9 : Int32) < 0 ∨ cl21.slots.size ≤ ((9 : Int32)).toNatClampNeg) := inb_of S21 ⟨by decide, by decide⟩
  obtain ⟨T21, h21, X21, e21, W21, st21⟩ := stR X20 hx hZ e20 Ar21 (j := (9 : Int32)) hin21 rfl (Sto.ofV Ar21 q21 O1 (Ins.self (E_w_DATE.ext OLD.2))) (g := (mkF m 68 #[.val (.int p0), .unset, .unset, .unset] [(.ref w_DATE), (.int (9 : Int32)), (.ref b1), (.ref b1)])) rfl rfl (hb hby at_68)
  have OLD := OLD.wr W21 g_b1
  have V_b1 : Arv Z h21 b1 k1 (.object "com/example/keylint/keylint/SqlType") (19 : Int32) [(.ref w_TINYINT), (.ref w_SMALLINT), (.ref w_INT), (.ref w_INTEGER), (.ref w_BIGINT), (.ref w_FLOAT), (.ref w_DOUBLE), (.ref w_DECIMAL), (.ref w_BOOLEAN), (.ref w_DATE), .null, .null, .null, .null, .null, .null, .null, .null, .null] .null := Arv.set Ar21 q21 S21 N21z H21 G21 rfl W21 9 rfl (Nat.le_of_ble_eq_true rfl)
  have Zn := Nat.le_trans Zn (Keep.of_wr W21).1
  have N21 := Fr.snoc X21 N19 g_b1
  obtain ⟨T22, X22, e22, st22⟩ := getS2 X21 hx hZ hown (host := "") (Or.inl (hw _ (List.mem_of_getElem? (i := 24) rfl))) Via.refl e21 (S_TIME.ext OLD.2) (g := (mkF m 72 #[.val (.int p0), .unset, .unset, .unset] [(.int (10 : Int32)), (.ref b1), (.ref b1)])) rfl (hb hby at_72)
  obtain ⟨cl23, Ar23, q23, S23, N23z, H23, G23⟩ := V_b1
  have hin23 : ¬ ((10 : Int32) < 0 ∨ cl23.slots.size ≤ ((10 : Int32)).toNatClampNeg) := inb_of S23 ⟨by decide, by decide⟩
  obtain ⟨T23, h23, X23, e23, W23, st23⟩ := stR X22 hx hZ e22 Ar23 (j := (10 : Int32)) hin23 rfl (Sto.ofV Ar23 q23 O1 (Ins.self (E_w_TIME.ext OLD.2))) (g := (mkF m 75 #[.val (.int p0), .unset, .unset, .unset] [(.ref w_TIME), (.int (10 : Int32)), (.ref b1), (.ref b1)])) rfl rfl (hb hby at_75)
  have OLD := OLD.wr W23 g_b1
  have V_b1 : Arv Z h23 b1 k1 (.object "com/example/keylint/keylint/SqlType") (19 : Int32) [(.ref w_TINYINT), (.ref w_SMALLINT), (.ref w_INT), (.ref w_INTEGER), (.ref w_BIGINT), (.ref w_FLOAT), (.ref w_DOUBLE), (.ref w_DECIMAL), (.ref w_BOOLEAN), (.ref w_DATE), (.ref w_TIME), .null, .null, .null, .null, .null, .null, .null, .null] .null := Arv.set Ar23 q23 S23 N23z H23 G23 rfl W23 10 rfl (Nat.le_of_ble_eq_true rfl)
  have Zn := Nat.le_trans Zn (Keep.of_wr W23).1
  have N23 := Fr.snoc X23 N21 g_b1
  obtain ⟨T24, X24, e24, st24⟩ := getS2 X23 hx hZ hown (host := "") (Or.inl (hw _ (List.mem_of_getElem? (i := 26) rfl))) Via.refl e23 (S_TIMESTAMP.ext OLD.2) (g := (mkF m 79 #[.val (.int p0), .unset, .unset, .unset] [(.int (11 : Int32)), (.ref b1), (.ref b1)])) rfl (hb hby at_79)
  obtain ⟨cl25, Ar25, q25, S25, N25z, H25, G25⟩ := V_b1
  have hin25 : ¬ ((11 : Int32) < 0 ∨ cl25.slots.size ≤ ((11 : Int32)).toNatClampNeg) := inb_of S25 ⟨by decide, by decide⟩
  obtain ⟨T25, h25, X25, e25, W25, st25⟩ := stR X24 hx hZ e24 Ar25 (j := (11 : Int32)) hin25 rfl (Sto.ofV Ar25 q25 O1 (Ins.self (E_w_TIMESTAMP.ext OLD.2))) (g := (mkF m 82 #[.val (.int p0), .unset, .unset, .unset] [(.ref w_TIMESTAMP), (.int (11 : Int32)), (.ref b1), (.ref b1)])) rfl rfl (hb hby at_82)
  have OLD := OLD.wr W25 g_b1
  have V_b1 : Arv Z h25 b1 k1 (.object "com/example/keylint/keylint/SqlType") (19 : Int32) [(.ref w_TINYINT), (.ref w_SMALLINT), (.ref w_INT), (.ref w_INTEGER), (.ref w_BIGINT), (.ref w_FLOAT), (.ref w_DOUBLE), (.ref w_DECIMAL), (.ref w_BOOLEAN), (.ref w_DATE), (.ref w_TIME), (.ref w_TIMESTAMP), .null, .null, .null, .null, .null, .null, .null] .null := Arv.set Ar25 q25 S25 N25z H25 G25 rfl W25 11 rfl (Nat.le_of_ble_eq_true rfl)
  have Zn := Nat.le_trans Zn (Keep.of_wr W25).1
  have N25 := Fr.snoc X25 N23 g_b1
  obtain ⟨T26, X26, e26, st26⟩ := getS2 X25 hx hZ hown (host := "") (Or.inl (hw _ (List.mem_of_getElem? (i := 28) rfl))) Via.refl e25 (S_DATETIME.ext OLD.2) (g := (mkF m 86 #[.val (.int p0), .unset, .unset, .unset] [(.int (12 : Int32)), (.ref b1), (.ref b1)])) rfl (hb hby at_86)
  obtain ⟨cl27, Ar27, q27, S27, N27z, H27, G27⟩ := V_b1
  have hin27 : ¬ ((12 : Int32) < 0 ∨ cl27.slots.size ≤ ((12 : Int32)).toNatClampNeg) := inb_of S27 ⟨by decide, by decide⟩
  obtain ⟨T27, h27, X27, e27, W27, st27⟩ := stR X26 hx hZ e26 Ar27 (j := (12 : Int32)) hin27 rfl (Sto.ofV Ar27 q27 O1 (Ins.self (E_w_DATETIME.ext OLD.2))) (g := (mkF m 89 #[.val (.int p0), .unset, .unset, .unset] [(.ref w_DATETIME), (.int (12 : Int32)), (.ref b1), (.ref b1)])) rfl rfl (hb hby at_89)
  have OLD := OLD.wr W27 g_b1
  have V_b1 : Arv Z h27 b1 k1 (.object "com/example/keylint/keylint/SqlType") (19 : Int32) [(.ref w_TINYINT), (.ref w_SMALLINT), (.ref w_INT), (.ref w_INTEGER), (.ref w_BIGINT), (.ref w_FLOAT), (.ref w_DOUBLE), (.ref w_DECIMAL), (.ref w_BOOLEAN), (.ref w_DATE), (.ref w_TIME), (.ref w_TIMESTAMP), (.ref w_DATETIME), .null, .null, .null, .null, .null, .null] .null := Arv.set Ar27 q27 S27 N27z H27 G27 rfl W27 12 rfl (Nat.le_of_ble_eq_true rfl)
  have Zn := Nat.le_trans Zn (Keep.of_wr W27).1
  have N27 := Fr.snoc X27 N25 g_b1
  obtain ⟨T28, X28, e28, st28⟩ := getS2 X27 hx hZ hown (host := "") (Or.inl (hw _ (List.mem_of_getElem? (i := 30) rfl))) Via.refl e27 (S_CHAR.ext OLD.2) (g := (mkF m 93 #[.val (.int p0), .unset, .unset, .unset] [(.int (13 : Int32)), (.ref b1), (.ref b1)])) rfl (hb hby at_93)
  obtain ⟨cl29, Ar29, q29, S29, N29z, H29, G29⟩ := V_b1
  have hin29 : ¬ ((13 : Int32) < 0 ∨ cl29.slots.size ≤ ((13 : Int32)).toNatClampNeg) := inb_of S29 ⟨by decide, by decide⟩
  obtain ⟨T29, h29, X29, e29, W29, st29⟩ := stR X28 hx hZ e28 Ar29 (j := (13 : Int32)) hin29 rfl (Sto.ofV Ar29 q29 O1 (Ins.self (E_w_CHAR.ext OLD.2))) (g := (mkF m 96 #[.val (.int p0), .unset, .unset, .unset] [(.ref w_CHAR), (.int (13 : Int32)), (.ref b1), (.ref b1)])) rfl rfl (hb hby at_96)
  have OLD := OLD.wr W29 g_b1
  have V_b1 : Arv Z h29 b1 k1 (.object "com/example/keylint/keylint/SqlType") (19 : Int32) [(.ref w_TINYINT), (.ref w_SMALLINT), (.ref w_INT), (.ref w_INTEGER), (.ref w_BIGINT), (.ref w_FLOAT), (.ref w_DOUBLE), (.ref w_DECIMAL), (.ref w_BOOLEAN), (.ref w_DATE), (.ref w_TIME), (.ref w_TIMESTAMP), (.ref w_DATETIME), (.ref w_CHAR), .null, .null, .null, .null, .null] .null := Arv.set Ar29 q29 S29 N29z H29 G29 rfl W29 13 rfl (Nat.le_of_ble_eq_true rfl)
  have Zn := Nat.le_trans Zn (Keep.of_wr W29).1
  have N29 := Fr.snoc X29 N27 g_b1
  obtain ⟨T30, X30, e30, st30⟩ := getS2 X29 hx hZ hown (host := "") (Or.inl (hw _ (List.mem_of_getElem? (i := 32) rfl))) Via.refl e29 (S_VARCHAR.ext OLD.2) (g := (mkF m 100 #[.val (.int p0), .unset, .unset, .unset] [(.int (14 : Int32)), (.ref b1), (.ref b1)])) rfl (hb hby at_100)
  obtain ⟨cl31, Ar31, q31, S31, N31z, H31, G31⟩ := V_b1
  have hin31 : ¬ ((14 : Int32) < 0 ∨ cl31.slots.size ≤ ((14 : Int32)).toNatClampNeg) := inb_of S31 ⟨by decide, by decide⟩
  obtain ⟨T31, h31, X31, e31, W31, st31⟩ := stR X30 hx hZ e30 Ar31 (j := (14 : Int32)) hin31 rfl (Sto.ofV Ar31 q31 O1 (Ins.self (E_w_VARCHAR.ext OLD.2))) (g := (mkF m 103 #[.val (.int p0), .unset, .unset, .unset] [(.ref w_VARCHAR), (.int (14 : Int32)), (.ref b1), (.ref b1)])) rfl rfl (hb hby at_103)
  have OLD := OLD.wr W31 g_b1
  have V_b1 : Arv Z h31 b1 k1 (.object "com/example/keylint/keylint/SqlType") (19 : Int32) [(.ref w_TINYINT), (.ref w_SMALLINT), (.ref w_INT), (.ref w_INTEGER), (.ref w_BIGINT), (.ref w_FLOAT), (.ref w_DOUBLE), (.ref w_DECIMAL), (.ref w_BOOLEAN), (.ref w_DATE), (.ref w_TIME), (.ref w_TIMESTAMP), (.ref w_DATETIME), (.ref w_CHAR), (.ref w_VARCHAR), .null, .null, .null, .null] .null := Arv.set Ar31 q31 S31 N31z H31 G31 rfl W31 14 rfl (Nat.le_of_ble_eq_true rfl)
  have Zn := Nat.le_trans Zn (Keep.of_wr W31).1
  have N31 := Fr.snoc X31 N29 g_b1
  obtain ⟨T32, X32, e32, st32⟩ := getS2 X31 hx hZ hown (host := "") (Or.inl (hw _ (List.mem_of_getElem? (i := 34) rfl))) Via.refl e31 (S_BINARY.ext OLD.2) (g := (mkF m 107 #[.val (.int p0), .unset, .unset, .unset] [(.int (15 : Int32)), (.ref b1), (.ref b1)])) rfl (hb hby at_107)
  obtain ⟨cl33, Ar33, q33, S33, N33z, H33, G33⟩ := V_b1
  have hin33 : ¬ ((15 : Int32) < 0 ∨ cl33.slots.size ≤ ((15 : Int32)).toNatClampNeg) := inb_of S33 ⟨by decide, by decide⟩
  obtain ⟨T33, h33, X33, e33, W33, st33⟩ := stR X32 hx hZ e32 Ar33 (j := (15 : Int32)) hin33 rfl (Sto.ofV Ar33 q33 O1 (Ins.self (E_w_BINARY.ext OLD.2))) (g := (mkF m 110 #[.val (.int p0), .unset, .unset, .unset] [(.ref w_BINARY), (.int (15 : Int32)), (.ref b1), (.ref b1)])) rfl rfl (hb hby at_110)
  have OLD := OLD.wr W33 g_b1
  have V_b1 : Arv Z h33 b1 k1 (.object "com/example/keylint/keylint/SqlType") (19 : Int32) [(.ref w_TINYINT), (.ref w_SMALLINT), (.ref w_INT), (.ref w_INTEGER), (.ref w_BIGINT), (.ref w_FLOAT), (.ref w_DOUBLE), (.ref w_DECIMAL), (.ref w_BOOLEAN), (.ref w_DATE), (.ref w_TIME), (.ref w_TIMESTAMP), (.ref w_DATETIME), (.ref w_CHAR), (.ref w_VARCHAR), (.ref w_BINARY), .null, .null, .null] .null := Arv.set Ar33 q33 S33 N33z H33 G33 rfl W33 15 rfl (Nat.le_of_ble_eq_true rfl)
  have Zn := Nat.le_trans Zn (Keep.of_wr W33).1
  have N33 := Fr.snoc X33 N31 g_b1
  obtain ⟨T34, X34, e34, st34⟩ := getS2 X33 hx hZ hown (host := "") (Or.inl (hw _ (List.mem_of_getElem? (i := 36) rfl))) Via.refl e33 (S_VARBINARY.ext OLD.2) (g := (mkF m 114 #[.val (.int p0), .unset, .unset, .unset] [(.int (16 : Int32)), (.ref b1), (.ref b1)])) rfl (hb hby at_114)
  obtain ⟨cl35, Ar35, q35, S35, N35z, H35, G35⟩ := V_b1
  have hin35 : ¬ ((16 : Int32) < 0 ∨ cl35.slots.size ≤ ((16 : Int32)).toNatClampNeg) := inb_of S35 ⟨by decide, by decide⟩
  obtain ⟨T35, h35, X35, e35, W35, st35⟩ := stR X34 hx hZ e34 Ar35 (j := (16 : Int32)) hin35 rfl (Sto.ofV Ar35 q35 O1 (Ins.self (E_w_VARBINARY.ext OLD.2))) (g := (mkF m 117 #[.val (.int p0), .unset, .unset, .unset] [(.ref w_VARBINARY), (.int (16 : Int32)), (.ref b1), (.ref b1)])) rfl rfl (hb hby at_117)
  have OLD := OLD.wr W35 g_b1
  have V_b1 : Arv Z h35 b1 k1 (.object "com/example/keylint/keylint/SqlType") (19 : Int32) [(.ref w_TINYINT), (.ref w_SMALLINT), (.ref w_INT), (.ref w_INTEGER), (.ref w_BIGINT), (.ref w_FLOAT), (.ref w_DOUBLE), (.ref w_DECIMAL), (.ref w_BOOLEAN), (.ref w_DATE), (.ref w_TIME), (.ref w_TIMESTAMP), (.ref w_DATETIME), (.ref w_CHAR), (.ref w_VARCHAR), (.ref w_BINARY), (.ref w_VARBINARY), .null, .null] .null := Arv.set Ar35 q35 S35 N35z H35 G35 rfl W35 16 rfl (Nat.le_of_ble_eq_true rfl)
  have Zn := Nat.le_trans Zn (Keep.of_wr W35).1
  have N35 := Fr.snoc X35 N33 g_b1
  obtain ⟨T36, X36, e36, st36⟩ := getS2 X35 hx hZ hown (host := "") (Or.inl (hw _ (List.mem_of_getElem? (i := 38) rfl))) Via.refl e35 (S_JSON.ext OLD.2) (g := (mkF m 121 #[.val (.int p0), .unset, .unset, .unset] [(.int (17 : Int32)), (.ref b1), (.ref b1)])) rfl (hb hby at_121)
  obtain ⟨cl37, Ar37, q37, S37, N37z, H37, G37⟩ := V_b1
  have hin37 : ¬ ((17 : Int32) < 0 ∨ cl37.slots.size ≤ ((17 : Int32)).toNatClampNeg) := inb_of S37 ⟨by decide, by decide⟩
  obtain ⟨T37, h37, X37, e37, W37, st37⟩ := stR X36 hx hZ e36 Ar37 (j := (17 : Int32)) hin37 rfl (Sto.ofV Ar37 q37 O1 (Ins.self (E_w_JSON.ext OLD.2))) (g := (mkF m 124 #[.val (.int p0), .unset, .unset, .unset] [(.ref w_JSON), (.int (17 : Int32)), (.ref b1), (.ref b1)])) rfl rfl (hb hby at_124)
  have OLD := OLD.wr W37 g_b1
  have V_b1 : Arv Z h37 b1 k1 (.object "com/example/keylint/keylint/SqlType") (19 : Int32) [(.ref w_TINYINT), (.ref w_SMALLINT), (.ref w_INT), (.ref w_INTEGER), (.ref w_BIGINT), (.ref w_FLOAT), (.ref w_DOUBLE), (.ref w_DECIMAL), (.ref w_BOOLEAN), (.ref w_DATE), (.ref w_TIME), (.ref w_TIMESTAMP), (.ref w_DATETIME), (.ref w_CHAR), (.ref w_VARCHAR), (.ref w_BINARY), (.ref w_VARBINARY), (.ref w_JSON), .null] .null := Arv.set Ar37 q37 S37 N37z H37 G37 rfl W37 17 rfl (Nat.le_of_ble_eq_true rfl)
  have Zn := Nat.le_trans Zn (Keep.of_wr W37).1
  have N37 := Fr.snoc X37 N35 g_b1
  obtain ⟨T38, X38, e38, st38⟩ := getS2 X37 hx hZ hown (host := "") (Or.inl (hw _ (List.mem_of_getElem? (i := 40) rfl))) Via.refl e37 (S_OTHER.ext OLD.2) (g := (mkF m 128 #[.val (.int p0), .unset, .unset, .unset] [(.int (18 : Int32)), (.ref b1), (.ref b1)])) rfl (hb hby at_128)
  obtain ⟨cl39, Ar39, q39, S39, N39z, H39, G39⟩ := V_b1
  have hin39 : ¬ ((18 : Int32) < 0 ∨ cl39.slots.size ≤ ((18 : Int32)).toNatClampNeg) := inb_of S39 ⟨by decide, by decide⟩
  obtain ⟨T39, h39, X39, e39, W39, st39⟩ := stR X38 hx hZ e38 Ar39 (j := (18 : Int32)) hin39 rfl (Sto.ofV Ar39 q39 O1 (Ins.self (E_w_OTHER.ext OLD.2))) (g := (mkF m 131 #[.val (.int p0), .unset, .unset, .unset] [(.ref w_OTHER), (.int (18 : Int32)), (.ref b1), (.ref b1)])) rfl rfl (hb hby at_131)
  have OLD := OLD.wr W39 g_b1
  have V_b1 : Arv Z h39 b1 k1 (.object "com/example/keylint/keylint/SqlType") (19 : Int32) [(.ref w_TINYINT), (.ref w_SMALLINT), (.ref w_INT), (.ref w_INTEGER), (.ref w_BIGINT), (.ref w_FLOAT), (.ref w_DOUBLE), (.ref w_DECIMAL), (.ref w_BOOLEAN), (.ref w_DATE), (.ref w_TIME), (.ref w_TIMESTAMP), (.ref w_DATETIME), (.ref w_CHAR), (.ref w_VARCHAR), (.ref w_BINARY), (.ref w_VARBINARY), (.ref w_JSON), (.ref w_OTHER)] .null := Arv.set Ar39 q39 S39 N39z H39 G39 rfl W39 18 rfl (Nat.le_of_ble_eq_true rfl)
  have Zn := Nat.le_trans Zn (Keep.of_wr W39).1
  have N39 := Fr.snoc X39 N37 g_b1
  have K40 : ∀ t, Steps p.tables e below (T39.setTop (mkF m 141 #[.val (.int p0), .val (.ref b1), .val (.int ((p0 &&& (2147483647 : Int32)) - ((p0 &&& (2147483647 : Int32)) / (19 : Int32)) * (19 : Int32))), .unset] [])) t → Steps p.tables e below (s₁.setTop (entryFrame m #[(.int p0)] maxLocals)) t := by
    intro t kt
    refine K0 t ?_
    show Steps p.tables e below (s₁.setTop (mkF m 0 #[.val (.int p0), .unset, .unset, .unset] [])) _
    refine XS.bipush X0.here hx rfl (hb hby at_0) ?_
    show Steps p.tables e below (s₁.setTop (mkF m 2 #[.val (.int p0), .unset, .unset, .unset] [(.int (19 : Int32))])) _
    refine st1 _ ?_
    show Steps p.tables e below (T1.setTop (mkF m 5 #[.val (.int p0), .unset, .unset, .unset] [(.ref b1)])) _
    refine XS.dup X1.here hx rfl (hb hby at_5) rfl rfl ?_
    show Steps p.tables e below (T1.setTop (mkF m 6 #[.val (.int p0), .unset, .unset, .unset] [(.ref b1), (.ref b1)])) _
    refine XS.iconst X1.here hx rfl (hb hby at_6) ?_
    show Steps p.tables e below (T1.setTop (mkF m 7 #[.val (.int p0), .unset, .unset, .unset] [(.int (0 : Int32)), (.ref b1), (.ref b1)])) _
    refine st2 _ ?_
    show Steps p.tables e below (T2.setTop (mkF m 10 #[.val (.int p0), .unset, .unset, .unset] [(.ref w_TINYINT), (.int (0 : Int32)), (.ref b1), (.ref b1)])) _
    refine st3 _ ?_
    show Steps p.tables e below (T3.setTop (mkF m 11 #[.val (.int p0), .unset, .unset, .unset] [(.ref b1)])) _
    refine XS.dup X3.here hx rfl (hb hby at_11) rfl rfl ?_
    show Steps p.tables e below (T3.setTop (mkF m 12 #[.val (.int p0), .unset, .unset, .unset] [(.ref b1), (.ref b1)])) _
    refine XS.iconst X3.here hx rfl (hb hby at_12) ?_
    show Steps p.tables e below (T3.setTop (mkF m 13 #[.val (.int p0), .unset, .unset, .unset] [(.int (1 : Int32)), (.ref b1), (.ref b1)])) _
    refine st4 _ ?_
    show Steps p.tables e below (T4.setTop (mkF m 16 #[.val (.int p0), .unset, .unset, .unset] [(.ref w_SMALLINT), (.int (1 : Int32)), (.ref b1), (.ref b1)])) _
    refine st5 _ ?_
    show Steps p.tables e below (T5.setTop (mkF m 17 #[.val (.int p0), .unset, .unset, .unset] [(.ref b1)])) _
    refine XS.dup X5.here hx rfl (hb hby at_17) rfl rfl ?_
    show Steps p.tables e below (T5.setTop (mkF m 18 #[.val (.int p0), .unset, .unset, .unset] [(.ref b1), (.ref b1)])) _
    refine XS.iconst X5.here hx rfl (hb hby at_18) ?_
    show Steps p.tables e below (T5.setTop (mkF m 19 #[.val (.int p0), .unset, .unset, .unset] [(.int (2 : Int32)), (.ref b1), (.ref b1)])) _
    refine st6 _ ?_
    show Steps p.tables e below (T6.setTop (mkF m 22 #[.val (.int p0), .unset, .unset, .unset] [(.ref w_INT), (.int (2 : Int32)), (.ref b1), (.ref b1)])) _
    refine st7 _ ?_
    show Steps p.tables e below (T7.setTop (mkF m 23 #[.val (.int p0), .unset, .unset, .unset] [(.ref b1)])) _
    refine XS.dup X7.here hx rfl (hb hby at_23) rfl rfl ?_
    show Steps p.tables e below (T7.setTop (mkF m 24 #[.val (.int p0), .unset, .unset, .unset] [(.ref b1), (.ref b1)])) _
    refine XS.iconst X7.here hx rfl (hb hby at_24) ?_
    show Steps p.tables e below (T7.setTop (mkF m 25 #[.val (.int p0), .unset, .unset, .unset] [(.int (3 : Int32)), (.ref b1), (.ref b1)])) _
    refine st8 _ ?_
    show Steps p.tables e below (T8.setTop (mkF m 28 #[.val (.int p0), .unset, .unset, .unset] [(.ref w_INTEGER), (.int (3 : Int32)), (.ref b1), (.ref b1)])) _
    refine st9 _ ?_
    show Steps p.tables e below (T9.setTop (mkF m 29 #[.val (.int p0), .unset, .unset, .unset] [(.ref b1)])) _
    refine XS.dup X9.here hx rfl (hb hby at_29) rfl rfl ?_
    show Steps p.tables e below (T9.setTop (mkF m 30 #[.val (.int p0), .unset, .unset, .unset] [(.ref b1), (.ref b1)])) _
    refine XS.iconst X9.here hx rfl (hb hby at_30) ?_
    show Steps p.tables e below (T9.setTop (mkF m 31 #[.val (.int p0), .unset, .unset, .unset] [(.int (4 : Int32)), (.ref b1), (.ref b1)])) _
    refine st10 _ ?_
    show Steps p.tables e below (T10.setTop (mkF m 34 #[.val (.int p0), .unset, .unset, .unset] [(.ref w_BIGINT), (.int (4 : Int32)), (.ref b1), (.ref b1)])) _
    refine st11 _ ?_
    show Steps p.tables e below (T11.setTop (mkF m 35 #[.val (.int p0), .unset, .unset, .unset] [(.ref b1)])) _
    refine XS.dup X11.here hx rfl (hb hby at_35) rfl rfl ?_
    show Steps p.tables e below (T11.setTop (mkF m 36 #[.val (.int p0), .unset, .unset, .unset] [(.ref b1), (.ref b1)])) _
    refine XS.iconst X11.here hx rfl (hb hby at_36) ?_
    show Steps p.tables e below (T11.setTop (mkF m 37 #[.val (.int p0), .unset, .unset, .unset] [(.int (5 : Int32)), (.ref b1), (.ref b1)])) _
    refine st12 _ ?_
    show Steps p.tables e below (T12.setTop (mkF m 40 #[.val (.int p0), .unset, .unset, .unset] [(.ref w_FLOAT), (.int (5 : Int32)), (.ref b1), (.ref b1)])) _
    refine st13 _ ?_
    show Steps p.tables e below (T13.setTop (mkF m 41 #[.val (.int p0), .unset, .unset, .unset] [(.ref b1)])) _
    refine XS.dup X13.here hx rfl (hb hby at_41) rfl rfl ?_
    show Steps p.tables e below (T13.setTop (mkF m 42 #[.val (.int p0), .unset, .unset, .unset] [(.ref b1), (.ref b1)])) _
    refine XS.bipush X13.here hx rfl (hb hby at_42) ?_
    show Steps p.tables e below (T13.setTop (mkF m 44 #[.val (.int p0), .unset, .unset, .unset] [(.int (6 : Int32)), (.ref b1), (.ref b1)])) _
    refine st14 _ ?_
    show Steps p.tables e below (T14.setTop (mkF m 47 #[.val (.int p0), .unset, .unset, .unset] [(.ref w_DOUBLE), (.int (6 : Int32)), (.ref b1), (.ref b1)])) _
    refine st15 _ ?_
    show Steps p.tables e below (T15.setTop (mkF m 48 #[.val (.int p0), .unset, .unset, .unset] [(.ref b1)])) _
    refine XS.dup X15.here hx rfl (hb hby at_48) rfl rfl ?_
    show Steps p.tables e below (T15.setTop (mkF m 49 #[.val (.int p0), .unset, .unset, .unset] [(.ref b1), (.ref b1)])) _
    refine XS.bipush X15.here hx rfl (hb hby at_49) ?_
    show Steps p.tables e below (T15.setTop (mkF m 51 #[.val (.int p0), .unset, .unset, .unset] [(.int (7 : Int32)), (.ref b1), (.ref b1)])) _
    refine st16 _ ?_
    show Steps p.tables e below (T16.setTop (mkF m 54 #[.val (.int p0), .unset, .unset, .unset] [(.ref w_DECIMAL), (.int (7 : Int32)), (.ref b1), (.ref b1)])) _
    refine st17 _ ?_
    show Steps p.tables e below (T17.setTop (mkF m 55 #[.val (.int p0), .unset, .unset, .unset] [(.ref b1)])) _
    refine XS.dup X17.here hx rfl (hb hby at_55) rfl rfl ?_
    show Steps p.tables e below (T17.setTop (mkF m 56 #[.val (.int p0), .unset, .unset, .unset] [(.ref b1), (.ref b1)])) _
    refine XS.bipush X17.here hx rfl (hb hby at_56) ?_
    show Steps p.tables e below (T17.setTop (mkF m 58 #[.val (.int p0), .unset, .unset, .unset] [(.int (8 : Int32)), (.ref b1), (.ref b1)])) _
    refine st18 _ ?_
    show Steps p.tables e below (T18.setTop (mkF m 61 #[.val (.int p0), .unset, .unset, .unset] [(.ref w_BOOLEAN), (.int (8 : Int32)), (.ref b1), (.ref b1)])) _
    refine st19 _ ?_
    show Steps p.tables e below (T19.setTop (mkF m 62 #[.val (.int p0), .unset, .unset, .unset] [(.ref b1)])) _
    refine XS.dup X19.here hx rfl (hb hby at_62) rfl rfl ?_
    show Steps p.tables e below (T19.setTop (mkF m 63 #[.val (.int p0), .unset, .unset, .unset] [(.ref b1), (.ref b1)])) _
    refine XS.bipush X19.here hx rfl (hb hby at_63) ?_
    show Steps p.tables e below (T19.setTop (mkF m 65 #[.val (.int p0), .unset, .unset, .unset] [(.int (9 : Int32)), (.ref b1), (.ref b1)])) _
    refine st20 _ ?_
    show Steps p.tables e below (T20.setTop (mkF m 68 #[.val (.int p0), .unset, .unset, .unset] [(.ref w_DATE), (.int (9 : Int32)), (.ref b1), (.ref b1)])) _
    refine st21 _ ?_
    show Steps p.tables e below (T21.setTop (mkF m 69 #[.val (.int p0), .unset, .unset, .unset] [(.ref b1)])) _
    refine XS.dup X21.here hx rfl (hb hby at_69) rfl rfl ?_
    show Steps p.tables e below (T21.setTop (mkF m 70 #[.val (.int p0), .unset, .unset, .unset] [(.ref b1), (.ref b1)])) _
    refine XS.bipush X21.here hx rfl (hb hby at_70) ?_
    show Steps p.tables e below (T21.setTop (mkF m 72 #[.val (.int p0), .unset, .unset, .unset] [(.int (10 : Int32)), (.ref b1), (.ref b1)])) _
    refine st22 _ ?_
    show Steps p.tables e below (T22.setTop (mkF m 75 #[.val (.int p0), .unset, .unset, .unset] [(.ref w_TIME), (.int (10 : Int32)), (.ref b1), (.ref b1)])) _
    refine st23 _ ?_
    show Steps p.tables e below (T23.setTop (mkF m 76 #[.val (.int p0), .unset, .unset, .unset] [(.ref b1)])) _
    refine XS.dup X23.here hx rfl (hb hby at_76) rfl rfl ?_
    show Steps p.tables e below (T23.setTop (mkF m 77 #[.val (.int p0), .unset, .unset, .unset] [(.ref b1), (.ref b1)])) _
    refine XS.bipush X23.here hx rfl (hb hby at_77) ?_
    show Steps p.tables e below (T23.setTop (mkF m 79 #[.val (.int p0), .unset, .unset, .unset] [(.int (11 : Int32)), (.ref b1), (.ref b1)])) _
    refine st24 _ ?_
    show Steps p.tables e below (T24.setTop (mkF m 82 #[.val (.int p0), .unset, .unset, .unset] [(.ref w_TIMESTAMP), (.int (11 : Int32)), (.ref b1), (.ref b1)])) _
    refine st25 _ ?_
    show Steps p.tables e below (T25.setTop (mkF m 83 #[.val (.int p0), .unset, .unset, .unset] [(.ref b1)])) _
    refine XS.dup X25.here hx rfl (hb hby at_83) rfl rfl ?_
    show Steps p.tables e below (T25.setTop (mkF m 84 #[.val (.int p0), .unset, .unset, .unset] [(.ref b1), (.ref b1)])) _
    refine XS.bipush X25.here hx rfl (hb hby at_84) ?_
    show Steps p.tables e below (T25.setTop (mkF m 86 #[.val (.int p0), .unset, .unset, .unset] [(.int (12 : Int32)), (.ref b1), (.ref b1)])) _
    refine st26 _ ?_
    show Steps p.tables e below (T26.setTop (mkF m 89 #[.val (.int p0), .unset, .unset, .unset] [(.ref w_DATETIME), (.int (12 : Int32)), (.ref b1), (.ref b1)])) _
    refine st27 _ ?_
    show Steps p.tables e below (T27.setTop (mkF m 90 #[.val (.int p0), .unset, .unset, .unset] [(.ref b1)])) _
    refine XS.dup X27.here hx rfl (hb hby at_90) rfl rfl ?_
    show Steps p.tables e below (T27.setTop (mkF m 91 #[.val (.int p0), .unset, .unset, .unset] [(.ref b1), (.ref b1)])) _
    refine XS.bipush X27.here hx rfl (hb hby at_91) ?_
    show Steps p.tables e below (T27.setTop (mkF m 93 #[.val (.int p0), .unset, .unset, .unset] [(.int (13 : Int32)), (.ref b1), (.ref b1)])) _
    refine st28 _ ?_
    show Steps p.tables e below (T28.setTop (mkF m 96 #[.val (.int p0), .unset, .unset, .unset] [(.ref w_CHAR), (.int (13 : Int32)), (.ref b1), (.ref b1)])) _
    refine st29 _ ?_
    show Steps p.tables e below (T29.setTop (mkF m 97 #[.val (.int p0), .unset, .unset, .unset] [(.ref b1)])) _
    refine XS.dup X29.here hx rfl (hb hby at_97) rfl rfl ?_
    show Steps p.tables e below (T29.setTop (mkF m 98 #[.val (.int p0), .unset, .unset, .unset] [(.ref b1), (.ref b1)])) _
    refine XS.bipush X29.here hx rfl (hb hby at_98) ?_
    show Steps p.tables e below (T29.setTop (mkF m 100 #[.val (.int p0), .unset, .unset, .unset] [(.int (14 : Int32)), (.ref b1), (.ref b1)])) _
    refine st30 _ ?_
    show Steps p.tables e below (T30.setTop (mkF m 103 #[.val (.int p0), .unset, .unset, .unset] [(.ref w_VARCHAR), (.int (14 : Int32)), (.ref b1), (.ref b1)])) _
    refine st31 _ ?_
    show Steps p.tables e below (T31.setTop (mkF m 104 #[.val (.int p0), .unset, .unset, .unset] [(.ref b1)])) _
    refine XS.dup X31.here hx rfl (hb hby at_104) rfl rfl ?_
    show Steps p.tables e below (T31.setTop (mkF m 105 #[.val (.int p0), .unset, .unset, .unset] [(.ref b1), (.ref b1)])) _
    refine XS.bipush X31.here hx rfl (hb hby at_105) ?_
    show Steps p.tables e below (T31.setTop (mkF m 107 #[.val (.int p0), .unset, .unset, .unset] [(.int (15 : Int32)), (.ref b1), (.ref b1)])) _
    refine st32 _ ?_
    show Steps p.tables e below (T32.setTop (mkF m 110 #[.val (.int p0), .unset, .unset, .unset] [(.ref w_BINARY), (.int (15 : Int32)), (.ref b1), (.ref b1)])) _
    refine st33 _ ?_
    show Steps p.tables e below (T33.setTop (mkF m 111 #[.val (.int p0), .unset, .unset, .unset] [(.ref b1)])) _
    refine XS.dup X33.here hx rfl (hb hby at_111) rfl rfl ?_
    show Steps p.tables e below (T33.setTop (mkF m 112 #[.val (.int p0), .unset, .unset, .unset] [(.ref b1), (.ref b1)])) _
    refine XS.bipush X33.here hx rfl (hb hby at_112) ?_
    show Steps p.tables e below (T33.setTop (mkF m 114 #[.val (.int p0), .unset, .unset, .unset] [(.int (16 : Int32)), (.ref b1), (.ref b1)])) _
    refine st34 _ ?_
    show Steps p.tables e below (T34.setTop (mkF m 117 #[.val (.int p0), .unset, .unset, .unset] [(.ref w_VARBINARY), (.int (16 : Int32)), (.ref b1), (.ref b1)])) _
    refine st35 _ ?_
    show Steps p.tables e below (T35.setTop (mkF m 118 #[.val (.int p0), .unset, .unset, .unset] [(.ref b1)])) _
    refine XS.dup X35.here hx rfl (hb hby at_118) rfl rfl ?_
    show Steps p.tables e below (T35.setTop (mkF m 119 #[.val (.int p0), .unset, .unset, .unset] [(.ref b1), (.ref b1)])) _
    refine XS.bipush X35.here hx rfl (hb hby at_119) ?_
    show Steps p.tables e below (T35.setTop (mkF m 121 #[.val (.int p0), .unset, .unset, .unset] [(.int (17 : Int32)), (.ref b1), (.ref b1)])) _
    refine st36 _ ?_
    show Steps p.tables e below (T36.setTop (mkF m 124 #[.val (.int p0), .unset, .unset, .unset] [(.ref w_JSON), (.int (17 : Int32)), (.ref b1), (.ref b1)])) _
    refine st37 _ ?_
    show Steps p.tables e below (T37.setTop (mkF m 125 #[.val (.int p0), .unset, .unset, .unset] [(.ref b1)])) _
    refine XS.dup X37.here hx rfl (hb hby at_125) rfl rfl ?_
    show Steps p.tables e below (T37.setTop (mkF m 126 #[.val (.int p0), .unset, .unset, .unset] [(.ref b1), (.ref b1)])) _
    refine XS.bipush X37.here hx rfl (hb hby at_126) ?_
    show Steps p.tables e below (T37.setTop (mkF m 128 #[.val (.int p0), .unset, .unset, .unset] [(.int (18 : Int32)), (.ref b1), (.ref b1)])) _
    refine st38 _ ?_
    show Steps p.tables e below (T38.setTop (mkF m 131 #[.val (.int p0), .unset, .unset, .unset] [(.ref w_OTHER), (.int (18 : Int32)), (.ref b1), (.ref b1)])) _
    refine st39 _ ?_
    show Steps p.tables e below (T39.setTop (mkF m 132 #[.val (.int p0), .unset, .unset, .unset] [(.ref b1)])) _
    refine XS.astoreN X39.here hx rfl (hb hby at_132) rfl rfl (l' := #[.val (.int p0), .val (.ref b1), .unset, .unset]) rfl ?_
    show Steps p.tables e below (T39.setTop (mkF m 133 #[.val (.int p0), .val (.ref b1), .unset, .unset] [])) _
    refine XS.iloadN X39.here hx rfl (hb hby at_133) rfl ?_
    show Steps p.tables e below (T39.setTop (mkF m 134 #[.val (.int p0), .val (.ref b1), .unset, .unset] [(.int p0)])) _
    refine X39.ldcInt hx hown (mvT hZ (hw _ (List.mem_of_getElem? (i := 42) rfl))) (g := (mkF m 134 #[.val (.int p0), .val (.ref b1), .unset, .unset] [(.int p0)])) rfl (hb hby at_134) _ ?_
    show Steps p.tables e below (T39.setTop (mkF m 136 #[.val (.int p0), .val (.ref b1), .unset, .unset] [(.int (2147483647 : Int32)), (.int p0)])) _
    refine XS.iand X39.here hx rfl (hb hby at_136) rfl ?_
    show Steps p.tables e below (T39.setTop (mkF m 137 #[.val (.int p0), .val (.ref b1), .unset, .unset] [(.int (p0 &&& (2147483647 : Int32)))])) _
    refine XS.bipush X39.here hx rfl (hb hby at_137) ?_
    show Steps p.tables e below (T39.setTop (mkF m 139 #[.val (.int p0), .val (.ref b1), .unset, .unset] [(.int (19 : Int32)), (.int (p0 &&& (2147483647 : Int32)))])) _
    refine XS.irem X39.here hx rfl (hb hby at_139) rfl (by decide) ?_
    show Steps p.tables e below (T39.setTop (mkF m 140 #[.val (.int p0), .val (.ref b1), .unset, .unset] [(.int ((p0 &&& (2147483647 : Int32)) - ((p0 &&& (2147483647 : Int32)) / (19 : Int32)) * (19 : Int32)))])) _
    refine XS.istoreN X39.here hx rfl (hb hby at_140) rfl (l' := #[.val (.int p0), .val (.ref b1), .val (.int ((p0 &&& (2147483647 : Int32)) - ((p0 &&& (2147483647 : Int32)) / (19 : Int32)) * (19 : Int32))), .unset]) rfl ?_
    exact kt
  obtain ⟨i, hg_i⟩ : ∃ z, z = ((p0 &&& (2147483647 : Int32)) - ((p0 &&& (2147483647 : Int32)) / (19 : Int32)) * (19 : Int32)) := ⟨_, rfl⟩
  rw [← hg_i] at K40
  have hi := own_mod p0 19 (by decide)
  rw [← hg_i] at hi
  have c19 : (19 : Int32).toInt = 19 := by decide
  obtain ⟨hnat, hneg⟩ := own_nat hi
  have hlt : i.toNatClampNeg < 19 := by omega
  obtain ⟨el, hel⟩ : ∃ z, z = [w_TINYINT, w_SMALLINT, w_INT, w_INTEGER, w_BIGINT, w_FLOAT, w_DOUBLE, w_DECIMAL, w_BOOLEAN, w_DATE, w_TIME, w_TIMESTAMP, w_DATETIME, w_CHAR, w_VARCHAR, w_BINARY, w_VARBINARY, w_JSON, w_OTHER].getD i.toNatClampNeg 0 := ⟨_, rfl⟩
  have K41 : ∀ t, Steps p.tables e below (T39.setTop (mkF m 144 #[.val (.int p0), .val (.ref b1), .val (.int i), .unset] [(.int (9 : Int32)), (.int i)])) t → Steps p.tables e below (s₁.setTop (entryFrame m #[(.int p0)] maxLocals)) t := by
    intro t kt
    refine K40 t ?_
    show Steps p.tables e below (T39.setTop (mkF m 141 #[.val (.int p0), .val (.ref b1), .val (.int i), .unset] [])) _
    refine XS.iloadN X39.here hx rfl (hb hby at_141) rfl ?_
    show Steps p.tables e below (T39.setTop (mkF m 142 #[.val (.int p0), .val (.ref b1), .val (.int i), .unset] [(.int i)])) _
    refine XS.bipush X39.here hx rfl (hb hby at_142) ?_
    exact kt
  by_cases hc144 : i < (9 : Int32)
  ·
    obtain ⟨cl42, Ar42, q42, S42, N42z, H42, G42⟩ := V_b1
    have hin42 : ¬ (i < 0 ∨ cl42.slots.size ≤ (i).toNatClampNeg) := inb_of S42 ⟨hneg, by rw [Int32.lt_iff_toInt_lt]; omega⟩
    have hat42 : cl42.slots[(i).toNatClampNeg]? = some (.ref el) := Has.at H42 hin42 (by rw [hel]; exact own_getref [w_TINYINT, w_SMALLINT, w_INT, w_INTEGER, w_BIGINT, w_FLOAT, w_DOUBLE, w_DECIMAL, w_BOOLEAN, w_DATE, w_TIME, w_TIMESTAMP, w_DATETIME, w_CHAR, w_VARCHAR, w_BINARY, w_VARBINARY, w_JSON, w_OTHER] _ hlt)
    obtain ⟨cq43, kq43, q43a, q43b, q43c⟩ := isOf hZ e39 ((hel ▸ own_exal EX _ hlt : Exa Z Z.heap el "com/example/keylint/keylint/SqlType").ext OLD.2)
    obtain ⟨_, _, ⟨T43, L43, k43, n43⟩, -, X43, ⟨Lc43, hQ43, l43, y43, z43⟩, st43⟩ := X39.virtualBack hx (y := (⟨"com/example/keylint/keylint/SqlType", "isTime", "()Z"⟩ : MethodName)) (z := (⟨"com/example/keylint/keylint/SqlType", "isTime", "()Z"⟩ : MethodName)) hown (mvT hZ (hw _ (List.mem_of_getElem? (i := 43) rfl))) (mvT hZ (hw _ (List.mem_of_getElem? (i := 44) rfl))) (notFace_of_selects (args := #[]) (mvT hZ (hw _ (List.mem_of_getElem? (i := 46) rfl)))) (mvT hZ (hw _ (List.mem_of_getElem? (i := 46) rfl))) (mvT hZ (hw _ (List.mem_of_getElem? (i := 45) rfl))) (by decide) (backOf (W := 0) (rm1 l Z a0 hw [] el w_DATE w_TIME w_TIMESTAMP w_DATETIME h39 n0 Zn (S_DATE.ext OLD.2) (S_TIME.ext OLD.2) (S_TIMESTAMP.ext OLD.2) (S_DATETIME.ext OLD.2)) hZ (hw _ (List.mem_of_getElem? (i := 47) rfl)) (hw _ (List.mem_of_getElem? (i := 3) rfl)) (by decide) (by decide)) q43a q43c (g := (mkF m 162 #[.val (.int p0), .val (.ref b1), .val (.int i), .val (.int (0 : Int32))] [(.ref el)])) rfl (by rw [hml]; rfl) (Steps.refl _) (argsL := []) (rest := []) (lenOf pd_1 rfl) rfl (by show 2 * 0 + _ ≤ _; exact Nat.le_of_eq rfl) (hb hby at_162) (fun _ _ => ⟨rfl, e39, (by decide : 1 + 0 ≤ _), (by decide : 19 + 0 ≤ _)⟩)
    dsimp only [Pt.U, Pt.locs, Pt.cells, Pt.slots] at X43 l43 y43 z43 st43 hQ43
    subst l43 y43 z43
    obtain ⟨rfl, N43q, e43q⟩ := hQ43
    have N43 := Fr.app N39 N43q
    have e43 : T43.heap = h39 := e43q
    have hc166 : (own_in el w_DATE w_TIME w_TIMESTAMP w_DATETIME) = (0 : Int32) := by
        have c9 : (9 : Int32).toInt = 9 := by decide
        have c12 : (12 : Int32).toInt = 12 := by decide
        have qhc144 := hc144
        rw [Int32.lt_iff_toInt_lt] at qhc144
        rw [hel]
        refine (own_law o_TINYINT o_SMALLINT o_INT o_INTEGER o_BIGINT o_FLOAT o_DOUBLE o_DECIMAL o_BOOLEAN o_DATE o_TIME o_TIMESTAMP o_DATETIME o_CHAR o_VARCHAR o_BINARY o_VARBINARY o_JSON o_OTHER _ hlt).trans ?_
        rw [if_neg (by omega)]
    obtain ⟨fs, hr, hrun, hended, hW, hsame⟩ := X43.leave (v := some (.int (1 : Int32))) (fun h => by rw [Bd.returns] at h; cases h)
    refine ⟨_, _, K41 _ ?_, hrun, hended, _, _, rfl, ?_, ⟨_, rfl⟩, hW, hsame.mono (by decide) (by decide)⟩
    ·
      show Steps p.tables e below (T39.setTop (mkF m 144 #[.val (.int p0), .val (.ref b1), .val (.int i), .unset] [(.int (9 : Int32)), (.int i)])) _
      refine XS.icmpYes X39.here hx rfl (pc0 := 144) (pc' := 157) rfl (hb hby at_144) rfl (tlt hc144).1 (by decide) (by decide) ?_
      show Steps p.tables e below (T39.setTop (mkF m 157 #[.val (.int p0), .val (.ref b1), .val (.int i), .unset] [])) _
      refine XS.iconst X39.here hx rfl (hb hby at_157) ?_
      show Steps p.tables e below (T39.setTop (mkF m 158 #[.val (.int p0), .val (.ref b1), .val (.int i), .unset] [(.int (0 : Int32))])) _
      refine XS.istoreN X39.here hx rfl (hb hby at_158) rfl (l' := #[.val (.int p0), .val (.ref b1), .val (.int i), .val (.int (0 : Int32))]) rfl ?_
      show Steps p.tables e below (T39.setTop (mkF m 159 #[.val (.int p0), .val (.ref b1), .val (.int i), .val (.int (0 : Int32))] [])) _
      refine XS.aloadN X39.here hx rfl (hb hby at_159) rfl rfl ?_
      show Steps p.tables e below (T39.setTop (mkF m 160 #[.val (.int p0), .val (.ref b1), .val (.int i), .val (.int (0 : Int32))] [(.ref b1)])) _
      refine XS.iloadN X39.here hx rfl (hb hby at_160) rfl ?_
      show Steps p.tables e below (T39.setTop (mkF m 161 #[.val (.int p0), .val (.ref b1), .val (.int i), .val (.int (0 : Int32))] [(.int i), (.ref b1)])) _
      refine X39.aaload hx (j := i) (v := (.ref el)) (by rw [e39]; exact Ar42.1) (State.isArrayOf_alike hZ.alike Ar42.2.1) rfl Ar42.2.2 hin42 hat42 (g := (mkF m 161 #[.val (.int p0), .val (.ref b1), .val (.int i), .val (.int (0 : Int32))] [(.int i), (.ref b1)])) rfl rfl (hb hby at_161) _ ?_
      show Steps p.tables e below (T39.setTop (mkF m 162 #[.val (.int p0), .val (.ref b1), .val (.int i), .val (.int (0 : Int32))] [(.ref el)])) _
      refine st43.trans ?_
      show Steps p.tables e below (T43.setTop (mkF m 165 #[.val (.int p0), .val (.ref b1), .val (.int i), .val (.int (0 : Int32))] [(.int (own_in el w_DATE w_TIME w_TIMESTAMP w_DATETIME))])) _
      refine XS.iloadN X43.here hx rfl (hb hby at_165) rfl ?_
      show Steps p.tables e below (T43.setTop (mkF m 166 #[.val (.int p0), .val (.ref b1), .val (.int i), .val (.int (0 : Int32))] [(.int (0 : Int32)), (.int (own_in el w_DATE w_TIME w_TIMESTAMP w_DATETIME))])) _
      refine XS.icmpNo X43.here hx rfl (hb hby at_166) rfl (teq hc166).2 ?_
      show Steps p.tables e below (T43.setTop (mkF m 169 #[.val (.int p0), .val (.ref b1), .val (.int i), .val (.int (0 : Int32))] [])) _
      refine XS.iconst X43.here hx rfl (hb hby at_169) ?_
      show Steps p.tables e below (T43.setTop (mkF m 170 #[.val (.int p0), .val (.ref b1), .val (.int i), .val (.int (0 : Int32))] [(.int (1 : Int32))])) _
      refine XS.goto X43.here hx rfl (pc0 := 170) (pc' := 174) rfl (hb hby at_170) (by decide) (by decide) ?_
      show Steps p.tables e below (T43.setTop (mkF m 174 #[.val (.int p0), .val (.ref b1), .val (.int i), .val (.int (0 : Int32))] [(.int (1 : Int32))])) _
      exact retN X43 hx (t := .boolean) Bd.returns (by simp) (hb hby at_174) hr
    ·
      show Q_rm0 Z p0 w_TINYINT w_SMALLINT w_INT w_INTEGER w_BIGINT w_FLOAT w_DOUBLE w_DECIMAL w_BOOLEAN w_DATE w_TIME w_TIMESTAMP w_DATETIME w_CHAR w_VARCHAR w_BINARY w_VARBINARY w_JSON w_OTHER h0 n0 _ T43.heap _
      rw [e43]
      exact ⟨rfl, N43⟩
  ·
    have K44 : ∀ t, Steps p.tables e below (T39.setTop (mkF m 150 #[.val (.int p0), .val (.ref b1), .val (.int i), .unset] [(.int (12 : Int32)), (.int i)])) t → Steps p.tables e below (s₁.setTop (entryFrame m #[(.int p0)] maxLocals)) t := by
      intro t kt
      refine K41 t ?_
      show Steps p.tables e below (T39.setTop (mkF m 144 #[.val (.int p0), .val (.ref b1), .val (.int i), .unset] [(.int (9 : Int32)), (.int i)])) _
      refine XS.icmpNo X39.here hx rfl (hb hby at_144) rfl (flt hc144).1 ?_
      show Steps p.tables e below (T39.setTop (mkF m 147 #[.val (.int p0), .val (.ref b1), .val (.int i), .unset] [])) _
      refine XS.iloadN X39.here hx rfl (hb hby at_147) rfl ?_
      show Steps p.tables e below (T39.setTop (mkF m 148 #[.val (.int p0), .val (.ref b1), .val (.int i), .unset] [(.int i)])) _
      refine XS.bipush X39.here hx rfl (hb hby at_148) ?_
      exact kt
    by_cases hc150 : (12 : Int32) < i
    ·
      obtain ⟨cl45, Ar45, q45, S45, N45z, H45, G45⟩ := V_b1
      have hin45 : ¬ (i < 0 ∨ cl45.slots.size ≤ (i).toNatClampNeg) := inb_of S45 ⟨hneg, by rw [Int32.lt_iff_toInt_lt]; omega⟩
      have hat45 : cl45.slots[(i).toNatClampNeg]? = some (.ref el) := Has.at H45 hin45 (by rw [hel]; exact own_getref [w_TINYINT, w_SMALLINT, w_INT, w_INTEGER, w_BIGINT, w_FLOAT, w_DOUBLE, w_DECIMAL, w_BOOLEAN, w_DATE, w_TIME, w_TIMESTAMP, w_DATETIME, w_CHAR, w_VARCHAR, w_BINARY, w_VARBINARY, w_JSON, w_OTHER] _ hlt)
      obtain ⟨cq46, kq46, q46a, q46b, q46c⟩ := isOf hZ e39 ((hel ▸ own_exal EX _ hlt : Exa Z Z.heap el "com/example/keylint/keylint/SqlType").ext OLD.2)
      obtain ⟨_, _, ⟨T46, L46, k46, n46⟩, -, X46, ⟨Lc46, hQ46, l46, y46, z46⟩, st46⟩ := X39.virtualBack hx (y := (⟨"com/example/keylint/keylint/SqlType", "isTime", "()Z"⟩ : MethodName)) (z := (⟨"com/example/keylint/keylint/SqlType", "isTime", "()Z"⟩ : MethodName)) hown (mvT hZ (hw _ (List.mem_of_getElem? (i := 43) rfl))) (mvT hZ (hw _ (List.mem_of_getElem? (i := 44) rfl))) (notFace_of_selects (args := #[]) (mvT hZ (hw _ (List.mem_of_getElem? (i := 46) rfl)))) (mvT hZ (hw _ (List.mem_of_getElem? (i := 46) rfl))) (mvT hZ (hw _ (List.mem_of_getElem? (i := 45) rfl))) (by decide) (backOf (W := 0) (rm1 l Z a0 hw [] el w_DATE w_TIME w_TIMESTAMP w_DATETIME h39 n0 Zn (S_DATE.ext OLD.2) (S_TIME.ext OLD.2) (S_TIMESTAMP.ext OLD.2) (S_DATETIME.ext OLD.2)) hZ (hw _ (List.mem_of_getElem? (i := 47) rfl)) (hw _ (List.mem_of_getElem? (i := 3) rfl)) (by decide) (by decide)) q46a q46c (g := (mkF m 162 #[.val (.int p0), .val (.ref b1), .val (.int i), .val (.int (0 : Int32))] [(.ref el)])) rfl (by rw [hml]; rfl) (Steps.refl _) (argsL := []) (rest := []) (lenOf pd_1 rfl) rfl (by show 2 * 0 + _ ≤ _; exact Nat.le_of_eq rfl) (hb hby at_162) (fun _ _ => ⟨rfl, e39, (by decide : 1 + 0 ≤ _), (by decide : 19 + 0 ≤ _)⟩)
      dsimp only [Pt.U, Pt.locs, Pt.cells, Pt.slots] at X46 l46 y46 z46 st46 hQ46
      subst l46 y46 z46
      obtain ⟨rfl, N46q, e46q⟩ := hQ46
      have N46 := Fr.app N39 N46q
      have e46 : T46.heap = h39 := e46q
      have hc166 : (own_in el w_DATE w_TIME w_TIMESTAMP w_DATETIME) = (0 : Int32) := by
          have c9 : (9 : Int32).toInt = 9 := by decide
          have c12 : (12 : Int32).toInt = 12 := by decide
          have qhc144 := hc144
          have qhc150 := hc150
          rw [Int32.lt_iff_toInt_lt] at qhc144 qhc150
          rw [hel]
          refine (own_law o_TINYINT o_SMALLINT o_INT o_INTEGER o_BIGINT o_FLOAT o_DOUBLE o_DECIMAL o_BOOLEAN o_DATE o_TIME o_TIMESTAMP o_DATETIME o_CHAR o_VARCHAR o_BINARY o_VARBINARY o_JSON o_OTHER _ hlt).trans ?_
          rw [if_neg (by omega)]
      obtain ⟨fs, hr, hrun, hended, hW, hsame⟩ := X46.leave (v := some (.int (1 : Int32))) (fun h => by rw [Bd.returns] at h; cases h)
      refine ⟨_, _, K44 _ ?_, hrun, hended, _, _, rfl, ?_, ⟨_, rfl⟩, hW, hsame.mono (by decide) (by decide)⟩
      ·
        show Steps p.tables e below (T39.setTop (mkF m 150 #[.val (.int p0), .val (.ref b1), .val (.int i), .unset] [(.int (12 : Int32)), (.int i)])) _
        refine XS.icmpYes X39.here hx rfl (pc0 := 150) (pc' := 157) rfl (hb hby at_150) rfl (tlt hc150).2.2.1 (by decide) (by decide) ?_
        show Steps p.tables e below (T39.setTop (mkF m 157 #[.val (.int p0), .val (.ref b1), .val (.int i), .unset] [])) _
        refine XS.iconst X39.here hx rfl (hb hby at_157) ?_
        show Steps p.tables e below (T39.setTop (mkF m 158 #[.val (.int p0), .val (.ref b1), .val (.int i), .unset] [(.int (0 : Int32))])) _
        refine XS.istoreN X39.here hx rfl (hb hby at_158) rfl (l' := #[.val (.int p0), .val (.ref b1), .val (.int i), .val (.int (0 : Int32))]) rfl ?_
        show Steps p.tables e below (T39.setTop (mkF m 159 #[.val (.int p0), .val (.ref b1), .val (.int i), .val (.int (0 : Int32))] [])) _
        refine XS.aloadN X39.here hx rfl (hb hby at_159) rfl rfl ?_
        show Steps p.tables e below (T39.setTop (mkF m 160 #[.val (.int p0), .val (.ref b1), .val (.int i), .val (.int (0 : Int32))] [(.ref b1)])) _
        refine XS.iloadN X39.here hx rfl (hb hby at_160) rfl ?_
        show Steps p.tables e below (T39.setTop (mkF m 161 #[.val (.int p0), .val (.ref b1), .val (.int i), .val (.int (0 : Int32))] [(.int i), (.ref b1)])) _
        refine X39.aaload hx (j := i) (v := (.ref el)) (by rw [e39]; exact Ar45.1) (State.isArrayOf_alike hZ.alike Ar45.2.1) rfl Ar45.2.2 hin45 hat45 (g := (mkF m 161 #[.val (.int p0), .val (.ref b1), .val (.int i), .val (.int (0 : Int32))] [(.int i), (.ref b1)])) rfl rfl (hb hby at_161) _ ?_
        show Steps p.tables e below (T39.setTop (mkF m 162 #[.val (.int p0), .val (.ref b1), .val (.int i), .val (.int (0 : Int32))] [(.ref el)])) _
        refine st46.trans ?_
        show Steps p.tables e below (T46.setTop (mkF m 165 #[.val (.int p0), .val (.ref b1), .val (.int i), .val (.int (0 : Int32))] [(.int (own_in el w_DATE w_TIME w_TIMESTAMP w_DATETIME))])) _
        refine XS.iloadN X46.here hx rfl (hb hby at_165) rfl ?_
        show Steps p.tables e below (T46.setTop (mkF m 166 #[.val (.int p0), .val (.ref b1), .val (.int i), .val (.int (0 : Int32))] [(.int (0 : Int32)), (.int (own_in el w_DATE w_TIME w_TIMESTAMP w_DATETIME))])) _
        refine XS.icmpNo X46.here hx rfl (hb hby at_166) rfl (teq hc166).2 ?_
        show Steps p.tables e below (T46.setTop (mkF m 169 #[.val (.int p0), .val (.ref b1), .val (.int i), .val (.int (0 : Int32))] [])) _
        refine XS.iconst X46.here hx rfl (hb hby at_169) ?_
        show Steps p.tables e below (T46.setTop (mkF m 170 #[.val (.int p0), .val (.ref b1), .val (.int i), .val (.int (0 : Int32))] [(.int (1 : Int32))])) _
        refine XS.goto X46.here hx rfl (pc0 := 170) (pc' := 174) rfl (hb hby at_170) (by decide) (by decide) ?_
        show Steps p.tables e below (T46.setTop (mkF m 174 #[.val (.int p0), .val (.ref b1), .val (.int i), .val (.int (0 : Int32))] [(.int (1 : Int32))])) _
        exact retN X46 hx (t := .boolean) Bd.returns (by simp) (hb hby at_174) hr
      ·
        show Q_rm0 Z p0 w_TINYINT w_SMALLINT w_INT w_INTEGER w_BIGINT w_FLOAT w_DOUBLE w_DECIMAL w_BOOLEAN w_DATE w_TIME w_TIMESTAMP w_DATETIME w_CHAR w_VARCHAR w_BINARY w_VARBINARY w_JSON w_OTHER h0 n0 _ T46.heap _
        rw [e46]
        exact ⟨rfl, N46⟩
    ·
      obtain ⟨cl47, Ar47, q47, S47, N47z, H47, G47⟩ := V_b1
      have hin47 : ¬ (i < 0 ∨ cl47.slots.size ≤ (i).toNatClampNeg) := inb_of S47 ⟨hneg, by rw [Int32.lt_iff_toInt_lt]; omega⟩
      have hat47 : cl47.slots[(i).toNatClampNeg]? = some (.ref el) := Has.at H47 hin47 (by rw [hel]; exact own_getref [w_TINYINT, w_SMALLINT, w_INT, w_INTEGER, w_BIGINT, w_FLOAT, w_DOUBLE, w_DECIMAL, w_BOOLEAN, w_DATE, w_TIME, w_TIMESTAMP, w_DATETIME, w_CHAR, w_VARCHAR, w_BINARY, w_VARBINARY, w_JSON, w_OTHER] _ hlt)
      obtain ⟨cq48, kq48, q48a, q48b, q48c⟩ := isOf hZ e39 ((hel ▸ own_exal EX _ hlt : Exa Z Z.heap el "com/example/keylint/keylint/SqlType").ext OLD.2)
      obtain ⟨_, _, ⟨T48, L48, k48, n48⟩, -, X48, ⟨Lc48, hQ48, l48, y48, z48⟩, st48⟩ := X39.virtualBack hx (y := (⟨"com/example/keylint/keylint/SqlType", "isTime", "()Z"⟩ : MethodName)) (z := (⟨"com/example/keylint/keylint/SqlType", "isTime", "()Z"⟩ : MethodName)) hown (mvT hZ (hw _ (List.mem_of_getElem? (i := 43) rfl))) (mvT hZ (hw _ (List.mem_of_getElem? (i := 44) rfl))) (notFace_of_selects (args := #[]) (mvT hZ (hw _ (List.mem_of_getElem? (i := 46) rfl)))) (mvT hZ (hw _ (List.mem_of_getElem? (i := 46) rfl))) (mvT hZ (hw _ (List.mem_of_getElem? (i := 45) rfl))) (by decide) (backOf (W := 0) (rm1 l Z a0 hw [] el w_DATE w_TIME w_TIMESTAMP w_DATETIME h39 n0 Zn (S_DATE.ext OLD.2) (S_TIME.ext OLD.2) (S_TIMESTAMP.ext OLD.2) (S_DATETIME.ext OLD.2)) hZ (hw _ (List.mem_of_getElem? (i := 47) rfl)) (hw _ (List.mem_of_getElem? (i := 3) rfl)) (by decide) (by decide)) q48a q48c (g := (mkF m 162 #[.val (.int p0), .val (.ref b1), .val (.int i), .val (.int (1 : Int32))] [(.ref el)])) rfl (by rw [hml]; rfl) (Steps.refl _) (argsL := []) (rest := []) (lenOf pd_1 rfl) rfl (by show 2 * 0 + _ ≤ _; exact Nat.le_of_eq rfl) (hb hby at_162) (fun _ _ => ⟨rfl, e39, (by decide : 1 + 0 ≤ _), (by decide : 19 + 0 ≤ _)⟩)
      dsimp only [Pt.U, Pt.locs, Pt.cells, Pt.slots] at X48 l48 y48 z48 st48 hQ48
      subst l48 y48 z48
      obtain ⟨rfl, N48q, e48q⟩ := hQ48
      have N48 := Fr.app N39 N48q
      have e48 : T48.heap = h39 := e48q
      have hc166 : (own_in el w_DATE w_TIME w_TIMESTAMP w_DATETIME) = (1 : Int32) := by
          have c9 : (9 : Int32).toInt = 9 := by decide
          have c12 : (12 : Int32).toInt = 12 := by decide
          have qhc144 := hc144
          have qhc150 := hc150
          rw [Int32.lt_iff_toInt_lt] at qhc144 qhc150
          rw [hel]
          refine (own_law o_TINYINT o_SMALLINT o_INT o_INTEGER o_BIGINT o_FLOAT o_DOUBLE o_DECIMAL o_BOOLEAN o_DATE o_TIME o_TIMESTAMP o_DATETIME o_CHAR o_VARCHAR o_BINARY o_VARBINARY o_JSON o_OTHER _ hlt).trans ?_
          rw [if_pos (by omega)]
      obtain ⟨fs, hr, hrun, hended, hW, hsame⟩ := X48.leave (v := some (.int (1 : Int32))) (fun h => by rw [Bd.returns] at h; cases h)
      refine ⟨_, _, K44 _ ?_, hrun, hended, _, _, rfl, ?_, ⟨_, rfl⟩, hW, hsame.mono (by decide) (by decide)⟩
      ·
        show Steps p.tables e below (T39.setTop (mkF m 150 #[.val (.int p0), .val (.ref b1), .val (.int i), .unset] [(.int (12 : Int32)), (.int i)])) _
        refine XS.icmpNo X39.here hx rfl (hb hby at_150) rfl (flt hc150).2.2.1 ?_
        show Steps p.tables e below (T39.setTop (mkF m 153 #[.val (.int p0), .val (.ref b1), .val (.int i), .unset] [])) _
        refine XS.iconst X39.here hx rfl (hb hby at_153) ?_
        show Steps p.tables e below (T39.setTop (mkF m 154 #[.val (.int p0), .val (.ref b1), .val (.int i), .unset] [(.int (1 : Int32))])) _
        refine XS.goto X39.here hx rfl (pc0 := 154) (pc' := 158) rfl (hb hby at_154) (by decide) (by decide) ?_
        show Steps p.tables e below (T39.setTop (mkF m 158 #[.val (.int p0), .val (.ref b1), .val (.int i), .unset] [(.int (1 : Int32))])) _
        refine XS.istoreN X39.here hx rfl (hb hby at_158) rfl (l' := #[.val (.int p0), .val (.ref b1), .val (.int i), .val (.int (1 : Int32))]) rfl ?_
        show Steps p.tables e below (T39.setTop (mkF m 159 #[.val (.int p0), .val (.ref b1), .val (.int i), .val (.int (1 : Int32))] [])) _
        refine XS.aloadN X39.here hx rfl (hb hby at_159) rfl rfl ?_
        show Steps p.tables e below (T39.setTop (mkF m 160 #[.val (.int p0), .val (.ref b1), .val (.int i), .val (.int (1 : Int32))] [(.ref b1)])) _
        refine XS.iloadN X39.here hx rfl (hb hby at_160) rfl ?_
        show Steps p.tables e below (T39.setTop (mkF m 161 #[.val (.int p0), .val (.ref b1), .val (.int i), .val (.int (1 : Int32))] [(.int i), (.ref b1)])) _
        refine X39.aaload hx (j := i) (v := (.ref el)) (by rw [e39]; exact Ar47.1) (State.isArrayOf_alike hZ.alike Ar47.2.1) rfl Ar47.2.2 hin47 hat47 (g := (mkF m 161 #[.val (.int p0), .val (.ref b1), .val (.int i), .val (.int (1 : Int32))] [(.int i), (.ref b1)])) rfl rfl (hb hby at_161) _ ?_
        show Steps p.tables e below (T39.setTop (mkF m 162 #[.val (.int p0), .val (.ref b1), .val (.int i), .val (.int (1 : Int32))] [(.ref el)])) _
        refine st48.trans ?_
        show Steps p.tables e below (T48.setTop (mkF m 165 #[.val (.int p0), .val (.ref b1), .val (.int i), .val (.int (1 : Int32))] [(.int (own_in el w_DATE w_TIME w_TIMESTAMP w_DATETIME))])) _
        refine XS.iloadN X48.here hx rfl (hb hby at_165) rfl ?_
        show Steps p.tables e below (T48.setTop (mkF m 166 #[.val (.int p0), .val (.ref b1), .val (.int i), .val (.int (1 : Int32))] [(.int (1 : Int32)), (.int (own_in el w_DATE w_TIME w_TIMESTAMP w_DATETIME))])) _
        refine XS.icmpNo X48.here hx rfl (hb hby at_166) rfl (teq hc166).2 ?_
        show Steps p.tables e below (T48.setTop (mkF m 169 #[.val (.int p0), .val (.ref b1), .val (.int i), .val (.int (1 : Int32))] [])) _
        refine XS.iconst X48.here hx rfl (hb hby at_169) ?_
        show Steps p.tables e below (T48.setTop (mkF m 170 #[.val (.int p0), .val (.ref b1), .val (.int i), .val (.int (1 : Int32))] [(.int (1 : Int32))])) _
        refine XS.goto X48.here hx rfl (pc0 := 170) (pc' := 174) rfl (hb hby at_170) (by decide) (by decide) ?_
        show Steps p.tables e below (T48.setTop (mkF m 174 #[.val (.int p0), .val (.ref b1), .val (.int i), .val (.int (1 : Int32))] [(.int (1 : Int32))])) _
        exact retN X48 hx (t := .boolean) Bd.returns (by simp) (hb hby at_174) hr
      ·
        show Q_rm0 Z p0 w_TINYINT w_SMALLINT w_INT w_INTEGER w_BIGINT w_FLOAT w_DOUBLE w_DECIMAL w_BOOLEAN w_DATE w_TIME w_TIMESTAMP w_DATETIME w_CHAR w_VARCHAR w_BINARY w_VARBINARY w_JSON w_OTHER h0 n0 _ T48.heap _
        rw [e48]
        exact ⟨rfl, N48⟩
set_option maxRecDepth 65536 in
set_option maxHeartbeats 40000000 in
theorem comes_1 {Post : Tables → Env → Array Value → State → Outcome → State → Prop} (hpost : ∀ tb e args s v u, (limb_1_1.after args s (.returned v) u = true ∧ limb_1_2.after args s (.returned v) u = true ∧ True) → FrameEnd s (.returned v) u (Jvm.fieldLocs frame_1_writes args s ++ Jvm.arrayLocs frame_1_arrays args s ++ Jvm.staticLocs frame_1_statics s) 16 128 → Post tb e args s (.returned v) u) :
    ArmFor flags0 classFile x code maxLocals ret World_1 tables_1 room_1 Calls_1 rest_1 Pre_1 Post := by
  intro l hfl _ _ p e ha hc hk s m args below hf hA hF happ hP
  obtain ⟨hcalls, hrest, hpre⟩ := hP
  obtain ⟨-, -, -, hnamed, -, -, -, hat⟩ := (Spec.applies_iff hf).mp happ
  obtain ⟨hg, hn⟩ := and_e (Cond.before_iff.mp (show (Jvm.Cond.and given_1 narrow_1).before args s = true from hpre))
  obtain ⟨hg0, hg⟩ := and_e hg
  have ga0 := hg
  obtain ⟨w0, rfl⟩ : ∃ w0 : Value, args = #[w0] := by
    have hs : args.size = 1 := by simpa [Cond.value, given_1] using hg0
    obtain ⟨L⟩ := args
    match L, hs with
    | [w0], _ => exact ⟨w0, rfl⟩
  have hw := fun d (hd : d ∈ tables_1) => atoms_spec (ws := Jvm.Cond.code x code maxLocals ret :: tables_1) hat d (List.mem_cons_of_mem _ hd)
  have hfit : Fit s := fun {y c} hc i hi => by
    obtain ⟨ha, rfl⟩ := Array.getElem?_eq_some_iff.mp hc
    have q := List.all_eq_true.mp ((Array.all_eq_true_iff_forall_mem.mp hF) _ (Array.getElem_mem ha)) i (List.mem_range.mpr hi)
    simpa [Array.getElem?_eq_getElem hi] using q
  obtain ⟨i0, ei0⟩ := is_v ga0
  obtain rfl : w0 = (.int i0) := Option.some.inj ei0
  obtain ⟨cn0, hn⟩ := and_e hn
  obtain ⟨cn1, hn⟩ := and_e hn
  obtain ⟨cn2, hn⟩ := and_e hn
  obtain ⟨cn3, hn⟩ := and_e hn
  obtain ⟨cn4, hn⟩ := and_e hn
  obtain ⟨cn5, hn⟩ := and_e hn
  obtain ⟨cn6, hn⟩ := and_e hn
  obtain ⟨cn7, hn⟩ := and_e hn
  obtain ⟨cn8, hn⟩ := and_e hn
  obtain ⟨cn9, hn⟩ := and_e hn
  obtain ⟨cn10, hn⟩ := and_e hn
  obtain ⟨cn11, hn⟩ := and_e hn
  obtain ⟨cn12, hn⟩ := and_e hn
  obtain ⟨cn13, hn⟩ := and_e hn
  obtain ⟨cn14, hn⟩ := and_e hn
  obtain ⟨cn15, hn⟩ := and_e hn
  obtain ⟨cn16, hn⟩ := and_e hn
  obtain ⟨cn17, hn⟩ := and_e hn
  obtain ⟨cn18, hn⟩ := and_e hn
  obtain ⟨cn19, hn⟩ := and_e hn
  obtain ⟨cn20, hn⟩ := and_e hn
  obtain ⟨cn21, hn⟩ := and_e hn
  obtain ⟨cn22, hn⟩ := and_e hn
  obtain ⟨cn23, hn⟩ := and_e hn
  obtain ⟨cn24, hn⟩ := and_e hn
  obtain ⟨cn25, hn⟩ := and_e hn
  obtain ⟨cn26, hn⟩ := and_e hn
  obtain ⟨cn27, hn⟩ := and_e hn
  obtain ⟨cn28, hn⟩ := and_e hn
  obtain ⟨cn29, hn⟩ := and_e hn
  obtain ⟨cn30, hn⟩ := and_e hn
  obtain ⟨cn31, hn⟩ := and_e hn
  obtain ⟨cn32, hn⟩ := and_e hn
  obtain ⟨cn33, hn⟩ := and_e hn
  obtain ⟨cn34, hn⟩ := and_e hn
  obtain ⟨cn35, hn⟩ := and_e hn
  obtain ⟨cn36, hn⟩ := and_e hn
  have cn37 := hn
  obtain ⟨w_TINYINT, ev_TINYINT⟩ := exa_v cn0
  have S_TINYINT : Sta s s.heap "com/example/keylint/keylint/SqlType" "TINYINT" "Lcom/example/keylint/keylint/SqlType;" (.ref w_TINYINT) := Sta.start ev_TINYINT (Or.inr ⟨(hw _ (List.mem_of_getElem? (i := 3) rfl)), (hw _ (List.mem_of_getElem? (i := 4) rfl))⟩)
  have E_w_TINYINT : Exa s s.heap w_TINYINT "com/example/keylint/keylint/SqlType" := Exa.start ev_TINYINT cn0
  obtain ⟨w_SMALLINT, ev_SMALLINT⟩ := exa_v cn1
  have S_SMALLINT : Sta s s.heap "com/example/keylint/keylint/SqlType" "SMALLINT" "Lcom/example/keylint/keylint/SqlType;" (.ref w_SMALLINT) := Sta.start ev_SMALLINT (Or.inr ⟨(hw _ (List.mem_of_getElem? (i := 3) rfl)), (hw _ (List.mem_of_getElem? (i := 7) rfl))⟩)
  have E_w_SMALLINT : Exa s s.heap w_SMALLINT "com/example/keylint/keylint/SqlType" := Exa.start ev_SMALLINT cn1
  obtain ⟨w_INT, ev_INT⟩ := exa_v cn2
  have S_INT : Sta s s.heap "com/example/keylint/keylint/SqlType" "INT" "Lcom/example/keylint/keylint/SqlType;" (.ref w_INT) := Sta.start ev_INT (Or.inr ⟨(hw _ (List.mem_of_getElem? (i := 3) rfl)), (hw _ (List.mem_of_getElem? (i := 9) rfl))⟩)
  have E_w_INT : Exa s s.heap w_INT "com/example/keylint/keylint/SqlType" := Exa.start ev_INT cn2
  obtain ⟨w_INTEGER, ev_INTEGER⟩ := exa_v cn3
  have S_INTEGER : Sta s s.heap "com/example/keylint/keylint/SqlType" "INTEGER" "Lcom/example/keylint/keylint/SqlType;" (.ref w_INTEGER) := Sta.start ev_INTEGER (Or.inr ⟨(hw _ (List.mem_of_getElem? (i := 3) rfl)), (hw _ (List.mem_of_getElem? (i := 11) rfl))⟩)
  have E_w_INTEGER : Exa s s.heap w_INTEGER "com/example/keylint/keylint/SqlType" := Exa.start ev_INTEGER cn3
  obtain ⟨w_BIGINT, ev_BIGINT⟩ := exa_v cn4
  have S_BIGINT : Sta s s.heap "com/example/keylint/keylint/SqlType" "BIGINT" "Lcom/example/keylint/keylint/SqlType;" (.ref w_BIGINT) := Sta.start ev_BIGINT (Or.inr ⟨(hw _ (List.mem_of_getElem? (i := 3) rfl)), (hw _ (List.mem_of_getElem? (i := 13) rfl))⟩)
  have E_w_BIGINT : Exa s s.heap w_BIGINT "com/example/keylint/keylint/SqlType" := Exa.start ev_BIGINT cn4
  obtain ⟨w_FLOAT, ev_FLOAT⟩ := exa_v cn5
  have S_FLOAT : Sta s s.heap "com/example/keylint/keylint/SqlType" "FLOAT" "Lcom/example/keylint/keylint/SqlType;" (.ref w_FLOAT) := Sta.start ev_FLOAT (Or.inr ⟨(hw _ (List.mem_of_getElem? (i := 3) rfl)), (hw _ (List.mem_of_getElem? (i := 15) rfl))⟩)
  have E_w_FLOAT : Exa s s.heap w_FLOAT "com/example/keylint/keylint/SqlType" := Exa.start ev_FLOAT cn5
  obtain ⟨w_DOUBLE, ev_DOUBLE⟩ := exa_v cn6
  have S_DOUBLE : Sta s s.heap "com/example/keylint/keylint/SqlType" "DOUBLE" "Lcom/example/keylint/keylint/SqlType;" (.ref w_DOUBLE) := Sta.start ev_DOUBLE (Or.inr ⟨(hw _ (List.mem_of_getElem? (i := 3) rfl)), (hw _ (List.mem_of_getElem? (i := 17) rfl))⟩)
  have E_w_DOUBLE : Exa s s.heap w_DOUBLE "com/example/keylint/keylint/SqlType" := Exa.start ev_DOUBLE cn6
  obtain ⟨w_DECIMAL, ev_DECIMAL⟩ := exa_v cn7
  have S_DECIMAL : Sta s s.heap "com/example/keylint/keylint/SqlType" "DECIMAL" "Lcom/example/keylint/keylint/SqlType;" (.ref w_DECIMAL) := Sta.start ev_DECIMAL (Or.inr ⟨(hw _ (List.mem_of_getElem? (i := 3) rfl)), (hw _ (List.mem_of_getElem? (i := 19) rfl))⟩)
  have E_w_DECIMAL : Exa s s.heap w_DECIMAL "com/example/keylint/keylint/SqlType" := Exa.start ev_DECIMAL cn7
  obtain ⟨w_BOOLEAN, ev_BOOLEAN⟩ := exa_v cn8
  have S_BOOLEAN : Sta s s.heap "com/example/keylint/keylint/SqlType" "BOOLEAN" "Lcom/example/keylint/keylint/SqlType;" (.ref w_BOOLEAN) := Sta.start ev_BOOLEAN (Or.inr ⟨(hw _ (List.mem_of_getElem? (i := 3) rfl)), (hw _ (List.mem_of_getElem? (i := 21) rfl))⟩)
  have E_w_BOOLEAN : Exa s s.heap w_BOOLEAN "com/example/keylint/keylint/SqlType" := Exa.start ev_BOOLEAN cn8
  obtain ⟨w_DATE, ev_DATE⟩ := exa_v cn9
  have S_DATE : Sta s s.heap "com/example/keylint/keylint/SqlType" "DATE" "Lcom/example/keylint/keylint/SqlType;" (.ref w_DATE) := Sta.start ev_DATE (Or.inr ⟨(hw _ (List.mem_of_getElem? (i := 3) rfl)), (hw _ (List.mem_of_getElem? (i := 23) rfl))⟩)
  have E_w_DATE : Exa s s.heap w_DATE "com/example/keylint/keylint/SqlType" := Exa.start ev_DATE cn9
  obtain ⟨w_TIME, ev_TIME⟩ := exa_v cn10
  have S_TIME : Sta s s.heap "com/example/keylint/keylint/SqlType" "TIME" "Lcom/example/keylint/keylint/SqlType;" (.ref w_TIME) := Sta.start ev_TIME (Or.inr ⟨(hw _ (List.mem_of_getElem? (i := 3) rfl)), (hw _ (List.mem_of_getElem? (i := 25) rfl))⟩)
  have E_w_TIME : Exa s s.heap w_TIME "com/example/keylint/keylint/SqlType" := Exa.start ev_TIME cn10
  obtain ⟨w_TIMESTAMP, ev_TIMESTAMP⟩ := exa_v cn11
  have S_TIMESTAMP : Sta s s.heap "com/example/keylint/keylint/SqlType" "TIMESTAMP" "Lcom/example/keylint/keylint/SqlType;" (.ref w_TIMESTAMP) := Sta.start ev_TIMESTAMP (Or.inr ⟨(hw _ (List.mem_of_getElem? (i := 3) rfl)), (hw _ (List.mem_of_getElem? (i := 27) rfl))⟩)
  have E_w_TIMESTAMP : Exa s s.heap w_TIMESTAMP "com/example/keylint/keylint/SqlType" := Exa.start ev_TIMESTAMP cn11
  obtain ⟨w_DATETIME, ev_DATETIME⟩ := exa_v cn12
  have S_DATETIME : Sta s s.heap "com/example/keylint/keylint/SqlType" "DATETIME" "Lcom/example/keylint/keylint/SqlType;" (.ref w_DATETIME) := Sta.start ev_DATETIME (Or.inr ⟨(hw _ (List.mem_of_getElem? (i := 3) rfl)), (hw _ (List.mem_of_getElem? (i := 29) rfl))⟩)
  have E_w_DATETIME : Exa s s.heap w_DATETIME "com/example/keylint/keylint/SqlType" := Exa.start ev_DATETIME cn12
  obtain ⟨w_CHAR, ev_CHAR⟩ := exa_v cn13
  have S_CHAR : Sta s s.heap "com/example/keylint/keylint/SqlType" "CHAR" "Lcom/example/keylint/keylint/SqlType;" (.ref w_CHAR) := Sta.start ev_CHAR (Or.inr ⟨(hw _ (List.mem_of_getElem? (i := 3) rfl)), (hw _ (List.mem_of_getElem? (i := 31) rfl))⟩)
  have E_w_CHAR : Exa s s.heap w_CHAR "com/example/keylint/keylint/SqlType" := Exa.start ev_CHAR cn13
  obtain ⟨w_VARCHAR, ev_VARCHAR⟩ := exa_v cn14
  have S_VARCHAR : Sta s s.heap "com/example/keylint/keylint/SqlType" "VARCHAR" "Lcom/example/keylint/keylint/SqlType;" (.ref w_VARCHAR) := Sta.start ev_VARCHAR (Or.inr ⟨(hw _ (List.mem_of_getElem? (i := 3) rfl)), (hw _ (List.mem_of_getElem? (i := 33) rfl))⟩)
  have E_w_VARCHAR : Exa s s.heap w_VARCHAR "com/example/keylint/keylint/SqlType" := Exa.start ev_VARCHAR cn14
  obtain ⟨w_BINARY, ev_BINARY⟩ := exa_v cn15
  have S_BINARY : Sta s s.heap "com/example/keylint/keylint/SqlType" "BINARY" "Lcom/example/keylint/keylint/SqlType;" (.ref w_BINARY) := Sta.start ev_BINARY (Or.inr ⟨(hw _ (List.mem_of_getElem? (i := 3) rfl)), (hw _ (List.mem_of_getElem? (i := 35) rfl))⟩)
  have E_w_BINARY : Exa s s.heap w_BINARY "com/example/keylint/keylint/SqlType" := Exa.start ev_BINARY cn15
  obtain ⟨w_VARBINARY, ev_VARBINARY⟩ := exa_v cn16
  have S_VARBINARY : Sta s s.heap "com/example/keylint/keylint/SqlType" "VARBINARY" "Lcom/example/keylint/keylint/SqlType;" (.ref w_VARBINARY) := Sta.start ev_VARBINARY (Or.inr ⟨(hw _ (List.mem_of_getElem? (i := 3) rfl)), (hw _ (List.mem_of_getElem? (i := 37) rfl))⟩)
  have E_w_VARBINARY : Exa s s.heap w_VARBINARY "com/example/keylint/keylint/SqlType" := Exa.start ev_VARBINARY cn16
  obtain ⟨w_JSON, ev_JSON⟩ := exa_v cn17
  have S_JSON : Sta s s.heap "com/example/keylint/keylint/SqlType" "JSON" "Lcom/example/keylint/keylint/SqlType;" (.ref w_JSON) := Sta.start ev_JSON (Or.inr ⟨(hw _ (List.mem_of_getElem? (i := 3) rfl)), (hw _ (List.mem_of_getElem? (i := 39) rfl))⟩)
  have E_w_JSON : Exa s s.heap w_JSON "com/example/keylint/keylint/SqlType" := Exa.start ev_JSON cn17
  obtain ⟨w_OTHER, ev_OTHER⟩ := exa_v cn18
  have S_OTHER : Sta s s.heap "com/example/keylint/keylint/SqlType" "OTHER" "Lcom/example/keylint/keylint/SqlType;" (.ref w_OTHER) := Sta.start ev_OTHER (Or.inr ⟨(hw _ (List.mem_of_getElem? (i := 3) rfl)), (hw _ (List.mem_of_getElem? (i := 41) rfl))⟩)
  have E_w_OTHER : Exa s s.heap w_OTHER "com/example/keylint/keylint/SqlType" := Exa.start ev_OTHER cn18
  have q_TINYINT := (fld_at ev_TINYINT).symm.trans (own_eqv cn19)
  have o_TINYINT := own_ordv q_TINYINT
  have q_DATE := (fld_at ev_DATE).symm.trans (own_eqv cn20)
  have o_DATE := own_ordv q_DATE
  have q_TIME := (fld_at ev_TIME).symm.trans (own_eqv cn21)
  have o_TIME := own_ordv q_TIME
  have q_TIMESTAMP := (fld_at ev_TIMESTAMP).symm.trans (own_eqv cn22)
  have o_TIMESTAMP := own_ordv q_TIMESTAMP
  have q_DATETIME := (fld_at ev_DATETIME).symm.trans (own_eqv cn23)
  have o_DATETIME := own_ordv q_DATETIME
  have q_INTEGER := (fld_at ev_INTEGER).symm.trans (own_eqv cn24)
  have o_INTEGER := own_ordv q_INTEGER
  have q_BINARY := (fld_at ev_BINARY).symm.trans (own_eqv cn25)
  have o_BINARY := own_ordv q_BINARY
  have q_FLOAT := (fld_at ev_FLOAT).symm.trans (own_eqv cn26)
  have o_FLOAT := own_ordv q_FLOAT
  have q_JSON := (fld_at ev_JSON).symm.trans (own_eqv cn27)
  have o_JSON := own_ordv q_JSON
  have q_DECIMAL := (fld_at ev_DECIMAL).symm.trans (own_eqv cn28)
  have o_DECIMAL := own_ordv q_DECIMAL
  have q_INT := (fld_at ev_INT).symm.trans (own_eqv cn29)
  have o_INT := own_ordv q_INT
  have q_BOOLEAN := (fld_at ev_BOOLEAN).symm.trans (own_eqv cn30)
  have o_BOOLEAN := own_ordv q_BOOLEAN
  have q_SMALLINT := (fld_at ev_SMALLINT).symm.trans (own_eqv cn31)
  have o_SMALLINT := own_ordv q_SMALLINT
  have q_VARCHAR := (fld_at ev_VARCHAR).symm.trans (own_eqv cn32)
  have o_VARCHAR := own_ordv q_VARCHAR
  have q_OTHER := (fld_at ev_OTHER).symm.trans (own_eqv cn33)
  have o_OTHER := own_ordv q_OTHER
  have q_DOUBLE := (fld_at ev_DOUBLE).symm.trans (own_eqv cn34)
  have o_DOUBLE := own_ordv q_DOUBLE
  have q_VARBINARY := (fld_at ev_VARBINARY).symm.trans (own_eqv cn35)
  have o_VARBINARY := own_ordv q_VARBINARY
  have q_BIGINT := (fld_at ev_BIGINT).symm.trans (own_eqv cn36)
  have o_BIGINT := own_ordv q_BIGINT
  have q_CHAR := (fld_at ev_CHAR).symm.trans (own_eqv cn37)
  have o_CHAR := own_ordv q_CHAR
  have EX : ∀ a ∈ [w_TINYINT, w_SMALLINT, w_INT, w_INTEGER, w_BIGINT, w_FLOAT, w_DOUBLE, w_DECIMAL, w_BOOLEAN, w_DATE, w_TIME, w_TIMESTAMP, w_DATETIME, w_CHAR, w_VARCHAR, w_BINARY, w_VARBINARY, w_JSON, w_OTHER], Exa s s.heap a "com/example/keylint/keylint/SqlType" := (allS E_w_TINYINT (allS E_w_SMALLINT (allS E_w_INT (allS E_w_INTEGER (allS E_w_BIGINT (allS E_w_FLOAT (allS E_w_DOUBLE (allS E_w_DECIMAL (allS E_w_BOOLEAN (allS E_w_DATE (allS E_w_TIME (allS E_w_TIMESTAMP (allS E_w_DATETIME (allS E_w_CHAR (allS E_w_VARCHAR (allS E_w_BINARY (allS E_w_VARBINARY (allS E_w_JSON (allS E_w_OTHER all0)))))))))))))))))))
  obtain ⟨n, o, h1, h2, h3, _, L, rfl, ⟨rfl, N⟩, hq⟩ := rm0 l s _ hw tables_1 i0 w_TINYINT w_SMALLINT w_INT w_INTEGER w_BIGINT w_FLOAT w_DOUBLE w_DECIMAL w_BOOLEAN w_DATE w_TIME w_TIMESTAMP w_DATETIME w_CHAR w_VARCHAR w_BINARY w_VARBINARY w_JSON w_OTHER s.heap s.heap.size (Nat.le_refl _) S_TINYINT S_SMALLINT S_INT S_INTEGER S_BIGINT S_FLOAT S_DOUBLE S_DECIMAL S_BOOLEAN S_DATE S_TIME S_TIMESTAMP S_DATETIME S_CHAR S_VARCHAR S_BINARY S_VARBINARY S_JSON S_OTHER E_w_TINYINT E_w_SMALLINT E_w_INT E_w_INTEGER E_w_BIGINT E_w_FLOAT E_w_DOUBLE E_w_DECIMAL E_w_BOOLEAN E_w_DATE E_w_TIME E_w_TIMESTAMP E_w_DATETIME E_w_CHAR E_w_VARCHAR E_w_BINARY E_w_VARBINARY E_w_JSON E_w_OTHER EX (Old.start s) o_TINYINT o_SMALLINT o_INT o_INTEGER o_BIGINT o_FLOAT o_DOUBLE o_DECIMAL o_BOOLEAN o_DATE o_TIME o_TIMESTAMP o_DATETIME o_CHAR o_VARCHAR o_BINARY o_VARBINARY o_JSON o_OTHER p e ha hc hk s m _ below hf ((Spec.applies_iff_loose hf).mp happ).1 ⟨rfl, State.Warmed39.refl s, rfl⟩ trivial
  refine ⟨n, _, h1, h2, h3, hpost _ _ _ _ _ _ ⟨Cond.after_iff.mpr rfl, Cond.after_iff.mpr (eq_i res_at (Term.int_eval (1)) rfl), trivial⟩ ⟨hq.1, hq.2.1, (hq.2.2.sift fun y hy => Or.inr (N y hy)).mono (by decide) (by decide)⟩⟩
theorem main_1_1 : Claimed_1_1 := comes_1 fun _ _ _ _ _ _ h hF => ⟨h.1, hF⟩
theorem main_1_2 : Claimed_1_2 := comes_1 fun _ _ _ _ _ _ h hF => ⟨h.2.1, hF⟩
end Jvm.Pilot.@@N@@
namespace Jvm.Pilot.@@N@@
open Jvm Jvm.ClassFile Sem Op Lib Jvm.Free Jvm.Stand Jvm.Pilot.@@N@@.Jvm.D
/-! MADE BY PROGRAM (witnessworld.py) out of the Statement's table words and the real class files: 13 classes; the members and pool entries that the words name. The judged class is class 1, her method 1. -/
namespace start1
open Jvm.ClassFile
def u (s : String) : CpInfo := .utf8 (stringToUtf16 s)
/-- a pool by its gaps: so many unusable entries, then the entry; so many at the end -/
def gap : Nat → List CpInfo → List CpInfo
  | 0, r => r
  | n + 1, r => .unusable :: gap n r
def poolList (es : List (Nat × CpInfo)) (last : Nat) : List CpInfo := es.foldr (fun e r => gap e.1 (e.2 :: r)) (gap last [])
def pool (es : List (Nat × CpInfo)) (last : Nat) : Array CpInfo := ⟨poolList es last⟩
def fileOf (pool : Array CpInfo) (this : Nat) (attrs : Array Attribute := #[]) (ms : Array MethodInfo := #[]) (fl : Nat := 33) (sup : Nat := 0) (ifs : Array Nat := #[]) (fds : Array FieldInfo := #[]) : ClassFile where
  minorVersion := 0
  majorVersion := 65
  constantPool := pool
  accessFlags := fl
  thisClass := this
  superClass := sup
  interfaces := ifs
  fields := fds
  methods := ms
  attributes := attrs
def plain (name : String) (sup : Option ClassId) : Class where
  name := name
  kind := .ordinary
  loader := none
  accessFlags := 33
  super := sup
  interfaces := #[]
  cf := none
  fields := #[]
  methods := #[]
  instanceTypes := #[]
  staticTypes := #[]
  resolved := #[]
  callSites := []
  init := .initialized
  statics := none
  mirror := none

def pool0 : Array CpInfo := pool [(5, u "<init>"), (0, u "()V"), (1, .class_ 10), (1, u "java/lang/Object")] 113

def k0m0 : Method := { name := "<init>", desc := "()V", sig := { parameters := [], returnType := none }, accessFlags := 1, code := none }
/-- java/lang/Object -/
def k0 : Class := { plain "java/lang/Object" none with
  accessFlags := 33
  interfaces := #[]
  cf := some (fileOf pool0 8 #[] #[{ accessFlags := 1, nameIndex := 5, descriptorIndex := 6, attributes := #[] }] 33 0 #[] #[])
  fields := #[]
  methods := #[k0m0]
  instanceTypes := #[]
  staticTypes := #[]
  resolved := Array.replicate 124 none
  statics := none }

def pool1 : Array CpInfo := pool [(2, .class_ 4), (1, u "java/lang/Object"), (0, u "<init>"), (0, u "()V"), (0, .class_ 8), (0, u "com/example/keylint/keylint/SqlType"), (0, .fieldref 7 10), (0, .nameAndType 11 12), (0, u "TINYINT"), (0, u "Lcom/example/keylint/keylint/SqlType;"), (0, .fieldref 7 14), (0, .nameAndType 15 12), (0, u "SMALLINT"), (0, .fieldref 7 17), (0, .nameAndType 18 12), (0, u "INT"), (0, .fieldref 7 20), (0, .nameAndType 21 12), (0, u "INTEGER"), (0, .fieldref 7 23), (0, .nameAndType 24 12), (0, u "BIGINT"), (0, .fieldref 7 26), (0, .nameAndType 27 12), (0, u "FLOAT"), (0, .fieldref 7 29), (0, .nameAndType 30 12), (0, u "DOUBLE"), (0, .fieldref 7 32), (0, .nameAndType 33 12), (0, u "DECIMAL"), (0, .fieldref 7 35), (0, .nameAndType 36 12), (0, u "BOOLEAN"), (0, .fieldref 7 38), (0, .nameAndType 39 12), (0, u "DATE"), (0, .fieldref 7 41), (0, .nameAndType 42 12), (0, u "TIME"), (0, .fieldref 7 44), (0, .nameAndType 45 12), (0, u "TIMESTAMP"), (0, .fieldref 7 47), (0, .nameAndType 48 12), (0, u "DATETIME"), (0, .fieldref 7 50), (0, .nameAndType 51 12), (0, u "CHAR"), (0, .fieldref 7 53), (0, .nameAndType 54 12), (0, u "VARCHAR"), (0, .fieldref 7 56), (0, .nameAndType 57 12), (0, u "BINARY"), (0, .fieldref 7 59), (0, .nameAndType 60 12), (0, u "VARBINARY"), (0, .fieldref 7 62), (0, .nameAndType 63 12), (0, u "JSON"), (0, .fieldref 7 65), (0, .nameAndType 66 12), (0, u "OTHER"), (0, .integer 2147483647), (0, .methodref 7 69), (0, .nameAndType 70 71), (0, u "isTime"), (0, u "()Z"), (0, .class_ 73), (0, u "com/example/keylint/keylint/SqlTypeIsTimePinLaw"), (2, u "law"), (0, u "(I)Z")] 5

def k1m0 : Method := { name := "<init>", desc := "()V", sig := { parameters := [], returnType := none }, accessFlags := 2, code := none }
def k1c1 : Code := { maxStack := 4, maxLocals := 4, code := code, exceptionTable := #[], attributes := #[] }
def k1m1 : Method := { name := "law", desc := "(I)Z", sig := { parameters := [.int], returnType := some .boolean }, accessFlags := 9, code := some k1c1 }
/-- com/example/keylint/keylint/SqlTypeIsTimePinLaw -/
def k1 : Class := { plain "com/example/keylint/keylint/SqlTypeIsTimePinLaw" (some 0) with
  accessFlags := 49
  interfaces := #[]
  cf := some (fileOf pool1 72 #[] #[{ accessFlags := 2, nameIndex := 5, descriptorIndex := 6, attributes := #[] }, { accessFlags := 9, nameIndex := 76, descriptorIndex := 77, attributes := #[] }] 49 2 #[] #[])
  fields := #[]
  methods := #[k1m0, k1m1]
  instanceTypes := #[]
  staticTypes := #[]
  resolved := Array.replicate 83 none
  statics := none }

def pool2 : Array CpInfo := pool [(1, .class_ 2), (0, u "java/lang/constant/Constable"), (0, .class_ 4), (0, u "java/lang/Object")] 6

/-- java/lang/constant/Constable -/
def k2 : Class := { plain "java/lang/constant/Constable" (some 0) with
  accessFlags := 1537
  interfaces := #[]
  cf := some (fileOf pool2 1 #[] #[] 1537 3 #[] #[])
  fields := #[]
  methods := #[]
  instanceTypes := #[]
  staticTypes := #[]
  resolved := Array.replicate 11 none
  statics := none }

def pool3 : Array CpInfo := pool [(1, .class_ 2), (0, u "java/lang/Comparable"), (0, .class_ 4), (0, u "java/lang/Object")] 7

/-- java/lang/Comparable -/
def k3 : Class := { plain "java/lang/Comparable" (some 0) with
  accessFlags := 1537
  interfaces := #[]
  cf := some (fileOf pool3 1 #[] #[] 1537 3 #[] #[])
  fields := #[]
  methods := #[]
  instanceTypes := #[]
  staticTypes := #[]
  resolved := Array.replicate 12 none
  statics := none }

def pool4 : Array CpInfo := pool [(1, .class_ 2), (0, u "java/io/Serializable"), (0, .class_ 4), (0, u "java/lang/Object")] 2

/-- java/io/Serializable -/
def k4 : Class := { plain "java/io/Serializable" (some 0) with
  accessFlags := 1537
  interfaces := #[]
  cf := some (fileOf pool4 1 #[] #[] 1537 3 #[] #[])
  fields := #[]
  methods := #[]
  instanceTypes := #[]
  staticTypes := #[]
  resolved := Array.replicate 7 none
  statics := none }

def pool5 : Array CpInfo := pool [(2, .class_ 4), (1, u "java/lang/Enum"), (0, u "name"), (0, u "Ljava/lang/String;"), (2, u "ordinal"), (0, u "I"), (1, .class_ 14), (1, u "java/lang/Object"), (4, u "hash"), (86, .class_ 108), (1, u "java/lang/Enum$EnumDesc"), (2, .class_ 112), (0, u "java/lang/constant/Constable"), (0, .class_ 114), (0, u "java/lang/Comparable"), (0, .class_ 116), (0, u "java/io/Serializable")] 87

/-- java/lang/Enum -/
def k5 : Class := { plain "java/lang/Enum" (some 0) with
  accessFlags := 1057
  interfaces := #[2, 3, 4]
  cf := some (fileOf pool5 2 #[.nestMembers #[106]] #[] 1057 12 #[111, 113, 115] #[{ accessFlags := 18, nameIndex := 5, descriptorIndex := 6, attributes := #[] }, { accessFlags := 18, nameIndex := 9, descriptorIndex := 10, attributes := #[] }, { accessFlags := 2, nameIndex := 19, descriptorIndex := 10, attributes := #[] }])
  fields := #[{ name := "name", type := (.object "java/lang/String"), accessFlags := 18, slot := 0, constantValue := 0 }, { name := "ordinal", type := .int, accessFlags := 18, slot := 1, constantValue := 0 }, { name := "hash", type := .int, accessFlags := 2, slot := 2, constantValue := 0 }]
  methods := #[]
  instanceTypes := #[(.object "java/lang/String"), .int, .int]
  staticTypes := #[]
  resolved := Array.replicate 204 none
  statics := none }

def pool6 : Array CpInfo := pool [(1, .class_ 2), (0, u "com/example/keylint/keylint/SqlType"), (2, u "TINYINT"), (0, u "Lcom/example/keylint/keylint/SqlType;"), (2, u "SMALLINT"), (2, u "INT"), (2, u "INTEGER"), (2, u "BIGINT"), (2, u "FLOAT"), (2, u "DOUBLE"), (2, u "DECIMAL"), (2, u "BOOLEAN"), (0, .fieldref 1 32), (0, .nameAndType 33 6), (0, u "DATE"), (0, .fieldref 1 35), (0, .nameAndType 36 6), (0, u "TIME"), (0, .fieldref 1 38), (0, .nameAndType 39 6), (0, u "TIMESTAMP"), (0, .fieldref 1 41), (0, .nameAndType 42 6), (0, u "DATETIME"), (2, u "CHAR"), (2, u "VARCHAR"), (2, u "BINARY"), (2, u "VARBINARY"), (2, u "JSON"), (2, u "OTHER"), (2, u "$VALUES"), (0, u "[Lcom/example/keylint/keylint/SqlType;"), (6, .class_ 73), (1, u "java/lang/Enum"), (8, u "order"), (0, u "Lcom/example/keylint/keylint/ValueOrder;"), (2, u "BY_NAME"), (0, u "Ljava/util/Map;"), (78, u "isTime"), (0, u "()Z")] 7

def k6c0 : Code := { maxStack := 2, maxLocals := 1, code := prog_69_method_6_code, exceptionTable := #[], attributes := #[] }
def k6m0 : Method := { name := "isTime", desc := "()Z", sig := { parameters := [], returnType := some .boolean }, accessFlags := 0, code := some k6c0 }
/-- com/example/keylint/keylint/SqlType -/
def k6 : Class := { plain "com/example/keylint/keylint/SqlType" (some 5) with
  accessFlags := 16432
  interfaces := #[]
  cf := some (fileOf pool6 1 #[] #[{ accessFlags := 0, nameIndex := 166, descriptorIndex := 167, attributes := #[] }] 16432 71 #[] #[{ accessFlags := 16409, nameIndex := 5, descriptorIndex := 6, attributes := #[] }, { accessFlags := 16409, nameIndex := 9, descriptorIndex := 6, attributes := #[] }, { accessFlags := 16409, nameIndex := 12, descriptorIndex := 6, attributes := #[] }, { accessFlags := 16409, nameIndex := 15, descriptorIndex := 6, attributes := #[] }, { accessFlags := 16409, nameIndex := 18, descriptorIndex := 6, attributes := #[] }, { accessFlags := 16409, nameIndex := 21, descriptorIndex := 6, attributes := #[] }, { accessFlags := 16409, nameIndex := 24, descriptorIndex := 6, attributes := #[] }, { accessFlags := 16409, nameIndex := 27, descriptorIndex := 6, attributes := #[] }, { accessFlags := 16409, nameIndex := 30, descriptorIndex := 6, attributes := #[] }, { accessFlags := 16409, nameIndex := 33, descriptorIndex := 6, attributes := #[] }, { accessFlags := 16409, nameIndex := 36, descriptorIndex := 6, attributes := #[] }, { accessFlags := 16409, nameIndex := 39, descriptorIndex := 6, attributes := #[] }, { accessFlags := 16409, nameIndex := 42, descriptorIndex := 6, attributes := #[] }, { accessFlags := 16409, nameIndex := 45, descriptorIndex := 6, attributes := #[] }, { accessFlags := 16409, nameIndex := 48, descriptorIndex := 6, attributes := #[] }, { accessFlags := 16409, nameIndex := 51, descriptorIndex := 6, attributes := #[] }, { accessFlags := 16409, nameIndex := 54, descriptorIndex := 6, attributes := #[] }, { accessFlags := 16409, nameIndex := 57, descriptorIndex := 6, attributes := #[] }, { accessFlags := 16409, nameIndex := 60, descriptorIndex := 6, attributes := #[] }, { accessFlags := 26, nameIndex := 86, descriptorIndex := 87, attributes := #[] }, { accessFlags := 18, nameIndex := 82, descriptorIndex := 83, attributes := #[] }, { accessFlags := 4122, nameIndex := 63, descriptorIndex := 64, attributes := #[] }])
  fields := #[{ name := "TINYINT", type := (.object "com/example/keylint/keylint/SqlType"), accessFlags := 16409, slot := 0, constantValue := 0 }, { name := "SMALLINT", type := (.object "com/example/keylint/keylint/SqlType"), accessFlags := 16409, slot := 1, constantValue := 0 }, { name := "INT", type := (.object "com/example/keylint/keylint/SqlType"), accessFlags := 16409, slot := 2, constantValue := 0 }, { name := "INTEGER", type := (.object "com/example/keylint/keylint/SqlType"), accessFlags := 16409, slot := 3, constantValue := 0 }, { name := "BIGINT", type := (.object "com/example/keylint/keylint/SqlType"), accessFlags := 16409, slot := 4, constantValue := 0 }, { name := "FLOAT", type := (.object "com/example/keylint/keylint/SqlType"), accessFlags := 16409, slot := 5, constantValue := 0 }, { name := "DOUBLE", type := (.object "com/example/keylint/keylint/SqlType"), accessFlags := 16409, slot := 6, constantValue := 0 }, { name := "DECIMAL", type := (.object "com/example/keylint/keylint/SqlType"), accessFlags := 16409, slot := 7, constantValue := 0 }, { name := "BOOLEAN", type := (.object "com/example/keylint/keylint/SqlType"), accessFlags := 16409, slot := 8, constantValue := 0 }, { name := "DATE", type := (.object "com/example/keylint/keylint/SqlType"), accessFlags := 16409, slot := 9, constantValue := 0 }, { name := "TIME", type := (.object "com/example/keylint/keylint/SqlType"), accessFlags := 16409, slot := 10, constantValue := 0 }, { name := "TIMESTAMP", type := (.object "com/example/keylint/keylint/SqlType"), accessFlags := 16409, slot := 11, constantValue := 0 }, { name := "DATETIME", type := (.object "com/example/keylint/keylint/SqlType"), accessFlags := 16409, slot := 12, constantValue := 0 }, { name := "CHAR", type := (.object "com/example/keylint/keylint/SqlType"), accessFlags := 16409, slot := 13, constantValue := 0 }, { name := "VARCHAR", type := (.object "com/example/keylint/keylint/SqlType"), accessFlags := 16409, slot := 14, constantValue := 0 }, { name := "BINARY", type := (.object "com/example/keylint/keylint/SqlType"), accessFlags := 16409, slot := 15, constantValue := 0 }, { name := "VARBINARY", type := (.object "com/example/keylint/keylint/SqlType"), accessFlags := 16409, slot := 16, constantValue := 0 }, { name := "JSON", type := (.object "com/example/keylint/keylint/SqlType"), accessFlags := 16409, slot := 17, constantValue := 0 }, { name := "OTHER", type := (.object "com/example/keylint/keylint/SqlType"), accessFlags := 16409, slot := 18, constantValue := 0 }, { name := "BY_NAME", type := (.object "java/util/Map"), accessFlags := 26, slot := 19, constantValue := 0 }, { name := "order", type := (.object "com/example/keylint/keylint/ValueOrder"), accessFlags := 18, slot := 3, constantValue := 0 }, { name := "$VALUES", type := (.array (.object "com/example/keylint/keylint/SqlType")), accessFlags := 4122, slot := 20, constantValue := 0 }]
  methods := #[k6m0]
  instanceTypes := #[(.object "java/lang/String"), .int, .int, (.object "com/example/keylint/keylint/ValueOrder")]
  staticTypes := #[(.object "com/example/keylint/keylint/SqlType"), (.object "com/example/keylint/keylint/SqlType"), (.object "com/example/keylint/keylint/SqlType"), (.object "com/example/keylint/keylint/SqlType"), (.object "com/example/keylint/keylint/SqlType"), (.object "com/example/keylint/keylint/SqlType"), (.object "com/example/keylint/keylint/SqlType"), (.object "com/example/keylint/keylint/SqlType"), (.object "com/example/keylint/keylint/SqlType"), (.object "com/example/keylint/keylint/SqlType"), (.object "com/example/keylint/keylint/SqlType"), (.object "com/example/keylint/keylint/SqlType"), (.object "com/example/keylint/keylint/SqlType"), (.object "com/example/keylint/keylint/SqlType"), (.object "com/example/keylint/keylint/SqlType"), (.object "com/example/keylint/keylint/SqlType"), (.object "com/example/keylint/keylint/SqlType"), (.object "com/example/keylint/keylint/SqlType"), (.object "com/example/keylint/keylint/SqlType"), (.object "java/util/Map"), (.array (.object "com/example/keylint/keylint/SqlType"))]
  resolved := Array.replicate 175 none
  statics := some 0 }

def pool7 : Array CpInfo := pool [(1, u "java/lang/Cloneable"), (0, .class_ 1), (0, u "java/lang/Object"), (0, .class_ 3)] 3

/-- java/lang/Cloneable -/
def k7 : Class := { plain "java/lang/Cloneable" (some 0) with
  accessFlags := 1537
  interfaces := #[]
  cf := some (fileOf pool7 2 #[] #[] 1537 4 #[] #[])
  fields := #[]
  methods := #[]
  instanceTypes := #[]
  staticTypes := #[]
  resolved := Array.replicate 8 none
  statics := none }

/-- the primitive byte -/
def k8 : Class := { plain "byte" none with kind := .primitive 'B', accessFlags := 0x411 }
/-- [B -/
def k9 : Class := { plain "[B" (some 0) with kind := .array 8 .byte, interfaces := #[7, 4], accessFlags := 1041 }

/-- the primitive int -/
def k10 : Class := { plain "int" none with kind := .primitive 'I', accessFlags := 0x411 }
/-- [I -/
def k11 : Class := { plain "[I" (some 0) with kind := .array 10 .int, interfaces := #[7, 4], accessFlags := 1041 }

/-- [Lcom/example/keylint/keylint/SqlType; -/
def k12 : Class := { plain "[Lcom/example/keylint/keylint/SqlType;" (some 0) with kind := .array 6 (.object "com/example/keylint/keylint/SqlType"), interfaces := #[7, 4], accessFlags := 1041 }

def heap : Heap := #[{ cls := 6, slots := #[.ref 1, .ref 2, .ref 3, .ref 4, .ref 5, .ref 6, .ref 7, .ref 8, .ref 9, .ref 10, .ref 11, .ref 12, .ref 13, .ref 14, .ref 15, .ref 16, .ref 17, .ref 18, .ref 19, .null, .null], vm := .statics 6 },
  { cls := 6, slots := #[.null, .int 0, .int 0, .null], vm := .none },
  { cls := 6, slots := #[.null, .int 1, .int 0, .null], vm := .none },
  { cls := 6, slots := #[.null, .int 2, .int 0, .null], vm := .none },
  { cls := 6, slots := #[.null, .int 3, .int 0, .null], vm := .none },
  { cls := 6, slots := #[.null, .int 4, .int 0, .null], vm := .none },
  { cls := 6, slots := #[.null, .int 5, .int 0, .null], vm := .none },
  { cls := 6, slots := #[.null, .int 6, .int 0, .null], vm := .none },
  { cls := 6, slots := #[.null, .int 7, .int 0, .null], vm := .none },
  { cls := 6, slots := #[.null, .int 8, .int 0, .null], vm := .none },
  { cls := 6, slots := #[.null, .int 9, .int 0, .null], vm := .none },
  { cls := 6, slots := #[.null, .int 10, .int 0, .null], vm := .none },
  { cls := 6, slots := #[.null, .int 11, .int 0, .null], vm := .none },
  { cls := 6, slots := #[.null, .int 12, .int 0, .null], vm := .none },
  { cls := 6, slots := #[.null, .int 13, .int 0, .null], vm := .none },
  { cls := 6, slots := #[.null, .int 14, .int 0, .null], vm := .none },
  { cls := 6, slots := #[.null, .int 15, .int 0, .null], vm := .none },
  { cls := 6, slots := #[.null, .int 16, .int 0, .null], vm := .none },
  { cls := 6, slots := #[.null, .int 17, .int 0, .null], vm := .none },
  { cls := 6, slots := #[.null, .int 18, .int 0, .null], vm := .none }]
def classes : Array Class := #[k0, k1, k2, k3, k4, k5, k6, k7, k8, k9, k10, k11, k12]
def interned : List (Array UInt16 × Addr) := []
def slotsUsed : Nat := 97
def theMethod : MethodId := ⟨1, 1⟩
def args0 : Array Value := #[.int 5]
def aboutOver (below : List Frame) : State where
  vm := { classes := classes, interned := interned.toArray }
  heap := heap
  slotsUsed := slotsUsed
  threads := #[{ frames := .invoking theMethod args0 :: below }]
def below0 : List Frame := [.native { method := ⟨0, 0⟩, args := #[] }]
def about1 : State := aboutOver below0
def p0 : Program := .bare "" "" ""
def e0 : Env := launch0.env 0 0 0
theorem w_frames : about1.frames = Frame.invoking theMethod args0 :: below0 := rfl
set_option maxRecDepth 65536 in
theorem w_args : argsFit about1.vm theMethod args0 = true := by decide +kernel
set_option maxRecDepth 65536 in
theorem w_heap : heapFits about1 = true := by decide +kernel
set_option maxRecDepth 65536 in
theorem w_runnable : about1.curStatus? = some .runnable := by decide +kernel
set_option maxRecDepth 65536 in
theorem w_alone : about1.alone = true := by decide +kernel
set_option maxRecDepth 65536 in
theorem w_named : about1.methodNamed? x = some theMethod := by decide +kernel
set_option maxRecDepth 65536 in
theorem w_hears : about1.hears theMethod below0 = true := by decide +kernel
set_option maxRecDepth 65536 in
theorem w_ripe : about1.ripe theMethod args0 below0 = true := by decide +kernel
theorem w_running : about1.status = .running := rfl
set_option maxRecDepth 65536 in
theorem w_room : about1.hasRoom e0.platform room_1 = true :=
  launch0.hasRoom_least _ room_1 (by decide +kernel) (by decide +kernel) (by decide +kernel) (by decide +kernel) (by decide +kernel) (by decide +kernel)
theorem allAtoms_all (ts : List Jvm.Cond) (a : Array Jvm.Value) (st : Jvm.State) : (allAtoms ts).before a st = ts.all (fun c => c.before a st) := by
  induction ts with
  | nil => rfl
  | cons c t ih =>
    show (Jvm.Cond.and c (allAtoms t)).before a st = _
    rw [Jvm.Cond.before_and, ih, List.all_cons]
def words1 : List Jvm.Cond := Jvm.Cond.code x code maxLocals ret :: tables_1
/-- a 'code' word, met by the world's own term for the bytes: nothing is compared byte by byte -/
theorem code_word {y : MethodName} {bytes : ByteArray} {mx : Nat} {rt : Option FieldType} {a : Array Value} {s : State} {m : MethodId} {meth : Method} {c : Code} (h1 : s.methodNamed? y = some m) (h2 : s.vm.method? m = some meth) (h3 : meth.code = some c) (h4 : c.code = bytes)
    (h5 : (c.maxLocals == mx && c.exceptionTable.isEmpty && decide (c.maxStack ≤ mostOperands) && decide (meth.sig.returnType = rt) && !meth.locks && decide (parseMethodDescriptor y.desc = some meth.sig)) = true) : (Jvm.Cond.code y bytes mx rt).before a s = true := by
  simp only [Bool.and_eq_true, beq_iff_eq, Bool.not_eq_true', decide_eq_true_eq] at h5
  obtain ⟨⟨⟨⟨⟨g1, g2⟩, g3⟩, g4⟩, g5⟩, g6⟩ := h5
  simp [Cond.before, Cond.holds, Cond.value, h1, h2, h3, h4, g1, g2, g3, g4, g5, g6]
def isCode : Jvm.Cond → Bool
  | .code _ _ _ _ => true
  | _ => false
theorem all_split {L : List Jvm.Cond} {P : Jvm.Cond → Bool} (h1 : L.all (fun c => isCode c || P c) = true) (h2 : ∀ c ∈ L.filter isCode, P c = true) : L.all P = true := by
  refine List.all_eq_true.mpr fun c hc => ?_
  have h := List.all_eq_true.mp h1 c hc
  rcases Bool.eq_false_or_eq_true (isCode c) with hi | hi
  · exact h2 c (List.mem_filter.mpr ⟨hc, hi⟩)
  · simpa [hi] using h
set_option maxRecDepth 65536 in
theorem w_c0 : (Jvm.Cond.code x code maxLocals ret).before args0 about1 = true := code_word (m := ⟨1, 1⟩) (meth := k1m1) (c := k1c1) (by decide +kernel) rfl rfl rfl (by decide +kernel)
set_option maxRecDepth 65536 in
theorem w_c1 : (Jvm.Cond.code ({ cls := "com/example/keylint/keylint/SqlType", name := "isTime", desc := "()Z" } : Jvm.MethodName) prog_69_method_6_code (1 : Nat) (Option.some Jvm.ClassFile.FieldType.boolean)).before args0 about1 = true := code_word (m := ⟨6, 0⟩) (meth := k6m0) (c := k6c0) (by decide +kernel) rfl rfl rfl (by decide +kernel)
def codes1 : List Jvm.Cond := [Jvm.Cond.code x code maxLocals ret, Jvm.Cond.code ({ cls := "com/example/keylint/keylint/SqlType", name := "isTime", desc := "()Z" } : Jvm.MethodName) prog_69_method_6_code (1 : Nat) (Option.some Jvm.ClassFile.FieldType.boolean)]
set_option maxRecDepth 65536 in
theorem codes_eq : words1.filter isCode = codes1 := rfl
theorem w_codes : ∀ c ∈ words1.filter isCode, c.before args0 about1 = true := by
  rw [codes_eq]
  intro c hc
  simp only [codes1, List.mem_cons, List.not_mem_nil, or_false] at hc
  rcases hc with rfl | rfl
  · exact w_c0
  · exact w_c1
set_option maxRecDepth 65536 in
theorem w_t1 : (words1.take 24).all (fun c => isCode c || c.before args0 about1) = true := by decide +kernel
set_option maxRecDepth 65536 in
theorem w_t2 : ((words1.drop 24).take 24).all (fun c => isCode c || c.before args0 about1) = true := by decide +kernel
set_option maxRecDepth 65536 in
theorem w_t3 : ((words1.drop 24).drop 24).all (fun c => isCode c || c.before args0 about1) = true := by decide +kernel
theorem w_tables : (allAtoms (Jvm.Cond.code x code maxLocals ret :: tables_1)).before args0 about1 = true := by
  rw [allAtoms_all]
  show words1.all (fun c => c.before args0 about1) = true
  refine all_split ?_ w_codes
  rw [← List.take_append_drop 24 words1, List.all_append, w_t1, ← List.take_append_drop 24 (words1.drop 24), List.all_append, w_t2, w_t3]
  rfl
set_option maxRecDepth 65536 in
theorem w_case : (Jvm.Cond.and given_1 narrow_1).before args0 about1 = true := by decide +kernel
theorem w_applies : (headSpec (Jvm.Cond.code x code maxLocals ret :: tables_1) room_1).applies x e0.platform about1 = true :=
  (Spec.applies_iff w_frames).mpr ⟨w_running, w_runnable, w_alone, w_named, w_hears, w_ripe, w_room, w_tables⟩
theorem atStart : AtStart classFile x code maxLocals ret World_1 tables_1 room_1 Calls_1 rest_1 Pre_1 launch0 p0 e0 about1 theMethod args0 below0 :=
  ⟨lists_1, trivial, launch0.admits_env _ _ _, launch0.least_env, fairChoices_fair.cas, fairChoices_fair.clock, w_frames, w_args, w_heap, w_applies, trivial, trivial, w_case⟩
end start1
theorem witness_1 : WitnessClaimed_1 := ⟨start1.p0, start1.e0, start1.about1, start1.theMethod, start1.args0, start1.below0, start1.atStart⟩
end Jvm.Pilot.@@N@@
