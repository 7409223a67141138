import JvmDerived
import JvmDerived.Pilot.@@N@@Statement
import JvmDerived.Pilot.@@N@@Code
set_option linter.unusedVariables false
set_option linter.unusedSimpArgs false
@@BLOCK:NumsL.lean.txt@@
namespace Jvm.RoadKit
open Sem ClassFile Op Lib Jvm.Stand Jvm.Free Jvm.LawKit
section New
variable {p : Program} {l : Launch} {e : Env} {R : Room} {s : State} {m : MethodId} {args : Array Value} {below : List Frame} {meth : Method} {c : Code} {T : State} {locs : List Loc} {cells slots : Nat}
theorem retI (X : Stand p l e R s m args below meth c T locs cells slots) (hx : p.tables.exec = Jvm.exec) {pc : Nat} {Ls : Array Slot} {z : Int32} {rest : List Value} (hret : meth.sig.returnType = some .int) (hd : decode c.code pc = .ok (.ireturn, 1)) {fs : List Frame}
    (hl : ∀ (f : JFrame) (acts : List Action), f.method = m → f.locked = none → f.entered = [] → (doReturn e (T.setTop f) acts (some (.int z))).1 = T.setFrames fs) : Steps p.tables e below (T.setTop (mkF m pc Ls (.int z :: rest))) (T.setFrames fs) := by
  have hm' : T.vm.method? m = some meth := X.method'
  have hn : narrow .int (.int z) = .int z := rfl
  show Steps p.tables e below (T.setTop { method := m, pc := pc, locals := Ls, stack := _ :: rest, locked := none }) _
  jvm_step X.here [X.here.top, hx, hd, hm', hret, hn]
  first | (intro acts; rw [hl _ acts rfl rfl rfl]) | rw [hl _ _ rfl rfl rfl]
  exact Steps.refl _
end New
end Jvm.RoadKit
namespace Jvm.Pilot.@@N@@
open Jvm Jvm.ClassFile Sem Op Lib Jvm.Free Jvm.Stand Jvm.LawKit Jvm.RoadKit Bundle Jvm.Pilot.@@N@@.Jvm.D
theorem own_eqv {args : Array Value} {first s : State} {o : Option Outcome} {idx : List Nat} {t : Term} {k : Int32} (h : (Cond.eq t (.int k)).value args first o s idx = some true) : t.eval args first o idx s = some (.int k) := by
  cases ht : t.eval args first o idx s with
  | none => simp [Cond.value, ht] at h
  | some v => cases v <;> simp [Cond.value, ht, Term.eval] at h ⊢ <;> exact h
def own_ord (Z : State) (a : Addr) : Int32 := match Z.fieldOf? a "java/lang/Enum" "ordinal" "I" with
  | some (.int k) => k
  | _ => -1
theorem own_ordv {Z : State} {a : Addr} {k : Int32} (h : Z.fieldOf? a "java/lang/Enum" "ordinal" "I" = some (.int k)) : own_ord Z a = k := by simp [own_ord, h]
theorem own_dis {Z : State} {a b : Addr} {i j : Int32} (h : own_ord Z a = i) (h' : own_ord Z b = j) (n : i ≠ j) : a ≠ b := fun e => n (by rw [← h, ← h', e])
theorem own_mod (p c : Int32) (hc : 0 < c.toInt) : 0 ≤ ((p &&& (2147483647 : Int32)) - ((p &&& (2147483647 : Int32)) / c) * c).toInt ∧ ((p &&& (2147483647 : Int32)) - ((p &&& (2147483647 : Int32)) / c) * c).toInt < c.toInt := by
  have e : (p &&& (2147483647 : Int32)).toInt = p.toInt % 2 ^ 31 := Jvm.Kit.i32_mask p 2147483647 (k := 31) (by decide) (by decide)
  rw [irem_eq_mod, Jvm.Kit.i32_rem_nonneg (by omega)]
  exact ⟨Int.emod_nonneg _ (by omega), Int.emod_lt_of_pos _ hc⟩
theorem own_getref (ws : List Addr) (n : Nat) (h : n < ws.length) : (ws.map Value.ref).getD n .null = .ref (ws.getD n 0) := by
  simp [List.getD_eq_getElem?_getD, List.getElem?_map, h]
theorem own_exal {Z : State} {h : Heap} {C : String} {ws : List Addr} (H : ∀ a ∈ ws, Exa Z h a C) (n : Nat) (hn : n < ws.length) : Exa Z h (ws.getD n 0) C := by
  rw [List.getD_eq_getElem?_getD, List.getElem?_eq_getElem hn]
  exact H _ (List.getElem_mem hn)
theorem own_nat {i : Int32} {k : Int} (h : 0 ≤ i.toInt ∧ i.toInt < k) : (i.toNatClampNeg : Int) = i.toInt ∧ ¬ i < 0 := by
  have n : ¬ i < 0 := by rw [Int32.lt_iff_toInt_lt]; have : (0 : Int32).toInt = 0 := by decide
                         omega
  exact ⟨(nat_of n).symm, n⟩
def own_in (a x0 x1 x2 : Addr) : Int32 := if a = x0 then 1 else if a = x1 then 1 else if a = x2 then 1 else 0
set_option maxHeartbeats 4000000 in
theorem own_law {Z : State} {w_TINYINT w_SMALLINT w_INT w_INTEGER w_BIGINT w_FLOAT w_DOUBLE w_DECIMAL w_BOOLEAN w_DATE w_TIME w_TIMESTAMP w_DATETIME w_CHAR w_VARCHAR w_BINARY w_VARBINARY w_JSON w_OTHER : Addr} (o_TINYINT : own_ord Z w_TINYINT = 0) (o_SMALLINT : own_ord Z w_SMALLINT = 1) (o_INT : own_ord Z w_INT = 2) (o_INTEGER : own_ord Z w_INTEGER = 3) (o_BIGINT : own_ord Z w_BIGINT = 4) (o_FLOAT : own_ord Z w_FLOAT = 5) (o_DOUBLE : own_ord Z w_DOUBLE = 6) (o_DECIMAL : own_ord Z w_DECIMAL = 7) (o_BOOLEAN : own_ord Z w_BOOLEAN = 8) (o_DATE : own_ord Z w_DATE = 9) (o_TIME : own_ord Z w_TIME = 10) (o_TIMESTAMP : own_ord Z w_TIMESTAMP = 11) (o_DATETIME : own_ord Z w_DATETIME = 12) (o_CHAR : own_ord Z w_CHAR = 13) (o_VARCHAR : own_ord Z w_VARCHAR = 14) (o_BINARY : own_ord Z w_BINARY = 15) (o_VARBINARY : own_ord Z w_VARBINARY = 16) (o_JSON : own_ord Z w_JSON = 17) (o_OTHER : own_ord Z w_OTHER = 18) (n : Nat) (hn : n < 19) : own_in ([w_TINYINT, w_SMALLINT, w_INT, w_INTEGER, w_BIGINT, w_FLOAT, w_DOUBLE, w_DECIMAL, w_BOOLEAN, w_DATE, w_TIME, w_TIMESTAMP, w_DATETIME, w_CHAR, w_VARCHAR, w_BINARY, w_VARBINARY, w_JSON, w_OTHER].getD n 0) w_CHAR w_VARCHAR w_OTHER = if n = 13 ∨ n = 14 ∨ n = 18 then 1 else 0 := by
  have hc : n = 0 ∨ n = 1 ∨ n = 2 ∨ n = 3 ∨ n = 4 ∨ n = 5 ∨ n = 6 ∨ n = 7 ∨ n = 8 ∨ n = 9 ∨ n = 10 ∨ n = 11 ∨ n = 12 ∨ n = 13 ∨ n = 14 ∨ n = 15 ∨ n = 16 ∨ n = 17 ∨ n = 18 := by omega
  rcases hc with rfl | rfl | rfl | rfl | rfl | rfl | rfl | rfl | rfl | rfl | rfl | rfl | rfl | rfl | rfl | rfl | rfl | rfl | rfl
  · show own_in w_TINYINT w_CHAR w_VARCHAR w_OTHER = _
    simp [own_in, (own_dis o_TINYINT o_CHAR (by decide)), (own_dis o_TINYINT o_VARCHAR (by decide)), (own_dis o_TINYINT o_OTHER (by decide))]
  · show own_in w_SMALLINT w_CHAR w_VARCHAR w_OTHER = _
    simp [own_in, (own_dis o_SMALLINT o_CHAR (by decide)), (own_dis o_SMALLINT o_VARCHAR (by decide)), (own_dis o_SMALLINT o_OTHER (by decide))]
  · show own_in w_INT w_CHAR w_VARCHAR w_OTHER = _
    simp [own_in, (own_dis o_INT o_CHAR (by decide)), (own_dis o_INT o_VARCHAR (by decide)), (own_dis o_INT o_OTHER (by decide))]
  · show own_in w_INTEGER w_CHAR w_VARCHAR w_OTHER = _
    simp [own_in, (own_dis o_INTEGER o_CHAR (by decide)), (own_dis o_INTEGER o_VARCHAR (by decide)), (own_dis o_INTEGER o_OTHER (by decide))]
  · show own_in w_BIGINT w_CHAR w_VARCHAR w_OTHER = _
    simp [own_in, (own_dis o_BIGINT o_CHAR (by decide)), (own_dis o_BIGINT o_VARCHAR (by decide)), (own_dis o_BIGINT o_OTHER (by decide))]
  · show own_in w_FLOAT w_CHAR w_VARCHAR w_OTHER = _
    simp [own_in, (own_dis o_FLOAT o_CHAR (by decide)), (own_dis o_FLOAT o_VARCHAR (by decide)), (own_dis o_FLOAT o_OTHER (by decide))]
  · show own_in w_DOUBLE w_CHAR w_VARCHAR w_OTHER = _
    simp [own_in, (own_dis o_DOUBLE o_CHAR (by decide)), (own_dis o_DOUBLE o_VARCHAR (by decide)), (own_dis o_DOUBLE o_OTHER (by decide))]
  · show own_in w_DECIMAL w_CHAR w_VARCHAR w_OTHER = _
    simp [own_in, (own_dis o_DECIMAL o_CHAR (by decide)), (own_dis o_DECIMAL o_VARCHAR (by decide)), (own_dis o_DECIMAL o_OTHER (by decide))]
  · show own_in w_BOOLEAN w_CHAR w_VARCHAR w_OTHER = _
    simp [own_in, (own_dis o_BOOLEAN o_CHAR (by decide)), (own_dis o_BOOLEAN o_VARCHAR (by decide)), (own_dis o_BOOLEAN o_OTHER (by decide))]
  · show own_in w_DATE w_CHAR w_VARCHAR w_OTHER = _
    simp [own_in, (own_dis o_DATE o_CHAR (by decide)), (own_dis o_DATE o_VARCHAR (by decide)), (own_dis o_DATE o_OTHER (by decide))]
  · show own_in w_TIME w_CHAR w_VARCHAR w_OTHER = _
    simp [own_in, (own_dis o_TIME o_CHAR (by decide)), (own_dis o_TIME o_VARCHAR (by decide)), (own_dis o_TIME o_OTHER (by decide))]
  · show own_in w_TIMESTAMP w_CHAR w_VARCHAR w_OTHER = _
    simp [own_in, (own_dis o_TIMESTAMP o_CHAR (by decide)), (own_dis o_TIMESTAMP o_VARCHAR (by decide)), (own_dis o_TIMESTAMP o_OTHER (by decide))]
  · show own_in w_DATETIME w_CHAR w_VARCHAR w_OTHER = _
    simp [own_in, (own_dis o_DATETIME o_CHAR (by decide)), (own_dis o_DATETIME o_VARCHAR (by decide)), (own_dis o_DATETIME o_OTHER (by decide))]
  · show own_in w_CHAR w_CHAR w_VARCHAR w_OTHER = _
    simp [own_in, (own_dis o_CHAR o_VARCHAR (by decide)), (own_dis o_CHAR o_OTHER (by decide))]
  · show own_in w_VARCHAR w_CHAR w_VARCHAR w_OTHER = _
    simp [own_in, (own_dis o_VARCHAR o_CHAR (by decide)), (own_dis o_VARCHAR o_OTHER (by decide))]
  · show own_in w_BINARY w_CHAR w_VARCHAR w_OTHER = _
    simp [own_in, (own_dis o_BINARY o_CHAR (by decide)), (own_dis o_BINARY o_VARCHAR (by decide)), (own_dis o_BINARY o_OTHER (by decide))]
  · show own_in w_VARBINARY w_CHAR w_VARCHAR w_OTHER = _
    simp [own_in, (own_dis o_VARBINARY o_CHAR (by decide)), (own_dis o_VARBINARY o_VARCHAR (by decide)), (own_dis o_VARBINARY o_OTHER (by decide))]
  · show own_in w_JSON w_CHAR w_VARCHAR w_OTHER = _
    simp [own_in, (own_dis o_JSON o_CHAR (by decide)), (own_dis o_JSON o_VARCHAR (by decide)), (own_dis o_JSON o_OTHER (by decide))]
  · show own_in w_OTHER w_CHAR w_VARCHAR w_OTHER = _
    simp [own_in, (own_dis o_OTHER o_CHAR (by decide)), (own_dis o_OTHER o_VARCHAR (by decide))]
theorem d_prog_69_method_8_code_0 : decode prog_69_method_8_code 0 = .ok (.aload_n 0, 1) := by decide +kernel
theorem d_prog_69_method_8_code_1 : decode prog_69_method_8_code 1 = .ok (.getstatic 43, 3) := by decide +kernel
theorem d_prog_69_method_8_code_4 : decode prog_69_method_8_code 4 = .ok (.if_acmp .eq 17, 3) := by decide +kernel
theorem d_prog_69_method_8_code_21 : decode prog_69_method_8_code 21 = .ok (.iconst 1, 1) := by decide +kernel
theorem d_prog_69_method_8_code_22 : decode prog_69_method_8_code 22 = .ok (.goto 4, 3) := by decide +kernel
theorem d_prog_69_method_8_code_26 : decode prog_69_method_8_code 26 = .ok (.ireturn, 1) := by decide +kernel
theorem d_prog_69_method_8_code_7 : decode prog_69_method_8_code 7 = .ok (.aload_n 0, 1) := by decide +kernel
theorem d_prog_69_method_8_code_8 : decode prog_69_method_8_code 8 = .ok (.getstatic 46, 3) := by decide +kernel
theorem d_prog_69_method_8_code_11 : decode prog_69_method_8_code 11 = .ok (.if_acmp .eq 10, 3) := by decide +kernel
theorem d_prog_69_method_8_code_14 : decode prog_69_method_8_code 14 = .ok (.aload_n 0, 1) := by decide +kernel
theorem d_prog_69_method_8_code_15 : decode prog_69_method_8_code 15 = .ok (.getstatic 58, 3) := by decide +kernel
theorem d_prog_69_method_8_code_18 : decode prog_69_method_8_code 18 = .ok (.if_acmp .ne 7, 3) := by decide +kernel
theorem d_prog_69_method_8_code_25 : decode prog_69_method_8_code 25 = .ok (.iconst 0, 1) := by decide +kernel
theorem pn_0 : plainName "com/example/keylint/keylint/SqlType" = true := by first | (simp [plainName, overriddenIn]; done) | decide +kernel
theorem ef_rm1 (m : MethodId) (x0 : Addr) : entryFrame m #[(.ref x0)] 1 = mkF m 0 #[.val (.ref x0)] [] := by first | (simp [entryFrame, mkF, argsToLocals, Value.category]; done) | rfl
def Q_rm1 (Z : State) (r0 : Addr) (w_CHAR : Addr) (w_VARCHAR : Addr) (w_OTHER : Addr) (h0 : Heap) (n0 : Nat) (v : Option Value) (h : Heap) (L : List Loc) : Prop := v = some (.int (own_in r0 w_CHAR w_VARCHAR w_OTHER)) ∧ Fr n0 L ∧ h = h0
set_option maxRecDepth 65536 in
set_option maxHeartbeats 40000000 in
theorem rm1 (l : Launch) (Z : State) (a0 : Array Value) (hw : ∀ d ∈ tables_1, d.before a0 Z = true) (ws : List Jvm.Cond) (r0 : Addr) (w_CHAR : Addr) (w_VARCHAR : Addr) (w_OTHER : Addr) (h0 : Heap) (n0 : Nat) (Z0 : n0 ≤ h0.size) (S_CHAR : Sta Z h0 "com/example/keylint/keylint/SqlType" "CHAR" "Lcom/example/keylint/keylint/SqlType;" (.ref w_CHAR)) (S_VARCHAR : Sta Z h0 "com/example/keylint/keylint/SqlType" "VARCHAR" "Lcom/example/keylint/keylint/SqlType;" (.ref w_VARCHAR)) (S_OTHER : Sta Z h0 "com/example/keylint/keylint/SqlType" "OTHER" "Lcom/example/keylint/keylint/SqlType;" (.ref w_OTHER)) :
    MetFree l (⟨"com/example/keylint/keylint/SqlType", "isText", "()Z"⟩ : MethodName) (head1 (Jvm.Cond.code (⟨"com/example/keylint/keylint/SqlType", "isText", "()Z"⟩ : MethodName) prog_69_method_8_code 1 (some .boolean) :: ws) ({ frames := 0, cells := 0, slots := 0, locals := 0 } : Room)) (fun a U => a = #[(.ref r0)] ∧ Z.Warmed39 U.vm ∧ U.heap = h0) (fun _ _ _ _ _ => True) (fun _ U o U' => ∃ v L, o = .returned v ∧ Q_rm1 Z r0 w_CHAR w_VARCHAR w_OTHER h0 n0 v U'.heap L ∧ FrameEnd U o U' L ({ frames := 0, cells := 0, slots := 0, locals := 0 } : Room).cells ({ frames := 0, cells := 0, slots := 0, locals := 0 } : Room).slots) := by
  refine MetFree.of_bodySF (plainFor_of_name pn_0) hisR ?_
  intro p e s m args below meth c s₁ Bd hml0 hP hK
  obtain ⟨rfl, hZ, hh⟩ := hP
  have hx := Bd.exec
  have hby := Bd.bytes
  have hml : c.maxLocals = 1 := hml0
  have hown : s.vm.findClass "com/example/keylint/keylint/SqlType" = some m.cls := findClass_of_methodNamed Bd.named
  have hnm := (name_of_methodNamed Bd.named Bd.method).1
  have hlk : meth.locks = false := by first | exact BodyLoose.notSynchronized (by assumption) | exact Body.notSynchronized (by assumption) | assumption
  have X0 : Stand p l e ({ frames := 0, cells := 0, slots := 0, locals := 0 } : Room) s m #[(.ref r0)] below meth c s₁ [] 0 0 := Stand.of_body Bd
  have e0 : s₁.heap = h0 := by rw [← hh, Bd.state]; rfl
  have N0 := Fr.nil n0
  have Zn := Z0
  have K0 : ∀ t, Steps p.tables e below (s₁.setTop (mkF m 0 #[.val (.ref r0)] [])) t → Steps p.tables e below (s₁.setTop (entryFrame m #[(.ref r0)] 1)) t := fun t k => castTop (ef_rm1 m r0) k
  obtain ⟨T1, X1, e1, st1⟩ := getS2 X0 hx hZ hown (host := "") (Or.inl (hw _ (List.mem_of_getElem? (i := 49) rfl))) Via.refl e0 S_CHAR (g := (mkF m 1 #[.val (.ref r0)] [(.ref r0)])) rfl (hb hby d_prog_69_method_8_code_1)
  have K2 : ∀ t, Steps p.tables e below (T1.setTop (mkF m 4 #[.val (.ref r0)] [(.ref w_CHAR), (.ref r0)])) t → Steps p.tables e below (s₁.setTop (entryFrame m #[(.ref r0)] 1)) t := by
    intro t kt
    refine K0 t ?_
    show Steps p.tables e below (s₁.setTop (mkF m 0 #[.val (.ref r0)] [])) _
    refine XS.aloadN X0.here hx rfl (hb hby d_prog_69_method_8_code_0) rfl rfl ?_
    show Steps p.tables e below (s₁.setTop (mkF m 1 #[.val (.ref r0)] [(.ref r0)])) _
    refine st1 _ ?_
    exact kt
  by_cases hc4 : r0 = w_CHAR
  ·
    obtain ⟨fs, hr, hrun, hended, hW, hsame⟩ := X1.leave (v := some (.int (1 : Int32))) (fun h => by rw [Bd.returns] at h; cases h) hlk
    refine ⟨_, _, K2 _ ?_, hrun, hended, _, _, rfl, ?_, ⟨_, rfl⟩, hW, hsame.mono (by decide) (by decide)⟩
    ·
      show Steps p.tables e below (T1.setTop (mkF m 4 #[.val (.ref r0)] [(.ref w_CHAR), (.ref r0)])) _
      refine Jvm.RoadKit.acmp (g := (mkF m 4 #[.val (.ref r0)] [(.ref w_CHAR), (.ref r0)])) X1 hx rfl rfl rfl (pc0 := 4) (pc' := 21) (same := true) rfl (hb hby d_prog_69_method_8_code_4) rfl (decide_eq_true (congrArg Value.ref hc4)) (by decide) (by decide) ?_
      show Steps p.tables e below (T1.setTop (mkF m 21 #[.val (.ref r0)] [])) _
      refine XS.iconst X1.here hx rfl (hb hby d_prog_69_method_8_code_21) ?_
      show Steps p.tables e below (T1.setTop (mkF m 22 #[.val (.ref r0)] [(.int (1 : Int32))])) _
      refine XS.goto X1.here hx rfl (pc0 := 22) (pc' := 26) rfl (hb hby d_prog_69_method_8_code_22) (by decide) (by decide) ?_
      show Steps p.tables e below (T1.setTop (mkF m 26 #[.val (.ref r0)] [(.int (1 : Int32))])) _
      exact retN X1 hx (t := .boolean) Bd.returns (by simp) (hb hby d_prog_69_method_8_code_26) hr
    ·
      show Q_rm1 Z r0 w_CHAR w_VARCHAR w_OTHER h0 n0 _ T1.heap _
      rw [e1]
      refine ⟨?_, N0, rfl⟩
      simp [own_in, hc4]
  ·
    obtain ⟨T3, X3, e3, st3⟩ := getS2 X1 hx hZ hown (host := "") (Or.inl (hw _ (List.mem_of_getElem? (i := 50) rfl))) Via.refl e1 S_VARCHAR (g := (mkF m 8 #[.val (.ref r0)] [(.ref r0)])) rfl (hb hby d_prog_69_method_8_code_8)
    have K4 : ∀ t, Steps p.tables e below (T3.setTop (mkF m 11 #[.val (.ref r0)] [(.ref w_VARCHAR), (.ref r0)])) t → Steps p.tables e below (s₁.setTop (entryFrame m #[(.ref r0)] 1)) t := by
      intro t kt
      refine K2 t ?_
      show Steps p.tables e below (T1.setTop (mkF m 4 #[.val (.ref r0)] [(.ref w_CHAR), (.ref r0)])) _
      refine Jvm.RoadKit.acmp (g := (mkF m 4 #[.val (.ref r0)] [(.ref w_CHAR), (.ref r0)])) X1 hx rfl rfl rfl (pc0 := 4) (pc' := 7) (same := false) rfl (hb hby d_prog_69_method_8_code_4) rfl (decide_eq_false fun q => hc4 (Value.ref.inj q)) (by decide) (by decide) ?_
      show Steps p.tables e below (T1.setTop (mkF m 7 #[.val (.ref r0)] [])) _
      refine XS.aloadN X1.here hx rfl (hb hby d_prog_69_method_8_code_7) rfl rfl ?_
      show Steps p.tables e below (T1.setTop (mkF m 8 #[.val (.ref r0)] [(.ref r0)])) _
      refine st3 _ ?_
      exact kt
    by_cases hc11 : r0 = w_VARCHAR
    ·
      obtain ⟨fs, hr, hrun, hended, hW, hsame⟩ := X3.leave (v := some (.int (1 : Int32))) (fun h => by rw [Bd.returns] at h; cases h) hlk
      refine ⟨_, _, K4 _ ?_, hrun, hended, _, _, rfl, ?_, ⟨_, rfl⟩, hW, hsame.mono (by decide) (by decide)⟩
      ·
        show Steps p.tables e below (T3.setTop (mkF m 11 #[.val (.ref r0)] [(.ref w_VARCHAR), (.ref r0)])) _
        refine Jvm.RoadKit.acmp (g := (mkF m 11 #[.val (.ref r0)] [(.ref w_VARCHAR), (.ref r0)])) X3 hx rfl rfl rfl (pc0 := 11) (pc' := 21) (same := true) rfl (hb hby d_prog_69_method_8_code_11) rfl (decide_eq_true (congrArg Value.ref hc11)) (by decide) (by decide) ?_
        show Steps p.tables e below (T3.setTop (mkF m 21 #[.val (.ref r0)] [])) _
        refine XS.iconst X3.here hx rfl (hb hby d_prog_69_method_8_code_21) ?_
        show Steps p.tables e below (T3.setTop (mkF m 22 #[.val (.ref r0)] [(.int (1 : Int32))])) _
        refine XS.goto X3.here hx rfl (pc0 := 22) (pc' := 26) rfl (hb hby d_prog_69_method_8_code_22) (by decide) (by decide) ?_
        show Steps p.tables e below (T3.setTop (mkF m 26 #[.val (.ref r0)] [(.int (1 : Int32))])) _
        exact retN X3 hx (t := .boolean) Bd.returns (by simp) (hb hby d_prog_69_method_8_code_26) hr
      ·
        show Q_rm1 Z r0 w_CHAR w_VARCHAR w_OTHER h0 n0 _ T3.heap _
        rw [e3]
        refine ⟨?_, N0, rfl⟩
        simp [own_in, hc4, hc11]
    ·
      obtain ⟨T5, X5, e5, st5⟩ := getS2 X3 hx hZ hown (host := "") (Or.inl (hw _ (List.mem_of_getElem? (i := 51) rfl))) Via.refl e3 S_OTHER (g := (mkF m 15 #[.val (.ref r0)] [(.ref r0)])) rfl (hb hby d_prog_69_method_8_code_15)
      have K6 : ∀ t, Steps p.tables e below (T5.setTop (mkF m 18 #[.val (.ref r0)] [(.ref w_OTHER), (.ref r0)])) t → Steps p.tables e below (s₁.setTop (entryFrame m #[(.ref r0)] 1)) t := by
        intro t kt
        refine K4 t ?_
        show Steps p.tables e below (T3.setTop (mkF m 11 #[.val (.ref r0)] [(.ref w_VARCHAR), (.ref r0)])) _
        refine Jvm.RoadKit.acmp (g := (mkF m 11 #[.val (.ref r0)] [(.ref w_VARCHAR), (.ref r0)])) X3 hx rfl rfl rfl (pc0 := 11) (pc' := 14) (same := false) rfl (hb hby d_prog_69_method_8_code_11) rfl (decide_eq_false fun q => hc11 (Value.ref.inj q)) (by decide) (by decide) ?_
        show Steps p.tables e below (T3.setTop (mkF m 14 #[.val (.ref r0)] [])) _
        refine XS.aloadN X3.here hx rfl (hb hby d_prog_69_method_8_code_14) rfl rfl ?_
        show Steps p.tables e below (T3.setTop (mkF m 15 #[.val (.ref r0)] [(.ref r0)])) _
        refine st5 _ ?_
        exact kt
      by_cases hc18 : r0 = w_OTHER
      ·
        obtain ⟨fs, hr, hrun, hended, hW, hsame⟩ := X5.leave (v := some (.int (1 : Int32))) (fun h => by rw [Bd.returns] at h; cases h) hlk
        refine ⟨_, _, K6 _ ?_, hrun, hended, _, _, rfl, ?_, ⟨_, rfl⟩, hW, hsame.mono (by decide) (by decide)⟩
        ·
          show Steps p.tables e below (T5.setTop (mkF m 18 #[.val (.ref r0)] [(.ref w_OTHER), (.ref r0)])) _
          refine Jvm.RoadKit.acmp (g := (mkF m 18 #[.val (.ref r0)] [(.ref w_OTHER), (.ref r0)])) X5 hx rfl rfl rfl (pc0 := 18) (pc' := 21) (same := true) rfl (hb hby d_prog_69_method_8_code_18) rfl (decide_eq_true (congrArg Value.ref hc18)) (by decide) (by decide) ?_
          show Steps p.tables e below (T5.setTop (mkF m 21 #[.val (.ref r0)] [])) _
          refine XS.iconst X5.here hx rfl (hb hby d_prog_69_method_8_code_21) ?_
          show Steps p.tables e below (T5.setTop (mkF m 22 #[.val (.ref r0)] [(.int (1 : Int32))])) _
          refine XS.goto X5.here hx rfl (pc0 := 22) (pc' := 26) rfl (hb hby d_prog_69_method_8_code_22) (by decide) (by decide) ?_
          show Steps p.tables e below (T5.setTop (mkF m 26 #[.val (.ref r0)] [(.int (1 : Int32))])) _
          exact retN X5 hx (t := .boolean) Bd.returns (by simp) (hb hby d_prog_69_method_8_code_26) hr
        ·
          show Q_rm1 Z r0 w_CHAR w_VARCHAR w_OTHER h0 n0 _ T5.heap _
          rw [e5]
          refine ⟨?_, N0, rfl⟩
          simp [own_in, hc4, hc11, hc18]
      ·
        obtain ⟨fs, hr, hrun, hended, hW, hsame⟩ := X5.leave (v := some (.int (0 : Int32))) (fun h => by rw [Bd.returns] at h; cases h) hlk
        refine ⟨_, _, K6 _ ?_, hrun, hended, _, _, rfl, ?_, ⟨_, rfl⟩, hW, hsame.mono (by decide) (by decide)⟩
        ·
          show Steps p.tables e below (T5.setTop (mkF m 18 #[.val (.ref r0)] [(.ref w_OTHER), (.ref r0)])) _
          refine Jvm.RoadKit.acmp (g := (mkF m 18 #[.val (.ref r0)] [(.ref w_OTHER), (.ref r0)])) X5 hx rfl rfl rfl (pc0 := 18) (pc' := 25) (same := false) rfl (hb hby d_prog_69_method_8_code_18) rfl (decide_eq_false fun q => hc18 (Value.ref.inj q)) (by decide) (by decide) ?_
          show Steps p.tables e below (T5.setTop (mkF m 25 #[.val (.ref r0)] [])) _
          refine XS.iconst X5.here hx rfl (hb hby d_prog_69_method_8_code_25) ?_
          show Steps p.tables e below (T5.setTop (mkF m 26 #[.val (.ref r0)] [(.int (0 : Int32))])) _
          exact retN X5 hx (t := .boolean) Bd.returns (by simp) (hb hby d_prog_69_method_8_code_26) hr
        ·
          show Q_rm1 Z r0 w_CHAR w_VARCHAR w_OTHER h0 n0 _ T5.heap _
          rw [e5]
          refine ⟨?_, N0, rfl⟩
          simp [own_in, hc4, hc11, hc18]
def own_tab (n : Nat) : Int32 := if n = 13 ∨ n = 14 ∨ n = 18 then 1 else 0
theorem own_tabl (n : Nat) (hn : n < 19) : ([(.int (nar .boolean (0 : Int32))), (.int (nar .boolean (0 : Int32))), (.int (nar .boolean (0 : Int32))), (.int (nar .boolean (0 : Int32))), (.int (nar .boolean (0 : Int32))), (.int (nar .boolean (0 : Int32))), (.int (nar .boolean (0 : Int32))), (.int (nar .boolean (0 : Int32))), (.int (nar .boolean (0 : Int32))), (.int (nar .boolean (0 : Int32))), (.int (nar .boolean (0 : Int32))), (.int (nar .boolean (0 : Int32))), (.int (nar .boolean (0 : Int32))), (.int (nar .boolean (1 : Int32))), (.int (nar .boolean (1 : Int32))), (.int (nar .boolean (0 : Int32))), (.int (nar .boolean (0 : Int32))), (.int (nar .boolean (0 : Int32))), (.int (nar .boolean (1 : Int32)))] : List Value).getD n (.int (0 : Int32)) = .int (own_tab n) := by
  have hc : n = 0 ∨ n = 1 ∨ n = 2 ∨ n = 3 ∨ n = 4 ∨ n = 5 ∨ n = 6 ∨ n = 7 ∨ n = 8 ∨ n = 9 ∨ n = 10 ∨ n = 11 ∨ n = 12 ∨ n = 13 ∨ n = 14 ∨ n = 15 ∨ n = 16 ∨ n = 17 ∨ n = 18 := by omega
  rcases hc with rfl | rfl | rfl | rfl | rfl | rfl | rfl | rfl | rfl | rfl | rfl | rfl | rfl | rfl | rfl | rfl | rfl | rfl | rfl <;> first | rfl | decide
theorem pd_1 : parseMethodDescriptor "()Z" = some ⟨[], some .boolean⟩ := by decide +kernel
theorem pn_2 : plainName "com/example/keylint/keylint/SqlTypeIsTextPinLaw" = true := by first | (simp [plainName, overriddenIn]; done) | decide +kernel
theorem ef_rm0 (m : MethodId) (x0 : Int32) : entryFrame m #[(.int x0)] maxLocals = mkF m 0 #[.val (.int x0), .unset, .unset, .unset] [] := by first | (simp [entryFrame, mkF, argsToLocals, Value.category, maxLocals]; done) | rfl
def Q_rm0 (Z : State) (p0 : Int32) (w_TINYINT : Addr) (w_SMALLINT : Addr) (w_INT : Addr) (w_INTEGER : Addr) (w_BIGINT : Addr) (w_FLOAT : Addr) (w_DOUBLE : Addr) (w_DECIMAL : Addr) (w_BOOLEAN : Addr) (w_DATE : Addr) (w_TIME : Addr) (w_TIMESTAMP : Addr) (w_DATETIME : Addr) (w_CHAR : Addr) (w_VARCHAR : Addr) (w_BINARY : Addr) (w_VARBINARY : Addr) (w_JSON : Addr) (w_OTHER : Addr) (h0 : Heap) (n0 : Nat) (v : Option Value) (h : Heap) (L : List Loc) : Prop := v = some (.int 1) ∧ Fr n0 L
set_option maxRecDepth 65536 in
set_option maxHeartbeats 40000000 in
theorem rm0 (l : Launch) (Z : State) (a0 : Array Value) (hw : ∀ d ∈ tables_1, d.before a0 Z = true) (ws : List Jvm.Cond) (p0 : Int32) (w_TINYINT : Addr) (w_SMALLINT : Addr) (w_INT : Addr) (w_INTEGER : Addr) (w_BIGINT : Addr) (w_FLOAT : Addr) (w_DOUBLE : Addr) (w_DECIMAL : Addr) (w_BOOLEAN : Addr) (w_DATE : Addr) (w_TIME : Addr) (w_TIMESTAMP : Addr) (w_DATETIME : Addr) (w_CHAR : Addr) (w_VARCHAR : Addr) (w_BINARY : Addr) (w_VARBINARY : Addr) (w_JSON : Addr) (w_OTHER : Addr) (h0 : Heap) (n0 : Nat) (Z0 : n0 ≤ h0.size) (S_TINYINT : Sta Z Z.heap "com/example/keylint/keylint/SqlType" "TINYINT" "Lcom/example/keylint/keylint/SqlType;" (.ref w_TINYINT)) (S_SMALLINT : Sta Z Z.heap "com/example/keylint/keylint/SqlType" "SMALLINT" "Lcom/example/keylint/keylint/SqlType;" (.ref w_SMALLINT)) (S_INT : Sta Z Z.heap "com/example/keylint/keylint/SqlType" "INT" "Lcom/example/keylint/keylint/SqlType;" (.ref w_INT)) (S_INTEGER : Sta Z Z.heap "com/example/keylint/keylint/SqlType" "INTEGER" "Lcom/example/keylint/keylint/SqlType;" (.ref w_INTEGER)) (S_BIGINT : Sta Z Z.heap "com/example/keylint/keylint/SqlType" "BIGINT" "Lcom/example/keylint/keylint/SqlType;" (.ref w_BIGINT)) (S_FLOAT : Sta Z Z.heap "com/example/keylint/keylint/SqlType" "FLOAT" "Lcom/example/keylint/keylint/SqlType;" (.ref w_FLOAT)) (S_DOUBLE : Sta Z Z.heap "com/example/keylint/keylint/SqlType" "DOUBLE" "Lcom/example/keylint/keylint/SqlType;" (.ref w_DOUBLE)) (S_DECIMAL : Sta Z Z.heap "com/example/keylint/keylint/SqlType" "DECIMAL" "Lcom/example/keylint/keylint/SqlType;" (.ref w_DECIMAL)) (S_BOOLEAN : Sta Z Z.heap "com/example/keylint/keylint/SqlType" "BOOLEAN" "Lcom/example/keylint/keylint/SqlType;" (.ref w_BOOLEAN)) (S_DATE : Sta Z Z.heap "com/example/keylint/keylint/SqlType" "DATE" "Lcom/example/keylint/keylint/SqlType;" (.ref w_DATE)) (S_TIME : Sta Z Z.heap "com/example/keylint/keylint/SqlType" "TIME" "Lcom/example/keylint/keylint/SqlType;" (.ref w_TIME)) (S_TIMESTAMP : Sta Z Z.heap "com/example/keylint/keylint/SqlType" "TIMESTAMP" "Lcom/example/keylint/keylint/SqlType;" (.ref w_TIMESTAMP)) (S_DATETIME : Sta Z Z.heap "com/example/keylint/keylint/SqlType" "DATETIME" "Lcom/example/keylint/keylint/SqlType;" (.ref w_DATETIME)) (S_CHAR : Sta Z Z.heap "com/example/keylint/keylint/SqlType" "CHAR" "Lcom/example/keylint/keylint/SqlType;" (.ref w_CHAR)) (S_VARCHAR : Sta Z Z.heap "com/example/keylint/keylint/SqlType" "VARCHAR" "Lcom/example/keylint/keylint/SqlType;" (.ref w_VARCHAR)) (S_BINARY : Sta Z Z.heap "com/example/keylint/keylint/SqlType" "BINARY" "Lcom/example/keylint/keylint/SqlType;" (.ref w_BINARY)) (S_VARBINARY : Sta Z Z.heap "com/example/keylint/keylint/SqlType" "VARBINARY" "Lcom/example/keylint/keylint/SqlType;" (.ref w_VARBINARY)) (S_JSON : Sta Z Z.heap "com/example/keylint/keylint/SqlType" "JSON" "Lcom/example/keylint/keylint/SqlType;" (.ref w_JSON)) (S_OTHER : Sta Z Z.heap "com/example/keylint/keylint/SqlType" "OTHER" "Lcom/example/keylint/keylint/SqlType;" (.ref w_OTHER)) (E_w_TINYINT : Exa Z Z.heap w_TINYINT "com/example/keylint/keylint/SqlType") (E_w_SMALLINT : Exa Z Z.heap w_SMALLINT "com/example/keylint/keylint/SqlType") (E_w_INT : Exa Z Z.heap w_INT "com/example/keylint/keylint/SqlType") (E_w_INTEGER : Exa Z Z.heap w_INTEGER "com/example/keylint/keylint/SqlType") (E_w_BIGINT : Exa Z Z.heap w_BIGINT "com/example/keylint/keylint/SqlType") (E_w_FLOAT : Exa Z Z.heap w_FLOAT "com/example/keylint/keylint/SqlType") (E_w_DOUBLE : Exa Z Z.heap w_DOUBLE "com/example/keylint/keylint/SqlType") (E_w_DECIMAL : Exa Z Z.heap w_DECIMAL "com/example/keylint/keylint/SqlType") (E_w_BOOLEAN : Exa Z Z.heap w_BOOLEAN "com/example/keylint/keylint/SqlType") (E_w_DATE : Exa Z Z.heap w_DATE "com/example/keylint/keylint/SqlType") (E_w_TIME : Exa Z Z.heap w_TIME "com/example/keylint/keylint/SqlType") (E_w_TIMESTAMP : Exa Z Z.heap w_TIMESTAMP "com/example/keylint/keylint/SqlType") (E_w_DATETIME : Exa Z Z.heap w_DATETIME "com/example/keylint/keylint/SqlType") (E_w_CHAR : Exa Z Z.heap w_CHAR "com/example/keylint/keylint/SqlType") (E_w_VARCHAR : Exa Z Z.heap w_VARCHAR "com/example/keylint/keylint/SqlType") (E_w_BINARY : Exa Z Z.heap w_BINARY "com/example/keylint/keylint/SqlType") (E_w_VARBINARY : Exa Z Z.heap w_VARBINARY "com/example/keylint/keylint/SqlType") (E_w_JSON : Exa Z Z.heap w_JSON "com/example/keylint/keylint/SqlType") (E_w_OTHER : Exa Z Z.heap w_OTHER "com/example/keylint/keylint/SqlType") (EX : ∀ a ∈ [w_TINYINT, w_SMALLINT, w_INT, w_INTEGER, w_BIGINT, w_FLOAT, w_DOUBLE, w_DECIMAL, w_BOOLEAN, w_DATE, w_TIME, w_TIMESTAMP, w_DATETIME, w_CHAR, w_VARCHAR, w_BINARY, w_VARBINARY, w_JSON, w_OTHER], Exa Z Z.heap a "com/example/keylint/keylint/SqlType") (OLD : Old Z n0 h0) (o_TINYINT : own_ord Z w_TINYINT = 0) (o_SMALLINT : own_ord Z w_SMALLINT = 1) (o_INT : own_ord Z w_INT = 2) (o_INTEGER : own_ord Z w_INTEGER = 3) (o_BIGINT : own_ord Z w_BIGINT = 4) (o_FLOAT : own_ord Z w_FLOAT = 5) (o_DOUBLE : own_ord Z w_DOUBLE = 6) (o_DECIMAL : own_ord Z w_DECIMAL = 7) (o_BOOLEAN : own_ord Z w_BOOLEAN = 8) (o_DATE : own_ord Z w_DATE = 9) (o_TIME : own_ord Z w_TIME = 10) (o_TIMESTAMP : own_ord Z w_TIMESTAMP = 11) (o_DATETIME : own_ord Z w_DATETIME = 12) (o_CHAR : own_ord Z w_CHAR = 13) (o_VARCHAR : own_ord Z w_VARCHAR = 14) (o_BINARY : own_ord Z w_BINARY = 15) (o_VARBINARY : own_ord Z w_VARBINARY = 16) (o_JSON : own_ord Z w_JSON = 17) (o_OTHER : own_ord Z w_OTHER = 18) :
    MetFree l x (head1 (Jvm.Cond.code x code maxLocals ret :: ws) room_1) (fun a U => a = #[(.int p0)] ∧ Z.Warmed39 U.vm ∧ U.heap = h0) (fun _ _ _ _ _ => True) (fun _ U o U' => ∃ v L, o = .returned v ∧ Q_rm0 Z p0 w_TINYINT w_SMALLINT w_INT w_INTEGER w_BIGINT w_FLOAT w_DOUBLE w_DECIMAL w_BOOLEAN w_DATE w_TIME w_TIMESTAMP w_DATETIME w_CHAR w_VARCHAR w_BINARY w_VARBINARY w_JSON w_OTHER h0 n0 v U'.heap L ∧ FrameEnd U o U' L room_1.cells room_1.slots) := by
  refine MetFree.of_bodySF (plainFor_of_name pn_2) hisR ?_
  intro p e s m args below meth c s₁ Bd hml0 hP hK
  obtain ⟨rfl, hZ, hh⟩ := hP
  have hx := Bd.exec
  have hby := Bd.bytes
  have hml : c.maxLocals = 4 := hml0
  have hown : s.vm.findClass "com/example/keylint/keylint/SqlTypeIsTextPinLaw" = some m.cls := findClass_of_methodNamed Bd.named
  have hnm := (name_of_methodNamed Bd.named Bd.method).1
  have hlk : meth.locks = false := by first | exact BodyLoose.notSynchronized (by assumption) | exact Body.notSynchronized (by assumption) | assumption
  have X0 : Stand p l e room_1 s m #[(.int p0)] below meth c s₁ [] 0 0 := Stand.of_body Bd
  have e0 : s₁.heap = h0 := by rw [← hh, Bd.state]; rfl
  have N0 := Fr.nil n0
  have Zn := Z0
  have K0 : ∀ t, Steps p.tables e below (s₁.setTop (mkF m 0 #[.val (.int p0), .unset, .unset, .unset] [])) t → Steps p.tables e below (s₁.setTop (entryFrame m #[(.int p0)] maxLocals)) t := fun t k => castTop (ef_rm0 m p0) k
  obtain ⟨T1, h1, k1, X1, e1, E1, A1, O1, st1⟩ := newR X0 hx hZ hown (hw _ (List.mem_of_getElem? (i := 0) rfl)) (hw _ (List.mem_of_getElem? (i := 1) rfl)) e0 (g := (mkF m 2 #[.val (.int p0), .unset, .unset, .unset] [(.int (19 : Int32))])) rfl (hb hby at_2) rfl (by decide) (cap := 19) (by decide) (by decide) (by decide) (by decide)
  obtain ⟨b1, g1⟩ : ∃ z, z = h0.size := ⟨_, rfl⟩
  rw [← g1] at A1 st1
  have g_b1 : n0 ≤ b1 := Nat.le_trans Zn (Nat.le_of_eq g1.symm)
  replace OLD := OLD.ext E1
  replace Zn := Nat.le_trans Zn E1.1
  have V_b1 : Arv Z h1 b1 k1 (.object "com/example/keylint/keylint/SqlType") (19 : Int32) [.null, .null, .null, .null, .null, .null, .null, .null, .null, .null, .null, .null, .null, .null, .null, .null, .null, .null, .null] .null := (Arv.new A1 (by decide)).pad (pad_rep [] .null 19)
  obtain ⟨T2, X2, e2, st2⟩ := getS2 X1 hx hZ hown (host := "") (Or.inl (hw _ (List.mem_of_getElem? (i := 2) rfl))) Via.refl e1 (S_TINYINT.ext OLD.2) (g := (mkF m 7 #[.val (.int p0), .unset, .unset, .unset] [(.int (0 : Int32)), (.ref b1), (.ref b1)])) rfl (hb hby at_7)
  obtain ⟨cl3, Ar3, q3, S3, N3z, H3, G3⟩ := V_b1
  have hin3 : ¬ ((0 : Int32) < 0 ∨ cl3.slots.size ≤ ((0 : Int32)).toNatClampNeg) := inb_of S3 ⟨by decide, by decide⟩
  obtain ⟨T3, h3, X3, e3, W3, st3⟩ := stR X2 hx hZ e2 Ar3 (j := (0 : Int32)) hin3 rfl (Sto.ofV Ar3 q3 O1 (Ins.self (E_w_TINYINT.ext OLD.2))) (g := (mkF m 10 #[.val (.int p0), .unset, .unset, .unset] [(.ref w_TINYINT), (.int (0 : Int32)), (.ref b1), (.ref b1)])) rfl rfl (hb hby at_10)
  replace OLD := OLD.wr W3 g_b1
  have V_b1 : Arv Z h3 b1 k1 (.object "com/example/keylint/keylint/SqlType") (19 : Int32) [(.ref w_TINYINT), .null, .null, .null, .null, .null, .null, .null, .null, .null, .null, .null, .null, .null, .null, .null, .null, .null, .null] .null := Arv.set Ar3 q3 S3 N3z H3 G3 rfl W3 0 rfl (Nat.le_of_ble_eq_true rfl)
  replace Zn := Nat.le_trans Zn (Keep.of_wr W3).1
  have N3 := Fr.snoc X3 N0 g_b1
  have K4 : ∀ t, Steps p.tables e below (T3.setTop (mkF m 11 #[.val (.int p0), .unset, .unset, .unset] [(.ref b1)])) t → Steps p.tables e below (s₁.setTop (entryFrame m #[(.int p0)] maxLocals)) t := by
    intro t kt
    refine K0 t ?_
    show Steps p.tables e below (s₁.setTop (mkF m 0 #[.val (.int p0), .unset, .unset, .unset] [])) _
    refine XS.bipush X0.here hx rfl (hb hby at_0) ?_
    show Steps p.tables e below (s₁.setTop (mkF m 2 #[.val (.int p0), .unset, .unset, .unset] [(.int (19 : Int32))])) _
    refine st1 _ ?_
    show Steps p.tables e below (T1.setTop (mkF m 5 #[.val (.int p0), .unset, .unset, .unset] [(.ref b1)])) _
    refine XS.dup X1.here hx rfl (hb hby at_5) rfl rfl ?_
    show Steps p.tables e below (T1.setTop (mkF m 6 #[.val (.int p0), .unset, .unset, .unset] [(.ref b1), (.ref b1)])) _
    refine XS.iconst X1.here hx rfl (hb hby at_6) ?_
    show Steps p.tables e below (T1.setTop (mkF m 7 #[.val (.int p0), .unset, .unset, .unset] [(.int (0 : Int32)), (.ref b1), (.ref b1)])) _
    refine st2 _ ?_
    show Steps p.tables e below (T2.setTop (mkF m 10 #[.val (.int p0), .unset, .unset, .unset] [(.ref w_TINYINT), (.int (0 : Int32)), (.ref b1), (.ref b1)])) _
    refine st3 _ ?_
    exact kt
  obtain ⟨lc5, X5, N5⟩ : ∃ lc, Stand p l e room_1 s m #[(.int p0)] below meth c T3 lc 1 19 ∧ Fr n0 lc := ⟨_, X3, N3⟩
  clear st1 e1 X1 T1 h1 E1 A1 g1 st2 e2 X2 T2 cl3 Ar3 q3 S3 N3z H3 G3 hin3 X3 W3 st3 N3
  obtain ⟨T6, X6, e6, st6⟩ := getS2 X5 hx hZ hown (host := "") (Or.inl (hw _ (List.mem_of_getElem? (i := 6) rfl))) Via.refl e3 (S_SMALLINT.ext OLD.2) (g := (mkF m 13 #[.val (.int p0), .unset, .unset, .unset] [(.int (1 : Int32)), (.ref b1), (.ref b1)])) rfl (hb hby at_13)
  obtain ⟨cl7, Ar7, q7, S7, N7z, H7, G7⟩ := V_b1
  have hin7 : ¬ ((1 : Int32) < 0 ∨ cl7.slots.size ≤ ((1 : Int32)).toNatClampNeg) := inb_of S7 ⟨by decide, by decide⟩
  obtain ⟨T7, h7, X7, e7, W7, st7⟩ := stR X6 hx hZ e6 Ar7 (j := (1 : Int32)) hin7 rfl (Sto.ofV Ar7 q7 O1 (Ins.self (E_w_SMALLINT.ext OLD.2))) (g := (mkF m 16 #[.val (.int p0), .unset, .unset, .unset] [(.ref w_SMALLINT), (.int (1 : Int32)), (.ref b1), (.ref b1)])) rfl rfl (hb hby at_16)
  replace OLD := OLD.wr W7 g_b1
  have V_b1 : Arv Z h7 b1 k1 (.object "com/example/keylint/keylint/SqlType") (19 : Int32) [(.ref w_TINYINT), (.ref w_SMALLINT), .null, .null, .null, .null, .null, .null, .null, .null, .null, .null, .null, .null, .null, .null, .null, .null, .null] .null := Arv.set Ar7 q7 S7 N7z H7 G7 rfl W7 1 rfl (Nat.le_of_ble_eq_true rfl)
  replace Zn := Nat.le_trans Zn (Keep.of_wr W7).1
  have N7 := Fr.snoc X7 N5 g_b1
  have K8 : ∀ t, Steps p.tables e below (T7.setTop (mkF m 17 #[.val (.int p0), .unset, .unset, .unset] [(.ref b1)])) t → Steps p.tables e below (s₁.setTop (entryFrame m #[(.int p0)] maxLocals)) t := by
    intro t kt
    refine K4 t ?_
    show Steps p.tables e below (T3.setTop (mkF m 11 #[.val (.int p0), .unset, .unset, .unset] [(.ref b1)])) _
    refine XS.dup X5.here hx rfl (hb hby at_11) rfl rfl ?_
    show Steps p.tables e below (T3.setTop (mkF m 12 #[.val (.int p0), .unset, .unset, .unset] [(.ref b1), (.ref b1)])) _
    refine XS.iconst X5.here hx rfl (hb hby at_12) ?_
    show Steps p.tables e below (T3.setTop (mkF m 13 #[.val (.int p0), .unset, .unset, .unset] [(.int (1 : Int32)), (.ref b1), (.ref b1)])) _
    refine st6 _ ?_
    show Steps p.tables e below (T6.setTop (mkF m 16 #[.val (.int p0), .unset, .unset, .unset] [(.ref w_SMALLINT), (.int (1 : Int32)), (.ref b1), (.ref b1)])) _
    refine st7 _ ?_
    exact kt
  obtain ⟨lc9, X9, N9⟩ : ∃ lc, Stand p l e room_1 s m #[(.int p0)] below meth c T7 lc 1 19 ∧ Fr n0 lc := ⟨_, X7, N7⟩
  clear T3 h3 e3 K4 lc5 X5 N5 st6 e6 X6 T6 cl7 Ar7 q7 S7 N7z H7 G7 hin7 X7 W7 st7 N7
  obtain ⟨T10, X10, e10, st10⟩ := getS2 X9 hx hZ hown (host := "") (Or.inl (hw _ (List.mem_of_getElem? (i := 8) rfl))) Via.refl e7 (S_INT.ext OLD.2) (g := (mkF m 19 #[.val (.int p0), .unset, .unset, .unset] [(.int (2 : Int32)), (.ref b1), (.ref b1)])) rfl (hb hby at_19)
  obtain ⟨cl11, Ar11, q11, S11, N11z, H11, G11⟩ := V_b1
  have hin11 : ¬ ((2 : Int32) < 0 ∨ cl11.slots.size ≤ ((2 : Int32)).toNatClampNeg) := inb_of S11 ⟨by decide, by decide⟩
  obtain ⟨T11, h11, X11, e11, W11, st11⟩ := stR X10 hx hZ e10 Ar11 (j := (2 : Int32)) hin11 rfl (Sto.ofV Ar11 q11 O1 (Ins.self (E_w_INT.ext OLD.2))) (g := (mkF m 22 #[.val (.int p0), .unset, .unset, .unset] [(.ref w_INT), (.int (2 : Int32)), (.ref b1), (.ref b1)])) rfl rfl (hb hby at_22)
  replace OLD := OLD.wr W11 g_b1
  have V_b1 : Arv Z h11 b1 k1 (.object "com/example/keylint/keylint/SqlType") (19 : Int32) [(.ref w_TINYINT), (.ref w_SMALLINT), (.ref w_INT), .null, .null, .null, .null, .null, .null, .null, .null, .null, .null, .null, .null, .null, .null, .null, .null] .null := Arv.set Ar11 q11 S11 N11z H11 G11 rfl W11 2 rfl (Nat.le_of_ble_eq_true rfl)
  replace Zn := Nat.le_trans Zn (Keep.of_wr W11).1
  have N11 := Fr.snoc X11 N9 g_b1
  have K12 : ∀ t, Steps p.tables e below (T11.setTop (mkF m 23 #[.val (.int p0), .unset, .unset, .unset] [(.ref b1)])) t → Steps p.tables e below (s₁.setTop (entryFrame m #[(.int p0)] maxLocals)) t := by
    intro t kt
    refine K8 t ?_
    show Steps p.tables e below (T7.setTop (mkF m 17 #[.val (.int p0), .unset, .unset, .unset] [(.ref b1)])) _
    refine XS.dup X9.here hx rfl (hb hby at_17) rfl rfl ?_
    show Steps p.tables e below (T7.setTop (mkF m 18 #[.val (.int p0), .unset, .unset, .unset] [(.ref b1), (.ref b1)])) _
    refine XS.iconst X9.here hx rfl (hb hby at_18) ?_
    show Steps p.tables e below (T7.setTop (mkF m 19 #[.val (.int p0), .unset, .unset, .unset] [(.int (2 : Int32)), (.ref b1), (.ref b1)])) _
    refine st10 _ ?_
    show Steps p.tables e below (T10.setTop (mkF m 22 #[.val (.int p0), .unset, .unset, .unset] [(.ref w_INT), (.int (2 : Int32)), (.ref b1), (.ref b1)])) _
    refine st11 _ ?_
    exact kt
  obtain ⟨lc13, X13, N13⟩ : ∃ lc, Stand p l e room_1 s m #[(.int p0)] below meth c T11 lc 1 19 ∧ Fr n0 lc := ⟨_, X11, N11⟩
  clear T7 h7 e7 K8 lc9 X9 N9 st10 e10 X10 T10 cl11 Ar11 q11 S11 N11z H11 G11 hin11 X11 W11 st11 N11
  obtain ⟨T14, X14, e14, st14⟩ := getS2 X13 hx hZ hown (host := "") (Or.inl (hw _ (List.mem_of_getElem? (i := 10) rfl))) Via.refl e11 (S_INTEGER.ext OLD.2) (g := (mkF m 25 #[.val (.int p0), .unset, .unset, .unset] [(.int (3 : Int32)), (.ref b1), (.ref b1)])) rfl (hb hby at_25)
  obtain ⟨cl15, Ar15, q15, S15, N15z, H15, G15⟩ := V_b1
  have hin15 : ¬ ((3 : Int32) < 0 ∨ cl15.slots.size ≤ ((3 : Int32)).toNatClampNeg) := inb_of S15 ⟨by decide, by decide⟩
  obtain ⟨T15, h15, X15, e15, W15, st15⟩ := stR X14 hx hZ e14 Ar15 (j := (3 : Int32)) hin15 rfl (Sto.ofV Ar15 q15 O1 (Ins.self (E_w_INTEGER.ext OLD.2))) (g := (mkF m 28 #[.val (.int p0), .unset, .unset, .unset] [(.ref w_INTEGER), (.int (3 : Int32)), (.ref b1), (.ref b1)])) rfl rfl (hb hby at_28)
  replace OLD := OLD.wr W15 g_b1
  have V_b1 : Arv Z h15 b1 k1 (.object "com/example/keylint/keylint/SqlType") (19 : Int32) [(.ref w_TINYINT), (.ref w_SMALLINT), (.ref w_INT), (.ref w_INTEGER), .null, .null, .null, .null, .null, .null, .null, .null, .null, .null, .null, .null, .null, .null, .null] .null := Arv.set Ar15 q15 S15 N15z H15 G15 rfl W15 3 rfl (Nat.le_of_ble_eq_true rfl)
  replace Zn := Nat.le_trans Zn (Keep.of_wr W15).1
  have N15 := Fr.snoc X15 N13 g_b1
  have K16 : ∀ t, Steps p.tables e below (T15.setTop (mkF m 29 #[.val (.int p0), .unset, .unset, .unset] [(.ref b1)])) t → Steps p.tables e below (s₁.setTop (entryFrame m #[(.int p0)] maxLocals)) t := by
    intro t kt
    refine K12 t ?_
    show Steps p.tables e below (T11.setTop (mkF m 23 #[.val (.int p0), .unset, .unset, .unset] [(.ref b1)])) _
    refine XS.dup X13.here hx rfl (hb hby at_23) rfl rfl ?_
    show Steps p.tables e below (T11.setTop (mkF m 24 #[.val (.int p0), .unset, .unset, .unset] [(.ref b1), (.ref b1)])) _
    refine XS.iconst X13.here hx rfl (hb hby at_24) ?_
    show Steps p.tables e below (T11.setTop (mkF m 25 #[.val (.int p0), .unset, .unset, .unset] [(.int (3 : Int32)), (.ref b1), (.ref b1)])) _
    refine st14 _ ?_
    show Steps p.tables e below (T14.setTop (mkF m 28 #[.val (.int p0), .unset, .unset, .unset] [(.ref w_INTEGER), (.int (3 : Int32)), (.ref b1), (.ref b1)])) _
    refine st15 _ ?_
    exact kt
  obtain ⟨lc17, X17, N17⟩ : ∃ lc, Stand p l e room_1 s m #[(.int p0)] below meth c T15 lc 1 19 ∧ Fr n0 lc := ⟨_, X15, N15⟩
  clear T11 h11 e11 K12 lc13 X13 N13 st14 e14 X14 T14 cl15 Ar15 q15 S15 N15z H15 G15 hin15 X15 W15 st15 N15
  obtain ⟨T18, X18, e18, st18⟩ := getS2 X17 hx hZ hown (host := "") (Or.inl (hw _ (List.mem_of_getElem? (i := 12) rfl))) Via.refl e15 (S_BIGINT.ext OLD.2) (g := (mkF m 31 #[.val (.int p0), .unset, .unset, .unset] [(.int (4 : Int32)), (.ref b1), (.ref b1)])) rfl (hb hby at_31)
  obtain ⟨cl19, Ar19, q19, S19, N19z, H19, G19⟩ := V_b1
  have hin19 : ¬ ((4 : Int32) < 0 ∨ cl19.slots.size ≤ ((4 : Int32)).toNatClampNeg) := inb_of S19 ⟨by decide, by decide⟩
  obtain ⟨T19, h19, X19, e19, W19, st19⟩ := stR X18 hx hZ e18 Ar19 (j := (4 : Int32)) hin19 rfl (Sto.ofV Ar19 q19 O1 (Ins.self (E_w_BIGINT.ext OLD.2))) (g := (mkF m 34 #[.val (.int p0), .unset, .unset, .unset] [(.ref w_BIGINT), (.int (4 : Int32)), (.ref b1), (.ref b1)])) rfl rfl (hb hby at_34)
  replace OLD := OLD.wr W19 g_b1
  have V_b1 : Arv Z h19 b1 k1 (.object "com/example/keylint/keylint/SqlType") (19 : Int32) [(.ref w_TINYINT), (.ref w_SMALLINT), (.ref w_INT), (.ref w_INTEGER), (.ref w_BIGINT), .null, .null, .null, .null, .null, .null, .null, .null, .null, .null, .null, .null, .null, .null] .null := Arv.set Ar19 q19 S19 N19z H19 G19 rfl W19 4 rfl (Nat.le_of_ble_eq_true rfl)
  replace Zn := Nat.le_trans Zn (Keep.of_wr W19).1
  have N19 := Fr.snoc X19 N17 g_b1
  have K20 : ∀ t, Steps p.tables e below (T19.setTop (mkF m 35 #[.val (.int p0), .unset, .unset, .unset] [(.ref b1)])) t → Steps p.tables e below (s₁.setTop (entryFrame m #[(.int p0)] maxLocals)) t := by
    intro t kt
    refine K16 t ?_
    show Steps p.tables e below (T15.setTop (mkF m 29 #[.val (.int p0), .unset, .unset, .unset] [(.ref b1)])) _
    refine XS.dup X17.here hx rfl (hb hby at_29) rfl rfl ?_
    show Steps p.tables e below (T15.setTop (mkF m 30 #[.val (.int p0), .unset, .unset, .unset] [(.ref b1), (.ref b1)])) _
    refine XS.iconst X17.here hx rfl (hb hby at_30) ?_
    show Steps p.tables e below (T15.setTop (mkF m 31 #[.val (.int p0), .unset, .unset, .unset] [(.int (4 : Int32)), (.ref b1), (.ref b1)])) _
    refine st18 _ ?_
    show Steps p.tables e below (T18.setTop (mkF m 34 #[.val (.int p0), .unset, .unset, .unset] [(.ref w_BIGINT), (.int (4 : Int32)), (.ref b1), (.ref b1)])) _
    refine st19 _ ?_
    exact kt
  obtain ⟨lc21, X21, N21⟩ : ∃ lc, Stand p l e room_1 s m #[(.int p0)] below meth c T19 lc 1 19 ∧ Fr n0 lc := ⟨_, X19, N19⟩
  clear T15 h15 e15 K16 lc17 X17 N17 st18 e18 X18 T18 cl19 Ar19 q19 S19 N19z H19 G19 hin19 X19 W19 st19 N19
  obtain ⟨T22, X22, e22, st22⟩ := getS2 X21 hx hZ hown (host := "") (Or.inl (hw _ (List.mem_of_getElem? (i := 14) rfl))) Via.refl e19 (S_FLOAT.ext OLD.2) (g := (mkF m 37 #[.val (.int p0), .unset, .unset, .unset] [(.int (5 : Int32)), (.ref b1), (.ref b1)])) rfl (hb hby at_37)
  obtain ⟨cl23, Ar23, q23, S23, N23z, H23, G23⟩ := V_b1
  have hin23 : ¬ ((5 : Int32) < 0 ∨ cl23.slots.size ≤ ((5 : Int32)).toNatClampNeg) := inb_of S23 ⟨by decide, by decide⟩
  obtain ⟨T23, h23, X23, e23, W23, st23⟩ := stR X22 hx hZ e22 Ar23 (j := (5 : Int32)) hin23 rfl (Sto.ofV Ar23 q23 O1 (Ins.self (E_w_FLOAT.ext OLD.2))) (g := (mkF m 40 #[.val (.int p0), .unset, .unset, .unset] [(.ref w_FLOAT), (.int (5 : Int32)), (.ref b1), (.ref b1)])) rfl rfl (hb hby at_40)
  replace OLD := OLD.wr W23 g_b1
  have V_b1 : Arv Z h23 b1 k1 (.object "com/example/keylint/keylint/SqlType") (19 : Int32) [(.ref w_TINYINT), (.ref w_SMALLINT), (.ref w_INT), (.ref w_INTEGER), (.ref w_BIGINT), (.ref w_FLOAT), .null, .null, .null, .null, .null, .null, .null, .null, .null, .null, .null, .null, .null] .null := Arv.set Ar23 q23 S23 N23z H23 G23 rfl W23 5 rfl (Nat.le_of_ble_eq_true rfl)
  replace Zn := Nat.le_trans Zn (Keep.of_wr W23).1
  have N23 := Fr.snoc X23 N21 g_b1
  have K24 : ∀ t, Steps p.tables e below (T23.setTop (mkF m 41 #[.val (.int p0), .unset, .unset, .unset] [(.ref b1)])) t → Steps p.tables e below (s₁.setTop (entryFrame m #[(.int p0)] maxLocals)) t := by
    intro t kt
    refine K20 t ?_
    show Steps p.tables e below (T19.setTop (mkF m 35 #[.val (.int p0), .unset, .unset, .unset] [(.ref b1)])) _
    refine XS.dup X21.here hx rfl (hb hby at_35) rfl rfl ?_
    show Steps p.tables e below (T19.setTop (mkF m 36 #[.val (.int p0), .unset, .unset, .unset] [(.ref b1), (.ref b1)])) _
    refine XS.iconst X21.here hx rfl (hb hby at_36) ?_
    show Steps p.tables e below (T19.setTop (mkF m 37 #[.val (.int p0), .unset, .unset, .unset] [(.int (5 : Int32)), (.ref b1), (.ref b1)])) _
    refine st22 _ ?_
    show Steps p.tables e below (T22.setTop (mkF m 40 #[.val (.int p0), .unset, .unset, .unset] [(.ref w_FLOAT), (.int (5 : Int32)), (.ref b1), (.ref b1)])) _
    refine st23 _ ?_
    exact kt
  obtain ⟨lc25, X25, N25⟩ : ∃ lc, Stand p l e room_1 s m #[(.int p0)] below meth c T23 lc 1 19 ∧ Fr n0 lc := ⟨_, X23, N23⟩
  clear T19 h19 e19 K20 lc21 X21 N21 st22 e22 X22 T22 cl23 Ar23 q23 S23 N23z H23 G23 hin23 X23 W23 st23 N23
  obtain ⟨T26, X26, e26, st26⟩ := getS2 X25 hx hZ hown (host := "") (Or.inl (hw _ (List.mem_of_getElem? (i := 16) rfl))) Via.refl e23 (S_DOUBLE.ext OLD.2) (g := (mkF m 44 #[.val (.int p0), .unset, .unset, .unset] [(.int (6 : Int32)), (.ref b1), (.ref b1)])) rfl (hb hby at_44)
  obtain ⟨cl27, Ar27, q27, S27, N27z, H27, G27⟩ := V_b1
  have hin27 : ¬ ((6 : Int32) < 0 ∨ cl27.slots.size ≤ ((6 : Int32)).toNatClampNeg) := inb_of S27 ⟨by decide, by decide⟩
  obtain ⟨T27, h27, X27, e27, W27, st27⟩ := stR X26 hx hZ e26 Ar27 (j := (6 : Int32)) hin27 rfl (Sto.ofV Ar27 q27 O1 (Ins.self (E_w_DOUBLE.ext OLD.2))) (g := (mkF m 47 #[.val (.int p0), .unset, .unset, .unset] [(.ref w_DOUBLE), (.int (6 : Int32)), (.ref b1), (.ref b1)])) rfl rfl (hb hby at_47)
  replace OLD := OLD.wr W27 g_b1
  have V_b1 : Arv Z h27 b1 k1 (.object "com/example/keylint/keylint/SqlType") (19 : Int32) [(.ref w_TINYINT), (.ref w_SMALLINT), (.ref w_INT), (.ref w_INTEGER), (.ref w_BIGINT), (.ref w_FLOAT), (.ref w_DOUBLE), .null, .null, .null, .null, .null, .null, .null, .null, .null, .null, .null, .null] .null := Arv.set Ar27 q27 S27 N27z H27 G27 rfl W27 6 rfl (Nat.le_of_ble_eq_true rfl)
  replace Zn := Nat.le_trans Zn (Keep.of_wr W27).1
  have N27 := Fr.snoc X27 N25 g_b1
  have K28 : ∀ t, Steps p.tables e below (T27.setTop (mkF m 48 #[.val (.int p0), .unset, .unset, .unset] [(.ref b1)])) t → Steps p.tables e below (s₁.setTop (entryFrame m #[(.int p0)] maxLocals)) t := by
    intro t kt
    refine K24 t ?_
    show Steps p.tables e below (T23.setTop (mkF m 41 #[.val (.int p0), .unset, .unset, .unset] [(.ref b1)])) _
    refine XS.dup X25.here hx rfl (hb hby at_41) rfl rfl ?_
    show Steps p.tables e below (T23.setTop (mkF m 42 #[.val (.int p0), .unset, .unset, .unset] [(.ref b1), (.ref b1)])) _
    refine XS.bipush X25.here hx rfl (hb hby at_42) ?_
    show Steps p.tables e below (T23.setTop (mkF m 44 #[.val (.int p0), .unset, .unset, .unset] [(.int (6 : Int32)), (.ref b1), (.ref b1)])) _
    refine st26 _ ?_
    show Steps p.tables e below (T26.setTop (mkF m 47 #[.val (.int p0), .unset, .unset, .unset] [(.ref w_DOUBLE), (.int (6 : Int32)), (.ref b1), (.ref b1)])) _
    refine st27 _ ?_
    exact kt
  obtain ⟨lc29, X29, N29⟩ : ∃ lc, Stand p l e room_1 s m #[(.int p0)] below meth c T27 lc 1 19 ∧ Fr n0 lc := ⟨_, X27, N27⟩
  clear T23 h23 e23 K24 lc25 X25 N25 st26 e26 X26 T26 cl27 Ar27 q27 S27 N27z H27 G27 hin27 X27 W27 st27 N27
  obtain ⟨T30, X30, e30, st30⟩ := getS2 X29 hx hZ hown (host := "") (Or.inl (hw _ (List.mem_of_getElem? (i := 18) rfl))) Via.refl e27 (S_DECIMAL.ext OLD.2) (g := (mkF m 51 #[.val (.int p0), .unset, .unset, .unset] [(.int (7 : Int32)), (.ref b1), (.ref b1)])) rfl (hb hby at_51)
  obtain ⟨cl31, Ar31, q31, S31, N31z, H31, G31⟩ := V_b1
  have hin31 : ¬ ((7 : Int32) < 0 ∨ cl31.slots.size ≤ ((7 : Int32)).toNatClampNeg) := inb_of S31 ⟨by decide, by decide⟩
  obtain ⟨T31, h31, X31, e31, W31, st31⟩ := stR X30 hx hZ e30 Ar31 (j := (7 : Int32)) hin31 rfl (Sto.ofV Ar31 q31 O1 (Ins.self (E_w_DECIMAL.ext OLD.2))) (g := (mkF m 54 #[.val (.int p0), .unset, .unset, .unset] [(.ref w_DECIMAL), (.int (7 : Int32)), (.ref b1), (.ref b1)])) rfl rfl (hb hby at_54)
  replace OLD := OLD.wr W31 g_b1
  have V_b1 : Arv Z h31 b1 k1 (.object "com/example/keylint/keylint/SqlType") (19 : Int32) [(.ref w_TINYINT), (.ref w_SMALLINT), (.ref w_INT), (.ref w_INTEGER), (.ref w_BIGINT), (.ref w_FLOAT), (.ref w_DOUBLE), (.ref w_DECIMAL), .null, .null, .null, .null, .null, .null, .null, .null, .null, .null, .null] .null := Arv.set Ar31 q31 S31 N31z H31 G31 rfl W31 7 rfl (Nat.le_of_ble_eq_true rfl)
  replace Zn := Nat.le_trans Zn (Keep.of_wr W31).1
  have N31 := Fr.snoc X31 N29 g_b1
  have K32 : ∀ t, Steps p.tables e below (T31.setTop (mkF m 55 #[.val (.int p0), .unset, .unset, .unset] [(.ref b1)])) t → Steps p.tables e below (s₁.setTop (entryFrame m #[(.int p0)] maxLocals)) t := by
    intro t kt
    refine K28 t ?_
    show Steps p.tables e below (T27.setTop (mkF m 48 #[.val (.int p0), .unset, .unset, .unset] [(.ref b1)])) _
    refine XS.dup X29.here hx rfl (hb hby at_48) rfl rfl ?_
    show Steps p.tables e below (T27.setTop (mkF m 49 #[.val (.int p0), .unset, .unset, .unset] [(.ref b1), (.ref b1)])) _
    refine XS.bipush X29.here hx rfl (hb hby at_49) ?_
    show Steps p.tables e below (T27.setTop (mkF m 51 #[.val (.int p0), .unset, .unset, .unset] [(.int (7 : Int32)), (.ref b1), (.ref b1)])) _
    refine st30 _ ?_
    show Steps p.tables e below (T30.setTop (mkF m 54 #[.val (.int p0), .unset, .unset, .unset] [(.ref w_DECIMAL), (.int (7 : Int32)), (.ref b1), (.ref b1)])) _
    refine st31 _ ?_
    exact kt
  obtain ⟨lc33, X33, N33⟩ : ∃ lc, Stand p l e room_1 s m #[(.int p0)] below meth c T31 lc 1 19 ∧ Fr n0 lc := ⟨_, X31, N31⟩
  clear T27 h27 e27 K28 lc29 X29 N29 st30 e30 X30 T30 cl31 Ar31 q31 S31 N31z H31 G31 hin31 X31 W31 st31 N31
  obtain ⟨T34, X34, e34, st34⟩ := getS2 X33 hx hZ hown (host := "") (Or.inl (hw _ (List.mem_of_getElem? (i := 20) rfl))) Via.refl e31 (S_BOOLEAN.ext OLD.2) (g := (mkF m 58 #[.val (.int p0), .unset, .unset, .unset] [(.int (8 : Int32)), (.ref b1), (.ref b1)])) rfl (hb hby at_58)
  obtain ⟨cl35, Ar35, q35, S35, N35z, H35, G35⟩ := V_b1
  have hin35 : ¬ ((8 : Int32) < 0 ∨ cl35.slots.size ≤ ((8 : Int32)).toNatClampNeg) := inb_of S35 ⟨by decide, by decide⟩
  obtain ⟨T35, h35, X35, e35, W35, st35⟩ := stR X34 hx hZ e34 Ar35 (j := (8 : Int32)) hin35 rfl (Sto.ofV Ar35 q35 O1 (Ins.self (E_w_BOOLEAN.ext OLD.2))) (g := (mkF m 61 #[.val (.int p0), .unset, .unset, .unset] [(.ref w_BOOLEAN), (.int (8 : Int32)), (.ref b1), (.ref b1)])) rfl rfl (hb hby at_61)
  replace OLD := OLD.wr W35 g_b1
  have V_b1 : Arv Z h35 b1 k1 (.object "com/example/keylint/keylint/SqlType") (19 : Int32) [(.ref w_TINYINT), (.ref w_SMALLINT), (.ref w_INT), (.ref w_INTEGER), (.ref w_BIGINT), (.ref w_FLOAT), (.ref w_DOUBLE), (.ref w_DECIMAL), (.ref w_BOOLEAN), .null, .null, .null, .null, .null, .null, .null, .null, .null, .null] .null := Arv.set Ar35 q35 S35 N35z H35 G35 rfl W35 8 rfl (Nat.le_of_ble_eq_true rfl)
  replace Zn := Nat.le_trans Zn (Keep.of_wr W35).1
  have N35 := Fr.snoc X35 N33 g_b1
  have K36 : ∀ t, Steps p.tables e below (T35.setTop (mkF m 62 #[.val (.int p0), .unset, .unset, .unset] [(.ref b1)])) t → Steps p.tables e below (s₁.setTop (entryFrame m #[(.int p0)] maxLocals)) t := by
    intro t kt
    refine K32 t ?_
    show Steps p.tables e below (T31.setTop (mkF m 55 #[.val (.int p0), .unset, .unset, .unset] [(.ref b1)])) _
    refine XS.dup X33.here hx rfl (hb hby at_55) rfl rfl ?_
    show Steps p.tables e below (T31.setTop (mkF m 56 #[.val (.int p0), .unset, .unset, .unset] [(.ref b1), (.ref b1)])) _
    refine XS.bipush X33.here hx rfl (hb hby at_56) ?_
    show Steps p.tables e below (T31.setTop (mkF m 58 #[.val (.int p0), .unset, .unset, .unset] [(.int (8 : Int32)), (.ref b1), (.ref b1)])) _
    refine st34 _ ?_
    show Steps p.tables e below (T34.setTop (mkF m 61 #[.val (.int p0), .unset, .unset, .unset] [(.ref w_BOOLEAN), (.int (8 : Int32)), (.ref b1), (.ref b1)])) _
    refine st35 _ ?_
    exact kt
  obtain ⟨lc37, X37, N37⟩ : ∃ lc, Stand p l e room_1 s m #[(.int p0)] below meth c T35 lc 1 19 ∧ Fr n0 lc := ⟨_, X35, N35⟩
  clear T31 h31 e31 K32 lc33 X33 N33 st34 e34 X34 T34 cl35 Ar35 q35 S35 N35z H35 G35 hin35 X35 W35 st35 N35
  obtain ⟨T38, X38, e38, st38⟩ := getS2 X37 hx hZ hown (host := "") (Or.inl (hw _ (List.mem_of_getElem? (i := 22) rfl))) Via.refl e35 (S_DATE.ext OLD.2) (g := (mkF m 65 #[.val (.int p0), .unset, .unset, .unset] [(.int (9 : Int32)), (.ref b1), (.ref b1)])) rfl (hb hby at_65)
  obtain ⟨cl39, Ar39, q39, S39, N39z, H39, G39⟩ := V_b1
  have hin39 : ¬ ((9 : Int32) < 0 ∨ cl39.slots.size ≤ ((9 : Int32)).toNatClampNeg) := inb_of S39 ⟨by decide, by decide⟩
  obtain ⟨T39, h39, X39, e39, W39, st39⟩ := stR X38 hx hZ e38 Ar39 (j := (9 : Int32)) hin39 rfl (Sto.ofV Ar39 q39 O1 (Ins.self (E_w_DATE.ext OLD.2))) (g := (mkF m 68 #[.val (.int p0), .unset, .unset, .unset] [(.ref w_DATE), (.int (9 : Int32)), (.ref b1), (.ref b1)])) rfl rfl (hb hby at_68)
  replace OLD := OLD.wr W39 g_b1
  have V_b1 : Arv Z h39 b1 k1 (.object "com/example/keylint/keylint/SqlType") (19 : Int32) [(.ref w_TINYINT), (.ref w_SMALLINT), (.ref w_INT), (.ref w_INTEGER), (.ref w_BIGINT), (.ref w_FLOAT), (.ref w_DOUBLE), (.ref w_DECIMAL), (.ref w_BOOLEAN), (.ref w_DATE), .null, .null, .null, .null, .null, .null, .null, .null, .null] .null := Arv.set Ar39 q39 S39 N39z H39 G39 rfl W39 9 rfl (Nat.le_of_ble_eq_true rfl)
  replace Zn := Nat.le_trans Zn (Keep.of_wr W39).1
  have N39 := Fr.snoc X39 N37 g_b1
  have K40 : ∀ t, Steps p.tables e below (T39.setTop (mkF m 69 #[.val (.int p0), .unset, .unset, .unset] [(.ref b1)])) t → Steps p.tables e below (s₁.setTop (entryFrame m #[(.int p0)] maxLocals)) t := by
    intro t kt
    refine K36 t ?_
    show Steps p.tables e below (T35.setTop (mkF m 62 #[.val (.int p0), .unset, .unset, .unset] [(.ref b1)])) _
    refine XS.dup X37.here hx rfl (hb hby at_62) rfl rfl ?_
    show Steps p.tables e below (T35.setTop (mkF m 63 #[.val (.int p0), .unset, .unset, .unset] [(.ref b1), (.ref b1)])) _
    refine XS.bipush X37.here hx rfl (hb hby at_63) ?_
    show Steps p.tables e below (T35.setTop (mkF m 65 #[.val (.int p0), .unset, .unset, .unset] [(.int (9 : Int32)), (.ref b1), (.ref b1)])) _
    refine st38 _ ?_
    show Steps p.tables e below (T38.setTop (mkF m 68 #[.val (.int p0), .unset, .unset, .unset] [(.ref w_DATE), (.int (9 : Int32)), (.ref b1), (.ref b1)])) _
    refine st39 _ ?_
    exact kt
  obtain ⟨lc41, X41, N41⟩ : ∃ lc, Stand p l e room_1 s m #[(.int p0)] below meth c T39 lc 1 19 ∧ Fr n0 lc := ⟨_, X39, N39⟩
  clear T35 h35 e35 K36 lc37 X37 N37 st38 e38 X38 T38 cl39 Ar39 q39 S39 N39z H39 G39 hin39 X39 W39 st39 N39
  obtain ⟨T42, X42, e42, st42⟩ := getS2 X41 hx hZ hown (host := "") (Or.inl (hw _ (List.mem_of_getElem? (i := 24) rfl))) Via.refl e39 (S_TIME.ext OLD.2) (g := (mkF m 72 #[.val (.int p0), .unset, .unset, .unset] [(.int (10 : Int32)), (.ref b1), (.ref b1)])) rfl (hb hby at_72)
  obtain ⟨cl43, Ar43, q43, S43, N43z, H43, G43⟩ := V_b1
  have hin43 : ¬ ((10 : Int32) < 0 ∨ cl43.slots.size ≤ ((10 : Int32)).toNatClampNeg) := inb_of S43 ⟨by decide, by decide⟩
  obtain ⟨T43, h43, X43, e43, W43, st43⟩ := stR X42 hx hZ e42 Ar43 (j := (10 : Int32)) hin43 rfl (Sto.ofV Ar43 q43 O1 (Ins.self (E_w_TIME.ext OLD.2))) (g := (mkF m 75 #[.val (.int p0), .unset, .unset, .unset] [(.ref w_TIME), (.int (10 : Int32)), (.ref b1), (.ref b1)])) rfl rfl (hb hby at_75)
  replace OLD := OLD.wr W43 g_b1
  have V_b1 : Arv Z h43 b1 k1 (.object "com/example/keylint/keylint/SqlType") (19 : Int32) [(.ref w_TINYINT), (.ref w_SMALLINT), (.ref w_INT), (.ref w_INTEGER), (.ref w_BIGINT), (.ref w_FLOAT), (.ref w_DOUBLE), (.ref w_DECIMAL), (.ref w_BOOLEAN), (.ref w_DATE), (.ref w_TIME), .null, .null, .null, .null, .null, .null, .null, .null] .null := Arv.set Ar43 q43 S43 N43z H43 G43 rfl W43 10 rfl (Nat.le_of_ble_eq_true rfl)
  replace Zn := Nat.le_trans Zn (Keep.of_wr W43).1
  have N43 := Fr.snoc X43 N41 g_b1
  have K44 : ∀ t, Steps p.tables e below (T43.setTop (mkF m 76 #[.val (.int p0), .unset, .unset, .unset] [(.ref b1)])) t → Steps p.tables e below (s₁.setTop (entryFrame m #[(.int p0)] maxLocals)) t := by
    intro t kt
    refine K40 t ?_
    show Steps p.tables e below (T39.setTop (mkF m 69 #[.val (.int p0), .unset, .unset, .unset] [(.ref b1)])) _
    refine XS.dup X41.here hx rfl (hb hby at_69) rfl rfl ?_
    show Steps p.tables e below (T39.setTop (mkF m 70 #[.val (.int p0), .unset, .unset, .unset] [(.ref b1), (.ref b1)])) _
    refine XS.bipush X41.here hx rfl (hb hby at_70) ?_
    show Steps p.tables e below (T39.setTop (mkF m 72 #[.val (.int p0), .unset, .unset, .unset] [(.int (10 : Int32)), (.ref b1), (.ref b1)])) _
    refine st42 _ ?_
    show Steps p.tables e below (T42.setTop (mkF m 75 #[.val (.int p0), .unset, .unset, .unset] [(.ref w_TIME), (.int (10 : Int32)), (.ref b1), (.ref b1)])) _
    refine st43 _ ?_
    exact kt
  obtain ⟨lc45, X45, N45⟩ : ∃ lc, Stand p l e room_1 s m #[(.int p0)] below meth c T43 lc 1 19 ∧ Fr n0 lc := ⟨_, X43, N43⟩
  clear T39 h39 e39 K40 lc41 X41 N41 st42 e42 X42 T42 cl43 Ar43 q43 S43 N43z H43 G43 hin43 X43 W43 st43 N43
  obtain ⟨T46, X46, e46, st46⟩ := getS2 X45 hx hZ hown (host := "") (Or.inl (hw _ (List.mem_of_getElem? (i := 26) rfl))) Via.refl e43 (S_TIMESTAMP.ext OLD.2) (g := (mkF m 79 #[.val (.int p0), .unset, .unset, .unset] [(.int (11 : Int32)), (.ref b1), (.ref b1)])) rfl (hb hby at_79)
  obtain ⟨cl47, Ar47, q47, S47, N47z, H47, G47⟩ := V_b1
  have hin47 : ¬ ((11 : Int32) < 0 ∨ cl47.slots.size ≤ ((11 : Int32)).toNatClampNeg) := inb_of S47 ⟨by decide, by decide⟩
  obtain ⟨T47, h47, X47, e47, W47, st47⟩ := stR X46 hx hZ e46 Ar47 (j := (11 : Int32)) hin47 rfl (Sto.ofV Ar47 q47 O1 (Ins.self (E_w_TIMESTAMP.ext OLD.2))) (g := (mkF m 82 #[.val (.int p0), .unset, .unset, .unset] [(.ref w_TIMESTAMP), (.int (11 : Int32)), (.ref b1), (.ref b1)])) rfl rfl (hb hby at_82)
  replace OLD := OLD.wr W47 g_b1
  have V_b1 : Arv Z h47 b1 k1 (.object "com/example/keylint/keylint/SqlType") (19 : Int32) [(.ref w_TINYINT), (.ref w_SMALLINT), (.ref w_INT), (.ref w_INTEGER), (.ref w_BIGINT), (.ref w_FLOAT), (.ref w_DOUBLE), (.ref w_DECIMAL), (.ref w_BOOLEAN), (.ref w_DATE), (.ref w_TIME), (.ref w_TIMESTAMP), .null, .null, .null, .null, .null, .null, .null] .null := Arv.set Ar47 q47 S47 N47z H47 G47 rfl W47 11 rfl (Nat.le_of_ble_eq_true rfl)
  replace Zn := Nat.le_trans Zn (Keep.of_wr W47).1
  have N47 := Fr.snoc X47 N45 g_b1
  have K48 : ∀ t, Steps p.tables e below (T47.setTop (mkF m 83 #[.val (.int p0), .unset, .unset, .unset] [(.ref b1)])) t → Steps p.tables e below (s₁.setTop (entryFrame m #[(.int p0)] maxLocals)) t := by
    intro t kt
    refine K44 t ?_
    show Steps p.tables e below (T43.setTop (mkF m 76 #[.val (.int p0), .unset, .unset, .unset] [(.ref b1)])) _
    refine XS.dup X45.here hx rfl (hb hby at_76) rfl rfl ?_
    show Steps p.tables e below (T43.setTop (mkF m 77 #[.val (.int p0), .unset, .unset, .unset] [(.ref b1), (.ref b1)])) _
    refine XS.bipush X45.here hx rfl (hb hby at_77) ?_
    show Steps p.tables e below (T43.setTop (mkF m 79 #[.val (.int p0), .unset, .unset, .unset] [(.int (11 : Int32)), (.ref b1), (.ref b1)])) _
    refine st46 _ ?_
    show Steps p.tables e below (T46.setTop (mkF m 82 #[.val (.int p0), .unset, .unset, .unset] [(.ref w_TIMESTAMP), (.int (11 : Int32)), (.ref b1), (.ref b1)])) _
    refine st47 _ ?_
    exact kt
  obtain ⟨lc49, X49, N49⟩ : ∃ lc, Stand p l e room_1 s m #[(.int p0)] below meth c T47 lc 1 19 ∧ Fr n0 lc := ⟨_, X47, N47⟩
  clear T43 h43 e43 K44 lc45 X45 N45 st46 e46 X46 T46 cl47 Ar47 q47 S47 N47z H47 G47 hin47 X47 W47 st47 N47
  obtain ⟨T50, X50, e50, st50⟩ := getS2 X49 hx hZ hown (host := "") (Or.inl (hw _ (List.mem_of_getElem? (i := 28) rfl))) Via.refl e47 (S_DATETIME.ext OLD.2) (g := (mkF m 86 #[.val (.int p0), .unset, .unset, .unset] [(.int (12 : Int32)), (.ref b1), (.ref b1)])) rfl (hb hby at_86)
  obtain ⟨cl51, Ar51, q51, S51, N51z, H51, G51⟩ := V_b1
  have hin51 : ¬ ((12 : Int32) < 0 ∨ cl51.slots.size ≤ ((12 : Int32)).toNatClampNeg) := inb_of S51 ⟨by decide, by decide⟩
  obtain ⟨T51, h51, X51, e51, W51, st51⟩ := stR X50 hx hZ e50 Ar51 (j := (12 : Int32)) hin51 rfl (Sto.ofV Ar51 q51 O1 (Ins.self (E_w_DATETIME.ext OLD.2))) (g := (mkF m 89 #[.val (.int p0), .unset, .unset, .unset] [(.ref w_DATETIME), (.int (12 : Int32)), (.ref b1), (.ref b1)])) rfl rfl (hb hby at_89)
  replace OLD := OLD.wr W51 g_b1
  have V_b1 : Arv Z h51 b1 k1 (.object "com/example/keylint/keylint/SqlType") (19 : Int32) [(.ref w_TINYINT), (.ref w_SMALLINT), (.ref w_INT), (.ref w_INTEGER), (.ref w_BIGINT), (.ref w_FLOAT), (.ref w_DOUBLE), (.ref w_DECIMAL), (.ref w_BOOLEAN), (.ref w_DATE), (.ref w_TIME), (.ref w_TIMESTAMP), (.ref w_DATETIME), .null, .null, .null, .null, .null, .null] .null := Arv.set Ar51 q51 S51 N51z H51 G51 rfl W51 12 rfl (Nat.le_of_ble_eq_true rfl)
  replace Zn := Nat.le_trans Zn (Keep.of_wr W51).1
  have N51 := Fr.snoc X51 N49 g_b1
  have K52 : ∀ t, Steps p.tables e below (T51.setTop (mkF m 90 #[.val (.int p0), .unset, .unset, .unset] [(.ref b1)])) t → Steps p.tables e below (s₁.setTop (entryFrame m #[(.int p0)] maxLocals)) t := by
    intro t kt
    refine K48 t ?_
    show Steps p.tables e below (T47.setTop (mkF m 83 #[.val (.int p0), .unset, .unset, .unset] [(.ref b1)])) _
    refine XS.dup X49.here hx rfl (hb hby at_83) rfl rfl ?_
    show Steps p.tables e below (T47.setTop (mkF m 84 #[.val (.int p0), .unset, .unset, .unset] [(.ref b1), (.ref b1)])) _
    refine XS.bipush X49.here hx rfl (hb hby at_84) ?_
    show Steps p.tables e below (T47.setTop (mkF m 86 #[.val (.int p0), .unset, .unset, .unset] [(.int (12 : Int32)), (.ref b1), (.ref b1)])) _
    refine st50 _ ?_
    show Steps p.tables e below (T50.setTop (mkF m 89 #[.val (.int p0), .unset, .unset, .unset] [(.ref w_DATETIME), (.int (12 : Int32)), (.ref b1), (.ref b1)])) _
    refine st51 _ ?_
    exact kt
  obtain ⟨lc53, X53, N53⟩ : ∃ lc, Stand p l e room_1 s m #[(.int p0)] below meth c T51 lc 1 19 ∧ Fr n0 lc := ⟨_, X51, N51⟩
  clear T47 h47 e47 K48 lc49 X49 N49 st50 e50 X50 T50 cl51 Ar51 q51 S51 N51z H51 G51 hin51 X51 W51 st51 N51
  obtain ⟨T54, X54, e54, st54⟩ := getS2 X53 hx hZ hown (host := "") (Or.inl (hw _ (List.mem_of_getElem? (i := 30) rfl))) Via.refl e51 (S_CHAR.ext OLD.2) (g := (mkF m 93 #[.val (.int p0), .unset, .unset, .unset] [(.int (13 : Int32)), (.ref b1), (.ref b1)])) rfl (hb hby at_93)
  obtain ⟨cl55, Ar55, q55, S55, N55z, H55, G55⟩ := V_b1
  have hin55 : ¬ ((13 : Int32) < 0 ∨ cl55.slots.size ≤ ((13 : Int32)).toNatClampNeg) := inb_of S55 ⟨by decide, by decide⟩
  obtain ⟨T55, h55, X55, e55, W55, st55⟩ := stR X54 hx hZ e54 Ar55 (j := (13 : Int32)) hin55 rfl (Sto.ofV Ar55 q55 O1 (Ins.self (E_w_CHAR.ext OLD.2))) (g := (mkF m 96 #[.val (.int p0), .unset, .unset, .unset] [(.ref w_CHAR), (.int (13 : Int32)), (.ref b1), (.ref b1)])) rfl rfl (hb hby at_96)
  replace OLD := OLD.wr W55 g_b1
  have V_b1 : Arv Z h55 b1 k1 (.object "com/example/keylint/keylint/SqlType") (19 : Int32) [(.ref w_TINYINT), (.ref w_SMALLINT), (.ref w_INT), (.ref w_INTEGER), (.ref w_BIGINT), (.ref w_FLOAT), (.ref w_DOUBLE), (.ref w_DECIMAL), (.ref w_BOOLEAN), (.ref w_DATE), (.ref w_TIME), (.ref w_TIMESTAMP), (.ref w_DATETIME), (.ref w_CHAR), .null, .null, .null, .null, .null] .null := Arv.set Ar55 q55 S55 N55z H55 G55 rfl W55 13 rfl (Nat.le_of_ble_eq_true rfl)
  replace Zn := Nat.le_trans Zn (Keep.of_wr W55).1
  have N55 := Fr.snoc X55 N53 g_b1
  have K56 : ∀ t, Steps p.tables e below (T55.setTop (mkF m 97 #[.val (.int p0), .unset, .unset, .unset] [(.ref b1)])) t → Steps p.tables e below (s₁.setTop (entryFrame m #[(.int p0)] maxLocals)) t := by
    intro t kt
    refine K52 t ?_
    show Steps p.tables e below (T51.setTop (mkF m 90 #[.val (.int p0), .unset, .unset, .unset] [(.ref b1)])) _
    refine XS.dup X53.here hx rfl (hb hby at_90) rfl rfl ?_
    show Steps p.tables e below (T51.setTop (mkF m 91 #[.val (.int p0), .unset, .unset, .unset] [(.ref b1), (.ref b1)])) _
    refine XS.bipush X53.here hx rfl (hb hby at_91) ?_
    show Steps p.tables e below (T51.setTop (mkF m 93 #[.val (.int p0), .unset, .unset, .unset] [(.int (13 : Int32)), (.ref b1), (.ref b1)])) _
    refine st54 _ ?_
    show Steps p.tables e below (T54.setTop (mkF m 96 #[.val (.int p0), .unset, .unset, .unset] [(.ref w_CHAR), (.int (13 : Int32)), (.ref b1), (.ref b1)])) _
    refine st55 _ ?_
    exact kt
  obtain ⟨lc57, X57, N57⟩ : ∃ lc, Stand p l e room_1 s m #[(.int p0)] below meth c T55 lc 1 19 ∧ Fr n0 lc := ⟨_, X55, N55⟩
  clear T51 h51 e51 K52 lc53 X53 N53 st54 e54 X54 T54 cl55 Ar55 q55 S55 N55z H55 G55 hin55 X55 W55 st55 N55
  obtain ⟨T58, X58, e58, st58⟩ := getS2 X57 hx hZ hown (host := "") (Or.inl (hw _ (List.mem_of_getElem? (i := 32) rfl))) Via.refl e55 (S_VARCHAR.ext OLD.2) (g := (mkF m 100 #[.val (.int p0), .unset, .unset, .unset] [(.int (14 : Int32)), (.ref b1), (.ref b1)])) rfl (hb hby at_100)
  obtain ⟨cl59, Ar59, q59, S59, N59z, H59, G59⟩ := V_b1
  have hin59 : ¬ ((14 : Int32) < 0 ∨ cl59.slots.size ≤ ((14 : Int32)).toNatClampNeg) := inb_of S59 ⟨by decide, by decide⟩
  obtain ⟨T59, h59, X59, e59, W59, st59⟩ := stR X58 hx hZ e58 Ar59 (j := (14 : Int32)) hin59 rfl (Sto.ofV Ar59 q59 O1 (Ins.self (E_w_VARCHAR.ext OLD.2))) (g := (mkF m 103 #[.val (.int p0), .unset, .unset, .unset] [(.ref w_VARCHAR), (.int (14 : Int32)), (.ref b1), (.ref b1)])) rfl rfl (hb hby at_103)
  replace OLD := OLD.wr W59 g_b1
  have V_b1 : Arv Z h59 b1 k1 (.object "com/example/keylint/keylint/SqlType") (19 : Int32) [(.ref w_TINYINT), (.ref w_SMALLINT), (.ref w_INT), (.ref w_INTEGER), (.ref w_BIGINT), (.ref w_FLOAT), (.ref w_DOUBLE), (.ref w_DECIMAL), (.ref w_BOOLEAN), (.ref w_DATE), (.ref w_TIME), (.ref w_TIMESTAMP), (.ref w_DATETIME), (.ref w_CHAR), (.ref w_VARCHAR), .null, .null, .null, .null] .null := Arv.set Ar59 q59 S59 N59z H59 G59 rfl W59 14 rfl (Nat.le_of_ble_eq_true rfl)
  replace Zn := Nat.le_trans Zn (Keep.of_wr W59).1
  have N59 := Fr.snoc X59 N57 g_b1
  have K60 : ∀ t, Steps p.tables e below (T59.setTop (mkF m 104 #[.val (.int p0), .unset, .unset, .unset] [(.ref b1)])) t → Steps p.tables e below (s₁.setTop (entryFrame m #[(.int p0)] maxLocals)) t := by
    intro t kt
    refine K56 t ?_
    show Steps p.tables e below (T55.setTop (mkF m 97 #[.val (.int p0), .unset, .unset, .unset] [(.ref b1)])) _
    refine XS.dup X57.here hx rfl (hb hby at_97) rfl rfl ?_
    show Steps p.tables e below (T55.setTop (mkF m 98 #[.val (.int p0), .unset, .unset, .unset] [(.ref b1), (.ref b1)])) _
    refine XS.bipush X57.here hx rfl (hb hby at_98) ?_
    show Steps p.tables e below (T55.setTop (mkF m 100 #[.val (.int p0), .unset, .unset, .unset] [(.int (14 : Int32)), (.ref b1), (.ref b1)])) _
    refine st58 _ ?_
    show Steps p.tables e below (T58.setTop (mkF m 103 #[.val (.int p0), .unset, .unset, .unset] [(.ref w_VARCHAR), (.int (14 : Int32)), (.ref b1), (.ref b1)])) _
    refine st59 _ ?_
    exact kt
  obtain ⟨lc61, X61, N61⟩ : ∃ lc, Stand p l e room_1 s m #[(.int p0)] below meth c T59 lc 1 19 ∧ Fr n0 lc := ⟨_, X59, N59⟩
  clear T55 h55 e55 K56 lc57 X57 N57 st58 e58 X58 T58 cl59 Ar59 q59 S59 N59z H59 G59 hin59 X59 W59 st59 N59
  obtain ⟨T62, X62, e62, st62⟩ := getS2 X61 hx hZ hown (host := "") (Or.inl (hw _ (List.mem_of_getElem? (i := 34) rfl))) Via.refl e59 (S_BINARY.ext OLD.2) (g := (mkF m 107 #[.val (.int p0), .unset, .unset, .unset] [(.int (15 : Int32)), (.ref b1), (.ref b1)])) rfl (hb hby at_107)
  obtain ⟨cl63, Ar63, q63, S63, N63z, H63, G63⟩ := V_b1
  have hin63 : ¬ ((15 : Int32) < 0 ∨ cl63.slots.size ≤ ((15 : Int32)).toNatClampNeg) := inb_of S63 ⟨by decide, by decide⟩
  obtain ⟨T63, h63, X63, e63, W63, st63⟩ := stR X62 hx hZ e62 Ar63 (j := (15 : Int32)) hin63 rfl (Sto.ofV Ar63 q63 O1 (Ins.self (E_w_BINARY.ext OLD.2))) (g := (mkF m 110 #[.val (.int p0), .unset, .unset, .unset] [(.ref w_BINARY), (.int (15 : Int32)), (.ref b1), (.ref b1)])) rfl rfl (hb hby at_110)
  replace OLD := OLD.wr W63 g_b1
  have V_b1 : Arv Z h63 b1 k1 (.object "com/example/keylint/keylint/SqlType") (19 : Int32) [(.ref w_TINYINT), (.ref w_SMALLINT), (.ref w_INT), (.ref w_INTEGER), (.ref w_BIGINT), (.ref w_FLOAT), (.ref w_DOUBLE), (.ref w_DECIMAL), (.ref w_BOOLEAN), (.ref w_DATE), (.ref w_TIME), (.ref w_TIMESTAMP), (.ref w_DATETIME), (.ref w_CHAR), (.ref w_VARCHAR), (.ref w_BINARY), .null, .null, .null] .null := Arv.set Ar63 q63 S63 N63z H63 G63 rfl W63 15 rfl (Nat.le_of_ble_eq_true rfl)
  replace Zn := Nat.le_trans Zn (Keep.of_wr W63).1
  have N63 := Fr.snoc X63 N61 g_b1
  have K64 : ∀ t, Steps p.tables e below (T63.setTop (mkF m 111 #[.val (.int p0), .unset, .unset, .unset] [(.ref b1)])) t → Steps p.tables e below (s₁.setTop (entryFrame m #[(.int p0)] maxLocals)) t := by
    intro t kt
    refine K60 t ?_
    show Steps p.tables e below (T59.setTop (mkF m 104 #[.val (.int p0), .unset, .unset, .unset] [(.ref b1)])) _
    refine XS.dup X61.here hx rfl (hb hby at_104) rfl rfl ?_
    show Steps p.tables e below (T59.setTop (mkF m 105 #[.val (.int p0), .unset, .unset, .unset] [(.ref b1), (.ref b1)])) _
    refine XS.bipush X61.here hx rfl (hb hby at_105) ?_
    show Steps p.tables e below (T59.setTop (mkF m 107 #[.val (.int p0), .unset, .unset, .unset] [(.int (15 : Int32)), (.ref b1), (.ref b1)])) _
    refine st62 _ ?_
    show Steps p.tables e below (T62.setTop (mkF m 110 #[.val (.int p0), .unset, .unset, .unset] [(.ref w_BINARY), (.int (15 : Int32)), (.ref b1), (.ref b1)])) _
    refine st63 _ ?_
    exact kt
  obtain ⟨lc65, X65, N65⟩ : ∃ lc, Stand p l e room_1 s m #[(.int p0)] below meth c T63 lc 1 19 ∧ Fr n0 lc := ⟨_, X63, N63⟩
  clear T59 h59 e59 K60 lc61 X61 N61 st62 e62 X62 T62 cl63 Ar63 q63 S63 N63z H63 G63 hin63 X63 W63 st63 N63
  obtain ⟨T66, X66, e66, st66⟩ := getS2 X65 hx hZ hown (host := "") (Or.inl (hw _ (List.mem_of_getElem? (i := 36) rfl))) Via.refl e63 (S_VARBINARY.ext OLD.2) (g := (mkF m 114 #[.val (.int p0), .unset, .unset, .unset] [(.int (16 : Int32)), (.ref b1), (.ref b1)])) rfl (hb hby at_114)
  obtain ⟨cl67, Ar67, q67, S67, N67z, H67, G67⟩ := V_b1
  have hin67 : ¬ ((16 : Int32) < 0 ∨ cl67.slots.size ≤ ((16 : Int32)).toNatClampNeg) := inb_of S67 ⟨by decide, by decide⟩
  obtain ⟨T67, h67, X67, e67, W67, st67⟩ := stR X66 hx hZ e66 Ar67 (j := (16 : Int32)) hin67 rfl (Sto.ofV Ar67 q67 O1 (Ins.self (E_w_VARBINARY.ext OLD.2))) (g := (mkF m 117 #[.val (.int p0), .unset, .unset, .unset] [(.ref w_VARBINARY), (.int (16 : Int32)), (.ref b1), (.ref b1)])) rfl rfl (hb hby at_117)
  replace OLD := OLD.wr W67 g_b1
  have V_b1 : Arv Z h67 b1 k1 (.object "com/example/keylint/keylint/SqlType") (19 : Int32) [(.ref w_TINYINT), (.ref w_SMALLINT), (.ref w_INT), (.ref w_INTEGER), (.ref w_BIGINT), (.ref w_FLOAT), (.ref w_DOUBLE), (.ref w_DECIMAL), (.ref w_BOOLEAN), (.ref w_DATE), (.ref w_TIME), (.ref w_TIMESTAMP), (.ref w_DATETIME), (.ref w_CHAR), (.ref w_VARCHAR), (.ref w_BINARY), (.ref w_VARBINARY), .null, .null] .null := Arv.set Ar67 q67 S67 N67z H67 G67 rfl W67 16 rfl (Nat.le_of_ble_eq_true rfl)
  replace Zn := Nat.le_trans Zn (Keep.of_wr W67).1
  have N67 := Fr.snoc X67 N65 g_b1
  have K68 : ∀ t, Steps p.tables e below (T67.setTop (mkF m 118 #[.val (.int p0), .unset, .unset, .unset] [(.ref b1)])) t → Steps p.tables e below (s₁.setTop (entryFrame m #[(.int p0)] maxLocals)) t := by
    intro t kt
    refine K64 t ?_
    show Steps p.tables e below (T63.setTop (mkF m 111 #[.val (.int p0), .unset, .unset, .unset] [(.ref b1)])) _
    refine XS.dup X65.here hx rfl (hb hby at_111) rfl rfl ?_
    show Steps p.tables e below (T63.setTop (mkF m 112 #[.val (.int p0), .unset, .unset, .unset] [(.ref b1), (.ref b1)])) _
    refine XS.bipush X65.here hx rfl (hb hby at_112) ?_
    show Steps p.tables e below (T63.setTop (mkF m 114 #[.val (.int p0), .unset, .unset, .unset] [(.int (16 : Int32)), (.ref b1), (.ref b1)])) _
    refine st66 _ ?_
    show Steps p.tables e below (T66.setTop (mkF m 117 #[.val (.int p0), .unset, .unset, .unset] [(.ref w_VARBINARY), (.int (16 : Int32)), (.ref b1), (.ref b1)])) _
    refine st67 _ ?_
    exact kt
  obtain ⟨lc69, X69, N69⟩ : ∃ lc, Stand p l e room_1 s m #[(.int p0)] below meth c T67 lc 1 19 ∧ Fr n0 lc := ⟨_, X67, N67⟩
  clear T63 h63 e63 K64 lc65 X65 N65 st66 e66 X66 T66 cl67 Ar67 q67 S67 N67z H67 G67 hin67 X67 W67 st67 N67
  obtain ⟨T70, X70, e70, st70⟩ := getS2 X69 hx hZ hown (host := "") (Or.inl (hw _ (List.mem_of_getElem? (i := 38) rfl))) Via.refl e67 (S_JSON.ext OLD.2) (g := (mkF m 121 #[.val (.int p0), .unset, .unset, .unset] [(.int (17 : Int32)), (.ref b1), (.ref b1)])) rfl (hb hby at_121)
  obtain ⟨cl71, Ar71, q71, S71, N71z, H71, G71⟩ := V_b1
  have hin71 : ¬ ((17 : Int32) < 0 ∨ cl71.slots.size ≤ ((17 : Int32)).toNatClampNeg) := inb_of S71 ⟨by decide, by decide⟩
  obtain ⟨T71, h71, X71, e71, W71, st71⟩ := stR X70 hx hZ e70 Ar71 (j := (17 : Int32)) hin71 rfl (Sto.ofV Ar71 q71 O1 (Ins.self (E_w_JSON.ext OLD.2))) (g := (mkF m 124 #[.val (.int p0), .unset, .unset, .unset] [(.ref w_JSON), (.int (17 : Int32)), (.ref b1), (.ref b1)])) rfl rfl (hb hby at_124)
  replace OLD := OLD.wr W71 g_b1
  have V_b1 : Arv Z h71 b1 k1 (.object "com/example/keylint/keylint/SqlType") (19 : Int32) [(.ref w_TINYINT), (.ref w_SMALLINT), (.ref w_INT), (.ref w_INTEGER), (.ref w_BIGINT), (.ref w_FLOAT), (.ref w_DOUBLE), (.ref w_DECIMAL), (.ref w_BOOLEAN), (.ref w_DATE), (.ref w_TIME), (.ref w_TIMESTAMP), (.ref w_DATETIME), (.ref w_CHAR), (.ref w_VARCHAR), (.ref w_BINARY), (.ref w_VARBINARY), (.ref w_JSON), .null] .null := Arv.set Ar71 q71 S71 N71z H71 G71 rfl W71 17 rfl (Nat.le_of_ble_eq_true rfl)
  replace Zn := Nat.le_trans Zn (Keep.of_wr W71).1
  have N71 := Fr.snoc X71 N69 g_b1
  have K72 : ∀ t, Steps p.tables e below (T71.setTop (mkF m 125 #[.val (.int p0), .unset, .unset, .unset] [(.ref b1)])) t → Steps p.tables e below (s₁.setTop (entryFrame m #[(.int p0)] maxLocals)) t := by
    intro t kt
    refine K68 t ?_
    show Steps p.tables e below (T67.setTop (mkF m 118 #[.val (.int p0), .unset, .unset, .unset] [(.ref b1)])) _
    refine XS.dup X69.here hx rfl (hb hby at_118) rfl rfl ?_
    show Steps p.tables e below (T67.setTop (mkF m 119 #[.val (.int p0), .unset, .unset, .unset] [(.ref b1), (.ref b1)])) _
    refine XS.bipush X69.here hx rfl (hb hby at_119) ?_
    show Steps p.tables e below (T67.setTop (mkF m 121 #[.val (.int p0), .unset, .unset, .unset] [(.int (17 : Int32)), (.ref b1), (.ref b1)])) _
    refine st70 _ ?_
    show Steps p.tables e below (T70.setTop (mkF m 124 #[.val (.int p0), .unset, .unset, .unset] [(.ref w_JSON), (.int (17 : Int32)), (.ref b1), (.ref b1)])) _
    refine st71 _ ?_
    exact kt
  obtain ⟨lc73, X73, N73⟩ : ∃ lc, Stand p l e room_1 s m #[(.int p0)] below meth c T71 lc 1 19 ∧ Fr n0 lc := ⟨_, X71, N71⟩
  clear T67 h67 e67 K68 lc69 X69 N69 st70 e70 X70 T70 cl71 Ar71 q71 S71 N71z H71 G71 hin71 X71 W71 st71 N71
  obtain ⟨T74, X74, e74, st74⟩ := getS2 X73 hx hZ hown (host := "") (Or.inl (hw _ (List.mem_of_getElem? (i := 40) rfl))) Via.refl e71 (S_OTHER.ext OLD.2) (g := (mkF m 128 #[.val (.int p0), .unset, .unset, .unset] [(.int (18 : Int32)), (.ref b1), (.ref b1)])) rfl (hb hby at_128)
  obtain ⟨cl75, Ar75, q75, S75, N75z, H75, G75⟩ := V_b1
  have hin75 : ¬ ((18 : Int32) < 0 ∨ cl75.slots.size ≤ ((18 : Int32)).toNatClampNeg) := inb_of S75 ⟨by decide, by decide⟩
  obtain ⟨T75, h75, X75, e75, W75, st75⟩ := stR X74 hx hZ e74 Ar75 (j := (18 : Int32)) hin75 rfl (Sto.ofV Ar75 q75 O1 (Ins.self (E_w_OTHER.ext OLD.2))) (g := (mkF m 131 #[.val (.int p0), .unset, .unset, .unset] [(.ref w_OTHER), (.int (18 : Int32)), (.ref b1), (.ref b1)])) rfl rfl (hb hby at_131)
  replace OLD := OLD.wr W75 g_b1
  have V_b1 : Arv Z h75 b1 k1 (.object "com/example/keylint/keylint/SqlType") (19 : Int32) [(.ref w_TINYINT), (.ref w_SMALLINT), (.ref w_INT), (.ref w_INTEGER), (.ref w_BIGINT), (.ref w_FLOAT), (.ref w_DOUBLE), (.ref w_DECIMAL), (.ref w_BOOLEAN), (.ref w_DATE), (.ref w_TIME), (.ref w_TIMESTAMP), (.ref w_DATETIME), (.ref w_CHAR), (.ref w_VARCHAR), (.ref w_BINARY), (.ref w_VARBINARY), (.ref w_JSON), (.ref w_OTHER)] .null := Arv.set Ar75 q75 S75 N75z H75 G75 rfl W75 18 rfl (Nat.le_of_ble_eq_true rfl)
  replace Zn := Nat.le_trans Zn (Keep.of_wr W75).1
  have N75 := Fr.snoc X75 N73 g_b1
  have K76 : ∀ t, Steps p.tables e below (T75.setTop (mkF m 132 #[.val (.int p0), .unset, .unset, .unset] [(.ref b1)])) t → Steps p.tables e below (s₁.setTop (entryFrame m #[(.int p0)] maxLocals)) t := by
    intro t kt
    refine K72 t ?_
    show Steps p.tables e below (T71.setTop (mkF m 125 #[.val (.int p0), .unset, .unset, .unset] [(.ref b1)])) _
    refine XS.dup X73.here hx rfl (hb hby at_125) rfl rfl ?_
    show Steps p.tables e below (T71.setTop (mkF m 126 #[.val (.int p0), .unset, .unset, .unset] [(.ref b1), (.ref b1)])) _
    refine XS.bipush X73.here hx rfl (hb hby at_126) ?_
    show Steps p.tables e below (T71.setTop (mkF m 128 #[.val (.int p0), .unset, .unset, .unset] [(.int (18 : Int32)), (.ref b1), (.ref b1)])) _
    refine st74 _ ?_
    show Steps p.tables e below (T74.setTop (mkF m 131 #[.val (.int p0), .unset, .unset, .unset] [(.ref w_OTHER), (.int (18 : Int32)), (.ref b1), (.ref b1)])) _
    refine st75 _ ?_
    exact kt
  obtain ⟨lc77, X77, N77⟩ : ∃ lc, Stand p l e room_1 s m #[(.int p0)] below meth c T75 lc 1 19 ∧ Fr n0 lc := ⟨_, X75, N75⟩
  clear T71 h71 e71 K72 lc73 X73 N73 st74 e74 X74 T74 cl75 Ar75 q75 S75 N75z H75 G75 hin75 X75 W75 st75 N75
  obtain ⟨T78, h78, k78, X78, e78, E78, A78, st78⟩ := newP X77 hx hZ (hw _ (List.mem_of_getElem? (i := 42) rfl)) e75 (g := (mkF m 135 #[.val (.int p0), .val (.ref b1), .unset, .unset] [(.int (19 : Int32))])) rfl (hb hby at_135) rfl (by decide) (cap := 19) (by decide) (by decide) (by decide) (by decide)
  obtain ⟨b78, g78⟩ : ∃ z, z = h75.size := ⟨_, rfl⟩
  rw [← g78] at A78 st78
  have g_b78 : n0 ≤ b78 := Nat.le_trans Zn (Nat.le_of_eq g78.symm)
  have ne_b1_b78 : b1 ≠ b78 := Nat.ne_of_lt (Nat.lt_of_lt_of_le V_b1.lt (Nat.le_of_eq g78.symm))
  replace OLD := OLD.ext E78
  replace V_b1 := V_b1.ext E78
  replace Zn := Nat.le_trans Zn E78.1
  have V_b78 : Arv Z h78 b78 k78 .boolean (19 : Int32) [(.int (0 : Int32)), (.int (0 : Int32)), (.int (0 : Int32)), (.int (0 : Int32)), (.int (0 : Int32)), (.int (0 : Int32)), (.int (0 : Int32)), (.int (0 : Int32)), (.int (0 : Int32)), (.int (0 : Int32)), (.int (0 : Int32)), (.int (0 : Int32)), (.int (0 : Int32)), (.int (0 : Int32)), (.int (0 : Int32)), (.int (0 : Int32)), (.int (0 : Int32)), (.int (0 : Int32)), (.int (0 : Int32))] (.int (0 : Int32)) := (Arv.new A78 (by decide)).pad (pad_rep [] (.int (0 : Int32)) 19)
  obtain ⟨cl79, Ar79, q79, S79, N79z, H79, G79⟩ := V_b78
  have hin79 : ¬ ((0 : Int32) < 0 ∨ cl79.slots.size ≤ ((0 : Int32)).toNatClampNeg) := inb_of S79 ⟨by decide, by decide⟩
  obtain ⟨T79, h79, X79, e79, W79, st79⟩ := stZ X78 hx hZ e78 Ar79 (j := (0 : Int32)) hin79 (g := (mkF m 140 #[.val (.int p0), .val (.ref b1), .unset, .unset] [(.int (0 : Int32)), (.int (0 : Int32)), (.ref b78), (.ref b78)])) rfl rfl (hb hby at_140)
  replace OLD := OLD.wr W79 g_b78
  replace V_b1 := V_b1.other W79 ne_b1_b78
  have V_b78 : Arv Z h79 b78 k78 .boolean (19 : Int32) [(.int (nar .boolean (0 : Int32))), (.int (0 : Int32)), (.int (0 : Int32)), (.int (0 : Int32)), (.int (0 : Int32)), (.int (0 : Int32)), (.int (0 : Int32)), (.int (0 : Int32)), (.int (0 : Int32)), (.int (0 : Int32)), (.int (0 : Int32)), (.int (0 : Int32)), (.int (0 : Int32)), (.int (0 : Int32)), (.int (0 : Int32)), (.int (0 : Int32)), (.int (0 : Int32)), (.int (0 : Int32)), (.int (0 : Int32))] (.int (0 : Int32)) := Arv.set Ar79 q79 S79 N79z H79 G79 (fits_nar_bool _) W79 0 rfl (Nat.le_of_ble_eq_true rfl)
  replace Zn := Nat.le_trans Zn (Keep.of_wr W79).1
  have N79 := Fr.snoc X79 N77 g_b78
  have K80 : ∀ t, Steps p.tables e below (T79.setTop (mkF m 141 #[.val (.int p0), .val (.ref b1), .unset, .unset] [(.ref b78)])) t → Steps p.tables e below (s₁.setTop (entryFrame m #[(.int p0)] maxLocals)) t := by
    intro t kt
    refine K76 t ?_
    show Steps p.tables e below (T75.setTop (mkF m 132 #[.val (.int p0), .unset, .unset, .unset] [(.ref b1)])) _
    refine XS.astoreN X77.here hx rfl (hb hby at_132) rfl rfl (l' := #[.val (.int p0), .val (.ref b1), .unset, .unset]) rfl ?_
    show Steps p.tables e below (T75.setTop (mkF m 133 #[.val (.int p0), .val (.ref b1), .unset, .unset] [])) _
    refine XS.bipush X77.here hx rfl (hb hby at_133) ?_
    show Steps p.tables e below (T75.setTop (mkF m 135 #[.val (.int p0), .val (.ref b1), .unset, .unset] [(.int (19 : Int32))])) _
    refine st78 _ ?_
    show Steps p.tables e below (T78.setTop (mkF m 137 #[.val (.int p0), .val (.ref b1), .unset, .unset] [(.ref b78)])) _
    refine XS.dup X78.here hx rfl (hb hby at_137) rfl rfl ?_
    show Steps p.tables e below (T78.setTop (mkF m 138 #[.val (.int p0), .val (.ref b1), .unset, .unset] [(.ref b78), (.ref b78)])) _
    refine XS.iconst X78.here hx rfl (hb hby at_138) ?_
    show Steps p.tables e below (T78.setTop (mkF m 139 #[.val (.int p0), .val (.ref b1), .unset, .unset] [(.int (0 : Int32)), (.ref b78), (.ref b78)])) _
    refine XS.iconst X78.here hx rfl (hb hby at_139) ?_
    show Steps p.tables e below (T78.setTop (mkF m 140 #[.val (.int p0), .val (.ref b1), .unset, .unset] [(.int (0 : Int32)), (.int (0 : Int32)), (.ref b78), (.ref b78)])) _
    refine st79 _ ?_
    exact kt
  obtain ⟨lc81, X81, N81⟩ : ∃ lc, Stand p l e room_1 s m #[(.int p0)] below meth c T79 lc 2 38 ∧ Fr n0 lc := ⟨_, X79, N79⟩
  clear T75 h75 e75 K76 lc77 X77 N77 st78 e78 X78 T78 h78 E78 A78 g78 cl79 Ar79 q79 S79 N79z H79 G79 hin79 X79 W79 st79 N79
  obtain ⟨cl82, Ar82, q82, S82, N82z, H82, G82⟩ := V_b78
  have hin82 : ¬ ((1 : Int32) < 0 ∨ cl82.slots.size ≤ ((1 : Int32)).toNatClampNeg) := inb_of S82 ⟨by decide, by decide⟩
  obtain ⟨T82, h82, X82, e82, W82, st82⟩ := stZ X81 hx hZ e79 Ar82 (j := (1 : Int32)) hin82 (g := (mkF m 144 #[.val (.int p0), .val (.ref b1), .unset, .unset] [(.int (0 : Int32)), (.int (1 : Int32)), (.ref b78), (.ref b78)])) rfl rfl (hb hby at_144)
  replace OLD := OLD.wr W82 g_b78
  replace V_b1 := V_b1.other W82 ne_b1_b78
  have V_b78 : Arv Z h82 b78 k78 .boolean (19 : Int32) [(.int (nar .boolean (0 : Int32))), (.int (nar .boolean (0 : Int32))), (.int (0 : Int32)), (.int (0 : Int32)), (.int (0 : Int32)), (.int (0 : Int32)), (.int (0 : Int32)), (.int (0 : Int32)), (.int (0 : Int32)), (.int (0 : Int32)), (.int (0 : Int32)), (.int (0 : Int32)), (.int (0 : Int32)), (.int (0 : Int32)), (.int (0 : Int32)), (.int (0 : Int32)), (.int (0 : Int32)), (.int (0 : Int32)), (.int (0 : Int32))] (.int (0 : Int32)) := Arv.set Ar82 q82 S82 N82z H82 G82 (fits_nar_bool _) W82 1 rfl (Nat.le_of_ble_eq_true rfl)
  replace Zn := Nat.le_trans Zn (Keep.of_wr W82).1
  have N82 := Fr.snoc X82 N81 g_b78
  have K83 : ∀ t, Steps p.tables e below (T82.setTop (mkF m 145 #[.val (.int p0), .val (.ref b1), .unset, .unset] [(.ref b78)])) t → Steps p.tables e below (s₁.setTop (entryFrame m #[(.int p0)] maxLocals)) t := by
    intro t kt
    refine K80 t ?_
    show Steps p.tables e below (T79.setTop (mkF m 141 #[.val (.int p0), .val (.ref b1), .unset, .unset] [(.ref b78)])) _
    refine XS.dup X81.here hx rfl (hb hby at_141) rfl rfl ?_
    show Steps p.tables e below (T79.setTop (mkF m 142 #[.val (.int p0), .val (.ref b1), .unset, .unset] [(.ref b78), (.ref b78)])) _
    refine XS.iconst X81.here hx rfl (hb hby at_142) ?_
    show Steps p.tables e below (T79.setTop (mkF m 143 #[.val (.int p0), .val (.ref b1), .unset, .unset] [(.int (1 : Int32)), (.ref b78), (.ref b78)])) _
    refine XS.iconst X81.here hx rfl (hb hby at_143) ?_
    show Steps p.tables e below (T79.setTop (mkF m 144 #[.val (.int p0), .val (.ref b1), .unset, .unset] [(.int (0 : Int32)), (.int (1 : Int32)), (.ref b78), (.ref b78)])) _
    refine st82 _ ?_
    exact kt
  obtain ⟨lc84, X84, N84⟩ : ∃ lc, Stand p l e room_1 s m #[(.int p0)] below meth c T82 lc 2 38 ∧ Fr n0 lc := ⟨_, X82, N82⟩
  clear T79 h79 e79 K80 lc81 X81 N81 cl82 Ar82 q82 S82 N82z H82 G82 hin82 X82 W82 st82 N82
  obtain ⟨cl85, Ar85, q85, S85, N85z, H85, G85⟩ := V_b78
  have hin85 : ¬ ((2 : Int32) < 0 ∨ cl85.slots.size ≤ ((2 : Int32)).toNatClampNeg) := inb_of S85 ⟨by decide, by decide⟩
  obtain ⟨T85, h85, X85, e85, W85, st85⟩ := stZ X84 hx hZ e82 Ar85 (j := (2 : Int32)) hin85 (g := (mkF m 148 #[.val (.int p0), .val (.ref b1), .unset, .unset] [(.int (0 : Int32)), (.int (2 : Int32)), (.ref b78), (.ref b78)])) rfl rfl (hb hby at_148)
  replace OLD := OLD.wr W85 g_b78
  replace V_b1 := V_b1.other W85 ne_b1_b78
  have V_b78 : Arv Z h85 b78 k78 .boolean (19 : Int32) [(.int (nar .boolean (0 : Int32))), (.int (nar .boolean (0 : Int32))), (.int (nar .boolean (0 : Int32))), (.int (0 : Int32)), (.int (0 : Int32)), (.int (0 : Int32)), (.int (0 : Int32)), (.int (0 : Int32)), (.int (0 : Int32)), (.int (0 : Int32)), (.int (0 : Int32)), (.int (0 : Int32)), (.int (0 : Int32)), (.int (0 : Int32)), (.int (0 : Int32)), (.int (0 : Int32)), (.int (0 : Int32)), (.int (0 : Int32)), (.int (0 : Int32))] (.int (0 : Int32)) := Arv.set Ar85 q85 S85 N85z H85 G85 (fits_nar_bool _) W85 2 rfl (Nat.le_of_ble_eq_true rfl)
  replace Zn := Nat.le_trans Zn (Keep.of_wr W85).1
  have N85 := Fr.snoc X85 N84 g_b78
  have K86 : ∀ t, Steps p.tables e below (T85.setTop (mkF m 149 #[.val (.int p0), .val (.ref b1), .unset, .unset] [(.ref b78)])) t → Steps p.tables e below (s₁.setTop (entryFrame m #[(.int p0)] maxLocals)) t := by
    intro t kt
    refine K83 t ?_
    show Steps p.tables e below (T82.setTop (mkF m 145 #[.val (.int p0), .val (.ref b1), .unset, .unset] [(.ref b78)])) _
    refine XS.dup X84.here hx rfl (hb hby at_145) rfl rfl ?_
    show Steps p.tables e below (T82.setTop (mkF m 146 #[.val (.int p0), .val (.ref b1), .unset, .unset] [(.ref b78), (.ref b78)])) _
    refine XS.iconst X84.here hx rfl (hb hby at_146) ?_
    show Steps p.tables e below (T82.setTop (mkF m 147 #[.val (.int p0), .val (.ref b1), .unset, .unset] [(.int (2 : Int32)), (.ref b78), (.ref b78)])) _
    refine XS.iconst X84.here hx rfl (hb hby at_147) ?_
    show Steps p.tables e below (T82.setTop (mkF m 148 #[.val (.int p0), .val (.ref b1), .unset, .unset] [(.int (0 : Int32)), (.int (2 : Int32)), (.ref b78), (.ref b78)])) _
    refine st85 _ ?_
    exact kt
  obtain ⟨lc87, X87, N87⟩ : ∃ lc, Stand p l e room_1 s m #[(.int p0)] below meth c T85 lc 2 38 ∧ Fr n0 lc := ⟨_, X85, N85⟩
  clear T82 h82 e82 K83 lc84 X84 N84 cl85 Ar85 q85 S85 N85z H85 G85 hin85 X85 W85 st85 N85
  obtain ⟨cl88, Ar88, q88, S88, N88z, H88, G88⟩ := V_b78
  have hin88 : ¬ ((3 : Int32) < 0 ∨ cl88.slots.size ≤ ((3 : Int32)).toNatClampNeg) := inb_of S88 ⟨by decide, by decide⟩
  obtain ⟨T88, h88, X88, e88, W88, st88⟩ := stZ X87 hx hZ e85 Ar88 (j := (3 : Int32)) hin88 (g := (mkF m 152 #[.val (.int p0), .val (.ref b1), .unset, .unset] [(.int (0 : Int32)), (.int (3 : Int32)), (.ref b78), (.ref b78)])) rfl rfl (hb hby at_152)
  replace OLD := OLD.wr W88 g_b78
  replace V_b1 := V_b1.other W88 ne_b1_b78
  have V_b78 : Arv Z h88 b78 k78 .boolean (19 : Int32) [(.int (nar .boolean (0 : Int32))), (.int (nar .boolean (0 : Int32))), (.int (nar .boolean (0 : Int32))), (.int (nar .boolean (0 : Int32))), (.int (0 : Int32)), (.int (0 : Int32)), (.int (0 : Int32)), (.int (0 : Int32)), (.int (0 : Int32)), (.int (0 : Int32)), (.int (0 : Int32)), (.int (0 : Int32)), (.int (0 : Int32)), (.int (0 : Int32)), (.int (0 : Int32)), (.int (0 : Int32)), (.int (0 : Int32)), (.int (0 : Int32)), (.int (0 : Int32))] (.int (0 : Int32)) := Arv.set Ar88 q88 S88 N88z H88 G88 (fits_nar_bool _) W88 3 rfl (Nat.le_of_ble_eq_true rfl)
  replace Zn := Nat.le_trans Zn (Keep.of_wr W88).1
  have N88 := Fr.snoc X88 N87 g_b78
  have K89 : ∀ t, Steps p.tables e below (T88.setTop (mkF m 153 #[.val (.int p0), .val (.ref b1), .unset, .unset] [(.ref b78)])) t → Steps p.tables e below (s₁.setTop (entryFrame m #[(.int p0)] maxLocals)) t := by
    intro t kt
    refine K86 t ?_
    show Steps p.tables e below (T85.setTop (mkF m 149 #[.val (.int p0), .val (.ref b1), .unset, .unset] [(.ref b78)])) _
    refine XS.dup X87.here hx rfl (hb hby at_149) rfl rfl ?_
    show Steps p.tables e below (T85.setTop (mkF m 150 #[.val (.int p0), .val (.ref b1), .unset, .unset] [(.ref b78), (.ref b78)])) _
    refine XS.iconst X87.here hx rfl (hb hby at_150) ?_
    show Steps p.tables e below (T85.setTop (mkF m 151 #[.val (.int p0), .val (.ref b1), .unset, .unset] [(.int (3 : Int32)), (.ref b78), (.ref b78)])) _
    refine XS.iconst X87.here hx rfl (hb hby at_151) ?_
    show Steps p.tables e below (T85.setTop (mkF m 152 #[.val (.int p0), .val (.ref b1), .unset, .unset] [(.int (0 : Int32)), (.int (3 : Int32)), (.ref b78), (.ref b78)])) _
    refine st88 _ ?_
    exact kt
  obtain ⟨lc90, X90, N90⟩ : ∃ lc, Stand p l e room_1 s m #[(.int p0)] below meth c T88 lc 2 38 ∧ Fr n0 lc := ⟨_, X88, N88⟩
  clear T85 h85 e85 K86 lc87 X87 N87 cl88 Ar88 q88 S88 N88z H88 G88 hin88 X88 W88 st88 N88
  obtain ⟨cl91, Ar91, q91, S91, N91z, H91, G91⟩ := V_b78
  have hin91 : ¬ ((4 : Int32) < 0 ∨ cl91.slots.size ≤ ((4 : Int32)).toNatClampNeg) := inb_of S91 ⟨by decide, by decide⟩
  obtain ⟨T91, h91, X91, e91, W91, st91⟩ := stZ X90 hx hZ e88 Ar91 (j := (4 : Int32)) hin91 (g := (mkF m 156 #[.val (.int p0), .val (.ref b1), .unset, .unset] [(.int (0 : Int32)), (.int (4 : Int32)), (.ref b78), (.ref b78)])) rfl rfl (hb hby at_156)
  replace OLD := OLD.wr W91 g_b78
  replace V_b1 := V_b1.other W91 ne_b1_b78
  have V_b78 : Arv Z h91 b78 k78 .boolean (19 : Int32) [(.int (nar .boolean (0 : Int32))), (.int (nar .boolean (0 : Int32))), (.int (nar .boolean (0 : Int32))), (.int (nar .boolean (0 : Int32))), (.int (nar .boolean (0 : Int32))), (.int (0 : Int32)), (.int (0 : Int32)), (.int (0 : Int32)), (.int (0 : Int32)), (.int (0 : Int32)), (.int (0 : Int32)), (.int (0 : Int32)), (.int (0 : Int32)), (.int (0 : Int32)), (.int (0 : Int32)), (.int (0 : Int32)), (.int (0 : Int32)), (.int (0 : Int32)), (.int (0 : Int32))] (.int (0 : Int32)) := Arv.set Ar91 q91 S91 N91z H91 G91 (fits_nar_bool _) W91 4 rfl (Nat.le_of_ble_eq_true rfl)
  replace Zn := Nat.le_trans Zn (Keep.of_wr W91).1
  have N91 := Fr.snoc X91 N90 g_b78
  have K92 : ∀ t, Steps p.tables e below (T91.setTop (mkF m 157 #[.val (.int p0), .val (.ref b1), .unset, .unset] [(.ref b78)])) t → Steps p.tables e below (s₁.setTop (entryFrame m #[(.int p0)] maxLocals)) t := by
    intro t kt
    refine K89 t ?_
    show Steps p.tables e below (T88.setTop (mkF m 153 #[.val (.int p0), .val (.ref b1), .unset, .unset] [(.ref b78)])) _
    refine XS.dup X90.here hx rfl (hb hby at_153) rfl rfl ?_
    show Steps p.tables e below (T88.setTop (mkF m 154 #[.val (.int p0), .val (.ref b1), .unset, .unset] [(.ref b78), (.ref b78)])) _
    refine XS.iconst X90.here hx rfl (hb hby at_154) ?_
    show Steps p.tables e below (T88.setTop (mkF m 155 #[.val (.int p0), .val (.ref b1), .unset, .unset] [(.int (4 : Int32)), (.ref b78), (.ref b78)])) _
    refine XS.iconst X90.here hx rfl (hb hby at_155) ?_
    show Steps p.tables e below (T88.setTop (mkF m 156 #[.val (.int p0), .val (.ref b1), .unset, .unset] [(.int (0 : Int32)), (.int (4 : Int32)), (.ref b78), (.ref b78)])) _
    refine st91 _ ?_
    exact kt
  obtain ⟨lc93, X93, N93⟩ : ∃ lc, Stand p l e room_1 s m #[(.int p0)] below meth c T91 lc 2 38 ∧ Fr n0 lc := ⟨_, X91, N91⟩
  clear T88 h88 e88 K89 lc90 X90 N90 cl91 Ar91 q91 S91 N91z H91 G91 hin91 X91 W91 st91 N91
  obtain ⟨cl94, Ar94, q94, S94, N94z, H94, G94⟩ := V_b78
  have hin94 : ¬ ((5 : Int32) < 0 ∨ cl94.slots.size ≤ ((5 : Int32)).toNatClampNeg) := inb_of S94 ⟨by decide, by decide⟩
  obtain ⟨T94, h94, X94, e94, W94, st94⟩ := stZ X93 hx hZ e91 Ar94 (j := (5 : Int32)) hin94 (g := (mkF m 160 #[.val (.int p0), .val (.ref b1), .unset, .unset] [(.int (0 : Int32)), (.int (5 : Int32)), (.ref b78), (.ref b78)])) rfl rfl (hb hby at_160)
  replace OLD := OLD.wr W94 g_b78
  replace V_b1 := V_b1.other W94 ne_b1_b78
  have V_b78 : Arv Z h94 b78 k78 .boolean (19 : Int32) [(.int (nar .boolean (0 : Int32))), (.int (nar .boolean (0 : Int32))), (.int (nar .boolean (0 : Int32))), (.int (nar .boolean (0 : Int32))), (.int (nar .boolean (0 : Int32))), (.int (nar .boolean (0 : Int32))), (.int (0 : Int32)), (.int (0 : Int32)), (.int (0 : Int32)), (.int (0 : Int32)), (.int (0 : Int32)), (.int (0 : Int32)), (.int (0 : Int32)), (.int (0 : Int32)), (.int (0 : Int32)), (.int (0 : Int32)), (.int (0 : Int32)), (.int (0 : Int32)), (.int (0 : Int32))] (.int (0 : Int32)) := Arv.set Ar94 q94 S94 N94z H94 G94 (fits_nar_bool _) W94 5 rfl (Nat.le_of_ble_eq_true rfl)
  replace Zn := Nat.le_trans Zn (Keep.of_wr W94).1
  have N94 := Fr.snoc X94 N93 g_b78
  have K95 : ∀ t, Steps p.tables e below (T94.setTop (mkF m 161 #[.val (.int p0), .val (.ref b1), .unset, .unset] [(.ref b78)])) t → Steps p.tables e below (s₁.setTop (entryFrame m #[(.int p0)] maxLocals)) t := by
    intro t kt
    refine K92 t ?_
    show Steps p.tables e below (T91.setTop (mkF m 157 #[.val (.int p0), .val (.ref b1), .unset, .unset] [(.ref b78)])) _
    refine XS.dup X93.here hx rfl (hb hby at_157) rfl rfl ?_
    show Steps p.tables e below (T91.setTop (mkF m 158 #[.val (.int p0), .val (.ref b1), .unset, .unset] [(.ref b78), (.ref b78)])) _
    refine XS.iconst X93.here hx rfl (hb hby at_158) ?_
    show Steps p.tables e below (T91.setTop (mkF m 159 #[.val (.int p0), .val (.ref b1), .unset, .unset] [(.int (5 : Int32)), (.ref b78), (.ref b78)])) _
    refine XS.iconst X93.here hx rfl (hb hby at_159) ?_
    show Steps p.tables e below (T91.setTop (mkF m 160 #[.val (.int p0), .val (.ref b1), .unset, .unset] [(.int (0 : Int32)), (.int (5 : Int32)), (.ref b78), (.ref b78)])) _
    refine st94 _ ?_
    exact kt
  obtain ⟨lc96, X96, N96⟩ : ∃ lc, Stand p l e room_1 s m #[(.int p0)] below meth c T94 lc 2 38 ∧ Fr n0 lc := ⟨_, X94, N94⟩
  clear T91 h91 e91 K92 lc93 X93 N93 cl94 Ar94 q94 S94 N94z H94 G94 hin94 X94 W94 st94 N94
  obtain ⟨cl97, Ar97, q97, S97, N97z, H97, G97⟩ := V_b78
  have hin97 : ¬ ((6 : Int32) < 0 ∨ cl97.slots.size ≤ ((6 : Int32)).toNatClampNeg) := inb_of S97 ⟨by decide, by decide⟩
  obtain ⟨T97, h97, X97, e97, W97, st97⟩ := stZ X96 hx hZ e94 Ar97 (j := (6 : Int32)) hin97 (g := (mkF m 165 #[.val (.int p0), .val (.ref b1), .unset, .unset] [(.int (0 : Int32)), (.int (6 : Int32)), (.ref b78), (.ref b78)])) rfl rfl (hb hby at_165)
  replace OLD := OLD.wr W97 g_b78
  replace V_b1 := V_b1.other W97 ne_b1_b78
  have V_b78 : Arv Z h97 b78 k78 .boolean (19 : Int32) [(.int (nar .boolean (0 : Int32))), (.int (nar .boolean (0 : Int32))), (.int (nar .boolean (0 : Int32))), (.int (nar .boolean (0 : Int32))), (.int (nar .boolean (0 : Int32))), (.int (nar .boolean (0 : Int32))), (.int (nar .boolean (0 : Int32))), (.int (0 : Int32)), (.int (0 : Int32)), (.int (0 : Int32)), (.int (0 : Int32)), (.int (0 : Int32)), (.int (0 : Int32)), (.int (0 : Int32)), (.int (0 : Int32)), (.int (0 : Int32)), (.int (0 : Int32)), (.int (0 : Int32)), (.int (0 : Int32))] (.int (0 : Int32)) := Arv.set Ar97 q97 S97 N97z H97 G97 (fits_nar_bool _) W97 6 rfl (Nat.le_of_ble_eq_true rfl)
  replace Zn := Nat.le_trans Zn (Keep.of_wr W97).1
  have N97 := Fr.snoc X97 N96 g_b78
  have K98 : ∀ t, Steps p.tables e below (T97.setTop (mkF m 166 #[.val (.int p0), .val (.ref b1), .unset, .unset] [(.ref b78)])) t → Steps p.tables e below (s₁.setTop (entryFrame m #[(.int p0)] maxLocals)) t := by
    intro t kt
    refine K95 t ?_
    show Steps p.tables e below (T94.setTop (mkF m 161 #[.val (.int p0), .val (.ref b1), .unset, .unset] [(.ref b78)])) _
    refine XS.dup X96.here hx rfl (hb hby at_161) rfl rfl ?_
    show Steps p.tables e below (T94.setTop (mkF m 162 #[.val (.int p0), .val (.ref b1), .unset, .unset] [(.ref b78), (.ref b78)])) _
    refine XS.bipush X96.here hx rfl (hb hby at_162) ?_
    show Steps p.tables e below (T94.setTop (mkF m 164 #[.val (.int p0), .val (.ref b1), .unset, .unset] [(.int (6 : Int32)), (.ref b78), (.ref b78)])) _
    refine XS.iconst X96.here hx rfl (hb hby at_164) ?_
    show Steps p.tables e below (T94.setTop (mkF m 165 #[.val (.int p0), .val (.ref b1), .unset, .unset] [(.int (0 : Int32)), (.int (6 : Int32)), (.ref b78), (.ref b78)])) _
    refine st97 _ ?_
    exact kt
  obtain ⟨lc99, X99, N99⟩ : ∃ lc, Stand p l e room_1 s m #[(.int p0)] below meth c T97 lc 2 38 ∧ Fr n0 lc := ⟨_, X97, N97⟩
  clear T94 h94 e94 K95 lc96 X96 N96 cl97 Ar97 q97 S97 N97z H97 G97 hin97 X97 W97 st97 N97
  obtain ⟨cl100, Ar100, q100, S100, N100z, H100, G100⟩ := V_b78
  have hin100 : ¬ ((7 : Int32) < 0 ∨ cl100.slots.size ≤ ((7 : Int32)).toNatClampNeg) := inb_of S100 ⟨by decide, by decide⟩
  obtain ⟨T100, h100, X100, e100, W100, st100⟩ := stZ X99 hx hZ e97 Ar100 (j := (7 : Int32)) hin100 (g := (mkF m 170 #[.val (.int p0), .val (.ref b1), .unset, .unset] [(.int (0 : Int32)), (.int (7 : Int32)), (.ref b78), (.ref b78)])) rfl rfl (hb hby at_170)
  replace OLD := OLD.wr W100 g_b78
  replace V_b1 := V_b1.other W100 ne_b1_b78
  have V_b78 : Arv Z h100 b78 k78 .boolean (19 : Int32) [(.int (nar .boolean (0 : Int32))), (.int (nar .boolean (0 : Int32))), (.int (nar .boolean (0 : Int32))), (.int (nar .boolean (0 : Int32))), (.int (nar .boolean (0 : Int32))), (.int (nar .boolean (0 : Int32))), (.int (nar .boolean (0 : Int32))), (.int (nar .boolean (0 : Int32))), (.int (0 : Int32)), (.int (0 : Int32)), (.int (0 : Int32)), (.int (0 : Int32)), (.int (0 : Int32)), (.int (0 : Int32)), (.int (0 : Int32)), (.int (0 : Int32)), (.int (0 : Int32)), (.int (0 : Int32)), (.int (0 : Int32))] (.int (0 : Int32)) := Arv.set Ar100 q100 S100 N100z H100 G100 (fits_nar_bool _) W100 7 rfl (Nat.le_of_ble_eq_true rfl)
  replace Zn := Nat.le_trans Zn (Keep.of_wr W100).1
  have N100 := Fr.snoc X100 N99 g_b78
  have K101 : ∀ t, Steps p.tables e below (T100.setTop (mkF m 171 #[.val (.int p0), .val (.ref b1), .unset, .unset] [(.ref b78)])) t → Steps p.tables e below (s₁.setTop (entryFrame m #[(.int p0)] maxLocals)) t := by
    intro t kt
    refine K98 t ?_
    show Steps p.tables e below (T97.setTop (mkF m 166 #[.val (.int p0), .val (.ref b1), .unset, .unset] [(.ref b78)])) _
    refine XS.dup X99.here hx rfl (hb hby at_166) rfl rfl ?_
    show Steps p.tables e below (T97.setTop (mkF m 167 #[.val (.int p0), .val (.ref b1), .unset, .unset] [(.ref b78), (.ref b78)])) _
    refine XS.bipush X99.here hx rfl (hb hby at_167) ?_
    show Steps p.tables e below (T97.setTop (mkF m 169 #[.val (.int p0), .val (.ref b1), .unset, .unset] [(.int (7 : Int32)), (.ref b78), (.ref b78)])) _
    refine XS.iconst X99.here hx rfl (hb hby at_169) ?_
    show Steps p.tables e below (T97.setTop (mkF m 170 #[.val (.int p0), .val (.ref b1), .unset, .unset] [(.int (0 : Int32)), (.int (7 : Int32)), (.ref b78), (.ref b78)])) _
    refine st100 _ ?_
    exact kt
  obtain ⟨lc102, X102, N102⟩ : ∃ lc, Stand p l e room_1 s m #[(.int p0)] below meth c T100 lc 2 38 ∧ Fr n0 lc := ⟨_, X100, N100⟩
  clear T97 h97 e97 K98 lc99 X99 N99 cl100 Ar100 q100 S100 N100z H100 G100 hin100 X100 W100 st100 N100
  obtain ⟨cl103, Ar103, q103, S103, N103z, H103, G103⟩ := V_b78
  have hin103 : ¬ ((8 : Int32) < 0 ∨ cl103.slots.size ≤ ((8 : Int32)).toNatClampNeg) := inb_of S103 ⟨by decide, by decide⟩
  obtain ⟨T103, h103, X103, e103, W103, st103⟩ := stZ X102 hx hZ e100 Ar103 (j := (8 : Int32)) hin103 (g := (mkF m 175 #[.val (.int p0), .val (.ref b1), .unset, .unset] [(.int (0 : Int32)), (.int (8 : Int32)), (.ref b78), (.ref b78)])) rfl rfl (hb hby at_175)
  replace OLD := OLD.wr W103 g_b78
  replace V_b1 := V_b1.other W103 ne_b1_b78
  have V_b78 : Arv Z h103 b78 k78 .boolean (19 : Int32) [(.int (nar .boolean (0 : Int32))), (.int (nar .boolean (0 : Int32))), (.int (nar .boolean (0 : Int32))), (.int (nar .boolean (0 : Int32))), (.int (nar .boolean (0 : Int32))), (.int (nar .boolean (0 : Int32))), (.int (nar .boolean (0 : Int32))), (.int (nar .boolean (0 : Int32))), (.int (nar .boolean (0 : Int32))), (.int (0 : Int32)), (.int (0 : Int32)), (.int (0 : Int32)), (.int (0 : Int32)), (.int (0 : Int32)), (.int (0 : Int32)), (.int (0 : Int32)), (.int (0 : Int32)), (.int (0 : Int32)), (.int (0 : Int32))] (.int (0 : Int32)) := Arv.set Ar103 q103 S103 N103z H103 G103 (fits_nar_bool _) W103 8 rfl (Nat.le_of_ble_eq_true rfl)
  replace Zn := Nat.le_trans Zn (Keep.of_wr W103).1
  have N103 := Fr.snoc X103 N102 g_b78
  have K104 : ∀ t, Steps p.tables e below (T103.setTop (mkF m 176 #[.val (.int p0), .val (.ref b1), .unset, .unset] [(.ref b78)])) t → Steps p.tables e below (s₁.setTop (entryFrame m #[(.int p0)] maxLocals)) t := by
    intro t kt
    refine K101 t ?_
    show Steps p.tables e below (T100.setTop (mkF m 171 #[.val (.int p0), .val (.ref b1), .unset, .unset] [(.ref b78)])) _
    refine XS.dup X102.here hx rfl (hb hby at_171) rfl rfl ?_
    show Steps p.tables e below (T100.setTop (mkF m 172 #[.val (.int p0), .val (.ref b1), .unset, .unset] [(.ref b78), (.ref b78)])) _
    refine XS.bipush X102.here hx rfl (hb hby at_172) ?_
    show Steps p.tables e below (T100.setTop (mkF m 174 #[.val (.int p0), .val (.ref b1), .unset, .unset] [(.int (8 : Int32)), (.ref b78), (.ref b78)])) _
    refine XS.iconst X102.here hx rfl (hb hby at_174) ?_
    show Steps p.tables e below (T100.setTop (mkF m 175 #[.val (.int p0), .val (.ref b1), .unset, .unset] [(.int (0 : Int32)), (.int (8 : Int32)), (.ref b78), (.ref b78)])) _
    refine st103 _ ?_
    exact kt
  obtain ⟨lc105, X105, N105⟩ : ∃ lc, Stand p l e room_1 s m #[(.int p0)] below meth c T103 lc 2 38 ∧ Fr n0 lc := ⟨_, X103, N103⟩
  clear T100 h100 e100 K101 lc102 X102 N102 cl103 Ar103 q103 S103 N103z H103 G103 hin103 X103 W103 st103 N103
  obtain ⟨cl106, Ar106, q106, S106, N106z, H106, G106⟩ := V_b78
  have hin106 : ¬ ((9 : Int32) < 0 ∨ cl106.slots.size ≤ ((9 : Int32)).toNatClampNeg) := inb_of S106 ⟨by decide, by decide⟩
  obtain ⟨T106, h106, X106, e106, W106, st106⟩ := stZ X105 hx hZ e103 Ar106 (j := (9 : Int32)) hin106 (g := (mkF m 180 #[.val (.int p0), .val (.ref b1), .unset, .unset] [(.int (0 : Int32)), (.int (9 : Int32)), (.ref b78), (.ref b78)])) rfl rfl (hb hby at_180)
  replace OLD := OLD.wr W106 g_b78
  replace V_b1 := V_b1.other W106 ne_b1_b78
  have V_b78 : Arv Z h106 b78 k78 .boolean (19 : Int32) [(.int (nar .boolean (0 : Int32))), (.int (nar .boolean (0 : Int32))), (.int (nar .boolean (0 : Int32))), (.int (nar .boolean (0 : Int32))), (.int (nar .boolean (0 : Int32))), (.int (nar .boolean (0 : Int32))), (.int (nar .boolean (0 : Int32))), (.int (nar .boolean (0 : Int32))), (.int (nar .boolean (0 : Int32))), (.int (nar .boolean (0 : Int32))), (.int (0 : Int32)), (.int (0 : Int32)), (.int (0 : Int32)), (.int (0 : Int32)), (.int (0 : Int32)), (.int (0 : Int32)), (.int (0 : Int32)), (.int (0 : Int32)), (.int (0 : Int32))] (.int (0 : Int32)) := Arv.set Ar106 q106 S106 N106z H106 G106 (fits_nar_bool _) W106 9 rfl (Nat.le_of_ble_eq_true rfl)
  replace Zn := Nat.le_trans Zn (Keep.of_wr W106).1
  have N106 := Fr.snoc X106 N105 g_b78
  have K107 : ∀ t, Steps p.tables e below (T106.setTop (mkF m 181 #[.val (.int p0), .val (.ref b1), .unset, .unset] [(.ref b78)])) t → Steps p.tables e below (s₁.setTop (entryFrame m #[(.int p0)] maxLocals)) t := by
    intro t kt
    refine K104 t ?_
    show Steps p.tables e below (T103.setTop (mkF m 176 #[.val (.int p0), .val (.ref b1), .unset, .unset] [(.ref b78)])) _
    refine XS.dup X105.here hx rfl (hb hby at_176) rfl rfl ?_
    show Steps p.tables e below (T103.setTop (mkF m 177 #[.val (.int p0), .val (.ref b1), .unset, .unset] [(.ref b78), (.ref b78)])) _
    refine XS.bipush X105.here hx rfl (hb hby at_177) ?_
    show Steps p.tables e below (T103.setTop (mkF m 179 #[.val (.int p0), .val (.ref b1), .unset, .unset] [(.int (9 : Int32)), (.ref b78), (.ref b78)])) _
    refine XS.iconst X105.here hx rfl (hb hby at_179) ?_
    show Steps p.tables e below (T103.setTop (mkF m 180 #[.val (.int p0), .val (.ref b1), .unset, .unset] [(.int (0 : Int32)), (.int (9 : Int32)), (.ref b78), (.ref b78)])) _
    refine st106 _ ?_
    exact kt
  obtain ⟨lc108, X108, N108⟩ : ∃ lc, Stand p l e room_1 s m #[(.int p0)] below meth c T106 lc 2 38 ∧ Fr n0 lc := ⟨_, X106, N106⟩
  clear T103 h103 e103 K104 lc105 X105 N105 cl106 Ar106 q106 S106 N106z H106 G106 hin106 X106 W106 st106 N106
  obtain ⟨cl109, Ar109, q109, S109, N109z, H109, G109⟩ := V_b78
  have hin109 : ¬ ((10 : Int32) < 0 ∨ cl109.slots.size ≤ ((10 : Int32)).toNatClampNeg) := inb_of S109 ⟨by decide, by decide⟩
  obtain ⟨T109, h109, X109, e109, W109, st109⟩ := stZ X108 hx hZ e106 Ar109 (j := (10 : Int32)) hin109 (g := (mkF m 185 #[.val (.int p0), .val (.ref b1), .unset, .unset] [(.int (0 : Int32)), (.int (10 : Int32)), (.ref b78), (.ref b78)])) rfl rfl (hb hby at_185)
  replace OLD := OLD.wr W109 g_b78
  replace V_b1 := V_b1.other W109 ne_b1_b78
  have V_b78 : Arv Z h109 b78 k78 .boolean (19 : Int32) [(.int (nar .boolean (0 : Int32))), (.int (nar .boolean (0 : Int32))), (.int (nar .boolean (0 : Int32))), (.int (nar .boolean (0 : Int32))), (.int (nar .boolean (0 : Int32))), (.int (nar .boolean (0 : Int32))), (.int (nar .boolean (0 : Int32))), (.int (nar .boolean (0 : Int32))), (.int (nar .boolean (0 : Int32))), (.int (nar .boolean (0 : Int32))), (.int (nar .boolean (0 : Int32))), (.int (0 : Int32)), (.int (0 : Int32)), (.int (0 : Int32)), (.int (0 : Int32)), (.int (0 : Int32)), (.int (0 : Int32)), (.int (0 : Int32)), (.int (0 : Int32))] (.int (0 : Int32)) := Arv.set Ar109 q109 S109 N109z H109 G109 (fits_nar_bool _) W109 10 rfl (Nat.le_of_ble_eq_true rfl)
  replace Zn := Nat.le_trans Zn (Keep.of_wr W109).1
  have N109 := Fr.snoc X109 N108 g_b78
  have K110 : ∀ t, Steps p.tables e below (T109.setTop (mkF m 186 #[.val (.int p0), .val (.ref b1), .unset, .unset] [(.ref b78)])) t → Steps p.tables e below (s₁.setTop (entryFrame m #[(.int p0)] maxLocals)) t := by
    intro t kt
    refine K107 t ?_
    show Steps p.tables e below (T106.setTop (mkF m 181 #[.val (.int p0), .val (.ref b1), .unset, .unset] [(.ref b78)])) _
    refine XS.dup X108.here hx rfl (hb hby at_181) rfl rfl ?_
    show Steps p.tables e below (T106.setTop (mkF m 182 #[.val (.int p0), .val (.ref b1), .unset, .unset] [(.ref b78), (.ref b78)])) _
    refine XS.bipush X108.here hx rfl (hb hby at_182) ?_
    show Steps p.tables e below (T106.setTop (mkF m 184 #[.val (.int p0), .val (.ref b1), .unset, .unset] [(.int (10 : Int32)), (.ref b78), (.ref b78)])) _
    refine XS.iconst X108.here hx rfl (hb hby at_184) ?_
    show Steps p.tables e below (T106.setTop (mkF m 185 #[.val (.int p0), .val (.ref b1), .unset, .unset] [(.int (0 : Int32)), (.int (10 : Int32)), (.ref b78), (.ref b78)])) _
    refine st109 _ ?_
    exact kt
  obtain ⟨lc111, X111, N111⟩ : ∃ lc, Stand p l e room_1 s m #[(.int p0)] below meth c T109 lc 2 38 ∧ Fr n0 lc := ⟨_, X109, N109⟩
  clear T106 h106 e106 K107 lc108 X108 N108 cl109 Ar109 q109 S109 N109z H109 G109 hin109 X109 W109 st109 N109
  obtain ⟨cl112, Ar112, q112, S112, N112z, H112, G112⟩ := V_b78
  have hin112 : ¬ ((11 : Int32) < 0 ∨ cl112.slots.size ≤ ((11 : Int32)).toNatClampNeg) := inb_of S112 ⟨by decide, by decide⟩
  obtain ⟨T112, h112, X112, e112, W112, st112⟩ := stZ X111 hx hZ e109 Ar112 (j := (11 : Int32)) hin112 (g := (mkF m 190 #[.val (.int p0), .val (.ref b1), .unset, .unset] [(.int (0 : Int32)), (.int (11 : Int32)), (.ref b78), (.ref b78)])) rfl rfl (hb hby at_190)
  replace OLD := OLD.wr W112 g_b78
  replace V_b1 := V_b1.other W112 ne_b1_b78
  have V_b78 : Arv Z h112 b78 k78 .boolean (19 : Int32) [(.int (nar .boolean (0 : Int32))), (.int (nar .boolean (0 : Int32))), (.int (nar .boolean (0 : Int32))), (.int (nar .boolean (0 : Int32))), (.int (nar .boolean (0 : Int32))), (.int (nar .boolean (0 : Int32))), (.int (nar .boolean (0 : Int32))), (.int (nar .boolean (0 : Int32))), (.int (nar .boolean (0 : Int32))), (.int (nar .boolean (0 : Int32))), (.int (nar .boolean (0 : Int32))), (.int (nar .boolean (0 : Int32))), (.int (0 : Int32)), (.int (0 : Int32)), (.int (0 : Int32)), (.int (0 : Int32)), (.int (0 : Int32)), (.int (0 : Int32)), (.int (0 : Int32))] (.int (0 : Int32)) := Arv.set Ar112 q112 S112 N112z H112 G112 (fits_nar_bool _) W112 11 rfl (Nat.le_of_ble_eq_true rfl)
  replace Zn := Nat.le_trans Zn (Keep.of_wr W112).1
  have N112 := Fr.snoc X112 N111 g_b78
  have K113 : ∀ t, Steps p.tables e below (T112.setTop (mkF m 191 #[.val (.int p0), .val (.ref b1), .unset, .unset] [(.ref b78)])) t → Steps p.tables e below (s₁.setTop (entryFrame m #[(.int p0)] maxLocals)) t := by
    intro t kt
    refine K110 t ?_
    show Steps p.tables e below (T109.setTop (mkF m 186 #[.val (.int p0), .val (.ref b1), .unset, .unset] [(.ref b78)])) _
    refine XS.dup X111.here hx rfl (hb hby at_186) rfl rfl ?_
    show Steps p.tables e below (T109.setTop (mkF m 187 #[.val (.int p0), .val (.ref b1), .unset, .unset] [(.ref b78), (.ref b78)])) _
    refine XS.bipush X111.here hx rfl (hb hby at_187) ?_
    show Steps p.tables e below (T109.setTop (mkF m 189 #[.val (.int p0), .val (.ref b1), .unset, .unset] [(.int (11 : Int32)), (.ref b78), (.ref b78)])) _
    refine XS.iconst X111.here hx rfl (hb hby at_189) ?_
    show Steps p.tables e below (T109.setTop (mkF m 190 #[.val (.int p0), .val (.ref b1), .unset, .unset] [(.int (0 : Int32)), (.int (11 : Int32)), (.ref b78), (.ref b78)])) _
    refine st112 _ ?_
    exact kt
  obtain ⟨lc114, X114, N114⟩ : ∃ lc, Stand p l e room_1 s m #[(.int p0)] below meth c T112 lc 2 38 ∧ Fr n0 lc := ⟨_, X112, N112⟩
  clear T109 h109 e109 K110 lc111 X111 N111 cl112 Ar112 q112 S112 N112z H112 G112 hin112 X112 W112 st112 N112
  obtain ⟨cl115, Ar115, q115, S115, N115z, H115, G115⟩ := V_b78
  have hin115 : ¬ ((12 : Int32) < 0 ∨ cl115.slots.size ≤ ((12 : Int32)).toNatClampNeg) := inb_of S115 ⟨by decide, by decide⟩
  obtain ⟨T115, h115, X115, e115, W115, st115⟩ := stZ X114 hx hZ e112 Ar115 (j := (12 : Int32)) hin115 (g := (mkF m 195 #[.val (.int p0), .val (.ref b1), .unset, .unset] [(.int (0 : Int32)), (.int (12 : Int32)), (.ref b78), (.ref b78)])) rfl rfl (hb hby at_195)
  replace OLD := OLD.wr W115 g_b78
  replace V_b1 := V_b1.other W115 ne_b1_b78
  have V_b78 : Arv Z h115 b78 k78 .boolean (19 : Int32) [(.int (nar .boolean (0 : Int32))), (.int (nar .boolean (0 : Int32))), (.int (nar .boolean (0 : Int32))), (.int (nar .boolean (0 : Int32))), (.int (nar .boolean (0 : Int32))), (.int (nar .boolean (0 : Int32))), (.int (nar .boolean (0 : Int32))), (.int (nar .boolean (0 : Int32))), (.int (nar .boolean (0 : Int32))), (.int (nar .boolean (0 : Int32))), (.int (nar .boolean (0 : Int32))), (.int (nar .boolean (0 : Int32))), (.int (nar .boolean (0 : Int32))), (.int (0 : Int32)), (.int (0 : Int32)), (.int (0 : Int32)), (.int (0 : Int32)), (.int (0 : Int32)), (.int (0 : Int32))] (.int (0 : Int32)) := Arv.set Ar115 q115 S115 N115z H115 G115 (fits_nar_bool _) W115 12 rfl (Nat.le_of_ble_eq_true rfl)
  replace Zn := Nat.le_trans Zn (Keep.of_wr W115).1
  have N115 := Fr.snoc X115 N114 g_b78
  have K116 : ∀ t, Steps p.tables e below (T115.setTop (mkF m 196 #[.val (.int p0), .val (.ref b1), .unset, .unset] [(.ref b78)])) t → Steps p.tables e below (s₁.setTop (entryFrame m #[(.int p0)] maxLocals)) t := by
    intro t kt
    refine K113 t ?_
    show Steps p.tables e below (T112.setTop (mkF m 191 #[.val (.int p0), .val (.ref b1), .unset, .unset] [(.ref b78)])) _
    refine XS.dup X114.here hx rfl (hb hby at_191) rfl rfl ?_
    show Steps p.tables e below (T112.setTop (mkF m 192 #[.val (.int p0), .val (.ref b1), .unset, .unset] [(.ref b78), (.ref b78)])) _
    refine XS.bipush X114.here hx rfl (hb hby at_192) ?_
    show Steps p.tables e below (T112.setTop (mkF m 194 #[.val (.int p0), .val (.ref b1), .unset, .unset] [(.int (12 : Int32)), (.ref b78), (.ref b78)])) _
    refine XS.iconst X114.here hx rfl (hb hby at_194) ?_
    show Steps p.tables e below (T112.setTop (mkF m 195 #[.val (.int p0), .val (.ref b1), .unset, .unset] [(.int (0 : Int32)), (.int (12 : Int32)), (.ref b78), (.ref b78)])) _
    refine st115 _ ?_
    exact kt
  obtain ⟨lc117, X117, N117⟩ : ∃ lc, Stand p l e room_1 s m #[(.int p0)] below meth c T115 lc 2 38 ∧ Fr n0 lc := ⟨_, X115, N115⟩
  clear T112 h112 e112 K113 lc114 X114 N114 cl115 Ar115 q115 S115 N115z H115 G115 hin115 X115 W115 st115 N115
  obtain ⟨cl118, Ar118, q118, S118, N118z, H118, G118⟩ := V_b78
  have hin118 : ¬ ((13 : Int32) < 0 ∨ cl118.slots.size ≤ ((13 : Int32)).toNatClampNeg) := inb_of S118 ⟨by decide, by decide⟩
  obtain ⟨T118, h118, X118, e118, W118, st118⟩ := stZ X117 hx hZ e115 Ar118 (j := (13 : Int32)) hin118 (g := (mkF m 200 #[.val (.int p0), .val (.ref b1), .unset, .unset] [(.int (1 : Int32)), (.int (13 : Int32)), (.ref b78), (.ref b78)])) rfl rfl (hb hby at_200)
  replace OLD := OLD.wr W118 g_b78
  replace V_b1 := V_b1.other W118 ne_b1_b78
  have V_b78 : Arv Z h118 b78 k78 .boolean (19 : Int32) [(.int (nar .boolean (0 : Int32))), (.int (nar .boolean (0 : Int32))), (.int (nar .boolean (0 : Int32))), (.int (nar .boolean (0 : Int32))), (.int (nar .boolean (0 : Int32))), (.int (nar .boolean (0 : Int32))), (.int (nar .boolean (0 : Int32))), (.int (nar .boolean (0 : Int32))), (.int (nar .boolean (0 : Int32))), (.int (nar .boolean (0 : Int32))), (.int (nar .boolean (0 : Int32))), (.int (nar .boolean (0 : Int32))), (.int (nar .boolean (0 : Int32))), (.int (nar .boolean (1 : Int32))), (.int (0 : Int32)), (.int (0 : Int32)), (.int (0 : Int32)), (.int (0 : Int32)), (.int (0 : Int32))] (.int (0 : Int32)) := Arv.set Ar118 q118 S118 N118z H118 G118 (fits_nar_bool _) W118 13 rfl (Nat.le_of_ble_eq_true rfl)
  replace Zn := Nat.le_trans Zn (Keep.of_wr W118).1
  have N118 := Fr.snoc X118 N117 g_b78
  have K119 : ∀ t, Steps p.tables e below (T118.setTop (mkF m 201 #[.val (.int p0), .val (.ref b1), .unset, .unset] [(.ref b78)])) t → Steps p.tables e below (s₁.setTop (entryFrame m #[(.int p0)] maxLocals)) t := by
    intro t kt
    refine K116 t ?_
    show Steps p.tables e below (T115.setTop (mkF m 196 #[.val (.int p0), .val (.ref b1), .unset, .unset] [(.ref b78)])) _
    refine XS.dup X117.here hx rfl (hb hby at_196) rfl rfl ?_
    show Steps p.tables e below (T115.setTop (mkF m 197 #[.val (.int p0), .val (.ref b1), .unset, .unset] [(.ref b78), (.ref b78)])) _
    refine XS.bipush X117.here hx rfl (hb hby at_197) ?_
    show Steps p.tables e below (T115.setTop (mkF m 199 #[.val (.int p0), .val (.ref b1), .unset, .unset] [(.int (13 : Int32)), (.ref b78), (.ref b78)])) _
    refine XS.iconst X117.here hx rfl (hb hby at_199) ?_
    show Steps p.tables e below (T115.setTop (mkF m 200 #[.val (.int p0), .val (.ref b1), .unset, .unset] [(.int (1 : Int32)), (.int (13 : Int32)), (.ref b78), (.ref b78)])) _
    refine st118 _ ?_
    exact kt
  obtain ⟨lc120, X120, N120⟩ : ∃ lc, Stand p l e room_1 s m #[(.int p0)] below meth c T118 lc 2 38 ∧ Fr n0 lc := ⟨_, X118, N118⟩
  clear T115 h115 e115 K116 lc117 X117 N117 cl118 Ar118 q118 S118 N118z H118 G118 hin118 X118 W118 st118 N118
  obtain ⟨cl121, Ar121, q121, S121, N121z, H121, G121⟩ := V_b78
  have hin121 : ¬ ((14 : Int32) < 0 ∨ cl121.slots.size ≤ ((14 : Int32)).toNatClampNeg) := inb_of S121 ⟨by decide, by decide⟩
  obtain ⟨T121, h121, X121, e121, W121, st121⟩ := stZ X120 hx hZ e118 Ar121 (j := (14 : Int32)) hin121 (g := (mkF m 205 #[.val (.int p0), .val (.ref b1), .unset, .unset] [(.int (1 : Int32)), (.int (14 : Int32)), (.ref b78), (.ref b78)])) rfl rfl (hb hby at_205)
  replace OLD := OLD.wr W121 g_b78
  replace V_b1 := V_b1.other W121 ne_b1_b78
  have V_b78 : Arv Z h121 b78 k78 .boolean (19 : Int32) [(.int (nar .boolean (0 : Int32))), (.int (nar .boolean (0 : Int32))), (.int (nar .boolean (0 : Int32))), (.int (nar .boolean (0 : Int32))), (.int (nar .boolean (0 : Int32))), (.int (nar .boolean (0 : Int32))), (.int (nar .boolean (0 : Int32))), (.int (nar .boolean (0 : Int32))), (.int (nar .boolean (0 : Int32))), (.int (nar .boolean (0 : Int32))), (.int (nar .boolean (0 : Int32))), (.int (nar .boolean (0 : Int32))), (.int (nar .boolean (0 : Int32))), (.int (nar .boolean (1 : Int32))), (.int (nar .boolean (1 : Int32))), (.int (0 : Int32)), (.int (0 : Int32)), (.int (0 : Int32)), (.int (0 : Int32))] (.int (0 : Int32)) := Arv.set Ar121 q121 S121 N121z H121 G121 (fits_nar_bool _) W121 14 rfl (Nat.le_of_ble_eq_true rfl)
  replace Zn := Nat.le_trans Zn (Keep.of_wr W121).1
  have N121 := Fr.snoc X121 N120 g_b78
  have K122 : ∀ t, Steps p.tables e below (T121.setTop (mkF m 206 #[.val (.int p0), .val (.ref b1), .unset, .unset] [(.ref b78)])) t → Steps p.tables e below (s₁.setTop (entryFrame m #[(.int p0)] maxLocals)) t := by
    intro t kt
    refine K119 t ?_
    show Steps p.tables e below (T118.setTop (mkF m 201 #[.val (.int p0), .val (.ref b1), .unset, .unset] [(.ref b78)])) _
    refine XS.dup X120.here hx rfl (hb hby at_201) rfl rfl ?_
    show Steps p.tables e below (T118.setTop (mkF m 202 #[.val (.int p0), .val (.ref b1), .unset, .unset] [(.ref b78), (.ref b78)])) _
    refine XS.bipush X120.here hx rfl (hb hby at_202) ?_
    show Steps p.tables e below (T118.setTop (mkF m 204 #[.val (.int p0), .val (.ref b1), .unset, .unset] [(.int (14 : Int32)), (.ref b78), (.ref b78)])) _
    refine XS.iconst X120.here hx rfl (hb hby at_204) ?_
    show Steps p.tables e below (T118.setTop (mkF m 205 #[.val (.int p0), .val (.ref b1), .unset, .unset] [(.int (1 : Int32)), (.int (14 : Int32)), (.ref b78), (.ref b78)])) _
    refine st121 _ ?_
    exact kt
  obtain ⟨lc123, X123, N123⟩ : ∃ lc, Stand p l e room_1 s m #[(.int p0)] below meth c T121 lc 2 38 ∧ Fr n0 lc := ⟨_, X121, N121⟩
  clear T118 h118 e118 K119 lc120 X120 N120 cl121 Ar121 q121 S121 N121z H121 G121 hin121 X121 W121 st121 N121
  obtain ⟨cl124, Ar124, q124, S124, N124z, H124, G124⟩ := V_b78
  have hin124 : ¬ ((15 : Int32) < 0 ∨ cl124.slots.size ≤ ((15 : Int32)).toNatClampNeg) := inb_of S124 ⟨by decide, by decide⟩
  obtain ⟨T124, h124, X124, e124, W124, st124⟩ := stZ X123 hx hZ e121 Ar124 (j := (15 : Int32)) hin124 (g := (mkF m 210 #[.val (.int p0), .val (.ref b1), .unset, .unset] [(.int (0 : Int32)), (.int (15 : Int32)), (.ref b78), (.ref b78)])) rfl rfl (hb hby at_210)
  replace OLD := OLD.wr W124 g_b78
  replace V_b1 := V_b1.other W124 ne_b1_b78
  have V_b78 : Arv Z h124 b78 k78 .boolean (19 : Int32) [(.int (nar .boolean (0 : Int32))), (.int (nar .boolean (0 : Int32))), (.int (nar .boolean (0 : Int32))), (.int (nar .boolean (0 : Int32))), (.int (nar .boolean (0 : Int32))), (.int (nar .boolean (0 : Int32))), (.int (nar .boolean (0 : Int32))), (.int (nar .boolean (0 : Int32))), (.int (nar .boolean (0 : Int32))), (.int (nar .boolean (0 : Int32))), (.int (nar .boolean (0 : Int32))), (.int (nar .boolean (0 : Int32))), (.int (nar .boolean (0 : Int32))), (.int (nar .boolean (1 : Int32))), (.int (nar .boolean (1 : Int32))), (.int (nar .boolean (0 : Int32))), (.int (0 : Int32)), (.int (0 : Int32)), (.int (0 : Int32))] (.int (0 : Int32)) := Arv.set Ar124 q124 S124 N124z H124 G124 (fits_nar_bool _) W124 15 rfl (Nat.le_of_ble_eq_true rfl)
  replace Zn := Nat.le_trans Zn (Keep.of_wr W124).1
  have N124 := Fr.snoc X124 N123 g_b78
  have K125 : ∀ t, Steps p.tables e below (T124.setTop (mkF m 211 #[.val (.int p0), .val (.ref b1), .unset, .unset] [(.ref b78)])) t → Steps p.tables e below (s₁.setTop (entryFrame m #[(.int p0)] maxLocals)) t := by
    intro t kt
    refine K122 t ?_
    show Steps p.tables e below (T121.setTop (mkF m 206 #[.val (.int p0), .val (.ref b1), .unset, .unset] [(.ref b78)])) _
    refine XS.dup X123.here hx rfl (hb hby at_206) rfl rfl ?_
    show Steps p.tables e below (T121.setTop (mkF m 207 #[.val (.int p0), .val (.ref b1), .unset, .unset] [(.ref b78), (.ref b78)])) _
    refine XS.bipush X123.here hx rfl (hb hby at_207) ?_
    show Steps p.tables e below (T121.setTop (mkF m 209 #[.val (.int p0), .val (.ref b1), .unset, .unset] [(.int (15 : Int32)), (.ref b78), (.ref b78)])) _
    refine XS.iconst X123.here hx rfl (hb hby at_209) ?_
    show Steps p.tables e below (T121.setTop (mkF m 210 #[.val (.int p0), .val (.ref b1), .unset, .unset] [(.int (0 : Int32)), (.int (15 : Int32)), (.ref b78), (.ref b78)])) _
    refine st124 _ ?_
    exact kt
  obtain ⟨lc126, X126, N126⟩ : ∃ lc, Stand p l e room_1 s m #[(.int p0)] below meth c T124 lc 2 38 ∧ Fr n0 lc := ⟨_, X124, N124⟩
  clear T121 h121 e121 K122 lc123 X123 N123 cl124 Ar124 q124 S124 N124z H124 G124 hin124 X124 W124 st124 N124
  obtain ⟨cl127, Ar127, q127, S127, N127z, H127, G127⟩ := V_b78
  have hin127 : ¬ ((16 : Int32) < 0 ∨ cl127.slots.size ≤ ((16 : Int32)).toNatClampNeg) := inb_of S127 ⟨by decide, by decide⟩
  obtain ⟨T127, h127, X127, e127, W127, st127⟩ := stZ X126 hx hZ e124 Ar127 (j := (16 : Int32)) hin127 (g := (mkF m 215 #[.val (.int p0), .val (.ref b1), .unset, .unset] [(.int (0 : Int32)), (.int (16 : Int32)), (.ref b78), (.ref b78)])) rfl rfl (hb hby at_215)
  replace OLD := OLD.wr W127 g_b78
  replace V_b1 := V_b1.other W127 ne_b1_b78
  have V_b78 : Arv Z h127 b78 k78 .boolean (19 : Int32) [(.int (nar .boolean (0 : Int32))), (.int (nar .boolean (0 : Int32))), (.int (nar .boolean (0 : Int32))), (.int (nar .boolean (0 : Int32))), (.int (nar .boolean (0 : Int32))), (.int (nar .boolean (0 : Int32))), (.int (nar .boolean (0 : Int32))), (.int (nar .boolean (0 : Int32))), (.int (nar .boolean (0 : Int32))), (.int (nar .boolean (0 : Int32))), (.int (nar .boolean (0 : Int32))), (.int (nar .boolean (0 : Int32))), (.int (nar .boolean (0 : Int32))), (.int (nar .boolean (1 : Int32))), (.int (nar .boolean (1 : Int32))), (.int (nar .boolean (0 : Int32))), (.int (nar .boolean (0 : Int32))), (.int (0 : Int32)), (.int (0 : Int32))] (.int (0 : Int32)) := Arv.set Ar127 q127 S127 N127z H127 G127 (fits_nar_bool _) W127 16 rfl (Nat.le_of_ble_eq_true rfl)
  replace Zn := Nat.le_trans Zn (Keep.of_wr W127).1
  have N127 := Fr.snoc X127 N126 g_b78
  have K128 : ∀ t, Steps p.tables e below (T127.setTop (mkF m 216 #[.val (.int p0), .val (.ref b1), .unset, .unset] [(.ref b78)])) t → Steps p.tables e below (s₁.setTop (entryFrame m #[(.int p0)] maxLocals)) t := by
    intro t kt
    refine K125 t ?_
    show Steps p.tables e below (T124.setTop (mkF m 211 #[.val (.int p0), .val (.ref b1), .unset, .unset] [(.ref b78)])) _
    refine XS.dup X126.here hx rfl (hb hby at_211) rfl rfl ?_
    show Steps p.tables e below (T124.setTop (mkF m 212 #[.val (.int p0), .val (.ref b1), .unset, .unset] [(.ref b78), (.ref b78)])) _
    refine XS.bipush X126.here hx rfl (hb hby at_212) ?_
    show Steps p.tables e below (T124.setTop (mkF m 214 #[.val (.int p0), .val (.ref b1), .unset, .unset] [(.int (16 : Int32)), (.ref b78), (.ref b78)])) _
    refine XS.iconst X126.here hx rfl (hb hby at_214) ?_
    show Steps p.tables e below (T124.setTop (mkF m 215 #[.val (.int p0), .val (.ref b1), .unset, .unset] [(.int (0 : Int32)), (.int (16 : Int32)), (.ref b78), (.ref b78)])) _
    refine st127 _ ?_
    exact kt
  obtain ⟨lc129, X129, N129⟩ : ∃ lc, Stand p l e room_1 s m #[(.int p0)] below meth c T127 lc 2 38 ∧ Fr n0 lc := ⟨_, X127, N127⟩
  clear T124 h124 e124 K125 lc126 X126 N126 cl127 Ar127 q127 S127 N127z H127 G127 hin127 X127 W127 st127 N127
  obtain ⟨cl130, Ar130, q130, S130, N130z, H130, G130⟩ := V_b78
  have hin130 : ¬ ((17 : Int32) < 0 ∨ cl130.slots.size ≤ ((17 : Int32)).toNatClampNeg) := inb_of S130 ⟨by decide, by decide⟩
  obtain ⟨T130, h130, X130, e130, W130, st130⟩ := stZ X129 hx hZ e127 Ar130 (j := (17 : Int32)) hin130 (g := (mkF m 220 #[.val (.int p0), .val (.ref b1), .unset, .unset] [(.int (0 : Int32)), (.int (17 : Int32)), (.ref b78), (.ref b78)])) rfl rfl (hb hby at_220)
  replace OLD := OLD.wr W130 g_b78
  replace V_b1 := V_b1.other W130 ne_b1_b78
  have V_b78 : Arv Z h130 b78 k78 .boolean (19 : Int32) [(.int (nar .boolean (0 : Int32))), (.int (nar .boolean (0 : Int32))), (.int (nar .boolean (0 : Int32))), (.int (nar .boolean (0 : Int32))), (.int (nar .boolean (0 : Int32))), (.int (nar .boolean (0 : Int32))), (.int (nar .boolean (0 : Int32))), (.int (nar .boolean (0 : Int32))), (.int (nar .boolean (0 : Int32))), (.int (nar .boolean (0 : Int32))), (.int (nar .boolean (0 : Int32))), (.int (nar .boolean (0 : Int32))), (.int (nar .boolean (0 : Int32))), (.int (nar .boolean (1 : Int32))), (.int (nar .boolean (1 : Int32))), (.int (nar .boolean (0 : Int32))), (.int (nar .boolean (0 : Int32))), (.int (nar .boolean (0 : Int32))), (.int (0 : Int32))] (.int (0 : Int32)) := Arv.set Ar130 q130 S130 N130z H130 G130 (fits_nar_bool _) W130 17 rfl (Nat.le_of_ble_eq_true rfl)
  replace Zn := Nat.le_trans Zn (Keep.of_wr W130).1
  have N130 := Fr.snoc X130 N129 g_b78
  have K131 : ∀ t, Steps p.tables e below (T130.setTop (mkF m 221 #[.val (.int p0), .val (.ref b1), .unset, .unset] [(.ref b78)])) t → Steps p.tables e below (s₁.setTop (entryFrame m #[(.int p0)] maxLocals)) t := by
    intro t kt
    refine K128 t ?_
    show Steps p.tables e below (T127.setTop (mkF m 216 #[.val (.int p0), .val (.ref b1), .unset, .unset] [(.ref b78)])) _
    refine XS.dup X129.here hx rfl (hb hby at_216) rfl rfl ?_
    show Steps p.tables e below (T127.setTop (mkF m 217 #[.val (.int p0), .val (.ref b1), .unset, .unset] [(.ref b78), (.ref b78)])) _
    refine XS.bipush X129.here hx rfl (hb hby at_217) ?_
    show Steps p.tables e below (T127.setTop (mkF m 219 #[.val (.int p0), .val (.ref b1), .unset, .unset] [(.int (17 : Int32)), (.ref b78), (.ref b78)])) _
    refine XS.iconst X129.here hx rfl (hb hby at_219) ?_
    show Steps p.tables e below (T127.setTop (mkF m 220 #[.val (.int p0), .val (.ref b1), .unset, .unset] [(.int (0 : Int32)), (.int (17 : Int32)), (.ref b78), (.ref b78)])) _
    refine st130 _ ?_
    exact kt
  obtain ⟨lc132, X132, N132⟩ : ∃ lc, Stand p l e room_1 s m #[(.int p0)] below meth c T130 lc 2 38 ∧ Fr n0 lc := ⟨_, X130, N130⟩
  clear T127 h127 e127 K128 lc129 X129 N129 cl130 Ar130 q130 S130 N130z H130 G130 hin130 X130 W130 st130 N130
  obtain ⟨cl133, Ar133, q133, S133, N133z, H133, G133⟩ := V_b78
  have hin133 : ¬ ((18 : Int32) < 0 ∨ cl133.slots.size ≤ ((18 : Int32)).toNatClampNeg) := inb_of S133 ⟨by decide, by decide⟩
  obtain ⟨T133, h133, X133, e133, W133, st133⟩ := stZ X132 hx hZ e130 Ar133 (j := (18 : Int32)) hin133 (g := (mkF m 225 #[.val (.int p0), .val (.ref b1), .unset, .unset] [(.int (1 : Int32)), (.int (18 : Int32)), (.ref b78), (.ref b78)])) rfl rfl (hb hby at_225)
  replace OLD := OLD.wr W133 g_b78
  replace V_b1 := V_b1.other W133 ne_b1_b78
  have V_b78 : Arv Z h133 b78 k78 .boolean (19 : Int32) [(.int (nar .boolean (0 : Int32))), (.int (nar .boolean (0 : Int32))), (.int (nar .boolean (0 : Int32))), (.int (nar .boolean (0 : Int32))), (.int (nar .boolean (0 : Int32))), (.int (nar .boolean (0 : Int32))), (.int (nar .boolean (0 : Int32))), (.int (nar .boolean (0 : Int32))), (.int (nar .boolean (0 : Int32))), (.int (nar .boolean (0 : Int32))), (.int (nar .boolean (0 : Int32))), (.int (nar .boolean (0 : Int32))), (.int (nar .boolean (0 : Int32))), (.int (nar .boolean (1 : Int32))), (.int (nar .boolean (1 : Int32))), (.int (nar .boolean (0 : Int32))), (.int (nar .boolean (0 : Int32))), (.int (nar .boolean (0 : Int32))), (.int (nar .boolean (1 : Int32)))] (.int (0 : Int32)) := Arv.set Ar133 q133 S133 N133z H133 G133 (fits_nar_bool _) W133 18 rfl (Nat.le_of_ble_eq_true rfl)
  replace Zn := Nat.le_trans Zn (Keep.of_wr W133).1
  have N133 := Fr.snoc X133 N132 g_b78
  have K134 : ∀ t, Steps p.tables e below (T133.setTop (mkF m 226 #[.val (.int p0), .val (.ref b1), .unset, .unset] [(.ref b78)])) t → Steps p.tables e below (s₁.setTop (entryFrame m #[(.int p0)] maxLocals)) t := by
    intro t kt
    refine K131 t ?_
    show Steps p.tables e below (T130.setTop (mkF m 221 #[.val (.int p0), .val (.ref b1), .unset, .unset] [(.ref b78)])) _
    refine XS.dup X132.here hx rfl (hb hby at_221) rfl rfl ?_
    show Steps p.tables e below (T130.setTop (mkF m 222 #[.val (.int p0), .val (.ref b1), .unset, .unset] [(.ref b78), (.ref b78)])) _
    refine XS.bipush X132.here hx rfl (hb hby at_222) ?_
    show Steps p.tables e below (T130.setTop (mkF m 224 #[.val (.int p0), .val (.ref b1), .unset, .unset] [(.int (18 : Int32)), (.ref b78), (.ref b78)])) _
    refine XS.iconst X132.here hx rfl (hb hby at_224) ?_
    show Steps p.tables e below (T130.setTop (mkF m 225 #[.val (.int p0), .val (.ref b1), .unset, .unset] [(.int (1 : Int32)), (.int (18 : Int32)), (.ref b78), (.ref b78)])) _
    refine st133 _ ?_
    exact kt
  obtain ⟨lc135, X135, N135⟩ : ∃ lc, Stand p l e room_1 s m #[(.int p0)] below meth c T133 lc 2 38 ∧ Fr n0 lc := ⟨_, X133, N133⟩
  clear T130 h130 e130 K131 lc132 X132 N132 cl133 Ar133 q133 S133 N133z H133 G133 hin133 X133 W133 st133 N133
  have K136 : ∀ t, Steps p.tables e below (T133.setTop (mkF m 235 #[.val (.int p0), .val (.ref b1), .val (.ref b78), .val (.int ((p0 &&& (2147483647 : Int32)) - ((p0 &&& (2147483647 : Int32)) / (19 : Int32)) * (19 : Int32)))] [])) t → Steps p.tables e below (s₁.setTop (entryFrame m #[(.int p0)] maxLocals)) t := by
    intro t kt
    refine K134 t ?_
    show Steps p.tables e below (T133.setTop (mkF m 226 #[.val (.int p0), .val (.ref b1), .unset, .unset] [(.ref b78)])) _
    refine XS.astoreN X135.here hx rfl (hb hby at_226) rfl rfl (l' := #[.val (.int p0), .val (.ref b1), .val (.ref b78), .unset]) rfl ?_
    show Steps p.tables e below (T133.setTop (mkF m 227 #[.val (.int p0), .val (.ref b1), .val (.ref b78), .unset] [])) _
    refine XS.iloadN X135.here hx rfl (hb hby at_227) rfl ?_
    show Steps p.tables e below (T133.setTop (mkF m 228 #[.val (.int p0), .val (.ref b1), .val (.ref b78), .unset] [(.int p0)])) _
    refine X135.ldcInt hx hown (mvT hZ (hw _ (List.mem_of_getElem? (i := 43) rfl))) (g := (mkF m 228 #[.val (.int p0), .val (.ref b1), .val (.ref b78), .unset] [(.int p0)])) rfl (hb hby at_228) _ ?_
    show Steps p.tables e below (T133.setTop (mkF m 230 #[.val (.int p0), .val (.ref b1), .val (.ref b78), .unset] [(.int (2147483647 : Int32)), (.int p0)])) _
    refine XS.iand X135.here hx rfl (hb hby at_230) rfl ?_
    show Steps p.tables e below (T133.setTop (mkF m 231 #[.val (.int p0), .val (.ref b1), .val (.ref b78), .unset] [(.int (p0 &&& (2147483647 : Int32)))])) _
    refine XS.bipush X135.here hx rfl (hb hby at_231) ?_
    show Steps p.tables e below (T133.setTop (mkF m 233 #[.val (.int p0), .val (.ref b1), .val (.ref b78), .unset] [(.int (19 : Int32)), (.int (p0 &&& (2147483647 : Int32)))])) _
    refine XS.irem X135.here hx rfl (hb hby at_233) rfl (by decide) ?_
    show Steps p.tables e below (T133.setTop (mkF m 234 #[.val (.int p0), .val (.ref b1), .val (.ref b78), .unset] [(.int ((p0 &&& (2147483647 : Int32)) - ((p0 &&& (2147483647 : Int32)) / (19 : Int32)) * (19 : Int32)))])) _
    refine XS.istoreN X135.here hx rfl (hb hby at_234) rfl (l' := #[.val (.int p0), .val (.ref b1), .val (.ref b78), .val (.int ((p0 &&& (2147483647 : Int32)) - ((p0 &&& (2147483647 : Int32)) / (19 : Int32)) * (19 : Int32)))]) rfl ?_
    exact kt
  obtain ⟨i, hg_i⟩ : ∃ z, z = ((p0 &&& (2147483647 : Int32)) - ((p0 &&& (2147483647 : Int32)) / (19 : Int32)) * (19 : Int32)) := ⟨_, rfl⟩
  rw [← hg_i] at K136
  have hi := own_mod p0 19 (by decide)
  rw [← hg_i] at hi
  have c19 : (19 : Int32).toInt = 19 := by decide
  obtain ⟨hnat, hneg⟩ := own_nat hi
  have hlt : i.toNatClampNeg < 19 := by omega
  obtain ⟨el, hel⟩ : ∃ z, z = [w_TINYINT, w_SMALLINT, w_INT, w_INTEGER, w_BIGINT, w_FLOAT, w_DOUBLE, w_DECIMAL, w_BOOLEAN, w_DATE, w_TIME, w_TIMESTAMP, w_DATETIME, w_CHAR, w_VARCHAR, w_BINARY, w_VARBINARY, w_JSON, w_OTHER].getD i.toNatClampNeg 0 := ⟨_, rfl⟩
  have Vq137 := V_b1
  obtain ⟨cl137, Ar137, q137, S137, N137z, H137, G137⟩ := Vq137
  have hin137 : ¬ (i < 0 ∨ cl137.slots.size ≤ (i).toNatClampNeg) := inb_of S137 ⟨hneg, by rw [Int32.lt_iff_toInt_lt]; omega⟩
  have hat137 : cl137.slots[(i).toNatClampNeg]? = some (.ref el) := Has.at H137 hin137 (by rw [hel]; exact own_getref [w_TINYINT, w_SMALLINT, w_INT, w_INTEGER, w_BIGINT, w_FLOAT, w_DOUBLE, w_DECIMAL, w_BOOLEAN, w_DATE, w_TIME, w_TIMESTAMP, w_DATETIME, w_CHAR, w_VARCHAR, w_BINARY, w_VARBINARY, w_JSON, w_OTHER] _ hlt)
  obtain ⟨cq138, kq138, q138a, q138b, q138c⟩ := isOf hZ e133 ((hel ▸ own_exal EX _ hlt : Exa Z Z.heap el "com/example/keylint/keylint/SqlType").ext OLD.2)
  obtain ⟨_, _, ⟨T138, L138, k138, n138⟩, -, X138, ⟨Lc138, hQ138, l138, y138, z138⟩, st138⟩ := X135.virtualBack hx (y := (⟨"com/example/keylint/keylint/SqlType", "isText", "()Z"⟩ : MethodName)) (z := (⟨"com/example/keylint/keylint/SqlType", "isText", "()Z"⟩ : MethodName)) hown (mvT hZ (hw _ (List.mem_of_getElem? (i := 44) rfl))) (mvT hZ (hw _ (List.mem_of_getElem? (i := 45) rfl))) (notFace_of_selects (args := #[]) (mvT hZ (hw _ (List.mem_of_getElem? (i := 47) rfl)))) (mvT hZ (hw _ (List.mem_of_getElem? (i := 47) rfl))) (mvT hZ (hw _ (List.mem_of_getElem? (i := 46) rfl))) (by decide) (backOf (W := 0) (rm1 l Z a0 hw [] el w_CHAR w_VARCHAR w_OTHER h133 n0 Zn (S_CHAR.ext OLD.2) (S_VARCHAR.ext OLD.2) (S_OTHER.ext OLD.2)) hZ (hw _ (List.mem_of_getElem? (i := 48) rfl)) (hw _ (List.mem_of_getElem? (i := 3) rfl)) (by decide) (by decide)) q138a q138c (g := (mkF m 238 #[.val (.int p0), .val (.ref b1), .val (.ref b78), .val (.int i)] [(.ref el)])) rfl (by rw [hml]; rfl) (Steps.refl _) (argsL := []) (rest := []) (lenOf pd_1 rfl) rfl (by show 2 * 0 + _ ≤ _; exact Nat.le_of_eq rfl) (hb hby at_238) (fun _ _ => ⟨rfl, e133, (by decide : 2 + 0 ≤ _), (by decide : 38 + 0 ≤ _)⟩)
  dsimp only [Pt.U, Pt.locs, Pt.cells, Pt.slots] at X138 l138 y138 z138 st138 hQ138
  subst l138 y138 z138
  obtain ⟨rfl, N138q, e138q⟩ := hQ138
  have N138 := Fr.app N135 N138q
  have e138 : T138.heap = h133 := e138q
  have Vq139 := V_b78
  obtain ⟨cl139, Ar139, q139, S139, N139z, H139, G139⟩ := Vq139
  have hin139 : ¬ (i < 0 ∨ cl139.slots.size ≤ (i).toNatClampNeg) := inb_of S139 ⟨hneg, by rw [Int32.lt_iff_toInt_lt]; omega⟩
  have hat139 : cl139.slots[(i).toNatClampNeg]? = some (.int (own_tab i.toNatClampNeg)) := Has.at H139 hin139 (own_tabl _ hlt)
  have hc244 : (own_in el w_CHAR w_VARCHAR w_OTHER) = (own_tab i.toNatClampNeg) := (by rw [hel]; exact own_law o_TINYINT o_SMALLINT o_INT o_INTEGER o_BIGINT o_FLOAT o_DOUBLE o_DECIMAL o_BOOLEAN o_DATE o_TIME o_TIMESTAMP o_DATETIME o_CHAR o_VARCHAR o_BINARY o_VARBINARY o_JSON o_OTHER _ hlt)
  obtain ⟨fs, hr, hrun, hended, hW, hsame⟩ := X138.leave (v := some (.int (1 : Int32))) (fun h => by rw [Bd.returns] at h; cases h) hlk
  refine ⟨_, _, K136 _ ?_, hrun, hended, _, _, rfl, ?_, ⟨_, rfl⟩, hW, hsame.mono (by decide) (by decide)⟩
  ·
    show Steps p.tables e below (T133.setTop (mkF m 235 #[.val (.int p0), .val (.ref b1), .val (.ref b78), .val (.int i)] [])) _
    refine XS.aloadN X135.here hx rfl (hb hby at_235) rfl rfl ?_
    show Steps p.tables e below (T133.setTop (mkF m 236 #[.val (.int p0), .val (.ref b1), .val (.ref b78), .val (.int i)] [(.ref b1)])) _
    refine XS.iloadN X135.here hx rfl (hb hby at_236) rfl ?_
    show Steps p.tables e below (T133.setTop (mkF m 237 #[.val (.int p0), .val (.ref b1), .val (.ref b78), .val (.int i)] [(.int i), (.ref b1)])) _
    refine X135.aaload hx (j := i) (v := (.ref el)) (by rw [e133]; exact Ar137.1) (State.isArrayOf_alike hZ.alike Ar137.2.1) rfl Ar137.2.2 hin137 hat137 (g := (mkF m 237 #[.val (.int p0), .val (.ref b1), .val (.ref b78), .val (.int i)] [(.int i), (.ref b1)])) rfl rfl (hb hby at_237) _ ?_
    show Steps p.tables e below (T133.setTop (mkF m 238 #[.val (.int p0), .val (.ref b1), .val (.ref b78), .val (.int i)] [(.ref el)])) _
    refine st138.trans ?_
    show Steps p.tables e below (T138.setTop (mkF m 241 #[.val (.int p0), .val (.ref b1), .val (.ref b78), .val (.int i)] [(.int (own_in el w_CHAR w_VARCHAR w_OTHER))])) _
    refine XS.aloadN X138.here hx rfl (hb hby at_241) rfl rfl ?_
    show Steps p.tables e below (T138.setTop (mkF m 242 #[.val (.int p0), .val (.ref b1), .val (.ref b78), .val (.int i)] [(.ref b78), (.int (own_in el w_CHAR w_VARCHAR w_OTHER))])) _
    refine XS.iloadN X138.here hx rfl (hb hby at_242) rfl ?_
    show Steps p.tables e below (T138.setTop (mkF m 243 #[.val (.int p0), .val (.ref b1), .val (.ref b78), .val (.int i)] [(.int i), (.ref b78), (.int (own_in el w_CHAR w_VARCHAR w_OTHER))])) _
    refine X138.baloadBooleans hx (j := i) (v := (.int (own_tab i.toNatClampNeg))) (by rw [e138]; exact Ar139.1) (State.isArrayOf_alike hZ.alike Ar139.2.1) Ar139.2.2 hin139 hat139 (g := (mkF m 243 #[.val (.int p0), .val (.ref b1), .val (.ref b78), .val (.int i)] [(.int i), (.ref b78), (.int (own_in el w_CHAR w_VARCHAR w_OTHER))])) rfl rfl (hb hby at_243) _ ?_
    show Steps p.tables e below (T138.setTop (mkF m 244 #[.val (.int p0), .val (.ref b1), .val (.ref b78), .val (.int i)] [(.int (own_tab i.toNatClampNeg)), (.int (own_in el w_CHAR w_VARCHAR w_OTHER))])) _
    refine XS.icmpNo X138.here hx rfl (hb hby at_244) rfl (teq hc244).2 ?_
    show Steps p.tables e below (T138.setTop (mkF m 247 #[.val (.int p0), .val (.ref b1), .val (.ref b78), .val (.int i)] [])) _
    refine XS.iconst X138.here hx rfl (hb hby at_247) ?_
    show Steps p.tables e below (T138.setTop (mkF m 248 #[.val (.int p0), .val (.ref b1), .val (.ref b78), .val (.int i)] [(.int (1 : Int32))])) _
    refine XS.goto X138.here hx rfl (pc0 := 248) (pc' := 252) rfl (hb hby at_248) (by decide) (by decide) ?_
    show Steps p.tables e below (T138.setTop (mkF m 252 #[.val (.int p0), .val (.ref b1), .val (.ref b78), .val (.int i)] [(.int (1 : Int32))])) _
    exact retN X138 hx (t := .boolean) Bd.returns (by simp) (hb hby at_252) hr
  ·
    show Q_rm0 Z p0 w_TINYINT w_SMALLINT w_INT w_INTEGER w_BIGINT w_FLOAT w_DOUBLE w_DECIMAL w_BOOLEAN w_DATE w_TIME w_TIMESTAMP w_DATETIME w_CHAR w_VARCHAR w_BINARY w_VARBINARY w_JSON w_OTHER h0 n0 _ T138.heap _
    rw [e138]
    exact ⟨rfl, N138⟩
set_option maxRecDepth 65536 in
set_option maxHeartbeats 40000000 in
theorem comes_1 {Post : Tables → Env → Array Value → State → Outcome → State → Prop} (hpost : ∀ tb e args s v u, (limb_1_1.after args s (.returned v) u = true ∧ limb_1_2.after args s (.returned v) u = true ∧ True) → FrameEnd s (.returned v) u (Jvm.fieldLocs frame_1_writes args s ++ Jvm.arrayLocs frame_1_arrays args s ++ Jvm.staticLocs frame_1_statics s) 16 192 → Post tb e args s (.returned v) u) :
    ArmFor flags0 classFile x code maxLocals ret World_1 tables_1 room_1 Calls_1 rest_1 Pre_1 Post := by
  intro l hfl _ _ p e ha hc hk s m args below hf hA hF happ hP
  obtain ⟨hcalls, hrest, hpre⟩ := hP
  obtain ⟨-, -, -, hnamed, -, -, -, hat⟩ := (Spec.applies_iff hf).mp happ
  obtain ⟨hg, hn⟩ := and_e (Cond.before_iff.mp (show (Jvm.Cond.and given_1 narrow_1).before args s = true from hpre))
  obtain ⟨hg0, hg⟩ := and_e hg
  have ga0 := hg
  obtain ⟨w0, rfl⟩ : ∃ w0 : Value, args = #[w0] := by
    have hs : args.size = 1 := by simpa [Cond.value, given_1] using hg0
    obtain ⟨L⟩ := args
    match L, hs with
    | [w0], _ => exact ⟨w0, rfl⟩
  have hw := fun d (hd : d ∈ tables_1) => atoms_spec (ws := Jvm.Cond.code x code maxLocals ret :: tables_1) hat d (List.mem_cons_of_mem _ hd)
  have hfit : Fit s := fun {y c} hc i hi => by
    obtain ⟨ha, rfl⟩ := Array.getElem?_eq_some_iff.mp hc
    have q := List.all_eq_true.mp ((Array.all_eq_true_iff_forall_mem.mp hF) _ (Array.getElem_mem ha)) i (List.mem_range.mpr hi)
    simpa [Array.getElem?_eq_getElem hi] using q
  obtain ⟨i0, ei0⟩ := is_v ga0
  obtain rfl : w0 = (.int i0) := Option.some.inj ei0
  obtain ⟨cn0, hn⟩ := and_e hn
  obtain ⟨cn1, hn⟩ := and_e hn
  obtain ⟨cn2, hn⟩ := and_e hn
  obtain ⟨cn3, hn⟩ := and_e hn
  obtain ⟨cn4, hn⟩ := and_e hn
  obtain ⟨cn5, hn⟩ := and_e hn
  obtain ⟨cn6, hn⟩ := and_e hn
  obtain ⟨cn7, hn⟩ := and_e hn
  obtain ⟨cn8, hn⟩ := and_e hn
  obtain ⟨cn9, hn⟩ := and_e hn
  obtain ⟨cn10, hn⟩ := and_e hn
  obtain ⟨cn11, hn⟩ := and_e hn
  obtain ⟨cn12, hn⟩ := and_e hn
  obtain ⟨cn13, hn⟩ := and_e hn
  obtain ⟨cn14, hn⟩ := and_e hn
  obtain ⟨cn15, hn⟩ := and_e hn
  obtain ⟨cn16, hn⟩ := and_e hn
  obtain ⟨cn17, hn⟩ := and_e hn
  obtain ⟨cn18, hn⟩ := and_e hn
  obtain ⟨cn19, hn⟩ := and_e hn
  obtain ⟨cn20, hn⟩ := and_e hn
  obtain ⟨cn21, hn⟩ := and_e hn
  obtain ⟨cn22, hn⟩ := and_e hn
  obtain ⟨cn23, hn⟩ := and_e hn
  obtain ⟨cn24, hn⟩ := and_e hn
  obtain ⟨cn25, hn⟩ := and_e hn
  obtain ⟨cn26, hn⟩ := and_e hn
  obtain ⟨cn27, hn⟩ := and_e hn
  obtain ⟨cn28, hn⟩ := and_e hn
  obtain ⟨cn29, hn⟩ := and_e hn
  obtain ⟨cn30, hn⟩ := and_e hn
  obtain ⟨cn31, hn⟩ := and_e hn
  obtain ⟨cn32, hn⟩ := and_e hn
  obtain ⟨cn33, hn⟩ := and_e hn
  obtain ⟨cn34, hn⟩ := and_e hn
  obtain ⟨cn35, hn⟩ := and_e hn
  obtain ⟨cn36, hn⟩ := and_e hn
  have cn37 := hn
  obtain ⟨w_TINYINT, ev_TINYINT⟩ := exa_v cn0
  have S_TINYINT : Sta s s.heap "com/example/keylint/keylint/SqlType" "TINYINT" "Lcom/example/keylint/keylint/SqlType;" (.ref w_TINYINT) := Sta.start ev_TINYINT (Or.inr ⟨(hw _ (List.mem_of_getElem? (i := 3) rfl)), (hw _ (List.mem_of_getElem? (i := 4) rfl))⟩)
  have E_w_TINYINT : Exa s s.heap w_TINYINT "com/example/keylint/keylint/SqlType" := Exa.start ev_TINYINT cn0
  obtain ⟨w_SMALLINT, ev_SMALLINT⟩ := exa_v cn1
  have S_SMALLINT : Sta s s.heap "com/example/keylint/keylint/SqlType" "SMALLINT" "Lcom/example/keylint/keylint/SqlType;" (.ref w_SMALLINT) := Sta.start ev_SMALLINT (Or.inr ⟨(hw _ (List.mem_of_getElem? (i := 3) rfl)), (hw _ (List.mem_of_getElem? (i := 7) rfl))⟩)
  have E_w_SMALLINT : Exa s s.heap w_SMALLINT "com/example/keylint/keylint/SqlType" := Exa.start ev_SMALLINT cn1
  obtain ⟨w_INT, ev_INT⟩ := exa_v cn2
  have S_INT : Sta s s.heap "com/example/keylint/keylint/SqlType" "INT" "Lcom/example/keylint/keylint/SqlType;" (.ref w_INT) := Sta.start ev_INT (Or.inr ⟨(hw _ (List.mem_of_getElem? (i := 3) rfl)), (hw _ (List.mem_of_getElem? (i := 9) rfl))⟩)
  have E_w_INT : Exa s s.heap w_INT "com/example/keylint/keylint/SqlType" := Exa.start ev_INT cn2
  obtain ⟨w_INTEGER, ev_INTEGER⟩ := exa_v cn3
  have S_INTEGER : Sta s s.heap "com/example/keylint/keylint/SqlType" "INTEGER" "Lcom/example/keylint/keylint/SqlType;" (.ref w_INTEGER) := Sta.start ev_INTEGER (Or.inr ⟨(hw _ (List.mem_of_getElem? (i := 3) rfl)), (hw _ (List.mem_of_getElem? (i := 11) rfl))⟩)
  have E_w_INTEGER : Exa s s.heap w_INTEGER "com/example/keylint/keylint/SqlType" := Exa.start ev_INTEGER cn3
  obtain ⟨w_BIGINT, ev_BIGINT⟩ := exa_v cn4
  have S_BIGINT : Sta s s.heap "com/example/keylint/keylint/SqlType" "BIGINT" "Lcom/example/keylint/keylint/SqlType;" (.ref w_BIGINT) := Sta.start ev_BIGINT (Or.inr ⟨(hw _ (List.mem_of_getElem? (i := 3) rfl)), (hw _ (List.mem_of_getElem? (i := 13) rfl))⟩)
  have E_w_BIGINT : Exa s s.heap w_BIGINT "com/example/keylint/keylint/SqlType" := Exa.start ev_BIGINT cn4
  obtain ⟨w_FLOAT, ev_FLOAT⟩ := exa_v cn5
  have S_FLOAT : Sta s s.heap "com/example/keylint/keylint/SqlType" "FLOAT" "Lcom/example/keylint/keylint/SqlType;" (.ref w_FLOAT) := Sta.start ev_FLOAT (Or.inr ⟨(hw _ (List.mem_of_getElem? (i := 3) rfl)), (hw _ (List.mem_of_getElem? (i := 15) rfl))⟩)
  have E_w_FLOAT : Exa s s.heap w_FLOAT "com/example/keylint/keylint/SqlType" := Exa.start ev_FLOAT cn5
  obtain ⟨w_DOUBLE, ev_DOUBLE⟩ := exa_v cn6
  have S_DOUBLE : Sta s s.heap "com/example/keylint/keylint/SqlType" "DOUBLE" "Lcom/example/keylint/keylint/SqlType;" (.ref w_DOUBLE) := Sta.start ev_DOUBLE (Or.inr ⟨(hw _ (List.mem_of_getElem? (i := 3) rfl)), (hw _ (List.mem_of_getElem? (i := 17) rfl))⟩)
  have E_w_DOUBLE : Exa s s.heap w_DOUBLE "com/example/keylint/keylint/SqlType" := Exa.start ev_DOUBLE cn6
  obtain ⟨w_DECIMAL, ev_DECIMAL⟩ := exa_v cn7
  have S_DECIMAL : Sta s s.heap "com/example/keylint/keylint/SqlType" "DECIMAL" "Lcom/example/keylint/keylint/SqlType;" (.ref w_DECIMAL) := Sta.start ev_DECIMAL (Or.inr ⟨(hw _ (List.mem_of_getElem? (i := 3) rfl)), (hw _ (List.mem_of_getElem? (i := 19) rfl))⟩)
  have E_w_DECIMAL : Exa s s.heap w_DECIMAL "com/example/keylint/keylint/SqlType" := Exa.start ev_DECIMAL cn7
  obtain ⟨w_BOOLEAN, ev_BOOLEAN⟩ := exa_v cn8
  have S_BOOLEAN : Sta s s.heap "com/example/keylint/keylint/SqlType" "BOOLEAN" "Lcom/example/keylint/keylint/SqlType;" (.ref w_BOOLEAN) := Sta.start ev_BOOLEAN (Or.inr ⟨(hw _ (List.mem_of_getElem? (i := 3) rfl)), (hw _ (List.mem_of_getElem? (i := 21) rfl))⟩)
  have E_w_BOOLEAN : Exa s s.heap w_BOOLEAN "com/example/keylint/keylint/SqlType" := Exa.start ev_BOOLEAN cn8
  obtain ⟨w_DATE, ev_DATE⟩ := exa_v cn9
  have S_DATE : Sta s s.heap "com/example/keylint/keylint/SqlType" "DATE" "Lcom/example/keylint/keylint/SqlType;" (.ref w_DATE) := Sta.start ev_DATE (Or.inr ⟨(hw _ (List.mem_of_getElem? (i := 3) rfl)), (hw _ (List.mem_of_getElem? (i := 23) rfl))⟩)
  have E_w_DATE : Exa s s.heap w_DATE "com/example/keylint/keylint/SqlType" := Exa.start ev_DATE cn9
  obtain ⟨w_TIME, ev_TIME⟩ := exa_v cn10
  have S_TIME : Sta s s.heap "com/example/keylint/keylint/SqlType" "TIME" "Lcom/example/keylint/keylint/SqlType;" (.ref w_TIME) := Sta.start ev_TIME (Or.inr ⟨(hw _ (List.mem_of_getElem? (i := 3) rfl)), (hw _ (List.mem_of_getElem? (i := 25) rfl))⟩)
  have E_w_TIME : Exa s s.heap w_TIME "com/example/keylint/keylint/SqlType" := Exa.start ev_TIME cn10
  obtain ⟨w_TIMESTAMP, ev_TIMESTAMP⟩ := exa_v cn11
  have S_TIMESTAMP : Sta s s.heap "com/example/keylint/keylint/SqlType" "TIMESTAMP" "Lcom/example/keylint/keylint/SqlType;" (.ref w_TIMESTAMP) := Sta.start ev_TIMESTAMP (Or.inr ⟨(hw _ (List.mem_of_getElem? (i := 3) rfl)), (hw _ (List.mem_of_getElem? (i := 27) rfl))⟩)
  have E_w_TIMESTAMP : Exa s s.heap w_TIMESTAMP "com/example/keylint/keylint/SqlType" := Exa.start ev_TIMESTAMP cn11
  obtain ⟨w_DATETIME, ev_DATETIME⟩ := exa_v cn12
  have S_DATETIME : Sta s s.heap "com/example/keylint/keylint/SqlType" "DATETIME" "Lcom/example/keylint/keylint/SqlType;" (.ref w_DATETIME) := Sta.start ev_DATETIME (Or.inr ⟨(hw _ (List.mem_of_getElem? (i := 3) rfl)), (hw _ (List.mem_of_getElem? (i := 29) rfl))⟩)
  have E_w_DATETIME : Exa s s.heap w_DATETIME "com/example/keylint/keylint/SqlType" := Exa.start ev_DATETIME cn12
  obtain ⟨w_CHAR, ev_CHAR⟩ := exa_v cn13
  have S_CHAR : Sta s s.heap "com/example/keylint/keylint/SqlType" "CHAR" "Lcom/example/keylint/keylint/SqlType;" (.ref w_CHAR) := Sta.start ev_CHAR (Or.inr ⟨(hw _ (List.mem_of_getElem? (i := 3) rfl)), (hw _ (List.mem_of_getElem? (i := 31) rfl))⟩)
  have E_w_CHAR : Exa s s.heap w_CHAR "com/example/keylint/keylint/SqlType" := Exa.start ev_CHAR cn13
  obtain ⟨w_VARCHAR, ev_VARCHAR⟩ := exa_v cn14
  have S_VARCHAR : Sta s s.heap "com/example/keylint/keylint/SqlType" "VARCHAR" "Lcom/example/keylint/keylint/SqlType;" (.ref w_VARCHAR) := Sta.start ev_VARCHAR (Or.inr ⟨(hw _ (List.mem_of_getElem? (i := 3) rfl)), (hw _ (List.mem_of_getElem? (i := 33) rfl))⟩)
  have E_w_VARCHAR : Exa s s.heap w_VARCHAR "com/example/keylint/keylint/SqlType" := Exa.start ev_VARCHAR cn14
  obtain ⟨w_BINARY, ev_BINARY⟩ := exa_v cn15
  have S_BINARY : Sta s s.heap "com/example/keylint/keylint/SqlType" "BINARY" "Lcom/example/keylint/keylint/SqlType;" (.ref w_BINARY) := Sta.start ev_BINARY (Or.inr ⟨(hw _ (List.mem_of_getElem? (i := 3) rfl)), (hw _ (List.mem_of_getElem? (i := 35) rfl))⟩)
  have E_w_BINARY : Exa s s.heap w_BINARY "com/example/keylint/keylint/SqlType" := Exa.start ev_BINARY cn15
  obtain ⟨w_VARBINARY, ev_VARBINARY⟩ := exa_v cn16
  have S_VARBINARY : Sta s s.heap "com/example/keylint/keylint/SqlType" "VARBINARY" "Lcom/example/keylint/keylint/SqlType;" (.ref w_VARBINARY) := Sta.start ev_VARBINARY (Or.inr ⟨(hw _ (List.mem_of_getElem? (i := 3) rfl)), (hw _ (List.mem_of_getElem? (i := 37) rfl))⟩)
  have E_w_VARBINARY : Exa s s.heap w_VARBINARY "com/example/keylint/keylint/SqlType" := Exa.start ev_VARBINARY cn16
  obtain ⟨w_JSON, ev_JSON⟩ := exa_v cn17
  have S_JSON : Sta s s.heap "com/example/keylint/keylint/SqlType" "JSON" "Lcom/example/keylint/keylint/SqlType;" (.ref w_JSON) := Sta.start ev_JSON (Or.inr ⟨(hw _ (List.mem_of_getElem? (i := 3) rfl)), (hw _ (List.mem_of_getElem? (i := 39) rfl))⟩)
  have E_w_JSON : Exa s s.heap w_JSON "com/example/keylint/keylint/SqlType" := Exa.start ev_JSON cn17
  obtain ⟨w_OTHER, ev_OTHER⟩ := exa_v cn18
  have S_OTHER : Sta s s.heap "com/example/keylint/keylint/SqlType" "OTHER" "Lcom/example/keylint/keylint/SqlType;" (.ref w_OTHER) := Sta.start ev_OTHER (Or.inr ⟨(hw _ (List.mem_of_getElem? (i := 3) rfl)), (hw _ (List.mem_of_getElem? (i := 41) rfl))⟩)
  have E_w_OTHER : Exa s s.heap w_OTHER "com/example/keylint/keylint/SqlType" := Exa.start ev_OTHER cn18
  have q_TINYINT := (fld_at ev_TINYINT).symm.trans (own_eqv cn19)
  have o_TINYINT := own_ordv q_TINYINT
  have q_CHAR := (fld_at ev_CHAR).symm.trans (own_eqv cn20)
  have o_CHAR := own_ordv q_CHAR
  have q_VARCHAR := (fld_at ev_VARCHAR).symm.trans (own_eqv cn21)
  have o_VARCHAR := own_ordv q_VARCHAR
  have q_OTHER := (fld_at ev_OTHER).symm.trans (own_eqv cn22)
  have o_OTHER := own_ordv q_OTHER
  have q_INTEGER := (fld_at ev_INTEGER).symm.trans (own_eqv cn23)
  have o_INTEGER := own_ordv q_INTEGER
  have q_BINARY := (fld_at ev_BINARY).symm.trans (own_eqv cn24)
  have o_BINARY := own_ordv q_BINARY
  have q_FLOAT := (fld_at ev_FLOAT).symm.trans (own_eqv cn25)
  have o_FLOAT := own_ordv q_FLOAT
  have q_JSON := (fld_at ev_JSON).symm.trans (own_eqv cn26)
  have o_JSON := own_ordv q_JSON
  have q_DECIMAL := (fld_at ev_DECIMAL).symm.trans (own_eqv cn27)
  have o_DECIMAL := own_ordv q_DECIMAL
  have q_INT := (fld_at ev_INT).symm.trans (own_eqv cn28)
  have o_INT := own_ordv q_INT
  have q_TIMESTAMP := (fld_at ev_TIMESTAMP).symm.trans (own_eqv cn29)
  have o_TIMESTAMP := own_ordv q_TIMESTAMP
  have q_TIME := (fld_at ev_TIME).symm.trans (own_eqv cn30)
  have o_TIME := own_ordv q_TIME
  have q_BOOLEAN := (fld_at ev_BOOLEAN).symm.trans (own_eqv cn31)
  have o_BOOLEAN := own_ordv q_BOOLEAN
  have q_SMALLINT := (fld_at ev_SMALLINT).symm.trans (own_eqv cn32)
  have o_SMALLINT := own_ordv q_SMALLINT
  have q_DOUBLE := (fld_at ev_DOUBLE).symm.trans (own_eqv cn33)
  have o_DOUBLE := own_ordv q_DOUBLE
  have q_VARBINARY := (fld_at ev_VARBINARY).symm.trans (own_eqv cn34)
  have o_VARBINARY := own_ordv q_VARBINARY
  have q_BIGINT := (fld_at ev_BIGINT).symm.trans (own_eqv cn35)
  have o_BIGINT := own_ordv q_BIGINT
  have q_DATE := (fld_at ev_DATE).symm.trans (own_eqv cn36)
  have o_DATE := own_ordv q_DATE
  have q_DATETIME := (fld_at ev_DATETIME).symm.trans (own_eqv cn37)
  have o_DATETIME := own_ordv q_DATETIME
  have EX : ∀ a ∈ [w_TINYINT, w_SMALLINT, w_INT, w_INTEGER, w_BIGINT, w_FLOAT, w_DOUBLE, w_DECIMAL, w_BOOLEAN, w_DATE, w_TIME, w_TIMESTAMP, w_DATETIME, w_CHAR, w_VARCHAR, w_BINARY, w_VARBINARY, w_JSON, w_OTHER], Exa s s.heap a "com/example/keylint/keylint/SqlType" := (allS E_w_TINYINT (allS E_w_SMALLINT (allS E_w_INT (allS E_w_INTEGER (allS E_w_BIGINT (allS E_w_FLOAT (allS E_w_DOUBLE (allS E_w_DECIMAL (allS E_w_BOOLEAN (allS E_w_DATE (allS E_w_TIME (allS E_w_TIMESTAMP (allS E_w_DATETIME (allS E_w_CHAR (allS E_w_VARCHAR (allS E_w_BINARY (allS E_w_VARBINARY (allS E_w_JSON (allS E_w_OTHER all0)))))))))))))))))))
  obtain ⟨n, o, h1, h2, h3, _, L, rfl, ⟨rfl, N⟩, hq⟩ := rm0 l s _ hw tables_1 i0 w_TINYINT w_SMALLINT w_INT w_INTEGER w_BIGINT w_FLOAT w_DOUBLE w_DECIMAL w_BOOLEAN w_DATE w_TIME w_TIMESTAMP w_DATETIME w_CHAR w_VARCHAR w_BINARY w_VARBINARY w_JSON w_OTHER s.heap s.heap.size (Nat.le_refl _) S_TINYINT S_SMALLINT S_INT S_INTEGER S_BIGINT S_FLOAT S_DOUBLE S_DECIMAL S_BOOLEAN S_DATE S_TIME S_TIMESTAMP S_DATETIME S_CHAR S_VARCHAR S_BINARY S_VARBINARY S_JSON S_OTHER E_w_TINYINT E_w_SMALLINT E_w_INT E_w_INTEGER E_w_BIGINT E_w_FLOAT E_w_DOUBLE E_w_DECIMAL E_w_BOOLEAN E_w_DATE E_w_TIME E_w_TIMESTAMP E_w_DATETIME E_w_CHAR E_w_VARCHAR E_w_BINARY E_w_VARBINARY E_w_JSON E_w_OTHER EX (Old.start s) o_TINYINT o_SMALLINT o_INT o_INTEGER o_BIGINT o_FLOAT o_DOUBLE o_DECIMAL o_BOOLEAN o_DATE o_TIME o_TIMESTAMP o_DATETIME o_CHAR o_VARCHAR o_BINARY o_VARBINARY o_JSON o_OTHER p e ha hc hk s m _ below hf ((Spec.applies_iff_loose hf).mp happ).1 ⟨rfl, State.Warmed39.refl s, rfl⟩ trivial
  refine ⟨n, _, h1, h2, h3, hpost _ _ _ _ _ _ ⟨Cond.after_iff.mpr rfl, Cond.after_iff.mpr (eq_i res_at (Term.int_eval (1)) rfl), trivial⟩ ⟨hq.1, hq.2.1, (hq.2.2.sift fun y hy => Or.inr (N y hy)).mono (by decide) (by decide)⟩⟩
theorem main_1_1 : Claimed_1_1 := comes_1 fun _ _ _ _ _ _ h hF => ⟨h.1, hF⟩
theorem main_1_2 : Claimed_1_2 := comes_1 fun _ _ _ _ _ _ h hF => ⟨h.2.1, hF⟩
end Jvm.Pilot.@@N@@
namespace Jvm.Pilot.@@N@@
open Jvm Jvm.ClassFile Sem Op Lib Jvm.Free Jvm.Stand Jvm.Pilot.@@N@@.Jvm.D
/-! MADE BY PROGRAM (witnessworld.py) out of the Statement's table words and the real class files: 15 classes; the members and pool entries that the words name. The judged class is class 1, her method 1. -/
namespace start1
open Jvm.ClassFile
def u (s : String) : CpInfo := .utf8 (stringToUtf16 s)
/-- a pool by its gaps: so many unusable entries, then the entry; so many at the end -/
def gap : Nat → List CpInfo → List CpInfo
  | 0, r => r
  | n + 1, r => .unusable :: gap n r
def poolList (es : List (Nat × CpInfo)) (last : Nat) : List CpInfo := es.foldr (fun e r => gap e.1 (e.2 :: r)) (gap last [])
def pool (es : List (Nat × CpInfo)) (last : Nat) : Array CpInfo := ⟨poolList es last⟩
def fileOf (pool : Array CpInfo) (this : Nat) (attrs : Array Attribute := #[]) (ms : Array MethodInfo := #[]) (fl : Nat := 33) (sup : Nat := 0) (ifs : Array Nat := #[]) (fds : Array FieldInfo := #[]) : ClassFile where
  minorVersion := 0
  majorVersion := 65
  constantPool := pool
  accessFlags := fl
  thisClass := this
  superClass := sup
  interfaces := ifs
  fields := fds
  methods := ms
  attributes := attrs
def plain (name : String) (sup : Option ClassId) : Class where
  name := name
  kind := .ordinary
  loader := none
  accessFlags := 33
  super := sup
  interfaces := #[]
  cf := none
  fields := #[]
  methods := #[]
  instanceTypes := #[]
  staticTypes := #[]
  resolved := #[]
  callSites := []
  init := .initialized
  statics := none
  mirror := none

def pool0 : Array CpInfo := pool [(5, u "<init>"), (0, u "()V"), (1, .class_ 10), (1, u "java/lang/Object")] 113

def k0m0 : Method := { name := "<init>", desc := "()V", sig := { parameters := [], returnType := none }, accessFlags := 1, code := none }
/-- java/lang/Object -/
def k0 : Class := { plain "java/lang/Object" none with
  accessFlags := 33
  interfaces := #[]
  cf := some (fileOf pool0 8 #[] #[{ accessFlags := 1, nameIndex := 5, descriptorIndex := 6, attributes := #[] }] 33 0 #[] #[])
  fields := #[]
  methods := #[k0m0]
  instanceTypes := #[]
  staticTypes := #[]
  resolved := Array.replicate 124 none
  statics := none }

def pool1 : Array CpInfo := pool [(2, .class_ 4), (1, u "java/lang/Object"), (0, u "<init>"), (0, u "()V"), (0, .class_ 8), (0, u "com/example/keylint/keylint/SqlType"), (0, .fieldref 7 10), (0, .nameAndType 11 12), (0, u "TINYINT"), (0, u "Lcom/example/keylint/keylint/SqlType;"), (0, .fieldref 7 14), (0, .nameAndType 15 12), (0, u "SMALLINT"), (0, .fieldref 7 17), (0, .nameAndType 18 12), (0, u "INT"), (0, .fieldref 7 20), (0, .nameAndType 21 12), (0, u "INTEGER"), (0, .fieldref 7 23), (0, .nameAndType 24 12), (0, u "BIGINT"), (0, .fieldref 7 26), (0, .nameAndType 27 12), (0, u "FLOAT"), (0, .fieldref 7 29), (0, .nameAndType 30 12), (0, u "DOUBLE"), (0, .fieldref 7 32), (0, .nameAndType 33 12), (0, u "DECIMAL"), (0, .fieldref 7 35), (0, .nameAndType 36 12), (0, u "BOOLEAN"), (0, .fieldref 7 38), (0, .nameAndType 39 12), (0, u "DATE"), (0, .fieldref 7 41), (0, .nameAndType 42 12), (0, u "TIME"), (0, .fieldref 7 44), (0, .nameAndType 45 12), (0, u "TIMESTAMP"), (0, .fieldref 7 47), (0, .nameAndType 48 12), (0, u "DATETIME"), (0, .fieldref 7 50), (0, .nameAndType 51 12), (0, u "CHAR"), (0, .fieldref 7 53), (0, .nameAndType 54 12), (0, u "VARCHAR"), (0, .fieldref 7 56), (0, .nameAndType 57 12), (0, u "BINARY"), (0, .fieldref 7 59), (0, .nameAndType 60 12), (0, u "VARBINARY"), (0, .fieldref 7 62), (0, .nameAndType 63 12), (0, u "JSON"), (0, .fieldref 7 65), (0, .nameAndType 66 12), (0, u "OTHER"), (0, .integer 2147483647), (0, .methodref 7 69), (0, .nameAndType 70 71), (0, u "isText"), (0, u "()Z"), (0, .class_ 73), (0, u "com/example/keylint/keylint/SqlTypeIsTextPinLaw"), (2, u "law"), (0, u "(I)Z")] 7

def k1m0 : Method := { name := "<init>", desc := "()V", sig := { parameters := [], returnType := none }, accessFlags := 2, code := none }
def k1c1 : Code := { maxStack := 4, maxLocals := 4, code := code, exceptionTable := #[], attributes := #[] }
def k1m1 : Method := { name := "law", desc := "(I)Z", sig := { parameters := [.int], returnType := some .boolean }, accessFlags := 9, code := some k1c1 }
/-- com/example/keylint/keylint/SqlTypeIsTextPinLaw -/
def k1 : Class := { plain "com/example/keylint/keylint/SqlTypeIsTextPinLaw" (some 0) with
  accessFlags := 49
  interfaces := #[]
  cf := some (fileOf pool1 72 #[] #[{ accessFlags := 2, nameIndex := 5, descriptorIndex := 6, attributes := #[] }, { accessFlags := 9, nameIndex := 76, descriptorIndex := 77, attributes := #[] }] 49 2 #[] #[])
  fields := #[]
  methods := #[k1m0, k1m1]
  instanceTypes := #[]
  staticTypes := #[]
  resolved := Array.replicate 85 none
  statics := none }

def pool2 : Array CpInfo := pool [(1, .class_ 2), (0, u "java/lang/constant/Constable"), (0, .class_ 4), (0, u "java/lang/Object")] 6

/-- java/lang/constant/Constable -/
def k2 : Class := { plain "java/lang/constant/Constable" (some 0) with
  accessFlags := 1537
  interfaces := #[]
  cf := some (fileOf pool2 1 #[] #[] 1537 3 #[] #[])
  fields := #[]
  methods := #[]
  instanceTypes := #[]
  staticTypes := #[]
  resolved := Array.replicate 11 none
  statics := none }

def pool3 : Array CpInfo := pool [(1, .class_ 2), (0, u "java/lang/Comparable"), (0, .class_ 4), (0, u "java/lang/Object")] 7

/-- java/lang/Comparable -/
def k3 : Class := { plain "java/lang/Comparable" (some 0) with
  accessFlags := 1537
  interfaces := #[]
  cf := some (fileOf pool3 1 #[] #[] 1537 3 #[] #[])
  fields := #[]
  methods := #[]
  instanceTypes := #[]
  staticTypes := #[]
  resolved := Array.replicate 12 none
  statics := none }

def pool4 : Array CpInfo := pool [(1, .class_ 2), (0, u "java/io/Serializable"), (0, .class_ 4), (0, u "java/lang/Object")] 2

/-- java/io/Serializable -/
def k4 : Class := { plain "java/io/Serializable" (some 0) with
  accessFlags := 1537
  interfaces := #[]
  cf := some (fileOf pool4 1 #[] #[] 1537 3 #[] #[])
  fields := #[]
  methods := #[]
  instanceTypes := #[]
  staticTypes := #[]
  resolved := Array.replicate 7 none
  statics := none }

def pool5 : Array CpInfo := pool [(2, .class_ 4), (1, u "java/lang/Enum"), (0, u "name"), (0, u "Ljava/lang/String;"), (2, u "ordinal"), (0, u "I"), (1, .class_ 14), (1, u "java/lang/Object"), (4, u "hash"), (86, .class_ 108), (1, u "java/lang/Enum$EnumDesc"), (2, .class_ 112), (0, u "java/lang/constant/Constable"), (0, .class_ 114), (0, u "java/lang/Comparable"), (0, .class_ 116), (0, u "java/io/Serializable")] 87

/-- java/lang/Enum -/
def k5 : Class := { plain "java/lang/Enum" (some 0) with
  accessFlags := 1057
  interfaces := #[2, 3, 4]
  cf := some (fileOf pool5 2 #[.nestMembers #[106]] #[] 1057 12 #[111, 113, 115] #[{ accessFlags := 18, nameIndex := 5, descriptorIndex := 6, attributes := #[] }, { accessFlags := 18, nameIndex := 9, descriptorIndex := 10, attributes := #[] }, { accessFlags := 2, nameIndex := 19, descriptorIndex := 10, attributes := #[] }])
  fields := #[{ name := "name", type := (.object "java/lang/String"), accessFlags := 18, slot := 0, constantValue := 0 }, { name := "ordinal", type := .int, accessFlags := 18, slot := 1, constantValue := 0 }, { name := "hash", type := .int, accessFlags := 2, slot := 2, constantValue := 0 }]
  methods := #[]
  instanceTypes := #[(.object "java/lang/String"), .int, .int]
  staticTypes := #[]
  resolved := Array.replicate 204 none
  statics := none }

def pool6 : Array CpInfo := pool [(1, .class_ 2), (0, u "com/example/keylint/keylint/SqlType"), (2, u "TINYINT"), (0, u "Lcom/example/keylint/keylint/SqlType;"), (2, u "SMALLINT"), (2, u "INT"), (2, u "INTEGER"), (2, u "BIGINT"), (2, u "FLOAT"), (2, u "DOUBLE"), (2, u "DECIMAL"), (2, u "BOOLEAN"), (2, u "DATE"), (2, u "TIME"), (2, u "TIMESTAMP"), (2, u "DATETIME"), (0, .fieldref 1 44), (0, .nameAndType 45 6), (0, u "CHAR"), (0, .fieldref 1 47), (0, .nameAndType 48 6), (0, u "VARCHAR"), (2, u "BINARY"), (2, u "VARBINARY"), (2, u "JSON"), (0, .fieldref 1 59), (0, .nameAndType 60 6), (0, u "OTHER"), (2, u "$VALUES"), (0, u "[Lcom/example/keylint/keylint/SqlType;"), (6, .class_ 73), (1, u "java/lang/Enum"), (8, u "order"), (0, u "Lcom/example/keylint/keylint/ValueOrder;"), (2, u "BY_NAME"), (0, u "Ljava/util/Map;"), (79, u "()Z"), (2, u "isText")] 4

def k6c0 : Code := { maxStack := 2, maxLocals := 1, code := prog_69_method_8_code, exceptionTable := #[], attributes := #[] }
def k6m0 : Method := { name := "isText", desc := "()Z", sig := { parameters := [], returnType := some .boolean }, accessFlags := 0, code := some k6c0 }
/-- com/example/keylint/keylint/SqlType -/
def k6 : Class := { plain "com/example/keylint/keylint/SqlType" (some 5) with
  accessFlags := 16432
  interfaces := #[]
  cf := some (fileOf pool6 1 #[] #[{ accessFlags := 0, nameIndex := 170, descriptorIndex := 167, attributes := #[] }] 16432 71 #[] #[{ accessFlags := 16409, nameIndex := 5, descriptorIndex := 6, attributes := #[] }, { accessFlags := 16409, nameIndex := 9, descriptorIndex := 6, attributes := #[] }, { accessFlags := 16409, nameIndex := 12, descriptorIndex := 6, attributes := #[] }, { accessFlags := 16409, nameIndex := 15, descriptorIndex := 6, attributes := #[] }, { accessFlags := 16409, nameIndex := 18, descriptorIndex := 6, attributes := #[] }, { accessFlags := 16409, nameIndex := 21, descriptorIndex := 6, attributes := #[] }, { accessFlags := 16409, nameIndex := 24, descriptorIndex := 6, attributes := #[] }, { accessFlags := 16409, nameIndex := 27, descriptorIndex := 6, attributes := #[] }, { accessFlags := 16409, nameIndex := 30, descriptorIndex := 6, attributes := #[] }, { accessFlags := 16409, nameIndex := 33, descriptorIndex := 6, attributes := #[] }, { accessFlags := 16409, nameIndex := 36, descriptorIndex := 6, attributes := #[] }, { accessFlags := 16409, nameIndex := 39, descriptorIndex := 6, attributes := #[] }, { accessFlags := 16409, nameIndex := 42, descriptorIndex := 6, attributes := #[] }, { accessFlags := 16409, nameIndex := 45, descriptorIndex := 6, attributes := #[] }, { accessFlags := 16409, nameIndex := 48, descriptorIndex := 6, attributes := #[] }, { accessFlags := 16409, nameIndex := 51, descriptorIndex := 6, attributes := #[] }, { accessFlags := 16409, nameIndex := 54, descriptorIndex := 6, attributes := #[] }, { accessFlags := 16409, nameIndex := 57, descriptorIndex := 6, attributes := #[] }, { accessFlags := 16409, nameIndex := 60, descriptorIndex := 6, attributes := #[] }, { accessFlags := 26, nameIndex := 86, descriptorIndex := 87, attributes := #[] }, { accessFlags := 18, nameIndex := 82, descriptorIndex := 83, attributes := #[] }, { accessFlags := 4122, nameIndex := 63, descriptorIndex := 64, attributes := #[] }])
  fields := #[{ name := "TINYINT", type := (.object "com/example/keylint/keylint/SqlType"), accessFlags := 16409, slot := 0, constantValue := 0 }, { name := "SMALLINT", type := (.object "com/example/keylint/keylint/SqlType"), accessFlags := 16409, slot := 1, constantValue := 0 }, { name := "INT", type := (.object "com/example/keylint/keylint/SqlType"), accessFlags := 16409, slot := 2, constantValue := 0 }, { name := "INTEGER", type := (.object "com/example/keylint/keylint/SqlType"), accessFlags := 16409, slot := 3, constantValue := 0 }, { name := "BIGINT", type := (.object "com/example/keylint/keylint/SqlType"), accessFlags := 16409, slot := 4, constantValue := 0 }, { name := "FLOAT", type := (.object "com/example/keylint/keylint/SqlType"), accessFlags := 16409, slot := 5, constantValue := 0 }, { name := "DOUBLE", type := (.object "com/example/keylint/keylint/SqlType"), accessFlags := 16409, slot := 6, constantValue := 0 }, { name := "DECIMAL", type := (.object "com/example/keylint/keylint/SqlType"), accessFlags := 16409, slot := 7, constantValue := 0 }, { name := "BOOLEAN", type := (.object "com/example/keylint/keylint/SqlType"), accessFlags := 16409, slot := 8, constantValue := 0 }, { name := "DATE", type := (.object "com/example/keylint/keylint/SqlType"), accessFlags := 16409, slot := 9, constantValue := 0 }, { name := "TIME", type := (.object "com/example/keylint/keylint/SqlType"), accessFlags := 16409, slot := 10, constantValue := 0 }, { name := "TIMESTAMP", type := (.object "com/example/keylint/keylint/SqlType"), accessFlags := 16409, slot := 11, constantValue := 0 }, { name := "DATETIME", type := (.object "com/example/keylint/keylint/SqlType"), accessFlags := 16409, slot := 12, constantValue := 0 }, { name := "CHAR", type := (.object "com/example/keylint/keylint/SqlType"), accessFlags := 16409, slot := 13, constantValue := 0 }, { name := "VARCHAR", type := (.object "com/example/keylint/keylint/SqlType"), accessFlags := 16409, slot := 14, constantValue := 0 }, { name := "BINARY", type := (.object "com/example/keylint/keylint/SqlType"), accessFlags := 16409, slot := 15, constantValue := 0 }, { name := "VARBINARY", type := (.object "com/example/keylint/keylint/SqlType"), accessFlags := 16409, slot := 16, constantValue := 0 }, { name := "JSON", type := (.object "com/example/keylint/keylint/SqlType"), accessFlags := 16409, slot := 17, constantValue := 0 }, { name := "OTHER", type := (.object "com/example/keylint/keylint/SqlType"), accessFlags := 16409, slot := 18, constantValue := 0 }, { name := "BY_NAME", type := (.object "java/util/Map"), accessFlags := 26, slot := 19, constantValue := 0 }, { name := "order", type := (.object "com/example/keylint/keylint/ValueOrder"), accessFlags := 18, slot := 3, constantValue := 0 }, { name := "$VALUES", type := (.array (.object "com/example/keylint/keylint/SqlType")), accessFlags := 4122, slot := 20, constantValue := 0 }]
  methods := #[k6m0]
  instanceTypes := #[(.object "java/lang/String"), .int, .int, (.object "com/example/keylint/keylint/ValueOrder")]
  staticTypes := #[(.object "com/example/keylint/keylint/SqlType"), (.object "com/example/keylint/keylint/SqlType"), (.object "com/example/keylint/keylint/SqlType"), (.object "com/example/keylint/keylint/SqlType"), (.object "com/example/keylint/keylint/SqlType"), (.object "com/example/keylint/keylint/SqlType"), (.object "com/example/keylint/keylint/SqlType"), (.object "com/example/keylint/keylint/SqlType"), (.object "com/example/keylint/keylint/SqlType"), (.object "com/example/keylint/keylint/SqlType"), (.object "com/example/keylint/keylint/SqlType"), (.object "com/example/keylint/keylint/SqlType"), (.object "com/example/keylint/keylint/SqlType"), (.object "com/example/keylint/keylint/SqlType"), (.object "com/example/keylint/keylint/SqlType"), (.object "com/example/keylint/keylint/SqlType"), (.object "com/example/keylint/keylint/SqlType"), (.object "com/example/keylint/keylint/SqlType"), (.object "com/example/keylint/keylint/SqlType"), (.object "java/util/Map"), (.array (.object "com/example/keylint/keylint/SqlType"))]
  resolved := Array.replicate 175 none
  statics := some 0 }

def pool7 : Array CpInfo := pool [(1, u "java/lang/Cloneable"), (0, .class_ 1), (0, u "java/lang/Object"), (0, .class_ 3)] 3

/-- java/lang/Cloneable -/
def k7 : Class := { plain "java/lang/Cloneable" (some 0) with
  accessFlags := 1537
  interfaces := #[]
  cf := some (fileOf pool7 2 #[] #[] 1537 4 #[] #[])
  fields := #[]
  methods := #[]
  instanceTypes := #[]
  staticTypes := #[]
  resolved := Array.replicate 8 none
  statics := none }

/-- the primitive boolean -/
def k8 : Class := { plain "boolean" none with kind := .primitive 'Z', accessFlags := 0x411 }
/-- [Z -/
def k9 : Class := { plain "[Z" (some 0) with kind := .array 8 .boolean, interfaces := #[7, 4], accessFlags := 1041 }

/-- the primitive byte -/
def k10 : Class := { plain "byte" none with kind := .primitive 'B', accessFlags := 0x411 }
/-- [B -/
def k11 : Class := { plain "[B" (some 0) with kind := .array 10 .byte, interfaces := #[7, 4], accessFlags := 1041 }

/-- the primitive int -/
def k12 : Class := { plain "int" none with kind := .primitive 'I', accessFlags := 0x411 }
/-- [I -/
def k13 : Class := { plain "[I" (some 0) with kind := .array 12 .int, interfaces := #[7, 4], accessFlags := 1041 }

/-- [Lcom/example/keylint/keylint/SqlType; -/
def k14 : Class := { plain "[Lcom/example/keylint/keylint/SqlType;" (some 0) with kind := .array 6 (.object "com/example/keylint/keylint/SqlType"), interfaces := #[7, 4], accessFlags := 1041 }

def heap : Heap := #[{ cls := 6, slots := #[.ref 1, .ref 2, .ref 3, .ref 4, .ref 5, .ref 6, .ref 7, .ref 8, .ref 9, .ref 10, .ref 11, .ref 12, .ref 13, .ref 14, .ref 15, .ref 16, .ref 17, .ref 18, .ref 19, .null, .null], vm := .statics 6 },
  { cls := 6, slots := #[.null, .int 0, .int 0, .null], vm := .none },
  { cls := 6, slots := #[.null, .int 1, .int 0, .null], vm := .none },
  { cls := 6, slots := #[.null, .int 2, .int 0, .null], vm := .none },
  { cls := 6, slots := #[.null, .int 3, .int 0, .null], vm := .none },
  { cls := 6, slots := #[.null, .int 4, .int 0, .null], vm := .none },
  { cls := 6, slots := #[.null, .int 5, .int 0, .null], vm := .none },
  { cls := 6, slots := #[.null, .int 6, .int 0, .null], vm := .none },
  { cls := 6, slots := #[.null, .int 7, .int 0, .null], vm := .none },
  { cls := 6, slots := #[.null, .int 8, .int 0, .null], vm := .none },
  { cls := 6, slots := #[.null, .int 9, .int 0, .null], vm := .none },
  { cls := 6, slots := #[.null, .int 10, .int 0, .null], vm := .none },
  { cls := 6, slots := #[.null, .int 11, .int 0, .null], vm := .none },
  { cls := 6, slots := #[.null, .int 12, .int 0, .null], vm := .none },
  { cls := 6, slots := #[.null, .int 13, .int 0, .null], vm := .none },
  { cls := 6, slots := #[.null, .int 14, .int 0, .null], vm := .none },
  { cls := 6, slots := #[.null, .int 15, .int 0, .null], vm := .none },
  { cls := 6, slots := #[.null, .int 16, .int 0, .null], vm := .none },
  { cls := 6, slots := #[.null, .int 17, .int 0, .null], vm := .none },
  { cls := 6, slots := #[.null, .int 18, .int 0, .null], vm := .none }]
def classes : Array Class := #[k0, k1, k2, k3, k4, k5, k6, k7, k8, k9, k10, k11, k12, k13, k14]
def interned : List (Array UInt16 × Addr) := []
def slotsUsed : Nat := 97
def theMethod : MethodId := ⟨1, 1⟩
def args0 : Array Value := #[.int 5]
def aboutOver (below : List Frame) : State where
  vm := { classes := classes, interned := interned.toArray }
  heap := heap
  slotsUsed := slotsUsed
  threads := #[{ frames := .invoking theMethod args0 :: below }]
def below0 : List Frame := [.native { method := ⟨0, 0⟩, args := #[] }]
def about1 : State := aboutOver below0
def p0 : Program := .bare "" "" ""
def e0 : Env := launch0.env 0 0 0
theorem w_frames : about1.frames = Frame.invoking theMethod args0 :: below0 := rfl
set_option maxRecDepth 65536 in
theorem w_args : argsFit about1.vm theMethod args0 = true := by decide +kernel
set_option maxRecDepth 65536 in
theorem w_heap : heapFits about1 = true := by decide +kernel
set_option maxRecDepth 65536 in
theorem w_runnable : about1.curStatus? = some .runnable := by decide +kernel
set_option maxRecDepth 65536 in
theorem w_alone : about1.alone = true := by decide +kernel
set_option maxRecDepth 65536 in
theorem w_named : about1.methodNamed? x = some theMethod := by decide +kernel
set_option maxRecDepth 65536 in
theorem w_hears : about1.hears theMethod below0 = true := by decide +kernel
set_option maxRecDepth 65536 in
theorem w_ripe : about1.ripe theMethod args0 below0 = true := by decide +kernel
theorem w_running : about1.status = .running := rfl
set_option maxRecDepth 65536 in
theorem w_room : about1.hasRoom e0.platform room_1 = true :=
  launch0.hasRoom_least _ room_1 (by decide +kernel) (by decide +kernel) (by decide +kernel) (by decide +kernel) (by decide +kernel) (by decide +kernel)
theorem allAtoms_all (ts : List Jvm.Cond) (a : Array Jvm.Value) (st : Jvm.State) : (allAtoms ts).before a st = ts.all (fun c => c.before a st) := by
  induction ts with
  | nil => rfl
  | cons c t ih =>
    show (Jvm.Cond.and c (allAtoms t)).before a st = _
    rw [Jvm.Cond.before_and, ih, List.all_cons]
def words1 : List Jvm.Cond := Jvm.Cond.code x code maxLocals ret :: tables_1
/-- a 'code' word, met by the world's own term for the bytes: nothing is compared byte by byte -/
theorem code_word {y : MethodName} {bytes : ByteArray} {mx : Nat} {rt : Option FieldType} {a : Array Value} {s : State} {m : MethodId} {meth : Method} {c : Code} (h1 : s.methodNamed? y = some m) (h2 : s.vm.method? m = some meth) (h3 : meth.code = some c) (h4 : c.code = bytes)
    (h5 : (c.maxLocals == mx && c.exceptionTable.isEmpty && decide (c.maxStack ≤ mostOperands) && decide (meth.sig.returnType = rt) && !meth.locks && decide (parseMethodDescriptor y.desc = some meth.sig)) = true) : (Jvm.Cond.code y bytes mx rt).before a s = true := by
  simp only [Bool.and_eq_true, beq_iff_eq, Bool.not_eq_true', decide_eq_true_eq] at h5
  obtain ⟨⟨⟨⟨⟨g1, g2⟩, g3⟩, g4⟩, g5⟩, g6⟩ := h5
  simp [Cond.before, Cond.holds, Cond.value, h1, h2, h3, h4, g1, g2, g3, g4, g5, g6]
def isCode : Jvm.Cond → Bool
  | .code _ _ _ _ => true
  | _ => false
theorem all_split {L : List Jvm.Cond} {P : Jvm.Cond → Bool} (h1 : L.all (fun c => isCode c || P c) = true) (h2 : ∀ c ∈ L.filter isCode, P c = true) : L.all P = true := by
  refine List.all_eq_true.mpr fun c hc => ?_
  have h := List.all_eq_true.mp h1 c hc
  rcases Bool.eq_false_or_eq_true (isCode c) with hi | hi
  · exact h2 c (List.mem_filter.mpr ⟨hc, hi⟩)
  · simpa [hi] using h
set_option maxRecDepth 65536 in
theorem w_c0 : (Jvm.Cond.code x code maxLocals ret).before args0 about1 = true := code_word (m := ⟨1, 1⟩) (meth := k1m1) (c := k1c1) (by decide +kernel) rfl rfl rfl (by decide +kernel)
set_option maxRecDepth 65536 in
theorem w_c1 : (Jvm.Cond.code ({ cls := "com/example/keylint/keylint/SqlType", name := "isText", desc := "()Z" } : Jvm.MethodName) prog_69_method_8_code (1 : Nat) (Option.some Jvm.ClassFile.FieldType.boolean)).before args0 about1 = true := code_word (m := ⟨6, 0⟩) (meth := k6m0) (c := k6c0) (by decide +kernel) rfl rfl rfl (by decide +kernel)
def codes1 : List Jvm.Cond := [Jvm.Cond.code x code maxLocals ret, Jvm.Cond.code ({ cls := "com/example/keylint/keylint/SqlType", name := "isText", desc := "()Z" } : Jvm.MethodName) prog_69_method_8_code (1 : Nat) (Option.some Jvm.ClassFile.FieldType.boolean)]
set_option maxRecDepth 65536 in
theorem codes_eq : words1.filter isCode = codes1 := rfl
theorem w_codes : ∀ c ∈ words1.filter isCode, c.before args0 about1 = true := by
  rw [codes_eq]
  intro c hc
  simp only [codes1, List.mem_cons, List.not_mem_nil, or_false] at hc
  rcases hc with rfl | rfl
  · exact w_c0
  · exact w_c1
set_option maxRecDepth 65536 in
theorem w_t1 : (words1.take 24).all (fun c => isCode c || c.before args0 about1) = true := by decide +kernel
set_option maxRecDepth 65536 in
theorem w_t2 : ((words1.drop 24).take 24).all (fun c => isCode c || c.before args0 about1) = true := by decide +kernel
set_option maxRecDepth 65536 in
theorem w_t3 : ((words1.drop 24).drop 24).all (fun c => isCode c || c.before args0 about1) = true := by decide +kernel
theorem w_tables : (allAtoms (Jvm.Cond.code x code maxLocals ret :: tables_1)).before args0 about1 = true := by
  rw [allAtoms_all]
  show words1.all (fun c => c.before args0 about1) = true
  refine all_split ?_ w_codes
  rw [← List.take_append_drop 24 words1, List.all_append, w_t1, ← List.take_append_drop 24 (words1.drop 24), List.all_append, w_t2, w_t3]
  rfl
set_option maxRecDepth 65536 in
theorem w_case : (Jvm.Cond.and given_1 narrow_1).before args0 about1 = true := by decide +kernel
theorem w_applies : (headSpec (Jvm.Cond.code x code maxLocals ret :: tables_1) room_1).applies x e0.platform about1 = true :=
  (Spec.applies_iff w_frames).mpr ⟨w_running, w_runnable, w_alone, w_named, w_hears, w_ripe, w_room, w_tables⟩
theorem atStart : AtStart classFile x code maxLocals ret World_1 tables_1 room_1 Calls_1 rest_1 Pre_1 launch0 p0 e0 about1 theMethod args0 below0 :=
  ⟨lists_1, trivial, launch0.admits_env _ _ _, launch0.least_env, fairChoices_fair.cas, fairChoices_fair.clock, w_frames, w_args, w_heap, w_applies, trivial, trivial, w_case⟩
end start1
theorem witness_1 : WitnessClaimed_1 := ⟨start1.p0, start1.e0, start1.about1, start1.theMethod, start1.args0, start1.below0, start1.atStart⟩
end Jvm.Pilot.@@N@@
