import JvmDerived
import JvmDerived.Pilot.@@N@@Statement
import JvmDerived.Pilot.@@N@@Code
set_option linter.unusedVariables false
set_option linter.unusedSimpArgs false
namespace Jvm.RoadKit
open Sem ClassFile Op Lib Jvm.Stand Jvm.Free Jvm.LawKit
section New
variable {p : Program} {l : Launch} {e : Env} {R : Room} {s : State} {m : MethodId} {args : Array Value} {below : List Frame} {meth : Method} {c : Code} {T : State} {locs : List Loc} {cells slots : Nat}
theorem retI (X : Stand p l e R s m args below meth c T locs cells slots) (hx : p.tables.exec = Jvm.exec) {pc : Nat} {Ls : Array Slot} {z : Int32} {rest : List Value} (hret : meth.sig.returnType = some .int) (hd : decode c.code pc = .ok (.ireturn, 1)) {fs : List Frame}
    (hl : ∀ (f : JFrame) (acts : List Action), f.method = m → f.locked = none → f.entered = [] → (doReturn e (T.setTop f) acts (some (.int z))).1 = T.setFrames fs) : Steps p.tables e below (T.setTop (mkF m pc Ls (.int z :: rest))) (T.setFrames fs) := by
  have hm' : T.vm.method? m = some meth := X.method'
  have hn : narrow .int (.int z) = .int z := rfl
  show Steps p.tables e below (T.setTop { method := m, pc := pc, locals := Ls, stack := _ :: rest, locked := none }) _
  jvm_step X.here [X.here.top, hx, hd, hm', hret, hn]
  first | (intro acts; rw [hl _ acts rfl rfl rfl]) | rw [hl _ _ rfl rfl rfl]
  exact Steps.refl _
end New
end Jvm.RoadKit
namespace Jvm.Pilot.@@N@@
open Jvm Jvm.ClassFile Sem Op Lib Jvm.Free Jvm.Stand Jvm.LawKit Jvm.RoadKit Bundle Jvm.Pilot.@@N@@.Jvm.D
def QL (n0 : Nat) (v : Option Value) (h : Heap) (L : List Loc) : Prop := v = some (.int 1) ∧ Fr n0 L
theorem own_fldI {s : State} {args : Array Value} {t : Term} {C n d : String} {a : Addr} {k : Int32} (ht : t.eval args s none [] s = some (.ref a)) (h : (Jvm.Cond.eq (.field t C n d) (.int k)).value args s none s [] = some true) : Fld s s.heap a C n d (.int k) := by
  obtain ⟨x, y, e1, e2, k1, k2⟩ := cmp_v (Or.inl h)
  cases (Term.int_eval k).symm.trans e2
  obtain ⟨z, rfl⟩ := k2
  have e3 := e1
  rw [fld_at ht] at e3
  have q : (Jvm.Cond.eq (.field t C n d) (.int k)).value args s none s [] = some (decide (z = k)) := by simp [Cond.value, e1, Term.int_eval]
  rw [q] at h
  have hz : z = k := by simpa using h
  subst hz; exact Fld.start e3
theorem own_fldN {s : State} {args : Array Value} {t : Term} {C n d : String} {a : Addr} (ht : t.eval args s none [] s = some (.ref a)) (h : (Jvm.Cond.eq (.field t C n d) .null).value args s none s [] = some true) : Fld s s.heap a C n d .null :=
  Fld.start ((fld_at ht).symm.trans (null_v h))
theorem own_fldR {s : State} {args : Array Value} {t u : Term} {C n d : String} {a b : Addr} (ht : t.eval args s none [] s = some (.ref a)) (hu : u.eval args s none [] s = some (.ref b)) (h : (Jvm.Cond.eq (.field t C n d) u).value args s none s [] = some true) : Fld s s.heap a C n d (.ref b) := by
  obtain ⟨x, y, e1, e2, k1, k2⟩ := cmp_v (Or.inl h)
  cases hu.symm.trans e2
  have e3 := e1
  rw [fld_at ht] at e3
  have hx : x.isRef = true := k2.2
  have q := eq_R e1 hu hx rfl
  rw [q] at h
  have hz : x = .ref b := by simpa using h
  subst hz; exact Fld.start e3
def OwnEnv (Z : State) (a_TEXT a_INTEGER a_DECIMAL a_DATE a_BOOLEAN : Addr) : Prop := Sta Z Z.heap "com/example/abir/abir/ColumnType" "TEXT" "Lcom/example/abir/abir/ColumnType;" (.ref a_TEXT) ∧ Exa Z Z.heap a_TEXT "com/example/abir/abir/ColumnType" ∧ Sta Z Z.heap "com/example/abir/abir/ColumnType" "INTEGER" "Lcom/example/abir/abir/ColumnType;" (.ref a_INTEGER) ∧ Exa Z Z.heap a_INTEGER "com/example/abir/abir/ColumnType" ∧ Sta Z Z.heap "com/example/abir/abir/ColumnType" "DECIMAL" "Lcom/example/abir/abir/ColumnType;" (.ref a_DECIMAL) ∧ Exa Z Z.heap a_DECIMAL "com/example/abir/abir/ColumnType" ∧ Sta Z Z.heap "com/example/abir/abir/ColumnType" "DATE" "Lcom/example/abir/abir/ColumnType;" (.ref a_DATE) ∧ Exa Z Z.heap a_DATE "com/example/abir/abir/ColumnType" ∧ Sta Z Z.heap "com/example/abir/abir/ColumnType" "BOOLEAN" "Lcom/example/abir/abir/ColumnType;" (.ref a_BOOLEAN) ∧ Exa Z Z.heap a_BOOLEAN "com/example/abir/abir/ColumnType" ∧ Fld Z Z.heap a_TEXT "java/lang/Enum" "ordinal" "I" (.int (0 : Int32)) ∧ Fld Z Z.heap a_INTEGER "java/lang/Enum" "ordinal" "I" (.int (1 : Int32)) ∧ Fld Z Z.heap a_DECIMAL "java/lang/Enum" "ordinal" "I" (.int (2 : Int32)) ∧ Fld Z Z.heap a_DATE "java/lang/Enum" "ordinal" "I" (.int (3 : Int32)) ∧ Fld Z Z.heap a_BOOLEAN "java/lang/Enum" "ordinal" "I" (.int (4 : Int32))
theorem own_k (x : Int32) : ((x &&& (2147483647 : Int32)) % (5 : Int32)) = (0 : Int32) ∨ ((x &&& (2147483647 : Int32)) % (5 : Int32)) = (1 : Int32) ∨ ((x &&& (2147483647 : Int32)) % (5 : Int32)) = (2 : Int32) ∨ ((x &&& (2147483647 : Int32)) % (5 : Int32)) = (3 : Int32) ∨ ((x &&& (2147483647 : Int32)) % (5 : Int32)) = (4 : Int32) := by
  have h1 := c_mask x 2147483647 31 (by decide) (by decide)
  have h2 := (c_irem (x &&& 2147483647) 5 5 (by decide)).1 (by omega)
  simp only [← Int32.toInt_inj]
  have e0 : (0 : Int32).toInt = 0 := rfl
  have e1 : (1 : Int32).toInt = 1 := rfl
  have e2 : (2 : Int32).toInt = 2 := rfl
  have e3 : (3 : Int32).toInt = 3 := rfl
  have e4 : (4 : Int32).toInt = 4 := rfl
  omega
def Q_rm_pick_1 (a_TEXT a_INTEGER a_DECIMAL a_DATE a_BOOLEAN : Addr) (h0 : Heap) (n0 : Nat) (v : Option Value) (h : Heap) (L : List Loc) : Prop := v = some (.ref a_TEXT) ∧ Fr n0 L ∧ h = h0
theorem pn_0 : plainName "com/example/abir/abir/ColumnTypeNumericPinLaw" = true := by first | (simp [plainName, overriddenIn]; done) | decide +kernel
theorem ef_0 (m : MethodId) (x0 : Int32) : entryFrame m #[(.int x0)] maxLocals = mkF m 0 #[.val (.int x0), .unset, .unset, .unset] [] := by first | (simp [entryFrame, mkF, argsToLocals, Value.category, maxLocals]; done) | rfl
theorem ef_1 (m : MethodId) (x0 : Int32) : entryFrame m #[(.int x0)] 1 = mkF m 0 #[.val (.int x0)] [] := by first | (simp [entryFrame, mkF, argsToLocals, Value.category]; done) | rfl
theorem dc0_0 : decode method_2_code 0 = .ok (.iload_n 0, 1) := by decide +kernel
theorem dc0_1 : decode method_2_code 1 = .ok (.ifCond .ne 7, 3) := by decide +kernel
theorem dc0_4 : decode method_2_code 4 = .ok (.getstatic 7, 3) := by decide +kernel
theorem dc0_7 : decode method_2_code 7 = .ok (.areturn, 1) := by decide +kernel
set_option maxRecDepth 65536 in
set_option maxHeartbeats 40000000 in
theorem rm_pick_1 (l : Launch) (Z : State) (a0 : Array Value) (hw : ∀ d ∈ tables_1, d.before a0 Z = true) (ws : List Jvm.Cond) (a_TEXT a_INTEGER a_DECIMAL a_DATE a_BOOLEAN : Addr) (h0 : Heap) (n0 : Nat) (O0 : Old Z n0 h0) (En : OwnEnv Z a_TEXT a_INTEGER a_DECIMAL a_DATE a_BOOLEAN) :
    MetFree l (⟨"com/example/abir/abir/ColumnTypeNumericPinLaw", "pick", "(I)Lcom/example/abir/abir/ColumnType;"⟩ : MethodName) (head1 (Jvm.Cond.code (⟨"com/example/abir/abir/ColumnTypeNumericPinLaw", "pick", "(I)Lcom/example/abir/abir/ColumnType;"⟩ : MethodName) method_2_code 1 (some (.object "com/example/abir/abir/ColumnType")) :: ws) ({ frames := 0, cells := 0, slots := 0, locals := 0 } : Room)) (fun a U => a = #[(.int (0 : Int32))] ∧ Z.Warmed39 U.vm ∧ U.heap = h0) (fun _ _ _ _ _ => True) (fun _ U o U' => ∃ v L, o = .returned v ∧ Q_rm_pick_1 a_TEXT a_INTEGER a_DECIMAL a_DATE a_BOOLEAN h0 n0 v U'.heap L ∧ FrameEnd U o U' L ({ frames := 0, cells := 0, slots := 0, locals := 0 } : Room).cells ({ frames := 0, cells := 0, slots := 0, locals := 0 } : Room).slots) := by
  refine MetFree.of_bodySF (plainFor_of_name pn_0) hisR ?_
  intro p e s m args below meth c s₁ Bd hml0 hP hK
  obtain ⟨rfl, hZ, hh⟩ := hP
  have hx := Bd.exec
  have hby := Bd.bytes
  have hml : c.maxLocals = 1 := hml0
  have hown : s.vm.findClass "com/example/abir/abir/ColumnTypeNumericPinLaw" = some m.cls := findClass_of_methodNamed Bd.named
  have hnm := (name_of_methodNamed Bd.named Bd.method).1
  have X0 : Stand p l e ({ frames := 0, cells := 0, slots := 0, locals := 0 } : Room) s m #[(.int (0 : Int32))] below meth c s₁ [] 0 0 := Stand.of_body Bd
  have e0 : s₁.heap = h0 := by rw [← hh, Bd.state]; rfl
  have N0 := Fr.nil n0
  have pre0 : ∀ t, Steps p.tables e below (s₁.setTop (mkF m 0 #[.val (.int (0 : Int32))] [])) t → Steps p.tables e below (s₁.setTop (entryFrame m #[(.int (0 : Int32))] 1)) t := fun t k => castTop (ef_1 m (0 : Int32)) k
  obtain ⟨S_a_TEXT, X_a_TEXT, S_a_INTEGER, X_a_INTEGER, S_a_DECIMAL, X_a_DECIMAL, S_a_DATE, X_a_DATE, S_a_BOOLEAN, X_a_BOOLEAN, F_a_TEXT_ordinal, F_a_INTEGER_ordinal, F_a_DECIMAL_ordinal, F_a_DATE_ordinal, F_a_BOOLEAN_ordinal⟩ := id En
  obtain ⟨T1, X1, e1, st1⟩ := getS2 X0 hx hZ hown (host := "") (Or.inl (hw _ (List.mem_of_getElem? (i := 5) rfl))) Via.refl e0 (Sta.ext O0.2 S_a_TEXT) (g := (mkF m 4 #[.val (.int (0 : Int32))] [])) rfl (hb hby dc0_4)
  obtain ⟨fs, hr, hrun, hended, hW, hsame⟩ := X1.leave (v := some (.ref a_TEXT)) (fun h => by rw [Bd.returns] at h; cases h)
  refine ⟨_, _, pre0 _ ?_, hrun, hended, _, _, rfl, ?_, ⟨_, rfl⟩, hW, hsame.mono (by decide) (by decide)⟩
  · skip
    show Steps p.tables e below (s₁.setTop (mkF m 0 #[.val (.int (0 : Int32))] [])) _
    refine XS.iloadN X0.here hx rfl (hb hby dc0_0) rfl ?_
    show Steps p.tables e below (s₁.setTop (mkF m 1 #[.val (.int (0 : Int32))] [(.int (0 : Int32))])) _
    refine XS.ifNo X0.here hx rfl (hb hby dc0_1) rfl (by decide) ?_
    show Steps p.tables e below (s₁.setTop (mkF m 4 #[.val (.int (0 : Int32))] [])) _
    refine st1 _ ?_
    show Steps p.tables e below (T1.setTop (mkF m 7 #[.val (.int (0 : Int32))] [(.ref a_TEXT)])) _
    exact retOut X1 hx (t := (.object "com/example/abir/abir/ColumnType")) Bd.returns rfl (Or.inr (Or.inr (Or.inr (Or.inr ⟨rfl, rfl, rfl⟩)))) (hb hby dc0_7) hr
  · show Q_rm_pick_1 a_TEXT a_INTEGER a_DECIMAL a_DATE a_BOOLEAN h0 n0 _ T1.heap _
    rw [e1]
    exact ⟨rfl, N0, rfl⟩
def Q_rm_numeric_2 (a_TEXT a_INTEGER a_DECIMAL a_DATE a_BOOLEAN : Addr) (h0 : Heap) (n0 : Nat) (v : Option Value) (h : Heap) (L : List Loc) : Prop := v = some (.int (0 : Int32)) ∧ Fr n0 L ∧ h = h0
theorem pd_0 : parseMethodDescriptor "(I)Lcom/example/abir/abir/ColumnType;" = some ⟨[.int], some (.object "com/example/abir/abir/ColumnType")⟩ := by decide +kernel
theorem pn_1 : plainName "com/example/abir/abir/ColumnType" = true := by first | (simp [plainName, overriddenIn]; done) | decide +kernel
theorem ef_2 (m : MethodId) (x0 : Addr) : entryFrame m #[(.ref x0)] 1 = mkF m 0 #[.val (.ref x0)] [] := by first | (simp [entryFrame, mkF, argsToLocals, Value.category]; done) | rfl
theorem dc1_0 : decode prog_4_method_5_code 0 = .ok (.aload_n 0, 1) := by decide +kernel
theorem dc1_1 : decode prog_4_method_5_code 1 = .ok (.getstatic 7, 3) := by decide +kernel
theorem dc1_4 : decode prog_4_method_5_code 4 = .ok (.if_acmp .eq 10, 3) := by decide +kernel
theorem dc1_7 : decode prog_4_method_5_code 7 = .ok (.aload_n 0, 1) := by decide +kernel
theorem dc1_8 : decode prog_4_method_5_code 8 = .ok (.getstatic 10, 3) := by decide +kernel
theorem dc1_11 : decode prog_4_method_5_code 11 = .ok (.if_acmp .ne 7, 3) := by decide +kernel
theorem dc1_18 : decode prog_4_method_5_code 18 = .ok (.iconst 0, 1) := by decide +kernel
theorem dc1_19 : decode prog_4_method_5_code 19 = .ok (.ireturn, 1) := by decide +kernel
set_option maxRecDepth 65536 in
set_option maxHeartbeats 40000000 in
theorem rm_numeric_2 (l : Launch) (Z : State) (a0 : Array Value) (hw : ∀ d ∈ tables_1, d.before a0 Z = true) (ws : List Jvm.Cond) (a_TEXT a_INTEGER a_DECIMAL a_DATE a_BOOLEAN : Addr) (h0 : Heap) (n0 : Nat) (O0 : Old Z n0 h0) (En : OwnEnv Z a_TEXT a_INTEGER a_DECIMAL a_DATE a_BOOLEAN) :
    MetFree l (⟨"com/example/abir/abir/ColumnType", "numeric", "()Z"⟩ : MethodName) (head1 (Jvm.Cond.code (⟨"com/example/abir/abir/ColumnType", "numeric", "()Z"⟩ : MethodName) prog_4_method_5_code 1 (some .boolean) :: ws) ({ frames := 0, cells := 0, slots := 0, locals := 0 } : Room)) (fun a U => a = #[(.ref a_TEXT)] ∧ Z.Warmed39 U.vm ∧ U.heap = h0) (fun _ _ _ _ _ => True) (fun _ U o U' => ∃ v L, o = .returned v ∧ Q_rm_numeric_2 a_TEXT a_INTEGER a_DECIMAL a_DATE a_BOOLEAN h0 n0 v U'.heap L ∧ FrameEnd U o U' L ({ frames := 0, cells := 0, slots := 0, locals := 0 } : Room).cells ({ frames := 0, cells := 0, slots := 0, locals := 0 } : Room).slots) := by
  refine MetFree.of_bodySF (plainFor_of_name pn_1) hisR ?_
  intro p e s m args below meth c s₁ Bd hml0 hP hK
  obtain ⟨rfl, hZ, hh⟩ := hP
  have hx := Bd.exec
  have hby := Bd.bytes
  have hml : c.maxLocals = 1 := hml0
  have hown : s.vm.findClass "com/example/abir/abir/ColumnType" = some m.cls := findClass_of_methodNamed Bd.named
  have hnm := (name_of_methodNamed Bd.named Bd.method).1
  have X0 : Stand p l e ({ frames := 0, cells := 0, slots := 0, locals := 0 } : Room) s m #[(.ref a_TEXT)] below meth c s₁ [] 0 0 := Stand.of_body Bd
  have e0 : s₁.heap = h0 := by rw [← hh, Bd.state]; rfl
  have N0 := Fr.nil n0
  have pre0 : ∀ t, Steps p.tables e below (s₁.setTop (mkF m 0 #[.val (.ref a_TEXT)] [])) t → Steps p.tables e below (s₁.setTop (entryFrame m #[(.ref a_TEXT)] 1)) t := fun t k => castTop (ef_2 m a_TEXT) k
  obtain ⟨S_a_TEXT, X_a_TEXT, S_a_INTEGER, X_a_INTEGER, S_a_DECIMAL, X_a_DECIMAL, S_a_DATE, X_a_DATE, S_a_BOOLEAN, X_a_BOOLEAN, F_a_TEXT_ordinal, F_a_INTEGER_ordinal, F_a_DECIMAL_ordinal, F_a_DATE_ordinal, F_a_BOOLEAN_ordinal⟩ := id En
  obtain ⟨T1, X1, e1, st1⟩ := getS2 X0 hx hZ hown (host := "") (Or.inl (hw _ (List.mem_of_getElem? (i := 13) rfl))) Via.refl e0 (Sta.ext O0.2 S_a_INTEGER) (g := (mkF m 1 #[.val (.ref a_TEXT)] [(.ref a_TEXT)])) rfl (hb hby dc1_1)
  obtain ⟨T2, X2, e2, st2⟩ := getS2 X1 hx hZ hown (host := "") (Or.inl (hw _ (List.mem_of_getElem? (i := 15) rfl))) Via.refl e1 (Sta.ext O0.2 S_a_DECIMAL) (g := (mkF m 8 #[.val (.ref a_TEXT)] [(.ref a_TEXT)])) rfl (hb hby dc1_8)
  obtain ⟨fs, hr, hrun, hended, hW, hsame⟩ := X2.leave (v := some (.int (0 : Int32))) (fun h => by rw [Bd.returns] at h; cases h)
  refine ⟨_, _, pre0 _ ?_, hrun, hended, _, _, rfl, ?_, ⟨_, rfl⟩, hW, hsame.mono (by decide) (by decide)⟩
  · skip
    show Steps p.tables e below (s₁.setTop (mkF m 0 #[.val (.ref a_TEXT)] [])) _
    refine XS.aloadN X0.here hx rfl (hb hby dc1_0) rfl rfl ?_
    show Steps p.tables e below (s₁.setTop (mkF m 1 #[.val (.ref a_TEXT)] [(.ref a_TEXT)])) _
    refine st1 _ ?_
    show Steps p.tables e below (T1.setTop (mkF m 4 #[.val (.ref a_TEXT)] [(.ref a_INTEGER), (.ref a_TEXT)])) _
    refine Jvm.RoadKit.acmp (g := (mkF m 4 #[.val (.ref a_TEXT)] [(.ref a_INTEGER), (.ref a_TEXT)])) X1 hx rfl rfl rfl (pc0 := 4) (pc' := 7) (same := false) rfl (hb hby dc1_4) rfl (decide_eq_false fun q => (Fld.ne F_a_TEXT_ordinal F_a_INTEGER_ordinal (by simp)) (Value.ref.inj q)) (by decide) (by decide) ?_
    show Steps p.tables e below (T1.setTop (mkF m 7 #[.val (.ref a_TEXT)] [])) _
    refine XS.aloadN X1.here hx rfl (hb hby dc1_7) rfl rfl ?_
    show Steps p.tables e below (T1.setTop (mkF m 8 #[.val (.ref a_TEXT)] [(.ref a_TEXT)])) _
    refine st2 _ ?_
    show Steps p.tables e below (T2.setTop (mkF m 11 #[.val (.ref a_TEXT)] [(.ref a_DECIMAL), (.ref a_TEXT)])) _
    refine Jvm.RoadKit.acmp (g := (mkF m 11 #[.val (.ref a_TEXT)] [(.ref a_DECIMAL), (.ref a_TEXT)])) X2 hx rfl rfl rfl (pc0 := 11) (pc' := 18) (same := false) rfl (hb hby dc1_11) rfl (decide_eq_false fun q => (Fld.ne F_a_TEXT_ordinal F_a_DECIMAL_ordinal (by simp)) (Value.ref.inj q)) (by decide) (by decide) ?_
    show Steps p.tables e below (T2.setTop (mkF m 18 #[.val (.ref a_TEXT)] [])) _
    refine XS.iconst X2.here hx rfl (hb hby dc1_18) ?_
    show Steps p.tables e below (T2.setTop (mkF m 19 #[.val (.ref a_TEXT)] [(.int (0 : Int32))])) _
    exact retN X2 hx (t := .boolean) Bd.returns (by simp) (hb hby dc1_19) hr
  · show Q_rm_numeric_2 a_TEXT a_INTEGER a_DECIMAL a_DATE a_BOOLEAN h0 n0 _ T2.heap _
    rw [e2]
    exact ⟨rfl, N0, rfl⟩
def Q_rm_pick_3 (a_TEXT a_INTEGER a_DECIMAL a_DATE a_BOOLEAN : Addr) (h0 : Heap) (n0 : Nat) (v : Option Value) (h : Heap) (L : List Loc) : Prop := v = some (.ref a_INTEGER) ∧ Fr n0 L ∧ h = h0
theorem pd_1 : parseMethodDescriptor "()Z" = some ⟨[], some .boolean⟩ := by decide +kernel
theorem dc0_8 : decode method_2_code 8 = .ok (.iload_n 0, 1) := by decide +kernel
theorem dc0_9 : decode method_2_code 9 = .ok (.iconst 1, 1) := by decide +kernel
theorem dc0_10 : decode method_2_code 10 = .ok (.if_icmp .ne 7, 3) := by decide +kernel
theorem dc0_13 : decode method_2_code 13 = .ok (.getstatic 13, 3) := by decide +kernel
theorem dc0_16 : decode method_2_code 16 = .ok (.areturn, 1) := by decide +kernel
set_option maxRecDepth 65536 in
set_option maxHeartbeats 40000000 in
theorem rm_pick_3 (l : Launch) (Z : State) (a0 : Array Value) (hw : ∀ d ∈ tables_1, d.before a0 Z = true) (ws : List Jvm.Cond) (a_TEXT a_INTEGER a_DECIMAL a_DATE a_BOOLEAN : Addr) (h0 : Heap) (n0 : Nat) (O0 : Old Z n0 h0) (En : OwnEnv Z a_TEXT a_INTEGER a_DECIMAL a_DATE a_BOOLEAN) :
    MetFree l (⟨"com/example/abir/abir/ColumnTypeNumericPinLaw", "pick", "(I)Lcom/example/abir/abir/ColumnType;"⟩ : MethodName) (head1 (Jvm.Cond.code (⟨"com/example/abir/abir/ColumnTypeNumericPinLaw", "pick", "(I)Lcom/example/abir/abir/ColumnType;"⟩ : MethodName) method_2_code 1 (some (.object "com/example/abir/abir/ColumnType")) :: ws) ({ frames := 0, cells := 0, slots := 0, locals := 0 } : Room)) (fun a U => a = #[(.int (1 : Int32))] ∧ Z.Warmed39 U.vm ∧ U.heap = h0) (fun _ _ _ _ _ => True) (fun _ U o U' => ∃ v L, o = .returned v ∧ Q_rm_pick_3 a_TEXT a_INTEGER a_DECIMAL a_DATE a_BOOLEAN h0 n0 v U'.heap L ∧ FrameEnd U o U' L ({ frames := 0, cells := 0, slots := 0, locals := 0 } : Room).cells ({ frames := 0, cells := 0, slots := 0, locals := 0 } : Room).slots) := by
  refine MetFree.of_bodySF (plainFor_of_name pn_0) hisR ?_
  intro p e s m args below meth c s₁ Bd hml0 hP hK
  obtain ⟨rfl, hZ, hh⟩ := hP
  have hx := Bd.exec
  have hby := Bd.bytes
  have hml : c.maxLocals = 1 := hml0
  have hown : s.vm.findClass "com/example/abir/abir/ColumnTypeNumericPinLaw" = some m.cls := findClass_of_methodNamed Bd.named
  have hnm := (name_of_methodNamed Bd.named Bd.method).1
  have X0 : Stand p l e ({ frames := 0, cells := 0, slots := 0, locals := 0 } : Room) s m #[(.int (1 : Int32))] below meth c s₁ [] 0 0 := Stand.of_body Bd
  have e0 : s₁.heap = h0 := by rw [← hh, Bd.state]; rfl
  have N0 := Fr.nil n0
  have pre0 : ∀ t, Steps p.tables e below (s₁.setTop (mkF m 0 #[.val (.int (1 : Int32))] [])) t → Steps p.tables e below (s₁.setTop (entryFrame m #[(.int (1 : Int32))] 1)) t := fun t k => castTop (ef_1 m (1 : Int32)) k
  obtain ⟨S_a_TEXT, X_a_TEXT, S_a_INTEGER, X_a_INTEGER, S_a_DECIMAL, X_a_DECIMAL, S_a_DATE, X_a_DATE, S_a_BOOLEAN, X_a_BOOLEAN, F_a_TEXT_ordinal, F_a_INTEGER_ordinal, F_a_DECIMAL_ordinal, F_a_DATE_ordinal, F_a_BOOLEAN_ordinal⟩ := id En
  obtain ⟨T1, X1, e1, st1⟩ := getS2 X0 hx hZ hown (host := "") (Or.inl (hw _ (List.mem_of_getElem? (i := 19) rfl))) Via.refl e0 (Sta.ext O0.2 S_a_INTEGER) (g := (mkF m 13 #[.val (.int (1 : Int32))] [])) rfl (hb hby dc0_13)
  obtain ⟨fs, hr, hrun, hended, hW, hsame⟩ := X1.leave (v := some (.ref a_INTEGER)) (fun h => by rw [Bd.returns] at h; cases h)
  refine ⟨_, _, pre0 _ ?_, hrun, hended, _, _, rfl, ?_, ⟨_, rfl⟩, hW, hsame.mono (by decide) (by decide)⟩
  · skip
    show Steps p.tables e below (s₁.setTop (mkF m 0 #[.val (.int (1 : Int32))] [])) _
    refine XS.iloadN X0.here hx rfl (hb hby dc0_0) rfl ?_
    show Steps p.tables e below (s₁.setTop (mkF m 1 #[.val (.int (1 : Int32))] [(.int (1 : Int32))])) _
    refine XS.ifYes X0.here hx rfl (pc0 := 1) (pc' := 8) rfl (hb hby dc0_1) rfl (by decide) (by decide) (by decide) ?_
    show Steps p.tables e below (s₁.setTop (mkF m 8 #[.val (.int (1 : Int32))] [])) _
    refine XS.iloadN X0.here hx rfl (hb hby dc0_8) rfl ?_
    show Steps p.tables e below (s₁.setTop (mkF m 9 #[.val (.int (1 : Int32))] [(.int (1 : Int32))])) _
    refine XS.iconst X0.here hx rfl (hb hby dc0_9) ?_
    show Steps p.tables e below (s₁.setTop (mkF m 10 #[.val (.int (1 : Int32))] [(.int (1 : Int32)), (.int (1 : Int32))])) _
    refine XS.icmpNo X0.here hx rfl (hb hby dc0_10) rfl (by decide) ?_
    show Steps p.tables e below (s₁.setTop (mkF m 13 #[.val (.int (1 : Int32))] [])) _
    refine st1 _ ?_
    show Steps p.tables e below (T1.setTop (mkF m 16 #[.val (.int (1 : Int32))] [(.ref a_INTEGER)])) _
    exact retOut X1 hx (t := (.object "com/example/abir/abir/ColumnType")) Bd.returns rfl (Or.inr (Or.inr (Or.inr (Or.inr ⟨rfl, rfl, rfl⟩)))) (hb hby dc0_16) hr
  · show Q_rm_pick_3 a_TEXT a_INTEGER a_DECIMAL a_DATE a_BOOLEAN h0 n0 _ T1.heap _
    rw [e1]
    exact ⟨rfl, N0, rfl⟩
def Q_rm_numeric_4 (a_TEXT a_INTEGER a_DECIMAL a_DATE a_BOOLEAN : Addr) (h0 : Heap) (n0 : Nat) (v : Option Value) (h : Heap) (L : List Loc) : Prop := v = some (.int (1 : Int32)) ∧ Fr n0 L ∧ h = h0
theorem dc1_14 : decode prog_4_method_5_code 14 = .ok (.iconst 1, 1) := by decide +kernel
theorem dc1_15 : decode prog_4_method_5_code 15 = .ok (.goto 4, 3) := by decide +kernel
set_option maxRecDepth 65536 in
set_option maxHeartbeats 40000000 in
theorem rm_numeric_4 (l : Launch) (Z : State) (a0 : Array Value) (hw : ∀ d ∈ tables_1, d.before a0 Z = true) (ws : List Jvm.Cond) (a_TEXT a_INTEGER a_DECIMAL a_DATE a_BOOLEAN : Addr) (h0 : Heap) (n0 : Nat) (O0 : Old Z n0 h0) (En : OwnEnv Z a_TEXT a_INTEGER a_DECIMAL a_DATE a_BOOLEAN) :
    MetFree l (⟨"com/example/abir/abir/ColumnType", "numeric", "()Z"⟩ : MethodName) (head1 (Jvm.Cond.code (⟨"com/example/abir/abir/ColumnType", "numeric", "()Z"⟩ : MethodName) prog_4_method_5_code 1 (some .boolean) :: ws) ({ frames := 0, cells := 0, slots := 0, locals := 0 } : Room)) (fun a U => a = #[(.ref a_INTEGER)] ∧ Z.Warmed39 U.vm ∧ U.heap = h0) (fun _ _ _ _ _ => True) (fun _ U o U' => ∃ v L, o = .returned v ∧ Q_rm_numeric_4 a_TEXT a_INTEGER a_DECIMAL a_DATE a_BOOLEAN h0 n0 v U'.heap L ∧ FrameEnd U o U' L ({ frames := 0, cells := 0, slots := 0, locals := 0 } : Room).cells ({ frames := 0, cells := 0, slots := 0, locals := 0 } : Room).slots) := by
  refine MetFree.of_bodySF (plainFor_of_name pn_1) hisR ?_
  intro p e s m args below meth c s₁ Bd hml0 hP hK
  obtain ⟨rfl, hZ, hh⟩ := hP
  have hx := Bd.exec
  have hby := Bd.bytes
  have hml : c.maxLocals = 1 := hml0
  have hown : s.vm.findClass "com/example/abir/abir/ColumnType" = some m.cls := findClass_of_methodNamed Bd.named
  have hnm := (name_of_methodNamed Bd.named Bd.method).1
  have X0 : Stand p l e ({ frames := 0, cells := 0, slots := 0, locals := 0 } : Room) s m #[(.ref a_INTEGER)] below meth c s₁ [] 0 0 := Stand.of_body Bd
  have e0 : s₁.heap = h0 := by rw [← hh, Bd.state]; rfl
  have N0 := Fr.nil n0
  have pre0 : ∀ t, Steps p.tables e below (s₁.setTop (mkF m 0 #[.val (.ref a_INTEGER)] [])) t → Steps p.tables e below (s₁.setTop (entryFrame m #[(.ref a_INTEGER)] 1)) t := fun t k => castTop (ef_2 m a_INTEGER) k
  obtain ⟨S_a_TEXT, X_a_TEXT, S_a_INTEGER, X_a_INTEGER, S_a_DECIMAL, X_a_DECIMAL, S_a_DATE, X_a_DATE, S_a_BOOLEAN, X_a_BOOLEAN, F_a_TEXT_ordinal, F_a_INTEGER_ordinal, F_a_DECIMAL_ordinal, F_a_DATE_ordinal, F_a_BOOLEAN_ordinal⟩ := id En
  obtain ⟨T1, X1, e1, st1⟩ := getS2 X0 hx hZ hown (host := "") (Or.inl (hw _ (List.mem_of_getElem? (i := 13) rfl))) Via.refl e0 (Sta.ext O0.2 S_a_INTEGER) (g := (mkF m 1 #[.val (.ref a_INTEGER)] [(.ref a_INTEGER)])) rfl (hb hby dc1_1)
  obtain ⟨fs, hr, hrun, hended, hW, hsame⟩ := X1.leave (v := some (.int (1 : Int32))) (fun h => by rw [Bd.returns] at h; cases h)
  refine ⟨_, _, pre0 _ ?_, hrun, hended, _, _, rfl, ?_, ⟨_, rfl⟩, hW, hsame.mono (by decide) (by decide)⟩
  · skip
    show Steps p.tables e below (s₁.setTop (mkF m 0 #[.val (.ref a_INTEGER)] [])) _
    refine XS.aloadN X0.here hx rfl (hb hby dc1_0) rfl rfl ?_
    show Steps p.tables e below (s₁.setTop (mkF m 1 #[.val (.ref a_INTEGER)] [(.ref a_INTEGER)])) _
    refine st1 _ ?_
    show Steps p.tables e below (T1.setTop (mkF m 4 #[.val (.ref a_INTEGER)] [(.ref a_INTEGER), (.ref a_INTEGER)])) _
    refine Jvm.RoadKit.acmp (g := (mkF m 4 #[.val (.ref a_INTEGER)] [(.ref a_INTEGER), (.ref a_INTEGER)])) X1 hx rfl rfl rfl (pc0 := 4) (pc' := 14) (same := true) rfl (hb hby dc1_4) rfl (decide_eq_true rfl) (by decide) (by decide) ?_
    show Steps p.tables e below (T1.setTop (mkF m 14 #[.val (.ref a_INTEGER)] [])) _
    refine XS.iconst X1.here hx rfl (hb hby dc1_14) ?_
    show Steps p.tables e below (T1.setTop (mkF m 15 #[.val (.ref a_INTEGER)] [(.int (1 : Int32))])) _
    refine XS.goto X1.here hx rfl (pc0 := 15) (pc' := 19) rfl (hb hby dc1_15) (by decide) (by decide) ?_
    show Steps p.tables e below (T1.setTop (mkF m 19 #[.val (.ref a_INTEGER)] [(.int (1 : Int32))])) _
    exact retN X1 hx (t := .boolean) Bd.returns (by simp) (hb hby dc1_19) hr
  · show Q_rm_numeric_4 a_TEXT a_INTEGER a_DECIMAL a_DATE a_BOOLEAN h0 n0 _ T1.heap _
    rw [e1]
    exact ⟨rfl, N0, rfl⟩
def Q_rm_pick_5 (a_TEXT a_INTEGER a_DECIMAL a_DATE a_BOOLEAN : Addr) (h0 : Heap) (n0 : Nat) (v : Option Value) (h : Heap) (L : List Loc) : Prop := v = some (.ref a_DECIMAL) ∧ Fr n0 L ∧ h = h0
theorem dc0_17 : decode method_2_code 17 = .ok (.iload_n 0, 1) := by decide +kernel
theorem dc0_18 : decode method_2_code 18 = .ok (.iconst 2, 1) := by decide +kernel
theorem dc0_19 : decode method_2_code 19 = .ok (.if_icmp .ne 7, 3) := by decide +kernel
theorem dc0_22 : decode method_2_code 22 = .ok (.getstatic 16, 3) := by decide +kernel
theorem dc0_25 : decode method_2_code 25 = .ok (.areturn, 1) := by decide +kernel
set_option maxRecDepth 65536 in
set_option maxHeartbeats 40000000 in
theorem rm_pick_5 (l : Launch) (Z : State) (a0 : Array Value) (hw : ∀ d ∈ tables_1, d.before a0 Z = true) (ws : List Jvm.Cond) (a_TEXT a_INTEGER a_DECIMAL a_DATE a_BOOLEAN : Addr) (h0 : Heap) (n0 : Nat) (O0 : Old Z n0 h0) (En : OwnEnv Z a_TEXT a_INTEGER a_DECIMAL a_DATE a_BOOLEAN) :
    MetFree l (⟨"com/example/abir/abir/ColumnTypeNumericPinLaw", "pick", "(I)Lcom/example/abir/abir/ColumnType;"⟩ : MethodName) (head1 (Jvm.Cond.code (⟨"com/example/abir/abir/ColumnTypeNumericPinLaw", "pick", "(I)Lcom/example/abir/abir/ColumnType;"⟩ : MethodName) method_2_code 1 (some (.object "com/example/abir/abir/ColumnType")) :: ws) ({ frames := 0, cells := 0, slots := 0, locals := 0 } : Room)) (fun a U => a = #[(.int (2 : Int32))] ∧ Z.Warmed39 U.vm ∧ U.heap = h0) (fun _ _ _ _ _ => True) (fun _ U o U' => ∃ v L, o = .returned v ∧ Q_rm_pick_5 a_TEXT a_INTEGER a_DECIMAL a_DATE a_BOOLEAN h0 n0 v U'.heap L ∧ FrameEnd U o U' L ({ frames := 0, cells := 0, slots := 0, locals := 0 } : Room).cells ({ frames := 0, cells := 0, slots := 0, locals := 0 } : Room).slots) := by
  refine MetFree.of_bodySF (plainFor_of_name pn_0) hisR ?_
  intro p e s m args below meth c s₁ Bd hml0 hP hK
  obtain ⟨rfl, hZ, hh⟩ := hP
  have hx := Bd.exec
  have hby := Bd.bytes
  have hml : c.maxLocals = 1 := hml0
  have hown : s.vm.findClass "com/example/abir/abir/ColumnTypeNumericPinLaw" = some m.cls := findClass_of_methodNamed Bd.named
  have hnm := (name_of_methodNamed Bd.named Bd.method).1
  have X0 : Stand p l e ({ frames := 0, cells := 0, slots := 0, locals := 0 } : Room) s m #[(.int (2 : Int32))] below meth c s₁ [] 0 0 := Stand.of_body Bd
  have e0 : s₁.heap = h0 := by rw [← hh, Bd.state]; rfl
  have N0 := Fr.nil n0
  have pre0 : ∀ t, Steps p.tables e below (s₁.setTop (mkF m 0 #[.val (.int (2 : Int32))] [])) t → Steps p.tables e below (s₁.setTop (entryFrame m #[(.int (2 : Int32))] 1)) t := fun t k => castTop (ef_1 m (2 : Int32)) k
  obtain ⟨S_a_TEXT, X_a_TEXT, S_a_INTEGER, X_a_INTEGER, S_a_DECIMAL, X_a_DECIMAL, S_a_DATE, X_a_DATE, S_a_BOOLEAN, X_a_BOOLEAN, F_a_TEXT_ordinal, F_a_INTEGER_ordinal, F_a_DECIMAL_ordinal, F_a_DATE_ordinal, F_a_BOOLEAN_ordinal⟩ := id En
  obtain ⟨T1, X1, e1, st1⟩ := getS2 X0 hx hZ hown (host := "") (Or.inl (hw _ (List.mem_of_getElem? (i := 22) rfl))) Via.refl e0 (Sta.ext O0.2 S_a_DECIMAL) (g := (mkF m 22 #[.val (.int (2 : Int32))] [])) rfl (hb hby dc0_22)
  obtain ⟨fs, hr, hrun, hended, hW, hsame⟩ := X1.leave (v := some (.ref a_DECIMAL)) (fun h => by rw [Bd.returns] at h; cases h)
  refine ⟨_, _, pre0 _ ?_, hrun, hended, _, _, rfl, ?_, ⟨_, rfl⟩, hW, hsame.mono (by decide) (by decide)⟩
  · skip
    show Steps p.tables e below (s₁.setTop (mkF m 0 #[.val (.int (2 : Int32))] [])) _
    refine XS.iloadN X0.here hx rfl (hb hby dc0_0) rfl ?_
    show Steps p.tables e below (s₁.setTop (mkF m 1 #[.val (.int (2 : Int32))] [(.int (2 : Int32))])) _
    refine XS.ifYes X0.here hx rfl (pc0 := 1) (pc' := 8) rfl (hb hby dc0_1) rfl (by decide) (by decide) (by decide) ?_
    show Steps p.tables e below (s₁.setTop (mkF m 8 #[.val (.int (2 : Int32))] [])) _
    refine XS.iloadN X0.here hx rfl (hb hby dc0_8) rfl ?_
    show Steps p.tables e below (s₁.setTop (mkF m 9 #[.val (.int (2 : Int32))] [(.int (2 : Int32))])) _
    refine XS.iconst X0.here hx rfl (hb hby dc0_9) ?_
    show Steps p.tables e below (s₁.setTop (mkF m 10 #[.val (.int (2 : Int32))] [(.int (1 : Int32)), (.int (2 : Int32))])) _
    refine XS.icmpYes X0.here hx rfl (pc0 := 10) (pc' := 17) rfl (hb hby dc0_10) rfl (by decide) (by decide) (by decide) ?_
    show Steps p.tables e below (s₁.setTop (mkF m 17 #[.val (.int (2 : Int32))] [])) _
    refine XS.iloadN X0.here hx rfl (hb hby dc0_17) rfl ?_
    show Steps p.tables e below (s₁.setTop (mkF m 18 #[.val (.int (2 : Int32))] [(.int (2 : Int32))])) _
    refine XS.iconst X0.here hx rfl (hb hby dc0_18) ?_
    show Steps p.tables e below (s₁.setTop (mkF m 19 #[.val (.int (2 : Int32))] [(.int (2 : Int32)), (.int (2 : Int32))])) _
    refine XS.icmpNo X0.here hx rfl (hb hby dc0_19) rfl (by decide) ?_
    show Steps p.tables e below (s₁.setTop (mkF m 22 #[.val (.int (2 : Int32))] [])) _
    refine st1 _ ?_
    show Steps p.tables e below (T1.setTop (mkF m 25 #[.val (.int (2 : Int32))] [(.ref a_DECIMAL)])) _
    exact retOut X1 hx (t := (.object "com/example/abir/abir/ColumnType")) Bd.returns rfl (Or.inr (Or.inr (Or.inr (Or.inr ⟨rfl, rfl, rfl⟩)))) (hb hby dc0_25) hr
  · show Q_rm_pick_5 a_TEXT a_INTEGER a_DECIMAL a_DATE a_BOOLEAN h0 n0 _ T1.heap _
    rw [e1]
    exact ⟨rfl, N0, rfl⟩
def Q_rm_numeric_6 (a_TEXT a_INTEGER a_DECIMAL a_DATE a_BOOLEAN : Addr) (h0 : Heap) (n0 : Nat) (v : Option Value) (h : Heap) (L : List Loc) : Prop := v = some (.int (1 : Int32)) ∧ Fr n0 L ∧ h = h0
set_option maxRecDepth 65536 in
set_option maxHeartbeats 40000000 in
theorem rm_numeric_6 (l : Launch) (Z : State) (a0 : Array Value) (hw : ∀ d ∈ tables_1, d.before a0 Z = true) (ws : List Jvm.Cond) (a_TEXT a_INTEGER a_DECIMAL a_DATE a_BOOLEAN : Addr) (h0 : Heap) (n0 : Nat) (O0 : Old Z n0 h0) (En : OwnEnv Z a_TEXT a_INTEGER a_DECIMAL a_DATE a_BOOLEAN) :
    MetFree l (⟨"com/example/abir/abir/ColumnType", "numeric", "()Z"⟩ : MethodName) (head1 (Jvm.Cond.code (⟨"com/example/abir/abir/ColumnType", "numeric", "()Z"⟩ : MethodName) prog_4_method_5_code 1 (some .boolean) :: ws) ({ frames := 0, cells := 0, slots := 0, locals := 0 } : Room)) (fun a U => a = #[(.ref a_DECIMAL)] ∧ Z.Warmed39 U.vm ∧ U.heap = h0) (fun _ _ _ _ _ => True) (fun _ U o U' => ∃ v L, o = .returned v ∧ Q_rm_numeric_6 a_TEXT a_INTEGER a_DECIMAL a_DATE a_BOOLEAN h0 n0 v U'.heap L ∧ FrameEnd U o U' L ({ frames := 0, cells := 0, slots := 0, locals := 0 } : Room).cells ({ frames := 0, cells := 0, slots := 0, locals := 0 } : Room).slots) := by
  refine MetFree.of_bodySF (plainFor_of_name pn_1) hisR ?_
  intro p e s m args below meth c s₁ Bd hml0 hP hK
  obtain ⟨rfl, hZ, hh⟩ := hP
  have hx := Bd.exec
  have hby := Bd.bytes
  have hml : c.maxLocals = 1 := hml0
  have hown : s.vm.findClass "com/example/abir/abir/ColumnType" = some m.cls := findClass_of_methodNamed Bd.named
  have hnm := (name_of_methodNamed Bd.named Bd.method).1
  have X0 : Stand p l e ({ frames := 0, cells := 0, slots := 0, locals := 0 } : Room) s m #[(.ref a_DECIMAL)] below meth c s₁ [] 0 0 := Stand.of_body Bd
  have e0 : s₁.heap = h0 := by rw [← hh, Bd.state]; rfl
  have N0 := Fr.nil n0
  have pre0 : ∀ t, Steps p.tables e below (s₁.setTop (mkF m 0 #[.val (.ref a_DECIMAL)] [])) t → Steps p.tables e below (s₁.setTop (entryFrame m #[(.ref a_DECIMAL)] 1)) t := fun t k => castTop (ef_2 m a_DECIMAL) k
  obtain ⟨S_a_TEXT, X_a_TEXT, S_a_INTEGER, X_a_INTEGER, S_a_DECIMAL, X_a_DECIMAL, S_a_DATE, X_a_DATE, S_a_BOOLEAN, X_a_BOOLEAN, F_a_TEXT_ordinal, F_a_INTEGER_ordinal, F_a_DECIMAL_ordinal, F_a_DATE_ordinal, F_a_BOOLEAN_ordinal⟩ := id En
  obtain ⟨T1, X1, e1, st1⟩ := getS2 X0 hx hZ hown (host := "") (Or.inl (hw _ (List.mem_of_getElem? (i := 13) rfl))) Via.refl e0 (Sta.ext O0.2 S_a_INTEGER) (g := (mkF m 1 #[.val (.ref a_DECIMAL)] [(.ref a_DECIMAL)])) rfl (hb hby dc1_1)
  obtain ⟨T2, X2, e2, st2⟩ := getS2 X1 hx hZ hown (host := "") (Or.inl (hw _ (List.mem_of_getElem? (i := 15) rfl))) Via.refl e1 (Sta.ext O0.2 S_a_DECIMAL) (g := (mkF m 8 #[.val (.ref a_DECIMAL)] [(.ref a_DECIMAL)])) rfl (hb hby dc1_8)
  obtain ⟨fs, hr, hrun, hended, hW, hsame⟩ := X2.leave (v := some (.int (1 : Int32))) (fun h => by rw [Bd.returns] at h; cases h)
  refine ⟨_, _, pre0 _ ?_, hrun, hended, _, _, rfl, ?_, ⟨_, rfl⟩, hW, hsame.mono (by decide) (by decide)⟩
  · skip
    show Steps p.tables e below (s₁.setTop (mkF m 0 #[.val (.ref a_DECIMAL)] [])) _
    refine XS.aloadN X0.here hx rfl (hb hby dc1_0) rfl rfl ?_
    show Steps p.tables e below (s₁.setTop (mkF m 1 #[.val (.ref a_DECIMAL)] [(.ref a_DECIMAL)])) _
    refine st1 _ ?_
    show Steps p.tables e below (T1.setTop (mkF m 4 #[.val (.ref a_DECIMAL)] [(.ref a_INTEGER), (.ref a_DECIMAL)])) _
    refine Jvm.RoadKit.acmp (g := (mkF m 4 #[.val (.ref a_DECIMAL)] [(.ref a_INTEGER), (.ref a_DECIMAL)])) X1 hx rfl rfl rfl (pc0 := 4) (pc' := 7) (same := false) rfl (hb hby dc1_4) rfl (decide_eq_false fun q => (Ne.symm (Fld.ne F_a_INTEGER_ordinal F_a_DECIMAL_ordinal (by simp))) (Value.ref.inj q)) (by decide) (by decide) ?_
    show Steps p.tables e below (T1.setTop (mkF m 7 #[.val (.ref a_DECIMAL)] [])) _
    refine XS.aloadN X1.here hx rfl (hb hby dc1_7) rfl rfl ?_
    show Steps p.tables e below (T1.setTop (mkF m 8 #[.val (.ref a_DECIMAL)] [(.ref a_DECIMAL)])) _
    refine st2 _ ?_
    show Steps p.tables e below (T2.setTop (mkF m 11 #[.val (.ref a_DECIMAL)] [(.ref a_DECIMAL), (.ref a_DECIMAL)])) _
    refine Jvm.RoadKit.acmp (g := (mkF m 11 #[.val (.ref a_DECIMAL)] [(.ref a_DECIMAL), (.ref a_DECIMAL)])) X2 hx rfl rfl rfl (pc0 := 11) (pc' := 14) (same := true) rfl (hb hby dc1_11) rfl (decide_eq_true rfl) (by decide) (by decide) ?_
    show Steps p.tables e below (T2.setTop (mkF m 14 #[.val (.ref a_DECIMAL)] [])) _
    refine XS.iconst X2.here hx rfl (hb hby dc1_14) ?_
    show Steps p.tables e below (T2.setTop (mkF m 15 #[.val (.ref a_DECIMAL)] [(.int (1 : Int32))])) _
    refine XS.goto X2.here hx rfl (pc0 := 15) (pc' := 19) rfl (hb hby dc1_15) (by decide) (by decide) ?_
    show Steps p.tables e below (T2.setTop (mkF m 19 #[.val (.ref a_DECIMAL)] [(.int (1 : Int32))])) _
    exact retN X2 hx (t := .boolean) Bd.returns (by simp) (hb hby dc1_19) hr
  · show Q_rm_numeric_6 a_TEXT a_INTEGER a_DECIMAL a_DATE a_BOOLEAN h0 n0 _ T2.heap _
    rw [e2]
    exact ⟨rfl, N0, rfl⟩
def Q_rm_pick_7 (a_TEXT a_INTEGER a_DECIMAL a_DATE a_BOOLEAN : Addr) (h0 : Heap) (n0 : Nat) (v : Option Value) (h : Heap) (L : List Loc) : Prop := v = some (.ref a_DATE) ∧ Fr n0 L ∧ h = h0
theorem dc0_26 : decode method_2_code 26 = .ok (.iload_n 0, 1) := by decide +kernel
theorem dc0_27 : decode method_2_code 27 = .ok (.iconst 3, 1) := by decide +kernel
theorem dc0_28 : decode method_2_code 28 = .ok (.if_icmp .ne 7, 3) := by decide +kernel
theorem dc0_31 : decode method_2_code 31 = .ok (.getstatic 19, 3) := by decide +kernel
theorem dc0_34 : decode method_2_code 34 = .ok (.areturn, 1) := by decide +kernel
set_option maxRecDepth 65536 in
set_option maxHeartbeats 40000000 in
theorem rm_pick_7 (l : Launch) (Z : State) (a0 : Array Value) (hw : ∀ d ∈ tables_1, d.before a0 Z = true) (ws : List Jvm.Cond) (a_TEXT a_INTEGER a_DECIMAL a_DATE a_BOOLEAN : Addr) (h0 : Heap) (n0 : Nat) (O0 : Old Z n0 h0) (En : OwnEnv Z a_TEXT a_INTEGER a_DECIMAL a_DATE a_BOOLEAN) :
    MetFree l (⟨"com/example/abir/abir/ColumnTypeNumericPinLaw", "pick", "(I)Lcom/example/abir/abir/ColumnType;"⟩ : MethodName) (head1 (Jvm.Cond.code (⟨"com/example/abir/abir/ColumnTypeNumericPinLaw", "pick", "(I)Lcom/example/abir/abir/ColumnType;"⟩ : MethodName) method_2_code 1 (some (.object "com/example/abir/abir/ColumnType")) :: ws) ({ frames := 0, cells := 0, slots := 0, locals := 0 } : Room)) (fun a U => a = #[(.int (3 : Int32))] ∧ Z.Warmed39 U.vm ∧ U.heap = h0) (fun _ _ _ _ _ => True) (fun _ U o U' => ∃ v L, o = .returned v ∧ Q_rm_pick_7 a_TEXT a_INTEGER a_DECIMAL a_DATE a_BOOLEAN h0 n0 v U'.heap L ∧ FrameEnd U o U' L ({ frames := 0, cells := 0, slots := 0, locals := 0 } : Room).cells ({ frames := 0, cells := 0, slots := 0, locals := 0 } : Room).slots) := by
  refine MetFree.of_bodySF (plainFor_of_name pn_0) hisR ?_
  intro p e s m args below meth c s₁ Bd hml0 hP hK
  obtain ⟨rfl, hZ, hh⟩ := hP
  have hx := Bd.exec
  have hby := Bd.bytes
  have hml : c.maxLocals = 1 := hml0
  have hown : s.vm.findClass "com/example/abir/abir/ColumnTypeNumericPinLaw" = some m.cls := findClass_of_methodNamed Bd.named
  have hnm := (name_of_methodNamed Bd.named Bd.method).1
  have X0 : Stand p l e ({ frames := 0, cells := 0, slots := 0, locals := 0 } : Room) s m #[(.int (3 : Int32))] below meth c s₁ [] 0 0 := Stand.of_body Bd
  have e0 : s₁.heap = h0 := by rw [← hh, Bd.state]; rfl
  have N0 := Fr.nil n0
  have pre0 : ∀ t, Steps p.tables e below (s₁.setTop (mkF m 0 #[.val (.int (3 : Int32))] [])) t → Steps p.tables e below (s₁.setTop (entryFrame m #[(.int (3 : Int32))] 1)) t := fun t k => castTop (ef_1 m (3 : Int32)) k
  obtain ⟨S_a_TEXT, X_a_TEXT, S_a_INTEGER, X_a_INTEGER, S_a_DECIMAL, X_a_DECIMAL, S_a_DATE, X_a_DATE, S_a_BOOLEAN, X_a_BOOLEAN, F_a_TEXT_ordinal, F_a_INTEGER_ordinal, F_a_DECIMAL_ordinal, F_a_DATE_ordinal, F_a_BOOLEAN_ordinal⟩ := id En
  obtain ⟨T1, X1, e1, st1⟩ := getS2 X0 hx hZ hown (host := "") (Or.inl (hw _ (List.mem_of_getElem? (i := 17) rfl))) Via.refl e0 (Sta.ext O0.2 S_a_DATE) (g := (mkF m 31 #[.val (.int (3 : Int32))] [])) rfl (hb hby dc0_31)
  obtain ⟨fs, hr, hrun, hended, hW, hsame⟩ := X1.leave (v := some (.ref a_DATE)) (fun h => by rw [Bd.returns] at h; cases h)
  refine ⟨_, _, pre0 _ ?_, hrun, hended, _, _, rfl, ?_, ⟨_, rfl⟩, hW, hsame.mono (by decide) (by decide)⟩
  · skip
    show Steps p.tables e below (s₁.setTop (mkF m 0 #[.val (.int (3 : Int32))] [])) _
    refine XS.iloadN X0.here hx rfl (hb hby dc0_0) rfl ?_
    show Steps p.tables e below (s₁.setTop (mkF m 1 #[.val (.int (3 : Int32))] [(.int (3 : Int32))])) _
    refine XS.ifYes X0.here hx rfl (pc0 := 1) (pc' := 8) rfl (hb hby dc0_1) rfl (by decide) (by decide) (by decide) ?_
    show Steps p.tables e below (s₁.setTop (mkF m 8 #[.val (.int (3 : Int32))] [])) _
    refine XS.iloadN X0.here hx rfl (hb hby dc0_8) rfl ?_
    show Steps p.tables e below (s₁.setTop (mkF m 9 #[.val (.int (3 : Int32))] [(.int (3 : Int32))])) _
    refine XS.iconst X0.here hx rfl (hb hby dc0_9) ?_
    show Steps p.tables e below (s₁.setTop (mkF m 10 #[.val (.int (3 : Int32))] [(.int (1 : Int32)), (.int (3 : Int32))])) _
    refine XS.icmpYes X0.here hx rfl (pc0 := 10) (pc' := 17) rfl (hb hby dc0_10) rfl (by decide) (by decide) (by decide) ?_
    show Steps p.tables e below (s₁.setTop (mkF m 17 #[.val (.int (3 : Int32))] [])) _
    refine XS.iloadN X0.here hx rfl (hb hby dc0_17) rfl ?_
    show Steps p.tables e below (s₁.setTop (mkF m 18 #[.val (.int (3 : Int32))] [(.int (3 : Int32))])) _
    refine XS.iconst X0.here hx rfl (hb hby dc0_18) ?_
    show Steps p.tables e below (s₁.setTop (mkF m 19 #[.val (.int (3 : Int32))] [(.int (2 : Int32)), (.int (3 : Int32))])) _
    refine XS.icmpYes X0.here hx rfl (pc0 := 19) (pc' := 26) rfl (hb hby dc0_19) rfl (by decide) (by decide) (by decide) ?_
    show Steps p.tables e below (s₁.setTop (mkF m 26 #[.val (.int (3 : Int32))] [])) _
    refine XS.iloadN X0.here hx rfl (hb hby dc0_26) rfl ?_
    show Steps p.tables e below (s₁.setTop (mkF m 27 #[.val (.int (3 : Int32))] [(.int (3 : Int32))])) _
    refine XS.iconst X0.here hx rfl (hb hby dc0_27) ?_
    show Steps p.tables e below (s₁.setTop (mkF m 28 #[.val (.int (3 : Int32))] [(.int (3 : Int32)), (.int (3 : Int32))])) _
    refine XS.icmpNo X0.here hx rfl (hb hby dc0_28) rfl (by decide) ?_
    show Steps p.tables e below (s₁.setTop (mkF m 31 #[.val (.int (3 : Int32))] [])) _
    refine st1 _ ?_
    show Steps p.tables e below (T1.setTop (mkF m 34 #[.val (.int (3 : Int32))] [(.ref a_DATE)])) _
    exact retOut X1 hx (t := (.object "com/example/abir/abir/ColumnType")) Bd.returns rfl (Or.inr (Or.inr (Or.inr (Or.inr ⟨rfl, rfl, rfl⟩)))) (hb hby dc0_34) hr
  · show Q_rm_pick_7 a_TEXT a_INTEGER a_DECIMAL a_DATE a_BOOLEAN h0 n0 _ T1.heap _
    rw [e1]
    exact ⟨rfl, N0, rfl⟩
def Q_rm_numeric_8 (a_TEXT a_INTEGER a_DECIMAL a_DATE a_BOOLEAN : Addr) (h0 : Heap) (n0 : Nat) (v : Option Value) (h : Heap) (L : List Loc) : Prop := v = some (.int (0 : Int32)) ∧ Fr n0 L ∧ h = h0
set_option maxRecDepth 65536 in
set_option maxHeartbeats 40000000 in
theorem rm_numeric_8 (l : Launch) (Z : State) (a0 : Array Value) (hw : ∀ d ∈ tables_1, d.before a0 Z = true) (ws : List Jvm.Cond) (a_TEXT a_INTEGER a_DECIMAL a_DATE a_BOOLEAN : Addr) (h0 : Heap) (n0 : Nat) (O0 : Old Z n0 h0) (En : OwnEnv Z a_TEXT a_INTEGER a_DECIMAL a_DATE a_BOOLEAN) :
    MetFree l (⟨"com/example/abir/abir/ColumnType", "numeric", "()Z"⟩ : MethodName) (head1 (Jvm.Cond.code (⟨"com/example/abir/abir/ColumnType", "numeric", "()Z"⟩ : MethodName) prog_4_method_5_code 1 (some .boolean) :: ws) ({ frames := 0, cells := 0, slots := 0, locals := 0 } : Room)) (fun a U => a = #[(.ref a_DATE)] ∧ Z.Warmed39 U.vm ∧ U.heap = h0) (fun _ _ _ _ _ => True) (fun _ U o U' => ∃ v L, o = .returned v ∧ Q_rm_numeric_8 a_TEXT a_INTEGER a_DECIMAL a_DATE a_BOOLEAN h0 n0 v U'.heap L ∧ FrameEnd U o U' L ({ frames := 0, cells := 0, slots := 0, locals := 0 } : Room).cells ({ frames := 0, cells := 0, slots := 0, locals := 0 } : Room).slots) := by
  refine MetFree.of_bodySF (plainFor_of_name pn_1) hisR ?_
  intro p e s m args below meth c s₁ Bd hml0 hP hK
  obtain ⟨rfl, hZ, hh⟩ := hP
  have hx := Bd.exec
  have hby := Bd.bytes
  have hml : c.maxLocals = 1 := hml0
  have hown : s.vm.findClass "com/example/abir/abir/ColumnType" = some m.cls := findClass_of_methodNamed Bd.named
  have hnm := (name_of_methodNamed Bd.named Bd.method).1
  have X0 : Stand p l e ({ frames := 0, cells := 0, slots := 0, locals := 0 } : Room) s m #[(.ref a_DATE)] below meth c s₁ [] 0 0 := Stand.of_body Bd
  have e0 : s₁.heap = h0 := by rw [← hh, Bd.state]; rfl
  have N0 := Fr.nil n0
  have pre0 : ∀ t, Steps p.tables e below (s₁.setTop (mkF m 0 #[.val (.ref a_DATE)] [])) t → Steps p.tables e below (s₁.setTop (entryFrame m #[(.ref a_DATE)] 1)) t := fun t k => castTop (ef_2 m a_DATE) k
  obtain ⟨S_a_TEXT, X_a_TEXT, S_a_INTEGER, X_a_INTEGER, S_a_DECIMAL, X_a_DECIMAL, S_a_DATE, X_a_DATE, S_a_BOOLEAN, X_a_BOOLEAN, F_a_TEXT_ordinal, F_a_INTEGER_ordinal, F_a_DECIMAL_ordinal, F_a_DATE_ordinal, F_a_BOOLEAN_ordinal⟩ := id En
  obtain ⟨T1, X1, e1, st1⟩ := getS2 X0 hx hZ hown (host := "") (Or.inl (hw _ (List.mem_of_getElem? (i := 13) rfl))) Via.refl e0 (Sta.ext O0.2 S_a_INTEGER) (g := (mkF m 1 #[.val (.ref a_DATE)] [(.ref a_DATE)])) rfl (hb hby dc1_1)
  obtain ⟨T2, X2, e2, st2⟩ := getS2 X1 hx hZ hown (host := "") (Or.inl (hw _ (List.mem_of_getElem? (i := 15) rfl))) Via.refl e1 (Sta.ext O0.2 S_a_DECIMAL) (g := (mkF m 8 #[.val (.ref a_DATE)] [(.ref a_DATE)])) rfl (hb hby dc1_8)
  obtain ⟨fs, hr, hrun, hended, hW, hsame⟩ := X2.leave (v := some (.int (0 : Int32))) (fun h => by rw [Bd.returns] at h; cases h)
  refine ⟨_, _, pre0 _ ?_, hrun, hended, _, _, rfl, ?_, ⟨_, rfl⟩, hW, hsame.mono (by decide) (by decide)⟩
  · skip
    show Steps p.tables e below (s₁.setTop (mkF m 0 #[.val (.ref a_DATE)] [])) _
    refine XS.aloadN X0.here hx rfl (hb hby dc1_0) rfl rfl ?_
    show Steps p.tables e below (s₁.setTop (mkF m 1 #[.val (.ref a_DATE)] [(.ref a_DATE)])) _
    refine st1 _ ?_
    show Steps p.tables e below (T1.setTop (mkF m 4 #[.val (.ref a_DATE)] [(.ref a_INTEGER), (.ref a_DATE)])) _
    refine Jvm.RoadKit.acmp (g := (mkF m 4 #[.val (.ref a_DATE)] [(.ref a_INTEGER), (.ref a_DATE)])) X1 hx rfl rfl rfl (pc0 := 4) (pc' := 7) (same := false) rfl (hb hby dc1_4) rfl (decide_eq_false fun q => (Ne.symm (Fld.ne F_a_INTEGER_ordinal F_a_DATE_ordinal (by simp))) (Value.ref.inj q)) (by decide) (by decide) ?_
    show Steps p.tables e below (T1.setTop (mkF m 7 #[.val (.ref a_DATE)] [])) _
    refine XS.aloadN X1.here hx rfl (hb hby dc1_7) rfl rfl ?_
    show Steps p.tables e below (T1.setTop (mkF m 8 #[.val (.ref a_DATE)] [(.ref a_DATE)])) _
    refine st2 _ ?_
    show Steps p.tables e below (T2.setTop (mkF m 11 #[.val (.ref a_DATE)] [(.ref a_DECIMAL), (.ref a_DATE)])) _
    refine Jvm.RoadKit.acmp (g := (mkF m 11 #[.val (.ref a_DATE)] [(.ref a_DECIMAL), (.ref a_DATE)])) X2 hx rfl rfl rfl (pc0 := 11) (pc' := 18) (same := false) rfl (hb hby dc1_11) rfl (decide_eq_false fun q => (Ne.symm (Fld.ne F_a_DECIMAL_ordinal F_a_DATE_ordinal (by simp))) (Value.ref.inj q)) (by decide) (by decide) ?_
    show Steps p.tables e below (T2.setTop (mkF m 18 #[.val (.ref a_DATE)] [])) _
    refine XS.iconst X2.here hx rfl (hb hby dc1_18) ?_
    show Steps p.tables e below (T2.setTop (mkF m 19 #[.val (.ref a_DATE)] [(.int (0 : Int32))])) _
    exact retN X2 hx (t := .boolean) Bd.returns (by simp) (hb hby dc1_19) hr
  · show Q_rm_numeric_8 a_TEXT a_INTEGER a_DECIMAL a_DATE a_BOOLEAN h0 n0 _ T2.heap _
    rw [e2]
    exact ⟨rfl, N0, rfl⟩
def Q_rm_pick_9 (a_TEXT a_INTEGER a_DECIMAL a_DATE a_BOOLEAN : Addr) (h0 : Heap) (n0 : Nat) (v : Option Value) (h : Heap) (L : List Loc) : Prop := v = some (.ref a_BOOLEAN) ∧ Fr n0 L ∧ h = h0
theorem dc0_35 : decode method_2_code 35 = .ok (.getstatic 22, 3) := by decide +kernel
theorem dc0_38 : decode method_2_code 38 = .ok (.areturn, 1) := by decide +kernel
set_option maxRecDepth 65536 in
set_option maxHeartbeats 40000000 in
theorem rm_pick_9 (l : Launch) (Z : State) (a0 : Array Value) (hw : ∀ d ∈ tables_1, d.before a0 Z = true) (ws : List Jvm.Cond) (a_TEXT a_INTEGER a_DECIMAL a_DATE a_BOOLEAN : Addr) (h0 : Heap) (n0 : Nat) (O0 : Old Z n0 h0) (En : OwnEnv Z a_TEXT a_INTEGER a_DECIMAL a_DATE a_BOOLEAN) :
    MetFree l (⟨"com/example/abir/abir/ColumnTypeNumericPinLaw", "pick", "(I)Lcom/example/abir/abir/ColumnType;"⟩ : MethodName) (head1 (Jvm.Cond.code (⟨"com/example/abir/abir/ColumnTypeNumericPinLaw", "pick", "(I)Lcom/example/abir/abir/ColumnType;"⟩ : MethodName) method_2_code 1 (some (.object "com/example/abir/abir/ColumnType")) :: ws) ({ frames := 0, cells := 0, slots := 0, locals := 0 } : Room)) (fun a U => a = #[(.int (4 : Int32))] ∧ Z.Warmed39 U.vm ∧ U.heap = h0) (fun _ _ _ _ _ => True) (fun _ U o U' => ∃ v L, o = .returned v ∧ Q_rm_pick_9 a_TEXT a_INTEGER a_DECIMAL a_DATE a_BOOLEAN h0 n0 v U'.heap L ∧ FrameEnd U o U' L ({ frames := 0, cells := 0, slots := 0, locals := 0 } : Room).cells ({ frames := 0, cells := 0, slots := 0, locals := 0 } : Room).slots) := by
  refine MetFree.of_bodySF (plainFor_of_name pn_0) hisR ?_
  intro p e s m args below meth c s₁ Bd hml0 hP hK
  obtain ⟨rfl, hZ, hh⟩ := hP
  have hx := Bd.exec
  have hby := Bd.bytes
  have hml : c.maxLocals = 1 := hml0
  have hown : s.vm.findClass "com/example/abir/abir/ColumnTypeNumericPinLaw" = some m.cls := findClass_of_methodNamed Bd.named
  have hnm := (name_of_methodNamed Bd.named Bd.method).1
  have X0 : Stand p l e ({ frames := 0, cells := 0, slots := 0, locals := 0 } : Room) s m #[(.int (4 : Int32))] below meth c s₁ [] 0 0 := Stand.of_body Bd
  have e0 : s₁.heap = h0 := by rw [← hh, Bd.state]; rfl
  have N0 := Fr.nil n0
  have pre0 : ∀ t, Steps p.tables e below (s₁.setTop (mkF m 0 #[.val (.int (4 : Int32))] [])) t → Steps p.tables e below (s₁.setTop (entryFrame m #[(.int (4 : Int32))] 1)) t := fun t k => castTop (ef_1 m (4 : Int32)) k
  obtain ⟨S_a_TEXT, X_a_TEXT, S_a_INTEGER, X_a_INTEGER, S_a_DECIMAL, X_a_DECIMAL, S_a_DATE, X_a_DATE, S_a_BOOLEAN, X_a_BOOLEAN, F_a_TEXT_ordinal, F_a_INTEGER_ordinal, F_a_DECIMAL_ordinal, F_a_DATE_ordinal, F_a_BOOLEAN_ordinal⟩ := id En
  obtain ⟨T1, X1, e1, st1⟩ := getS2 X0 hx hZ hown (host := "") (Or.inl (hw _ (List.mem_of_getElem? (i := 20) rfl))) Via.refl e0 (Sta.ext O0.2 S_a_BOOLEAN) (g := (mkF m 35 #[.val (.int (4 : Int32))] [])) rfl (hb hby dc0_35)
  obtain ⟨fs, hr, hrun, hended, hW, hsame⟩ := X1.leave (v := some (.ref a_BOOLEAN)) (fun h => by rw [Bd.returns] at h; cases h)
  refine ⟨_, _, pre0 _ ?_, hrun, hended, _, _, rfl, ?_, ⟨_, rfl⟩, hW, hsame.mono (by decide) (by decide)⟩
  · skip
    show Steps p.tables e below (s₁.setTop (mkF m 0 #[.val (.int (4 : Int32))] [])) _
    refine XS.iloadN X0.here hx rfl (hb hby dc0_0) rfl ?_
    show Steps p.tables e below (s₁.setTop (mkF m 1 #[.val (.int (4 : Int32))] [(.int (4 : Int32))])) _
    refine XS.ifYes X0.here hx rfl (pc0 := 1) (pc' := 8) rfl (hb hby dc0_1) rfl (by decide) (by decide) (by decide) ?_
    show Steps p.tables e below (s₁.setTop (mkF m 8 #[.val (.int (4 : Int32))] [])) _
    refine XS.iloadN X0.here hx rfl (hb hby dc0_8) rfl ?_
    show Steps p.tables e below (s₁.setTop (mkF m 9 #[.val (.int (4 : Int32))] [(.int (4 : Int32))])) _
    refine XS.iconst X0.here hx rfl (hb hby dc0_9) ?_
    show Steps p.tables e below (s₁.setTop (mkF m 10 #[.val (.int (4 : Int32))] [(.int (1 : Int32)), (.int (4 : Int32))])) _
    refine XS.icmpYes X0.here hx rfl (pc0 := 10) (pc' := 17) rfl (hb hby dc0_10) rfl (by decide) (by decide) (by decide) ?_
    show Steps p.tables e below (s₁.setTop (mkF m 17 #[.val (.int (4 : Int32))] [])) _
    refine XS.iloadN X0.here hx rfl (hb hby dc0_17) rfl ?_
    show Steps p.tables e below (s₁.setTop (mkF m 18 #[.val (.int (4 : Int32))] [(.int (4 : Int32))])) _
    refine XS.iconst X0.here hx rfl (hb hby dc0_18) ?_
    show Steps p.tables e below (s₁.setTop (mkF m 19 #[.val (.int (4 : Int32))] [(.int (2 : Int32)), (.int (4 : Int32))])) _
    refine XS.icmpYes X0.here hx rfl (pc0 := 19) (pc' := 26) rfl (hb hby dc0_19) rfl (by decide) (by decide) (by decide) ?_
    show Steps p.tables e below (s₁.setTop (mkF m 26 #[.val (.int (4 : Int32))] [])) _
    refine XS.iloadN X0.here hx rfl (hb hby dc0_26) rfl ?_
    show Steps p.tables e below (s₁.setTop (mkF m 27 #[.val (.int (4 : Int32))] [(.int (4 : Int32))])) _
    refine XS.iconst X0.here hx rfl (hb hby dc0_27) ?_
    show Steps p.tables e below (s₁.setTop (mkF m 28 #[.val (.int (4 : Int32))] [(.int (3 : Int32)), (.int (4 : Int32))])) _
    refine XS.icmpYes X0.here hx rfl (pc0 := 28) (pc' := 35) rfl (hb hby dc0_28) rfl (by decide) (by decide) (by decide) ?_
    show Steps p.tables e below (s₁.setTop (mkF m 35 #[.val (.int (4 : Int32))] [])) _
    refine st1 _ ?_
    show Steps p.tables e below (T1.setTop (mkF m 38 #[.val (.int (4 : Int32))] [(.ref a_BOOLEAN)])) _
    exact retOut X1 hx (t := (.object "com/example/abir/abir/ColumnType")) Bd.returns rfl (Or.inr (Or.inr (Or.inr (Or.inr ⟨rfl, rfl, rfl⟩)))) (hb hby dc0_38) hr
  · show Q_rm_pick_9 a_TEXT a_INTEGER a_DECIMAL a_DATE a_BOOLEAN h0 n0 _ T1.heap _
    rw [e1]
    exact ⟨rfl, N0, rfl⟩
def Q_rm_numeric_10 (a_TEXT a_INTEGER a_DECIMAL a_DATE a_BOOLEAN : Addr) (h0 : Heap) (n0 : Nat) (v : Option Value) (h : Heap) (L : List Loc) : Prop := v = some (.int (0 : Int32)) ∧ Fr n0 L ∧ h = h0
set_option maxRecDepth 65536 in
set_option maxHeartbeats 40000000 in
theorem rm_numeric_10 (l : Launch) (Z : State) (a0 : Array Value) (hw : ∀ d ∈ tables_1, d.before a0 Z = true) (ws : List Jvm.Cond) (a_TEXT a_INTEGER a_DECIMAL a_DATE a_BOOLEAN : Addr) (h0 : Heap) (n0 : Nat) (O0 : Old Z n0 h0) (En : OwnEnv Z a_TEXT a_INTEGER a_DECIMAL a_DATE a_BOOLEAN) :
    MetFree l (⟨"com/example/abir/abir/ColumnType", "numeric", "()Z"⟩ : MethodName) (head1 (Jvm.Cond.code (⟨"com/example/abir/abir/ColumnType", "numeric", "()Z"⟩ : MethodName) prog_4_method_5_code 1 (some .boolean) :: ws) ({ frames := 0, cells := 0, slots := 0, locals := 0 } : Room)) (fun a U => a = #[(.ref a_BOOLEAN)] ∧ Z.Warmed39 U.vm ∧ U.heap = h0) (fun _ _ _ _ _ => True) (fun _ U o U' => ∃ v L, o = .returned v ∧ Q_rm_numeric_10 a_TEXT a_INTEGER a_DECIMAL a_DATE a_BOOLEAN h0 n0 v U'.heap L ∧ FrameEnd U o U' L ({ frames := 0, cells := 0, slots := 0, locals := 0 } : Room).cells ({ frames := 0, cells := 0, slots := 0, locals := 0 } : Room).slots) := by
  refine MetFree.of_bodySF (plainFor_of_name pn_1) hisR ?_
  intro p e s m args below meth c s₁ Bd hml0 hP hK
  obtain ⟨rfl, hZ, hh⟩ := hP
  have hx := Bd.exec
  have hby := Bd.bytes
  have hml : c.maxLocals = 1 := hml0
  have hown : s.vm.findClass "com/example/abir/abir/ColumnType" = some m.cls := findClass_of_methodNamed Bd.named
  have hnm := (name_of_methodNamed Bd.named Bd.method).1
  have X0 : Stand p l e ({ frames := 0, cells := 0, slots := 0, locals := 0 } : Room) s m #[(.ref a_BOOLEAN)] below meth c s₁ [] 0 0 := Stand.of_body Bd
  have e0 : s₁.heap = h0 := by rw [← hh, Bd.state]; rfl
  have N0 := Fr.nil n0
  have pre0 : ∀ t, Steps p.tables e below (s₁.setTop (mkF m 0 #[.val (.ref a_BOOLEAN)] [])) t → Steps p.tables e below (s₁.setTop (entryFrame m #[(.ref a_BOOLEAN)] 1)) t := fun t k => castTop (ef_2 m a_BOOLEAN) k
  obtain ⟨S_a_TEXT, X_a_TEXT, S_a_INTEGER, X_a_INTEGER, S_a_DECIMAL, X_a_DECIMAL, S_a_DATE, X_a_DATE, S_a_BOOLEAN, X_a_BOOLEAN, F_a_TEXT_ordinal, F_a_INTEGER_ordinal, F_a_DECIMAL_ordinal, F_a_DATE_ordinal, F_a_BOOLEAN_ordinal⟩ := id En
  obtain ⟨T1, X1, e1, st1⟩ := getS2 X0 hx hZ hown (host := "") (Or.inl (hw _ (List.mem_of_getElem? (i := 13) rfl))) Via.refl e0 (Sta.ext O0.2 S_a_INTEGER) (g := (mkF m 1 #[.val (.ref a_BOOLEAN)] [(.ref a_BOOLEAN)])) rfl (hb hby dc1_1)
  obtain ⟨T2, X2, e2, st2⟩ := getS2 X1 hx hZ hown (host := "") (Or.inl (hw _ (List.mem_of_getElem? (i := 15) rfl))) Via.refl e1 (Sta.ext O0.2 S_a_DECIMAL) (g := (mkF m 8 #[.val (.ref a_BOOLEAN)] [(.ref a_BOOLEAN)])) rfl (hb hby dc1_8)
  obtain ⟨fs, hr, hrun, hended, hW, hsame⟩ := X2.leave (v := some (.int (0 : Int32))) (fun h => by rw [Bd.returns] at h; cases h)
  refine ⟨_, _, pre0 _ ?_, hrun, hended, _, _, rfl, ?_, ⟨_, rfl⟩, hW, hsame.mono (by decide) (by decide)⟩
  · skip
    show Steps p.tables e below (s₁.setTop (mkF m 0 #[.val (.ref a_BOOLEAN)] [])) _
    refine XS.aloadN X0.here hx rfl (hb hby dc1_0) rfl rfl ?_
    show Steps p.tables e below (s₁.setTop (mkF m 1 #[.val (.ref a_BOOLEAN)] [(.ref a_BOOLEAN)])) _
    refine st1 _ ?_
    show Steps p.tables e below (T1.setTop (mkF m 4 #[.val (.ref a_BOOLEAN)] [(.ref a_INTEGER), (.ref a_BOOLEAN)])) _
    refine Jvm.RoadKit.acmp (g := (mkF m 4 #[.val (.ref a_BOOLEAN)] [(.ref a_INTEGER), (.ref a_BOOLEAN)])) X1 hx rfl rfl rfl (pc0 := 4) (pc' := 7) (same := false) rfl (hb hby dc1_4) rfl (decide_eq_false fun q => (Ne.symm (Fld.ne F_a_INTEGER_ordinal F_a_BOOLEAN_ordinal (by simp))) (Value.ref.inj q)) (by decide) (by decide) ?_
    show Steps p.tables e below (T1.setTop (mkF m 7 #[.val (.ref a_BOOLEAN)] [])) _
    refine XS.aloadN X1.here hx rfl (hb hby dc1_7) rfl rfl ?_
    show Steps p.tables e below (T1.setTop (mkF m 8 #[.val (.ref a_BOOLEAN)] [(.ref a_BOOLEAN)])) _
    refine st2 _ ?_
    show Steps p.tables e below (T2.setTop (mkF m 11 #[.val (.ref a_BOOLEAN)] [(.ref a_DECIMAL), (.ref a_BOOLEAN)])) _
    refine Jvm.RoadKit.acmp (g := (mkF m 11 #[.val (.ref a_BOOLEAN)] [(.ref a_DECIMAL), (.ref a_BOOLEAN)])) X2 hx rfl rfl rfl (pc0 := 11) (pc' := 18) (same := false) rfl (hb hby dc1_11) rfl (decide_eq_false fun q => (Ne.symm (Fld.ne F_a_DECIMAL_ordinal F_a_BOOLEAN_ordinal (by simp))) (Value.ref.inj q)) (by decide) (by decide) ?_
    show Steps p.tables e below (T2.setTop (mkF m 18 #[.val (.ref a_BOOLEAN)] [])) _
    refine XS.iconst X2.here hx rfl (hb hby dc1_18) ?_
    show Steps p.tables e below (T2.setTop (mkF m 19 #[.val (.ref a_BOOLEAN)] [(.int (0 : Int32))])) _
    exact retN X2 hx (t := .boolean) Bd.returns (by simp) (hb hby dc1_19) hr
  · show Q_rm_numeric_10 a_TEXT a_INTEGER a_DECIMAL a_DATE a_BOOLEAN h0 n0 _ T2.heap _
    rw [e2]
    exact ⟨rfl, N0, rfl⟩
set_option maxRecDepth 65536 in
set_option maxHeartbeats 40000000 in
theorem rm0 (l : Launch) (Z : State) (a0 : Array Value) (hw : ∀ d ∈ tables_1, d.before a0 Z = true) (ws : List Jvm.Cond) (i0 : Int32) (a_TEXT a_INTEGER a_DECIMAL a_DATE a_BOOLEAN : Addr) (h0 : Heap) (n0 : Nat) (O0 : Old Z n0 h0) (En : OwnEnv Z a_TEXT a_INTEGER a_DECIMAL a_DATE a_BOOLEAN) :
    MetFree l x (head1 (Jvm.Cond.code x code maxLocals ret :: ws) room_1) (fun a U => a = #[(.int i0)] ∧ Z.Warmed39 U.vm ∧ U.heap = h0) (fun _ _ _ _ _ => True) (fun _ U o U' => ∃ v L, o = .returned v ∧ QL n0 v U'.heap L ∧ FrameEnd U o U' L room_1.cells room_1.slots) := by
  refine MetFree.of_bodySF (plainFor_of_name pn_0) hisR ?_
  intro p e s m args below meth c s₁ Bd hml0 hP hK
  obtain ⟨rfl, hZ, hh⟩ := hP
  have hx := Bd.exec
  have hby := Bd.bytes
  have hml : c.maxLocals = 4 := hml0
  have hown : s.vm.findClass "com/example/abir/abir/ColumnTypeNumericPinLaw" = some m.cls := findClass_of_methodNamed Bd.named
  have hnm := (name_of_methodNamed Bd.named Bd.method).1
  have X0 : Stand p l e room_1 s m #[(.int i0)] below meth c s₁ [] 0 0 := Stand.of_body Bd
  have e0 : s₁.heap = h0 := by rw [← hh, Bd.state]; rfl
  have N0 := Fr.nil n0
  have pre0 : ∀ t, Steps p.tables e below (s₁.setTop (mkF m 0 #[.val (.int i0), .unset, .unset, .unset] [])) t → Steps p.tables e below (s₁.setTop (entryFrame m #[(.int i0)] maxLocals)) t := fun t k => castTop (ef_0 m i0) k
  obtain ⟨S_a_TEXT, X_a_TEXT, S_a_INTEGER, X_a_INTEGER, S_a_DECIMAL, X_a_DECIMAL, S_a_DATE, X_a_DATE, S_a_BOOLEAN, X_a_BOOLEAN, F_a_TEXT_ordinal, F_a_INTEGER_ordinal, F_a_DECIMAL_ordinal, F_a_DATE_ordinal, F_a_BOOLEAN_ordinal⟩ := id En
  have pre1 : ∀ t, Steps p.tables e below (s₁.setTop (mkF m 6 #[.val (.int i0), .unset, .unset, .unset] [(.int ((i0 &&& (2147483647 : Int32)) % (5 : Int32)))])) t → Steps p.tables e below (s₁.setTop (entryFrame m #[(.int i0)] maxLocals)) t := fun t kt => pre0 t (by
      show Steps p.tables e below (s₁.setTop (mkF m 0 #[.val (.int i0), .unset, .unset, .unset] [])) _
      refine XS.iloadN X0.here hx rfl (hb hby at_0) rfl ?_
      show Steps p.tables e below (s₁.setTop (mkF m 1 #[.val (.int i0), .unset, .unset, .unset] [(.int i0)])) _
      refine X0.ldcInt hx hown (mvT hZ (hw _ (List.mem_of_getElem? (i := 0) rfl))) (g := (mkF m 1 #[.val (.int i0), .unset, .unset, .unset] [(.int i0)])) rfl (hb hby at_1) _ ?_
      show Steps p.tables e below (s₁.setTop (mkF m 3 #[.val (.int i0), .unset, .unset, .unset] [(.int (2147483647 : Int32)), (.int i0)])) _
      refine XS.iand X0.here hx rfl (hb hby at_3) rfl ?_
      show Steps p.tables e below (s₁.setTop (mkF m 4 #[.val (.int i0), .unset, .unset, .unset] [(.int (i0 &&& (2147483647 : Int32)))])) _
      refine XS.iconst X0.here hx rfl (hb hby at_4) ?_
      show Steps p.tables e below (s₁.setTop (mkF m 5 #[.val (.int i0), .unset, .unset, .unset] [(.int (5 : Int32)), (.int (i0 &&& (2147483647 : Int32)))])) _
      refine iremM X0 hx rfl (hb hby at_5) rfl (by decide) ?_
      exact kt)
  rcases own_k i0 with hk2 | hk2 | hk2 | hk2 | hk2
  · skip
    obtain ⟨_, _, ⟨T3, L3, k3, n3⟩, -, X3, ⟨Lc3, hQ3, l3, y3, z3⟩, st3⟩ := Jvm.LawKit.callS X0 hx (y := (⟨"com/example/abir/abir/ColumnTypeNumericPinLaw", "pick", "(I)Lcom/example/abir/abir/ColumnType;"⟩ : MethodName)) hown (mvT hZ (hw _ (List.mem_of_getElem? (i := 1) rfl))) (mvT hZ (hw _ (List.mem_of_getElem? (i := 2) rfl))) (mvT hZ (hw _ (List.mem_of_getElem? (i := 3) rfl))) (mvT hZ (hw _ (List.mem_of_getElem? (i := 4) rfl))) (by decide) (backOf (W := 0) (rm_pick_1 l Z a0 hw [] a_TEXT a_INTEGER a_DECIMAL a_DATE a_BOOLEAN h0 n0 O0 En) hZ (hw _ (List.mem_of_getElem? (i := 4) rfl)) (hw _ (List.mem_of_getElem? (i := 3) rfl)) (by decide) (by decide)) (g := (mkF m 8 #[.val (.int i0), .val (.int (0 : Int32)), .unset, .unset] [(.int (0 : Int32))])) rfl (by rw [hml]; rfl) (argsL := [(.int (0 : Int32))]) (rest := []) (lenOf pd_0 rfl) rfl (by show 2 * 0 + _ ≤ _; exact Nat.le_of_eq rfl) (hb hby at_8) (fun _ _ => ⟨rfl, e0, (by decide : 0 + 0 ≤ _), (by decide : 0 + 0 ≤ _)⟩)
    dsimp only [Pt.U, Pt.locs, Pt.cells, Pt.slots] at X3 l3 y3 z3 st3 hQ3
    subst l3 y3 z3
    obtain ⟨rfl, N3q, hh3⟩ := hQ3
    have N3 := Fr.app N0 N3q
    obtain ⟨cq4, kq4, q4a, q4b, q4c⟩ := isOf hZ hh3 (Exa.ext O0.2 X_a_TEXT)
    obtain ⟨_, _, ⟨T4, L4, k4, n4⟩, -, X4, ⟨Lc4, hQ4, l4, y4, z4⟩, st4⟩ := X3.virtualBack hx (y := (⟨"com/example/abir/abir/ColumnType", "numeric", "()Z"⟩ : MethodName)) (z := (⟨"com/example/abir/abir/ColumnType", "numeric", "()Z"⟩ : MethodName)) hown (mvT hZ (hw _ (List.mem_of_getElem? (i := 8) rfl))) (mvT hZ (hw _ (List.mem_of_getElem? (i := 9) rfl))) (notFace_of_selects (args := #[]) (mvT hZ (hw _ (List.mem_of_getElem? (i := 11) rfl)))) (mvT hZ (hw _ (List.mem_of_getElem? (i := 11) rfl))) (mvT hZ (hw _ (List.mem_of_getElem? (i := 10) rfl))) (by decide) (backOf (W := 0) (rm_numeric_2 l Z a0 hw [] a_TEXT a_INTEGER a_DECIMAL a_DATE a_BOOLEAN h0 n0 O0 En) hZ (hw _ (List.mem_of_getElem? (i := 12) rfl)) (hw _ (List.mem_of_getElem? (i := 6) rfl)) (by decide) (by decide)) q4a q4c (g := (mkF m 35 #[.val (.int i0), .val (.int (0 : Int32)), .val (.ref a_TEXT), .val (.int (0 : Int32))] [(.ref a_TEXT)])) rfl (by rw [hml]; rfl) (Steps.refl _) (argsL := []) (rest := []) (lenOf pd_1 rfl) rfl (by show 2 * 0 + _ ≤ _; exact Nat.le_of_eq rfl) (hb hby at_35) (fun _ _ => ⟨rfl, hh3, (by decide : 0 + 0 ≤ _), (by decide : 0 + 0 ≤ _)⟩)
    dsimp only [Pt.U, Pt.locs, Pt.cells, Pt.slots] at X4 l4 y4 z4 st4 hQ4
    subst l4 y4 z4
    obtain ⟨rfl, N4q, hh4⟩ := hQ4
    have N4 := Fr.app N3 N4q
    obtain ⟨fs, hr, hrun, hended, hW, hsame⟩ := X4.leave (v := some (.int (1 : Int32))) (fun h => by rw [Bd.returns] at h; cases h)
    refine ⟨_, _, pre1 _ ?_, hrun, hended, _, _, rfl, ?_, ⟨_, rfl⟩, hW, hsame.mono (by decide) (by decide)⟩
    · skip
      show Steps p.tables e below (s₁.setTop (mkF m 6 #[.val (.int i0), .unset, .unset, .unset] [(.int ((i0 &&& (2147483647 : Int32)) % (5 : Int32)))])) _
      rw [hk2]
      show Steps p.tables e below (s₁.setTop (mkF m 6 #[.val (.int i0), .unset, .unset, .unset] [(.int (0 : Int32))])) _
      refine XS.istoreN X0.here hx rfl (hb hby at_6) rfl (l' := #[.val (.int i0), .val (.int (0 : Int32)), .unset, .unset]) rfl ?_
      show Steps p.tables e below (s₁.setTop (mkF m 7 #[.val (.int i0), .val (.int (0 : Int32)), .unset, .unset] [])) _
      refine XS.iloadN X0.here hx rfl (hb hby at_7) rfl ?_
      show Steps p.tables e below (s₁.setTop (mkF m 8 #[.val (.int i0), .val (.int (0 : Int32)), .unset, .unset] [(.int (0 : Int32))])) _
      refine st3 _ ?_
      show Steps p.tables e below (T3.setTop (mkF m 11 #[.val (.int i0), .val (.int (0 : Int32)), .unset, .unset] [(.ref a_TEXT)])) _
      refine XS.astoreN X3.here hx rfl (hb hby at_11) rfl rfl (l' := #[.val (.int i0), .val (.int (0 : Int32)), .val (.ref a_TEXT), .unset]) rfl ?_
      show Steps p.tables e below (T3.setTop (mkF m 12 #[.val (.int i0), .val (.int (0 : Int32)), .val (.ref a_TEXT), .unset] [])) _
      refine XS.iloadN X3.here hx rfl (hb hby at_12) rfl ?_
      show Steps p.tables e below (T3.setTop (mkF m 13 #[.val (.int i0), .val (.int (0 : Int32)), .val (.ref a_TEXT), .unset] [(.int (0 : Int32))])) _
      refine XS.iconst X3.here hx rfl (hb hby at_13) ?_
      show Steps p.tables e below (T3.setTop (mkF m 14 #[.val (.int i0), .val (.int (0 : Int32)), .val (.ref a_TEXT), .unset] [(.int (1 : Int32)), (.int (0 : Int32))])) _
      refine XS.icmpYes X3.here hx rfl (pc0 := 14) (pc' := 22) rfl (hb hby at_14) rfl (by decide) (by decide) (by decide) ?_
      show Steps p.tables e below (T3.setTop (mkF m 22 #[.val (.int i0), .val (.int (0 : Int32)), .val (.ref a_TEXT), .unset] [])) _
      refine XS.iloadN X3.here hx rfl (hb hby at_22) rfl ?_
      show Steps p.tables e below (T3.setTop (mkF m 23 #[.val (.int i0), .val (.int (0 : Int32)), .val (.ref a_TEXT), .unset] [(.int (0 : Int32))])) _
      refine XS.iconst X3.here hx rfl (hb hby at_23) ?_
      show Steps p.tables e below (T3.setTop (mkF m 24 #[.val (.int i0), .val (.int (0 : Int32)), .val (.ref a_TEXT), .unset] [(.int (2 : Int32)), (.int (0 : Int32))])) _
      refine XS.icmpYes X3.here hx rfl (pc0 := 24) (pc' := 32) rfl (hb hby at_24) rfl (by decide) (by decide) (by decide) ?_
      show Steps p.tables e below (T3.setTop (mkF m 32 #[.val (.int i0), .val (.int (0 : Int32)), .val (.ref a_TEXT), .unset] [])) _
      refine XS.iconst X3.here hx rfl (hb hby at_32) ?_
      show Steps p.tables e below (T3.setTop (mkF m 33 #[.val (.int i0), .val (.int (0 : Int32)), .val (.ref a_TEXT), .unset] [(.int (0 : Int32))])) _
      refine XS.istoreN X3.here hx rfl (hb hby at_33) rfl (l' := #[.val (.int i0), .val (.int (0 : Int32)), .val (.ref a_TEXT), .val (.int (0 : Int32))]) rfl ?_
      show Steps p.tables e below (T3.setTop (mkF m 34 #[.val (.int i0), .val (.int (0 : Int32)), .val (.ref a_TEXT), .val (.int (0 : Int32))] [])) _
      refine XS.aloadN X3.here hx rfl (hb hby at_34) rfl rfl ?_
      show Steps p.tables e below (T3.setTop (mkF m 35 #[.val (.int i0), .val (.int (0 : Int32)), .val (.ref a_TEXT), .val (.int (0 : Int32))] [(.ref a_TEXT)])) _
      refine st4.trans ?_
      show Steps p.tables e below (T4.setTop (mkF m 38 #[.val (.int i0), .val (.int (0 : Int32)), .val (.ref a_TEXT), .val (.int (0 : Int32))] [(.int (0 : Int32))])) _
      refine XS.iloadN X4.here hx rfl (hb hby at_38) rfl ?_
      show Steps p.tables e below (T4.setTop (mkF m 39 #[.val (.int i0), .val (.int (0 : Int32)), .val (.ref a_TEXT), .val (.int (0 : Int32))] [(.int (0 : Int32)), (.int (0 : Int32))])) _
      refine XS.icmpNo X4.here hx rfl (hb hby at_39) rfl (by decide) ?_
      show Steps p.tables e below (T4.setTop (mkF m 42 #[.val (.int i0), .val (.int (0 : Int32)), .val (.ref a_TEXT), .val (.int (0 : Int32))] [])) _
      refine XS.iconst X4.here hx rfl (hb hby at_42) ?_
      show Steps p.tables e below (T4.setTop (mkF m 43 #[.val (.int i0), .val (.int (0 : Int32)), .val (.ref a_TEXT), .val (.int (0 : Int32))] [(.int (1 : Int32))])) _
      refine XS.goto X4.here hx rfl (pc0 := 43) (pc' := 47) rfl (hb hby at_43) (by decide) (by decide) ?_
      show Steps p.tables e below (T4.setTop (mkF m 47 #[.val (.int i0), .val (.int (0 : Int32)), .val (.ref a_TEXT), .val (.int (0 : Int32))] [(.int (1 : Int32))])) _
      exact retN X4 hx (t := .boolean) Bd.returns (by simp) (hb hby at_47) hr
    · show QL n0 _ T4.heap _
      rw [hh4]
      exact ⟨rfl, N4⟩
  · skip
    obtain ⟨_, _, ⟨T5, L5, k5, n5⟩, -, X5, ⟨Lc5, hQ5, l5, y5, z5⟩, st5⟩ := Jvm.LawKit.callS X0 hx (y := (⟨"com/example/abir/abir/ColumnTypeNumericPinLaw", "pick", "(I)Lcom/example/abir/abir/ColumnType;"⟩ : MethodName)) hown (mvT hZ (hw _ (List.mem_of_getElem? (i := 1) rfl))) (mvT hZ (hw _ (List.mem_of_getElem? (i := 2) rfl))) (mvT hZ (hw _ (List.mem_of_getElem? (i := 3) rfl))) (mvT hZ (hw _ (List.mem_of_getElem? (i := 4) rfl))) (by decide) (backOf (W := 0) (rm_pick_3 l Z a0 hw [] a_TEXT a_INTEGER a_DECIMAL a_DATE a_BOOLEAN h0 n0 O0 En) hZ (hw _ (List.mem_of_getElem? (i := 4) rfl)) (hw _ (List.mem_of_getElem? (i := 3) rfl)) (by decide) (by decide)) (g := (mkF m 8 #[.val (.int i0), .val (.int (1 : Int32)), .unset, .unset] [(.int (1 : Int32))])) rfl (by rw [hml]; rfl) (argsL := [(.int (1 : Int32))]) (rest := []) (lenOf pd_0 rfl) rfl (by show 2 * 0 + _ ≤ _; exact Nat.le_of_eq rfl) (hb hby at_8) (fun _ _ => ⟨rfl, e0, (by decide : 0 + 0 ≤ _), (by decide : 0 + 0 ≤ _)⟩)
    dsimp only [Pt.U, Pt.locs, Pt.cells, Pt.slots] at X5 l5 y5 z5 st5 hQ5
    subst l5 y5 z5
    obtain ⟨rfl, N5q, hh5⟩ := hQ5
    have N5 := Fr.app N0 N5q
    obtain ⟨cq6, kq6, q6a, q6b, q6c⟩ := isOf hZ hh5 (Exa.ext O0.2 X_a_INTEGER)
    obtain ⟨_, _, ⟨T6, L6, k6, n6⟩, -, X6, ⟨Lc6, hQ6, l6, y6, z6⟩, st6⟩ := X5.virtualBack hx (y := (⟨"com/example/abir/abir/ColumnType", "numeric", "()Z"⟩ : MethodName)) (z := (⟨"com/example/abir/abir/ColumnType", "numeric", "()Z"⟩ : MethodName)) hown (mvT hZ (hw _ (List.mem_of_getElem? (i := 8) rfl))) (mvT hZ (hw _ (List.mem_of_getElem? (i := 9) rfl))) (notFace_of_selects (args := #[]) (mvT hZ (hw _ (List.mem_of_getElem? (i := 11) rfl)))) (mvT hZ (hw _ (List.mem_of_getElem? (i := 11) rfl))) (mvT hZ (hw _ (List.mem_of_getElem? (i := 10) rfl))) (by decide) (backOf (W := 0) (rm_numeric_4 l Z a0 hw [] a_TEXT a_INTEGER a_DECIMAL a_DATE a_BOOLEAN h0 n0 O0 En) hZ (hw _ (List.mem_of_getElem? (i := 12) rfl)) (hw _ (List.mem_of_getElem? (i := 6) rfl)) (by decide) (by decide)) q6a q6c (g := (mkF m 35 #[.val (.int i0), .val (.int (1 : Int32)), .val (.ref a_INTEGER), .val (.int (1 : Int32))] [(.ref a_INTEGER)])) rfl (by rw [hml]; rfl) (Steps.refl _) (argsL := []) (rest := []) (lenOf pd_1 rfl) rfl (by show 2 * 0 + _ ≤ _; exact Nat.le_of_eq rfl) (hb hby at_35) (fun _ _ => ⟨rfl, hh5, (by decide : 0 + 0 ≤ _), (by decide : 0 + 0 ≤ _)⟩)
    dsimp only [Pt.U, Pt.locs, Pt.cells, Pt.slots] at X6 l6 y6 z6 st6 hQ6
    subst l6 y6 z6
    obtain ⟨rfl, N6q, hh6⟩ := hQ6
    have N6 := Fr.app N5 N6q
    obtain ⟨fs, hr, hrun, hended, hW, hsame⟩ := X6.leave (v := some (.int (1 : Int32))) (fun h => by rw [Bd.returns] at h; cases h)
    refine ⟨_, _, pre1 _ ?_, hrun, hended, _, _, rfl, ?_, ⟨_, rfl⟩, hW, hsame.mono (by decide) (by decide)⟩
    · skip
      show Steps p.tables e below (s₁.setTop (mkF m 6 #[.val (.int i0), .unset, .unset, .unset] [(.int ((i0 &&& (2147483647 : Int32)) % (5 : Int32)))])) _
      rw [hk2]
      show Steps p.tables e below (s₁.setTop (mkF m 6 #[.val (.int i0), .unset, .unset, .unset] [(.int (1 : Int32))])) _
      refine XS.istoreN X0.here hx rfl (hb hby at_6) rfl (l' := #[.val (.int i0), .val (.int (1 : Int32)), .unset, .unset]) rfl ?_
      show Steps p.tables e below (s₁.setTop (mkF m 7 #[.val (.int i0), .val (.int (1 : Int32)), .unset, .unset] [])) _
      refine XS.iloadN X0.here hx rfl (hb hby at_7) rfl ?_
      show Steps p.tables e below (s₁.setTop (mkF m 8 #[.val (.int i0), .val (.int (1 : Int32)), .unset, .unset] [(.int (1 : Int32))])) _
      refine st5 _ ?_
      show Steps p.tables e below (T5.setTop (mkF m 11 #[.val (.int i0), .val (.int (1 : Int32)), .unset, .unset] [(.ref a_INTEGER)])) _
      refine XS.astoreN X5.here hx rfl (hb hby at_11) rfl rfl (l' := #[.val (.int i0), .val (.int (1 : Int32)), .val (.ref a_INTEGER), .unset]) rfl ?_
      show Steps p.tables e below (T5.setTop (mkF m 12 #[.val (.int i0), .val (.int (1 : Int32)), .val (.ref a_INTEGER), .unset] [])) _
      refine XS.iloadN X5.here hx rfl (hb hby at_12) rfl ?_
      show Steps p.tables e below (T5.setTop (mkF m 13 #[.val (.int i0), .val (.int (1 : Int32)), .val (.ref a_INTEGER), .unset] [(.int (1 : Int32))])) _
      refine XS.iconst X5.here hx rfl (hb hby at_13) ?_
      show Steps p.tables e below (T5.setTop (mkF m 14 #[.val (.int i0), .val (.int (1 : Int32)), .val (.ref a_INTEGER), .unset] [(.int (1 : Int32)), (.int (1 : Int32))])) _
      refine XS.icmpNo X5.here hx rfl (hb hby at_14) rfl (by decide) ?_
      show Steps p.tables e below (T5.setTop (mkF m 17 #[.val (.int i0), .val (.int (1 : Int32)), .val (.ref a_INTEGER), .unset] [])) _
      refine XS.iconst X5.here hx rfl (hb hby at_17) ?_
      show Steps p.tables e below (T5.setTop (mkF m 18 #[.val (.int i0), .val (.int (1 : Int32)), .val (.ref a_INTEGER), .unset] [(.int (1 : Int32))])) _
      refine XS.istoreN X5.here hx rfl (hb hby at_18) rfl (l' := #[.val (.int i0), .val (.int (1 : Int32)), .val (.ref a_INTEGER), .val (.int (1 : Int32))]) rfl ?_
      show Steps p.tables e below (T5.setTop (mkF m 19 #[.val (.int i0), .val (.int (1 : Int32)), .val (.ref a_INTEGER), .val (.int (1 : Int32))] [])) _
      refine XS.goto X5.here hx rfl (pc0 := 19) (pc' := 34) rfl (hb hby at_19) (by decide) (by decide) ?_
      show Steps p.tables e below (T5.setTop (mkF m 34 #[.val (.int i0), .val (.int (1 : Int32)), .val (.ref a_INTEGER), .val (.int (1 : Int32))] [])) _
      refine XS.aloadN X5.here hx rfl (hb hby at_34) rfl rfl ?_
      show Steps p.tables e below (T5.setTop (mkF m 35 #[.val (.int i0), .val (.int (1 : Int32)), .val (.ref a_INTEGER), .val (.int (1 : Int32))] [(.ref a_INTEGER)])) _
      refine st6.trans ?_
      show Steps p.tables e below (T6.setTop (mkF m 38 #[.val (.int i0), .val (.int (1 : Int32)), .val (.ref a_INTEGER), .val (.int (1 : Int32))] [(.int (1 : Int32))])) _
      refine XS.iloadN X6.here hx rfl (hb hby at_38) rfl ?_
      show Steps p.tables e below (T6.setTop (mkF m 39 #[.val (.int i0), .val (.int (1 : Int32)), .val (.ref a_INTEGER), .val (.int (1 : Int32))] [(.int (1 : Int32)), (.int (1 : Int32))])) _
      refine XS.icmpNo X6.here hx rfl (hb hby at_39) rfl (by decide) ?_
      show Steps p.tables e below (T6.setTop (mkF m 42 #[.val (.int i0), .val (.int (1 : Int32)), .val (.ref a_INTEGER), .val (.int (1 : Int32))] [])) _
      refine XS.iconst X6.here hx rfl (hb hby at_42) ?_
      show Steps p.tables e below (T6.setTop (mkF m 43 #[.val (.int i0), .val (.int (1 : Int32)), .val (.ref a_INTEGER), .val (.int (1 : Int32))] [(.int (1 : Int32))])) _
      refine XS.goto X6.here hx rfl (pc0 := 43) (pc' := 47) rfl (hb hby at_43) (by decide) (by decide) ?_
      show Steps p.tables e below (T6.setTop (mkF m 47 #[.val (.int i0), .val (.int (1 : Int32)), .val (.ref a_INTEGER), .val (.int (1 : Int32))] [(.int (1 : Int32))])) _
      exact retN X6 hx (t := .boolean) Bd.returns (by simp) (hb hby at_47) hr
    · show QL n0 _ T6.heap _
      rw [hh6]
      exact ⟨rfl, N6⟩
  · skip
    obtain ⟨_, _, ⟨T7, L7, k7, n7⟩, -, X7, ⟨Lc7, hQ7, l7, y7, z7⟩, st7⟩ := Jvm.LawKit.callS X0 hx (y := (⟨"com/example/abir/abir/ColumnTypeNumericPinLaw", "pick", "(I)Lcom/example/abir/abir/ColumnType;"⟩ : MethodName)) hown (mvT hZ (hw _ (List.mem_of_getElem? (i := 1) rfl))) (mvT hZ (hw _ (List.mem_of_getElem? (i := 2) rfl))) (mvT hZ (hw _ (List.mem_of_getElem? (i := 3) rfl))) (mvT hZ (hw _ (List.mem_of_getElem? (i := 4) rfl))) (by decide) (backOf (W := 0) (rm_pick_5 l Z a0 hw [] a_TEXT a_INTEGER a_DECIMAL a_DATE a_BOOLEAN h0 n0 O0 En) hZ (hw _ (List.mem_of_getElem? (i := 4) rfl)) (hw _ (List.mem_of_getElem? (i := 3) rfl)) (by decide) (by decide)) (g := (mkF m 8 #[.val (.int i0), .val (.int (2 : Int32)), .unset, .unset] [(.int (2 : Int32))])) rfl (by rw [hml]; rfl) (argsL := [(.int (2 : Int32))]) (rest := []) (lenOf pd_0 rfl) rfl (by show 2 * 0 + _ ≤ _; exact Nat.le_of_eq rfl) (hb hby at_8) (fun _ _ => ⟨rfl, e0, (by decide : 0 + 0 ≤ _), (by decide : 0 + 0 ≤ _)⟩)
    dsimp only [Pt.U, Pt.locs, Pt.cells, Pt.slots] at X7 l7 y7 z7 st7 hQ7
    subst l7 y7 z7
    obtain ⟨rfl, N7q, hh7⟩ := hQ7
    have N7 := Fr.app N0 N7q
    obtain ⟨cq8, kq8, q8a, q8b, q8c⟩ := isOf hZ hh7 (Exa.ext O0.2 X_a_DECIMAL)
    obtain ⟨_, _, ⟨T8, L8, k8, n8⟩, -, X8, ⟨Lc8, hQ8, l8, y8, z8⟩, st8⟩ := X7.virtualBack hx (y := (⟨"com/example/abir/abir/ColumnType", "numeric", "()Z"⟩ : MethodName)) (z := (⟨"com/example/abir/abir/ColumnType", "numeric", "()Z"⟩ : MethodName)) hown (mvT hZ (hw _ (List.mem_of_getElem? (i := 8) rfl))) (mvT hZ (hw _ (List.mem_of_getElem? (i := 9) rfl))) (notFace_of_selects (args := #[]) (mvT hZ (hw _ (List.mem_of_getElem? (i := 11) rfl)))) (mvT hZ (hw _ (List.mem_of_getElem? (i := 11) rfl))) (mvT hZ (hw _ (List.mem_of_getElem? (i := 10) rfl))) (by decide) (backOf (W := 0) (rm_numeric_6 l Z a0 hw [] a_TEXT a_INTEGER a_DECIMAL a_DATE a_BOOLEAN h0 n0 O0 En) hZ (hw _ (List.mem_of_getElem? (i := 12) rfl)) (hw _ (List.mem_of_getElem? (i := 6) rfl)) (by decide) (by decide)) q8a q8c (g := (mkF m 35 #[.val (.int i0), .val (.int (2 : Int32)), .val (.ref a_DECIMAL), .val (.int (1 : Int32))] [(.ref a_DECIMAL)])) rfl (by rw [hml]; rfl) (Steps.refl _) (argsL := []) (rest := []) (lenOf pd_1 rfl) rfl (by show 2 * 0 + _ ≤ _; exact Nat.le_of_eq rfl) (hb hby at_35) (fun _ _ => ⟨rfl, hh7, (by decide : 0 + 0 ≤ _), (by decide : 0 + 0 ≤ _)⟩)
    dsimp only [Pt.U, Pt.locs, Pt.cells, Pt.slots] at X8 l8 y8 z8 st8 hQ8
    subst l8 y8 z8
    obtain ⟨rfl, N8q, hh8⟩ := hQ8
    have N8 := Fr.app N7 N8q
    obtain ⟨fs, hr, hrun, hended, hW, hsame⟩ := X8.leave (v := some (.int (1 : Int32))) (fun h => by rw [Bd.returns] at h; cases h)
    refine ⟨_, _, pre1 _ ?_, hrun, hended, _, _, rfl, ?_, ⟨_, rfl⟩, hW, hsame.mono (by decide) (by decide)⟩
    · skip
      show Steps p.tables e below (s₁.setTop (mkF m 6 #[.val (.int i0), .unset, .unset, .unset] [(.int ((i0 &&& (2147483647 : Int32)) % (5 : Int32)))])) _
      rw [hk2]
      show Steps p.tables e below (s₁.setTop (mkF m 6 #[.val (.int i0), .unset, .unset, .unset] [(.int (2 : Int32))])) _
      refine XS.istoreN X0.here hx rfl (hb hby at_6) rfl (l' := #[.val (.int i0), .val (.int (2 : Int32)), .unset, .unset]) rfl ?_
      show Steps p.tables e below (s₁.setTop (mkF m 7 #[.val (.int i0), .val (.int (2 : Int32)), .unset, .unset] [])) _
      refine XS.iloadN X0.here hx rfl (hb hby at_7) rfl ?_
      show Steps p.tables e below (s₁.setTop (mkF m 8 #[.val (.int i0), .val (.int (2 : Int32)), .unset, .unset] [(.int (2 : Int32))])) _
      refine st7 _ ?_
      show Steps p.tables e below (T7.setTop (mkF m 11 #[.val (.int i0), .val (.int (2 : Int32)), .unset, .unset] [(.ref a_DECIMAL)])) _
      refine XS.astoreN X7.here hx rfl (hb hby at_11) rfl rfl (l' := #[.val (.int i0), .val (.int (2 : Int32)), .val (.ref a_DECIMAL), .unset]) rfl ?_
      show Steps p.tables e below (T7.setTop (mkF m 12 #[.val (.int i0), .val (.int (2 : Int32)), .val (.ref a_DECIMAL), .unset] [])) _
      refine XS.iloadN X7.here hx rfl (hb hby at_12) rfl ?_
      show Steps p.tables e below (T7.setTop (mkF m 13 #[.val (.int i0), .val (.int (2 : Int32)), .val (.ref a_DECIMAL), .unset] [(.int (2 : Int32))])) _
      refine XS.iconst X7.here hx rfl (hb hby at_13) ?_
      show Steps p.tables e below (T7.setTop (mkF m 14 #[.val (.int i0), .val (.int (2 : Int32)), .val (.ref a_DECIMAL), .unset] [(.int (1 : Int32)), (.int (2 : Int32))])) _
      refine XS.icmpYes X7.here hx rfl (pc0 := 14) (pc' := 22) rfl (hb hby at_14) rfl (by decide) (by decide) (by decide) ?_
      show Steps p.tables e below (T7.setTop (mkF m 22 #[.val (.int i0), .val (.int (2 : Int32)), .val (.ref a_DECIMAL), .unset] [])) _
      refine XS.iloadN X7.here hx rfl (hb hby at_22) rfl ?_
      show Steps p.tables e below (T7.setTop (mkF m 23 #[.val (.int i0), .val (.int (2 : Int32)), .val (.ref a_DECIMAL), .unset] [(.int (2 : Int32))])) _
      refine XS.iconst X7.here hx rfl (hb hby at_23) ?_
      show Steps p.tables e below (T7.setTop (mkF m 24 #[.val (.int i0), .val (.int (2 : Int32)), .val (.ref a_DECIMAL), .unset] [(.int (2 : Int32)), (.int (2 : Int32))])) _
      refine XS.icmpNo X7.here hx rfl (hb hby at_24) rfl (by decide) ?_
      show Steps p.tables e below (T7.setTop (mkF m 27 #[.val (.int i0), .val (.int (2 : Int32)), .val (.ref a_DECIMAL), .unset] [])) _
      refine XS.iconst X7.here hx rfl (hb hby at_27) ?_
      show Steps p.tables e below (T7.setTop (mkF m 28 #[.val (.int i0), .val (.int (2 : Int32)), .val (.ref a_DECIMAL), .unset] [(.int (1 : Int32))])) _
      refine XS.istoreN X7.here hx rfl (hb hby at_28) rfl (l' := #[.val (.int i0), .val (.int (2 : Int32)), .val (.ref a_DECIMAL), .val (.int (1 : Int32))]) rfl ?_
      show Steps p.tables e below (T7.setTop (mkF m 29 #[.val (.int i0), .val (.int (2 : Int32)), .val (.ref a_DECIMAL), .val (.int (1 : Int32))] [])) _
      refine XS.goto X7.here hx rfl (pc0 := 29) (pc' := 34) rfl (hb hby at_29) (by decide) (by decide) ?_
      show Steps p.tables e below (T7.setTop (mkF m 34 #[.val (.int i0), .val (.int (2 : Int32)), .val (.ref a_DECIMAL), .val (.int (1 : Int32))] [])) _
      refine XS.aloadN X7.here hx rfl (hb hby at_34) rfl rfl ?_
      show Steps p.tables e below (T7.setTop (mkF m 35 #[.val (.int i0), .val (.int (2 : Int32)), .val (.ref a_DECIMAL), .val (.int (1 : Int32))] [(.ref a_DECIMAL)])) _
      refine st8.trans ?_
      show Steps p.tables e below (T8.setTop (mkF m 38 #[.val (.int i0), .val (.int (2 : Int32)), .val (.ref a_DECIMAL), .val (.int (1 : Int32))] [(.int (1 : Int32))])) _
      refine XS.iloadN X8.here hx rfl (hb hby at_38) rfl ?_
      show Steps p.tables e below (T8.setTop (mkF m 39 #[.val (.int i0), .val (.int (2 : Int32)), .val (.ref a_DECIMAL), .val (.int (1 : Int32))] [(.int (1 : Int32)), (.int (1 : Int32))])) _
      refine XS.icmpNo X8.here hx rfl (hb hby at_39) rfl (by decide) ?_
      show Steps p.tables e below (T8.setTop (mkF m 42 #[.val (.int i0), .val (.int (2 : Int32)), .val (.ref a_DECIMAL), .val (.int (1 : Int32))] [])) _
      refine XS.iconst X8.here hx rfl (hb hby at_42) ?_
      show Steps p.tables e below (T8.setTop (mkF m 43 #[.val (.int i0), .val (.int (2 : Int32)), .val (.ref a_DECIMAL), .val (.int (1 : Int32))] [(.int (1 : Int32))])) _
      refine XS.goto X8.here hx rfl (pc0 := 43) (pc' := 47) rfl (hb hby at_43) (by decide) (by decide) ?_
      show Steps p.tables e below (T8.setTop (mkF m 47 #[.val (.int i0), .val (.int (2 : Int32)), .val (.ref a_DECIMAL), .val (.int (1 : Int32))] [(.int (1 : Int32))])) _
      exact retN X8 hx (t := .boolean) Bd.returns (by simp) (hb hby at_47) hr
    · show QL n0 _ T8.heap _
      rw [hh8]
      exact ⟨rfl, N8⟩
  · skip
    obtain ⟨_, _, ⟨T9, L9, k9, n9⟩, -, X9, ⟨Lc9, hQ9, l9, y9, z9⟩, st9⟩ := Jvm.LawKit.callS X0 hx (y := (⟨"com/example/abir/abir/ColumnTypeNumericPinLaw", "pick", "(I)Lcom/example/abir/abir/ColumnType;"⟩ : MethodName)) hown (mvT hZ (hw _ (List.mem_of_getElem? (i := 1) rfl))) (mvT hZ (hw _ (List.mem_of_getElem? (i := 2) rfl))) (mvT hZ (hw _ (List.mem_of_getElem? (i := 3) rfl))) (mvT hZ (hw _ (List.mem_of_getElem? (i := 4) rfl))) (by decide) (backOf (W := 0) (rm_pick_7 l Z a0 hw [] a_TEXT a_INTEGER a_DECIMAL a_DATE a_BOOLEAN h0 n0 O0 En) hZ (hw _ (List.mem_of_getElem? (i := 4) rfl)) (hw _ (List.mem_of_getElem? (i := 3) rfl)) (by decide) (by decide)) (g := (mkF m 8 #[.val (.int i0), .val (.int (3 : Int32)), .unset, .unset] [(.int (3 : Int32))])) rfl (by rw [hml]; rfl) (argsL := [(.int (3 : Int32))]) (rest := []) (lenOf pd_0 rfl) rfl (by show 2 * 0 + _ ≤ _; exact Nat.le_of_eq rfl) (hb hby at_8) (fun _ _ => ⟨rfl, e0, (by decide : 0 + 0 ≤ _), (by decide : 0 + 0 ≤ _)⟩)
    dsimp only [Pt.U, Pt.locs, Pt.cells, Pt.slots] at X9 l9 y9 z9 st9 hQ9
    subst l9 y9 z9
    obtain ⟨rfl, N9q, hh9⟩ := hQ9
    have N9 := Fr.app N0 N9q
    obtain ⟨cq10, kq10, q10a, q10b, q10c⟩ := isOf hZ hh9 (Exa.ext O0.2 X_a_DATE)
    obtain ⟨_, _, ⟨T10, L10, k10, n10⟩, -, X10, ⟨Lc10, hQ10, l10, y10, z10⟩, st10⟩ := X9.virtualBack hx (y := (⟨"com/example/abir/abir/ColumnType", "numeric", "()Z"⟩ : MethodName)) (z := (⟨"com/example/abir/abir/ColumnType", "numeric", "()Z"⟩ : MethodName)) hown (mvT hZ (hw _ (List.mem_of_getElem? (i := 8) rfl))) (mvT hZ (hw _ (List.mem_of_getElem? (i := 9) rfl))) (notFace_of_selects (args := #[]) (mvT hZ (hw _ (List.mem_of_getElem? (i := 11) rfl)))) (mvT hZ (hw _ (List.mem_of_getElem? (i := 11) rfl))) (mvT hZ (hw _ (List.mem_of_getElem? (i := 10) rfl))) (by decide) (backOf (W := 0) (rm_numeric_8 l Z a0 hw [] a_TEXT a_INTEGER a_DECIMAL a_DATE a_BOOLEAN h0 n0 O0 En) hZ (hw _ (List.mem_of_getElem? (i := 12) rfl)) (hw _ (List.mem_of_getElem? (i := 6) rfl)) (by decide) (by decide)) q10a q10c (g := (mkF m 35 #[.val (.int i0), .val (.int (3 : Int32)), .val (.ref a_DATE), .val (.int (0 : Int32))] [(.ref a_DATE)])) rfl (by rw [hml]; rfl) (Steps.refl _) (argsL := []) (rest := []) (lenOf pd_1 rfl) rfl (by show 2 * 0 + _ ≤ _; exact Nat.le_of_eq rfl) (hb hby at_35) (fun _ _ => ⟨rfl, hh9, (by decide : 0 + 0 ≤ _), (by decide : 0 + 0 ≤ _)⟩)
    dsimp only [Pt.U, Pt.locs, Pt.cells, Pt.slots] at X10 l10 y10 z10 st10 hQ10
    subst l10 y10 z10
    obtain ⟨rfl, N10q, hh10⟩ := hQ10
    have N10 := Fr.app N9 N10q
    obtain ⟨fs, hr, hrun, hended, hW, hsame⟩ := X10.leave (v := some (.int (1 : Int32))) (fun h => by rw [Bd.returns] at h; cases h)
    refine ⟨_, _, pre1 _ ?_, hrun, hended, _, _, rfl, ?_, ⟨_, rfl⟩, hW, hsame.mono (by decide) (by decide)⟩
    · skip
      show Steps p.tables e below (s₁.setTop (mkF m 6 #[.val (.int i0), .unset, .unset, .unset] [(.int ((i0 &&& (2147483647 : Int32)) % (5 : Int32)))])) _
      rw [hk2]
      show Steps p.tables e below (s₁.setTop (mkF m 6 #[.val (.int i0), .unset, .unset, .unset] [(.int (3 : Int32))])) _
      refine XS.istoreN X0.here hx rfl (hb hby at_6) rfl (l' := #[.val (.int i0), .val (.int (3 : Int32)), .unset, .unset]) rfl ?_
      show Steps p.tables e below (s₁.setTop (mkF m 7 #[.val (.int i0), .val (.int (3 : Int32)), .unset, .unset] [])) _
      refine XS.iloadN X0.here hx rfl (hb hby at_7) rfl ?_
      show Steps p.tables e below (s₁.setTop (mkF m 8 #[.val (.int i0), .val (.int (3 : Int32)), .unset, .unset] [(.int (3 : Int32))])) _
      refine st9 _ ?_
      show Steps p.tables e below (T9.setTop (mkF m 11 #[.val (.int i0), .val (.int (3 : Int32)), .unset, .unset] [(.ref a_DATE)])) _
      refine XS.astoreN X9.here hx rfl (hb hby at_11) rfl rfl (l' := #[.val (.int i0), .val (.int (3 : Int32)), .val (.ref a_DATE), .unset]) rfl ?_
      show Steps p.tables e below (T9.setTop (mkF m 12 #[.val (.int i0), .val (.int (3 : Int32)), .val (.ref a_DATE), .unset] [])) _
      refine XS.iloadN X9.here hx rfl (hb hby at_12) rfl ?_
      show Steps p.tables e below (T9.setTop (mkF m 13 #[.val (.int i0), .val (.int (3 : Int32)), .val (.ref a_DATE), .unset] [(.int (3 : Int32))])) _
      refine XS.iconst X9.here hx rfl (hb hby at_13) ?_
      show Steps p.tables e below (T9.setTop (mkF m 14 #[.val (.int i0), .val (.int (3 : Int32)), .val (.ref a_DATE), .unset] [(.int (1 : Int32)), (.int (3 : Int32))])) _
      refine XS.icmpYes X9.here hx rfl (pc0 := 14) (pc' := 22) rfl (hb hby at_14) rfl (by decide) (by decide) (by decide) ?_
      show Steps p.tables e below (T9.setTop (mkF m 22 #[.val (.int i0), .val (.int (3 : Int32)), .val (.ref a_DATE), .unset] [])) _
      refine XS.iloadN X9.here hx rfl (hb hby at_22) rfl ?_
      show Steps p.tables e below (T9.setTop (mkF m 23 #[.val (.int i0), .val (.int (3 : Int32)), .val (.ref a_DATE), .unset] [(.int (3 : Int32))])) _
      refine XS.iconst X9.here hx rfl (hb hby at_23) ?_
      show Steps p.tables e below (T9.setTop (mkF m 24 #[.val (.int i0), .val (.int (3 : Int32)), .val (.ref a_DATE), .unset] [(.int (2 : Int32)), (.int (3 : Int32))])) _
      refine XS.icmpYes X9.here hx rfl (pc0 := 24) (pc' := 32) rfl (hb hby at_24) rfl (by decide) (by decide) (by decide) ?_
      show Steps p.tables e below (T9.setTop (mkF m 32 #[.val (.int i0), .val (.int (3 : Int32)), .val (.ref a_DATE), .unset] [])) _
      refine XS.iconst X9.here hx rfl (hb hby at_32) ?_
      show Steps p.tables e below (T9.setTop (mkF m 33 #[.val (.int i0), .val (.int (3 : Int32)), .val (.ref a_DATE), .unset] [(.int (0 : Int32))])) _
      refine XS.istoreN X9.here hx rfl (hb hby at_33) rfl (l' := #[.val (.int i0), .val (.int (3 : Int32)), .val (.ref a_DATE), .val (.int (0 : Int32))]) rfl ?_
      show Steps p.tables e below (T9.setTop (mkF m 34 #[.val (.int i0), .val (.int (3 : Int32)), .val (.ref a_DATE), .val (.int (0 : Int32))] [])) _
      refine XS.aloadN X9.here hx rfl (hb hby at_34) rfl rfl ?_
      show Steps p.tables e below (T9.setTop (mkF m 35 #[.val (.int i0), .val (.int (3 : Int32)), .val (.ref a_DATE), .val (.int (0 : Int32))] [(.ref a_DATE)])) _
      refine st10.trans ?_
      show Steps p.tables e below (T10.setTop (mkF m 38 #[.val (.int i0), .val (.int (3 : Int32)), .val (.ref a_DATE), .val (.int (0 : Int32))] [(.int (0 : Int32))])) _
      refine XS.iloadN X10.here hx rfl (hb hby at_38) rfl ?_
      show Steps p.tables e below (T10.setTop (mkF m 39 #[.val (.int i0), .val (.int (3 : Int32)), .val (.ref a_DATE), .val (.int (0 : Int32))] [(.int (0 : Int32)), (.int (0 : Int32))])) _
      refine XS.icmpNo X10.here hx rfl (hb hby at_39) rfl (by decide) ?_
      show Steps p.tables e below (T10.setTop (mkF m 42 #[.val (.int i0), .val (.int (3 : Int32)), .val (.ref a_DATE), .val (.int (0 : Int32))] [])) _
      refine XS.iconst X10.here hx rfl (hb hby at_42) ?_
      show Steps p.tables e below (T10.setTop (mkF m 43 #[.val (.int i0), .val (.int (3 : Int32)), .val (.ref a_DATE), .val (.int (0 : Int32))] [(.int (1 : Int32))])) _
      refine XS.goto X10.here hx rfl (pc0 := 43) (pc' := 47) rfl (hb hby at_43) (by decide) (by decide) ?_
      show Steps p.tables e below (T10.setTop (mkF m 47 #[.val (.int i0), .val (.int (3 : Int32)), .val (.ref a_DATE), .val (.int (0 : Int32))] [(.int (1 : Int32))])) _
      exact retN X10 hx (t := .boolean) Bd.returns (by simp) (hb hby at_47) hr
    · show QL n0 _ T10.heap _
      rw [hh10]
      exact ⟨rfl, N10⟩
  · skip
    obtain ⟨_, _, ⟨T11, L11, k11, n11⟩, -, X11, ⟨Lc11, hQ11, l11, y11, z11⟩, st11⟩ := Jvm.LawKit.callS X0 hx (y := (⟨"com/example/abir/abir/ColumnTypeNumericPinLaw", "pick", "(I)Lcom/example/abir/abir/ColumnType;"⟩ : MethodName)) hown (mvT hZ (hw _ (List.mem_of_getElem? (i := 1) rfl))) (mvT hZ (hw _ (List.mem_of_getElem? (i := 2) rfl))) (mvT hZ (hw _ (List.mem_of_getElem? (i := 3) rfl))) (mvT hZ (hw _ (List.mem_of_getElem? (i := 4) rfl))) (by decide) (backOf (W := 0) (rm_pick_9 l Z a0 hw [] a_TEXT a_INTEGER a_DECIMAL a_DATE a_BOOLEAN h0 n0 O0 En) hZ (hw _ (List.mem_of_getElem? (i := 4) rfl)) (hw _ (List.mem_of_getElem? (i := 3) rfl)) (by decide) (by decide)) (g := (mkF m 8 #[.val (.int i0), .val (.int (4 : Int32)), .unset, .unset] [(.int (4 : Int32))])) rfl (by rw [hml]; rfl) (argsL := [(.int (4 : Int32))]) (rest := []) (lenOf pd_0 rfl) rfl (by show 2 * 0 + _ ≤ _; exact Nat.le_of_eq rfl) (hb hby at_8) (fun _ _ => ⟨rfl, e0, (by decide : 0 + 0 ≤ _), (by decide : 0 + 0 ≤ _)⟩)
    dsimp only [Pt.U, Pt.locs, Pt.cells, Pt.slots] at X11 l11 y11 z11 st11 hQ11
    subst l11 y11 z11
    obtain ⟨rfl, N11q, hh11⟩ := hQ11
    have N11 := Fr.app N0 N11q
    obtain ⟨cq12, kq12, q12a, q12b, q12c⟩ := isOf hZ hh11 (Exa.ext O0.2 X_a_BOOLEAN)
    obtain ⟨_, _, ⟨T12, L12, k12, n12⟩, -, X12, ⟨Lc12, hQ12, l12, y12, z12⟩, st12⟩ := X11.virtualBack hx (y := (⟨"com/example/abir/abir/ColumnType", "numeric", "()Z"⟩ : MethodName)) (z := (⟨"com/example/abir/abir/ColumnType", "numeric", "()Z"⟩ : MethodName)) hown (mvT hZ (hw _ (List.mem_of_getElem? (i := 8) rfl))) (mvT hZ (hw _ (List.mem_of_getElem? (i := 9) rfl))) (notFace_of_selects (args := #[]) (mvT hZ (hw _ (List.mem_of_getElem? (i := 11) rfl)))) (mvT hZ (hw _ (List.mem_of_getElem? (i := 11) rfl))) (mvT hZ (hw _ (List.mem_of_getElem? (i := 10) rfl))) (by decide) (backOf (W := 0) (rm_numeric_10 l Z a0 hw [] a_TEXT a_INTEGER a_DECIMAL a_DATE a_BOOLEAN h0 n0 O0 En) hZ (hw _ (List.mem_of_getElem? (i := 12) rfl)) (hw _ (List.mem_of_getElem? (i := 6) rfl)) (by decide) (by decide)) q12a q12c (g := (mkF m 35 #[.val (.int i0), .val (.int (4 : Int32)), .val (.ref a_BOOLEAN), .val (.int (0 : Int32))] [(.ref a_BOOLEAN)])) rfl (by rw [hml]; rfl) (Steps.refl _) (argsL := []) (rest := []) (lenOf pd_1 rfl) rfl (by show 2 * 0 + _ ≤ _; exact Nat.le_of_eq rfl) (hb hby at_35) (fun _ _ => ⟨rfl, hh11, (by decide : 0 + 0 ≤ _), (by decide : 0 + 0 ≤ _)⟩)
    dsimp only [Pt.U, Pt.locs, Pt.cells, Pt.slots] at X12 l12 y12 z12 st12 hQ12
    subst l12 y12 z12
    obtain ⟨rfl, N12q, hh12⟩ := hQ12
    have N12 := Fr.app N11 N12q
    obtain ⟨fs, hr, hrun, hended, hW, hsame⟩ := X12.leave (v := some (.int (1 : Int32))) (fun h => by rw [Bd.returns] at h; cases h)
    refine ⟨_, _, pre1 _ ?_, hrun, hended, _, _, rfl, ?_, ⟨_, rfl⟩, hW, hsame.mono (by decide) (by decide)⟩
    · skip
      show Steps p.tables e below (s₁.setTop (mkF m 6 #[.val (.int i0), .unset, .unset, .unset] [(.int ((i0 &&& (2147483647 : Int32)) % (5 : Int32)))])) _
      rw [hk2]
      show Steps p.tables e below (s₁.setTop (mkF m 6 #[.val (.int i0), .unset, .unset, .unset] [(.int (4 : Int32))])) _
      refine XS.istoreN X0.here hx rfl (hb hby at_6) rfl (l' := #[.val (.int i0), .val (.int (4 : Int32)), .unset, .unset]) rfl ?_
      show Steps p.tables e below (s₁.setTop (mkF m 7 #[.val (.int i0), .val (.int (4 : Int32)), .unset, .unset] [])) _
      refine XS.iloadN X0.here hx rfl (hb hby at_7) rfl ?_
      show Steps p.tables e below (s₁.setTop (mkF m 8 #[.val (.int i0), .val (.int (4 : Int32)), .unset, .unset] [(.int (4 : Int32))])) _
      refine st11 _ ?_
      show Steps p.tables e below (T11.setTop (mkF m 11 #[.val (.int i0), .val (.int (4 : Int32)), .unset, .unset] [(.ref a_BOOLEAN)])) _
      refine XS.astoreN X11.here hx rfl (hb hby at_11) rfl rfl (l' := #[.val (.int i0), .val (.int (4 : Int32)), .val (.ref a_BOOLEAN), .unset]) rfl ?_
      show Steps p.tables e below (T11.setTop (mkF m 12 #[.val (.int i0), .val (.int (4 : Int32)), .val (.ref a_BOOLEAN), .unset] [])) _
      refine XS.iloadN X11.here hx rfl (hb hby at_12) rfl ?_
      show Steps p.tables e below (T11.setTop (mkF m 13 #[.val (.int i0), .val (.int (4 : Int32)), .val (.ref a_BOOLEAN), .unset] [(.int (4 : Int32))])) _
      refine XS.iconst X11.here hx rfl (hb hby at_13) ?_
      show Steps p.tables e below (T11.setTop (mkF m 14 #[.val (.int i0), .val (.int (4 : Int32)), .val (.ref a_BOOLEAN), .unset] [(.int (1 : Int32)), (.int (4 : Int32))])) _
      refine XS.icmpYes X11.here hx rfl (pc0 := 14) (pc' := 22) rfl (hb hby at_14) rfl (by decide) (by decide) (by decide) ?_
      show Steps p.tables e below (T11.setTop (mkF m 22 #[.val (.int i0), .val (.int (4 : Int32)), .val (.ref a_BOOLEAN), .unset] [])) _
      refine XS.iloadN X11.here hx rfl (hb hby at_22) rfl ?_
      show Steps p.tables e below (T11.setTop (mkF m 23 #[.val (.int i0), .val (.int (4 : Int32)), .val (.ref a_BOOLEAN), .unset] [(.int (4 : Int32))])) _
      refine XS.iconst X11.here hx rfl (hb hby at_23) ?_
      show Steps p.tables e below (T11.setTop (mkF m 24 #[.val (.int i0), .val (.int (4 : Int32)), .val (.ref a_BOOLEAN), .unset] [(.int (2 : Int32)), (.int (4 : Int32))])) _
      refine XS.icmpYes X11.here hx rfl (pc0 := 24) (pc' := 32) rfl (hb hby at_24) rfl (by decide) (by decide) (by decide) ?_
      show Steps p.tables e below (T11.setTop (mkF m 32 #[.val (.int i0), .val (.int (4 : Int32)), .val (.ref a_BOOLEAN), .unset] [])) _
      refine XS.iconst X11.here hx rfl (hb hby at_32) ?_
      show Steps p.tables e below (T11.setTop (mkF m 33 #[.val (.int i0), .val (.int (4 : Int32)), .val (.ref a_BOOLEAN), .unset] [(.int (0 : Int32))])) _
      refine XS.istoreN X11.here hx rfl (hb hby at_33) rfl (l' := #[.val (.int i0), .val (.int (4 : Int32)), .val (.ref a_BOOLEAN), .val (.int (0 : Int32))]) rfl ?_
      show Steps p.tables e below (T11.setTop (mkF m 34 #[.val (.int i0), .val (.int (4 : Int32)), .val (.ref a_BOOLEAN), .val (.int (0 : Int32))] [])) _
      refine XS.aloadN X11.here hx rfl (hb hby at_34) rfl rfl ?_
      show Steps p.tables e below (T11.setTop (mkF m 35 #[.val (.int i0), .val (.int (4 : Int32)), .val (.ref a_BOOLEAN), .val (.int (0 : Int32))] [(.ref a_BOOLEAN)])) _
      refine st12.trans ?_
      show Steps p.tables e below (T12.setTop (mkF m 38 #[.val (.int i0), .val (.int (4 : Int32)), .val (.ref a_BOOLEAN), .val (.int (0 : Int32))] [(.int (0 : Int32))])) _
      refine XS.iloadN X12.here hx rfl (hb hby at_38) rfl ?_
      show Steps p.tables e below (T12.setTop (mkF m 39 #[.val (.int i0), .val (.int (4 : Int32)), .val (.ref a_BOOLEAN), .val (.int (0 : Int32))] [(.int (0 : Int32)), (.int (0 : Int32))])) _
      refine XS.icmpNo X12.here hx rfl (hb hby at_39) rfl (by decide) ?_
      show Steps p.tables e below (T12.setTop (mkF m 42 #[.val (.int i0), .val (.int (4 : Int32)), .val (.ref a_BOOLEAN), .val (.int (0 : Int32))] [])) _
      refine XS.iconst X12.here hx rfl (hb hby at_42) ?_
      show Steps p.tables e below (T12.setTop (mkF m 43 #[.val (.int i0), .val (.int (4 : Int32)), .val (.ref a_BOOLEAN), .val (.int (0 : Int32))] [(.int (1 : Int32))])) _
      refine XS.goto X12.here hx rfl (pc0 := 43) (pc' := 47) rfl (hb hby at_43) (by decide) (by decide) ?_
      show Steps p.tables e below (T12.setTop (mkF m 47 #[.val (.int i0), .val (.int (4 : Int32)), .val (.ref a_BOOLEAN), .val (.int (0 : Int32))] [(.int (1 : Int32))])) _
      exact retN X12 hx (t := .boolean) Bd.returns (by simp) (hb hby at_47) hr
    · show QL n0 _ T12.heap _
      rw [hh12]
      exact ⟨rfl, N12⟩
set_option maxRecDepth 65536 in
set_option maxHeartbeats 40000000 in
theorem comes_1 {Post : Tables → Env → Array Value → State → Outcome → State → Prop} (hpost : ∀ tb e args s v u, (limb_1_1.after args s (.returned v) u = true ∧ limb_1_2.after args s (.returned v) u = true ∧ True) → FrameEnd s (.returned v) u (Jvm.fieldLocs frame_1_writes args s ++ Jvm.arrayLocs frame_1_arrays args s ++ Jvm.staticLocs frame_1_statics s) 0 0 → Post tb e args s (.returned v) u) :
    ArmFor flags0 classFile x code maxLocals ret World_1 tables_1 room_1 Calls_1 rest_1 Pre_1 Post := by
  intro l hfl _ _ p e ha hc hk s m args below hf hA hF happ hP
  obtain ⟨hcalls, hrest, hpre⟩ := hP
  obtain ⟨-, -, -, hnamed, -, -, -, hat⟩ := (Spec.applies_iff hf).mp happ
  obtain ⟨hg, hn⟩ := and_e (Cond.before_iff.mp (show (Jvm.Cond.and given_1 narrow_1).before args s = true from hpre))
  obtain ⟨g0, r0⟩ := and_e hg
  obtain ⟨w0, rfl⟩ : ∃ w0 : Value, args = #[w0] := by
    have hs : args.size = 1 := by simpa [Cond.value, given_1] using g0
    obtain ⟨L⟩ := args
    match L, hs with
    | [w0], _ => exact ⟨w0, rfl⟩
  have hw := fun d (hd : d ∈ tables_1) => atoms_spec (ws := Jvm.Cond.code x code maxLocals ret :: tables_1) hat d (List.mem_cons_of_mem _ hd)
  have hfit : Fit s := fun {y c} hc i hi => by
    obtain ⟨ha, rfl⟩ := Array.getElem?_eq_some_iff.mp hc
    have q := List.all_eq_true.mp ((Array.all_eq_true_iff_forall_mem.mp hF) _ (Array.getElem_mem ha)) i (List.mem_range.mpr hi)
    simpa [Array.getElem?_eq_getElem hi] using q
  obtain ⟨i0, ei0⟩ := is_v r0
  obtain rfl : w0 = (.int i0) := Option.some.inj ei0
  obtain ⟨n0, m0⟩ := and_e hn
  obtain ⟨a_TEXT, ev_a_TEXT⟩ := exa_v n0
  have X_a_TEXT := Exa.start ev_a_TEXT n0
  have S_a_TEXT := Sta.start ev_a_TEXT (Or.inr ⟨(hw _ (List.mem_of_getElem? (i := 6) rfl)), (hw _ (List.mem_of_getElem? (i := 7) rfl))⟩)
  obtain ⟨n1, m1⟩ := and_e m0
  obtain ⟨a_INTEGER, ev_a_INTEGER⟩ := exa_v n1
  have X_a_INTEGER := Exa.start ev_a_INTEGER n1
  have S_a_INTEGER := Sta.start ev_a_INTEGER (Or.inr ⟨(hw _ (List.mem_of_getElem? (i := 6) rfl)), (hw _ (List.mem_of_getElem? (i := 14) rfl))⟩)
  obtain ⟨n2, m2⟩ := and_e m1
  have F_a_TEXT_ordinal := own_fldI ev_a_TEXT n2
  obtain ⟨n3, m3⟩ := and_e m2
  have F_a_INTEGER_ordinal := own_fldI ev_a_INTEGER n3
  obtain ⟨n4, m4⟩ := and_e m3
  obtain ⟨a_DECIMAL, ev_a_DECIMAL⟩ := exa_v n4
  have X_a_DECIMAL := Exa.start ev_a_DECIMAL n4
  have S_a_DECIMAL := Sta.start ev_a_DECIMAL (Or.inr ⟨(hw _ (List.mem_of_getElem? (i := 6) rfl)), (hw _ (List.mem_of_getElem? (i := 16) rfl))⟩)
  obtain ⟨n5, m5⟩ := and_e m4
  have F_a_DECIMAL_ordinal := own_fldI ev_a_DECIMAL n5
  obtain ⟨n6, m6⟩ := and_e m5
  obtain ⟨a_DATE, ev_a_DATE⟩ := exa_v n6
  have X_a_DATE := Exa.start ev_a_DATE n6
  have S_a_DATE := Sta.start ev_a_DATE (Or.inr ⟨(hw _ (List.mem_of_getElem? (i := 6) rfl)), (hw _ (List.mem_of_getElem? (i := 18) rfl))⟩)
  obtain ⟨n7, m7⟩ := and_e m6
  have F_a_DATE_ordinal := own_fldI ev_a_DATE n7
  obtain ⟨n8, m8⟩ := and_e m7
  obtain ⟨a_BOOLEAN, ev_a_BOOLEAN⟩ := exa_v n8
  have X_a_BOOLEAN := Exa.start ev_a_BOOLEAN n8
  have S_a_BOOLEAN := Sta.start ev_a_BOOLEAN (Or.inr ⟨(hw _ (List.mem_of_getElem? (i := 6) rfl)), (hw _ (List.mem_of_getElem? (i := 21) rfl))⟩)
  have F_a_BOOLEAN_ordinal := own_fldI ev_a_BOOLEAN m8
  obtain ⟨n, o, h1, h2, h3, _, L, rfl, ⟨rfl, N⟩, hq⟩ := rm0 l s _ hw tables_1 i0 a_TEXT a_INTEGER a_DECIMAL a_DATE a_BOOLEAN s.heap s.heap.size (Old.start s) ⟨S_a_TEXT, X_a_TEXT, S_a_INTEGER, X_a_INTEGER, S_a_DECIMAL, X_a_DECIMAL, S_a_DATE, X_a_DATE, S_a_BOOLEAN, X_a_BOOLEAN, F_a_TEXT_ordinal, F_a_INTEGER_ordinal, F_a_DECIMAL_ordinal, F_a_DATE_ordinal, F_a_BOOLEAN_ordinal⟩ p e ha hc hk s m _ below hf ((Spec.applies_iff_loose hf).mp happ).1 ⟨rfl, State.Warmed39.refl s, rfl⟩ trivial
  refine ⟨n, _, h1, h2, h3, hpost _ _ _ _ _ _ ⟨Cond.after_iff.mpr rfl, Cond.after_iff.mpr (eq_i res_at (Term.int_eval (1)) rfl), trivial⟩ ⟨hq.1, hq.2.1, (hq.2.2.sift fun y hy => Or.inr (N y hy)).mono (by decide) (by decide)⟩⟩
theorem main_1_1 : Claimed_1_1 := comes_1 fun _ _ _ _ _ _ h hF => ⟨h.1, hF⟩
theorem main_1_2 : Claimed_1_2 := comes_1 fun _ _ _ _ _ _ h hF => ⟨h.2.1, hF⟩
end Jvm.Pilot.@@N@@
namespace Jvm.Pilot.@@N@@
open Jvm Jvm.ClassFile Sem Op Lib Jvm.Free Jvm.Stand Jvm.Pilot.@@N@@.Jvm.D
/-! MADE BY PROGRAM (witnessworld.py) out of the Statement's table words and the real class files: 12 classes; the members and pool entries that the words name. The judged class is class 1, her method 2. -/
namespace start1
open Jvm.ClassFile
def u (s : String) : CpInfo := .utf8 (stringToUtf16 s)
/-- a pool by its gaps: so many unusable entries, then the entry; so many at the end -/
def gap : Nat → List CpInfo → List CpInfo
  | 0, r => r
  | n + 1, r => .unusable :: gap n r
def poolList (es : List (Nat × CpInfo)) (last : Nat) : List CpInfo := es.foldr (fun e r => gap e.1 (e.2 :: r)) (gap last [])
def pool (es : List (Nat × CpInfo)) (last : Nat) : Array CpInfo := ⟨poolList es last⟩
def fileOf (pool : Array CpInfo) (this : Nat) (attrs : Array Attribute := #[]) (ms : Array MethodInfo := #[]) (fl : Nat := 33) (sup : Nat := 0) (ifs : Array Nat := #[]) (fds : Array FieldInfo := #[]) : ClassFile where
  minorVersion := 0
  majorVersion := 65
  constantPool := pool
  accessFlags := fl
  thisClass := this
  superClass := sup
  interfaces := ifs
  fields := fds
  methods := ms
  attributes := attrs
def plain (name : String) (sup : Option ClassId) : Class where
  name := name
  kind := .ordinary
  loader := none
  accessFlags := 33
  super := sup
  interfaces := #[]
  cf := none
  fields := #[]
  methods := #[]
  instanceTypes := #[]
  staticTypes := #[]
  resolved := #[]
  callSites := []
  init := .initialized
  statics := none
  mirror := none

def pool0 : Array CpInfo := pool [(5, u "<init>"), (0, u "()V"), (1, .class_ 10), (1, u "java/lang/Object")] 113

def k0m0 : Method := { name := "<init>", desc := "()V", sig := { parameters := [], returnType := none }, accessFlags := 1, code := none }
/-- java/lang/Object -/
def k0 : Class := { plain "java/lang/Object" none with
  accessFlags := 33
  interfaces := #[]
  cf := some (fileOf pool0 8 #[] #[{ accessFlags := 1, nameIndex := 5, descriptorIndex := 6, attributes := #[] }] 33 0 #[] #[])
  fields := #[]
  methods := #[k0m0]
  instanceTypes := #[]
  staticTypes := #[]
  resolved := Array.replicate 124 none
  statics := none }

def pool1 : Array CpInfo := pool [(2, .class_ 4), (1, u "java/lang/Object"), (0, u "<init>"), (0, u "()V"), (0, .fieldref 8 9), (0, .class_ 10), (0, .nameAndType 11 12), (0, u "com/example/abir/abir/ColumnType"), (0, u "TEXT"), (0, u "Lcom/example/abir/abir/ColumnType;"), (0, .fieldref 8 14), (0, .nameAndType 15 12), (0, u "INTEGER"), (0, .fieldref 8 17), (0, .nameAndType 18 12), (0, u "DECIMAL"), (0, .fieldref 8 20), (0, .nameAndType 21 12), (0, u "DATE"), (0, .fieldref 8 23), (0, .nameAndType 24 12), (0, u "BOOLEAN"), (0, .integer 2147483647), (0, .methodref 27 28), (0, .class_ 29), (0, .nameAndType 30 31), (0, u "com/example/abir/abir/ColumnTypeNumericPinLaw"), (0, u "pick"), (0, u "(I)Lcom/example/abir/abir/ColumnType;"), (0, .methodref 8 33), (0, .nameAndType 34 35), (0, u "numeric"), (0, u "()Z"), (3, u "law"), (0, u "(I)Z")] 2

def k1m0 : Method := { name := "<init>", desc := "()V", sig := { parameters := [], returnType := none }, accessFlags := 2, code := none }
def k1c1 : Code := { maxStack := 2, maxLocals := 1, code := method_2_code, exceptionTable := #[], attributes := #[] }
def k1m1 : Method := { name := "pick", desc := "(I)Lcom/example/abir/abir/ColumnType;", sig := { parameters := [.int], returnType := some (.object "com/example/abir/abir/ColumnType") }, accessFlags := 10, code := some k1c1 }
def k1c2 : Code := { maxStack := 2, maxLocals := 4, code := code, exceptionTable := #[], attributes := #[] }
def k1m2 : Method := { name := "law", desc := "(I)Z", sig := { parameters := [.int], returnType := some .boolean }, accessFlags := 9, code := some k1c2 }
/-- com/example/abir/abir/ColumnTypeNumericPinLaw -/
def k1 : Class := { plain "com/example/abir/abir/ColumnTypeNumericPinLaw" (some 0) with
  accessFlags := 49
  interfaces := #[]
  cf := some (fileOf pool1 27 #[] #[{ accessFlags := 2, nameIndex := 5, descriptorIndex := 6, attributes := #[] }, { accessFlags := 10, nameIndex := 30, descriptorIndex := 31, attributes := #[] }, { accessFlags := 9, nameIndex := 39, descriptorIndex := 40, attributes := #[] }] 49 2 #[] #[])
  fields := #[]
  methods := #[k1m0, k1m1, k1m2]
  instanceTypes := #[]
  staticTypes := #[]
  resolved := Array.replicate 43 none
  statics := none }

def pool2 : Array CpInfo := pool [(1, .class_ 2), (0, u "java/lang/constant/Constable"), (0, .class_ 4), (0, u "java/lang/Object")] 6

/-- java/lang/constant/Constable -/
def k2 : Class := { plain "java/lang/constant/Constable" (some 0) with
  accessFlags := 1537
  interfaces := #[]
  cf := some (fileOf pool2 1 #[] #[] 1537 3 #[] #[])
  fields := #[]
  methods := #[]
  instanceTypes := #[]
  staticTypes := #[]
  resolved := Array.replicate 11 none
  statics := none }

def pool3 : Array CpInfo := pool [(1, .class_ 2), (0, u "java/lang/Comparable"), (0, .class_ 4), (0, u "java/lang/Object")] 7

/-- java/lang/Comparable -/
def k3 : Class := { plain "java/lang/Comparable" (some 0) with
  accessFlags := 1537
  interfaces := #[]
  cf := some (fileOf pool3 1 #[] #[] 1537 3 #[] #[])
  fields := #[]
  methods := #[]
  instanceTypes := #[]
  staticTypes := #[]
  resolved := Array.replicate 12 none
  statics := none }

def pool4 : Array CpInfo := pool [(1, .class_ 2), (0, u "java/io/Serializable"), (0, .class_ 4), (0, u "java/lang/Object")] 2

/-- java/io/Serializable -/
def k4 : Class := { plain "java/io/Serializable" (some 0) with
  accessFlags := 1537
  interfaces := #[]
  cf := some (fileOf pool4 1 #[] #[] 1537 3 #[] #[])
  fields := #[]
  methods := #[]
  instanceTypes := #[]
  staticTypes := #[]
  resolved := Array.replicate 7 none
  statics := none }

def pool5 : Array CpInfo := pool [(2, .class_ 4), (1, u "java/lang/Enum"), (0, u "name"), (0, u "Ljava/lang/String;"), (2, u "ordinal"), (0, u "I"), (1, .class_ 14), (1, u "java/lang/Object"), (4, u "hash"), (86, .class_ 108), (1, u "java/lang/Enum$EnumDesc"), (2, .class_ 112), (0, u "java/lang/constant/Constable"), (0, .class_ 114), (0, u "java/lang/Comparable"), (0, .class_ 116), (0, u "java/io/Serializable")] 87

/-- java/lang/Enum -/
def k5 : Class := { plain "java/lang/Enum" (some 0) with
  accessFlags := 1057
  interfaces := #[2, 3, 4]
  cf := some (fileOf pool5 2 #[.nestMembers #[106]] #[] 1057 12 #[111, 113, 115] #[{ accessFlags := 18, nameIndex := 5, descriptorIndex := 6, attributes := #[] }, { accessFlags := 18, nameIndex := 9, descriptorIndex := 10, attributes := #[] }, { accessFlags := 2, nameIndex := 19, descriptorIndex := 10, attributes := #[] }])
  fields := #[{ name := "name", type := (.object "java/lang/String"), accessFlags := 18, slot := 0, constantValue := 0 }, { name := "ordinal", type := .int, accessFlags := 18, slot := 1, constantValue := 0 }, { name := "hash", type := .int, accessFlags := 2, slot := 2, constantValue := 0 }]
  methods := #[]
  instanceTypes := #[(.object "java/lang/String"), .int, .int]
  staticTypes := #[]
  resolved := Array.replicate 204 none
  statics := none }

def pool6 : Array CpInfo := pool [(1, .class_ 2), (0, u "com/example/abir/abir/ColumnType"), (2, u "TEXT"), (0, u "Lcom/example/abir/abir/ColumnType;"), (0, .fieldref 1 8), (0, .nameAndType 9 6), (0, u "INTEGER"), (0, .fieldref 1 11), (0, .nameAndType 12 6), (0, u "DECIMAL"), (2, u "DATE"), (2, u "BOOLEAN"), (2, u "$VALUES"), (0, u "[Lcom/example/abir/abir/ColumnType;"), (6, .class_ 31), (1, u "java/lang/Enum"), (8, u "typeName"), (0, u "Ljava/lang/String;"), (211, u "()Z"), (19, u "MAX_DECIMAL_INTEGER_DIGITS"), (0, u "I"), (2, u "MAX_DECIMAL_FRACTION_DIGITS"), (1, u "DIRECT_DIGITS"), (1, u "NO_SUCH_DATE"), (5, u "numeric")] 45

def k6c0 : Code := { maxStack := 2, maxLocals := 1, code := prog_4_method_5_code, exceptionTable := #[], attributes := #[] }
def k6m0 : Method := { name := "numeric", desc := "()Z", sig := { parameters := [], returnType := some .boolean }, accessFlags := 1, code := some k6c0 }
/-- com/example/abir/abir/ColumnType -/
def k6 : Class := { plain "com/example/abir/abir/ColumnType" (some 5) with
  accessFlags := 16433
  interfaces := #[]
  cf := some (fileOf pool6 1 #[] #[{ accessFlags := 1, nameIndex := 287, descriptorIndex := 253, attributes := #[] }] 16433 29 #[] #[{ accessFlags := 16409, nameIndex := 5, descriptorIndex := 6, attributes := #[] }, { accessFlags := 16409, nameIndex := 9, descriptorIndex := 6, attributes := #[] }, { accessFlags := 16409, nameIndex := 12, descriptorIndex := 6, attributes := #[] }, { accessFlags := 16409, nameIndex := 15, descriptorIndex := 6, attributes := #[] }, { accessFlags := 16409, nameIndex := 18, descriptorIndex := 6, attributes := #[] }, { accessFlags := 26, nameIndex := 273, descriptorIndex := 274, attributes := #[] }, { accessFlags := 26, nameIndex := 277, descriptorIndex := 274, attributes := #[] }, { accessFlags := 26, nameIndex := 279, descriptorIndex := 274, attributes := #[] }, { accessFlags := 26, nameIndex := 281, descriptorIndex := 41, attributes := #[] }, { accessFlags := 18, nameIndex := 40, descriptorIndex := 41, attributes := #[] }, { accessFlags := 4122, nameIndex := 21, descriptorIndex := 22, attributes := #[] }])
  fields := #[{ name := "TEXT", type := (.object "com/example/abir/abir/ColumnType"), accessFlags := 16409, slot := 0, constantValue := 0 }, { name := "INTEGER", type := (.object "com/example/abir/abir/ColumnType"), accessFlags := 16409, slot := 1, constantValue := 0 }, { name := "DECIMAL", type := (.object "com/example/abir/abir/ColumnType"), accessFlags := 16409, slot := 2, constantValue := 0 }, { name := "DATE", type := (.object "com/example/abir/abir/ColumnType"), accessFlags := 16409, slot := 3, constantValue := 0 }, { name := "BOOLEAN", type := (.object "com/example/abir/abir/ColumnType"), accessFlags := 16409, slot := 4, constantValue := 0 }, { name := "MAX_DECIMAL_INTEGER_DIGITS", type := .int, accessFlags := 26, slot := 5, constantValue := 0 }, { name := "MAX_DECIMAL_FRACTION_DIGITS", type := .int, accessFlags := 26, slot := 6, constantValue := 0 }, { name := "DIRECT_DIGITS", type := .int, accessFlags := 26, slot := 7, constantValue := 0 }, { name := "NO_SUCH_DATE", type := (.object "java/lang/String"), accessFlags := 26, slot := 8, constantValue := 0 }, { name := "typeName", type := (.object "java/lang/String"), accessFlags := 18, slot := 3, constantValue := 0 }, { name := "$VALUES", type := (.array (.object "com/example/abir/abir/ColumnType")), accessFlags := 4122, slot := 9, constantValue := 0 }]
  methods := #[k6m0]
  instanceTypes := #[(.object "java/lang/String"), .int, .int, (.object "java/lang/String")]
  staticTypes := #[(.object "com/example/abir/abir/ColumnType"), (.object "com/example/abir/abir/ColumnType"), (.object "com/example/abir/abir/ColumnType"), (.object "com/example/abir/abir/ColumnType"), (.object "com/example/abir/abir/ColumnType"), .int, .int, .int, (.object "java/lang/String"), (.array (.object "com/example/abir/abir/ColumnType"))]
  resolved := Array.replicate 333 none
  statics := some 0 }

def pool7 : Array CpInfo := pool [(1, u "java/lang/Cloneable"), (0, .class_ 1), (0, u "java/lang/Object"), (0, .class_ 3)] 3

/-- java/lang/Cloneable -/
def k7 : Class := { plain "java/lang/Cloneable" (some 0) with
  accessFlags := 1537
  interfaces := #[]
  cf := some (fileOf pool7 2 #[] #[] 1537 4 #[] #[])
  fields := #[]
  methods := #[]
  instanceTypes := #[]
  staticTypes := #[]
  resolved := Array.replicate 8 none
  statics := none }

/-- the primitive byte -/
def k8 : Class := { plain "byte" none with kind := .primitive 'B', accessFlags := 0x411 }
/-- [B -/
def k9 : Class := { plain "[B" (some 0) with kind := .array 8 .byte, interfaces := #[7, 4], accessFlags := 1041 }

/-- the primitive int -/
def k10 : Class := { plain "int" none with kind := .primitive 'I', accessFlags := 0x411 }
/-- [I -/
def k11 : Class := { plain "[I" (some 0) with kind := .array 10 .int, interfaces := #[7, 4], accessFlags := 1041 }

def heap : Heap := #[{ cls := 6, slots := #[.ref 1, .ref 2, .ref 3, .ref 4, .ref 5, .int 0, .int 0, .int 0, .null, .null], vm := .statics 6 },
  { cls := 6, slots := #[.null, .int 0, .int 0, .null], vm := .none },
  { cls := 6, slots := #[.null, .int 1, .int 0, .null], vm := .none },
  { cls := 6, slots := #[.null, .int 2, .int 0, .null], vm := .none },
  { cls := 6, slots := #[.null, .int 3, .int 0, .null], vm := .none },
  { cls := 6, slots := #[.null, .int 4, .int 0, .null], vm := .none }]
def classes : Array Class := #[k0, k1, k2, k3, k4, k5, k6, k7, k8, k9, k10, k11]
def interned : List (Array UInt16 × Addr) := []
def slotsUsed : Nat := 30
def theMethod : MethodId := ⟨1, 2⟩
def args0 : Array Value := #[.int 5]
def aboutOver (below : List Frame) : State where
  vm := { classes := classes, interned := interned.toArray }
  heap := heap
  slotsUsed := slotsUsed
  threads := #[{ frames := .invoking theMethod args0 :: below }]
def below0 : List Frame := [.native { method := ⟨0, 0⟩, args := #[] }]
def about1 : State := aboutOver below0
def p0 : Program := .bare "" "" ""
def e0 : Env := launch0.env 0 0 0
theorem w_frames : about1.frames = Frame.invoking theMethod args0 :: below0 := rfl
set_option maxRecDepth 65536 in
theorem w_args : argsFit about1.vm theMethod args0 = true := by decide +kernel
set_option maxRecDepth 65536 in
theorem w_heap : heapFits about1 = true := by decide +kernel
set_option maxRecDepth 65536 in
theorem w_runnable : about1.curStatus? = some .runnable := by decide +kernel
set_option maxRecDepth 65536 in
theorem w_alone : about1.alone = true := by decide +kernel
set_option maxRecDepth 65536 in
theorem w_named : about1.methodNamed? x = some theMethod := by decide +kernel
set_option maxRecDepth 65536 in
theorem w_hears : about1.hears theMethod below0 = true := by decide +kernel
set_option maxRecDepth 65536 in
theorem w_ripe : about1.ripe theMethod args0 below0 = true := by decide +kernel
theorem w_running : about1.status = .running := rfl
set_option maxRecDepth 65536 in
theorem w_room : about1.hasRoom e0.platform room_1 = true :=
  launch0.hasRoom_least _ room_1 (by decide +kernel) (by decide +kernel) (by decide +kernel) (by decide +kernel) (by decide +kernel) (by decide +kernel)
theorem allAtoms_all (ts : List Jvm.Cond) (a : Array Jvm.Value) (st : Jvm.State) : (allAtoms ts).before a st = ts.all (fun c => c.before a st) := by
  induction ts with
  | nil => rfl
  | cons c t ih =>
    show (Jvm.Cond.and c (allAtoms t)).before a st = _
    rw [Jvm.Cond.before_and, ih, List.all_cons]
def words1 : List Jvm.Cond := Jvm.Cond.code x code maxLocals ret :: tables_1
/-- a 'code' word, met by the world's own term for the bytes: nothing is compared byte by byte -/
theorem code_word {y : MethodName} {bytes : ByteArray} {mx : Nat} {rt : Option FieldType} {a : Array Value} {s : State} {m : MethodId} {meth : Method} {c : Code} (h1 : s.methodNamed? y = some m) (h2 : s.vm.method? m = some meth) (h3 : meth.code = some c) (h4 : c.code = bytes)
    (h5 : (c.maxLocals == mx && c.exceptionTable.isEmpty && decide (c.maxStack ≤ mostOperands) && decide (meth.sig.returnType = rt) && !meth.locks && decide (parseMethodDescriptor y.desc = some meth.sig)) = true) : (Jvm.Cond.code y bytes mx rt).before a s = true := by
  simp only [Bool.and_eq_true, beq_iff_eq, Bool.not_eq_true', decide_eq_true_eq] at h5
  obtain ⟨⟨⟨⟨⟨g1, g2⟩, g3⟩, g4⟩, g5⟩, g6⟩ := h5
  simp [Cond.before, Cond.holds, Cond.value, h1, h2, h3, h4, g1, g2, g3, g4, g5, g6]
def isCode : Jvm.Cond → Bool
  | .code _ _ _ _ => true
  | _ => false
theorem all_split {L : List Jvm.Cond} {P : Jvm.Cond → Bool} (h1 : L.all (fun c => isCode c || P c) = true) (h2 : ∀ c ∈ L.filter isCode, P c = true) : L.all P = true := by
  refine List.all_eq_true.mpr fun c hc => ?_
  have h := List.all_eq_true.mp h1 c hc
  rcases Bool.eq_false_or_eq_true (isCode c) with hi | hi
  · exact h2 c (List.mem_filter.mpr ⟨hc, hi⟩)
  · simpa [hi] using h
set_option maxRecDepth 65536 in
theorem w_c0 : (Jvm.Cond.code x code maxLocals ret).before args0 about1 = true := code_word (m := ⟨1, 2⟩) (meth := k1m2) (c := k1c2) (by decide +kernel) rfl rfl rfl (by decide +kernel)
set_option maxRecDepth 65536 in
theorem w_c1 : (Jvm.Cond.code ({ cls := "com/example/abir/abir/ColumnTypeNumericPinLaw", name := "pick", desc := "(I)Lcom/example/abir/abir/ColumnType;" } : Jvm.MethodName) method_2_code (1 : Nat) (Option.some (Jvm.ClassFile.FieldType.object "com/example/abir/abir/ColumnType"))).before args0 about1 = true := code_word (m := ⟨1, 1⟩) (meth := k1m1) (c := k1c1) (by decide +kernel) rfl rfl rfl (by decide +kernel)
set_option maxRecDepth 65536 in
theorem w_c2 : (Jvm.Cond.code ({ cls := "com/example/abir/abir/ColumnType", name := "numeric", desc := "()Z" } : Jvm.MethodName) prog_4_method_5_code (1 : Nat) (Option.some Jvm.ClassFile.FieldType.boolean)).before args0 about1 = true := code_word (m := ⟨6, 0⟩) (meth := k6m0) (c := k6c0) (by decide +kernel) rfl rfl rfl (by decide +kernel)
def codes1 : List Jvm.Cond := [Jvm.Cond.code x code maxLocals ret, Jvm.Cond.code ({ cls := "com/example/abir/abir/ColumnTypeNumericPinLaw", name := "pick", desc := "(I)Lcom/example/abir/abir/ColumnType;" } : Jvm.MethodName) method_2_code (1 : Nat) (Option.some (Jvm.ClassFile.FieldType.object "com/example/abir/abir/ColumnType")), Jvm.Cond.code ({ cls := "com/example/abir/abir/ColumnType", name := "numeric", desc := "()Z" } : Jvm.MethodName) prog_4_method_5_code (1 : Nat) (Option.some Jvm.ClassFile.FieldType.boolean)]
set_option maxRecDepth 65536 in
theorem codes_eq : words1.filter isCode = codes1 := rfl
theorem w_codes : ∀ c ∈ words1.filter isCode, c.before args0 about1 = true := by
  rw [codes_eq]
  intro c hc
  simp only [codes1, List.mem_cons, List.not_mem_nil, or_false] at hc
  rcases hc with rfl | rfl | rfl
  · exact w_c0
  · exact w_c1
  · exact w_c2
set_option maxRecDepth 65536 in
theorem w_t1 : words1.all (fun c => isCode c || c.before args0 about1) = true := by decide +kernel
theorem w_tables : (allAtoms (Jvm.Cond.code x code maxLocals ret :: tables_1)).before args0 about1 = true := by
  rw [allAtoms_all]
  show words1.all (fun c => c.before args0 about1) = true
  refine all_split ?_ w_codes
  rw [w_t1]
set_option maxRecDepth 65536 in
theorem w_case : (Jvm.Cond.and given_1 narrow_1).before args0 about1 = true := by decide +kernel
theorem w_applies : (headSpec (Jvm.Cond.code x code maxLocals ret :: tables_1) room_1).applies x e0.platform about1 = true :=
  (Spec.applies_iff w_frames).mpr ⟨w_running, w_runnable, w_alone, w_named, w_hears, w_ripe, w_room, w_tables⟩
theorem atStart : AtStart classFile x code maxLocals ret World_1 tables_1 room_1 Calls_1 rest_1 Pre_1 launch0 p0 e0 about1 theMethod args0 below0 :=
  ⟨lists_1, trivial, launch0.admits_env _ _ _, launch0.least_env, fairChoices_fair.cas, fairChoices_fair.clock, w_frames, w_args, w_heap, w_applies, trivial, trivial, w_case⟩
end start1
theorem witness_1 : WitnessClaimed_1 := ⟨start1.p0, start1.e0, start1.about1, start1.theMethod, start1.args0, start1.below0, start1.atStart⟩
end Jvm.Pilot.@@N@@
